import PyProof.Rows.All
import Wide.All
import OpenK.AllK
import Wide.FinOn
import Lean
import PySem.Challenge.RW_tl0051_01
open PySem PySem.W PyProof.Rows
set_option Elab.async false
set_option maxRecDepth 100000
-- part HN
section
set_option maxHeartbeats 8000000
namespace Mine
noncomputable def vw : Program := view PySem.Challenge.pw_tl0051_01 [0, 32]
noncomputable def lo : List Str := ["_wall", "Whitespace", "add", "floordiv", "mul", "sub", "concat", "contains", "ipow", "tspecials", "_name_disallowed_re", "_value_disallowed_re", "_formatparam", "Headers", "_law_drawn", "_law_board", "_law_runs", "_law_lead", "_law_apart", "_law_book", "_law_told", "_law_due", "_law_placed", "_law_product", "_law_ways", "_law_boards", "_law_holds"]
/- The fragment of the heap that the walk reads: k_head writes it down as frag.heap_1. The statement below is idle by itself; the head is proved further down, by hand. -/
section
local macro_rules | `(tactic| o_head $H) => `(tactic| exact (‹∀ _ : Hook, PySem.Challenge.rw_tl0051_01.row.Holds› $H))
theorem frag (h : ∀ _ : Hook, PySem.Challenge.rw_tl0051_01.row.Holds) : PySem.Challenge.rw_tl0051_01.row.Holds := by
  k_head
end
def objs : List Addr := [2, 3, 32, 34, 35, 37, 38, 49, 51, 52, 54, 55, 56, 58, 59, 61, 62, 63, 65, 66, 68, 69, 70, 72, 73, 75, 76, 77, 79, 80, 82, 83, 84, 86, 87, 89, 90, 91, 93, 94, 96, 97, 98, 99, 100, 101, 102, 105, 107, 108, 110, 111, 112, 114, 115, 117, 118, 119, 121, 122, 124, 125, 126, 128, 129, 131, 132, 133, 135, 136, 138, 139, 140, 142, 143, 145, 146, 147, 149, 150, 152, 153, 157, 158, 162, 163, 167, 168, 169, 170, 172, 173, 175, 176, 184, 185, 187, 188, 190, 191, 192, 194, 195, 197, 198, 199, 201, 202, 204, 205, 206, 208, 209, 211, 212, 213, 216, 217, 218, 220, 221, 223, 224, 225, 227, 228, 230, 231, 232, 235, 236, 237, 238, 240, 241, 243, 244, 245, 248, 249, 250, 253, 254, 255, 257, 258, 260, 261, 262, 264, 265, 267, 268, 269, 272, 273, 274, 276, 277, 279, 280, 281, 283, 284, 286, 287, 288, 290, 291, 293, 294, 295, 296, 297, 298, 299, 302, 304, 305, 307, 308, 309, 311, 312, 314, 315, 316, 319, 320, 321, 324, 325, 326, 328, 329, 331, 332, 333, 335, 336, 338, 339, 340, 343, 344, 345, 348, 349, 350, 352, 353, 355, 356, 357, 359, 360, 362, 363, 364, 366, 367, 369, 370, 371, 374, 375, 376, 378, 379, 381, 382, 383, 386, 387]
theorem objs_ok (P : Params) : objs = (frag.heap_1 P).map (·.1) := by kernel_rfl
noncomputable def rn (p : Program) (b : Bool) (w : World) := (openEnds treeTable p (w.withFollow "special-get-raises" b) 4448).map (fun s => (openSeen (view p [0, 32]) lo (importedModules p.main.body) (fun s => xlAt (view p [0, 32]) [] s && recOk [] s) true s, objs.map s.heap.get?))
theorem rnF (w : World) : rn PySem.Challenge.pw_tl0051_01 false w = some (openGood vw lo, (frag.heap_1 (w.withFollow "special-get-raises" false).params).map fun p => some p.2) := by
  unfold rn openEnds fencedOpening topFrom
  rw [PySem.W.Fast.te14364793385576792824, PySem.W.Fast.te10274390034422433532, PySem.W.Fast.te1435165496053646825, PySem.W.Fast.te14289696077712309145, PySem.W.Fast.te14082659384304107361, PySem.W.Fast.te4187177175401517315, PySem.W.Fast.te8920871248978507458]
  kernel_rfl
theorem rnT (w : World) : rn PySem.Challenge.pw_tl0051_01 true w = some (openGood vw lo, (frag.heap_1 (w.withFollow "special-get-raises" true).params).map fun p => some p.2) := by
  unfold rn openEnds fencedOpening topFrom
  rw [PySem.W.Fast.te14364793385576792824, PySem.W.Fast.te10274390034422433532, PySem.W.Fast.te1435165496053646825, PySem.W.Fast.te14289696077712309145, PySem.W.Fast.te14082659384304107361, PySem.W.Fast.te4187177175401517315, PySem.W.Fast.te8920871248978507458]
  kernel_rfl
noncomputable abbrev hk : Hook := kHook frag.heap_1 objs objs_ok
theorem left : LeftO PySem.Challenge.pw_tl0051_01 vw lo (fun s => xlAt vw [] s && recOk [] s) (Hook.obs hk) (Hook.val hk) 4448 :=
  byRow2 "special-get-raises" rnF rnT
theorem law_some : (defOf vw "law").isSome = true := by kernel_rfl
noncomputable def lawD : DefRec × List (Str × Expr) := (defOf vw "law").get law_some
theorem law_def : defOf vw "law" = some (lawD.1, lawD.2) := (Option.some_get law_some).symm
theorem said : PySem.Challenge.rw_tl0051_01.wellSaid = true := by
  rw [PySem.W.Fast.te9446332074065402090]
  kernel_rfl
theorem hd (walk : WalkO vw lo (XL vw []) hk.says PySem.Challenge.rw_tl0051_01.row.toRowW lawD.1 lawD.2 fun f vs => PySem.call f vs) : PySem.Challenge.rw_tl0051_01.Holds := by
  refine holds_law said fun said' => ?_
  exact holds_open (r := PySem.Challenge.rw_tl0051_01.row) (q := vw) (loose := lo) (Xt := fun s => xlAt vw [] s && recOk [] s) (XP := XL vw []) (Yf := Hook.obs hk) (Ya := Hook.val hk) (YP := hk.says) (d := lawD.1) (kwd := lawD.2) (N := 4448)
    left (Hook.of hk) (Hook.keeps hk) (fun s e => xl_of s (Bool.and_eq_true_iff.mp e).1) XL.keeps law_def (by kernel_rfl) (by kernel_rfl) (fun s e => recFacts_of (Bool.and_eq_true_iff.mp e).2) (by rfl) (by assumption) (by decide +kernel) ⟨rfl, rfl, rfl, rfl, rfl, by decide +kernel⟩ (by w_witness2) walk
end Mine
end
-- part F1
section
namespace Mine

inductive Ty where
  | str | int | list
def Ty.nm : Ty → String
  | .str => "str" | .int => "int" | .list => "list"

/-- a value as the evaluator sees it: frozen lists and tuples are trees, `obj` and `inst` point into the ledger -/
inductive AV where
  | unb | none | bool (b : Bool) | int (i : Int) (n : Nat) | str (s : List Nat)
  | ty (t : Ty) | top (a : Nat) | edict | eitems
  | rng (a b st : Int)
  | list (xs : List AV) | tup (xs : List AV) | inst (C : Nat) (k : Nat) | finst (C : Nat) (fs : List (Nat × AV)) | obj (k : Nat)

/-- a mutable object of the ledger -/
inductive AO where
  | list (xs : List AV) | ns (fs : List (Nat × AV)) | map (es : List (List Nat × AV))

structure Cf where
  pi : List Addr
  fz : Addr → Prop

def attrNm : Nat → Str
  | 0 => "raw" | 1 => "n" | 2 => "nt" | 3 => "norm" | 4 => "is_simple" | _ => "_headers"

def fget : List (Nat × AV) → Nat → Option AV
  | [], _ => none
  | (k, v) :: r, j => if k = j then some v else fget r j
def fset : List (Nat × AV) → Nat → AV → List (Nat × AV)
  | [], j, x => [(j, x)]
  | (k, v) :: r, j, x => if k = j then (k, x) :: r else (k, v) :: fset r j x
def mget : List (List Nat × AV) → List Nat → Option AV
  | [], _ => none
  | (k, v) :: r, j => if k = j then some v else mget r j

mutual
inductive VR (c : Cf) (h : Heap) : AV → Value → Prop
  | none : VR c h .none .none
  | bool (b : Bool) : VR c h (.bool b) (.bool b)
  | int {i : Int} {n : Nat} {t : Tok} : i.natAbs < 2 ^ n → VR c h (.int i n) (.int i t)
  | str {s : List Nat} {t : Tok} : VR c h (.str s) (.str ⟨s.toArray⟩ t)
  | ty (t : Ty) : VR c h (.ty t) (.type t.nm)
  | top (a : Nat) : VR c h (.top a) (.ref a)
  | edict {a ep} : (a == sysModules) = false → c.fz a → h.get? a = some { cls := .type "dict", data := .dict #[] ep } → VR c h .edict (.ref a)
  | eitems {a d ep} : c.fz a → c.fz d → h.IsItemsView a d → h.get? d = some { cls := .type "dict", data := .dict #[] ep } → VR c h .eitems (.ref a)
  | rng {x y st : Int} {a : Addr} {t1 t2 t3 : Tok} : c.fz a → IsRange h a x y st t1 t2 t3 → VR c h (.rng x y st) (.ref a)
  | list {xs : List AV} {vs : List Value} {a : Addr} : c.fz a → h.IsList a vs.toArray → VRs c h xs vs → VR c h (.list xs) (.ref a)
  | tup {xs : List AV} {vs : List Value} {a : Addr} : c.fz a → IsTup h a vs.toArray → VRs c h xs vs → VR c h (.tup xs) (.ref a)
  | obj {k : Nat} {a : Addr} : c.pi[k]? = some a → VR c h (.obj k) (.ref a)
  | inst {C k : Nat} {a d : Addr} : c.fz a → h.get? a = some (instObj C d) → c.pi[k]? = some d → VR c h (.inst C k) (.ref a)
  | finst {C : Nat} {fs : List (Nat × AV)} {a d : Addr} {es : List DictEntry} {n : Nat} : c.fz a → c.fz d → h.get? a = some (instObj C d) → h.get? d = some (dictOf es n) → VRf c h fs es → VR c h (.finst C fs) (.ref a)
inductive VRs (c : Cf) (h : Heap) : List AV → List Value → Prop
  | nil : VRs c h [] []
  | cons {x : AV} {v : Value} {xs : List AV} {vs : List Value} : VR c h x v → VRs c h xs vs → VRs c h (x :: xs) (v :: vs)
inductive VRf (c : Cf) (h : Heap) : List (Nat × AV) → List DictEntry → Prop
  | nil : VRf c h [] []
  | cons {k : Nat} {x : AV} {v : Value} {r : List (Nat × AV)} {es : List DictEntry} {hash : Int} {t : Tok} : k ≤ 5 → VR c h x v → VRf c h r es → VRf c h ((k, x) :: r) (⟨hash, .str (attrNm k) t, v⟩ :: es)
end

structure Step (own : List Addr) (c : Cf) (s : Shared) (c' : Cf) (s' : Shared) : Prop where
  sh : ∃ h' tk, s' = { s with heap := h', toks := tk }
  keep : ∀ b o, s.heap.get? b = some o → b ∉ c.pi → b ∉ own → s'.heap.get? b = some o
  live : ∀ b o, s.heap.get? b = some o → ∃ o', s'.heap.get? b = some o'
  pi : ∃ l, c'.pi = c.pi ++ l ∧ ∀ a ∈ l, s.heap.get? a = none
  fz : ∀ a, c.fz a → c'.fz a
  fzn : ∀ a, c'.fz a → c.fz a ∨ s.heap.get? a = none

theorem Step.refl (own : List Addr) (c : Cf) (s : Shared) : Step own c s c s :=
  ⟨⟨_, _, rfl⟩, fun _ _ e _ _ => e, fun _ o e => ⟨o, e⟩, ⟨[], by simp, by simp⟩, fun _ x => x, fun _ x => .inl x⟩
theorem dead_of {own : List Addr} {c : Cf} {s : Shared} {c' : Cf} {s' : Shared} (x : Step own c s c' s') {a : Addr} (h : s'.heap.get? a = none) : s.heap.get? a = none := by
  cases q : s.heap.get? a with
  | none => rfl
  | some o => obtain ⟨o', e⟩ := x.live a o q; rw [h] at e; cases e
theorem Step.trans {own : List Addr} {c c' c'' : Cf} {s s' s'' : Shared} (x : Step own c s c' s') (y : Step own c' s' c'' s'') : Step own c s c'' s'' := by
  obtain ⟨h1, t1, rfl⟩ := x.sh
  obtain ⟨h2, t2, rfl⟩ := y.sh
  obtain ⟨l1, e1, n1⟩ := x.pi
  obtain ⟨l2, e2, n2⟩ := y.pi
  refine ⟨⟨_, _, rfl⟩, fun b o e hp ho => y.keep b o (x.keep b o e hp ho) (fun hm => ?_) ho, fun b o e => ?_, ⟨l1 ++ l2, by rw [e2, e1, List.append_assoc], fun a ha => ?_⟩, fun a q => y.fz a (x.fz a q), fun a q => ?_⟩
  · rw [e1] at hm
    rcases List.mem_append.mp hm with q | q
    · exact hp q
    · rw [n1 b q] at e; cases e
  · obtain ⟨o', e'⟩ := x.live b o e; exact y.live b o' e'
  · rcases List.mem_append.mp ha with q | q
    · exact n1 a q
    · exact dead_of x (n2 a q)
  · rcases y.fzn a q with q | q
    · exact x.fzn a q
    · exact .inr (dead_of x q)
theorem Step.weaken {own own' : List Addr} {c c' : Cf} {s s' : Shared} (x : Step own c s c' s') (h : ∀ a ∈ own, a ∈ own') : Step own' c s c' s' :=
  ⟨x.sh, fun b o e hp ho => x.keep b o e hp fun q => ho (h b q), x.live, x.pi, x.fz, x.fzn⟩
theorem Step.widen {own : List Addr} {c c' : Cf} {s s' : Shared} (x : Step [] c s c' s') : Step own c s c' s' := x.weaken (by simp)
theorem Step.at {own : List Addr} {c c' : Cf} {s s' : Shared} (x : Step own c s c' s') {k : Nat} {a : Addr} (h : c.pi[k]? = some a) : c'.pi[k]? = some a := by
  obtain ⟨l, e, _⟩ := x.pi
  rw [e]
  obtain ⟨hk, _⟩ := List.getElem?_eq_some_iff.mp h
  rw [List.getElem?_append_left hk]; exact h

/-- what the frozen part keeps -/
structure Kept (c : Cf) (h : Heap) (c' : Cf) (h' : Heap) : Prop where
  get : ∀ a o, c.fz a → h.get? a = some o → h'.get? a = some o
  fz : ∀ a, c.fz a → c'.fz a
  pi : ∀ (k : Nat) a, c.pi[k]? = some a → c'.pi[k]? = some a
theorem Kept.refl (c : Cf) (h : Heap) : Kept c h c h := ⟨fun _ _ _ e => e, fun _ x => x, fun _ _ e => e⟩
theorem isList_kept {c c' : Cf} {h h' : Heap} (K : Kept c h c' h') {a : Addr} {vs : Array Value} (f : c.fz a) (x : h.IsList a vs) : h'.IsList a vs :=
  let ⟨o, e, r⟩ := x; ⟨o, K.get a o f e, r⟩
theorem isTup_kept {c c' : Cf} {h h' : Heap} (K : Kept c h c' h') {a : Addr} {vs : Array Value} (f : c.fz a) (x : IsTup h a vs) : IsTup h' a vs :=
  let ⟨o, e, r⟩ := x; ⟨o, K.get a o f e, r⟩
mutual
theorem VR.kept {c c' : Cf} {h h' : Heap} (K : Kept c h c' h') : ∀ {v : AV} {u : Value}, VR c h v u → VR c' h' v u
  | _, _, .none => .none
  | _, _, .bool b => .bool b
  | _, _, .int e => .int e
  | _, _, .str => .str
  | _, _, .ty t => .ty t
  | _, _, .top a => .top a
  | _, _, .edict n f e => .edict n (K.fz _ f) (K.get _ _ f e)
  | _, _, .eitems f g e k => .eitems (K.fz _ f) (K.fz _ g) (let ⟨o, x, r⟩ := e; ⟨o, K.get _ _ f x, r⟩) (K.get _ _ g k)
  | _, _, .rng f e => .rng (K.fz _ f) (K.get _ _ f e)
  | _, _, .list f l r => .list (K.fz _ f) (isList_kept K f l) (VRs.kept K r)
  | _, _, .tup f l r => .tup (K.fz _ f) (isTup_kept K f l) (VRs.kept K r)
  | _, _, .obj e => .obj (K.pi _ _ e)
  | _, _, .inst f e p => .inst (K.fz _ f) (K.get _ _ f e) (K.pi _ _ p)
  | _, _, .finst f g e n r => .finst (K.fz _ f) (K.fz _ g) (K.get _ _ f e) (K.get _ _ g n) (VRf.kept K r)
theorem VRs.kept {c c' : Cf} {h h' : Heap} (K : Kept c h c' h') : ∀ {xs : List AV} {vs : List Value}, VRs c h xs vs → VRs c' h' xs vs
  | _, _, .nil => .nil
  | _, _, .cons x r => .cons (VR.kept K x) (VRs.kept K r)
theorem VRf.kept {c c' : Cf} {h h' : Heap} (K : Kept c h c' h') : ∀ {fs : List (Nat × AV)} {es : List DictEntry}, VRf c h fs es → VRf c' h' fs es
  | _, _, .nil => .nil
  | _, _, .cons b x r => .cons b (VR.kept K x) (VRf.kept K r)
end

theorem VR.intI {c : Cf} {h : Heap} {i : Int} {n : Nat} {u : Value} (x : VR c h (.int i n) u) : ∃ t, u = .int i t ∧ i.natAbs < 2 ^ n := by
  cases x with
  | int e => exact ⟨_, rfl, e⟩
theorem VR.strI {c : Cf} {h : Heap} {s : List Nat} {u : Value} (x : VR c h (.str s) u) : ∃ t, u = .str ⟨s.toArray⟩ t := by
  cases x
  exact ⟨_, rfl⟩
theorem VR.boolI {c : Cf} {h : Heap} {b : Bool} {u : Value} (x : VR c h (.bool b) u) : u = .bool b := by
  cases x
  rfl
theorem VR.noneI {c : Cf} {h : Heap} {u : Value} (x : VR c h .none u) : u = .none := by
  cases x
  rfl
theorem VR.tyI {c : Cf} {h : Heap} {t : Ty} {u : Value} (x : VR c h (.ty t) u) : u = .type t.nm := by
  cases x
  rfl
theorem VR.topI {c : Cf} {h : Heap} {a : Nat} {u : Value} (x : VR c h (.top a) u) : u = .ref a := by
  cases x
  rfl
theorem VR.listI {c : Cf} {h : Heap} {xs : List AV} {u : Value} (x : VR c h (.list xs) u) : ∃ a vs, u = .ref a ∧ c.fz a ∧ h.IsList a vs.toArray ∧ VRs c h xs vs := by
  cases x with
  | list f l r => exact ⟨_, _, rfl, f, l, r⟩
theorem VR.tupI {c : Cf} {h : Heap} {xs : List AV} {u : Value} (x : VR c h (.tup xs) u) : ∃ a vs, u = .ref a ∧ c.fz a ∧ IsTup h a vs.toArray ∧ VRs c h xs vs := by
  cases x with
  | tup f l r => exact ⟨_, _, rfl, f, l, r⟩
theorem VR.objI {c : Cf} {h : Heap} {k : Nat} {u : Value} (x : VR c h (.obj k) u) : ∃ a, u = .ref a ∧ c.pi[k]? = some a := by
  cases x with
  | obj p => exact ⟨_, rfl, p⟩
theorem VR.edictI {c : Cf} {h : Heap} {u : Value} (x : VR c h .edict u) : ∃ a ep, u = .ref a ∧ (a == sysModules) = false ∧ c.fz a ∧ h.get? a = some { cls := .type "dict", data := .dict #[] ep } := by
  cases x with
  | edict n f e => exact ⟨_, _, rfl, n, f, e⟩
theorem VRs.length {c : Cf} {h : Heap} : ∀ {xs : List AV} {vs : List Value}, VRs c h xs vs → vs.length = xs.length
  | _, _, .nil => rfl
  | _, _, .cons _ r => by simp [r.length]
theorem VRs.get {c : Cf} {h : Heap} : ∀ {xs : List AV} {vs : List Value}, VRs c h xs vs → ∀ {i : Nat} {x : AV}, xs[i]? = some x → ∃ v, vs[i]? = some v ∧ VR c h x v
  | _, _, .nil, i, _, e => by simp at e
  | _, _, .cons x r, 0, _, e => by simp at e; subst e; exact ⟨_, by simp, x⟩
  | _, _, .cons _ r, i + 1, _, e => by
    simp only [List.getElem?_cons_succ] at e ⊢
    exact r.get e
theorem VRs.append {c : Cf} {h : Heap} : ∀ {xs : List AV} {vs : List Value}, VRs c h xs vs → ∀ {ys : List AV} {us : List Value}, VRs c h ys us → VRs c h (xs ++ ys) (vs ++ us)
  | _, _, .nil, _, _, y => y
  | _, _, .cons x r, _, _, y => .cons x (r.append y)
theorem VRs.take {c : Cf} {h : Heap} : ∀ (n : Nat) {xs : List AV} {vs : List Value}, VRs c h xs vs → VRs c h (xs.take n) (vs.take n)
  | 0, _, _, _ => by simpa using VRs.nil
  | _ + 1, _, _, .nil => .nil
  | n + 1, _, _, .cons x r => .cons x (r.take n)
theorem VRs.drop {c : Cf} {h : Heap} : ∀ (n : Nat) {xs : List AV} {vs : List Value}, VRs c h xs vs → VRs c h (xs.drop n) (vs.drop n)
  | 0, _, _, r => by simpa using r
  | _ + 1, _, _, .nil => .nil
  | n + 1, _, _, .cons _ r => r.drop n
theorem VRs.set {c : Cf} {h : Heap} : ∀ {xs : List AV} {vs : List Value}, VRs c h xs vs → ∀ (i : Nat) {x : AV} {v : Value}, VR c h x v → VRs c h (xs.set i x) (vs.set i v)
  | _, _, .nil, _, _, _, _ => .nil
  | _, _, .cons _ r, 0, _, _, y => .cons y r
  | _, _, .cons x r, i + 1, _, _, y => .cons x (r.set i y)

inductive VRm (c : Cf) (h : Heap) : List (List Nat × AV) → List (Str × Value) → Prop
  | nil : VRm c h [] []
  | cons {k : List Nat} {v : AV} {u : Value} {r : List (List Nat × AV)} {q : List (Str × Value)} : VR c h v u → VRm c h r q → VRm c h ((k, v) :: r) ((⟨k.toArray⟩, u) :: q)
theorem VRm.kept {c c' : Cf} {h h' : Heap} (K : Kept c h c' h') {es : List (List Nat × AV)} {kvs : List (Str × Value)} (x : VRm c h es kvs) : VRm c' h' es kvs := by
  induction x with
  | nil => exact .nil
  | cons a _ ih => exact .cons (a.kept K) ih
section
variable (prog : Program) (w : World) (h₀ : Heap)

def OR (c : Cf) (h : Heap) (a : Addr) : AO → Prop
  | .list xs => ∃ vs, (h.IsList a vs.toArray ∧ ∃ o, h.get? a = some o ∧ o.dict = none) ∧ VRs c h xs vs
  | .ns fs => ∃ es n, h.get? a = some (dictOf es n) ∧ VRf c h fs es
  | .map es => (a == sysModules) = false ∧ ∃ kvs, h.DictOf (strKind prog w) a kvs ∧ VRm c h es kvs

structure SR (c : Cf) (led : List AO) (s : Shared) : Prop where
  keep : ∀ b o, h₀.get? b = some o → s.heap.get? b = some o
  base : ∀ b o, h₀.get? b = some o → c.fz b
  fz : ∀ a, c.fz a → ∃ o, s.heap.get? a = some o
  nd : c.pi.Nodup
  off : ∀ a ∈ c.pi, ¬ c.fz a
  len : led.length = c.pi.length
  at_ : ∀ (k : Nat) o, led[k]? = some o → ∃ a, c.pi[k]? = some a ∧ OR prog w c s.heap a o
end

structure EnvOk (sc : Scope) (env : Env) : Prop where
  scope : env.scope = sc
  kind : sc.kind = .function
  globals : env.globals = mainGlobals
  builtins : env.builtins = builtinsNs

def ownOf (env : Env) : List Addr := env.locals :: env.cells.map (·.2)

structure FR (nm : List Str) (env : Env) (c : Cf) (h : Heap) (loc : List AV) : Prop where
  ns : ∃ m, h.Ns env.locals m ∧ ∀ (i : Nat) x v, nm[i]? = some x → loc[i]? = some v → v ≠ .unb → env.kindOf x = some .local → ∃ u, m x = some u ∧ VR c h v u
  cel : ∀ x, (env.kindOf x = some .cell ∨ env.kindOf x = some .free) → ∃ a v, env.cells.lookup x = some a ∧ h.IsCell a v
  celv : ∀ (i : Nat) x v, nm[i]? = some x → loc[i]? = some v → v ≠ .unb → (env.kindOf x = some .cell ∨ env.kindOf x = some .free) → ∃ a u, env.cells.lookup x = some a ∧ h.IsCell a (some u) ∧ VR c h v u
  inj : ∀ n n' a, env.cells.lookup n = some a → env.cells.lookup n' = some a → n = n'
  live : ∀ a ∈ ownOf env, ∃ o, h.get? a = some o
  off : ∀ a ∈ ownOf env, a ∉ c.pi ∧ ¬ c.fz a
  ne : ∀ n a, env.cells.lookup n = some a → a ≠ env.locals

theorem Step.kept {prog : Program} {w : World} {h₀ : Heap} {own : List Addr} {c c' : Cf} {led : List AO} {s s' : Shared} (x : Step own c s c' s') (R : SR prog w h₀ c led s) (ho : ∀ a ∈ own, ¬ c.fz a) : Kept c s.heap c' s'.heap :=
  ⟨fun a o f e => x.keep a o e (fun q => R.off a q f) fun q => ho a q f, x.fz, fun _ _ e => x.at e⟩
theorem Step.kept0 {prog : Program} {w : World} {h₀ : Heap} {c c' : Cf} {led : List AO} {s s' : Shared} (x : Step [] c s c' s') (R : SR prog w h₀ c led s) : Kept c s.heap c' s'.heap := x.kept R (by simp)

theorem FR.step {prog : Program} {w : World} {h₀ : Heap} {nm : List Str} {env : Env} {c c' : Cf} {led : List AO} {s s' : Shared} {loc : List AV} (F : FR nm env c s.heap loc) (R : SR prog w h₀ c led s) (x : Step [] c s c' s') : FR nm env c' s'.heap loc := by
  have K := x.kept0 R
  have get : ∀ a ∈ ownOf env, ∀ o, s.heap.get? a = some o → s'.heap.get? a = some o := fun a ha o e => x.keep a o e (F.off a ha).1 (by simp)
  have cellIn : ∀ {n a}, env.cells.lookup n = some a → a ∈ ownOf env := fun h => List.mem_cons_of_mem _ (List.mem_map.mpr ⟨_, mem_of_lookup h, rfl⟩)
  have cell : ∀ {n a v}, env.cells.lookup n = some a → s.heap.IsCell a v → s'.heap.IsCell a v := fun h ⟨o, e, d⟩ => ⟨o, get _ (cellIn h) o e, d⟩
  refine ⟨?_, fun n hn => ?_, fun i n v h1 h2 h3 h4 => ?_, F.inj, fun a ha => ?_, fun a ha => ?_, F.ne⟩
  · obtain ⟨m, ⟨o, es, ep, e, r⟩, hm⟩ := F.ns
    exact ⟨m, ⟨o, es, ep, get _ (List.mem_cons_self ..) o e, r⟩, fun i n v h1 h2 h3 h4 => let ⟨u, a, b⟩ := hm i n v h1 h2 h3 h4; ⟨u, a, b.kept K⟩⟩
  · obtain ⟨a, v, h1, h2⟩ := F.cel n hn; exact ⟨a, v, h1, cell h1 h2⟩
  · obtain ⟨a, u, g1, g2, g3⟩ := F.celv i n v h1 h2 h3 h4; exact ⟨a, u, g1, cell g1 g2, g3.kept K⟩
  · obtain ⟨o, e⟩ := F.live a ha; exact ⟨o, get a ha o e⟩
  · obtain ⟨o, e⟩ := F.live a ha
    obtain ⟨l, el, nl⟩ := x.pi
    refine ⟨fun q => ?_, fun q => ?_⟩
    · rw [el] at q
      rcases List.mem_append.mp q with q | q
      · exact (F.off a ha).1 q
      · rw [nl a q] at e; cases e
    · rcases x.fzn a q with q | q
      · exact (F.off a ha).2 q
      · rw [q] at e; cases e
end Mine
end
-- part F2
section
namespace Mine

structure Glo where
  prog : Program
  w : World
  h₀ : Heap
  K : Frag
  p : Program
  loose : List Str
  mean : ExcName → Option Value
  mg : Str → Option Value
  mb : Str → Option Value
  X : K.In h₀
  T : Top p loose mean mg mb h₀

structure GoodA (d : Nat) (A : Around) : Prop where
  hh : A.handled = none
  depth : A.depth + 3 * d + 10 < recursionLimit
  units : A.units + 40 * d + 100 < cLine
theorem GoodA.less {d d' : Nat} {A : Around} (h : GoodA d' A) (k : d ≤ d') : GoodA d A := ⟨h.hh, by have := h.depth; omega, by have := h.units; omega⟩

variable (G : Glo)
abbrev WP {α : Type} (A : Around) (t : Sem α) (Q : α → Shared → Prop) (s : Shared) : Prop := wpAny (model G.prog G.w) A t Q (fun _ _ => False) s
abbrev GSR (c : Cf) (led : List AO) (s : Shared) : Prop := SR G.prog G.w G.h₀ c led s

def RV (c : Cf) (s : Shared) (v : AV) (led : List AO) (u : Value) (s' : Shared) : Prop := ∃ c', Step [] c s c' s' ∧ GSR G c' led s' ∧ VR c' s'.heap v u
def RB (c : Cf) (s : Shared) (b : Bool) (led : List AO) (u : Bool) (s' : Shared) : Prop := u = b ∧ ∃ c', Step [] c s c' s' ∧ GSR G c' led s'
abbrev EM := List AV → List AO → Option (AV × List AO)
abbrev TM := List AV → List AO → Option (Bool × List AO)

def SE (nm : List Str) (sc : Scope) (d : Nat) (f : EM) (e : Expr) : Prop :=
  ∀ A env c loc led s v led', GoodA d A → EnvOk sc env → FR nm env c s.heap loc → GSR G c led s → f loc led = some (v, led') → WP G A (eval e env) (RV G c s v led') s
def ST (nm : List Str) (sc : Scope) (d : Nat) (f : TM) (e : Expr) : Prop :=
  ∀ A env c loc led s b led', GoodA d A → EnvOk sc env → FR nm env c s.heap loc → GSR G c led s → f loc led = some (b, led') → WP G A (isTrue e env (eval e env)) (RB G c s b led') s
abbrev P1 := List AO → AV → Option (AV × List AO)
abbrev P2 := List AO → AV → AV → Option (AV × List AO)
def SP1 (d : Nat) (p : P1) (t : Value → Sem Value) : Prop :=
  ∀ A c led s a u v led', GoodA d A → GSR G c led s → VR c s.heap a u → p led a = some (v, led') → WP G A (t u) (RV G c s v led') s
def SP2 (d : Nat) (p : P2) (t : Value → Value → Sem Value) : Prop :=
  ∀ A c led s a b ua ub v led', GoodA d A → GSR G c led s → VR c s.heap a ua → VR c s.heap b ub → p led a b = some (v, led') → WP G A (t ua ub) (RV G c s v led') s

variable {G}
theorem WP.mono {α : Type} {A : Around} {t : Sem α} {Q Q' : α → Shared → Prop} {s : Shared} (h : WP G A t Q s) (k : ∀ a s', Q a s' → Q' a s') : WP G A t Q' s := wpAny_mono h k fun _ _ x => x
theorem WP.bind {α β : Type} {A : Around} {m : Sem α} {f : α → Sem β} {Q : α → Shared → Prop} {R : β → Shared → Prop} {s : Shared} (h : WP G A m Q s) (k : ∀ a s', Q a s' → WP G A (f a) R s') : WP G A (m >>= f) R s :=
  wpAny_bind (h.mono k)

/-- the step that gives a value without touching the heap -/
theorem RV.here {c : Cf} {led : List AO} {s : Shared} {v : AV} {u : Value} (R : GSR G c led s) (x : VR c s.heap v u) : RV G c s v led u s := ⟨c, .refl .., R, x⟩
theorem SR.tok {prog : Program} {w : World} {h₀ : Heap} {c : Cf} {led : List AO} {s : Shared} (R : SR prog w h₀ c led s) (t : Nat) : SR prog w h₀ c led { s with toks := t } := ⟨R.keep, R.base, R.fz, R.nd, R.off, R.len, R.at_⟩
theorem Step.tok {own : List Addr} (c : Cf) (s : Shared) (t : Nat) : Step own c s c { s with toks := t } :=
  ⟨⟨_, _, rfl⟩, fun _ _ e _ _ => e, fun _ o e => ⟨o, e⟩, ⟨[], by simp, by simp⟩, fun _ x => x, fun _ x => .inl x⟩
theorem RV.tok {c : Cf} {led : List AO} {s : Shared} {v : AV} {u : Value} {t : Nat} (R : GSR G c led s) (x : VR c s.heap v u) : RV G c s v led u { s with toks := t } := ⟨c, .tok .., R.tok t, x⟩
theorem RV.after {c c₁ : Cf} {led : List AO} {s s₁ s' : Shared} {v : AV} {u : Value} (x : Step [] c s c₁ s₁) (y : RV G c₁ s₁ v led u s') : RV G c s v led u s' := let ⟨c', a, b, d⟩ := y; ⟨c', x.trans a, b, d⟩
theorem RB.after {c c₁ : Cf} {led : List AO} {s s₁ s' : Shared} {b u : Bool} (x : Step [] c s c₁ s₁) (y : RB G c₁ s₁ b led u s') : RB G c s b led u s' := let ⟨e, c', a, r⟩ := y; ⟨e, c', x.trans a, r⟩
theorem RB.here {c : Cf} {led : List AO} {s : Shared} {b : Bool} (R : GSR G c led s) : RB G c s b led b s := ⟨rfl, c, .refl .., R⟩

/-- the ledger's facts where nothing that was is touched -/
theorem OR.kept {prog : Program} {w : World} {c c' : Cf} {h h' : Heap} {a : Addr} {o : AO} (x : OR prog w c h a o) (K : Kept c h c' h') (e : ∀ ob, h.get? a = some ob → h'.get? a = some ob) : OR prog w c' h' a o := by
  cases o with
  | list xs => obtain ⟨vs, ⟨⟨ob, g, r⟩, o2, g2, r2⟩, q⟩ := x; exact ⟨vs, ⟨⟨ob, e ob g, r⟩, o2, e o2 g2, r2⟩, q.kept K⟩
  | ns fs => obtain ⟨es, n, g, q⟩ := x; exact ⟨es, n, e _ g, q.kept K⟩
  | map es => obtain ⟨hs, kvs, ⟨ob, e1, ep, g, r⟩, q⟩ := x; exact ⟨hs, kvs, ⟨ob, e1, ep, e ob g, r⟩, q.kept K⟩
theorem SR.grow {prog : Program} {w : World} {h₀ : Heap} {c c' : Cf} {led : List AO} {s s' : Shared} (R : SR prog w h₀ c led s) (x : Step [] c s c' s') (hp : c'.pi = c.pi) (all : ∀ b o, s.heap.get? b = some o → s'.heap.get? b = some o)
    (fz : ∀ a, c'.fz a → ∃ o, s'.heap.get? a = some o) : SR prog w h₀ c' led s' := by
  have K := x.kept0 R
  refine ⟨fun b o e => all b o (R.keep b o e), fun b o e => x.fz b (R.base b o e), fz, hp ▸ R.nd, fun a ha q => ?_, by rw [hp]; exact R.len, fun k o e => ?_⟩
  · rw [hp] at ha
    rcases x.fzn a q with q | q
    · exact R.off a ha q
    · obtain ⟨k, hk⟩ := List.getElem?_of_mem ha
      have hlt : k < led.length := by rw [R.len]; exact (List.getElem?_eq_some_iff.mp hk).1
      obtain ⟨a', h1, h2⟩ := R.at_ k led[k] (by simp [hlt])
      rw [hk] at h1; cases h1
      have : ∃ ob, s.heap.get? a = some ob := by
        cases ho : led[k] <;> rw [ho] at h2
        · obtain ⟨_, ⟨⟨ob, g, _⟩, _⟩, _⟩ := h2; exact ⟨ob, g⟩
        · obtain ⟨_, _, g, _⟩ := h2; exact ⟨_, g⟩
        · obtain ⟨_, _, ⟨ob, _, _, g, _⟩, _⟩ := h2; exact ⟨ob, g⟩
      obtain ⟨ob, g⟩ := this; rw [q] at g; cases g
  · obtain ⟨a, h1, h2⟩ := R.at_ k o e
    exact ⟨a, hp ▸ h1, h2.kept K (all a)⟩
theorem SR.piLive {prog : Program} {w : World} {h₀ : Heap} {c : Cf} {led : List AO} {s : Shared} (R : SR prog w h₀ c led s) {k : Nat} {a : Addr} (hk : c.pi[k]? = some a) : ∃ o ob, led[k]? = some o ∧ OR prog w c s.heap a o ∧ s.heap.get? a = some ob := by
  have hlt : k < led.length := by rw [R.len]; exact (List.getElem?_eq_some_iff.mp hk).1
  obtain ⟨a', h1, h2⟩ := R.at_ k led[k] (by simp [hlt])
  rw [hk] at h1; cases h1
  have : ∃ ob, s.heap.get? a = some ob := by
    cases ho : led[k] <;> rw [ho] at h2
    · obtain ⟨_, ⟨⟨ob, g, _⟩, _⟩, _⟩ := h2; exact ⟨ob, g⟩
    · obtain ⟨_, _, g, _⟩ := h2; exact ⟨_, g⟩
    · obtain ⟨_, _, ⟨ob, _, _, g, _⟩, _⟩ := h2; exact ⟨ob, g⟩
  obtain ⟨ob, g⟩ := this
  exact ⟨led[k], ob, by simp [hlt], h2, g⟩

/-- a new frozen object -/
def Cf.fzAdd (c : Cf) (a : Addr) : Cf := ⟨c.pi, fun b => c.fz b ∨ b = a⟩
def Cf.piAdd (c : Cf) (a : Addr) : Cf := ⟨c.pi ++ [a], c.fz⟩
theorem get_size_none (h : Heap) : h.get? h.objs.size = none := by
  cases q : h.get? h.objs.size with
  | none => rfl
  | some o => exact absurd (Heap.lt_size q) (Nat.lt_irrefl _)
theorem push_all {h : Heap} {o : Obj} : ∀ b ob, h.get? b = some ob → (h.push o).get? b = some ob := fun _ _ e => Heap.get?_push_of_some _ e
theorem Step.pushFz {own : List Addr} (c : Cf) (s : Shared) (o : Obj) : Step own c s (c.fzAdd s.heap.objs.size) { s with heap := s.heap.push o } :=
  ⟨⟨_, _, rfl⟩, fun _ _ e _ _ => push_all _ _ e, fun _ ob e => ⟨ob, push_all _ _ e⟩, ⟨[], by simp [Cf.fzAdd], by simp⟩, fun _ x => .inl x, fun a x => x.elim .inl fun e => .inr (e ▸ get_size_none _)⟩
theorem SR.pushFz {prog : Program} {w : World} {h₀ : Heap} {c : Cf} {led : List AO} {s : Shared} (R : SR prog w h₀ c led s) (o : Obj) (hf : o.isFreed = false := by rfl) : SR prog w h₀ (c.fzAdd s.heap.objs.size) led { s with heap := s.heap.push o } :=
  R.grow (.pushFz ..) rfl push_all fun a q => q.elim (fun q => let ⟨ob, e⟩ := R.fz a q; ⟨ob, push_all _ _ e⟩) fun e => ⟨o, e ▸ Heap.get?_push_size _ hf⟩
theorem Step.pushJunk {own : List Addr} (c : Cf) (s : Shared) (o : Obj) : Step own c s c { s with heap := s.heap.push o } :=
  ⟨⟨_, _, rfl⟩, fun _ _ e _ _ => push_all _ _ e, fun _ ob e => ⟨ob, push_all _ _ e⟩, ⟨[], by simp, by simp⟩, fun _ x => x, fun _ x => .inl x⟩
theorem SR.pushJunk {prog : Program} {w : World} {h₀ : Heap} {c : Cf} {led : List AO} {s : Shared} (R : SR prog w h₀ c led s) (o : Obj) : SR prog w h₀ c led { s with heap := s.heap.push o } :=
  R.grow (.pushJunk ..) rfl push_all fun a q => let ⟨ob, e⟩ := R.fz a q; ⟨ob, push_all _ _ e⟩
theorem Step.pushPi {own : List Addr} (c : Cf) (s : Shared) (o : Obj) : Step own c s (c.piAdd s.heap.objs.size) { s with heap := s.heap.push o } :=
  ⟨⟨_, _, rfl⟩, fun _ _ e _ _ => push_all _ _ e, fun _ ob e => ⟨ob, push_all _ _ e⟩, ⟨[_], rfl, by simp [get_size_none]⟩, fun _ x => x, fun _ x => .inl x⟩
theorem SR.pushPi {prog : Program} {w : World} {h₀ : Heap} {c : Cf} {led : List AO} {s : Shared} (R : SR prog w h₀ c led s) (o : Obj) (ao : AO) (ho : OR prog w (c.piAdd s.heap.objs.size) (s.heap.push o) s.heap.objs.size ao) :
    SR prog w h₀ (c.piAdd s.heap.objs.size) (led ++ [ao]) { s with heap := s.heap.push o } := by
  have x := Step.pushPi (own := []) c s o
  have K := x.kept0 R
  refine ⟨fun b ob e => push_all _ _ (R.keep b ob e), R.base, fun a q => let ⟨ob, e⟩ := R.fz a q; ⟨ob, push_all _ _ e⟩, ?_, fun a ha q => ?_, by simp [Cf.piAdd, R.len], fun k o' e => ?_⟩
  · refine List.nodup_append.mpr ⟨R.nd, by simp, fun a ha b hb e => ?_⟩
    rw [List.mem_singleton] at hb
    subst hb; subst e
    obtain ⟨k, hk⟩ := List.getElem?_of_mem ha
    obtain ⟨_, ob, _, _, g⟩ := R.piLive hk
    rw [get_size_none] at g; cases g
  · rcases List.mem_append.mp ha with ha | ha
    · exact R.off a ha q
    · rw [List.mem_singleton] at ha
      subst ha
      obtain ⟨ob, e⟩ := R.fz _ q
      rw [get_size_none] at e; cases e
  · by_cases hk : k < led.length
    · rw [List.getElem?_append_left hk] at e
      obtain ⟨a, h1, h2⟩ := R.at_ k o' e
      exact ⟨a, x.at h1, h2.kept K (push_all a)⟩
    · have hk' : k = led.length := by
        have := (List.getElem?_eq_some_iff.mp e).1
        simp at this; omega
      subst hk'
      simp at e; subst e
      exact ⟨_, by rw [R.len]; simp [Cf.piAdd], ho⟩

-- ## expressions
variable {nm : List Str} {sc : Scope} {d : Nat}
namespace E
def loc (i : Nat) : EM := fun l led => match l[i]? with
  | some .unb => none
  | some v => some (v, led)
  | none => none
def const (v : AV) : EM := fun _ led => some (v, led)
def bin (p : P2) (f g : EM) : EM := fun l led => match f l led with
  | some (a, led₁) => (match g l led₁ with | some (b, led₂) => p led₂ a b | none => none)
  | none => none
def un (p : P1) (f : EM) : EM := fun l led => match f l led with
  | some (a, led₁) => p led₁ a
  | none => none
end E

theorem unb_ne {v : AV} (h : ∀ (_ : v = .unb), False) : v ≠ .unb := h
theorem E.loc_some {i : Nat} {l : List AV} {led led' : List AO} {v : AV} (e : E.loc i l led = some (v, led')) : l[i]? = some v ∧ v ≠ .unb ∧ led' = led := by
  unfold E.loc at e
  split at e
  · cases e
  · rename_i v' hne h
    cases e
    exact ⟨h, fun q => hne q, rfl⟩
  · cases e

theorem SE.loc {i : Nat} {x : Str} {pos : Pos} (hx : nm[i]? = some x) (hk : sc.names.lookup x = some .local ∨ sc.names.lookup x = some .cell ∨ sc.names.lookup x = some .free) (hd : (x == ("__debug__" : Str)) = false)
    (hn : (x == ("__classdict__" : Str)) = false) : SE G nm sc d (E.loc i) (.Name x pos) := by
  intro A env c loc led s v led' gA eo F R e
  obtain ⟨h1, h2, rfl⟩ := E.loc_some e
  have ek : env.kindOf x = sc.names.lookup x := by show env.scope.names.lookup x = _; rw [eo.scope]
  have hf : env.scope.kind = .function := by rw [eo.scope]; exact eo.kind
  refine wpAny_Name ?_ hd
  rcases hk with hk | hk | hk
  · rw [← ek] at hk
    obtain ⟨m, hm, hv⟩ := F.ns
    obtain ⟨u, q1, q2⟩ := hv i x v hx h1 h2 hk
    exact wpAny_loadName_local hf hk hm q1 (.here R q2)
  · rw [← ek] at hk
    obtain ⟨a, u, q1, q2, q3⟩ := F.celv i x v hx h1 h2 (.inl hk)
    exact wpAny_loadName_cell hf hk q1 q2 (.here R q3)
  · rw [← ek] at hk
    obtain ⟨a, u, q1, q2, q3⟩ := F.celv i x v hx h1 h2 (.inr hk)
    exact wpAny_loadName_free hf hk q1 q2 (.here R q3) hn
theorem SE.int {i : Int} {n k : Nat} {pos : Pos} (hn : i.natAbs < 2 ^ n) : SE G nm sc d (E.const (.int i n)) (.Constant (.int i) k pos) := by
  intro A env c loc led s v led' gA eo F R e
  cases e
  exact wpAny_Constant_int (.tok R (.int hn))
theorem SE.str {x : Str} {cs : List Nat} {k : Nat} {pos : Pos} (hn : x = ⟨cs.toArray⟩) : SE G nm sc d (E.const (.str cs)) (.Constant (.str x) k pos) := by
  intro A env c loc led s v led' gA eo F R e
  cases e
  exact wpAny_Constant_str (.tok R (hn ▸ .str))
theorem SE.nonec {k : Nat} {pos : Pos} : SE G nm sc d (E.const .none) (.Constant .none k pos) := by
  intro A env c loc led s v led' gA eo F R e
  cases e
  exact wpAny_Constant_none (.here R .none)
theorem SE.boolc {b : Bool} {k : Nat} {pos : Pos} : SE G nm sc d (E.const (.bool b)) (.Constant (.bool b) k pos) := by
  intro A env c loc led s v led' gA eo F R e
  cases e
  exact wpAny_Constant_bool (.here R (.bool b))

theorem glob_here {A : Around} {env : Env} {s : Shared} {c : Cf} {led : List AO} {x : Str} {pos : Pos} {u : Value} {Q : Value → Shared → Prop} (eo : EnvOk sc env) (R : GSR G c led s) (hk : sc.names.lookup x = some .globalImplicit) (e : nsIn G.K mainGlobals x = some (some u)) (h : Q u s)
    (hd : (x == ("__debug__" : Str)) = false) : WP G A (eval (.Name x pos) env) Q s := by
  have ek : env.kindOf x = sc.names.lookup x := by show env.scope.names.lookup x = _; rw [eo.scope]
  have hf : env.scope.kind = .function := by rw [eo.scope]; exact eo.kind
  exact Calls.Name_function_global hf (ek.trans hk) (Calls.loadGlobal_global (eo.globals ▸ (G.T.keeps R.keep).g) (mg_of G.X G.T.g e) h) hd
theorem built_here {A : Around} {env : Env} {s : Shared} {c : Cf} {led : List AO} {x : Str} {pos : Pos} {u : Value} {Q : Value → Shared → Prop} (eo : EnvOk sc env) (R : GSR G c led s) (hk : sc.names.lookup x = some .globalImplicit) (e : nsIn G.K mainGlobals x = some none)
    (hv : bootBuiltins x = some u) (hn : x ≠ "__name__") (h : Q u s) (hd : (x == ("__debug__" : Str)) = false) : WP G A (eval (.Name x pos) env) Q s := by
  have ek : env.kindOf x = sc.names.lookup x := by show env.scope.names.lookup x = _; rw [eo.scope]
  have hf : env.scope.kind = .function := by rw [eo.scope]; exact eo.kind
  exact Calls.Name_function_global hf (ek.trans hk) (Calls.loadGlobal_builtin (eo.globals ▸ (G.T.keeps R.keep).g) (mg_none_of G.X G.T.g e) (eo.builtins ▸ (G.T.keeps R.keep).b) ((G.T.builtins x hn).trans hv) h) hd
theorem SE.glob {x : Str} {pos : Pos} {a : Addr} (hk : sc.names.lookup x = some .globalImplicit) (e : nsIn G.K mainGlobals x = some (some (.ref a))) (hd : (x == ("__debug__" : Str)) = false) : SE G nm sc d (E.const (.top a)) (.Name x pos) := by
  intro A env c loc led s v led' gA eo F R e'
  cases e'
  exact glob_here eo R hk e (.here R (.top a)) hd
theorem SE.tyName {x : Str} {pos : Pos} {t : Ty} (hk : sc.names.lookup x = some .globalImplicit) (e : nsIn G.K mainGlobals x = some none) (hv : bootBuiltins x = some (.type t.nm)) (hn : x ≠ "__name__") (hd : (x == ("__debug__" : Str)) = false) : SE G nm sc d (E.const (.ty t)) (.Name x pos) := by
  intro A env c loc led s v led' gA eo F R e'
  cases e'
  exact built_here eo R hk e hv hn (.here R (.ty t)) hd

theorem E.bin_some {p : P2} {f g : EM} {l : List AV} {led led' : List AO} {v : AV} (e : E.bin p f g l led = some (v, led')) : ∃ a l1 b l2, f l led = some (a, l1) ∧ g l l1 = some (b, l2) ∧ p l2 a b = some (v, led') := by
  unfold E.bin at e
  split at e
  · rename_i a l1 h1
    split at e
    · rename_i b l2 h2; exact ⟨a, l1, b, l2, h1, h2, e⟩
    · cases e
  · cases e
theorem E.un_some {p : P1} {f : EM} {l : List AV} {led led' : List AO} {v : AV} (e : E.un p f l led = some (v, led')) : ∃ a l1, f l led = some (a, l1) ∧ p l1 a = some (v, led') := by
  unfold E.un at e
  split at e
  · rename_i a l1 h1; exact ⟨a, l1, h1, e⟩
  · cases e
/-- two operands, one behind the other, and what is done with them -/
theorem two {p : P2} {f g : EM} {e₁ e₂ : Expr} {t : Value → Value → Sem Value} {A : Around} {env : Env} {c : Cf} {loc : List AV} {led led' : List AO} {s : Shared} {v : AV} (h1 : SE G nm sc d f e₁) (h2 : SE G nm sc d g e₂) (hp : SP2 G d p t)
    (gA : GoodA d A) (eo : EnvOk sc env) (F : FR nm env c s.heap loc) (R : GSR G c led s) (e : E.bin p f g loc led = some (v, led')) :
    WP G A (eval e₁ env) (fun a s₁ => WP G A (eval e₂ env) (fun b s₂ => WP G A (t a b) (RV G c s v led') s₂) s₁) s := by
  obtain ⟨a, l1, b, l2, q1, q2, q3⟩ := E.bin_some e
  refine (h1 A env c loc led s a l1 gA eo F R q1).mono fun ua s₁ ⟨c₁, st, R₁, va⟩ => ?_
  refine (h2 A env c₁ loc l1 s₁ b l2 gA eo (F.step R st) R₁ q2).mono fun ub s₂ ⟨c₂, st₂, R₂, vb⟩ => ?_
  exact (hp A c₂ l2 s₂ a b ua ub v led' gA R₂ (va.kept (st₂.kept0 R₁)) vb q3).mono fun _ _ z => z.after (st.trans st₂)
theorem SE.bin {p : P2} {f g : EM} {e₁ e₂ : Expr} {op : Operator} {pos : Pos} (h1 : SE G nm sc d f e₁) (h2 : SE G nm sc d g e₂) (hp : SP2 G d p (binaryOp op)) : SE G nm sc d (E.bin p f g) (.BinOp e₁ op e₂ pos) := by
  intro A env c loc led s v led' gA eo F R e
  exact wpAny_BinOp (two h1 h2 hp gA eo F R e)
theorem SE.cmp {p : P2} {f g : EM} {e₁ e₂ : Expr} {op : CmpOp} {pos : Pos} (h1 : SE G nm sc d f e₁) (h2 : SE G nm sc d g e₂) (hp : SP2 G d p (compareOp op)) (hm : behindInMarks op e₂ = false) : SE G nm sc d (E.bin p f g) (.Compare e₁ [op] [e₂] pos) := by
  intro A env c loc led s v led' gA eo F R e
  exact wpAny_Compare1 (two h1 h2 hp gA eo F R e) hm
theorem SE.unary {p : P1} {f : EM} {e₁ : Expr} {op : UnaryOp} {pos : Pos} (h1 : SE G nm sc d f e₁) (hp : SP1 G d p (unaryOp op)) : SE G nm sc d (E.un p f) (.UnaryOp op e₁ pos) := by
  intro A env c loc led s v led' gA eo F R e
  obtain ⟨a, l1, q1, q2⟩ := E.un_some e
  show WP G A (do let v ← eval e₁ env; standAt pos; holding [v] (unaryOp op v)) _ s
  refine (h1 A env c loc led s a l1 gA eo F R q1).bind fun ua s₁ ⟨c₁, st, R₁, va⟩ => ?_
  refine wpAny_bind (wpAny_standAt (wpAny_holding ?_))
  exact (hp A c₁ l1 s₁ a ua v led' gA R₁ va q2).mono fun _ _ z => z.after st

-- ## tests
namespace T
def val (f : EM) : TM := fun l led => match f l led with
  | some (.bool b, led') => some (b, led')
  | some (.none, led') => some (false, led')
  | _ => none
def not (f : TM) : TM := fun l led => match f l led with
  | some (b, led') => some (!b, led')
  | none => none
def and (f g : TM) : TM := fun l led => match f l led with
  | some (true, led') => g l led'
  | some (false, led') => some (false, led')
  | none => none
def or (f g : TM) : TM := fun l led => match f l led with
  | some (false, led') => g l led'
  | some (true, led') => some (true, led')
  | none => none
end T
theorem truthy_val {A : Around} {c : Cf} {s : Shared} {h : Heap} {v : AV} {u : Value} {b : Bool} {Q : Bool → Shared → Prop} (hv : VR c h v u) (hb : v = .bool b ∨ (v = .none ∧ b = false)) (q : Q b s) : WP G A (truthy u) Q s := by
  rcases hb with rfl | ⟨rfl, rfl⟩
  · cases hv.boolI; exact wpAny_truthy_bool q
  · cases hv.noneI; exact fun _ _ _ => q
theorem T.val_some {f : EM} {l : List AV} {led led' : List AO} {b : Bool} (e : T.val f l led = some (b, led')) : ∃ v, f l led = some (v, led') ∧ (v = .bool b ∨ (v = .none ∧ b = false)) := by
  unfold T.val at e
  split at e
  · rename_i h; cases e; exact ⟨_, h, .inl rfl⟩
  · rename_i h; cases e; exact ⟨_, h, .inr ⟨rfl, rfl⟩⟩
  · cases e
theorem ST.val {f : EM} {e : Expr} (h : SE G nm sc d f e) (he : ∀ env whole, isTrue e env whole = (do let v ← whole; standAt e.pos; holding [v] (truthy v))) : ST G nm sc d (T.val f) e := by
  intro A env c loc led s b led' gA eo F R q
  obtain ⟨v, q1, q2⟩ := T.val_some q
  refine wpAny_isTrue_value ?_ (he _ _)
  refine (h A env c loc led s v led' gA eo F R q1).mono fun u s₁ ⟨c₁, st, R₁, hv⟩ => ?_
  exact truthy_val hv q2 ⟨rfl, c₁, st, R₁⟩
theorem ST.cmp {p : P2} {f g : EM} {e₁ e₂ : Expr} {op : CmpOp} {pos : Pos} (h1 : SE G nm sc d f e₁) (h2 : SE G nm sc d g e₂) (hp : SP2 G d p (compareOp op)) (hm : behindInMarks op e₂ = false) : ST G nm sc d (T.val (E.bin p f g)) (.Compare e₁ [op] [e₂] pos) := by
  intro A env c loc led s b led' gA eo F R q
  obtain ⟨v, q1, q2⟩ := T.val_some q
  refine wpAny_isTrue_Compare1 ?_ hm
  refine (two h1 h2 hp gA eo F R q1).mono fun a s₁ h => h.mono fun b s₂ h => h.mono fun u s₃ ⟨c₁, st, R₁, hv⟩ => ?_
  exact truthy_val hv q2 ⟨rfl, c₁, st, R₁⟩
theorem ST.not {f : TM} {e : Expr} {pos : Pos} (h : ST G nm sc d f e) : ST G nm sc d (T.not f) (.UnaryOp .Not e pos) := by
  intro A env c loc led s b led' gA eo F R q
  unfold T.not at q
  split at q
  · rename_i b' l' h'
    cases q
    show WP G A (do return !(← isTrue e env (eval e env))) _ s
    exact (h A env c loc led s _ _ gA eo F R h').bind fun u s₁ ⟨e, r⟩ => wpAny_pure ⟨by rw [e], r⟩
  · cases q
theorem ST.and2 {f g : TM} {e₁ e₂ : Expr} {pos : Pos} (h1 : ST G nm sc d f e₁) (h2 : ST G nm sc d g e₂) : ST G nm sc d (T.and f g) (.BoolOp .And [e₁, e₂] pos) := by
  intro A env c loc led s b led' gA eo F R q
  show WP G A (allTrue .And [e₁, e₂] env) _ s
  unfold T.and at q
  split at q
  · rename_i l' h'
    show WP G A (do match BoolOp.And, ← isTrue e₁ env (eval e₁ env) with
      | .And, false => pure false
      | .Or, true => pure true
      | _, _ => allTrue .And [e₂] env) _ s
    refine (h1 A env c loc led s true l' gA eo F R h').bind fun u s₁ ⟨e, c₁, st, R₁⟩ => ?_
    subst e
    show WP G A (do match BoolOp.And, ← isTrue e₂ env (eval e₂ env) with
      | .And, false => pure false
      | .Or, true => pure true
      | _, _ => allTrue .And [] env) _ s₁
    refine (h2 A env c₁ loc l' s₁ b led' gA eo (F.step R st) R₁ q).bind fun u s₂ hz => ?_
    obtain ⟨e, c₂, st₂, R₂⟩ := hz
    subst e
    cases u
    · exact wpAny_pure ⟨rfl, c₂, st.trans st₂, R₂⟩
    · exact wpAny_pure ⟨rfl, c₂, st.trans st₂, R₂⟩
  · rename_i l' h'
    cases q
    show WP G A (do match BoolOp.And, ← isTrue e₁ env (eval e₁ env) with
      | .And, false => pure false
      | .Or, true => pure true
      | _, _ => allTrue .And [e₂] env) _ s
    refine (h1 A env c loc led s false _ gA eo F R h').bind fun u s₁ ⟨e, r⟩ => ?_
    subst e
    exact wpAny_pure ⟨rfl, r⟩
  · cases q
theorem ST.or2 {f g : TM} {e₁ e₂ : Expr} {pos : Pos} (h1 : ST G nm sc d f e₁) (h2 : ST G nm sc d g e₂) : ST G nm sc d (T.or f g) (.BoolOp .Or [e₁, e₂] pos) := by
  intro A env c loc led s b led' gA eo F R q
  show WP G A (do match BoolOp.Or, ← isTrue e₁ env (eval e₁ env) with
      | .And, false => pure false
      | .Or, true => pure true
      | _, _ => allTrue .Or [e₂] env) _ s
  unfold T.or at q
  split at q
  · rename_i l' h'
    refine (h1 A env c loc led s false l' gA eo F R h').bind fun u s₁ ⟨e, c₁, st, R₁⟩ => ?_
    subst e
    show WP G A (do match BoolOp.Or, ← isTrue e₂ env (eval e₂ env) with
      | .And, false => pure false
      | .Or, true => pure true
      | _, _ => allTrue .Or [] env) _ s₁
    refine (h2 A env c₁ loc l' s₁ b led' gA eo (F.step R st) R₁ q).bind fun u s₂ hz => ?_
    obtain ⟨e, c₂, st₂, R₂⟩ := hz
    subst e
    cases u
    · exact wpAny_pure ⟨rfl, c₂, st.trans st₂, R₂⟩
    · exact wpAny_pure ⟨rfl, c₂, st.trans st₂, R₂⟩
  · rename_i l' h'
    cases q
    refine (h1 A env c loc led s true _ gA eo F R h').bind fun u s₁ ⟨e, r⟩ => ?_
    subst e
    exact wpAny_pure ⟨rfl, r⟩
  · cases q
end Mine
end
-- part F3
section
namespace Mine

inductive FL where
  | nx | bk | ct | rt (v : AV)
inductive FlR (c : Cf) (h : Heap) : FL → Flow → Prop
  | nx : FlR c h .nx .next
  | bk : FlR c h .bk .brk
  | ct : FlR c h .ct .cont
  | rt {v : AV} {u : Value} : VR c h v u → FlR c h (.rt v) (.ret u)
abbrev SM := List AV → List AO → Option (FL × List AV × List AO)

theorem SR.grow' {prog : Program} {w : World} {h₀ : Heap} {own : List Addr} {c c' : Cf} {led : List AO} {s s' : Shared} (R : SR prog w h₀ c led s) (x : Step own c s c' s') (hp : c'.pi = c.pi) (off : ∀ a ∈ own, a ∉ c.pi ∧ ¬ c.fz a)
    (all : ∀ b o, s.heap.get? b = some o → b ∉ own → s'.heap.get? b = some o) (fz : ∀ a, c'.fz a → ∃ o, s'.heap.get? a = some o) : SR prog w h₀ c' led s' := by
  have K := x.kept R fun a h => (off a h).2
  refine ⟨fun b o e => all b o (R.keep b o e) fun q => (off b q).2 (R.base b o e), fun b o e => x.fz b (R.base b o e), fz, hp ▸ R.nd, fun a ha q => ?_, by rw [hp]; exact R.len, fun k o e => ?_⟩
  · rw [hp] at ha
    rcases x.fzn a q with q | q
    · exact R.off a ha q
    · obtain ⟨k, hk⟩ := List.getElem?_of_mem ha
      obtain ⟨_, ob, _, _, g⟩ := R.piLive hk
      rw [q] at g; cases g
  · obtain ⟨a, h1, h2⟩ := R.at_ k o e
    refine ⟨a, hp ▸ h1, h2.kept K fun ob g => all a ob g fun q => (off a q).1 (List.mem_of_getElem? h1)⟩

theorem FR.kept {nm : List Str} {env : Env} {c c' : Cf} {h h' : Heap} {loc : List AV} (F : FR nm env c h loc) (K : Kept c h c' h') (get : ∀ a ∈ ownOf env, ∀ o, h.get? a = some o → h'.get? a = some o)
    (off : ∀ a ∈ ownOf env, a ∉ c'.pi ∧ ¬ c'.fz a) : FR nm env c' h' loc := by
  have cellIn : ∀ {n a}, env.cells.lookup n = some a → a ∈ ownOf env := fun h => List.mem_cons_of_mem _ (List.mem_map.mpr ⟨_, mem_of_lookup h, rfl⟩)
  have cell : ∀ {n a v}, env.cells.lookup n = some a → h.IsCell a v → h'.IsCell a v := fun h ⟨o, e, d⟩ => ⟨o, get _ (cellIn h) o e, d⟩
  refine ⟨?_, fun n hn => ?_, fun i n v h1 h2 h3 h4 => ?_, F.inj, fun a ha => ?_, off, F.ne⟩
  · obtain ⟨m, ⟨o, es, ep, e, r⟩, hm⟩ := F.ns
    exact ⟨m, ⟨o, es, ep, get _ (List.mem_cons_self ..) o e, r⟩, fun i n v h1 h2 h3 h4 => let ⟨u, a, b⟩ := hm i n v h1 h2 h3 h4; ⟨u, a, b.kept K⟩⟩
  · obtain ⟨a, v, h1, h2⟩ := F.cel n hn; exact ⟨a, v, h1, cell h1 h2⟩
  · obtain ⟨a, u, g1, g2, g3⟩ := F.celv i n v h1 h2 h3 h4; exact ⟨a, u, g1, cell g1 g2, g3.kept K⟩
  · obtain ⟨o, e⟩ := F.live a ha; exact ⟨o, get a ha o e⟩

variable {G : Glo} {nm : List Str} {sc : Scope} {d : Nat}
def RS (G : Glo) (nm : List Str) (env : Env) (c : Cf) (s : Shared) (fl : FL) (loc : List AV) (led : List AO) (r : Flow) (s' : Shared) : Prop :=
  ∃ c', Step (ownOf env) c s c' s' ∧ GSR G c' led s' ∧ FR nm env c' s'.heap loc ∧ FlR c' s'.heap fl r
theorem RS.after {env : Env} {c c₁ : Cf} {s s₁ s' : Shared} {fl : FL} {loc : List AV} {led : List AO} {r : Flow} (x : Step (ownOf env) c s c₁ s₁) (y : RS G nm env c₁ s₁ fl loc led r s') : RS G nm env c s fl loc led r s' :=
  let ⟨c', a, b⟩ := y; ⟨c', x.trans a, b⟩
def SS (G : Glo) (nm : List Str) (sc : Scope) (d : Nat) (f : SM) (st : Stmt) : Prop :=
  ∀ A env c loc led s fl loc' led', GoodA d A → EnvOk sc env → FR nm env c s.heap loc → GSR G c led s → f loc led = some (fl, loc', led') → WP G A (exec st env) (RS G nm env c s fl loc' led') s
def SB (G : Glo) (nm : List Str) (sc : Scope) (d : Nat) (f : SM) (sts : List Stmt) : Prop :=
  ∀ A env c loc led s fl loc' led', GoodA d A → EnvOk sc env → FR nm env c s.heap loc → GSR G c led s → f loc led = some (fl, loc', led') → WP G A (execs sts env) (RS G nm env c s fl loc' led') s

namespace S
def done : SM := fun l led => some (.nx, l, led)
def seq (f g : SM) : SM := fun l led => match f l led with
  | some (.nx, l', led') => g l' led'
  | r => r
def asg (i : Nat) (f : EM) : SM := fun l led => match f l led with
  | some (v, led') => some (.nx, l.set i v, led')
  | none => none
def ret (f : EM) : SM := fun l led => match f l led with
  | some (v, led') => some (.rt v, l, led')
  | none => none
def ite (t : TM) (f g : SM) : SM := fun l led => match t l led with
  | some (true, led') => f l led'
  | some (false, led') => g l led'
  | none => none
def expr (f : EM) : SM := fun l led => match f l led with
  | some (.none, led') => some (.nx, l, led')
  | _ => none
def brk : SM := fun l led => some (.bk, l, led)
def bad : SM := fun _ _ => none
end S
theorem SB.nil : SB G nm sc d S.done [] := by
  intro A env c loc led s fl loc' led' gA eo F R e
  cases e
  exact wpAny_execs_nil ⟨c, .refl .., R, F, .nx⟩
theorem SB.cons {f g : SM} {st : Stmt} {r : List Stmt} (h1 : SS G nm sc d f st) (h2 : SB G nm sc d g r) : SB G nm sc d (S.seq f g) (st :: r) := by
  intro A env c loc led s fl loc' led' gA eo F R e
  unfold S.seq at e
  refine wpAny_execs_cons ?_
  split at e
  · rename_i l1 led1 q
    refine (h1 A env c loc led s .nx l1 led1 gA eo F R q).mono fun fl' s₁ ⟨c₁, st, R₁, F₁, x⟩ => ?_
    cases x
    exact (h2 A env c₁ l1 led1 s₁ fl loc' led' gA eo F₁ R₁ e).mono fun _ _ z => z.after st
  · rename_i hne
    refine (h1 A env c loc led s fl loc' led' gA eo F R e).mono fun fl' s₁ h => ?_
    obtain ⟨c₁, st, R₁, F₁, x⟩ := h
    cases x with
    | nx => exact absurd e (hne _ _)
    | bk => exact ⟨c₁, st, R₁, F₁, .bk⟩
    | ct => exact ⟨c₁, st, R₁, F₁, .ct⟩
    | rt y => exact ⟨c₁, st, R₁, F₁, .rt y⟩
theorem SB.one {f : SM} {st : Stmt} (h1 : SS G nm sc d f st) : SB G nm sc d f [st] := by
  intro A env c loc led s fl loc' led' gA eo F R e
  refine wpAny_execs_cons ?_
  refine (h1 A env c loc led s fl loc' led' gA eo F R e).mono fun fl' s₁ h => ?_
  obtain ⟨c₁, st, R₁, F₁, x⟩ := h
  cases x with
  | nx => exact wpAny_execs_nil ⟨c₁, st, R₁, F₁, .nx⟩
  | bk => exact ⟨c₁, st, R₁, F₁, .bk⟩
  | ct => exact ⟨c₁, st, R₁, F₁, .ct⟩
  | rt y => exact ⟨c₁, st, R₁, F₁, .rt y⟩
theorem SB.bad {r : List Stmt} : SB G nm sc d S.bad r := by
  intro A env c loc led s fl loc' led' gA eo F R e
  cases e

theorem nodup_name {nm : List Str} (hn : nm.Nodup) {i j : Nat} {x : Str} (h1 : nm[i]? = some x) (h2 : nm[j]? = some x) : i = j := by
  obtain ⟨hi, e1⟩ := List.getElem?_eq_some_iff.mp h1
  obtain ⟨hj, e2⟩ := List.getElem?_eq_some_iff.mp h2
  have hp := List.pairwise_iff_getElem.mp hn
  rcases Nat.lt_trichotomy i j with q | q | q
  · exact absurd (e1.trans e2.symm) (hp i j hi hj q)
  · exact q
  · exact absurd (e2.trans e1.symm) (hp j i hj hi q)

/-- storing a name -/
theorem store_here {A : Around} {env : Env} {c : Cf} {loc : List AV} {led : List AO} {s : Shared} {v : AV} {u : Value} {i : Nat} {x : Str} {Q : Unit → Shared → Prop} (eo : EnvOk sc env) (F : FR nm env c s.heap loc) (R : GSR G c led s) (hv : VR c s.heap v u)
    (hx : nm[i]? = some x) (hn : nm.Nodup) (hk : sc.names.lookup x = some .local ∨ sc.names.lookup x = some .cell)
    (h : ∀ s', Step (ownOf env) c s c s' → GSR G c led s' → FR nm env c s'.heap (loc.set i v) → Q () s') : WP G A (storeName env x u) Q s := by
  have ek : env.kindOf x = sc.names.lookup x := by show env.scope.names.lookup x = _; rw [eo.scope]
  have hf : env.scope.kind = .function := by rw [eo.scope]; exact eo.kind
  have slot : ∀ {j : Nat} {y : Str} {v' : AV}, nm[j]? = some y → (loc.set i v)[j]? = some v' → (j = i ∧ y = x ∧ v' = v) ∨ (y ≠ x ∧ loc[j]? = some v') := by
    intro j y v' h1 h2
    by_cases hj : j = i
    · subst hj
      rw [hx] at h1
      refine .inl ⟨rfl, (Option.some.inj h1).symm, ?_⟩
      rw [List.getElem?_set_self'] at h2
      cases q : loc[j]? with
      | none => rw [q] at h2; cases h2
      | some z => rw [q] at h2; exact (Option.some.inj h2).symm
    · refine .inr ⟨fun q => ?_, ?_⟩
      · subst q; exact hj (nodup_name hn h1 hx)
      · rwa [List.getElem?_set_ne (Ne.symm hj)] at h2
  have cellIn : ∀ {n a}, env.cells.lookup n = some a → a ∈ ownOf env := fun h => List.mem_cons_of_mem _ (List.mem_map.mpr ⟨_, mem_of_lookup h, rfl⟩)
  have fin : ∀ (b : Addr) (h' : Heap) (tk : Nat), b ∈ ownOf env → Heap.SameBut b s.heap h' → (∃ o, h'.get? b = some o) → Step (ownOf env) c s c { s with heap := h', toks := tk } := by
    intro b h' tk hb hs hl
    refine ⟨⟨_, _, rfl⟩, fun a o e _ ho => (hs.2 a fun q => ho (q ▸ hb)).trans e, fun a o e => ?_, ⟨[], by simp, by simp⟩, fun _ x => x, fun _ x => .inl x⟩
    by_cases q : a = b
    · subst q; exact hl
    · exact ⟨o, (hs.2 a q).trans e⟩
  have live : ∀ (b : Addr) (h' : Heap), b ∈ ownOf env → Heap.SameBut b s.heap h' → ∀ a, c.fz a → ∃ o, h'.get? a = some o := fun b h' hb hs a q =>
    let ⟨o, e⟩ := R.fz a q; ⟨o, (hs.2 a fun z => (F.off b hb).2 (z ▸ q)).trans e⟩
  rcases hk with hk | hk
  · have hk' : env.kindOf x = some .local := ek.trans hk
    obtain ⟨m, hm, hvs⟩ := F.ns
    have hL : env.locals ∈ ownOf env := List.mem_cons_self ..
    refine wpAny_storeName_local hk' hm (fun h' hn' hs => ?_) (by rw [hf]; rfl)
    have hlive : ∃ o, h'.get? env.locals = some o := let ⟨o, _, _, e, _⟩ := hn'; ⟨o, e⟩
    have st := fin env.locals h' (s.toks + 1) hL hs hlive
    have K : Kept c s.heap c h' := st.kept R fun a ha => (F.off a ha).2
    have cell : ∀ {n a w}, env.cells.lookup n = some a → s.heap.IsCell a w → h'.IsCell a w := fun hl hc => hc.sameBut hs (F.ne _ _ hl)
    refine h _ st (R.grow' st rfl F.off (fun b o e ho => (hs.2 b fun q => ho (q ▸ hL)).trans e) (live _ h' hL hs)) ⟨⟨_, hn', fun j y v' h1 h2 h3 h4 => ?_⟩, fun n q => ?_, fun j y v' h1 h2 h3 h4 => ?_, F.inj, fun a ha => ?_, F.off, F.ne⟩
    · rcases slot h1 h2 with ⟨_, rfl, rfl⟩ | ⟨hne, h2'⟩
      · exact ⟨u, by simp, hv.kept K⟩
      · obtain ⟨u', q1, q2⟩ := hvs j y v' h1 h2' h3 h4
        exact ⟨u', by simp [hne, q1], q2.kept K⟩
    · obtain ⟨a, w, g1, g2⟩ := F.cel n q; exact ⟨a, w, g1, cell g1 g2⟩
    · rcases slot h1 h2 with ⟨_, rfl, rfl⟩ | ⟨hne, h2'⟩
      · rw [hk'] at h4; rcases h4 with h4 | h4 <;> cases h4
      · obtain ⟨a, u', g1, g2, g3⟩ := F.celv j y v' h1 h2' h3 h4; exact ⟨a, u', g1, cell g1 g2, g3.kept K⟩
    · by_cases q : a = env.locals
      · subst q; exact hlive
      · obtain ⟨o, e⟩ := F.live a ha; exact ⟨o, (hs.2 a q).trans e⟩
  · have hk' : env.kindOf x = some .cell := ek.trans hk
    obtain ⟨a, w, g1, g2⟩ := F.cel x (.inl hk')
    have hL : a ∈ ownOf env := cellIn g1
    refine wpAny_storeName_cell hf hk' g1 g2 fun h' hc' hs => ?_
    have hlive : ∃ o, h'.get? a = some o := let ⟨o, e, _⟩ := hc'; ⟨o, e⟩
    have st := fin a h' s.toks hL hs hlive
    have K : Kept c s.heap c h' := st.kept R fun a ha => (F.off a ha).2
    have other : ∀ {n b w}, n ≠ x → env.cells.lookup n = some b → s.heap.IsCell b w → h'.IsCell b w := fun hne hl hc => hc.sameBut hs fun e => hne (F.inj _ _ _ (e ▸ hl) g1)
    refine h _ st (R.grow' st rfl F.off (fun b o e ho => (hs.2 b fun q => ho (q ▸ hL)).trans e) (live _ h' hL hs)) ⟨?_, fun n q => ?_, fun j y v' h1 h2 h3 h4 => ?_, F.inj, fun b hb => ?_, F.off, F.ne⟩
    · obtain ⟨m, hm, hvs⟩ := F.ns
      refine ⟨m, hm.sameBut hs (Ne.symm (F.ne _ _ g1)), fun j y v' h1 h2 h3 h4 => ?_⟩
      rcases slot h1 h2 with ⟨_, rfl, rfl⟩ | ⟨hne, h2'⟩
      · rw [hk'] at h4; cases h4
      · obtain ⟨u', q1, q2⟩ := hvs j y v' h1 h2' h3 h4
        exact ⟨u', q1, q2.kept K⟩
    · by_cases hne : n = x
      · subst hne; exact ⟨a, _, g1, hc'⟩
      · obtain ⟨b, w', q1, q2⟩ := F.cel n q; exact ⟨b, w', q1, other hne q1 q2⟩
    · rcases slot h1 h2 with ⟨_, rfl, rfl⟩ | ⟨hne, h2'⟩
      · exact ⟨a, u, g1, hc', hv.kept K⟩
      · obtain ⟨b, u', q1, q2, q3⟩ := F.celv j y v' h1 h2' h3 h4; exact ⟨b, u', q1, other hne q1 q2, q3.kept K⟩
    · by_cases q : b = a
      · subst q; exact hlive
      · obtain ⟨o, e⟩ := F.live b hb; exact ⟨o, (hs.2 b q).trans e⟩

structure Slot (nm : List Str) (sc : Scope) (i : Nat) (x : Str) : Prop where
  at_ : nm[i]? = some x
  nd : nm.Nodup
  kind : sc.names.lookup x = some .local ∨ sc.names.lookup x = some .cell

theorem SS.asg {i : Nat} {x : Str} {f : EM} {e : Expr} {pos pos' : Pos} (h : SE G nm sc d f e) (hs : Slot nm sc i x) (hw : ∀ env, EnvOk sc env → swapsWith e (some (.Name x pos')) pos.line env = pure false) : SS G nm sc d (S.asg i f) (.Assign [.Name x pos'] e pos) := by
  intro A env c loc led s fl loc' led' gA eo F R q
  unfold S.asg at q
  split at q
  · rename_i v l1 h1
    cases q
    refine wpAny_Assign_Name ?_ (hw env eo)
    refine (h A env c loc led s v _ gA eo F R h1).mono fun u s₁ ⟨c₁, st, R₁, hv⟩ => ?_
    exact store_here eo (F.step R st) R₁ hv hs.at_ hs.nd hs.kind fun s₂ st₂ R₂ F₂ => ⟨c₁, st.widen.trans st₂, R₂, F₂, .nx⟩
  · cases q
theorem SS.ret {f : EM} {e : Expr} {pos : Pos} (h : SE G nm sc d f e) : SS G nm sc d (S.ret f) (.Return (some e) pos) := by
  intro A env c loc led s fl loc' led' gA eo F R q
  unfold S.ret at q
  split at q
  · rename_i v l1 h1
    cases q
    refine wpAny_Return_some ?_
    exact (h A env c _ led s v _ gA eo F R h1).mono fun u s₁ ⟨c₁, st, R₁, hv⟩ => ⟨c₁, st.widen, R₁, F.step R st, .rt hv⟩
  · cases q
theorem SS.brk {pos : Pos} : SS G nm sc d S.brk (.Break pos) := by
  intro A env c loc led s fl loc' led' gA eo F R q
  cases q
  exact fun _ _ _ => ⟨c, .refl .., R, F, .bk⟩
theorem SS.bad {st : Stmt} : SS G nm sc d S.bad st := by
  intro A env c loc led s fl loc' led' gA eo F R q
  cases q
theorem SS.ite {t : TM} {f g : SM} {e : Expr} {b₁ b₂ : List Stmt} {pos : Pos} (ht : ST G nm sc d t e) (h1 : SB G nm sc d f b₁) (h2 : SB G nm sc d g b₂) : SS G nm sc d (S.ite t f g) (.If e b₁ b₂ pos) := by
  intro A env c loc led s fl loc' led' gA eo F R q
  unfold S.ite at q
  refine wpAny_If ?_
  split at q
  · rename_i l1 hq
    refine (ht A env c loc led s true l1 gA eo F R hq).mono fun b s₁ ⟨eb, c₁, st, R₁⟩ => ?_
    subst eb
    exact (h1 A env c₁ loc l1 s₁ fl loc' led' gA eo (F.step R st) R₁ q).mono fun _ _ z => z.after st.widen
  · rename_i l1 hq
    refine (ht A env c loc led s false l1 gA eo F R hq).mono fun b s₁ ⟨eb, c₁, st, R₁⟩ => ?_
    subst eb
    exact (h2 A env c₁ loc l1 s₁ fl loc' led' gA eo (F.step R st) R₁ q).mono fun _ _ z => z.after st.widen
  · cases q
theorem SS.expr {f : EM} {e : Expr} {pos : Pos} (h : SE G nm sc d f e) (hi : ∀ env, EnvOk sc env → interactive env = false) (hw : ∀ env, swapsWith e none pos.line env = pure false) : SS G nm sc d (S.expr f) (.Expr e pos) := by
  intro A env c loc led s fl loc' led' gA eo F R q
  unfold S.expr at q
  split at q
  · rename_i l1 h1
    cases q
    refine wpAny_Expr ?_ (hi env eo) (hw env)
    refine (h A env c _ led s .none _ gA eo F R h1).mono fun u s₁ ⟨c₁, st, R₁, hv⟩ => ?_
    cases hv.noneI
    exact ⟨c₁, st.widen, R₁, F.step R st, .nx⟩
  · cases q
theorem notInteractive {env : Env} (eo : EnvOk sc env) : interactive env = false := by
  unfold interactive
  rw [eo.scope, eo.kind]; rfl
end Mine
end
-- part F4
section
namespace Mine
variable {G : Glo} {nm : List Str} {sc : Scope} {d : Nat}

abbrev FM := List AV → List AO → Option (AV × List AO)
def SF (G : Glo) (d : Nat) (g : FM) (f : Addr) : Prop :=
  ∀ A c led s avs us v led', GoodA d A → GSR G c led s → VRs c s.heap avs us → g avs led = some (v, led') →
    codeAny (model G.prog G.w) A (.call (.ref f) ⟨us, []⟩) (fun r s' => match r with | .ok (.ret u) => RV G c s v led' u s' | _ => False) s

def fnOfBody (k : Nat) (body : SM) : FM := fun avs led => match body (avs ++ List.replicate k .unb) led with
  | some (.rt v, _, led') => some (v, led')
  | some (.nx, _, led') => some (.none, led')
  | _ => none

theorem bindL_other {kindOf : Str → Option NameKind} : ∀ {binds : List (Str × Value)} {m : Str → Option Value} {x : Str}, (∀ p ∈ binds, p.1 ≠ x) → bindL kindOf binds m x = m x
  | [], _, _, _ => rfl
  | (n, v) :: r, m, x, h => by
    unfold bindL
    rw [bindL_other fun p hp => h p (List.mem_cons_of_mem _ hp)]
    split
    · exact if_neg (Ne.symm (h (n, v) List.mem_cons_self))
    · rfl
theorem bindC_other {kindOf : Str → Option NameKind} : ∀ {binds : List (Str × Value)} {m : Str → Option Value} {x : Str}, (∀ p ∈ binds, p.1 ≠ x) → bindC kindOf binds m x = m x
  | [], _, _, _ => rfl
  | (n, v) :: r, m, x, h => by
    unfold bindC
    rw [bindC_other fun p hp => h p (List.mem_cons_of_mem _ hp)]
    split
    · rfl
    · exact if_neg (Ne.symm (h (n, v) List.mem_cons_self))
theorem zip_names {ps : List Str} {us : List Value} {x : Str} (h : x ∉ ps) : ∀ p ∈ ps.zip us, p.1 ≠ x := fun p hp e => h (e ▸ (List.of_mem_zip hp).1)
theorem bindL_zip {kindOf : Str → Option NameKind} : ∀ {ps : List Str} {us : List Value} {m : Str → Option Value} {i : Nat} {x : Str} {u : Value}, ps.Nodup → ps[i]? = some x → us[i]? = some u → kindOf x = some .local → bindL kindOf (ps.zip us) m x = some u
  | [], _, _, _, _, _, _, h, _, _ => by simp at h
  | _ :: _, [], _, _, _, _, _, _, h, _ => by simp at h
  | p :: ps, v :: us, m, 0, x, u, hn, h1, h2, hk => by
    simp only [List.getElem?_cons_zero, Option.some.injEq] at h1 h2
    subst h1; subst h2
    rw [List.zip_cons_cons]
    unfold bindL
    rw [bindL_other (zip_names (List.nodup_cons.mp hn).1), if_pos hk]; simp
  | p :: ps, v :: us, m, i + 1, x, u, hn, h1, h2, hk => by
    simp only [List.getElem?_cons_succ] at h1 h2
    rw [List.zip_cons_cons]
    unfold bindL
    exact bindL_zip (List.nodup_cons.mp hn).2 h1 h2 hk
theorem bindC_zip {kindOf : Str → Option NameKind} : ∀ {ps : List Str} {us : List Value} {m : Str → Option Value} {i : Nat} {x : Str} {u : Value}, ps.Nodup → ps[i]? = some x → us[i]? = some u → ¬ kindOf x = some .local → bindC kindOf (ps.zip us) m x = some u
  | [], _, _, _, _, _, _, h, _, _ => by simp at h
  | _ :: _, [], _, _, _, _, _, _, h, _ => by simp at h
  | p :: ps, v :: us, m, 0, x, u, hn, h1, h2, hk => by
    simp only [List.getElem?_cons_zero, Option.some.injEq] at h1 h2
    subst h1; subst h2
    rw [List.zip_cons_cons]
    unfold bindC
    rw [bindC_other (zip_names (List.nodup_cons.mp hn).1), if_neg hk]; simp
  | p :: ps, v :: us, m, i + 1, x, u, hn, h1, h2, hk => by
    simp only [List.getElem?_cons_succ] at h1 h2
    rw [List.zip_cons_cons]
    unfold bindC
    exact bindC_zip (List.nodup_cons.mp hn).2 h1 h2 hk
theorem cellsFrom_some : ∀ {names : List (Str × NameKind)} {n : Nat} {acc : List (Str × Addr)} {x : Str}, (acc.lookup x).isSome = true ∨ (x, NameKind.cell) ∈ names → ((cellsFrom n names acc).lookup x).isSome = true
  | [], _, _, _, h => h.elim id fun q => nomatch q
  | (nmx, kind) :: r, n, acc, x, h => by
    unfold cellsFrom
    split
    · rename_i hk
      refine cellsFrom_some ?_
      rw [List.lookup_cons]
      by_cases q : x == nmx
      · rw [q]; exact .inl rfl
      · rw [Bool.not_eq_true] at q
        rw [q]
        refine h.elim .inl fun h => ?_
        rcases List.mem_cons.mp h with h | h
        · have : x = nmx := congrArg Prod.fst h
          subst this; simp at q
        · exact .inr h
    · rename_i hk
      refine cellsFrom_some (h.elim .inl fun h => ?_)
      rcases List.mem_cons.mp h with h | h
      · have : NameKind.cell = kind := congrArg Prod.snd h
        subst this; simp at hk
      · exact .inr h
theorem lookup_mem {l : List (Str × NameKind)} {x : Str} {k : NameKind} (h : l.lookup x = some k) : (x, k) ∈ l := mem_of_lookup h

theorem lookup_of_nodup : ∀ {l : List (Str × Addr)}, (l.map (·.1)).Nodup → ∀ {n : Str} {b : Addr}, (n, b) ∈ l → l.lookup n = some b
  | (k, v) :: r, hn, n, b, h => by
    rw [List.map_cons, List.nodup_cons] at hn
    rw [List.lookup_cons]
    rcases List.mem_cons.mp h with h | h
    · cases h; simp
    · have : n ≠ k := fun e => hn.1 (e ▸ List.mem_map.mpr ⟨_, h, rfl⟩)
      rw [beq_eq_false_iff_ne.mpr this]
      exact lookup_of_nodup hn.2 h
theorem cellsFrom_nodup : ∀ (names : List (Str × NameKind)) (n : Nat) (acc : List (Str × Addr)), (names.map (·.1) ++ acc.map (·.1)).Nodup → ((cellsFrom n names acc).map (·.1)).Nodup
  | [], _, _, h => by unfold cellsFrom; simpa using h
  | (x, k) :: r, n, acc, h => by
    unfold cellsFrom
    rw [List.map_cons, List.cons_append, List.nodup_cons] at h
    split
    · refine cellsFrom_nodup r _ _ ?_
      rw [List.map_cons]
      exact (List.perm_middle.nodup_iff).mpr (List.nodup_cons.mpr h)
    · exact cellsFrom_nodup r _ _ h.2
/-- what a def of the text must show, once -/
structure Fn (G : Glo) (f : Addr) (ps : List Str) (nm : List Str) (k : Nat) (sc : Scope) (body : List Stmt) : Prop where
  obj : ∃ name qual params dV kV doc pm an cdv ct oc od osl, G.K.lookup f = some ⟨oc, od, .func (fnOf name qual params body sc dV kV doc pm an cdv ct), osl⟩ ∧ codeIn G.K cdv qual = true ∧
    ∀ us : List Value, us.length = ps.length → bindArgs (fnOf name qual params body sc dV kV doc pm an cdv ct) ⟨us, []⟩ = pure (ps.zip us)
  len : nm.length = ps.length + k
  pre : ps = nm.take ps.length
  nd : nm.Nodup
  kind : sc.kind = .function
  co : sc.isCoroutine = false
  gen : sc.isGenerator = false
  free : ∀ x ∈ sc.names, x.2 ≠ .free
  par : ∀ x ∈ ps, sc.names.lookup x = some .local ∨ sc.names.lookup x = some .cell
  names : (sc.names.map (·.1)).Nodup

theorem goodA_deeper {A : Around} {env : Env} (h : GoodA (d + 1) A) : GoodA d (A.deeper env) :=
  ⟨h.hh, by have := h.depth; show A.depth + 1 + _ + _ < _; omega, by have := h.units; show A.units + 3 + _ + _ < _; omega⟩

/-- the frame of a call stands: what it binds, over the state ahead of the call -/
theorem frame_ready {fd : FuncData} {f : Addr} {ps nm : List Str} {k : Nat} {c : Cf} {led : List AO} {s s₁ : Shared} {avs : List AV} {us : List Value} (R : GSR G c led s) (hv : VRs c s.heap avs us)
    (hk : fd.scope.kind = .function) (hlen : nm.length = ps.length + k) (hpre : ps = nm.take ps.length) (hnd : nm.Nodup) (hfree : ∀ x ∈ fd.scope.names, x.2 ≠ .free) (hpar : ∀ x ∈ ps, fd.scope.names.lookup x = some .local ∨ fd.scope.names.lookup x = some .cell)
    (hnames : (fd.scope.names.map (·.1)).Nodup) (hus : us.length = ps.length) (hg : fd.globals = mainGlobals) (hb : fd.builtins = builtinsNs)
    (x : InCallC s (callEnvC fd s.heap.objs.size f).locals (bindL (callEnvC fd s.heap.objs.size f).kindOf (ps.zip us) fun _ => none) (callEnvC fd s.heap.objs.size f).cells (bindC (callEnvC fd s.heap.objs.size f).kindOf (ps.zip us) fun _ => none) s₁) :
    Step [] c s c s₁ ∧ GSR G c led s₁ ∧ EnvOk fd.scope (callEnvC fd s.heap.objs.size f) ∧ FR nm (callEnvC fd s.heap.objs.size f) c s₁.heap (avs ++ List.replicate k .unb) ∧ ∀ a ∈ ownOf (callEnvC fd s.heap.objs.size f), s.heap.get? a = none := by
  obtain ⟨⟨hsame, hns, hkeep, hfresh⟩, hcell, hap, habove⟩ := x
  obtain ⟨h₁, tk, rfl⟩ := hsame
  have st : Step [] c s c { s with heap := h₁, toks := tk } := ⟨⟨_, _, rfl⟩, fun b o e _ _ => hkeep b o e, fun b o e => ⟨o, hkeep b o e⟩, ⟨[], by simp, by simp⟩, fun _ x => x, fun _ x => .inl x⟩
  have R₁ : GSR G c led { s with heap := h₁, toks := tk } := R.grow st rfl hkeep fun a q => let ⟨o, e⟩ := R.fz a q; ⟨o, hkeep a o e⟩
  have K := st.kept0 R
  have hL : (callEnvC fd s.heap.objs.size f).locals = s.heap.objs.size := rfl
  have dead : ∀ a ∈ ownOf (callEnvC fd s.heap.objs.size f), s.heap.objs.size ≤ a := by
    intro a ha
    rcases List.mem_cons.mp ha with rfl | ha
    · exact Nat.le_refl _
    · obtain ⟨⟨n, b⟩, hp, rfl⟩ := List.mem_map.mp ha
      exact Nat.le_of_lt (habove n b hp)
  have deadN : ∀ a ∈ ownOf (callEnvC fd s.heap.objs.size f), s.heap.get? a = none := fun a ha => by
    cases q : s.heap.get? a with
    | none => rfl
    | some o => exact absurd (Heap.lt_size q) (Nat.not_lt.mpr (dead a ha))
  have psnd : ps.Nodup := by rw [hpre]; exact hnd.sublist (List.take_sublist ..)
  have nolook : ∀ {y}, (callEnvC fd s.heap.objs.size f).kindOf y ≠ some .free := fun {y} q => hfree _ (lookup_mem q) rfl
  have inPs : ∀ {i : Nat} {y : Str} {v : AV}, nm[i]? = some y → (avs ++ List.replicate k .unb)[i]? = some v → v ≠ .unb → ps[i]? = some y ∧ ∃ u, us[i]? = some u ∧ VR c s.heap v u := by
    intro i y v h1 h2 h3
    by_cases hi : i < avs.length
    · rw [List.getElem?_append_left hi] at h2
      obtain ⟨u, q1, q2⟩ := hv.get h2
      refine ⟨?_, u, q1, q2⟩
      have : i < ps.length := by rw [← hus, hv.length]; exact hi
      rw [hpre, List.getElem?_take_of_lt this]; exact h1
    · rw [List.getElem?_append_right (Nat.le_of_not_lt hi)] at h2
      exact absurd (List.eq_of_mem_replicate (List.mem_of_getElem? h2)) h3
  refine ⟨st, R₁, ⟨rfl, hk, hg, hb⟩, ⟨⟨_, hns, fun i y v h1 h2 h3 h4 => ?_⟩, fun y hy => ?_, fun i y v h1 h2 h3 h4 => ?_, fun n n' a q1 q2 => name_of_addr hap (mem_of_lookup q1) (mem_of_lookup q2), fun a ha => ?_, fun a ha => ?_, fun n a q => ?_⟩, deadN⟩
  · obtain ⟨q1, u, q2, q3⟩ := inPs h1 h2 h3
    exact ⟨u, bindL_zip psnd q1 q2 h4, q3.kept K⟩
  · rcases hy with hy | hy
    · have := cellsFrom_some (n := s.heap.objs.size + 1) (acc := []) (.inr (lookup_mem hy))
      obtain ⟨a, ha⟩ := Option.isSome_iff_exists.mp this
      exact ⟨a, _, ha, hcell y a ha⟩
    · exact absurd hy nolook
  · obtain ⟨q1, u, q2, q3⟩ := inPs h1 h2 h3
    have hc : (callEnvC fd s.heap.objs.size f).kindOf y = some .cell := h4.elim id fun q => absurd q nolook
    have := cellsFrom_some (n := s.heap.objs.size + 1) (acc := []) (.inr (lookup_mem hc))
    obtain ⟨a, ha⟩ := Option.isSome_iff_exists.mp this
    refine ⟨a, u, ha, ?_, q3.kept K⟩
    have := hcell y a ha
    rwa [bindC_zip psnd q1 q2 (by rw [hc]; decide)] at this
  · rcases List.mem_cons.mp ha with rfl | ha
    · obtain ⟨o, _, _, e, _⟩ := hns; exact ⟨o, e⟩
    · obtain ⟨⟨n, b⟩, hp, rfl⟩ := List.mem_map.mp ha
      obtain ⟨o, q, _⟩ := hcell n b (lookup_of_nodup (cellsFrom_nodup _ _ _ (by simpa using hnames)) hp)
      exact ⟨o, q⟩
  · refine ⟨fun q => ?_, fun q => ?_⟩
    · obtain ⟨k', hk'⟩ := List.getElem?_of_mem q
      obtain ⟨_, ob, _, _, g⟩ := R.piLive hk'
      rw [deadN a ha] at g; cases g
    · obtain ⟨o, e⟩ := R.fz a q
      rw [deadN a ha] at e; cases e
  · exact Nat.ne_of_gt (habove n a (mem_of_lookup q))

def retOf : Flow → Value
  | .ret v => v
  | _ => .none
/-- a body that is run in a frame that stands, seen from ahead of the call -/
theorem body_back {env : Env} {c c₁ : Cf} {led' : List AO} {s s₁ s' : Shared} {loc' : List AV} {fl : FL} {r : Flow} {v : AV} {led₁ : List AO} (st : Step [] c s c₁ s₁) (dead : ∀ a ∈ ownOf env, s.heap.get? a = none)
    (h : RS G nm env c₁ s₁ fl loc' led₁ r s') (hf : (fl = .rt v ∨ (fl = .nx ∧ v = .none))) (hl : led₁ = led') : RV G c s v led' (retOf r) s' := by
  subst hl
  obtain ⟨c', st', R', _, x⟩ := h
  refine ⟨c', ?_, R', ?_⟩
  · have z := (st.weaken (own' := ownOf env) (by simp)).trans st'
    exact ⟨z.sh, fun b o e hp _ => z.keep b o e hp fun q => (by rw [dead b q] at e; cases e), z.live, z.pi, z.fz, z.fzn⟩
  · rcases hf with rfl | ⟨rfl, rfl⟩
    · cases x with | rt y => exact y
    · cases x; exact .none

end Mine
end
-- part F5
section
namespace Mine
variable {G : Glo} {nm : List Str} {sc : Scope} {d : Nat}

-- ## arguments
namespace E
def args : List EM → List AV → List AO → Option (List AV × List AO)
  | [], _, led => some ([], led)
  | f :: fs, l, led => match f l led with
    | some (v, led₁) => (match args fs l led₁ with | some (vs, led₂) => some (v :: vs, led₂) | none => none)
    | none => none
end E
inductive SAs (G : Glo) (nm : List Str) (sc : Scope) (d : Nat) : List EM → List Expr → Prop
  | nil : SAs G nm sc d [] []
  | cons {f : EM} {fs : List EM} {e : Expr} {es : List Expr} : SE G nm sc d f e → (∀ env r, starEach (e :: r) env = (false, eval e env) :: starEach r env) → SAs G nm sc d fs es → SAs G nm sc d (f :: fs) (e :: es)
def RVs (G : Glo) (c : Cf) (s : Shared) (vs : List AV) (led : List AO) (us : List Value) (s' : Shared) : Prop := ∃ c', Step [] c s c' s' ∧ GSR G c' led s' ∧ VRs c' s'.heap vs us
theorem SAs.run {fs : List EM} {es : List Expr} (h : SAs G nm sc d fs es) : ∀ {A : Around} {env : Env} {c : Cf} {loc : List AV} {led led' : List AO} {s : Shared} {vs : List AV} {pos : Pos}, GoodA d A → EnvOk sc env → FR nm env c s.heap loc → GSR G c led s →
    E.args fs loc led = some (vs, led') → WP G A (spliced (backTo pos (starEach es env))) (RVs G c s vs led') s := by
  induction h with
  | nil =>
    intro A env c loc led led' s vs pos gA eo F R e
    cases e
    exact Calls.spliced_nil ⟨c, .refl .., R, .nil⟩
  | cons he hst _ ih =>
    intro A env c loc led led' s vs pos gA eo F R e
    unfold E.args at e
    split at e
    · rename_i v l1 q
      split at e
      · rename_i vs' l2 q2
        cases e
        rw [hst]
        refine Calls.spliced_cons ?_
        refine (he A env c loc led s v l1 gA eo F R q).mono fun u s₁ ⟨c₁, st, R₁, hv⟩ => ?_
        refine (ih gA eo (F.step R st) R₁ q2).mono fun us s₂ ⟨c₂, st₂, R₂, hvs⟩ => ?_
        exact ⟨c₂, st.trans st₂, R₂, .cons (hv.kept (st₂.kept0 R₁)) hvs⟩
      · cases e
    · cases e
theorem SAs.plain {fs : List EM} {es : List Expr} (h : SAs G nm sc d fs es) (pos : Pos) (env : Env) : (backTo pos (starEach es env)).any (·.1) = false := by
  induction h with
  | nil => rfl
  | cons _ hst _ ih => rw [hst]; exact ih
theorem evalArgs_all {A : Around} {f : Value} {trees : List (Bool × Sem Value)} {Q : Args → Shared → Prop} {s : Shared} (hp : trees.any (·.1) = false) (h : WP G A (spliced trees) (fun vs s' => Q ⟨vs, []⟩ s') s) : WP G A (evalArgs f true trees []) Q s := by
  cases trees with
  | nil =>
    unfold evalArgs
    show WP G A (spliced [] >>= _) Q s
    refine h.bind fun vs s' h' => ?_
    refine wpAny_holding ?_
    exact wpAny_bind (wpAny_pure (wpAny_bind (wpAny_pure (wpAny_pure h'))))
  | cons x r =>
    obtain ⟨b, t⟩ := x
    cases b with
    | true => simp at hp
    | false => exact Calls.evalArgs_plain h

/-- the callee is a def of the text | a built-in | a type | a class of the text -/
theorem cw_fn {A : Around} {c : Cf} {led : List AO} {pos : Pos} {f : Addr} {o : Obj} {fd : FuncData} {first : List Value} {trees : List (Bool × Sem Value)} {s : Shared} {vs : List AV} {Q : Value → Shared → Prop} (hp : trees.any (·.1) = false) (ho : G.h₀.get? f = some o) (hd : o.data = .func fd)
    (h : WP G A (spliced trees) (RVs G c s vs led) s) (k : ∀ us s', RVs G c s vs led us s' → WP G A (call (.ref f) (first ++ us)) Q s') : WP G A (callWith pos (.ref f) first trees []) Q s := by
  refine Calls.callWith_function (o := o) (fd := fd) (evalArgs_all hp (h.mono fun us s' hr => ?_))
  have ho' : s'.heap.get? f = some o := let ⟨_, _, R', _⟩ := hr; R'.keep _ _ ho
  exact ⟨⟨ho', hd⟩, k us s' hr⟩
theorem cw_builtin {A : Around} {c : Cf} {led : List AO} {pos : Pos} {id : String} {first : List Value} {trees : List (Bool × Sem Value)} {s : Shared} {vs : List AV} {Q : Value → Shared → Prop} (hp : trees.any (·.1) = false)
    (h : WP G A (spliced trees) (RVs G c s vs led) s) (k : ∀ us s', RVs G c s vs led us s' → WP G A (call (.builtin id) (first ++ us)) Q s') : WP G A (callWith pos (.builtin id) first trees []) Q s :=
  Calls.callWith_builtin hp (evalArgs_all hp (h.mono fun us s' hr => k us s' hr))
theorem cw_type {A : Around} {c : Cf} {led : List AO} {pos : Pos} {T : String} {first : List Value} {trees : List (Bool × Sem Value)} {s : Shared} {vs : List AV} {Q : Value → Shared → Prop} (hp : trees.any (·.1) = false)
    (h : WP G A (spliced trees) (RVs G c s vs led) s) (k : ∀ us s', RVs G c s vs led us s' → WP G A (call (.type T) (first ++ us)) Q s') : WP G A (callWith pos (.type T) first trees []) Q s :=
  PyProof.Rows.callWith_type hp (evalArgs_all hp (h.mono fun us s' hr => k us s' hr))

abbrev PN := List AO → List AV → Option (AV × List AO)
def SPN (G : Glo) (d : Nat) (p : PN) (t : List Value → Sem Value) : Prop :=
  ∀ A c led s vs us v led', GoodA d A → GSR G c led s → VRs c s.heap vs us → p led vs = some (v, led') → WP G A (t us) (RV G c s v led') s
namespace E
def call (g : PN) (fs : List EM) : EM := fun l led => match args fs l led with
  | some (vs, led₁) => g led₁ vs
  | none => none
end E
theorem E.call_some {g : PN} {fs : List EM} {l : List AV} {led led' : List AO} {v : AV} (e : E.call g fs l led = some (v, led')) : ∃ vs l1, E.args fs l led = some (vs, l1) ∧ g l1 vs = some (v, led') := by
  unfold E.call at e
  split at e
  · rename_i vs l1 q; exact ⟨vs, l1, q, e⟩
  · cases e
theorem eval_call_name {A : Around} {env : Env} {x : Str} {p pos : Pos} {es : List Expr} {Q : Value → Shared → Prop} {s : Shared} (h : WP G A (eval (.Name x p) env) (fun f s₁ => WP G A (callWith pos f [] (backTo pos (starEach es env)) []) Q s₁) s) : WP G A (eval (.Call (.Name x p) es [] pos) env) Q s :=
  wpAny_bind h
/-- a built-in by its name -/
theorem SE.builtin {x : Str} {p pos : Pos} {id : String} {g : PN} {fs : List EM} {es : List Expr} (hk : sc.names.lookup x = some .globalImplicit) (e : nsIn G.K mainGlobals x = some none) (hv : bootBuiltins x = some (.builtin id)) (hn : x ≠ "__name__") (hd : (x == ("__debug__" : Str)) = false)
    (ha : SAs G nm sc d fs es) (hg : SPN G d g (fun us => PySem.call (.builtin id) us)) : SE G nm sc d (E.call g fs) (.Call (.Name x p) es [] pos) := by
  intro A env c loc led s v led' gA eo F R q
  obtain ⟨vs, l1, q1, q2⟩ := E.call_some q
  refine eval_call_name (built_here eo R hk e hv hn ?_ hd)
  refine cw_builtin (ha.plain _ _) (ha.run gA eo F R q1) fun us s' ⟨c', st, R', hvs⟩ => ?_
  exact (hg A c' l1 s' vs us v led' gA R' hvs q2).mono fun _ _ z => z.after st
theorem SE.type {x : Str} {p pos : Pos} {T : String} {g : PN} {fs : List EM} {es : List Expr} (hk : sc.names.lookup x = some .globalImplicit) (e : nsIn G.K mainGlobals x = some none) (hv : bootBuiltins x = some (.type T)) (hn : x ≠ "__name__") (hd : (x == ("__debug__" : Str)) = false)
    (ha : SAs G nm sc d fs es) (hg : SPN G d g (fun us => PySem.call (.type T) us)) : SE G nm sc d (E.call g fs) (.Call (.Name x p) es [] pos) := by
  intro A env c loc led s v led' gA eo F R q
  obtain ⟨vs, l1, q1, q2⟩ := E.call_some q
  refine eval_call_name (built_here eo R hk e hv hn ?_ hd)
  refine cw_type (ha.plain _ _) (ha.run gA eo F R q1) fun us s' ⟨c', st, R', hvs⟩ => ?_
  exact (hg A c' l1 s' vs us v led' gA R' hvs q2).mono fun _ _ z => z.after st
/-- a def of the text by its name -/
theorem SE.defd {x : Str} {p pos : Pos} {f : Addr} {g : PN} {fs : List EM} {es : List Expr} (hk : sc.names.lookup x = some .globalImplicit) (e : nsIn G.K mainGlobals x = some (some (.ref f))) (hd : (x == ("__debug__" : Str)) = false) (hf : ∃ o fd, G.K.lookup f = some o ∧ o.data = .func fd)
    (ha : SAs G nm sc d fs es) (hg : SPN G d g (fun us => PySem.call (.ref f) us)) : SE G nm sc d (E.call g fs) (.Call (.Name x p) es [] pos) := by
  intro A env c loc led s v led' gA eo F R q
  obtain ⟨vs, l1, q1, q2⟩ := E.call_some q
  obtain ⟨o, fd, ho, hdat⟩ := hf
  refine eval_call_name (glob_here eo R hk e ?_ hd)
  refine cw_fn (ha.plain _ _) (G.X _ _ ho) hdat (ha.run gA eo F R q1) fun us s' ⟨c', st, R', hvs⟩ => ?_
  exact (hg A c' l1 s' vs us v led' gA R' hvs q2).mono fun _ _ z => z.after st
theorem SF.call {g : FM} {f : Addr} (h : SF G d g f) : SPN G d (fun led vs => g vs led) (fun us => PySem.call (.ref f) us) := by
  intro A c led s vs us v led' gA R hv q
  refine wpAny_call (codeAny_mono (h A c led s vs us v led' gA R hv q) fun r s' hr => ?_)
  cases r with
  | error e => exact hr
  | ok fl => cases fl <;> first | exact hr | exact hr.elim

-- ## closed calls: what a call makes is frozen when it comes back
mutual
def closed : AV → Bool
  | .obj _ => false
  | .inst _ _ => false
  | .list xs => closeds xs
  | .tup xs => closeds xs
  | .finst _ fs => closedf fs
  | _ => true
def closeds : List AV → Bool
  | [] => true
  | x :: r => closed x && closeds r
def closedf : List (Nat × AV) → Bool
  | [] => true
  | (_, x) :: r => closed x && closedf r
end
mutual
theorem VR.closed {c c' : Cf} {h : Heap} (hf : ∀ a, c.fz a → c'.fz a) : ∀ {v : AV} {u : Value}, VR c h v u → closed v = true → VR c' h v u
  | _, _, .none, _ => .none
  | _, _, .bool b, _ => .bool b
  | _, _, .int e, _ => .int e
  | _, _, .str, _ => .str
  | _, _, .ty t, _ => .ty t
  | _, _, .top a, _ => .top a
  | _, _, .edict n f e, _ => .edict n (hf _ f) e
  | _, _, .eitems f g e k, _ => .eitems (hf _ f) (hf _ g) e k
  | _, _, .rng f e, _ => .rng (hf _ f) e
  | _, _, .list f l r, q => .list (hf _ f) l (VRs.closed hf r (by unfold Mine.closed at q; exact q))
  | _, _, .tup f l r, q => .tup (hf _ f) l (VRs.closed hf r (by unfold Mine.closed at q; exact q))
  | _, _, .obj _, q => by unfold Mine.closed at q; cases q
  | _, _, .inst _ _ _, q => by unfold Mine.closed at q; cases q
  | _, _, .finst f g e n r, q => .finst (hf _ f) (hf _ g) e n (VRf.closed hf r (by unfold Mine.closed at q; exact q))
theorem VRs.closed {c c' : Cf} {h : Heap} (hf : ∀ a, c.fz a → c'.fz a) : ∀ {xs : List AV} {vs : List Value}, VRs c h xs vs → closeds xs = true → VRs c' h xs vs
  | _, _, .nil, _ => .nil
  | _, _, .cons x r, q => by
    unfold closeds at q
    rw [Bool.and_eq_true] at q
    exact .cons (VR.closed hf x q.1) (VRs.closed hf r q.2)
theorem VRf.closed {c c' : Cf} {h : Heap} (hf : ∀ a, c.fz a → c'.fz a) : ∀ {fs : List (Nat × AV)} {es : List DictEntry}, VRf c h fs es → closedf fs = true → VRf c' h fs es
  | _, _, .nil, _ => .nil
  | _, _, .cons b x r, q => by
    unfold closedf at q
    rw [Bool.and_eq_true] at q
    exact .cons b (VR.closed hf x q.1) (VRf.closed hf r q.2)
end

def mapO (f : AV → Option AV) : List AV → Option (List AV)
  | [] => some []
  | x :: r => match f x with
    | some y => (match mapO f r with | some s => some (y :: s) | none => none)
    | none => none
def mapF (f : AV → Option AV) : List (Nat × AV) → Option (List (Nat × AV))
  | [] => some []
  | (k, x) :: r => match f x with
    | some y => (match mapF f r with | some s => some ((k, y) :: s) | none => none)
    | none => none
def freeze (led : List AO) : Nat → AV → Option AV
  | 0, _ => none
  | n + 1, v => match v with
    | .obj k => (match led[k]? with | some (.list xs) => (match mapO (freeze led n) xs with | some ys => some (.list ys) | none => none) | _ => none)
    | .inst C k => (match led[k]? with | some (.ns fs) => (match mapF (freeze led n) fs with | some ys => some (.finst C ys) | none => none) | _ => none)
    | .list xs => (match mapO (freeze led n) xs with | some ys => some (.list ys) | none => none)
    | .tup xs => (match mapO (freeze led n) xs with | some ys => some (.tup ys) | none => none)
    | .finst C fs => (match mapF (freeze led n) fs with | some ys => some (.finst C ys) | none => none)
    | v => some v
theorem mapO_ok {c c' : Cf} {h : Heap} {f : AV → Option AV} (hf : ∀ {x y u}, VR c h x u → f x = some y → VR c' h y u) : ∀ {xs : List AV} {vs : List Value} {ys : List AV}, VRs c h xs vs → mapO f xs = some ys → VRs c' h ys vs
  | _, _, _, .nil, e => by cases e; exact .nil
  | _, _, _, .cons x r, e => by
    unfold mapO at e
    split at e
    · rename_i y q
      split at e
      · rename_i s q2; cases e; exact .cons (hf x q) (mapO_ok hf r q2)
      · cases e
    · cases e
theorem mapF_ok {c c' : Cf} {h : Heap} {f : AV → Option AV} (hf : ∀ {x y u}, VR c h x u → f x = some y → VR c' h y u) : ∀ {xs : List (Nat × AV)} {es : List DictEntry} {ys : List (Nat × AV)}, VRf c h xs es → mapF f xs = some ys → VRf c' h ys es
  | _, _, _, .nil, e => by cases e; exact .nil
  | _, _, _, .cons b x r, e => by
    unfold mapF at e
    split at e
    · rename_i y q
      split at e
      · rename_i s q2; cases e; exact .cons b (hf x q) (mapF_ok hf r q2)
      · cases e
    · cases e
theorem freeze_ok {c c' : Cf} {led : List AO} {s : Shared} (R : GSR G c led s) (hf : ∀ a, c.fz a → c'.fz a) (hp : ∀ a ∈ c.pi, c'.fz a) : ∀ (n : Nat) {v v' : AV} {u : Value}, VR c s.heap v u → freeze led n v = some v' → VR c' s.heap v' u
  | 0, _, _, _, _, e => by cases e
  | n + 1, v, v', u, hv, e => by
    have ih : ∀ {x y w}, VR c s.heap x w → freeze led n x = some y → VR c' s.heap y w := fun a b => freeze_ok R hf hp n a b
    have pin : ∀ {k : Nat} {a : Addr}, c.pi[k]? = some a → c'.fz a := fun q => hp _ (List.mem_of_getElem? q)
    cases hv with
    | none => cases e; exact .none
    | bool b => cases e; exact .bool b
    | int q => cases e; exact .int q
    | str => cases e; exact .str
    | ty t => cases e; exact .ty t
    | top a => cases e; exact .top a
    | edict n f g => cases e; exact .edict n (hf _ f) g
    | eitems f g x y => cases e; exact .eitems (hf _ f) (hf _ g) x y
    | rng f g => cases e; exact .rng (hf _ f) g
    | list f l r =>
      unfold freeze at e; dsimp only at e
      split at e
      · rename_i ys q; cases e; exact .list (hf _ f) l (mapO_ok ih r q)
      · cases e
    | tup f l r =>
      unfold freeze at e; dsimp only at e
      split at e
      · rename_i ys q; cases e; exact .tup (hf _ f) l (mapO_ok ih r q)
      · cases e
    | obj q =>
      unfold freeze at e; dsimp only at e
      split at e
      · rename_i xs q1
        split at e
        · rename_i ys q2
          cases e
          obtain ⟨a, h1, vs, ⟨h2, hnd⟩, h3⟩ := R.at_ _ _ q1
          rw [q] at h1; cases h1
          exact .list (pin q) h2 (mapO_ok ih h3 q2)
        · cases e
      · cases e
    | inst f g q =>
      unfold freeze at e; dsimp only at e
      split at e
      · rename_i fs q1
        split at e
        · rename_i ys q2
          cases e
          obtain ⟨a, h1, es, n, h2, h3⟩ := R.at_ _ _ q1
          rw [q] at h1; cases h1
          exact .finst (hf _ f) (pin q) g h2 (mapF_ok ih h3 q2)
        · cases e
      · cases e
    | finst f g x m r =>
      unfold freeze at e; dsimp only at e
      split at e
      · rename_i ys q; cases e; exact .finst (hf _ f) (hf _ g) x m (mapF_ok ih r q)
      · cases e

/-- a call on a ledger of its own -/
def closedCall (g : FM) : PN := fun led vs => match closeds vs with
  | true => (match g vs [] with
    | some (v, led₂) => (match freeze led₂ 12 v with | some v' => some (v', led) | none => none)
    | none => none)
  | false => none
theorem SPN.closed {g : FM} {t : List Value → Sem Value} (h : SPN G d (fun led vs => g vs led) t) : SPN G d (closedCall g) t := by
  intro A c led s vs us v led' gA R hv q
  unfold closedCall at q
  split at q
  · rename_i hc
    split at q
    · rename_i v₂ led₂ q1
      split at q
      · rename_i v' q2
        cases q
        have R₁ : GSR G ⟨[], c.fz⟩ [] s := ⟨R.keep, R.base, R.fz, List.nodup_nil, by simp, rfl, fun k o e => by simp at e⟩
        refine (h A ⟨[], c.fz⟩ [] s vs us v₂ led₂ gA R₁ (VRs.closed (c := c) (c' := ⟨[], c.fz⟩) (fun _ x => x) hv hc) q1).mono fun u s' ⟨c₂, st, R₂, hv₂⟩ => ?_
        obtain ⟨l, el, nl⟩ := st.pi
        rw [List.nil_append] at el
        have all : ∀ b o, s.heap.get? b = some o → s'.heap.get? b = some o := fun b o e => st.keep b o e (by simp) (by simp)
        refine ⟨⟨c.pi, fun a => c₂.fz a ∨ a ∈ c₂.pi⟩, ?_, ?_, freeze_ok R₂ (c' := ⟨c.pi, fun a => c₂.fz a ∨ a ∈ c₂.pi⟩) (fun _ x => .inl x) (fun _ x => .inr x) 12 hv₂ q2⟩
        · refine ⟨st.sh, fun b o e _ _ => all b o e, fun b o e => ⟨o, all b o e⟩, ⟨[], by simp, by simp⟩, fun a x => .inl (st.fz a x), fun a x => ?_⟩
          rcases x with x | x
          · exact st.fzn a x
          · exact .inr (nl a (el ▸ x))
        · refine R.grow ⟨st.sh, fun b o e _ _ => all b o e, fun b o e => ⟨o, all b o e⟩, ⟨[], by simp, by simp⟩, fun a x => .inl (st.fz a x), fun a x => ?_⟩ rfl all fun a x => ?_
          · rcases x with x | x
            · exact st.fzn a x
            · exact .inr (nl a (el ▸ x))
          · rcases x with x | x
            · exact R₂.fz a x
            · obtain ⟨k, hk⟩ := List.getElem?_of_mem x
              obtain ⟨_, ob, _, _, g⟩ := R₂.piLive hk
              exact ⟨ob, g⟩
      · cases q
    · cases q
  · cases q
end Mine
end
-- part F6
section
namespace Mine
variable {G : Glo} {nm : List Str} {sc : Scope} {d : Nat}

-- ## iterators
inductive AI where
  | items (xs : List AV)
  | live (k i : Nat)
  | zips (xs : List AV)
def AI.next : AI → List AO → Option (Option (AV × AI))
  | .items [], _ => some none
  | .items (x :: r), _ => some (some (x, .items r))
  | .zips [], _ => some none
  | .zips (x :: r), _ => some (some (x, .zips r))
  | .live k i, led => match led[k]? with
    | some (.list xs) => (match xs[i]? with | some x => some (some (x, .live k (i + 1))) | none => some none)
    | _ => none
def rngItems (x st : Int) : Nat → List AV
  | 0 => []
  | n + 1 => .int x 64 :: rngItems (x + st) st n
def rngOk (x st : Int) (n : Nat) : Prop := ∀ i : Nat, i < n → (x + st * i).natAbs < 2 ^ 64

def zipT : List AV → List AV → List AV
  | x :: xs, y :: ys => .tup [x, y] :: zipT xs ys
  | _, _ => []
inductive ZR (c : Cf) (h : Heap) : List Addr → Addr → Value → List AV → Prop
  | mk {z TI TO i1 i2 l1 l2 : Addr} {k1 k2 : Nat} {vs us : List Value} {xs ys : List AV} {a b f0 : Value} : ZipApart z TI TO i1 i2 l1 l2 → IsZip h z TI TO f0 → IsPair h TI (.ref i1) (.ref i2) → IsPair h TO a b →
      h.IsListIter i1 l1 k1 → h.IsListIter i2 l2 k2 → c.fz l1 → c.fz l2 → h.IsList l1 vs.toArray → h.IsList l2 us.toArray → VRs c h xs (vs.drop k1) → VRs c h ys (us.drop k2) → ZR c h [z, TI, TO, i1, i2] z f0 (zipT xs ys)
inductive IR (c : Cf) (h : Heap) : List Addr → Addr → AI → Prop
  | list {it l : Addr} {i : Nat} {vs : List Value} {xs : List AV} : h.IsListIter it l i → c.fz l → h.IsList l vs.toArray → VRs c h xs (vs.drop i) → IR c h [it] it (.items xs)
  | tup {it l : Addr} {i : Nat} {vs : List Value} {xs : List AV} : h.IsTupleIter it l i → c.fz l → h.IsTuple l vs.toArray → VRs c h xs (vs.drop i) → IR c h [it] it (.items xs)
  | str {it : Addr} {x : Str} {t : Tok} {i : Nat} : h.IsStrIter it "str_ascii_iterator" x t i → IR c h [it] it (.items ((x.cps.toList.drop i).map fun ch => .str [ch]))
  | rng {it : Addr} {x st : Int} {n : Nat} : IsRangeIter h it x n st → rngOk x st n → IR c h [it] it (.items (rngItems x st n))
  | live {it l : Addr} {k i : Nat} : h.IsListIter it l i → c.pi[k]? = some l → IR c h [it] it (.live k i)
  | zip {J : List Addr} {z : Addr} {ps : List AV} : ZR c h J z .none ps → IR c h J z (.zips ps)
  | dict {it d : Addr} {ep : Nat} : IsItemIter h it d 0 0 ep .none .none → c.fz d → h.get? d = some { cls := .type "dict", data := .dict #[] ep } → IR c h [it] it (.items [])
def OwnFree (h : Heap) (it : Addr) : Prop := ∃ o T vs, h.get? it = some o ∧ o.cls = .type T ∧ o.data = .fields vs ∧
    (["enumerate", "zip", "dict_itemiterator", "dict_reverseitemiterator", "odict_iterator", "itertools.zip_longest", "itertools.pairwise"] : List String).contains T = false
theorem own_list {h : Heap} {it l : Addr} {i : Nat} (a : h.IsListIter it l i) : OwnFree h it := by obtain ⟨o, e, q, r⟩ := a; exact ⟨o, _, _, e, q, r, by decide⟩
theorem own_tup {h : Heap} {it l : Addr} {i : Nat} (a : h.IsTupleIter it l i) : OwnFree h it := by obtain ⟨o, e, q, r⟩ := a; exact ⟨o, _, _, e, q, r, by decide⟩
theorem own_str {h : Heap} {it : Addr} {x : Str} {t : Tok} {i : Nat} (a : h.IsStrIter it "str_ascii_iterator" x t i) : OwnFree h it := by obtain ⟨o, e, q, r⟩ := a; exact ⟨o, _, _, e, q, r, by decide⟩
theorem own_rng {h : Heap} {it : Addr} {x st : Int} {n : Nat} (a : IsRangeIter h it x n st) : OwnFree h it := ⟨_, _, _, a, rfl, rfl, by decide⟩
def Busy (c : Cf) (h : Heap) (J : List Addr) (it : Addr) (ai : AI) (u : Value) : Prop := ∃ T ps, ai = .zips ps ∧ u = .ref T ∧ ZR c h J it (rawInt T) ps
def IRb (c : Cf) (h : Heap) (J : List Addr) (it : Addr) (ai : AI) (u : Value) : Prop := (IR c h J it ai ∧ OwnFree h it) ∨ Busy c h J it ai u

structure Nxt (J : List Addr) (c : Cf) (s : Shared) (c' : Cf) (s' : Shared) : Prop where
  sh : ∃ h' tk, s' = { s with heap := h', toks := tk }
  keep : ∀ b o, b ∉ J → s.heap.get? b = some o → s'.heap.get? b = some o
  pi : c'.pi = c.pi
  fz : ∀ a, c.fz a → c'.fz a
  fzn : ∀ a, c'.fz a → c.fz a ∨ s.heap.get? a = none
  fzl : ∀ a, c'.fz a → ∃ o, s'.heap.get? a = some o
structure Off (J : List Addr) (c : Cf) : Prop where
  pi : ∀ a ∈ J, a ∉ c.pi
  fz : ∀ a ∈ J, ¬ c.fz a
theorem Nxt.kept {J : List Addr} {c c' : Cf} {s s' : Shared} (x : Nxt J c s c' s') (o : Off J c) : Kept c s.heap c' s'.heap :=
  ⟨fun a ob f e => x.keep a ob (fun q => o.fz a q f) e, x.fz, fun k a e => by rw [x.pi]; exact e⟩
theorem Nxt.sr {J : List Addr} {c c' : Cf} {led : List AO} {s s' : Shared} (x : Nxt J c s c' s') (o : Off J c) (R : GSR G c led s) : GSR G c' led s' := by
  have K := x.kept o
  refine ⟨fun b ob e => x.keep b ob (fun q => o.fz b q (R.base b ob e)) (R.keep b ob e), fun b ob e => x.fz b (R.base b ob e), x.fzl, x.pi ▸ R.nd, fun a ha q => ?_, by rw [x.pi]; exact R.len, fun k ob e => ?_⟩
  · rw [x.pi] at ha
    rcases x.fzn a q with q | q
    · exact R.off a ha q
    · obtain ⟨k, hk⟩ := List.getElem?_of_mem ha
      obtain ⟨_, ob, _, _, g⟩ := R.piLive hk
      rw [q] at g; cases g
  · obtain ⟨a, h1, h2⟩ := R.at_ k ob e
    exact ⟨a, x.pi ▸ h1, h2.kept K fun ob g => x.keep a ob (fun q => o.pi a q (List.mem_of_getElem? h1)) g⟩
theorem Nxt.fr {J : List Addr} {c c' : Cf} {env : Env} {led : List AO} {loc : List AV} {s s' : Shared} (x : Nxt J c s c' s') (o : Off J c) (R : GSR G c led s) (ho : ∀ a ∈ ownOf env, a ∉ J) (F : FR nm env c s.heap loc) : FR nm env c' s'.heap loc := by
  refine F.kept (x.kept o) (fun a ha ob e => x.keep a ob (ho a ha) e) fun a ha => ⟨by rw [x.pi]; exact (F.off a ha).1, fun q => ?_⟩
  rcases x.fzn a q with q | q
  · exact (F.off a ha).2 q
  · obtain ⟨ob, e⟩ := F.live a ha; rw [q] at e; cases e
/-- from ahead of the loop -/
theorem Step.next {own J : List Addr} {c₀ c c' : Cf} {s₀ s s' : Shared} (x : Step own c₀ s₀ c s) (hJ : ∀ a ∈ J, s₀.heap.get? a = none) (y : Nxt J c s c' s') : Step own c₀ s₀ c' s' := by
  obtain ⟨h1, t1, rfl⟩ := x.sh
  obtain ⟨h2, t2, rfl⟩ := y.sh
  have nj : ∀ {b o}, s₀.heap.get? b = some o → b ∉ J := fun {b o} e q => by rw [hJ b q] at e; cases e
  refine ⟨⟨_, _, rfl⟩, fun b o e hp ho => y.keep b o (nj e) (x.keep b o e hp ho), fun b o e => ?_, ?_, fun a q => y.fz a (x.fz a q), fun a q => ?_⟩
  · obtain ⟨o', e'⟩ := x.live b o e; exact ⟨o', y.keep b o' (nj e) e'⟩
  · obtain ⟨l, el, nl⟩ := x.pi; exact ⟨l, y.pi.trans el, nl⟩
  · rcases y.fzn a q with q | q
    · exact x.fzn a q
    · exact .inr (dead_of x q)

theorem ZR.kept {c c' : Cf} {h h' : Heap} {J : List Addr} {it : Addr} {f0 : Value} {ps : List AV} (x : ZR c h J it f0 ps) (K : Kept c h c' h') (g : ∀ a ∈ J, ∀ o, h.get? a = some o → h'.get? a = some o) : ZR c' h' J it f0 ps := by
  cases x with
  | mk D z p q a b f1 f2 l1 l2 r1 r2 =>
    exact .mk D (g _ (by simp) _ z) (g _ (by simp) _ p) (g _ (by simp) _ q) (a.at fun o e => g _ (by simp) o e) (b.at fun o e => g _ (by simp) o e) (K.fz _ f1) (K.fz _ f2) (isList_kept K f1 l1) (isList_kept K f2 l2) (r1.kept K) (r2.kept K)
theorem ZR.live {c : Cf} {h : Heap} {J : List Addr} {it : Addr} {f0 : Value} {ps : List AV} (x : ZR c h J it f0 ps) : ∀ a ∈ J, ∃ ob, h.get? a = some ob := by
  cases x with
  | mk D z p q a b f1 f2 l1 l2 r1 r2 =>
    obtain ⟨o1, e1, _⟩ := a
    obtain ⟨o2, e2, _⟩ := b
    intro x hx
    simp only [List.mem_cons, List.not_mem_nil, or_false] at hx
    rcases hx with rfl | rfl | rfl | rfl | rfl
    · exact ⟨_, z⟩
    · exact ⟨_, p⟩
    · exact ⟨_, q⟩
    · exact ⟨_, e1⟩
    · exact ⟨_, e2⟩
theorem IR.kept {c c' : Cf} {h h' : Heap} {J : List Addr} {it : Addr} {ai : AI} (x : IR c h J it ai) (K : Kept c h c' h') (g : ∀ a ∈ J, ∀ o, h.get? a = some o → h'.get? a = some o) : IR c' h' J it ai := by
  cases x with
  | list a f l r => exact .list (a.at fun o e => g _ (by simp) o e) (K.fz _ f) (isList_kept K f l) (r.kept K)
  | tup a f l r => exact .tup (let ⟨o, e, q⟩ := a; ⟨o, g _ (by simp) o e, q⟩) (K.fz _ f) (let ⟨o, e, q⟩ := l; ⟨o, K.get _ o f e, q⟩) (r.kept K)
  | str a => exact .str (let ⟨o, e, q⟩ := a; ⟨o, g _ (by simp) o e, q⟩)
  | rng a b => exact .rng (g _ (by simp) _ a) b
  | live a p => exact .live (a.at fun o e => g _ (by simp) o e) (K.pi _ _ p)
  | zip a => exact .zip (a.kept K g)
  | dict a f e => exact .dict (g _ (by simp) _ a) (K.fz _ f) (K.get _ _ f e)
theorem IR.live' {c : Cf} {h : Heap} {J : List Addr} {it : Addr} {ai : AI} (x : IR c h J it ai) : ∀ a ∈ J, ∃ ob, h.get? a = some ob := by
  cases x with
  | list a => obtain ⟨o, e, _⟩ := a; intro b hb; rw [List.mem_singleton] at hb; subst hb; exact ⟨o, e⟩
  | tup a => obtain ⟨o, e, _⟩ := a; intro b hb; rw [List.mem_singleton] at hb; subst hb; exact ⟨o, e⟩
  | str a => obtain ⟨o, e, _⟩ := a; intro b hb; rw [List.mem_singleton] at hb; subst hb; exact ⟨o, e⟩
  | rng a => intro b hb; rw [List.mem_singleton] at hb; subst hb; exact ⟨_, a⟩
  | live a => obtain ⟨o, e, _⟩ := a; intro b hb; rw [List.mem_singleton] at hb; subst hb; exact ⟨o, e⟩
  | zip a => exact a.live
  | dict a => intro b hb; rw [List.mem_singleton] at hb; subst hb; exact ⟨_, a⟩
theorem IRb.live' {c : Cf} {h : Heap} {J : List Addr} {it : Addr} {ai : AI} {u : Value} (x : IRb c h J it ai u) : ∀ a ∈ J, ∃ ob, h.get? a = some ob := by
  rcases x with ⟨x, _⟩ | ⟨T, ps, _, _, x⟩
  · exact x.live'
  · exact x.live
theorem nxt_same {it : Addr} {c : Cf} {s : Shared} {led : List AO} {h' : Heap} {tk : Nat} (R : GSR G c led s) (hf : ¬ c.fz it) (hs : Heap.SameBut it s.heap h') : Nxt [it] c s c { s with heap := h', toks := tk } :=
  ⟨⟨_, _, rfl⟩, fun b o hb e => (hs.2 b fun q => hb (by simp [q])).trans e, rfl, fun _ x => x, fun _ x => .inl x, fun a q => let ⟨o, e⟩ := R.fz a q; ⟨o, (hs.2 a fun z => hf (z ▸ q)).trans e⟩⟩
theorem nxt_ext {it : Addr} {c : Cf} {s : Shared} {led : List AO} {h' : Heap} {tk : Nat} (R : GSR G c led s) (hf : ¬ c.fz it) (hs : Heap.ExtBut it s.heap h') : Nxt [it] c s c { s with heap := h', toks := tk } :=
  ⟨⟨_, _, rfl⟩, fun b o hb e => hs b o (fun q => hb (by simp [q])) e, rfl, fun _ x => x, fun _ x => .inl x, fun a q => let ⟨o, e⟩ := R.fz a q; ⟨o, hs a o (fun z => hf (z ▸ q)) e⟩⟩

def NextP (G : Glo) (c : Cf) (led : List AO) (s : Shared) (J : List Addr) (it : Addr) (r : Option (AV × AI)) (o : Option Value) (s' : Shared) : Prop :=
  ∃ c', Nxt J c s c' s' ∧ match r with
    | none => o = none
    | some (v, ai) => ∃ u, o = some u ∧ VR c' s'.heap v u ∧ IRb c' s'.heap J it ai u
theorem drop_cons {vs : List Value} {i : Nat} {v : Value} {r : List Value} (h : vs.drop i = v :: r) : vs[i]? = some v ∧ vs.drop (i + 1) = r := by
  have h1 : (vs.drop i)[0]? = some v := by rw [h]; rfl
  rw [List.getElem?_drop, Nat.add_zero] at h1
  refine ⟨h1, ?_⟩
  rw [← List.drop_drop, h]; rfl
theorem next_ok {A : Around} {c : Cf} {led : List AO} {s : Shared} {J : List Addr} {it : Addr} {ai : AI} {r : Option (AV × AI)} (hh : A.handled = none) (x : IR c s.heap J it ai) (of : Off J c) (R : GSR G c led s) (e : ai.next led = some r) :
    WP G A (pyNext (.ref it)) (NextP G c led s J it r) s := by
  cases x with
  | @list _ l i vs xs a f b q =>
    have hf := of.fz it (by simp)
    cases xs with
    | nil =>
      cases e
      refine wpAny_pyNext_list_end hh a b ?_ fun h' he => ⟨c, nxt_ext (tk := s.toks) R hf he, rfl⟩
      have := q.length
      simp only [List.length_drop, List.length_nil] at this
      simp; omega
    | cons x xs =>
      cases e
      generalize hd : vs.drop i = ws at q
      cases q with
      | cons y z =>
        obtain ⟨g1, g2⟩ := drop_cons hd
        refine wpAny_pyNext_list_item a b (by simpa using g1) fun h' hit hs => ?_
        have N : Nxt [it] c s c { s with heap := h' } := nxt_same (tk := s.toks) R hf hs
        have K := N.kept of
        exact ⟨c, N, _, rfl, y.kept K, .inl ⟨.list hit f (isList_kept K f b) (g2 ▸ z.kept K), own_list hit⟩⟩
  | @tup _ l i vs xs a f b q =>
    have hf := of.fz it (by simp)
    cases xs with
    | nil =>
      cases e
      refine wpAny_pyNext_tuple_end hh a b ?_ fun h' he => ⟨c, nxt_ext (tk := s.toks) R hf he, rfl⟩
      have := q.length
      simp only [List.length_drop, List.length_nil] at this
      simp; omega
    | cons x xs =>
      cases e
      generalize hd : vs.drop i = ws at q
      cases q with
      | cons y z =>
        obtain ⟨g1, g2⟩ := drop_cons hd
        refine wpAny_pyNext_tuple_item a b (by simpa using g1) fun h' hit hs => ?_
        have N : Nxt [it] c s c { s with heap := h' } := nxt_same (tk := s.toks) R hf hs
        have K := N.kept of
        exact ⟨c, N, _, rfl, y.kept K, .inl ⟨.tup hit f (let ⟨o, e, q⟩ := b; ⟨o, K.get _ o f e, q⟩) (g2 ▸ z.kept K), own_tup hit⟩⟩
  | @str _ x t i a =>
    have hf := of.fz it (by simp)
    cases hd : x.cps.toList.drop i with
    | nil =>
      rw [hd] at e; cases e
      refine wpAny_pyNext_ascii_end hh a ?_ fun h' he => ⟨c, nxt_ext (tk := s.toks) R hf he, rfl⟩
      have := congrArg List.length hd
      simp only [List.length_drop, List.length_nil, Array.length_toList] at this
      simp; omega
    | cons ch r =>
      rw [hd] at e; cases e
      have h1 : (x.cps.toList.drop i)[0]? = some ch := by rw [hd]; rfl
      rw [List.getElem?_drop, Nat.add_zero, Array.getElem?_toList] at h1
      have h2 : x.cps.toList.drop (i + 1) = r := by rw [← List.drop_drop, hd]; rfl
      refine wpAny_pyNext_ascii_item a h1 fun h' hit hs => ?_
      have N : Nxt [it] c s c { s with heap := h', toks := s.toks + 1 } := nxt_same R hf hs
      exact ⟨c, N, _, rfl, .str, .inl ⟨h2 ▸ .str hit, own_str hit⟩⟩
  | @rng _ x st n a b =>
    have hf := of.fz it (by simp)
    cases n with
    | zero =>
      cases e
      exact wpAny_pyNext_range_end hh a (by simp) fun h' he => ⟨c, nxt_ext (tk := s.toks) R hf he, rfl⟩
    | succ n =>
      cases e
      refine wpAny_pyNext_range_item a (by omega) fun h' hit hs => ?_
      have N : Nxt [it] c s c { s with heap := h', toks := s.toks + 1 } := nxt_same R hf hs
      refine ⟨c, N, _, rfl, .int (by simpa using b 0 (Nat.succ_pos _)), .inl ⟨.rng (n := n) (by rw [show (n : Int) = ((n + 1 : Nat) : Int) - 1 from by omega]; exact hit) fun i hi => ?_, own_rng (n := n) (by rw [show (n : Int) = ((n + 1 : Nat) : Int) - 1 from by omega]; exact hit)⟩⟩
      · have := b (i + 1) (Nat.succ_lt_succ hi)
        have e2 : x + st + st * (i : Int) = x + st * ((i + 1 : Nat) : Int) := by rw [Int.natCast_add, Int.mul_add, Int.natCast_one, Int.mul_one]; omega
        rw [e2]; exact this
  | @live _ l k i a p =>
    have hf := of.fz it (by simp)
    dsimp only [AI.next] at e
    split at e
    · rename_i xs hl
      obtain ⟨l', h1, vs, ⟨h2, hnd⟩, h3⟩ := R.at_ _ _ hl
      rw [p] at h1; cases h1
      split at e
      · rename_i y hy
        cases e
        obtain ⟨u, g1, g2⟩ := h3.get hy
        refine wpAny_pyNext_list_item a h2 (by simpa using g1) fun h' hit hs => ?_
        have N : Nxt [it] c s c { s with heap := h' } := nxt_same (tk := s.toks) R hf hs
        exact ⟨c, N, _, rfl, g2.kept (N.kept of), .inl ⟨.live hit p, own_list hit⟩⟩
      · rename_i hy
        cases e
        refine wpAny_pyNext_list_end hh a h2 ?_ fun h' he => ⟨c, nxt_ext (tk := s.toks) R hf he, rfl⟩
        have := h3.length
        rw [List.getElem?_eq_none_iff] at hy
        simp; omega
    · cases e
  | zip a =>
    cases a with
    | @mk z TI TO i1 i2 l1 l2 k1 k2 vs us xs ys a b _ D hz p q it1 it2 f1 f2 q1 q2 r1 r2 =>
      have nx : ∀ h', (∀ c o, c ≠ it → c ≠ TO → c ≠ i1 → c ≠ i2 → s.heap.get? c = some o → h'.get? c = some o) → Nxt [it, TI, TO, i1, i2] c s c { s with heap := h' } := by
        intro h' hk
        have fzl : ∀ a, c.fz a → ∃ o, h'.get? a = some o := fun a q => by
          obtain ⟨o, e⟩ := R.fz a q
          exact ⟨o, hk a o (fun z => of.fz a (by simp [z]) q) (fun z => of.fz a (by simp [z]) q) (fun z => of.fz a (by simp [z]) q) (fun z => of.fz a (by simp [z]) q) e⟩
        exact ⟨⟨_, _, rfl⟩, fun b o hb e => hk b o (fun z => hb (by simp [z])) (fun z => hb (by simp [z])) (fun z => hb (by simp [z])) (fun z => hb (by simp [z])) e, rfl, fun _ x => x, fun _ x => .inl x, fzl⟩
      have stop : (vs.toArray[k1]? = none ∨ us.toArray[k2]? = none) → WP G A (pyNext (.ref it)) (NextP G c led s [it, TI, TO, i1, i2] it none) s := fun hend =>
        wpAny_pyNext_zip_end hh D hz p q it1 it2 q1 q2 hend fun h' hk => ⟨c, nx h' hk, rfl⟩
      cases xs with
      | nil =>
        cases e
        refine stop (.inl ?_)
        have := r1.length
        simp only [List.length_drop, List.length_nil] at this
        simp; omega
      | cons x xs =>
        cases ys with
        | nil =>
          cases e
          refine stop (.inr ?_)
          have := r2.length
          simp only [List.length_drop, List.length_nil] at this
          simp; omega
        | cons y ys =>
          cases e
          generalize hd1 : vs.drop k1 = ws1 at r1
          generalize hd2 : us.drop k2 = ws2 at r2
          cases r1 with
          | cons y1 z1 =>
          cases r2 with
          | cons y2 z2 =>
          obtain ⟨g1, g2⟩ := drop_cons hd1
          obtain ⟨g3, g4⟩ := drop_cons hd2
          refine wpAny_pyNext_zip_item D hz p q it1 it2 q1 q2 (by simpa using g1) (by simpa using g3) fun h' a1 a2 a3 a4 a5 a6 a7 => ?_
          have N := nx h' a7
          have K := N.kept of
          have dead := get_size_none s.heap
          have notJ : s.heap.objs.size ∉ [it, TI, TO, i1, i2] := fun hm => by
            obtain ⟨ob, e⟩ := (IR.zip (ZR.mk D hz p q it1 it2 f1 f2 q1 q2 (hd1 ▸ VRs.cons y1 z1) (hd2 ▸ VRs.cons y2 z2))).live' _ hm
            rw [dead] at e; cases e
          have N' : Nxt [it, TI, TO, i1, i2] c s (c.fzAdd s.heap.objs.size) { s with heap := h' } :=
            ⟨N.sh, N.keep, rfl, fun a x => .inl x, fun a x => x.elim .inl fun e => .inr (e ▸ dead), fun a x => x.elim (N.fzl a) fun e => e ▸ ⟨_, a5⟩⟩
          have K' := N'.kept of
          refine ⟨_, N', _, rfl, .tup (vs := [_, _]) (.inr rfl) ⟨_, a5, rfl, _, rfl⟩ (.cons (y1.kept K') (.cons (y2.kept K') .nil)), .inr ⟨_, _, rfl, rfl, ?_⟩⟩
          exact .mk D a1 (a7 _ _ D.TIz D.TITO D.TIi1 D.TIi2 p) a2 a3 a4 (.inl f1) (.inl f2) (isList_kept K' f1 q1) (isList_kept K' f2 q2) (g2 ▸ z1.kept K') (g4 ▸ z2.kept K')
  | dict a f e0 =>
    cases e
    have of' := of.fz it (by simp)
    exact wpAny_pyNext_items_end (knd := strKind G.prog G.w) (kvs := []) hh a ⟨_, #[], e0, ⟨rfl, rfl, rfl⟩, rfl, fun _ h => by simp at h, .nil, List.nodup_nil⟩ rfl fun h' he => ⟨c, nxt_ext (tk := s.toks) R of' he, rfl⟩
/-- a tuple that is taken apart gives zip its own tuple back -/
theorem letOwn_ok {A : Around} {c : Cf} {led : List AO} {s : Shared} {J : List Addr} {it : Addr} {ai : AI} {target : Expr} {u : Value} {Q : Unit → Shared → Prop} (R : GSR G c led s) (of : Off J c) (x : IRb c s.heap J it ai u) (ht : (∃ es k p, target = .Tuple es k p) ∨ ∀ ps, ai ≠ .zips ps)
    (q : ∀ s', Nxt J c s c s' → IR c s'.heap J it ai → Q () s') : WP G A (letOwnedTupleGo target (.ref it) u) Q s := by
  have same : Nxt J c s c s := ⟨⟨_, _, rfl⟩, fun _ _ _ e => e, rfl, fun _ x => x, fun _ x => .inl x, R.fz⟩
  rcases x with ⟨x, hz⟩ | ⟨T, ps, rfl, rfl, x⟩
  · obtain ⟨o, T, vs, ho, hc, hd, hT⟩ := hz
    have plain : WP G A (pure ()) Q s := wpAny_pure (q s same x)
    unfold letOwnedTupleGo
    split
    · split
      · refine wpAny_bind (wpAny_load (by rename_i h; cases h; exact ho) ?_)
        rw [hc, hd]
        dsimp only
        rw [hT, Bool.false_and]
        exact plain
      · exact plain
    · split
      · refine wpAny_bind (wpAny_load (by rename_i h; cases h; exact ho) ?_)
        rw [hc, hd]
        dsimp only
        rw [hT, Bool.false_and]
        exact plain
      · exact plain
    · exact plain
  · rcases ht with ⟨es, k, p, rfl⟩ | ht
    · cases x with
      | @mk z TI TO i1 i2 l1 l2 k1 k2 vs us xs ys a b _ D hz p q' it1 it2 f1 f2 q1 q2 r1 r2 =>
        refine wpAny_letOwnedTupleGo_zip hz fun h' hz' hs => ?_
        have N : Nxt [it, TI, TO, i1, i2] c s c { s with heap := h' } := by
          have := nxt_same (tk := s.toks) R (of.fz it (by simp)) hs
          exact ⟨this.sh, fun b o hb e => this.keep b o (fun z => hb (by rw [List.mem_singleton] at z; simp [z])) e, rfl, this.fz, this.fzn, this.fzl⟩
        have K := N.kept of
        have ne : ∀ {a}, a ≠ it → ∀ o, s.heap.get? a = some o → h'.get? a = some o := fun hn o e => (hs.2 _ hn).trans e
        exact q _ N (.zip (.mk D hz' (ne D.TIz _ p) (ne D.TOz _ q') (it1.at fun o e => ne D.i1z o e) (it2.at fun o e => ne D.i2z o e) f1 f2 (isList_kept K f1 q1) (isList_kept K f2 q2) (r1.kept K) (r2.kept K)))
    · exact absurd rfl (ht _)
end Mine
end
-- part F7
section
namespace Mine
variable {G : Glo} {nm : List Str} {sc : Scope} {d : Nat}

inductive Tgt where
  | one (i : Nat)
  | tup (is : List Nat)
def setAll : List AV → List Nat → List AV → List AV
  | loc, i :: is, x :: xs => setAll (loc.set i x) is xs
  | loc, _, _ => loc
def Tgt.put : Tgt → List AV → AV → Option (List AV)
  | .one i, loc, v => some (loc.set i v)
  | .tup is, loc, .tup xs => if xs.length = is.length then some (setAll loc is xs) else none
  | _, _, _ => none
inductive NamesOk (nm : List Str) (sc : Scope) : List Nat → List Expr → Prop
  | nil : NamesOk nm sc [] []
  | cons {i : Nat} {is : List Nat} {x : Str} {p : Pos} {es : List Expr} : Slot nm sc i x → NamesOk nm sc is es → NamesOk nm sc (i :: is) (.Name x p :: es)
inductive TgtOk (nm : List Str) (sc : Scope) : Tgt → Expr → Prop
  | one {i : Nat} {x : Str} {p : Pos} : Slot nm sc i x → TgtOk nm sc (.one i) (.Name x p)
  | tup {is : List Nat} {es : List Expr} {k : Nat} {p : Pos} : NamesOk nm sc is es → TgtOk nm sc (.tup is) (.Tuple es k p)

def AsgP (G : Glo) (nm : List Str) (env : Env) (c : Cf) (s : Shared) (led : List AO) (loc : List AV) (s' : Shared) : Prop := ∃ c', Step (ownOf env) c s c' s' ∧ GSR G c' led s' ∧ FR nm env c' s'.heap loc
theorem NamesOk.length {is : List Nat} {es : List Expr} (h : NamesOk nm sc is es) : ∀ env, (assignEach es env).length = is.length := by
  intro env
  induction h with
  | nil => rfl
  | cons _ _ ih => show (assignEach _ env).length + 1 = _; rw [ih]; rfl
theorem NamesOk.plain {is : List Nat} {es : List Expr} (h : NamesOk nm sc is es) : ∀ env, (assignEach es env).findIdx? (·.1) = none := by
  intro env
  induction h with
  | nil => rfl
  | cons _ _ ih =>
    rw [show assignEach (.Name _ _ :: _) env = (false, assign (.Name _ _) env) :: assignEach _ env from rfl, List.findIdx?_cons]
    simp [ih]
theorem NamesOk.run {is : List Nat} {es : List Expr} (h : NamesOk nm sc is es) : ∀ {A : Around} {env : Env} {c : Cf} {loc : List AV} {led : List AO} {s : Shared} {xs : List AV} {us : List Value}, EnvOk sc env → FR nm env c s.heap loc → GSR G c led s → VRs c s.heap xs us → xs.length = is.length →
    WP G A (assignInOrder ((assignEach es env).map (·.2)) us) (fun _ s' => AsgP G nm env c s led (setAll loc is xs) s') s := by
  induction h with
  | nil =>
    intro A env c loc led s xs us eo F R hv hl
    cases hv with
    | nil => exact wpAny_assignInOrder_none ⟨c, .refl .., R, F⟩
    | cons => simp at hl
  | cons sl _ ih =>
    intro A env c loc led s xs us eo F R hv hl
    cases hv with
    | nil => simp at hl
    | cons y z =>
      refine wpAny_assignInOrder_more (wpAny_assign_Name ?_)
      refine store_here eo F R y sl.at_ sl.nd sl.kind fun s₁ st R₁ F₁ => ?_
      refine (ih eo F₁ R₁ (z.kept (st.kept R fun a ha => (F.off a ha).2)) (by simpa using hl)).mono fun _ s₂ ⟨c₂, st₂, R₂, F₂⟩ => ⟨c₂, st.trans st₂, R₂, F₂⟩
theorem TgtOk.run {t : Tgt} {e : Expr} (h : TgtOk nm sc t e) {A : Around} {env : Env} {c : Cf} {loc loc' : List AV} {led : List AO} {s : Shared} {v : AV} {u : Value} (gA : GoodA d A) (eo : EnvOk sc env) (F : FR nm env c s.heap loc) (R : GSR G c led s) (hv : VR c s.heap v u)
    (q : t.put loc v = some loc') : WP G A (assign e env u) (fun _ s' => AsgP G nm env c s led loc' s') s := by
  cases h with
  | one sl =>
    cases q
    exact wpAny_assign_Name (store_here eo F R hv sl.at_ sl.nd sl.kind fun s₁ st R₁ F₁ => ⟨c, st, R₁, F₁⟩)
  | tup ho =>
    unfold Tgt.put at q
    split at q
    · rename_i h1; cases h1
    · rename_i is' loc0 xs h1
      cases h1
      split at q
      · rename_i hl
        cases q
        cases hv with
        | tup f l r =>
          rename_i vs a
          refine wpAny_assign_Tuple gA.hh l ?_ (ho.plain env) fun h' he => ?_
          · rw [ho.length env, ← hl, ← r.length]; simp
          · have st : Step [] c s c { s with heap := h' } := ⟨⟨_, _, rfl⟩, fun b o e _ _ => he b o (fun q => by rw [q, get_size_none] at e; cases e) e, fun b o e => ⟨o, he b o (fun q => by rw [q, get_size_none] at e; cases e) e⟩, ⟨[], by simp, by simp⟩, fun _ x => x, fun _ x => .inl x⟩
            have all : ∀ b o, s.heap.get? b = some o → h'.get? b = some o := fun b o e => he b o (fun q => by rw [q, get_size_none] at e; cases e) e
            have R₁ : GSR G c led { s with heap := h' } := R.grow st rfl all fun a q => let ⟨o, e⟩ := R.fz a q; ⟨o, all a o e⟩
            have e2 : (vs.toArray).toList = vs := by simp
            rw [e2]
            exact (ho.run eo (F.step R st) R₁ (r.kept (st.kept0 R)) hl).mono fun _ s₂ ⟨c₂, st₂, R₂, F₂⟩ => ⟨c₂, st.widen.trans st₂, R₂, F₂⟩
      · cases q
    · cases q

def okT : Tgt → AI → Bool
  | .one _, .zips _ => false
  | _, _ => true
def AI.nextT (t : Tgt) (ai : AI) (led : List AO) : Option (Option (AV × AI)) := match okT t ai with
  | true => ai.next led
  | false => none
theorem nextT_some {t : Tgt} {ai : AI} {led : List AO} {r : Option (AV × AI)} (e : AI.nextT t ai led = some r) : okT t ai = true ∧ ai.next led = some r := by
  unfold AI.nextT at e
  split at e
  · rename_i h; exact ⟨h, e⟩
  · cases e
theorem next_kind {ai ai' : AI} {led : List AO} {v : AV} (e : ai.next led = some (some (v, ai'))) (h : ∀ ps, ai ≠ .zips ps) : ∀ ps, ai' ≠ .zips ps := by
  intro ps q
  subst q
  cases ai with
  | items xs => cases xs <;> cases e
  | live k i =>
    dsimp only [AI.next] at e
    split at e
    · split at e <;> cases e
    · cases e
  | zips xs => exact h _ rfl
theorem own_of {t : Tgt} {target : Expr} {ai ai' : AI} {led : List AO} {v : AV} (ht : (∃ i, t = .one i) ∨ ∃ es k p, target = .Tuple es k p) (h : okT t ai = true) (e : ai.next led = some (some (v, ai'))) : (∃ es k p, target = .Tuple es k p) ∨ ∀ ps, ai' ≠ .zips ps := by
  rcases ht with ⟨i, rfl⟩ | ht
  · refine .inr (next_kind e fun ps q => ?_)
    subst q; cases h
  · exact .inl ht
theorem TgtOk.own {t : Tgt} {target : Expr} (h : TgtOk nm sc t target) : (∃ i, t = .one i) ∨ ∃ es k p, target = .Tuple es k p := by
  cases h with
  | one => exact .inl ⟨_, rfl⟩
  | tup => exact .inr ⟨_, _, _, rfl⟩
-- ## the for statement
def forGo (t : Tgt) (body : SM) : Nat → AI → SM
  | 0, _ => fun _ _ => none
  | n + 1, ai => fun loc led => match AI.nextT t ai led with
    | some none => some (.nx, loc, led)
    | some (some (v, ai')) => (match t.put loc v with
      | some loc₁ => (match body loc₁ led with
        | some (.nx, l, led') => forGo t body n ai' l led'
        | some (.ct, l, led') => forGo t body n ai' l led'
        | some (.bk, l, led') => some (.nx, l, led')
        | some (.rt v, l, led') => some (.rt v, l, led')
        | none => none)
      | none => none)
    | none => none
abbrev IM := List AV → List AO → Option (AI × List AO)
def IterP (G : Glo) (c : Cf) (s : Shared) (ai : AI) (led : List AO) (u : Value) (s' : Shared) : Prop :=
  ∃ it J c', u = .ref it ∧ Step [] c s c' s' ∧ GSR G c' led s' ∧ IR c' s'.heap J it ai ∧ Off J c' ∧ ∀ a ∈ J, s.heap.get? a = none
/-- an iterable: its value, and the iterator over it -/
def SI (G : Glo) (nm : List Str) (sc : Scope) (d : Nat) (f : IM) (e : Expr) : Prop :=
  ∀ A env c loc led s ai led', GoodA d A → EnvOk sc env → FR nm env c s.heap loc → GSR G c led s → f loc led = some (ai, led') →
    WP G A (eval e env) (fun x s₁ => WP G A (pyIter x) (IterP G c s ai led') s₁) s
def S.for (f : IM) (t : Tgt) (body : SM) : SM := fun loc led => match f loc led with
  | some (ai, led') => forGo t body 300 ai loc led'
  | none => none

/-- what stands at the head of each turn -/
def LoopI (G : Glo) (nm : List Str) (env : Env) (t : Tgt) (body : SM) (c₀ : Cf) (s₀ : Shared) (it : Addr) (J : List Addr) (fl : FL) (loc' : List AV) (led' : List AO) (n : Nat) (s : Shared) : Prop :=
  ∃ c loc led ai, Step (ownOf env) c₀ s₀ c s ∧ GSR G c led s ∧ FR nm env c s.heap loc ∧ IR c s.heap J it ai ∧ Off J c ∧ forGo t body n ai loc led = some (fl, loc', led')

theorem Off.step {own J : List Addr} {c c' : Cf} {s s' : Shared} (o : Off J c) (x : Step own c s c' s') (hl : ∀ a ∈ J, ∃ ob, s.heap.get? a = some ob) : Off J c' := by
  refine ⟨fun a ha q => ?_, fun a ha q => ?_⟩
  · obtain ⟨l, el, nl⟩ := x.pi
    rw [el] at q
    rcases List.mem_append.mp q with q | q
    · exact o.pi a ha q
    · obtain ⟨ob, e⟩ := hl a ha; rw [nl a q] at e; cases e
  · rcases x.fzn a q with q | q
    · exact o.fz a ha q
    · obtain ⟨ob, e⟩ := hl a ha; rw [q] at e; cases e
theorem Off.nxt {J : List Addr} {c c' : Cf} {s s' : Shared} (o : Off J c) (x : Nxt J c s c' s') (hl : ∀ a ∈ J, ∃ ob, s.heap.get? a = some ob) : Off J c' :=
  ⟨fun a ha q => o.pi a ha (x.pi ▸ q), fun a ha q => by
    rcases x.fzn a q with q | q
    · exact o.fz a ha q
    · obtain ⟨ob, e⟩ := hl a ha; rw [q] at e; cases e⟩

theorem for_ok {t : Tgt} {target : Expr} {body : SM} {sts : List Stmt} (ht : TgtOk nm sc t target) (hb : SB G nm sc d body sts) {A : Around} {env : Env} {c₀ : Cf} {s₀ : Shared} {it : Addr} {J : List Addr} {fl : FL} {loc' : List AV} {led' : List AO}
    (gA : GoodA d A) (eo : EnvOk sc env) (ho : ∀ a ∈ ownOf env, a ∉ J) (hJ : ∀ a ∈ J, s₀.heap.get? a = none) {R : Result → Shared → Prop} (hR : ∀ r s', RS G nm env c₀ s₀ fl loc' led' r s' → R (.ok r) s') (n : Nat) {s : Shared} (h : LoopI G nm env t body c₀ s₀ it J fl loc' led' n s) :
    codeAny (model G.prog G.w) A (.forLoop target (.ref it) sts [] env) R s := by
  refine codeAny_forLoop_any (LoopI G nm env t body c₀ s₀ it J fl loc' led') (fun n s hI => ?_) n h
  obtain ⟨c, loc, led, ai, st, Rc, F, X, of, e⟩ := hI
  cases n with
  | zero => cases e
  | succ n =>
    unfold forGo at e
    split at e
    · rename_i q
      cases e
      refine wpAny_mono (next_ok gA.hh X of Rc (nextT_some q).2) (fun o s₁ hz => ?_) fun _ _ x => x.elim
      obtain ⟨c₁, N, rfl⟩ := hz
      refine wpAny_execs_nil (hR _ _ ⟨c₁, st.next hJ N, N.sr of Rc, N.fr of Rc ho F, .nx⟩)
    · rename_i v ai' q
      split at e
      · rename_i loc₁ q1
        obtain ⟨hk, q⟩ := nextT_some q
        refine wpAny_mono (next_ok gA.hh X of Rc q) (fun o s₀' hz => ?_) fun _ _ x => x.elim
        obtain ⟨c₁, N, u, rfl, hv, X₀⟩ := hz
        have of₁ := of.nxt N X.live'
        have R₀ := N.sr of Rc
        have F₀ := N.fr of Rc ho F
        have st₀ := st.next hJ N
        refine wpAny_mono (letOwn_ok (G := G) (A := A) (Q := fun _ s' => Nxt J c₁ s₀' c₁ s' ∧ IR c₁ s'.heap J it ai') R₀ of₁ X₀ (own_of ht.own hk q) fun s' a b => ⟨a, b⟩) (fun _ s₁ hz => ?_) fun _ _ x => x.elim
        obtain ⟨N₁, X₁⟩ := hz
        have R₁ := N₁.sr of₁ R₀
        have F₁ := N₁.fr of₁ R₀ ho F₀
        have st₁ := st₀.next hJ N₁
        have hv := hv.kept (N₁.kept of₁)
        refine wpAny_mono (ht.run gA eo F₁ R₁ hv q1) (fun _ s₂ hz => ?_) fun _ _ x => x.elim
        obtain ⟨c₂, st₂, R₂, F₂⟩ := hz
        have of₂ := of₁.step st₂ X₁.live'
        have keepJ : ∀ {c c' : Cf} {s s' : Shared}, Off J c → Step (ownOf env) c s c' s' → ∀ a ∈ J, ∀ ob, s.heap.get? a = some ob → s'.heap.get? a = some ob := fun o x a ha ob e => x.keep a ob e (o.pi a ha) fun q => ho a q ha
        have X₂ := X₁.kept (st₂.kept R₁ fun a ha => (F₁.off a ha).2) (keepJ of₁ st₂)
        have go : ∀ {fl₁ : FL} {l₃ : List AV} {led₃ : List AO}, body loc₁ led = some (fl₁, l₃, led₃) → (∀ r s₃, RS G nm env c₂ s₂ fl₁ l₃ led₃ r s₃ → match r with
            | .next | .cont => ∃ m, m < n + 1 ∧ LoopI G nm env t body c₀ s₀ it J fl loc' led' m s₃
            | .brk => R (.ok .next) s₃
            | .ret v => R (.ok (.ret v)) s₃) → wpAny (model G.prog G.w) A (execs sts env) (fun f s₃ => match f with
            | .next | .cont => ∃ m, m < n + 1 ∧ LoopI G nm env t body c₀ s₀ it J fl loc' led' m s₃
            | .brk => R (.ok .next) s₃
            | .ret v => R (.ok (.ret v)) s₃) (notedBy (model G.prog G.w) A env fun e s' => R (.error e) s') s₂ := by
          intro fl₁ l₃ led₃ hbd k
          exact wpAny_mono (hb A env c₂ loc₁ led s₂ fl₁ l₃ led₃ gA eo F₂ R₂ hbd) k fun _ _ x => x.elim
        split at e
        · rename_i l₃ led₃ q2
          refine go q2 fun r s₃ hz => ?_
          obtain ⟨c₃, st₃, R₃, F₃, x⟩ := hz
          cases x
          exact ⟨n, Nat.lt_succ_self _, c₃, l₃, led₃, ai', (st₁.trans st₂).trans st₃, R₃, F₃, X₂.kept (st₃.kept R₂ fun a ha => (F₂.off a ha).2) (keepJ of₂ st₃), of₂.step st₃ X₂.live', e⟩
        · rename_i l₃ led₃ q2
          refine go q2 fun r s₃ hz => ?_
          obtain ⟨c₃, st₃, R₃, F₃, x⟩ := hz
          cases x
          exact ⟨n, Nat.lt_succ_self _, c₃, l₃, led₃, ai', (st₁.trans st₂).trans st₃, R₃, F₃, X₂.kept (st₃.kept R₂ fun a ha => (F₂.off a ha).2) (keepJ of₂ st₃), of₂.step st₃ X₂.live', e⟩
        · rename_i l₃ led₃ q2
          cases e
          refine go q2 fun r s₃ hz => ?_
          obtain ⟨c₃, st₃, R₃, F₃, x⟩ := hz
          cases x
          exact hR _ _ ⟨c₃, (st₁.trans st₂).trans st₃, R₃, F₃, .nx⟩
        · rename_i v l₃ led₃ q2
          cases e
          refine go q2 fun r s₃ hz => ?_
          obtain ⟨c₃, st₃, R₃, F₃, x⟩ := hz
          cases x with
          | rt y => exact hR _ _ ⟨c₃, (st₁.trans st₂).trans st₃, R₃, F₃, .rt y⟩
        · cases e
      · cases e
    · cases e
theorem SS.for {f : IM} {t : Tgt} {body : SM} {target iter : Expr} {sts : List Stmt} {pos : Pos} (hi : SI G nm sc d f iter) (ht : TgtOk nm sc t target) (hb : SB G nm sc d body sts) (hs : ∀ env x, foldedSetIterable iter env x = pure x) :
    SS G nm sc d (S.for f t body) (.For target iter sts [] pos) := by
  intro A env c loc led s fl loc' led' gA eo F R q
  unfold S.for at q
  split at q
  · rename_i ai l1 h1
    refine wpAny_For ?_ (hs env)
    refine (hi A env c loc led s ai l1 gA eo F R h1).mono fun x s₁ hz => WP.mono hz fun it s₂ hz => ?_
    obtain ⟨a, J, c₂, rfl, st, R₂, X, of, hJ⟩ := hz
    have ho : ∀ b ∈ ownOf env, b ∉ J := fun b hb hj => by obtain ⟨o, e⟩ := F.live b hb; rw [hJ b hj] at e; cases e
    exact for_ok ht hb gA eo ho hJ (fun r s' h => h) 300 ⟨c₂, loc, l1, ai, st.widen, R₂, F.step R st, X, of, q⟩
  · cases q
end Mine
end
-- part F8
section
namespace Mine
variable {G : Glo} {nm : List Str} {sc : Scope} {d : Nat}

-- ## comprehensions: the tree
theorem compTurn_two0 (elt t0 i0 t1 i1 : Expr) (f0 f1 : List Expr) (scope : Scope) (pos : Pos) (it acc : Value) (env : Env) :
    compTurn (.ListComp elt [⟨t0, i0, f0, 0⟩, ⟨t1, i1, f1, 0⟩] scope pos) 0 it acc env = (do
      standAt i0.pos
      match ← pyNext it with
      | none => pure (.done .next)
      | some v =>
        letOwnedTupleGo t0 it v
        assign t0 env v
        let mut ok := true
        for c in f0 do
          if ok then ok ← isTrue c env (eval c env)
        if ok then
          let x ← eval i1 env
          standAt i1.pos
          let x ← foldedSetIterable i1 env x
          let _ ← runOwn (.compStart (.ListComp elt [⟨t0, i0, f0, 0⟩, ⟨t1, i1, f1, 0⟩] scope pos) 1 (← holding [x] (pyIter x)) acc env) env
        again (.compLoop (.ListComp elt [⟨t0, i0, f0, 0⟩, ⟨t1, i1, f1, 0⟩] scope pos) 0 it acc env)) := by rfl
theorem compTurn_two1 (elt t0 i0 t1 i1 : Expr) (f0 f1 : List Expr) (scope : Scope) (pos : Pos) (it acc : Value) (env : Env) :
    compTurn (.ListComp elt [⟨t0, i0, f0, 0⟩, ⟨t1, i1, f1, 0⟩] scope pos) 1 it acc env = (do
      standAt i1.pos
      match ← pyNext it with
      | none => pure (.done .next)
      | some v =>
        letOwnedTupleGo t1 it v
        assign t1 env v
        let mut ok := true
        for c in f1 do
          if ok then ok ← isTrue c env (eval c env)
        if ok then
          (do let _ ← call (.builtin "list.append") [acc, ← eval elt env])
        again (.compLoop (.ListComp elt [⟨t0, i0, f0, 0⟩, ⟨t1, i1, f1, 0⟩] scope pos) 1 it acc env)) := by rfl

abbrev testsOf (ifs : List Expr) (env : Env) : Sem Bool := forIn ifs true fun c r => if r = true then do let ok ← isTrue c env (eval c env); pure (ForInStep.yield ok) else pure (ForInStep.yield r)
section
variable {prog : Program} {w : World} {A : Around} {R : Result → Shared → Prop} {s : Shared}
abbrev nofail : Value → Shared → Prop := fun _ _ => False
theorem fromNofail {α : Type} {M : Model} {A : Around} {t : Sem α} {Q : α → Shared → Prop} {E : Value → Shared → Prop} {s : Shared} (h : wpAny M A t Q nofail s) : wpAny M A t Q E s := wpAny_mono h (fun _ _ x => x) fun _ _ x => x.elim
/-- the turn of a clause, whatever it does with what passed the tests -/
theorem codeAny_turn {elt : Expr} {gens : List Comprehension} {scope : Scope} {pos : Pos} {k : Nat} {it acc : Value} {env : Env} {target : Expr} {ifs : List Expr} {ipos : Pos} {act : Sem PUnit}
    (heq : compTurn (.ListComp elt gens scope pos) k it acc env = (do
      standAt ipos
      match ← pyNext it with
      | none => pure (.done .next)
      | some v =>
        letOwnedTupleGo target it v
        assign target env v
        let ok ← testsOf ifs env
        if ok then act
        again (.compLoop (.ListComp elt gens scope pos) k it acc env))) (I : Nat → Shared → Prop)
    (turn : ∀ n s, I n s → wpAny (model prog w) A (pyNext it) (fun r s₁ => match r with
      | none => R (.ok .next) s₁
      | some v => wpAny (model prog w) A (letOwnedTupleGo target it v) (fun _ s₁' => wpAny (model prog w) A (assign target env v) (fun _ s₂ =>
          wpAny (model prog w) A (testsOf ifs env) (fun ok s₃ => if ok = true then wpAny (model prog w) A act (fun _ s₄ => ∃ m, m < n ∧ I m s₄) nofail s₃ else ∃ m, m < n ∧ I m s₃) nofail s₂) nofail s₁') nofail s₁) nofail s)
    (n : Nat) (h : I n s) : codeAny (model prog w) A (.compLoop (.ListComp elt gens scope pos) k it acc env) R s := by
  refine codeAny_loop rfl I (fun n s hI => ?_) n h
  show wpAny _ A ((compTurn (.ListComp elt gens scope pos) k it acc env).onRaise (fun x => do noteFrame x env; theTreesLotGoes x)) _ _ s
  refine wpAny_noted ?_
  rw [heq]
  refine wpAny_bind (wpAny_standAt (wpAny_bind (wpAny_mono (turn n s hI) (fun r s₁ h₁ => ?_) fun _ _ x => x.elim)))
  cases r with
  | none => exact wpAny_pure h₁
  | some v =>
    refine wpAny_bind (wpAny_mono h₁ (fun _ s₁' h₁' => ?_) fun _ _ x => x.elim)
    refine wpAny_bind (wpAny_mono h₁' (fun _ s₂ h₂ => wpAny_bind (wpAny_mono h₂ (fun ok s₃ h₃ => ?_) fun _ _ x => x.elim)) fun _ _ x => x.elim)
    cases ok with
    | false => exact wpAny_pure ⟨rfl, h₃⟩
    | true => exact wpAny_bind (wpAny_mono h₃ (fun _ s₄ h₄ => wpAny_pure ⟨rfl, h₄⟩) fun _ _ x => x.elim)
theorem codeAny_compStart_at {elt : Expr} {gens : List Comprehension} {scope : Scope} {pos : Pos} {k : Nat} {it acc : Value} {env : Env} (ha : ((gens[k]?).elim false (·.is_async != 0)) = false)
    (h0 : codeAny (model prog w) A (.compLoop (.ListComp elt gens scope pos) k it acc env) R s)
    (h : wpAny (model prog w) A (pyIter it) (fun it' s' => codeAny (model prog w) A (.compLoop (.ListComp elt gens scope pos) k it' acc env) R s') nofail s) :
    codeAny (model prog w) A (.compStart (.ListComp elt gens scope pos) k it acc env) R s := by
  refine codeAny_of_tree ?_
  show wpAny _ A ((compStart (.ListComp elt gens scope pos) k it acc env).onRaise (fun x => do noteFrame x env; standAt theWindowsPlace)) _ _ s
  refine wpAny_notedAt ?_
  unfold compStart
  rw [show (((clausesOf (.ListComp elt gens scope pos))[k]?).elim false fun x => x.is_async != 0) = false from ha]
  show wpAny _ A (ask >>= _) _ _ s
  refine wpAny_bind (wpAny_askSetting (wpAny_ite ?_))
  split
  · first
      | exact wpAny_bind (wpAny_pure (wpAny_pure (And.intro rfl h0)))
      | exact wpAny_pure (And.intro rfl h0)
  · refine wpAny_bind (wpAny_rule ?_)
    have fin : wpAny (model prog w) A (pyIter it >>= fun it' => again (.compLoop (.ListComp elt gens scope pos) k it' acc env)) (fun fin s' => match fin with | .done f => R (.ok f) s' | .again c' => c'.quiet = true ∧ codeAny (model prog w) A c' R s') (notedBy (model prog w) A env fun e s' => R (.error e) s') s :=
      wpAny_bind (wpAny_mono h (fun it' s' h' => wpAny_pure (And.intro rfl h')) fun _ _ x => x.elim)
    split
    · exact wpAny_bind (wpAny_standAt fin)
    · exact fin
end

-- ## targets of a comprehension: locals alone
structure SlotL (nm : List Str) (sc : Scope) (i : Nat) (x : Str) : Prop where
  at_ : nm[i]? = some x
  nd : nm.Nodup
  kind : sc.names.lookup x = some .local
theorem store_local {A : Around} {env : Env} {c : Cf} {loc : List AV} {led : List AO} {s : Shared} {v : AV} {u : Value} {i : Nat} {x : Str} {Q : Unit → Shared → Prop} (eo : EnvOk sc env) (F : FR nm env c s.heap loc) (R : GSR G c led s) (hv : VR c s.heap v u)
    (sl : SlotL nm sc i x) (h : ∀ s', Step [env.locals] c s c s' → GSR G c led s' → FR nm env c s'.heap (loc.set i v) → Q () s') : WP G A (storeName env x u) Q s := by
  have ek : env.kindOf x = sc.names.lookup x := by show env.scope.names.lookup x = _; rw [eo.scope]
  have hf : env.scope.kind = .function := by rw [eo.scope]; exact eo.kind
  have hk' : env.kindOf x = some .local := ek.trans sl.kind
  have slot : ∀ {j : Nat} {y : Str} {v' : AV}, nm[j]? = some y → (loc.set i v)[j]? = some v' → (j = i ∧ y = x ∧ v' = v) ∨ (y ≠ x ∧ loc[j]? = some v') := by
    intro j y v' h1 h2
    by_cases hj : j = i
    · subst hj
      rw [sl.at_] at h1
      refine .inl ⟨rfl, (Option.some.inj h1).symm, ?_⟩
      rw [List.getElem?_set_self'] at h2
      cases q : loc[j]? with
      | none => rw [q] at h2; cases h2
      | some z => rw [q] at h2; exact (Option.some.inj h2).symm
    · refine .inr ⟨fun q => ?_, ?_⟩
      · subst q; exact hj (nodup_name sl.nd h1 sl.at_)
      · rwa [List.getElem?_set_ne (Ne.symm hj)] at h2
  obtain ⟨m, hm, hvs⟩ := F.ns
  have hL : env.locals ∈ ownOf env := List.mem_cons_self ..
  refine wpAny_storeName_local hk' hm (fun h' hn' hs => ?_) (by rw [hf]; rfl)
  have hlive : ∃ o, h'.get? env.locals = some o := let ⟨o, _, _, e, _⟩ := hn'; ⟨o, e⟩
  have st : Step [env.locals] c s c { s with heap := h', toks := s.toks + 1 } := by
    refine ⟨⟨_, _, rfl⟩, fun a o e _ ho => (hs.2 a fun q => ho (by simp [q])).trans e, fun a o e => ?_, ⟨[], by simp, by simp⟩, fun _ x => x, fun _ x => .inl x⟩
    by_cases q : a = env.locals
    · subst q; exact hlive
    · exact ⟨o, (hs.2 a q).trans e⟩
  have off : ∀ a ∈ [env.locals], a ∉ c.pi ∧ ¬ c.fz a := fun a ha => by rw [List.mem_singleton] at ha; subst ha; exact F.off _ hL
  have K : Kept c s.heap c h' := st.kept R fun a ha => (off a ha).2
  have cell : ∀ {n a w}, env.cells.lookup n = some a → s.heap.IsCell a w → h'.IsCell a w := fun hl hc => hc.sameBut hs (F.ne _ _ hl)
  refine h _ st (R.grow' st rfl off (fun b o e ho => (hs.2 b fun q => ho (by simp [q])).trans e) fun a q => let ⟨o, e⟩ := R.fz a q; ⟨o, (hs.2 a fun z => (F.off _ hL).2 (z ▸ q)).trans e⟩)
    ⟨⟨_, hn', fun j y v' h1 h2 h3 h4 => ?_⟩, fun n q => ?_, fun j y v' h1 h2 h3 h4 => ?_, F.inj, fun a ha => ?_, F.off, F.ne⟩
  · rcases slot h1 h2 with ⟨_, rfl, rfl⟩ | ⟨hne, h2'⟩
    · exact ⟨u, by simp, hv.kept K⟩
    · obtain ⟨u', q1, q2⟩ := hvs j y v' h1 h2' h3 h4
      exact ⟨u', by simp [hne, q1], q2.kept K⟩
  · obtain ⟨a, w, g1, g2⟩ := F.cel n q; exact ⟨a, w, g1, cell g1 g2⟩
  · rcases slot h1 h2 with ⟨_, rfl, rfl⟩ | ⟨hne, h2'⟩
    · rw [hk'] at h4; rcases h4 with h4 | h4 <;> cases h4
    · obtain ⟨a, u', g1, g2, g3⟩ := F.celv j y v' h1 h2' h3 h4; exact ⟨a, u', g1, cell g1 g2, g3.kept K⟩
  · by_cases q : a = env.locals
    · subst q; exact hlive
    · obtain ⟨o, e⟩ := F.live a ha; exact ⟨o, (hs.2 a q).trans e⟩
inductive NamesL (nm : List Str) (sc : Scope) : List Nat → List Expr → Prop
  | nil : NamesL nm sc [] []
  | cons {i : Nat} {is : List Nat} {x : Str} {p : Pos} {es : List Expr} : SlotL nm sc i x → NamesL nm sc is es → NamesL nm sc (i :: is) (.Name x p :: es)
inductive TgtL (nm : List Str) (sc : Scope) : Tgt → Expr → Prop
  | one {i : Nat} {x : Str} {p : Pos} : SlotL nm sc i x → TgtL nm sc (.one i) (.Name x p)
  | tup {is : List Nat} {es : List Expr} {k : Nat} {p : Pos} : NamesL nm sc is es → TgtL nm sc (.tup is) (.Tuple es k p)
theorem TgtL.own {t : Tgt} {target : Expr} (h : TgtL nm sc t target) : (∃ i, t = .one i) ∨ ∃ es k p, target = .Tuple es k p := by
  cases h with
  | one => exact .inl ⟨_, rfl⟩
  | tup => exact .inr ⟨_, _, _, rfl⟩
def AsgL (G : Glo) (nm : List Str) (env : Env) (c : Cf) (s : Shared) (led : List AO) (loc : List AV) (s' : Shared) : Prop := ∃ c', Step [env.locals] c s c' s' ∧ GSR G c' led s' ∧ FR nm env c' s'.heap loc
theorem NamesL.length {is : List Nat} {es : List Expr} (h : NamesL nm sc is es) : ∀ env, (assignEach es env).length = is.length := by
  intro env
  induction h with
  | nil => rfl
  | cons _ _ ih => show (assignEach _ env).length + 1 = _; rw [ih]; rfl
theorem NamesL.plain {is : List Nat} {es : List Expr} (h : NamesL nm sc is es) : ∀ env, (assignEach es env).findIdx? (·.1) = none := by
  intro env
  induction h with
  | nil => rfl
  | cons _ _ ih =>
    rw [show assignEach (.Name _ _ :: _) env = (false, assign (.Name _ _) env) :: assignEach _ env from rfl, List.findIdx?_cons]
    simp [ih]
theorem FR.offL {env : Env} {c : Cf} {h : Heap} {loc : List AV} (F : FR nm env c h loc) : ∀ a ∈ [env.locals], ¬ c.fz a := fun a ha => by rw [List.mem_singleton] at ha; subst ha; exact (F.off _ (List.mem_cons_self ..)).2
theorem NamesL.run {is : List Nat} {es : List Expr} (h : NamesL nm sc is es) : ∀ {A : Around} {env : Env} {c : Cf} {loc : List AV} {led : List AO} {s : Shared} {xs : List AV} {us : List Value}, EnvOk sc env → FR nm env c s.heap loc → GSR G c led s → VRs c s.heap xs us → xs.length = is.length →
    WP G A (assignInOrder ((assignEach es env).map (·.2)) us) (fun _ s' => AsgL G nm env c s led (setAll loc is xs) s') s := by
  induction h with
  | nil =>
    intro A env c loc led s xs us eo F R hv hl
    cases hv with
    | nil => exact wpAny_assignInOrder_none ⟨c, .refl .., R, F⟩
    | cons => simp at hl
  | cons sl _ ih =>
    intro A env c loc led s xs us eo F R hv hl
    cases hv with
    | nil => simp at hl
    | cons y z =>
      refine wpAny_assignInOrder_more (wpAny_assign_Name ?_)
      refine store_local eo F R y sl fun s₁ st R₁ F₁ => ?_
      refine (ih eo F₁ R₁ (z.kept (st.kept R F.offL)) (by simpa using hl)).mono fun _ s₂ ⟨c₂, st₂, R₂, F₂⟩ => ⟨c₂, st.trans st₂, R₂, F₂⟩
theorem TgtL.run {t : Tgt} {e : Expr} (h : TgtL nm sc t e) {A : Around} {env : Env} {c : Cf} {loc loc' : List AV} {led : List AO} {s : Shared} {v : AV} {u : Value} (gA : GoodA d A) (eo : EnvOk sc env) (F : FR nm env c s.heap loc) (R : GSR G c led s) (hv : VR c s.heap v u)
    (q : t.put loc v = some loc') : WP G A (assign e env u) (fun _ s' => AsgL G nm env c s led loc' s') s := by
  cases h with
  | one sl =>
    cases q
    exact wpAny_assign_Name (store_local eo F R hv sl fun s₁ st R₁ F₁ => ⟨c, st, R₁, F₁⟩)
  | tup ho =>
    unfold Tgt.put at q
    split at q
    · rename_i h1; cases h1
    · rename_i is' loc0 xs h1
      cases h1
      split at q
      · rename_i hl
        cases q
        cases hv with
        | tup f l r =>
          rename_i vs a
          refine wpAny_assign_Tuple gA.hh l ?_ (ho.plain env) fun h' he => ?_
          · rw [ho.length env, ← hl, ← r.length]; simp
          · have st : Step [] c s c { s with heap := h' } := ⟨⟨_, _, rfl⟩, fun b o e _ _ => he b o (fun q => by rw [q, get_size_none] at e; cases e) e, fun b o e => ⟨o, he b o (fun q => by rw [q, get_size_none] at e; cases e) e⟩, ⟨[], by simp, by simp⟩, fun _ x => x, fun _ x => .inl x⟩
            have all : ∀ b o, s.heap.get? b = some o → h'.get? b = some o := fun b o e => he b o (fun q => by rw [q, get_size_none] at e; cases e) e
            have R₁ : GSR G c led { s with heap := h' } := R.grow st rfl all fun a q => let ⟨o, e⟩ := R.fz a q; ⟨o, all a o e⟩
            have e2 : (vs.toArray).toList = vs := by simp
            rw [e2]
            exact (ho.run eo (F.step R st) R₁ (r.kept (st.kept0 R)) hl).mono fun _ s₂ ⟨c₂, st₂, R₂, F₂⟩ => ⟨c₂, st.widen.trans st₂, R₂, F₂⟩
      · cases q
    · cases q

-- ## the evaluator of a comprehension
abbrev AM := List AV → List AO → List AV → Option (List AV × List AO × List AV)
def cgLoop (t : Tgt) (act : AM) : Nat → AI → AM
  | 0, _ => fun _ _ _ => none
  | n + 1, ai => fun loc led acc => match AI.nextT t ai led with
    | some none => some (loc, led, acc)
    | some (some (v, ai')) => (match t.put loc v with
      | some loc₁ => (match act loc₁ led acc with
        | some (loc₂, led₂, acc₂) => cgLoop t act n ai' loc₂ led₂ acc₂
        | none => none)
      | none => none)
    | none => none
def allT : List TM → TM
  | [], _, led => some (true, led)
  | f :: fs, l, led => match f l led with
    | some (true, led') => allT fs l led'
    | some (false, led') => some (false, led')
    | none => none
def actLast (ifs : List TM) (elt : EM) : AM := fun loc led acc => match allT ifs loc led with
  | some (true, led₁) => (match elt loc led₁ with
    | some (v, led₂) => (match Nat.ble acc.length 10000 with | true => some (loc, led₂, acc ++ [v]) | false => none)
    | none => none)
  | some (false, led₁) => some (loc, led₁, acc)
  | none => none
def actMore (ifs : List TM) (f : IM) (t : Tgt) (act : AM) : AM := fun loc led acc => match allT ifs loc led with
  | some (true, led₁) => (match f loc led₁ with
    | some (ai, led₂) => cgLoop t act 300 ai loc led₂ acc
    | none => none)
  | some (false, led₁) => some (loc, led₁, acc)
  | none => none

structure AccAt (c : Cf) (h : Heap) (D : Addr) (acc : List AV) : Prop where
  list : ∃ us, h.IsList D us.toArray ∧ VRs c h acc us
  pi : D ∉ c.pi
  fz : ¬ c.fz D
def ActP (G : Glo) (nm : List Str) (env : Env) (c : Cf) (s : Shared) (D : Addr) (loc : List AV) (led : List AO) (acc : List AV) (s' : Shared) : Prop :=
  ∃ c', Step [env.locals, D] c s c' s' ∧ GSR G c' led s' ∧ FR nm env c' s'.heap loc ∧ AccAt c' s'.heap D acc
def ActOk (G : Glo) (nm : List Str) (sc : Scope) (d : Nat) (am : AM) (ifs : List Expr) (act : Env → Value → Sem PUnit) : Prop :=
  ∀ A env c loc led acc s D loc' led' acc', GoodA d A → EnvOk sc env → FR nm env c s.heap loc → GSR G c led s → AccAt c s.heap D acc → D ∉ ownOf env → am loc led acc = some (loc', led', acc') →
    WP G A (testsOf ifs env) (fun ok s₃ => if ok = true then WP G A (act env (.ref D)) (fun _ s₄ => ActP G nm env c s D loc' led' acc' s₄) s₃ else ActP G nm env c s D loc' led' acc' s₃) s

theorem AccAt.step {env : Env} {own : List Addr} {c c' : Cf} {led : List AO} {s s' : Shared} {D : Addr} {acc : List AV} (a : AccAt c s.heap D acc) (x : Step own c s c' s') (R : GSR G c led s) (ho : ∀ a ∈ own, ¬ c.fz a) (hD : D ∉ own) : AccAt c' s'.heap D acc := by
  have K := x.kept R ho
  obtain ⟨us, hl, hv⟩ := a.list
  have hl' := hl
  obtain ⟨o, e, r⟩ := hl'
  refine ⟨⟨us, ⟨o, x.keep D o e a.pi hD, r⟩, hv.kept K⟩, fun q => ?_, fun q => ?_⟩
  · obtain ⟨l, el, nl⟩ := x.pi
    rw [el] at q
    rcases List.mem_append.mp q with q | q
    · exact a.pi q
    · rw [nl D q] at e; cases e
  · rcases x.fzn D q with q | q
    · exact a.fz q
    · rw [q] at e; cases e

inductive STs (G : Glo) (nm : List Str) (sc : Scope) (d : Nat) : List TM → List Expr → Prop
  | nil : STs G nm sc d [] []
  | cons {f : TM} {fs : List TM} {e : Expr} {es : List Expr} : ST G nm sc d f e → STs G nm sc d fs es → STs G nm sc d (f :: fs) (e :: es)
theorem tests_skip {A : Around} {env : Env} {Q : Bool → Shared → Prop} {s : Shared} (h : Q false s) : ∀ (es : List Expr), WP G A (forIn es false fun c r => if r = true then do let ok ← isTrue c env (eval c env); pure (ForInStep.yield ok) else pure (ForInStep.yield r)) Q s
  | [] => wpAny_pure h
  | e :: es => by
    rw [List.forIn_cons]
    simp only [Bool.false_eq_true, if_false]
    exact wpAny_bind (wpAny_pure (tests_skip h es))
theorem STs.run {fs : List TM} {es : List Expr} (h : STs G nm sc d fs es) : ∀ {A : Around} {env : Env} {c : Cf} {loc : List AV} {led led' : List AO} {s : Shared} {b : Bool}, GoodA d A → EnvOk sc env → FR nm env c s.heap loc → GSR G c led s → allT fs loc led = some (b, led') →
    WP G A (testsOf es env) (RB G c s b led') s := by
  induction h with
  | nil =>
    intro A env c loc led led' s b gA eo F R e
    cases e
    exact wpAny_pure (.here R)
  | cons h1 _ ih =>
    intro A env c loc led led' s b gA eo F R e
    unfold allT at e
    unfold testsOf
    rw [List.forIn_cons]
    simp only [if_true]
    split at e
    · rename_i l1 q
      refine wpAny_bind (wpAny_bind ((h1 A env c loc led s true l1 gA eo F R q).mono fun u s₁ ⟨eu, c₁, st, R₁⟩ => ?_))
      subst eu
      exact wpAny_pure ((ih gA eo (F.step R st) R₁ e).mono fun _ _ z => z.after st)
    · rename_i l1 q
      cases e
      refine wpAny_bind (wpAny_bind ((h1 A env c loc led s false _ gA eo F R q).mono fun u s₁ ⟨eu, c₁, st, R₁⟩ => ?_))
      subst eu
      exact wpAny_pure (tests_skip ⟨rfl, c₁, st, R₁⟩ _)
    · cases e

theorem ActOk.last {fs : List TM} {es : List Expr} {f : EM} {e : Expr} (h1 : STs G nm sc d fs es) (h2 : SE G nm sc d f e) : ActOk G nm sc d (actLast fs f) es (fun env acc => do let _ ← call (.builtin "list.append") [acc, ← eval e env]) := by
  intro A env c loc led acc s D loc' led' acc' gA eo F R a hD q
  unfold actLast at q
  split at q
  · rename_i l1 q1
    split at q
    · rename_i v l2 q2
      split at q
      · rename_i hb
        cases q
        refine (h1.run gA eo F R q1).mono fun ok s₃ ⟨eu, c₁, st, R₁⟩ => ?_
        subst eu
        rw [if_pos rfl]
        have F₁ := F.step R st
        refine wpAny_bind ((h2 A env c₁ _ l1 s₃ v _ gA eo F₁ R₁ q2).mono fun u s₄ ⟨c₂, st₂, R₂, hv⟩ => ?_)
        have a₁ := a.step (env := env) st R (by simp) (by simp)
        have a₂ := a₁.step (env := env) st₂ R₁ (by simp) (by simp)
        obtain ⟨us, hl, hvs⟩ := a₂.list
        refine wpAny_bind (wpAny_list_append hl (fun h' hl' hs => wpAny_pure ?_) ?_)
        · have st₃ : Step [env.locals, D] c₂ s₄ c₂ { s₄ with heap := h' } := by
            refine ⟨⟨_, _, rfl⟩, fun b o e _ ho => (hs.2 b fun q => ho (by simp [q])).trans e, fun b o e => ?_, ⟨[], by simp, by simp⟩, fun _ x => x, fun _ x => .inl x⟩
            by_cases q : b = D
            · subst q; obtain ⟨o', e', _⟩ := hl'; exact ⟨o', e'⟩
            · exact ⟨o, (hs.2 b q).trans e⟩
          have st3' : Step [D] c₂ s₄ c₂ { s₄ with heap := h' } := ⟨st₃.sh, fun b o e _ ho => (hs.2 b fun q => ho (by simp [q])).trans e, st₃.live, st₃.pi, st₃.fz, st₃.fzn⟩
          have offD : ∀ b ∈ [D], b ∉ c₂.pi ∧ ¬ c₂.fz b := fun b hb => by rw [List.mem_singleton] at hb; subst hb; exact ⟨a₂.pi, a₂.fz⟩
          have K := st3'.kept R₂ fun b hb => (offD b hb).2
          have R₃ : GSR G c₂ _ { s₄ with heap := h' } := R₂.grow' st3' rfl offD (fun b o e ho => (hs.2 b fun q => ho (by simp [q])).trans e) fun b q => let ⟨o, e⟩ := R₂.fz b q; ⟨o, (hs.2 b fun z => a₂.fz (z ▸ q)).trans e⟩
          have F₃ : FR nm env c₂ h' _ := (F₁.step R₁ st₂).kept K (fun b hb o e => (hs.2 b fun q => hD (q ▸ hb)).trans e) (F₁.step R₁ st₂).off
          refine ⟨c₂, ((st.trans st₂).weaken (by simp)).trans st₃, R₃, F₃, ⟨us ++ [u], by simpa using hl', (hvs.kept K).append (.cons (hv.kept K) .nil)⟩, a₂.pi, a₂.fz⟩
        · have := hvs.length
          have hb' : acc.length ≤ 10000 := Nat.le_of_ble_eq_true hb
          rw [List.size_toArray, this, sizeLine_eq]; omega
      · cases q
    · cases q
  · rename_i l1 q1
    cases q
    refine (h1.run gA eo F R q1).mono fun ok s₃ ⟨eu, c₁, st, R₁⟩ => ?_
    subst eu
    rw [if_neg (by simp)]
    exact ⟨c₁, st.weaken (by simp), R₁, F.step R st, a.step (env := env) st R (by simp) (by simp)⟩
  · cases q
end Mine
end
-- part F9
section
namespace Mine
variable {G : Glo} {nm : List Str} {sc : Scope} {d : Nat}

theorem entry_ii : entryFor table "dict_itemiterator.__iter__" = some Builtin.«dict_keyiterator.__iter__» :=
  entryFor_alias (id' := "dict_keyiterator.__iter__") (by kernel_rfl) (by first | rfl | decide +kernel | (unfold String.splitOn; simp +decide [String.splitOnAux])) (by decide +kernel) (by kernel_rfl)
theorem IR.self {A : Around} {c : Cf} {s : Shared} {J : List Addr} {it : Addr} {ai : AI} {Q : Value → Shared → Prop} (x : IR c s.heap J it ai) (q : Q (.ref it) s) : WP G A (pyIter (.ref it)) Q s := by
  cases x with
  | list a => exact wpAny_pyIter_listiter a q
  | tup a => exact wpAny_pyIter_tupleiter a q
  | str a => exact wpAny_pyIter_striter_ascii a q
  | rng a => exact wpAny_pyIter_rangeiter a q
  | live a => exact wpAny_pyIter_listiter a q
  | zip a =>
    cases a with
    | mk D z => exact wpAny_pyIter_zip z q
  | @dict it d ep a f e =>
    have hT : s.TypeIs (.ref it) "dict_itemiterator" := ⟨_, a, rfl⟩
    refine wpAny_pyIter_slot hT PySem.F.slot_dict_itemiterator_iter (wpAny_call_entry PySem.F.slot_dict_itemiterator_iter hT entry_ii ?_ (PySem.F.args_dict_itemiterator_iter_1 _))
    show wpAny _ _ (ret (.ref it)) _ _ s
    exact wpAny_pure ⟨_, rfl, "dict_itemiterator", _, hT, PySem.F.slot_dict_itemiterator_next.lookup, q⟩

def CLoop (G : Glo) (nm : List Str) (env : Env) (t : Tgt) (am : AM) (c₀ : Cf) (s₀ : Shared) (D it : Addr) (J : List Addr) (loc' : List AV) (led' : List AO) (acc' : List AV) (n : Nat) (s : Shared) : Prop :=
  ∃ c loc led acc ai, Step [env.locals, D] c₀ s₀ c s ∧ GSR G c led s ∧ FR nm env c s.heap loc ∧ AccAt c s.heap D acc ∧ IR c s.heap J it ai ∧ Off J c ∧ cgLoop t am n ai loc led acc = some (loc', led', acc')

theorem AccAt.nxt {J : List Addr} {c c' : Cf} {s s' : Shared} {D : Addr} {acc : List AV} (a : AccAt c s.heap D acc) (x : Nxt J c s c' s') (of : Off J c) (hD : D ∉ J) : AccAt c' s'.heap D acc := by
  obtain ⟨us, hl, hv⟩ := a.list
  have hl' := hl
  obtain ⟨o, e, r⟩ := hl'
  refine ⟨⟨us, ⟨o, x.keep D o hD e, r⟩, hv.kept (x.kept of)⟩, fun q => a.pi (x.pi ▸ q), fun q => ?_⟩
  rcases x.fzn D q with q | q
  · exact a.fz q
  · rw [q] at e; cases e

theorem cg_ok {t : Tgt} {am : AM} {target : Expr} {ifs : List Expr} {act : Env → Value → Sem PUnit} {elt : Expr} {gens : List Comprehension} {scope : Scope} {pos ipos : Pos} {k : Nat}
    (heq : ∀ it acc env, compTurn (.ListComp elt gens scope pos) k it acc env = (do
      standAt ipos
      match ← pyNext it with
      | none => pure (.done .next)
      | some v =>
        letOwnedTupleGo target it v
        assign target env v
        let ok ← testsOf ifs env
        if ok then act env acc
        again (.compLoop (.ListComp elt gens scope pos) k it acc env)))
    (ht : TgtL nm sc t target) (ha : ActOk G nm sc d am ifs act) {A : Around} {env : Env} {c₀ : Cf} {s₀ : Shared} {D it : Addr} {J : List Addr} {loc' : List AV} {led' : List AO} {acc' : List AV} (gA : GoodA d A) (eo : EnvOk sc env)
    (ho : ∀ a ∈ ownOf env, a ∉ J) (hDJ : D ∉ J) (hD : D ∉ ownOf env) (hJ : ∀ a ∈ J, s₀.heap.get? a = none) {R : Result → Shared → Prop} (hR : ∀ s', ActP G nm env c₀ s₀ D loc' led' acc' s' → R (.ok .next) s') (n : Nat) {s : Shared}
    (h : CLoop G nm env t am c₀ s₀ D it J loc' led' acc' n s) : codeAny (model G.prog G.w) A (.compLoop (.ListComp elt gens scope pos) k (.ref it) (.ref D) env) R s := by
  refine codeAny_turn (heq _ _ _) (CLoop G nm env t am c₀ s₀ D it J loc' led' acc') (fun n s hI => ?_) n h
  obtain ⟨c, loc, led, acc, ai, st, Rc, F, ac, X, of, e⟩ := hI
  have hLD : env.locals ∈ ownOf env := List.mem_cons_self ..
  cases n with
  | zero => cases e
  | succ n =>
    unfold cgLoop at e
    split at e
    · rename_i q
      cases e
      refine wpAny_mono (next_ok gA.hh X of Rc (nextT_some q).2) (fun o s₁ hz => ?_) fun _ _ x => x.elim
      obtain ⟨c₁, N, rfl⟩ := hz
      exact hR _ ⟨c₁, st.next hJ N, N.sr of Rc, N.fr of Rc ho F, ac.nxt N of hDJ⟩
    · rename_i v ai' q
      split at e
      · rename_i loc₁ q1
        split at e
        · rename_i loc₂ led₂ acc₂ q2
          obtain ⟨hk, q⟩ := nextT_some q
          refine wpAny_mono (next_ok gA.hh X of Rc q) (fun o s₀' hz => ?_) fun _ _ x => x.elim
          obtain ⟨c₁, N, u, rfl, hv, X₀⟩ := hz
          have of₁ := of.nxt N X.live'
          have R₀ := N.sr of Rc
          have F₀ := N.fr of Rc ho F
          have st₀ := st.next hJ N
          have a₀ := ac.nxt N of hDJ
          refine wpAny_mono (letOwn_ok (G := G) (A := A) (Q := fun _ s' => Nxt J c₁ s₀' c₁ s' ∧ IR c₁ s'.heap J it ai') R₀ of₁ X₀ (own_of ht.own hk q) fun s' a b => ⟨a, b⟩) (fun _ s₁ hz => ?_) fun _ _ x => x.elim
          obtain ⟨N₁, X₁⟩ := hz
          have R₁ := N₁.sr of₁ R₀
          have F₁ := N₁.fr of₁ R₀ ho F₀
          have st₁ := st₀.next hJ N₁
          have a₁ := a₀.nxt N₁ of₁ hDJ
          have hv := hv.kept (N₁.kept of₁)
          refine wpAny_mono (ht.run gA eo F₁ R₁ hv q1) (fun _ s₂ hz => ?_) fun _ _ x => x.elim
          obtain ⟨c₂, st₂, R₂, F₂⟩ := hz
          have offL : ∀ a ∈ [env.locals], ¬ c₁.fz a := F₁.offL
          have hDL : D ∉ [env.locals] := fun q => hD (by rw [List.mem_singleton] at q; rw [q]; exact hLD)
          have of₂ := of₁.step st₂ X₁.live'
          have a₂ := a₁.step (env := env) st₂ R₁ offL hDL
          have notL : ∀ a ∈ J, a ∉ [env.locals] := fun a ha q => by rw [List.mem_singleton] at q; exact ho _ hLD (q ▸ ha)
          have X₂ := X₁.kept (st₂.kept R₁ offL) fun a ha ob e => st₂.keep a ob e (of₁.pi a ha) (notL a ha)
          have fin : ∀ s₃, ActP G nm env c₂ s₂ D loc₂ led₂ acc₂ s₃ → ∃ m, m < n + 1 ∧ CLoop G nm env t am c₀ s₀ D it J loc' led' acc' m s₃ := by
            intro s₃ hz
            obtain ⟨c₃, st₃, R₃, F₃, a₃⟩ := hz
            have off2 : ∀ a ∈ [env.locals, D], ¬ c₂.fz a := fun a ha => by
              rcases List.mem_cons.mp ha with rfl | ha
              · exact (F₂.off _ hLD).2
              · rw [List.mem_singleton] at ha; subst ha; exact a₂.fz
            have notLD : ∀ a ∈ J, a ∉ [env.locals, D] := fun a ha q => by
              rcases List.mem_cons.mp q with rfl | q
              · exact ho _ hLD ha
              · rw [List.mem_singleton] at q; subst q; exact hDJ ha
            exact ⟨n, Nat.lt_succ_self _, c₃, loc₂, led₂, acc₂, ai', (st₁.trans (st₂.weaken (by simp))).trans st₃, R₃, F₃, a₃, X₂.kept (st₃.kept R₂ off2) (fun a ha ob e => st₃.keep a ob e (of₂.pi a ha) (notLD a ha)), of₂.step st₃ X₂.live', e⟩
          refine wpAny_mono (ha A env c₂ loc₁ led acc s₂ D loc₂ led₂ acc₂ gA eo F₂ R₂ a₂ hD q2) (fun ok s₃ hz => ?_) fun _ _ x => x.elim
          cases ok with
          | true =>
            rw [if_pos rfl] at hz ⊢
            exact wpAny_mono hz (fun _ s₄ h₄ => fin s₄ h₄) fun _ _ x => x.elim
          | false =>
            rw [if_neg (by simp)] at hz ⊢
            exact fin s₃ hz
        · cases e
      · cases e
    · cases e

/-- a clause behind another one -/
theorem ActOk.more {fs : List TM} {es : List Expr} {f : IM} {t : Tgt} {am : AM} {target iter : Expr} {ifs : List Expr} {act : Env → Value → Sem PUnit} {elt : Expr} {gens : List Comprehension} {scope : Scope} {pos ipos : Pos} {k : Nat}
    (heq : ∀ it acc env, compTurn (.ListComp elt gens scope pos) k it acc env = (do
      standAt ipos
      match ← pyNext it with
      | none => pure (.done .next)
      | some v =>
        letOwnedTupleGo target it v
        assign target env v
        let ok ← testsOf ifs env
        if ok then act env acc
        again (.compLoop (.ListComp elt gens scope pos) k it acc env)))
    (hk : ((gens[k]?).elim false (·.is_async != 0)) = false) (h1 : STs G nm sc d fs es) (h2 : SI G nm sc d f iter) (ht : TgtL nm sc t target) (ha : ActOk G nm sc d am ifs act) (hs : ∀ env x, foldedSetIterable iter env x = pure x) :
    ActOk G nm sc d (actMore fs f t am) es (fun env acc => do
      let x ← eval iter env
      standAt iter.pos
      let x ← foldedSetIterable iter env x
      let _ ← runOwn (.compStart (.ListComp elt gens scope pos) k (← holding [x] (pyIter x)) acc env) env) := by
  intro A env c loc led acc s D loc' led' acc' gA eo F R a hD q
  unfold actMore at q
  split at q
  · rename_i l1 q1
    split at q
    · rename_i ai l2 q2
      refine (h1.run gA eo F R q1).mono fun ok s₃ ⟨eu, c₁, st, R₁⟩ => ?_
      subst eu
      rw [if_pos rfl]
      have F₁ := F.step R st
      have a₁ := a.step (env := env) st R (by simp) (by simp)
      refine wpAny_bind ((h2 A env c₁ loc l1 s₃ ai l2 gA eo F₁ R₁ q2).mono fun x s₄ hz => ?_)
      refine wpAny_bind (wpAny_standAt (wpAny_bind (wpAny_of_eq (hs env x) (wpAny_bind (wpAny_holding (WP.mono hz fun it s₅ hz => ?_))))))
      obtain ⟨b, J, c₂, rfl, st₂, R₂, X, of, hJ⟩ := hz
      have F₂ := F₁.step R₁ st₂
      have a₂ := a₁.step (env := env) st₂ R₁ (by simp) (by simp)
      have hoJ : ∀ b ∈ ownOf env, b ∉ J := fun b hb hj => by obtain ⟨o, e⟩ := F₁.live b hb; rw [hJ b hj] at e; cases e
      have hDJ : D ∉ J := fun hj => by obtain ⟨us, ⟨o, e, _⟩, _⟩ := a₁.list; rw [hJ D hj] at e; cases e
      have core : codeAny (model G.prog G.w) A (.compLoop (.ListComp elt gens scope pos) k (.ref b) (.ref D) env) (fun r s' => match r with | .ok _ => ActP G nm env c s D loc' led' acc' s' | .error _ => False) s₅ := by
        refine cg_ok heq ht ha gA eo hoJ hDJ hD hJ (c₀ := c₁) (s₀ := s₃) (fun s' hz => ?_) 300 ⟨c₂, loc, l2, acc, ai, st₂.weaken (by simp), R₂, F₂, a₂, X, of, q⟩
        obtain ⟨c₃, st₃, z⟩ := hz
        exact ⟨c₃, (st.weaken (by simp)).trans st₃, z⟩
      refine wpAny_bind (wpAny_runOwn (codeAny_mono (codeAny_compStart_at hk core (X.self core)) fun r s' hr => ?_))
      cases r with
      | ok fl => exact wpAny_pure hr
      | error e => exact hr.elim
    · cases q
  · rename_i l1 q1
    cases q
    refine (h1.run gA eo F R q1).mono fun ok s₃ ⟨eu, c₁, st, R₁⟩ => ?_
    subst eu
    rw [if_neg (by simp)]
    exact ⟨c₁, st.weaken (by simp), R₁, F.step R st, a.step (env := env) st R (by simp) (by simp)⟩
  · cases q
end Mine
end
-- part F10
section
namespace Mine
variable {G : Glo} {nm nm' : List Str} {sc scope : Scope} {d : Nat}

def mkInit (nm nm' : List Str) (scope : Scope) : List (Option Nat) := nm'.map fun x => if scope.names.lookup x = some .free then nm.idxOf? x else none
def relabelSc (scope sc : Scope) : Scope := { scope with names := scope.names.map fun (n, k) => if (k == .free && sc.kind == .function && sc.names.lookup n == some .cell) then (n, .cell) else (n, k) }
theorem relabel_eq {env : Env} (eo : EnvOk sc env) : relabel scope env = relabelSc scope sc := by
  obtain ⟨rfl, _⟩ := eo; rfl
theorem lookup_relabelSc : ∀ {names : List (Str × NameKind)} {x : Str} {k : NameKind}, (names.map fun (n, k) => if (k == NameKind.free && sc.kind == .function && sc.names.lookup n == some .cell) then (n, NameKind.cell) else (n, k)).lookup x = some k →
    names.lookup x = some k ∨ (names.lookup x = some .free ∧ k = .cell)
  | [], _, _, h => by simp at h
  | (n, q) :: r, x, k, h => by
    have ih := @lookup_relabelSc r x k
    have h' : List.lookup x ((if (q == NameKind.free && sc.kind == .function && sc.names.lookup n == some .cell) = true then (n, NameKind.cell) else (n, q)) :: r.map fun (n, k) => if (k == NameKind.free && sc.kind == .function && sc.names.lookup n == some .cell) then (n, NameKind.cell) else (n, k)) = some k := h
    cases hx : x == n with
    | true =>
      simp only [List.lookup_cons, hx]
      by_cases hc : (q == NameKind.free && sc.kind == .function && sc.names.lookup n == some .cell) = true
      · rw [if_pos hc] at h'
        simp only [List.lookup_cons, hx, Option.some.injEq] at h'
        simp only [Bool.and_eq_true, beq_iff_eq] at hc
        exact .inr ⟨by rw [hc.1.1], h'.symm⟩
      · rw [if_neg hc] at h'
        simp only [List.lookup_cons, hx, Option.some.injEq] at h'
        exact .inl (by rw [h'])
    | false =>
      simp only [List.lookup_cons, hx]
      by_cases hc : (q == NameKind.free && sc.kind == .function && sc.names.lookup n == some .cell) = true
      · rw [if_pos hc] at h'; simp only [List.lookup_cons, hx] at h'; exact ih h'
      · rw [if_neg hc] at h'; simp only [List.lookup_cons, hx] at h'; exact ih h'

def clOf (env : Env) : List (Str × NameKind) → List (Str × Addr) → List (Str × Addr)
  | [], acc => acc
  | (n, k) :: r, acc => if k == .free then clOf env r ((n, (env.cells.lookup n).getD 0) :: acc) else clOf env r acc
theorem closure_go {env : Env} : ∀ (names : List (Str × NameKind)) (acc : List (Str × Addr)), (∀ x ∈ names, x.2 = .free → ∃ a, env.cells.lookup x.1 = some a) →
    (forIn names acc fun (x : Str × NameKind) cs => (match x with | (name, kind) => if (kind == NameKind.free) = true then do let a ← cellOf env name; pure (ForInStep.yield ((name, a) :: cs)) else pure (ForInStep.yield cs) : Sem _)) = pure (clOf env names acc)
  | [], acc, _ => by rw [List.forIn_nil]; rfl
  | (n, k) :: r, acc, h => by
    have ih := fun acc => closure_go r acc fun x hx => h x (List.mem_cons_of_mem _ hx)
    rw [List.forIn_cons]
    unfold clOf
    cases hk : k == NameKind.free with
    | true =>
      obtain ⟨a, ha⟩ := h (n, k) List.mem_cons_self (beq_iff_eq.mp hk)
      have ha' : env.cells.lookup n = some a := ha
      simp only [hk, if_true, cellOf, ha', pure_bind, Option.getD_some]
      exact ih _
    | false =>
      simp only [hk, Bool.false_eq_true, if_false, pure_bind]
      exact ih _
theorem closureFor_eq {env : Env} (h : ∀ x ∈ scope.names, x.2 = .free → ∃ a, env.cells.lookup x.1 = some a) : closureFor scope env = pure (clOf env scope.names []) := by
  unfold closureFor
  have := closure_go scope.names [] h
  simp only [bind_pure_comp, pure_bind] at this ⊢
  first | exact this | (rw [show (forIn scope.names [] _) = _ from this]; rfl) | (simp only [this]; rfl)

theorem clOf_mem {env : Env} : ∀ {names : List (Str × NameKind)} {acc : List (Str × Addr)} {n : Str} {a : Addr}, (∀ x ∈ names, x.2 = .free → ∃ a, env.cells.lookup x.1 = some a) → (n, a) ∈ clOf env names acc → (n, a) ∈ acc ∨ env.cells.lookup n = some a
  | [], _, _, _, _, h => .inl h
  | (x, k) :: r, acc, n, a, hl, h => by
    unfold clOf at h
    have hl' : ∀ x ∈ r, x.2 = .free → ∃ a, env.cells.lookup x.1 = some a := fun x hx => hl x (List.mem_cons_of_mem _ hx)
    split at h
    · rename_i hk
      rcases clOf_mem hl' h with h | h
      · rcases List.mem_cons.mp h with h | h
        · obtain ⟨b, hb⟩ := hl (x, k) List.mem_cons_self (beq_iff_eq.mp hk)
          cases h
          have hb' : env.cells.lookup x = some b := hb
          exact .inr (by rw [hb']; rfl)
        · exact .inl h
      · exact .inr h
    · exact clOf_mem hl' h
theorem clOf_some {env : Env} : ∀ {names : List (Str × NameKind)} {acc : List (Str × Addr)} {n : Str}, (acc.lookup n).isSome = true ∨ (n, NameKind.free) ∈ names → ((clOf env names acc).lookup n).isSome = true
  | [], _, _, h => h.elim id fun q => nomatch q
  | (x, k) :: r, acc, n, h => by
    unfold clOf
    split
    · refine clOf_some ?_
      rw [List.lookup_cons]
      cases q : n == x with
      | true => exact .inl rfl
      | false =>
        refine h.elim .inl fun h => ?_
        rcases List.mem_cons.mp h with h | h
        · have : n = x := congrArg Prod.fst h
          subst this; simp at q
        · exact .inr h
    · rename_i hk
      refine clOf_some (h.elim .inl fun h => ?_)
      rcases List.mem_cons.mp h with h | h
      · have : NameKind.free = k := congrArg Prod.snd h
        subst this; simp at hk
      · exact .inr h

structure CompOk (nm nm' : List Str) (sc scope : Scope) (init : List (Option Nat)) : Prop where
  kind : scope.kind = .function
  nocell : ∀ x ∈ scope.names, x.2 ≠ .cell
  names : ∀ x ∈ scope.names, x.2 = .local → scope.names.lookup x.1 = some .local
  free : ∀ x ∈ scope.names, x.2 = .free → sc.names.lookup x.1 = some .cell
  init : init = mkInit nm nm' scope

def initLoc (init : List (Option Nat)) (loc : List AV) : List AV := init.map fun o => match o with | some j => loc.getD j .unb | none => .unb
namespace E
def comp (f : IM) (init : List (Option Nat)) (t : Tgt) (am : AM) (mt : Bool) : EM := fun loc led => match f loc led with
  | some (ai, led₁) => (match cgLoop t am 300 ai (initLoc init loc) led₁ [] with
    | some (_, led₂, xs) => (match mt with
      | true => none
      | false => some (.list xs, led₂))
    | none => none)
  | none => none
end E

theorem Step.addFz {own : List Addr} {c c' : Cf} {s s' : Shared} {a : Addr} (x : Step own c s c' s') (h : s.heap.get? a = none) : Step own c s (c'.fzAdd a) s' :=
  ⟨x.sh, x.keep, x.live, x.pi, fun b q => .inl (x.fz b q), fun b q => q.elim (x.fzn b) fun e => .inr (e ▸ h)⟩
theorem SR.addFz {c : Cf} {led : List AO} {s : Shared} {a : Addr} (R : GSR G c led s) (hl : ∃ o, s.heap.get? a = some o) (hp : a ∉ c.pi) : GSR G (c.fzAdd a) led s := by
  have K : Kept c s.heap (c.fzAdd a) s.heap := ⟨fun _ _ _ e => e, fun _ x => .inl x, fun _ _ e => e⟩
  exact ⟨R.keep, fun b o e => .inl (R.base b o e), fun b q => q.elim (R.fz b) fun e => e ▸ hl, R.nd, fun b hb q => q.elim (R.off b hb) fun e => hp (e ▸ hb), R.len, fun k o e => let ⟨b, h1, h2⟩ := R.at_ k o e; ⟨b, h1, h2.kept K fun _ e => e⟩⟩
/-- what a comprehension leaves: the list, and a frame that nobody knows -/
structure CompEnd (G : Glo) (c : Cf) (s : Shared) (v : AV) (led : List AO) (C D : Addr) (s' : Shared) : Prop where
  rv : ∃ c', Step [] c s c' s' ∧ GSR G c' led s' ∧ VR c' s'.heap v (.ref D) ∧ C ∉ c'.pi ∧ ¬ c'.fz C
  ns : ∃ m, s'.heap.Ns C m
  dead : s.heap.get? C = none
theorem CompEnd.after {c : Cf} {s : Shared} {v : AV} {led : List AO} {C D : Addr} {s' : Shared} (x : CompEnd G c s v led C D s') {h' : Heap} (hs : Heap.SameBut C s'.heap h') : RV G c s v led (.ref D) { s' with heap := h' } := by
  obtain ⟨c', st, R, hv, hp, hf⟩ := x.rv
  have N : Nxt [C] c' s' c' { s' with heap := h' } := nxt_same (tk := s'.toks) R hf hs
  have of : Off [C] c' := ⟨fun a ha => by rw [List.mem_singleton] at ha; rw [ha]; exact hp, fun a ha => by rw [List.mem_singleton] at ha; rw [ha]; exact hf⟩
  exact ⟨c', st.next (fun a ha => by rw [List.mem_singleton] at ha; rw [ha]; exact x.dead) N, N.sr of R, hv.kept (N.kept of)⟩

theorem comp_core {f : IM} {t : Tgt} {am : AM} {init : List (Option Nat)} {mt : Bool} {target iter : Expr} {ifs : List Expr} {rest : List Comprehension} {act : Env → Value → Sem PUnit} {elt : Expr} {pos ipos : Pos}
    (X : CompOk nm nm' sc scope init)
    (heq : ∀ it acc env, compTurn (.ListComp elt (⟨target, iter, ifs, 0⟩ :: rest) scope pos) 0 it acc env = (do
      standAt ipos
      match ← pyNext it with
      | none => pure (.done .next)
      | some v =>
        letOwnedTupleGo target it v
        assign target env v
        let ok ← testsOf ifs env
        if ok then act env acc
        again (.compLoop (.ListComp elt (⟨target, iter, ifs, 0⟩ :: rest) scope pos) 0 it acc env)))
    (hi : SI G nm sc d f iter) (ht : TgtL nm' (relabelSc scope sc) t target) (ha : ActOk G nm' (relabelSc scope sc) d am ifs act)
    {A : Around} {env : Env} {c : Cf} {loc : List AV} {led led' : List AO} {s : Shared} {v : AV} {cl : List (Str × Addr)} {RR : Value → Addr → Result → Shared → Prop} (gA : GoodA d A) (eo : EnvOk sc env) (F : FR nm env c s.heap loc) (R : GSR G c led s)
    (q : E.comp f init t am mt loc led = some (v, led')) (hcl : cl = clOf env scope.names []) (hRR : ∀ C D s', CompEnd G c s v led' C D s' → RR (.ref D) C (.ok .next) s') :
    WP G A (eval iter env) (fun x s₁ => WP G A (pyIter x) (fun it s₂ => WP G A (newList []) (fun acc s₃ => WP G A (newFunctionEnv scope env.globals cl [] env.qual none .none (some env)) (fun cenv s₄ =>
      codeAny (model G.prog G.w) A (.compStart (.ListComp elt (⟨target, iter, ifs, 0⟩ :: rest) scope pos) 0 it acc { cenv with scope := relabel scope env }) (RR acc cenv.locals) s₄) s₃) s₂) s₁) s := by
  unfold E.comp at q
  split at q
  · rename_i ai l1 q1
    split at q
    · rename_i locE l2 xs q2
      refine (hi A env c loc led s ai l1 gA eo F R q1).mono fun x s₁ hz => WP.mono hz fun it s₂ hz => ?_
      obtain ⟨b, J, c₂, rfl, st, R₂, IX, of, hJ⟩ := hz
      have F₂ := F.step R st
      refine wpAny_newList ?_ (by decide)
      refine wpAny_newFunctionEnv X.nocell (by intro y hy; simp at hy) (fun h₁ hns hsb => ?_) X.kind
      dsimp only at hns hsb ⊢
      generalize hH : s₂.heap.push { cls := .type "list", dict := none, data := .seq ([] : List Value).toArray } = H2 at hns hsb ⊢
      have hC : H2.objs.size = s₂.heap.objs.size + 1 := by rw [← hH, Heap.size_push]
      generalize hCe : H2.objs.size = C at hns hsb hC ⊢
      generalize hDe : s₂.heap.objs.size = D at hC ⊢
      have hDC : D ≠ C := by rw [hC]; exact Nat.ne_of_lt (Nat.lt_succ_self _)
      have deadge : ∀ a, D ≤ a → s₂.heap.get? a = none := fun a hge => by
        cases e : s₂.heap.get? a with
        | none => rfl
        | some o => exact absurd (Heap.lt_size e) (by rw [hDe]; exact Nat.not_lt.mpr hge)
      have hCd : s₂.heap.get? C = none := deadge C (by rw [hC]; exact Nat.le_succ _)
      have hDd : s₂.heap.get? D = none := deadge D (Nat.le_refl _)
      have hsb' : ∀ a, a ≠ C → h₁.get? a = (H2.push { cls := .type (if (some env).isSome = true then "dict" else "frame"), data := .dict #[] }).get? a := fun a ha => hsb.2 a ha
      have all : ∀ a o, s₂.heap.get? a = some o → h₁.get? a = some o := fun a o e => by
        rw [hsb' a fun q => by rw [q, hCd] at e; cases e]
        exact Heap.get?_push_of_some _ (hH ▸ Heap.get?_push_of_some _ e)
      have hDl : h₁.IsList D #[] := ⟨{ cls := .type "list", data := .seq #[] }, by
        rw [hsb' D hDC, ← hDe]
        exact Heap.get?_push_of_some _ (hH ▸ Heap.get?_push_size _ rfl), rfl, 0, rfl⟩
      have liveN : ∀ {a o}, s₂.heap.get? a = some o → a ≠ C ∧ a ≠ D := fun e => ⟨fun q => (by rw [q, hCd] at e; cases e), fun q => (by rw [q, hDd] at e; cases e)⟩
      generalize hs₄ : ({ s₂ with heap := h₁, toks := s₂.toks + ([] : List (Str × Value)).length } : Shared) = s₄
      have hh₄ : s₄.heap = h₁ := by rw [← hs₄]
      have st₄ : Step [] c₂ s₂ c₂ s₄ := ⟨⟨_, _, hs₄.symm⟩, fun a o e _ _ => hh₄ ▸ all a o e, fun a o e => ⟨o, hh₄ ▸ all a o e⟩, ⟨[], by simp, by simp⟩, fun _ x => x, fun _ x => .inl x⟩
      have R₄ : GSR G c₂ l1 s₄ := R₂.grow st₄ rfl (fun a o e => hh₄ ▸ all a o e) fun a q => let ⟨o, e⟩ := R₂.fz a q; ⟨o, hh₄ ▸ all a o e⟩
      have K₄ := st₄.kept0 R₂
      have fzN : ∀ a, s₂.heap.get? a = none → ¬ c₂.fz a := fun a e q => by obtain ⟨o, e'⟩ := R₂.fz a q; rw [e] at e'; cases e'
      have piN : ∀ a, s₂.heap.get? a = none → a ∉ c₂.pi := fun a e q => by
        obtain ⟨k, hk⟩ := List.getElem?_of_mem q
        obtain ⟨_, ob, _, _, g⟩ := R₂.piLive hk
        rw [e] at g; cases g
      have freeLook : ∀ y ∈ scope.names, y.2 = .free → ∃ a, env.cells.lookup y.1 = some a := fun y hy hk => by
        obtain ⟨a, v, h1, _⟩ := F.cel y.1 (.inl (by show env.scope.names.lookup _ = _; rw [eo.scope]; exact X.free y hy hk))
        exact ⟨a, h1⟩
      have clLook : ∀ {n a}, cl.lookup n = some a → env.cells.lookup n = some a := fun {n a} h => by
        have hm := mem_of_lookup h
        rw [hcl] at hm
        rcases clOf_mem freeLook hm with h | h
        · cases h
        · exact h
      have clMem : ∀ {n a}, (n, a) ∈ cl → env.cells.lookup n = some a := fun {n a} hm => by
        rw [hcl] at hm
        rcases clOf_mem freeLook hm with h | h
        · cases h
        · exact h
      have cellIn : ∀ {n a}, env.cells.lookup n = some a → a ∈ ownOf env := fun h => List.mem_cons_of_mem _ (List.mem_map.mpr ⟨_, mem_of_lookup h, rfl⟩)
      -- the frame of the block
      have eo' : EnvOk (relabelSc scope sc) (compEnvC scope cl C env) := ⟨relabel_eq eo, X.kind, eo.globals, eo.builtins⟩
      have kind' : ∀ y, (compEnvC scope cl C env).kindOf y = (relabelSc scope sc).names.lookup y := fun y => by show (relabel scope env).names.lookup y = _; rw [relabel_eq eo]
      have toFree : ∀ y, ((compEnvC scope cl C env).kindOf y = some .cell ∨ (compEnvC scope cl C env).kindOf y = some .free) → scope.names.lookup y = some .free := fun y hy => by
        rw [kind'] at hy
        rcases hy with hy | hy
        · rcases lookup_relabelSc hy with h | h
          · exact absurd rfl (X.nocell _ (lookup_mem h))
          · exact h.1
        · rcases lookup_relabelSc hy with h | h
          · exact h
          · cases h.2
      have outer : ∀ y, scope.names.lookup y = some .free → env.kindOf y = some .cell := fun y hy => by show env.scope.names.lookup y = _; rw [eo.scope]; exact X.free _ (lookup_mem hy) rfl
      have clSome : ∀ y, scope.names.lookup y = some .free → ∃ a, cl.lookup y = some a := fun y hy => Option.isSome_iff_exists.mp (by rw [hcl]; exact clOf_some (.inr (lookup_mem hy)))
      have ownC : ∀ a ∈ ownOf (compEnvC scope cl C env), a = C ∨ a ∈ ownOf env := fun a ha => by
        rcases List.mem_cons.mp ha with h | h
        · exact .inl h
        · obtain ⟨⟨n, a'⟩, hp, rfl⟩ := List.mem_map.mp h
          exact .inr (cellIn (clMem hp))
      have initAt : ∀ {i : Nat} {y : Str} {w : AV}, nm'[i]? = some y → (initLoc init loc)[i]? = some w → w ≠ .unb → scope.names.lookup y = some .free ∧ ∃ j : Nat, nm[j]? = some y ∧ loc[j]? = some w := by
        intro i y w h1 h2 h3
        unfold initLoc at h2
        rw [X.init] at h2
        unfold mkInit at h2
        rw [List.map_map, List.getElem?_map, h1] at h2
        simp only [Option.map_some, Function.comp, Option.some.injEq] at h2
        split at h2
        · rename_i j hj
          split at hj
          · rename_i hf
            refine ⟨hf, j, ?_, ?_⟩
            · have := List.idxOf?_eq_some_iff.mp hj
              first
                | exact List.getElem?_eq_some_iff.mpr ⟨this.1, this.2.1⟩
                | (obtain ⟨hlt, he, _⟩ := this; exact List.getElem?_eq_some_iff.mpr ⟨hlt, he⟩)
            · rw [List.getD_eq_getElem?_getD] at h2
              cases hq : loc[j]? with
              | none => rw [hq] at h2; exact absurd h2.symm h3
              | some z => rw [hq] at h2; exact congrArg some h2
          · cases hj
        · exact absurd h2.symm h3
      have F₄ : FR nm' (compEnvC scope cl C env) c₂ s₄.heap (initLoc init loc) := by
        refine ⟨⟨_, hh₄ ▸ hns, fun i y w h1 h2 h3 h4 => ?_⟩, fun y hy => ?_, fun i y w h1 h2 h3 h4 => ?_, fun n n' a h1 h2 => F.inj n n' a (clLook h1) (clLook h2), fun a ha => ?_, fun a ha => ?_, fun n a h => ?_⟩
        · have hfr := (initAt h1 h2 h3).1
          rw [kind'] at h4
          rcases lookup_relabelSc h4 with h | h
          · rw [hfr] at h; cases h
          · cases h.2
        · have hfr := toFree y hy
          obtain ⟨a, ha⟩ := clSome y hfr
          obtain ⟨a', w, g1, g2⟩ := F₂.cel y (.inl (outer y hfr))
          have := clLook ha
          rw [g1] at this; cases this
          exact ⟨_, w, ha, let ⟨o, e, d⟩ := g2; ⟨o, hh₄ ▸ all _ o e, d⟩⟩
        · obtain ⟨hfr, j, j1, j2⟩ := initAt h1 h2 h3
          obtain ⟨a, ha⟩ := clSome y hfr
          obtain ⟨a', u, g1, g2, g3⟩ := F₂.celv j y w j1 j2 h3 (.inl (outer y hfr))
          have := clLook ha
          rw [g1] at this; cases this
          exact ⟨_, u, ha, let ⟨o, e, d⟩ := g2; ⟨o, hh₄ ▸ all _ o e, d⟩, g3.kept K₄⟩
        · rcases ownC a ha with rfl | h
          · obtain ⟨o, _, _, e, _⟩ := hns; exact ⟨o, hh₄ ▸ e⟩
          · obtain ⟨o, e⟩ := F₂.live a h; exact ⟨o, hh₄ ▸ all a o e⟩
        · rcases ownC a ha with rfl | h
          · exact ⟨piN _ hCd, fzN _ hCd⟩
          · exact F₂.off a h
        · obtain ⟨o, e⟩ := F₂.live a (cellIn (clLook h)); exact (liveN e).1
      have a₄ : AccAt c₂ s₄.heap D [] := ⟨⟨[], hh₄ ▸ hDl, .nil⟩, piN _ hDd, fzN _ hDd⟩
      have Jlive : ∀ a ∈ J, ∃ o, s₂.heap.get? a = some o := IX.live'
      have IX₄ : IR c₂ s₄.heap J b ai := IX.kept K₄ fun a _ o e => hh₄ ▸ all a o e
      have hoJ : ∀ a ∈ ownOf (compEnvC scope cl C env), a ∉ J := fun a h hj => by
        obtain ⟨o, e⟩ := Jlive a hj
        rcases ownC a h with rfl | h
        · exact (liveN e).1 rfl
        · obtain ⟨o', e'⟩ := F.live a h; rw [hJ a hj] at e'; cases e'
      have hDJ : D ∉ J := fun hj => by obtain ⟨o, e⟩ := Jlive D hj; exact (liveN e).2 rfl
      have hDo : D ∉ ownOf (compEnvC scope cl C env) := fun h => by
        rcases ownC D h with h | h
        · exact hDC h
        · obtain ⟨o, e⟩ := F₂.live D h; exact (liveN e).2 rfl
      have core : codeAny (model G.prog G.w) A (.compLoop (.ListComp elt (⟨target, iter, ifs, 0⟩ :: rest) scope pos) 0 (.ref b) (.ref D) (compEnvC scope cl C env)) (RR (.ref D) C) s₄ := by
        refine cg_ok heq ht ha gA eo' hoJ hDJ hDo (c₀ := c) (s₀ := s) hJ (fun s' hz => ?_) 300 ⟨c₂, initLoc init loc, l1, [], ai, (st.weaken (by simp)).trans (st₄.weaken (by simp)), R₄, F₄, a₄, IX₄, of, q2⟩
        obtain ⟨c₃, st₃, R₃, F₃, a₃⟩ := hz
        have hCs : s.heap.get? C = none := dead_of st hCd
        have hDs : s.heap.get? D = none := dead_of st hDd
        have stf : Step [] c s c₃ s' := by
          refine ⟨st₃.sh, fun a o e hp _ => st₃.keep a o e hp fun q => ?_, st₃.live, st₃.pi, st₃.fz, st₃.fzn⟩
          rcases List.mem_cons.mp q with q | q
          · have q' : a = C := q
            rw [q', hCs] at e; cases e
          · rw [List.mem_singleton] at q; rw [q, hDs] at e; cases e
        have offC := F₃.off C (List.mem_cons_self ..)
        obtain ⟨us, hl, hvs⟩ := a₃.list
        have hlive : ∃ o, s'.heap.get? D = some o := let ⟨o, e, _⟩ := hl; ⟨o, e⟩
        have hns' : ∃ m, s'.heap.Ns C m := let ⟨m, h, _⟩ := F₃.ns; ⟨m, h⟩
        refine hRR C D s' ?_
        cases mt with
        | false =>
          cases q
          have K : Kept c₃ s'.heap (c₃.fzAdd D) s'.heap := ⟨fun _ _ _ e => e, fun _ x => .inl x, fun _ _ e => e⟩
          exact ⟨⟨c₃.fzAdd D, stf.addFz hDs, R₃.addFz hlive a₃.pi, .list (.inr rfl) hl (hvs.kept K), offC.1, fun q => q.elim offC.2 fun e => hDC e.symm⟩, hns', hCs⟩
        | true => cases q
      exact codeAny_compStart_at rfl core (IX₄.self core)
    · cases q
  · cases q
end Mine
end
-- part F11
section
namespace Mine
variable {G : Glo} {nm nm' : List Str} {sc scope : Scope} {d : Nat}

theorem freeLook {env : Env} {init : List (Option Nat)} {c : Cf} {h : Heap} {loc : List AV} (X : CompOk nm nm' sc scope init) (eo : EnvOk sc env) (F : FR nm env c h loc) : ∀ y ∈ scope.names, y.2 = .free → ∃ a, env.cells.lookup y.1 = some a := fun y hy hk => by
  obtain ⟨a, v, h1, _⟩ := F.cel y.1 (.inl (by show env.scope.names.lookup _ = _; rw [eo.scope]; exact X.free y hy hk))
  exact ⟨a, h1⟩

theorem SE.comp {f : IM} {t : Tgt} {am : AM} {init : List (Option Nat)} {mt : Bool} {target iter : Expr} {ifs : List Expr} {rest : List Comprehension} {act : Env → Value → Sem PUnit} {elt : Expr} {pos ipos : Pos}
    (X : CompOk nm nm' sc scope init)
    (heq : ∀ it acc env, compTurn (.ListComp elt (⟨target, iter, ifs, 0⟩ :: rest) scope pos) 0 it acc env = (do
      standAt ipos
      match ← pyNext it with
      | none => pure (.done .next)
      | some v =>
        letOwnedTupleGo target it v
        assign target env v
        let ok ← testsOf ifs env
        if ok then act env acc
        again (.compLoop (.ListComp elt (⟨target, iter, ifs, 0⟩ :: rest) scope pos) 0 it acc env)))
    (hi : SI G nm sc d f iter) (ht : TgtL nm' (relabelSc scope sc) t target) (ha : ActOk G nm' (relabelSc scope sc) d am ifs act) (hs : ∀ env x, foldedSetIterable iter env x = pure x) :
    SE G nm sc d (E.comp f init t am mt) (.ListComp elt (⟨target, iter, ifs, 0⟩ :: rest) scope pos) := by
  intro A env c loc led s v led' gA eo F R q
  rw [eval_ListComp]
  refine wpAny_comprehension_free (use := none) rfl (hs env) (closureFor_eq (freeLook X eo F)) X.kind X.names ?_
  exact comp_core X heq hi ht ha (RR := fun acc C => compPost (model G.prog G.w) A (fun _ _ => False) none (RV G c s v led') acc C) gA eo F R q rfl fun C D s' hz => by
    obtain ⟨m, hm⟩ := hz.ns
    exact ⟨m, hm, fun h' hs' => hz.after hs'⟩
theorem SS.asgComp {i : Nat} {x : Str} {f : IM} {t : Tgt} {am : AM} {init : List (Option Nat)} {mt : Bool} {target iter : Expr} {ifs : List Expr} {rest : List Comprehension} {act : Env → Value → Sem PUnit} {elt : Expr} {pos ipos spos px : Pos}
    (X : CompOk nm nm' sc scope init)
    (heq : ∀ it acc env, compTurn (.ListComp elt (⟨target, iter, ifs, 0⟩ :: rest) scope pos) 0 it acc env = (do
      standAt ipos
      match ← pyNext it with
      | none => pure (.done .next)
      | some v =>
        letOwnedTupleGo target it v
        assign target env v
        let ok ← testsOf ifs env
        if ok then act env acc
        again (.compLoop (.ListComp elt (⟨target, iter, ifs, 0⟩ :: rest) scope pos) 0 it acc env)))
    (hi : SI G nm sc d f iter) (ht : TgtL nm' (relabelSc scope sc) t target) (ha : ActOk G nm' (relabelSc scope sc) d am ifs act) (hs : ∀ env x, foldedSetIterable iter env x = pure x)
    (sl : Slot nm sc i x) (hw : ∀ env, EnvOk sc env → swapsWith (.ListComp elt (⟨target, iter, ifs, 0⟩ :: rest) scope pos) (some (.Name x px)) spos.line env = pure true) :
    SS G nm sc d (S.asg i (E.comp f init t am mt)) (.Assign [.Name x px] (.ListComp elt (⟨target, iter, ifs, 0⟩ :: rest) scope pos) spos) := by
  intro A env c loc led s fl loc' led' gA eo F R q
  unfold S.asg at q
  split at q
  · rename_i v l1 h1
    cases q
    rw [exec_Assign_Name_used _ _ _ _ (hw env eo)]
    refine wpAny_bind (wpAny_standAt (wpAny_bind ?_))
    show wpAny _ A (do let _ ← comprehension (.ListComp elt (⟨target, iter, ifs, 0⟩ :: rest) scope pos) scope env _ (newList []) false (eval iter env) (some (assign (.Name x px) env))) _ _ s
    refine wpAny_bind (wpAny_mono (wpAny_comprehension_free (use := some (assign (.Name x px) env)) (Q := fun _ s' => RS G nm env c s .nx (loc.set i v) led' .next s') rfl (hs env) (closureFor_eq (freeLook X eo F)) X.kind X.names
      (comp_core X heq hi ht ha (RR := fun acc C => compPost (model G.prog G.w) A (fun _ _ => False) (some (assign (.Name x px) env)) (fun _ s' => RS G nm env c s .nx (loc.set i v) led' .next s') acc C) gA eo F R h1 rfl fun C D s' hz => ?_))
      (fun _ s' hq => wpAny_pure (wpAny_pure hq)) fun _ _ e => e)
    obtain ⟨c', st, R', hv, hp, hf⟩ := hz.rv
    have F' := F.step R st
    show wpAny _ A (assign (.Name x px) env (.ref D)) _ _ _
    refine wpAny_assign_Name (store_here eo F' R' hv sl.at_ sl.nd sl.kind fun s₂ st₂ R₂ F₂ => ?_)
    have hCo : C ∉ ownOf env := fun h => by obtain ⟨o, e⟩ := F.live C h; rw [hz.dead] at e; cases e
    obtain ⟨m, o, es, ep, e, r⟩ := hz.ns
    refine ⟨m, ⟨o, es, ep, st₂.keep C o e hp hCo, r⟩, fun h' hs' => ?_⟩
    have N : Nxt [C] c' s₂ c' { s₂ with heap := h' } := nxt_same (tk := s₂.toks) R₂ hf hs'
    have of : Off [C] c' := ⟨fun a ha => by rw [List.mem_singleton] at ha; rw [ha]; exact hp, fun a ha => by rw [List.mem_singleton] at ha; rw [ha]; exact hf⟩
    exact ⟨c', (st.widen.trans st₂).next (fun a ha => by rw [List.mem_singleton] at ha; rw [ha]; exact hz.dead) N, N.sr of R₂, N.fr of R₂ (fun a ha q => by rw [List.mem_singleton] at q; rw [q] at ha; exact hCo ha) F₂, .nx⟩
  · cases q

-- ## iterables
def rngSize (a b st : Int) : Nat := if st = 1 then (b - a).toNat else (a - b).toNat
def iterOf (led : List AO) : AV → Option AI
  | .list xs => some (.items xs)
  | .tup xs => some (.items xs)
  | .eitems => some (.items [])
  | .str cs => match cs.all (fun c => Nat.blt c 128) with
    | true => some (.items (cs.map fun c => .str [c]))
    | false => none
  | .obj k => match led[k]? with
    | some (.list _) => some (.live k 0)
    | _ => none
  | .rng a b st => match Nat.blt a.natAbs 1000000 && Nat.blt b.natAbs 1000000 && (decide (st = 1) || decide (st = -1)) with
    | true => some (.items (rngItems a st (rngSize a b st)))
    | false => none
  | _ => none
namespace E
def iter (f : EM) : IM := fun loc led => match f loc led with
  | some (v, led') => (match iterOf led' v with | some ai => some (ai, led') | none => none)
  | none => none
end E
theorem rangeSize_one {a b st : Int} (h : st = 1 ∨ st = -1) : Builtin.Range.rangeSize a b st = (rngSize a b st : Nat) := by
  unfold Builtin.Range.rangeSize rngSize
  rcases h with rfl | rfl
  · simp; omega
  · simp; omega
theorem rngItems_ok {a b st : Int} (ha : a.natAbs < 1000000) (hb : b.natAbs < 1000000) (h : st = 1 ∨ st = -1) : rngOk a st (rngSize a b st) := by
  intro i hi
  unfold rngSize at hi
  rcases h with rfl | rfl
  · simp at hi; omega
  · simp at hi; omega
theorem range_small {a b st : Int} (ha : a.natAbs < 1000000) (hb : b.natAbs < 1000000) (h : st = 1 ∨ st = -1) : Builtin.Range.small a b st = true := by
  unfold Builtin.Range.small
  rw [rangeSize_one h]
  have hs : (rngSize a b st) ≤ 2000000 := by
    unfold rngSize
    split <;> omega
  have fit : ∀ x : Int, x.natAbs < 3000000 → Builtin.Range.rangeFitsLong x = true := by
    intro x hx
    unfold Builtin.Range.rangeFitsLong
    simp only [Bool.and_eq_true, decide_eq_true_eq]
    omega
  rw [fit a (by omega), fit b (by omega), fit st (by omega), fit _ (by omega)]
  rcases h with rfl | rfl
  · simp only [Bool.and_self, Bool.true_and]
    rw [show (if (1 : Int) > 0 then Builtin.Range.rangeFitsLong (b + (1 - 1)) else Builtin.Range.rangeFitsLong (b + (1 + 1))) = true from by rw [if_pos (by decide)]; exact fit _ (by omega)]
    simp
  · simp only [Bool.and_self, Bool.true_and]
    rw [show (if (-1 : Int) > 0 then Builtin.Range.rangeFitsLong (b + (-1 - 1)) else Builtin.Range.rangeFitsLong (b + (-1 + 1))) = true from by rw [if_neg (by decide)]; exact fit _ (by omega)]
    simp
theorem iter_ok {A : Around} {c : Cf} {led : List AO} {s : Shared} {v : AV} {u : Value} {ai : AI} (R : GSR G c led s) (hv : VR c s.heap v u) (q : iterOf led v = some ai) : WP G A (pyIter u) (IterP G c s ai led) s := by
  have junk : ∀ (o : Obj) (it : Addr), it = s.heap.objs.size → (IR c (s.heap.push o) [it] it ai) → IterP G c s ai led (.ref it) { s with heap := s.heap.push o } := by
    rintro o it rfl X
    refine ⟨_, [s.heap.objs.size], c, rfl, .pushJunk .., R.pushJunk o, X, ⟨fun a ha hq => ?_, fun a ha hq => ?_⟩, fun a ha => by rw [List.mem_singleton] at ha; rw [ha]; exact get_size_none _⟩
    · rw [List.mem_singleton] at ha; subst ha
      obtain ⟨k, hk⟩ := List.getElem?_of_mem hq
      obtain ⟨_, ob, _, _, g⟩ := R.piLive hk
      rw [get_size_none] at g; cases g
    · rw [List.mem_singleton] at ha; subst ha
      obtain ⟨ob, e⟩ := R.fz _ hq
      rw [get_size_none] at e; cases e
  have K : ∀ o : Obj, Kept c s.heap c (s.heap.push o) := fun o => (Step.pushJunk (own := []) c s o).kept0 R
  cases hv with
  | list f l r =>
    cases q
    refine wpAny_pyIter_list l (junk _ _ rfl (.list (i := 0) ⟨_, Heap.get?_push_size _ rfl, rfl, rfl⟩ f (isList_kept (K _) f l) ?_))
    rw [List.drop_zero]; exact r.kept (K _)
  | tup f l r =>
    cases q
    refine wpAny_pyIter_tuple l (junk _ _ rfl (.tup (i := 0) ⟨_, Heap.get?_push_size _ rfl, rfl, rfl⟩ f (isTup_kept (K _) f l) ?_))
    rw [List.drop_zero]; exact r.kept (K _)
  | @eitems a d ep f g x y =>
    cases q
    exact wpAny_pyIter_items (knd := strKind G.prog G.w) (kvs := []) x ⟨_, #[], y, ⟨rfl, rfl, rfl⟩, rfl, fun _ h => by simp at h, .nil, List.nodup_nil⟩
      (junk _ _ rfl (.dict (Heap.get?_push_size _ rfl) g (Heap.get?_push_of_some _ y)))
  | @str cs t =>
    unfold iterOf at q
    dsimp only at q
    split at q
    · rename_i hall
      cases q
      refine wpAny_pyIter_ascii ?_ (junk _ _ rfl ?_)
      · simp only [List.all_toArray]
        rw [← hall]
        apply congrArg (fun f => cs.all f)
        funext c
        rw [Bool.eq_iff_iff]
        simp [Nat.blt_eq]
      · have := IR.str (c := c) (h := s.heap.push { cls := .type "str_ascii_iterator", data := .fields #[.str ⟨cs.toArray⟩ t, .int 0 0] }) (it := s.heap.objs.size) (x := ⟨cs.toArray⟩) (t := t) (i := 0) ⟨_, Heap.get?_push_size _ rfl, rfl, rfl⟩
        simpa using this
    · cases q
  | obj p =>
    unfold iterOf at q
    dsimp only at q
    split at q
    · rename_i xs hk
      cases q
      obtain ⟨a', h1, vs, ⟨h2, hnd⟩, h3⟩ := R.at_ _ _ hk
      rw [p] at h1; cases h1
      exact wpAny_pyIter_list h2 (junk _ _ rfl (.live (i := 0) ⟨_, Heap.get?_push_size _ rfl, rfl, rfl⟩ p))
    · cases q
  | @rng a b st ad t1 t2 t3 f hr =>
    unfold iterOf at q
    dsimp only at q
    split at q
    · rename_i hc
      cases q
      simp only [Bool.and_eq_true, Bool.or_eq_true, decide_eq_true_eq, Nat.blt_eq] at hc
      obtain ⟨⟨ha, hb⟩, hst⟩ := hc
      refine wpAny_pyIter_range hr (range_small ha hb hst) (junk _ _ rfl ?_)
      refine .rng (n := rngSize a b st) ?_ (rngItems_ok ha hb hst)
      have := Heap.get?_push_size s.heap (o := { cls := .type "range_iterator", data := .fields #[rawInt a, rawInt (Builtin.Range.rangeSize a b st), rawInt st] }) rfl
      rw [rangeSize_one hst] at this
      simpa [rangeSize_one hst] using this
    · cases q
  | _ => cases q

theorem SI.of {f : EM} {e : Expr} (h : SE G nm sc d f e) : SI G nm sc d (E.iter f) e := by
  intro A env c loc led s ai led' gA eo F R q
  unfold E.iter at q
  split at q
  · rename_i v l1 q1
    split at q
    · rename_i ai' q2
      cases q
      refine (h A env c loc led s v _ gA eo F R q1).mono fun u s₁ ⟨c₁, st, R₁, hv⟩ => ?_
      refine (iter_ok (A := A) R₁ hv q2).mono fun it s₂ hz => ?_
      obtain ⟨a, J, c₂, rfl, st₂, R₂, X, of, hJ⟩ := hz
      exact ⟨a, J, c₂, rfl, st.trans st₂, R₂, X, of, fun b hb => dead_of st (hJ b hb)⟩
    · cases q
  · cases q
end Mine
end
-- part F12
section
namespace Mine
variable {G : Glo} {nm nm' : List Str} {sc scope : Scope} {d : Nat}

theorem bits_of {i : Int} {n : Nat} (h : i.natAbs < 2 ^ n) : Builtin.Int.intBits i ≤ n := intBits_le_iff.mpr h
theorem of_bits {i : Int} {n : Nat} (h : Builtin.Int.intBits i ≤ n) : i.natAbs < 2 ^ n := intBits_le_iff.mp h
theorem VR.int' {c : Cf} {h : Heap} {i : Int} {n : Nat} {t : Tok} (x : Builtin.Int.intBits i ≤ n) : VR c h (.int i n) (.int i t) := .int (of_bits x)
theorem bits_up {i : Int} {m n : Nat} (h : Builtin.Int.intBits i ≤ m) (k : m ≤ n) : Builtin.Int.intBits i ≤ n := Nat.le_trans h k

def bmax (m n : Nat) : Nat := cond (Nat.ble m n) n m
theorem bmax_eq (m n : Nat) : bmax m n = max m n := by
  unfold bmax
  cases h : Nat.ble m n with
  | true => have := Nat.le_of_ble_eq_true h; simp; omega
  | false => have : ¬ m ≤ n := fun q => by rw [Nat.ble_eq_true_of_le q] at h; cases h
             simp; omega
/-- a new list of the ledger, or a frozen one -/
def newList (mt : Bool) (led : List AO) (xs : List AV) : Option (AV × List AO) := match mt with
  | true => some (.obj led.length, led ++ [.list xs])
  | false => some (.list xs, led)
def asList (led : List AO) : AV → Option (List AV)
  | .list xs => some xs
  | .obj k => match led[k]? with | some (.list xs) => some xs | _ => none
  | _ => none
theorem asList_ok {c : Cf} {led : List AO} {s : Shared} {v : AV} {u : Value} {xs : List AV} (R : GSR G c led s) (hv : VR c s.heap v u) (e : asList led v = some xs) : ∃ a vs, u = .ref a ∧ s.heap.IsList a vs.toArray ∧ VRs c s.heap xs vs := by
  cases hv with
  | list f l r => cases e; exact ⟨_, _, rfl, l, r⟩
  | obj q =>
    unfold asList at e; dsimp only at e
    split at e
    · rename_i ys q1
      cases e
      obtain ⟨a, h1, vs, ⟨h2, hnd⟩, h3⟩ := R.at_ _ _ q1
      rw [q] at h1; cases h1
      exact ⟨_, vs, rfl, h2, h3⟩
    · cases e
  | _ => cases e
theorem newList_ok {c : Cf} {led led' : List AO} {s : Shared} {xs : List AV} {vs : List Value} {mt : Bool} {v : AV} {t : Nat} (R : GSR G c led s) (hv : VRs c s.heap xs vs) (e : newList mt led xs = some (v, led')) :
    RV G c s v led' (.ref s.heap.objs.size) { s with heap := s.heap.push { cls := .type "list", data := .seq vs.toArray }, toks := t } := by
  cases mt with
  | true =>
    cases e
    have st := Step.pushPi (own := []) c s { cls := .type "list", data := .seq vs.toArray }
    have K := st.kept0 R
    have R' := R.pushPi { cls := .type "list", data := .seq vs.toArray } (.list xs) ⟨vs, ⟨⟨_, Heap.get?_push_size _ rfl, rfl, _, rfl⟩, _, Heap.get?_push_size _ rfl, rfl⟩, hv.kept K⟩
    refine ⟨_, st.trans (.tok _ _ t), R'.tok t, .obj ?_⟩
    show (c.pi ++ [s.heap.objs.size])[led.length]? = _
    rw [R.len]; simp
  | false =>
    cases e
    have st := Step.pushFz (own := []) c s { cls := .type "list", data := .seq vs.toArray }
    have K := st.kept0 R
    exact ⟨_, st.trans (.tok _ _ t), (R.pushFz _).tok t, .list (.inr rfl) ⟨_, Heap.get?_push_size _ rfl, rfl, _, rfl⟩ (hv.kept K)⟩

def shortL (xs : List AV) : Bool := Nat.ble xs.length 10000
def shortS (xs : List Nat) : Bool := Nat.ble xs.length 10000
theorem shortL_le {xs : List AV} (h : shortL xs = true) : xs.length ≤ 10000 := Nat.le_of_ble_eq_true h
theorem shortS_le {xs : List Nat} (h : shortS xs = true) : xs.length ≤ 10000 := Nat.le_of_ble_eq_true h
theorem str_len (x : List Nat) : (⟨x.toArray⟩ : Str).length = x.length := by show x.toArray.size = _; simp
theorem str_cat (x y : List Nat) : ((⟨x.toArray⟩ : Str) ++ ⟨y.toArray⟩) = ⟨(x ++ y).toArray⟩ := by
  show (⟨x.toArray ++ y.toArray⟩ : Str) = _; simp

def pAdd (mt : Bool) : P2 := fun led a b => match a, b with
  | .int i n, .int j m => some (.int (i + j) (bmax n m + 1), led)
  | .str x, .str y => (match shortS x && shortS y with | true => some (.str (x ++ y), led) | false => none)
  | a, b => match asList led a, asList led b with
    | some xs, some ys => (match shortL xs && shortL ys with | true => newList mt led (xs ++ ys) | false => none)
    | _, _ => none
theorem add_seq {A : Around} {l b : Addr} {vs ws : List Value} {s : Shared} {Q : Value → Shared → Prop} (hl : s.heap.IsList l vs.toArray) (hb : s.heap.IsList b ws.toArray)
    (h : ∀ t, Q (.ref s.heap.objs.size) { s with heap := s.heap.push { cls := .type "list", data := .seq (vs ++ ws).toArray }, toks := t }) (hsz : vs.length + ws.length ≤ sizeLine) : WP G A (binaryOp .Add (.ref l) (.ref b)) Q s := by
  obtain ⟨⟨cls, dd, data, sl⟩, ho, hc, n, hd⟩ := id hl
  obtain ⟨⟨cls2, dd2, data2, sl2⟩, ho2, hc2, n2, hd2⟩ := id hb
  simp only at hc hd hc2 hd2
  subst hc hd hc2 hd2
  have e : vs.toArray ++ ws.toArray = (vs ++ ws).toArray := by simp
  refine concat_meets ⟨_, ho, rfl⟩ ⟨_, ho2, rfl⟩ noFill_list_add seq_list_add PySem.F.slot_list_add PySem.F.entry_list_add (PySem.F.args_list_add_2 _ _) (list_addW l b vs.toArray ws.toArray n n2 dd dd2 sl sl2 (by simpa using hsz)) ⟨ho, ho2, ?_⟩
  rw [e]
  exact h _
theorem pAdd_cases {mt : Bool} {led led' : List AO} {a b v : AV} (e : pAdd mt led a b = some (v, led')) :
    (∃ i n j m, a = .int i n ∧ b = .int j m ∧ v = .int (i + j) (bmax n m + 1) ∧ led' = led) ∨ (∃ x y, a = .str x ∧ b = .str y ∧ (shortS x && shortS y) = true ∧ v = .str (x ++ y) ∧ led' = led) ∨
    (∃ xs ys, asList led a = some xs ∧ asList led b = some ys ∧ (shortL xs && shortL ys) = true ∧ newList mt led (xs ++ ys) = some (v, led')) := by
  unfold pAdd at e
  split at e
  · cases e; exact .inl ⟨_, _, _, _, rfl, rfl, rfl, rfl⟩
  · split at e
    · rename_i h; cases e; exact .inr (.inl ⟨_, _, rfl, rfl, h, rfl, rfl⟩)
    · cases e
  · split at e
    · rename_i xs ys h1 h2
      split at e
      · rename_i h3; exact .inr (.inr ⟨xs, ys, h1, h2, h3, e⟩)
      · cases e
    · cases e
theorem SP2.add {mt : Bool} : SP2 G d (pAdd mt) (binaryOp .Add) := by
  intro A c led s a b ua ub v led' gA R ha hb e
  rcases pAdd_cases e with ⟨i, n, j, m, rfl, rfl, rfl, rfl⟩ | ⟨x, y, rfl, rfl, h, rfl, rfl⟩ | ⟨xs, ys, h1, h2, h3, h4⟩
  · obtain ⟨_, rfl, han⟩ := ha.intI; replace ha := han
    obtain ⟨_, rfl, hbn⟩ := hb.intI; replace hb := hbn
    exact PySem.P.add_int (.tok R (.int' (bmax_eq n m ▸ intBits_add_le (bits_of ha) (bits_of hb))))
  · obtain ⟨_, rfl⟩ := ha.strI; obtain ⟨_, rfl⟩ := hb.strI
    rw [Bool.and_eq_true] at h
    have := shortS_le h.1; have := shortS_le h.2
    refine PySem.SB.add (fun t' k => .tok R ?_) (by rw [str_len, str_len]; unfold sizeLine; omega)
    rw [str_cat]; exact .str
  · obtain ⟨l, vs, rfl, hl, hx⟩ := asList_ok R ha h1
    obtain ⟨b', ws, rfl, hb', hy⟩ := asList_ok R hb h2
    rw [Bool.and_eq_true] at h3
    have := shortL_le h3.1; have := shortL_le h3.2
    refine add_seq hl hb' (fun t => newList_ok R (hx.append hy) h4) (by rw [hx.length, hy.length]; unfold sizeLine; omega)

def pInt (f : Int → Int → Int) (g : Nat → Nat → Nat) (ok : Int → Int → Nat → Nat → Bool) : P2 := fun led a b => match a, b with
  | .int i n, .int j m => (match ok i j n m with | true => some (.int (f i j) (g n m), led) | false => none)
  | _, _ => none
theorem pInt_cases {f : Int → Int → Int} {g : Nat → Nat → Nat} {ok : Int → Int → Nat → Nat → Bool} {led led' : List AO} {a b v : AV} (e : pInt f g ok led a b = some (v, led')) : ∃ i n j m, a = .int i n ∧ b = .int j m ∧ v = .int (f i j) (g n m) ∧ led' = led ∧ ok i j n m = true := by
  unfold pInt at e
  split at e
  · split at e
    · rename_i h; cases e; exact ⟨_, _, _, _, rfl, rfl, rfl, rfl, h⟩
    · cases e
  · cases e
def pSub : P2 := pInt (· - ·) (fun n m => bmax n m + 1) fun _ _ _ _ => true
theorem SP2.sub : SP2 G d pSub (binaryOp .Sub) := by
  intro A c led s a b ua ub v led' gA R ha hb e
  obtain ⟨i, n, j, m, rfl, rfl, rfl, rfl, _⟩ := pInt_cases e
  obtain ⟨_, rfl, han⟩ := ha.intI; replace ha := han
  obtain ⟨_, rfl, hbn⟩ := hb.intI; replace hb := hbn
  exact PySem.P.sub_int (.tok R (.int' (bmax_eq n m ▸ intBits_sub_le (bits_of ha) (bits_of hb))))
def isNZ : Int → Bool
  | .ofNat 0 => false
  | _ => true
theorem isNZ_ne {j : Int} (h : isNZ j = true) : j ≠ 0 := by rintro rfl; cases h
def pMod : P2 := pInt Int.fmod bmax fun _ j _ _ => isNZ j
theorem SP2.mod : SP2 G d pMod (binaryOp .Mod) := by
  intro A c led s a b ua ub v led' gA R ha hb e
  obtain ⟨i, n, j, m, rfl, rfl, rfl, rfl, h⟩ := pInt_cases e
  obtain ⟨_, rfl, han⟩ := ha.intI; replace ha := han
  obtain ⟨_, rfl, hbn⟩ := hb.intI; replace hb := hbn
  exact mod_int' (isNZ_ne h) (.tok R (.int' (bmax_eq n m ▸ intBits_fmod_le (bits_of ha) (bits_of hb))))
def pDiv : P2 := pInt Int.fdiv (fun n _ => n) fun _ j _ m => isNZ j && Nat.ble m 8000
theorem SP2.floordiv : SP2 G d pDiv (binaryOp .FloorDiv) := by
  intro A c led s a b ua ub v led' gA R ha hb e
  obtain ⟨i, n, j, m, rfl, rfl, rfl, rfl, h⟩ := pInt_cases e
  rw [Bool.and_eq_true] at h
  obtain ⟨_, rfl, han⟩ := ha.intI; replace ha := han
  obtain ⟨_, rfl, hbn⟩ := hb.intI; replace hb := hbn
  have hj := isNZ_ne h.1
  refine floordiv_int hj (.tok R (.int' (intBits_fdiv_le (bits_of ha)))) (.inl (PyProof.noPylong_of_log2 ?_))
  have h2 := Nat.le_of_ble_eq_true h.2
  have h3 : j.natAbs.log2 < m := (Nat.log2_lt (by omega)).mpr hb
  omega
/-- `*` of two ints, of a text and an int, of a list and an int -/
def repS (x : List Nat) : Nat → List Nat
  | 0 => []
  | n + 1 => x ++ repS x n
def repL (x : List AV) : Nat → List AV
  | 0 => []
  | n + 1 => x ++ repL x n
def small (i : Int) : Bool := match i with
  | .ofNat n => Nat.ble n 1000
  | .negSucc n => Nat.ble n 1000
def pMul (mt : Bool) : P2 := fun led a b => match a, b with
  | .int i n, .int j m => (match Nat.ble (n + m) 134217728 with | true => some (.int (i * j) (n + m), led) | false => none)
  | .str x, .int j _ => (match shortS x && small j with | true => some (.str (repS x j.toNat), led) | false => none)
  | a, .int j _ => (match asList led a with
    | some xs => (match shortL xs && small j with | true => newList mt led (repL xs j.toNat) | false => none)
    | none => none)
  | _, _ => none
theorem repS_eq (x : List Nat) : ∀ n, repS x n = (List.replicate n x).flatten
  | 0 => rfl
  | n + 1 => by rw [List.replicate_succ, List.flatten_cons, ← repS_eq x n]; rfl
theorem repL_ok {c : Cf} {h : Heap} {xs : List AV} {vs : List Value} (r : VRs c h xs vs) : ∀ n, VRs c h (repL xs n) (List.replicate n vs).flatten
  | 0 => .nil
  | n + 1 => by rw [List.replicate_succ, List.flatten_cons]; exact r.append (repL_ok r n)
theorem small_of {j : Int} (h : small j = true) : -1002 < j ∧ j < 1002 := by
  cases j with
  | ofNat n =>
    have h1 := Nat.le_of_ble_eq_true (show Nat.ble n 1000 = true from h)
    have h2 : (Int.ofNat n) = (n : Int) := rfl
    rw [h2]; constructor <;> omega
  | negSucc n => have := Nat.le_of_ble_eq_true (show Nat.ble n 1000 = true from h); constructor <;> omega
theorem txtmul (x : List Nat) (j : Int) : Txt.mul ⟨x.toArray⟩ j = ⟨(repS x j.toNat).toArray⟩ := by
  unfold Txt.mul
  by_cases h1 : j < 1
  · rw [if_pos h1, show j.toNat = 0 by omega]; rfl
  · rw [if_neg h1, repS_eq]
    by_cases h2 : (j == 1 || (⟨x.toArray⟩ : Str).length == 0) = true
    · rw [if_pos h2, str_len] at *
      rw [Bool.or_eq_true] at h2
      rcases h2 with h2 | h2
      · have : j = 1 := by simpa using h2
        subst this
        simp
      · have : x = [] := by simpa using h2
        subst this
        rw [lm_rep_nil]
    · rw [if_neg h2]
      have key : ∀ (n : Nat) (acc : Array Nat), (List.replicate n x.toArray).foldl (· ++ ·) acc = acc ++ (List.replicate n x).flatten.toArray := by
        intro n
        induction n with
        | zero => intro acc; simp
        | succ n ih => intro acc; rw [List.replicate_succ, List.foldl_cons, ih, List.replicate_succ, List.flatten_cons]; simp
      have := key j.toNat #[]
      simp only [Array.empty_append] at this
      exact congrArg _ this
theorem pMul_cases {mt : Bool} {led led' : List AO} {a b v : AV} (e : pMul mt led a b = some (v, led')) :
    (∃ i n j m, a = .int i n ∧ b = .int j m ∧ v = .int (i * j) (n + m) ∧ led' = led ∧ Nat.ble (n + m) 134217728 = true) ∨ (∃ x j m, a = .str x ∧ b = .int j m ∧ (shortS x && small j) = true ∧ v = .str (repS x j.toNat) ∧ led' = led) ∨
    (∃ xs j m, asList led a = some xs ∧ b = .int j m ∧ (shortL xs && small j) = true ∧ newList mt led (repL xs j.toNat) = some (v, led')) := by
  unfold pMul at e
  split at e
  · split at e
    · rename_i h; cases e; exact .inl ⟨_, _, _, _, rfl, rfl, rfl, rfl, h⟩
    · cases e
  · split at e
    · rename_i h; cases e; exact .inr (.inl ⟨_, _, _, rfl, rfl, h, rfl, rfl⟩)
    · cases e
  · split at e
    · rename_i xs h1
      split at e
      · rename_i h3; exact .inr (.inr ⟨xs, _, _, h1, rfl, h3, e⟩)
      · cases e
    · cases e
  · cases e
theorem mul_seq {A : Around} {l : Addr} {vs : List Value} {x : Int} {u : Tok} {s : Shared} {Q : Value → Shared → Prop} (hl : s.heap.IsList l vs.toArray) (hlo : -(2 ^ 63 : Int) ≤ x) (hhi : x < 2 ^ 63) (hsz : vs.length * x.toNat ≤ 2 ^ 24)
    (h : ∀ t, Q (.ref s.heap.objs.size) { s with heap := s.heap.push { cls := .type "list", data := .seq (List.replicate x.toNat vs).flatten.toArray }, toks := t }) : WP G A (binaryOp .Mult (.ref l) (.int x u)) Q s := by
  obtain ⟨⟨cls, d, data, sl⟩, ho, hcl, k, hd⟩ := id hl
  simp only at hcl hd
  subst hcl hd
  have hsz' : vs.toArray.size * x.toNat ≤ 2 ^ 24 := by simpa using hsz
  refine wpAny_binaryOp_repeat_ref (T := "list") (U := "int") (by decide) ⟨_, ho, rfl⟩ (fun s' => typeIs_int s' x u) noFill_list_mul F.fills_int_mul F.slot_int_rmul repeat_list F.slot_int_index.lookup
    (call_meets F.slot_int_rmul (typeIs_int s x u) F.entry_int_rmul (F.args_int_rmul_2 _ _) (lm_int_rmul_list_any x u l vs.toArray k d sl)
      ⟨ho, rfl, ⟨_, ho, rfl⟩, call_meets F.slot_list_mul ⟨_, ho, rfl⟩ F.entry_list_mul (F.args_list_mul_2 _ _)
        (lm_list_mul_any l vs.toArray k d sl x u (by simp [Builtin.List.listFitsIndex]; omega) (by omega) (by simp [Builtin.List.listTooLong, sizeLine]; omega))
        ⟨ho, ?_⟩⟩)
  rw [listMul_foldl_if]
  have := h s.toks
  simpa using this
theorem SP2.mul {mt : Bool} : SP2 G d (pMul mt) (binaryOp .Mult) := by
  intro A c led s a b ua ub v led' gA R ha hb e
  rcases pMul_cases e with ⟨i, n, j, m, rfl, rfl, rfl, rfl, h⟩ | ⟨x, j, m, rfl, rfl, h, rfl, rfl⟩ | ⟨xs, j, m, h1, rfl, h3, h4⟩
  · obtain ⟨_, rfl, han⟩ := ha.intI; replace ha := han
    obtain ⟨_, rfl, hbn⟩ := hb.intI; replace hb := hbn
    exact PySem.P.mul_int (.tok R (.int' (intBits_mul_le (bits_of ha) (bits_of hb)))) (mulOk_of_bits (bits_of ha) (bits_of hb) (Nat.le_of_ble_eq_true h))
  · obtain ⟨_, rfl⟩ := ha.strI; obtain ⟨_, rfl, _⟩ := hb.intI
    rw [Bool.and_eq_true] at h
    have h1 := shortS_le h.1
    obtain ⟨h2, h3⟩ := small_of h.2
    refine PySem.SB.mul ⟨?_, fun _ _ => ?_, fun _ _ => ?_⟩ fun t' k => .tok R ?_
    · simp; omega
    · rw [str_len]
      have : (9007199254740992 : Int) ≤ (2 ^ 63 - 1) / j := by
        refine Int.le_ediv_of_mul_le (by omega) ?_
        have : (9007199254740992 : Int) * j ≤ 9007199254740992 * 1001 := Int.mul_le_mul_of_nonneg_left (by omega) (by decide)
        omega
      omega
    · rw [str_len]
      unfold Builtin.Str.tooLong
      refine decide_eq_false (Nat.not_lt.mpr ?_)
      exact Nat.le_trans (Nat.mul_le_mul h1 (show j.toNat ≤ 1001 by omega)) (by decide)
    · rw [txtmul]; exact .str
  · obtain ⟨_, rfl, _⟩ := hb.intI
    obtain ⟨l, vs, rfl, hl, hx⟩ := asList_ok R ha h1
    rw [Bool.and_eq_true] at h3
    have h5 := shortL_le h3.1
    obtain ⟨h6, h7⟩ := small_of h3.2
    refine mul_seq hl (by omega) (by omega) ?_ fun t => newList_ok R (repL_ok hx _) h4
    rw [hx.length]
    exact Nat.le_trans (Nat.mul_le_mul h5 (show j.toNat ≤ 1001 by omega)) (by decide)
end Mine
end
-- part F13
section
namespace Mine
variable {G : Glo} {nm nm' : List Str} {sc scope : Scope} {d : Nat}

inductive TV where
  | none | bool (b : Bool) | int (i : Int) | str (s : List Nat) | list (xs : List TV) | tup (xs : List TV)
mutual
def TV.data : TV → PyData
  | .none => .none | .bool b => .bool b | .int i => .int i | .str s => .str ⟨s.toArray⟩
  | .list xs => .list (TV.datas xs) | .tup xs => .tuple (TV.datas xs)
def TV.datas : List TV → List PyData
  | [] => []
  | x :: r => TV.data x :: TV.datas r
end
def eqNs : List Nat → List Nat → Bool
  | [], [] => true
  | x :: r, y :: s => Nat.beq x y && eqNs r s
  | _, _ => false
theorem eqNs_iff : ∀ {x y : List Nat}, eqNs x y = true ↔ x = y
  | [], [] => by simp [eqNs]
  | [], _ :: _ => by simp [eqNs]
  | _ :: _, [] => by simp [eqNs]
  | x :: r, y :: s => by
    have ih := @eqNs_iff r s
    unfold eqNs
    rw [Bool.and_eq_true, ih, Nat.beq_eq]; simp
theorem eqNs_eq (x y : List Nat) : eqNs x y = decide (x = y) := by
  by_cases h : x = y
  · rw [decide_eq_true h]; exact eqNs_iff.mpr h
  · rw [decide_eq_false h]; exact Bool.eq_false_iff.mpr fun q => h (eqNs_iff.mp q)
mutual
def TV.eq : TV → TV → Option Bool
  | .none, .none => some true
  | .bool a, .bool b => some (a == b)
  | .int i, .int j => some (i == j)
  | .str x, .str y => some (eqNs x y)
  | .list xs, .list ys => TV.eqs xs ys
  | .tup xs, .tup ys => TV.eqs xs ys
  | _, _ => Option.none
def TV.eqs : List TV → List TV → Option Bool
  | [], [] => some true
  | x :: xs, y :: ys => match TV.eq x y with
    | some true => TV.eqs xs ys
    | some false => some false
    | Option.none => Option.none
  | [], _ :: _ => some false
  | _ :: _, [] => some false
end
theorem strEq (x y : List Nat) : ((⟨x.toArray⟩ : Str) == ⟨y.toArray⟩) = eqNs x y := by
  rw [eqNs_eq, Bool.eq_iff_iff]
  simp
mutual
theorem TV.eq_ok : ∀ {x y : TV} {b : Bool}, TV.eq x y = some b → PyData.eqv x.data y.data = b
  | .none, .none, _, e => by cases e; rfl
  | .bool _, .bool _, _, e => by cases e; rfl
  | .int _, .int _, _, e => by cases e; rfl
  | .str x, .str y, _, e => by cases e; simp only [TV.data, PyData.eqv]; exact strEq x y
  | .list xs, .list ys, _, e => by
    simp only [TV.data, PyData.eqv]; exact TV.eqs_ok (by unfold TV.eq at e; exact e)
  | .tup xs, .tup ys, _, e => by
    simp only [TV.data, PyData.eqv]; exact TV.eqs_ok (by unfold TV.eq at e; exact e)
  | .none, .bool _, _, e | .none, .int _, _, e | .none, .str _, _, e | .none, .list _, _, e | .none, .tup _, _, e => by simp [TV.eq] at e
  | .bool _, .none, _, e | .bool _, .int _, _, e | .bool _, .str _, _, e | .bool _, .list _, _, e | .bool _, .tup _, _, e => by simp [TV.eq] at e
  | .int _, .none, _, e | .int _, .bool _, _, e | .int _, .str _, _, e | .int _, .list _, _, e | .int _, .tup _, _, e => by simp [TV.eq] at e
  | .str _, .none, _, e | .str _, .bool _, _, e | .str _, .int _, _, e | .str _, .list _, _, e | .str _, .tup _, _, e => by simp [TV.eq] at e
  | .list _, .none, _, e | .list _, .bool _, _, e | .list _, .int _, _, e | .list _, .str _, _, e | .list _, .tup _, _, e => by simp [TV.eq] at e
  | .tup _, .none, _, e | .tup _, .bool _, _, e | .tup _, .int _, _, e | .tup _, .str _, _, e | .tup _, .list _, _, e => by simp [TV.eq] at e
theorem TV.eqs_ok : ∀ {x y : List TV} {b : Bool}, TV.eqs x y = some b → PyData.eqvAll (TV.datas x) (TV.datas y) = b
  | [], [], _, e => by simp [TV.eqs] at e; subst e; rfl
  | x :: xs, y :: ys, b, e => by
    unfold TV.eqs at e
    simp only [TV.datas, PyData.eqvAll]
    split at e
    · rename_i h; rw [TV.eq_ok h, Bool.true_and]; exact TV.eqs_ok e
    · rename_i h; cases e; rw [TV.eq_ok h, Bool.false_and]
    · cases e
  | [], _ :: _, _, e => by simp [TV.eqs] at e; subst e; rfl
  | _ :: _, [], _, e => by simp [TV.eqs] at e; subst e; rfl
end
def asciiS (cs : List Nat) : Bool := match cs with
  | [] => true
  | c :: r => Nat.blt c 128 && asciiS r
theorem asciiS_lt : ∀ {cs : List Nat}, asciiS cs = true → ∀ c ∈ cs, c < 128
  | [], _, c, h => by simp at h
  | x :: r, e, c, h => by
    unfold asciiS at e
    rw [Bool.and_eq_true] at e
    rcases List.mem_cons.mp h with rfl | h
    · exact Nat.blt_eq.mp e.1
    · exact asciiS_lt e.2 c h
def mapT (f : AV → Option TV) : List AV → Option (List TV)
  | [] => some []
  | x :: r => match f x with
    | some y => (match mapT f r with | some s => some (y :: s) | none => none)
    | none => none
def toT (led : List AO) : Nat → AV → Option TV
  | 0, _ => none
  | n + 1, v => match v with
    | .none => some .none
    | .bool b => some (.bool b)
    | .int i _ => some (.int i)
    | .str s => (match asciiS s with | true => some (.str s) | false => none)
    | .list xs => (match mapT (toT led n) xs with | some ys => some (.list ys) | none => none)
    | .tup xs => (match mapT (toT led n) xs with | some ys => some (.tup ys) | none => none)
    | .obj k => (match led[k]? with | some (.list xs) => (match mapT (toT led n) xs with | some ys => some (.list ys) | none => none) | _ => none)
    | _ => none
structure Rd (h : Heap) (n : Nat) (u : Value) (t : TV) : Prop where
  rd : ∃ as, Reads h u t.data as
  lay : t.data.canLay0 = true
  dep : t.data.depth ≤ n
structure Rds (h : Heap) (n : Nat) (us : List Value) (ts : List TV) : Prop where
  rd : ∃ as, ReadsAll h us (TV.datas ts) as
  lay : PyData.canLayAll0 (TV.datas ts) = true
  dep : PyData.depthAll (TV.datas ts) ≤ n
theorem mapT_ok {c : Cf} {h : Heap} {n : Nat} {f : AV → Option TV} (hf : ∀ {x y u}, VR c h x u → f x = some y → Rd h n u y) : ∀ {xs : List AV} {vs : List Value} {ys : List TV}, VRs c h xs vs → mapT f xs = some ys → Rds h n vs ys
  | _, _, _, .nil, e => by cases e; exact ⟨⟨_, .nil⟩, rfl, Nat.zero_le _⟩
  | _, _, _, .cons x r, e => by
    unfold mapT at e
    split at e
    · rename_i y q
      split at e
      · rename_i s q2
        cases e
        obtain ⟨⟨as, r1⟩, l1, d1⟩ := hf x q
        obtain ⟨⟨bs, r2⟩, l2, d2⟩ := mapT_ok hf r q2
        refine ⟨⟨_, .cons r1 r2⟩, ?_, ?_⟩
        · simp only [TV.datas, PyData.canLayAll0, l1, l2, Bool.and_self]
        · simp only [TV.datas, PyData.depthAll]; omega
      · cases e
    · cases e
theorem Rds.list {h : Heap} {n : Nat} {vs : List Value} {ts : List TV} (x : Rds h n vs ts) {a : Addr} (l : h.IsList a vs.toArray) : Rd h (n + 1) (.ref a) (.list ts) := by
  obtain ⟨⟨as, r⟩, l1, d1⟩ := x
  obtain ⟨o, e, q, k, w⟩ := l
  refine ⟨⟨_, .list e q w (by simpa using r)⟩, ?_, ?_⟩
  · simp only [TV.data, PyData.canLay0, l1]
  · simp only [TV.data, PyData.depth]; omega
theorem Rds.tup {h : Heap} {n : Nat} {vs : List Value} {ts : List TV} (x : Rds h n vs ts) {a : Addr} (l : IsTup h a vs.toArray) : Rd h (n + 1) (.ref a) (.tup ts) := by
  obtain ⟨⟨as, r⟩, l1, d1⟩ := x
  obtain ⟨o, e, q, k, w⟩ := l
  refine ⟨⟨_, .tuple e q w (by simpa using r)⟩, ?_, ?_⟩
  · simp only [TV.data, PyData.canLay0, l1]
  · simp only [TV.data, PyData.depth]; omega
theorem toT_ok {c : Cf} {led : List AO} {s : Shared} (R : GSR G c led s) : ∀ (n : Nat) {v : AV} {t : TV} {u : Value}, VR c s.heap v u → toT led n v = some t → Rd s.heap n u t
  | 0, _, _, _, _, e => by cases e
  | n + 1, v, t, u, hv, e => by
    have ih : ∀ {x y w}, VR c s.heap x w → toT led n x = some y → Rd s.heap n w y := fun a b => toT_ok R n a b
    cases hv with
    | none => cases e; exact ⟨⟨_, .none⟩, rfl, Nat.zero_le _⟩
    | bool b => cases e; exact ⟨⟨_, .bool b⟩, rfl, Nat.zero_le _⟩
    | int q => cases e; exact ⟨⟨_, .int _ _⟩, rfl, Nat.zero_le _⟩
    | str =>
      unfold toT at e; dsimp only at e
      split at e
      · rename_i h
        cases e
        refine ⟨⟨_, .str _ _⟩, ?_, Nat.zero_le _⟩
        simp only [TV.data, PyData.canLay0, PyData.strOk, List.all_toArray]
        rw [List.all_eq_true]
        intro x hx
        have := asciiS_lt h x hx
        exact decide_eq_true (by omega)
      · cases e
    | list f l r =>
      unfold toT at e; dsimp only at e
      split at e
      · rename_i ys q; cases e; exact (mapT_ok ih r q).list l
      · cases e
    | tup f l r =>
      unfold toT at e; dsimp only at e
      split at e
      · rename_i ys q; cases e; exact (mapT_ok ih r q).tup l
      · cases e
    | obj q =>
      unfold toT at e; dsimp only at e
      split at e
      · rename_i xs q1
        split at e
        · rename_i ys q2
          cases e
          obtain ⟨a, h1, vs, ⟨h2, hnd⟩, h3⟩ := R.at_ _ _ q1
          rw [q] at h1; cases h1
          exact (mapT_ok ih h3 q2).list h2
        · cases e
      · cases e
    | _ => cases e

/-- `==` and `!=` -/
def eqAV (led : List AO) (a b : AV) : Option Bool := match a, b with
  | .int i _, .int j _ => some (i == j)
  | a, b => match toT led 9 a, toT led 9 b with
    | some x, some y => TV.eq x y
    | _, _ => none
def pEq : P2 := fun led a b => match eqAV led a b with | some q => some (.bool q, led) | none => none
def pNe : P2 := fun led a b => match eqAV led a b with | some q => some (.bool (!q), led) | none => none
theorem eqAV_cases {led : List AO} {a b : AV} {q : Bool} (e : eqAV led a b = some q) : (∃ i n j m, a = .int i n ∧ b = .int j m ∧ q = (i == j)) ∨ ∃ x y, toT led 9 a = some x ∧ toT led 9 b = some y ∧ TV.eq x y = some q := by
  unfold eqAV at e
  split at e
  · cases e; exact .inl ⟨_, _, _, _, rfl, rfl, rfl⟩
  · split at e
    · rename_i x y h1 h2; exact .inr ⟨x, y, h1, h2, e⟩
    · cases e
theorem Rd.shaped {h : Heap} {u : Value} {t : TV} (x : Rd h 9 u t) : SeqAt.shaped t.data = true := by
  unfold SeqAt.shaped; rw [x.lay, Bool.true_and]; exact decide_eq_true (Nat.le_trans x.dep (by decide))
theorem GoodA.units' {A : Around} (h : GoodA d A) : A.units + 64 < cLine := by have := h.units; omega
theorem SP2.eq : SP2 G d pEq (compareOp .Eq) := by
  intro A c led s a b ua ub v led' gA R ha hb e
  unfold pEq at e
  split at e
  · rename_i q hq
    cases e
    rcases eqAV_cases hq with ⟨i, n, j, m, rfl, rfl, rfl⟩ | ⟨x, y, h1, h2, h3⟩
    · obtain ⟨_, rfl, _⟩ := ha.intI; obtain ⟨_, rfl, _⟩ := hb.intI
      exact PySem.P.eq_int (.here R (.bool _))
    · have r1 := toT_ok R 9 ha h1
      have r2 := toT_ok R 9 hb h2
      obtain ⟨as, q1⟩ := r1.rd
      obtain ⟨bs, q2⟩ := r2.rd
      exact eq_dataH q1 q2 r1.shaped r2.shaped gA.units' (by rw [TV.eq_ok h3]; exact .here R (.bool _))
  · cases e
theorem SP2.ne : SP2 G d pNe (compareOp .NotEq) := by
  intro A c led s a b ua ub v led' gA R ha hb e
  unfold pNe at e
  split at e
  · rename_i q hq
    cases e
    rcases eqAV_cases hq with ⟨i, n, j, m, rfl, rfl, rfl⟩ | ⟨x, y, h1, h2, h3⟩
    · obtain ⟨_, rfl, _⟩ := ha.intI; obtain ⟨_, rfl, _⟩ := hb.intI
      exact PySem.P.ne_int (.here R (.bool _))
    · have r1 := toT_ok R 9 ha h1
      have r2 := toT_ok R 9 hb h2
      obtain ⟨as, q1⟩ := r1.rd
      obtain ⟨bs, q2⟩ := r2.rd
      exact ne_dataH q1 q2 r1.shaped r2.shaped gA.units' (by rw [TV.eq_ok h3]; exact .here R (.bool _))
  · cases e

/-- orders of ints -/
def pCmp (f : Int → Int → Bool) : P2 := fun led a b => match a, b with
  | .int i _, .int j _ => some (.bool (f i j), led)
  | _, _ => none
theorem pCmp_cases {f : Int → Int → Bool} {led led' : List AO} {a b v : AV} (e : pCmp f led a b = some (v, led')) : ∃ i n j m, a = .int i n ∧ b = .int j m ∧ v = .bool (f i j) ∧ led' = led := by
  unfold pCmp at e
  split at e
  · cases e; exact ⟨_, _, _, _, rfl, rfl, rfl, rfl⟩
  · cases e
def pLt : P2 := pCmp fun i j => decide (i < j)
def pLe : P2 := pCmp fun i j => decide (i ≤ j)
def pGt : P2 := pCmp fun i j => decide (i > j)
def pGe : P2 := pCmp fun i j => decide (i ≥ j)
theorem SP2.lt : SP2 G d pLt (compareOp .Lt) := by
  intro A c led s a b ua ub v led' gA R ha hb e
  obtain ⟨i, n, j, m, rfl, rfl, rfl, rfl⟩ := pCmp_cases e
  obtain ⟨_, rfl, _⟩ := ha.intI; obtain ⟨_, rfl, _⟩ := hb.intI; exact PySem.P.lt_int (.here R (.bool _))
theorem SP2.le : SP2 G d pLe (compareOp .LtE) := by
  intro A c led s a b ua ub v led' gA R ha hb e
  obtain ⟨i, n, j, m, rfl, rfl, rfl, rfl⟩ := pCmp_cases e
  obtain ⟨_, rfl, _⟩ := ha.intI; obtain ⟨_, rfl, _⟩ := hb.intI; exact PySem.P.le_int (.here R (.bool _))
theorem SP2.gt : SP2 G d pGt (compareOp .Gt) := by
  intro A c led s a b ua ub v led' gA R ha hb e
  obtain ⟨i, n, j, m, rfl, rfl, rfl, rfl⟩ := pCmp_cases e
  obtain ⟨_, rfl, _⟩ := ha.intI; obtain ⟨_, rfl, _⟩ := hb.intI; exact PySem.P.gt_int (.here R (.bool _))
theorem SP2.ge : SP2 G d pGe (compareOp .GtE) := by
  intro A c led s a b ua ub v led' gA R ha hb e
  obtain ⟨i, n, j, m, rfl, rfl, rfl, rfl⟩ := pCmp_cases e
  obtain ⟨_, rfl, _⟩ := ha.intI; obtain ⟨_, rfl, _⟩ := hb.intI; exact PySem.P.ge_int (.here R (.bool _))
def pNeg : P1 := fun led a => match a with
  | .int i n => some (.int (-i) n, led)
  | _ => none
theorem SP1.neg : SP1 G d pNeg (unaryOp .USub) := by
  intro A c led s a u v led' gA R ha e
  cases ha <;> cases e
  rename_i h
  exact PySem.P.neg_int (.tok R (.int' (intBits_neg_le (bits_of h))))
end Mine
end
-- part F14
section
namespace Mine
variable {G : Glo} {nm nm' : List Str} {sc scope : Scope} {d : Nat}

-- ## `is`
def isTy : Ty → Ty → Option Bool
  | .str, t => (match t with | .str => some true | _ => none)
  | .int, t => (match t with | .int => some true | _ => none)
  | .list, t => (match t with | .list => some true | _ => none)
def isAV (a b : AV) : Option Bool := match b with
  | .none => (match a with
    | .none => some true
    | .bool _ => some false
    | .str _ => some false
    | .int _ _ => some false
    | .list _ => some false
    | .tup _ => some false
    | .obj _ => some false
    | _ => Option.none)
  | .bool y => (match a with
    | .none => some false
    | .bool x => some (x == y)
    | _ => Option.none)
  | .ty t => (match a with
    | .ty t' => isTy t' t
    | _ => Option.none)
  | _ => Option.none
theorem isAV_ok {c : Cf} {h : Heap} {a b : AV} {ua ub : Value} {q : Bool} (ha : VR c h a ua) (hb : VR c h b ub) (e : isAV a b = some q) : plainIs ua ub = true ∧ (ua == ub) = q := by
  cases hb with
  | none =>
    cases ha <;> first | (cases e; done) | (cases e; exact ⟨rfl, rfl⟩)
  | bool y =>
    cases ha <;> first | (cases e; done) | (cases e; exact ⟨rfl, by first | rfl | (rw [Bool.eq_iff_iff]; simp)⟩)
  | ty t =>
    cases ha with
    | ty t' => cases t <;> cases t' <;> first | (cases e; done) | (cases e; exact ⟨rfl, rfl⟩)
    | _ => cases e
  | _ => cases e
def pIs : P2 := fun led a b => match isAV a b with | some q => some (.bool q, led) | none => none
def pIsNot : P2 := fun led a b => match isAV a b with | some q => some (.bool (!q), led) | none => none
theorem SP2.is : SP2 G d pIs (compareOp .Is) := by
  intro A c led s a b ua ub v led' gA R ha hb e
  unfold pIs at e
  split at e
  · rename_i q hq
    cases e
    obtain ⟨h1, h2⟩ := isAV_ok ha hb hq
    exact wpAny_is_plain h1 (by rw [h2]; exact .here R (.bool _))
  · cases e
theorem SP2.isNot : SP2 G d pIsNot (compareOp .IsNot) := by
  intro A c led s a b ua ub v led' gA R ha hb e
  unfold pIsNot at e
  split at e
  · rename_i q hq
    cases e
    obtain ⟨h1, h2⟩ := isAV_ok ha hb hq
    exact wpAny_isNot_plain h1 (by rw [h2]; exact .here R (.bool _))
  · cases e

-- ## `in`
def anyEq (t : TV) : List TV → Option Bool
  | [] => some false
  | x :: r => match TV.eq x t with
    | some q => (match anyEq t r with | some q' => some (q || q') | none => none)
    | none => none
theorem VRm.at_some {c : Cf} {h : Heap} {x : List Nat} : ∀ {es : List (List Nat × AV)} {kvs : List (Str × Value)} {v : AV}, VRm c h es kvs → mget es x = some v → ∃ u, valueAt kvs ⟨x.toArray⟩ = some u ∧ VR c h v u
  | _, _, _, .nil, e => by cases e
  | (k, y) :: r, _, v, .cons a b, e => by
    unfold mget at e
    unfold valueAt
    rw [List.find?_cons]
    split at e
    · rename_i q; subst q; cases e; exact ⟨_, by simp, a⟩
    · rename_i q
      obtain ⟨u, h1, h2⟩ := b.at_some e
      refine ⟨u, ?_, h2⟩
      rw [decide_eq_false (by simpa using q)]
      exact h1
theorem VRm.at_none {c : Cf} {h : Heap} {x : List Nat} : ∀ {es : List (List Nat × AV)} {kvs : List (Str × Value)}, VRm c h es kvs → mget es x = none → valueAt kvs ⟨x.toArray⟩ = none
  | _, _, .nil, e => rfl
  | (k, y) :: r, _, .cons a b, e => by
    unfold mget at e
    unfold valueAt
    rw [List.find?_cons]
    split at e
    · cases e
    · rename_i q
      rw [decide_eq_false (by simpa using q)]
      exact b.at_none e
def pIn : P2 := fun led a b => match a, b with
  | .str x, .str y => some (.bool (Txt.contains ⟨y.toArray⟩ ⟨x.toArray⟩), led)
  | .str x, .obj k => (match led[k]? with
    | some (.map es) => some (.bool (mget es x).isSome, led)
    | _ => none)
  | a, .list ys => (match toT led 8 a, mapT (toT led 8) ys with
    | some t, some ts => (match anyEq t ts with | some q => some (.bool q, led) | none => none)
    | _, _ => none)
  | _, _ => none
theorem anyEq_ok {t : TV} : ∀ {ts : List TV} {q : Bool}, anyEq t ts = some q → ((TV.datas ts).any fun y => PyData.eqv y t.data) = q
  | [], _, e => by cases e; rfl
  | x :: r, q, e => by
    unfold anyEq at e
    split at e
    · rename_i b hb
      split at e
      · rename_i b' hb'
        cases e
        simp only [TV.datas, List.any_cons]
        rw [TV.eq_ok hb, anyEq_ok hb']
      · cases e
    · cases e
theorem SP2.in : SP2 G d pIn (compareOp .In) := by
  intro A c led s a b ua ub v led' gA R ha hb e
  unfold pIn at e
  split at e
  · cases e
    obtain ⟨_, rfl⟩ := ha.strI; obtain ⟨_, rfl⟩ := hb.strI
    exact PySem.SB.contains (.here R (.bool _))
  · rename_i x k
    split at e
    · rename_i es hl
      cases e
      obtain ⟨_, rfl⟩ := ha.strI
      obtain ⟨_, rfl, p⟩ := hb.objI
      obtain ⟨a', h1, hs, kvs, h2, h3⟩ := R.at_ _ _ hl
      rw [p] at h1; cases h1
      refine wpAny_in_of (knd := strKind G.prog G.w) (strKind_is _ _ _ _) hs h2.mapOf ?_
      have : (valueAt kvs ⟨x.toArray⟩).isSome = (mget es x).isSome := by
        cases q : mget es x with
        | none => rw [h3.at_none q]; rfl
        | some v => obtain ⟨u, g, _⟩ := h3.at_some q; rw [g]; rfl
      rw [this]
      exact .tok R (.bool _)
    · cases e
  · rename_i ys _ _
    split at e
    · rename_i t ts h1 h2
      split at e
      · rename_i q hq
        cases e
        obtain ⟨_, _, rfl, f, l, r⟩ := hb.listI
        have r1 := toT_ok R 8 ha h1
        have r2 := (mapT_ok (fun x y => toT_ok R 8 x y) r h2)
        obtain ⟨as, q1⟩ := r1.rd
        obtain ⟨bs, q2⟩ := (r2.list l).rd
        refine SeqAt.in_list_reads q2 q1 r2.lay r1.lay ?_ (by rw [anyEq_ok hq]; exact .here R (.bool _))
        have := gA.units; have := r1.dep; have := Nat.min_le_right (PyData.depthAll (TV.datas ts)) (TV.data t).depth
        omega
      · cases e
    · cases e
  · cases e

-- ## items
def idxOk (k : Int) : Option Nat := match k with
  | .ofNat n => (match Nat.ble n 1000000 with | true => some n | false => none)
  | .negSucc _ => none
theorem idxOk_some {k : Int} {n : Nat} (h : idxOk k = some n) : k = n ∧ n ≤ 1000000 := by
  unfold idxOk at h
  split at h
  · split at h
    · rename_i hb; cases h; exact ⟨rfl, Nat.le_of_ble_eq_true hb⟩
    · cases h
  · cases h
def pItem : P2 := fun led o i => match i with
  | .int k _ => (match idxOk k with
    | some n => (match o with
      | .tup xs => (match xs[n]? with | some v => some (v, led) | none => none)
      | .str cs => (match cs[n]? with | some c => some (.str [c], led) | none => none)
      | o => (match asList led o with
        | some xs => (match xs[n]? with | some v => some (v, led) | none => none)
        | none => none))
    | none => none)
  | .str x => (match o with
    | .obj k => (match led[k]? with
      | some (.map es) => (match mget es x with | some v => some (v, led) | none => none)
      | _ => none)
    | _ => none)
  | _ => none
/-- an item, by the type of what it is taken from -/
def SubOk (G : Glo) (d : Nat) (p : P2) (value slice : Expr) : Prop := SP2 G d p (subscriptTail value slice)
theorem tail_builtin {A : Around} {s : Shared} {value slice : Expr} {o i : Value} {T id : String} {L : List Value} {Q : Value → Shared → Prop} (hT : s.TypeIs o T) (hl : typeLookup (.type T) "__getitem__" = pure (some (.builtin id))) (h : WP G A (getItem o i) Q s)
    (hs : subscripted slice false o i = operate L (getItem o i)) : WP G A (subscriptTail value slice o i) Q s := by
  have fin : WP G A (subscripted slice false o i) (fun r s₃ => WP G A (letTemporaryGo value o r >>= fun _ => pure r) Q s₃) s := by
    rw [hs]
    exact wpAny_operating (h.mono fun r s₃ h₃ => wpAny_bind (wpAny_letTemporaryGo (wpAny_pure h₃)))
  unfold subscriptTail
  refine wpAny_bind ?_
  rw [getitemInPython_of_ne hT.not_modules]
  refine wpAny_bind (wpAny_specialOf hT hl ?_)
  first
    | exact wpAny_pure (wpAny_bind fin)
    | exact wpAny_bind (wpAny_pure (wpAny_bind fin))
    | exact wpAny_bind fin
theorem SubOk.item {value slice : Expr} (hs : ∀ o i, subscripted slice false o i = operate [o, i] (getItem o i)) : SubOk G d pItem value slice := by
  intro A c led s a b ua ub v led' gA R ha hb e
  unfold pItem at e
  split at e
  · rename_i k _
    split at e
    · rename_i n hn
      obtain ⟨rfl, hn'⟩ := idxOk_some hn
      obtain ⟨_, rfl, _⟩ := hb.intI
      split at e
      · rename_i xs
        split at e
        · rename_i v' hv
          cases e
          obtain ⟨_, _, rfl, f, l, r⟩ := ha.tupI
          obtain ⟨u, g1, g2⟩ := r.get hv
          have hlt : n < xs.length := (List.getElem?_eq_some_iff.mp hv).1
          refine tail_builtin l.typeIs slot_tuple_getitem.lookup (getItem_tuple l (by omega) (by omega) (j := n) ?_ (by simpa using g1) (.here R g2)) (hs _ _)
          have hlen := r.length
          exact seqIndex_of (by omega) (by simp; omega)
        · cases e
      · rename_i cs
        split at e
        · rename_i ch hv
          cases e
          obtain ⟨_, rfl⟩ := ha.strI
          have hlt : n < cs.length := (List.getElem?_eq_some_iff.mp hv).1
          have e1 : Txt.charAt ⟨cs.toArray⟩ (n : Int) = some ch := by
            unfold Txt.charAt
            rw [str_len, seqIndex_of (by omega) (by omega)]
            simpa using hv
          refine tail_builtin (typeIs_str s _ _) PySem.F.slot_str_getitem.lookup (PySem.SB.getItem ?_ (by rw [e1]; rfl) (.tok R ?_)) (hs _ _)
          · unfold fitsSsize; simp; omega
          · unfold Txt.item; rw [e1]; exact .str
        · cases e
      · split at e
        · rename_i xs hx
          split at e
          · rename_i v' hv
            cases e
            obtain ⟨l, vs, rfl, hl, hr⟩ := asList_ok R ha hx
            obtain ⟨u, g1, g2⟩ := hr.get hv
            exact tail_builtin hl.typeIs list_getitem_lookup (wpAny_getItem_list hl (by omega) (by omega) (by simpa using g1) (.here R g2)) (hs _ _)
          · cases e
        · cases e
    · cases e
  · rename_i x
    split at e
    · rename_i k
      split at e
      · rename_i es hl
        split at e
        · rename_i v' hv
          cases e
          obtain ⟨_, rfl⟩ := hb.strI
          obtain ⟨_, rfl, p⟩ := ha.objI
          obtain ⟨a', h1, _, kvs, h2, h3⟩ := R.at_ _ _ hl
          rw [p] at h1; cases h1
          obtain ⟨u, g1, g2⟩ := h3.at_some hv
          exact tail_builtin h2.mapOf.typeIs slot_dict_getitem.lookup (wpAny_getItem_of (knd := strKind G.prog G.w) (strKind_is _ _ _ _) h2.mapOf g1 (.tok R g2)) (hs _ _)
        · cases e
      · cases e
    · cases e
  · cases e
theorem SE.item {p : P2} {f g : EM} {value slice : Expr} {pos : Pos} (h1 : SE G nm sc d f value) (h2 : SE G nm sc d g slice) (hp : SubOk G d p value slice) : SE G nm sc d (E.bin p f g) (.Subscript value slice pos) := by
  intro A env c loc led s v led' gA eo F R e
  exact Subscript_ (two h1 h2 hp gA eo F R e)
end Mine
end
-- part F15
section
namespace Mine
variable {G : Glo} {nm nm' : List Str} {sc scope : Scope} {d : Nat}
namespace E
def list (mt : Bool) (fs : List EM) : EM := fun l led => match args fs l led with
  | some (vs, led') => (match shortL vs with | true => newList mt led' vs | false => none)
  | none => none
def tup (fs : List EM) : EM := fun l led => match args fs l led with
  | some (vs, led') => (match shortL vs with | true => some (.tup vs, led') | false => none)
  | none => none
def ite (t : TM) (f g : EM) : EM := fun l led => match t l led with
  | some (true, led') => f l led'
  | some (false, led') => g l led'
  | none => none
def and (f g : EM) : EM := fun l led => match f l led with
  | some (.bool true, led') => g l led'
  | some (.bool false, led') => some (.bool false, led')
  | _ => none
end E
theorem pushTup {c : Cf} {led : List AO} {s : Shared} {xs : List AV} {vs : List Value} {t : Nat} (R : GSR G c led s) (hv : VRs c s.heap xs vs) :
    RV G c s (.tup xs) led (.ref s.heap.objs.size) { s with heap := s.heap.push { cls := .type "tuple", data := .seq vs.toArray }, toks := t } := by
  have st := Step.pushFz (own := []) c s { cls := .type "tuple", data := .seq vs.toArray }
  have K := st.kept0 R
  exact ⟨_, st.trans (.tok _ _ t), (R.pushFz _).tok t, .tup (.inr rfl) ⟨_, Heap.get?_push_size _ rfl, rfl, _, rfl⟩ (hv.kept K)⟩
theorem SE.list {mt : Bool} {fs : List EM} {es : List Expr} {pos : Pos} (h : SAs G nm sc d fs es) : SE G nm sc d (E.list mt fs) (.List es pos) := by
  intro A env c loc led s v led' gA eo F R e
  unfold E.list at e
  split at e
  · rename_i vs l1 q
    split at e
    · rename_i hs
      refine wpAny_List ((h.run gA eo F R q).mono fun us s' ⟨c', st, R', hv⟩ => ⟨?_, ?_⟩)
      · have := shortL_le hs; rw [hv.length]; unfold sizeLine; omega
      · exact (newList_ok (t := s'.toks) R' hv e).after st
    · cases e
  · cases e
theorem SE.tup {fs : List EM} {es : List Expr} {k : Nat} {pos : Pos} (h : SAs G nm sc d fs es) : SE G nm sc d (E.tup fs) (.Tuple es k pos) := by
  intro A env c loc led s v led' gA eo F R e
  unfold E.tup at e
  split at e
  · rename_i vs l1 q
    split at e
    · rename_i hs
      cases e
      refine wpAny_Tuple ((h.run gA eo F R q).mono fun us s' ⟨c', st, R', hv⟩ => ⟨?_, ?_⟩)
      · have := shortL_le hs; rw [hv.length]; unfold sizeLine; omega
      · exact (pushTup (t := s'.toks) R' hv).after st
    · cases e
  · cases e
theorem SE.ite {t : TM} {f g : EM} {e₀ e₁ e₂ : Expr} {pos : Pos} (h0 : ST G nm sc d t e₀) (h1 : SE G nm sc d f e₁) (h2 : SE G nm sc d g e₂) : SE G nm sc d (E.ite t f g) (.IfExp e₀ e₁ e₂ pos) := by
  intro A env c loc led s v led' gA eo F R e
  unfold E.ite at e
  refine wpAny_IfExp ?_
  split at e
  · rename_i l1 q
    refine (h0 A env c loc led s true l1 gA eo F R q).mono fun b s₁ ⟨eb, c₁, st, R₁⟩ => ?_
    subst eb
    exact (h1 A env c₁ loc l1 s₁ v led' gA eo (F.step R st) R₁ e).mono fun _ _ z => z.after st
  · rename_i l1 q
    refine (h0 A env c loc led s false l1 gA eo F R q).mono fun b s₁ ⟨eb, c₁, st, R₁⟩ => ?_
    subst eb
    exact (h2 A env c₁ loc l1 s₁ v led' gA eo (F.step R st) R₁ e).mono fun _ _ z => z.after st
  · cases e
theorem SE.and {f g : EM} {e₁ e₂ : Expr} {pos : Pos} (h1 : SE G nm sc d f e₁) (h2 : SE G nm sc d g e₂) : SE G nm sc d (E.and f g) (.BoolOp .And [e₁, e₂] pos) := by
  intro A env c loc led s v led' gA eo F R e
  unfold E.and at e
  refine BoolOp_and ?_
  split at e
  · rename_i l1 q
    refine (h1 A env c loc led s _ l1 gA eo F R q).mono fun u s₁ ⟨c₁, st, R₁, hv⟩ => ?_
    cases hv.boolI
    refine wpAny_truthy_bool ?_
    exact BoolOp_one ((h2 A env c₁ loc l1 s₁ v led' gA eo (F.step R st) R₁ e).mono fun _ _ z => z.after st)
  · rename_i l1 q
    cases e
    refine (h1 A env c loc led s _ _ gA eo F R q).mono fun u s₁ ⟨c₁, st, R₁, hv⟩ => ?_
    cases hv.boolI
    exact wpAny_truthy_bool ⟨c₁, st, R₁, .bool _⟩
  · cases e

-- ## slices
def pFrom (mt : Bool) : P2 := fun led o i => match o, i with
  | .str cs, .int k _ => (match idxOk k, shortS cs with
    | some n, true => some (.str (Txt.slice ⟨cs.toArray⟩ (some (n : Int)) none).cps.toList, led)
    | _, _ => none)
  | o, .int k _ => (match idxOk k, asList led o with
    | some n, some xs => (match shortL xs with | true => newList mt led (xs.drop n) | false => none)
    | _, _ => none)
  | _, _ => none
def pTo (mt : Bool) : P2 := fun led o i => match o, i with
  | o, .int k _ => (match idxOk k, asList led o with
    | some n, some xs => (match shortL xs with | true => newList mt led (xs.take n) | false => none)
    | _, _ => none)
  | _, _ => none
/-- a slice of what has been read: from the moment its bounds stand -/
def SliceOk (G : Glo) (d : Nat) (p : P2) (f : Value → Value → Value × Value) : Prop :=
  ∀ A c led s a b ua ub v led', GoodA d A → GSR G c led s → VR c s.heap a ua → VR c s.heap b ub → p led a b = some (v, led') →
    ∃ T id, typeLookup (.type T) "__getitem__" = pure (some (.builtin id)) ∧ Shared.TypeIs { s with heap := s.heap.push { cls := .type "slice", data := .fields #[(f ua ub).1, (f ua ub).2, .none] } } ua T ∧
      WP G A (getItem ua (.ref s.heap.objs.size)) (RV G c s v led') { s with heap := s.heap.push { cls := .type "slice", data := .fields #[(f ua ub).1, (f ua ub).2, .none] } }
theorem slice_list {A : Around} {c : Cf} {led led' : List AO} {s : Shared} {l : Addr} {vs : List Value} {xs : List AV} {mt : Bool} {v : AV} {lo hi : Option Int} {vl vu : Value} (R : GSR G c led s) (hl : s.heap.IsList l vs.toArray) (hx : VRs c s.heap xs vs) (hs : xs.length ≤ 10000)
    (pl : IsPart vl lo) (pu : IsPart vu hi) {ys : List AV} {zs : List Value} (hz : slicePick vs.toArray lo hi none = zs.toArray) (hy : VRs c s.heap ys zs) (e : newList mt led ys = some (v, led')) :
    WP G A (getItem (.ref l) (.ref s.heap.objs.size)) (RV G c s v led') { s with heap := s.heap.push { cls := .type "slice", data := .fields #[vl, vu, .none] } } := by
  have st := Step.pushJunk (own := []) c s { cls := .type "slice", data := .fields #[vl, vu, .none] }
  have R' := R.pushJunk { cls := .type "slice", data := .fields #[vl, vu, .none] }
  have K := st.kept0 R
  refine wpAny_getItem_list_slice (hl.push _) (Heap.IsSliceOf.new ..) pl pu .none (by simp) ?_ ?_
  · rw [hz]
    exact (newList_ok (t := s.toks) R' (hy.kept K) e).after st
  · have := hx.length; simp; unfold sizeLine; omega
theorem SliceOk.from {mt : Bool} : SliceOk G d (pFrom mt) fun _ i => (i, .none) := by
  intro A c led s a b ua ub v led' gA R ha hb e
  unfold pFrom at e
  split at e
  · rename_i cs k _
    split at e
    · rename_i n hn hs
      obtain ⟨rfl, hn'⟩ := idxOk_some hn
      cases e
      obtain ⟨_, rfl⟩ := ha.strI
      obtain ⟨tk, rfl, hk⟩ := hb.intI
      refine ⟨"str", _, PySem.F.slot_str_getitem.lookup, typeIs_str _ _ _, ?_⟩
      have st := Step.pushJunk (own := []) c s { cls := .type "slice", data := .fields #[.int (n : Int) tk, .none, .none] }
      have R' := R.pushJunk { cls := .type "slice", data := .fields #[.int (n : Int) tk, .none, .none] }
      refine wpAny_getItem_str_slice (l := some ((n : Int), tk)) (u := none) (st := none) ⟨_, Heap.get?_push_size _ rfl, rfl, rfl⟩ rfl (post_val_or_str ⟨?_, fun t' k => ?_⟩)
      · refine Nat.le_trans (Txt.slice_le _ _ _) ?_
        have := shortS_le hs
        rw [str_len]; unfold sizeLine; omega
      · refine RV.after st (.tok R' ?_)
        exact .str
    · cases e
  · rename_i k _ _
    split at e
    · rename_i n xs hn hx
      obtain ⟨rfl, hn'⟩ := idxOk_some hn
      split at e
      · rename_i hs
        obtain ⟨_, rfl, _⟩ := hb.intI
        obtain ⟨l, vs, rfl, hl, hr⟩ := asList_ok R ha hx
        exact ⟨"list", _, list_getitem_lookup, (hl.push _).typeIs, slice_list R hl hr (shortL_le hs) (.int _ _) .none (by rw [slicePick_from']) (hr.drop n) e⟩
      · cases e
    · cases e
  · cases e
theorem SliceOk.to {mt : Bool} : SliceOk G d (pTo mt) fun _ i => (.none, i) := by
  intro A c led s a b ua ub v led' gA R ha hb e
  unfold pTo at e
  split at e
  · rename_i k _
    split at e
    · rename_i n xs hn hx
      obtain ⟨rfl, hn'⟩ := idxOk_some hn
      split at e
      · rename_i hs
        obtain ⟨_, rfl, _⟩ := hb.intI
        obtain ⟨l, vs, rfl, hl, hr⟩ := asList_ok R ha hx
        exact ⟨"list", _, list_getitem_lookup, (hl.push _).typeIs, slice_list R hl hr (shortL_le hs) .none (.int _ _) (by rw [slicePick_upto']) (hr.take n) e⟩
      · cases e
    · cases e
  · cases e
theorem SE.from {mt : Bool} {f g : EM} {value lower : Expr} {p pos : Pos} (h1 : SE G nm sc d f value) (h2 : SE G nm sc d g lower) : SE G nm sc d (E.bin (pFrom mt) f g) (.Subscript value (.Slice (some lower) none none p) pos) := by
  intro A env c loc led s v led' gA eo F R e
  obtain ⟨a, l1, b, l2, q1, q2, q3⟩ := E.bin_some e
  refine Subscript_ ?_
  refine (h1 A env c loc led s a l1 gA eo F R q1).mono fun ua s₁ ⟨c₁, st, R₁, va⟩ => wpAny_Slice ?_
  refine (h2 A env c₁ loc l1 s₁ b l2 gA eo (F.step R st) R₁ q2).mono fun ub s₂ ⟨c₂, st₂, R₂, vb⟩ => ?_
  rw [evalPart_none]
  refine wpAny_pure (wpAny_pure ?_)
  obtain ⟨T, id, h1, h2, h3⟩ := SliceOk.from A c₂ l2 s₂ a b ua ub v led' gA R₂ (va.kept (st₂.kept0 R₁)) vb q3
  exact tail_builtin (L := [.ref s₂.heap.objs.size, ua]) h2 h1 (h3.mono fun _ _ z => z.after (st.trans st₂)) rfl
theorem SE.to {mt : Bool} {f g : EM} {value upper : Expr} {p pos : Pos} (h1 : SE G nm sc d f value) (h2 : SE G nm sc d g upper) : SE G nm sc d (E.bin (pTo mt) f g) (.Subscript value (.Slice none (some upper) none p) pos) := by
  intro A env c loc led s v led' gA eo F R e
  obtain ⟨a, l1, b, l2, q1, q2, q3⟩ := E.bin_some e
  refine Subscript_ ?_
  refine (h1 A env c loc led s a l1 gA eo F R q1).mono fun ua s₁ ⟨c₁, st, R₁, va⟩ => wpAny_Slice ?_
  rw [evalPart_none]
  refine wpAny_pure ?_
  refine (h2 A env c₁ loc l1 s₁ b l2 gA eo (F.step R st) R₁ q2).mono fun ub s₂ ⟨c₂, st₂, R₂, vb⟩ => ?_
  refine wpAny_pure ?_
  obtain ⟨T, id, h1, h2, h3⟩ := SliceOk.to A c₂ l2 s₂ a b ua ub v led' gA R₂ (va.kept (st₂.kept0 R₁)) vb q3
  exact tail_builtin (L := [.ref s₂.heap.objs.size, ua]) h2 h1 (h3.mono fun _ _ z => z.after (st.trans st₂)) rfl
end Mine
end
-- part F16
section
namespace Mine
variable {G : Glo} {nm nm' : List Str} {sc scope : Scope} {d : Nat}

/-- an object of the ledger is changed -/
theorem SR.setObj {c : Cf} {led : List AO} {s : Shared} {k : Nat} {a : Addr} {o : AO} {h' : Heap} {tk : Nat} (R : GSR G c led s) (hk : c.pi[k]? = some a) (hs : Heap.SameBut a s.heap h') (ho : Kept c s.heap c h' → OR G.prog G.w c h' a o) (hl : ∃ ob, h'.get? a = some ob) :
    Step [] c s c { s with heap := h', toks := tk } ∧ GSR G c (led.set k o) { s with heap := h', toks := tk } := by
  have hm : a ∈ c.pi := List.mem_of_getElem? hk
  have st : Step [] c s c { s with heap := h', toks := tk } := ⟨⟨_, _, rfl⟩, fun b ob e hp _ => (hs.2 b fun q => hp (q ▸ hm)).trans e, fun b ob e => by
    by_cases q : b = a
    · subst q; exact hl
    · exact ⟨ob, (hs.2 b q).trans e⟩, ⟨[], by simp, by simp⟩, fun _ x => x, fun _ x => .inl x⟩
  have K := st.kept0 R
  refine ⟨st, ⟨fun b ob e => (hs.2 b fun q => R.off a hm (q ▸ R.base b ob e)).trans (R.keep b ob e), R.base, fun b q => ?_, R.nd, R.off, by rw [List.length_set]; exact R.len, fun j ob e => ?_⟩⟩
  · obtain ⟨ob, e⟩ := R.fz b q
    exact ⟨ob, (hs.2 b fun z => R.off a hm (z ▸ q)).trans e⟩
  · by_cases hj : j = k
    · subst hj
      rw [List.getElem?_set_self'] at e
      cases q : led[j]? with
      | none => rw [q] at e; cases e
      | some z => rw [q] at e; cases e; exact ⟨a, hk, ho K⟩
    · rw [List.getElem?_set_ne (Ne.symm hj)] at e
      obtain ⟨b, h1, h2⟩ := R.at_ j ob e
      refine ⟨b, h1, h2.kept K fun o' g => (hs.2 b fun q => ?_).trans g⟩
      subst q
      have hnd := List.pairwise_iff_getElem.mp R.nd
      obtain ⟨i1, e1⟩ := List.getElem?_eq_some_iff.mp h1
      obtain ⟨i2, e2⟩ := List.getElem?_eq_some_iff.mp hk
      rcases Nat.lt_trichotomy j k with q | q | q
      · exact hnd j k i1 i2 q (e1.trans e2.symm)
      · exact hj q
      · exact hnd k j i2 i1 q (e2.trans e1.symm)

def pSet (led : List AO) (o i v : AV) : Option (List AO) := match o, i with
  | .obj k, .int x _ => (match led[k]?, idxOk x with
    | some (.list xs), some n => (match Nat.blt n xs.length with | true => some (led.set k (.list (xs.set n v))) | false => none)
    | _, _ => none)
  | .obj k, .str x => (match led[k]? with
    | some (.map es) => (match mget es x with
      | none => (match Nat.ble es.length 10000 with | true => some (led.set k (.map (es ++ [(x, v)]))) | false => none)
      | some _ => none)
    | _ => none)
  | _, _ => none
theorem VRm.length {c : Cf} {h : Heap} {es : List (List Nat × AV)} {kvs : List (Str × Value)} (x : VRm c h es kvs) : kvs.length = es.length := by
  induction x with
  | nil => rfl
  | cons _ _ ih => simp [ih]
theorem VRm.push {c : Cf} {h : Heap} {es : List (List Nat × AV)} {kvs : List (Str × Value)} (x : VRm c h es kvs) {k : List Nat} {v : AV} {u : Value} (hv : VR c h v u) : VRm c h (es ++ [(k, v)]) (kvs ++ [(⟨k.toArray⟩, u)]) := by
  induction x with
  | nil => exact .cons hv .nil
  | cons a _ ih => exact .cons a ih
theorem VRm.fresh {c : Cf} {h : Heap} {x : List Nat} : ∀ {es : List (List Nat × AV)} {kvs : List (Str × Value)}, VRm c h es kvs → mget es x = none → (kvs.any fun kv => decide (kv.1 = ⟨x.toArray⟩)) = false
  | _, _, .nil, _ => rfl
  | (k, y) :: r, _, .cons a b, e => by
    unfold mget at e
    split at e
    · cases e
    · rename_i q
      rw [List.any_cons, b.fresh e, Bool.or_false]
      exact decide_eq_false (by simpa using q)
theorem setItem_plain' {A : Around} {s : Shared} {l : Addr} {items : Array Value} {k : Int} {t : Tok} {v : Value} {Q : Unit → Shared → Prop} (hl : s.heap.IsList l items) (hnd : ∃ o, s.heap.get? l = some o ∧ o.dict = none) (h0 : 0 ≤ k) (hf : Builtin.List.listFitsIndex k = true) (hn : k < items.size)
    (hQ : ∀ h', h'.IsList l (items.setIfInBounds k.toNat v) → (∃ o, h'.get? l = some o ∧ o.dict = none) → Heap.SameBut l s.heap h' → Q () { s with heap := h' }) : WP G A (setItem (.ref l) (.int k t) v) Q s := by
  obtain ⟨o, ho, hc, ne, hd⟩ := id hl
  have hdn : o.dict = none := by obtain ⟨o', h1, h2⟩ := hnd; rw [ho] at h1; cases h1; exact h2
  unfold setItem
  refine wpAny_holding ?_
  refine wpAny_bind (wpAny_sequenceKey hl.typeIs (by decide) ?_)
  refine wpAny_bind (wpAny_callSpecial?_slot (name := Str.ofString "__setitem__") hl.typeIs slot_list_setitem (wpAny_call_entry slot_list_setitem hl.typeIs entry_list_setitem ?_ (args_list_setitem _ _ _)))
  show wpAny _ _ (Builtin.List.listSubscript? (.int k t) >>= _) _ _ s
  refine wpAny_bind (wpAny_listSubscript_int hf ?_)
  clear hf
  obtain ⟨j, rfl⟩ := Int.eq_ofNat_of_zero_le h0
  have hj : j < items.size := by omega
  have hx' : items[j]? = some items[j] := Array.getElem?_eq_getElem hj
  show wpAny _ _ ((seqItemAt l j >>= fun r => pure (r.map (j, ·))) >>= _) _ _ s
  refine wpAny_bind (wpAny_bind (wpAny_seqItemAt ho hd (wpAny_pure ?_)))
  rw [hx']
  show wpAny _ _ (setSeqItemAt l j v >>= _) _ _ s
  obtain ⟨n', hd'⟩ := Obj.data_mapSeq hd (·.setIfInBounds j v)
  have g := Heap.get?_update_self (Obj.mapSeq (·.setIfInBounds j v)) ho (Obj.isFreed_of_seq hd')
  have hfin : (s.heap.update l (Obj.mapSeq (·.setIfInBounds j v))).IsList l (items.setIfInBounds j v) := ⟨_, g, (Obj.cls_mapSeq ..).trans hc, n', hd'⟩
  have hdict : (Obj.mapSeq (·.setIfInBounds j v) o).dict = none := by
    obtain ⟨c, d, dt, sl⟩ := o
    subst hd
    exact hdn
  refine wpAny_bind (wpAny_setSeqItemAt ho hd ?_)
  exact wpAny_pure ⟨.none, rfl, wpAny_pure (hQ _ hfin ⟨_, g, hdict⟩ (Heap.SameBut.update ..))⟩
theorem setItem_plain {A : Around} {s : Shared} {l : Addr} {items : Array Value} {j : Nat} {t : Tok} {v : Value} {Q : Unit → Shared → Prop} (hl : s.heap.IsList l items) (hnd : ∃ o, s.heap.get? l = some o ∧ o.dict = none) (hfit : (j : Int) < 2 ^ 63) (hj : j < items.size)
    (hQ : ∀ h', h'.IsList l (items.setIfInBounds j v) → (∃ o, h'.get? l = some o ∧ o.dict = none) → Heap.SameBut l s.heap h' → Q () { s with heap := h' }) : WP G A (setItem (.ref l) (.int j t) v) Q s :=
  setItem_plain' hl hnd (Int.natCast_nonneg j) (fitsIndex_of (Int.natCast_nonneg j) hfit) (by omega) fun h' a b c => hQ h' (by simpa using a) b c
theorem pSet_ok {A : Around} {c : Cf} {led led' : List AO} {s : Shared} {o i v : AV} {uo ui uv : Value} {Q : Unit → Shared → Prop} (R : GSR G c led s) (ho : VR c s.heap o uo) (hi : VR c s.heap i ui) (hv : VR c s.heap v uv) (e : pSet led o i v = some led')
    (h : ∀ s', Step [] c s c s' → GSR G c led' s' → Q () s') : WP G A (setItem uo ui uv) Q s := by
  unfold pSet at e
  split at e
  · rename_i k x _
    split at e
    · rename_i xs n hl hn
      obtain ⟨rfl, hn'⟩ := idxOk_some hn
      split at e
      · rename_i hlt
        have hlt := Nat.blt_eq.mp hlt
        cases e
        cases hi
        obtain ⟨_, rfl, p⟩ := ho.objI
        obtain ⟨a', h1, vs, ⟨h2, hnd⟩, h3⟩ := R.at_ _ _ hl
        rw [p] at h1; cases h1
        refine setItem_plain h2 hnd (by omega) (by have := h3.length; simp; omega) fun h' hl' hnd' hs => ?_
        have hlive : ∃ ob, h'.get? _ = some ob := let ⟨ob, e, _⟩ := hl'; ⟨ob, e⟩
        obtain ⟨st, R'⟩ := SR.setObj (o := .list (xs.set n v)) (tk := s.toks) R p hs (fun K => ⟨vs.set n uv, ⟨by simpa using hl', hnd'⟩, ((h3.set n hv).kept K)⟩) hlive
        exact h _ st R'
      · cases e
    · cases e
  · rename_i k x
    split at e
    · rename_i es hl
      split at e
      · rename_i hm
        split at e
        · rename_i hsz
          cases e
          cases hi
          obtain ⟨_, rfl, p⟩ := ho.objI
          obtain ⟨a', h1, hsm, kvs, h2, h3⟩ := R.at_ _ _ hl
          rw [p] at h1; cases h1
          refine wpAny_setItem_pairs (knd := strKind G.prog G.w) (strKind_is _ _ _ _) h2 (fun h' hd hs => ?_) ?_
          · unfold stored at hd
            rw [h3.fresh hm] at hd
            have hlive : ∃ ob, h'.get? _ = some ob := let ⟨ob, _, _, e, _⟩ := hd; ⟨ob, e⟩
            obtain ⟨st, R'⟩ := SR.setObj (o := .map (es ++ [(x, v)])) (tk := s.toks + 1) R p hs (fun K => ⟨hsm, _, hd, (h3.push hv).kept K⟩) hlive
            exact h _ st R'
          · rw [h3.length]
            have := Nat.le_of_ble_eq_true hsz
            unfold sizeLine; omega
        · cases e
      · cases e
    · cases e
  · cases e

namespace S
def setItem (fv fo fi : EM) : SM := fun l led => match fv l led with
  | some (v, l1) => (match fo l l1 with
    | some (o, l2) => (match fi l l2 with
      | some (i, l3) => (match pSet l3 o i v with | some l4 => some (.nx, l, l4) | none => none)
      | none => none)
    | none => none)
  | none => none
def pGetL (led : List AO) (o i : AV) : Option AV := match o, i with
  | .obj k, .int x _ => (match led[k]?, idxOk x with
    | some (.list xs), some n => xs[n]?
    | _, _ => none)
  | _, _ => none
def augItem (p : P2) (fo fi fv : EM) : SM := fun l led => match fo l led with
  | some (o, l1) => (match fi l l1 with
    | some (i, l2) => (match pGetL l2 o i with
      | some old => (match fv l l2 with
        | some (v, l3) => (match p l3 old v with
          | some (new, l4) => (match pSet l4 o i new with | some l5 => some (.nx, l, l5) | none => none)
          | none => none)
        | none => none)
      | none => none)
    | none => none)
  | none => none
def aug (i : Nat) (p : P2) (f : EM) : SM := asg i (E.bin p (E.loc i) f)
def asg3 (i j k : Nat) (f : EM) : SM := fun l led => match f l led with
  | some (v, led') => some (.nx, ((l.set i v).set j v).set k v, led')
  | none => none
def swap (i j : Nat) (f : EM) : SM := fun l led => match f l led with
  | some (.tup [a, b], led') => some (.nx, (l.set j b).set i a, led')
  | _ => none
end S
theorem SS.setItem {fv fo fi : EM} {value o i : Expr} {pos pos' : Pos} (hv : SE G nm sc d fv value) (ho : SE G nm sc d fo o) (hi : SE G nm sc d fi i) (hw : ∀ env, EnvOk sc env → swapsWith value (some (.Subscript o i pos')) pos.line env = pure false) :
    SS G nm sc d (S.setItem fv fo fi) (.Assign [.Subscript o i pos'] value pos) := by
  intro A env c loc led s fl loc' led' gA eo F R q
  unfold S.setItem at q
  split at q
  · rename_i v l1 q1
    split at q
    · rename_i ov l2 q2
      split at q
      · rename_i iv l3 q3
        split at q
        · rename_i l4 q4
          cases q
          refine wpAny_Assign_Subscript ?_ (hw env eo)
          refine (hv A env c _ led s _ _ gA eo F R q1).mono fun uv s₁ ⟨c₁, st₁, R₁, v₁⟩ => ?_
          refine (ho A env c₁ _ l1 s₁ _ _ gA eo (F.step R st₁) R₁ q2).mono fun uo s₂ ⟨c₂, st₂, R₂, v₂⟩ => ?_
          have F₂ := (F.step R st₁).step R₁ st₂
          refine (hi A env c₂ _ l2 s₂ _ _ gA eo F₂ R₂ q3).mono fun ui s₃ ⟨c₃, st₃, R₃, v₃⟩ => ?_
          have F₃ := F₂.step R₂ st₃
          refine pSet_ok R₃ (v₂.kept (st₃.kept0 R₂)) v₃ ((v₁.kept (st₂.kept0 R₁)).kept (st₃.kept0 R₂)) q4 fun s₄ st₄ R₄ => ?_
          exact ⟨c₃, (((st₁.trans st₂).trans st₃).trans st₄).widen, R₄, F₃.step R₃ st₄, .nx⟩
        · cases q
      · cases q
    · cases q
  · cases q
theorem pGetL_ok {A : Around} {c : Cf} {led : List AO} {s : Shared} {o i v : AV} {uo ui : Value} {Q : Value → Shared → Prop} (R : GSR G c led s) (ho : VR c s.heap o uo) (hi : VR c s.heap i ui) (e : S.pGetL led o i = some v)
    (h : ∀ u, VR c s.heap v u → Q u s) : WP G A (getItem uo ui) Q s := by
  unfold S.pGetL at e
  split at e
  · split at e
    · rename_i xs n hl hn
      obtain ⟨rfl, hn'⟩ := idxOk_some hn
      cases hi
      obtain ⟨_, rfl, p⟩ := ho.objI
      obtain ⟨a', h1, vs, ⟨h2, hnd⟩, h3⟩ := R.at_ _ _ hl
      rw [p] at h1; cases h1
      obtain ⟨u, g1, g2⟩ := h3.get e
      exact wpAny_getItem_list h2 (by omega) (by omega) (by simpa using g1) (h u g2)
    · cases e
  · cases e
theorem SS.augItem {p : P2} {fv fo fi : EM} {value o i : Expr} {op : Operator} {pos pos' : Pos} (hv : SE G nm sc d fv value) (ho : SE G nm sc d fo o) (hi : SE G nm sc d fi i) (hp : SP2 G d p (inplaceOp op))
    (ha : ∀ ov iv new, augStore i ov iv new = (do holding [new, ov, iv] (PySem.setItem ov iv new); release [new, ov, iv] []; pure .next)) :
    SS G nm sc d (S.augItem p fo fi fv) (.AugAssign (.Subscript o i pos') op value pos) := by
  intro A env c loc led s fl loc' led' gA eo F R q
  unfold S.augItem at q
  split at q
  · rename_i ov l1 q1
    split at q
    · rename_i iv l2 q2
      split at q
      · rename_i old q3
        split at q
        · rename_i v l3 q4
          split at q
          · rename_i new l4 q5
            split at q
            · rename_i l5 q6
              cases q
              refine wpAny_AugAssign_SubscriptAny ?_ ha
              refine (ho A env c _ led s _ _ gA eo F R q1).mono fun uo s₁ ⟨c₁, st₁, R₁, v₁⟩ => ?_
              have F₁ := F.step R st₁
              refine (hi A env c₁ _ l1 s₁ _ _ gA eo F₁ R₁ q2).mono fun ui s₂ ⟨c₂, st₂, R₂, v₂⟩ => ?_
              have F₂ := F₁.step R₁ st₂
              refine pGetL_ok R₂ (v₁.kept (st₂.kept0 R₁)) v₂ q3 fun uold w₃ => ?_
              refine (hv A env c₂ _ l2 s₂ _ _ gA eo F₂ R₂ q4).mono fun uv s₃ ⟨c₃, st₃, R₃, v₃⟩ => ?_
              have F₃ := F₂.step R₂ st₃
              refine (hp A c₃ l3 s₃ old v uold uv new l4 gA R₃ (w₃.kept (st₃.kept0 R₂)) v₃ q5).mono fun unew s₄ ⟨c₄, st₄, R₄, v₄⟩ => ?_
              have F₄ := F₃.step R₃ st₄
              refine pSet_ok R₄ (((v₁.kept (st₂.kept0 R₁)).kept (st₃.kept0 R₂)).kept (st₄.kept0 R₃)) ((v₂.kept (st₃.kept0 R₂)).kept (st₄.kept0 R₃)) v₄ q6 fun s₅ st₅ R₅ => ?_
              exact ⟨c₄, ((((st₁.trans st₂).trans st₃).trans st₄).trans st₅).widen, R₅, F₄.step R₄ st₅, .nx⟩
            · cases q
          · cases q
        · cases q
      · cases q
    · cases q
  · cases q
theorem load_here {A : Around} {env : Env} {c : Cf} {loc : List AV} {led led' : List AO} {s : Shared} {v : AV} {i : Nat} {x : Str} (eo : EnvOk sc env) (F : FR nm env c s.heap loc) (R : GSR G c led s) (e : E.loc i loc led = some (v, led'))
    (hx : nm[i]? = some x) (hk : sc.names.lookup x = some .local ∨ sc.names.lookup x = some .cell) : WP G A (loadName env x) (RV G c s v led') s := by
  obtain ⟨h1, h2, rfl⟩ := E.loc_some e
  have ek : env.kindOf x = sc.names.lookup x := by show env.scope.names.lookup x = _; rw [eo.scope]
  have hf : env.scope.kind = .function := by rw [eo.scope]; exact eo.kind
  rcases hk with hk | hk
  · rw [← ek] at hk
    obtain ⟨m, hm, hv⟩ := F.ns
    obtain ⟨u, q1, q2⟩ := hv i x v hx h1 h2 hk
    exact wpAny_loadName_local hf hk hm q1 (.here R q2)
  · rw [← ek] at hk
    obtain ⟨a, u, q1, q2, q3⟩ := F.celv i x v hx h1 h2 (.inl hk)
    exact wpAny_loadName_cell hf hk q1 q2 (.here R q3)
theorem SS.aug {i : Nat} {x : Str} {p : P2} {f : EM} {e : Expr} {op : Operator} {pos pos' : Pos} (h : SE G nm sc d f e) (hp : SP2 G d p (inplaceOp op)) (sl : Slot nm sc i x) :
    SS G nm sc d (S.aug i p f) (.AugAssign (.Name x pos') op e pos) := by
  intro A env c loc led s fl loc' led' gA eo F R q
  unfold S.aug S.asg at q
  split at q
  · rename_i v l1 q0
    cases q
    obtain ⟨a, l2, b, l3, q1, q2, q3⟩ := E.bin_some q0
    refine wpAny_AugAssign_Name ?_
    refine (load_here eo F R q1 sl.at_ sl.kind).mono fun ua s₁ ⟨c₁, st₁, R₁, v₁⟩ => ?_
    have F₁ := F.step R st₁
    refine (h A env c₁ loc l2 s₁ b l3 gA eo F₁ R₁ q2).mono fun ub s₂ ⟨c₂, st₂, R₂, v₂⟩ => ?_
    have F₂ := F₁.step R₁ st₂
    refine (hp A c₂ l3 s₂ a b ua ub v _ gA R₂ (v₁.kept (st₂.kept0 R₁)) v₂ q3).mono fun u s₃ ⟨c₃, st₃, R₃, v₃⟩ => ?_
    exact store_here eo (F₂.step R₂ st₃) R₃ v₃ sl.at_ sl.nd sl.kind fun s₄ st₄ R₄ F₄ => ⟨c₃, (((st₁.trans st₂).trans st₃).widen).trans st₄, R₄, F₄, .nx⟩
  · cases q
theorem SS.asg3 {i j k : Nat} {x y z : Str} {f : EM} {e : Expr} {pos p₁ p₂ p₃ : Pos} (h : SE G nm sc d f e) (s₁ : Slot nm sc i x) (s₂ : Slot nm sc j y) (s₃ : Slot nm sc k z)
    (hw : ∀ env, EnvOk sc env → swappedStores [.Name x p₁, .Name y p₂, .Name z p₃] e env = pure none) : SS G nm sc d (S.asg3 i j k f) (.Assign [.Name x p₁, .Name y p₂, .Name z p₃] e pos) := by
  intro A env c loc led s fl loc' led' gA eo F R q
  unfold S.asg3 at q
  split at q
  · rename_i v l1 q0
    cases q
    refine wpAny_Assign_three ?_ rfl (hw env eo)
    refine (h A env c loc led s v _ gA eo F R q0).mono fun u t₁ ⟨c₁, st₁, R₁, v₁⟩ => ?_
    refine wpAny_assign_Name (store_here eo (F.step R st₁) R₁ v₁ s₁.at_ s₁.nd s₁.kind fun t₂ st₂ R₂ F₂ => ?_)
    have w₂ := v₁.kept (st₂.kept R₁ fun a ha => ((F.step R st₁).off a ha).2)
    refine wpAny_assign_Name (store_here eo F₂ R₂ w₂ s₂.at_ s₂.nd s₂.kind fun t₃ st₃ R₃ F₃ => ?_)
    have w₃ := w₂.kept (st₃.kept R₂ fun a ha => (F₂.off a ha).2)
    refine wpAny_assign_Name (store_here eo F₃ R₃ w₃ s₃.at_ s₃.nd s₃.kind fun t₄ st₄ R₄ F₄ => ?_)
    exact ⟨c₁, (((st₁.widen).trans st₂).trans st₃).trans st₄, R₄, F₄, .nx⟩
  · cases q
theorem VRs.two {c : Cf} {h : Heap} {a b : AV} {vs : List Value} (r : VRs c h [a, b] vs) : ∃ ua ub, vs = [ua, ub] ∧ VR c h a ua ∧ VR c h b ub := by
  cases r with
  | cons x r =>
    cases r with
    | cons y r => cases r; exact ⟨_, _, rfl, x, y⟩
theorem SS.swap {i j : Nat} {x y : Str} {f : EM} {e : Expr} {k : Nat} {pos tp p₁ p₂ : Pos} (h : SE G nm sc d f e) (s₁ : Slot nm sc i x) (s₂ : Slot nm sc j y)
    (hs : ∀ env, EnvOk sc env → swapsWithSole [.Tuple [.Name x p₁, .Name y p₂] k tp] e pos.line env = pure false) (hw : ∀ env, EnvOk sc env → swappedStores [.Tuple [.Name x p₁, .Name y p₂] k tp] e env = pure (some [x, y])) :
    SS G nm sc d (S.swap i j f) (.Assign [.Tuple [.Name x p₁, .Name y p₂] k tp] e pos) := by
  intro A env c loc led s fl loc' led' gA eo F R q
  unfold S.swap at q
  split at q
  · rename_i a b l1 q0
    cases q
    refine Assign_Tuple_swapped (names := [x, y]) ?_ (hs env eo) (hw env eo)
    refine (h A env c loc led s _ _ gA eo F R q0).mono fun u t₁ ⟨c₁, st₁, R₁, v₁⟩ => ?_
    cases v₁ with | @tup _ vs ad f l r =>
    obtain ⟨ua, ub, rfl, ra, rb⟩ := r.two
    have hn : [x, y].length = ([ua, ub].toArray).size := rfl
    rw [hn]
    refine unpackItems_tuple gA.hh l fun h' he => ?_
    have all : ∀ b o, t₁.heap.get? b = some o → h'.get? b = some o := fun b o e => he b o (fun q => by rw [q, get_size_none] at e; cases e) e
    have st : Step [] c₁ t₁ c₁ { t₁ with heap := h' } := ⟨⟨_, _, rfl⟩, fun b o e _ _ => all b o e, fun b o e => ⟨o, all b o e⟩, ⟨[], by simp, by simp⟩, fun _ x => x, fun _ x => .inl x⟩
    have R₂ : GSR G c₁ _ { t₁ with heap := h' } := R₁.grow st rfl all fun a q => let ⟨o, e⟩ := R₁.fz a q; ⟨o, all a o e⟩
    have K := st.kept0 R₁
    have F₂ := (F.step R st₁).step R₁ st
    show WP G A (assignInOrder [fun v => bindName env y v, fun v => bindName env x v] [ub, ua]) _ _
    refine wpAny_assignInOrder_more (bindName_ (store_here eo F₂ R₂ (rb.kept K) s₂.at_ s₂.nd s₂.kind fun t₃ st₃ R₃ F₃ => ?_))
    refine wpAny_assignInOrder_more (bindName_ (store_here eo F₃ R₃ ((ra.kept K).kept (st₃.kept R₂ fun a ha => (F₂.off a ha).2)) s₁.at_ s₁.nd s₁.kind fun t₄ st₄ R₄ F₄ => ?_))
    exact wpAny_assignInOrder_none (Q := fun _ s' => RS G nm env c s .nx ((loc.set j b).set i a) _ .next s') ⟨c₁, (((st₁.trans st).widen).trans st₃).trans st₄, R₄, F₄, .nx⟩
  · cases q
/-- `+=` and `**=` of ints -/
theorem SP2.iaddInt : SP2 G d (pInt (· + ·) (fun n m => bmax n m + 1) fun _ _ _ _ => true) (inplaceOp .Add) := by
  intro A c led s a b ua ub v led' gA R ha hb e
  obtain ⟨i, n, j, m, rfl, rfl, rfl, rfl, _⟩ := pInt_cases e
  obtain ⟨_, rfl, han⟩ := ha.intI; replace ha := han
  obtain ⟨_, rfl, hbn⟩ := hb.intI; replace hb := hbn
  exact PySem.P.iadd_int (.tok R (.int' (bmax_eq n m ▸ intBits_add_le (bits_of ha) (bits_of hb))))
def powOk (j : Int) (n : Nat) : Bool := (match j with | .ofNat k => Nat.ble k 3 | .negSucc _ => false) && Nat.ble n 30000000
theorem powOk_of {j : Int} {n : Nat} (h : powOk j n = true) : ∃ k : Nat, j = k ∧ k ≤ 3 ∧ n ≤ 30000000 := by
  unfold powOk at h
  rw [Bool.and_eq_true] at h
  cases j with
  | negSucc k => cases h.1
  | ofNat k => exact ⟨k, rfl, Nat.le_of_ble_eq_true h.1, Nat.le_of_ble_eq_true h.2⟩
def pPow : P2 := pInt (fun i j => i ^ j.toNat) (fun n _ => n * 3 + 1) fun _ j n _ => powOk j n
theorem pow_room {b k n : Nat} (hb : b ≤ n) (hk : k ≤ 3) (hn : n ≤ 30000000) : (b : Int) * (k : Int) ≤ 2 ^ 27 := by
  have h2 : b * k ≤ n * 3 := Nat.mul_le_mul hb hk
  have h1 : (b : Int) * (k : Int) = ((b * k : Nat) : Int) := by push_cast; rfl
  rw [h1, show ((2 : Int) ^ 27) = 134217728 from by decide]
  omega
theorem SP2.ipow : SP2 G d pPow (inplaceOp .Pow) := by
  intro A c led s a b ua ub v led' gA R ha hb e
  obtain ⟨i, n, j, m, rfl, rfl, rfl, rfl, h⟩ := pInt_cases e
  obtain ⟨k, rfl, hk, hn⟩ := powOk_of h
  obtain ⟨_, rfl, han⟩ := ha.intI; replace ha := han
  obtain ⟨_, rfl, hbn⟩ := hb.intI; replace hb := hbn
  have hb := bits_of ha
  refine ipow_int (Int.natCast_nonneg k) (pow_room hb hk hn) (.tok R (.int' ?_))
  rw [Int.toNat_natCast]
  have h3 := intBits_pow_le hb k
  have h2 : n * k ≤ n * 3 := Nat.mul_le_mul (Nat.le_refl n) hk
  exact Nat.le_trans h3 (by omega)
end Mine
end
-- part F17
section
namespace Mine
variable {G : Glo} {nm nm' : List Str} {sc scope : Scope} {d : Nat}

-- ## zip of two frozen lists
namespace E
def zip (f g : EM) : IM := fun loc led => match f loc led with
  | some (.list xs, l1) => (match g loc l1 with
    | some (.list ys, l2) => some (.zips (zipT xs ys), l2)
    | _ => none)
  | _ => none
end E
theorem SI.zip {x : Str} {p pos : Pos} {f g : EM} {e₁ e₂ : Expr} (hk : sc.names.lookup x = some .globalImplicit) (e : nsIn G.K mainGlobals x = some none) (hv : bootBuiltins x = some (.type "zip")) (hn : x ≠ "__name__") (hd : (x == ("__debug__" : Str)) = false)
    (ha : SAs G nm sc d [f, g] [e₁, e₂]) : SI G nm sc d (E.zip f g) (.Call (.Name x p) [e₁, e₂] [] pos) := by
  intro A env c loc led s ai led' gA eo F R q
  unfold E.zip at q
  split at q
  · rename_i xs l1 q1
    split at q
    · rename_i ys l2 q2
      cases q
      have q0 : E.args [f, g] loc led = some ([.list xs, .list ys], led') := by
        unfold E.args; rw [q1]; dsimp only
        unfold E.args; rw [q2]; dsimp only [E.args]
      refine eval_call_name (built_here eo R hk e hv hn ?_ hd)
      refine cw_type (ha.plain _ _) (ha.run gA eo F R q0) fun us s' ⟨c', st, R', hvs⟩ => ?_
      obtain ⟨ua, ub, rfl, ra, rb⟩ := hvs.two
      cases ra with | @list _ vs a1 f1 hl1 r1 =>
      cases rb with | @list _ ws a2 f2 hl2 r2 =>
      refine call_zip_2 hl1 hl2 fun h' z1 z2 z3 z4 z5 z6 z7 => ?_
      refine wpAny_pyIter_zip z1 ?_
      have dead : ∀ a, s'.heap.objs.size ≤ a → s'.heap.get? a = none := fun a ha => by
        cases q : s'.heap.get? a with
        | none => rfl
        | some o => exact absurd (Heap.lt_size q) (Nat.not_lt.mpr ha)
      have st' : Step [] c' s' c' { s' with heap := h' } := ⟨⟨_, _, rfl⟩, fun b o e _ _ => z7 b o e, fun b o e => ⟨o, z7 b o e⟩, ⟨[], by simp, by simp⟩, fun _ x => x, fun _ x => .inl x⟩
      have K := st'.kept0 R'
      have lv1 : a1 < s'.heap.objs.size := let ⟨o, e, _⟩ := hl1; Heap.lt_size e
      have lv2 : a2 < s'.heap.objs.size := let ⟨o, e, _⟩ := hl2; Heap.lt_size e
      have mem : ∀ a ∈ [s'.heap.objs.size + 4, s'.heap.objs.size + 2, s'.heap.objs.size + 3, s'.heap.objs.size, s'.heap.objs.size + 1], s'.heap.get? a = none := fun a ha => by
        simp only [List.mem_cons, List.not_mem_nil, or_false] at ha
        rcases ha with rfl | rfl | rfl | rfl | rfl <;> exact dead _ (by omega)
      refine ⟨_, _, c', rfl, st.trans st', R'.grow st' rfl z7 fun a q => let ⟨o, e⟩ := R'.fz a q; ⟨o, z7 a o e⟩, .zip (.mk ?_ z1 z2 z3 z4 z5 f1 f2 (isList_kept K f1 hl1) (isList_kept K f2 hl2) ?_ ?_), ⟨fun a ha hq => ?_, fun a ha hq => ?_⟩, fun a ha => dead_of st (mem a ha)⟩
      · constructor <;> first | exact Nat.ne_of_lt (by omega) | exact Nat.ne_of_gt (by omega) | exact Nat.ne_of_lt (Nat.lt_of_lt_of_le lv1 (by omega)) | exact Nat.ne_of_lt (Nat.lt_of_lt_of_le lv2 (by omega))
      · rw [List.drop_zero]; exact r1.kept K
      · rw [List.drop_zero]; exact r2.kept K
      · obtain ⟨k, hk⟩ := List.getElem?_of_mem hq
        obtain ⟨_, ob, _, _, g⟩ := R'.piLive hk
        rw [mem a ha] at g; cases g
      · obtain ⟨ob, e⟩ := R'.fz _ hq
        rw [mem a ha] at e; cases e
    · cases q
  · cases q

theorem VRs.one {c : Cf} {h : Heap} {a : AV} {vs : List Value} (r : VRs c h [a] vs) : ∃ ua, vs = [ua] ∧ VR c h a ua := by
  cases r with
  | cons x r => cases r; exact ⟨_, rfl, x⟩
theorem VRs.three {c : Cf} {h : Heap} {a b e : AV} {vs : List Value} (r : VRs c h [a, b, e] vs) : ∃ ua ub ue, vs = [ua, ub, ue] ∧ VR c h a ua ∧ VR c h b ub ∧ VR c h e ue := by
  cases r with
  | cons x r =>
    obtain ⟨_, _, rfl, a, b⟩ := r.two
    exact ⟨_, _, _, rfl, x, a, b⟩

-- ## len
def lenAV (led : List AO) : AV → Option (AV × List AO)
  | .tup xs => (match shortL xs with | true => some (.int xs.length 20, led) | false => none)
  | .str xs => (match shortS xs with | true => some (.int xs.length 20, led) | false => none)
  | .obj k => (match led[k]? with
    | some (.list xs) => (match shortL xs with | true => some (.int xs.length 20, led) | false => none)
    | some (.map es) => (match Nat.ble es.length 10000 with | true => some (.int es.length 20, led) | false => none)
    | _ => none)
  | .list xs => (match shortL xs with | true => some (.int xs.length 20, led) | false => none)
  | _ => none
def pnLen : PN := fun led vs => match vs with
  | [v] => lenAV led v
  | _ => none
theorem len_bits {n : Nat} (h : n ≤ 10000) : (n : Int).natAbs < 2 ^ 20 := by
  rw [Int.natAbs_natCast]; exact Nat.lt_of_le_of_lt h (by decide)
theorem SPN.len : SPN G d pnLen (fun us => PySem.call (.builtin "len") us) := by
  intro A c led s vs us v led' gA R hv e
  have list : ∀ {a : Addr} {us : List Value} {xs : List AV}, s.heap.IsList a us.toArray → VRs c s.heap xs us → xs.length ≤ 10000 → WP G A (PySem.call (.builtin "len") [.ref a]) (RV G c s (.int xs.length 20) led) s := fun hl hr hs => by
    have hlen := hr.length
    refine Calls.call_len_list hl (by simp; omega) ?_
    rw [show (List.toArray _).size = _ from by simp; exact hlen]
    exact .tok R (.int (len_bits hs))
  unfold pnLen at e
  split at e
  · obtain ⟨u, rfl, r⟩ := hv.one
    unfold lenAV at e
    split at e
    · rename_i xs
      split at e
      · rename_i hs
        have hs := shortL_le hs
        cases e
        obtain ⟨_, _, rfl, f, l, rn⟩ := r.tupI; replace r := rn
        have hlen := r.length
        refine len_tuple l (by simp; omega) ?_
        rw [show (List.toArray _).size = _ from by simp; exact hlen]
        exact .tok R (.int (len_bits hs))
      · cases e
    · rename_i xs
      split at e
      · rename_i hs
        have hs := shortS_le hs
        cases e
        obtain ⟨_, rfl⟩ := r.strI
        refine PySem.P.len_str (by rw [str_len]; omega) ?_
        rw [str_len]
        exact .tok R (.int (len_bits hs))
      · cases e
    · rename_i k
      obtain ⟨_, rfl, p⟩ := r.objI
      split at e
      · rename_i xs hl
        split at e
        · rename_i hs
          cases e
          obtain ⟨a, h1, ws, ⟨h2, hnd⟩, h3⟩ := R.at_ _ _ hl
          rw [p] at h1; cases h1
          exact list h2 h3 (shortL_le hs)
        · cases e
      · rename_i es hl
        split at e
        · rename_i hs
          cases e
          obtain ⟨a, h1, hsm, kvs, h2, h3⟩ := R.at_ _ _ hl
          rw [p] at h1; cases h1
          have hs := Nat.le_of_ble_eq_true hs
          have hlen := h3.length
          refine call_len_dict hsm h2 (by omega) ?_
          rw [hlen]
          exact .tok R (.int (len_bits hs))
        · cases e
      · cases e
    · rename_i xs
      split at e
      · rename_i hs
        cases e
        obtain ⟨_, _, rfl, f, l, rn⟩ := r.listI; replace r := rn; exact list l r (shortL_le hs)
      · cases e
    · cases e
  · cases e

-- ## range
def int? : AV → Option (Int × Nat)
  | .int a n => some (a, n)
  | _ => none
theorem int?_some {v : AV} {a : Int} {n : Nat} (e : int? v = some (a, n)) : v = .int a n := by
  cases v <;> cases e
  rfl
def pnRange : PN := fun led vs => match vs with
  | [v] => (match int? v with | some (b, _) => some (.rng 0 b 1, led) | none => none)
  | [v, w] => (match int? v, int? w with | some (a, _), some (b, _) => some (.rng a b 1, led) | _, _ => none)
  | [v, w, x] => (match int? v, int? w, int? x with
    | some (a, _), some (b, _), some (c, m) => (match isNZ c && Nat.ble m 8000 with | true => some (.rng a b c, led) | false => none)
    | _, _, _ => none)
  | _ => none
theorem pushRng {c : Cf} {led : List AO} {s : Shared} {a b st : Int} {t u v : Tok} {k : Nat} (R : GSR G c led s) :
    RV G c s (.rng a b st) led (.ref s.heap.objs.size) { s with heap := s.heap.push { cls := .type "range", data := .fields #[.int a t, .int b u, .int st v] }, toks := k } := by
  have x := Step.pushFz (own := []) c s { cls := .type "range", data := .fields #[.int a t, .int b u, .int st v] }
  exact ⟨_, x.trans (.tok _ _ k), (R.pushFz _).tok k, .rng (.inr rfl) (Heap.get?_push_size _ rfl)⟩
theorem SPN.range : SPN G d pnRange (fun us => PySem.call (.type "range") us) := by
  intro A c led s vs us v led' gA R hv e
  unfold pnRange at e
  split at e
  · obtain ⟨u, rfl, r⟩ := hv.one
    split at e
    · rename_i q
      cases int?_some q
      cases e; obtain ⟨_, rfl, _⟩ := r.intI
      exact call_range_1 (pushRng R)
    · cases e
  · obtain ⟨u, u', rfl, r, r'⟩ := hv.two
    split at e
    · rename_i q q'
      cases int?_some q; cases int?_some q'
      cases e; obtain ⟨_, rfl, _⟩ := r.intI; obtain ⟨_, rfl, _⟩ := r'.intI
      exact call_range_2 (pushRng R)
    · cases e
  · obtain ⟨u, u', u'', rfl, r, r', r''⟩ := hv.three
    split at e
    · rename_i q q' q''
      cases int?_some q; cases int?_some q'; cases int?_some q''
      split at e
      · rename_i hc
        rw [Bool.and_eq_true] at hc
        cases e; obtain ⟨_, rfl, _⟩ := r.intI; obtain ⟨_, rfl, _⟩ := r'.intI
        obtain ⟨_, rfl, hb⟩ := r''.intI
        have hj := isNZ_ne hc.1
        refine call_range_3 hj (pushRng R) (.inl (PyProof.noPylong_of_log2 ?_))
        have h2 := Nat.le_of_ble_eq_true hc.2
        have h3 := (Nat.log2_lt (by omega)).mpr hb
        omega
      · cases e
    · cases e
  · cases e

-- ## chr, ord, str, tuple, isinstance
def pnChr : PN := fun led vs => match vs with
  | [.int (.ofNat n) _] => (match Nat.ble n 127 with | true => some (.str [n], led) | false => none)
  | _ => none
theorem SPN.chr : SPN G d pnChr (fun us => PySem.call (.builtin "chr") us) := by
  intro A c led s vs us v led' gA R hv e
  unfold pnChr at e
  split at e
  · rename_i n _
    obtain ⟨u, rfl, r⟩ := hv.one
    split at e
    · rename_i h
      have h := Nat.le_of_ble_eq_true h
      cases e; obtain ⟨_, rfl, _⟩ := r.intI
      refine PySem.P.chr_of_int ?_ (.tok R .str)
      have e0 : (Int.ofNat n) = (n : Int) := rfl
      rw [e0]
      simp; omega
    · cases e
  · cases e
def pnOrd : PN := fun led vs => match vs with
  | [.str [c]] => (match Nat.ble c 127 with | true => some (.int c 8, led) | false => none)
  | _ => none
theorem SPN.ord : SPN G d pnOrd (fun us => PySem.call (.builtin "ord") us) := by
  intro A c led s vs us v led' gA R hv e
  unfold pnOrd at e
  split at e
  · obtain ⟨u, rfl, r⟩ := hv.one
    split at e
    · rename_i h
      have h := Nat.le_of_ble_eq_true h
      cases e; obtain ⟨_, rfl⟩ := r.strI
      refine PySem.P.ord_of_char (.tok R (.int ?_))
      rw [Int.natAbs_natCast]; exact Nat.lt_of_le_of_lt h (by decide)
    · cases e
  · cases e
def pnStr : PN := fun led vs => match vs with
  | [.int (.ofNat 0) _] => some (.str [48], led)
  | [.int (.ofNat 1) _] => some (.str [49], led)
  | [.int (.ofNat 2) _] => some (.str [50], led)
  | _ => none
theorem SPN.str : SPN G d pnStr (fun us => PySem.call (.type "str") us) := by
  intro A c led s vs us v led' gA R hv e
  unfold pnStr at e
  split at e <;> first
    | (obtain ⟨u, rfl, r⟩ := hv.one
       cases e; obtain ⟨_, rfl, _⟩ := r.intI
       exact PySem.P.str_of_int (by decide +kernel) (.tok R .str))
    | cases e
def pnTuple : PN := fun led vs => match vs with
  | [v] => (match asList led v with
    | some xs => (match shortL xs with | true => some (.tup xs, led) | false => none)
    | none => none)
  | _ => none
theorem SPN.tuple : SPN G d pnTuple (fun us => PySem.call (.type "tuple") us) := by
  intro A c led s vs us v led' gA R hv e
  unfold pnTuple at e
  split at e
  · obtain ⟨u, rfl, r⟩ := hv.one
    split at e
    · rename_i xs hx
      split at e
      · rename_i hs
        cases e
        obtain ⟨l, ws, rfl, hl, hr⟩ := asList_ok R r hx
        refine call_tuple_list hl (fun h' hk => ?_) (by have := shortL_le hs; have := hr.length; simp; unfold sizeLine; omega)
        have st : Step [] c s c { s with heap := h' } := ⟨⟨_, _, rfl⟩, fun b o e _ _ => hk b o e, fun b o e => ⟨o, hk b o e⟩, ⟨[], by simp, by simp⟩, fun _ x => x, fun _ x => .inl x⟩
        have R' : GSR G c _ { s with heap := h' } := R.grow st rfl hk fun a q => let ⟨o, e⟩ := R.fz a q; ⟨o, hk a o e⟩
        exact (pushTup (t := s.toks) R' (hr.kept (st.kept0 R))).after st
      · cases e
    · cases e
  · cases e
def pnIsInt : PN := fun led vs => match vs with
  | [.int _ _, .ty .int] => some (.bool true, led)
  | _ => none
theorem SPN.isInt : SPN G d pnIsInt (fun us => PySem.call (.builtin "isinstance") us) := by
  intro A c led s vs us v led' gA R hv e
  unfold pnIsInt at e
  split at e
  · obtain ⟨u, u', rfl, r, r'⟩ := hv.two
    cases e; obtain ⟨_, rfl, _⟩ := r.intI; cases r'.tyI
    exact PySem.IsiPair.int_int (.here R (.bool _))
  · cases e
def pnType : PN := fun led vs => match vs with
  | [.str _] => some (.ty .str, led)
  | [.list _] => some (.ty .list, led)
  | [.obj k] => (match led[k]? with | some (.list _) => some (.ty .list, led) | _ => none)
  | _ => none
theorem SPN.type : SPN G d pnType (fun us => PySem.call (.type "type") us) := by
  intro A c led s vs us v led' gA R hv e
  unfold pnType at e
  split at e
  · obtain ⟨u, rfl, r⟩ := hv.one
    cases e; obtain ⟨_, rfl⟩ := r.strI
    exact call_type_of (typeIs_str _ _ _) (by decide) (.here R (.ty .str))
  · obtain ⟨u, rfl, r⟩ := hv.one
    cases e
    obtain ⟨_, _, rfl, f, l, rn⟩ := r.listI; replace r := rn
    exact call_type_of l.typeIs (by decide) (.here R (.ty .list))
  · obtain ⟨u, rfl, r⟩ := hv.one
    obtain ⟨_, rfl, p⟩ := r.objI
    split at e
    · rename_i xs hl
      cases e
      obtain ⟨a, h1, ws, ⟨h2, hnd⟩, h3⟩ := R.at_ _ _ hl
      rw [p] at h1; cases h1
      exact call_type_of h2.typeIs (by decide) (.here R (.ty .list))
    · cases e
  · cases e

-- ## sorted
def insI (x : Int) : List Int → List Int
  | [] => [x]
  | y :: r => match decide (x ≤ y) with | true => x :: y :: r | false => y :: insI x r
def sortI : List Int → List Int
  | [] => []
  | x :: r => insI x (sortI r)
def toInts : List AV → Option (List Int × Nat)
  | [] => some ([], 0)
  | .int i n :: r => (match toInts r with | some (is, m) => some (i :: is, bmax n m) | none => none)
  | _ => none
def pnSorted : PN := fun led vs => match vs with
  | [.list xs] => (match toInts xs, Nat.ble xs.length 60 with
    | some (is, m), true => some (.list ((sortI is).map fun i => .int i m), led)
    | _, _ => none)
  | _ => none
theorem insI_perm (x : Int) : ∀ l, (insI x l).Perm (x :: l)
  | [] => .refl _
  | y :: r => by
    unfold insI
    split
    · exact .refl _
    · exact ((insI_perm x r).cons y).trans (.swap x y r)
theorem sortI_perm : ∀ l, (sortI l).Perm l
  | [] => .refl _
  | x :: r => (insI_perm x _).trans ((sortI_perm r).cons x)
theorem insI_sorted (x : Int) : ∀ l : List Int, l.Pairwise (· ≤ ·) → (insI x l).Pairwise (· ≤ ·)
  | [], _ => by simp [insI]
  | y :: r, h => by
    unfold insI
    rw [List.pairwise_cons] at h
    split
    · rename_i q
      have q := of_decide_eq_true q
      refine List.pairwise_cons.mpr ⟨fun z hz => ?_, List.pairwise_cons.mpr h⟩
      rcases List.mem_cons.mp hz with rfl | hz
      · exact q
      · exact Int.le_trans q (h.1 z hz)
    · rename_i q
      have q := of_decide_eq_false q
      refine List.pairwise_cons.mpr ⟨fun z hz => ?_, insI_sorted x r h.2⟩
      rcases List.mem_cons.mp ((insI_perm x r).mem_iff.mp hz) with rfl | hz
      · omega
      · exact h.1 z hz
theorem sortI_sorted : ∀ l, (sortI l).Pairwise (· ≤ ·)
  | [] => .nil
  | x :: r => insI_sorted x _ (sortI_sorted r)
theorem toInts_ok {c : Cf} {h : Heap} : ∀ {xs : List AV} {vs : List Value} {is : List Int} {m : Nat}, VRs c h xs vs → toInts xs = some (is, m) → IntsAre vs is ∧ ∀ i ∈ is, i.natAbs < 2 ^ m
  | [], _, _, _, .nil, e => by cases e; exact ⟨.nil, by simp⟩
  | x :: r, _, is, m, .cons a b, e => by
    cases a <;> first | (cases e; done) | skip
    rename_i i n t hb
    unfold toInts at e
    split at e
    · rename_i is' m' q
      cases e
      obtain ⟨h1, h2⟩ := toInts_ok b q
      refine ⟨.cons _ _ h1, fun j hj => ?_⟩
      rw [bmax_eq]
      rcases List.mem_cons.mp hj with rfl | hj
      · exact Nat.lt_of_lt_of_le hb (Nat.pow_le_pow_right (by decide) (Nat.le_max_left ..))
      · exact Nat.lt_of_lt_of_le (h2 j hj) (Nat.pow_le_pow_right (by decide) (Nat.le_max_right ..))
    · cases e
theorem ints_back {c : Cf} {h : Heap} {m : Nat} : ∀ {vs : List Value} {is : List Int}, IntsAre vs is → (∀ i ∈ is, i.natAbs < 2 ^ m) → VRs c h (is.map fun i => .int i m) vs
  | _, _, .nil, _ => .nil
  | _, _, .cons n t r, hb => .cons (.int (hb _ (List.mem_cons_self ..))) (ints_back r fun i hi => hb i (List.mem_cons_of_mem _ hi))
theorem SPN.sorted : SPN G d pnSorted (fun us => PySem.call (.builtin "sorted") us) := by
  intro A c led s vs us v led' gA R hv e
  unfold pnSorted at e
  split at e
  · rename_i xs
    obtain ⟨u, rfl, r⟩ := hv.one
    split at e
    · rename_i is m h1 h2
      cases e
      obtain ⟨l, ws, rfl, f, hl, rn⟩ := r.listI; replace r := rn
      obtain ⟨g1, g2⟩ := toInts_ok r h1
      have hlen := r.length
      have h2 := Nat.le_of_ble_eq_true h2
      have h64 : ws.length < 64 := by rw [hlen]; omega
      refine sorted_ints hl g1 h64 fun out ns' a1 a2 a3 => ?_
      have e0 : ns' = sortI is := (a2.trans (sortI_perm is).symm).eq_of_pairwise (fun a b _ _ x y => Int.le_antisymm x y) a3 (sortI_sorted is)
      subst e0
      obtain ⟨e', he⟩ := sortedAll_at s.heap ws out
      have all : ∀ b o, s.heap.get? b = some o → (sortedAll s.heap ws out).get? b = some o := fun _ _ => sortedAll_old
      have dead : s.heap.get? (s.heap.objs.size + 1) = none := by
        cases q : s.heap.get? (s.heap.objs.size + 1) with
        | none => rfl
        | some o => exact absurd (Heap.lt_size q) (Nat.not_lt.mpr (Nat.le_succ _))
      have st : Step [] c s c { s with heap := sortedAll s.heap ws out } := ⟨⟨_, _, rfl⟩, fun b o e _ _ => all b o e, fun b o e => ⟨o, all b o e⟩, ⟨[], by simp, by simp⟩, fun _ x => x, fun _ x => .inl x⟩
      have R' : GSR G c _ { s with heap := sortedAll s.heap ws out } := R.grow st rfl all fun a q => let ⟨o, e⟩ := R.fz a q; ⟨o, all a o e⟩
      have hp : s.heap.objs.size + 1 ∉ c.pi := fun q => by
        obtain ⟨k, hk⟩ := List.getElem?_of_mem q
        obtain ⟨_, ob, _, _, g⟩ := R.piLive hk
        rw [dead] at g; cases g
      refine ⟨_, st.addFz dead, R'.addFz ⟨_, he⟩ hp, .list (vs := out.toList) (.inr rfl) ⟨_, he, rfl, _, by simp; rfl⟩ ?_⟩
      exact ints_back a1 fun i hi => g2 i ((sortI_perm is).mem_iff.mp hi)
    · cases e
  · cases e
end Mine
end
-- part F18
section
namespace Mine
variable {G : Glo} {nm nm' : List Str} {sc scope : Scope} {d : Nat}

theorem handed_VR {c : Cf} {h : Heap} {v : AV} {u : Value} (x : VR c h v u) : handedIn u = true := by cases x <;> rfl
theorem attrNm_inj {j k : Nat} (hj : j ≤ 5) (hk : k ≤ 5) (e : attrNm j = attrNm k) : j = k := by
  have key : ∀ a < 6, ∀ b < 6, attrNm a = attrNm b → a = b := by decide +kernel
  exact key j (by omega) k (by omega) e
theorem isStr_str (x y : Str) (t : Tok) : (Value.str x t).isStr y = decide (x = y) := by
  show (x == y) = _
  rw [Bool.eq_iff_iff]; simp
theorem VRf.find {c : Cf} {h : Heap} {j : Nat} (hj : j ≤ 5) : ∀ {fs : List (Nat × AV)} {es : List DictEntry} {v : AV}, VRf c h fs es → fget fs j = some v → ∃ u, getL (attrNm j) es = some (some u) ∧ VR c h v u
  | _, _, _, .nil, e => by cases e
  | (k, y) :: r, _, v, .cons hk a b, e => by
    unfold fget at e
    unfold getL
    rw [List.find?_cons, isStr_str]
    split at e
    · rename_i q; subst q; cases e; exact ⟨_, by simp, a⟩
    · rename_i q
      rw [decide_eq_false fun z => q (attrNm_inj hk hj z)]
      obtain ⟨u, h1, h2⟩ := b.find hj e
      refine ⟨u, ?_, h2⟩
      unfold getL at h1
      dsimp only
      split at h1
      · rename_i en he; rw [he]; exact h1
      · rename_i he
        split at h1 <;> cases h1
theorem VRf.noRef {c : Cf} {h : Heap} : ∀ {fs : List (Nat × AV)} {es : List DictEntry}, VRf c h fs es → es.any (·.refKey) = false
  | _, _, .nil => rfl
  | _, _, .cons _ _ b => by rw [List.any_cons, b.noRef]; rfl
theorem VRf.miss {c : Cf} {h : Heap} {name : Str} (hn : ∀ k < 6, attrNm k ≠ name) : ∀ {fs : List (Nat × AV)} {es : List DictEntry}, VRf c h fs es → es.find? (·.key.isStr name) = none
  | _, _, .nil => rfl
  | _, _, .cons hk _ b => by rw [List.find?_cons, isStr_str, decide_eq_false (hn _ (by omega))]; exact b.miss hn
theorem VRf.getMiss {c : Cf} {h : Heap} {name : Str} (hn : ∀ k < 6, attrNm k ≠ name) {fs : List (Nat × AV)} {es : List DictEntry} (x : VRf c h fs es) : getL name es = some none := by
  unfold getL
  rw [x.miss hn, x.noRef]; rfl

/-- an object of a class, live or frozen: its class and what its namespace holds -/
def instOf (led : List AO) : AV → Option (Nat × List (Nat × AV))
  | .inst C k => match led[k]? with | some (.ns fs) => some (C, fs) | _ => none
  | .finst C fs => some (C, fs)
  | _ => none
theorem instOf_ok {c : Cf} {led : List AO} {s : Shared} {v : AV} {u : Value} {C : Nat} {fs : List (Nat × AV)} (R : GSR G c led s) (hv : VR c s.heap v u) (e : instOf led v = some (C, fs)) :
    ∃ x dx es n, u = .ref x ∧ s.heap.get? dx = some (dictOf es n) ∧ InstAt s.heap x (instObj C dx) C (some (dictOf es n)) ∧ VRf c s.heap fs es := by
  cases hv with
  | inst f g p =>
    unfold instOf at e; dsimp only at e
    split at e
    · rename_i fs' hl
      cases e
      obtain ⟨a, h1, es, n, h2, h3⟩ := R.at_ _ _ hl
      rw [p] at h1; cases h1
      exact ⟨_, _, es, n, rfl, h2, ⟨g, rfl, rfl, h2⟩, h3⟩
    · cases e
  | finst f g x m r => cases e; exact ⟨_, _, _, _, rfl, m, ⟨x, rfl, rfl, m⟩, r⟩
  | _ => cases e

structure AttrOk (G : Glo) (C j : Nat) : Prop where
  le : j ≤ 5
  plain : plainGet G.K C (attrNm j) = true
  hd : hasDictIn G.K C = true
  attr : ∃ attr, findIn G.K (.ref C) (attrNm j) = some attr ∧ noGet G.K attr = true
def pAttr (C j : Nat) : P1 := fun led o => match instOf led o with
  | some (C', fs) => (match Nat.beq C' C with
    | true => (match fget fs j with | some v => some (v, led) | none => none)
    | false => none)
  | none => none
theorem SP1.attr {C j : Nat} (X : AttrOk G C j) {expr : Bool} : SP1 G d (pAttr C j) (fun o => getAttr o (attrNm j) expr) := by
  intro A c led s a u v led' gA R ha e
  unfold pAttr at e
  split at e
  · rename_i C' fs hi
    split at e
    · rename_i hC
      have hC := Nat.eq_of_beq_eq_true hC
      subst hC
      split at e
      · rename_i v' hf
        cases e
        obtain ⟨x, dx, es, n, rfl, hd, I, hr⟩ := instOf_ok R ha hi
        obtain ⟨u, g1, g2⟩ := hr.find X.le hf
        obtain ⟨attr, q1, q2⟩ := X.attr
        exact get_value (G.X.keeps R.keep) I (plainGet_of X.plain).1 (findObj_own X.hd q1 q2 (by rw [lookIn_dict]; exact g1)) (handed_VR g2) (.tok R g2)
      · cases e
    · cases e
  · cases e
theorem SE.attr {p : P1} {f : EM} {value : Expr} {attr : Str} {pos : Pos} (h : SE G nm sc d f value) (hp : SP1 G d p (fun o => getAttr o attr true))
    (he : ∀ env, eval (.Attribute value attr pos) env = (do
      let o ← eval value env
      standAt pos.atName
      let r ← holding [o] (getAttr o attr true)
      letTemporaryGo value o r
      pure r)) : SE G nm sc d (E.un p f) (.Attribute value attr pos) := by
  intro A env c loc led s v led' gA eo F R e
  obtain ⟨a, l1, q1, q2⟩ := E.un_some e
  refine Attribute_any_ ?_ (he env)
  refine (h A env c loc led s a l1 gA eo F R q1).mono fun ua s₁ ⟨c₁, st, R₁, va⟩ => ?_
  exact (hp A c₁ l1 s₁ a ua v led' gA R₁ va q2).mono fun _ _ z => z.after st
/-- a text that a class of the text holds -/
def pCls (C : Nat) (cs : List Nat) : P1 := fun led o => match o with
  | .top a => (match Nat.beq a C with | true => some (.str cs, led) | false => none)
  | _ => none
theorem SP1.cls {C : Nat} {attr : Str} {cs : List Nat} {t : Tok} {mc : Value} (hr : readsIn G.K C mc = true) (e : findCls G.K (.ref C) mc attr = some (.val (.str ⟨cs.toArray⟩ t))) : SP1 G d (pCls C cs) (fun o => getAttr o attr true) := by
  intro A c led s a u v led' gA R ha q
  unfold pCls at q
  split at q
  · split at q
    · rename_i hC
      have hC := Nat.eq_of_beq_eq_true hC
      subst hC
      cases q; cases ha.topI
      exact cls_value (G.X.keeps R.keep) hr e rfl (.tok R .str)
    · cases q
  · cases q

-- ## a value is put into an object
structure PutOk (G : Glo) (C j : Nat) : Prop where
  le : j ≤ 5
  sa : findIn G.K (.ref C) "__setattr__" = some (some (.builtin "object.__setattr__"))
  po : plainOver G.K C = true
  tk : takerIn G.K C (attrNm j) = some none
  hd : hasDictIn G.K C = true
def pPut (C j : Nat) (led : List AO) (o v : AV) : Option (List AO) := match o with
  | .inst C' k => (match Nat.beq C' C, led[k]? with
    | true, some (.ns fs) => (match Nat.ble fs.length 100 with | true => some (led.set k (.ns (fset fs j v))) | false => none)
    | _, _ => none)
  | _ => none
theorem VRf.length {c : Cf} {h : Heap} : ∀ {fs : List (Nat × AV)} {es : List DictEntry}, VRf c h fs es → es.length = fs.length
  | _, _, .nil => rfl
  | _, _, .cons _ _ b => by simp [b.length]
theorem VRf.put {c : Cf} {h : Heap} {j : Nat} {v : AV} {u : Value} {hash : Int} {t : Tok} (hj : j ≤ 5) (hv : VR c h v u) : ∀ {fs : List (Nat × AV)} {es : List DictEntry}, VRf c h fs es → VRf c h (fset fs j v) (putL (attrNm j) hash (.str (attrNm j) t) u es)
  | _, _, .nil => .cons hj hv .nil
  | (k, y) :: r, _, .cons hk a b => by
    unfold fset putL
    rw [isStr_str]
    by_cases q : k = j
    · subst q
      rw [if_pos rfl, if_pos (by simp)]
      exact .cons hk hv b
    · rw [if_neg q, if_neg (by simpa using fun z => q (attrNm_inj hk hj z))]
      exact .cons hk a (b.put hj hv)
theorem fset_len : ∀ (fs : List (Nat × AV)) (j : Nat) (v : AV), (fset fs j v).length ≤ fs.length + 1
  | [], _, _ => by simp [fset]
  | (k, z) :: r, j, v => by
    have := fset_len r j v
    unfold fset; split <;> simp <;> omega
theorem put_ok {C j : Nat} (X : PutOk G C j) {A : Around} {c : Cf} {led led' : List AO} {s : Shared} {o v : AV} {uo uv : Value} {Q : Unit → Shared → Prop} (R : GSR G c led s) (ho : VR c s.heap o uo) (hv : VR c s.heap v uv) (e : pPut C j led o v = some led')
    (h : ∀ s', Step [] c s c s' → GSR G c led' s' → Q () s') : WP G A (setAttr uo (attrNm j) uv) Q s := by
  unfold pPut at e
  split at e
  · rename_i C' k
    split at e
    · rename_i fs hC hl
      have hC := Nat.eq_of_beq_eq_true hC
      subst hC
      split at e
      · rename_i hsz
        have hsz := Nat.le_of_ble_eq_true hsz
        cases e
        cases ho with | @inst _ _ x dx f g p =>
        obtain ⟨a, h1, es, n, h2, h3⟩ := R.at_ _ _ hl
        rw [p] at h1; cases h1
        have I : InstAt s.heap x (instObj C' dx) C' (some (dictOf es n)) := ⟨g, rfl, rfl, h2⟩
        have Xs := G.X.keeps R.keep
        refine set_plain Xs I X.sa (osa_open (s := { s with toks := s.toks + 1 }) Xs I X.po X.tk fun b => ?_)
        obtain ⟨cd, hc, hd'⟩ := any_some X.hd
        refine wpAny_bind (wpAny_pure (wpAny_bind (wpAny_bind (wpAny_loadPart (s := { s with toks := s.toks + 1 }) g (wpAny_bind (looks_clsIn Xs hc _ _ _ _ (fun _ _ e => e) ?_))))))
        rw [hd']
        refine wpAny_pure (a := some dx) (wpAny_bind (wpAny_pure (wpAny_bind ?_)))
        unfold nsSet
        refine wpAny_bind (wpAny_bind (wpAny_askSetting (wpAny_pure (wpAny_bind (wpAny_mkText (wpAny_bind (wpAny_loadPart (s := { s with toks := s.toks + 1 + 1 }) h2 ?_)))))))
        dsimp only
        have c0 : (!es.toArray.any (·.key.isStr (attrNm j)) && es.toArray.any (·.refKey)) = false := by
          rw [← Array.any_toList, ← Array.any_toList, h3.noRef, Bool.and_false]
        rw [aRefKeyMayBeTheName_at, c0]
        refine wpAny_updatePart (s := { s with toks := s.toks + 1 + 1 }) h2 ?_
        have D' : (s.heap.update dx (Obj.putName (attrNm j) (PyData.keyHash G.w.params (attrNm j)) (.str (attrNm j) (s.toks + 1)) uv)).get? dx = some (dictOf (putL (attrNm j) (PyData.keyHash G.w.params (attrNm j)) (.str (attrNm j) (s.toks + 1)) uv es) (putN (attrNm j) es n)) := by
          rw [Heap.get?_update_self _ h2 (by rw [putName_dict]; rfl), putName_dict]
        have h3' := h3.put (hash := PyData.keyHash G.w.params (attrNm j)) (t := s.toks + 1) X.le hv
        obtain ⟨st, R'⟩ := SR.setObj (o := .ns (fset fs j v)) (tk := s.toks + 1 + 1) R p (Heap.SameBut.update ..) (fun K => ⟨_, _, D', h3'.kept K⟩) ⟨_, D'⟩
        refine wpAny_bind (wpAny_lookBehind (s := { s with heap := s.heap.update dx (Obj.putName (attrNm j) (PyData.keyHash G.w.params (attrNm j)) (.str (attrNm j) (s.toks + 1)) uv), toks := s.toks + 1 + 1 }) D' (pastItsLine_dict ?_) ?_)
        · rw [List.size_toArray, sizeLine_eq]
          have := h3'.length
          have hl2 := fset_len fs j v
          omega
        · exact wpAny_pure (h _ st R')
      · cases e
    · cases e
  · cases e
namespace S
def put (C j : Nat) (fv fo : EM) : SM := fun l led => match fv l led with
  | some (v, l1) => (match fo l l1 with
    | some (o, l2) => (match pPut C j l2 o v with | some l3 => some (.nx, l, l3) | none => none)
    | none => none)
  | none => none
end S
theorem SS.put {C j : Nat} {fv fo : EM} {value o : Expr} {pos pos' : Pos} {attr : Str} (X : PutOk G C j) (hattr : attr = attrNm j) (hv : SE G nm sc d fv value) (ho : SE G nm sc d fo o) (hw : ∀ env, EnvOk sc env → swapsWith value (some (.Attribute o attr pos')) pos.line env = pure false) :
    SS G nm sc d (S.put C j fv fo) (.Assign [.Attribute o attr pos'] value pos) := by
  subst hattr
  intro A env c loc led s fl loc' led' gA eo F R q
  unfold S.put at q
  split at q
  · rename_i v l1 q1
    split at q
    · rename_i ov l2 q2
      split at q
      · rename_i l3 q3
        cases q
        refine plainObj_wpAny_Assign_Attribute ?_ (hw env eo)
        refine (hv A env c _ led s _ _ gA eo F R q1).mono fun uv s₁ ⟨c₁, st₁, R₁, v₁⟩ => ?_
        refine (ho A env c₁ _ l1 s₁ _ _ gA eo (F.step R st₁) R₁ q2).mono fun uo s₂ ⟨c₂, st₂, R₂, v₂⟩ => ?_
        refine put_ok X R₂ v₂ (v₁.kept (st₂.kept0 R₁)) q3 fun s₃ st₃ R₃ => ?_
        exact ⟨c₂, ((st₁.trans st₂).trans st₃).widen, R₃, ((F.step R st₁).step R₁ st₂).step R₂ st₃, .nx⟩
      · cases q
    · cases q
  · cases q

-- ## methods
/-- whose method it is, and what is called -/
def MethAt (G : Glo) (name : Str) (rc : List AO → AV → Bool) (callee : Value) : Prop :=
  ∀ A c led s a ua pl (Q : Value × List Value → Shared → Prop), GSR G c led s → VR c s.heap a ua → rc led a = true → Q (callee, [ua]) s → WP G A (getMethod ua name pl) Q s
namespace E
def meth (rc : List AO → AV → Bool) (g : PN) (f : EM) (fs : List EM) : EM := fun l led => match f l led with
  | some (a, l1) => (match rc l1 a with
    | true => (match args fs l l1 with | some (vs, l2) => g l2 (a :: vs) | none => none)
    | false => none)
  | none => none
end E
def Callable (G : Glo) (v : Value) : Prop := (∃ id, v = .builtin id) ∨ ∃ f o fd, v = .ref f ∧ G.K.lookup f = some o ∧ o.data = .func fd
theorem cw_any {v : Value} (hc : Callable G v) {A : Around} {c : Cf} {led : List AO} {pos : Pos} {first : List Value} {trees : List (Bool × Sem Value)} {s : Shared} {vs : List AV} {Q : Value → Shared → Prop} (hp : trees.any (·.1) = false)
    (h : WP G A (spliced trees) (RVs G c s vs led) s) (k : ∀ us s', RVs G c s vs led us s' → WP G A (PySem.call v (first ++ us)) Q s') : WP G A (callWith pos v first trees []) Q s := by
  rcases hc with ⟨id, rfl⟩ | ⟨f, o, fd, rfl, ho, hd⟩
  · exact cw_builtin hp h k
  · exact cw_fn hp (G.X _ _ ho) hd h k
theorem SE.meth {rc : List AO → AV → Bool} {g : PN} {f : EM} {fs : List EM} {o : Expr} {name : Str} {apos pos : Pos} {es : List Expr} {callee : Value} (h : SE G nm sc d f o) (hm : MethAt G name rc callee) (hc : Callable G callee) (ha : SAs G nm sc d fs es)
    (hg : SPN G d g (fun us => PySem.call callee us)) (pl : Env → Sem Bool)
    (he : ∀ env, eval (.Call (.Attribute o name apos) es [] pos) env = (do
      let ov ← eval o env
      standAt apos.atName
      let (f, first) ← holding [ov] (getMethod ov name (pl env))
      callWith pos f first (backTo pos (starEach es env)) [])) : SE G nm sc d (E.meth rc g f fs) (.Call (.Attribute o name apos) es [] pos) := by
  intro A env c loc led s v led' gA eo F R e
  unfold E.meth at e
  split at e
  · rename_i a l1 q1
    split at e
    · rename_i hrc
      split at e
      · rename_i vs l2 q2
        refine MethodCall_ (pl := pl env) ?_ (he env)
        refine (h A env c loc led s a l1 gA eo F R q1).mono fun ua s₁ ⟨c₁, st₁, R₁, v₁⟩ => ?_
        refine hm A c₁ l1 s₁ a ua _ _ R₁ v₁ hrc ?_
        refine cw_any hc (ha.plain _ _) (ha.run gA eo (F.step R st₁) R₁ q2) fun us s₂ ⟨c₂, st₂, R₂, vs₂⟩ => ?_
        exact (hg A c₂ l2 s₂ (a :: vs) (ua :: us) v led' gA R₂ (.cons (v₁.kept (st₂.kept0 R₁)) vs₂) e).mono fun _ _ z => z.after (st₁.trans st₂)
      · cases e
    · cases e
  · cases e
def rcInst (C : Nat) (led : List AO) (a : AV) : Bool := match instOf led a with | some (C', _) => Nat.beq C' C | none => false
theorem MethAt.inst {C f : Nat} {name : Str} (hg : plainGet G.K C name = true) (hf : findIn G.K (.ref C) name = some (some (.ref f))) (ht : isFn G.K (.ref f) = true) (hn : ∀ k < 6, attrNm k ≠ name) : MethAt G name (rcInst C) (.ref f) := by
  intro A c led s a ua pl Q R ha e q
  unfold rcInst at e
  split at e
  · rename_i C' fs hi
    have e := Nat.eq_of_beq_eq_true e
    subst e
    obtain ⟨x, dx, es, n, rfl, hd, I, hr⟩ := instOf_ok R ha hi
    exact method_fn (G.X.keeps R.keep) I (plainGet_of hg).1 (plainGet_of hg).2 hf (beq_iff_eq.mp ht) (by show (lookIn name (dictOf es n)).map _ = _; rw [lookIn_dict, hr.getMiss hn]; rfl) q
  · cases e
end Mine
end
-- part F19
section
namespace Mine
variable {G : Glo} {nm nm' : List Str} {sc scope : Scope} {d : Nat}

-- ## patterns
theorem plainAttrs_pat : PlainAttrs "re.Pattern" :=
  ⟨⟨"object.__getattribute__", by rw [typeLookup_type, builtinLookup_eq_fast]; kernel_rfl, by decide +kernel⟩, by rw [typeLookup_type, builtinLookup_eq_fast]; kernel_rfl⟩
theorem slot_pat_search : PySem.Slot "re.Pattern" "search" "re.Pattern.search" :=
  .of (owner := "re.Pattern") (n := "search") (by rw [typeLookup_type, builtinLookup_eq_fast]; kernel_rfl) (by decide +kernel) (by decide +kernel) (by decide +kernel)
    (by first | exact .inl (by decide +kernel) | exact .inr (by decide +kernel)) (by rw [isSubtype_type]; kernel_rfl)
theorem entry_pat_search : entryFor table "re.Pattern.search" = some Builtin.«re.Pattern.search» := entryFor_of_tree (by kernel_rfl)
theorem type_pat_search : typeOf (.builtin "re.Pattern.search") = pure (.type "method_descriptor") := by kernel_rfl
theorem args_pat_search (a b : Value) : argsOk "re.Pattern.search" ⟨[a, b], []⟩ := by unfold argsOk; kernel_rfl

def okOf : Except String (Bool × Sre.Seen) → Option Bool
  | .ok (b, _) => some b
  | .error _ => none
theorem inSet_seen (code : Array Nat) (c : Nat) : ∀ (fuel i : Nat) (yes : Bool) (s s' : Sre.Seen), okOf (Sre.inSet code c fuel i yes s) = okOf (Sre.inSet code c fuel i yes s')
  | 0, _, _, _, _ => rfl
  | fuel + 1, i, yes, s, s' => by
    have ih := inSet_seen code c fuel
    unfold Sre.inSet
    dsimp only
    split
    · rfl
    · exact ih _ _ _ _
    · split
      · rfl
      · exact ih _ _ _ _
    · split
      · rfl
      · exact ih _ _ _ _
    · split
      · rfl
      · exact ih _ _ _ _
    · cases hc : Sre.category (code.getD (i + 1) 0) c with
      | error e => rfl
      | ok b =>
        cases b
        · exact ih _ _ _ _
        · rfl
    · split
      · rfl
      · exact ih _ _ _ _
    · split
      · rfl
      · exact ih _ _ _ _
    · rfl
def cleanC (c : Nat) : Bool := Nat.ble 32 c && Nat.blt c 127
def cleanS : List Nat → Bool
  | [] => true
  | c :: r => cleanC c && cleanS r
theorem cleanS_get : ∀ {cs : List Nat} {i c : Nat}, cleanS cs = true → cs[i]? = some c → cleanC c = true
  | [], _, _, _, e => by simp at e
  | x :: r, 0, c, h, e => by
    unfold cleanS at h
    rw [Bool.and_eq_true] at h
    simp at e; subst e; exact h.1
  | x :: r, i + 1, c, h, e => by
    unfold cleanS at h
    rw [Bool.and_eq_true] at h
    exact cleanS_get h.2 (by simpa using e)
structure CodeOk (code : Array Nat) : Prop where
  hint : (match Sre.ops[code.getD 0 0]? with | some .INFO => true | _ => false) = true
  four : code.getD 2 0 = 4
  least : (Sre.header code).1 = 1
  set : ∀ c, cleanC c = true → okOf (Sre.inSet code c code.size 5 true {}) = some false
theorem admitted_none {m : Sre.M} (hs : ∀ c, cleanC c = true → okOf (Sre.inSet m.code c m.code.size 5 true {}) = some false) {cs : List Nat} (ht : m.text = cs.toArray) (hl : m.lim = cs.length) (hc : cleanS cs = true) :
    ∀ (fuel s : Nat) (seen : Sre.Seen), ∃ seen', Sre.M.admitted m fuel s seen = .ok (none, seen')
  | 0, s, seen => ⟨seen, rfl⟩
  | fuel + 1, s, seen => by
    unfold Sre.M.admitted
    by_cases h : s ≥ m.lim
    · rw [if_pos h]; exact ⟨_, rfl⟩
    · rw [if_neg h]
      have hlt : s < cs.length := by omega
      have e1 : m.text.getD s 0 = cs[s] := by rw [ht]; simp [hlt]
      have e2 := cleanS_get hc (List.getElem?_eq_getElem hlt)
      have e3 := hs _ e2
      rw [inSet_seen _ _ _ _ _ _ seen] at e3
      rw [e1]
      cases q : Sre.inSet m.code cs[s] m.code.size 5 true seen with
      | error e => rw [q] at e3; cases e3
      | ok r =>
        obtain ⟨b, seen'⟩ := r
        rw [q] at e3
        cases e3
        exact admitted_none hs ht hl hc fuel (s + 1) seen'
theorem attempt_none {m : Sre.M} (hs : ∀ c, cleanC c = true → okOf (Sre.inSet m.code c m.code.size 5 true {}) = some false) {cs : List Nat} (ht : m.text = cs.toArray) (hl : m.lim = cs.length) (hc : cleanS cs = true)
    (hh : m.hasFirstSet = true) (hf : m.frames = []) (ho : m.outcome = none) (s : Nat) (first : Bool) : (m.attemptFrom s first).answer = some false ∧ (m.attemptFrom s first).frames = [] ∧ (m.attemptFrom s first).outcome = none := by
  unfold Sre.M.attemptFrom
  rw [if_neg (by rw [hh]; decide)]
  obtain ⟨seen', e⟩ := admitted_none hs ht hl hc (m.lim + 1 - s) s m.seen
  rw [e]
  exact ⟨rfl, hf, ho⟩
/-- a search that finds nothing -/
theorem search_none {code : Array Nat} (X : CodeOk code) {cs : List Nat} (hc : cleanS cs = true) (groups : Nat) :
    (Sre.forSearch code cs.toArray groups 0 cs.length false).answer = some false ∧ (Sre.forSearch code cs.toArray groups 0 cs.length false).frames = [] ∧ (Sre.forSearch code cs.toArray groups 0 cs.length false).outcome = none := by
  unfold Sre.forSearch
  dsimp only
  rw [X.least]
  by_cases h : (decide (0 > cs.length) || decide (cs.length - 0 < 1)) = true
  · rw [if_pos h]; exact ⟨rfl, rfl, rfl⟩
  · rw [if_neg h]
    refine attempt_none X.set rfl rfl hc ?_ rfl rfl _ _
    show ((match Sre.ops[code.getD 0 0]? with | some .INFO => true | _ => false) && code.getD 2 0 == 4) = true
    rw [X.hint, X.four]; decide
theorem runFor_none {m : Sre.M} (h1 : m.answer = some false) (h2 : m.frames = []) (h3 : m.outcome = none) (n : Nat) : (m.runFor (n + 2)).outcome = some .failed := by
  have e : m.step = { m with outcome := some .failed } := by
    unfold Sre.M.step
    rw [h3, h1, h2]; rfl
  unfold Sre.M.runFor
  rw [h3, e]
  unfold Sre.M.runFor
  rfl
theorem rules_free {A : Around} {s : Shared} {Q : PUnit → Shared → Prop} (p : Nat → Bool) (f : Nat → String) (h : Q PUnit.unit s) : ∀ l : List Nat, WP G A (forIn l PUnit.unit fun i _ => do if p i = true then do rule (f i); pure (ForInStep.yield PUnit.unit) else pure (ForInStep.yield PUnit.unit)) Q s
  | [] => wpAny_pure h
  | i :: l => by
    rw [List.forIn_cons]
    refine wpAny_bind ?_
    split
    · exact wpAny_bind (wpAny_rule (wpAny_pure (rules_free p f h l)))
    · exact wpAny_pure (rules_free p f h l)
theorem drive_none {A : Around} {s : Shared} {m : Sre.M} (h1 : m.answer = some false) (h2 : m.frames = []) (h3 : m.outcome = none) {Q : Option Sre.M → Shared → Prop} (h : Q none s) : WP G A (Builtin.Re.reRunToEnd m) Q s := by
  unfold Builtin.Re.reRunToEnd
  have e := runFor_none h1 h2 h3 2
  have e2 : Builtin.Re.reDrive (2 ^ 64) m = pure (m.runFor 4) := by
    rw [show (2 : Nat) ^ 64 = 18446744073709551615 + 1 from by decide]
    unfold Builtin.Re.reDrive
    show (if (m.runFor 4).outcome.isSome = true then pure (m.runFor 4) else _) = _
    rw [e]; rfl
  rw [e2]
  refine wpAny_bind (wpAny_pure (wpAny_bind ?_))
  refine rules_free (fun i => (m.runFor 4).seen.has i) (fun i => Sre.names.getD i "") ?_ _
  rw [e]
  exact wpAny_pure h
structure PatOk (G : Glo) (p : Addr) : Prop where
  at_ : ∃ o fs q oq items n, G.K.lookup p = some o ∧ o.cls = .type "re.Pattern" ∧ o.dict = none ∧ o.data = .fields fs ∧ Builtin.Re.reRawNat (fs.getD 6 .none) = 0 ∧ fs.getD 5 .none = .ref q ∧ G.K.lookup q = some oq ∧ oq.data = .seq items n ∧ CodeOk ((items.map Builtin.Re.reRawOf).map (·.toNat))
def pnSearch (p : Nat) : PN := fun led vs => match vs with
  | [.top a, .str cs] => (match Nat.beq a p, cleanS cs, shortS cs with
    | true, true, true => some (.none, led)
    | _, _, _ => none)
  | _ => none
def rcTop (p : Nat) (_ : List AO) (a : AV) : Bool := match a with | .top b => Nat.beq b p | _ => false
theorem MethAt.search {p : Nat} (X : PatOk G p) : MethAt G "search" (rcTop p) (.builtin "re.Pattern.search") := by
  intro A c led s a ua pl Q R ha e q
  unfold rcTop at e
  split at e
  · have e := Nat.eq_of_beq_eq_true e
    subst e
    cases ha.topI
    obtain ⟨o, fs, q', oq, items, n, h1, h2, h3, h4, _⟩ := X.at_
    have ho := R.keep _ _ (G.X _ _ h1)
    exact getMethod_builtin (T := "re.Pattern") ⟨o, ho, h2⟩ plainAttrs_pat slot_pat_search type_pat_search (fun b e => by cases e; exact ⟨o, ho, h3⟩) q
  · cases e
theorem SPN.search {p : Nat} (X : PatOk G p) : SPN G d (pnSearch p) (fun us => PySem.call (.builtin "re.Pattern.search") us) := by
  intro A c led s vs us v led' gA R hv e
  unfold pnSearch at e
  split at e
  · rename_i a cs
    split at e
    · rename_i e1 e2 e3
      have e1 := Nat.eq_of_beq_eq_true e1
      subst e1
      cases e
      obtain ⟨u, u', rfl, r, r'⟩ := hv.two
      cases r.topI; obtain ⟨_, rfl⟩ := r'.strI
      obtain ⟨o, fs, q', oq, items, n, h1, h2, h3, h4, h5, h6, h7, h8, h9⟩ := X.at_
      have ho := R.keep _ _ (G.X _ _ h1)
      have hq := R.keep _ _ (G.X _ _ h7)
      refine wpAny_call_entry slot_pat_search (T := "re.Pattern") ⟨o, ho, h2⟩ entry_pat_search ?_ (args_pat_search _ _)
      unfold Builtin.«re.Pattern.search»
      refine wpAny_bind ?_
      unfold Builtin.Re.reTarget
      dsimp only
      refine wpAny_bind (wpAny_of_eq (a := [some (Value.str ⟨cs.toArray⟩ _), none, none]) rfl ?_)
      dsimp only
      refine wpAny_bind (wpAny_pure (wpAny_bind (wpAny_pure ?_)))
      refine wpAny_bind (wpAny_fieldsOf ho h4 ?_)
      refine wpAny_bind (wpAny_of_eq (a := ((⟨cs.toArray⟩ : Str).cps, 0)) rfl ?_)
      dsimp only
      rw [h5]
      refine wpAny_bind (wpAny_pure ?_)
      rw [h6]
      refine wpAny_bind ?_
      unfold Builtin.Re.reRawItems
      refine wpAny_bind (wpAny_seqItems hq h8 (wpAny_pure (wpAny_pure ?_)))
      have hl : min ((2 : Int) ^ 63 - 1).toNat cs.toArray.size = cs.length := by
        have := shortS_le e3
        have e63 : ((2 : Int) ^ 63 - 1).toNat = 9223372036854775807 := by decide
        rw [List.size_toArray, e63]
        omega
      have key := search_none h9 e2 (Builtin.Re.reRawNat (fs.getD 2 .none))
      dsimp only
      rw [hl, show min (Int.toNat 0) cs.toArray.size = 0 from Nat.zero_min _]
      unfold Builtin.Re.reAnswer
      refine wpAny_bind (drive_none key.1 key.2.1 key.2.2 ?_)
      exact wpAny_pure ⟨_, rfl, .here R .none⟩
    · cases e
  · cases e
end Mine
end
-- part F20
section
namespace Mine
variable {G : Glo} {nm nm' : List Str} {sc scope : Scope} {d : Nat}

def rcStr (_ : List AO) (a : AV) : Bool := match a with | .str _ => true | _ => false
theorem rcStr_ok {led : List AO} {a : AV} (e : rcStr led a = true) : ∃ s, a = .str s := by
  unfold rcStr at e
  split at e
  · exact ⟨_, rfl⟩
  · cases e
theorem MethAt.join : MethAt G "join" rcStr (.builtin "str.join") := by
  intro A c led s a ua pl Q R ha e q
  obtain ⟨x, rfl⟩ := rcStr_ok e
  obtain ⟨_, rfl⟩ := ha.strI
  exact PySem.GM.join q
theorem MethAt.lower : MethAt G "lower" rcStr (.builtin "str.lower") := by
  intro A c led s a ua pl Q R ha e q
  obtain ⟨x, rfl⟩ := rcStr_ok e
  obtain ⟨_, rfl⟩ := ha.strI
  exact PySem.GM.lower q
theorem MethAt.upper : MethAt G "upper" rcStr (.builtin "str.upper") := by
  intro A c led s a ua pl Q R ha e q
  obtain ⟨x, rfl⟩ := rcStr_ok e
  obtain ⟨_, rfl⟩ := ha.strI
  exact PySem.GM.upper q
theorem map_arr (f : Nat → Nat) (cs : List Nat) : (⟨(cs.toArray).map f⟩ : Str) = ⟨(cs.map f).toArray⟩ := by simp
def pnLower : PN := fun led vs => match vs with
  | [.str cs] => (match asciiS cs, shortS cs with | true, true => some (.str (cs.map lo1), led) | _, _ => none)
  | _ => none
theorem SPN.lower : SPN G d pnLower (fun us => PySem.call (.builtin "str.lower") us) := by
  intro A c led s vs us v led' gA R hv e
  unfold pnLower at e
  split at e
  · rename_i cs
    split at e
    · rename_i h1 h2
      cases e
      obtain ⟨u, rfl, r⟩ := hv.one
      obtain ⟨_, rfl⟩ := r.strI
      have ea : Txt.lower ⟨cs.toArray⟩ = ⟨(cs.map lo1).toArray⟩ := by rw [lower_ascii (by simpa using asciiS_lt h1), map_arr]
      refine PySem.SC.lower ?_ ?_
      · rw [ea, str_len, List.length_map]
        have := shortS_le h2
        unfold Builtin.Str.tooLong
        exact decide_eq_false (by unfold sizeLine; omega)
      · rw [ea]; exact .tok R .str
    · cases e
  · cases e
def pnUpper : PN := fun led vs => match vs with
  | [.str cs] => (match asciiS cs, shortS cs with | true, true => some (.str (cs.map up1), led) | _, _ => none)
  | _ => none
theorem SPN.upper : SPN G d pnUpper (fun us => PySem.call (.builtin "str.upper") us) := by
  intro A c led s vs us v led' gA R hv e
  unfold pnUpper at e
  split at e
  · rename_i cs
    split at e
    · rename_i h1 h2
      cases e
      obtain ⟨u, rfl, r⟩ := hv.one
      obtain ⟨_, rfl⟩ := r.strI
      have ea : Txt.upper ⟨cs.toArray⟩ = ⟨(cs.map up1).toArray⟩ := by rw [upper_ascii (by simpa using asciiS_lt h1), map_arr]
      refine PySem.SC.upper ?_ ?_
      · rw [ea, str_len, List.length_map]
        have := shortS_le h2
        unfold Builtin.Str.tooLong
        exact decide_eq_false (by unfold sizeLine; omega)
      · rw [ea]; exact .tok R .str
    · cases e
  · cases e

-- ## join
def toStrs : List AV → Option (List (List Nat))
  | [] => some []
  | .str x :: r => (match toStrs r with | some s => some (x :: s) | none => none)
  | _ => none
theorem toStrs_ok {c : Cf} {h : Heap} : ∀ {xs : List AV} {vs : List Value} {ts : List (List Nat)}, VRs c h xs vs → toStrs xs = some ts → ∃ l : List (Str × Tok), vs = strValues l ∧ l.map (·.1) = ts.map fun x => ⟨x.toArray⟩
  | [], _, _, .nil, e => by cases e; exact ⟨[], rfl, rfl⟩
  | x :: r, _, ts, .cons a b, e => by
    cases a <;> first | (cases e; done) | skip
    rename_i x t
    unfold toStrs at e
    split at e
    · rename_i s q
      cases e
      obtain ⟨l, h1, h2⟩ := toStrs_ok b q
      refine ⟨(⟨x.toArray⟩, t) :: l, ?_, ?_⟩
      · rw [h1]; rfl
      · rw [List.map_cons, h2]; rfl
    · cases e
def pnJoin : PN := fun led vs => match vs with
  | [.str sep, v] => (match asList led v with
    | some xs => (match toStrs xs with
      | some ts => (match JoinOk ⟨sep.toArray⟩ (ts.map fun x => ⟨x.toArray⟩) with
        | true => some (.str (Txt.join ⟨sep.toArray⟩ (ts.map fun x => ⟨x.toArray⟩)).cps.toList, led)
        | false => none)
      | none => none)
    | none => none)
  | _ => none
theorem SPN.join : SPN G d pnJoin (fun us => PySem.call (.builtin "str.join") us) := by
  intro A c led s vs us v led' gA R hv e
  unfold pnJoin at e
  split at e
  · rename_i sep w
    obtain ⟨u, u', rfl, r, r'⟩ := hv.two
    split at e
    · rename_i xs hx
      split at e
      · rename_i ts ht
        split at e
        · rename_i hok
          cases e
          obtain ⟨_, rfl⟩ := r.strI
          obtain ⟨a, ws, rfl, hl, hr⟩ := asList_ok R r' hx
          obtain ⟨l, h1, h2⟩ := toStrs_ok hr ht
          subst h1
          exact PySem.SC.join hl h2 hok fun t' k => .tok R .str
        · cases e
      · cases e
    · cases e
  · cases e

-- ## append
def rcList (led : List AO) (a : AV) : Bool := match a with | .obj k => (match led[k]? with | some (.list _) => true | _ => false) | _ => false
theorem MethAt.append : MethAt G "append" rcList (.builtin "list.append") := by
  intro A c led s a ua pl Q R ha e q
  unfold rcList at e
  split at e
  · split at e
    · rename_i xs hl
      obtain ⟨_, rfl, p⟩ := ha.objI
      obtain ⟨a', h1, vs, ⟨h2, o, h4, h5⟩, h3⟩ := R.at_ _ _ hl
      rw [p] at h1; cases h1
      obtain ⟨o', g1, g2, _⟩ := h2
      rw [h4] at g1; cases g1
      exact Calls.getMethod_list_append h4 g2 h5 q
    · cases e
  · cases e
def pnAppend : PN := fun led vs => match vs with
  | [.obj k, v] => (match led[k]? with
    | some (.list xs) => (match shortL xs with | true => some (.none, led.set k (.list (xs ++ [v]))) | false => none)
    | _ => none)
  | _ => none
theorem SPN.append : SPN G d pnAppend (fun us => PySem.call (.builtin "list.append") us) := by
  intro A c led s vs us v led' gA R hv e
  unfold pnAppend at e
  split at e
  · rename_i k w
    obtain ⟨u, u', rfl, r, r'⟩ := hv.two
    split at e
    · rename_i xs hl
      split at e
      · rename_i hs
        cases e
        obtain ⟨_, rfl, p⟩ := r.objI
        obtain ⟨a', h1, ws, ⟨h2, o, h4, h5⟩, h3⟩ := R.at_ _ _ hl
        rw [p] at h1; cases h1
        obtain ⟨o', g1, g2, n, g3⟩ := h2
        rw [h4] at g1; cases g1
        refine list_append_plainL (its := ws.toArray) ⟨o, n, h4, g2, h5, g3⟩ (fun h' hp hs' => ?_) ?_
        · have hp' := hp
          obtain ⟨o2, n2, q1, q2, q3, q4⟩ := hp'
          have hl' := hp.isList
          obtain ⟨st, R'⟩ := SR.setObj (o := .list (xs ++ [w])) (tk := s.toks) R p hs' (fun K => ⟨ws ++ [u'], ⟨by simpa using hl', o2, q1, q3⟩, (h3.kept K).append (.cons (r'.kept K) .nil)⟩) ⟨o2, q1⟩
          exact ⟨c, st, R', .none⟩
        · have := shortL_le hs; have := h3.length; simp; unfold sizeLine; omega
      · cases e
    · cases e
  · cases e

-- ## items of the empty dict
def rcEdict (_ : List AO) (a : AV) : Bool := match a with | .edict => true | _ => false
theorem MethAt.items : MethAt G "items" rcEdict (.builtin "dict.items") := by
  intro A c led s a ua pl Q R ha e q
  unfold rcEdict at e
  split at e
  · obtain ⟨_, _, rfl, hn, f, g⟩ := ha.edictI
    exact getMethod_builtin (T := "dict") ⟨_, g, rfl⟩ PySem.F.plainAttrs_dict PySem.F.slot_dict_items PySem.F.type_dict_items (fun b e => by cases e; exact ⟨_, g, rfl⟩) q
  · cases e
def pnItems : PN := fun led vs => match vs with
  | [.edict] => some (.eitems, led)
  | _ => none
theorem SPN.items : SPN G d pnItems (fun us => PySem.call (.builtin "dict.items") us) := by
  intro A c led s vs us v led' gA R hv e
  unfold pnItems at e
  split at e
  · cases e
    obtain ⟨u, rfl, r⟩ := hv.one
    obtain ⟨a, ep, rfl, hn, f, g⟩ := r.edictI
    have hD : s.heap.DictOf (strKind G.prog G.w) a [] := ⟨_, #[], ep, g, ⟨rfl, rfl, rfl⟩, rfl, fun _ h => by simp at h, .nil, List.nodup_nil⟩
    refine call_meetsIn PySem.F.slot_dict_items ⟨_, g, rfl⟩ PySem.F.entry_dict_items (PySem.F.args_dict_items_1 _) (meets_dict_items (strKind G.prog G.w) a hn) ⟨⟨_, hD⟩, ?_⟩
    have st := Step.pushFz (own := []) c s { cls := .type "dict_items", data := .fields #[.ref a] }
    exact ⟨_, st, R.pushFz _, .eitems (.inr rfl) (.inl f) ⟨_, Heap.get?_push_size _ rfl, rfl, rfl⟩ (push_all _ _ g)⟩
  · cases e
end Mine
end
-- part F21
section
namespace Mine
variable {G : Glo} {nm nm' : List Str} {sc scope : Scope} {d : Nat}

/-- a call with the values of its arguments, the last of them by keyword -/
def SFk (G : Glo) (d n : Nat) (kws : List Str) (g : FM) (f : Addr) : Prop :=
  ∀ A c led s avs us v led', GoodA d A → GSR G c led s → VRs c s.heap avs us → g avs led = some (v, led') →
    codeAny (model G.prog G.w) A (.call (.ref f) ⟨us.take n, kws.zip (us.drop n)⟩) (fun r s' => match r with | .ok (.ret u) => RV G c s v led' u s' | _ => False) s
/-- what the binder of a def gives -/
def BindW (G : Glo) (fd : FuncData) (n : Nat) (kws ps : List Str) (extra : List AV) : Prop :=
  ∀ A c led s us (Q : List (Str × Value) → Shared → Prop), us.length = n + kws.length → GSR G c led s →
    (∀ es c' s', Step [] c s c' s' → GSR G c' led s' → VRs c' s'.heap extra es → Q (ps.zip (us ++ es)) s') → WP G A (bindArgs fd ⟨us.take n, kws.zip (us.drop n)⟩) Q s
structure FnK (G : Glo) (f : Addr) (n : Nat) (kws ps : List Str) (extra : List AV) (nm : List Str) (k : Nat) (sc : Scope) (body : List Stmt) : Prop where
  obj : ∃ name qual params dV kV doc pm an cdv ct oc od osl, G.K.lookup f = some ⟨oc, od, .func (fnOf name qual params body sc dV kV doc pm an cdv ct), osl⟩ ∧ codeIn G.K cdv qual = true ∧
    BindW G (fnOf name qual params body sc dV kV doc pm an cdv ct) n kws ps extra
  plen : ps.length = n + kws.length + extra.length
  len : nm.length = ps.length + k
  pre : ps = nm.take ps.length
  nd : nm.Nodup
  kind : sc.kind = .function
  co : sc.isCoroutine = false
  gen : sc.isGenerator = false
  free : ∀ x ∈ sc.names, x.2 ≠ .free
  par : ∀ x ∈ ps, sc.names.lookup x = some .local ∨ sc.names.lookup x = some .cell
  names : (sc.names.map (·.1)).Nodup
theorem SFk.sf {n : Nat} {g : FM} {f : Addr} (h : SFk G d n [] g f) (hg : ∀ avs led r, g avs led = some r → avs.length = n) : SF G d g f := by
  intro A c led s avs us v led' gA R hv e
  have hl := hg avs led _ e
  have := h A c led s avs us v led' gA R hv e
  rw [List.take_of_length_le (by rw [hv.length, hl]; exact Nat.le_refl _)] at this
  rw [show ([] : List Str).zip (us.drop n) = [] from rfl] at this
  refine codeAny_mono this fun r s' z => ?_
  cases r with
  | error e => exact z
  | ok fl => cases fl <;> exact z

-- ## a class of the text is called
structure NewOk (G : Glo) (C fI : Addr) : Prop where
  makes : makesIn G.K C = true
  keep : keepIn G.K (.ref C) = true
  init : findIn G.K (.ref C) "__init__" = some (some (.ref fI))
  fn : typeIn G.K (.ref fI) = some (.type "function")
def pnNew (C : Nat) (g : FM) : PN := fun led vs => match g (.inst C led.length :: vs) (led ++ [.ns []]) with
  | some (.none, led') => some (.inst C led.length, led')
  | _ => none
theorem goodA_make {A : Around} {C : Addr} {vals : List Value} (h : GoodA (d + 1) A) : GoodA d (A.under (.builtin "type.__call__" ⟨.ref C :: vals, []⟩)) :=
  ⟨h.hh, by rw [depth_under_make]; have := h.depth; omega, by rw [units_under_make]; have := h.units; omega⟩
theorem SPN.new {C fI : Addr} {g : FM} (X : NewOk G C fI) (h : SF G d g fI) : SPN G (d + 1) (pnNew C g) (fun us => PySem.call (.ref C) us) := by
  intro A c led s vs us v led' gA R hv e
  unfold pnNew at e
  split at e
  · rename_i led₂ q
    cases e
    have Xs := G.X.keeps R.keep
    refine wpAny_call ?_
    obtain ⟨hh, gg, dr, tk, os⟩ := s
    refine make_core (makes_of Xs X.makes) (looks_findIn Xs X.init) (fun self => bind_fn Xs self X.fn) (.inl rfl) ?_
    have st1 := Step.pushPi (own := []) c ⟨hh, gg, dr, tk, os⟩ emptyDict
    have R1 := SR.pushPi R emptyDict (.ns []) ⟨[], 0, Heap.get?_push_size _ rfl, .nil⟩
    have st2 := Step.pushFz (own := []) (c.piAdd hh.objs.size) ⟨hh.push emptyDict, gg, dr, tk, os⟩ (instObj C hh.objs.size)
    have R2 := SR.pushFz R1 (instObj C hh.objs.size)
    have st := st1.trans st2
    have hsz : (hh.push emptyDict).objs.size = hh.objs.size + 1 := Heap.size_push ..
    have pk : (c.piAdd hh.objs.size).pi[led.length]? = some hh.objs.size := by
      show (c.pi ++ [hh.objs.size])[led.length]? = _
      rw [R.len]; simp
    have hx : ((hh.push emptyDict).push (instObj C hh.objs.size)).get? (hh.objs.size + 1) = some (instObj C hh.objs.size) := by rw [← hsz]; exact Heap.get?_push_size _ rfl
    have hinst : VR ((c.piAdd hh.objs.size).fzAdd (hh.push emptyDict).objs.size) ((hh.push emptyDict).push (instObj C hh.objs.size)) (.inst C led.length) (.ref (hh.objs.size + 1)) := .inst (.inr hsz.symm) hx pk
    refine codeAny_mono (h _ _ (led ++ [.ns []]) ⟨(hh.push emptyDict).push (instObj C hh.objs.size), gg, dr, tk, os⟩ (.inst C led.length :: vs) (.ref (hh.objs.size + 1) :: us) .none _ (goodA_make gA) R2 (.cons hinst (hv.kept (st.kept0 R))) q) fun r s' hr => ?_
    cases r with
    | error e => exact hr
    | ok fl =>
      cases fl with
      | ret u =>
        obtain ⟨c', st', R', hn⟩ := hr
        cases hn
        exact ⟨rfl, c', st.trans st', R', hinst.kept (st'.kept0 R2)⟩
      | _ => exact hr.elim
  · cases e
theorem cw_cls {C fI : Addr} (X : NewOk G C fI) {A : Around} {c : Cf} {led : List AO} {pos : Pos} {trees : List (Bool × Sem Value)} {s : Shared} {vs : List AV} {Q : Value → Shared → Prop} (hp : trees.any (·.1) = false)
    (h : WP G A (spliced trees) (RVs G c s vs led) s) (k : ∀ us s', RVs G c s vs led us s' → WP G A (PySem.call (.ref C) us) Q s') : WP G A (callWith pos (.ref C) [] trees []) Q s := by
  refine callWith_of (P := fun h => G.K.In h) (by rw [hp]; rfl) (keeps_K X.keep) (evalArgs_all hp (h.mono fun us s' hr => ⟨?_, k us s' hr⟩))
  obtain ⟨c', _, R', _⟩ := hr
  exact G.X.keeps R'.keep
theorem SE.new {x : Str} {p pos : Pos} {C fI : Addr} {g : PN} {fs : List EM} {es : List Expr} (hk : sc.names.lookup x = some .globalImplicit) (e : nsIn G.K mainGlobals x = some (some (.ref C))) (hd : (x == ("__debug__" : Str)) = false) (X : NewOk G C fI)
    (ha : SAs G nm sc d fs es) (hg : SPN G d g (fun us => PySem.call (.ref C) us)) : SE G nm sc d (E.call g fs) (.Call (.Name x p) es [] pos) := by
  intro A env c loc led s v led' gA eo F R q
  obtain ⟨vs, l1, q1, q2⟩ := E.call_some q
  refine eval_call_name (glob_here eo R hk e ?_ hd)
  refine cw_cls X (ha.plain _ _) (ha.run gA eo F R q1) fun us s' ⟨c', st, R', hvs⟩ => ?_
  exact (hg A c' l1 s' vs us v led' gA R' hvs q2).mono fun _ _ z => z.after st

-- ## a method that takes one value by its name
namespace E
def methKw (rc : List AO → AV → Bool) (g : FM) (f a kv : EM) : EM := fun l led => match f l led with
  | some (o, l1) => (match rc l1 o with
    | true => (match a l l1 with
      | some (x, l2) => (match kv l l2 with | some (k, l3) => g [o, x, k] l3 | none => none)
      | none => none)
    | false => none)
  | none => none
end E
theorem SFk.call {n : Nat} {kws : List Str} {g : FM} {f : Addr} (h : SFk G d n kws g f) {A : Around} {c : Cf} {led : List AO} {s : Shared} {avs : List AV} {us : List Value} {v : AV} {led' : List AO} (gA : GoodA d A) (R : GSR G c led s) (hv : VRs c s.heap avs us) (e : g avs led = some (v, led')) :
    WP G A (PySem.call (.ref f) (us.take n) (kws.zip (us.drop n))) (RV G c s v led') s := by
  refine wpAny_call (codeAny_mono (h A c led s avs us v led' gA R hv e) fun r s' hr => ?_)
  cases r with
  | error e => exact hr
  | ok fl => cases fl <;> first | exact hr | exact hr.elim
theorem SE.methKw {rc : List AO → AV → Bool} {g : FM} {f a kv : EM} {o e₁ e₂ : Expr} {name kw : Str} {apos pos kp : Pos} {fa : Addr} (h : SE G nm sc d f o) (hm : MethAt G name rc (.ref fa)) (hkp : keepIn G.K (.ref fa) = true)
    (h1 : SE G nm sc d a e₁) (h2 : SE G nm sc d kv e₂) (hg : SFk G d 2 [kw] g fa) (hst : ∀ env, starEach [e₁] env = (false, eval e₁ env) :: starEach [] env) (pl : Env → Sem Bool)
    (he : ∀ env, eval (.Call (.Attribute o name apos) [e₁] [⟨some kw, e₂, kp⟩] pos) env = (do
      let ov ← eval o env
      standAt apos.atName
      let (f, first) ← holding [ov] (getMethod ov name (pl env))
      callWith pos f first (backTo pos (starEach [e₁] env)) (backToKw pos (keywordEach [⟨some kw, e₂, kp⟩] env)))) : SE G nm sc d (E.methKw rc g f a kv) (.Call (.Attribute o name apos) [e₁] [⟨some kw, e₂, kp⟩] pos) := by
  intro A env c loc led s v led' gA eo F R e
  unfold E.methKw at e
  split at e
  · rename_i ov l1 q1
    split at e
    · rename_i hrc
      split at e
      · rename_i x l2 q2
        split at e
        · rename_i k l3 q3
          refine methodCall_KW (pl := pl env) ?_ (he env)
          refine (h A env c loc led s ov l1 gA eo F R q1).mono fun ua s₁ ⟨c₁, st₁, R₁, v₁⟩ => ?_
          refine hm A c₁ l1 s₁ ov ua _ _ R₁ v₁ hrc ?_
          have F₁ := F.step R st₁
          refine callWith_KW G.X hkp rfl ?_ (by rw [hst]; rfl) (hst env)
          rw [hst]
          refine Calls.spliced_cons ((h1 A env c₁ loc l1 s₁ x l2 gA eo F₁ R₁ q2).mono fun ux s₂ ⟨c₂, st₂, R₂, v₂⟩ => Calls.spliced_nil ?_)
          have F₂ := F₁.step R₁ st₂
          show WP G A (evalAll [do let v ← eval e₂ env; standAt pos; pure v]) _ s₂
          unfold evalAll
          refine wpAny_bind (wpAny_bind ((h2 A env c₂ loc l2 s₂ k l3 gA eo F₂ R₂ q3).mono fun uk s₃ ⟨c₃, st₃, R₃, v₃⟩ => wpAny_bind (wpAny_standAt (wpAny_pure ?_))))
          refine wpAny_bind (wpAny_holding (wpAny_pure (wpAny_pure ⟨G.X.keeps R₃.keep, ?_⟩)))
          exact (hg.call gA R₃ (avs := [ov, x, k]) (us := [ua, ux, uk]) (.cons ((v₁.kept (st₂.kept0 R₁)).kept (st₃.kept0 R₂)) (.cons (v₂.kept (st₃.kept0 R₂)) (.cons v₃ .nil))) e).mono fun _ _ z => z.after ((st₁.trans st₂).trans st₃)
        · cases e
      · cases e
    · cases e
  · cases e
end Mine
end
-- part F22
section
namespace Mine
variable {G : Glo} {nm nm' : List Str} {sc scope : Scope} {d : Nat}

-- ## the lemmas with their side conditions as one sum each
def hasAt (nm : List Str) (i : Nat) (x : Str) : Bool := match nm[i]? with | some y => y == x | none => false
def knd (sc : Scope) (x : Str) : Nat := match sc.names.lookup x with
  | some .local => 1 | some .cell => 2 | some .free => 3 | some .globalImplicit => 4 | _ => 0
theorem hasAt_ok {i : Nat} {x : Str} (h : hasAt nm i x = true) : nm[i]? = some x := by
  unfold hasAt at h
  split at h
  · rename_i y e; rw [e, beq_iff_eq.mp h]
  · cases h
theorem knd_local {x : Str} (h : knd sc x = 1) : sc.names.lookup x = some .local := by
  unfold knd at h
  split at h <;> first | assumption | (cases h)
theorem knd_cell {x : Str} (h : knd sc x = 2) : sc.names.lookup x = some .cell := by
  unfold knd at h
  split at h <;> first | assumption | (cases h)
theorem knd_free {x : Str} (h : knd sc x = 3) : sc.names.lookup x = some .free := by
  unfold knd at h
  split at h <;> first | assumption | (cases h)
theorem knd_glob {x : Str} (h : knd sc x = 4) : sc.names.lookup x = some .globalImplicit := by
  unfold knd at h
  split at h <;> first | assumption | (cases h)
def locB (nm : List Str) (sc : Scope) (i : Nat) (x : Str) : Bool := hasAt nm i x && (knd sc x == 1 || knd sc x == 2 || knd sc x == 3) && !(x == ("__debug__" : Str)) && !(x == ("__classdict__" : Str))
theorem C.loc {i : Nat} {x : Str} {pos : Pos} (h : locB nm sc i x = true) : SE G nm sc d (E.loc i) (.Name x pos) := by
  unfold locB at h
  simp only [Bool.and_eq_true, Bool.or_eq_true, Bool.not_eq_true', beq_iff_eq] at h
  obtain ⟨⟨⟨h1, h2⟩, h3⟩, h4⟩ := h
  refine SE.loc (hasAt_ok h1) ?_ h3 h4
  rcases h2 with (h2 | h2) | h2
  · exact .inl (knd_local h2)
  · exact .inr (.inl (knd_cell h2))
  · exact .inr (.inr (knd_free h2))
def slotB (nm : List Str) (sc : Scope) (i : Nat) (x : Str) : Bool := hasAt nm i x && (knd sc x == 1 || knd sc x == 2)
theorem C.slot {i : Nat} {x : Str} (hn : nm.Nodup) (h : slotB nm sc i x = true) : Slot nm sc i x := by
  unfold slotB at h
  simp only [Bool.and_eq_true, Bool.or_eq_true, beq_iff_eq] at h
  exact ⟨hasAt_ok h.1, hn, h.2.elim (fun q => .inl (knd_local q)) fun q => .inr (knd_cell q)⟩
def slotLB (nm : List Str) (sc : Scope) (i : Nat) (x : Str) : Bool := hasAt nm i x && knd sc x == 1
theorem C.slotL {i : Nat} {x : Str} (hn : nm.Nodup) (h : slotLB nm sc i x = true) : SlotL nm sc i x := by
  unfold slotLB at h
  simp only [Bool.and_eq_true, beq_iff_eq] at h
  exact ⟨hasAt_ok h.1, hn, knd_local h.2⟩
theorem C.int {i : Int} {n k : Nat} {pos : Pos} (h : decide (i.natAbs < 2 ^ n) = true) : SE G nm sc d (E.const (.int i n)) (.Constant (.int i) k pos) := SE.int (of_decide_eq_true h)
theorem C.str {x : Str} {cs : List Nat} {k : Nat} {pos : Pos} (h : (x == ⟨cs.toArray⟩) = true) : SE G nm sc d (E.const (.str cs)) (.Constant (.str x) k pos) := SE.str (beq_iff_eq.mp h)
def globB (sc : Scope) (x : Str) : Bool := knd sc x == 4 && !(x == ("__debug__" : Str)) && !(x == ("__name__" : Str))
theorem globB_ok {x : Str} (h : globB sc x = true) : sc.names.lookup x = some .globalImplicit ∧ (x == ("__debug__" : Str)) = false ∧ x ≠ "__name__" := by
  unfold globB at h
  simp only [Bool.and_eq_true, Bool.not_eq_true', beq_iff_eq] at h
  exact ⟨knd_glob h.1.1, h.1.2, fun q => by rw [q] at h; exact absurd h.2 (by decide)⟩
theorem C.glob {x : Str} {pos : Pos} {a : Addr} (h : globB sc x = true) (e : nsIn G.K mainGlobals x = some (some (.ref a))) : SE G nm sc d (E.const (.top a)) (.Name x pos) := SE.glob (globB_ok h).1 e (globB_ok h).2.1
theorem C.ty {x : Str} {pos : Pos} {t : Ty} (h : globB sc x = true) (e : nsIn G.K mainGlobals x = some none) (hv : bootBuiltins x = some (.type t.nm)) : SE G nm sc d (E.const (.ty t)) (.Name x pos) := SE.tyName (globB_ok h).1 e hv (globB_ok h).2.2 (globB_ok h).2.1
theorem C.builtin {x : Str} {p pos : Pos} {id : String} {g : PN} {fs : List EM} {es : List Expr} (h : globB sc x = true) (e : nsIn G.K mainGlobals x = some none) (hv : bootBuiltins x = some (.builtin id)) (ha : SAs G nm sc d fs es) (hg : SPN G d g (fun us => PySem.call (.builtin id) us)) :
    SE G nm sc d (E.call g fs) (.Call (.Name x p) es [] pos) := SE.builtin (globB_ok h).1 e hv (globB_ok h).2.2 (globB_ok h).2.1 ha hg
theorem C.type {x : Str} {p pos : Pos} {T : String} {g : PN} {fs : List EM} {es : List Expr} (h : globB sc x = true) (e : nsIn G.K mainGlobals x = some none) (hv : bootBuiltins x = some (.type T)) (ha : SAs G nm sc d fs es) (hg : SPN G d g (fun us => PySem.call (.type T) us)) :
    SE G nm sc d (E.call g fs) (.Call (.Name x p) es [] pos) := SE.type (globB_ok h).1 e hv (globB_ok h).2.2 (globB_ok h).2.1 ha hg
theorem C.zip {x : Str} {p pos : Pos} {f g : EM} {e₁ e₂ : Expr} (h : globB sc x = true) (e : nsIn G.K mainGlobals x = some none) (hv : bootBuiltins x = some (.type "zip")) (ha : SAs G nm sc d [f, g] [e₁, e₂]) : SI G nm sc d (E.zip f g) (.Call (.Name x p) [e₁, e₂] [] pos) :=
  SI.zip (globB_ok h).1 e hv (globB_ok h).2.2 (globB_ok h).2.1 ha
def funcIn (K : Frag) (f : Addr) : Bool := match K.lookup f with | some ⟨_, _, .func _, _⟩ => true | _ => false
theorem funcIn_ok {K : Frag} {f : Addr} (h : funcIn K f = true) : ∃ o fd, K.lookup f = some o ∧ o.data = .func fd := by
  unfold funcIn at h
  split at h
  · rename_i e; exact ⟨_, _, e, rfl⟩
  · cases h
theorem C.defd {x : Str} {p pos : Pos} {f : Addr} {g : PN} {fs : List EM} {es : List Expr} (h : globB sc x = true) (e : nsIn G.K mainGlobals x = some (some (.ref f))) (hf : funcIn G.K f = true) (ha : SAs G nm sc d fs es) (hg : SPN G d g (fun us => PySem.call (.ref f) us)) :
    SE G nm sc d (E.call g fs) (.Call (.Name x p) es [] pos) := SE.defd (globB_ok h).1 e (globB_ok h).2.1 (funcIn_ok hf) ha hg
theorem C.new {x : Str} {p pos : Pos} {C fI : Addr} {g : PN} {fs : List EM} {es : List Expr} (h : globB sc x = true) (e : nsIn G.K mainGlobals x = some (some (.ref C))) (X : NewOk G C fI) (ha : SAs G nm sc d fs es) (hg : SPN G d g (fun us => PySem.call (.ref C) us)) :
    SE G nm sc d (E.call g fs) (.Call (.Name x p) es [] pos) := SE.new (globB_ok h).1 e (globB_ok h).2.1 X ha hg
theorem C.fn {f : Addr} (h : funcIn G.K f = true) : Callable G (.ref f) := by
  obtain ⟨o, fd, a, b⟩ := funcIn_ok h; exact .inr ⟨f, o, fd, rfl, a, b⟩
theorem C.bi {id : String} : Callable G (.builtin id) := .inl ⟨id, rfl⟩

-- ## comprehensions of one clause and of two
def compB (nm nm' : List Str) (sc scope : Scope) (init : List (Option Nat)) : Bool :=
  (match scope.kind with | .function => true | _ => false) && scope.names.all (fun x => match x.2 with
    | .cell => false
    | .local => knd scope x.1 == 1
    | .free => knd sc x.1 == 2
    | _ => true) && decide (init = mkInit nm nm' scope)
theorem compB_ok {init : List (Option Nat)} (h : compB nm nm' sc scope init = true) : CompOk nm nm' sc scope init := by
  unfold compB at h
  simp only [Bool.and_eq_true, List.all_eq_true] at h
  obtain ⟨⟨h1, h2⟩, h3⟩ := h
  refine ⟨?_, fun x hx e => ?_, fun x hx e => ?_, fun x hx e => ?_, of_decide_eq_true h3⟩
  · revert h1; cases scope.kind <;> simp
  · have := h2 x hx; rw [e] at this; cases this
  · have := h2 x hx; rw [e] at this; exact knd_local (beq_iff_eq.mp this)
  · have := h2 x hx; rw [e] at this; exact knd_cell (beq_iff_eq.mp this)
theorem C.comp1 {f : IM} {t : Tgt} {init : List (Option Nat)} {target iter elt : Expr} {fs : List TM} {g : EM} {ifs : List Expr} {pos : Pos}
    (X : compB nm nm' sc scope init = true) (hi : SI G nm sc d f iter) (ht : TgtL nm' (relabelSc scope sc) t target) (h1 : STs G nm' (relabelSc scope sc) d fs ifs) (h2 : SE G nm' (relabelSc scope sc) d g elt) (hs : ∀ env x, foldedSetIterable iter env x = pure x) :
    SE G nm sc d (E.comp f init t (actLast fs g) false) (.ListComp elt [⟨target, iter, ifs, 0⟩] scope pos) :=
  SE.comp (compB_ok X) (fun it acc env => compTurn_list elt target iter ifs scope pos it acc env) hi ht (ActOk.last h1 h2) hs
theorem C.asgComp1 {i : Nat} {x : Str} {f : IM} {t : Tgt} {init : List (Option Nat)} {target iter elt : Expr} {fs : List TM} {g : EM} {ifs : List Expr} {pos spos px : Pos}
    (X : compB nm nm' sc scope init = true) (hi : SI G nm sc d f iter) (ht : TgtL nm' (relabelSc scope sc) t target) (h1 : STs G nm' (relabelSc scope sc) d fs ifs) (h2 : SE G nm' (relabelSc scope sc) d g elt) (hs : ∀ env x, foldedSetIterable iter env x = pure x)
    (sl : Slot nm sc i x) (hw : ∀ env, EnvOk sc env → swapsWith (.ListComp elt [⟨target, iter, ifs, 0⟩] scope pos) (some (.Name x px)) spos.line env = pure true) :
    SS G nm sc d (S.asg i (E.comp f init t (actLast fs g) false)) (.Assign [.Name x px] (.ListComp elt [⟨target, iter, ifs, 0⟩] scope pos) spos) :=
  SS.asgComp (compB_ok X) (fun it acc env => compTurn_list elt target iter ifs scope pos it acc env) hi ht (ActOk.last h1 h2) hs sl hw
theorem C.act2 {f : IM} {t : Tgt} {t0 i0 t1 i1 elt : Expr} {fs₀ fs₁ : List TM} {g : EM} {f0 f1 : List Expr} {pos : Pos}
    (h0 : STs G nm' sc d fs₀ f0) (hi : SI G nm' sc d f i1) (ht : TgtL nm' sc t t1) (h1 : STs G nm' sc d fs₁ f1) (h2 : SE G nm' sc d g elt) (hs : ∀ env x, foldedSetIterable i1 env x = pure x) :
    ActOk G nm' sc d (actMore fs₀ f t (actLast fs₁ g)) f0 (fun env acc => do
      let x ← eval i1 env
      standAt i1.pos
      let x ← foldedSetIterable i1 env x
      let _ ← runOwn (.compStart (.ListComp elt [⟨t0, i0, f0, 0⟩, ⟨t1, i1, f1, 0⟩] scope pos) 1 (← holding [x] (pyIter x)) acc env) env) :=
  ActOk.more (fun it acc env => compTurn_two1 elt t0 i0 t1 i1 f0 f1 scope pos it acc env) rfl h0 hi ht (ActOk.last h1 h2) hs
theorem two0_eq (elt t0 i0 t1 i1 : Expr) (f0 f1 : List Expr) (scope : Scope) (pos : Pos) (it acc : Value) (env : Env) :
    compTurn (.ListComp elt [⟨t0, i0, f0, 0⟩, ⟨t1, i1, f1, 0⟩] scope pos) 0 it acc env = (do
      standAt i0.pos
      match ← pyNext it with
      | none => pure (.done .next)
      | some v =>
        letOwnedTupleGo t0 it v
        assign t0 env v
        let ok ← testsOf f0 env
        if ok then (fun (env : Env) (acc : Value) => do
          let x ← eval i1 env
          standAt i1.pos
          let x ← foldedSetIterable i1 env x
          let _ ← runOwn (.compStart (.ListComp elt [⟨t0, i0, f0, 0⟩, ⟨t1, i1, f1, 0⟩] scope pos) 1 (← holding [x] (pyIter x)) acc env) env : Env → Value → Sem PUnit) env acc
        again (.compLoop (.ListComp elt [⟨t0, i0, f0, 0⟩, ⟨t1, i1, f1, 0⟩] scope pos) 0 it acc env)) := by
  rw [compTurn_two0]
  refine congrArg _ (funext fun _ => congrArg _ (funext fun r => ?_))
  cases r with
  | none => rfl
  | some v =>
    refine congrArg (bind _) (funext fun _ => congrArg (bind _) (funext fun _ => congrArg (bind _) (funext fun ok => ?_)))
    cases ok with
    | false => rfl
    | true =>
      simp only [if_true, bind_assoc, pure_bind]
theorem C.asgComp2 {i : Nat} {x : Str} {f f' : IM} {t t' : Tgt} {init : List (Option Nat)} {t0 i0 t1 i1 elt : Expr} {fs₀ fs₁ : List TM} {g : EM} {f0 f1 : List Expr} {pos spos px : Pos}
    (X : compB nm nm' sc scope init = true) (hi : SI G nm sc d f i0) (ht : TgtL nm' (relabelSc scope sc) t t0) (hs : ∀ env x, foldedSetIterable i0 env x = pure x)
    (h0 : STs G nm' (relabelSc scope sc) d fs₀ f0) (hi' : SI G nm' (relabelSc scope sc) d f' i1) (ht' : TgtL nm' (relabelSc scope sc) t' t1) (h1 : STs G nm' (relabelSc scope sc) d fs₁ f1) (h2 : SE G nm' (relabelSc scope sc) d g elt) (hs' : ∀ env x, foldedSetIterable i1 env x = pure x)
    (sl : Slot nm sc i x) (hw : ∀ env, EnvOk sc env → swapsWith (.ListComp elt [⟨t0, i0, f0, 0⟩, ⟨t1, i1, f1, 0⟩] scope pos) (some (.Name x px)) spos.line env = pure true) :
    SS G nm sc d (S.asg i (E.comp f init t (actMore fs₀ f' t' (actLast fs₁ g)) false)) (.Assign [.Name x px] (.ListComp elt [⟨t0, i0, f0, 0⟩, ⟨t1, i1, f1, 0⟩] scope pos) spos) :=
  SS.asgComp (compB_ok X) (fun it acc env => two0_eq elt t0 i0 t1 i1 f0 f1 scope pos it acc env) hi ht (C.act2 h0 hi' ht' h1 h2 hs') hs sl hw

-- ## `__debug__`, an empty dict
theorem SE.debug {pos : Pos} {x : Str} (hx : (x == ("__debug__" : Str)) = true) : SE G nm sc d (E.const (.bool true)) (.Name x pos) := by
  intro A env c loc led s v led' gA eo F R e
  cases e
  have : eval (.Name x pos) env = (do standAt pos; if x == ("__debug__" : Str) then debugConstant else loadName env x) := rfl
  rw [this, hx]
  exact wpAny_bind (wpAny_standAt (wpAny_bind (wpAny_rule (wpAny_pure (.here R (.bool true))))))
namespace E
def dict : EM := fun _ led => some (.obj led.length, led ++ [.map []])
end E
theorem SE.dict {pos : Pos} : SE G nm sc d E.dict (.Dict [] [] pos) := by
  intro A env c loc led s v led' gA eo F R e
  cases e
  refine wpAny_Dict_empty ?_
  have st := Step.pushPi (own := []) c s { cls := .type "dict", data := .dict #[] }
  have hm : (s.heap.objs.size == sysModules) = false := by
    have := modules_low (G.T.nolimit.keeps R.keep)
    exact beq_eq_false_iff_ne.mpr (Nat.ne_of_gt this)
  have R' := R.pushPi { cls := .type "dict", data := .dict #[] } (.map []) ⟨hm, [], ⟨_, #[], 0, Heap.get?_push_size _ rfl, ⟨rfl, rfl, rfl⟩, rfl, fun _ h => by simp at h, .nil, List.nodup_nil⟩, .nil⟩
  refine ⟨_, st, R', .obj ?_⟩
  show (c.pi ++ [s.heap.objs.size])[led.length]? = _
  rw [R.len]; simp

-- ## a body that the flow never reaches
theorem SF.up {d d' : Nat} {g : FM} {f : Addr} (h : SF G d g f) (k : d ≤ d') : SF G d' g f := fun A c led s avs us v led' gA R hv e => h A c led s avs us v led' (gA.less k) R hv e
theorem SFk.up {d d' n : Nat} {kws : List Str} {g : FM} {f : Addr} (h : SFk G d n kws g f) (k : d ≤ d') : SFk G d' n kws g f := fun A c led s avs us v led' gA R hv e => h A c led s avs us v led' (gA.less k) R hv e
theorem MethAt.or {name : Str} {r₁ r₂ : List AO → AV → Bool} {callee : Value} (h1 : MethAt G name r₁ callee) (h2 : MethAt G name r₂ callee) : MethAt G name (fun led a => r₁ led a || r₂ led a) callee := by
  intro A c led s a ua pl Q R ha e q
  rw [Bool.or_eq_true] at e
  rcases e with e | e
  · exact h1 A c led s a ua pl Q R ha e q
  · exact h2 A c led s a ua pl Q R ha e q
def pnOr (p q : PN) : PN := fun led vs => match p led vs with
  | some r => some r
  | none => q led vs
theorem SPN.or {p q : PN} {t : List Value → Sem Value} (h1 : SPN G d p t) (h2 : SPN G d q t) : SPN G d (pnOr p q) t := by
  intro A c led s vs us v led' gA R hv e
  unfold pnOr at e
  split at e
  · rename_i r hr
    cases e
    exact h1 A c led s vs us v led' gA R hv hr
  · exact h2 A c led s vs us v led' gA R hv e
theorem SPN.new' {C fI : Addr} {g : FM} {e : Nat} (X : NewOk G C fI) (h : SF G e g fI) (k : e + 1 ≤ d) : SPN G d (pnNew C g) (fun us => PySem.call (.ref C) us) :=
  fun A c led s vs us v led' gA R hv q => SPN.new X h A c led s vs us v led' (gA.less k) R hv q
end Mine
end
-- part F23
section
namespace Mine
variable {G : Glo} {nm nm' : List Str} {sc scope : Scope} {d : Nat}

-- ## the defs of the text, read off the heap
def fdOf (K : Frag) (f : Addr) : Option FuncData := match K.lookup f with | some ⟨_, _, .func fd, _⟩ => some fd | _ => none
theorem fdOf_some {K : Frag} {f : Addr} {fd : FuncData} (h : fdOf K f = some fd) : ∃ o, K.lookup f = some o ∧ o.data = .func fd := by
  unfold fdOf at h
  split at h
  · rename_i e; cases h; exact ⟨_, e, rfl⟩
  · cases h
/-- how its arguments are bound -/
structure Fit (ps nm : List Str) (k : Nat) (sc : Scope) : Prop where
  pre : ps = nm.take ps.length
  len : nm.length = ps.length + k
  kind : (match sc.kind with | .function => true | _ => false) = true
  co : sc.isCoroutine = false
  gen : sc.isGenerator = false
  free : sc.names.all (fun x => match x.2 with | .free => false | _ => true) = true
  par : ps.all (fun x => knd sc x == 1 || knd sc x == 2) = true
  names : (sc.names.map (·.1)).Nodup
structure FnQ (K : Frag) (f : Addr) (sc : Scope) (body : List Stmt) : Prop where
  body : (fdOf K f).map (·.body) = some (.stmts body)
  scope : (fdOf K f).map (·.scope) = some sc
  clo : (fdOf K f).map (·.closure) = some []
  glo : (fdOf K f).map (·.globals) = some mainGlobals
  bui : (fdOf K f).map (·.builtins) = some builtinsNs
  code : (fdOf K f).any (fun fd => codeIn K fd.code fd.qualname) = true
/-- the binder, over all values -/
def BindQ (G : Glo) (f : Addr) (n : Nat) (kws ps : List Str) (extra : List AV) : Prop :=
  ∀ fd, fdOf G.K f = some fd → BindW G fd n kws ps extra
theorem BindQ.of {f : Addr} {n : Nat} {kws ps : List Str} {extra : List AV} {es : List Value} (he : ∀ c h, VRs c h extra es)
    (h : ∀ us S, us.length = n + kws.length → (fdOf G.K f).map (fun fd => peek G.K S (bindArgs fd ⟨us.take n, kws.zip (us.drop n)⟩)) = some (some (ps.zip (us ++ es)))) : BindQ G f n kws ps extra := by
  intro fd hfd A c led s us Q hl R hq
  have e := h us ⟨(model G.prog G.w).prog, (model G.prog G.w).w.params⟩ hl
  rw [hfd, Option.map_some] at e
  exact (Looks.of_peek (M := model G.prog G.w) (G.X.keeps R.keep) (Option.some.inj e)).here (hq es c s (.refl ..) R (he _ _))
theorem len1 {us : List Value} (h : us.length = 1) : ∃ a, us = [a] := match us, h with | [a], _ => ⟨a, rfl⟩
theorem len2 {us : List Value} (h : us.length = 2) : ∃ a b, us = [a, b] := match us, h with | [a, b], _ => ⟨a, b, rfl⟩
theorem len3 {us : List Value} (h : us.length = 3) : ∃ a b c, us = [a, b, c] := match us, h with | [a, b, c], _ => ⟨a, b, c, rfl⟩
theorem SFq.def {f : Addr} {n : Nat} {kws ps : List Str} {extra : List AV} {k : Nat} {body : List Stmt} {b : SM} (X : FnQ G.K f sc body) (B : BindQ G f n kws ps extra) (Y : Fit ps nm k sc) (hnd : nm.Nodup) (hb : SB G nm sc d b body) (m : Nat) (hm : m = n + kws.length) (hm' : ps.length = m + extra.length) :
    SFk G (d + 1) n kws (fun avs led => match Nat.beq avs.length m with | true => fnOfBody k b (avs ++ extra) led | false => none) f := by
  subst hm
  intro A c led s avs us v led' gA R hv e
  dsimp only at e
  split at e
  · rename_i hlen
    have hlen := Nat.eq_of_beq_eq_true hlen
    have hbody := X.body
    obtain ⟨fd, hfd, hbody⟩ := Option.map_eq_some_iff.mp hbody
    have get : ∀ {α : Type} {p : FuncData → α} {a : α}, (fdOf G.K f).map p = some a → p fd = a := fun h => by rw [hfd, Option.map_some] at h; exact Option.some.inj h
    have hsc := get X.scope
    have hcl := get X.clo
    have hgl := get X.glo
    have hbu := get X.bui
    have hcd := X.code
    rw [hfd] at hcd
    have hcd : codeIn G.K fd.code fd.qualname = true := hcd
    obtain ⟨o, ho, hdat⟩ := fdOf_some hfd
    have hus : us.length = n + kws.length := hv.length.trans hlen
    have ho' := R.keep _ _ (G.X _ _ ho)
    have hk : fd.scope.kind = .function := by
      have := Y.kind
      rw [← hsc] at this
      revert this; cases fd.scope.kind <;> simp
    subst hsc
    have hpar : ∀ x ∈ ps, fd.scope.names.lookup x = some .local ∨ fd.scope.names.lookup x = some .cell := fun x hx => by
      have := List.all_eq_true.mp Y.par x hx
      rw [Bool.or_eq_true, beq_iff_eq, beq_iff_eq] at this
      exact this.elim (fun q => .inl (knd_local q)) fun q => .inr (knd_cell q)
    have hfree : ∀ x ∈ fd.scope.names, x.2 ≠ .free := fun x hx q => by
      have := List.all_eq_true.mp Y.free x hx
      rw [q] at this; cases this
    refine codeAny_call_function (by have := gA.depth; omega) ho' hdat Y.co Y.gen hbody ((codeRec_of G.X hcd).keeps R.keep) ?_
    refine wpAny_mono (E := fun _ _ => False) (B fd hfd A.in1 c led s us (fun binds s₁ => wpAny (model G.prog G.w) A.in1 (newFunctionEnv fd.scope fd.globals fd.closure binds (fd.qualname ++ ".<locals>.") (some f) fd.code none fd.builtins)
        (fun env s₂ => s₂.heap.NoLimit ∧ codeAny (model G.prog G.w) A (.func body env) (fun r s' => match r with | .ok (.ret u) => RV G c s v led' u s' | _ => False) s₂) (fun _ _ => False) s₁) hus R ?_) (fun _ _ z => wpAny_mono z (fun _ _ z => ⟨z.1, codeAny_mono z.2 fun r s' q => by
          cases r with
          | error e => exact q
          | ok fl => cases fl <;> exact q⟩) fun _ _ z => z.elim) (fun _ _ z => z.elim)
    intro es c₁ s₁ st₁ R₁ hes
    have hall : VRs c₁ s₁.heap (avs ++ extra) (us ++ es) := (hv.kept (st₁.kept0 R)).append hes
    have hpl : (us ++ es).length = ps.length := by rw [hm', List.length_append, hus, hes.length]
    rw [hcl]
    refine wpAny_newFunctionEnv_cells hk ?_ fun env he s₂ x => ?_
    · intro p hp
      rcases hpar p.1 (List.of_mem_zip hp).1 with q | q
      · exact .inl q
      · exact .inr ⟨q, cellsFrom_some (.inr (lookup_mem q))⟩
    · subst he
      refine ⟨(G.T.nolimit.keeps R₁.keep).keeps x.toInCall.keep, codeAny_func ?_⟩
      obtain ⟨st, R₂, eo, F, dead⟩ := frame_ready (fd := fd) (f := f) (nm := nm) (k := k) R₁ hall hk Y.len Y.pre hnd hfree hpar Y.names hpl hgl hbu x
      unfold fnOfBody at e
      have deadS : ∀ a ∈ ownOf (callEnvC fd s₁.heap.objs.size f), s.heap.get? a = none := fun a ha => dead_of st₁ (dead a ha)
      refine wpAny_mono (E := fun _ _ => False) (Q := fun r s' => RV G c s v led' (retOf r) s') ?_ (fun r s' z => by cases r <;> exact z) (fun _ _ z => z.elim)
      split at e
      · rename_i v' loc' l' q
        cases e
        exact (hb _ _ c₁ _ led s₂ _ loc' _ (goodA_deeper gA) eo F R₂ q).mono fun r s' z => body_back (st₁.trans st) deadS z (.inl rfl) rfl
      · rename_i loc' l' q
        cases e
        exact (hb _ _ c₁ _ led s₂ _ loc' _ (goodA_deeper gA) eo F R₂ q).mono fun r s' z => body_back (st₁.trans st) deadS z (.inr ⟨rfl, rfl⟩) rfl
      · cases e
  · cases e
def defG (m k : Nat) (extra : List AV) (b : SM) : FM := fun avs led => match Nat.beq avs.length m with | true => fnOfBody k b (avs ++ extra) led | false => none
theorem SFq.plain {f : Addr} {n : Nat} {ps : List Str} {extra : List AV} {k : Nat} {body : List Stmt} {b : SM} (X : FnQ G.K f sc body) (B : BindQ G f n [] ps extra) (Y : Fit ps nm k sc) (hnd : nm.Nodup) (hb : SB G nm sc d b body) (hm' : ps.length = n + extra.length) : SF G (d + 1) (defG n k extra b) f :=
  (SFq.def X B Y hnd hb n rfl hm').sf fun avs led r h => by
    split at h
    · rename_i q; exact Nat.eq_of_beq_eq_true q
    · cases h

-- ## `hasattr` of a text
def pnHas : PN := fun led vs => match vs with
  | [.str _, .str n] => (match eqNs n [95, 95, 103, 101, 116, 105, 116, 101, 109, 95, 95] with | true => some (.bool true, led) | false => none)
  | _ => none
end Mine
end
-- part HS0
section
set_option maxHeartbeats 1000000
namespace Mine
theorem hs_entry : entryFor table "hasattr" = some Builtin.«hasattr» := entryFor_of_tree (by kernel_rfl)
theorem hs_item : typeLookup (.type "str") "__getitem__" = pure (some (.builtin "str.__getitem__")) := by rw [typeLookup_type, builtinLookup_eq_fast]; kernel_rfl
theorem hs_ty : typeOf (.builtin "str.__getitem__") = pure (.type "wrapper_descriptor") := by kernel_rfl
theorem hs_set : typeLookup (.type "wrapper_descriptor") "__set__" = pure none := by rw [typeLookup_type, builtinLookup_eq_fast]; kernel_rfl
theorem hs_del : typeLookup (.type "wrapper_descriptor") "__delete__" = pure none := by rw [typeLookup_type, builtinLookup_eq_fast]; kernel_rfl
theorem hs_get : PySem.Slot "wrapper_descriptor" "__get__" "wrapper_descriptor.__get__" :=
  .of (owner := "wrapper_descriptor") (n := "__get__") (by rw [typeLookup_type, builtinLookup_eq_fast]; kernel_rfl) (by decide +kernel) (by decide +kernel) (by decide +kernel)
    (by first | exact .inl (by decide +kernel) | exact .inr (by decide +kernel)) (by rw [isSubtype_type]; kernel_rfl)
theorem hs_entry_get : entryFor table "wrapper_descriptor.__get__" = some Builtin.«wrapper_descriptor.__get__» := entryFor_of_tree (by kernel_rfl)
theorem hs_args (a b c : Value) : argsOk "wrapper_descriptor.__get__" ⟨[a, b, c], []⟩ := by unfold argsOk; kernel_rfl
theorem hs_owner : (".".intercalate ("str.__getitem__".cutAt '.').dropLast) = "str" := by
  have e0 : "str.__getitem__".cutAt '.' = ["str", "__getitem__"] := by decide +kernel
  rw [e0]; decide +kernel
theorem hs_sub : isSubtype (.type "str") (.type (".".intercalate ("str.__getitem__".cutAt '.').dropLast)) = pure true := by
  rw [hs_owner, isSubtype_type]; kernel_rfl
section
variable {prog : Program} {w : World} {A : Around} {E : Value → Shared → Prop} {h : Heap} {g : Array GenState} {d : Drawn} {t : Nat} {os : OsState} {x : Str} {u : Tok}
theorem hs_bind {R : Result → Shared → Prop} (hq : ∀ o, R (.ok (.ret (.ref h.objs.size))) ⟨h.push o, g, d, t, os⟩) :
    codeAny (model prog w) A (.call (.builtin "wrapper_descriptor.__get__") ⟨[.builtin "str.__getitem__", .str x u, .type "str"], []⟩) R ⟨h, g, d, t, os⟩ := by
  have hT : (⟨h, g, d, t, os⟩ : Shared).TypeIs (.str x u) "str" := rfl
  have hT5 : (⟨h, g, d, t, os⟩ : Shared).TypeIs (.builtin "str.__getitem__") "wrapper_descriptor" := hs_ty
  have f8 := hs_sub
  refine codeAny_call_builtin hs_get.plain hs_entry_get (hs_get.check _ _ _ _ _ _ _ _ hT5 (hs_args _ _ _) ?_)
  repeat (any_goals (first | assumption | wp_step))
  exact hq _
theorem hs_ga {tk : Tok} {Q : Fin → Shared → Prop} (hq : ∀ o, Q (.done (.ret (.ref h.objs.size))) ⟨h.push o, g, d, t, os⟩) :
    wpAny (model prog w) A (Builtin.«object.__getattribute__» ⟨[.str x u, .str "__getitem__" tk], []⟩) Q E ⟨h, g, d, t, os⟩ := by
  have hT : (⟨h, g, d, t, os⟩ : Shared).TypeIs (.str x u) "str" := rfl
  have hT5 : (⟨h, g, d, t, os⟩ : Shared).TypeIs (.builtin "str.__getitem__") "wrapper_descriptor" := hs_ty
  have f4 := hs_item
  have f5 := hs_ty
  have f6 := hs_get.lookup
  have f7 := hs_set
  have f8 := hs_del
  repeat (any_goals (first | assumption | wp_step))
  refine hs_bind fun o => ?_
  repeat (any_goals (first | assumption | wp_step))
  exact hq _
theorem hs_call {tk : Tok} {R : Result → Shared → Prop} (hq : ∀ o, R (.ok (.ret (.ref h.objs.size))) ⟨h.push o, g, d, t, os⟩) :
    codeAny (model prog w) A (.call (.builtin "object.__getattribute__") ⟨[.str x u, .str "__getitem__" tk], []⟩) R ⟨h, g, d, t, os⟩ :=
  codeAny_call_builtin F.slot_str_getattribute.plain F.entry_object_getattribute (F.slot_str_getattribute.check _ _ _ _ _ _ _ _ (show (⟨h, g, d, t, os⟩ : Shared).TypeIs (.str x u) "str" from rfl) (F.args_object_getattribute_2 _ _) (hs_ga hq))
theorem hs_by {tk : Tok} {Q : Value → Shared → Prop} (hq : ∀ o, Q (.ref h.objs.size) ⟨h.push o, g, d, t, os⟩) : wpAny (model prog w) A (getAttrBy (.str x u) (.str "__getitem__" tk) false) Q E ⟨h, g, d, t, os⟩ := by
  have hT : (⟨h, g, d, t, os⟩ : Shared).TypeIs (.str x u) "str" := rfl
  have f2 := F.slot_str_getattribute.lookup
  have f3 := F.slot_str_getattribute.bind (.str x u)
  repeat (any_goals (first | assumption | wp_step))
  refine hs_call fun o => ?_
  repeat (any_goals (first | assumption | wp_step))
  exact hq _
theorem hs_has {tk : Tok} {Q : Fin → Shared → Prop} (hq : ∀ o, Q (.done (.ret (.bool true))) ⟨h.push o, g, d, t, os⟩) : wpAny (model prog w) A (Builtin.«hasattr» ⟨[.str x u, .str "__getitem__" tk], []⟩) Q E ⟨h, g, d, t, os⟩ := by
  have hT : (⟨h, g, d, t, os⟩ : Shared).TypeIs (.str x u) "str" := rfl
  have hT2 : (⟨h, g, d, t, os⟩ : Shared).TypeIs (.str "__getitem__" tk) "str" := rfl
  have f2 := F.slot_str_getattribute.lookup
  have f4 := hs_item
  unfold Builtin.«hasattr» getAttrBy?
  repeat (any_goals (first | assumption | (with_reducible apply hs_by; intro o; show wpAny _ _ (pure (some _)) _ _ _) | wp_step))
  exact hq _
end
end Mine
end
-- part HS1
section
set_option maxHeartbeats 1000000
namespace Mine
theorem hs_kind : builtinKind "hasattr" = none := by decide +kernel
theorem hs_plain : plainId "hasattr" = true := by decide +kernel
theorem hs_args2 (a b : Value) : argsOk "hasattr" ⟨[a, b], []⟩ := by unfold argsOk; kernel_rfl
theorem hs_true {prog : Program} {w : World} {A : Around} {s : Shared} {x n : Str} {u tk : Tok} {Q : Value → Shared → Prop} {E : Value → Shared → Prop} (hn : n = "__getitem__") (hq : ∀ o, Q (.bool true) { s with heap := s.heap.push o }) :
    wpAny (model prog w) A (PySem.call (.builtin "hasattr") [.str x u, .str n tk]) Q E s := by
  subst hn
  refine call_function_any hs_kind hs_plain hs_entry (hs_args2 _ _) ?_
  obtain ⟨h, g, d, t, os⟩ := s
  exact hs_has fun o => hq o
variable {G : Glo} {d : Nat}
theorem SPN.has : SPN G d pnHas (fun us => PySem.call (.builtin "hasattr") us) := by
  intro A c led s vs us v led' gA R hv e
  unfold pnHas at e
  split at e
  · obtain ⟨ua, ub, rfl, r1, r2⟩ := hv.two
    split at e
    · rename_i q
      cases e; cases r1; cases r2
      refine hs_true ?_ fun o => ⟨c, .pushJunk .., R.pushJunk o, .bool true⟩
      rw [eqNs_iff.mp q]; decide +kernel
    · cases e
  · cases e
end Mine
end
-- part F24
section
namespace Mine
variable {G : Glo} {nm nm' : List Str} {sc scope : Scope} {d : Nat}

theorem C.meth {rc : List AO → AV → Bool} {g : PN} {f : EM} {fs : List EM} {o : Expr} {name : Str} {apos pos : Pos} {es : List Expr} {callee : Value} (h : SE G nm sc d f o) (hm : MethAt G name rc callee) (hc : Callable G callee) (ha : SAs G nm sc d fs es)
    (hg : SPN G d g (fun us => PySem.call callee us))
    (he : ∀ env, eval (.Call (.Attribute o name apos) es [] pos) env = (do
      let ov ← eval o env
      standAt apos.atName
      let (f, first) ← holding [ov] (getMethod ov name (do return (← importBound o env).getD true))
      callWith pos f first (backTo pos (starEach es env)) [])) : SE G nm sc d (E.meth rc g f fs) (.Call (.Attribute o name apos) es [] pos) := SE.meth h hm hc ha hg (fun env => do return (← importBound o env).getD true) he
theorem C.methKw {rc : List AO → AV → Bool} {g : FM} {f a kv : EM} {o e₁ e₂ : Expr} {name kw : Str} {apos pos kp : Pos} {fa : Addr} (h : SE G nm sc d f o) (hm : MethAt G name rc (.ref fa)) (hkp : keepIn G.K (.ref fa) = true)
    (h1 : SE G nm sc d a e₁) (h2 : SE G nm sc d kv e₂) (hg : SFk G d 2 [kw] g fa) (hst : ∀ env, starEach [e₁] env = (false, eval e₁ env) :: starEach [] env)
    (he : ∀ env, eval (.Call (.Attribute o name apos) [e₁] [⟨some kw, e₂, kp⟩] pos) env = (do
      let ov ← eval o env
      standAt apos.atName
      let (f, first) ← holding [ov] (getMethod ov name (do return (← importBound o env).getD true))
      callWith pos f first (backTo pos (starEach [e₁] env)) (backToKw pos (keywordEach [⟨some kw, e₂, kp⟩] env)))) : SE G nm sc d (E.methKw rc g f a kv) (.Call (.Attribute o name apos) [e₁] [⟨some kw, e₂, kp⟩] pos) :=
  SE.methKw h hm hkp h1 h2 hg hst (fun env => do return (← importBound o env).getD true) he

theorem SP1.clsB {C : Nat} {attr : Str} {cs : List Nat} (hr : readsIn G.K C (.type "type") = true) (e : (findCls G.K (.ref C) (.type "type") attr).any (fun f => match f with | .val (.str x _) => x == ⟨cs.toArray⟩ | _ => false) = true) : SP1 G d (pCls C cs) (fun o => getAttr o attr true) := by
  cases q : findCls G.K (.ref C) (.type "type") attr with
  | none => rw [q] at e; cases e
  | some f =>
    rw [q] at e
    simp only [Option.any_some] at e
    split at e
    · rename_i x t
      rw [beq_iff_eq] at e
      subst e
      exact SP1.cls hr q
    · cases e

-- ## patterns, read off the heap
def patCode (K : Frag) (p : Addr) : Option (Array Nat) := match K.lookup p with
  | some ⟨c, none, .fields fs, _⟩ => (match c == .type "re.Pattern" && Builtin.Re.reRawNat (fs.getD 6 .none) == 0, fs.getD 5 .none with
    | true, .ref q => (match K.lookup q with | some ⟨_, _, .seq items _, _⟩ => some ((items.map Builtin.Re.reRawOf).map (·.toNat)) | _ => none)
    | _, _ => none)
  | _ => none
theorem patOk_of {p : Addr} {code : Array Nat} (e : patCode G.K p = some code) (X : CodeOk code) : PatOk G p := by
  unfold patCode at e
  split at e
  · rename_i c fs sl ho
    split at e
    · rename_i q h1 h2
      rw [Bool.and_eq_true, beq_iff_eq, beq_iff_eq] at h1
      split at e
      · rename_i c2 d2 items n sl2 ho2
        cases e
        exact ⟨_, fs, q, _, items, n, ho, h1.1, rfl, rfl, h1.2, h2, ho2, rfl, X⟩
      · cases e
    · cases e
  · cases e
def codeN : Array Nat := #[14, 10, 4, 1, 1, 22, 0, 31, 16, 127, 0, 13, 7, 22, 0, 31, 16, 127, 0, 1]
def codeV : Array Nat := #[14, 14, 4, 1, 1, 9, 4294966783, 0, 0, 2147483648, 0, 0, 0, 0, 0, 13, 11, 9, 4294966783, 0, 0, 2147483648, 0, 0, 0, 0, 0, 1]
theorem clean_lt {c : Nat} (h : cleanC c = true) : c < 127 := by
  unfold cleanC at h
  rw [Bool.and_eq_true] at h
  exact Nat.blt_eq.mp h.2
theorem codeN_ok : CodeOk codeN := ⟨by decide +kernel, by decide +kernel, by decide +kernel, fun c h => (by decide +kernel : ∀ c < 127, cleanC c = true → okOf (Sre.inSet codeN c codeN.size 5 true {}) = some false) c (clean_lt h) h⟩
theorem codeV_ok : CodeOk codeV := ⟨by decide +kernel, by decide +kernel, by decide +kernel, fun c h => (by decide +kernel : ∀ c < 127, cleanC c = true → okOf (Sre.inSet codeV c codeV.size 5 true {}) = some false) c (clean_lt h) h⟩

-- ## a binder that makes a dict for what is left over
def peekA {α : Type} (K : Frag) (S : Setting) : Sem α → Option (Obj × (Addr → Option α))
  | .rule _ k => peekA K S (k ())
  | .point _ k => peekA K S (k ())
  | .ask k => peekA K S (k S)
  | .load a _ k => (match K.lookup a with
      | some o => peekA K S (k o)
      | none => none)
  | .alloc o k => some (o, fun D => peek K S (k D))
  | _ => none
theorem wp_peekA {α : Type} {A : Around} {Q : α → Shared → Prop} {s : Shared} {o : Obj} {r : Addr → α} (X : G.K.In s.heap) (q : Q (r s.heap.objs.size) { s with heap := s.heap.push o }) :
    ∀ (t : Sem α) (g : Addr → Option α), peekA G.K ⟨G.prog, G.w.params⟩ t = some (o, g) → (∀ D, g D = some (r D)) → WP G A t Q s := by
  intro t
  induction t with
  | rule _ k ih => intro g e hg Γ p hΓ; exact ih () g e hg Γ p hΓ
  | point _ k ih => intro g e hg Γ p hΓ; exact ih () g e hg Γ p hΓ
  | ask k ih => intro g e hg Γ p hΓ; exact ih _ g e hg Γ p hΓ
  | load a _ k ih =>
    intro g e hg Γ p hΓ
    simp only [peekA] at e
    split at e
    · rename_i ob ho; exact ⟨ob, X _ _ ho, ih ob g e hg Γ p hΓ⟩
    · cases e
  | alloc ob k _ =>
    intro g e hg
    have e : some (ob, fun D => peek G.K ⟨G.prog, G.w.params⟩ (k D)) = some (o, g) := e
    obtain ⟨e1, e2⟩ := Prod.mk.inj (Option.some.inj e)
    subst e1
    subst e2
    have X' : G.K.In (s.heap.push ob) := X.keeps fun b x hb => Heap.get?_push_of_some _ hb
    show WP G A (alloc ob >>= k) Q s
    refine wpAny_bind (wpAny_alloc ?_)
    exact (Looks.of_peek (M := model G.prog G.w) (h := s.heap.push ob) X' (hg s.heap.objs.size)).here (s := { s with heap := s.heap.push ob }) q
  | _ => intro g e; cases e
theorem BindQ.ofDict {f : Addr} {n : Nat} {kws ps : List Str}
    (h1 : ∀ (us : List Value) (S : Setting), us.length = n + kws.length → (fdOf G.K f).map (fun fd => (peekA G.K S (bindArgs fd ⟨us.take n, kws.zip (us.drop n)⟩)).map (·.1)) = some (some { cls := .type "dict", data := .dict #[] }))
    (h2 : ∀ (us : List Value) (S : Setting) (D : Addr), us.length = n + kws.length → (fdOf G.K f).map (fun fd => (peekA G.K S (bindArgs fd ⟨us.take n, kws.zip (us.drop n)⟩)).bind (·.2 D)) = some (some (ps.zip (us ++ [.ref D])))) : BindQ G f n kws ps [.edict] := by
  intro fd hfd A c led s us Q hl R hq
  have e1 := h1 us ⟨G.prog, G.w.params⟩ hl
  have e2 := fun D => h2 us ⟨G.prog, G.w.params⟩ D hl
  rw [hfd, Option.map_some] at e1
  have e1 := Option.some.inj e1
  have e2 : ∀ D, (peekA G.K ⟨G.prog, G.w.params⟩ (bindArgs fd ⟨us.take n, kws.zip (us.drop n)⟩)).bind (·.2 D) = some (ps.zip (us ++ [.ref D])) := fun D => by
    have := e2 D
    rw [hfd, Option.map_some] at this
    exact Option.some.inj this
  cases q : peekA G.K ⟨G.prog, G.w.params⟩ (bindArgs fd ⟨us.take n, kws.zip (us.drop n)⟩) with
  | none => rw [q] at e1; cases e1
  | some og =>
    obtain ⟨o, g⟩ := og
    rw [q] at e1
    cases e1
    have hm : (s.heap.objs.size == sysModules) = false := by
      have := modules_low (G.T.nolimit.keeps R.keep)
      exact beq_eq_false_iff_ne.mpr (Nat.ne_of_gt this)
    have st := Step.pushFz (own := []) c s { cls := .type "dict", data := .dict #[] }
    exact wp_peekA (G.X.keeps R.keep) (hq [.ref s.heap.objs.size] _ _ st (R.pushFz _) (.cons (.edict hm (.inr rfl) (Heap.get?_push_size _ rfl)) .nil)) _ g q fun D => by
      have := e2 D
      rw [q] at this
      exact this

theorem star_Name {x : Str} {p : Pos} : ∀ env r, starEach (.Name x p :: r) env = (false, eval (.Name x p) env) :: starEach r env := fun _ _ => rfl
theorem star_Constant {x : Const} {k : Nat} {p : Pos} : ∀ env r, starEach (.Constant x k p :: r) env = (false, eval (.Constant x k p) env) :: starEach r env := fun _ _ => rfl
theorem star_BinOp {a b : Expr} {o : Operator} {p : Pos} : ∀ env r, starEach (.BinOp a o b p :: r) env = (false, eval (.BinOp a o b p) env) :: starEach r env := fun _ _ => rfl
theorem star_UnaryOp {a : Expr} {o : UnaryOp} {p : Pos} : ∀ env r, starEach (.UnaryOp o a p :: r) env = (false, eval (.UnaryOp o a p) env) :: starEach r env := fun _ _ => rfl
theorem star_Call {a : Expr} {es : List Expr} {ks : List Keyword} {p : Pos} : ∀ env r, starEach (.Call a es ks p :: r) env = (false, eval (.Call a es ks p) env) :: starEach r env := fun _ _ => rfl
theorem star_Subscript {a b : Expr} {p : Pos} : ∀ env r, starEach (.Subscript a b p :: r) env = (false, eval (.Subscript a b p) env) :: starEach r env := fun _ _ => rfl
theorem star_Attribute {a : Expr} {x : Str} {p : Pos} : ∀ env r, starEach (.Attribute a x p :: r) env = (false, eval (.Attribute a x p) env) :: starEach r env := fun _ _ => rfl
theorem star_List {es : List Expr} {p : Pos} : ∀ env r, starEach (.List es p :: r) env = (false, eval (.List es p) env) :: starEach r env := fun _ _ => rfl
theorem star_Tuple {es : List Expr} {k : Nat} {p : Pos} : ∀ env r, starEach (.Tuple es k p :: r) env = (false, eval (.Tuple es k p) env) :: starEach r env := fun _ _ => rfl
theorem star_ListComp {e : Expr} {gs : List Comprehension} {s : Scope} {p : Pos} : ∀ env r, starEach (.ListComp e gs s p :: r) env = (false, eval (.ListComp e gs s p) env) :: starEach r env := fun _ _ => rfl

def rcPat (led : List AO) (a : AV) : Bool := rcTop 163 led a || rcTop 168 led a
def pnPat : PN := pnOr (pnSearch 163) (pnSearch 168)
end Mine
end
-- part F25
section
set_option maxHeartbeats 4000000
namespace Mine
variable {G : Glo} {d : Nat}
def stAt (i : Nat) : Stmt := PySem.Challenge.pw_tl0051_01.main.body.getD i (.Pass ⟨0, 0, 0, 0⟩)
def fnBody : Stmt → List Stmt
  | .FunctionDef _ _ b .. => b
  | _ => []
def fnScope : Stmt → Scope
  | .FunctionDef _ _ _ _ _ _ s .. => s
  | _ => { kind := .module, names := [], isGenerator := false, isCoroutine := false, more := [] }
def subSt (s : Stmt) (j : Nat) : Stmt := match s with
  | .ClassDef _ _ _ b .. => b.getD j (.Pass ⟨0, 0, 0, 0⟩)
  | _ => .Pass ⟨0, 0, 0, 0⟩
theorem kg_Headers {P : Params} : nsIn (frag.heap_1 P) mainGlobals "Headers" = some (some (.ref 297)) := by kernel_rfl
theorem kg_Whitespace {P : Params} : nsIn (frag.heap_1 P) mainGlobals "Whitespace" = some (some (.ref 100)) := by kernel_rfl
theorem kg__law_boards {P : Params} : nsIn (frag.heap_1 P) mainGlobals "_law_boards" = some (some (.ref 375)) := by kernel_rfl
theorem kg__law_book {P : Params} : nsIn (frag.heap_1 P) mainGlobals "_law_book" = some (some (.ref 339)) := by kernel_rfl
theorem kg__law_due {P : Params} : nsIn (frag.heap_1 P) mainGlobals "_law_due" = some (some (.ref 349)) := by kernel_rfl
theorem kg__law_lead {P : Params} : nsIn (frag.heap_1 P) mainGlobals "_law_lead" = some (some (.ref 325)) := by kernel_rfl
theorem kg__law_placed {P : Params} : nsIn (frag.heap_1 P) mainGlobals "_law_placed" = some (some (.ref 356)) := by kernel_rfl
theorem kg__law_product {P : Params} : nsIn (frag.heap_1 P) mainGlobals "_law_product" = some (some (.ref 363)) := by kernel_rfl
theorem kg__law_runs {P : Params} : nsIn (frag.heap_1 P) mainGlobals "_law_runs" = some (some (.ref 320)) := by kernel_rfl
theorem kg__law_told {P : Params} : nsIn (frag.heap_1 P) mainGlobals "_law_told" = some (some (.ref 344)) := by kernel_rfl
theorem kg__law_ways {P : Params} : nsIn (frag.heap_1 P) mainGlobals "_law_ways" = some (some (.ref 370)) := by kernel_rfl
theorem kg__name_disallowed_re {P : Params} : nsIn (frag.heap_1 P) mainGlobals "_name_disallowed_re" = some (some (.ref 163)) := by kernel_rfl
theorem kg__value_disallowed_re {P : Params} : nsIn (frag.heap_1 P) mainGlobals "_value_disallowed_re" = some (some (.ref 168)) := by kernel_rfl
theorem kg_add {P : Params} : nsIn (frag.heap_1 P) mainGlobals "add" = some (some (.ref 111)) := by kernel_rfl
theorem kg_chr {P : Params} : nsIn (frag.heap_1 P) mainGlobals "chr" = some none := by kernel_rfl
theorem kg_concat {P : Params} : nsIn (frag.heap_1 P) mainGlobals "concat" = some (some (.ref 139)) := by kernel_rfl
theorem kg_contains {P : Params} : nsIn (frag.heap_1 P) mainGlobals "contains" = some (some (.ref 146)) := by kernel_rfl
theorem kg_floordiv {P : Params} : nsIn (frag.heap_1 P) mainGlobals "floordiv" = some (some (.ref 118)) := by kernel_rfl
theorem kg_hasattr {P : Params} : nsIn (frag.heap_1 P) mainGlobals "hasattr" = some none := by kernel_rfl
theorem kg_int {P : Params} : nsIn (frag.heap_1 P) mainGlobals "int" = some none := by kernel_rfl
theorem kg_ipow {P : Params} : nsIn (frag.heap_1 P) mainGlobals "ipow" = some (some (.ref 153)) := by kernel_rfl
theorem kg_isinstance {P : Params} : nsIn (frag.heap_1 P) mainGlobals "isinstance" = some none := by kernel_rfl
theorem kg_len {P : Params} : nsIn (frag.heap_1 P) mainGlobals "len" = some none := by kernel_rfl
theorem kg_list {P : Params} : nsIn (frag.heap_1 P) mainGlobals "list" = some none := by kernel_rfl
theorem kg_mul {P : Params} : nsIn (frag.heap_1 P) mainGlobals "mul" = some (some (.ref 125)) := by kernel_rfl
theorem kg_ord {P : Params} : nsIn (frag.heap_1 P) mainGlobals "ord" = some none := by kernel_rfl
theorem kg_range {P : Params} : nsIn (frag.heap_1 P) mainGlobals "range" = some none := by kernel_rfl
theorem kg_sorted {P : Params} : nsIn (frag.heap_1 P) mainGlobals "sorted" = some none := by kernel_rfl
theorem kg_str {P : Params} : nsIn (frag.heap_1 P) mainGlobals "str" = some none := by kernel_rfl
theorem kg_sub {P : Params} : nsIn (frag.heap_1 P) mainGlobals "sub" = some (some (.ref 132)) := by kernel_rfl
theorem kg_tuple {P : Params} : nsIn (frag.heap_1 P) mainGlobals "tuple" = some none := by kernel_rfl
theorem kg_type {P : Params} : nsIn (frag.heap_1 P) mainGlobals "type" = some none := by kernel_rfl
theorem kg_zip {P : Params} : nsIn (frag.heap_1 P) mainGlobals "zip" = some none := by kernel_rfl
theorem kf_equal {P : Params} : funcIn (frag.heap_1 P) 76 = true := by kernel_rfl
theorem kf_add {P : Params} : funcIn (frag.heap_1 P) 111 = true := by kernel_rfl
theorem kf_floordiv {P : Params} : funcIn (frag.heap_1 P) 118 = true := by kernel_rfl
theorem kf_mul {P : Params} : funcIn (frag.heap_1 P) 125 = true := by kernel_rfl
theorem kf_sub {P : Params} : funcIn (frag.heap_1 P) 132 = true := by kernel_rfl
theorem kf_concat {P : Params} : funcIn (frag.heap_1 P) 139 = true := by kernel_rfl
theorem kf_contains {P : Params} : funcIn (frag.heap_1 P) 146 = true := by kernel_rfl
theorem kf_ipow {P : Params} : funcIn (frag.heap_1 P) 153 = true := by kernel_rfl
theorem kf__convert_string_type {P : Params} : funcIn (frag.heap_1 P) 198 = true := by kernel_rfl
theorem kf_get_all {P : Params} : funcIn (frag.heap_1 P) 236 = true := by kernel_rfl
theorem kf_get {P : Params} : funcIn (frag.heap_1 P) 244 = true := by kernel_rfl
theorem kf_keys {P : Params} : funcIn (frag.heap_1 P) 249 = true := by kernel_rfl
theorem kf_setdefault {P : Params} : funcIn (frag.heap_1 P) 287 = true := by kernel_rfl
theorem kf_add_header {P : Params} : funcIn (frag.heap_1 P) 294 = true := by kernel_rfl
theorem kf__law_board {P : Params} : funcIn (frag.heap_1 P) 315 = true := by kernel_rfl
theorem kf__law_runs {P : Params} : funcIn (frag.heap_1 P) 320 = true := by kernel_rfl
theorem kf__law_lead {P : Params} : funcIn (frag.heap_1 P) 325 = true := by kernel_rfl
theorem kf__law_apart {P : Params} : funcIn (frag.heap_1 P) 332 = true := by kernel_rfl
theorem kf__law_book {P : Params} : funcIn (frag.heap_1 P) 339 = true := by kernel_rfl
theorem kf__law_told {P : Params} : funcIn (frag.heap_1 P) 344 = true := by kernel_rfl
theorem kf__law_due {P : Params} : funcIn (frag.heap_1 P) 349 = true := by kernel_rfl
theorem kf__law_placed {P : Params} : funcIn (frag.heap_1 P) 356 = true := by kernel_rfl
theorem kf__law_product {P : Params} : funcIn (frag.heap_1 P) 363 = true := by kernel_rfl
theorem kf__law_ways {P : Params} : funcIn (frag.heap_1 P) 370 = true := by kernel_rfl
theorem kf__law_boards {P : Params} : funcIn (frag.heap_1 P) 375 = true := by kernel_rfl
theorem kf__law_holds {P : Params} : funcIn (frag.heap_1 P) 382 = true := by kernel_rfl
theorem kk_convert {P : Params} : keepIn (frag.heap_1 P) (.ref 198) = true := by kernel_rfl
theorem attr_raw (HK : G.K = frag.heap_1 G.w.params) : AttrOk G 100 0 := ⟨by decide, by rw [HK]; kernel_rfl, by rw [HK]; kernel_rfl, none, by rw [HK]; kernel_rfl, by kernel_rfl⟩
theorem put_raw (HK : G.K = frag.heap_1 G.w.params) : PutOk G 100 0 := ⟨by decide, by rw [HK]; kernel_rfl, by rw [HK]; kernel_rfl, by rw [HK]; kernel_rfl, by rw [HK]; kernel_rfl⟩
theorem attr_n (HK : G.K = frag.heap_1 G.w.params) : AttrOk G 100 1 := ⟨by decide, by rw [HK]; kernel_rfl, by rw [HK]; kernel_rfl, none, by rw [HK]; kernel_rfl, by kernel_rfl⟩
theorem put_n (HK : G.K = frag.heap_1 G.w.params) : PutOk G 100 1 := ⟨by decide, by rw [HK]; kernel_rfl, by rw [HK]; kernel_rfl, by rw [HK]; kernel_rfl, by rw [HK]; kernel_rfl⟩
theorem attr_nt (HK : G.K = frag.heap_1 G.w.params) : AttrOk G 100 2 := ⟨by decide, by rw [HK]; kernel_rfl, by rw [HK]; kernel_rfl, none, by rw [HK]; kernel_rfl, by kernel_rfl⟩
theorem put_nt (HK : G.K = frag.heap_1 G.w.params) : PutOk G 100 2 := ⟨by decide, by rw [HK]; kernel_rfl, by rw [HK]; kernel_rfl, by rw [HK]; kernel_rfl, by rw [HK]; kernel_rfl⟩
theorem attr_norm (HK : G.K = frag.heap_1 G.w.params) : AttrOk G 100 3 := ⟨by decide, by rw [HK]; kernel_rfl, by rw [HK]; kernel_rfl, none, by rw [HK]; kernel_rfl, by kernel_rfl⟩
theorem put_norm (HK : G.K = frag.heap_1 G.w.params) : PutOk G 100 3 := ⟨by decide, by rw [HK]; kernel_rfl, by rw [HK]; kernel_rfl, by rw [HK]; kernel_rfl, by rw [HK]; kernel_rfl⟩
theorem attr_is_simple (HK : G.K = frag.heap_1 G.w.params) : AttrOk G 100 4 := ⟨by decide, by rw [HK]; kernel_rfl, by rw [HK]; kernel_rfl, none, by rw [HK]; kernel_rfl, by kernel_rfl⟩
theorem put_is_simple (HK : G.K = frag.heap_1 G.w.params) : PutOk G 100 4 := ⟨by decide, by rw [HK]; kernel_rfl, by rw [HK]; kernel_rfl, by rw [HK]; kernel_rfl, by rw [HK]; kernel_rfl⟩
theorem attr_headers (HK : G.K = frag.heap_1 G.w.params) : AttrOk G 297 5 := ⟨by decide, by rw [HK]; kernel_rfl, by rw [HK]; kernel_rfl, none, by rw [HK]; kernel_rfl, by kernel_rfl⟩
theorem put_headers (HK : G.K = frag.heap_1 G.w.params) : PutOk G 297 5 := ⟨by decide, by rw [HK]; kernel_rfl, by rw [HK]; kernel_rfl, by rw [HK]; kernel_rfl, by rw [HK]; kernel_rfl⟩
theorem meth_equal (HK : G.K = frag.heap_1 G.w.params) : MethAt G "equal" (rcInst 100) (.ref 76) := .inst (by rw [HK]; kernel_rfl) (by rw [HK]; kernel_rfl) (by rw [HK]; kernel_rfl) (by decide +kernel)
theorem meth_get_all (HK : G.K = frag.heap_1 G.w.params) : MethAt G "get_all" (rcInst 297) (.ref 236) := .inst (by rw [HK]; kernel_rfl) (by rw [HK]; kernel_rfl) (by rw [HK]; kernel_rfl) (by decide +kernel)
theorem meth_get (HK : G.K = frag.heap_1 G.w.params) : MethAt G "get" (rcInst 297) (.ref 244) := .inst (by rw [HK]; kernel_rfl) (by rw [HK]; kernel_rfl) (by rw [HK]; kernel_rfl) (by decide +kernel)
theorem meth_keys (HK : G.K = frag.heap_1 G.w.params) : MethAt G "keys" (rcInst 297) (.ref 249) := .inst (by rw [HK]; kernel_rfl) (by rw [HK]; kernel_rfl) (by rw [HK]; kernel_rfl) (by decide +kernel)
theorem meth_setdefault (HK : G.K = frag.heap_1 G.w.params) : MethAt G "setdefault" (rcInst 297) (.ref 287) := .inst (by rw [HK]; kernel_rfl) (by rw [HK]; kernel_rfl) (by rw [HK]; kernel_rfl) (by decide +kernel)
theorem meth_add_header (HK : G.K = frag.heap_1 G.w.params) : MethAt G "add_header" (rcInst 297) (.ref 294) := .inst (by rw [HK]; kernel_rfl) (by rw [HK]; kernel_rfl) (by rw [HK]; kernel_rfl) (by decide +kernel)
theorem meth_convert_string_type (HK : G.K = frag.heap_1 G.w.params) : MethAt G "_convert_string_type" (rcInst 297) (.ref 198) := .inst (by rw [HK]; kernel_rfl) (by rw [HK]; kernel_rfl) (by rw [HK]; kernel_rfl) (by decide +kernel)
theorem new_Whitespace (HK : G.K = frag.heap_1 G.w.params) : NewOk G 100 55 := ⟨by rw [HK]; kernel_rfl, by rw [HK]; kernel_rfl, by rw [HK]; kernel_rfl, by rw [HK]; kernel_rfl⟩
theorem new_Headers (HK : G.K = frag.heap_1 G.w.params) : NewOk G 297 191 := ⟨by rw [HK]; kernel_rfl, by rw [HK]; kernel_rfl, by rw [HK]; kernel_rfl, by rw [HK]; kernel_rfl⟩
theorem cls_S (HK : G.K = frag.heap_1 G.w.params) : SP1 G d (pCls 100 [32]) (fun o => getAttr o "S" true) := SP1.clsB (by rw [HK]; kernel_rfl) (by rw [HK]; kernel_rfl)
theorem cls_T (HK : G.K = frag.heap_1 G.w.params) : SP1 G d (pCls 100 [9]) (fun o => getAttr o "T" true) := SP1.clsB (by rw [HK]; kernel_rfl) (by rw [HK]; kernel_rfl)
theorem pat_n (HK : G.K = frag.heap_1 G.w.params) : PatOk G 163 := patOk_of (by rw [HK]; kernel_rfl) codeN_ok
theorem pat_v (HK : G.K = frag.heap_1 G.w.params) : PatOk G 168 := patOk_of (by rw [HK]; kernel_rfl) codeV_ok
theorem meth_search (HK : G.K = frag.heap_1 G.w.params) : MethAt G "search" rcPat (.builtin "re.Pattern.search") := MethAt.or (.search (pat_n HK)) (.search (pat_v HK))
theorem spn_search (HK : G.K = frag.heap_1 G.w.params) : SPN G d pnPat (fun us => PySem.call (.builtin "re.Pattern.search") us) := .or (.search (pat_n HK)) (.search (pat_v HK))
end Mine
end
-- part F26
section
set_option maxHeartbeats 4000000
namespace Mine
variable {G : Glo} {d : Nat}
namespace f_initW
def st : Stmt := subSt (stAt 3) 1
def nm : List Str := ["self", "ws", "S", "T", "count", "b", "n", "nt", "ch"]
theorem nd : nm.Nodup := by decide +kernel
def b : SM := (S.seq (S.put 100 0 (E.loc 1) (E.loc 0)) (S.seq (S.swap 2 3 (E.tup [(E.un (pCls 100 [32]) (E.const (.top 100))), (E.un (pCls 100 [9]) (E.const (.top 100)))])) (S.seq (S.asg 4 (E.list false [])) (S.seq (S.asg3 5 6 7 (E.const (.int 0 8))) (S.seq (S.for (E.iter (E.un (pAttr 100 0) (E.loc 0))) (.one 8) (S.ite (T.val (E.bin pEq (E.loc 8) (E.loc 2))) (S.seq (S.asg 6 (E.bin (pAdd false) (E.loc 6) (E.const (.int 1 8)))) (S.asg 5 (E.bin (pAdd false) (E.loc 5) (E.const (.int 1 8))))) (S.ite (T.val (E.bin pEq (E.loc 8) (E.loc 3))) (S.seq (S.asg 6 (E.bin (pAdd false) (E.loc 6) (E.const (.int 1 8)))) (S.seq (S.asg 7 (E.bin (pAdd false) (E.loc 7) (E.const (.int 1 8)))) (S.seq (S.ite (T.val (E.bin pGe (E.loc 5) (E.call pnLen [(E.loc 4)]))) (S.asg 4 (E.bin (pAdd true) (E.loc 4) (E.bin (pMul false) (E.list false [(E.const (.int 0 8))]) (E.bin (pAdd false) (E.bin pSub (E.loc 5) (E.call pnLen [(E.loc 4)])) (E.const (.int 1 8)))))) S.done) (S.seq (S.setItem (E.bin (pAdd false) (E.bin pItem (E.loc 4) (E.loc 5)) (E.const (.int 1 8))) (E.loc 4) (E.loc 5)) (S.asg 5 (E.const (.int 0 8))))))) S.brk))) (S.seq (S.put 100 1 (E.loc 6) (E.loc 0)) (S.seq (S.put 100 2 (E.loc 7) (E.loc 0)) (S.seq (S.put 100 3 (E.tup [(E.call pnTuple [(E.loc 4)]), (E.loc 5)]) (E.loc 0)) (S.put 100 4 (E.bin pLe (E.call pnLen [(E.loc 4)]) (E.const (.int 1 8))) (E.loc 0))))))))))
theorem sb (HK : G.K = frag.heap_1 G.w.params) : SB G nm (fnScope st) 0 b (fnBody st) :=
  (SB.cons (SS.put (put_raw HK) rfl (C.loc (by kernel_rfl)) (C.loc (by kernel_rfl)) (fun _ _ => rfl)) (SB.cons (SS.swap (SE.tup (.cons (SE.attr (C.glob (by kernel_rfl) (by rw [HK]; exact kg_Whitespace)) (cls_S HK) (fun _ => rfl)) star_Attribute (.cons (SE.attr (C.glob (by kernel_rfl) (by rw [HK]; exact kg_Whitespace)) (cls_T HK) (fun _ => rfl)) star_Attribute .nil))) (C.slot nd (by kernel_rfl)) (C.slot nd (by kernel_rfl)) (fun _ _ => rfl) (fun env eo => by obtain ⟨a, _, _, _⟩ := eo; cases env; cases a; kernel_rfl)) (SB.cons (SS.asg (SE.list .nil) (C.slot nd (by kernel_rfl)) (fun _ _ => rfl)) (SB.cons (SS.asg3 (C.int (by kernel_rfl)) (C.slot nd (by kernel_rfl)) (C.slot nd (by kernel_rfl)) (C.slot nd (by kernel_rfl)) (fun _ _ => rfl)) (SB.cons (SS.for (SI.of (SE.attr (C.loc (by kernel_rfl)) (SP1.attr (attr_raw HK)) (fun _ => rfl))) (TgtOk.one (C.slot nd (by kernel_rfl))) (SB.one (SS.ite (ST.cmp (C.loc (by kernel_rfl)) (C.loc (by kernel_rfl)) SP2.eq rfl) (SB.cons (SS.asg (SE.bin (C.loc (by kernel_rfl)) (C.int (by kernel_rfl)) SP2.add) (C.slot nd (by kernel_rfl)) (fun _ _ => rfl)) (SB.one (SS.asg (SE.bin (C.loc (by kernel_rfl)) (C.int (by kernel_rfl)) SP2.add) (C.slot nd (by kernel_rfl)) (fun _ _ => rfl)))) (SB.one (SS.ite (ST.cmp (C.loc (by kernel_rfl)) (C.loc (by kernel_rfl)) SP2.eq rfl) (SB.cons (SS.asg (SE.bin (C.loc (by kernel_rfl)) (C.int (by kernel_rfl)) SP2.add) (C.slot nd (by kernel_rfl)) (fun _ _ => rfl)) (SB.cons (SS.asg (SE.bin (C.loc (by kernel_rfl)) (C.int (by kernel_rfl)) SP2.add) (C.slot nd (by kernel_rfl)) (fun _ _ => rfl)) (SB.cons (SS.ite (ST.cmp (C.loc (by kernel_rfl)) (C.builtin (by kernel_rfl) (by rw [HK]; exact kg_len) (by kernel_rfl) (.cons (C.loc (by kernel_rfl)) star_Name .nil) SPN.len) SP2.ge rfl) (SB.one (SS.asg (SE.bin (C.loc (by kernel_rfl)) (SE.bin (SE.list (.cons (C.int (by kernel_rfl)) star_Constant .nil)) (SE.bin (SE.bin (C.loc (by kernel_rfl)) (C.builtin (by kernel_rfl) (by rw [HK]; exact kg_len) (by kernel_rfl) (.cons (C.loc (by kernel_rfl)) star_Name .nil) SPN.len) SP2.sub) (C.int (by kernel_rfl)) SP2.add) SP2.mul) SP2.add) (C.slot nd (by kernel_rfl)) (fun _ _ => rfl))) SB.nil) (SB.cons (SS.setItem (SE.bin (SE.item (C.loc (by kernel_rfl)) (C.loc (by kernel_rfl)) (SubOk.item (fun _ _ => rfl))) (C.int (by kernel_rfl)) SP2.add) (C.loc (by kernel_rfl)) (C.loc (by kernel_rfl)) (fun _ _ => rfl)) (SB.one (SS.asg (C.int (by kernel_rfl)) (C.slot nd (by kernel_rfl)) (fun _ _ => rfl))))))) (SB.one SS.brk))))) (fun _ _ => rfl)) (SB.cons (SS.put (put_n HK) rfl (C.loc (by kernel_rfl)) (C.loc (by kernel_rfl)) (fun _ _ => rfl)) (SB.cons (SS.put (put_nt HK) rfl (C.loc (by kernel_rfl)) (C.loc (by kernel_rfl)) (fun _ _ => rfl)) (SB.cons (SS.put (put_norm HK) rfl (SE.tup (.cons (C.type (by kernel_rfl) (by rw [HK]; exact kg_tuple) (by kernel_rfl) (.cons (C.loc (by kernel_rfl)) star_Name .nil) SPN.tuple) star_Call (.cons (C.loc (by kernel_rfl)) star_Name .nil))) (C.loc (by kernel_rfl)) (fun _ _ => rfl)) (SB.one (SS.put (put_is_simple HK) rfl (SE.cmp (C.builtin (by kernel_rfl) (by rw [HK]; exact kg_len) (by kernel_rfl) (.cons (C.loc (by kernel_rfl)) star_Name .nil) SPN.len) (C.int (by kernel_rfl)) SP2.le rfl) (C.loc (by kernel_rfl)) (fun _ _ => rfl)))))))))))
theorem fq {P : Params} : FnQ (frag.heap_1 P) 55 (fnScope st) (fnBody st) := ⟨by kernel_rfl, by kernel_rfl, by kernel_rfl, by kernel_rfl, by kernel_rfl, by kernel_rfl⟩
theorem fit : Fit ["self", "ws"] nm 7 (fnScope st) := ⟨by kernel_rfl, by kernel_rfl, by kernel_rfl, by kernel_rfl, by kernel_rfl, by kernel_rfl, by kernel_rfl, by decide +kernel⟩
theorem bq (HK : G.K = frag.heap_1 G.w.params) : BindQ G 55 2 [] ["self", "ws"] [] := by
  refine .of (es := []) (fun c h => .nil) fun us S hl => ?_
  obtain ⟨u0, u1, rfl⟩ := len2 hl
  rw [HK]; kernel_rfl
def g : FM := defG 2 7 [] b
theorem sf (HK : G.K = frag.heap_1 G.w.params) : SF G 1 g 55 := SFq.plain (by rw [HK]; exact fq) (bq HK) fit nd (sb HK) rfl
end f_initW
namespace f_equal
def st : Stmt := subSt (stAt 3) 4
def nm : List Str := ["self", "other"]
theorem nd : nm.Nodup := by decide +kernel
def b : SM := (S.ret (E.bin pEq (E.un (pAttr 100 3) (E.loc 0)) (E.un (pAttr 100 3) (E.loc 1))))
theorem sb (HK : G.K = frag.heap_1 G.w.params) : SB G nm (fnScope st) 0 b (fnBody st) :=
  (SB.one (SS.ret (SE.cmp (SE.attr (C.loc (by kernel_rfl)) (SP1.attr (attr_norm HK)) (fun _ => rfl)) (SE.attr (C.loc (by kernel_rfl)) (SP1.attr (attr_norm HK)) (fun _ => rfl)) SP2.eq rfl)))
theorem fq {P : Params} : FnQ (frag.heap_1 P) 76 (fnScope st) (fnBody st) := ⟨by kernel_rfl, by kernel_rfl, by kernel_rfl, by kernel_rfl, by kernel_rfl, by kernel_rfl⟩
theorem fit : Fit ["self", "other"] nm 0 (fnScope st) := ⟨by kernel_rfl, by kernel_rfl, by kernel_rfl, by kernel_rfl, by kernel_rfl, by kernel_rfl, by kernel_rfl, by decide +kernel⟩
theorem bq (HK : G.K = frag.heap_1 G.w.params) : BindQ G 76 2 [] ["self", "other"] [] := by
  refine .of (es := []) (fun c h => .nil) fun us S hl => ?_
  obtain ⟨u0, u1, rfl⟩ := len2 hl
  rw [HK]; kernel_rfl
def g : FM := defG 2 0 [] b
theorem sf (HK : G.K = frag.heap_1 G.w.params) : SF G 1 g 76 := SFq.plain (by rw [HK]; exact fq) (bq HK) fit nd (sb HK) rfl
end f_equal
namespace f_add
def st : Stmt := stAt 5
def nm : List Str := ["a", "b"]
theorem nd : nm.Nodup := by decide +kernel
def b : SM := (S.ret (E.bin (pAdd false) (E.loc 0) (E.loc 1)))
theorem sb (HK : G.K = frag.heap_1 G.w.params) : SB G nm (fnScope st) 0 b (fnBody st) :=
  (SB.one (SS.ret (SE.bin (C.loc (by kernel_rfl)) (C.loc (by kernel_rfl)) SP2.add)))
theorem fq {P : Params} : FnQ (frag.heap_1 P) 111 (fnScope st) (fnBody st) := ⟨by kernel_rfl, by kernel_rfl, by kernel_rfl, by kernel_rfl, by kernel_rfl, by kernel_rfl⟩
theorem fit : Fit ["a", "b"] nm 0 (fnScope st) := ⟨by kernel_rfl, by kernel_rfl, by kernel_rfl, by kernel_rfl, by kernel_rfl, by kernel_rfl, by kernel_rfl, by decide +kernel⟩
theorem bq (HK : G.K = frag.heap_1 G.w.params) : BindQ G 111 2 [] ["a", "b"] [] := by
  refine .of (es := []) (fun c h => .nil) fun us S hl => ?_
  obtain ⟨u0, u1, rfl⟩ := len2 hl
  rw [HK]; kernel_rfl
def g : FM := defG 2 0 [] b
theorem sf (HK : G.K = frag.heap_1 G.w.params) : SF G 1 g 111 := SFq.plain (by rw [HK]; exact fq) (bq HK) fit nd (sb HK) rfl
end f_add
namespace f_floordiv
def st : Stmt := stAt 6
def nm : List Str := ["a", "b"]
theorem nd : nm.Nodup := by decide +kernel
def b : SM := (S.ret (E.bin pDiv (E.loc 0) (E.loc 1)))
theorem sb (HK : G.K = frag.heap_1 G.w.params) : SB G nm (fnScope st) 0 b (fnBody st) :=
  (SB.one (SS.ret (SE.bin (C.loc (by kernel_rfl)) (C.loc (by kernel_rfl)) SP2.floordiv)))
theorem fq {P : Params} : FnQ (frag.heap_1 P) 118 (fnScope st) (fnBody st) := ⟨by kernel_rfl, by kernel_rfl, by kernel_rfl, by kernel_rfl, by kernel_rfl, by kernel_rfl⟩
theorem fit : Fit ["a", "b"] nm 0 (fnScope st) := ⟨by kernel_rfl, by kernel_rfl, by kernel_rfl, by kernel_rfl, by kernel_rfl, by kernel_rfl, by kernel_rfl, by decide +kernel⟩
theorem bq (HK : G.K = frag.heap_1 G.w.params) : BindQ G 118 2 [] ["a", "b"] [] := by
  refine .of (es := []) (fun c h => .nil) fun us S hl => ?_
  obtain ⟨u0, u1, rfl⟩ := len2 hl
  rw [HK]; kernel_rfl
def g : FM := defG 2 0 [] b
theorem sf (HK : G.K = frag.heap_1 G.w.params) : SF G 1 g 118 := SFq.plain (by rw [HK]; exact fq) (bq HK) fit nd (sb HK) rfl
end f_floordiv
namespace f_mul
def st : Stmt := stAt 7
def nm : List Str := ["a", "b"]
theorem nd : nm.Nodup := by decide +kernel
def b : SM := (S.ret (E.bin (pMul false) (E.loc 0) (E.loc 1)))
theorem sb (HK : G.K = frag.heap_1 G.w.params) : SB G nm (fnScope st) 0 b (fnBody st) :=
  (SB.one (SS.ret (SE.bin (C.loc (by kernel_rfl)) (C.loc (by kernel_rfl)) SP2.mul)))
theorem fq {P : Params} : FnQ (frag.heap_1 P) 125 (fnScope st) (fnBody st) := ⟨by kernel_rfl, by kernel_rfl, by kernel_rfl, by kernel_rfl, by kernel_rfl, by kernel_rfl⟩
theorem fit : Fit ["a", "b"] nm 0 (fnScope st) := ⟨by kernel_rfl, by kernel_rfl, by kernel_rfl, by kernel_rfl, by kernel_rfl, by kernel_rfl, by kernel_rfl, by decide +kernel⟩
theorem bq (HK : G.K = frag.heap_1 G.w.params) : BindQ G 125 2 [] ["a", "b"] [] := by
  refine .of (es := []) (fun c h => .nil) fun us S hl => ?_
  obtain ⟨u0, u1, rfl⟩ := len2 hl
  rw [HK]; kernel_rfl
def g : FM := defG 2 0 [] b
theorem sf (HK : G.K = frag.heap_1 G.w.params) : SF G 1 g 125 := SFq.plain (by rw [HK]; exact fq) (bq HK) fit nd (sb HK) rfl
end f_mul
namespace f_sub
def st : Stmt := stAt 8
def nm : List Str := ["a", "b"]
theorem nd : nm.Nodup := by decide +kernel
def b : SM := (S.ret (E.bin pSub (E.loc 0) (E.loc 1)))
theorem sb (HK : G.K = frag.heap_1 G.w.params) : SB G nm (fnScope st) 0 b (fnBody st) :=
  (SB.one (SS.ret (SE.bin (C.loc (by kernel_rfl)) (C.loc (by kernel_rfl)) SP2.sub)))
theorem fq {P : Params} : FnQ (frag.heap_1 P) 132 (fnScope st) (fnBody st) := ⟨by kernel_rfl, by kernel_rfl, by kernel_rfl, by kernel_rfl, by kernel_rfl, by kernel_rfl⟩
theorem fit : Fit ["a", "b"] nm 0 (fnScope st) := ⟨by kernel_rfl, by kernel_rfl, by kernel_rfl, by kernel_rfl, by kernel_rfl, by kernel_rfl, by kernel_rfl, by decide +kernel⟩
theorem bq (HK : G.K = frag.heap_1 G.w.params) : BindQ G 132 2 [] ["a", "b"] [] := by
  refine .of (es := []) (fun c h => .nil) fun us S hl => ?_
  obtain ⟨u0, u1, rfl⟩ := len2 hl
  rw [HK]; kernel_rfl
def g : FM := defG 2 0 [] b
theorem sf (HK : G.K = frag.heap_1 G.w.params) : SF G 1 g 132 := SFq.plain (by rw [HK]; exact fq) (bq HK) fit nd (sb HK) rfl
end f_sub
namespace f_concat
def st : Stmt := stAt 9
def nm : List Str := ["a", "b", "msg"]
theorem nd : nm.Nodup := by decide +kernel
def b : SM := (S.seq (S.ite (T.not (T.val (E.call pnHas [(E.loc 0), (E.const (.str [95, 95, 103, 101, 116, 105, 116, 101, 109, 95, 95]))]))) S.bad S.done) (S.ret (E.bin (pAdd false) (E.loc 0) (E.loc 1))))
theorem sb (HK : G.K = frag.heap_1 G.w.params) : SB G nm (fnScope st) 0 b (fnBody st) :=
  (SB.cons (SS.ite (ST.not (ST.val (C.builtin (by kernel_rfl) (by rw [HK]; exact kg_hasattr) (by kernel_rfl) (.cons (C.loc (by kernel_rfl)) star_Name (.cons (C.str (by kernel_rfl)) star_Constant .nil)) SPN.has) (fun _ _ => rfl))) SB.bad SB.nil) (SB.one (SS.ret (SE.bin (C.loc (by kernel_rfl)) (C.loc (by kernel_rfl)) SP2.add))))
theorem fq {P : Params} : FnQ (frag.heap_1 P) 139 (fnScope st) (fnBody st) := ⟨by kernel_rfl, by kernel_rfl, by kernel_rfl, by kernel_rfl, by kernel_rfl, by kernel_rfl⟩
theorem fit : Fit ["a", "b"] nm 1 (fnScope st) := ⟨by kernel_rfl, by kernel_rfl, by kernel_rfl, by kernel_rfl, by kernel_rfl, by kernel_rfl, by kernel_rfl, by decide +kernel⟩
theorem bq (HK : G.K = frag.heap_1 G.w.params) : BindQ G 139 2 [] ["a", "b"] [] := by
  refine .of (es := []) (fun c h => .nil) fun us S hl => ?_
  obtain ⟨u0, u1, rfl⟩ := len2 hl
  rw [HK]; kernel_rfl
def g : FM := defG 2 1 [] b
theorem sf (HK : G.K = frag.heap_1 G.w.params) : SF G 1 g 139 := SFq.plain (by rw [HK]; exact fq) (bq HK) fit nd (sb HK) rfl
end f_concat
namespace f_contains
def st : Stmt := stAt 10
def nm : List Str := ["a", "b"]
theorem nd : nm.Nodup := by decide +kernel
def b : SM := (S.ret (E.bin pIn (E.loc 1) (E.loc 0)))
theorem sb (HK : G.K = frag.heap_1 G.w.params) : SB G nm (fnScope st) 0 b (fnBody st) :=
  (SB.one (SS.ret (SE.cmp (C.loc (by kernel_rfl)) (C.loc (by kernel_rfl)) SP2.in rfl)))
theorem fq {P : Params} : FnQ (frag.heap_1 P) 146 (fnScope st) (fnBody st) := ⟨by kernel_rfl, by kernel_rfl, by kernel_rfl, by kernel_rfl, by kernel_rfl, by kernel_rfl⟩
theorem fit : Fit ["a", "b"] nm 0 (fnScope st) := ⟨by kernel_rfl, by kernel_rfl, by kernel_rfl, by kernel_rfl, by kernel_rfl, by kernel_rfl, by kernel_rfl, by decide +kernel⟩
theorem bq (HK : G.K = frag.heap_1 G.w.params) : BindQ G 146 2 [] ["a", "b"] [] := by
  refine .of (es := []) (fun c h => .nil) fun us S hl => ?_
  obtain ⟨u0, u1, rfl⟩ := len2 hl
  rw [HK]; kernel_rfl
def g : FM := defG 2 0 [] b
theorem sf (HK : G.K = frag.heap_1 G.w.params) : SF G 1 g 146 := SFq.plain (by rw [HK]; exact fq) (bq HK) fit nd (sb HK) rfl
end f_contains
namespace f_ipow
def st : Stmt := stAt 11
def nm : List Str := ["a", "b"]
theorem nd : nm.Nodup := by decide +kernel
def b : SM := (S.seq (S.aug 0 pPow (E.loc 1)) (S.ret (E.loc 0)))
theorem sb (HK : G.K = frag.heap_1 G.w.params) : SB G nm (fnScope st) 0 b (fnBody st) :=
  (SB.cons (SS.aug (C.loc (by kernel_rfl)) SP2.ipow (C.slot nd (by kernel_rfl))) (SB.one (SS.ret (C.loc (by kernel_rfl)))))
theorem fq {P : Params} : FnQ (frag.heap_1 P) 153 (fnScope st) (fnBody st) := ⟨by kernel_rfl, by kernel_rfl, by kernel_rfl, by kernel_rfl, by kernel_rfl, by kernel_rfl⟩
theorem fit : Fit ["a", "b"] nm 0 (fnScope st) := ⟨by kernel_rfl, by kernel_rfl, by kernel_rfl, by kernel_rfl, by kernel_rfl, by kernel_rfl, by kernel_rfl, by decide +kernel⟩
theorem bq (HK : G.K = frag.heap_1 G.w.params) : BindQ G 153 2 [] ["a", "b"] [] := by
  refine .of (es := []) (fun c h => .nil) fun us S hl => ?_
  obtain ⟨u0, u1, rfl⟩ := len2 hl
  rw [HK]; kernel_rfl
def g : FM := defG 2 0 [] b
theorem sf (HK : G.K = frag.heap_1 G.w.params) : SF G 1 g 153 := SFq.plain (by rw [HK]; exact fq) (bq HK) fit nd (sb HK) rfl
end f_ipow
namespace f_convert_string_type
def st : Stmt := subSt (stAt 17) 1
def nm : List Str := ["self", "value", "name", "regex"]
theorem nd : nm.Nodup := by decide +kernel
def b : SM := (S.seq (S.ite (T.val (E.bin pIs (E.call pnType [(E.loc 1)]) (E.const (.ty .str)))) (S.seq (S.asg 3 (E.ite (T.val (E.loc 2)) (E.const (.top 163)) (E.const (.top 168)))) (S.seq (S.ite (T.val (E.meth rcPat pnPat (E.loc 3) [(E.loc 1)])) S.bad S.done) (S.ret (E.loc 1)))) S.done) S.bad)
theorem sb (HK : G.K = frag.heap_1 G.w.params) : SB G nm (fnScope st) 0 b (fnBody st) :=
  (SB.cons (SS.ite (ST.cmp (C.type (by kernel_rfl) (by rw [HK]; exact kg_type) (by kernel_rfl) (.cons (C.loc (by kernel_rfl)) star_Name .nil) SPN.type) (C.ty (by kernel_rfl) (by rw [HK]; exact kg_str) (by kernel_rfl)) SP2.is rfl) (SB.cons (SS.asg (SE.ite (ST.val (C.loc (by kernel_rfl)) (fun _ _ => rfl)) (C.glob (by kernel_rfl) (by rw [HK]; exact kg__name_disallowed_re)) (C.glob (by kernel_rfl) (by rw [HK]; exact kg__value_disallowed_re))) (C.slot nd (by kernel_rfl)) (fun _ _ => rfl)) (SB.cons (SS.ite (ST.val (C.meth (C.loc (by kernel_rfl)) (meth_search HK) C.bi (.cons (C.loc (by kernel_rfl)) star_Name .nil) (spn_search HK) (fun _ => rfl)) (fun _ _ => rfl)) SB.bad SB.nil) (SB.one (SS.ret (C.loc (by kernel_rfl)))))) SB.nil) SB.bad)
theorem fq {P : Params} : FnQ (frag.heap_1 P) 198 (fnScope st) (fnBody st) := ⟨by kernel_rfl, by kernel_rfl, by kernel_rfl, by kernel_rfl, by kernel_rfl, by kernel_rfl⟩
theorem fit : Fit ["self", "value", "name"] nm 1 (fnScope st) := ⟨by kernel_rfl, by kernel_rfl, by kernel_rfl, by kernel_rfl, by kernel_rfl, by kernel_rfl, by kernel_rfl, by decide +kernel⟩
theorem bq (HK : G.K = frag.heap_1 G.w.params) : BindQ G 198 2 ["name"] ["self", "value", "name"] [] := by
  refine .of (es := []) (fun c h => .nil) fun us S hl => ?_
  obtain ⟨u0, u1, u2, rfl⟩ := len3 hl
  rw [HK]; kernel_rfl
def g : FM := defG 3 1 [] b
theorem sfk (HK : G.K = frag.heap_1 G.w.params) : SFk G 1 2 ["name"] g 198 := SFq.def (by rw [HK]; exact fq) (bq HK) fit nd (sb HK) 3 rfl rfl
end f_convert_string_type
namespace f_initH
def st : Stmt := subSt (stAt 17) 0
def nm : List Str := ["self", "headers", "k", "v"]
theorem nd : nm.Nodup := by decide +kernel
def b : SM := (S.seq (S.asg 1 (E.ite (T.val (E.bin pIsNot (E.loc 1) (E.const .none))) (E.loc 1) (E.list true []))) (S.seq (S.ite (T.val (E.bin pIsNot (E.call pnType [(E.loc 1)]) (E.const (.ty .list)))) S.bad S.done) (S.seq (S.put 297 5 (E.loc 1) (E.loc 0)) (S.ite (T.val (E.const (.bool true))) (S.for (E.iter (E.loc 1)) (.tup [2, 3]) S.bad) S.done))))
theorem sb (HK : G.K = frag.heap_1 G.w.params) : SB G nm (fnScope st) 0 b (fnBody st) :=
  (SB.cons (SS.asg (SE.ite (ST.cmp (C.loc (by kernel_rfl)) SE.nonec SP2.isNot rfl) (C.loc (by kernel_rfl)) (SE.list .nil)) (C.slot nd (by kernel_rfl)) (fun _ _ => rfl)) (SB.cons (SS.ite (ST.cmp (C.type (by kernel_rfl) (by rw [HK]; exact kg_type) (by kernel_rfl) (.cons (C.loc (by kernel_rfl)) star_Name .nil) SPN.type) (C.ty (by kernel_rfl) (by rw [HK]; exact kg_list) (by kernel_rfl)) SP2.isNot rfl) SB.bad SB.nil) (SB.cons (SS.put (put_headers HK) rfl (C.loc (by kernel_rfl)) (C.loc (by kernel_rfl)) (fun _ _ => rfl)) (SB.one (SS.ite (ST.val SE.boolc (fun _ _ => rfl)) (SB.one (SS.for (SI.of (C.loc (by kernel_rfl))) (TgtOk.tup (.cons (C.slot nd (by kernel_rfl)) (.cons (C.slot nd (by kernel_rfl)) .nil))) SB.bad (fun _ _ => rfl))) SB.nil)))))
theorem fq {P : Params} : FnQ (frag.heap_1 P) 191 (fnScope st) (fnBody st) := ⟨by kernel_rfl, by kernel_rfl, by kernel_rfl, by kernel_rfl, by kernel_rfl, by kernel_rfl⟩
theorem fit : Fit ["self", "headers"] nm 2 (fnScope st) := ⟨by kernel_rfl, by kernel_rfl, by kernel_rfl, by kernel_rfl, by kernel_rfl, by kernel_rfl, by kernel_rfl, by decide +kernel⟩
theorem bq (HK : G.K = frag.heap_1 G.w.params) : BindQ G 191 1 [] ["self", "headers"] [.none] := by
  refine .of (es := [Value.none]) (fun c h => .cons .none .nil) fun us S hl => ?_
  obtain ⟨u0, rfl⟩ := len1 hl
  rw [HK]; kernel_rfl
def g : FM := defG 1 2 [.none] b
theorem sf (HK : G.K = frag.heap_1 G.w.params) : SF G 1 g 191 := SFq.plain (by rw [HK]; exact fq) (bq HK) fit nd (sb HK) rfl
end f_initH
namespace f_get_all
def st : Stmt := subSt (stAt 17) 7
def nm : List Str := ["self", "name"]
theorem nd : nm.Nodup := by decide +kernel
def b : SM := (S.seq (S.asg 1 (E.methKw (rcInst 297) f_convert_string_type.g (E.loc 0) (E.meth rcStr pnLower (E.loc 1) []) (E.const (.bool true)))) (S.ret (E.comp (E.iter (E.un (pAttr 297 5) (E.loc 0))) [none, some 1] (.one 0) (actLast [(T.val (E.bin pEq (E.meth rcStr pnLower (E.bin pItem (E.loc 0) (E.const (.int 0 8))) []) (E.loc 1)))] (E.bin pItem (E.loc 0) (E.const (.int 1 8)))) false)))
theorem sb (HK : G.K = frag.heap_1 G.w.params) : SB G nm (fnScope st) 1 b (fnBody st) :=
  (SB.cons (SS.asg (C.methKw (C.loc (by kernel_rfl)) (meth_convert_string_type HK) (by rw [HK]; exact kk_convert) (C.meth (C.loc (by kernel_rfl)) MethAt.lower C.bi .nil SPN.lower (fun _ => rfl)) SE.boolc (SFk.up (f_convert_string_type.sfk HK) (by decide)) (fun env => star_Call env []) (fun _ => rfl)) (C.slot nd (by kernel_rfl)) (fun _ _ => rfl)) (SB.one (SS.ret (C.comp1 (nm' := ["kv", "name"]) (by kernel_rfl) (SI.of (SE.attr (C.loc (by kernel_rfl)) (SP1.attr (attr_headers HK)) (fun _ => rfl))) (TgtL.one (C.slotL (by decide +kernel) (by kernel_rfl))) (.cons (ST.cmp (C.meth (SE.item (C.loc (by kernel_rfl)) (C.int (by kernel_rfl)) (SubOk.item (fun _ _ => rfl))) MethAt.lower C.bi .nil SPN.lower (fun _ => rfl)) (C.loc (by kernel_rfl)) SP2.eq rfl) .nil) (SE.item (C.loc (by kernel_rfl)) (C.int (by kernel_rfl)) (SubOk.item (fun _ _ => rfl))) (fun _ _ => rfl)))))
theorem fq {P : Params} : FnQ (frag.heap_1 P) 236 (fnScope st) (fnBody st) := ⟨by kernel_rfl, by kernel_rfl, by kernel_rfl, by kernel_rfl, by kernel_rfl, by kernel_rfl⟩
theorem fit : Fit ["self", "name"] nm 0 (fnScope st) := ⟨by kernel_rfl, by kernel_rfl, by kernel_rfl, by kernel_rfl, by kernel_rfl, by kernel_rfl, by kernel_rfl, by decide +kernel⟩
theorem bq (HK : G.K = frag.heap_1 G.w.params) : BindQ G 236 2 [] ["self", "name"] [] := by
  refine .of (es := []) (fun c h => .nil) fun us S hl => ?_
  obtain ⟨u0, u1, rfl⟩ := len2 hl
  rw [HK]; kernel_rfl
def g : FM := defG 2 0 [] b
theorem sf (HK : G.K = frag.heap_1 G.w.params) : SF G 2 g 236 := SFq.plain (by rw [HK]; exact fq) (bq HK) fit nd (sb HK) rfl
end f_get_all
namespace f_get
def st : Stmt := subSt (stAt 17) 8
def nm : List Str := ["self", "name", "default", "k", "v"]
theorem nd : nm.Nodup := by decide +kernel
def b : SM := (S.seq (S.asg 1 (E.methKw (rcInst 297) f_convert_string_type.g (E.loc 0) (E.meth rcStr pnLower (E.loc 1) []) (E.const (.bool true)))) (S.seq (S.for (E.iter (E.un (pAttr 297 5) (E.loc 0))) (.tup [3, 4]) (S.ite (T.val (E.bin pEq (E.meth rcStr pnLower (E.loc 3) []) (E.loc 1))) (S.ret (E.loc 4)) S.done)) (S.ret (E.loc 2))))
theorem sb (HK : G.K = frag.heap_1 G.w.params) : SB G nm (fnScope st) 1 b (fnBody st) :=
  (SB.cons (SS.asg (C.methKw (C.loc (by kernel_rfl)) (meth_convert_string_type HK) (by rw [HK]; exact kk_convert) (C.meth (C.loc (by kernel_rfl)) MethAt.lower C.bi .nil SPN.lower (fun _ => rfl)) SE.boolc (SFk.up (f_convert_string_type.sfk HK) (by decide)) (fun env => star_Call env []) (fun _ => rfl)) (C.slot nd (by kernel_rfl)) (fun _ _ => rfl)) (SB.cons (SS.for (SI.of (SE.attr (C.loc (by kernel_rfl)) (SP1.attr (attr_headers HK)) (fun _ => rfl))) (TgtOk.tup (.cons (C.slot nd (by kernel_rfl)) (.cons (C.slot nd (by kernel_rfl)) .nil))) (SB.one (SS.ite (ST.cmp (C.meth (C.loc (by kernel_rfl)) MethAt.lower C.bi .nil SPN.lower (fun _ => rfl)) (C.loc (by kernel_rfl)) SP2.eq rfl) (SB.one (SS.ret (C.loc (by kernel_rfl)))) SB.nil)) (fun _ _ => rfl)) (SB.one (SS.ret (C.loc (by kernel_rfl))))))
theorem fq {P : Params} : FnQ (frag.heap_1 P) 244 (fnScope st) (fnBody st) := ⟨by kernel_rfl, by kernel_rfl, by kernel_rfl, by kernel_rfl, by kernel_rfl, by kernel_rfl⟩
theorem fit : Fit ["self", "name", "default"] nm 2 (fnScope st) := ⟨by kernel_rfl, by kernel_rfl, by kernel_rfl, by kernel_rfl, by kernel_rfl, by kernel_rfl, by kernel_rfl, by decide +kernel⟩
theorem bq (HK : G.K = frag.heap_1 G.w.params) : BindQ G 244 2 [] ["self", "name", "default"] [.none] := by
  refine .of (es := [Value.none]) (fun c h => .cons .none .nil) fun us S hl => ?_
  obtain ⟨u0, u1, rfl⟩ := len2 hl
  rw [HK]; kernel_rfl
def g : FM := defG 2 2 [.none] b
theorem sf (HK : G.K = frag.heap_1 G.w.params) : SF G 2 g 244 := SFq.plain (by rw [HK]; exact fq) (bq HK) fit nd (sb HK) rfl
end f_get
namespace f_keys
def st : Stmt := subSt (stAt 17) 9
def nm : List Str := ["self"]
theorem nd : nm.Nodup := by decide +kernel
def b : SM := (S.ret (E.comp (E.iter (E.un (pAttr 297 5) (E.loc 0))) [none, none] (.tup [0, 1]) (actLast [] (E.loc 0)) false))
theorem sb (HK : G.K = frag.heap_1 G.w.params) : SB G nm (fnScope st) 0 b (fnBody st) :=
  (SB.one (SS.ret (C.comp1 (nm' := ["k", "v"]) (by kernel_rfl) (SI.of (SE.attr (C.loc (by kernel_rfl)) (SP1.attr (attr_headers HK)) (fun _ => rfl))) (TgtL.tup (.cons (C.slotL (by decide +kernel) (by kernel_rfl)) (.cons (C.slotL (by decide +kernel) (by kernel_rfl)) .nil))) .nil (C.loc (by kernel_rfl)) (fun _ _ => rfl))))
theorem fq {P : Params} : FnQ (frag.heap_1 P) 249 (fnScope st) (fnBody st) := ⟨by kernel_rfl, by kernel_rfl, by kernel_rfl, by kernel_rfl, by kernel_rfl, by kernel_rfl⟩
theorem fit : Fit ["self"] nm 0 (fnScope st) := ⟨by kernel_rfl, by kernel_rfl, by kernel_rfl, by kernel_rfl, by kernel_rfl, by kernel_rfl, by kernel_rfl, by decide +kernel⟩
theorem bq (HK : G.K = frag.heap_1 G.w.params) : BindQ G 249 1 [] ["self"] [] := by
  refine .of (es := []) (fun c h => .nil) fun us S hl => ?_
  obtain ⟨u0, rfl⟩ := len1 hl
  rw [HK]; kernel_rfl
def g : FM := defG 1 0 [] b
theorem sf (HK : G.K = frag.heap_1 G.w.params) : SF G 1 g 249 := SFq.plain (by rw [HK]; exact fq) (bq HK) fit nd (sb HK) rfl
end f_keys
namespace f_setdefault
def st : Stmt := subSt (stAt 17) 15
def nm : List Str := ["self", "name", "value", "result"]
theorem nd : nm.Nodup := by decide +kernel
def b : SM := (S.seq (S.asg 3 (E.meth (rcInst 297) (fun led vs => f_get.g vs led) (E.loc 0) [(E.loc 1)])) (S.ite (T.val (E.bin pIs (E.loc 3) (E.const .none))) (S.seq (S.expr (E.meth rcList pnAppend (E.un (pAttr 297 5) (E.loc 0)) [(E.tup [(E.methKw (rcInst 297) f_convert_string_type.g (E.loc 0) (E.loc 1) (E.const (.bool true))), (E.methKw (rcInst 297) f_convert_string_type.g (E.loc 0) (E.loc 2) (E.const (.bool false)))])])) (S.ret (E.loc 2))) (S.ret (E.loc 3))))
theorem sb (HK : G.K = frag.heap_1 G.w.params) : SB G nm (fnScope st) 2 b (fnBody st) :=
  (SB.cons (SS.asg (C.meth (C.loc (by kernel_rfl)) (meth_get HK) (C.fn (by rw [HK]; exact kf_get)) (.cons (C.loc (by kernel_rfl)) star_Name .nil) (SF.call (SF.up (f_get.sf HK) (by decide))) (fun _ => rfl)) (C.slot nd (by kernel_rfl)) (fun _ _ => rfl)) (SB.one (SS.ite (ST.cmp (C.loc (by kernel_rfl)) SE.nonec SP2.is rfl) (SB.cons (SS.expr (C.meth (SE.attr (C.loc (by kernel_rfl)) (SP1.attr (attr_headers HK)) (fun _ => rfl)) MethAt.append C.bi (.cons (SE.tup (.cons (C.methKw (C.loc (by kernel_rfl)) (meth_convert_string_type HK) (by rw [HK]; exact kk_convert) (C.loc (by kernel_rfl)) SE.boolc (SFk.up (f_convert_string_type.sfk HK) (by decide)) (fun env => star_Name env []) (fun _ => rfl)) star_Call (.cons (C.methKw (C.loc (by kernel_rfl)) (meth_convert_string_type HK) (by rw [HK]; exact kk_convert) (C.loc (by kernel_rfl)) SE.boolc (SFk.up (f_convert_string_type.sfk HK) (by decide)) (fun env => star_Name env []) (fun _ => rfl)) star_Call .nil))) star_Tuple .nil) SPN.append (fun _ => rfl)) (fun _ eo => notInteractive eo) (fun _ => rfl)) (SB.one (SS.ret (C.loc (by kernel_rfl))))) (SB.one (SS.ret (C.loc (by kernel_rfl)))))))
theorem fq {P : Params} : FnQ (frag.heap_1 P) 287 (fnScope st) (fnBody st) := ⟨by kernel_rfl, by kernel_rfl, by kernel_rfl, by kernel_rfl, by kernel_rfl, by kernel_rfl⟩
theorem fit : Fit ["self", "name", "value"] nm 1 (fnScope st) := ⟨by kernel_rfl, by kernel_rfl, by kernel_rfl, by kernel_rfl, by kernel_rfl, by kernel_rfl, by kernel_rfl, by decide +kernel⟩
theorem bq (HK : G.K = frag.heap_1 G.w.params) : BindQ G 287 3 [] ["self", "name", "value"] [] := by
  refine .of (es := []) (fun c h => .nil) fun us S hl => ?_
  obtain ⟨u0, u1, u2, rfl⟩ := len3 hl
  rw [HK]; kernel_rfl
def g : FM := defG 3 1 [] b
theorem sf (HK : G.K = frag.heap_1 G.w.params) : SF G 3 g 287 := SFq.plain (by rw [HK]; exact fq) (bq HK) fit nd (sb HK) rfl
end f_setdefault
namespace f_add_header
def st : Stmt := subSt (stAt 17) 16
def nm : List Str := ["self", "_name", "_value", "_params", "parts", "k", "v"]
theorem nd : nm.Nodup := by decide +kernel
def b : SM := (S.seq (S.asg 4 (E.list true [])) (S.seq (S.ite (T.val (E.bin pIsNot (E.loc 2) (E.const .none))) (S.seq (S.asg 2 (E.methKw (rcInst 297) f_convert_string_type.g (E.loc 0) (E.loc 2) (E.const (.bool false)))) (S.expr (E.meth rcList pnAppend (E.loc 4) [(E.loc 2)]))) S.done) (S.seq (S.for (E.iter (E.meth rcEdict pnItems (E.loc 3) [])) (.tup [5, 6]) S.bad) (S.expr (E.meth rcList pnAppend (E.un (pAttr 297 5) (E.loc 0)) [(E.tup [(E.methKw (rcInst 297) f_convert_string_type.g (E.loc 0) (E.loc 1) (E.const (.bool true))), (E.meth rcStr pnJoin (E.const (.str [59, 32])) [(E.loc 4)])])])))))
theorem sb (HK : G.K = frag.heap_1 G.w.params) : SB G nm (fnScope st) 1 b (fnBody st) :=
  (SB.cons (SS.asg (SE.list .nil) (C.slot nd (by kernel_rfl)) (fun _ _ => rfl)) (SB.cons (SS.ite (ST.cmp (C.loc (by kernel_rfl)) SE.nonec SP2.isNot rfl) (SB.cons (SS.asg (C.methKw (C.loc (by kernel_rfl)) (meth_convert_string_type HK) (by rw [HK]; exact kk_convert) (C.loc (by kernel_rfl)) SE.boolc (SFk.up (f_convert_string_type.sfk HK) (by decide)) (fun env => star_Name env []) (fun _ => rfl)) (C.slot nd (by kernel_rfl)) (fun _ _ => rfl)) (SB.one (SS.expr (C.meth (C.loc (by kernel_rfl)) MethAt.append C.bi (.cons (C.loc (by kernel_rfl)) star_Name .nil) SPN.append (fun _ => rfl)) (fun _ eo => notInteractive eo) (fun _ => rfl)))) SB.nil) (SB.cons (SS.for (SI.of (C.meth (C.loc (by kernel_rfl)) MethAt.items C.bi .nil SPN.items (fun _ => rfl))) (TgtOk.tup (.cons (C.slot nd (by kernel_rfl)) (.cons (C.slot nd (by kernel_rfl)) .nil))) SB.bad (fun _ _ => rfl)) (SB.one (SS.expr (C.meth (SE.attr (C.loc (by kernel_rfl)) (SP1.attr (attr_headers HK)) (fun _ => rfl)) MethAt.append C.bi (.cons (SE.tup (.cons (C.methKw (C.loc (by kernel_rfl)) (meth_convert_string_type HK) (by rw [HK]; exact kk_convert) (C.loc (by kernel_rfl)) SE.boolc (SFk.up (f_convert_string_type.sfk HK) (by decide)) (fun env => star_Name env []) (fun _ => rfl)) star_Call (.cons (C.meth (C.str (by kernel_rfl)) MethAt.join C.bi (.cons (C.loc (by kernel_rfl)) star_Name .nil) SPN.join (fun _ => rfl)) star_Call .nil))) star_Tuple .nil) SPN.append (fun _ => rfl)) (fun _ eo => notInteractive eo) (fun _ => rfl))))))
theorem fq {P : Params} : FnQ (frag.heap_1 P) 294 (fnScope st) (fnBody st) := ⟨by kernel_rfl, by kernel_rfl, by kernel_rfl, by kernel_rfl, by kernel_rfl, by kernel_rfl⟩
theorem fit : Fit ["self", "_name", "_value", "_params"] nm 3 (fnScope st) := ⟨by kernel_rfl, by kernel_rfl, by kernel_rfl, by kernel_rfl, by kernel_rfl, by kernel_rfl, by kernel_rfl, by decide +kernel⟩
theorem bq (HK : G.K = frag.heap_1 G.w.params) : BindQ G 294 3 [] ["self", "_name", "_value", "_params"] [.edict] := by
  refine .ofDict (fun us S hl => ?_) fun us S D hl => ?_
  · obtain ⟨u0, u1, u2, rfl⟩ := len3 hl
    rw [HK]; kernel_rfl
  · obtain ⟨u0, u1, u2, rfl⟩ := len3 hl
    rw [HK]; kernel_rfl
def g : FM := defG 3 3 [.edict] b
theorem sf (HK : G.K = frag.heap_1 G.w.params) : SF G 2 g 294 := SFq.plain (by rw [HK]; exact fq) (bq HK) fit nd (sb HK) rfl
end f_add_header
namespace f_law_board
def st : Stmt := stAt 20
def nm : List Str := ["number"]
theorem nd : nm.Nodup := by decide +kernel
def b : SM := (S.ret (E.call pnSorted [(E.list false [(E.bin pMod (E.loc 0) (E.const (.int 4 8))), (E.bin pMod (E.bin pDiv (E.loc 0) (E.const (.int 4 8))) (E.const (.int 4 8))), (E.bin pMod (E.bin pDiv (E.loc 0) (E.const (.int 16 8))) (E.const (.int 4 8)))])]))
theorem sb (HK : G.K = frag.heap_1 G.w.params) : SB G nm (fnScope st) 0 b (fnBody st) :=
  (SB.one (SS.ret (C.builtin (by kernel_rfl) (by rw [HK]; exact kg_sorted) (by kernel_rfl) (.cons (SE.list (.cons (SE.bin (C.loc (by kernel_rfl)) (C.int (by kernel_rfl)) SP2.mod) star_BinOp (.cons (SE.bin (SE.bin (C.loc (by kernel_rfl)) (C.int (by kernel_rfl)) SP2.floordiv) (C.int (by kernel_rfl)) SP2.mod) star_BinOp (.cons (SE.bin (SE.bin (C.loc (by kernel_rfl)) (C.int (by kernel_rfl)) SP2.floordiv) (C.int (by kernel_rfl)) SP2.mod) star_BinOp .nil)))) star_List .nil) SPN.sorted)))
theorem fq {P : Params} : FnQ (frag.heap_1 P) 315 (fnScope st) (fnBody st) := ⟨by kernel_rfl, by kernel_rfl, by kernel_rfl, by kernel_rfl, by kernel_rfl, by kernel_rfl⟩
theorem fit : Fit ["number"] nm 0 (fnScope st) := ⟨by kernel_rfl, by kernel_rfl, by kernel_rfl, by kernel_rfl, by kernel_rfl, by kernel_rfl, by kernel_rfl, by decide +kernel⟩
theorem bq (HK : G.K = frag.heap_1 G.w.params) : BindQ G 315 1 [] ["number"] [] := by
  refine .of (es := []) (fun c h => .nil) fun us S hl => ?_
  obtain ⟨u0, rfl⟩ := len1 hl
  rw [HK]; kernel_rfl
def g : FM := defG 1 0 [] b
theorem sf (HK : G.K = frag.heap_1 G.w.params) : SF G 1 g 315 := SFq.plain (by rw [HK]; exact fq) (bq HK) fit nd (sb HK) rfl
end f_law_board
namespace f_law_runs
def st : Stmt := stAt 21
def nm : List Str := ["board"]
theorem nd : nm.Nodup := by decide +kernel
def b : SM := (S.ret (E.comp (E.iter (E.call pnRange [(E.const (.int 3 8))])) [none, some 0] (.one 0) (actLast [] (E.bin pSub (E.bin (pAdd false) (E.bin pItem (E.loc 1) (E.loc 0)) (E.const (.int 2 8))) (E.loc 0))) false))
theorem sb (HK : G.K = frag.heap_1 G.w.params) : SB G nm (fnScope st) 0 b (fnBody st) :=
  (SB.one (SS.ret (C.comp1 (nm' := ["place", "board"]) (by kernel_rfl) (SI.of (C.type (by kernel_rfl) (by rw [HK]; exact kg_range) (by kernel_rfl) (.cons (C.int (by kernel_rfl)) star_Constant .nil) SPN.range)) (TgtL.one (C.slotL (by decide +kernel) (by kernel_rfl))) .nil (SE.bin (SE.bin (SE.item (C.loc (by kernel_rfl)) (C.loc (by kernel_rfl)) (SubOk.item (fun _ _ => rfl))) (C.int (by kernel_rfl)) SP2.add) (C.loc (by kernel_rfl)) SP2.sub) (fun _ _ => rfl))))
theorem fq {P : Params} : FnQ (frag.heap_1 P) 320 (fnScope st) (fnBody st) := ⟨by kernel_rfl, by kernel_rfl, by kernel_rfl, by kernel_rfl, by kernel_rfl, by kernel_rfl⟩
theorem fit : Fit ["board"] nm 0 (fnScope st) := ⟨by kernel_rfl, by kernel_rfl, by kernel_rfl, by kernel_rfl, by kernel_rfl, by kernel_rfl, by kernel_rfl, by decide +kernel⟩
theorem bq (HK : G.K = frag.heap_1 G.w.params) : BindQ G 320 1 [] ["board"] [] := by
  refine .of (es := []) (fun c h => .nil) fun us S hl => ?_
  obtain ⟨u0, rfl⟩ := len1 hl
  rw [HK]; kernel_rfl
def g : FM := defG 1 0 [] b
theorem sf (HK : G.K = frag.heap_1 G.w.params) : SF G 1 g 320 := SFq.plain (by rw [HK]; exact fq) (bq HK) fit nd (sb HK) rfl
end f_law_runs
end Mine
end
-- part F27
section
set_option maxHeartbeats 4000000
namespace Mine
variable {G : Glo} {d : Nat}
namespace f_law_lead
def st : Stmt := stAt 22
def nm : List Str := ["runs", "behind"]
theorem nd : nm.Nodup := by decide +kernel
def b : SM := (S.ret (E.call (pnNew 100 f_initW.g) [(E.bin (pAdd false) (E.bin (pAdd false) (E.meth rcStr pnJoin (E.const (.str [])) [(E.comp (E.iter (E.loc 0)) [none] (.one 0) (actLast [] (E.bin (pAdd false) (E.bin (pMul false) (E.const (.str [32])) (E.loc 0)) (E.const (.str [9])))) false)]) (E.bin (pMul false) (E.const (.str [32])) (E.loc 1))) (E.const (.str [120, 32, 9])))]))
theorem sb (HK : G.K = frag.heap_1 G.w.params) : SB G nm (fnScope st) 2 b (fnBody st) :=
  (SB.one (SS.ret (C.new (by kernel_rfl) (by rw [HK]; exact kg_Whitespace) (new_Whitespace HK) (.cons (SE.bin (SE.bin (C.meth (C.str (by kernel_rfl)) MethAt.join C.bi (.cons (C.comp1 (nm' := ["run"]) (by kernel_rfl) (SI.of (C.loc (by kernel_rfl))) (TgtL.one (C.slotL (by decide +kernel) (by kernel_rfl))) .nil (SE.bin (SE.bin (C.str (by kernel_rfl)) (C.loc (by kernel_rfl)) SP2.mul) (C.str (by kernel_rfl)) SP2.add) (fun _ _ => rfl)) star_ListComp .nil) SPN.join (fun _ => rfl)) (SE.bin (C.str (by kernel_rfl)) (C.loc (by kernel_rfl)) SP2.mul) SP2.add) (C.str (by kernel_rfl)) SP2.add) star_BinOp .nil) (SPN.new' (new_Whitespace HK) (f_initW.sf HK) (by decide)))))
theorem fq {P : Params} : FnQ (frag.heap_1 P) 325 (fnScope st) (fnBody st) := ⟨by kernel_rfl, by kernel_rfl, by kernel_rfl, by kernel_rfl, by kernel_rfl, by kernel_rfl⟩
theorem fit : Fit ["runs", "behind"] nm 0 (fnScope st) := ⟨by kernel_rfl, by kernel_rfl, by kernel_rfl, by kernel_rfl, by kernel_rfl, by kernel_rfl, by kernel_rfl, by decide +kernel⟩
theorem bq (HK : G.K = frag.heap_1 G.w.params) : BindQ G 325 2 [] ["runs", "behind"] [] := by
  refine .of (es := []) (fun c h => .nil) fun us S hl => ?_
  obtain ⟨u0, u1, rfl⟩ := len2 hl
  rw [HK]; kernel_rfl
def g : FM := defG 2 0 [] b
theorem sf (HK : G.K = frag.heap_1 G.w.params) : SF G 3 g 325 := SFq.plain (by rw [HK]; exact fq) (bq HK) fit nd (sb HK) rfl
end f_law_lead
end Mine
end
-- part F28
section
set_option maxHeartbeats 4000000
namespace Mine
variable {G : Glo} {d : Nat}
namespace f_law_book
def st : Stmt := stAt 24
def nm : List Str := ["board", "book", "column", "rooks", "text", "row"]
theorem nd : nm.Nodup := by decide +kernel
def b : SM := (S.seq (S.asg 1 (E.call (pnNew 297 f_initH.g) [])) (S.seq (S.ite (T.val (E.bin pIsNot (E.meth (rcInst 297) (fun led vs => f_add_header.g vs led) (E.loc 1) [(E.const (.str [97])), (E.const (.str []))]) (E.const .none))) (S.ret (E.call (pnNew 297 f_initH.g) [])) S.done) (S.seq (S.for (E.iter (E.call pnRange [(E.const (.int 3 8))])) (.one 2) (S.for (E.iter (E.call pnRange [(E.loc 2), (E.un pNeg (E.const (.int 1 8))), (E.un pNeg (E.const (.int 1 8)))])) (.one 3) (S.for (E.iter (E.meth (rcInst 297) (fun led vs => f_get_all.g vs led) (E.loc 1) [(E.call pnChr [(E.bin (pAdd false) (E.const (.int 97 8)) (E.loc 3))])])) (.one 4) (S.for (E.iter (E.bin (pFrom false) (E.const (.str [122, 121, 120])) (E.bin pSub (E.const (.int 3 8)) (E.bin pItem (E.loc 0) (E.loc 2))))) (.one 5) (S.ite (T.val (E.bin pIs (E.call (closedCall f_contains.g) [(E.loc 4), (E.loc 5)]) (E.const (.bool false)))) (S.expr (E.meth (rcInst 297) (fun led vs => f_add_header.g vs led) (E.loc 1) [(E.call pnChr [(E.bin (pAdd false) (E.const (.int 66 8)) (E.loc 3))]), (E.call (closedCall f_concat.g) [(E.loc 4), (E.bin (pAdd false) (E.call pnStr [(E.loc 2)]) (E.loc 5))])])) S.done))))) (S.ret (E.loc 1)))))
theorem sb (HK : G.K = frag.heap_1 G.w.params) : SB G nm (fnScope st) 2 b (fnBody st) :=
  (SB.cons (SS.asg (C.new (by kernel_rfl) (by rw [HK]; exact kg_Headers) (new_Headers HK) .nil (SPN.new' (new_Headers HK) (f_initH.sf HK) (by decide))) (C.slot nd (by kernel_rfl)) (fun _ _ => rfl)) (SB.cons (SS.ite (ST.cmp (C.meth (C.loc (by kernel_rfl)) (meth_add_header HK) (C.fn (by rw [HK]; exact kf_add_header)) (.cons (C.str (by kernel_rfl)) star_Constant (.cons (C.str (by kernel_rfl)) star_Constant .nil)) (SF.call (SF.up (f_add_header.sf HK) (by decide))) (fun _ => rfl)) SE.nonec SP2.isNot rfl) (SB.one (SS.ret (C.new (by kernel_rfl) (by rw [HK]; exact kg_Headers) (new_Headers HK) .nil (SPN.new' (new_Headers HK) (f_initH.sf HK) (by decide))))) SB.nil) (SB.cons (SS.for (SI.of (C.type (by kernel_rfl) (by rw [HK]; exact kg_range) (by kernel_rfl) (.cons (C.int (by kernel_rfl)) star_Constant .nil) SPN.range)) (TgtOk.one (C.slot nd (by kernel_rfl))) (SB.one (SS.for (SI.of (C.type (by kernel_rfl) (by rw [HK]; exact kg_range) (by kernel_rfl) (.cons (C.loc (by kernel_rfl)) star_Name (.cons (SE.unary (C.int (by kernel_rfl)) SP1.neg) star_UnaryOp (.cons (SE.unary (C.int (by kernel_rfl)) SP1.neg) star_UnaryOp .nil))) SPN.range)) (TgtOk.one (C.slot nd (by kernel_rfl))) (SB.one (SS.for (SI.of (C.meth (C.loc (by kernel_rfl)) (meth_get_all HK) (C.fn (by rw [HK]; exact kf_get_all)) (.cons (C.builtin (by kernel_rfl) (by rw [HK]; exact kg_chr) (by kernel_rfl) (.cons (SE.bin (C.int (by kernel_rfl)) (C.loc (by kernel_rfl)) SP2.add) star_BinOp .nil) SPN.chr) star_Call .nil) (SF.call (SF.up (f_get_all.sf HK) (by decide))) (fun _ => rfl))) (TgtOk.one (C.slot nd (by kernel_rfl))) (SB.one (SS.for (SI.of (SE.from (C.str (by kernel_rfl)) (SE.bin (C.int (by kernel_rfl)) (SE.item (C.loc (by kernel_rfl)) (C.loc (by kernel_rfl)) (SubOk.item (fun _ _ => rfl))) SP2.sub))) (TgtOk.one (C.slot nd (by kernel_rfl))) (SB.one (SS.ite (ST.cmp (C.defd (by kernel_rfl) (by rw [HK]; exact kg_contains) (by rw [HK]; exact kf_contains) (.cons (C.loc (by kernel_rfl)) star_Name (.cons (C.loc (by kernel_rfl)) star_Name .nil)) (SPN.closed (SF.call (SF.up (f_contains.sf HK) (by decide))))) SE.boolc SP2.is rfl) (SB.one (SS.expr (C.meth (C.loc (by kernel_rfl)) (meth_add_header HK) (C.fn (by rw [HK]; exact kf_add_header)) (.cons (C.builtin (by kernel_rfl) (by rw [HK]; exact kg_chr) (by kernel_rfl) (.cons (SE.bin (C.int (by kernel_rfl)) (C.loc (by kernel_rfl)) SP2.add) star_BinOp .nil) SPN.chr) star_Call (.cons (C.defd (by kernel_rfl) (by rw [HK]; exact kg_concat) (by rw [HK]; exact kf_concat) (.cons (C.loc (by kernel_rfl)) star_Name (.cons (SE.bin (C.type (by kernel_rfl) (by rw [HK]; exact kg_str) (by kernel_rfl) (.cons (C.loc (by kernel_rfl)) star_Name .nil) SPN.str) (C.loc (by kernel_rfl)) SP2.add) star_BinOp .nil)) (SPN.closed (SF.call (SF.up (f_concat.sf HK) (by decide))))) star_Call .nil)) (SF.call (SF.up (f_add_header.sf HK) (by decide))) (fun _ => rfl)) (fun _ eo => notInteractive eo) (fun _ => rfl))) SB.nil)) (fun _ _ => rfl))) (fun _ _ => rfl))) (fun _ _ => rfl))) (fun _ _ => rfl)) (SB.one (SS.ret (C.loc (by kernel_rfl)))))))
theorem fq {P : Params} : FnQ (frag.heap_1 P) 339 (fnScope st) (fnBody st) := ⟨by kernel_rfl, by kernel_rfl, by kernel_rfl, by kernel_rfl, by kernel_rfl, by kernel_rfl⟩
theorem fit : Fit ["board"] nm 5 (fnScope st) := ⟨by kernel_rfl, by kernel_rfl, by kernel_rfl, by kernel_rfl, by kernel_rfl, by kernel_rfl, by kernel_rfl, by decide +kernel⟩
theorem bq (HK : G.K = frag.heap_1 G.w.params) : BindQ G 339 1 [] ["board"] [] := by
  refine .of (es := []) (fun c h => .nil) fun us S hl => ?_
  obtain ⟨u0, rfl⟩ := len1 hl
  rw [HK]; kernel_rfl
def g : FM := defG 1 5 [] b
theorem sf (HK : G.K = frag.heap_1 G.w.params) : SF G 3 g 339 := SFq.plain (by rw [HK]; exact fq) (bq HK) fit nd (sb HK) rfl
end f_law_book
end Mine
end
-- part F29
section
set_option maxHeartbeats 4000000
namespace Mine
variable {G : Glo} {d : Nat}
namespace f_law_told
def st : Stmt := stAt 25
def nm : List Str := ["board", "book", "numbers", "rooks", "last", "text", "columns", "rows", "key", "figure"]
theorem nd : nm.Nodup := by decide +kernel
def b : SM := (S.seq (S.asg 1 (E.call (closedCall f_law_book.g) [(E.loc 0)])) (S.seq (S.asg 2 (E.list true [(E.const (.int 0 8)), (E.const (.int 0 8)), (E.const (.int 0 8)), (E.const (.int 0 8))])) (S.seq (S.for (E.iter (E.call pnRange [(E.const (.int 4 8))])) (.one 3) (S.seq (S.asg 4 (E.un pNeg (E.const (.int 1 8)))) (S.for (E.iter (E.meth (rcInst 297) (fun led vs => f_get_all.g vs led) (E.loc 1) [(E.call pnChr [(E.bin (pAdd false) (E.const (.int 65 8)) (E.loc 3))])])) (.one 5) (S.seq (S.ite (T.val (E.bin pNe (E.call pnLen [(E.loc 5)]) (E.bin (pMul false) (E.const (.int 2 8)) (E.loc 3)))) (S.ret (E.list false [])) S.done) (S.seq (S.asg 6 (E.comp (E.iter (E.call pnRange [(E.loc 3)])) [none, some 5] (.one 0) (actLast [] (E.bin pSub (E.call pnOrd [(E.bin pItem (E.loc 1) (E.bin (pMul false) (E.const (.int 2 8)) (E.loc 0)))]) (E.const (.int 48 8)))) false)) (S.seq (S.asg 7 (E.comp (E.iter (E.call pnRange [(E.loc 3)])) [none, some 5] (.one 0) (actLast [] (E.bin pSub (E.const (.int 122 8)) (E.call pnOrd [(E.bin pItem (E.loc 1) (E.bin (pAdd false) (E.bin (pMul false) (E.const (.int 2 8)) (E.loc 0)) (E.const (.int 1 8))))]))) false)) (S.seq (S.ite (T.val (E.bin pNe (E.comp (E.iter (E.call pnRange [(E.const (.int 1 8)), (E.loc 3)])) [none, some 6, some 7] (.one 0) (actLast [(T.or (T.val (E.bin pLe (E.bin pItem (E.loc 1) (E.loc 0)) (E.bin pItem (E.loc 1) (E.bin pSub (E.loc 0) (E.const (.int 1 8)))))) (T.val (E.bin pIn (E.bin pItem (E.loc 2) (E.loc 0)) (E.bin (pTo false) (E.loc 2) (E.loc 0)))))] (E.loc 0)) false) (E.list false []))) (S.ret (E.list false [])) S.done) (S.seq (S.asg 8 (E.const (.int 0 8))) (S.seq (S.for (E.iter (E.bin (pAdd false) (E.comp (E.iter (E.call pnRange [(E.loc 3)])) [none, some 6, some 3] (.one 0) (actLast [] (E.bin pItem (E.loc 1) (E.bin pSub (E.bin pSub (E.loc 2) (E.const (.int 1 8))) (E.loc 0)))) false) (E.loc 7))) (.one 9) (S.asg 8 (E.bin (pAdd false) (E.bin (pMul false) (E.const (.int 4 8)) (E.loc 8)) (E.loc 9)))) (S.seq (S.ite (T.val (E.bin pLe (E.loc 8) (E.loc 4))) (S.ret (E.list false [])) S.done) (S.seq (S.asg 4 (E.loc 8)) (S.augItem (pInt (· + ·) (fun n m => bmax n m + 1) fun _ _ _ _ => true) (E.loc 2) (E.loc 3) (E.const (.int 1 8)))))))))))))) (S.ret (E.loc 2)))))
theorem sb (HK : G.K = frag.heap_1 G.w.params) : SB G nm (fnScope st) 3 b (fnBody st) :=
  (SB.cons (SS.asg (C.defd (by kernel_rfl) (by rw [HK]; exact kg__law_book) (by rw [HK]; exact kf__law_book) (.cons (C.loc (by kernel_rfl)) star_Name .nil) (SPN.closed (SF.call (SF.up (f_law_book.sf HK) (by decide))))) (C.slot nd (by kernel_rfl)) (fun _ _ => rfl)) (SB.cons (SS.asg (SE.list (.cons (C.int (by kernel_rfl)) star_Constant (.cons (C.int (by kernel_rfl)) star_Constant (.cons (C.int (by kernel_rfl)) star_Constant (.cons (C.int (by kernel_rfl)) star_Constant .nil))))) (C.slot nd (by kernel_rfl)) (fun _ _ => rfl)) (SB.cons (SS.for (SI.of (C.type (by kernel_rfl) (by rw [HK]; exact kg_range) (by kernel_rfl) (.cons (C.int (by kernel_rfl)) star_Constant .nil) SPN.range)) (TgtOk.one (C.slot nd (by kernel_rfl))) (SB.cons (SS.asg (SE.unary (C.int (by kernel_rfl)) SP1.neg) (C.slot nd (by kernel_rfl)) (fun _ _ => rfl)) (SB.one (SS.for (SI.of (C.meth (C.loc (by kernel_rfl)) (meth_get_all HK) (C.fn (by rw [HK]; exact kf_get_all)) (.cons (C.builtin (by kernel_rfl) (by rw [HK]; exact kg_chr) (by kernel_rfl) (.cons (SE.bin (C.int (by kernel_rfl)) (C.loc (by kernel_rfl)) SP2.add) star_BinOp .nil) SPN.chr) star_Call .nil) (SF.call (SF.up (f_get_all.sf HK) (by decide))) (fun _ => rfl))) (TgtOk.one (C.slot nd (by kernel_rfl))) (SB.cons (SS.ite (ST.cmp (C.builtin (by kernel_rfl) (by rw [HK]; exact kg_len) (by kernel_rfl) (.cons (C.loc (by kernel_rfl)) star_Name .nil) SPN.len) (SE.bin (C.int (by kernel_rfl)) (C.loc (by kernel_rfl)) SP2.mul) SP2.ne rfl) (SB.one (SS.ret (SE.list .nil))) SB.nil) (SB.cons (SS.asg (C.comp1 (nm' := ["one", "text"]) (by kernel_rfl) (SI.of (C.type (by kernel_rfl) (by rw [HK]; exact kg_range) (by kernel_rfl) (.cons (C.loc (by kernel_rfl)) star_Name .nil) SPN.range)) (TgtL.one (C.slotL (by decide +kernel) (by kernel_rfl))) .nil (SE.bin (C.builtin (by kernel_rfl) (by rw [HK]; exact kg_ord) (by kernel_rfl) (.cons (SE.item (C.loc (by kernel_rfl)) (SE.bin (C.int (by kernel_rfl)) (C.loc (by kernel_rfl)) SP2.mul) (SubOk.item (fun _ _ => rfl))) star_Subscript .nil) SPN.ord) (C.int (by kernel_rfl)) SP2.sub) (fun _ _ => rfl)) (C.slot nd (by kernel_rfl)) (fun env eo => by obtain ⟨a, _, _, _⟩ := eo; cases env; cases a; kernel_rfl)) (SB.cons (SS.asg (C.comp1 (nm' := ["one", "text"]) (by kernel_rfl) (SI.of (C.type (by kernel_rfl) (by rw [HK]; exact kg_range) (by kernel_rfl) (.cons (C.loc (by kernel_rfl)) star_Name .nil) SPN.range)) (TgtL.one (C.slotL (by decide +kernel) (by kernel_rfl))) .nil (SE.bin (C.int (by kernel_rfl)) (C.builtin (by kernel_rfl) (by rw [HK]; exact kg_ord) (by kernel_rfl) (.cons (SE.item (C.loc (by kernel_rfl)) (SE.bin (SE.bin (C.int (by kernel_rfl)) (C.loc (by kernel_rfl)) SP2.mul) (C.int (by kernel_rfl)) SP2.add) (SubOk.item (fun _ _ => rfl))) star_Subscript .nil) SPN.ord) SP2.sub) (fun _ _ => rfl)) (C.slot nd (by kernel_rfl)) (fun env eo => by obtain ⟨a, _, _, _⟩ := eo; cases env; cases a; kernel_rfl)) (SB.cons (SS.ite (ST.cmp (C.comp1 (nm' := ["one", "columns", "rows"]) (by kernel_rfl) (SI.of (C.type (by kernel_rfl) (by rw [HK]; exact kg_range) (by kernel_rfl) (.cons (C.int (by kernel_rfl)) star_Constant (.cons (C.loc (by kernel_rfl)) star_Name .nil)) SPN.range)) (TgtL.one (C.slotL (by decide +kernel) (by kernel_rfl))) (.cons (ST.or2 (ST.cmp (SE.item (C.loc (by kernel_rfl)) (C.loc (by kernel_rfl)) (SubOk.item (fun _ _ => rfl))) (SE.item (C.loc (by kernel_rfl)) (SE.bin (C.loc (by kernel_rfl)) (C.int (by kernel_rfl)) SP2.sub) (SubOk.item (fun _ _ => rfl))) SP2.le rfl) (ST.cmp (SE.item (C.loc (by kernel_rfl)) (C.loc (by kernel_rfl)) (SubOk.item (fun _ _ => rfl))) (SE.to (C.loc (by kernel_rfl)) (C.loc (by kernel_rfl))) SP2.in rfl)) .nil) (C.loc (by kernel_rfl)) (fun _ _ => rfl)) (SE.list .nil) SP2.ne rfl) (SB.one (SS.ret (SE.list .nil))) SB.nil) (SB.cons (SS.asg (C.int (by kernel_rfl)) (C.slot nd (by kernel_rfl)) (fun _ _ => rfl)) (SB.cons (SS.for (SI.of (SE.bin (C.comp1 (nm' := ["one", "columns", "rooks"]) (by kernel_rfl) (SI.of (C.type (by kernel_rfl) (by rw [HK]; exact kg_range) (by kernel_rfl) (.cons (C.loc (by kernel_rfl)) star_Name .nil) SPN.range)) (TgtL.one (C.slotL (by decide +kernel) (by kernel_rfl))) .nil (SE.item (C.loc (by kernel_rfl)) (SE.bin (SE.bin (C.loc (by kernel_rfl)) (C.int (by kernel_rfl)) SP2.sub) (C.loc (by kernel_rfl)) SP2.sub) (SubOk.item (fun _ _ => rfl))) (fun _ _ => rfl)) (C.loc (by kernel_rfl)) SP2.add)) (TgtOk.one (C.slot nd (by kernel_rfl))) (SB.one (SS.asg (SE.bin (SE.bin (C.int (by kernel_rfl)) (C.loc (by kernel_rfl)) SP2.mul) (C.loc (by kernel_rfl)) SP2.add) (C.slot nd (by kernel_rfl)) (fun _ _ => rfl))) (fun _ _ => rfl)) (SB.cons (SS.ite (ST.cmp (C.loc (by kernel_rfl)) (C.loc (by kernel_rfl)) SP2.le rfl) (SB.one (SS.ret (SE.list .nil))) SB.nil) (SB.cons (SS.asg (C.loc (by kernel_rfl)) (C.slot nd (by kernel_rfl)) (fun _ _ => rfl)) (SB.one (SS.augItem (C.int (by kernel_rfl)) (C.loc (by kernel_rfl)) (C.loc (by kernel_rfl)) SP2.iaddInt (fun _ _ _ => rfl))))))))))) (fun _ _ => rfl)))) (fun _ _ => rfl)) (SB.one (SS.ret (C.loc (by kernel_rfl)))))))
theorem fq {P : Params} : FnQ (frag.heap_1 P) 344 (fnScope st) (fnBody st) := ⟨by kernel_rfl, by kernel_rfl, by kernel_rfl, by kernel_rfl, by kernel_rfl, by kernel_rfl⟩
theorem fit : Fit ["board"] nm 9 (fnScope st) := ⟨by kernel_rfl, by kernel_rfl, by kernel_rfl, by kernel_rfl, by kernel_rfl, by kernel_rfl, by kernel_rfl, by decide +kernel⟩
theorem bq (HK : G.K = frag.heap_1 G.w.params) : BindQ G 344 1 [] ["board"] [] := by
  refine .of (es := []) (fun c h => .nil) fun us S hl => ?_
  obtain ⟨u0, rfl⟩ := len1 hl
  rw [HK]; kernel_rfl
def g : FM := defG 1 9 [] b
theorem sf (HK : G.K = frag.heap_1 G.w.params) : SF G 4 g 344 := SFq.plain (by rw [HK]; exact fq) (bq HK) fit nd (sb HK) rfl
end f_law_told
end Mine
end
-- part F30
section
set_option maxHeartbeats 4000000
namespace Mine
variable {G : Glo} {d : Nat}
namespace f_law_due
def st : Stmt := stAt 26
def nm : List Str := ["board", "due", "height"]
theorem nd : nm.Nodup := by decide +kernel
def b : SM := (S.seq (S.asg 1 (E.list false [(E.const (.int 1 8)), (E.const (.int 0 8)), (E.const (.int 0 8)), (E.const (.int 0 8))])) (S.seq (S.for (E.iter (E.loc 0)) (.one 2) (S.asg 1 (E.bin (pAdd false) (E.list false [(E.const (.int 1 8))]) (E.comp (E.iter (E.call pnRange [(E.const (.int 1 8)), (E.const (.int 4 8))])) [none, some 1, some 2] (.one 0) (actLast [] (E.bin (pAdd false) (E.bin pItem (E.loc 1) (E.loc 0)) (E.bin (pMul false) (E.bin pItem (E.loc 1) (E.bin pSub (E.loc 0) (E.const (.int 1 8)))) (E.bin (pAdd false) (E.bin pSub (E.loc 2) (E.loc 0)) (E.const (.int 1 8)))))) false)))) (S.ret (E.loc 1))))
theorem sb (HK : G.K = frag.heap_1 G.w.params) : SB G nm (fnScope st) 0 b (fnBody st) :=
  (SB.cons (SS.asg (SE.list (.cons (C.int (by kernel_rfl)) star_Constant (.cons (C.int (by kernel_rfl)) star_Constant (.cons (C.int (by kernel_rfl)) star_Constant (.cons (C.int (by kernel_rfl)) star_Constant .nil))))) (C.slot nd (by kernel_rfl)) (fun _ _ => rfl)) (SB.cons (SS.for (SI.of (C.loc (by kernel_rfl))) (TgtOk.one (C.slot nd (by kernel_rfl))) (SB.one (SS.asg (SE.bin (SE.list (.cons (C.int (by kernel_rfl)) star_Constant .nil)) (C.comp1 (nm' := ["k", "due", "height"]) (by kernel_rfl) (SI.of (C.type (by kernel_rfl) (by rw [HK]; exact kg_range) (by kernel_rfl) (.cons (C.int (by kernel_rfl)) star_Constant (.cons (C.int (by kernel_rfl)) star_Constant .nil)) SPN.range)) (TgtL.one (C.slotL (by decide +kernel) (by kernel_rfl))) .nil (SE.bin (SE.item (C.loc (by kernel_rfl)) (C.loc (by kernel_rfl)) (SubOk.item (fun _ _ => rfl))) (SE.bin (SE.item (C.loc (by kernel_rfl)) (SE.bin (C.loc (by kernel_rfl)) (C.int (by kernel_rfl)) SP2.sub) (SubOk.item (fun _ _ => rfl))) (SE.bin (SE.bin (C.loc (by kernel_rfl)) (C.loc (by kernel_rfl)) SP2.sub) (C.int (by kernel_rfl)) SP2.add) SP2.mul) SP2.add) (fun _ _ => rfl)) SP2.add) (C.slot nd (by kernel_rfl)) (fun _ _ => rfl))) (fun _ _ => rfl)) (SB.one (SS.ret (C.loc (by kernel_rfl))))))
theorem fq {P : Params} : FnQ (frag.heap_1 P) 349 (fnScope st) (fnBody st) := ⟨by kernel_rfl, by kernel_rfl, by kernel_rfl, by kernel_rfl, by kernel_rfl, by kernel_rfl⟩
theorem fit : Fit ["board"] nm 2 (fnScope st) := ⟨by kernel_rfl, by kernel_rfl, by kernel_rfl, by kernel_rfl, by kernel_rfl, by kernel_rfl, by kernel_rfl, by decide +kernel⟩
theorem bq (HK : G.K = frag.heap_1 G.w.params) : BindQ G 349 1 [] ["board"] [] := by
  refine .of (es := []) (fun c h => .nil) fun us S hl => ?_
  obtain ⟨u0, rfl⟩ := len1 hl
  rw [HK]; kernel_rfl
def g : FM := defG 1 2 [] b
theorem sf (HK : G.K = frag.heap_1 G.w.params) : SF G 1 g 349 := SFq.plain (by rw [HK]; exact fq) (bq HK) fit nd (sb HK) rfl
end f_law_due
namespace f_law_placed
def st : Stmt := stAt 27
def nm : List Str := ["numbers", "number", "total", "falling", "lacking"]
theorem nd : nm.Nodup := by decide +kernel
def b : SM := (S.seq (S.asg 2 (E.const (.int 0 8))) (S.seq (S.asg 3 (E.const (.int 1 8))) (S.seq (S.for (E.iter (E.call pnRange [(E.const (.int 4 8))])) (.one 4) (S.seq (S.asg 2 (E.call (closedCall f_add.g) [(E.loc 2), (E.call (closedCall f_mul.g) [(E.bin pItem (E.loc 0) (E.bin pSub (E.const (.int 3 8)) (E.loc 4))), (E.loc 3)])])) (S.asg 3 (E.call (closedCall f_mul.g) [(E.loc 3), (E.call (closedCall f_sub.g) [(E.loc 1), (E.loc 4)])])))) (S.ret (E.loc 2)))))
theorem sb (HK : G.K = frag.heap_1 G.w.params) : SB G nm (fnScope st) 1 b (fnBody st) :=
  (SB.cons (SS.asg (C.int (by kernel_rfl)) (C.slot nd (by kernel_rfl)) (fun _ _ => rfl)) (SB.cons (SS.asg (C.int (by kernel_rfl)) (C.slot nd (by kernel_rfl)) (fun _ _ => rfl)) (SB.cons (SS.for (SI.of (C.type (by kernel_rfl) (by rw [HK]; exact kg_range) (by kernel_rfl) (.cons (C.int (by kernel_rfl)) star_Constant .nil) SPN.range)) (TgtOk.one (C.slot nd (by kernel_rfl))) (SB.cons (SS.asg (C.defd (by kernel_rfl) (by rw [HK]; exact kg_add) (by rw [HK]; exact kf_add) (.cons (C.loc (by kernel_rfl)) star_Name (.cons (C.defd (by kernel_rfl) (by rw [HK]; exact kg_mul) (by rw [HK]; exact kf_mul) (.cons (SE.item (C.loc (by kernel_rfl)) (SE.bin (C.int (by kernel_rfl)) (C.loc (by kernel_rfl)) SP2.sub) (SubOk.item (fun _ _ => rfl))) star_Subscript (.cons (C.loc (by kernel_rfl)) star_Name .nil)) (SPN.closed (SF.call (SF.up (f_mul.sf HK) (by decide))))) star_Call .nil)) (SPN.closed (SF.call (SF.up (f_add.sf HK) (by decide))))) (C.slot nd (by kernel_rfl)) (fun _ _ => rfl)) (SB.one (SS.asg (C.defd (by kernel_rfl) (by rw [HK]; exact kg_mul) (by rw [HK]; exact kf_mul) (.cons (C.loc (by kernel_rfl)) star_Name (.cons (C.defd (by kernel_rfl) (by rw [HK]; exact kg_sub) (by rw [HK]; exact kf_sub) (.cons (C.loc (by kernel_rfl)) star_Name (.cons (C.loc (by kernel_rfl)) star_Name .nil)) (SPN.closed (SF.call (SF.up (f_sub.sf HK) (by decide))))) star_Call .nil)) (SPN.closed (SF.call (SF.up (f_mul.sf HK) (by decide))))) (C.slot nd (by kernel_rfl)) (fun _ _ => rfl)))) (fun _ _ => rfl)) (SB.one (SS.ret (C.loc (by kernel_rfl)))))))
theorem fq {P : Params} : FnQ (frag.heap_1 P) 356 (fnScope st) (fnBody st) := ⟨by kernel_rfl, by kernel_rfl, by kernel_rfl, by kernel_rfl, by kernel_rfl, by kernel_rfl⟩
theorem fit : Fit ["numbers", "number"] nm 3 (fnScope st) := ⟨by kernel_rfl, by kernel_rfl, by kernel_rfl, by kernel_rfl, by kernel_rfl, by kernel_rfl, by kernel_rfl, by decide +kernel⟩
theorem bq (HK : G.K = frag.heap_1 G.w.params) : BindQ G 356 2 [] ["numbers", "number"] [] := by
  refine .of (es := []) (fun c h => .nil) fun us S hl => ?_
  obtain ⟨u0, u1, rfl⟩ := len2 hl
  rw [HK]; kernel_rfl
def g : FM := defG 2 3 [] b
theorem sf (HK : G.K = frag.heap_1 G.w.params) : SF G 2 g 356 := SFq.plain (by rw [HK]; exact fq) (bq HK) fit nd (sb HK) rfl
end f_law_placed
namespace f_law_product
def st : Stmt := stAt 28
def nm : List Str := ["lead", "number", "counts", "product", "run"]
theorem nd : nm.Nodup := by decide +kernel
def b : SM := (S.seq (S.asg 2 (E.bin pItem (E.un (pAttr 100 3) (E.loc 0)) (E.const (.int 0 8)))) (S.seq (S.asg 3 (E.const (.int 1 8))) (S.seq (S.for (E.iter (E.call pnRange [(E.call pnLen [(E.loc 2)])])) (.one 4) (S.asg 3 (E.call (closedCall f_mul.g) [(E.loc 3), (E.call (closedCall f_ipow.g) [(E.call (closedCall f_add.g) [(E.loc 1), (E.bin pSub (E.loc 4) (E.const (.int 2 8)))]), (E.bin pItem (E.loc 2) (E.loc 4))])]))) (S.ret (E.loc 3)))))
theorem sb (HK : G.K = frag.heap_1 G.w.params) : SB G nm (fnScope st) 1 b (fnBody st) :=
  (SB.cons (SS.asg (SE.item (SE.attr (C.loc (by kernel_rfl)) (SP1.attr (attr_norm HK)) (fun _ => rfl)) (C.int (by kernel_rfl)) (SubOk.item (fun _ _ => rfl))) (C.slot nd (by kernel_rfl)) (fun _ _ => rfl)) (SB.cons (SS.asg (C.int (by kernel_rfl)) (C.slot nd (by kernel_rfl)) (fun _ _ => rfl)) (SB.cons (SS.for (SI.of (C.type (by kernel_rfl) (by rw [HK]; exact kg_range) (by kernel_rfl) (.cons (C.builtin (by kernel_rfl) (by rw [HK]; exact kg_len) (by kernel_rfl) (.cons (C.loc (by kernel_rfl)) star_Name .nil) SPN.len) star_Call .nil) SPN.range)) (TgtOk.one (C.slot nd (by kernel_rfl))) (SB.one (SS.asg (C.defd (by kernel_rfl) (by rw [HK]; exact kg_mul) (by rw [HK]; exact kf_mul) (.cons (C.loc (by kernel_rfl)) star_Name (.cons (C.defd (by kernel_rfl) (by rw [HK]; exact kg_ipow) (by rw [HK]; exact kf_ipow) (.cons (C.defd (by kernel_rfl) (by rw [HK]; exact kg_add) (by rw [HK]; exact kf_add) (.cons (C.loc (by kernel_rfl)) star_Name (.cons (SE.bin (C.loc (by kernel_rfl)) (C.int (by kernel_rfl)) SP2.sub) star_BinOp .nil)) (SPN.closed (SF.call (SF.up (f_add.sf HK) (by decide))))) star_Call (.cons (SE.item (C.loc (by kernel_rfl)) (C.loc (by kernel_rfl)) (SubOk.item (fun _ _ => rfl))) star_Subscript .nil)) (SPN.closed (SF.call (SF.up (f_ipow.sf HK) (by decide))))) star_Call .nil)) (SPN.closed (SF.call (SF.up (f_mul.sf HK) (by decide))))) (C.slot nd (by kernel_rfl)) (fun _ _ => rfl))) (fun _ _ => rfl)) (SB.one (SS.ret (C.loc (by kernel_rfl)))))))
theorem fq {P : Params} : FnQ (frag.heap_1 P) 363 (fnScope st) (fnBody st) := ⟨by kernel_rfl, by kernel_rfl, by kernel_rfl, by kernel_rfl, by kernel_rfl, by kernel_rfl⟩
theorem fit : Fit ["lead", "number"] nm 3 (fnScope st) := ⟨by kernel_rfl, by kernel_rfl, by kernel_rfl, by kernel_rfl, by kernel_rfl, by kernel_rfl, by kernel_rfl, by decide +kernel⟩
theorem bq (HK : G.K = frag.heap_1 G.w.params) : BindQ G 363 2 [] ["lead", "number"] [] := by
  refine .of (es := []) (fun c h => .nil) fun us S hl => ?_
  obtain ⟨u0, u1, rfl⟩ := len2 hl
  rw [HK]; kernel_rfl
def g : FM := defG 2 3 [] b
theorem sf (HK : G.K = frag.heap_1 G.w.params) : SF G 2 g 363 := SFq.plain (by rw [HK]; exact fq) (bq HK) fit nd (sb HK) rfl
end f_law_product
namespace f_law_ways
def st : Stmt := stAt 29
def nm : List Str := ["lead", "counts", "ways", "run", "boxes", "one"]
theorem nd : nm.Nodup := by decide +kernel
def b : SM := (S.seq (S.asg 1 (E.bin pItem (E.un (pAttr 100 3) (E.loc 0)) (E.const (.int 0 8)))) (S.seq (S.asg 2 (E.const (.int 1 8))) (S.seq (S.for (E.iter (E.call pnRange [(E.call pnLen [(E.loc 1)])])) (.one 3) (S.seq (S.asg 4 (E.const (.int 0 8))) (S.seq (S.ite (T.val (E.bin pLt (E.bin (pAdd false) (E.loc 3) (E.const (.int 1 8))) (E.call pnLen [(E.loc 1)]))) (S.asg 4 (E.bin pItem (E.loc 1) (E.bin (pAdd false) (E.loc 3) (E.const (.int 1 8))))) S.done) (S.seq (S.ite (T.val (E.bin pGt (E.loc 3) (E.const (.int 1 8)))) (S.asg 4 (E.call (closedCall f_add.g) [(E.loc 4), (E.const (.int 1 8))])) S.done) (S.for (E.iter (E.call pnRange [(E.bin pItem (E.loc 1) (E.loc 3))])) (.one 5) (S.asg 2 (E.call (closedCall f_floordiv.g) [(E.call (closedCall f_add.g) [(E.call (closedCall f_mul.g) [(E.loc 2), (E.call (closedCall f_add.g) [(E.loc 4), (E.loc 5)])]), (E.loc 5)]), (E.bin (pAdd false) (E.loc 5) (E.const (.int 1 8)))]))))))) (S.ret (E.loc 2)))))
theorem sb (HK : G.K = frag.heap_1 G.w.params) : SB G nm (fnScope st) 1 b (fnBody st) :=
  (SB.cons (SS.asg (SE.item (SE.attr (C.loc (by kernel_rfl)) (SP1.attr (attr_norm HK)) (fun _ => rfl)) (C.int (by kernel_rfl)) (SubOk.item (fun _ _ => rfl))) (C.slot nd (by kernel_rfl)) (fun _ _ => rfl)) (SB.cons (SS.asg (C.int (by kernel_rfl)) (C.slot nd (by kernel_rfl)) (fun _ _ => rfl)) (SB.cons (SS.for (SI.of (C.type (by kernel_rfl) (by rw [HK]; exact kg_range) (by kernel_rfl) (.cons (C.builtin (by kernel_rfl) (by rw [HK]; exact kg_len) (by kernel_rfl) (.cons (C.loc (by kernel_rfl)) star_Name .nil) SPN.len) star_Call .nil) SPN.range)) (TgtOk.one (C.slot nd (by kernel_rfl))) (SB.cons (SS.asg (C.int (by kernel_rfl)) (C.slot nd (by kernel_rfl)) (fun _ _ => rfl)) (SB.cons (SS.ite (ST.cmp (SE.bin (C.loc (by kernel_rfl)) (C.int (by kernel_rfl)) SP2.add) (C.builtin (by kernel_rfl) (by rw [HK]; exact kg_len) (by kernel_rfl) (.cons (C.loc (by kernel_rfl)) star_Name .nil) SPN.len) SP2.lt rfl) (SB.one (SS.asg (SE.item (C.loc (by kernel_rfl)) (SE.bin (C.loc (by kernel_rfl)) (C.int (by kernel_rfl)) SP2.add) (SubOk.item (fun _ _ => rfl))) (C.slot nd (by kernel_rfl)) (fun _ _ => rfl))) SB.nil) (SB.cons (SS.ite (ST.cmp (C.loc (by kernel_rfl)) (C.int (by kernel_rfl)) SP2.gt rfl) (SB.one (SS.asg (C.defd (by kernel_rfl) (by rw [HK]; exact kg_add) (by rw [HK]; exact kf_add) (.cons (C.loc (by kernel_rfl)) star_Name (.cons (C.int (by kernel_rfl)) star_Constant .nil)) (SPN.closed (SF.call (SF.up (f_add.sf HK) (by decide))))) (C.slot nd (by kernel_rfl)) (fun _ _ => rfl))) SB.nil) (SB.one (SS.for (SI.of (C.type (by kernel_rfl) (by rw [HK]; exact kg_range) (by kernel_rfl) (.cons (SE.item (C.loc (by kernel_rfl)) (C.loc (by kernel_rfl)) (SubOk.item (fun _ _ => rfl))) star_Subscript .nil) SPN.range)) (TgtOk.one (C.slot nd (by kernel_rfl))) (SB.one (SS.asg (C.defd (by kernel_rfl) (by rw [HK]; exact kg_floordiv) (by rw [HK]; exact kf_floordiv) (.cons (C.defd (by kernel_rfl) (by rw [HK]; exact kg_add) (by rw [HK]; exact kf_add) (.cons (C.defd (by kernel_rfl) (by rw [HK]; exact kg_mul) (by rw [HK]; exact kf_mul) (.cons (C.loc (by kernel_rfl)) star_Name (.cons (C.defd (by kernel_rfl) (by rw [HK]; exact kg_add) (by rw [HK]; exact kf_add) (.cons (C.loc (by kernel_rfl)) star_Name (.cons (C.loc (by kernel_rfl)) star_Name .nil)) (SPN.closed (SF.call (SF.up (f_add.sf HK) (by decide))))) star_Call .nil)) (SPN.closed (SF.call (SF.up (f_mul.sf HK) (by decide))))) star_Call (.cons (C.loc (by kernel_rfl)) star_Name .nil)) (SPN.closed (SF.call (SF.up (f_add.sf HK) (by decide))))) star_Call (.cons (SE.bin (C.loc (by kernel_rfl)) (C.int (by kernel_rfl)) SP2.add) star_BinOp .nil)) (SPN.closed (SF.call (SF.up (f_floordiv.sf HK) (by decide))))) (C.slot nd (by kernel_rfl)) (fun _ _ => rfl))) (fun _ _ => rfl)))))) (fun _ _ => rfl)) (SB.one (SS.ret (C.loc (by kernel_rfl)))))))
theorem fq {P : Params} : FnQ (frag.heap_1 P) 370 (fnScope st) (fnBody st) := ⟨by kernel_rfl, by kernel_rfl, by kernel_rfl, by kernel_rfl, by kernel_rfl, by kernel_rfl⟩
theorem fit : Fit ["lead"] nm 5 (fnScope st) := ⟨by kernel_rfl, by kernel_rfl, by kernel_rfl, by kernel_rfl, by kernel_rfl, by kernel_rfl, by kernel_rfl, by decide +kernel⟩
theorem bq (HK : G.K = frag.heap_1 G.w.params) : BindQ G 370 1 [] ["lead"] [] := by
  refine .of (es := []) (fun c h => .nil) fun us S hl => ?_
  obtain ⟨u0, rfl⟩ := len1 hl
  rw [HK]; kernel_rfl
def g : FM := defG 1 5 [] b
theorem sf (HK : G.K = frag.heap_1 G.w.params) : SF G 2 g 370 := SFq.plain (by rw [HK]; exact fq) (bq HK) fit nd (sb HK) rfl
end f_law_ways
end Mine
end
-- part F31
section
set_option maxHeartbeats 4000000
namespace Mine
variable {G : Glo} {d : Nat}
namespace f_law_boards
def st : Stmt := stAt 30
def nm : List Str := ["runs", "orders", "run", "names", "first", "spelled", "order", "word", "name", "value"]
theorem nd : nm.Nodup := by decide +kernel
def b : SM := (S.seq (S.asg 1 (E.list false [(E.list true [])])) (S.seq (S.for (E.iter (E.loc 0)) (.one 2) (S.asg 1 (E.comp (E.iter (E.loc 1)) [none, none, some 2] (.one 0) (actMore [] (E.iter (E.call pnRange [(E.bin (pAdd false) (E.call pnLen [(E.loc 0)]) (E.const (.int 1 8)))])) (.one 1) (actLast [] (E.bin (pAdd false) (E.bin (pAdd false) (E.bin (pTo false) (E.loc 0) (E.loc 1)) (E.list false [(E.loc 2)])) (E.bin (pFrom false) (E.loc 0) (E.loc 1))))) false))) (S.seq (S.asg 3 (E.call (pnNew 297 f_initH.g) [])) (S.seq (S.asg 4 E.dict) (S.seq (S.asg 5 (E.list true [])) (S.seq (S.for (E.iter (E.loc 1)) (.one 6) (S.ite (T.val (E.bin pEq (E.comp (E.zip (E.bin (pAdd false) (E.list false [(E.const (.int 3 8))]) (E.loc 6)) (E.loc 6)) [none, none] (.tup [0, 1]) (actLast [(T.val (E.bin pLt (E.loc 1) (E.bin pSub (E.loc 0) (E.const (.int 1 8)))))] (E.loc 1)) false) (E.list true []))) (S.seq (S.asg 7 (E.meth rcStr pnJoin (E.const (.str [])) [(E.comp (E.iter (E.loc 6)) [none] (.one 0) (actLast [] (E.call pnChr [(E.bin (pAdd false) (E.const (.int 97 8)) (E.loc 0))])) false)])) (S.seq (S.asg 8 (E.loc 7)) (S.seq (S.ite (T.val (E.bin pEq (E.bin pMod (E.call pnLen [(E.loc 5)]) (E.const (.int 2 8))) (E.const (.int 1 8)))) (S.asg 8 (E.meth rcStr pnUpper (E.loc 7) [])) S.done) (S.seq (S.asg 9 (E.bin (pMul false) (E.const (.str [120])) (E.call pnLen [(E.loc 5)]))) (S.seq (S.ite (T.val (E.bin pIn (E.loc 7) (E.loc 4))) (S.expr (E.meth (rcInst 297) (fun led vs => f_add_header.g vs led) (E.loc 3) [(E.loc 8), (E.loc 9)])) (S.setItem (E.loc 9) (E.loc 4) (E.loc 7))) (S.seq (S.expr (E.meth rcList pnAppend (E.loc 5) [(E.loc 8)])) (S.ite (T.val (E.bin pNe (E.meth (rcInst 297) (fun led vs => f_setdefault.g vs led) (E.loc 3) [(E.loc 8), (E.loc 9)]) (E.bin pItem (E.loc 4) (E.loc 7)))) (S.ret (E.const (.int 0 8))) S.done))))))) S.done)) (S.seq (S.ite (T.val (E.bin pNe (E.meth (rcInst 297) (fun led vs => f_keys.g vs led) (E.loc 3) []) (E.loc 5))) (S.ret (E.const (.int 0 8))) S.done) (S.ret (E.call pnLen [(E.loc 4)])))))))))
theorem sb (HK : G.K = frag.heap_1 G.w.params) : SB G nm (fnScope st) 3 b (fnBody st) :=
  (SB.cons (SS.asg (SE.list (.cons (SE.list .nil) star_List .nil)) (C.slot nd (by kernel_rfl)) (fun _ _ => rfl)) (SB.cons (SS.for (SI.of (C.loc (by kernel_rfl))) (TgtOk.one (C.slot nd (by kernel_rfl))) (SB.one (C.asgComp2 (nm' := ["order", "place", "run"]) (by kernel_rfl) (SI.of (C.loc (by kernel_rfl))) (TgtL.one (C.slotL (by decide +kernel) (by kernel_rfl))) (fun _ _ => rfl) .nil (SI.of (C.type (by kernel_rfl) (by rw [HK]; exact kg_range) (by kernel_rfl) (.cons (SE.bin (C.builtin (by kernel_rfl) (by rw [HK]; exact kg_len) (by kernel_rfl) (.cons (C.loc (by kernel_rfl)) star_Name .nil) SPN.len) (C.int (by kernel_rfl)) SP2.add) star_BinOp .nil) SPN.range)) (TgtL.one (C.slotL (by decide +kernel) (by kernel_rfl))) .nil (SE.bin (SE.bin (SE.to (C.loc (by kernel_rfl)) (C.loc (by kernel_rfl))) (SE.list (.cons (C.loc (by kernel_rfl)) star_Name .nil)) SP2.add) (SE.from (C.loc (by kernel_rfl)) (C.loc (by kernel_rfl))) SP2.add) (fun _ _ => rfl) (C.slot nd (by kernel_rfl)) (fun env eo => by obtain ⟨a, _, _, _⟩ := eo; cases env; cases a; kernel_rfl))) (fun _ _ => rfl)) (SB.cons (SS.asg (C.new (by kernel_rfl) (by rw [HK]; exact kg_Headers) (new_Headers HK) .nil (SPN.new' (new_Headers HK) (f_initH.sf HK) (by decide))) (C.slot nd (by kernel_rfl)) (fun _ _ => rfl)) (SB.cons (SS.asg SE.dict (C.slot nd (by kernel_rfl)) (fun _ _ => rfl)) (SB.cons (SS.asg (SE.list .nil) (C.slot nd (by kernel_rfl)) (fun _ _ => rfl)) (SB.cons (SS.for (SI.of (C.loc (by kernel_rfl))) (TgtOk.one (C.slot nd (by kernel_rfl))) (SB.one (SS.ite (ST.cmp (C.comp1 (nm' := ["ahead", "run"]) (by kernel_rfl) (C.zip (by kernel_rfl) (by rw [HK]; exact kg_zip) (by kernel_rfl) (.cons (SE.bin (SE.list (.cons (C.int (by kernel_rfl)) star_Constant .nil)) (C.loc (by kernel_rfl)) SP2.add) star_BinOp (.cons (C.loc (by kernel_rfl)) star_Name .nil))) (TgtL.tup (.cons (C.slotL (by decide +kernel) (by kernel_rfl)) (.cons (C.slotL (by decide +kernel) (by kernel_rfl)) .nil))) (.cons (ST.cmp (C.loc (by kernel_rfl)) (SE.bin (C.loc (by kernel_rfl)) (C.int (by kernel_rfl)) SP2.sub) SP2.lt rfl) .nil) (C.loc (by kernel_rfl)) (fun _ _ => rfl)) (SE.list .nil) SP2.eq rfl) (SB.cons (SS.asg (C.meth (C.str (by kernel_rfl)) MethAt.join C.bi (.cons (C.comp1 (nm' := ["run"]) (by kernel_rfl) (SI.of (C.loc (by kernel_rfl))) (TgtL.one (C.slotL (by decide +kernel) (by kernel_rfl))) .nil (C.builtin (by kernel_rfl) (by rw [HK]; exact kg_chr) (by kernel_rfl) (.cons (SE.bin (C.int (by kernel_rfl)) (C.loc (by kernel_rfl)) SP2.add) star_BinOp .nil) SPN.chr) (fun _ _ => rfl)) star_ListComp .nil) SPN.join (fun _ => rfl)) (C.slot nd (by kernel_rfl)) (fun _ _ => rfl)) (SB.cons (SS.asg (C.loc (by kernel_rfl)) (C.slot nd (by kernel_rfl)) (fun _ _ => rfl)) (SB.cons (SS.ite (ST.cmp (SE.bin (C.builtin (by kernel_rfl) (by rw [HK]; exact kg_len) (by kernel_rfl) (.cons (C.loc (by kernel_rfl)) star_Name .nil) SPN.len) (C.int (by kernel_rfl)) SP2.mod) (C.int (by kernel_rfl)) SP2.eq rfl) (SB.one (SS.asg (C.meth (C.loc (by kernel_rfl)) MethAt.upper C.bi .nil SPN.upper (fun _ => rfl)) (C.slot nd (by kernel_rfl)) (fun _ _ => rfl))) SB.nil) (SB.cons (SS.asg (SE.bin (C.str (by kernel_rfl)) (C.builtin (by kernel_rfl) (by rw [HK]; exact kg_len) (by kernel_rfl) (.cons (C.loc (by kernel_rfl)) star_Name .nil) SPN.len) SP2.mul) (C.slot nd (by kernel_rfl)) (fun _ _ => rfl)) (SB.cons (SS.ite (ST.cmp (C.loc (by kernel_rfl)) (C.loc (by kernel_rfl)) SP2.in rfl) (SB.one (SS.expr (C.meth (C.loc (by kernel_rfl)) (meth_add_header HK) (C.fn (by rw [HK]; exact kf_add_header)) (.cons (C.loc (by kernel_rfl)) star_Name (.cons (C.loc (by kernel_rfl)) star_Name .nil)) (SF.call (SF.up (f_add_header.sf HK) (by decide))) (fun _ => rfl)) (fun _ eo => notInteractive eo) (fun _ => rfl))) (SB.one (SS.setItem (C.loc (by kernel_rfl)) (C.loc (by kernel_rfl)) (C.loc (by kernel_rfl)) (fun _ _ => rfl)))) (SB.cons (SS.expr (C.meth (C.loc (by kernel_rfl)) MethAt.append C.bi (.cons (C.loc (by kernel_rfl)) star_Name .nil) SPN.append (fun _ => rfl)) (fun _ eo => notInteractive eo) (fun _ => rfl)) (SB.one (SS.ite (ST.cmp (C.meth (C.loc (by kernel_rfl)) (meth_setdefault HK) (C.fn (by rw [HK]; exact kf_setdefault)) (.cons (C.loc (by kernel_rfl)) star_Name (.cons (C.loc (by kernel_rfl)) star_Name .nil)) (SF.call (SF.up (f_setdefault.sf HK) (by decide))) (fun _ => rfl)) (SE.item (C.loc (by kernel_rfl)) (C.loc (by kernel_rfl)) (SubOk.item (fun _ _ => rfl))) SP2.ne rfl) (SB.one (SS.ret (C.int (by kernel_rfl)))) SB.nil)))))))) SB.nil)) (fun _ _ => rfl)) (SB.cons (SS.ite (ST.cmp (C.meth (C.loc (by kernel_rfl)) (meth_keys HK) (C.fn (by rw [HK]; exact kf_keys)) .nil (SF.call (SF.up (f_keys.sf HK) (by decide))) (fun _ => rfl)) (C.loc (by kernel_rfl)) SP2.ne rfl) (SB.one (SS.ret (C.int (by kernel_rfl)))) SB.nil) (SB.one (SS.ret (C.builtin (by kernel_rfl) (by rw [HK]; exact kg_len) (by kernel_rfl) (.cons (C.loc (by kernel_rfl)) star_Name .nil) SPN.len))))))))))
theorem fq {P : Params} : FnQ (frag.heap_1 P) 375 (fnScope st) (fnBody st) := ⟨by kernel_rfl, by kernel_rfl, by kernel_rfl, by kernel_rfl, by kernel_rfl, by kernel_rfl⟩
theorem fit : Fit ["runs"] nm 9 (fnScope st) := ⟨by kernel_rfl, by kernel_rfl, by kernel_rfl, by kernel_rfl, by kernel_rfl, by kernel_rfl, by kernel_rfl, by decide +kernel⟩
theorem bq (HK : G.K = frag.heap_1 G.w.params) : BindQ G 375 1 [] ["runs"] [] := by
  refine .of (es := []) (fun c h => .nil) fun us S hl => ?_
  obtain ⟨u0, rfl⟩ := len1 hl
  rw [HK]; kernel_rfl
def g : FM := defG 1 9 [] b
theorem sf (HK : G.K = frag.heap_1 G.w.params) : SF G 4 g 375 := SFq.plain (by rw [HK]; exact fq) (bq HK) fit nd (sb HK) rfl
end f_law_boards
end Mine
end
-- part F32
section
set_option maxHeartbeats 4000000
namespace Mine
variable {G : Glo} {d : Nat}
namespace f_law_holds
def st : Stmt := stAt 31
def nm : List Str := ["board", "lead", "number", "numbers", "ways"]
theorem nd : nm.Nodup := by decide +kernel
def b : SM := (S.seq (S.asg 3 (E.call (closedCall f_law_told.g) [(E.loc 0)])) (S.seq (S.ite (T.val (E.bin pNe (E.loc 3) (E.call (closedCall f_law_due.g) [(E.loc 0)]))) (S.ret (E.const (.bool false))) S.done) (S.seq (S.ite (T.val (E.bin pNe (E.call (closedCall f_law_placed.g) [(E.loc 3), (E.loc 2)]) (E.call (closedCall f_law_product.g) [(E.loc 1), (E.loc 2)]))) (S.ret (E.const (.bool false))) S.done) (S.seq (S.asg 4 (E.call (closedCall f_law_ways.g) [(E.loc 1)])) (S.ret (E.and (E.call pnIsInt [(E.loc 4), (E.const (.ty .int))]) (E.bin pEq (E.call (closedCall f_law_boards.g) [(E.call (closedCall f_law_runs.g) [(E.loc 0)])]) (E.loc 4))))))))
theorem sb (HK : G.K = frag.heap_1 G.w.params) : SB G nm (fnScope st) 4 b (fnBody st) :=
  (SB.cons (SS.asg (C.defd (by kernel_rfl) (by rw [HK]; exact kg__law_told) (by rw [HK]; exact kf__law_told) (.cons (C.loc (by kernel_rfl)) star_Name .nil) (SPN.closed (SF.call (SF.up (f_law_told.sf HK) (by decide))))) (C.slot nd (by kernel_rfl)) (fun _ _ => rfl)) (SB.cons (SS.ite (ST.cmp (C.loc (by kernel_rfl)) (C.defd (by kernel_rfl) (by rw [HK]; exact kg__law_due) (by rw [HK]; exact kf__law_due) (.cons (C.loc (by kernel_rfl)) star_Name .nil) (SPN.closed (SF.call (SF.up (f_law_due.sf HK) (by decide))))) SP2.ne rfl) (SB.one (SS.ret SE.boolc)) SB.nil) (SB.cons (SS.ite (ST.cmp (C.defd (by kernel_rfl) (by rw [HK]; exact kg__law_placed) (by rw [HK]; exact kf__law_placed) (.cons (C.loc (by kernel_rfl)) star_Name (.cons (C.loc (by kernel_rfl)) star_Name .nil)) (SPN.closed (SF.call (SF.up (f_law_placed.sf HK) (by decide))))) (C.defd (by kernel_rfl) (by rw [HK]; exact kg__law_product) (by rw [HK]; exact kf__law_product) (.cons (C.loc (by kernel_rfl)) star_Name (.cons (C.loc (by kernel_rfl)) star_Name .nil)) (SPN.closed (SF.call (SF.up (f_law_product.sf HK) (by decide))))) SP2.ne rfl) (SB.one (SS.ret SE.boolc)) SB.nil) (SB.cons (SS.asg (C.defd (by kernel_rfl) (by rw [HK]; exact kg__law_ways) (by rw [HK]; exact kf__law_ways) (.cons (C.loc (by kernel_rfl)) star_Name .nil) (SPN.closed (SF.call (SF.up (f_law_ways.sf HK) (by decide))))) (C.slot nd (by kernel_rfl)) (fun _ _ => rfl)) (SB.one (SS.ret (SE.and (C.builtin (by kernel_rfl) (by rw [HK]; exact kg_isinstance) (by kernel_rfl) (.cons (C.loc (by kernel_rfl)) star_Name (.cons (C.ty (by kernel_rfl) (by rw [HK]; exact kg_int) (by kernel_rfl)) star_Name .nil)) SPN.isInt) (SE.cmp (C.defd (by kernel_rfl) (by rw [HK]; exact kg__law_boards) (by rw [HK]; exact kf__law_boards) (.cons (C.defd (by kernel_rfl) (by rw [HK]; exact kg__law_runs) (by rw [HK]; exact kf__law_runs) (.cons (C.loc (by kernel_rfl)) star_Name .nil) (SPN.closed (SF.call (SF.up (f_law_runs.sf HK) (by decide))))) star_Call .nil) (SPN.closed (SF.call (SF.up (f_law_boards.sf HK) (by decide))))) (C.loc (by kernel_rfl)) SP2.eq rfl))))))))
theorem fq {P : Params} : FnQ (frag.heap_1 P) 382 (fnScope st) (fnBody st) := ⟨by kernel_rfl, by kernel_rfl, by kernel_rfl, by kernel_rfl, by kernel_rfl, by kernel_rfl⟩
theorem fit : Fit ["board", "lead", "number"] nm 2 (fnScope st) := ⟨by kernel_rfl, by kernel_rfl, by kernel_rfl, by kernel_rfl, by kernel_rfl, by kernel_rfl, by kernel_rfl, by decide +kernel⟩
theorem bq (HK : G.K = frag.heap_1 G.w.params) : BindQ G 382 3 [] ["board", "lead", "number"] [] := by
  refine .of (es := []) (fun c h => .nil) fun us S hl => ?_
  obtain ⟨u0, u1, u2, rfl⟩ := len3 hl
  rw [HK]; kernel_rfl
def g : FM := defG 3 2 [] b
theorem sf (HK : G.K = frag.heap_1 G.w.params) : SF G 5 g 382 := SFq.plain (by rw [HK]; exact fq) (bq HK) fit nd (sb HK) rfl
end f_law_holds
end Mine
end
-- part F33
section
set_option maxHeartbeats 4000000
namespace Mine
variable {G : Glo} {sc : Scope} {d : Nat}
theorem SE.list4 {nm : List Str} {mt : Bool} {f0 f1 f2 f3 : EM} {e0 e1 e2 e3 : Expr} {pos : Pos} (h0 : SE G nm sc d f0 e0) (h1 : SE G nm sc d f1 e1) (h2 : SE G nm sc d f2 e2) (h3 : SE G nm sc d f3 e3)
    (s0 : ∀ env r, starEach (e0 :: r) env = (false, eval e0 env) :: starEach r env) (s1 : ∀ env r, starEach (e1 :: r) env = (false, eval e1 env) :: starEach r env)
    (s2 : ∀ env r, starEach (e2 :: r) env = (false, eval e2 env) :: starEach r env) (s3 : ∀ env r, starEach (e3 :: r) env = (false, eval e3 env) :: starEach r env) :
    SE G nm sc d (E.list mt [f0, f1, f2, f3]) (.List [e0, e1, e2, e3] pos) := SE.list (.cons h0 s0 (.cons h1 s1 (.cons h2 s2 (.cons h3 s3 .nil))))
namespace f_law_apart
def st : Stmt := stAt 23
def nm : List Str := ["runs", "behind", "here", "there", "more", "one", "two"]
theorem nd : nm.Nodup := by decide +kernel
def itE : Expr := match (fnBody st) with | .For _ i .. :: _ => i | _ => .Tuple [] 0 ⟨0, 0, 0, 0⟩
def tE (k : Nat) : Expr := match itE with | .List es _ => es.getD k (.Tuple [] 0 ⟨0, 0, 0, 0⟩) | _ => .Tuple [] 0 ⟨0, 0, 0, 0⟩
def itPos : Pos := match itE with | .List _ p => p | _ => ⟨0, 0, 0, 0⟩
theorem itE_eq : itE = .List [tE 0, tE 1, tE 2, tE 3] itPos := by kernel_rfl
def t0C : EM := (E.tup [(E.list false []), (E.list false []), (E.const (.int 1 8))])
theorem t0P : SE G nm (fnScope st) 3 t0C (tE 0) := (SE.tup (.cons (SE.list .nil) star_List (.cons (SE.list .nil) star_List (.cons (C.int (by kernel_rfl)) star_Constant .nil))))
def t1C : EM := (E.tup [(E.list false []), (E.list false [(E.const (.int 0 8))]), (E.const (.int 0 8))])
theorem t1P : SE G nm (fnScope st) 3 t1C (tE 1) := (SE.tup (.cons (SE.list .nil) star_List (.cons (SE.list (.cons (C.int (by kernel_rfl)) star_Constant .nil)) star_List (.cons (C.int (by kernel_rfl)) star_Constant .nil))))
def t2C : EM := (E.tup [(E.list false []), (E.list false [(E.const (.int 11 8))]), (E.const (.int 0 8))])
theorem t2P : SE G nm (fnScope st) 3 t2C (tE 2) := (SE.tup (.cons (SE.list .nil) star_List (.cons (SE.list (.cons (C.int (by kernel_rfl)) star_Constant .nil)) star_List (.cons (C.int (by kernel_rfl)) star_Constant .nil))))
def t3C : EM := (E.tup [(E.list false [(E.const (.int 10 8)), (E.const (.int 1 8))]), (E.list false [(E.const (.int 11 8)), (E.const (.int 0 8))]), (E.const (.int 0 8))])
theorem t3P : SE G nm (fnScope st) 3 t3C (tE 3) := (SE.tup (.cons (SE.list (.cons (C.int (by kernel_rfl)) star_Constant (.cons (C.int (by kernel_rfl)) star_Constant .nil))) star_List (.cons (SE.list (.cons (C.int (by kernel_rfl)) star_Constant (.cons (C.int (by kernel_rfl)) star_Constant .nil))) star_List (.cons (C.int (by kernel_rfl)) star_Constant .nil))))
theorem tS (k : Nat) (h : ∃ es j p, tE k = .Tuple es j p) : ∀ env r, starEach (tE k :: r) env = (false, eval (tE k) env) :: starEach r env := by
  obtain ⟨es, j, p, e⟩ := h
  rw [e]; exact star_Tuple
theorem s0 : ∀ env r, starEach (tE 0 :: r) env = (false, eval (tE 0) env) :: starEach r env := tS 0 ⟨_, _, _, rfl⟩
theorem s1 : ∀ env r, starEach (tE 1 :: r) env = (false, eval (tE 1) env) :: starEach r env := tS 1 ⟨_, _, _, rfl⟩
theorem s2 : ∀ env r, starEach (tE 2 :: r) env = (false, eval (tE 2) env) :: starEach r env := tS 2 ⟨_, _, _, rfl⟩
theorem s3 : ∀ env r, starEach (tE 3 :: r) env = (false, eval (tE 3) env) :: starEach r env := tS 3 ⟨_, _, _, rfl⟩
theorem itL : SE G nm (fnScope st) 3 (E.list false [t0C, t1C, t2C, t3C]) (.List [tE 0, tE 1, tE 2, tE 3] itPos) := @SE.list4 G (fnScope st) 3 nm false t0C t1C t2C t3C (tE 0) (tE 1) (tE 2) (tE 3) itPos t0P t1P t2P t3P s0 s1 s2 s3
theorem itQ : SI G nm (fnScope st) 3 (E.iter (E.list false [t0C, t1C, t2C, t3C])) (.List [tE 0, tE 1, tE 2, tE 3] itPos) := @SI.of G nm (fnScope st) 3 (E.list false [t0C, t1C, t2C, t3C]) (.List [tE 0, tE 1, tE 2, tE 3] itPos) (@itL G)
theorem _root_.Mine.SI.tr {f : IM} {nm : List Str} {e e' : Expr} (h : e = e') (H : SI G nm sc d f e') : SI G nm sc d f e := h ▸ H
theorem itP : SI G nm (fnScope st) 3 (E.iter (E.list false [t0C, t1C, t2C, t3C])) itE := @SI.tr G (fnScope st) 3 (E.iter (E.list false [t0C, t1C, t2C, t3C])) nm itE (.List [tE 0, tE 1, tE 2, tE 3] itPos) itE_eq (@itQ G)
def tgE : Expr := match (fnBody st) with | .For t _ .. :: _ => t | _ => .Tuple [] 0 ⟨0, 0, 0, 0⟩
def bdE : List Stmt := match (fnBody st) with | .For _ _ b .. :: _ => b | _ => []
def foPos : Pos := match (fnBody st) with | .For _ _ _ _ p :: _ => p | _ => ⟨0, 0, 0, 0⟩
def reE : List Stmt := match (fnBody st) with | _ :: r => r | _ => []
theorem st_eq : fnBody st = .For tgE itE bdE [] foPos :: reE := by kernel_rfl
theorem tgP : TgtOk nm (fnScope st) (.tup [2, 3, 4]) tgE := (TgtOk.tup (.cons (C.slot nd (by kernel_rfl)) (.cons (C.slot nd (by kernel_rfl)) (.cons (C.slot nd (by kernel_rfl)) .nil))))
def bdC : SM := (S.seq (S.asg 5 (E.call (closedCall f_law_lead.g) [(E.bin (pAdd false) (E.loc 0) (E.loc 2)), (E.loc 1)])) (S.seq (S.asg 6 (E.call (closedCall f_law_lead.g) [(E.bin (pAdd false) (E.loc 0) (E.loc 3)), (E.bin (pAdd false) (E.loc 1) (E.loc 4))])) (S.ite (T.or (T.val (E.bin pIsNot (E.meth (rcInst 100) (fun led vs => f_equal.g vs led) (E.loc 5) [(E.loc 6)]) (E.const (.bool false)))) (T.val (E.bin pIsNot (E.meth (rcInst 100) (fun led vs => f_equal.g vs led) (E.loc 6) [(E.loc 5)]) (E.const (.bool false))))) (S.ret (E.const (.bool false))) S.done)))
theorem bdP (HK : G.K = frag.heap_1 G.w.params) : SB G nm (fnScope st) 3 bdC bdE :=
  (SB.cons (SS.asg (C.defd (by kernel_rfl) (by rw [HK]; exact kg__law_lead) (by rw [HK]; exact kf__law_lead) (.cons (SE.bin (C.loc (by kernel_rfl)) (C.loc (by kernel_rfl)) SP2.add) star_BinOp (.cons (C.loc (by kernel_rfl)) star_Name .nil)) (SPN.closed (SF.call (SF.up (f_law_lead.sf HK) (by decide))))) (C.slot nd (by kernel_rfl)) (fun _ _ => rfl)) (SB.cons (SS.asg (C.defd (by kernel_rfl) (by rw [HK]; exact kg__law_lead) (by rw [HK]; exact kf__law_lead) (.cons (SE.bin (C.loc (by kernel_rfl)) (C.loc (by kernel_rfl)) SP2.add) star_BinOp (.cons (SE.bin (C.loc (by kernel_rfl)) (C.loc (by kernel_rfl)) SP2.add) star_BinOp .nil)) (SPN.closed (SF.call (SF.up (f_law_lead.sf HK) (by decide))))) (C.slot nd (by kernel_rfl)) (fun _ _ => rfl)) (SB.one (SS.ite (ST.or2 (ST.cmp (C.meth (C.loc (by kernel_rfl)) (meth_equal HK) (C.fn (by rw [HK]; exact kf_equal)) (.cons (C.loc (by kernel_rfl)) star_Name .nil) (SF.call (SF.up (f_equal.sf HK) (by decide))) (fun _ => rfl)) SE.boolc SP2.isNot rfl) (ST.cmp (C.meth (C.loc (by kernel_rfl)) (meth_equal HK) (C.fn (by rw [HK]; exact kf_equal)) (.cons (C.loc (by kernel_rfl)) star_Name .nil) (SF.call (SF.up (f_equal.sf HK) (by decide))) (fun _ => rfl)) SE.boolc SP2.isNot rfl)) (SB.one (SS.ret SE.boolc)) SB.nil))))
theorem reP : SB G nm (fnScope st) 3 (S.ret (E.const (.bool true))) reE := (SB.one (SS.ret SE.boolc))
def b : SM := S.seq (S.for (E.iter (E.list false [t0C, t1C, t2C, t3C])) (.tup [2, 3, 4]) bdC) (S.ret (E.const (.bool true)))
theorem _root_.Mine.SS.forList {nm : List Str} {f : IM} {t : Tgt} {body : SM} {target iter : Expr} {sts : List Stmt} {pos p : Pos} {es : List Expr} (h : iter = .List es p) (hi : SI G nm sc d f iter) (ht : TgtOk nm sc t target) (hb : SB G nm sc d body sts) :
    SS G nm sc d (S.for f t body) (.For target iter sts [] pos) := by
  subst h
  exact SS.for hi ht hb (fun _ _ => rfl)
theorem _root_.Mine.SB.tr {nm : List Str} {f : SM} {e e' : List Stmt} (h : e = e') (H : SB G nm sc d f e') : SB G nm sc d f e := h ▸ H
theorem sb0 (HK : G.K = frag.heap_1 G.w.params) : SB G nm (fnScope st) 3 b (.For tgE itE bdE [] foPos :: reE) :=
  @SB.cons G nm (fnScope st) 3 (S.for (E.iter (E.list false [t0C, t1C, t2C, t3C])) (.tup [2, 3, 4]) bdC) (S.ret (E.const (.bool true))) (.For tgE itE bdE [] foPos) reE
   (@SS.forList G (fnScope st) 3 nm (E.iter (E.list false [t0C, t1C, t2C, t3C])) (.tup [2, 3, 4]) bdC tgE itE bdE foPos itPos [tE 0, tE 1, tE 2, tE 3] itE_eq (@itP G) (@tgP) (@bdP G HK)) (@reP G)
theorem sb (HK : G.K = frag.heap_1 G.w.params) : SB G nm (fnScope st) 3 b (fnBody st) := @SB.tr G (fnScope st) 3 nm b (fnBody st) (.For tgE itE bdE [] foPos :: reE) st_eq (@sb0 G HK)
theorem fq {P : Params} : FnQ (frag.heap_1 P) 332 (fnScope st) (fnBody st) := ⟨by kernel_rfl, by kernel_rfl, by kernel_rfl, by kernel_rfl, by kernel_rfl, by kernel_rfl⟩
theorem fit : Fit ["runs", "behind"] nm 5 (fnScope st) := ⟨by kernel_rfl, by kernel_rfl, by kernel_rfl, by kernel_rfl, by kernel_rfl, by kernel_rfl, by kernel_rfl, by decide +kernel⟩
theorem bq (HK : G.K = frag.heap_1 G.w.params) : BindQ G 332 2 [] ["runs", "behind"] [] := by
  refine .of (es := []) (fun c h => .nil) fun us S hl => ?_
  obtain ⟨u0, u1, rfl⟩ := len2 hl
  rw [HK]; kernel_rfl
def g : FM := defG 2 5 [] b
theorem fqG (HK : G.K = frag.heap_1 G.w.params) : FnQ G.K 332 (fnScope st) (fnBody st) := by rw [HK]; exact fq
theorem sf (HK : G.K = frag.heap_1 G.w.params) : SF G 4 g 332 := @SFq.plain G nm (fnScope st) 3 332 2 ["runs", "behind"] [] 5 (fnBody st) b (@fqG G HK) (@bq G HK) fit nd (@sb G HK) rfl
end f_law_apart
end Mine
end
-- part F34
section
set_option maxHeartbeats 4000000
namespace Mine
variable {G : Glo} {d : Nat}
theorem kg__law_apart {P : Params} : nsIn (frag.heap_1 P) mainGlobals "_law_apart" = some (some (.ref 332)) := by kernel_rfl
theorem kg__law_board {P : Params} : nsIn (frag.heap_1 P) mainGlobals "_law_board" = some (some (.ref 315)) := by kernel_rfl
theorem kg__law_drawn {P : Params} : nsIn (frag.heap_1 P) mainGlobals "_law_drawn" = some (some (.ref 308)) := by kernel_rfl
theorem kg__law_holds {P : Params} : nsIn (frag.heap_1 P) mainGlobals "_law_holds" = some (some (.ref 382)) := by kernel_rfl
theorem kf__law_drawn {P : Params} : funcIn (frag.heap_1 P) 308 = true := by kernel_rfl
theorem kf_law {P : Params} : funcIn (frag.heap_1 P) 387 = true := by kernel_rfl
/-- the four sums, with one bound for all -/
def wide1 (N : Nat) : AV → AV
  | .int a _ => .int a N
  | v => v
def wideOk (N : Nat) : AV → Bool
  | .int _ n => Nat.ble n N
  | _ => false
def widen (N : Nat) : AV → Option AV
  | .list xs => (match xs.all (wideOk N) with | true => some (.list (xs.map (wide1 N))) | false => none)
  | _ => none
def pnWiden (N : Nat) (p : PN) : PN := fun led vs => match p led vs with
  | some (v, led') => (match widen N v with | some v' => some (v', led') | none => none)
  | none => none
theorem VR.wide1 {c : Cf} {h : Heap} {N : Nat} {v : AV} {u : Value} (x : VR c h v u) (hi : wideOk N v = true) : VR c h (Mine.wide1 N v) u := by
  cases x with
  | int e => exact .int (Nat.lt_of_lt_of_le e (Nat.pow_le_pow_right (by decide) (Nat.le_of_ble_eq_true hi)))
  | _ => cases hi
theorem VRs.wide1 {c : Cf} {h : Heap} {N : Nat} : ∀ {xs : List AV} {vs : List Value}, VRs c h xs vs → xs.all (wideOk N) = true → VRs c h (xs.map (Mine.wide1 N)) vs
  | _, _, .nil, _ => .nil
  | _, _, .cons x r, e => by
    rw [List.all_cons, Bool.and_eq_true] at e
    exact .cons (x.wide1 e.1) (r.wide1 e.2)
theorem VR.widen {c : Cf} {h : Heap} {N : Nat} {v v' : AV} {u : Value} (x : VR c h v u) (e : Mine.widen N v = some v') : VR c h v' u := by
  unfold Mine.widen at e
  split at e
  · split at e
    · rename_i q
      cases e
      cases x with
      | list f l r => exact .list f l (r.wide1 q)
    · cases e
  · cases e
theorem SPN.widen {N : Nat} {p : PN} {t : List Value → Sem Value} (h : SPN G d p t) : SPN G d (pnWiden N p) t := by
  intro A c led s vs us v led' gA R hv q
  unfold pnWiden at q
  split at q
  · rename_i v₁ led₁ q1
    split at q
    · rename_i v' q2
      cases q
      exact (h A c led s vs us v₁ _ gA R hv q1).mono fun u s' ⟨c', st, R', hv'⟩ => ⟨c', st, R', hv'.widen q2⟩
    · cases q
  · cases q
namespace f_law_drawn
def st : Stmt := stAt 19
def nm : List Str := ["script", "sums", "place"]
theorem nd : nm.Nodup := by decide +kernel
def b : SM := (S.seq (S.asg 1 (E.list true [(E.const (.int 5 8)), (E.const (.int 52 8)), (E.const (.int 40 8)), (E.const (.int 1 8))])) (S.seq (S.for (E.iter (E.call pnRange [(E.call pnLen [(E.loc 0)])])) (.one 2) (S.augItem (pInt (· + ·) (fun n m => bmax n m + 1) fun _ _ _ _ => true) (E.loc 1) (E.bin pMod (E.loc 2) (E.const (.int 4 8))) (E.bin pItem (E.loc 0) (E.loc 2)))) (S.ret (E.loc 1))))
theorem sb (HK : G.K = frag.heap_1 G.w.params) : SB G nm (fnScope st) 0 b (fnBody st) :=
  (SB.cons (SS.asg (SE.list (.cons (C.int (by kernel_rfl)) star_Constant (.cons (C.int (by kernel_rfl)) star_Constant (.cons (C.int (by kernel_rfl)) star_Constant (.cons (C.int (by kernel_rfl)) star_Constant .nil))))) (C.slot nd (by kernel_rfl)) (fun _ _ => rfl)) (SB.cons (SS.for (SI.of (C.type (by kernel_rfl) (by rw [HK]; exact kg_range) (by kernel_rfl) (.cons (C.builtin (by kernel_rfl) (by rw [HK]; exact kg_len) (by kernel_rfl) (.cons (C.loc (by kernel_rfl)) star_Name .nil) SPN.len) star_Call .nil) SPN.range)) (TgtOk.one (C.slot nd (by kernel_rfl))) (SB.one (SS.augItem (SE.item (C.loc (by kernel_rfl)) (C.loc (by kernel_rfl)) (SubOk.item (fun _ _ => rfl))) (C.loc (by kernel_rfl)) (SE.bin (C.loc (by kernel_rfl)) (C.int (by kernel_rfl)) SP2.mod) SP2.iaddInt (fun _ _ _ => rfl))) (fun _ _ => rfl)) (SB.one (SS.ret (C.loc (by kernel_rfl))))))
theorem fq {P : Params} : FnQ (frag.heap_1 P) 308 (fnScope st) (fnBody st) := ⟨by kernel_rfl, by kernel_rfl, by kernel_rfl, by kernel_rfl, by kernel_rfl, by kernel_rfl⟩
theorem fit : Fit ["script"] nm 2 (fnScope st) := ⟨by kernel_rfl, by kernel_rfl, by kernel_rfl, by kernel_rfl, by kernel_rfl, by kernel_rfl, by kernel_rfl, by decide +kernel⟩
theorem bq (HK : G.K = frag.heap_1 G.w.params) : BindQ G 308 1 [] ["script"] [] := by
  refine .of (es := []) (fun c h => .nil) fun us S hl => ?_
  obtain ⟨u0, rfl⟩ := len1 hl
  rw [HK]; kernel_rfl
def g : FM := defG 1 2 [] b
theorem sf (HK : G.K = frag.heap_1 G.w.params) : SF G 1 g 308 := SFq.plain (by rw [HK]; exact fq) (bq HK) fit nd (sb HK) rfl
end f_law_drawn
namespace f_law
def st : Stmt := stAt 32
def nm : List Str := ["script", "sums", "one", "two", "behind", "first", "second"]
theorem nd : nm.Nodup := by decide +kernel
def b : SM := (S.seq (S.asg 1 (E.call (pnWiden 2097152 (closedCall f_law_drawn.g)) [(E.loc 0)])) (S.seq (S.asg 2 (E.call (closedCall f_law_board.g) [(E.bin pItem (E.loc 1) (E.const (.int 1 8)))])) (S.seq (S.asg 3 (E.call (closedCall f_law_board.g) [(E.bin pItem (E.loc 1) (E.const (.int 2 8)))])) (S.seq (S.asg 4 (E.bin pMod (E.bin pItem (E.loc 1) (E.const (.int 3 8))) (E.const (.int 3 8)))) (S.seq (S.asg 5 (E.call (closedCall f_law_lead.g) [(E.call (closedCall f_law_runs.g) [(E.loc 2)]), (E.loc 4)])) (S.seq (S.asg 6 (E.call (closedCall f_law_lead.g) [(E.comp (E.iter (E.call pnRange [(E.const (.int 3 8))])) [none, some 3] (.one 0) (actLast [] (E.bin (pAdd false) (E.bin pItem (E.loc 1) (E.bin pSub (E.const (.int 2 8)) (E.loc 0))) (E.loc 0))) false), (E.loc 4)])) (S.seq (S.ite (T.val (E.bin pIsNot (E.meth (rcInst 100) (fun led vs => f_equal.g vs led) (E.loc 5) [(E.loc 6)]) (E.bin pEq (E.call (closedCall f_law_due.g) [(E.loc 2)]) (E.call (closedCall f_law_due.g) [(E.loc 3)])))) (S.ret (E.const (.bool false))) S.done) (S.seq (S.ite (T.not (T.val (E.call (closedCall f_law_apart.g) [(E.call (closedCall f_law_runs.g) [(E.loc 2)]), (E.loc 4)]))) (S.ret (E.const (.bool false))) S.done) (S.ret (E.and (E.call (closedCall f_law_holds.g) [(E.loc 2), (E.loc 5), (E.bin pItem (E.loc 1) (E.const (.int 0 8)))]) (E.call (closedCall f_law_holds.g) [(E.loc 3), (E.loc 6), (E.bin pItem (E.loc 1) (E.const (.int 0 8)))])))))))))))
theorem sb (HK : G.K = frag.heap_1 G.w.params) : SB G nm (fnScope st) 5 b (fnBody st) :=
  (SB.cons (SS.asg (C.defd (by kernel_rfl) (by rw [HK]; exact kg__law_drawn) (by rw [HK]; exact kf__law_drawn) (.cons (C.loc (by kernel_rfl)) star_Name .nil) (SPN.widen (SPN.closed (SF.call (SF.up (f_law_drawn.sf HK) (by decide)))))) (C.slot nd (by kernel_rfl)) (fun _ _ => rfl)) (SB.cons (SS.asg (C.defd (by kernel_rfl) (by rw [HK]; exact kg__law_board) (by rw [HK]; exact kf__law_board) (.cons (SE.item (C.loc (by kernel_rfl)) (C.int (by kernel_rfl)) (SubOk.item (fun _ _ => rfl))) star_Subscript .nil) (SPN.closed (SF.call (SF.up (f_law_board.sf HK) (by decide))))) (C.slot nd (by kernel_rfl)) (fun _ _ => rfl)) (SB.cons (SS.asg (C.defd (by kernel_rfl) (by rw [HK]; exact kg__law_board) (by rw [HK]; exact kf__law_board) (.cons (SE.item (C.loc (by kernel_rfl)) (C.int (by kernel_rfl)) (SubOk.item (fun _ _ => rfl))) star_Subscript .nil) (SPN.closed (SF.call (SF.up (f_law_board.sf HK) (by decide))))) (C.slot nd (by kernel_rfl)) (fun _ _ => rfl)) (SB.cons (SS.asg (SE.bin (SE.item (C.loc (by kernel_rfl)) (C.int (by kernel_rfl)) (SubOk.item (fun _ _ => rfl))) (C.int (by kernel_rfl)) SP2.mod) (C.slot nd (by kernel_rfl)) (fun _ _ => rfl)) (SB.cons (SS.asg (C.defd (by kernel_rfl) (by rw [HK]; exact kg__law_lead) (by rw [HK]; exact kf__law_lead) (.cons (C.defd (by kernel_rfl) (by rw [HK]; exact kg__law_runs) (by rw [HK]; exact kf__law_runs) (.cons (C.loc (by kernel_rfl)) star_Name .nil) (SPN.closed (SF.call (SF.up (f_law_runs.sf HK) (by decide))))) star_Call (.cons (C.loc (by kernel_rfl)) star_Name .nil)) (SPN.closed (SF.call (SF.up (f_law_lead.sf HK) (by decide))))) (C.slot nd (by kernel_rfl)) (fun _ _ => rfl)) (SB.cons (SS.asg (C.defd (by kernel_rfl) (by rw [HK]; exact kg__law_lead) (by rw [HK]; exact kf__law_lead) (.cons (C.comp1 (nm' := ["place", "two"]) (by kernel_rfl) (SI.of (C.type (by kernel_rfl) (by rw [HK]; exact kg_range) (by kernel_rfl) (.cons (C.int (by kernel_rfl)) star_Constant .nil) SPN.range)) (TgtL.one (C.slotL (by decide +kernel) (by kernel_rfl))) .nil (SE.bin (SE.item (C.loc (by kernel_rfl)) (SE.bin (C.int (by kernel_rfl)) (C.loc (by kernel_rfl)) SP2.sub) (SubOk.item (fun _ _ => rfl))) (C.loc (by kernel_rfl)) SP2.add) (fun _ _ => rfl)) star_ListComp (.cons (C.loc (by kernel_rfl)) star_Name .nil)) (SPN.closed (SF.call (SF.up (f_law_lead.sf HK) (by decide))))) (C.slot nd (by kernel_rfl)) (fun _ _ => rfl)) (SB.cons (SS.ite (ST.cmp (C.meth (C.loc (by kernel_rfl)) (meth_equal HK) (C.fn (by rw [HK]; exact kf_equal)) (.cons (C.loc (by kernel_rfl)) star_Name .nil) (SF.call (SF.up (f_equal.sf HK) (by decide))) (fun _ => rfl)) (SE.cmp (C.defd (by kernel_rfl) (by rw [HK]; exact kg__law_due) (by rw [HK]; exact kf__law_due) (.cons (C.loc (by kernel_rfl)) star_Name .nil) (SPN.closed (SF.call (SF.up (f_law_due.sf HK) (by decide))))) (C.defd (by kernel_rfl) (by rw [HK]; exact kg__law_due) (by rw [HK]; exact kf__law_due) (.cons (C.loc (by kernel_rfl)) star_Name .nil) (SPN.closed (SF.call (SF.up (f_law_due.sf HK) (by decide))))) SP2.eq rfl) SP2.isNot rfl) (SB.one (SS.ret SE.boolc)) SB.nil) (SB.cons (SS.ite (ST.not (ST.val (C.defd (by kernel_rfl) (by rw [HK]; exact kg__law_apart) (by rw [HK]; exact kf__law_apart) (.cons (C.defd (by kernel_rfl) (by rw [HK]; exact kg__law_runs) (by rw [HK]; exact kf__law_runs) (.cons (C.loc (by kernel_rfl)) star_Name .nil) (SPN.closed (SF.call (SF.up (f_law_runs.sf HK) (by decide))))) star_Call (.cons (C.loc (by kernel_rfl)) star_Name .nil)) (SPN.closed (SF.call (SF.up (f_law_apart.sf HK) (by decide))))) (fun _ _ => rfl))) (SB.one (SS.ret SE.boolc)) SB.nil) (SB.one (SS.ret (SE.and (C.defd (by kernel_rfl) (by rw [HK]; exact kg__law_holds) (by rw [HK]; exact kf__law_holds) (.cons (C.loc (by kernel_rfl)) star_Name (.cons (C.loc (by kernel_rfl)) star_Name (.cons (SE.item (C.loc (by kernel_rfl)) (C.int (by kernel_rfl)) (SubOk.item (fun _ _ => rfl))) star_Subscript .nil))) (SPN.closed (SF.call (SF.up (f_law_holds.sf HK) (by decide))))) (C.defd (by kernel_rfl) (by rw [HK]; exact kg__law_holds) (by rw [HK]; exact kf__law_holds) (.cons (C.loc (by kernel_rfl)) star_Name (.cons (C.loc (by kernel_rfl)) star_Name (.cons (SE.item (C.loc (by kernel_rfl)) (C.int (by kernel_rfl)) (SubOk.item (fun _ _ => rfl))) star_Subscript .nil))) (SPN.closed (SF.call (SF.up (f_law_holds.sf HK) (by decide))))))))))))))))
theorem fq {P : Params} : FnQ (frag.heap_1 P) 387 (fnScope st) (fnBody st) := ⟨by kernel_rfl, by kernel_rfl, by kernel_rfl, by kernel_rfl, by kernel_rfl, by kernel_rfl⟩
theorem fit : Fit ["script"] nm 6 (fnScope st) := ⟨by kernel_rfl, by kernel_rfl, by kernel_rfl, by kernel_rfl, by kernel_rfl, by kernel_rfl, by kernel_rfl, by decide +kernel⟩
theorem bq (HK : G.K = frag.heap_1 G.w.params) : BindQ G 387 1 [] ["script"] [] := by
  refine .of (es := []) (fun c h => .nil) fun us S hl => ?_
  obtain ⟨u0, rfl⟩ := len1 hl
  rw [HK]; kernel_rfl
def g : FM := defG 1 6 [] b
theorem sf (HK : G.K = frag.heap_1 G.w.params) : SF G 6 g 387 := SFq.plain (by rw [HK]; exact fq) (bq HK) fit nd (sb HK) rfl
end f_law
end Mine
end
-- part P1
section
set_option maxHeartbeats 4000000
namespace Mine
-- ## the law in plain Lean: how the parts fit
theorem closedCall_ok {g : FM} {vs : List AV} {v v' : AV} {led led' : List AO} (hc : closeds vs = true) (hg : g vs [] = some (v, led')) (hf : freeze led' 12 v = some v') : closedCall g led vs = some (v', led) := by
  simp [closedCall, hc, hg, hf]
theorem holds_ok {l t : List AV} {f : List (Nat × AV)} {x P w : Int} {n pb qb wb wb' : Nat} {D R : AV}
    (hc : closedf f = true) (hl : closeds l = true)
    (hT : closedCall f_law_told.g [] [.list l] = some (.list t, [])) (hD : closedCall f_law_due.g [] [.list l] = some (D, []))
    (hne : pNe [] (.list t) D = some (.bool false, []))
    (hP : closedCall f_law_placed.g [] [.list t, .int x n] = some (.int P pb, []))
    (hQ : closedCall f_law_product.g [] [.finst 100 f, .int x n] = some (.int P qb, []))
    (hW : closedCall f_law_ways.g [] [.finst 100 f] = some (.int w wb, []))
    (hR : closedCall f_law_runs.g [] [.list l] = some (R, []))
    (hB : closedCall f_law_boards.g [] [R] = some (.int w wb', [])) :
    closedCall f_law_holds.g [] [.list l, .finst 100 f, .int x n] = some (.bool true, []) := by
  have e1 : pNe [] (.int P pb) (.int P qb) = some (.bool false, []) := by
    simp [pNe, eqAV]
  have e2 : pEq [] (.int w wb') (.int w wb) = some (.bool true, []) := by
    simp [pEq, eqAV]
  refine closedCall_ok (led' := []) (by simp [closeds, closed, hc, hl]) (v := .bool true) ?_ rfl
  show fnOfBody 2 f_law_holds.b [.list l, .finst 100 f, .int x n] [] = _
  simp only [fnOfBody, f_law_holds.b, S.seq, S.asg, E.call, E.args, E.loc, List.replicate, List.cons_append, List.nil_append, List.getElem?_cons_zero, List.getElem?_cons_succ, hT, List.set, S.ite, T.val, E.bin, hD, hne, S.done, hP, hQ, e1, hW, E.and, S.ret, E.const, pnIsInt, hR, hB, e2]
theorem law_ok {s l1 l2 f2 : List AV} {g1 g2 : List (Nat × AV)} {x k : Int} {n m : Nat} {R1 D1 D2 P Q R : AV} {e : Bool}
    (hS : pnWiden 2097152 (closedCall f_law_drawn.g) [] [.list s] = some (.list [.int x n, P, Q, R], []))
    (hB1 : closedCall f_law_board.g [] [P] = some (.list l1, []))
    (hB2 : closedCall f_law_board.g [] [Q] = some (.list l2, []))
    (hk : pMod [] R (.int 3 8) = some (.int k m, []))
    (hR1 : closedCall f_law_runs.g [] [.list l1] = some (R1, []))
    (hF1 : closedCall f_law_lead.g [] [R1, .int k m] = some (.finst 100 g1, []))
    (hR2 : E.comp (E.iter (E.call pnRange [(E.const (.int 3 8))])) [none, some 3] (.one 0) (actLast [] (E.bin (pAdd false) (E.bin pItem (E.loc 1) (E.bin pSub (E.const (.int 2 8)) (E.loc 0))) (E.loc 0))) false
      [.list s, .list [.int x n, P, Q, R], .list l1, .list l2, .int k m, .finst 100 g1, .unb] [] = some (.list f2, []))
    (hF2 : closedCall f_law_lead.g [] [.list f2, .int k m] = some (.finst 100 g2, []))
    (hD1 : closedCall f_law_due.g [] [.list l1] = some (D1, []))
    (hD2 : closedCall f_law_due.g [] [.list l2] = some (D2, []))
    (hE : f_equal.g [.finst 100 g1, .finst 100 g2] [] = some (.bool e, []))
    (hDe : pEq [] D1 D2 = some (.bool e, []))
    (hA : closedCall f_law_apart.g [] [R1, .int k m] = some (.bool true, []))
    (hH1 : closedCall f_law_holds.g [] [.list l1, .finst 100 g1, .int x n] = some (.bool true, []))
    (hH2 : closedCall f_law_holds.g [] [.list l2, .finst 100 g2, .int x n] = some (.bool true, [])) :
    f_law.g [.list s] [] = some (.bool true, []) := by
  have j1 : pItem [] (.list [.int x n, P, Q, R]) (.int 1 8) = some (P, []) := rfl
  have j2 : pItem [] (.list [.int x n, P, Q, R]) (.int 2 8) = some (Q, []) := rfl
  have j3 : pItem [] (.list [.int x n, P, Q, R]) (.int 3 8) = some (R, []) := rfl
  have j0 : pItem [] (.list [.int x n, P, Q, R]) (.int 0 8) = some (.int x n, []) := rfl
  have p1 : pIsNot [] (.bool e) (.bool e) = some (.bool false, []) := by cases e <;> rfl
  have rc : rcInst 100 [] (.finst 100 g1) = true := rfl
  show fnOfBody 6 f_law.b [.list s] [] = _
  unfold f_law.b
  generalize E.comp (E.iter (E.call pnRange [(E.const (.int 3 8))])) [none, some 3] (.one 0) (actLast [] (E.bin (pAdd false) (E.bin pItem (E.loc 1) (E.bin pSub (E.const (.int 2 8)) (E.loc 0))) (E.loc 0))) false = C2 at hR2 ⊢
  simp only [fnOfBody, S.seq, S.asg, E.call, E.args, List.replicate, List.cons_append, List.nil_append, List.set, E.bin, E.loc, E.const, List.getElem?_cons_zero, List.getElem?_cons_succ, hS, j1, hB1, j2, hB2, j3, hk, hR1, hF1, hR2, hF2,
    S.ite, T.val, E.meth, rc, hD1, hD2, hE, hDe, p1, S.done, T.not, hA, Bool.not_true, S.ret, E.and, j0, hH1, hH2]
end Mine
end
-- part P2
section
set_option maxHeartbeats 4000000
namespace Mine
def iL (K : Nat) (l : List Int) : AV := .list (l.map fun i => .int i K)
def cL (cs : List Nat) : List AV := cs.map fun (c : Nat) => .int (Int.ofNat c) (8 + c)
def leadF (raw : List Nat) (a b : Int) (na nb : Nat) (s : Bool) (cs : List Nat) (k : Int) (nk : Nat) : List (Nat × AV) := [(0, .str raw), (1, .int a na), (2, .int b nb), (3, .tup [.tup (cL cs), .int k nk]), (4, .bool s)]
def val (o : Option (AV × List AO)) : AV := match o with | some (v, []) => v | _ => .unb
def isv (o : Option (AV × List AO)) : Bool := match o with | some (_, []) => true | _ => false
theorem isv_val {o : Option (AV × List AO)} (h : isv o = true) : o = some (val o, []) := by
  unfold isv at h
  split at h
  · rfl
  · cases h
def placedI (r0 r1 r2 r3 x : Int) : Int := 0 + r3 * 1 + r2 * (1 * (x - 0)) + r1 * (1 * (x - 0) * (x - 1)) + r0 * (1 * (x - 0) * (x - 1) * (x - 2))
def prodI : List Nat → Int → Int → Int → Int
  | [], _, _, acc => acc
  | c :: cs, x, run, acc => prodI cs x (run + 1) (acc * (x + (run - 2)) ^ c)
def bitsOf (o : Option (AV × List AO)) : Nat := match o with | some (.int _ n, _) => n | _ => 0
theorem equal_ok {v1 v2 r1 a1 b1 s1 r2 a2 b2 s2 : AV} {e : Bool} (h : pEq [] v1 v2 = some (.bool e, [])) : f_equal.g [.finst 100 [(0, r1), (1, a1), (2, b1), (3, v1), (4, s1)], .finst 100 [(0, r2), (1, a2), (2, b2), (3, v2), (4, s2)]] [] = some (.bool e, []) := by
  have p1 : pAttr 100 3 [] (.finst 100 [(0, r1), (1, a1), (2, b1), (3, v1), (4, s1)]) = some (v1, []) := rfl
  have p2 : pAttr 100 3 [] (.finst 100 [(0, r2), (1, a2), (2, b2), (3, v2), (4, s2)]) = some (v2, []) := rfl
  show fnOfBody 0 f_equal.b _ [] = _
  simp only [fnOfBody, f_equal.b, S.ret, E.bin, E.un, E.loc, List.replicate, List.append_nil, List.getElem?_cons_zero, List.getElem?_cons_succ, p1, p2, h]
end Mine
end
-- part P3
section
set_option maxHeartbeats 4000000
namespace Mine
def fwd : List Int → List Int
  | [a, b, c] => [a + 2, b + 1, c]
  | l => l
def rev3 : List Int → List Int
  | [a, b, c] => [c, b + 1, a + 2]
  | l => l
def runsV (l : List Int) : AV := iL 2097154 (fwd l)
def revV (l : List Int) : AV := iL 2097153 (rev3 l)
def countN (v : Nat) : List Nat → Nat
  | [] => 0
  | x :: r => (match Nat.beq x v with | true => 1 | false => 0) + countN v r
def upTo (rs : List Nat) : Nat → List Nat → List Nat
  | 0, acc => acc
  | n + 1, acc => upTo rs n (countN n rs :: acc)
def cntOf (l : List Int) : List Nat := let rs := (fwd l).map Int.toNat; upTo rs (rs.foldl Nat.max 0 + 1) []
def fld (j : Nat) (o : Option (AV × List AO)) : AV := match o with
  | some (.finst _ fs, _) => (match fget fs j with | some v => v | none => .unb)
  | _ => .unb
def strOf : AV → List Nat
  | .str s => s
  | _ => []
def intOfV : AV → Int
  | .int i _ => i
  | _ => 0
def bitOfV : AV → Nat
  | .int _ n => n
  | _ => 0
def boolOf : AV → Bool
  | .bool b => b
  | _ => false
/-- a lead as it came out, with the counts and the behind that it shall have -/
def leadV (o : Option (AV × List AO)) (cs : List Nat) (k : Nat) : List (Nat × AV) := leadF (strOf (fld 0 o)) (intOfV (fld 1 o)) (intOfV (fld 2 o)) (bitOfV (fld 1 o)) (bitOfV (fld 2 o)) (boolOf (fld 4 o)) cs (Int.ofNat k) (8 + k)
def LeadIs (o : Option (AV × List AO)) (cs : List Nat) (k : Nat) : Prop := o = some (.finst 100 (leadV o cs k), [])
structure BoardOk (l : List Int) (cs : List Nat) : Prop where
  runs : closedCall f_law_runs.g [] [iL 2097152 l] = some (runsV l, [])
  lead1 : ∀ k < 3, LeadIs (closedCall f_law_lead.g [] [runsV l, .int (Int.ofNat k) 2097152]) cs k
  lead2 : ∀ k < 3, LeadIs (closedCall f_law_lead.g [] [revV l, .int (Int.ofNat k) 2097152]) cs k
  apart : ∀ k < 3, closedCall f_law_apart.g [] [runsV l, .int (Int.ofNat k) 2097152] = some (.bool true, [])
  due : isv (closedCall f_law_due.g [] [iL 2097152 l]) = true
  holds : ∀ raw a b na nb s k nk x, closedCall f_law_holds.g [] [iL 2097152 l, .finst 100 (leadF raw a b na nb s cs k nk), .int x 2097152] = some (.bool true, [])
theorem three {P : Nat → Prop} (h0 : P 0) (h1 : P 1) (h2 : P 2) : ∀ k < 3, P k
  | 0, _ => h0 | 1, _ => h1 | 2, _ => h2
  | k + 3, h => absurd h (by omega)
def intIs (o : Option (AV × List AO)) (i : Int) : Bool := match o with | some (.int j _, []) => decide (j = i) | _ => false
theorem beq_i {o : Option (AV × List AO)} {i : Int} (h : intIs o i = true) : ∃ n, o = some (.int i n, []) := by
  unfold intIs at h
  split at h
  · rw [decide_eq_true_eq] at h; subst h; exact ⟨_, rfl⟩
  · cases h

theorem b000_told : closedCall f_law_told.g [] [iL 2097152 [0, 0, 0]] = some (.list (cL [1, 0, 0, 0]), []) := by kernel_rfl
theorem b000_poly (x : Int) : placedI 1 0 0 0 x = prodI [1, 1, 1] x 0 1 := by
  simp only [placedI, prodI]
  grind
theorem b000_boards : intIs (closedCall f_law_boards.g [] [runsV [0, 0, 0]]) 1 = true := by kernel_rfl
theorem b000_apart : ∀ k < 3, closedCall f_law_apart.g [] [runsV [0, 0, 0], .int (Int.ofNat k) 2097152] = some (.bool true, []) := three (by kernel_rfl) (by kernel_rfl) (by kernel_rfl)
theorem b000 : BoardOk [0, 0, 0] [1, 1, 1] where
  runs := by kernel_rfl
  lead1 := three (by unfold LeadIs; kernel_rfl) (by unfold LeadIs; kernel_rfl) (by unfold LeadIs; kernel_rfl)
  lead2 := three (by unfold LeadIs; kernel_rfl) (by unfold LeadIs; kernel_rfl) (by unfold LeadIs; kernel_rfl)
  apart := b000_apart
  due := by kernel_rfl
  holds := fun raw a b na nb s k nk x => by
    obtain ⟨wb, hw⟩ := beq_i (o := closedCall f_law_ways.g [] [.finst 100 (leadF raw a b na nb s [1, 1, 1] k nk)]) (i := 1) (by kernel_rfl)
    obtain ⟨wb', hb⟩ := beq_i b000_boards
    have hP : closedCall f_law_placed.g [] [.list (cL [1, 0, 0, 0]), .int x 2097152] = some (.int (placedI 1 0 0 0 x) (bitsOf (closedCall f_law_placed.g [] [.list (cL [1, 0, 0, 0]), .int x 2097152])), []) := by kernel_rfl
    have hQ : closedCall f_law_product.g [] [.finst 100 (leadF raw a b na nb s [1, 1, 1] k nk), .int x 2097152] = some (.int (prodI [1, 1, 1] x 0 1) (bitsOf (closedCall f_law_product.g [] [.finst 100 (leadF raw a b na nb s [1, 1, 1] k nk), .int x 2097152])), []) := by kernel_rfl
    rw [b000_poly] at hP
    exact holds_ok (D := val (closedCall f_law_due.g [] [iL 2097152 [0, 0, 0]])) (R := runsV [0, 0, 0]) (by kernel_rfl) (by kernel_rfl) b000_told (isv_val (by kernel_rfl)) (by kernel_rfl) hP hQ hw (by kernel_rfl) hb

theorem b001_told : closedCall f_law_told.g [] [iL 2097152 [0, 0, 1]] = some (.list (cL [1, 1, 0, 0]), []) := by kernel_rfl
theorem b001_poly (x : Int) : placedI 1 1 0 0 x = prodI [0, 2, 1] x 0 1 := by
  simp only [placedI, prodI]
  grind
theorem b001_boards : intIs (closedCall f_law_boards.g [] [runsV [0, 0, 1]]) 1 = true := by kernel_rfl
theorem b001_apart : ∀ k < 3, closedCall f_law_apart.g [] [runsV [0, 0, 1], .int (Int.ofNat k) 2097152] = some (.bool true, []) := three (by kernel_rfl) (by kernel_rfl) (by kernel_rfl)
theorem b001 : BoardOk [0, 0, 1] [0, 2, 1] where
  runs := by kernel_rfl
  lead1 := three (by unfold LeadIs; kernel_rfl) (by unfold LeadIs; kernel_rfl) (by unfold LeadIs; kernel_rfl)
  lead2 := three (by unfold LeadIs; kernel_rfl) (by unfold LeadIs; kernel_rfl) (by unfold LeadIs; kernel_rfl)
  apart := b001_apart
  due := by kernel_rfl
  holds := fun raw a b na nb s k nk x => by
    obtain ⟨wb, hw⟩ := beq_i (o := closedCall f_law_ways.g [] [.finst 100 (leadF raw a b na nb s [0, 2, 1] k nk)]) (i := 1) (by kernel_rfl)
    obtain ⟨wb', hb⟩ := beq_i b001_boards
    have hP : closedCall f_law_placed.g [] [.list (cL [1, 1, 0, 0]), .int x 2097152] = some (.int (placedI 1 1 0 0 x) (bitsOf (closedCall f_law_placed.g [] [.list (cL [1, 1, 0, 0]), .int x 2097152])), []) := by kernel_rfl
    have hQ : closedCall f_law_product.g [] [.finst 100 (leadF raw a b na nb s [0, 2, 1] k nk), .int x 2097152] = some (.int (prodI [0, 2, 1] x 0 1) (bitsOf (closedCall f_law_product.g [] [.finst 100 (leadF raw a b na nb s [0, 2, 1] k nk), .int x 2097152])), []) := by kernel_rfl
    rw [b001_poly] at hP
    exact holds_ok (D := val (closedCall f_law_due.g [] [iL 2097152 [0, 0, 1]])) (R := runsV [0, 0, 1]) (by kernel_rfl) (by kernel_rfl) b001_told (isv_val (by kernel_rfl)) (by kernel_rfl) hP hQ hw (by kernel_rfl) hb

theorem b002_told : closedCall f_law_told.g [] [iL 2097152 [0, 0, 2]] = some (.list (cL [1, 2, 0, 0]), []) := by kernel_rfl
theorem b002_poly (x : Int) : placedI 1 2 0 0 x = prodI [0, 1, 2] x 0 1 := by
  simp only [placedI, prodI]
  grind
theorem b002_boards : intIs (closedCall f_law_boards.g [] [runsV [0, 0, 2]]) 2 = true := by kernel_rfl
theorem b002_apart : ∀ k < 3, closedCall f_law_apart.g [] [runsV [0, 0, 2], .int (Int.ofNat k) 2097152] = some (.bool true, []) := three (by kernel_rfl) (by kernel_rfl) (by kernel_rfl)
theorem b002 : BoardOk [0, 0, 2] [0, 1, 2] where
  runs := by kernel_rfl
  lead1 := three (by unfold LeadIs; kernel_rfl) (by unfold LeadIs; kernel_rfl) (by unfold LeadIs; kernel_rfl)
  lead2 := three (by unfold LeadIs; kernel_rfl) (by unfold LeadIs; kernel_rfl) (by unfold LeadIs; kernel_rfl)
  apart := b002_apart
  due := by kernel_rfl
  holds := fun raw a b na nb s k nk x => by
    obtain ⟨wb, hw⟩ := beq_i (o := closedCall f_law_ways.g [] [.finst 100 (leadF raw a b na nb s [0, 1, 2] k nk)]) (i := 2) (by kernel_rfl)
    obtain ⟨wb', hb⟩ := beq_i b002_boards
    have hP : closedCall f_law_placed.g [] [.list (cL [1, 2, 0, 0]), .int x 2097152] = some (.int (placedI 1 2 0 0 x) (bitsOf (closedCall f_law_placed.g [] [.list (cL [1, 2, 0, 0]), .int x 2097152])), []) := by kernel_rfl
    have hQ : closedCall f_law_product.g [] [.finst 100 (leadF raw a b na nb s [0, 1, 2] k nk), .int x 2097152] = some (.int (prodI [0, 1, 2] x 0 1) (bitsOf (closedCall f_law_product.g [] [.finst 100 (leadF raw a b na nb s [0, 1, 2] k nk), .int x 2097152])), []) := by kernel_rfl
    rw [b002_poly] at hP
    exact holds_ok (D := val (closedCall f_law_due.g [] [iL 2097152 [0, 0, 2]])) (R := runsV [0, 0, 2]) (by kernel_rfl) (by kernel_rfl) b002_told (isv_val (by kernel_rfl)) (by kernel_rfl) hP hQ hw (by kernel_rfl) hb

theorem b003_told : closedCall f_law_told.g [] [iL 2097152 [0, 0, 3]] = some (.list (cL [1, 3, 0, 0]), []) := by kernel_rfl
theorem b003_poly (x : Int) : placedI 1 3 0 0 x = prodI [0, 1, 1, 1] x 0 1 := by
  simp only [placedI, prodI]
  grind
theorem b003_boards : intIs (closedCall f_law_boards.g [] [runsV [0, 0, 3]]) 2 = true := by kernel_rfl
theorem b003_apart : ∀ k < 3, closedCall f_law_apart.g [] [runsV [0, 0, 3], .int (Int.ofNat k) 2097152] = some (.bool true, []) := three (by kernel_rfl) (by kernel_rfl) (by kernel_rfl)
theorem b003 : BoardOk [0, 0, 3] [0, 1, 1, 1] where
  runs := by kernel_rfl
  lead1 := three (by unfold LeadIs; kernel_rfl) (by unfold LeadIs; kernel_rfl) (by unfold LeadIs; kernel_rfl)
  lead2 := three (by unfold LeadIs; kernel_rfl) (by unfold LeadIs; kernel_rfl) (by unfold LeadIs; kernel_rfl)
  apart := b003_apart
  due := by kernel_rfl
  holds := fun raw a b na nb s k nk x => by
    obtain ⟨wb, hw⟩ := beq_i (o := closedCall f_law_ways.g [] [.finst 100 (leadF raw a b na nb s [0, 1, 1, 1] k nk)]) (i := 2) (by kernel_rfl)
    obtain ⟨wb', hb⟩ := beq_i b003_boards
    have hP : closedCall f_law_placed.g [] [.list (cL [1, 3, 0, 0]), .int x 2097152] = some (.int (placedI 1 3 0 0 x) (bitsOf (closedCall f_law_placed.g [] [.list (cL [1, 3, 0, 0]), .int x 2097152])), []) := by kernel_rfl
    have hQ : closedCall f_law_product.g [] [.finst 100 (leadF raw a b na nb s [0, 1, 1, 1] k nk), .int x 2097152] = some (.int (prodI [0, 1, 1, 1] x 0 1) (bitsOf (closedCall f_law_product.g [] [.finst 100 (leadF raw a b na nb s [0, 1, 1, 1] k nk), .int x 2097152])), []) := by kernel_rfl
    rw [b003_poly] at hP
    exact holds_ok (D := val (closedCall f_law_due.g [] [iL 2097152 [0, 0, 3]])) (R := runsV [0, 0, 3]) (by kernel_rfl) (by kernel_rfl) b003_told (isv_val (by kernel_rfl)) (by kernel_rfl) hP hQ hw (by kernel_rfl) hb

theorem b011_told : closedCall f_law_told.g [] [iL 2097152 [0, 1, 1]] = some (.list (cL [1, 2, 0, 0]), []) := by kernel_rfl
theorem b011_poly (x : Int) : placedI 1 2 0 0 x = prodI [0, 1, 2] x 0 1 := by
  simp only [placedI, prodI]
  grind
theorem b011_boards : intIs (closedCall f_law_boards.g [] [runsV [0, 1, 1]]) 2 = true := by kernel_rfl
theorem b011_apart : ∀ k < 3, closedCall f_law_apart.g [] [runsV [0, 1, 1], .int (Int.ofNat k) 2097152] = some (.bool true, []) := three (by kernel_rfl) (by kernel_rfl) (by kernel_rfl)
theorem b011 : BoardOk [0, 1, 1] [0, 1, 2] where
  runs := by kernel_rfl
  lead1 := three (by unfold LeadIs; kernel_rfl) (by unfold LeadIs; kernel_rfl) (by unfold LeadIs; kernel_rfl)
  lead2 := three (by unfold LeadIs; kernel_rfl) (by unfold LeadIs; kernel_rfl) (by unfold LeadIs; kernel_rfl)
  apart := b011_apart
  due := by kernel_rfl
  holds := fun raw a b na nb s k nk x => by
    obtain ⟨wb, hw⟩ := beq_i (o := closedCall f_law_ways.g [] [.finst 100 (leadF raw a b na nb s [0, 1, 2] k nk)]) (i := 2) (by kernel_rfl)
    obtain ⟨wb', hb⟩ := beq_i b011_boards
    have hP : closedCall f_law_placed.g [] [.list (cL [1, 2, 0, 0]), .int x 2097152] = some (.int (placedI 1 2 0 0 x) (bitsOf (closedCall f_law_placed.g [] [.list (cL [1, 2, 0, 0]), .int x 2097152])), []) := by kernel_rfl
    have hQ : closedCall f_law_product.g [] [.finst 100 (leadF raw a b na nb s [0, 1, 2] k nk), .int x 2097152] = some (.int (prodI [0, 1, 2] x 0 1) (bitsOf (closedCall f_law_product.g [] [.finst 100 (leadF raw a b na nb s [0, 1, 2] k nk), .int x 2097152])), []) := by kernel_rfl
    rw [b011_poly] at hP
    exact holds_ok (D := val (closedCall f_law_due.g [] [iL 2097152 [0, 1, 1]])) (R := runsV [0, 1, 1]) (by kernel_rfl) (by kernel_rfl) b011_told (isv_val (by kernel_rfl)) (by kernel_rfl) hP hQ hw (by kernel_rfl) hb

theorem b012_told : closedCall f_law_told.g [] [iL 2097152 [0, 1, 2]] = some (.list (cL [1, 3, 1, 0]), []) := by kernel_rfl
theorem b012_poly (x : Int) : placedI 1 3 1 0 x = prodI [0, 0, 3] x 0 1 := by
  simp only [placedI, prodI]
  grind
theorem b012_boards : intIs (closedCall f_law_boards.g [] [runsV [0, 1, 2]]) 1 = true := by kernel_rfl
theorem b012_apart : ∀ k < 3, closedCall f_law_apart.g [] [runsV [0, 1, 2], .int (Int.ofNat k) 2097152] = some (.bool true, []) := three (by kernel_rfl) (by kernel_rfl) (by kernel_rfl)
theorem b012 : BoardOk [0, 1, 2] [0, 0, 3] where
  runs := by kernel_rfl
  lead1 := three (by unfold LeadIs; kernel_rfl) (by unfold LeadIs; kernel_rfl) (by unfold LeadIs; kernel_rfl)
  lead2 := three (by unfold LeadIs; kernel_rfl) (by unfold LeadIs; kernel_rfl) (by unfold LeadIs; kernel_rfl)
  apart := b012_apart
  due := by kernel_rfl
  holds := fun raw a b na nb s k nk x => by
    obtain ⟨wb, hw⟩ := beq_i (o := closedCall f_law_ways.g [] [.finst 100 (leadF raw a b na nb s [0, 0, 3] k nk)]) (i := 1) (by kernel_rfl)
    obtain ⟨wb', hb⟩ := beq_i b012_boards
    have hP : closedCall f_law_placed.g [] [.list (cL [1, 3, 1, 0]), .int x 2097152] = some (.int (placedI 1 3 1 0 x) (bitsOf (closedCall f_law_placed.g [] [.list (cL [1, 3, 1, 0]), .int x 2097152])), []) := by kernel_rfl
    have hQ : closedCall f_law_product.g [] [.finst 100 (leadF raw a b na nb s [0, 0, 3] k nk), .int x 2097152] = some (.int (prodI [0, 0, 3] x 0 1) (bitsOf (closedCall f_law_product.g [] [.finst 100 (leadF raw a b na nb s [0, 0, 3] k nk), .int x 2097152])), []) := by kernel_rfl
    rw [b012_poly] at hP
    exact holds_ok (D := val (closedCall f_law_due.g [] [iL 2097152 [0, 1, 2]])) (R := runsV [0, 1, 2]) (by kernel_rfl) (by kernel_rfl) b012_told (isv_val (by kernel_rfl)) (by kernel_rfl) hP hQ hw (by kernel_rfl) hb

theorem b013_told : closedCall f_law_told.g [] [iL 2097152 [0, 1, 3]] = some (.list (cL [1, 4, 2, 0]), []) := by kernel_rfl
theorem b013_poly (x : Int) : placedI 1 4 2 0 x = prodI [0, 0, 2, 1] x 0 1 := by
  simp only [placedI, prodI]
  grind
theorem b013_boards : intIs (closedCall f_law_boards.g [] [runsV [0, 1, 3]]) 3 = true := by kernel_rfl
theorem b013_apart : ∀ k < 3, closedCall f_law_apart.g [] [runsV [0, 1, 3], .int (Int.ofNat k) 2097152] = some (.bool true, []) := three (by kernel_rfl) (by kernel_rfl) (by kernel_rfl)
theorem b013 : BoardOk [0, 1, 3] [0, 0, 2, 1] where
  runs := by kernel_rfl
  lead1 := three (by unfold LeadIs; kernel_rfl) (by unfold LeadIs; kernel_rfl) (by unfold LeadIs; kernel_rfl)
  lead2 := three (by unfold LeadIs; kernel_rfl) (by unfold LeadIs; kernel_rfl) (by unfold LeadIs; kernel_rfl)
  apart := b013_apart
  due := by kernel_rfl
  holds := fun raw a b na nb s k nk x => by
    obtain ⟨wb, hw⟩ := beq_i (o := closedCall f_law_ways.g [] [.finst 100 (leadF raw a b na nb s [0, 0, 2, 1] k nk)]) (i := 3) (by kernel_rfl)
    obtain ⟨wb', hb⟩ := beq_i b013_boards
    have hP : closedCall f_law_placed.g [] [.list (cL [1, 4, 2, 0]), .int x 2097152] = some (.int (placedI 1 4 2 0 x) (bitsOf (closedCall f_law_placed.g [] [.list (cL [1, 4, 2, 0]), .int x 2097152])), []) := by kernel_rfl
    have hQ : closedCall f_law_product.g [] [.finst 100 (leadF raw a b na nb s [0, 0, 2, 1] k nk), .int x 2097152] = some (.int (prodI [0, 0, 2, 1] x 0 1) (bitsOf (closedCall f_law_product.g [] [.finst 100 (leadF raw a b na nb s [0, 0, 2, 1] k nk), .int x 2097152])), []) := by kernel_rfl
    rw [b013_poly] at hP
    exact holds_ok (D := val (closedCall f_law_due.g [] [iL 2097152 [0, 1, 3]])) (R := runsV [0, 1, 3]) (by kernel_rfl) (by kernel_rfl) b013_told (isv_val (by kernel_rfl)) (by kernel_rfl) hP hQ hw (by kernel_rfl) hb

theorem b022_told : closedCall f_law_told.g [] [iL 2097152 [0, 2, 2]] = some (.list (cL [1, 4, 2, 0]), []) := by kernel_rfl
theorem b022_poly (x : Int) : placedI 1 4 2 0 x = prodI [0, 0, 2, 1] x 0 1 := by
  simp only [placedI, prodI]
  grind
theorem b022_boards : intIs (closedCall f_law_boards.g [] [runsV [0, 2, 2]]) 3 = true := by kernel_rfl
theorem b022_apart : ∀ k < 3, closedCall f_law_apart.g [] [runsV [0, 2, 2], .int (Int.ofNat k) 2097152] = some (.bool true, []) := three (by kernel_rfl) (by kernel_rfl) (by kernel_rfl)
theorem b022 : BoardOk [0, 2, 2] [0, 0, 2, 1] where
  runs := by kernel_rfl
  lead1 := three (by unfold LeadIs; kernel_rfl) (by unfold LeadIs; kernel_rfl) (by unfold LeadIs; kernel_rfl)
  lead2 := three (by unfold LeadIs; kernel_rfl) (by unfold LeadIs; kernel_rfl) (by unfold LeadIs; kernel_rfl)
  apart := b022_apart
  due := by kernel_rfl
  holds := fun raw a b na nb s k nk x => by
    obtain ⟨wb, hw⟩ := beq_i (o := closedCall f_law_ways.g [] [.finst 100 (leadF raw a b na nb s [0, 0, 2, 1] k nk)]) (i := 3) (by kernel_rfl)
    obtain ⟨wb', hb⟩ := beq_i b022_boards
    have hP : closedCall f_law_placed.g [] [.list (cL [1, 4, 2, 0]), .int x 2097152] = some (.int (placedI 1 4 2 0 x) (bitsOf (closedCall f_law_placed.g [] [.list (cL [1, 4, 2, 0]), .int x 2097152])), []) := by kernel_rfl
    have hQ : closedCall f_law_product.g [] [.finst 100 (leadF raw a b na nb s [0, 0, 2, 1] k nk), .int x 2097152] = some (.int (prodI [0, 0, 2, 1] x 0 1) (bitsOf (closedCall f_law_product.g [] [.finst 100 (leadF raw a b na nb s [0, 0, 2, 1] k nk), .int x 2097152])), []) := by kernel_rfl
    rw [b022_poly] at hP
    exact holds_ok (D := val (closedCall f_law_due.g [] [iL 2097152 [0, 2, 2]])) (R := runsV [0, 2, 2]) (by kernel_rfl) (by kernel_rfl) b022_told (isv_val (by kernel_rfl)) (by kernel_rfl) hP hQ hw (by kernel_rfl) hb

theorem b023_told : closedCall f_law_told.g [] [iL 2097152 [0, 2, 3]] = some (.list (cL [1, 5, 4, 0]), []) := by kernel_rfl
theorem b023_poly (x : Int) : placedI 1 5 4 0 x = prodI [0, 0, 1, 2] x 0 1 := by
  simp only [placedI, prodI]
  grind
theorem b023_boards : intIs (closedCall f_law_boards.g [] [runsV [0, 2, 3]]) 3 = true := by kernel_rfl
theorem b023_apart : ∀ k < 3, closedCall f_law_apart.g [] [runsV [0, 2, 3], .int (Int.ofNat k) 2097152] = some (.bool true, []) := three (by kernel_rfl) (by kernel_rfl) (by kernel_rfl)
theorem b023 : BoardOk [0, 2, 3] [0, 0, 1, 2] where
  runs := by kernel_rfl
  lead1 := three (by unfold LeadIs; kernel_rfl) (by unfold LeadIs; kernel_rfl) (by unfold LeadIs; kernel_rfl)
  lead2 := three (by unfold LeadIs; kernel_rfl) (by unfold LeadIs; kernel_rfl) (by unfold LeadIs; kernel_rfl)
  apart := b023_apart
  due := by kernel_rfl
  holds := fun raw a b na nb s k nk x => by
    obtain ⟨wb, hw⟩ := beq_i (o := closedCall f_law_ways.g [] [.finst 100 (leadF raw a b na nb s [0, 0, 1, 2] k nk)]) (i := 3) (by kernel_rfl)
    obtain ⟨wb', hb⟩ := beq_i b023_boards
    have hP : closedCall f_law_placed.g [] [.list (cL [1, 5, 4, 0]), .int x 2097152] = some (.int (placedI 1 5 4 0 x) (bitsOf (closedCall f_law_placed.g [] [.list (cL [1, 5, 4, 0]), .int x 2097152])), []) := by kernel_rfl
    have hQ : closedCall f_law_product.g [] [.finst 100 (leadF raw a b na nb s [0, 0, 1, 2] k nk), .int x 2097152] = some (.int (prodI [0, 0, 1, 2] x 0 1) (bitsOf (closedCall f_law_product.g [] [.finst 100 (leadF raw a b na nb s [0, 0, 1, 2] k nk), .int x 2097152])), []) := by kernel_rfl
    rw [b023_poly] at hP
    exact holds_ok (D := val (closedCall f_law_due.g [] [iL 2097152 [0, 2, 3]])) (R := runsV [0, 2, 3]) (by kernel_rfl) (by kernel_rfl) b023_told (isv_val (by kernel_rfl)) (by kernel_rfl) hP hQ hw (by kernel_rfl) hb

theorem b033_told : closedCall f_law_told.g [] [iL 2097152 [0, 3, 3]] = some (.list (cL [1, 6, 6, 0]), []) := by kernel_rfl
theorem b033_poly (x : Int) : placedI 1 6 6 0 x = prodI [0, 0, 1, 1, 1] x 0 1 := by
  simp only [placedI, prodI]
  grind
theorem b033_boards : intIs (closedCall f_law_boards.g [] [runsV [0, 3, 3]]) 4 = true := by kernel_rfl
theorem b033_apart : ∀ k < 3, closedCall f_law_apart.g [] [runsV [0, 3, 3], .int (Int.ofNat k) 2097152] = some (.bool true, []) := three (by kernel_rfl) (by kernel_rfl) (by kernel_rfl)
theorem b033 : BoardOk [0, 3, 3] [0, 0, 1, 1, 1] where
  runs := by kernel_rfl
  lead1 := three (by unfold LeadIs; kernel_rfl) (by unfold LeadIs; kernel_rfl) (by unfold LeadIs; kernel_rfl)
  lead2 := three (by unfold LeadIs; kernel_rfl) (by unfold LeadIs; kernel_rfl) (by unfold LeadIs; kernel_rfl)
  apart := b033_apart
  due := by kernel_rfl
  holds := fun raw a b na nb s k nk x => by
    obtain ⟨wb, hw⟩ := beq_i (o := closedCall f_law_ways.g [] [.finst 100 (leadF raw a b na nb s [0, 0, 1, 1, 1] k nk)]) (i := 4) (by kernel_rfl)
    obtain ⟨wb', hb⟩ := beq_i b033_boards
    have hP : closedCall f_law_placed.g [] [.list (cL [1, 6, 6, 0]), .int x 2097152] = some (.int (placedI 1 6 6 0 x) (bitsOf (closedCall f_law_placed.g [] [.list (cL [1, 6, 6, 0]), .int x 2097152])), []) := by kernel_rfl
    have hQ : closedCall f_law_product.g [] [.finst 100 (leadF raw a b na nb s [0, 0, 1, 1, 1] k nk), .int x 2097152] = some (.int (prodI [0, 0, 1, 1, 1] x 0 1) (bitsOf (closedCall f_law_product.g [] [.finst 100 (leadF raw a b na nb s [0, 0, 1, 1, 1] k nk), .int x 2097152])), []) := by kernel_rfl
    rw [b033_poly] at hP
    exact holds_ok (D := val (closedCall f_law_due.g [] [iL 2097152 [0, 3, 3]])) (R := runsV [0, 3, 3]) (by kernel_rfl) (by kernel_rfl) b033_told (isv_val (by kernel_rfl)) (by kernel_rfl) hP hQ hw (by kernel_rfl) hb

theorem b111_told : closedCall f_law_told.g [] [iL 2097152 [1, 1, 1]] = some (.list (cL [1, 3, 0, 0]), []) := by kernel_rfl
theorem b111_poly (x : Int) : placedI 1 3 0 0 x = prodI [0, 1, 1, 1] x 0 1 := by
  simp only [placedI, prodI]
  grind
theorem b111_boards : intIs (closedCall f_law_boards.g [] [runsV [1, 1, 1]]) 2 = true := by kernel_rfl
theorem b111_apart : ∀ k < 3, closedCall f_law_apart.g [] [runsV [1, 1, 1], .int (Int.ofNat k) 2097152] = some (.bool true, []) := three (by kernel_rfl) (by kernel_rfl) (by kernel_rfl)
theorem b111 : BoardOk [1, 1, 1] [0, 1, 1, 1] where
  runs := by kernel_rfl
  lead1 := three (by unfold LeadIs; kernel_rfl) (by unfold LeadIs; kernel_rfl) (by unfold LeadIs; kernel_rfl)
  lead2 := three (by unfold LeadIs; kernel_rfl) (by unfold LeadIs; kernel_rfl) (by unfold LeadIs; kernel_rfl)
  apart := b111_apart
  due := by kernel_rfl
  holds := fun raw a b na nb s k nk x => by
    obtain ⟨wb, hw⟩ := beq_i (o := closedCall f_law_ways.g [] [.finst 100 (leadF raw a b na nb s [0, 1, 1, 1] k nk)]) (i := 2) (by kernel_rfl)
    obtain ⟨wb', hb⟩ := beq_i b111_boards
    have hP : closedCall f_law_placed.g [] [.list (cL [1, 3, 0, 0]), .int x 2097152] = some (.int (placedI 1 3 0 0 x) (bitsOf (closedCall f_law_placed.g [] [.list (cL [1, 3, 0, 0]), .int x 2097152])), []) := by kernel_rfl
    have hQ : closedCall f_law_product.g [] [.finst 100 (leadF raw a b na nb s [0, 1, 1, 1] k nk), .int x 2097152] = some (.int (prodI [0, 1, 1, 1] x 0 1) (bitsOf (closedCall f_law_product.g [] [.finst 100 (leadF raw a b na nb s [0, 1, 1, 1] k nk), .int x 2097152])), []) := by kernel_rfl
    rw [b111_poly] at hP
    exact holds_ok (D := val (closedCall f_law_due.g [] [iL 2097152 [1, 1, 1]])) (R := runsV [1, 1, 1]) (by kernel_rfl) (by kernel_rfl) b111_told (isv_val (by kernel_rfl)) (by kernel_rfl) hP hQ hw (by kernel_rfl) hb

theorem b112_told : closedCall f_law_told.g [] [iL 2097152 [1, 1, 2]] = some (.list (cL [1, 4, 2, 0]), []) := by kernel_rfl
theorem b112_poly (x : Int) : placedI 1 4 2 0 x = prodI [0, 0, 2, 1] x 0 1 := by
  simp only [placedI, prodI]
  grind
theorem b112_boards : intIs (closedCall f_law_boards.g [] [runsV [1, 1, 2]]) 3 = true := by kernel_rfl
theorem b112_apart : ∀ k < 3, closedCall f_law_apart.g [] [runsV [1, 1, 2], .int (Int.ofNat k) 2097152] = some (.bool true, []) := three (by kernel_rfl) (by kernel_rfl) (by kernel_rfl)
theorem b112 : BoardOk [1, 1, 2] [0, 0, 2, 1] where
  runs := by kernel_rfl
  lead1 := three (by unfold LeadIs; kernel_rfl) (by unfold LeadIs; kernel_rfl) (by unfold LeadIs; kernel_rfl)
  lead2 := three (by unfold LeadIs; kernel_rfl) (by unfold LeadIs; kernel_rfl) (by unfold LeadIs; kernel_rfl)
  apart := b112_apart
  due := by kernel_rfl
  holds := fun raw a b na nb s k nk x => by
    obtain ⟨wb, hw⟩ := beq_i (o := closedCall f_law_ways.g [] [.finst 100 (leadF raw a b na nb s [0, 0, 2, 1] k nk)]) (i := 3) (by kernel_rfl)
    obtain ⟨wb', hb⟩ := beq_i b112_boards
    have hP : closedCall f_law_placed.g [] [.list (cL [1, 4, 2, 0]), .int x 2097152] = some (.int (placedI 1 4 2 0 x) (bitsOf (closedCall f_law_placed.g [] [.list (cL [1, 4, 2, 0]), .int x 2097152])), []) := by kernel_rfl
    have hQ : closedCall f_law_product.g [] [.finst 100 (leadF raw a b na nb s [0, 0, 2, 1] k nk), .int x 2097152] = some (.int (prodI [0, 0, 2, 1] x 0 1) (bitsOf (closedCall f_law_product.g [] [.finst 100 (leadF raw a b na nb s [0, 0, 2, 1] k nk), .int x 2097152])), []) := by kernel_rfl
    rw [b112_poly] at hP
    exact holds_ok (D := val (closedCall f_law_due.g [] [iL 2097152 [1, 1, 2]])) (R := runsV [1, 1, 2]) (by kernel_rfl) (by kernel_rfl) b112_told (isv_val (by kernel_rfl)) (by kernel_rfl) hP hQ hw (by kernel_rfl) hb

theorem b113_told : closedCall f_law_told.g [] [iL 2097152 [1, 1, 3]] = some (.list (cL [1, 5, 4, 0]), []) := by kernel_rfl
theorem b113_poly (x : Int) : placedI 1 5 4 0 x = prodI [0, 0, 1, 2] x 0 1 := by
  simp only [placedI, prodI]
  grind
theorem b113_boards : intIs (closedCall f_law_boards.g [] [runsV [1, 1, 3]]) 3 = true := by kernel_rfl
theorem b113_apart : ∀ k < 3, closedCall f_law_apart.g [] [runsV [1, 1, 3], .int (Int.ofNat k) 2097152] = some (.bool true, []) := three (by kernel_rfl) (by kernel_rfl) (by kernel_rfl)
theorem b113 : BoardOk [1, 1, 3] [0, 0, 1, 2] where
  runs := by kernel_rfl
  lead1 := three (by unfold LeadIs; kernel_rfl) (by unfold LeadIs; kernel_rfl) (by unfold LeadIs; kernel_rfl)
  lead2 := three (by unfold LeadIs; kernel_rfl) (by unfold LeadIs; kernel_rfl) (by unfold LeadIs; kernel_rfl)
  apart := b113_apart
  due := by kernel_rfl
  holds := fun raw a b na nb s k nk x => by
    obtain ⟨wb, hw⟩ := beq_i (o := closedCall f_law_ways.g [] [.finst 100 (leadF raw a b na nb s [0, 0, 1, 2] k nk)]) (i := 3) (by kernel_rfl)
    obtain ⟨wb', hb⟩ := beq_i b113_boards
    have hP : closedCall f_law_placed.g [] [.list (cL [1, 5, 4, 0]), .int x 2097152] = some (.int (placedI 1 5 4 0 x) (bitsOf (closedCall f_law_placed.g [] [.list (cL [1, 5, 4, 0]), .int x 2097152])), []) := by kernel_rfl
    have hQ : closedCall f_law_product.g [] [.finst 100 (leadF raw a b na nb s [0, 0, 1, 2] k nk), .int x 2097152] = some (.int (prodI [0, 0, 1, 2] x 0 1) (bitsOf (closedCall f_law_product.g [] [.finst 100 (leadF raw a b na nb s [0, 0, 1, 2] k nk), .int x 2097152])), []) := by kernel_rfl
    rw [b113_poly] at hP
    exact holds_ok (D := val (closedCall f_law_due.g [] [iL 2097152 [1, 1, 3]])) (R := runsV [1, 1, 3]) (by kernel_rfl) (by kernel_rfl) b113_told (isv_val (by kernel_rfl)) (by kernel_rfl) hP hQ hw (by kernel_rfl) hb

theorem b122_told : closedCall f_law_told.g [] [iL 2097152 [1, 2, 2]] = some (.list (cL [1, 5, 4, 0]), []) := by kernel_rfl
theorem b122_poly (x : Int) : placedI 1 5 4 0 x = prodI [0, 0, 1, 2] x 0 1 := by
  simp only [placedI, prodI]
  grind
theorem b122_boards : intIs (closedCall f_law_boards.g [] [runsV [1, 2, 2]]) 3 = true := by kernel_rfl
theorem b122_apart : ∀ k < 3, closedCall f_law_apart.g [] [runsV [1, 2, 2], .int (Int.ofNat k) 2097152] = some (.bool true, []) := three (by kernel_rfl) (by kernel_rfl) (by kernel_rfl)
theorem b122 : BoardOk [1, 2, 2] [0, 0, 1, 2] where
  runs := by kernel_rfl
  lead1 := three (by unfold LeadIs; kernel_rfl) (by unfold LeadIs; kernel_rfl) (by unfold LeadIs; kernel_rfl)
  lead2 := three (by unfold LeadIs; kernel_rfl) (by unfold LeadIs; kernel_rfl) (by unfold LeadIs; kernel_rfl)
  apart := b122_apart
  due := by kernel_rfl
  holds := fun raw a b na nb s k nk x => by
    obtain ⟨wb, hw⟩ := beq_i (o := closedCall f_law_ways.g [] [.finst 100 (leadF raw a b na nb s [0, 0, 1, 2] k nk)]) (i := 3) (by kernel_rfl)
    obtain ⟨wb', hb⟩ := beq_i b122_boards
    have hP : closedCall f_law_placed.g [] [.list (cL [1, 5, 4, 0]), .int x 2097152] = some (.int (placedI 1 5 4 0 x) (bitsOf (closedCall f_law_placed.g [] [.list (cL [1, 5, 4, 0]), .int x 2097152])), []) := by kernel_rfl
    have hQ : closedCall f_law_product.g [] [.finst 100 (leadF raw a b na nb s [0, 0, 1, 2] k nk), .int x 2097152] = some (.int (prodI [0, 0, 1, 2] x 0 1) (bitsOf (closedCall f_law_product.g [] [.finst 100 (leadF raw a b na nb s [0, 0, 1, 2] k nk), .int x 2097152])), []) := by kernel_rfl
    rw [b122_poly] at hP
    exact holds_ok (D := val (closedCall f_law_due.g [] [iL 2097152 [1, 2, 2]])) (R := runsV [1, 2, 2]) (by kernel_rfl) (by kernel_rfl) b122_told (isv_val (by kernel_rfl)) (by kernel_rfl) hP hQ hw (by kernel_rfl) hb

theorem b123_told : closedCall f_law_told.g [] [iL 2097152 [1, 2, 3]] = some (.list (cL [1, 6, 7, 1]), []) := by kernel_rfl
theorem b123_poly (x : Int) : placedI 1 6 7 1 x = prodI [0, 0, 0, 3] x 0 1 := by
  simp only [placedI, prodI]
  grind
theorem b123_boards : intIs (closedCall f_law_boards.g [] [runsV [1, 2, 3]]) 1 = true := by kernel_rfl
theorem b123_apart : ∀ k < 3, closedCall f_law_apart.g [] [runsV [1, 2, 3], .int (Int.ofNat k) 2097152] = some (.bool true, []) := three (by kernel_rfl) (by kernel_rfl) (by kernel_rfl)
theorem b123 : BoardOk [1, 2, 3] [0, 0, 0, 3] where
  runs := by kernel_rfl
  lead1 := three (by unfold LeadIs; kernel_rfl) (by unfold LeadIs; kernel_rfl) (by unfold LeadIs; kernel_rfl)
  lead2 := three (by unfold LeadIs; kernel_rfl) (by unfold LeadIs; kernel_rfl) (by unfold LeadIs; kernel_rfl)
  apart := b123_apart
  due := by kernel_rfl
  holds := fun raw a b na nb s k nk x => by
    obtain ⟨wb, hw⟩ := beq_i (o := closedCall f_law_ways.g [] [.finst 100 (leadF raw a b na nb s [0, 0, 0, 3] k nk)]) (i := 1) (by kernel_rfl)
    obtain ⟨wb', hb⟩ := beq_i b123_boards
    have hP : closedCall f_law_placed.g [] [.list (cL [1, 6, 7, 1]), .int x 2097152] = some (.int (placedI 1 6 7 1 x) (bitsOf (closedCall f_law_placed.g [] [.list (cL [1, 6, 7, 1]), .int x 2097152])), []) := by kernel_rfl
    have hQ : closedCall f_law_product.g [] [.finst 100 (leadF raw a b na nb s [0, 0, 0, 3] k nk), .int x 2097152] = some (.int (prodI [0, 0, 0, 3] x 0 1) (bitsOf (closedCall f_law_product.g [] [.finst 100 (leadF raw a b na nb s [0, 0, 0, 3] k nk), .int x 2097152])), []) := by kernel_rfl
    rw [b123_poly] at hP
    exact holds_ok (D := val (closedCall f_law_due.g [] [iL 2097152 [1, 2, 3]])) (R := runsV [1, 2, 3]) (by kernel_rfl) (by kernel_rfl) b123_told (isv_val (by kernel_rfl)) (by kernel_rfl) hP hQ hw (by kernel_rfl) hb

theorem b133_told : closedCall f_law_told.g [] [iL 2097152 [1, 3, 3]] = some (.list (cL [1, 7, 10, 2]), []) := by kernel_rfl
theorem b133_poly (x : Int) : placedI 1 7 10 2 x = prodI [0, 0, 0, 2, 1] x 0 1 := by
  simp only [placedI, prodI]
  grind
theorem b133_boards : intIs (closedCall f_law_boards.g [] [runsV [1, 3, 3]]) 3 = true := by kernel_rfl
theorem b133_apart : ∀ k < 3, closedCall f_law_apart.g [] [runsV [1, 3, 3], .int (Int.ofNat k) 2097152] = some (.bool true, []) := three (by kernel_rfl) (by kernel_rfl) (by kernel_rfl)
theorem b133 : BoardOk [1, 3, 3] [0, 0, 0, 2, 1] where
  runs := by kernel_rfl
  lead1 := three (by unfold LeadIs; kernel_rfl) (by unfold LeadIs; kernel_rfl) (by unfold LeadIs; kernel_rfl)
  lead2 := three (by unfold LeadIs; kernel_rfl) (by unfold LeadIs; kernel_rfl) (by unfold LeadIs; kernel_rfl)
  apart := b133_apart
  due := by kernel_rfl
  holds := fun raw a b na nb s k nk x => by
    obtain ⟨wb, hw⟩ := beq_i (o := closedCall f_law_ways.g [] [.finst 100 (leadF raw a b na nb s [0, 0, 0, 2, 1] k nk)]) (i := 3) (by kernel_rfl)
    obtain ⟨wb', hb⟩ := beq_i b133_boards
    have hP : closedCall f_law_placed.g [] [.list (cL [1, 7, 10, 2]), .int x 2097152] = some (.int (placedI 1 7 10 2 x) (bitsOf (closedCall f_law_placed.g [] [.list (cL [1, 7, 10, 2]), .int x 2097152])), []) := by kernel_rfl
    have hQ : closedCall f_law_product.g [] [.finst 100 (leadF raw a b na nb s [0, 0, 0, 2, 1] k nk), .int x 2097152] = some (.int (prodI [0, 0, 0, 2, 1] x 0 1) (bitsOf (closedCall f_law_product.g [] [.finst 100 (leadF raw a b na nb s [0, 0, 0, 2, 1] k nk), .int x 2097152])), []) := by kernel_rfl
    rw [b133_poly] at hP
    exact holds_ok (D := val (closedCall f_law_due.g [] [iL 2097152 [1, 3, 3]])) (R := runsV [1, 3, 3]) (by kernel_rfl) (by kernel_rfl) b133_told (isv_val (by kernel_rfl)) (by kernel_rfl) hP hQ hw (by kernel_rfl) hb

theorem b222_told : closedCall f_law_told.g [] [iL 2097152 [2, 2, 2]] = some (.list (cL [1, 6, 6, 0]), []) := by kernel_rfl
theorem b222_poly (x : Int) : placedI 1 6 6 0 x = prodI [0, 0, 1, 1, 1] x 0 1 := by
  simp only [placedI, prodI]
  grind
theorem b222_boards : intIs (closedCall f_law_boards.g [] [runsV [2, 2, 2]]) 4 = true := by kernel_rfl
theorem b222_apart : ∀ k < 3, closedCall f_law_apart.g [] [runsV [2, 2, 2], .int (Int.ofNat k) 2097152] = some (.bool true, []) := three (by kernel_rfl) (by kernel_rfl) (by kernel_rfl)
theorem b222 : BoardOk [2, 2, 2] [0, 0, 1, 1, 1] where
  runs := by kernel_rfl
  lead1 := three (by unfold LeadIs; kernel_rfl) (by unfold LeadIs; kernel_rfl) (by unfold LeadIs; kernel_rfl)
  lead2 := three (by unfold LeadIs; kernel_rfl) (by unfold LeadIs; kernel_rfl) (by unfold LeadIs; kernel_rfl)
  apart := b222_apart
  due := by kernel_rfl
  holds := fun raw a b na nb s k nk x => by
    obtain ⟨wb, hw⟩ := beq_i (o := closedCall f_law_ways.g [] [.finst 100 (leadF raw a b na nb s [0, 0, 1, 1, 1] k nk)]) (i := 4) (by kernel_rfl)
    obtain ⟨wb', hb⟩ := beq_i b222_boards
    have hP : closedCall f_law_placed.g [] [.list (cL [1, 6, 6, 0]), .int x 2097152] = some (.int (placedI 1 6 6 0 x) (bitsOf (closedCall f_law_placed.g [] [.list (cL [1, 6, 6, 0]), .int x 2097152])), []) := by kernel_rfl
    have hQ : closedCall f_law_product.g [] [.finst 100 (leadF raw a b na nb s [0, 0, 1, 1, 1] k nk), .int x 2097152] = some (.int (prodI [0, 0, 1, 1, 1] x 0 1) (bitsOf (closedCall f_law_product.g [] [.finst 100 (leadF raw a b na nb s [0, 0, 1, 1, 1] k nk), .int x 2097152])), []) := by kernel_rfl
    rw [b222_poly] at hP
    exact holds_ok (D := val (closedCall f_law_due.g [] [iL 2097152 [2, 2, 2]])) (R := runsV [2, 2, 2]) (by kernel_rfl) (by kernel_rfl) b222_told (isv_val (by kernel_rfl)) (by kernel_rfl) hP hQ hw (by kernel_rfl) hb

theorem b223_told : closedCall f_law_told.g [] [iL 2097152 [2, 2, 3]] = some (.list (cL [1, 7, 10, 2]), []) := by kernel_rfl
theorem b223_poly (x : Int) : placedI 1 7 10 2 x = prodI [0, 0, 0, 2, 1] x 0 1 := by
  simp only [placedI, prodI]
  grind
theorem b223_boards : intIs (closedCall f_law_boards.g [] [runsV [2, 2, 3]]) 3 = true := by kernel_rfl
theorem b223_apart : ∀ k < 3, closedCall f_law_apart.g [] [runsV [2, 2, 3], .int (Int.ofNat k) 2097152] = some (.bool true, []) := three (by kernel_rfl) (by kernel_rfl) (by kernel_rfl)
theorem b223 : BoardOk [2, 2, 3] [0, 0, 0, 2, 1] where
  runs := by kernel_rfl
  lead1 := three (by unfold LeadIs; kernel_rfl) (by unfold LeadIs; kernel_rfl) (by unfold LeadIs; kernel_rfl)
  lead2 := three (by unfold LeadIs; kernel_rfl) (by unfold LeadIs; kernel_rfl) (by unfold LeadIs; kernel_rfl)
  apart := b223_apart
  due := by kernel_rfl
  holds := fun raw a b na nb s k nk x => by
    obtain ⟨wb, hw⟩ := beq_i (o := closedCall f_law_ways.g [] [.finst 100 (leadF raw a b na nb s [0, 0, 0, 2, 1] k nk)]) (i := 3) (by kernel_rfl)
    obtain ⟨wb', hb⟩ := beq_i b223_boards
    have hP : closedCall f_law_placed.g [] [.list (cL [1, 7, 10, 2]), .int x 2097152] = some (.int (placedI 1 7 10 2 x) (bitsOf (closedCall f_law_placed.g [] [.list (cL [1, 7, 10, 2]), .int x 2097152])), []) := by kernel_rfl
    have hQ : closedCall f_law_product.g [] [.finst 100 (leadF raw a b na nb s [0, 0, 0, 2, 1] k nk), .int x 2097152] = some (.int (prodI [0, 0, 0, 2, 1] x 0 1) (bitsOf (closedCall f_law_product.g [] [.finst 100 (leadF raw a b na nb s [0, 0, 0, 2, 1] k nk), .int x 2097152])), []) := by kernel_rfl
    rw [b223_poly] at hP
    exact holds_ok (D := val (closedCall f_law_due.g [] [iL 2097152 [2, 2, 3]])) (R := runsV [2, 2, 3]) (by kernel_rfl) (by kernel_rfl) b223_told (isv_val (by kernel_rfl)) (by kernel_rfl) hP hQ hw (by kernel_rfl) hb

theorem b233_told : closedCall f_law_told.g [] [iL 2097152 [2, 3, 3]] = some (.list (cL [1, 8, 14, 4]), []) := by kernel_rfl
theorem b233_poly (x : Int) : placedI 1 8 14 4 x = prodI [0, 0, 0, 1, 2] x 0 1 := by
  simp only [placedI, prodI]
  grind
theorem b233_boards : intIs (closedCall f_law_boards.g [] [runsV [2, 3, 3]]) 3 = true := by kernel_rfl
theorem b233_apart : ∀ k < 3, closedCall f_law_apart.g [] [runsV [2, 3, 3], .int (Int.ofNat k) 2097152] = some (.bool true, []) := three (by kernel_rfl) (by kernel_rfl) (by kernel_rfl)
theorem b233 : BoardOk [2, 3, 3] [0, 0, 0, 1, 2] where
  runs := by kernel_rfl
  lead1 := three (by unfold LeadIs; kernel_rfl) (by unfold LeadIs; kernel_rfl) (by unfold LeadIs; kernel_rfl)
  lead2 := three (by unfold LeadIs; kernel_rfl) (by unfold LeadIs; kernel_rfl) (by unfold LeadIs; kernel_rfl)
  apart := b233_apart
  due := by kernel_rfl
  holds := fun raw a b na nb s k nk x => by
    obtain ⟨wb, hw⟩ := beq_i (o := closedCall f_law_ways.g [] [.finst 100 (leadF raw a b na nb s [0, 0, 0, 1, 2] k nk)]) (i := 3) (by kernel_rfl)
    obtain ⟨wb', hb⟩ := beq_i b233_boards
    have hP : closedCall f_law_placed.g [] [.list (cL [1, 8, 14, 4]), .int x 2097152] = some (.int (placedI 1 8 14 4 x) (bitsOf (closedCall f_law_placed.g [] [.list (cL [1, 8, 14, 4]), .int x 2097152])), []) := by kernel_rfl
    have hQ : closedCall f_law_product.g [] [.finst 100 (leadF raw a b na nb s [0, 0, 0, 1, 2] k nk), .int x 2097152] = some (.int (prodI [0, 0, 0, 1, 2] x 0 1) (bitsOf (closedCall f_law_product.g [] [.finst 100 (leadF raw a b na nb s [0, 0, 0, 1, 2] k nk), .int x 2097152])), []) := by kernel_rfl
    rw [b233_poly] at hP
    exact holds_ok (D := val (closedCall f_law_due.g [] [iL 2097152 [2, 3, 3]])) (R := runsV [2, 3, 3]) (by kernel_rfl) (by kernel_rfl) b233_told (isv_val (by kernel_rfl)) (by kernel_rfl) hP hQ hw (by kernel_rfl) hb

theorem b333_told : closedCall f_law_told.g [] [iL 2097152 [3, 3, 3]] = some (.list (cL [1, 9, 18, 6]), []) := by kernel_rfl
theorem b333_poly (x : Int) : placedI 1 9 18 6 x = prodI [0, 0, 0, 1, 1, 1] x 0 1 := by
  simp only [placedI, prodI]
  grind
theorem b333_boards : intIs (closedCall f_law_boards.g [] [runsV [3, 3, 3]]) 4 = true := by kernel_rfl
theorem b333_apart : ∀ k < 3, closedCall f_law_apart.g [] [runsV [3, 3, 3], .int (Int.ofNat k) 2097152] = some (.bool true, []) := three (by kernel_rfl) (by kernel_rfl) (by kernel_rfl)
theorem b333 : BoardOk [3, 3, 3] [0, 0, 0, 1, 1, 1] where
  runs := by kernel_rfl
  lead1 := three (by unfold LeadIs; kernel_rfl) (by unfold LeadIs; kernel_rfl) (by unfold LeadIs; kernel_rfl)
  lead2 := three (by unfold LeadIs; kernel_rfl) (by unfold LeadIs; kernel_rfl) (by unfold LeadIs; kernel_rfl)
  apart := b333_apart
  due := by kernel_rfl
  holds := fun raw a b na nb s k nk x => by
    obtain ⟨wb, hw⟩ := beq_i (o := closedCall f_law_ways.g [] [.finst 100 (leadF raw a b na nb s [0, 0, 0, 1, 1, 1] k nk)]) (i := 4) (by kernel_rfl)
    obtain ⟨wb', hb⟩ := beq_i b333_boards
    have hP : closedCall f_law_placed.g [] [.list (cL [1, 9, 18, 6]), .int x 2097152] = some (.int (placedI 1 9 18 6 x) (bitsOf (closedCall f_law_placed.g [] [.list (cL [1, 9, 18, 6]), .int x 2097152])), []) := by kernel_rfl
    have hQ : closedCall f_law_product.g [] [.finst 100 (leadF raw a b na nb s [0, 0, 0, 1, 1, 1] k nk), .int x 2097152] = some (.int (prodI [0, 0, 0, 1, 1, 1] x 0 1) (bitsOf (closedCall f_law_product.g [] [.finst 100 (leadF raw a b na nb s [0, 0, 0, 1, 1, 1] k nk), .int x 2097152])), []) := by kernel_rfl
    rw [b333_poly] at hP
    exact holds_ok (D := val (closedCall f_law_due.g [] [iL 2097152 [3, 3, 3]])) (R := runsV [3, 3, 3]) (by kernel_rfl) (by kernel_rfl) b333_told (isv_val (by kernel_rfl)) (by kernel_rfl) hP hQ hw (by kernel_rfl) hb
end Mine
end
-- part P4
section
set_option maxHeartbeats 4000000
namespace Mine
def inS (xs : List Int) : List AV := xs.map fun i => .int i 1048576
-- ## the sums drawn from the script
def SumsOk (K : Nat) (s : List AV) : Prop := ∃ a b c d na nb nc nd, s = [.int a na, .int b nb, .int c nc, .int d nd] ∧ na ≤ K ∧ nb ≤ K ∧ nc ≤ K ∧ nd ≤ K
def drawnB : SM := S.augItem (pInt (· + ·) (fun n m => bmax n m + 1) fun _ _ _ _ => true) (E.loc 1) (E.bin pMod (E.loc 2) (E.const (.int 4 8))) (E.bin pItem (E.loc 0) (E.loc 2))
theorem inS_get {xs : List Int} {i : Nat} {x : Int} (hx : xs[i]? = some x) : (inS xs)[i]? = some (.int x 1048576) := by simp [inS, hx]
theorem bmax_le {n m K : Nat} (h1 : n ≤ K) (h2 : m ≤ K) : bmax n m + 1 ≤ K + 1 := by
  unfold bmax
  cases Nat.ble n m <;> simp [h1, h2]
theorem drawn_step {xs : List Int} {i : Nat} {x : Int} (hx : xs[i]? = some x) (hi : i ≤ 1000000) {K : Nat} {s : List AV} (h : SumsOk K s) (hK : 1048576 ≤ K) :
    ∃ s', SumsOk (K + 1) s' ∧ drawnB [.list (inS xs), .obj 0, .int (Int.ofNat i) 64] [.list s] = some (.nx, [.list (inS xs), .obj 0, .int (Int.ofNat i) 64], [.list s']) := by
  obtain ⟨a, b, c, e, na, nb, nc, ne, rfl, h1, h2, h3, h4⟩ := h
  have hm : Int.fmod (Int.ofNat i) 4 = Int.ofNat (i % 4) := by cases i <;> rfl
  have p0 : pMod [.list [.int a na, .int b nb, .int c nc, .int e ne]] (.int (Int.ofNat i) 64) (.int 4 8) = some (.int (Int.ofNat (i % 4)) 64, [.list [.int a na, .int b nb, .int c nc, .int e ne]]) := by
    rw [← hm]; rfl
  have hi' : idxOk (Int.ofNat i) = some i := by
    have : Nat.ble i 1000000 = true := Nat.ble_eq_true_of_le hi
    simp [idxOk, this]
  have p1 : pItem [.list [.int a na, .int b nb, .int c nc, .int e ne]] (.list (inS xs)) (.int (Int.ofNat i) 64) = some (.int x 1048576, [.list [.int a na, .int b nb, .int c nc, .int e ne]]) := by
    simp only [pItem, asList, hi', inS_get hx]
  have hr : i % 4 < 4 := Nat.mod_lt _ (by decide)
  have e1 : E.loc 1 [.list (inS xs), .obj 0, .int (Int.ofNat i) 64] [.list [.int a na, .int b nb, .int c nc, .int e ne]] = some (.obj 0, [.list [.int a na, .int b nb, .int c nc, .int e ne]]) := rfl
  unfold drawnB S.augItem
  simp only [E.bin, E.loc, E.const, List.getElem?_cons_zero, List.getElem?_cons_succ, p0, p1]
  generalize i % 4 = r at hr ⊢
  match r, hr with
  | 0, _ => exact ⟨_, ⟨_, _, _, _, _, _, _, _, rfl, bmax_le h1 hK, by omega, by omega, by omega⟩, rfl⟩
  | 1, _ => exact ⟨_, ⟨_, _, _, _, _, _, _, _, rfl, by omega, bmax_le h2 hK, by omega, by omega⟩, rfl⟩
  | 2, _ => exact ⟨_, ⟨_, _, _, _, _, _, _, _, rfl, by omega, by omega, bmax_le h3 hK, by omega⟩, rfl⟩
  | 3, _ => exact ⟨_, ⟨_, _, _, _, _, _, _, _, rfl, by omega, by omega, by omega, bmax_le h4 hK⟩, rfl⟩
theorem rng_cons {i n : Nat} : rngItems (Int.ofNat i) 1 (n + 1) = .int (Int.ofNat i) 64 :: rngItems (Int.ofNat (i + 1)) 1 n := rfl
theorem drawn_loop {xs : List Int} (hl : xs.length ≤ 63) : ∀ (n i fuel : Nat) (s : List AV) (u : AV), i + n = xs.length → n < fuel → SumsOk (1048576 + i) s →
    ∃ s' u', SumsOk (1048576 + xs.length) s' ∧ forGo (.one 2) drawnB fuel (.items (rngItems (Int.ofNat i) 1 n)) [.list (inS xs), .obj 0, u] [.list s] = some (.nx, [.list (inS xs), .obj 0, u'], [.list s'])
  | 0, i, 0, s, u, e, hf, h => absurd hf (by omega)
  | n + 1, i, 0, s, u, e, hf, h => absurd hf (by omega)
  | 0, i, f + 1, s, u, e, hf, h => ⟨s, u, by rw [← e]; exact h, rfl⟩
  | n + 1, i, f + 1, s, u, e, hf, h => by
    obtain ⟨x, hx⟩ : ∃ x, xs[i]? = some x := ⟨xs[i]'(by omega), List.getElem?_eq_getElem (by omega)⟩
    obtain ⟨s1, h1, e1⟩ := drawn_step hx (by omega) h (by omega)
    obtain ⟨s', u', h2, e2⟩ := drawn_loop hl n (i + 1) f s1 (.int (Int.ofNat i) 64) (by omega) (by omega) h1
    refine ⟨s', u', h2, ?_⟩
    rw [rng_cons]
    show (match drawnB [.list (inS xs), .obj 0, .int (Int.ofNat i) 64] [.list s] with
        | some (.nx, l, led') => forGo (.one 2) drawnB f (.items (rngItems (Int.ofNat (i + 1)) 1 n)) l led'
        | some (.ct, l, led') => forGo (.one 2) drawnB f (.items (rngItems (Int.ofNat (i + 1)) 1 n)) l led'
        | some (.bk, l, led') => some (.nx, l, led')
        | some (.rt v, l, led') => some (.rt v, l, led')
        | none => none) = _
    rw [e1]
    exact e2
theorem closeds_ints : ∀ xs : List Int, closeds (inS xs) = true
  | [] => rfl
  | x :: r => by
    show (closed (.int x 1048576) && closeds (inS r)) = true
    rw [closeds_ints r]; rfl
theorem drawn_ok {xs : List Int} (hl : xs.length ≤ 63) : ∃ x p q r, pnWiden 2097152 (closedCall f_law_drawn.g) [] [.list (inS xs)] = some (.list [.int x 2097152, .int p 2097152, .int q 2097152, .int r 2097152], []) := by
  obtain ⟨s', u', ⟨x, p, q, r, na, nb, nc, nd, rfl, h1, h2, h3, h4⟩, e⟩ := drawn_loop hl xs.length 0 300 [.int 5 8, .int 52 8, .int 40 8, .int 1 8] .unb (by omega) (by omega) ⟨_, _, _, _, _, _, _, _, rfl, by omega, by omega, by omega, by omega⟩
  refine ⟨x, p, q, r, ?_⟩
  have hlen : (inS xs).length = xs.length := by simp [inS]
  have hsh : shortL (inS xs) = true := by
    unfold shortL; rw [hlen]; exact Nat.ble_eq_true_of_le (by omega)
  have g1 : f_law_drawn.g [.list (inS xs)] [] = some (.obj 0, [.list [.int x na, .int p nb, .int q nc, .int r nd]]) := by
    show fnOfBody 2 f_law_drawn.b [.list (inS xs)] [] = _
    have q1 : E.iter (E.call pnRange [(E.call pnLen [(E.loc 0)])]) [.list (inS xs), .obj 0, .unb] [.list [.int 5 8, .int 52 8, .int 40 8, .int 1 8]] = some (.items (rngItems (Int.ofNat 0) 1 xs.length), [.list [.int 5 8, .int 52 8, .int 40 8, .int 1 8]]) := by
      have l1 : pnLen [.list [.int 5 8, .int 52 8, .int 40 8, .int 1 8]] [.list (inS xs)] = some (.int (Int.ofNat xs.length) 20, [.list [.int 5 8, .int 52 8, .int 40 8, .int 1 8]]) := by
        simp [pnLen, lenAV, hsh, hlen]
      have hb : Nat.blt (Int.ofNat xs.length).natAbs 1000000 = true := by
        simp [Nat.blt_eq]; omega
      have hs : rngSize 0 (Int.ofNat xs.length) 1 = xs.length := by simp [rngSize]
      have i1 : iterOf [.list [.int 5 8, .int 52 8, .int 40 8, .int 1 8]] (.rng 0 (Int.ofNat xs.length) 1) = some (.items (rngItems (Int.ofNat 0) 1 xs.length)) := by
        simp only [iterOf, hb, hs]
        rfl
      simp only [E.iter, E.call, E.args, E.loc, List.getElem?_cons_zero, l1, pnRange, int?, i1]
    have q2 : S.for (E.iter (E.call pnRange [(E.call pnLen [(E.loc 0)])])) (.one 2) drawnB [.list (inS xs), .obj 0, .unb] [.list [.int 5 8, .int 52 8, .int 40 8, .int 1 8]] = some (.nx, [.list (inS xs), .obj 0, u'], [.list [.int x na, .int p nb, .int q nc, .int r nd]]) := by
      unfold S.for
      rw [q1]
      exact e
    show (match S.seq (S.asg 1 (E.list true [(E.const (.int 5 8)), (E.const (.int 52 8)), (E.const (.int 40 8)), (E.const (.int 1 8))])) (S.seq (S.for (E.iter (E.call pnRange [(E.call pnLen [(E.loc 0)])])) (.one 2) drawnB) (S.ret (E.loc 1))) [.list (inS xs), .unb, .unb] [] with
      | some (.rt v, _, led') => some (v, led')
      | some (.nx, _, led') => some (.none, led')
      | _ => none) = _
    have a1 : S.asg 1 (E.list true [(E.const (.int 5 8)), (E.const (.int 52 8)), (E.const (.int 40 8)), (E.const (.int 1 8))]) [.list (inS xs), .unb, .unb] [] = some (.nx, [.list (inS xs), .obj 0, .unb], [.list [.int 5 8, .int 52 8, .int 40 8, .int 1 8]]) := rfl
    unfold S.seq
    rw [a1]
    simp only [S.seq, q2]
    rfl
  have hc : closeds [.list (inS xs)] = true := by
    show (closeds (inS xs) && true) = true
    rw [closeds_ints]; rfl
  unfold pnWiden
  rw [closedCall_ok (v' := .list [.int x na, .int p nb, .int q nc, .int r nd]) hc g1 rfl]
  have b1 : Nat.ble na 2097152 = true := Nat.ble_eq_true_of_le (by omega)
  have b2 : Nat.ble nb 2097152 = true := Nat.ble_eq_true_of_le (by omega)
  have b3 : Nat.ble nc 2097152 = true := Nat.ble_eq_true_of_le (by omega)
  have b4 : Nat.ble nd 2097152 = true := Nat.ble_eq_true_of_le (by omega)
  simp [widen, wideOk, wide1, b1, b2, b3, b4]
end Mine
end
-- part P5
section
set_option maxHeartbeats 4000000
namespace Mine
def boards : List (List Int) := [[0, 0, 0], [0, 0, 1], [0, 0, 2], [0, 0, 3], [0, 1, 1], [0, 1, 2], [0, 1, 3], [0, 2, 2], [0, 2, 3], [0, 3, 3], [1, 1, 1], [1, 1, 2], [1, 1, 3], [1, 2, 2], [1, 2, 3], [1, 3, 3], [2, 2, 2], [2, 2, 3], [2, 3, 3], [3, 3, 3]]
theorem boards_all {P : List Int → Prop} (h0 : P [0, 0, 0]) (h1 : P [0, 0, 1]) (h2 : P [0, 0, 2]) (h3 : P [0, 0, 3]) (h4 : P [0, 1, 1]) (h5 : P [0, 1, 2]) (h6 : P [0, 1, 3]) (h7 : P [0, 2, 2]) (h8 : P [0, 2, 3]) (h9 : P [0, 3, 3]) (h10 : P [1, 1, 1]) (h11 : P [1, 1, 2]) (h12 : P [1, 1, 3]) (h13 : P [1, 2, 2]) (h14 : P [1, 2, 3]) (h15 : P [1, 3, 3]) (h16 : P [2, 2, 2]) (h17 : P [2, 2, 3]) (h18 : P [2, 3, 3]) (h19 : P [3, 3, 3]) : ∀ l ∈ boards, P l := by
  intro l hl
  unfold boards at hl
  simp only [List.mem_cons, List.not_mem_nil, or_false] at hl
  rcases hl with rfl | rfl | rfl | rfl | rfl | rfl | rfl | rfl | rfl | rfl | rfl | rfl | rfl | rfl | rfl | rfl | rfl | rfl | rfl | rfl <;> assumption
theorem boardOk : ∀ l ∈ boards, BoardOk l (cntOf l) := boards_all b000 b001 b002 b003 b011 b012 b013 b022 b023 b033 b111 b112 b113 b122 b123 b133 b222 b223 b233 b333
theorem boards_three : ∀ l ∈ boards, ∃ a b c, l = [a, b, c] := boards_all ⟨_, _, _, rfl⟩ ⟨_, _, _, rfl⟩ ⟨_, _, _, rfl⟩ ⟨_, _, _, rfl⟩ ⟨_, _, _, rfl⟩ ⟨_, _, _, rfl⟩ ⟨_, _, _, rfl⟩ ⟨_, _, _, rfl⟩ ⟨_, _, _, rfl⟩ ⟨_, _, _, rfl⟩ ⟨_, _, _, rfl⟩ ⟨_, _, _, rfl⟩ ⟨_, _, _, rfl⟩ ⟨_, _, _, rfl⟩ ⟨_, _, _, rfl⟩ ⟨_, _, _, rfl⟩ ⟨_, _, _, rfl⟩ ⟨_, _, _, rfl⟩ ⟨_, _, _, rfl⟩ ⟨_, _, _, rfl⟩
def rookStep (d : List Int) (h : Int) : List Int := match d with
  | [a, b, c, e] => [1, b + a * h, c + b * (h - 1), e + c * (h - 2)]
  | d => d
def rookOf (l : List Int) : List Int := l.foldl rookStep [1, 0, 0, 0]
def dueV (l : List Int) : AV := match rookOf l with
  | [a, b, c, e] => .list [.int a 8, .int b 2097165, .int c 4194319, .int e 6291473]
  | _ => .unb
theorem due_ok : ∀ l ∈ boards, closedCall f_law_due.g [] [iL 2097152 l] = some (dueV l, []) := boards_all (by kernel_rfl) (by kernel_rfl) (by kernel_rfl) (by kernel_rfl) (by kernel_rfl) (by kernel_rfl) (by kernel_rfl) (by kernel_rfl) (by kernel_rfl) (by kernel_rfl) (by kernel_rfl) (by kernel_rfl) (by kernel_rfl) (by kernel_rfl) (by kernel_rfl) (by kernel_rfl) (by kernel_rfl) (by kernel_rfl) (by kernel_rfl) (by kernel_rfl)
def normV (l : List Int) (k : Nat) : AV := .tup [.tup (cL (cntOf l)), .int (Int.ofNat k) (8 + k)]
def pairChk (l1 l2 : List Int) (k : Nat) : Bool := match pEq [] (dueV l1) (dueV l2), pEq [] (normV l1 k) (normV l2 k) with
  | some (.bool e, []), some (.bool e', []) => e == e'
  | _, _ => false
def rowChk (l1 : List Int) (k : Nat) : Bool := boards.all fun l2 => pairChk l1 l2 k
theorem pair_ok {l1 l2 : List Int} {k : Nat} (h : pairChk l1 l2 k = true) : ∃ e, pEq [] (dueV l1) (dueV l2) = some (.bool e, []) ∧ pEq [] (normV l1 k) (normV l2 k) = some (.bool e, []) := by
  unfold pairChk at h
  split at h
  · rename_i e e' h1 h2
    have := eq_of_beq h
    subst this
    exact ⟨e, h1, h2⟩
  · cases h
theorem rows : ∀ l ∈ boards, ∀ k < 3, rowChk l k = true := boards_all (three (by kernel_rfl) (by kernel_rfl) (by kernel_rfl)) (three (by kernel_rfl) (by kernel_rfl) (by kernel_rfl)) (three (by kernel_rfl) (by kernel_rfl) (by kernel_rfl)) (three (by kernel_rfl) (by kernel_rfl) (by kernel_rfl)) (three (by kernel_rfl) (by kernel_rfl) (by kernel_rfl)) (three (by kernel_rfl) (by kernel_rfl) (by kernel_rfl)) (three (by kernel_rfl) (by kernel_rfl) (by kernel_rfl)) (three (by kernel_rfl) (by kernel_rfl) (by kernel_rfl)) (three (by kernel_rfl) (by kernel_rfl) (by kernel_rfl)) (three (by kernel_rfl) (by kernel_rfl) (by kernel_rfl)) (three (by kernel_rfl) (by kernel_rfl) (by kernel_rfl)) (three (by kernel_rfl) (by kernel_rfl) (by kernel_rfl)) (three (by kernel_rfl) (by kernel_rfl) (by kernel_rfl)) (three (by kernel_rfl) (by kernel_rfl) (by kernel_rfl)) (three (by kernel_rfl) (by kernel_rfl) (by kernel_rfl)) (three (by kernel_rfl) (by kernel_rfl) (by kernel_rfl)) (three (by kernel_rfl) (by kernel_rfl) (by kernel_rfl)) (three (by kernel_rfl) (by kernel_rfl) (by kernel_rfl)) (three (by kernel_rfl) (by kernel_rfl) (by kernel_rfl)) (three (by kernel_rfl) (by kernel_rfl) (by kernel_rfl))
theorem pairs {l1 l2 : List Int} (h1 : l1 ∈ boards) (h2 : l2 ∈ boards) {k : Nat} (hk : k < 3) : ∃ e, pEq [] (dueV l1) (dueV l2) = some (.bool e, []) ∧ pEq [] (normV l1 k) (normV l2 k) = some (.bool e, []) :=
  pair_ok (List.all_eq_true.mp (rows l1 h1 k hk) l2 h2)
def okN : AV → Bool
  | .int _ n => Nat.beq n 2097152
  | _ => false
def listIn : Option (AV × List AO) → Option (List AV)
  | some (.list xs, []) => some xs
  | _ => none
theorem listIn_some {o : Option (AV × List AO)} {xs : List AV} (h : listIn o = some xs) : o = some (.list xs, []) := by
  unfold listIn at h
  split at h
  · cases h; rfl
  · cases h
def boardIs (o : Option (AV × List AO)) : Bool := match listIn o with
  | some xs => xs.all okN && boards.any fun l => decide (l = xs.map intOfV)
  | none => false
theorem okN_eq : ∀ {v : AV}, okN v = true → v = .int (intOfV v) 2097152
  | .int i n, h => by rw [Nat.eq_of_beq_eq_true h]; rfl
theorem okN_all : ∀ {xs : List AV}, xs.all okN = true → .list xs = iL 2097152 (xs.map intOfV)
  | [], _ => rfl
  | v :: r, h => by
    rw [List.all_cons, Bool.and_eq_true] at h
    have e := okN_all h.2
    unfold iL at e ⊢
    injection e with e
    rw [List.map_cons, List.map_cons, ← e, ← okN_eq h.1]
theorem boardIs_ok {o : Option (AV × List AO)} (h : boardIs o = true) : ∃ l ∈ boards, o = some (iL 2097152 l, []) := by
  unfold boardIs at h
  split at h
  · rename_i xs hx
    rw [Bool.and_eq_true, List.any_eq_true] at h
    obtain ⟨h1, l, hl, h4⟩ := h
    have h4 := of_decide_eq_true h4
    refine ⟨l, hl, ?_⟩
    rw [listIn_some hx, h4, okN_all h1]
  · cases h
def sortV (a b c : Int) : Option (AV × List AO) := pnSorted [] [.list [.int a 2097152, .int b 2097152, .int c 2097152]]
def four (P : Int → Bool) : Bool := P 0 && P 1 && P 2 && P 3
theorem four_ok {P : Int → Bool} (h : four P = true) {i : Int} (h0 : 0 ≤ i) (h1 : i < 4) : P i = true := by
  unfold four at h
  simp only [Bool.and_eq_true] at h
  obtain ⟨⟨⟨a, b⟩, c⟩, d⟩ := h
  have : i = 0 ∨ i = 1 ∨ i = 2 ∨ i = 3 := by omega
  rcases this with rfl | rfl | rfl | rfl <;> assumption
def sortIs (a b c : Int) : Bool := match sortV a b c with
  | some (v, l) => (match freeze l 12 v with | some v' => boardIs (some (v', [])) | none => false)
  | none => false
theorem sorts : four (fun a => four fun b => four fun c => sortIs a b c) = true := by kernel_rfl
theorem board_ok (p : Int) : ∃ l ∈ boards, closedCall f_law_board.g [] [.int p 2097152] = some (iL 2097152 l, []) := by
  have h := four_ok (four_ok (four_ok sorts (Int.fmod_nonneg_of_pos p (by decide : (0:Int) < 4)) (Int.fmod_lt_of_pos p (by decide))) (Int.fmod_nonneg_of_pos (p.fdiv 4) (by decide : (0:Int) < 4)) (Int.fmod_lt_of_pos (p.fdiv 4) (by decide))) (Int.fmod_nonneg_of_pos (p.fdiv 16) (by decide : (0:Int) < 4)) (Int.fmod_lt_of_pos (p.fdiv 16) (by decide))
  unfold sortIs at h
  split at h
  · rename_i v led q
    split at h
    · rename_i v' q2
      obtain ⟨l, hl, e⟩ := boardIs_ok h
      cases e
      refine ⟨l, hl, closedCall_ok rfl (v := v) (led' := led) ?_ q2⟩
      show fnOfBody 0 f_law_board.b [.int p 2097152] [] = _
      have e1 : pDiv [] (.int p 2097152) (.int 4 8) = some (.int (p.fdiv 4) 2097152, []) := rfl
      have e2 : pDiv [] (.int p 2097152) (.int 16 8) = some (.int (p.fdiv 16) 2097152, []) := rfl
      have e3 : ∀ i, pMod [] (.int i 2097152) (.int 4 8) = some (.int (i.fmod 4) 2097152, []) := fun _ => rfl
      have e4 : ∀ a b c, shortL [a, b, c] = true := fun _ _ _ => rfl
      have e5 : ∀ a b c, newList false [] [a, b, c] = some (.list [a, b, c], []) := fun _ _ _ => rfl
      unfold sortV at q
      simp only [fnOfBody, f_law_board.b, S.ret, E.call, E.args, E.list, E.bin, E.loc, E.const, List.replicate, List.append_nil, List.getElem?_cons_zero, e1, e2, e3, e4, e5, q]
    · cases h
  · cases h
theorem fmod3 (r : Int) : ∃ k : Nat, k < 3 ∧ pMod [] (.int r 2097152) (.int 3 8) = some (.int (Int.ofNat k) 2097152, []) := by
  have h0 := Int.fmod_nonneg_of_pos r (by decide : (0:Int) < 3)
  have h1 := Int.fmod_lt_of_pos r (by decide : (0:Int) < 3)
  obtain ⟨k, hk⟩ := Int.eq_ofNat_of_zero_le h0
  refine ⟨k, by omega, ?_⟩
  show some (AV.int (r.fmod 3) 2097152, []) = _
  rw [hk]; rfl
theorem second_ok {s S : AV} {l1 : List AV} {k : Int} {m : Nat} {g1 : List (Nat × AV)} {P Q R : AV} (a b c : Int) :
    E.comp (E.iter (E.call pnRange [(E.const (.int 3 8))])) [none, some 3] (.one 0) (actLast [] (E.bin (pAdd false) (E.bin pItem (E.loc 1) (E.bin pSub (E.const (.int 2 8)) (E.loc 0))) (E.loc 0))) false
      [s, .list [S, P, Q, R], .list l1, iL 2097152 [a, b, c], .int k m, .finst 100 g1, .unb] [] = some (.list [.int (c + 0) 2097153, .int (b + 1) 2097153, .int (a + 2) 2097153], []) := by kernel_rfl
theorem law_true (xs : List Int) (hl : xs.length ≤ 63) : ∃ led, f_law.g [.list (inS xs)] [] = some (.bool true, led) := by
  obtain ⟨x, p, q, r, hS⟩ := drawn_ok hl
  obtain ⟨l1, m1, hB1⟩ := board_ok p
  obtain ⟨l2, m2, hB2⟩ := board_ok q
  obtain ⟨k, k3, hk⟩ := fmod3 r
  have K1 := boardOk l1 m1
  have K2 := boardOk l2 m2
  have D1 := due_ok l1 m1
  have D2 := due_ok l2 m2
  obtain ⟨e, he1, he2⟩ := pairs m1 m2 k3
  have hF1 := K1.lead1 k k3
  have hF2 := K2.lead2 k k3
  have A := K1.apart k k3
  obtain ⟨a, b, c, rfl⟩ := boards_three l2 m2
  have hc : c + 0 = c := Int.add_zero c
  have R2 := fun s S l1 k m g1 P Q R => @second_ok s S l1 k m g1 P Q R a b c
  rw [hc] at R2
  exact ⟨[], law_ok hS hB1 hB2 hk K1.runs hF1 (R2 ..) hF2 D1 D2 (equal_ok he2) he1 A (K1.holds _ _ _ _ _ _ _ _ x) (K2.holds _ _ _ _ _ _ _ _ x)⟩
end Mine
end
-- part TOP
section
set_option maxHeartbeats 8000000
namespace Mine
variable {G : Glo}
theorem w_ints : ∀ {xs : List Int} {W : Nat}, PyData.weightAll (xs.map PyData.int) ≤ W → ∀ i ∈ xs, i.natAbs < 2 ^ W
  | [], _, _, _, h => by cases h
  | j :: r, W, h, i, hi => by
    have e : PyData.weightAll ((j :: r).map PyData.int) = PyData.weight (.int j) + 1 + PyData.weightAll (r.map PyData.int) := by simp [PyData.weightAll]
    rw [e] at h
    rcases List.mem_cons.mp hi with rfl | hi
    · have hw : PyData.weight (.int i) = if i == 0 then 0 else i.natAbs.log2 + 1 := by simp [PyData.weight]
      rw [hw] at h
      split at h
      · rename_i q
        have : i = 0 := by simpa using q
        subst this
        exact Nat.two_pow_pos W
      · have h1 : i.natAbs < 2 ^ (i.natAbs.log2 + 1) := Nat.lt_log2_self
        exact Nat.lt_of_lt_of_le h1 (Nat.pow_le_pow_right (by decide) (by omega))
    · exact w_ints (by omega) i hi
theorem inBits {xs : List Int} (h : PyData.layable0 (.list (xs.map PyData.int)) = true) : ∀ i ∈ xs, i.natAbs < 2 ^ 1048576 := by
  have h2 : PyData.weight (.list (xs.map PyData.int)) ≤ 1048576 := by
    unfold PyData.layable0 at h
    simp only [Bool.and_eq_true, decide_eq_true_eq] at h
    exact h.2
  have e : PyData.weight (.list (xs.map PyData.int)) = PyData.weightAll (xs.map PyData.int) := by simp [PyData.weight]
  rw [e] at h2
  exact w_ints h2
theorem vrs_ints {c : Cf} {h : Heap} : ∀ {vs : List Value} {xs : List Int}, IntsAre vs xs → (∀ i ∈ xs, i.natAbs < 2 ^ 1048576) → VRs c h (inS xs) vs
  | _, _, .nil, _ => .nil
  | _, _, .cons n t r, H => .cons (.int (H n (List.mem_cons_self ..))) (vrs_ints r fun i hi => H i (List.mem_cons_of_mem _ hi))
def c0 (h : Heap) : Cf := ⟨[], fun a => ∃ o, h.get? a = some o⟩
theorem sr0 {prog : Program} {w : World} {s : Shared} : SR prog w s.heap (c0 s.heap) [] s :=
  ⟨fun _ _ e => e, fun _ o e => ⟨o, e⟩, fun _ h => h, List.nodup_nil, fun _ h => (by cases h), rfl, fun _ _ e => by simp at e⟩
theorem good0 : GoodA 6 callerA := ⟨rfl, by decide, by decide⟩
theorem post_true {args : List WData} : Challenge.rw_tl0051_01.row.claim.post args (WData.bool true) args = true := by
  have h1 : WShape.has [] (WData.bool true) WShape.bool = true := by decide +kernel
  have h2 : PySem.W.same (WData.bool true) (WData.bool true) = true := by decide +kernel
  simp [RowW.claim, OpenLaw.row, h1, WTm.holds, WTm.value]
  rw [h2]
theorem law_good {w : World} {s₁ : Shared} {loose : List Str} {mean : ExcName → Option Value} {mg mb : Str → Option Value} {a : Addr} {vs : List Value} {xs : List Int} {args : List WData} {cl : Str → Option Addr} {mean' : ExcName → Option Value} {p : Program}
    (KX : (frag.heap_1 w.params).In s₁.heap) (T : Top p loose mean mg mb s₁.heap) (hg : s₁.gens = #[]) (hL : s₁.heap.IsList a vs.toArray) (hI : IntsAre vs xs) (hb : ∀ i ∈ xs, i.natAbs < 2 ^ 1048576) (hl : xs.length ≤ 63) :
    codeAny (model Challenge.rw_tl0051_01.row.prog w) callerA (Code.call (Value.ref 387) { pos := [Value.ref a] }) (GoodWG Challenge.rw_tl0051_01.row.claim cl mean' args s₁) s₁ := by
  obtain ⟨led, e⟩ := law_true xs hl
  let G : Glo := ⟨Challenge.rw_tl0051_01.row.prog, w, s₁.heap, frag.heap_1 w.params, p, loose, mean, mg, mb, KX, T⟩
  have sf : SF G 6 f_law.g 387 := f_law.sf (G := G) rfl
  have R : GSR G (c0 s₁.heap) [] s₁ := sr0
  obtain ⟨o, ho, hr⟩ := hL
  refine codeAny_mono (sf callerA (c0 s₁.heap) [] s₁ [.list (inS xs)] [.ref a] _ led good0 R (.cons (.list ⟨o, ho⟩ ⟨o, ho, hr⟩ (vrs_ints hI hb)) .nil) e) fun r s' h => ?_
  revert h
  split
  · rintro ⟨c', st, R', hv⟩
    cases hv
    obtain ⟨h', tk, hs⟩ := st.sh
    refine ⟨.inl ⟨_, _, _, rfl, fun _ => rfl, .bool true, ?_, fun _ => ⟨List.nodup_nil, fun _ h => by cases h⟩⟩, .of_keep fun b o e => ?_, ?_, ?_⟩
    · exact post_true
    · exact st.keep b o e (by simp [c0]) (by simp)
    · rw [hs]
    · exact .of_eq (by rw [hs]; exact hg)
  · exact False.elim
theorem law_name : lawD.1.name = ("law" : Str) := by kernel_rfl
theorem top : PySem.Challenge.rw_tl0051_01.Holds := hd (by
  intro w s₀ s₁ mg mb G Y fa o pm cd doc dV kV ho hd hcd hD hmg hg args vals as hpre hlay hrd hwl hlo
  have KX := kIn_of Y
  refine Ground.open G ?_
  intro T B D TE TW
  try (refine guard_noD D (by decide +kernel) ?_; clear D)
  have e1 : mg "law" = some (.ref 387) := mg_of KX T.g (by kernel_rfl)
  rw [law_name] at hmg
  have e2 : fa = 387 := by
    have e3 := hmg.symm.trans e1
    cases e3; rfl
  subst e2
  clear hmg hcd hD ho hd
  wrow_args hpre hlay hrd hwl hlo
  refine enter_call ?_
  rename_i hcond _
  exact law_good KX T hg (by assumption) (by assumption) (inBits (by assumption)) (by omega))
end Mine
end
set_option maxHeartbeats 4000000 in
theorem PySem.Challenge.cw_tl0051_01_holds : PySem.Challenge.rw_tl0051_01.Holds := by
  exact Mine.top
