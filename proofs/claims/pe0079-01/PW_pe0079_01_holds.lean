import PyProof.Rows.All
import Wide.All
import OpenK.AllK
import Wide.FinOn
import KE.KTryOn
import PyProof.ExcFactsAll.ValueError
import KE.KDictIter
import PyProof.Rows.SortShell
import KE.KLam
import KE.KMinKey
import KE.KEqDict
import PyProof.Rows.TupMore
import PyProof.StrBlockI
import KE.KxPercentT
import PyProof.DictCompW
import PySem.Challenge.RW_pe0079_01
open PySem PySem.W PyProof.Rows
set_option Elab.async false
set_option maxRecDepth 100000
set_option maxHeartbeats 0
set_option linter.unusedVariables false
namespace Mine
local macro_rules | `(tactic| omega) => `(tactic| lia)
theorem lt4 {p : Nat} (h : p < 4) : p = 0 ∨ p = 1 ∨ p = 2 ∨ p = 3 := by omega
theorem lt6 {p : Nat} (h : p < 6) : p = 0 ∨ p = 1 ∨ p = 2 ∨ p = 3 ∨ p = 4 ∨ p = 5 := by omega
noncomputable abbrev G := Addr → Option Obj
noncomputable def G.le (g g' : G) : Prop := ∀ a o, g a = some o → g' a = some o
theorem G.le.rfl {g : G} : G.le g g := fun _ _ h => h
theorem G.le.trans {g g' g'' : G} (h : G.le g g') (h' : G.le g' g'') : G.le g g'' := fun a o e => h' a o (h a o e)
noncomputable def G.put (g : G) (a : Addr) (o : Obj) : G := fun b => if b = a then some o else g b
theorem G.le_put {g : G} {a : Addr} {o : Obj} (h : g a = none) : G.le g (g.put a o) := by
  intro b o' e
  unfold G.put
  split
  · rename_i q; subst q; rw [h] at e; cases e
  · exact e
theorem G.put_self (g : G) (a : Addr) (o : Obj) : g.put a o a = some o := if_pos rfl

noncomputable abbrev Ld := List (Addr × (Obj → Prop))
structure Wd (g : G) (h : Heap) (l : Ld) : Prop where
  fz : ∀ a o, g a = some o → h.get? a = some o
  nd : (l.map Prod.fst).Nodup
  ok : ∀ p ∈ l, g p.1 = none ∧ ∃ o, h.get? p.1 = some o ∧ p.2 o

namespace Wd
variable {g g' : G} {h h' : Heap} {l l' : Ld} {a : Addr} {P P' : Obj → Prop} {o : Obj}
theorem get (w : Wd g h l) (hm : (a, P) ∈ l) : ∃ o, h.get? a = some o ∧ P o := (w.ok _ hm).2
theorem fresh (w : Wd g h l) : g h.objs.size = none := by
  cases e : g h.objs.size with
  | none => rfl
  | some o => exact absurd (Heap.lt_size (w.fz _ _ e)) (Nat.lt_irrefl _)
theorem size_notin (w : Wd g h l) : h.objs.size ∉ l.map Prod.fst := by
  intro hm
  obtain ⟨p, hp, e⟩ := List.mem_map.mp hm
  obtain ⟨o, ho, _⟩ := (w.ok p hp).2
  rw [e] at ho
  exact absurd (Heap.lt_size ho) (Nat.lt_irrefl _)
theorem push (w : Wd g h l) (hf : o.isFreed = false) (hP : P o) : Wd g (h.push o) ((h.objs.size, P) :: l) where
  fz := fun a o' e => Heap.get?_push_of_some _ (w.fz a o' e)
  nd := by
    rw [List.map_cons, List.nodup_cons]
    exact ⟨w.size_notin, w.nd⟩
  ok := fun p hp => by
    rcases List.mem_cons.mp hp with e | hp
    · subst e; exact ⟨w.fresh, o, Heap.get?_push_size _ hf, hP⟩
    · obtain ⟨h1, o', h2, h3⟩ := w.ok p hp
      exact ⟨h1, o', Heap.get?_push_of_some _ h2, h3⟩
theorem pushJunk (w : Wd g h l) : Wd g (h.push o) l where
  fz := fun a o' e => Heap.get?_push_of_some _ (w.fz a o' e)
  nd := w.nd
  ok := fun p hp => by
    obtain ⟨h1, o', h2, h3⟩ := w.ok p hp
    exact ⟨h1, o', Heap.get?_push_of_some _ h2, h3⟩
theorem freeze (w : Wd g h ((a, P) :: l)) : ∃ o, h.get? a = some o ∧ P o ∧ Wd (g.put a o) h l ∧ G.le g (g.put a o) := by
  obtain ⟨h1, o, h2, h3⟩ := w.ok _ (.head _)
  refine ⟨o, h2, h3, ⟨fun b o' e => ?_, (List.nodup_cons.mp w.nd).2, fun p hp => ?_⟩, G.le_put h1⟩
  · unfold G.put at e
    split at e
    · rename_i q; subst q; cases e; exact h2
    · exact w.fz b o' e
  · obtain ⟨q1, q2⟩ := w.ok p (.tail _ hp)
    refine ⟨?_, q2⟩
    unfold G.put
    rw [if_neg]
    · exact q1
    · intro e
      exact (List.nodup_cons.mp w.nd).1 (List.mem_map.mpr ⟨p, hp, e⟩)
/-- a new object, frozen at once -/
theorem pushF (w : Wd g h l) (hf : o.isFreed = false) : Wd (g.put h.objs.size o) (h.push o) l ∧ G.le g (g.put h.objs.size o) := by
  obtain ⟨o', h1, h2, h3, h4⟩ := (w.push (P := fun x => x = o) hf rfl).freeze
  subst h2
  exact ⟨h3, h4⟩
theorem upd {pre post : Ld} (w : Wd g h (pre ++ (a, P) :: post)) (hk : ∀ b o, b ≠ a → h.get? b = some o → h'.get? b = some o) (ho : h'.get? a = some o) (hP : P' o) : Wd g h' (pre ++ (a, P') :: post) where
  fz := fun b o' e => hk b o' (by
    intro q; subst q
    have := (w.ok (b, P) (by simp)).1
    simp only at this
    rw [this] at e; cases e) (w.fz b o' e)
  nd := by simpa using w.nd
  ok := fun p hp => by
    have hnd : a ∉ (pre.map Prod.fst) ∧ a ∉ post.map Prod.fst := by
      have := w.nd
      rw [List.map_append, List.map_cons, List.nodup_append] at this
      obtain ⟨_, q2, q3⟩ := this
      exact ⟨fun hm => q3 _ hm _ (.head _) rfl, (List.nodup_cons.mp q2).1⟩
    have old : ∀ q ∈ pre ++ (a, P) :: post, q.1 ≠ a → g q.1 = none ∧ ∃ o, h'.get? q.1 = some o ∧ q.2 o := fun q hq hne => by
      obtain ⟨h1, o', h2, h3⟩ := w.ok q hq
      exact ⟨h1, o', hk _ _ hne h2, h3⟩
    rcases List.mem_append.mp hp with hp | hp
    · exact old p (List.mem_append_left _ hp) fun e => hnd.1 (e ▸ List.mem_map.mpr ⟨p, hp, rfl⟩)
    · rcases List.mem_cons.mp hp with e | hp
      · subst e
        exact ⟨(w.ok (a, P) (by simp)).1, o, ho, hP⟩
      · exact old p (List.mem_append_right _ (.tail _ hp)) fun e => hnd.2 (e ▸ List.mem_map.mpr ⟨p, hp, rfl⟩)
theorem upd0 {post : Ld} (w : Wd g h ((a, P) :: post)) (hk : ∀ b o, b ≠ a → h.get? b = some o → h'.get? b = some o) (ho : h'.get? a = some o) (hP : P' o) : Wd g h' ((a, P') :: post) := upd (pre := []) w hk ho hP
theorem keeps (w : Wd g h l) (hk : ∀ b o, h.get? b = some o → h'.get? b = some o) : Wd g h' l where
  fz := fun b o e => hk b o (w.fz b o e)
  nd := w.nd
  ok := fun p hp => let ⟨h1, o, h2, h3⟩ := w.ok p hp; ⟨h1, o, hk _ _ h2, h3⟩
theorem perm (w : Wd g h l) (hp : l.Perm l') : Wd g h l' where
  fz := w.fz
  nd := (hp.map _).nodup_iff.mp w.nd
  ok := fun p hq => w.ok p (hp.mem_iff.mpr hq)
theorem sub (w : Wd g h l) (hs : l'.Sublist l) : Wd g h l' where
  fz := w.fz
  nd := (hs.map _).nodup w.nd
  ok := fun p hq => w.ok p (hs.subset hq)
/-- pointwise weaker -/
inductive Wk : Ld → Ld → Prop
  | nil : Wk [] []
  | cons {a : Addr} {P P' : Obj → Prop} {l l' : Ld} : (∀ o, P o → P' o) → Wk l l' → Wk ((a, P) :: l) ((a, P') :: l')
theorem Wk.rfl : ∀ {l : Ld}, Wk l l
  | [] => .nil
  | (_, _) :: _ => .cons (fun _ h => h) Wk.rfl
theorem Wk.append {l₁ l₁' l₂ l₂' : Ld} (h : Wk l₁ l₁') (h' : Wk l₂ l₂') : Wk (l₁ ++ l₂) (l₁' ++ l₂') := by
  induction h with
  | nil => exact h'
  | cons q _ ih => exact .cons q ih
theorem Wk.fst {l l' : Ld} (h : Wk l l') : l.map Prod.fst = l'.map Prod.fst := by
  induction h with
  | nil => rfl
  | cons _ _ ih => simp [ih]
theorem Wk.mem {l l' : Ld} (h : Wk l l') : ∀ q ∈ l', ∃ p ∈ l, p.1 = q.1 ∧ ∀ o, p.2 o → q.2 o := by
  induction h with
  | nil => intro q hq; cases hq
  | cons k _ ih =>
    intro q hq
    rcases List.mem_cons.mp hq with e | hq
    · subst e; exact ⟨_, .head _, _root_.rfl, k⟩
    · obtain ⟨p, h1, h2⟩ := ih q hq; exact ⟨p, .tail _ h1, h2⟩
theorem weak (w : Wd g h l) (hw : Wk l l') : Wd g h l' where
  fz := w.fz
  nd := hw.fst ▸ w.nd
  ok := fun q hq => by
    obtain ⟨p, h1, h2, h3⟩ := hw.mem q hq
    obtain ⟨q1, o, q2, q3⟩ := w.ok p h1
    exact ⟨h2 ▸ q1, o, h2 ▸ q2, h3 o q3⟩
end Wd

inductive D where
  | none
  | bool (b : Bool)
  | int (i : Int)
  | str (s : Str)
  | lst (xs : List D)
  | tup (xs : List D)
  | dct (kvs : List (Str × D))

noncomputable abbrev P0 : Program := PySem.Challenge.pw_pe0079_01
noncomputable def seqO (T : String) (vs : List Value) (n : Nat) : Obj := { cls := .type T, data := .seq vs.toArray n }

mutual
noncomputable def Rd (w : World) (g : G) : D → Value → Prop
  | .none, v => v = .none
  | .bool b, v => v = .bool b
  | .int i, v => ∃ t, v = .int i t
  | .str x, v => ∃ t, v = .str x t
  | .lst xs, v => ∃ a vs n, v = .ref a ∧ g a = some (seqO "list" vs n) ∧ RdL w g xs vs
  | .tup xs, v => ∃ a vs n, v = .ref a ∧ g a = some (seqO "tuple" vs n) ∧ RdL w g xs vs
  | .dct kvs, v => ∃ a o ps, v = .ref a ∧ (a == sysModules) = false ∧ g a = some o ∧ o.IsDictOf (strKind P0 w) ps ∧ RdK w g kvs ps
noncomputable def RdL (w : World) (g : G) : List D → List Value → Prop
  | [], vs => vs = []
  | d :: ds, vs => ∃ v vs', vs = v :: vs' ∧ Rd w g d v ∧ RdL w g ds vs'
noncomputable def RdK (w : World) (g : G) : List (Str × D) → List (Str × Value) → Prop
  | [], ps => ps = []
  | (k, d) :: r, ps => ∃ v ps', ps = (k, v) :: ps' ∧ Rd w g d v ∧ RdK w g r ps'
end

mutual
theorem Rd.mono {w : World} {g g' : G} (hg : G.le g g') : ∀ (d : D) {v : Value}, Rd w g d v → Rd w g' d v
  | .none, _, h => h
  | .bool _, _, h => h
  | .int _, _, h => h
  | .str _, _, h => h
  | .lst xs, _, h => by
    obtain ⟨a, vs, n, e, h1, h2⟩ := h
    exact ⟨a, vs, n, e, hg _ _ h1, RdL.mono hg xs h2⟩
  | .tup xs, _, h => by
    obtain ⟨a, vs, n, e, h1, h2⟩ := h
    exact ⟨a, vs, n, e, hg _ _ h1, RdL.mono hg xs h2⟩
  | .dct kvs, _, h => by
    obtain ⟨a, o, ps, e, h0, h1, h2, h3⟩ := h
    exact ⟨a, o, ps, e, h0, hg _ _ h1, h2, RdK.mono hg kvs h3⟩
theorem RdL.mono {w : World} {g g' : G} (hg : G.le g g') : ∀ (ds : List D) {vs : List Value}, RdL w g ds vs → RdL w g' ds vs
  | [], _, h => h
  | d :: ds, _, h => by
    obtain ⟨v, vs', e, h1, h2⟩ := h
    exact ⟨v, vs', e, Rd.mono hg d h1, RdL.mono hg ds h2⟩
theorem RdK.mono {w : World} {g g' : G} (hg : G.le g g') : ∀ (ds : List (Str × D)) {vs : List (Str × Value)}, RdK w g ds vs → RdK w g' ds vs
  | [], _, h => h
  | (k, d) :: ds, _, h => by
    obtain ⟨v, vs', e, h1, h2⟩ := h
    exact ⟨v, vs', e, Rd.mono hg d h1, RdK.mono hg ds h2⟩
end
theorem RdL.length {w : World} {g : G} : ∀ {ds : List D} {vs : List Value}, RdL w g ds vs → vs.length = ds.length
  | [], _, h => by rw [RdL] at h; subst h; rfl
  | _ :: ds, _, h => by
    rw [RdL] at h
    obtain ⟨v, vs', rfl, _, h2⟩ := h
    simp [RdL.length h2]
theorem RdL.at {w : World} {g : G} : ∀ {ds : List D} {vs : List Value}, RdL w g ds vs → ∀ {i : Nat} {d : D}, ds[i]? = some d → ∃ v, vs[i]? = some v ∧ Rd w g d v
  | [], _, _, i, d, e => by simp at e
  | d0 :: ds, _, h, i, d, e => by
    rw [RdL] at h
    obtain ⟨v, vs', rfl, h1, h2⟩ := h
    cases i with
    | zero => simp at e; subst e; exact ⟨v, rfl, h1⟩
    | succ i => simpa using RdL.at h2 (by simpa using e)
theorem RdL.at' {w : World} {g : G} {ds : List D} {vs : List Value} (h : RdL w g ds vs) {i : Nat} {v : Value} (e : vs[i]? = some v) : ∃ d, ds[i]? = some d ∧ Rd w g d v := by
  have hl := h.length
  have : i < ds.length := by rw [← hl]; exact (List.getElem?_eq_some_iff.mp e).1
  obtain ⟨v', h1, h2⟩ := h.at (i := i) (d := ds[i]) (by simp [this])
  rw [e] at h1; cases h1
  exact ⟨_, by simp [this], h2⟩
theorem RdL.append {w : World} {g : G} : ∀ {ds es : List D} {vs us : List Value}, RdL w g ds vs → RdL w g es us → RdL w g (ds ++ es) (vs ++ us)
  | [], _, _, _, h, h' => by rw [RdL] at h; subst h; exact h'
  | _ :: ds, _, _, _, h, h' => by
    rw [RdL] at h
    obtain ⟨v, vs', rfl, h1, h2⟩ := h
    exact ⟨v, _, rfl, h1, RdL.append h2 h'⟩
theorem RdL.one {w : World} {g : G} {d : D} {v : Value} (h : Rd w g d v) : RdL w g [d] [v] := ⟨v, [], rfl, h, by rw [RdL]⟩
theorem RdL.nil {w : World} {g : G} : RdL w g [] [] := by rw [RdL]
noncomputable def sV (x : String) (t : Nat) : Value := .str (Str.ofString x) t
noncomputable def rowE (P : Params) (x : String) (t : Nat) (v : Value) : DictEntry := ⟨PyData.keyHash P (Str.ofString x), sV x t, v⟩
/-- a def's code: its tokens from t on, k names, its own objects from r on -/
noncomputable def codeO (x : String) (t k line args flags r : Nat) (q : String := x) : Obj :=
  ⟨.type "code", none, .fields #[sV x t, sV q (t + 1), sV "/claim/cut.py" (t + 2), .int line 0, .int args 0, .int 0 0, .int 0 0, .int flags 0, .ref r, .bool true, .int 181 0, .ref (r + 1), .none, .ref (r + 2), .ref (r + 3), .ref (r + 4), .int (t + k + 3 : Nat) 0, .int line 0, sV "/claim/cut.py" (t + k + 4)], #[]⟩
noncomputable def codeN (x : String) (t line args r : Nat) : Obj :=
  ⟨.type "code", none, .fields #[sV x t, sV x (t + 1), sV "/claim/cut.py" (t + 2), .int line 0, .int args 0, .int 0 0, .int 0 0, .int 3 0, .ref r, .bool true, .int 181 0, .ref (r + 1), .none, .none, .none, .ref (r + 2), .int (t + 3 : Nat) 0, .int line 0, sV "/claim/cut.py" (t + 4)], #[]⟩
/-- a def's function -/
noncomputable def fnO (s : Option Stmt) (m : Value) (code : Addr) (q : Str → Str := id) : Obj := match s with
  | some (.FunctionDef x ps body _ _ _ scope _ _ _) => ⟨.type "function", none, .func ⟨x, q x, ps, .stmts body, scope, 3, [], .none, .none, .none, m, none, .ref code, .none, 0⟩, #[]⟩
  | _ => default
noncomputable def bodyAt (i : Nat) : Option Stmt := P0.main.body[i]?
noncomputable def inCls (i : Nat) : Option Stmt := match bodyAt 5 with
  | some (.ClassDef _ _ _ b _ _ _ _ _ _ _) => b[i]?
  | _ => none
noncomputable def mLoc : Value := sV "cpy313.locale" 187
noncomputable def mPst : Value := sV "cpy313.pstats" 208
noncomputable def mLaw : Value := sV "law_pe0079_01" 298
noncomputable def KK (P : Params) : Frag := [
  (3, ⟨.type "dict", none, .dict #[rowE P "__name__" 165 mLaw, rowE P "__doc__" 166 .none, rowE P "__package__" 167 .none, rowE P "__loader__" 168 (.builtin "__main__.__loader__#opaque"), rowE P "__spec__" 169 .none,
    rowE P "__annotations__" 170 (.ref 6), rowE P "__builtins__" 171 (.ref 4), rowE P "__file__" 173 (sV "/claim/cut.py" 172), rowE P "__cached__" 174 .none,
    rowE P "_strcoll" 196 (.ref 21), rowE P "CHAR_MAX" 198 (.int 127 197), rowE P "_grouping_intervals" 207 (.ref 28), rowE P "TupleComp" 251 (.ref 52), rowE P "func_std_string" 259 (.ref 63), rowE P "add_func_stats" 277 (.ref 70),
    rowE P "add_callers" 288 (.ref 77), rowE P "count_calls" 297 (.ref 84), rowE P "_law_row" 309 (.ref 91), rowE P "_law_ask" 316 (.ref 98), rowE P "_law_file" 328 (.ref 105), rowE P "_law_here" 342 (.ref 112), rowE P "_law_all" 348 (.ref 117),
    rowE P "_law_lead" 361 (.ref 124), rowE P "_law_one" 367 (.ref 129), rowE P "_law_sizes" 373 (.ref 134), rowE P "_law_least" 379 (.ref 139), rowE P "_law_book" 385 (.ref 144), rowE P "law" 391 (.ref 149)] 28, #[]⟩),
  (20, codeO "_strcoll" 189 2 2 2 3 15), (21, fnO (bodyAt 1) mLoc 20),
  (27, codeO "_grouping_intervals" 199 3 5 1 35 22), (28, fnO (bodyAt 3) mLoc 27),
  (41, codeO "__init__" 222 2 20 2 3 36 "TupleComp.__init__"), (42, fnO (inCls 0) mPst 41 fun _ => Str.ofString "TupleComp.__init__"),
  (48, codeO "compare" 230 7 23 3 3 43 "TupleComp.compare"), (49, fnO (inCls 1) mPst 48 fun _ => Str.ofString "TupleComp.compare"),
  (51, ⟨.type "dict", none, .dict #[rowE P "__module__" 217 mPst, rowE P "__firstlineno__" 221 (.int 18 220), rowE P "__init__" 229 (.ref 42), rowE P "compare" 242 (.ref 49), rowE P "__static_attributes__" 244 (.ref 50), rowE P "__dict__" 246 (.ref 53), rowE P "__weakref__" 248 (.ref 54), rowE P "__doc__" 249 .none] 4, #[]⟩),
  (52, ⟨.type "type", none, .cls ⟨Str.ofString "TupleComp", [.type "object"], [.ref 52, .type "object"], 51, Str.ofString "TupleComp", true, [], [], false, none, false⟩, #[none, none, some (sV "TupleComp" 210), some (sV "TupleComp" 218), some (.builtin "object.__new__"), some (.bool true)]⟩),
  (62, codeO "func_std_string" 252 2 32 1 3 57), (63, fnO (bodyAt 6) mPst 62),
  (69, codeO "add_func_stats" 260 12 41 2 3 64), (70, fnO (bodyAt 7) mPst 69),
  (76, codeO "add_callers" 278 5 45 2 3 71), (77, fnO (bodyAt 8) mPst 76),
  (83, codeO "count_calls" 289 3 58 1 3 78), (84, fnO (bodyAt 9) mPst 83),
  (90, codeO "_law_row" 300 4 64 1 3 85), (91, fnO (bodyAt 11) mLaw 90),
  (97, codeO "_law_ask" 310 1 69 1 3 92), (98, fnO (bodyAt 12) mLaw 97),
  (104, codeO "_law_file" 317 6 74 4 3 99), (105, fnO (bodyAt 13) mLaw 104),
  (111, codeO "_law_here" 329 8 78 3 3 106), (112, fnO (bodyAt 14) mLaw 111),
  (116, codeN "_law_all" 343 87 4 113), (117, fnO (bodyAt 15) mLaw 116),
  (123, codeO "_law_lead" 349 7 110 5 3 118), (124, fnO (bodyAt 16) mLaw 123),
  (128, codeN "_law_one" 362 120 3 125), (129, fnO (bodyAt 17) mLaw 128),
  (133, codeN "_law_sizes" 368 135 2 130), (134, fnO (bodyAt 18) mLaw 133),
  (138, codeN "_law_least" 374 143 2 135), (139, fnO (bodyAt 19) mLaw 138),
  (143, codeN "_law_book" 380 153 3 140), (144, fnO (bodyAt 20) mLaw 143),
  (148, codeN "law" 386 169 1 145), (149, fnO (bodyAt 21) mLaw 148)]
/-- what stands fast for the whole call -/
structure Cx where
  w : World
  h0 : Heap
  os : OsState
  mg : Str → Option Value
  mb : Str → Option Value
  gN : h0.Ns mainGlobals mg
  bN : h0.Ns builtinsNs mb
  lim : h0.NoLimit
  blt : ∀ x : Str, x ≠ "__name__" → mb x = bootBuiltins x
  hK : (KK w.params).In h0
  tab : h0.get? 114 = some (tabObj #[])
  cHd : CodeHd h0 116 114
  bat : h0.BuiltinsAt mg 114

noncomputable def Cx.g0 (c : Cx) : G := fun a => if a = 114 then none else c.h0.get? a

structure OkA (n : Nat) (A : Around) : Prop where
  hd : A.handled = none
  dp : A.depth + n < recursionLimit
  un : A.units + 20 * n + 100 < cLine

/-- the frame at hand -/
structure Fm where
  A : Around
  env : Env
  n : Nat
  ok : OkA n A
  fk : env.scope.kind = .function
  gl : env.globals = mainGlobals
  bl : env.builtins = builtinsNs
  fl : List Env
  hfl : A.frames = some fl
  own : Bool

inductive AV where
  | dat (d : D)
  | obj (a : Addr)
  | raw (v : Value)
  | gen (i : Nat)
  | gens (l : List Nat)
  | cmp (ks : List (Int × Int))
  | rng (n : Nat)
  | items (kvs : List (Str × D))
  | vals (kvs : List (Str × D))
  | mvals (a : Addr)

inductive MO where
  | lst (ds : List D)
  | dct (kvs : List (Str × D))

noncomputable def genO (i : Nat) (nm qn : Value) : Obj := { cls := .type "generator", data := .fields #[.int i 0, nm, qn] }
noncomputable def RdGen (g : G) (i : Nat) (v : Value) : Prop := ∃ a nm qn, v = .ref a ∧ g a = some (genO i nm qn)
noncomputable def RdGens (g : G) : List Nat → List Value → Prop
  | [], vs => vs = []
  | i :: r, vs => ∃ v vs', vs = v :: vs' ∧ RdGen g i v ∧ RdGens g r vs'
theorem RdGen.mono {g g' : G} (hg : G.le g g') {i : Nat} {v : Value} (h : RdGen g i v) : RdGen g' i v :=
  let ⟨a, nm, qn, e, q⟩ := h; ⟨a, nm, qn, e, hg _ _ q⟩
theorem RdGens.mono {g g' : G} (hg : G.le g g') : ∀ {l : List Nat} {vs : List Value}, RdGens g l vs → RdGens g' l vs
  | [], _, h => h
  | _ :: _, _, h => let ⟨v, vs', e, h1, h2⟩ := h; ⟨v, vs', e, h1.mono hg, RdGens.mono hg h2⟩
noncomputable def ksD (ks : List (Int × Int)) : D := .lst (ks.map fun p => .tup [.int p.1, .int p.2])
noncomputable def RdCmp (w : World) (g : G) (ks : List (Int × Int)) (v : Value) : Prop :=
  ∃ a da en n, v = .ref a ∧ g a = some (instObj 52 da) ∧ g da = some (dictOf [en] n) ∧ en.key.isStr (Str.ofString "comp_select_list") = true ∧ Rd w g (ksD ks) en.val

noncomputable def AVr (w : World) (g : G) : AV → Value → Prop
  | .dat d, v => Rd w g d v
  | .obj a, v => v = .ref a
  | .raw u, v => v = u
  | .gen i, v => RdGen g i v
  | .gens l, v => ∃ a vs n, v = .ref a ∧ g a = some (seqO "list" vs n) ∧ RdGens g l vs
  | .cmp ks, v => RdCmp w g ks v
  | .rng n, v => ∃ a t u x, v = .ref a ∧ g a = some { cls := .type "range", data := .fields #[.int 0 t, .int n u, .int 1 x] }
  | .items kvs, v => ∃ a d, v = .ref a ∧ g a = some { cls := .type "dict_items", data := .fields #[.ref d] } ∧ Rd w g (.dct kvs) (.ref d)
  | .vals kvs, v => ∃ a d, v = .ref a ∧ g a = some { cls := .type "dict_values", data := .fields #[.ref d] } ∧ Rd w g (.dct kvs) (.ref d)
  | .mvals b, v => ∃ a, v = .ref a ∧ g a = some { cls := .type "dict_values", data := .fields #[.ref b] }
theorem AVr.mono {w : World} {g g' : G} (hg : G.le g g') : ∀ {a : AV} {v : Value}, AVr w g a v → AVr w g' a v
  | .dat d, _, h => Rd.mono hg d h
  | .obj _, _, h => h
  | .raw _, _, h => h
  | .gen _, _, h => RdGen.mono hg h
  | .gens _, _, h => let ⟨a, vs, n, e, h1, h2⟩ := h; ⟨a, vs, n, e, hg _ _ h1, h2.mono hg⟩
  | .cmp _, _, h => let ⟨a, da, en, n, e, h1, h2, h3, h4⟩ := h; ⟨a, da, en, n, e, hg _ _ h1, hg _ _ h2, h3, Rd.mono hg _ h4⟩
  | .rng _, _, h => let ⟨a, t, u, x, e, h1⟩ := h; ⟨a, t, u, x, e, hg _ _ h1⟩
  | .items _, _, h => let ⟨a, d, e, h1, h2⟩ := h; ⟨a, d, e, hg _ _ h1, Rd.mono hg _ h2⟩
  | .vals _, _, h => let ⟨a, d, e, h1, h2⟩ := h; ⟨a, d, e, hg _ _ h1, Rd.mono hg _ h2⟩
  | .mvals _, _, h => let ⟨a, e, h1⟩ := h; ⟨a, e, hg _ _ h1⟩

noncomputable def MOr (w : World) (g : G) : MO → Obj → Prop
  | .lst ds, o => ∃ vs n, o = seqO "list" vs n ∧ RdL w g ds vs
  | .dct kvs, o => ∃ ps, o.IsDictOf (strKind P0 w) ps ∧ RdK w g kvs ps
theorem MOr.mono {w : World} {g g' : G} (hg : G.le g g') : ∀ {m : MO} {o : Obj}, MOr w g m o → MOr w g' m o
  | .lst _, _, h => let ⟨vs, n, e, h2⟩ := h; ⟨vs, n, e, h2.mono hg⟩
  | .dct _, _, h => let ⟨ps, e, h2⟩ := h; ⟨ps, e, h2.mono hg⟩
noncomputable def MutOk (w : World) (g : G) : List (Addr × MO) → List (Addr × Obj) → Prop
  | [], l => l = []
  | (a, m) :: r, l => ∃ o l', l = (a, o) :: l' ∧ (a == sysModules) = false ∧ MOr w g m o ∧ MutOk w g r l'
theorem MutOk.mono {w : World} {g g' : G} (hg : G.le g g') : ∀ {ms : List (Addr × MO)} {l : List (Addr × Obj)}, MutOk w g ms l → MutOk w g' ms l
  | [], _, h => h
  | (_, _) :: _, _, h => let ⟨o, l', e, h0, h1, h2⟩ := h; ⟨o, l', e, h0, h1.mono hg, MutOk.mono hg h2⟩

noncomputable def NsP (m : Str → Option Value) (o : Obj) : Prop := ∃ es ep, o.data = .dict es ep ∧ StrKeys es ∧ ∀ name, nsFind es name = m name
theorem NsP.ns {h : Heap} {a : Addr} {m : Str → Option Value} {o : Obj} (ho : h.get? a = some o) (p : NsP m o) : h.Ns a m := let ⟨es, ep, r⟩ := p; ⟨o, es, ep, ho, r⟩
theorem NsP.of {h : Heap} {a : Addr} {m : Str → Option Value} (n : h.Ns a m) : ∃ o, h.get? a = some o ∧ NsP m o := let ⟨o, es, ep, ho, r⟩ := n; ⟨o, ho, es, ep, r⟩

inductive Ph where
  | fresh (row : List Int)
  | at (row : List Int) (j : Nat)
  | loop (x : Int)
  | done
structure GA where
  n : Nat
  ph : Ph
  ents : Ld
/-- what a ruler tells next -/
inductive Tell where
  | says (x : Int) (p : Ph)
  | stops
  | refuses
noncomputable def scan (row : List Int) (k : Nat) : Tell := match row[k]? with
  | none => .stops
  | some x => if x = 127 then .stops else if x = 0 then (match k with | 0 => .refuses | k + 1 => .says ((row[k]?).getD 0) (.loop ((row[k]?).getD 0))) else .says x (.at row k)
noncomputable def Ph.tell : Ph → Tell
  | .fresh row => scan row 0
  | .at row j => scan row (j + 1)
  | .loop x => .says x (.loop x)
  | .done => .stops
noncomputable def intL (l : List Int) : D := .lst (l.map .int)
noncomputable def itP (a : Addr) (i : Nat) (o : Obj) : Prop := o.cls = .type "list_iterator" ∧ o.data = .fields #[.ref a, .int i 0]
noncomputable def PhOk (w : World) (g : G) : Ph → Ld → Prop
  | .fresh row, l => ∃ L m v, l = [(L, NsP m)] ∧ m (Str.ofString "grouping") = some v ∧ Rd w g (intL row) v
  | .at row j, l => ∃ L I m a tv x, l = [(L, NsP m), (I, itP a (j + 1))] ∧ Rd w g (intL row) (.ref a) ∧ row[j]? = some x ∧ m (Str.ofString "interval") = some (.int x tv)
  | .loop x, l => ∃ L m t, l = [(L, NsP m)] ∧ m (Str.ofString "last_interval") = some (.int x t)
  | .done, _ => True
theorem PhOk.mono {w : World} {g g' : G} (hg : G.le g g') : ∀ {p : Ph} {l : Ld}, PhOk w g p l → PhOk w g' p l
  | .fresh _, _, h => let ⟨L, m, v, e, h1, h2⟩ := h; ⟨L, m, v, e, h1, Rd.mono hg _ h2⟩
  | .at _ _, _, h => let ⟨L, I, m, a, tv, x, e, h1, h2, h3⟩ := h; ⟨L, I, m, a, tv, x, e, Rd.mono hg _ h1, h2, h3⟩
  | .loop _, _, h => h
  | .done, _, h => h

noncomputable def FrOk (fl : List Env) (l : Ld) : Prop := ∀ e ∈ fl, ∃ f m, e.frame = some f ∧ e.scope.kind = .function ∧ (f, NsP m) ∈ l
theorem FrOk.mono {fl : List Env} {l l' : Ld} (h : FrOk fl l) (hs : ∀ p ∈ l, p ∈ l') : FrOk fl l' := fun e he => let ⟨f, m, h1, h2, h3⟩ := h e he; ⟨f, m, h1, h2, hs _ h3⟩

/-- what must stand while an exception flies: all but the frames -/
noncomputable def BaseOk (base : Heap) (g : G) (l : Ld) (fl : List Env) (h : Heap) : Prop :=
  ∀ a o, h.get? a = some o → (g a = some o ∨ ∃ P, (a, P) ∈ l) → (∀ e ∈ fl, e.frame ≠ some a) → base.get? a = some o
noncomputable abbrev M (c : Cx) : Model := model P0 c.w
noncomputable def Resumes (c : Cx) (Γ : Ctx) (p : Pos) (st : GenState) (s : Shared) (e : End) (s' : Shared) : Prop := match st with
  | .fresh cd => Runs (M c) (Γ.wake cd p) p ((M c).den cd) [] s e s'
  | .suspended k _ c0 p0 fs _ => Runs (M c) (Γ.wake c0 p) p0 (k (.send .none)) fs s e s'
  | _ => False

/-- how a run ends -/
noncomputable def GEnd (c : Cx) (next : Ph → Ld → GenState → Prop) (tell : Tell) (fl : List Env) (g : G) (R : Ld) (gs : Array GenState) (os : OsState) (e : End) (s' : Shared) : Prop :=
  e.quiet = true ∧ s'.gens = gs ∧ s'.os = os ∧ match tell with
    | .says x ph' => ∃ g' es' t, G.le g g' ∧ Wd g' s'.heap (es' ++ R) ∧ PhOk c.w g' ph' es' ∧ next ph' es' e.genState ∧ e.result = .yielded (.int x t)
    | .stops => ∃ g', G.le g g' ∧ Wd g' s'.heap R ∧ e.result = .returned .none
    | .refuses => ∃ g' x a0 base h0, G.le g g' ∧ e.result = .raised (.ref x) ∧ Heap.FlyingW base fl x (.type "ValueError") a0 s'.heap ∧ Wd g' h0 R ∧ h0.UpToSlots s'.heap ∧ BaseOk base g' R fl h0
/-- the generator in this state goes on as its phase tells, n times over -/
noncomputable def GN (c : Cx) : Nat → Ph → Ld → GenState → Prop
  | 0, _, _, _ => True
  | n + 1, ph, es, st => match ph with
    | .done => st = .finished
    | ph => ∀ (A : Around) (fl : List Env) (g : G) (R : Ld) (s : Shared) (Γ : Ctx) (p : Pos), Γ.In A → OkA 5 A → A.frames = some fl → FrOk fl R → Wd g s.heap (es ++ R) → PhOk c.w g ph es → G.le c.g0 g →
      ∃ e s', Resumes c Γ p st s e s' ∧ GEnd c (GN c n) ph.tell fl g R s.gens s.os e s'
noncomputable def GaOk (c : Cx) (g : G) (st : GenState) (ga : GA) : Prop := PhOk c.w g ga.ph ga.ents ∧ GN c ga.n ga.ph ga.ents st ∧ st.bare = true
theorem GaOk.mono {c : Cx} {g g' : G} (hg : G.le g g') {st : GenState} {ga : GA} (h : GaOk c g st ga) : GaOk c g' st ga := ⟨h.1.mono hg, h.2⟩
noncomputable def GensOk (c : Cx) (g : G) : List GenState → List GA → Prop
  | [], l => l = []
  | st :: r, l => ∃ ga l', l = ga :: l' ∧ GaOk c g st ga ∧ GensOk c g r l'
theorem GensOk.mono {c : Cx} {g g' : G} (hg : G.le g g') : ∀ {st : List GenState} {l : List GA}, GensOk c g st l → GensOk c g' st l
  | [], _, h => h
  | _ :: _, _, h => let ⟨ga, l', e, h1, h2⟩ := h; ⟨ga, l', e, h1.mono hg, GensOk.mono hg h2⟩

noncomputable def TbOk (g : G) (o : Obj) : Prop := o = tabObj #[] ∨ ∃ cc oc vs t, o = tabObj #[rawInt 101, rawInt 34, .ref cc] ∧ g cc = some oc ∧ oc.data = .fields vs ∧ vs[1]? = some (.str (Str.ofString "_law_all.<locals>.<lambda>") t)
theorem TbOk.mono {g g' : G} (hg : G.le g g') {o : Obj} (h : TbOk g o) : TbOk g' o := h.imp id fun ⟨cc, oc, vs, t, e, h1, h2⟩ => ⟨cc, oc, vs, t, e, hg _ _ h1, h2⟩

structure AS where
  loc : List (Str × AV)
  mu : List (Addr × MO)
  gens : List GA

noncomputable def AS.set (S : AS) (x : Str) (a : AV) : AS := ⟨(x, a) :: S.loc, S.mu, S.gens⟩
noncomputable def AS.rew (S : AS) (mu : List (Addr × MO)) : AS := ⟨S.loc, mu, S.gens⟩

noncomputable def cellP (v : Option Value) (o : Obj) : Prop := o.data = .cell v
noncomputable def cellE (p : Addr × Option Value) : Addr × (Obj → Prop) := (p.1, cellP p.2)
noncomputable def exE (p : Addr × Obj) : Addr × (Obj → Prop) := (p.1, fun o => o = p.2)
noncomputable def ledger (L : Addr) (m : Str → Option Value) (cs : List (Addr × Option Value)) (mo : List (Addr × Obj)) (gs : List GA) (tb : Obj) (R : Ld) : Ld :=
  (L, NsP m) :: (cs.map cellE ++ (mo.map exE ++ (gs.flatMap GA.ents ++ ((114, fun o => o = tb) :: R))))

noncomputable def VarAt (env : Env) (m : Str → Option Value) (cs : List (Addr × Option Value)) (R : Ld) (x : Str) (v : Value) : Prop :=
  (env.kindOf x = some .local ∧ m x = some v) ∨ ((env.kindOf x = some .cell ∨ env.kindOf x = some .free) ∧ ∃ a, env.cells.lookup x = some a ∧ (cs.lookup a = some (some v) ∨ (a, cellP (some v)) ∈ R))
noncomputable def LocOk (w : World) (g : G) (env : Env) (m : Str → Option Value) (cs : List (Addr × Option Value)) (R : Ld) (loc : List (Str × AV)) : Prop :=
  ∀ x a, loc.lookup x = some a → ∃ v, AVr w g a v ∧ VarAt env m cs R x v
/-- every cell of the frame stands in the ledger -/
noncomputable def CellsOk (env : Env) (cs : List (Addr × Option Value)) : Prop := ∀ x a, env.cells.lookup x = some a → ∃ v, cs.lookup a = some v

structure RelX (c : Cx) (X : Fm) (R : Ld) (g : G) (s : Shared) (S : AS) (m : Str → Option Value) (cs : List (Addr × Option Value)) (mo : List (Addr × Obj)) (tb : Obj) : Prop where
  wd : Wd g s.heap (ledger X.env.locals m cs mo S.gens tb R)
  loc : LocOk c.w g X.env m cs R S.loc
  cel : X.own = true → CellsOk X.env cs
  mut_ : MutOk c.w g S.mu mo
  gen : GensOk c g s.gens.toList S.gens
  tbo : TbOk g tb
  os : s.os = c.os
  g0 : G.le c.g0 g
  fr : FrOk X.fl ((X.env.locals, NsP m) :: R)
noncomputable def Rel (c : Cx) (X : Fm) (R : Ld) (g : G) (s : Shared) (S : AS) : Prop := ∃ m cs mo tb, RelX c X R g s S m cs mo tb

noncomputable def Po {α β : Type} (c : Cx) (X : Fm) (R : Ld) (r : G → β → α → Prop) (Q : β → AS → Prop) (g : G) (v : α) (s' : Shared) : Prop := ∃ g' b S', G.le g g' ∧ Rel c X R g' s' S' ∧ r g' b v ∧ Q b S'
noncomputable def Pa (c : Cx) (X : Fm) (R : Ld) (Q : AS → Prop) (g : G) (_ : Unit) (s' : Shared) : Prop := ∃ g' S', G.le g g' ∧ Rel c X R g' s' S' ∧ Q S'
noncomputable def No (_ : Value) (_ : Shared) : Prop := False
/-- the weakest precondition over what is known -/
noncomputable def Wp {α β : Type} (c : Cx) (X : Fm) (r : G → β → α → Prop) (S : AS) (t : Sem α) (Q : β → AS → Prop) : Prop :=
  ∀ g R s, Rel c X R g s S → wpAny (M c) X.A t (Po c X R r Q g) No s

noncomputable abbrev Ev (c : Cx) (X : Fm) (S : AS) (t : Sem Value) (Q : AV → AS → Prop) : Prop := Wp c X (AVr c.w) S t Q
noncomputable def BR (_ : G) (b : Bool) (v : Bool) : Prop := v = b
noncomputable abbrev Tr (c : Cx) (X : Fm) (S : AS) (t : Sem Bool) (Q : Bool → AS → Prop) : Prop := Wp c X BR S t Q
noncomputable def UR (_ : G) (_ : Unit) (_ : Unit) : Prop := True
noncomputable abbrev Un (c : Cx) (X : Fm) (S : AS) (t : Sem Unit) (Q : AS → Prop) : Prop := Wp c X UR S t (fun _ S' => Q S')
inductive Fl where
  | next
  | brk
  | ret (a : AV)
noncomputable def FlR (w : World) (g : G) : Fl → Flow → Prop
  | .next, f => f = .next
  | .brk, f => f = .brk
  | .ret a, f => ∃ v, f = .ret v ∧ AVr w g a v
noncomputable abbrev Ex (c : Cx) (X : Fm) (S : AS) (t : Sem Flow) (Q : Fl → AS → Prop) : Prop := Wp c X (FlR c.w) S t Q
noncomputable def AVsr (w : World) (g : G) : List AV → List Value → Prop
  | [], vs => vs = []
  | a :: r, vs => ∃ v vs', vs = v :: vs' ∧ AVr w g a v ∧ AVsr w g r vs'
theorem AVsr.mono {w : World} {g g' : G} (hg : G.le g g') : ∀ {l : List AV} {vs : List Value}, AVsr w g l vs → AVsr w g' l vs
  | [], _, h => h
  | _ :: _, _, h => let ⟨v, vs', e, h1, h2⟩ := h; ⟨v, vs', e, h1.mono hg, AVsr.mono hg h2⟩
noncomputable abbrev Evs (c : Cx) (X : Fm) (S : AS) (t : Sem (List Value)) (Q : List AV → AS → Prop) : Prop := Wp c X (AVsr c.w) S t Q

/-- an operation on values in hand -/
noncomputable def Op1 (c : Cx) (X : Fm) (S : AS) (f : Value → Sem Value) (a : AV) (Q : AV → AS → Prop) : Prop :=
  ∀ g R s v, Rel c X R g s S → AVr c.w g a v → wpAny (M c) X.A (f v) (Po c X R (AVr c.w) Q g) No s
noncomputable def Op2 (c : Cx) (X : Fm) (S : AS) (f : Value → Value → Sem Value) (a b : AV) (Q : AV → AS → Prop) : Prop :=
  ∀ g R s v u, Rel c X R g s S → AVr c.w g a v → AVr c.w g b u → wpAny (M c) X.A (f v u) (Po c X R (AVr c.w) Q g) No s
noncomputable def Th (c : Cx) (X : Fm) (S : AS) (a : AV) (Q : Bool → AS → Prop) : Prop :=
  ∀ g R s v, Rel c X R g s S → AVr c.w g a v → wpAny (M c) X.A (truthy v) (Po c X R BR Q g) No s
/-- a call -/
noncomputable def Cl (c : Cx) (X : Fm) (S : AS) (f : Value) (as : List AV) (Q : AV → AS → Prop) : Prop :=
  ∀ g R s vs, Rel c X R g s S → AVsr c.w g as vs → wpAny (M c) X.A (call f vs) (Po c X R (AVr c.w) Q g) No s

section
variable {α β : Type} {c : Cx} {X : Fm} {R : Ld} {r : G → β → α → Prop} {g g1 : G} {A : Around} {s : Shared}
theorem Po.go {Q : β → AS → Prop} {t : Sem α} {Q2 : α → Shared → Prop} {E : Value → Shared → Prop} (h : wpAny (M c) A t (Po c X R r Q g) No s)
    (k : ∀ v s1 g1 b S1, G.le g g1 → Rel c X R g1 s1 S1 → r g1 b v → Q b S1 → Q2 v s1) : wpAny (M c) A t Q2 E s :=
  wpAny_mono h (fun v s1 hh => by obtain ⟨g1, b, S1, h1, h2, h3, h4⟩ := hh; exact k v s1 g1 b S1 h1 h2 h3 h4) fun _ _ x => x.elim
theorem Po.back {Q : β → AS → Prop} {t : Sem α} (h : wpAny (M c) A t (Po c X R r Q g1) No s) (hg : G.le g g1) : wpAny (M c) A t (Po c X R r Q g) No s :=
  Po.go h fun _ _ g2 b S1 h1 h2 h3 h4 => ⟨g2, b, S1, hg.trans h1, h2, h3, h4⟩
theorem Pa.go {Q : AS → Prop} {t : Sem Unit} {Q2 : Unit → Shared → Prop} {E : Value → Shared → Prop} (h : wpAny (M c) A t (Pa c X R Q g) No s)
    (k : ∀ v s1 g1 S1, G.le g g1 → Rel c X R g1 s1 S1 → Q S1 → Q2 v s1) : wpAny (M c) A t Q2 E s :=
  wpAny_mono h (fun v s1 hh => by obtain ⟨g1, S1, h1, h2, h3⟩ := hh; exact k v s1 g1 S1 h1 h2 h3) fun _ _ x => x.elim
theorem Pa.back {Q : AS → Prop} {t : Sem Unit} (h : wpAny (M c) A t (Pa c X R Q g1) No s) (hg : G.le g g1) : wpAny (M c) A t (Pa c X R Q g) No s :=
  Pa.go h fun _ _ g2 S1 h1 h2 h3 => ⟨g2, S1, hg.trans h1, h2, h3⟩
end
section
variable {c : Cx} {X : Fm} {R : Ld} {g g' : G} {s s' : Shared} {S : AS}

theorem Rel.same (h : Rel c X R g s S) (e1 : s'.heap = s.heap) (e2 : s'.gens = s.gens) (e3 : s'.os = s.os) : Rel c X R g s' S := by
  obtain ⟨m, cs, mo, tb, h⟩ := h
  exact ⟨m, cs, mo, tb, ⟨e1 ▸ h.wd, h.loc, h.cel, h.mut_, e2 ▸ h.gen, h.tbo, e3 ▸ h.os, h.g0, h.fr⟩⟩
theorem Rel.toks (h : Rel c X R g s S) {t : Nat} : Rel c X R g { s with toks := t } S := h.same rfl rfl rfl
theorem LocOk.mono {w : World} {env : Env} {m : Str → Option Value} {cs : List (Addr × Option Value)} {R : Ld} {loc : List (Str × AV)} (hg : G.le g g') (h : LocOk w g env m cs R loc) : LocOk w g' env m cs R loc :=
  fun x a e => let ⟨v, h1, h2⟩ := h x a e; ⟨v, h1.mono hg, h2⟩
/-- a grown frozen part -/
theorem RelX.grow {m : Str → Option Value} {cs : List (Addr × Option Value)} {mo : List (Addr × Obj)} {tb : Obj} (h : RelX c X R g s S m cs mo tb) (hg : G.le g g') (hw : Wd g' s'.heap (ledger X.env.locals m cs mo S.gens tb R)) (e2 : s'.gens = s.gens) (e3 : s'.os = s.os) : RelX c X R g' s' S m cs mo tb :=
  ⟨hw, h.loc.mono hg, h.cel, h.mut_.mono hg, e2 ▸ h.gen.mono hg, h.tbo.mono hg, e3 ▸ h.os, h.g0.trans hg, h.fr⟩
theorem Rel.pushF (h : Rel c X R g s S) {o : Obj} {t : Nat} (hf : o.isFreed = false) : Rel c X R (g.put s.heap.objs.size o) { s with heap := s.heap.push o, toks := t } S ∧ G.le g (g.put s.heap.objs.size o) := by
  obtain ⟨m, cs, mo, tb, h⟩ := h
  have := h.wd.pushF hf
  exact ⟨⟨m, cs, mo, tb, h.grow this.2 this.1 rfl rfl⟩, this.2⟩
theorem Rel.keeps (h : Rel c X R g s S) {h' : Heap} {t : Nat} (hk : ∀ b o, s.heap.get? b = some o → h'.get? b = some o) : Rel c X R g { s with heap := h', toks := t } S := by
  obtain ⟨m, cs, mo, tb, h⟩ := h
  exact ⟨m, cs, mo, tb, h.grow .rfl (h.wd.keeps hk) rfl rfl⟩
theorem Rel.fz (h : Rel c X R g s S) {a : Addr} {o : Obj} (e : g a = some o) : s.heap.get? a = some o := let ⟨_, _, _, _, h⟩ := h; h.wd.fz a o e
theorem Rel.base (h : Rel c X R g s S) {a : Addr} {o : Obj} (e : c.h0.get? a = some o) (ha : a ≠ 114) : s.heap.get? a = some o := by
  refine h.fz ?_
  obtain ⟨_, _, _, _, h⟩ := h
  exact h.g0 _ _ (by unfold Cx.g0; rw [if_neg ha]; exact e)
theorem Rel.nsBase (h : Rel c X R g s S) {a : Addr} {m : Str → Option Value} (e : c.h0.Ns a m) (ha : a ≠ 114) : s.heap.Ns a m := e.at' fun _ x => h.base x ha
theorem Rel.gNs (h : Rel c X R g s S) : s.heap.Ns mainGlobals c.mg := h.nsBase c.gN (by decide)
theorem Rel.bNs (h : Rel c X R g s S) : s.heap.Ns builtinsNs c.mb := h.nsBase c.bN (by decide)
theorem Rel.lim (h : Rel c X R g s S) : s.heap.NoLimit := let ⟨mc, a, b⟩ := c.lim; ⟨mc, h.nsBase a (by decide), b⟩
theorem Rel.ns (h : Rel c X R g s S) : ∃ m, s.heap.Ns X.env.locals m := by
  obtain ⟨m, cs, mo, tb, h⟩ := h
  obtain ⟨o, h1, h2⟩ := h.wd.get (a := X.env.locals) (P := NsP m) (.head _)
  exact ⟨m, h2.ns h1⟩
theorem Rel.kIn (h : Rel c X R g s S) {a : Addr} {o : Obj} (e : (KK c.w.params).lookup a = some o) (ha : a ≠ 114) : s.heap.get? a = some o := h.base (c.hK a o e) ha
theorem Rel.codeRec (h : Rel c X R g s S) {cd : Value} {q : Str} (e : codeIn (KK c.w.params) cd q = true) (ha : cd ≠ .ref 114) : s.heap.CodeRec cd q := by
  obtain ⟨a, o, vs, t, h1, h2, h3⟩ := codeRec_of c.hK e
  exact ⟨a, o, vs, t, h1, h.base h2 (fun e => ha (by rw [h1, e])), h3⟩
end

section
variable {α β γ δ : Type} {c : Cx} {X : Fm} {r : G → β → α → Prop} {r' : G → δ → γ → Prop} {S : AS} {R : Ld} {g g1 : G} {s : Shared}
theorem Po.up {Q : β → AS → Prop} {v : α} (l : G.le g g1) (h : Po c X R r Q g1 v s) : Po c X R r Q g v s := by
  obtain ⟨g2, b, S2, h1, h2⟩ := h
  exact ⟨g2, b, S2, l.trans h1, h2⟩
theorem up {Q : β → AS → Prop} {t : Sem α} {E : Value → Shared → Prop} (l : G.le g g1) (h : wpAny (M c) X.A t (Po c X R r Q g1) No s) : wpAny (M c) X.A t (Po c X R r Q g) E s :=
  wpAny_mono h (fun _ _ h => h.up l) fun _ _ x => False.elim x
theorem Po.use {Q : β → AS → Prop} {v : α} {K : Prop} (h : Po c X R r Q g v s) (k : ∀ g1 b S1, G.le g g1 → Rel c X R g1 s S1 → r g1 b v → Q b S1 → K) : K := by
  obtain ⟨g2, b, S2, h1, h2, h3, h4⟩ := h
  exact k g2 b S2 h1 h2 h3 h4
/-- go on behind a tree -/
theorem goP {Q : β → AS → Prop} {t : Sem α} {K : α → Shared → Prop} {E : Value → Shared → Prop} (h : wpAny (M c) X.A t (Po c X R r Q g) No s) (k : ∀ g1 b S1 v s1, G.le g g1 → Rel c X R g1 s1 S1 → r g1 b v → Q b S1 → K v s1) : wpAny (M c) X.A t K E s :=
  wpAny_mono h (fun v s1 h => h.use fun g1 b S1 => k g1 b S1 v s1) fun _ _ x => False.elim x
theorem Wp.go {Q : β → AS → Prop} {t : Sem α} {K : α → Shared → Prop} {E : Value → Shared → Prop} (h : Wp c X r S t Q) (hR : Rel c X R g s S) (k : ∀ g1 b S1 v s1, G.le g g1 → Rel c X R g1 s1 S1 → r g1 b v → Q b S1 → K v s1) : wpAny (M c) X.A t K E s := goP (h g R s hR) k
theorem Wp.up {Q : β → AS → Prop} {t : Sem α} {E : Value → Shared → Prop} (h : Wp c X r S t Q) (hR : Rel c X R g1 s S) (l : G.le g g1) : wpAny (M c) X.A t (Po c X R r Q g) E s := Mine.up l (h g1 R s hR)
theorem Wp.mono {t : Sem α} {Q Q' : β → AS → Prop} (h : Wp c X r S t Q) (hq : ∀ b S', Q b S' → Q' b S') : Wp c X r S t Q' := fun g R s hR =>
  h.go hR fun g1 b S1 _ _ l1 r1 v1 q1 => ⟨g1, b, S1, l1, r1, v1, hq _ _ q1⟩
theorem Wp.pure {Q : β → AS → Prop} {v : α} {b : β} (hr : ∀ g, r g b v) (h : Q b S) : Wp c X r S (pure v) Q := fun g R s hR => wpAny_pure ⟨g, b, S, .rfl, hR, hr g, h⟩
theorem Wp.standAt {t : Sem α} {Q : β → AS → Prop} {pos : Pos} (h : Wp c X r S t Q) : Wp c X r S (standAt pos >>= fun _ => t) Q := fun g R s hR => wpAny_bind (wpAny_standAt (h g R s hR))
end

section
variable {c : Cx} {X : Fm} {S : AS} {Q : AV → AS → Prop}
theorem cell_mem {ca : Addr} {v : Value} {L : Addr} {m : Str → Option Value} {mo : List (Addr × Obj)} {gs : List GA} {tb : Obj} {R : Ld} : ∀ {cs : List (Addr × Option Value)}, (cs.lookup ca = some (some v) ∨ (ca, cellP (some v)) ∈ R) → (ca, cellP (some v)) ∈ ledger L m cs mo gs tb R
  | cs, .inr h2 => .tail _ (List.mem_append_right _ (List.mem_append_right _ (List.mem_append_right _ (.tail _ h2))))
  | (pa, pv) :: r, .inl h2 => by
    rw [List.lookup_cons] at h2
    cases e : ca == pa with
    | true => rw [e] at h2; cases h2; have := beq_iff_eq.mp e; subst this; exact .tail _ (.head _)
    | false =>
      rw [e] at h2
      have := cell_mem (L := L) (m := m) (mo := mo) (gs := gs) (tb := tb) (R := R) (.inl h2)
      rcases List.mem_cons.mp this with z | z
      · rw [z]; exact .head _
      · exact .tail _ (.tail _ z)
  | [], .inl h2 => nomatch h2
theorem ev_load {x : Str} {a : AV} (hx : S.loc.lookup x = some a) (h : Q a S) (hc : (x == ("__classdict__" : Str)) = false := by rfl) :
    Ev c X S (loadName X.env x) Q := by
  intro g R s hR
  obtain ⟨m, cs, mo, tb, q⟩ := hR
  obtain ⟨v, hv, hvar⟩ := q.loc x a hx
  have fin : Po c X R (AVr c.w) Q g v s := ⟨g, a, S, .rfl, ⟨m, cs, mo, tb, q⟩, hv, h⟩
  rcases hvar with ⟨hk, hm⟩ | ⟨hk, ca, h1, h2⟩
  · obtain ⟨o, ho, hp⟩ := q.wd.get (a := X.env.locals) (P := NsP m) (.head _)
    exact wpAny_loadName_local X.fk hk (hp.ns ho) hm fin
  · obtain ⟨o, ho, hp⟩ := q.wd.get (cell_mem h2)
    rcases hk with hk | hk
    · exact wpAny_loadName_cell X.fk hk h1 ⟨o, ho, hp⟩ fin
    · exact wpAny_loadName_free X.fk hk h1 ⟨o, ho, hp⟩ fin hc
theorem ev_var {x : Str} {pos : Pos} {a : AV} (hx : S.loc.lookup x = some a) (h : Q a S) (hd : (x == ("__debug__" : Str)) = false := by rfl) (hc : (x == ("__classdict__" : Str)) = false := by rfl) :
    Ev c X S (eval (.Name x pos) X.env) Q := fun g R s hR => wpAny_Name (ev_load hx h hc g R s hR) hd
theorem ev_glob {x : Str} {pos : Pos} {v : Value} (hv : c.mg x = some v) (h : Q (.raw v) S) (hk : X.env.kindOf x = some .globalImplicit := by rfl) (hd : (x == ("__debug__" : Str)) = false := by rfl) :
    Ev c X S (eval (.Name x pos) X.env) Q := fun g R s hR =>
  Calls.Name_function_global X.fk hk (Calls.loadGlobal_global (by rw [X.gl]; exact hR.gNs) hv ⟨g, .raw v, S, .rfl, hR, rfl, h⟩) hd
theorem ev_built {x : Str} {pos : Pos} {v : Value} (hm : c.mg x = none) (hv : bootBuiltins x = some v) (h : Q (.raw v) S) (hn : x ≠ "__name__" := by decide) (hk : X.env.kindOf x = some .globalImplicit := by rfl) (hd : (x == ("__debug__" : Str)) = false := by rfl) :
    Ev c X S (eval (.Name x pos) X.env) Q := fun g R s hR =>
  Calls.Name_function_global X.fk hk (Calls.loadGlobal_builtin (by rw [X.gl]; exact hR.gNs) hm (by rw [X.bl]; exact hR.bNs) ((c.blt x hn).trans hv) ⟨g, .raw v, S, .rfl, hR, rfl, h⟩) hd
theorem ev_int {i : Int} {k : Nat} {pos : Pos} {env : Env} (h : Q (.dat (.int i)) S) : Ev c X S (eval (.Constant (.int i) k pos) env) Q := fun g _ _ hR => wpAny_Constant_int ⟨g, .dat (.int i), S, .rfl, hR.toks, ⟨_, rfl⟩, h⟩
theorem ev_str {i : Str} {k : Nat} {pos : Pos} {env : Env} (h : Q (.dat (.str i)) S) : Ev c X S (eval (.Constant (.str i) k pos) env) Q := fun g _ _ hR => wpAny_Constant_str ⟨g, .dat (.str i), S, .rfl, hR.toks, ⟨_, rfl⟩, h⟩
theorem ev_none {k : Nat} {pos : Pos} {env : Env} (h : Q (.dat .none) S) : Ev c X S (eval (.Constant .none k pos) env) Q := fun g _ _ hR => wpAny_Constant_none ⟨g, .dat .none, S, .rfl, hR, rfl, h⟩
theorem ev_bool {b : Bool} {k : Nat} {pos : Pos} {env : Env} (h : Q (.dat (.bool b)) S) : Ev c X S (eval (.Constant (.bool b) k pos) env) Q := fun g _ _ hR => wpAny_Constant_bool ⟨g, .dat (.bool b), S, .rfl, hR, rfl, h⟩
theorem ev_bin {l r : Expr} {op : Operator} {pos : Pos} {env : Env} (h : Ev c X S (eval l env) (fun a S1 => Ev c X S1 (eval r env) (fun b S2 => Op2 c X S2 (binaryOp op) a b Q))) : Ev c X S (eval (.BinOp l op r pos) env) Q := fun g R s hR =>
  wpAny_BinOp (h.go hR fun g1 a S1 v s1 l1 r1 v1 q1 => q1.go r1 fun g2 b S2 u s2 l2 r2 v2 q2 => up (l1.trans l2) (q2 g2 R s2 v u r2 (v1.mono l2) v2))
theorem ev_un {x : Expr} {op : UnaryOp} {pos : Pos} {env : Env} (h : Ev c X S (eval x env) (fun a S1 => Op1 c X S1 (unaryOp op) a Q)) : Ev c X S (eval (.UnaryOp op x pos) env) Q := fun g R s hR =>
  wpAny_UnaryOp (h.go hR fun g1 a S1 v s1 l1 r1 v1 q1 => up l1 (q1 g1 R s1 v r1 v1))
theorem ev_cmp {l r : Expr} {op : CmpOp} {pos : Pos} {env : Env} (h : Ev c X S (eval l env) (fun a S1 => Ev c X S1 (eval r env) (fun b S2 => Op2 c X S2 (compareOp op) a b Q)))
    (hm : behindInMarks op r = false := by with_unfolding_all rfl) : Ev c X S (eval (.Compare l [op] [r] pos) env) Q := fun g R s hR =>
  wpAny_Compare1 (h.go hR fun g1 a S1 v s1 l1 r1 v1 q1 => q1.go r1 fun g2 b S2 u s2 l2 r2 v2 q2 => up (l1.trans l2) (q2 g2 R s2 v u r2 (v1.mono l2) v2)) hm
theorem ev_ite {test body orelse : Expr} {pos : Pos} {env : Env} (h : Tr c X S (isTrue test env (eval test env)) (fun b S1 => if b then Ev c X S1 (eval body env) Q else Ev c X S1 (eval orelse env) Q)) : Ev c X S (eval (.IfExp test body orelse pos) env) Q := fun g R s hR =>
  wpAny_IfExp (h.go hR fun g1 b S1 v s1 l1 r1 v1 q1 => by
    have e : v = b := v1
    subst e
    cases v with
    | true => exact q1.up r1 l1
    | false => exact q1.up r1 l1)
end

section
variable {c : Cx} {X : Fm} {S : AS} {Q : Bool → AS → Prop}
theorem tr_cmp {l r : Expr} {op : CmpOp} {pos : Pos} {env : Env} {whole : Sem Value} (h : Ev c X S (eval l env) (fun a S1 => Ev c X S1 (eval r env) (fun b S2 => Op2 c X S2 (compareOp op) a b (fun d S3 => Th c X S3 d Q))))
    (hm : behindInMarks op r = false := by with_unfolding_all rfl) : Tr c X S (isTrue (.Compare l [op] [r] pos) env whole) Q := fun g R s hR =>
  wpAny_isTrue_Compare1 (h.go hR fun g1 a S1 v s1 l1 r1 v1 q1 => q1.go r1 fun g2 b S2 u s2 l2 r2 v2 q2 => goP (q2 g2 R s2 v u r2 (v1.mono l2) v2) fun g3 d S3 y s3 l3 r3 v3 q3 => up ((l1.trans l2).trans l3) (q3 g3 R s3 y r3 v3)) hm
theorem th_bool {b : Bool} (h : Q b S) : Th c X S (.dat (.bool b)) Q := fun g R s v hR hv => by
  have e : v = .bool b := hv
  subst e
  exact wpAny_truthy_bool ⟨g, b, S, .rfl, hR, rfl, h⟩
theorem tr_and {x y : Expr} {pos : Pos} {env : Env} {whole : Sem Value} (h : Tr c X S (isTrue x env (eval x env)) (fun b S1 => if b then Tr c X S1 (isTrue y env (eval y env)) Q else Q false S1)) : Tr c X S (isTrue (.BoolOp .And [x, y] pos) env whole) Q := fun g R s hR => by
  refine wpAny_isTrue_BoolOp (wpAny_allTrue_And_cons (h.go hR fun g1 b S1 v s1 l1 r1 v1 q1 => ?_))
  have e : v = b := v1
  subst e
  cases v with
  | false => exact ⟨g1, false, S1, l1, r1, rfl, q1⟩
  | true =>
    refine wpAny_allTrue_And_cons (Wp.go q1 r1 fun g2 b2 S2 u s2 l2 r2 v2 q2 => ?_)
    have e : u = b2 := v2
    subst e
    cases u with
    | false => exact ⟨g2, false, S2, l1.trans l2, r2, rfl, q2⟩
    | true => exact wpAny_allTrue_And_nil ⟨g2, true, S2, l1.trans l2, r2, rfl, q2⟩
theorem tr_or {x y : Expr} {pos : Pos} {env : Env} {whole : Sem Value} (h : Tr c X S (isTrue x env (eval x env)) (fun b S1 => if b then Q true S1 else Tr c X S1 (isTrue y env (eval y env)) Q)) : Tr c X S (isTrue (.BoolOp .Or [x, y] pos) env whole) Q := fun g R s hR => by
  refine wpAny_isTrue_BoolOp (wpAny_allTrue_Or_cons (h.go hR fun g1 b S1 v s1 l1 r1 v1 q1 => ?_))
  have e : v = b := v1
  subst e
  cases v with
  | true => exact ⟨g1, true, S1, l1, r1, rfl, q1⟩
  | false =>
    refine wpAny_allTrue_Or_cons (Wp.go q1 r1 fun g2 b2 S2 u s2 l2 r2 v2 q2 => ?_)
    have e : u = b2 := v2
    subst e
    cases u with
    | true => exact ⟨g2, true, S2, l1.trans l2, r2, rfl, q2⟩
    | false => exact wpAny_allTrue_Or_nil ⟨g2, false, S2, l1.trans l2, r2, rfl, q2⟩
theorem tr_val {e : Expr} {env : Env} {whole : Sem Value} (h : Ev c X S whole (fun a S1 => Th c X S1 a Q)) (he : isTrue e env whole = (do let v ← whole; standAt e.pos; holding [v] (truthy v)) := by rfl) : Tr c X S (isTrue e env whole) Q := fun g R s hR =>
  wpAny_isTrue_value (h.go hR fun g1 a S1 v s1 l1 r1 v1 q1 => up l1 (q1 g1 R s1 v r1 v1)) he
end

section
variable {c : Cx} {X : Fm} {S : AS} {Q : AV → AS → Prop}
noncomputable abbrev AV.int (i : Int) : AV := .dat (.int i)
noncomputable abbrev AV.str (i : Str) : AV := .dat (.str i)
noncomputable abbrev AV.bool (i : Bool) : AV := .dat (.bool i)
noncomputable abbrev AV.none : AV := .dat .none
theorem op_add {i j : Int} (h : Q (.int (i + j)) S) : Op2 c X S (binaryOp .Add) (.int i) (.int j) Q := fun g R s v u hR hv hu => by
  obtain ⟨t, rfl⟩ := hv; obtain ⟨t', rfl⟩ := hu
  exact P.add_int ⟨g, .int (i + j), S, .rfl, hR.toks, ⟨_, rfl⟩, h⟩
theorem op_sub {i j : Int} (h : Q (.int (i - j)) S) : Op2 c X S (binaryOp .Sub) (.int i) (.int j) Q := fun g R s v u hR hv hu => by
  obtain ⟨t, rfl⟩ := hv; obtain ⟨t', rfl⟩ := hu
  exact P.sub_int ⟨g, .int (i - j), S, .rfl, hR.toks, ⟨_, rfl⟩, h⟩
theorem op_neg {i : Int} (h : Q (.int (-i)) S) : Op1 c X S (unaryOp .USub) (.int i) Q := fun g R s v hR hv => by
  obtain ⟨t, rfl⟩ := hv
  exact P.neg_int ⟨g, .int (-i), S, .rfl, hR.toks, ⟨_, rfl⟩, h⟩
theorem op_eqI {i j : Int} (h : Q (.bool (i == j)) S) : Op2 c X S (compareOp .Eq) (.int i) (.int j) Q := fun g R s v u hR hv hu => by
  obtain ⟨t, rfl⟩ := hv; obtain ⟨t', rfl⟩ := hu
  exact P.eq_int ⟨g, .bool (i == j), S, .rfl, hR, rfl, h⟩
theorem op_ltI {i j : Int} (h : Q (.bool (decide (i < j))) S) : Op2 c X S (compareOp .Lt) (.int i) (.int j) Q := fun g R s v u hR hv hu => by
  obtain ⟨t, rfl⟩ := hv; obtain ⟨t', rfl⟩ := hu
  exact P.lt_int ⟨g, .bool (decide (i < j)), S, .rfl, hR, rfl, h⟩
theorem op_gtI {i j : Int} (h : Q (.bool (decide (i > j))) S) : Op2 c X S (compareOp .Gt) (.int i) (.int j) Q := fun g R s v u hR hv hu => by
  obtain ⟨t, rfl⟩ := hv; obtain ⟨t', rfl⟩ := hu
  exact P.gt_int ⟨g, .bool (decide (i > j)), S, .rfl, hR, rfl, h⟩
theorem op_ltS {i j : Str} (h : Q (.bool (decide (i.cps.toList < j.cps.toList))) S) : Op2 c X S (compareOp .Lt) (.str i) (.str j) Q := fun g R s v u hR hv hu => by
  obtain ⟨t, rfl⟩ := hv; obtain ⟨t', rfl⟩ := hu
  exact P.lt_str ⟨g, .bool (decide (i.cps.toList < j.cps.toList)), S, .rfl, hR, rfl, h⟩
theorem op_gtS {i j : Str} (h : Q (.bool (decide (j.cps.toList < i.cps.toList))) S) : Op2 c X S (compareOp .Gt) (.str i) (.str j) Q := fun g R s v u hR hv hu => by
  obtain ⟨t, rfl⟩ := hv; obtain ⟨t', rfl⟩ := hu
  exact P.gt_str ⟨g, .bool (decide (j.cps.toList < i.cps.toList)), S, .rfl, hR, rfl, h⟩
theorem op_isNone {d : D} {b : Bool} (hb : b = (match d with | .none => true | _ => false)) (h : Q (.bool b) S) : Op2 c X S (compareOp .Is) (.dat d) .none Q := fun g R s v u hR hv hu => by
  have e : u = .none := hu
  subst e
  refine is_none ⟨g, .bool b, S, .rfl, hR, ?_, h⟩
  subst hb
  cases d <;> simp only [AVr, Rd] at hv ⊢
  all_goals (first | subst hv | (obtain ⟨_, rfl⟩ := hv) | (obtain ⟨_, _, _, rfl, _⟩ := hv))
  all_goals rfl
end

section
variable {c : Cx} {X : Fm} {S : AS} {Q : Fl → AS → Prop} {env : Env}
theorem ex_nil (h : Q .next S) : Ex c X S (execs [] env) Q := fun g R s hR => wpAny_execs_nil ⟨g, .next, S, .rfl, hR, rfl, h⟩
/-- what follows a statement -/
noncomputable def Seq (c : Cx) (X : Fm) (rest : List Stmt) (env : Env) (Q : Fl → AS → Prop) (f : Fl) (S1 : AS) : Prop := match f with | .next => Ex c X S1 (execs rest env) Q | f => Q f S1
theorem seq_next {rest : List Stmt} (h : Ex c X S (execs rest env) Q) : Seq c X rest env Q .next S := h
theorem seq_brk {rest : List Stmt} (h : Q .brk S) : Seq c X rest env Q .brk S := h
theorem seq_ret {rest : List Stmt} {a : AV} (h : Q (.ret a) S) : Seq c X rest env Q (.ret a) S := h
theorem ite_in {b : Bool} {P1 P2 : Prop} (h1 : b = true → P1) (h2 : b = false → P2) : if b = true then P1 else P2 := by
  cases b with
  | true => exact h1 rfl
  | false => exact h2 rfl
theorem ex_cons {st : Stmt} {rest : List Stmt} (h : Ex c X S (exec st env) (Seq c X rest env Q)) : Ex c X S (execs (st :: rest) env) Q := fun g R s hR =>
  wpAny_execs_cons (h.go hR fun g1 b S1 f s1 l1 r1 v1 q1 => by
    cases b with
    | next =>
      have e : f = .next := v1
      subst e
      exact Wp.up q1 r1 l1
    | brk =>
      have e : f = .brk := v1
      subst e
      exact ⟨g1, .brk, S1, l1, r1, rfl, q1⟩
    | ret a =>
      obtain ⟨v, rfl, hv⟩ := v1
      exact ⟨g1, .ret a, S1, l1, r1, ⟨v, rfl, hv⟩, q1⟩)
theorem ex_ret {e : Expr} {pos : Pos} (h : Ev c X S (eval e env) (fun a S1 => Q (.ret a) S1)) : Ex c X S (exec (.Return (some e) pos) env) Q := fun g R s hR =>
  wpAny_Return_some (h.go hR fun g1 a S1 v s1 l1 r1 v1 q1 => ⟨g1, .ret a, S1, l1, r1, ⟨v, rfl, v1⟩, q1⟩)
theorem ex_ret0 {pos : Pos} (h : Q (.ret .none) S) : Ex c X S (exec (.Return none pos) env) Q := fun g R s hR => wpAny_Return_none ⟨g, .ret .none, S, .rfl, hR, ⟨.none, rfl, rfl⟩, h⟩
theorem ex_brk {pos : Pos} (h : Q .brk S) : Ex c X S (exec (.Break pos) env) Q := fun g R s hR => wpAny_Break ⟨g, .brk, S, .rfl, hR, rfl, h⟩
theorem ex_if {test : Expr} {body orelse : List Stmt} {pos : Pos} (h : Tr c X S (isTrue test env (eval test env)) (fun b S1 => if b then Ex c X S1 (execs body env) Q else Ex c X S1 (execs orelse env) Q)) : Ex c X S (exec (.If test body orelse pos) env) Q := fun g R s hR =>
  wpAny_If (h.go hR fun g1 b S1 v s1 l1 r1 v1 q1 => by
    have e : v = b := v1
    subst e
    cases v with
    | true => exact Wp.up q1 r1 l1
    | false => exact Wp.up q1 r1 l1)
end
section
variable {c : Cx} {X : Fm} {R : Ld} {g g' : G} {s s' : Shared} {S : AS}

theorem lookup_cell_split : ∀ {cs : List (Addr × Option Value)} {a : Addr} {v : Option Value}, cs.lookup a = some v → ∃ pre post, cs = pre ++ (a, v) :: post ∧ (∀ p ∈ pre, p.1 ≠ a)
  | [], _, _, h => by cases h
  | (b, u) :: r, a, v, h => by
    rw [List.lookup_cons] at h
    cases e : a == b with
    | true => rw [e] at h; cases h; have := beq_iff_eq.mp e; subst this; exact ⟨[], r, rfl, fun _ h => nomatch h⟩
    | false =>
      rw [e] at h
      obtain ⟨pre, post, h1, h2⟩ := lookup_cell_split h
      refine ⟨(b, u) :: pre, post, by rw [h1]; rfl, fun p hp => ?_⟩
      rcases List.mem_cons.mp hp with q | hp
      · subst q; exact fun q => (beq_eq_false_iff_ne.mp e) q.symm
      · exact h2 p hp
theorem lookup_append_ne {cs : List (Addr × Option Value)} {post : List (Addr × Option Value)} {a : Addr} {v : Option Value} (h : ∀ p ∈ cs, p.1 ≠ a) : (cs ++ (a, v) :: post).lookup a = some v := by
  induction cs with
  | nil => simp
  | cons p r ih =>
    obtain ⟨b, u⟩ := p
    have hb : (a == b) = false := beq_eq_false_iff_ne.mpr fun e => h (b, u) (.head _) e.symm
    simp only [List.cons_append, List.lookup_cons, hb]
    exact ih fun p hp => h p (.tail _ hp)
theorem lookup_append_other {cs : List (Addr × Option Value)} {post : List (Addr × Option Value)} {a b : Addr} {v v' : Option Value} (hne : b ≠ a) : (cs ++ (a, v) :: post).lookup b = (cs ++ (a, v') :: post).lookup b := by
  induction cs with
  | nil => simp [List.lookup_cons, beq_eq_false_iff_ne.mpr hne]
  | cons p r ih =>
    obtain ⟨d, u⟩ := p
    simp only [List.cons_append, List.lookup_cons, ih]

/-- where a name may be stored -/
noncomputable def CanSet (X : Fm) (x : Str) : Prop := X.env.kindOf x = some .local ∨ (X.own = true ∧ X.env.kindOf x = some .cell ∧ (∃ a, X.env.cells.lookup x = some a) ∧ X.env.cells.Pairwise fun p q => p.2 ≠ q.2)

theorem un_store {x : Str} {a : AV} {v : Value} {Q : AS → Prop} (hset : CanSet X x) (h : Q ⟨(x, a) :: S.loc, S.mu, S.gens⟩)
    (hR : Rel c X R g s S) (hv : AVr c.w g a v) :
    wpAny (M c) X.A (storeName X.env x v) (Pa c X R Q g) No s := by
  obtain ⟨m, cs, mo, tb, q⟩ := hR
  rcases hset with hk | ⟨hown, hk, ⟨ca, hc⟩, hinj⟩
  · obtain ⟨o, ho, hp⟩ := q.wd.get (a := X.env.locals) (P := NsP m) (.head _)
    refine wpAny_storeName_local hk (hp.ns ho) (fun h' hn hs => ?_) (by rw [X.fk]; rfl)
    obtain ⟨o', ho', hp'⟩ := NsP.of hn
    refine ⟨g, ⟨(x, a) :: S.loc, S.mu, S.gens⟩, .rfl, ⟨_, cs, mo, tb, ⟨q.wd.upd0 (fun b o hb e => hs.extBut b o hb e) ho' hp', ?_, q.cel, q.mut_, q.gen, q.tbo, q.os, q.g0, ?_⟩⟩, h⟩
    · intro y b e
      rw [List.lookup_cons] at e
      cases hy : y == x with
      | true =>
        rw [hy] at e; cases e
        have := beq_iff_eq.mp hy; subst this
        exact ⟨v, hv, .inl ⟨hk, if_pos rfl⟩⟩
      | false =>
        rw [hy] at e
        obtain ⟨u, h1, h2⟩ := q.loc y b e
        refine ⟨u, h1, h2.imp (fun ⟨z1, z2⟩ => ⟨z1, ?_⟩) id⟩
        show (if y = x then some v else m y) = some u
        rw [if_neg (beq_eq_false_iff_ne.mp hy)]; exact z2
    · intro e he
      obtain ⟨f, m', h1, h2, h3⟩ := q.fr e he
      rcases List.mem_cons.mp h3 with z | z
      · exact ⟨f, _, h1, h2, by have := (Prod.mk.inj z).1; subst this; exact .head _⟩
      · exact ⟨f, m', h1, h2, .tail _ z⟩
  · obtain ⟨v₀, hcs⟩ := q.cel hown x ca hc
    obtain ⟨pre, post, hsp, hpre⟩ := lookup_cell_split hcs
    subst hsp
    have hw : Wd g s.heap (((X.env.locals, NsP m) :: pre.map cellE) ++ cellE (ca, v₀) :: (post.map cellE ++ (mo.map exE ++ (S.gens.flatMap GA.ents ++ ((114, fun o => o = tb) :: R))))) := by
      have := q.wd
      unfold ledger at this
      simpa using this
    obtain ⟨o, ho, hp⟩ := hw.get (a := ca) (P := (cellE (ca, v₀)).2) (by simp [cellE])
    refine wpAny_storeName_cell X.fk hk hc ⟨o, ho, hp⟩ fun h' hn hs => ?_
    obtain ⟨o', ho', hd'⟩ := hn
    have hw' := hw.upd (P' := (cellE (ca, some v)).2) (h' := h') (fun b o hb e => hs.extBut b o hb e) ho' hd'
    refine ⟨g, ⟨(x, a) :: S.loc, S.mu, S.gens⟩, .rfl, ⟨m, pre ++ (ca, some v) :: post, mo, tb, ⟨?_, ?_, ?_, q.mut_, q.gen, q.tbo, q.os, q.g0, q.fr⟩⟩, h⟩
    · unfold ledger
      simpa [cellE] using hw'
    · intro y b e
      rw [List.lookup_cons] at e
      cases hy : y == x with
      | true =>
        rw [hy] at e; cases e
        have := beq_iff_eq.mp hy; subst this
        exact ⟨v, hv, .inr ⟨.inl hk, ca, hc, .inl (lookup_append_ne hpre)⟩⟩
      | false =>
        rw [hy] at e
        obtain ⟨u, h1, h2⟩ := q.loc y b e
        refine ⟨u, h1, h2.imp id fun ⟨z1, cb, z2, z3⟩ => ⟨z1, cb, z2, z3.imp (fun z3 => ?_) id⟩⟩
        have hne : cb ≠ ca := fun e => (beq_eq_false_iff_ne.mp hy) (name_of_addr hinj (mem_of_lookup z2) (e ▸ mem_of_lookup hc))
        rw [lookup_append_other hne (v' := v₀)]; exact z3
    · intro _ y b e
      obtain ⟨u, hu⟩ := q.cel hown y b e
      by_cases hne : b = ca
      · subst hne; exact ⟨_, lookup_append_ne hpre⟩
      · exact ⟨u, by rw [lookup_append_other hne (v' := v₀)]; exact hu⟩
end

section
variable {c : Cx} {X : Fm} {S : AS} {Q : Fl → AS → Prop}
/-- the frame's own sides -/
structure Fine (X : Fm) (x : Str) : Prop where
  set : CanSet X x

theorem ex_assign {x : Str} {p pos : Pos} {value : Expr} (F : Fine X x) (h : Ev c X S (eval value X.env) (fun a S1 => Q .next (S1.set x a)))
    (hs : swapsWith value (some (.Name x p)) pos.line X.env = pure false := by rfl) : Ex c X S (exec (.Assign [.Name x p] value pos) X.env) Q := fun g R s hR =>
  wpAny_Assign_Name (Po.go (h g R s hR) (fun v s1 g1 a S1 h1 h2 h3 h4 =>
    Pa.go (un_store (a := a) (Q := fun S' => Q .next S') F.set h4 h2 h3) (fun _ s2 g2 S2 q1 q2 q3 => ⟨g2, .next, S2, h1.trans q1, q2, rfl, q3⟩))) hs
theorem wp_assignName {x : Str} {p : Pos} {a : AV} {v : Value} {R : Ld} {g : G} {s : Shared} {Q : AS → Prop} (F : Fine X x) (h : Q ⟨(x, a) :: S.loc, S.mu, S.gens⟩) (hR : Rel c X R g s S) (hv : AVr c.w g a v) :
    wpAny (M c) X.A (assign (.Name x p) X.env v) (Pa c X R Q g) No s := wpAny_assign_Name (un_store F.set h hR hv)
theorem ex_aug {x : Str} {p pos : Pos} {op : Operator} {value : Expr} {old : AV} (F : Fine X x) (hx : S.loc.lookup x = some old)
    (h : Ev c X S (eval value X.env) (fun a S1 => Op2 c X S1 (inplaceOp op) old a (fun b S2 => Q .next (S2.set x b))))
    (hd : (x == ("__debug__" : Str)) = false := by rfl) (hc : (x == ("__classdict__" : Str)) = false := by rfl) : Ex c X S (exec (.AugAssign (.Name x p) op value pos) X.env) Q := fun g R s hR => by
  refine wpAny_AugAssign_Name ?_
  have hv' := ev_load (c := c) (X := X) (S := S) (Q := fun a S1 => a = old ∧ S1 = S) hx ⟨rfl, rfl⟩ hc g R s hR
  refine Po.go hv' (fun v s1 g1 a S1 h1 h2 h3 hz1 => ?_)
  obtain ⟨h4, h5⟩ := hz1
  subst h4 h5
  refine Po.go (h g1 R s1 h2) (fun u s2 g2 b S2 q1 q2 q3 q4 => ?_)
  refine Po.go (q4 g2 R s2 v u q2 (h3.mono q1) q3) (fun y s3 g3 d S3 z1 z2 z3 z4 => ?_)
  exact Pa.go (un_store (a := d) (Q := fun S' => Q .next S') F.set z4 z2 z3) (fun _ s2 g4 S4 y1 y2 y3 => ⟨g4, .next, S4, ((h1.trans q1).trans z1).trans y1, y2, rfl, y3⟩)
end

section
variable {α β : Type} {c : Cx} {X : Fm} {r : G → β → α → Prop} {S S' : AS} {t : Sem α} {Q : β → AS → Prop}
theorem Wp.pre (hi : ∀ g R s, Rel c X R g s S → ∃ g', G.le g g' ∧ Rel c X R g' s S') (h : Wp c X r S' t Q) : Wp c X r S t Q := fun g R s hR => by
  obtain ⟨g', h1, h2⟩ := hi g R s hR
  exact Po.back (h g' R s h2) h1
noncomputable def LocSub : List (Str × AV) → List (Str × AV) → Prop
  | [], _ => True
  | (x, a) :: r, loc => loc.lookup x = some a ∧ LocSub r loc
theorem LocSub.get : ∀ {l loc : List (Str × AV)}, LocSub l loc → ∀ {x : Str} {a : AV}, l.lookup x = some a → loc.lookup x = some a
  | [], _, _, _, _, e => by cases e
  | (y, b) :: r, loc, h, x, a, e => by
    rw [List.lookup_cons] at e
    cases q : x == y with
    | true => rw [q] at e; cases e; have := beq_iff_eq.mp q; subst this; exact h.1
    | false => rw [q] at e; exact LocSub.get h.2 e
theorem Rel.locs {R : Ld} {g : G} {s : Shared} {loc : List (Str × AV)} (h : Rel c X R g s S) (hl : LocSub loc S.loc) : Rel c X R g s ⟨loc, S.mu, S.gens⟩ := by
  obtain ⟨m, cs, mo, tb, q⟩ := h
  exact ⟨m, cs, mo, tb, ⟨q.wd, fun x a e => q.loc x a (hl.get e), q.cel, q.mut_, q.gen, q.tbo, q.os, q.g0, q.fr⟩⟩
theorem Wp.locs {loc : List (Str × AV)} (hl : LocSub loc S.loc) (h : Wp c X r ⟨loc, S.mu, S.gens⟩ t Q) : Wp c X r S t Q := Wp.pre (fun g R s hR => ⟨g, .rfl, hR.locs hl⟩) h
end
theorem Wd.join {g : G} {h : Heap} {l l₂ : Ld} {n : Nat} (w : Wd g h l) (hn : ∀ a o, g a = some o → a < n) (hl : ∀ p ∈ l, p.1 < n) (h2 : ∀ p ∈ l₂, n ≤ p.1 ∧ ∃ o, h.get? p.1 = some o ∧ p.2 o) (nd : (l₂.map Prod.fst).Nodup) : Wd g h (l₂ ++ l) where
  fz := w.fz
  nd := by
    rw [List.map_append, List.nodup_append]
    refine ⟨nd, w.nd, fun a ha b hb e => ?_⟩
    subst e
    obtain ⟨p, hp, e1⟩ := List.mem_map.mp ha
    obtain ⟨q, hq, e2⟩ := List.mem_map.mp hb
    have z1 := (h2 p hp).1
    have z2 := hl q hq
    rw [e1] at z1
    rw [e2] at z2
    exact absurd z2 (Nat.not_lt.mpr z1)
  ok := fun p hp => by
    rcases List.mem_append.mp hp with hp | hp
    · refine ⟨?_, (h2 p hp).2⟩
      cases e : g p.1 with
      | none => rfl
      | some o => exact absurd (hn _ _ e) (Nat.not_lt.mpr (h2 p hp).1)
    · exact w.ok p hp

theorem bindL_other {kd : Str → Option NameKind} : ∀ {binds : List (Str × Value)} {m : Str → Option Value} {x : Str}, x ∉ binds.map Prod.fst → bindL kd binds m x = m x
  | [], _, _, _ => rfl
  | (n, v) :: r, m, x, h => by
    rw [List.map_cons, List.mem_cons, not_or] at h
    rw [bindL, bindL_other h.2]
    split
    · exact if_neg h.1
    · rfl
theorem bindL_get {kd : Str → Option NameKind} : ∀ {binds : List (Str × Value)} {m : Str → Option Value} {x : Str} {v : Value}, (binds.map Prod.fst).Nodup → (x, v) ∈ binds → kd x = some .local → bindL kd binds m x = some v
  | (n, u) :: r, m, x, v, nd, hm, hk => by
    rw [List.map_cons, List.nodup_cons] at nd
    rcases List.mem_cons.mp hm with e | hm
    · cases e
      rw [bindL, bindL_other nd.1, if_pos hk]
      exact if_pos rfl
    · rw [bindL]; exact bindL_get nd.2 hm hk
theorem bindC_other {kd : Str → Option NameKind} : ∀ {binds : List (Str × Value)} {m : Str → Option Value} {x : Str}, x ∉ binds.map Prod.fst → bindC kd binds m x = m x
  | [], _, _, _ => rfl
  | (n, v) :: r, m, x, h => by
    rw [List.map_cons, List.mem_cons, not_or] at h
    rw [bindC, bindC_other h.2]
    split
    · rfl
    · exact if_neg h.1
theorem bindC_get {kd : Str → Option NameKind} {binds : List (Str × Value)} {m : Str → Option Value} {x : Str} {v : Value} (nd : (binds.map Prod.fst).Nodup) (hm : (x, v) ∈ binds) (hk : kd x ≠ some .local) : bindC kd binds m x = some v := by
  induction binds generalizing m with
  | nil => cases hm
  | cons p r ih =>
    obtain ⟨n, u⟩ := p
    rw [List.map_cons, List.nodup_cons] at nd
    rcases List.mem_cons.mp hm with e | hm
    · cases e
      rw [bindC, bindC_other nd.1, if_neg hk]
      exact if_pos rfl
    · rw [bindC]; exact ih nd.2 hm
theorem zip_at {w : World} {g : G} : ∀ {ps : List Str} {as : List AV} {vs : List Value}, AVsr w g as vs → ∀ {x : Str} {a : AV}, (ps.zip as).lookup x = some a → ∃ v, (x, v) ∈ ps.zip vs ∧ AVr w g a v
  | [], _, _, _, _, _, e => by cases e
  | _ :: _, [], _, _, _, _, e => by cases e
  | p :: ps, b :: as, _, h, x, a, e => by
    obtain ⟨v, vs', rfl, h1, h2⟩ := h
    rw [List.zip_cons_cons, List.lookup_cons] at e
    cases q : x == p with
    | true => rw [q] at e; cases e; have := beq_iff_eq.mp q; subst this; exact ⟨v, .head _, h1⟩
    | false =>
      rw [q] at e
      obtain ⟨u, z1, z2⟩ := zip_at h2 e
      exact ⟨u, .tail _ z1, z2⟩
theorem AVsr.length {w : World} {g : G} : ∀ {as : List AV} {vs : List Value}, AVsr w g as vs → vs.length = as.length
  | [], _, h => by have e : _ = [] := h; subst e; rfl
  | _ :: _, _, h => by obtain ⟨v, vs', rfl, _, h2⟩ := h; simp [AVsr.length h2]
theorem cells_lookup {cells : List (Str × Addr)} (hp : cells.Pairwise fun p q => p.2 ≠ q.2) {f : Str → Option Value} {n : Str} {a : Addr} (h : (n, a) ∈ cells) : (cells.map fun p => (p.2, f p.1)).lookup a = some (f n) := by
  induction cells with
  | nil => cases h
  | cons p r ih =>
    obtain ⟨k, b⟩ := p
    obtain ⟨h1, h2⟩ := List.pairwise_cons.mp hp
    rcases List.mem_cons.mp h with e | h
    · cases e; simp
    · have : (a == b) = false := beq_eq_false_iff_ne.mpr fun e => h1 _ h e.symm
      simp only [List.map_cons, List.lookup_cons, this]
      exact ih h2 h

theorem cellsFrom_fst : ∀ (names : List (Str × NameKind)) (n k : Nat) (acc acc' : List (Str × Addr)), acc.map Prod.fst = acc'.map Prod.fst → (cellsFrom n names acc).map Prod.fst = (cellsFrom k names acc').map Prod.fst
  | [], _, _, _, _, h => h
  | (x, kd) :: r, n, k, acc, acc', h => by
    unfold cellsFrom
    split
    · exact cellsFrom_fst r _ _ _ _ (by simp [h])
    · exact cellsFrom_fst r _ _ _ _ h
theorem lookup_of_mem : ∀ {l : List (Str × Addr)} {nm : Str} {ca : Addr}, (l.map Prod.fst).Nodup → (nm, ca) ∈ l → l.lookup nm = some ca
  | (k, b) :: r, nm, ca, hd, hm => by
    rw [List.map_cons, List.nodup_cons] at hd
    rw [List.lookup_cons]
    rcases List.mem_cons.mp hm with e | hm
    · cases e; simp
    · have : (nm == k) = false := beq_eq_false_iff_ne.mpr fun e => hd.1 (e ▸ List.mem_map.mpr ⟨_, hm, rfl⟩)
      rw [this]; exact lookup_of_mem hd.2 hm
noncomputable def flAV : Fl → AV
  | .ret a => a
  | _ => .dat .none

/-- a called def's frame -/
noncomputable def fmOf (fd : FuncData) (f L : Addr) (A : Around) (n : Nat) (ok : OkA n A) (fl : List Env) (hfl : A.frames = some fl) (hk : fd.scope.kind = .function) (hg : fd.globals = mainGlobals) (hb : fd.builtins = builtinsNs) : Fm where
  A := A
  env := callEnvC fd L f
  n := n
  ok := ok
  fk := hk
  gl := hg
  bl := hb
  fl := fl
  hfl := hfl
  own := true

theorem OkA.deeper {n : Nat} {A : Around} (h : OkA (n + 1) A) (env : Env) : OkA n (A.deeper env) := ⟨h.hd, by have := h.dp; show A.depth + 1 + n < _; omega, by have := h.un; show A.units + 3 + 20 * n + 100 < _; omega⟩

theorem callPerm (L : Addr) (m : Str → Option Value) (cs : List (Addr × Option Value)) (mo : List (Addr × Obj)) (gs : List GA) (tb : Obj) (R : Ld) :
    (ledger L m cs mo gs tb R).Perm (mo.map exE ++ (gs.flatMap GA.ents ++ ((114, fun o => o = tb) :: ((L, NsP m) :: (cs.map cellE ++ R))))) := by
  unfold ledger
  generalize cs.map cellE = c1
  generalize mo.map exE = m1
  generalize gs.flatMap GA.ents = g1
  generalize hx : ((114, fun o => o = tb) : Addr × (Obj → Prop)) = x1
  generalize ((L, NsP m) : Addr × (Obj → Prop)) = y1
  clear hx
  have e1 : (m1 ++ (g1 ++ (x1 :: (y1 :: (c1 ++ R))))).Perm (y1 :: (m1 ++ (g1 ++ (x1 :: (c1 ++ R))))) := by
    have : (m1 ++ (g1 ++ (x1 :: (y1 :: (c1 ++ R))))) = (m1 ++ g1 ++ [x1]) ++ y1 :: (c1 ++ R) := by simp
    rw [this]
    refine List.perm_middle.trans ?_
    simp
  have e2 : (c1 ++ (m1 ++ (g1 ++ (x1 :: R)))).Perm (m1 ++ (g1 ++ (x1 :: (c1 ++ R)))) := by
    have a1 : (c1 ++ (m1 ++ (g1 ++ (x1 :: R)))) = c1 ++ (m1 ++ g1 ++ [x1]) ++ R := by simp
    have a2 : (m1 ++ (g1 ++ (x1 :: (c1 ++ R)))) = (m1 ++ g1 ++ [x1]) ++ c1 ++ R := by simp
    rw [a1, a2]
    exact (List.perm_append_comm).append_right R
  exact (e2.cons y1).trans e1.symm

/-- what is known of a called def's frame -/
structure Kn (Y : Fm) (fd : FuncData) (f L : Addr) : Prop where
  env : Y.env = callEnvC fd L f
  own : Y.own = true
  prs : Y.env.cells.Pairwise fun p q => p.2 ≠ q.2
  fls : ∃ outer, Y.fl = Y.env :: outer
theorem cl_fn {c : Cx} {X : Fm} {S : AS} {Q : AV → AS → Prop} {f : Addr} {fd : FuncData} {oc : Value} {od : Option Addr} {osl : Array (Option Value)} {body : List Stmt} {as : List AV} {ps : List Str} {n : Nat}
    (ho : (KK c.w.params).lookup f = some ⟨oc, od, .func fd, osl⟩) (hf : f ≠ 114) (hcd : codeIn (KK c.w.params) fd.code fd.qualname = true) (hcd' : fd.code ≠ .ref 114)
    (hbody : fd.body = .stmts body) (hclo : fd.closure = []) (hbind : ∀ vs, vs.length = as.length → bindArgs fd ⟨vs, []⟩ = pure (ps.zip vs)) (hlen : ps.length = as.length)
    (hcs : ((cellsFrom 0 fd.scope.names []).map Prod.fst).Nodup) (hkind : (ps.all fun y => fd.scope.names.lookup y == some .local || fd.scope.names.lookup y == some .cell) = true) (hnd : ps.Nodup)
    (hg : fd.globals = mainGlobals) (hb : fd.builtins = builtinsNs) (hco : fd.scope.isCoroutine = false) (hgen : fd.scope.isGenerator = false) (hk : fd.scope.kind = .function)
    (hn : X.n = n + 1)
    (h : ∀ Y L, Kn Y fd f L → Y.n = n → Ex c Y ⟨ps.zip as, S.mu, S.gens⟩ (execs body Y.env) (fun fl S1 => Q (flAV fl) ⟨S.loc, S1.mu, S1.gens⟩)) :
    Cl c X S (.ref f) as Q := by
  intro g R s vs hR hvs
  have hR0 := hR
  obtain ⟨m, cs, mo, tb, q⟩ := hR
  have okX : OkA (n + 1) X.A := hn ▸ X.ok
  have hlv := hvs.length
  have hpz : (ps.zip vs).map Prod.fst = ps := by rw [List.map_fst_zip]; omega
  refine wpAny_call (codeAny_call_cells (by have := okX.dp; omega) (hR0.kIn ho hf) rfl hR0.lim (hR0.codeRec hcd hcd') hbody (hbind vs hlv) hclo (kindsX ?_ _) (fun s₁ hin => ?_) hco hgen hk)
  · rw [List.all_eq_true] at hkind ⊢
    intro p hp
    exact hkind p.1 (hpz ▸ List.mem_map.mpr ⟨p, hp, rfl⟩)
  have hC := hin.toInCall
  let env := callEnvC fd s.heap.objs.size f
  have hlow : ∀ p ∈ ledger X.env.locals m cs mo S.gens tb R, p.1 < s.heap.objs.size := fun p hp => let ⟨_, ho, _⟩ := (q.wd.ok p hp).2; Heap.lt_size ho
  have w1 := q.wd.keeps hC.keep
  let R' : Ld := (X.env.locals, NsP m) :: (cs.map cellE ++ R)
  have hperm : (ledger X.env.locals m cs mo S.gens tb R).Perm (mo.map exE ++ (S.gens.flatMap GA.ents ++ ((114, fun o => o = tb) :: R'))) := callPerm ..
  have w2 := w1.perm hperm
  have hcn : (env.cells.map Prod.fst).Nodup := by
    have : env.cells.map Prod.fst = (cellsFrom 0 fd.scope.names []).map Prod.fst := cellsFrom_fst _ _ _ _ _ rfl
    rw [this]; exact hcs
  let cs' : List (Addr × Option Value) := env.cells.map fun p => (p.2, bindC env.kindOf (ps.zip vs) (fun _ => none) p.1)
  have hcsmap : cs'.map cellE = env.cells.map fun p => (p.2, cellP (bindC env.kindOf (ps.zip vs) (fun _ => none) p.1)) := by
    simp only [cs', List.map_map]; rfl
  have w3 : Wd g s₁.heap (ledger env.locals (bindL env.kindOf (ps.zip vs) fun _ => none) cs' mo S.gens tb R') := by
    have : ledger env.locals (bindL env.kindOf (ps.zip vs) fun _ => none) cs' mo S.gens tb R' = ((env.locals, NsP (bindL env.kindOf (ps.zip vs) fun _ => none)) :: cs'.map cellE) ++ (mo.map exE ++ (S.gens.flatMap GA.ents ++ ((114, fun o => o = tb) :: R'))) := by
      unfold ledger; simp
    rw [this]
    refine w2.join (n := s.heap.objs.size) (fun a o e => Heap.lt_size (q.wd.fz a o e)) (fun p hp => hlow p (hperm.mem_iff.mpr hp)) (fun p hp => ?_) ?_
    · rcases List.mem_cons.mp hp with e | hp
      · subst e
        obtain ⟨o, h1, h2⟩ := NsP.of hC.ns
        exact ⟨Nat.le_refl _, o, h1, h2⟩
      · rw [hcsmap] at hp
        obtain ⟨⟨nm, ca⟩, hm, rfl⟩ := List.mem_map.mp hp
        have hl : env.cells.lookup nm = some ca := by
          exact lookup_of_mem hcn hm
        obtain ⟨o, h1, h2⟩ := hin.cell nm ca hl
        exact ⟨Nat.le_of_lt (hin.above nm ca hm), o, h1, h2⟩
    · rw [List.map_cons, List.nodup_cons]
      have e : (cs'.map cellE).map Prod.fst = env.cells.map Prod.snd := by rw [hcsmap, List.map_map]; rfl
      rw [e]
      refine ⟨fun hm => ?_, ?_⟩
      · obtain ⟨⟨nm, ca⟩, hm', e'⟩ := List.mem_map.mp hm
        have := hin.above nm ca hm'
        have e2 : ca = env.locals := e'
        rw [e2] at this
        exact Nat.lt_irrefl _ this
      · exact List.pairwise_map.mpr hin.apart
  have hloc : LocOk c.w g env (bindL env.kindOf (ps.zip vs) fun _ => none) cs' R' (ps.zip as) := by
    intro x a e
    obtain ⟨v, hm, hv⟩ := zip_at hvs e
    refine ⟨v, hv, ?_⟩
    have hx : x ∈ ps := hpz ▸ List.mem_map.mpr ⟨_, hm, rfl⟩
    have hnd' : ((ps.zip vs).map Prod.fst).Nodup := hpz.symm ▸ hnd
    rcases Bool.or_eq_true_iff.mp (List.all_eq_true.mp hkind x hx) with k1 | k1
    · exact .inl ⟨beq_iff_eq.mp k1, bindL_get hnd' hm (beq_iff_eq.mp k1)⟩
    · have k2 : env.kindOf x = some .cell := beq_iff_eq.mp k1
      have hs := cellsFrom_some (x := x) fd.scope.names (s.heap.objs.size + 1) [] (.inl k2)
      obtain ⟨ca, hca⟩ := Option.isSome_iff_exists.mp hs
      refine .inr ⟨.inl k2, ca, hca, .inl ?_⟩
      rw [cells_lookup hin.apart (mem_of_lookup hca)]
      rw [bindC_get hnd' hm (by rw [k2]; decide)]
  have hcel : CellsOk env cs' := fun x a e => ⟨_, cells_lookup hin.apart (mem_of_lookup e)⟩
  obtain ⟨h1, tk, rfl⟩ := hC.same
  have hfr' : FrOk (env :: X.fl) ((env.locals, NsP (bindL env.kindOf (ps.zip vs) fun _ => none)) :: R') := by
    intro e he
    rcases List.mem_cons.mp he with e1 | he
    · subst e1; exact ⟨_, _, rfl, hk, .head _⟩
    · obtain ⟨f', m', z1, z2, z3⟩ := q.fr e he
      refine ⟨f', m', z1, z2, .tail _ ?_⟩
      rcases List.mem_cons.mp z3 with z | z
      · exact z ▸ .head _
      · exact .tail _ (List.mem_append_right _ z)
  have hrel : Rel c (fmOf fd f s.heap.objs.size (X.A.deeper env) n (okX.deeper env) (env :: X.fl) (Around.frames_deeper X.hfl) hk hg hb) R' g { s with heap := h1, toks := tk } ⟨ps.zip as, S.mu, S.gens⟩ :=
    ⟨_, cs', mo, tb, ⟨w3, hloc, fun _ => hcel, q.mut_, q.gen, q.tbo, q.os, q.g0, hfr'⟩⟩
  refine Po.go (h (fmOf fd f s.heap.objs.size (X.A.deeper env) n (okX.deeper env) (env :: X.fl) (Around.frames_deeper X.hfl) hk hg hb) s.heap.objs.size ⟨rfl, rfl, hin.apart, _, rfl⟩ rfl g R' _ hrel) (fun fl s2 g2 b S1 z1 z2 z3 z4 => ?_)
  refine ⟨g2, _, _, z1, ?_, ?_, z4⟩
  rotate_left
  · cases b with
    | next => have e : fl = .next := z3; subst e; exact rfl
    | brk => have e : fl = .brk := z3; subst e; exact rfl
    | ret a => obtain ⟨v, rfl, hv⟩ := z3; exact hv
  obtain ⟨m2, cs2, mo2, tb2, q2⟩ := z2
  have w4 : Wd g2 s2.heap (mo2.map exE ++ (S1.gens.flatMap GA.ents ++ ((114, fun o => o = tb2) :: R'))) := q2.wd.sub (by
    unfold ledger
    exact .cons _ (List.sublist_append_right _ _))
  refine ⟨m, cs, mo2, tb2, ⟨w4.perm ?_, q.loc.mono z1, q.cel, q2.mut_, q2.gen, q2.tbo, q2.os, q2.g0, q.fr⟩⟩
  exact (callPerm ..).symm
noncomputable def gtab : List (Str × Value) := [(Str.ofString "_strcoll", .ref 21), (Str.ofString "_grouping_intervals", .ref 28), (Str.ofString "TupleComp", .ref 52), (Str.ofString "func_std_string", .ref 63), (Str.ofString "add_func_stats", .ref 70),
  (Str.ofString "add_callers", .ref 77), (Str.ofString "count_calls", .ref 84), (Str.ofString "_law_row", .ref 91), (Str.ofString "_law_ask", .ref 98), (Str.ofString "_law_file", .ref 105), (Str.ofString "_law_here", .ref 112), (Str.ofString "_law_all", .ref 117),
  (Str.ofString "_law_lead", .ref 124), (Str.ofString "_law_one", .ref 129), (Str.ofString "_law_sizes", .ref 134), (Str.ofString "_law_least", .ref 139), (Str.ofString "_law_book", .ref 144), (Str.ofString "law", .ref 149), (Str.ofString "CHAR_MAX", .int 127 197)]
theorem gtab_in (P : Params) : ∀ p ∈ gtab, nsIn (KK P) mainGlobals p.1 = some (some p.2) := by
  unfold gtab
  repeat' (first | exact List.forall_mem_nil _ | (refine List.forall_mem_cons.mpr ⟨rfl, ?_⟩))
noncomputable def btab : List (Str × Value) := [(Str.ofString "sum", .builtin "sum"), (Str.ofString "range", .type "range"), (Str.ofString "len", .builtin "len"), (Str.ofString "min", .builtin "min"), (Str.ofString "max", .builtin "max"), (Str.ofString "next", .builtin "next"),
  (Str.ofString "isinstance", .builtin "isinstance"), (Str.ofString "tuple", .type "tuple"), (Str.ofString "ValueError", .type "ValueError")]
theorem btab_in (P : Params) : ∀ p ∈ btab, nsIn (KK P) mainGlobals p.1 = some none := by
  unfold btab
  repeat' (first | exact List.forall_mem_nil _ | (refine List.forall_mem_cons.mpr ⟨rfl, ?_⟩))
theorem btab_boot : ∀ p ∈ btab, bootBuiltins p.1 = some p.2 ∧ p.1 ≠ Str.ofString "__name__" := by
  unfold btab
  repeat' (first | exact List.forall_mem_nil _ | (refine List.forall_mem_cons.mpr ⟨⟨by decide +kernel, by decide +kernel⟩, ?_⟩))

theorem lookup_mem {α : Type} {l : List (Str × α)} {x : Str} {v : α} (h : l.lookup x = some v) : (x, v) ∈ l := mem_of_lookup h
theorem mg_none {K : Frag} {h : Heap} {mg : Str → Option Value} {n : Str} (X : K.In h) (G : h.Ns mainGlobals mg) (e : nsIn K mainGlobals n = some none) : mg n = none := by
  obtain ⟨o, es, ep, ho, hd, _, hf⟩ := G
  unfold nsIn at e
  split at e
  · rename_i c d es' n' sl q
    have := X _ _ q
    rw [ho] at this
    cases this
    cases hd
    split at e
    · cases e
    · rename_i he
      rw [← hf]
      unfold nsFind findBy
      rw [← Array.find?_toList, he]
      rfl
  · cases e
section
variable {c : Cx} {X : Fm} {S : AS} {Q : AV → AS → Prop}
theorem gtab_ok {x : Str} {v : Value} (h : gtab.lookup x = some v) : c.mg x = some v := mg_of c.hK c.gN (gtab_in c.w.params _ (lookup_mem h))
theorem ev_g {x : Str} {pos : Pos} {v : Value} (hv : gtab.lookup x = some v) (h : Q (.raw v) S) (hk : X.env.kindOf x = some .globalImplicit := by rfl) (hd : (x == ("__debug__" : Str)) = false := by rfl) : Ev c X S (eval (.Name x pos) X.env) Q := ev_glob (gtab_ok hv) h hk hd
theorem ev_gint {x : Str} {pos : Pos} {i : Int} {t : Tok} (hv : gtab.lookup x = some (.int i t)) (h : Q (.int i) S) (hk : X.env.kindOf x = some .globalImplicit := by rfl) (hd : (x == ("__debug__" : Str)) = false := by rfl) : Ev c X S (eval (.Name x pos) X.env) Q := fun g R s hR =>
  Calls.Name_function_global X.fk hk (Calls.loadGlobal_global (by rw [X.gl]; exact hR.gNs) (gtab_ok hv) ⟨g, .int i, S, .rfl, hR, ⟨t, rfl⟩, h⟩) hd
theorem ev_b {x : Str} {pos : Pos} {v : Value} (hv : btab.lookup x = some v) (h : Q (.raw v) S) (hk : X.env.kindOf x = some .globalImplicit := by rfl) (hd : (x == ("__debug__" : Str)) = false := by rfl) : Ev c X S (eval (.Name x pos) X.env) Q :=
  ev_built (mg_none c.hK c.gN (btab_in c.w.params _ (lookup_mem hv))) (btab_boot _ (lookup_mem hv)).1 h (btab_boot _ (lookup_mem hv)).2 hk hd
end

theorem kk114 (P : Params) : (KK P).lookup 114 = none := by rfl
theorem Rel.kAll {c : Cx} {X : Fm} {R : Ld} {g : G} {s : Shared} {S : AS} (h : Rel c X R g s S) : (KK c.w.params).In s.heap := fun a o e => h.kIn e (by intro q; subst q; rw [kk114] at e; cases e)

section
variable {c : Cx} {X : Fm} {S : AS} {env : Env}
theorem evs_nil {pos : Pos} {Q : List AV → AS → Prop} (h : Q [] S) : Evs c X S (spliced (backTo pos (starEach [] env))) Q := fun g R s hR => wpAny_items_nil ⟨g, [], S, .rfl, hR, rfl, h⟩
theorem evs_cons {pos : Pos} {e : Expr} {rest : List Expr} {Q : List AV → AS → Prop} (h : Ev c X S (eval e env) (fun a S1 => Evs c X S1 (spliced (backTo pos (starEach rest env))) (fun as S2 => Q (a :: as) S2)))
    (he : starEach (e :: rest) env = (false, eval e env) :: starEach rest env := by rfl) : Evs c X S (spliced (backTo pos (starEach (e :: rest) env))) Q := fun g R s hR =>
  wpAny_items_cons (Po.go (h g R s hR) (fun v s1 g1 a S1 h1 h2 h3 h4 => Po.go (h4 g1 R s1 h2) (fun vs s2 g2 as S2 q1 q2 q3 q4 => ⟨g2, a :: as, S2, h1.trans q1, q2, ⟨v, vs, rfl, h3.mono q1, q3⟩, q4⟩))) he

variable {Q : AV → AS → Prop}
theorem ev_callG {x : Str} {np pos : Pos} {e : Expr} {rest : List Expr} {fv : Value} (hv : gtab.lookup x = some fv) (hkp : keepIn (KK c.w.params) fv = true)
    (h : Evs c X S (spliced (backTo pos (starEach (e :: rest) X.env))) (fun as S2 => Cl c X S2 fv as Q)) (hk : X.env.kindOf x = some .globalImplicit := by rfl) (hd : (x == ("__debug__" : Str)) = false := by rfl)
    (he : starEach (e :: rest) X.env = (false, eval e X.env) :: starEach rest X.env := by rfl) (hplain : (backTo pos (starEach rest X.env)).any (·.1) = false := by rfl) :
    Ev c X S (eval (.Call (.Name x np) (e :: rest) [] pos) X.env) Q := fun g R s hR => by
  show wpAny _ _ (do callWith pos (← eval (.Name x np) X.env) [] (backTo pos (starEach (e :: rest) X.env)) (backToKw pos (keywordEach [] X.env))) _ _ s
  refine wpAny_bind (Po.go (ev_g (c := c) (X := X) (S := S) (Q := fun a S1 => a = .raw fv ∧ S1 = S) (pos := np) hv ⟨rfl, rfl⟩ hk hd g R s hR) (fun v s1 g1 a S1 h1 h2 h3 hz1 => ?_))
  obtain ⟨h4, h5⟩ := hz1
  subst h4 h5
  have e1 : v = fv := h3
  subst e1
  refine callWith_K h2.kAll hkp (Po.go (h g1 R s1 h2) (fun vs s2 g2 as S2 q1 q2 q3 q4 => ⟨q2.kAll, ?_⟩)) he hplain
  exact Po.back (q4 g2 R s2 vs q2 q3) (h1.trans q1)
theorem ev_callB {x : Str} {np pos : Pos} {e : Expr} {rest : List Expr} {id : String} (hv : btab.lookup x = some (.builtin id))
    (h : Evs c X S (spliced (backTo pos (starEach (e :: rest) X.env))) (fun as S2 => Cl c X S2 (.builtin id) as Q)) (hk : X.env.kindOf x = some .globalImplicit := by rfl) (hd : (x == ("__debug__" : Str)) = false := by rfl)
    (he : starEach (e :: rest) X.env = (false, eval e X.env) :: starEach rest X.env := by rfl) (hplain : (backTo pos (starEach rest X.env)).any (·.1) = false := by rfl) :
    Ev c X S (eval (.Call (.Name x np) (e :: rest) [] pos) X.env) Q := fun g R s hR => by
  show wpAny _ _ (do callWith pos (← eval (.Name x np) X.env) [] (backTo pos (starEach (e :: rest) X.env)) (backToKw pos (keywordEach [] X.env))) _ _ s
  refine wpAny_bind (Po.go (ev_b (c := c) (X := X) (S := S) (Q := fun a S1 => a = .raw (.builtin id) ∧ S1 = S) (pos := np) hv ⟨rfl, rfl⟩ hk hd g R s hR) (fun v s1 g1 a S1 h1 h2 h3 hz2 => ?_))
  obtain ⟨h4, h5⟩ := hz2
  subst h4 h5
  have e1 : v = .builtin id := h3
  subst e1
  have h' := h g1 R s1 h2
  rw [he] at h' ⊢
  refine Calls.callWith_builtin (by show ((false || (backTo pos (starEach rest X.env)).any (·.1))) = false; rw [hplain]; rfl) (Calls.evalArgs_plain (Po.go h' (fun vs s2 g2 as S2 q1 q2 q3 q4 => ?_)))
  exact Po.back (q4 g2 R s2 vs q2 q3) (h1.trans q1)
theorem ev_callT {x : Str} {np pos : Pos} {e : Expr} {rest : List Expr} {T : String} (hv : btab.lookup x = some (.type T))
    (h : Evs c X S (spliced (backTo pos (starEach (e :: rest) X.env))) (fun as S2 => Cl c X S2 (.type T) as Q)) (hk : X.env.kindOf x = some .globalImplicit := by rfl) (hd : (x == ("__debug__" : Str)) = false := by rfl)
    (he : starEach (e :: rest) X.env = (false, eval e X.env) :: starEach rest X.env := by rfl) (hplain : (backTo pos (starEach rest X.env)).any (·.1) = false := by rfl) :
    Ev c X S (eval (.Call (.Name x np) (e :: rest) [] pos) X.env) Q := fun g R s hR => by
  show wpAny _ _ (do callWith pos (← eval (.Name x np) X.env) [] (backTo pos (starEach (e :: rest) X.env)) (backToKw pos (keywordEach [] X.env))) _ _ s
  refine wpAny_bind (Po.go (ev_b (c := c) (X := X) (S := S) (Q := fun a S1 => a = .raw (.type T) ∧ S1 = S) (pos := np) hv ⟨rfl, rfl⟩ hk hd g R s hR) (fun v s1 g1 a S1 h1 h2 h3 hz3 => ?_))
  obtain ⟨h4, h5⟩ := hz3
  subst h4 h5
  have e1 : v = .type T := h3
  subst e1
  have h' := h g1 R s1 h2
  refine PyProof.Rows.callWith_type1 (Po.go h' (fun vs s2 g2 as S2 q1 q2 q3 q4 => ?_)) he hplain
  exact Po.back (q4 g2 R s2 vs q2 q3) (h1.trans q1)

noncomputable def avD : AV → Option D
  | .dat d => some d
  | _ => none
theorem rdL_of {w : World} {g : G} : ∀ {as : List AV} {vs : List Value} {ds : List D}, AVsr w g as vs → as = ds.map .dat → RdL w g ds vs
  | as, vs, [], h, e => by subst e; have : vs = [] := h; subst this; exact .nil
  | as, vs, d :: ds, h, e => by
    subst e
    obtain ⟨v, vs', rfl, h1, h2⟩ := h
    exact ⟨v, vs', rfl, h1, rdL_of h2 rfl⟩
theorem ev_tuple {elts : List Expr} {k : Nat} {pos : Pos} (h : Evs c X S (spliced (backTo pos (starEach elts env))) (fun as S1 => ∃ ds, as = ds.map .dat ∧ ds.length ≤ 100 ∧ Q (.dat (.tup ds)) S1)) : Ev c X S (eval (.Tuple elts k pos) env) Q := fun g R s hR =>
  wpAny_Tuple (Po.go (h g R s hR) (fun vs s1 g1 as S1 h1 h2 h3 hz4 => by
    obtain ⟨ds, e, hl, hq⟩ := hz4
    have hr := rdL_of h3 e
    have hlen := hr.length
    have hp := h2.pushF (o := seqO "tuple" vs 0) (t := s1.toks) rfl
    exact ⟨by rw [sizeLine_eq]; omega, _, .dat (.tup ds), S1, h1.trans hp.2, hp.1, ⟨_, vs, 0, rfl, G.put_self _ _ _, hr.mono hp.2⟩, hq⟩))
theorem ev_list {elts : List Expr} {pos : Pos} (h : Evs c X S (spliced (backTo pos (starEach elts env))) (fun as S1 => ∃ ds, as = ds.map .dat ∧ ds.length ≤ 100 ∧ Q (.dat (.lst ds)) S1)) : Ev c X S (eval (.List elts pos) env) Q := fun g R s hR =>
  wpAny_List (Po.go (h g R s hR) (fun vs s1 g1 as S1 h1 h2 h3 hz5 => by
    obtain ⟨ds, e, hl, hq⟩ := hz5
    have hr := rdL_of h3 e
    have hlen := hr.length
    have hp := h2.pushF (o := seqO "list" vs 0) (t := s1.toks) rfl
    exact ⟨by rw [sizeLine_eq]; omega, _, .dat (.lst ds), S1, h1.trans hp.2, hp.1, ⟨_, vs, 0, rfl, G.put_self _ _ _, hr.mono hp.2⟩, hq⟩))
end
section
variable {c : Cx} {X : Fm} {S : AS} {Q : AV → AS → Prop} {R : Ld} {g : G} {s : Shared}
theorem lstAt (h : Rel c X R g s S) {ds : List D} {v : Value} (hv : Rd c.w g (.lst ds) v) : ∃ a vs n, v = .ref a ∧ s.heap.get? a = some (seqO "list" vs n) ∧ s.heap.IsList a vs.toArray ∧ RdL c.w g ds vs := by
  obtain ⟨a, vs, n, e, h1, h2⟩ := hv
  exact ⟨a, vs, n, e, h.fz h1, ⟨_, h.fz h1, rfl, n, rfl⟩, h2⟩
theorem tupAt (h : Rel c X R g s S) {ds : List D} {v : Value} (hv : Rd c.w g (.tup ds) v) : ∃ a vs n, v = .ref a ∧ s.heap.get? a = some (seqO "tuple" vs n) ∧ RdL c.w g ds vs := by
  obtain ⟨a, vs, n, e, h1, h2⟩ := hv
  exact ⟨a, vs, n, e, h.fz h1, h2⟩

theorem op_subB {i j : Bool} (h : Q (.int (b2i i - b2i j)) S) : Op2 c X S (binaryOp .Sub) (.bool i) (.bool j) Q := fun g R s v u hR hv hu => by
  have e1 : v = .bool i := hv
  have e2 : u = .bool j := hu
  subst e1 e2
  exact sub_bool ⟨g, .int (b2i i - b2i j), S, .rfl, hR.toks, ⟨_, rfl⟩, h⟩
theorem op_iadd {i j : Int} (h : Q (.int (i + j)) S) : Op2 c X S (inplaceOp .Add) (.int i) (.int j) Q := fun g R s v u hR hv hu => by
  obtain ⟨t, rfl⟩ := hv; obtain ⟨t', rfl⟩ := hu
  exact P.iadd_int ⟨g, .int (i + j), S, .rfl, hR.toks, ⟨_, rfl⟩, h⟩
theorem op_neI {i j : Int} (h : Q (.bool (i != j)) S) : Op2 c X S (compareOp .NotEq) (.int i) (.int j) Q := fun g R s v u hR hv hu => by
  obtain ⟨t, rfl⟩ := hv; obtain ⟨t', rfl⟩ := hu
  exact P.ne_int ⟨g, .bool (i != j), S, .rfl, hR, rfl, h⟩
theorem op_fdiv {i j : Int} (hj : 0 < j) (hj' : j < 1000000) (h : Q (.int (i / j)) S) : Op2 c X S (binaryOp .FloorDiv) (.int i) (.int j) Q := fun g R s v u hR hv hu => by
  obtain ⟨t, rfl⟩ := hv; obtain ⟨t', rfl⟩ := hu
  refine floordiv_int (by omega) ⟨g, .int (i / j), S, .rfl, hR.toks, ⟨s.toks, ?_⟩, h⟩ (.inl (PyProof.noPylong_small (by omega)))
  rw [Int.fdiv_eq_ediv_of_nonneg _ (by omega)]
theorem op_mod {i j : Int} (hj : 0 < j) (h : Q (.int (i % j)) S) : Op2 c X S (binaryOp .Mod) (.int i) (.int j) Q := fun g R s v u hR hv hu => by
  obtain ⟨t, rfl⟩ := hv; obtain ⟨t', rfl⟩ := hu
  refine mod_int' (by omega) ⟨g, .int (i % j), S, .rfl, hR.toks, ⟨s.toks, ?_⟩, h⟩
  rw [Int.fmod_eq_emod_of_nonneg _ (by omega)]
theorem op_mul {i j : Int} (hi : IntMulOk i j) (h : Q (.int (i * j)) S) : Op2 c X S (binaryOp .Mult) (.int i) (.int j) Q := fun g R s v u hR hv hu => by
  obtain ⟨t, rfl⟩ := hv; obtain ⟨t', rfl⟩ := hu
  exact P.mul_int ⟨g, .int (i * j), S, .rfl, hR.toks, ⟨_, rfl⟩, h⟩ hi
theorem op_addL {xs ys : List D} (hl : xs.length + ys.length ≤ 100000) (h : Q (.dat (.lst (xs ++ ys))) S) : Op2 c X S (binaryOp .Add) (.dat (.lst xs)) (.dat (.lst ys)) Q := fun g R s v u hR hv hu => by
  obtain ⟨a, vs, n, rfl, h1, _, h2⟩ := lstAt hR hv
  obtain ⟨b, us, n', rfl, k1, _, k2⟩ := lstAt hR hu
  have hp := hR.pushF (o := seqO "list" (vs ++ us) 0) (t := s.toks) rfl
  have e1 := h2.length
  have e2 := k2.length
  refine concat_meets ⟨_, h1, rfl⟩ ⟨_, k1, rfl⟩ noFill_list_add seq_list_add PySem.F.slot_list_add PySem.F.entry_list_add (PySem.F.args_list_add_2 _ _) (list_addW a b vs.toArray us.toArray n n' none none #[] #[] (by rw [sizeLine_eq]; simp; omega)) ⟨h1, k1, ?_⟩
  have e : vs.toArray ++ us.toArray = (vs ++ us).toArray := by simp
  rw [e]
  exact ⟨_, .dat (.lst (xs ++ ys)), S, hp.2, hp.1, ⟨_, _, 0, rfl, G.put_self _ _ _, (h2.mono hp.2).append (k2.mono hp.2)⟩, h⟩

noncomputable def Sb (c : Cx) (X : Fm) (S : AS) (value slice : Expr) (a b : AV) (Q : AV → AS → Prop) : Prop := Op2 c X S (subscriptTail value slice) a b Q
theorem ev_sub {value slice : Expr} {pos : Pos} {env : Env} (h : Ev c X S (eval value env) (fun a S1 => Ev c X S1 (eval slice env) (fun b S2 => Sb c X S2 value slice a b Q))) : Ev c X S (eval (.Subscript value slice pos) env) Q := fun g R s hR =>
  Subscript_ (Po.go (h g R s hR) (fun v s1 g1 a S1 h1 h2 h3 h4 => Po.go (h4 g1 R s1 h2) (fun u s2 g2 b S2 q1 q2 q3 q4 =>
    Po.back (q4 g2 R s2 v u q2 (h3.mono q1) q3) (h1.trans q1))))
theorem sb_list {value slice : Expr} {ds : List D} {i : Int} {d : D} (h0 : 0 ≤ i) (hi : i < 2 ^ 63) (hx : ds[i.toNat]? = some d) (h : Q (.dat d) S)
    (hs : ∀ o j : Value, subscripted slice false o j = operate [o, j] (getItem o j) := by intro _ _; with_unfolding_all rfl) : Sb c X S value slice (.dat (.lst ds)) (.int i) Q := fun g R s v u hR hv hu => by
  obtain ⟨a, vs, n, rfl, h1, h1', h2⟩ := lstAt hR hv
  obtain ⟨t, rfl⟩ := hu
  obtain ⟨x, hx', hr⟩ := h2.at hx
  exact tail_any h1'.typeIs slot_list_getitem.lookup (wpAny_getItem_list h1' h0 hi (by simpa using hx') ⟨g, .dat d, S, .rfl, hR, hr, h⟩) (hs _ _)
theorem sb_gens {value slice : Expr} {l : List Nat} {i : Int} {k : Nat} (h0 : 0 ≤ i) (hi : i < 2 ^ 63) (hx : l[i.toNat]? = some k) (h : Q (.gen k) S)
    (hs : ∀ o j : Value, subscripted slice false o j = operate [o, j] (getItem o j) := by intro _ _; with_unfolding_all rfl) : Sb c X S value slice (.gens l) (.int i) Q := fun g R s v u hR hv hu => by
  obtain ⟨a, vs, n, rfl, h1, h2⟩ := hv
  obtain ⟨t, rfl⟩ := hu
  have hl : s.heap.IsList a vs.toArray := ⟨_, hR.fz h1, rfl, n, rfl⟩
  have key : ∀ (l : List Nat) (vs : List Value), RdGens g l vs → ∀ m : Nat, l[m]? = some k → ∃ v, vs[m]? = some v ∧ RdGen g k v := by
    intro l
    induction l with
    | nil => intro vs _ m e; simp at e
    | cons j r ih =>
      intro vs hr m e
      obtain ⟨v, vs', rfl, q1, q2⟩ := hr
      cases m with
      | zero => simp at e; subst e; exact ⟨v, rfl, q1⟩
      | succ m => simpa using ih vs' q2 m (by simpa using e)
  obtain ⟨x, hx', hr⟩ := key l vs h2 _ hx
  exact tail_any hl.typeIs slot_list_getitem.lookup (wpAny_getItem_list hl h0 hi (by simpa using hx') ⟨g, .gen k, S, .rfl, hR, hr, h⟩) (hs _ _)
theorem sb_tuple {value slice : Expr} {ds : List D} {i : Int} {d : D} (h0 : 0 ≤ i) (hi : i < 2 ^ 63) (hx : ds[i.toNat]? = some d) (h : Q (.dat d) S)
    (hs : ∀ o j : Value, subscripted slice false o j = operate [o, j] (getItem o j) := by intro _ _; with_unfolding_all rfl) : Sb c X S value slice (.dat (.tup ds)) (.int i) Q := fun g R s v u hR hv hu => by
  obtain ⟨a, vs, n, rfl, h1, h2⟩ := tupAt hR hv
  obtain ⟨t, rfl⟩ := hu
  obtain ⟨x, hx', hr⟩ := h2.at hx
  have hlt : i.toNat < vs.length := (List.getElem?_eq_some_iff.mp hx').1
  refine tail_any ⟨_, h1, rfl⟩ slot_tuple_getitem.lookup (P.getItem_tuple (items := vs.toArray) (n := n) h1 (by omega) hi (k := i.toNat) ?_ (by simpa using hx') ⟨g, .dat d, S, .rfl, hR, hr, h⟩) (hs _ _)
  unfold seqIndex?
  simp only [List.size_toArray]
  have : ¬ i < 0 := by omega
  simp only [this, if_false]
  rw [if_pos]
  simp only [Bool.and_eq_true, decide_eq_true_eq]
  omega

noncomputable def PR (g : G) (o : Option Int) (v : Value) : Prop := IsPart v o
theorem evp_none {env : Env} {Q : Option Int → AS → Prop} (h : Q none S) : Wp c X PR S (evalPart none env) Q := fun g R s hR => wpAny_pure ⟨g, none, S, .rfl, hR, IsPart.none, h⟩
theorem evp_some {env : Env} {e : Expr} {Q : Option Int → AS → Prop} (h : Ev c X S (eval e env) (fun a S1 => ∃ i, a = .int i ∧ Q (some i) S1)) : Wp c X PR S (evalPart (some e) env) Q := fun g R s hR =>
  Po.go (h g R s hR) (fun v s1 g1 a S1 h1 h2 h3 hz1 => by
    obtain ⟨i, e, h4⟩ := hz1
    subst e
    obtain ⟨t, rfl⟩ := h3
    exact ⟨g1, some i, S1, h1, h2, IsPart.int i t, h4⟩)
noncomputable def pickL {α : Type} (l : List α) (lo hi st : Option Int) : List α := (sliceRange (sliceBounds lo hi st l.length).1 (sliceBounds lo hi st l.length).2.1 (sliceBounds lo hi st l.length).2.2).filterMap (l[·]?)
theorem RdL.pick {w : World} {ds : List D} {vs : List Value} (h : RdL w g ds vs) (is : List Nat) : RdL w g (is.filterMap (ds[·]?)) (is.filterMap (vs[·]?)) := by
  induction is with
  | nil => exact .nil
  | cons i r ih =>
    rw [List.filterMap_cons, List.filterMap_cons]
    cases e : ds[i]? with
    | none =>
      have hl := h.length
      have : vs[i]? = none := by
        rw [List.getElem?_eq_none_iff] at e ⊢
        omega
      rw [this]; exact ih
    | some d =>
      obtain ⟨v, h1, h2⟩ := h.at e
      rw [h1]
      exact ⟨v, _, rfl, h2, ih⟩
theorem ev_slice {value : Expr} {lo hi st : Option Expr} {p pos : Pos} {env : Env}
    (h : Ev c X S (eval value env) (fun a S1 => Wp c X PR S1 (evalPart lo env) (fun l S2 => Wp c X PR S2 (evalPart hi env) (fun u S3 => Wp c X PR S3 (evalPart st env) (fun k S4 => ∃ ds, a = .dat (.lst ds) ∧ ds.length ≤ 100000 ∧ k ≠ some 0 ∧ Q (.dat (.lst (pickL ds l u k))) S4))))) :
    Ev c X S (eval (.Subscript value (.Slice lo hi st p) pos) env) Q := fun g R s hR => by
  refine Subscript_ (Po.go (h g R s hR) (fun v s1 g1 a S1 h1 h2 h3 h4 => wpAny_Slice ?_))
  refine Po.go (h4 g1 R s1 h2) (fun l s2 g2 l' S2 q1 q2 q3 q4 => ?_)
  refine Po.go (q4 g2 R s2 q2) (fun u s3 g3 u' S3 z1 z2 z3 z4 => ?_)
  refine Po.go (z4 g3 R s3 z2) (fun k s4 g4 k' S4 y1 y2 y3 hz2 => ?_)
  obtain ⟨ds, e, hlen, hk, hq⟩ := hz2
  subst e
  have hv := ((h3.mono q1).mono z1).mono y1
  have hp := y2.pushF (o := { cls := .type "slice", data := .fields #[l, u, k] }) (t := s4.toks) rfl
  obtain ⟨b, vs, n, rfl, hb, hb', hr⟩ := lstAt hp.1 (AVr.mono hp.2 hv)
  have hl := hr.length
  have hp2 := hp.1.pushF (o := seqO "list" (slicePick vs.toArray l' u' k').toList 0) (t := s4.toks) rfl
  have fin : wpAny (M c) X.A (getItem (.ref b) (.ref s4.heap.objs.size)) (Po c X R (AVr c.w) Q g) No { s4 with heap := s4.heap.push { cls := .type "slice", data := .fields #[l, u, k] } } := by
    refine wpAny_getItem_list_slice hb' (Heap.IsSliceOf.new ..) q3 z3 y3 hk ⟨_, .dat (.lst (pickL ds l' u' k')), S4, ((((h1.trans q1).trans z1).trans y1).trans hp.2).trans hp2.2, ?_, ⟨_, _, 0, rfl, G.put_self _ _ _, ?_⟩, hq⟩ (by rw [sizeLine_eq]; simp; omega)
    · exact hp2.1
    · have := (hr.mono hp2.2).pick (sliceRange (sliceBounds l' u' k' ds.length).1 (sliceBounds l' u' k' ds.length).2.1 (sliceBounds l' u' k' ds.length).2.2)
      have e : (slicePick vs.toArray l' u' k').toList = (sliceRange (sliceBounds l' u' k' ds.length).1 (sliceBounds l' u' k' ds.length).2.1 (sliceBounds l' u' k' ds.length).2.2).filterMap (vs[·]?) := by
        unfold slicePick
        simp [hl]
      rw [← e] at this; exact this
  cases st with
  | none => exact tail_any hb'.typeIs slot_list_getitem.lookup fin (ops := [.ref s4.heap.objs.size, .ref b]) rfl
  | some e => exact tail_any hb'.typeIs slot_list_getitem.lookup fin (ops := [.ref b, .ref s4.heap.objs.size]) rfl
end
theorem Wd.drop {g : G} {h h' : Heap} {pre post : Ld} {a : Addr} {P : Obj → Prop} (w : Wd g h (pre ++ (a, P) :: post)) (hk : ∀ b o, b ≠ a → h.get? b = some o → h'.get? b = some o) : Wd g h' (pre ++ post) := by
  have hnd := w.nd
  rw [List.map_append, List.map_cons, List.nodup_append] at hnd
  obtain ⟨q1, q2, q3⟩ := hnd
  refine ⟨fun b o e => hk b o ?_ (w.fz b o e), ?_, fun p hp => ?_⟩
  · intro q; subst q
    have := (w.ok (b, P) (by simp)).1
    simp only at this
    rw [this] at e; cases e
  · rw [List.map_append, List.nodup_append]
    exact ⟨q1, (List.nodup_cons.mp q2).2, fun x hx y hy => q3 x hx y (.tail _ hy)⟩
  · have hm : p ∈ pre ++ (a, P) :: post := by
      rcases List.mem_append.mp hp with h | h
      · exact List.mem_append_left _ h
      · exact List.mem_append_right _ (.tail _ h)
    have hne : p.1 ≠ a := by
      intro e
      rcases List.mem_append.mp hp with h | h
      · exact q3 p.1 (List.mem_map.mpr ⟨p, h, rfl⟩) a (.head _) e
      · exact (List.nodup_cons.mp q2).1 (e ▸ List.mem_map.mpr ⟨p, h, rfl⟩)
    obtain ⟨h1, o, h2, h3⟩ := w.ok p hm
    exact ⟨h1, o, hk _ _ hne h2, h3⟩
section
variable {c : Cx} {X : Fm} {R : Ld} {g g' : G} {s : Shared} {S : AS} {a : Addr} {P P' : Obj → Prop} {o : Obj} {h' : Heap} {t : Nat}
noncomputable def ledPre (L : Addr) (m : Str → Option Value) (cs : List (Addr × Option Value)) (mo : List (Addr × Obj)) (gs : List GA) (tb : Obj) : Ld :=
  (L, NsP m) :: (cs.map cellE ++ (mo.map exE ++ (gs.flatMap GA.ents ++ [(114, fun o => o = tb)])))
theorem ledger_eq (L : Addr) (m : Str → Option Value) (cs : List (Addr × Option Value)) (mo : List (Addr × Obj)) (gs : List GA) (tb : Obj) (R : Ld) : ledger L m cs mo gs tb R = ledPre L m cs mo gs tb ++ R := by
  unfold ledger ledPre; simp
/-- neither a frame nor a cell -/
noncomputable def Pln (P : Obj → Prop) : Prop := (∀ m, P ≠ NsP m) ∧ ∀ v, P ≠ cellP v
theorem Pln.of {P : Obj → Prop} {o : Obj} (h : P o) (hd : (∀ es ep, o.data ≠ .dict es ep) ∧ ∀ v, o.data ≠ .cell v) : Pln P :=
  ⟨fun m e => by rw [e] at h; obtain ⟨es, ep, h, _⟩ := h; exact hd.1 _ _ h, fun v e => by rw [e] at h; exact hd.2 _ h⟩
theorem LocOk.tail {w : World} {env : Env} {m : Str → Option Value} {cs : List (Addr × Option Value)} {R R' : Ld} {loc : List (Str × AV)} (h : LocOk w g env m cs R loc) (hs : ∀ b v, (b, cellP v) ∈ R → (b, cellP v) ∈ R') : LocOk w g env m cs R' loc :=
  fun x b e => let ⟨v, h1, h2⟩ := h x b e; ⟨v, h1, h2.imp id fun ⟨z1, d, z2, z3⟩ => ⟨z1, d, z2, z3.imp id (hs _ _)⟩⟩
theorem Rel.tPush (h : Rel c X R g s S) (hf : o.isFreed = false) (hP : P o) : Rel c X ((s.heap.objs.size, P) :: R) g { s with heap := s.heap.push o, toks := t } S := by
  obtain ⟨m, cs, mo, tb, q⟩ := h
  refine ⟨m, cs, mo, tb, ⟨?_, q.loc.tail fun _ _ h => .tail _ h, q.cel, q.mut_, q.gen, q.tbo, q.os, q.g0, q.fr.mono fun p hp => ?_⟩⟩
  · have w := q.wd.push hf hP
    rw [ledger_eq] at w ⊢
    exact w.perm List.perm_middle.symm
  · rcases List.mem_cons.mp hp with e | e
    · exact e ▸ .head _
    · exact .tail _ (.tail _ e)
theorem Rel.tUpd (h : Rel c X ((a, P) :: R) g s S) (hk : ∀ b o, b ≠ a → s.heap.get? b = some o → h'.get? b = some o) (ho : h'.get? a = some o) (hP : P' o) (hns : Pln P) : Rel c X ((a, P') :: R) g { s with heap := h', toks := t } S := by
  obtain ⟨m, cs, mo, tb, q⟩ := h
  refine ⟨m, cs, mo, tb, ⟨?_, q.loc.tail fun b v h => (List.mem_cons.mp h).elim (fun e => absurd (Prod.mk.inj e).2.symm (hns.2 v)) fun h => .tail _ h, q.cel, q.mut_, q.gen, q.tbo, q.os, q.g0, fun e he => ?_⟩⟩
  · have w := q.wd
    rw [ledger_eq] at w ⊢
    exact w.upd hk ho hP
  · obtain ⟨f, m', h1, h2, h3⟩ := q.fr e he
    refine ⟨f, m', h1, h2, ?_⟩
    rcases List.mem_cons.mp h3 with z | z
    · exact z ▸ .head _
    · rcases List.mem_cons.mp z with z | z
      · exact absurd (Prod.mk.inj z).2.symm (hns.1 m')
      · exact .tail _ (.tail _ z)
theorem Rel.tDrop (h : Rel c X ((a, P) :: R) g s S) (hk : ∀ b o, b ≠ a → s.heap.get? b = some o → h'.get? b = some o) (hns : Pln P) : Rel c X R g { s with heap := h', toks := t } S := by
  obtain ⟨m, cs, mo, tb, q⟩ := h
  refine ⟨m, cs, mo, tb, ⟨?_, q.loc.tail fun b v h => (List.mem_cons.mp h).elim (fun e => absurd (Prod.mk.inj e).2.symm (hns.2 v)) fun h => h, q.cel, q.mut_, q.gen, q.tbo, q.os, q.g0, fun e he => ?_⟩⟩
  · have w := q.wd
    rw [ledger_eq] at w ⊢
    exact w.drop hk
  · obtain ⟨f, m', h1, h2, h3⟩ := q.fr e he
    refine ⟨f, m', h1, h2, ?_⟩
    rcases List.mem_cons.mp h3 with z | z
    · exact z ▸ .head _
    · rcases List.mem_cons.mp z with z | z
      · exact absurd (Prod.mk.inj z).2.symm (hns.1 m')
      · exact .tail _ z
theorem Rel.tGet (h : Rel c X ((a, P) :: R) g s S) : ∃ o, s.heap.get? a = some o ∧ P o := by
  obtain ⟨m, cs, mo, tb, q⟩ := h
  refine q.wd.get ?_
  rw [ledger_eq]
  exact List.mem_append_right _ (.head _)
end

structure ItOk (c : Cx) (target : Expr) (I : Addr) (ip : Nat → Obj → Prop) (as : List AV) (g0 : G) (hold : Ld → Prop) : Prop where
  pln : ∀ i, Pln (ip i)
  item : ∀ X i a g R s S, as[i]? = some a → G.le g0 g → hold R → Rel c X ((I, ip i) :: R) g s S →
    wpAny (M c) X.A (pyNext (.ref I)) (fun r s' => ∃ v, r = some v ∧ wpAny (M c) X.A (letOwnedTupleGo target (.ref I) v) (fun _ s'' => ∃ g', G.le g g' ∧ Rel c X ((I, ip (i + 1)) :: R) g' s'' S ∧ AVr c.w g' a v) No s') No s
  fin : ∀ X g R s S, G.le g0 g → hold R → Rel c X ((I, ip as.length) :: R) g s S → wpAny (M c) X.A (pyNext (.ref I)) (fun r s' => r = none ∧ Rel c X R g s' S) No s
noncomputable def ItSelf (c : Cx) (I : Addr) (ip : Nat → Obj → Prop) (g0 : G) (hold : Ld → Prop) : Prop := ∀ X i g R s S (Q : Value → Shared → Prop), G.le g0 g → hold R → Rel c X ((I, ip i) :: R) g s S → Q (.ref I) s → wpAny (M c) X.A (pyIter (.ref I)) Q No s

/-- a source that stays as it is -/
noncomputable def Src (c : Cx) (target : Expr) (a : AV) (as : List AV) : Prop := ∀ X R g s S v, Rel c X R g s S → AVr c.w g a v →
  wpAny (M c) X.A (pyIter v) (fun it s' => ∃ I ip g', it = .ref I ∧ G.le g g' ∧ Rel c X ((I, ip 0) :: R) g' s' S ∧ ItOk c target I ip as g' (fun _ => True) ∧ ItSelf c I ip g' (fun _ => True)) No s
/-- a source for a for alone -/
noncomputable def Src0 (c : Cx) (target : Expr) (a : AV) (as : List AV) : Prop := ∀ X R g s S v, Rel c X R g s S → AVr c.w g a v →
  wpAny (M c) X.A (pyIter v) (fun it s' => ∃ I ip g', it = .ref I ∧ G.le g g' ∧ Rel c X ((I, ip 0) :: R) g' s' S ∧ ItOk c target I ip as g' (fun _ => True)) No s
theorem Src.to0 {c : Cx} {target : Expr} {a : AV} {as : List AV} (h : Src c target a as) : Src0 c target a as := fun X R g s S v hR hv =>
  wpAny_mono (h X R g s S v hR hv) (fun _ _ ⟨I, ip, g', h1, h2, h3, h4, _⟩ => ⟨I, ip, g', h1, h2, h3, h4⟩) fun _ _ x => x

noncomputable abbrev listIt := itP
theorem listIt_ns {a : Addr} {i : Nat} : Pln (listIt a i) := Pln.of (P := listIt a i) (o := { cls := .type "list_iterator", data := .fields #[.ref a, .int i 0] }) ⟨rfl, rfl⟩ ⟨(by intro _ _ h; cases h), (by intro _ h; cases h)⟩
/-- how a target is met -/
inductive TgOk : Expr → List D → Prop
  | name {x : Str} {p : Pos} {ds : List D} : TgOk (.Name x p) ds
  | tup {es : List Expr} {k : Nat} {p : Pos} {ds : List D} : (∀ d ∈ ds, ∃ xs, d = .tup xs) → TgOk (.Tuple es k p) ds
theorem src_list {c : Cx} {target : Expr} {ds : List D} (ht : TgOk target ds) : Src c target (.dat (.lst ds)) (ds.map .dat) := by
  intro X R g s S v hR hv
  obtain ⟨a, vs, n, rfl, ha, hl, hr⟩ := lstAt hR hv
  obtain ⟨_, _, _, e0, hga, hgr⟩ := hv
  cases e0
  refine wpAny_pyIter_list hl ⟨_, listIt a, g, rfl, .rfl, hR.tPush (t := s.toks) rfl ⟨rfl, rfl⟩, ⟨fun _ => listIt_ns, ?_, ?_⟩, ?_⟩
  · intro X' i b g' R' s' S' hb hg _ hR'
    rw [List.getElem?_map] at hb
    obtain ⟨d, hd, rfl⟩ := Option.map_eq_some_iff.mp hb
    obtain ⟨x, hx, hrx⟩ := hgr.at hd
    obtain ⟨o, ho, hc, hda⟩ := hR'.tGet
    refine wpAny_pyNext_list_item (items := _) ⟨o, ho, hc, hda⟩ ⟨_, hR'.fz (hg _ _ hga), rfl, _, rfl⟩ (by simpa using hx) fun h' hit hs => ⟨x, rfl, ?_⟩
    obtain ⟨o', ho', hc', hda'⟩ := id hit
    have hR2 : Rel c X' ((s.heap.objs.size, listIt a (i + 1)) :: R') g' { s' with heap := h' } S' := hR'.tUpd (P' := listIt a (i + 1)) (t := s'.toks) (fun b o hb e => hs.extBut b o hb e) ho' ⟨hc', hda'⟩ listIt_ns
    have fin : ∃ g'', G.le g' g'' ∧ Rel c X' ((s.heap.objs.size, listIt a (i + 1)) :: R') g'' { s' with heap := h' } S' ∧ AVr c.w g'' (.dat d) x := ⟨g', .rfl, hR2, Rd.mono hg _ hrx⟩
    cases ht with
    | name => exact wpAny_of_eq (a := ()) rfl fin
    | tup hall =>
      obtain ⟨xs, rfl⟩ := hall d (List.mem_of_getElem? hd)
      obtain ⟨T, _, _, rfl, _⟩ := hrx
      exact wpAny_letOwnedTupleGo_listiter hit fin
  · intro X' g' R' s' S' hg _ hR'
    obtain ⟨o, ho, hc, hda⟩ := hR'.tGet
    have e1 := hgr.length
    refine wpAny_pyNext_list_end X'.ok.hd ⟨o, ho, hc, hda⟩ ⟨_, hR'.fz (hg _ _ hga), rfl, _, rfl⟩ ?_ fun h' he => ⟨rfl, hR'.tDrop (t := s'.toks) he listIt_ns⟩
    simp [e1]
  · intro X' i g' R' s' S' Q hg _ hR' hq
    obtain ⟨o, ho, hc, hda⟩ := hR'.tGet
    exact wpAny_pyIter_listiter ⟨o, ho, hc, hda⟩ hq
/-- the tail's first turned, a new object frozen -/
theorem Rel.tUpdF {c : Cx} {X : Fm} {R : Ld} {g : G} {s : Shared} {S : AS} {a : Addr} {P P' : Obj → Prop} {o on : Obj} {h' : Heap} {t : Nat} (h : Rel c X ((a, P) :: R) g s S) (hk : ∀ b o, b ≠ a → s.heap.get? b = some o → h'.get? b = some o) (ho : h'.get? a = some o) (hP : P' o) (hns : Pln P)
    (hn : h'.get? s.heap.objs.size = some on) : Rel c X ((a, P') :: R) (g.put s.heap.objs.size on) { s with heap := h', toks := t } S ∧ G.le g (g.put s.heap.objs.size on) := by
  have hfree : g s.heap.objs.size = none := by
    cases e : g s.heap.objs.size with
    | none => rfl
    | some o => exact absurd (Heap.lt_size (h.fz e)) (Nat.lt_irrefl _)
  refine ⟨?_, G.le_put hfree⟩
  obtain ⟨m, cs, mo, tb, q⟩ := h
  have hlow : ∀ p ∈ ledger X.env.locals m cs mo S.gens tb ((a, P) :: R), p.1 ≠ s.heap.objs.size := fun p hp e => by
    obtain ⟨_, ho, _⟩ := (q.wd.ok p hp).2
    exact absurd (Heap.lt_size ho) (e ▸ Nat.lt_irrefl _)
  have w1 : Wd g h' (ledger X.env.locals m cs mo S.gens tb ((a, P') :: R)) := by
    have w := q.wd
    rw [ledger_eq] at w ⊢
    exact w.upd hk ho hP
  have hfr : FrOk X.fl ((X.env.locals, NsP m) :: (a, P') :: R) := fun e he => by
    obtain ⟨f, m', h1, h2, h3⟩ := q.fr e he
    refine ⟨f, m', h1, h2, ?_⟩
    rcases List.mem_cons.mp h3 with z | z
    · exact z ▸ .head _
    · rcases List.mem_cons.mp z with z | z
      · exact absurd (Prod.mk.inj z).2.symm (hns.1 m')
      · exact .tail _ (.tail _ z)
  refine ⟨m, cs, mo, tb, ⟨⟨fun b o e => ?_, w1.nd, fun p hp => ?_⟩, (q.loc.mono (G.le_put hfree)).tail fun b v h => (List.mem_cons.mp h).elim (fun e => absurd (Prod.mk.inj e).2.symm (hns.2 v)) fun h => .tail _ h, q.cel, q.mut_.mono (G.le_put hfree), q.gen.mono (G.le_put hfree), q.tbo.mono (G.le_put hfree), q.os, q.g0.trans (G.le_put hfree), hfr⟩⟩
  · unfold G.put at e
    split at e
    · rename_i z; subst z; cases e; exact hn
    · exact w1.fz b o e
  · obtain ⟨z1, o3, z2, z3⟩ := w1.ok p hp
    refine ⟨?_, o3, z2, z3⟩
    unfold G.put
    rw [if_neg]
    · exact z1
    · have hfst : (ledger X.env.locals m cs mo S.gens tb ((a, P') :: R)).map Prod.fst = (ledger X.env.locals m cs mo S.gens tb ((a, P) :: R)).map Prod.fst := by
        rw [ledger_eq, ledger_eq]; simp
      have hm : p.1 ∈ (ledger X.env.locals m cs mo S.gens tb ((a, P) :: R)).map Prod.fst := hfst ▸ List.mem_map.mpr ⟨p, hp, rfl⟩
      obtain ⟨p', hp', e'⟩ := List.mem_map.mp hm
      exact fun e => hlow p' hp' (e'.trans e)
noncomputable def rngIt (n i : Nat) (o : Obj) : Prop := o = { cls := .type "range_iterator", data := .fields #[rawInt i, rawInt ((n : Int) - i), rawInt 1] }
theorem src_range {c : Cx} {x : Str} {p : Pos} {n : Nat} (hn : n < 1000000) : Src c (.Name x p) (.rng n) ((List.range n).map fun i => .int (i : Nat)) := by
  intro X R g s S v hR hv
  obtain ⟨a, t, u, y, rfl, ha⟩ := hv
  have hns : ∀ i, Pln (rngIt n i) := fun i => Pln.of (P := rngIt n i) rfl ⟨(by intro _ _ h; cases h), (by intro _ h; cases h)⟩
  refine wpAny_pyIter_range (hR.fz ha) (small_one (by omega) (by omega) (by omega) (by omega)) ⟨_, rngIt n, g, rfl, .rfl, hR.tPush (t := s.toks) rfl ?_, ⟨hns, ?_, ?_⟩, ?_⟩
  · unfold rngIt
    have : Builtin.Range.rangeSize 0 (n : Int) 1 = (n : Int) - (0 : Nat) := by
      rw [rangeSize_one]; split <;> omega
    rw [this]; rfl
  · intro X' i b g' R' s' S' hb hg _ hR'
    rw [List.getElem?_map] at hb
    obtain ⟨k, hk, rfl⟩ := Option.map_eq_some_iff.mp hb
    have hlt : i < n := by simpa using (List.getElem?_eq_some_iff.mp hk).1
    have hki : k = i := by simpa [List.getElem?_range hlt] using hk.symm
    subst hki
    obtain ⟨o, ho, rfl⟩ := hR'.tGet
    refine wpAny_pyNext_range_item ho (by omega) fun h' hit hs => ⟨_, rfl, wpAny_of_eq (a := ()) rfl ⟨g', .rfl, ?_, ⟨_, rfl⟩⟩⟩
    refine hR'.tUpd (P' := rngIt n (k + 1)) (t := s'.toks + 1) (fun b o hb e => hs.extBut b o hb e) hit ?_ (hns k)
    unfold rngIt
    have e1 : ((k : Int) + 1) = ((k + 1 : Nat) : Int) := by omega
    have e2 : ((n : Int) - (k : Int) - 1) = (n : Int) - ((k + 1 : Nat) : Int) := by omega
    rw [e1, e2]
  · intro X' g' R' s' S' hg _ hR'
    obtain ⟨o, ho, rfl⟩ := hR'.tGet
    refine wpAny_pyNext_range_end X'.ok.hd ho (by simp) fun h' he => ⟨rfl, hR'.tDrop (t := s'.toks) he (hns _)⟩
  · intro X' i g' R' s' S' Q hg _ hR' hq
    obtain ⟨o, ho, rfl⟩ := hR'.tGet
    exact wpAny_pyIter_slot ⟨_, ho, rfl⟩ F.slot_range_iterator_iter (wpAny_call_entry F.slot_range_iterator_iter ⟨_, ho, rfl⟩ F.entry_range_iterator_iter (wpAny_pure ⟨_, rfl, "range_iterator", _, ⟨_, ho, rfl⟩, F.slot_range_iterator_next.lookup, hq⟩) (F.args_range_iterator_iter_1 _))
theorem cl_range {c : Cx} {X : Fm} {S : AS} {Q : AV → AS → Prop} {i : Int} (h : Q (.rng i.toNat) S) (h0 : 0 ≤ i) : Cl c X S (.type "range") [.int i] Q := fun g R s vs hR hv => by
  obtain ⟨v, vs', rfl, ⟨t, rfl⟩, hn⟩ := hv
  have e : vs' = [] := hn
  subst e
  refine call_range_1 ?_
  have hp := hR.pushF (o := { cls := .type "range", data := .fields #[.int 0 s.toks, .int i t, .int 1 (s.toks + 1)] }) (t := s.toks + 1 + 1) rfl
  refine ⟨_, .rng i.toNat, S, hp.2, hp.1, ⟨_, s.toks, t, s.toks + 1, rfl, ?_⟩, h⟩
  rw [G.put_self, Int.toNat_of_nonneg h0]

theorem RdK.at {w : World} {g : G} : ∀ {kvs : List (Str × D)} {ps : List (Str × Value)}, RdK w g kvs ps → ∀ {i : Nat} {k : Str} {d : D}, kvs[i]? = some (k, d) → ∃ v, ps[i]? = some (k, v) ∧ Rd w g d v
  | [], _, _, i, k, d, e => by simp at e
  | (k0, d0) :: r, _, h, i, k, d, e => by
    rw [RdK] at h
    obtain ⟨v, ps', rfl, h1, h2⟩ := h
    cases i with
    | zero => simp at e; obtain ⟨rfl, rfl⟩ := e; exact ⟨v, rfl, h1⟩
    | succ i => simpa using RdK.at h2 (by simpa using e)
theorem RdK.length {w : World} {g : G} : ∀ {kvs : List (Str × D)} {ps : List (Str × Value)}, RdK w g kvs ps → ps.length = kvs.length
  | [], _, h => by rw [RdK] at h; subst h; rfl
  | (k0, d0) :: r, _, h => by
    rw [RdK] at h
    obtain ⟨v, ps', rfl, _, h2⟩ := h
    simp [RdK.length h2]
theorem dictAt_of {w : World} {h : Heap} {a : Addr} {o : Obj} {ps : List (Str × Value)} (ho : h.get? a = some o) (hd : o.IsDictOf (PySem.strKind P0 w) ps) : ∃ ep, h.DictAt (PySem.strKind P0 w) a ps ep ∧ ∀ h' : Heap, h'.get? a = some o → h'.DictAt (PySem.strKind P0 w) a ps ep := by
  obtain ⟨es, ep, h1, h2, h3, h4, h5⟩ := hd
  exact ⟨ep, ⟨o, es, ho, h1, h2, h3, h4, h5⟩, fun h' e => ⟨o, es, e, h1, h2, h3, h4, h5⟩⟩
noncomputable def itemIt (d n ep : Nat) (i : Nat) (o : Obj) : Prop := ∃ ok ov, o = { cls := .type "dict_itemiterator", data := .fields #[.none, .bool false, .ref d, .int i 0, .int n 0, .int ep 0, ok, ov] }
theorem strKind_key {w : World} {k : Str} {key : Value} (h : (PySem.strKind P0 w).is k key = true) : ∃ t, key = .str k t := by
  cases key <;> simp [PySem.strKind, Value.isStrOf] at h
  exact ⟨_, by rw [h]⟩
theorem src_items {c : Cx} {kvs : List (Str × D)} {es : List Expr} {k1 : Nat} {p : Pos} : Src0 c (.Tuple es k1 p) (.items kvs) (kvs.map fun q => .dat (.tup [.str q.1, q.2])) := by
  intro X R g s S v hR hv
  obtain ⟨a, d, rfl, ha, d', o, ps, e0, _, hd, hdo, hk⟩ := hv
  cases e0
  obtain ⟨ep, hat, hat'⟩ := dictAt_of (hR.fz hd) hdo
  have hlen := hk.length
  have hns : ∀ i, Pln (itemIt d ps.length ep i) := fun i => Pln.of (P := itemIt d ps.length ep i) ⟨.none, .none, rfl⟩ ⟨(by intro _ _ h; cases h), (by intro _ h; cases h)⟩
  refine wpAny_pyIter_items (knd := PySem.strKind P0 c.w) ⟨_, hR.fz ha, rfl, rfl⟩ hat ⟨_, itemIt d ps.length ep, g, rfl, .rfl, hR.tPush (t := s.toks) rfl ⟨.none, .none, rfl⟩, ⟨hns, ?_, ?_⟩⟩
  · intro X' i b g' R' s' S' hb hg _ hR'
    rw [List.getElem?_map] at hb
    obtain ⟨⟨kk, dd⟩, hkd, rfl⟩ := Option.map_eq_some_iff.mp hb
    obtain ⟨x, hx, hrx⟩ := hk.at hkd
    obtain ⟨o', ho', ok, ov, rfl⟩ := hR'.tGet
    refine wpAny_pyNext_items_item (knd := PySem.strKind P0 c.w) (d := d) (ep := ep) (ok := ok) (ov := ov) ho' (hat' _ (hR'.fz (hg _ _ hd))) hx fun key h' hkey heo ht hz hks => ⟨_, rfl, ?_⟩
    refine wpAny_letOwnedTupleGo_items heo fun h'' hei hs => ?_
    obtain ⟨tk, rfl⟩ := strKind_key hkey
    have hI : s.heap.objs.size ≠ s'.heap.objs.size := Nat.ne_of_lt (Heap.lt_size ho')
    have hkeep : ∀ b o, b ≠ s.heap.objs.size → s'.heap.get? b = some o → h''.get? b = some o := fun b o hb e => hs.extBut b o hb (hks b o hb e)
    -- the pair, frozen
    have htup : h''.get? s'.heap.objs.size = some (seqO "tuple" [.str kk tk, x] 0) := (hs.2 _ (Ne.symm hI)).trans ht
    have hR2 := hR'.tUpdF (P' := itemIt d ps.length ep (i + 1)) (t := s'.toks) hkeep hei ⟨_, _, rfl⟩ (hns i) htup
    exact ⟨_, hR2.2, hR2.1, ⟨_, _, 0, rfl, G.put_self _ _ _, ⟨_, _, rfl, ⟨tk, rfl⟩, ⟨x, _, rfl, Rd.mono (hg.trans hR2.2) _ hrx, by rw [RdL]⟩⟩⟩⟩
  · intro X' g' R' s' S' hg _ hR'
    obtain ⟨o', ho', ok, ov, rfl⟩ := hR'.tGet
    exact wpAny_pyNext_items_end (knd := PySem.strKind P0 c.w) (d := d) (ep := ep) (kvs := ps) (ok := ok) (ov := ov) X'.ok.hd ho' (hat' _ (hR'.fz (hg _ _ hd))) (by simp [hlen]) fun h' he => ⟨rfl, hR'.tDrop (t := s'.toks) he (hns _)⟩
noncomputable def valIt (d n ep : Nat) (i : Nat) (o : Obj) : Prop := o.cls = .type "dict_valueiterator" ∧ o.data = .fields #[.ref d, .int i 0, .int n 0, .int ep 0]
theorem valIt_ns {d n ep i : Nat} : Pln (valIt d n ep i) := Pln.of (P := valIt d n ep i) (o := { cls := .type "dict_valueiterator", data := .fields #[.ref d, .int i 0, .int n 0, .int ep 0] }) ⟨rfl, rfl⟩ ⟨(by intro _ _ h; cases h), (by intro _ h; cases h)⟩
theorem src_vals {c : Cx} {kvs : List (Str × D)} {x : Str} {p : Pos} : Src0 c (.Name x p) (.vals kvs) (kvs.map fun q => .dat q.2) := by
  intro X R g s S v hR hv
  obtain ⟨a, d, rfl, ha, d', o, ps, e0, _, hd, hdo, hk⟩ := hv
  cases e0
  obtain ⟨ep, hat, hat'⟩ := dictAt_of (hR.fz hd) hdo
  have hlen := hk.length
  refine wpAny_pyIter_values (knd := PySem.strKind P0 c.w) ⟨_, hR.fz ha, rfl, rfl⟩ hat ⟨_, valIt d ps.length ep, g, rfl, .rfl, hR.tPush (t := s.toks) rfl ⟨rfl, rfl⟩, ⟨fun _ => valIt_ns, ?_, ?_⟩⟩
  · intro X' i b g' R' s' S' hb hg _ hR'
    rw [List.getElem?_map] at hb
    obtain ⟨⟨kk, dd⟩, hkd, rfl⟩ := Option.map_eq_some_iff.mp hb
    obtain ⟨y, hy, hry⟩ := hk.at hkd
    obtain ⟨o', ho', h1, h2⟩ := hR'.tGet
    refine wpAny_pyNext_values_item (knd := PySem.strKind P0 c.w) (d := d) (ep := ep) ⟨o', ho', h1, h2⟩ (hat' _ (hR'.fz (hg _ _ hd))) hy fun h' hit hs => ⟨_, rfl, wpAny_of_eq (a := ()) rfl ?_⟩
    obtain ⟨o2, ho2, k1, k2⟩ := hit
    exact ⟨g', .rfl, hR'.tUpd (P' := valIt d ps.length ep (i + 1)) (t := s'.toks) (fun b o hb e => hs.extBut b o hb e) ho2 ⟨k1, k2⟩ valIt_ns, Rd.mono hg _ hry⟩
  · intro X' g' R' s' S' hg _ hR'
    obtain ⟨o', ho', h1, h2⟩ := hR'.tGet
    exact wpAny_pyNext_values_end (knd := PySem.strKind P0 c.w) (d := d) (ep := ep) (kvs := ps) X'.ok.hd ⟨o', ho', h1, h2⟩ (hat' _ (hR'.fz (hg _ _ hd))) (by simp [hlen]) fun h' he => ⟨rfl, hR'.tDrop (t := s'.toks) he valIt_ns⟩

/-- a value is laid into a target -/
noncomputable def Asg (c : Cx) (X : Fm) (S : AS) (target : Expr) (a : AV) (K : AS → Prop) : Prop :=
  ∀ g R s v, Rel c X R g s S → AVr c.w g a v → wpAny (M c) X.A (assign target X.env v) (Pa c X R K g) No s
theorem asg_name {c : Cx} {X : Fm} {S : AS} {x : Str} {p : Pos} {a : AV} {K : AS → Prop} (F : Fine X x) (h : K (S.set x a)) : Asg c X S (.Name x p) a K := fun g R s v hR hv => wp_assignName F h hR hv

section
variable {c : Cx} {X : Fm} {S : AS} {Q : Fl → AS → Prop}
theorem no_noted {M : Model} {A : Around} {env : Env} {E : Value → Shared → Prop} {α : Type} {t : Sem α} {Q : α → Shared → Prop} {s : Shared} (h : wpAny M A t Q No s) : wpAny M A t Q (notedBy M A env E) s := wpAny_mono h (fun _ _ x => x) fun _ _ x => x.elim
/-- the loop itself, by what holds ahead of turn i -/
theorem loop_for {target : Expr} {body : List Stmt} {as : List AV} {I : Addr} {ip : Nat → Obj → Prop} {g0 : G} {hold : Ld → Prop} (it : ItOk c target I ip as g0 hold) (J : Nat → AS → Prop)
    (turn : ∀ i a S', as[i]? = some a → J i S' → Asg c X S' target a (fun S2 => Ex c X S2 (execs body X.env) (fun f S3 => match f with | .next => J (i + 1) S3 | .brk => Q .next S3 | .ret b => Q (.ret b) S3)))
    (fin : ∀ S', J as.length S' → Q .next S') {g : G} {R : Ld} {s : Shared} (hg : G.le g0 g) (hh : hold R) (hR : Rel c X ((I, ip 0) :: R) g s S) (h0 : J 0 S) :
    codeAny (M c) X.A (.forLoop target (.ref I) body [] X.env) (fun r s' => match r with | .ok f => ∃ g' b S', G.le g g' ∧ Rel c X R g' s' S' ∧ FlR c.w g' b f ∧ Q b S' | .error _ => False) s := by
  refine codeAny_forLoop_any (fun n s' => ∃ i g' S', n = as.length + 1 - i ∧ i ≤ as.length ∧ G.le g g' ∧ Rel c X ((I, ip i) :: R) g' s' S' ∧ J i S') ?_ (as.length + 1) ⟨0, g, S, rfl, Nat.zero_le _, .rfl, hR, h0⟩
  rintro n s' ⟨i, g', S', rfl, hi, hg', hR', hJ⟩
  cases ha : as[i]? with
  | none =>
    have : i = as.length := Nat.le_antisymm hi (by simpa using ha)
    subst this
    refine no_noted (wpAny_mono (it.fin X g' R s' S' (hg.trans hg') hh hR') (fun r s1 ⟨e, h1⟩ => ?_) fun _ _ x => x)
    subst e
    exact wpAny_execs_nil ⟨g', .next, S', hg', h1, rfl, fin S' hJ⟩
  | some a =>
    have hlt : i < as.length := (List.getElem?_eq_some_iff.mp ha).1
    refine no_noted (wpAny_mono (it.item X i a g' R s' S' ha (hg.trans hg') hh hR') (fun r s1 ⟨v, e, h1⟩ => ?_) fun _ _ x => x)
    subst e
    refine no_noted (wpAny_mono h1 (fun _ s2 ⟨g2, q1, q2, q3⟩ => ?_) fun _ _ x => x)
    refine no_noted (Pa.go (turn i a S' ha hJ g2 _ s2 v q2 q3) (fun _ s3 g3 S3 z1 z2 z3 => ?_))
    refine no_noted (Po.go (z3 g3 _ s3 z2) (fun f s4 g4 b S4 y1 y2 y3 y4 => ?_))
    have hle : G.le g g4 := ((hg'.trans q1).trans z1).trans y1
    have hdrop : Rel c X R g4 s4 S4 := (y2.tDrop (t := s4.toks) (h' := s4.heap) (fun _ _ _ e => e) (it.pln _)).same rfl rfl rfl
    cases b with
    | next =>
      have e : f = .next := y3
      subst e
      exact ⟨as.length + 1 - (i + 1), by omega, i + 1, g4, S4, rfl, hlt, hle, y2, y4⟩
    | brk =>
      have e : f = .brk := y3
      subst e
      exact ⟨g4, .next, S4, hle, hdrop, rfl, y4⟩
    | ret b =>
      obtain ⟨u, rfl, hu⟩ := y3
      exact ⟨g4, .ret b, S4, hle, hdrop, ⟨u, rfl, hu⟩, y4⟩
end
theorem Rel.perm {c : Cx} {X : Fm} {R R' : Ld} {g : G} {s : Shared} {S : AS} (h : Rel c X R g s S) (hp : R.Perm R') : Rel c X R' g s S := by
  obtain ⟨m, cs, mo, tb, q⟩ := h
  refine ⟨m, cs, mo, tb, ⟨?_, q.loc.tail fun _ _ h => hp.mem_iff.mp h, q.cel, q.mut_, q.gen, q.tbo, q.os, q.g0, q.fr.mono fun p h => ?_⟩⟩
  · have w := q.wd
    rw [ledger_eq] at w ⊢
    exact w.perm (hp.append_left _)
  · exact (List.mem_cons.mp h).elim (fun e => e ▸ .head _) fun h => .tail _ (hp.mem_iff.mp h)

/-- the outer frame, at rest -/
structure Susp (c : Cx) (X : Fm) (m : Str → Option Value) (cs : List (Addr × Option Value)) (R : Ld) (S : AS) (g : G) : Prop where
  loc : LocOk c.w g X.env m cs R S.loc
  cel : X.own = true → CellsOk X.env cs
  fr : FrOk X.fl ((X.env.locals, NsP m) :: R)
theorem Susp.mono {c : Cx} {X : Fm} {m : Str → Option Value} {cs : List (Addr × Option Value)} {R R' : Ld} {S : AS} {g g' : G} (h : Susp c X m cs R S g) (hg : G.le g g') (hs : ∀ p ∈ R, p ∈ R') : Susp c X m cs R' S g' :=
  ⟨(h.loc.mono hg).tail fun _ _ h => hs _ h, h.cel, h.fr.mono fun p hp => (List.mem_cons.mp hp).elim (fun e => e ▸ .head _) fun h => .tail _ (hs _ h)⟩

noncomputable def cmOf (X : Fm) (scope : Scope) (cl : List (Str × Addr)) (C : Addr) (hk : scope.kind = .function) : Fm where
  A := X.A
  env := compEnvC scope cl C X.env
  n := X.n
  ok := X.ok
  fk := hk
  gl := X.gl
  bl := X.bl
  fl := X.fl
  hfl := X.hfl
  own := false

noncomputable def CapV (env : Env) (scope : Scope) (cl : List (Str × Addr)) (x : Str) : Prop :=
  ((relabel scope env).names.lookup x = some .cell ∨ (relabel scope env).names.lookup x = some .free) ∧ env.kindOf x ≠ some .local ∧ ∃ d, cl.lookup x = some d ∧ env.cells.lookup x = some d
/-- names that the inner block sees -/
noncomputable def CapL (env : Env) (scope : Scope) (cl : List (Str × Addr)) (loc : List (Str × AV)) : List (Str × AV) → Prop
  | [] => True
  | (x, a) :: r => (loc.lookup x = some a ∧ CapV env scope cl x) ∧ CapL env scope cl loc r
theorem CapL.get {env : Env} {scope : Scope} {cl : List (Str × Addr)} {loc : List (Str × AV)} : ∀ {l : List (Str × AV)}, CapL env scope cl loc l → ∀ {x : Str} {a : AV}, l.lookup x = some a → loc.lookup x = some a ∧ CapV env scope cl x
  | [], _, _, _, e => by cases e
  | (y, b) :: r, h, x, a, e => by
    rw [List.lookup_cons] at e
    cases q : x == y with
    | true => rw [q] at e; cases e; have := beq_iff_eq.mp q; subst this; exact h.1
    | false => rw [q] at e; exact CapL.get h.2 e

theorem rel_enter {c : Cx} {X : Fm} {R : Ld} {g : G} {s : Shared} {S : AS} {scope : Scope} {cl : List (Str × Addr)} {h₁ : Heap} {loc' : List (Str × AV)} {t : Nat} {fo : Obj} (hR : Rel c X R g s S) (hk : scope.kind = .function)
    (hns : h₁.Ns s.heap.objs.size (fun _ => none)) (hsb : Heap.SameBut s.heap.objs.size (s.heap.push fo) h₁) (hcap : CapL X.env scope cl S.loc loc') :
    ∃ m cs, Susp c X m cs R S g ∧ Rel c (cmOf X scope cl s.heap.objs.size hk) ((X.env.locals, NsP m) :: (cs.map cellE ++ R)) g { s with heap := h₁, toks := t } ⟨loc', S.mu, S.gens⟩ := by
  obtain ⟨m, cs, mo, tb, q⟩ := hR
  have hkeep : ∀ b o, s.heap.get? b = some o → h₁.get? b = some o := fun b o e => hsb.extBut b o (Nat.ne_of_lt (Heap.lt_size e)) (Heap.get?_push_of_some _ e)
  have hlow : ∀ p ∈ ledger X.env.locals m cs mo S.gens tb R, p.1 < s.heap.objs.size := fun p hp => let ⟨_, ho, _⟩ := (q.wd.ok p hp).2; Heap.lt_size ho
  have w2 := (q.wd.keeps hkeep).perm (callPerm ..)
  have w3 : Wd g h₁ (ledger s.heap.objs.size (fun _ => none) [] mo S.gens tb ((X.env.locals, NsP m) :: (cs.map cellE ++ R))) := by
    have : ledger s.heap.objs.size (fun _ => none) [] mo S.gens tb ((X.env.locals, NsP m) :: (cs.map cellE ++ R)) = [(s.heap.objs.size, NsP fun _ => none)] ++ (mo.map exE ++ (S.gens.flatMap GA.ents ++ ((114, fun o => o = tb) :: ((X.env.locals, NsP m) :: (cs.map cellE ++ R))))) := by
      unfold ledger; simp
    rw [this]
    refine w2.join (n := s.heap.objs.size) (fun a o e => Heap.lt_size (q.wd.fz a o e)) (fun p hp => hlow p ((callPerm ..).mem_iff.mpr hp)) (fun p hp => ?_) (by simp)
    rw [List.mem_singleton.mp hp]
    obtain ⟨o, h1, h2⟩ := NsP.of hns
    exact ⟨Nat.le_refl _, o, h1, h2⟩
  refine ⟨m, cs, ⟨q.loc, q.cel, q.fr⟩, ⟨fun _ => none, [], mo, tb, ⟨w3, fun x a e => ?_, (fun h => nomatch h), q.mut_, q.gen, q.tbo, q.os, q.g0, fun e he => ?_⟩⟩⟩
  · obtain ⟨h1, h2, h3, d, h4, h5⟩ := hcap.get e
    obtain ⟨v, hv, hvar⟩ := q.loc x a h1
    refine ⟨v, hv, .inr ⟨h2, d, h4, .inr ?_⟩⟩
    rcases hvar with ⟨z, _⟩ | ⟨_, d', z1, z2⟩
    · exact absurd z h3
    · rw [h5] at z1
      cases z1
      rcases z2 with z2 | z2
      · refine .tail _ (List.mem_append_left _ ?_)
        obtain ⟨pre, post, e1, _⟩ := lookup_cell_split z2
        rw [e1]
        simp [cellE]
      · exact .tail _ (List.mem_append_right _ z2)
  · obtain ⟨f, m', z1, z2, z3⟩ := q.fr e he
    refine ⟨f, m', z1, z2, .tail _ ?_⟩
    rcases List.mem_cons.mp z3 with z | z
    · exact z ▸ .head _
    · exact .tail _ (List.mem_append_right _ z)

theorem rel_exit {c : Cx} {X : Fm} {R : Ld} {g : G} {s : Shared} {S S' : AS} {scope : Scope} {cl : List (Str × Addr)} {C : Addr} {hk : scope.kind = .function} {m : Str → Option Value} {cs : List (Addr × Option Value)}
    (hR : Rel c (cmOf X scope cl C hk) ((X.env.locals, NsP m) :: (cs.map cellE ++ R)) g s S') (hs : Susp c X m cs R S g) : ∃ mC, Rel c X ((C, NsP mC) :: R) g s ⟨S.loc, S'.mu, S'.gens⟩ := by
  obtain ⟨mC, cs', mo, tb, q⟩ := hR
  refine ⟨mC, m, cs, mo, tb, ⟨?_, hs.loc.tail fun _ _ h => .tail _ h, hs.cel, q.mut_, q.gen, q.tbo, q.os, q.g0, hs.fr.mono fun p hp => (List.mem_cons.mp hp).elim (fun e => e ▸ .head _) fun h => .tail _ (.tail _ h)⟩⟩
  have w : Wd g s.heap ((C, NsP mC) :: (mo.map exE ++ (S'.gens.flatMap GA.ents ++ ((114, fun o => o = tb) :: ((X.env.locals, NsP m) :: (cs.map cellE ++ R)))))) := q.wd.sub (by
    unfold ledger
    exact .cons_cons _ (List.sublist_append_right _ _))
  refine w.perm ?_
  have e := (callPerm X.env.locals m cs mo S'.gens tb R).symm.cons (C, NsP mC)
  refine e.trans ?_
  rw [ledger_eq, ledger_eq]
  exact List.perm_middle.symm

/-- the block's names go -/
theorem Rel.dropNs {c : Cx} {X : Fm} {R : Ld} {g : G} {s : Shared} {S : AS} {C : Addr} {P : Obj → Prop} {h' : Heap} {t : Nat} (h : Rel c X ((C, P) :: R) g s S) (hk : ∀ b o, b ≠ C → s.heap.get? b = some o → h'.get? b = some o) (hP : ∃ m, P = NsP m) (hfr : ∀ e ∈ X.fl, e.frame ≠ some C) :
    Rel c X R g { s with heap := h', toks := t } S := by
  obtain ⟨m0, rfl⟩ := hP
  obtain ⟨m, cs, mo, tb, q⟩ := h
  refine ⟨m, cs, mo, tb, ⟨?_, q.loc.tail fun b v h => (List.mem_cons.mp h).elim (fun e => ?_) id, q.cel, q.mut_, q.gen, q.tbo, q.os, q.g0, fun e he => ?_⟩⟩
  · have w := q.wd
    rw [ledger_eq] at w ⊢
    exact w.drop hk
  · exfalso
    have e2 := (Prod.mk.inj e).2
    have : cellP v { cls := .none, data := .cell v } := rfl
    rw [e2] at this
    obtain ⟨_, _, h, _⟩ := this
    cases h
  · obtain ⟨f, m', h1, h2, h3⟩ := q.fr e he
    refine ⟨f, m', h1, h2, ?_⟩
    rcases List.mem_cons.mp h3 with z | z
    · exact z ▸ .head _
    · rcases List.mem_cons.mp z with z | z
      · exact absurd (by rw [h1, (Prod.mk.inj z).1]) (hfr e he)
      · exact .tail _ z
theorem Rel.frLow {c : Cx} {X : Fm} {R : Ld} {g : G} {s : Shared} {S : AS} (h : Rel c X R g s S) : ∀ e ∈ X.fl, ∃ f, e.frame = some f ∧ f < s.heap.objs.size := by
  intro e he
  obtain ⟨m, cs, mo, tb, q⟩ := h
  obtain ⟨f, m', h1, _, h3⟩ := q.fr e he
  refine ⟨f, h1, ?_⟩
  have hm : (f, NsP m') ∈ ledger X.env.locals m cs mo S.gens tb R := by
    rcases List.mem_cons.mp h3 with z | z
    · rw [z]; exact .head _
    · rw [ledger_eq]; exact List.mem_append_right _ z
  obtain ⟨_, ho, _⟩ := (q.wd.ok _ hm).2
  exact Heap.lt_size ho
/-- the tail's first is frozen -/
theorem Rel.tFreeze {c : Cx} {X : Fm} {R : Ld} {g : G} {s : Shared} {S : AS} {a : Addr} {P : Obj → Prop} (h : Rel c X ((a, P) :: R) g s S) (hns : Pln P) : ∃ o, P o ∧ G.le g (g.put a o) ∧ Rel c X R (g.put a o) s S := by
  obtain ⟨m, cs, mo, tb, q⟩ := h
  have w := q.wd
  rw [ledger_eq] at w
  obtain ⟨o, h1, h2, h3, h4⟩ := (w.perm List.perm_middle).freeze
  refine ⟨o, h2, h4, ⟨m, cs, mo, tb, ⟨?_, (q.loc.mono h4).tail fun b v h => (List.mem_cons.mp h).elim (fun e => absurd (Prod.mk.inj e).2.symm (hns.2 v)) id, q.cel, q.mut_.mono h4, q.gen.mono h4, q.tbo.mono h4, q.os, q.g0.trans h4, fun e he => ?_⟩⟩⟩
  · rw [ledger_eq]; exact h3
  · obtain ⟨f, m', z1, z2, z3⟩ := q.fr e he
    refine ⟨f, m', z1, z2, ?_⟩
    rcases List.mem_cons.mp z3 with z | z
    · exact z ▸ .head _
    · rcases List.mem_cons.mp z with z | z
      · exact absurd (Prod.mk.inj z).2.symm (hns.1 m')
      · exact .tail _ z
noncomputable def accP (vs : List Value) (o : Obj) : Prop := ∃ n, o = seqO "list" vs n
theorem accP_pln {vs : List Value} : Pln (accP vs) := Pln.of (P := accP vs) ⟨0, rfl⟩ ⟨(by intro _ _ h; cases h), (by intro _ h; cases h)⟩
theorem AVsr.snoc {w : World} {g : G} : ∀ {as : List AV} {vs : List Value} {a : AV} {v : Value}, AVsr w g as vs → AVr w g a v → AVsr w g (as ++ [a]) (vs ++ [v])
  | [], _, _, v, h, h' => by have e : _ = [] := h; subst e; exact ⟨v, [], rfl, h', rfl⟩
  | _ :: _, _, _, _, h, h' => by obtain ⟨u, us, rfl, h1, h2⟩ := h; exact ⟨u, _, rfl, h1, AVsr.snoc h2 h'⟩

section
variable {c : Cx} {X : Fm} {S : AS}
/-- the tests of a clause -/
noncomputable abbrev Ts (c : Cx) (X : Fm) (S : AS) (ifs : List Expr) (Q : Bool → AS → Prop) : Prop :=
  Tr c X S (forIn ifs true fun c r => if r = true then do let ok ← isTrue c X.env (eval c X.env); pure (ForInStep.yield ok) else pure (ForInStep.yield r)) Q
theorem ts_nil {Q : Bool → AS → Prop} (h : Q true S) : Ts c X S [] Q := fun g R s hR => wpAny_tests_nil ⟨g, true, S, .rfl, hR, rfl, h⟩
theorem ts_one {t : Expr} {Q : Bool → AS → Prop} (h : Tr c X S (isTrue t X.env (eval t X.env)) Q) : Ts c X S [t] Q := fun g R s hR => wpAny_tests_one (h g R s hR)

theorem rdGens_of {w : World} {g : G} : ∀ {as : List AV} {vs : List Value} {l : List Nat}, AVsr w g as vs → as = l.map .gen → RdGens g l vs
  | as, vs, [], h, e => by subst e; exact h
  | as, vs, d :: ds, h, e => by
    subst e
    obtain ⟨v, vs', rfl, h1, h2⟩ := h
    exact ⟨v, vs', rfl, h1, rdGens_of h2 rfl⟩
end
section
variable {c : Cx} {X : Fm} {S : AS}
/-- for over a source that stays -/
theorem ex_for {Q : Fl → AS → Prop} {target iter : Expr} {body : List Stmt} {pos : Pos}
    (h : Ev c X S (eval iter X.env) (fun a S1 => ∃ as, ∃ J : Nat → AS → Prop, Src0 c target a as ∧ J 0 S1 ∧
      (∀ i b S', as[i]? = some b → J i S' → Asg c X S' target b (fun S2 => Ex c X S2 (execs body X.env) (fun f S3 => match f with | .next => J (i + 1) S3 | .brk => Q .next S3 | .ret d => Q (.ret d) S3))) ∧
      ∀ S', J as.length S' → Q .next S'))
    (hs : ∀ x, foldedSetIterable iter X.env x = pure x := by intro _; rfl) : Ex c X S (exec (.For target iter body [] pos) X.env) Q := fun g R s hR => by
  refine wpAny_For (Po.go (h g R s hR) (fun v s1 g1 a S1 h1 h2 h3 hz3 => ?_)) hs
  obtain ⟨as, J, src, j0, turn, fin⟩ := hz3
  refine wpAny_mono (src X R g1 s1 S1 v h2 h3) (fun it s2 ⟨I, ip, g2, e, q1, q2, q3⟩ => ?_) fun _ _ x => x
  subst e
  refine codeAny_mono (loop_for (Q := Q) q3 J turn fin .rfl trivial q2 j0) fun r s' hr => ?_
  cases r with
  | error x => exact hr.elim
  | ok f =>
    obtain ⟨g', b, S', z1, z2, z3, z4⟩ := hr
    exact ⟨g', b, S', (h1.trans q1).trans z1, z2, z3, z4⟩

/-- a tuple is laid into names -/
theorem asg_tuple2 {x y : Str} {p1 p2 p : Pos} {k : Nat} {d1 d2 : D} {K : AS → Prop} (F1 : Fine X x) (F2 : Fine X y) (h : K ((S.set x (.dat d1)).set y (.dat d2))) : Asg c X S (.Tuple [.Name x p1, .Name y p2] k p) (.dat (.tup [d1, d2])) K := fun g R s v hR hv => by
  obtain ⟨a, vs, n, rfl, ha, hr⟩ := tupAt hR hv
  rw [RdL] at hr
  obtain ⟨v1, r1, rfl, h1, hr⟩ := hr
  rw [RdL] at hr
  obtain ⟨v2, r2, rfl, h2, hr⟩ := hr
  rw [RdL] at hr
  subst hr
  refine wpAny_assign_Tuple (items := #[v1, v2]) X.ok.hd ⟨_, ha, rfl, n, rfl⟩ rfl rfl fun h' hx => ?_
  have hR2 : Rel c X R g { s with heap := h' } S := hR.keeps (t := s.toks) fun b o e => hx b o (Nat.ne_of_lt (Heap.lt_size e)) e
  show wpAny _ _ (do holding [v2] (assign (.Name x p1) X.env v1); do holding [] (assign (.Name y p2) X.env v2); pure ()) _ _ _
  refine wpAny_bind (wpAny_holding (Pa.go (wp_assignName (a := .dat d1) (Q := fun S' => S' = ⟨(x, .dat d1) :: S.loc, S.mu, S.gens⟩) F1 rfl hR2 h1) (fun _ s2 g2 S2 q1 q2 q3 => ?_)))
  subst q3
  refine wpAny_bind (wpAny_holding (Pa.go (wp_assignName (a := .dat d2) (Q := K) F2 h q2 (Rd.mono q1 _ h2)) (fun _ s3 g3 S3 z1 z2 z3 => wpAny_pure ⟨g3, S3, q1.trans z1, z2, z3⟩)))
end
section
variable {c : Cx} {X : Fm} {R : Ld} {g g' : G} {s : Shared} {S : AS}
theorem MutOk.split {w : World} : ∀ {pre post : List (Addr × MO)} {a : Addr} {mo : MO} {l : List (Addr × Obj)}, MutOk w g (pre ++ (a, mo) :: post) l →
    ∃ lp o lq, l = lp ++ (a, o) :: lq ∧ (a == sysModules) = false ∧ MOr w g mo o ∧ MutOk w g pre lp ∧ MutOk w g post lq ∧ ∀ mo' o', MOr w g mo' o' → MutOk w g (pre ++ (a, mo') :: post) (lp ++ (a, o') :: lq)
  | [], post, a, mo, l, h => by
    obtain ⟨o, l', rfl, h0, h1, h2⟩ := h
    exact ⟨[], o, l', rfl, h0, h1, rfl, h2, fun mo' o' h' => ⟨o', l', rfl, h0, h', h2⟩⟩
  | (b, mb) :: pre, post, a, mo, l, h => by
    obtain ⟨ob, l', rfl, h0, h1, h2⟩ := h
    obtain ⟨lp, o, lq, rfl, k0, k1, k2, k3, k4⟩ := MutOk.split h2
    exact ⟨(b, ob) :: lp, o, lq, rfl, k0, k1, ⟨ob, lp, rfl, h0, h1, k2⟩, k3, fun mo' o' h' => ⟨ob, _, rfl, h0, h1, k4 mo' o' h'⟩⟩
theorem MutOk.append {w : World} : ∀ {pre post : List (Addr × MO)} {lp lq : List (Addr × Obj)}, MutOk w g pre lp → MutOk w g post lq → MutOk w g (pre ++ post) (lp ++ lq)
  | [], post, lp, lq, h, h' => by have e : lp = [] := h; subst e; exact h'
  | (b, mb) :: pre, post, _, lq, h, h' => by
    obtain ⟨ob, l', rfl, h0, h1, h2⟩ := h
    exact ⟨ob, _, rfl, h0, h1, MutOk.append h2 h'⟩
theorem Rel.muGet (h : Rel c X R g s S) {a : Addr} {mo : MO} (hm : (a, mo) ∈ S.mu) : ∃ o, s.heap.get? a = some o ∧ MOr c.w g mo o ∧ (a == sysModules) = false := by
  obtain ⟨m, cs, mol, tb, q⟩ := h
  obtain ⟨pre, post, e⟩ := List.append_of_mem hm
  have hmu := q.mut_
  rw [e] at hmu
  obtain ⟨lp, o, lq, rfl, k0, k1, _, _, _⟩ := hmu.split
  obtain ⟨o', h1, h2⟩ := q.wd.get (a := a) (P := fun x => x = o) (by
    unfold ledger
    refine .tail _ (List.mem_append_right _ (List.mem_append_left _ ?_))
    simp [exE])
  subst h2
  exact ⟨o', h1, k1, k0⟩
theorem Rel.muUpd (h : Rel c X R g s S) {pre post : List (Addr × MO)} {a : Addr} {mo mo' : MO} {o' : Obj} {h' : Heap} {t : Nat} (hm : S.mu = pre ++ (a, mo) :: post) (hk : ∀ b o, b ≠ a → s.heap.get? b = some o → h'.get? b = some o) (ho : h'.get? a = some o') (hP : MOr c.w g mo' o') :
    Rel c X R g { s with heap := h', toks := t } ⟨S.loc, pre ++ (a, mo') :: post, S.gens⟩ := by
  obtain ⟨m, cs, mol, tb, q⟩ := h
  have hmu := q.mut_
  rw [hm] at hmu
  obtain ⟨lp, o, lq, rfl, k0, k1, _, _, k4⟩ := hmu.split
  refine ⟨m, cs, lp ++ (a, o') :: lq, tb, ⟨?_, q.loc, q.cel, k4 _ _ hP, q.gen, q.tbo, q.os, q.g0, q.fr⟩⟩
  have w : Wd g s.heap (((X.env.locals, NsP m) :: (cs.map cellE ++ lp.map exE)) ++ (a, fun x => x = o) :: (lq.map exE ++ (S.gens.flatMap GA.ents ++ ((114, fun o => o = tb) :: R)))) := by
    have := q.wd
    unfold ledger at this
    simpa [exE] using this
  have w' := w.upd (P' := fun x => x = o') hk ho rfl
  unfold ledger
  simpa [exE] using w'
theorem Rel.sizeOk (h : Rel c X R g s S) : (s.heap.objs.size == sysModules) = false := by
  have := h.gNs.lt
  refine beq_eq_false_iff_ne.mpr fun e => ?_
  rw [e] at this
  exact absurd this (by decide)
theorem Rel.muPush (h : Rel c X R g s S) {mo : MO} {o : Obj} {t : Nat} (hf : o.isFreed = false) (hP : MOr c.w g mo o) : Rel c X R g { s with heap := s.heap.push o, toks := t } ⟨S.loc, (s.heap.objs.size, mo) :: S.mu, S.gens⟩ := by
  have h0 := h.sizeOk
  obtain ⟨m, cs, mol, tb, q⟩ := h
  refine ⟨m, cs, (s.heap.objs.size, o) :: mol, tb, ⟨?_, q.loc, q.cel, ⟨o, mol, rfl, h0, hP, q.mut_⟩, q.gen, q.tbo, q.os, q.g0, q.fr⟩⟩
  have w := q.wd.push (P := fun x => x = o) hf rfl
  refine w.perm ?_
  unfold ledger
  have : (X.env.locals, NsP m) :: (cs.map cellE ++ (((s.heap.objs.size, o) :: mol).map exE ++ (S.gens.flatMap GA.ents ++ ((114, fun o => o = tb) :: R)))) = ((X.env.locals, NsP m) :: cs.map cellE) ++ exE (s.heap.objs.size, o) :: (mol.map exE ++ (S.gens.flatMap GA.ents ++ ((114, fun o => o = tb) :: R))) := by simp
  rw [this]
  exact (List.perm_middle (l₁ := (X.env.locals, NsP m) :: cs.map cellE)).symm
noncomputable def MO.d : MO → D
  | .lst ds => .lst ds
  | .dct kvs => .dct kvs
theorem rd_of_mo {w : World} {a : Addr} {o : Obj} {mo : MO} (ha : (a == sysModules) = false) (hg : g a = some o) (h : MOr w g mo o) : Rd w g mo.d (.ref a) := by
  cases mo with
  | lst ds => obtain ⟨vs, n, rfl, h2⟩ := h; exact ⟨a, vs, n, rfl, hg, h2⟩
  | dct kvs => obtain ⟨ps, h1, h2⟩ := h; exact ⟨a, o, ps, rfl, ha, hg, h1, h2⟩
/-- names that hold the object may hold its data -/
noncomputable def FzSub (a : Addr) (d : D) (loc : List (Str × AV)) : List (Str × AV) → Prop
  | [] => True
  | (x, b) :: r => (loc.lookup x = some b ∨ (loc.lookup x = some (.obj a) ∧ b = .dat d)) ∧ FzSub a d loc r
theorem FzSub.get {a : Addr} {d : D} {loc : List (Str × AV)} : ∀ {l : List (Str × AV)}, FzSub a d loc l → ∀ {x : Str} {b : AV}, l.lookup x = some b → loc.lookup x = some b ∨ (loc.lookup x = some (.obj a) ∧ b = .dat d)
  | [], _, _, _, e => by cases e
  | (y, b') :: r, h, x, b, e => by
    rw [List.lookup_cons] at e
    cases q : x == y with
    | true => rw [q] at e; cases e; have := beq_iff_eq.mp q; subst this; exact h.1
    | false => rw [q] at e; exact FzSub.get h.2 e
theorem Rel.muFreeze (h : Rel c X R g s S) {pre post : List (Addr × MO)} {a : Addr} {mo : MO} {loc : List (Str × AV)} (hm : S.mu = pre ++ (a, mo) :: post) (hl : FzSub a mo.d S.loc loc) : ∃ g', G.le g g' ∧ Rd c.w g' mo.d (.ref a) ∧ Rel c X R g' s ⟨loc, pre ++ post, S.gens⟩ := by
  obtain ⟨m, cs, mol, tb, q⟩ := h
  have hmu := q.mut_
  rw [hm] at hmu
  obtain ⟨lp, o, lq, rfl, k0, k1, k2, k3, k4⟩ := hmu.split
  have w : Wd g s.heap (((X.env.locals, NsP m) :: (cs.map cellE ++ lp.map exE)) ++ (a, fun x => x = o) :: (lq.map exE ++ (S.gens.flatMap GA.ents ++ ((114, fun o => o = tb) :: R)))) := by
    have := q.wd
    unfold ledger at this
    simpa [exE] using this
  obtain ⟨o', h1, h2, h3, h4⟩ := (w.perm List.perm_middle).freeze
  subst h2
  have hrd := rd_of_mo k0 (G.put_self g a o') (k1.mono h4)
  refine ⟨_, h4, hrd, ⟨m, cs, lp ++ lq, tb, ⟨?_, fun x b e => ?_, q.cel, (k2.mono h4).append (k3.mono h4), q.gen.mono h4, q.tbo.mono h4, q.os, q.g0.trans h4, q.fr⟩⟩⟩
  · unfold ledger
    simpa using h3
  · rcases hl.get e with z | ⟨z, rfl⟩
    · obtain ⟨v, k5, k6⟩ := q.loc x b z
      exact ⟨v, k5.mono h4, k6⟩
    · obtain ⟨v, k5, k6⟩ := q.loc x _ z
      have e' : v = .ref a := k5
      subst e'
      exact ⟨_, hrd, k6⟩
theorem Wp.freeze {α β : Type} {r : G → β → α → Prop} {t : Sem α} {Q : β → AS → Prop} {pre post : List (Addr × MO)} {a : Addr} {mo : MO} {loc : List (Str × AV)} (hm : S.mu = pre ++ (a, mo) :: post) (hl : FzSub a mo.d S.loc loc)
    (h : Wp c X r ⟨loc, pre ++ post, S.gens⟩ t Q) : Wp c X r S t Q := Wp.pre (fun g R s hR => let ⟨g', h1, _, h3⟩ := hR.muFreeze hm hl; ⟨g', h1, h3⟩) h
end

noncomputable def putK {α : Type} (kvs : List (Str × α)) (k : Str) (v : α) : List (Str × α) := if kvs.any (fun kv => kv.1 = k) then kvs.map (fun kv => if kv.1 = k then (kv.1, v) else kv) else kvs ++ [(k, v)]
noncomputable def getK {α : Type} (kvs : List (Str × α)) (k : Str) : Option α := (kvs.find? fun kv => kv.1 = k).map (·.2)
section
variable {w : World} {g : G}
theorem RdK.get : ∀ {kvs : List (Str × D)} {ps : List (Str × Value)}, RdK w g kvs ps → ∀ k, (getK kvs k = none ∧ valueAt ps k = none) ∨ ∃ d v, getK kvs k = some d ∧ valueAt ps k = some v ∧ Rd w g d v
  | [], _, h, k => by rw [RdK] at h; subst h; exact .inl ⟨rfl, rfl⟩
  | (k0, d0) :: r, _, h, k => by
    rw [RdK] at h
    obtain ⟨v, ps', rfl, h1, h2⟩ := h
    by_cases e : k0 = k
    · subst e; exact .inr ⟨d0, v, by simp [getK], by simp [valueAt], h1⟩
    · have := RdK.get h2 k
      simpa [getK, valueAt, e] using this
theorem RdK.any : ∀ {kvs : List (Str × D)} {ps : List (Str × Value)}, RdK w g kvs ps → ∀ k, (ps.any fun kv => kv.1 = k) = kvs.any fun kv => kv.1 = k
  | [], _, h, k => by rw [RdK] at h; subst h; rfl
  | (k0, d0) :: r, _, h, k => by
    rw [RdK] at h
    obtain ⟨v, ps', rfl, h1, h2⟩ := h
    simp only [List.any_cons, RdK.any h2 k]
theorem RdK.map {k : Str} {d : D} {v : Value} (hv : Rd w g d v) : ∀ {kvs : List (Str × D)} {ps : List (Str × Value)}, RdK w g kvs ps → RdK w g (kvs.map fun kv => if kv.1 = k then (kv.1, d) else kv) (ps.map fun kv => if kv.1 = k then (kv.1, v) else kv)
  | [], _, h => by rw [RdK] at h; subst h; simp [RdK]
  | (k0, d0) :: r, _, h => by
    rw [RdK] at h
    obtain ⟨u, ps', rfl, h1, h2⟩ := h
    by_cases e : k0 = k
    · simp only [List.map_cons, e, if_true]
      exact ⟨v, _, rfl, hv, RdK.map hv h2⟩
    · simp only [List.map_cons, e, if_false]
      exact ⟨u, _, rfl, h1, RdK.map hv h2⟩
theorem RdK.append : ∀ {kvs ls : List (Str × D)} {ps qs : List (Str × Value)}, RdK w g kvs ps → RdK w g ls qs → RdK w g (kvs ++ ls) (ps ++ qs)
  | [], _, _, _, h, h' => by rw [RdK] at h; subst h; exact h'
  | (k0, d0) :: r, _, _, _, h, h' => by
    rw [RdK] at h
    obtain ⟨u, ps', rfl, h1, h2⟩ := h
    exact ⟨u, _, rfl, h1, RdK.append h2 h'⟩
theorem RdK.put {kvs : List (Str × D)} {ps : List (Str × Value)} (h : RdK w g kvs ps) {k : Str} {d : D} {v : Value} (hv : Rd w g d v) : RdK w g (putK kvs k d) (stored ps k v) := by
  unfold putK stored
  rw [h.any k]
  split
  · exact h.map hv
  · exact h.append ⟨v, [], rfl, hv, by rw [RdK]⟩
end
noncomputable def LV (S : AS) (a : AV) (ds : List D) : Prop := a = .dat (.lst ds) ∨ ∃ b, a = .obj b ∧ (b, .lst ds) ∈ S.mu
noncomputable def DV (S : AS) (a : AV) (kvs : List (Str × D)) : Prop := a = .dat (.dct kvs) ∨ ∃ b, a = .obj b ∧ (b, .dct kvs) ∈ S.mu
section
variable {c : Cx} {X : Fm} {R : Ld} {g : G} {s : Shared} {S : AS}
theorem lvAt (h : Rel c X R g s S) {ds : List D} {a : AV} {v : Value} (hl : LV S a ds) (hv : AVr c.w g a v) : ∃ b vs n, v = .ref b ∧ s.heap.get? b = some (seqO "list" vs n) ∧ s.heap.IsList b vs.toArray ∧ RdL c.w g ds vs := by
  rcases hl with rfl | ⟨b, rfl, hm⟩
  · exact lstAt h hv
  · have e : v = .ref b := hv
    subst e
    obtain ⟨o, h1, ⟨vs, n, rfl, h3⟩, _⟩ := h.muGet hm
    exact ⟨b, vs, n, rfl, h1, ⟨_, h1, rfl, n, rfl⟩, h3⟩
theorem dvAt (h : Rel c X R g s S) {kvs : List (Str × D)} {a : AV} {v : Value} (hl : DV S a kvs) (hv : AVr c.w g a v) : ∃ b ps, v = .ref b ∧ (b == sysModules) = false ∧ s.heap.DictOf (PySem.strKind P0 c.w) b ps ∧ RdK c.w g kvs ps := by
  rcases hl with rfl | ⟨b, rfl, hm⟩
  · obtain ⟨b, o, ps, rfl, h0, h1, h2, h3⟩ := hv
    exact ⟨b, ps, rfl, h0, Heap.dictOf_iff.mpr ⟨o, h.fz h1, h2⟩, h3⟩
  · have e : v = .ref b := hv
    subst e
    obtain ⟨o, h1, ⟨ps, h2, h3⟩, h4⟩ := h.muGet hm
    exact ⟨b, ps, rfl, h4, Heap.dictOf_iff.mpr ⟨o, h1, h2⟩, h3⟩
end
section
variable {c : Cx} {X : Fm} {S : AS} {Q : AV → AS → Prop} {env : Env}
theorem sb_lv {value slice : Expr} {a : AV} {ds : List D} {i : Int} {d : D} (hl : LV S a ds) (h0 : 0 ≤ i) (hi : i < 2 ^ 63) (hx : ds[i.toNat]? = some d) (h : Q (.dat d) S)
    (hs : ∀ o j : Value, subscripted slice false o j = operate [o, j] (getItem o j) := by intro _ _; with_unfolding_all rfl) : Sb c X S value slice a (.int i) Q := fun g R s v u hR hv hu => by
  obtain ⟨b, vs, n, rfl, h1, h1', h2⟩ := lvAt hR hl hv
  obtain ⟨t, rfl⟩ := hu
  obtain ⟨x, hx', hr⟩ := h2.at hx
  exact tail_any h1'.typeIs slot_list_getitem.lookup (wpAny_getItem_list h1' h0 hi (by simpa using hx') ⟨g, .dat d, S, .rfl, hR, hr, h⟩) (hs _ _)
theorem op_inD {a : AV} {kvs : List (Str × D)} {k : Str} (hl : DV S a kvs) (h : Q (.bool (getK kvs k).isSome) S) : Op2 c X S (compareOp .In) (.str k) a Q := fun g R s v u hR hv hu => by
  obtain ⟨t, rfl⟩ := hv
  obtain ⟨b, ps, rfl, h0, h1, h2⟩ := dvAt hR hl hu
  refine wpAny_in_of (strKind_is _ _ _ _) h0 h1.mapOf ⟨g, .bool (getK kvs k).isSome, S, .rfl, hR.toks, ?_, h⟩
  rcases h2.get k with ⟨e1, e2⟩ | ⟨d, w, e1, e2, _⟩
  · rw [e1, e2]; rfl
  · rw [e1, e2]; rfl

noncomputable def Me (c : Cx) (X : Fm) (S : AS) (a : AV) (T : String) : Prop := ∀ g R s v, Rel c X R g s S → AVr c.w g a v → s.TypeIs v T ∧ ∀ b, v = .ref b → ∃ ob, s.heap.get? b = some ob ∧ ob.dict = none
theorem me_lv {a : AV} {ds : List D} (h : LV S a ds) : Me c X S a "list" := fun g R s v hR hv => by
  obtain ⟨b, vs, n, rfl, h1, h1', h2⟩ := lvAt hR h hv
  exact ⟨h1'.typeIs, fun _ e => by cases e; exact ⟨_, h1, rfl⟩⟩
theorem me_dv {a : AV} {kvs : List (Str × D)} (h : DV S a kvs) : Me c X S a "dict" := fun g R s v hR hv => by
  obtain ⟨b, ps, rfl, h0, h1, h2⟩ := dvAt hR h hv
  exact ⟨h1.typeIs, h1.mapOf.noDict⟩
theorem ev_meth {o e : Expr} {rest : List Expr} {name : Str} {apos pos : Pos} {T id : String} {pl : Sem Bool} (slot : Slot T name id) (pa : PlainAttrs T) (hty : typeOf (.builtin id) = pure (.type "method_descriptor"))
    (h : Ev c X S (eval o env) (fun a S1 => Me c X S1 a T ∧ Evs c X S1 (spliced (backTo pos (starEach (e :: rest) env))) (fun as S2 => Cl c X S2 (.builtin id) (a :: as) Q)))
    (he : eval (.Call (.Attribute o name apos) (e :: rest) [] pos) env = (do
      let ov ← eval o env
      standAt apos.atName
      let (f, first) ← holding [ov] (getMethod ov name pl)
      callWith pos f first (backTo pos (starEach (e :: rest) env)) []) := by rfl)
    (he' : starEach (e :: rest) env = (false, eval e env) :: starEach rest env := by rfl) (hplain : (backTo pos (starEach rest env)).any (·.1) = false := by rfl) :
    Ev c X S (eval (.Call (.Attribute o name apos) (e :: rest) [] pos) env) Q := fun g R s hR => by
  refine MethodCall_ (pl := pl) (Po.go (h g R s hR) (fun ov s1 g1 a S1 h1 h2 h3 hz1 => ?_)) he
  obtain ⟨h4, h5⟩ := hz1
  obtain ⟨z1, z2⟩ := h4 g1 R s1 ov h2 h3
  refine getMethod_builtin z1 pa slot hty z2 ?_
  refine callWith_method1 (Po.go (h5 g1 R s1 h2) (fun vs s2 g2 as S2 q1 q2 q3 q4 => ?_)) he' hplain
  exact Po.back (q4 g2 R s2 (ov :: vs) q2 ⟨ov, vs, rfl, h3.mono q1, q3⟩) (h1.trans q1)
theorem ev_meth0 {o : Expr} {name : Str} {apos pos : Pos} {T id : String} {pl : Sem Bool} (slot : Slot T name id) (pa : PlainAttrs T) (hty : typeOf (.builtin id) = pure (.type "method_descriptor"))
    (h : Ev c X S (eval o env) (fun a S1 => Me c X S1 a T ∧ Cl c X S1 (.builtin id) [a] Q))
    (he : eval (.Call (.Attribute o name apos) [] [] pos) env = (do
      let ov ← eval o env
      standAt apos.atName
      let (f, first) ← holding [ov] (getMethod ov name pl)
      callWith pos f first (backTo pos (starEach [] env)) []) := by rfl) :
    Ev c X S (eval (.Call (.Attribute o name apos) [] [] pos) env) Q := fun g R s hR => by
  refine MethodCall_ (pl := pl) (Po.go (h g R s hR) (fun ov s1 g1 a S1 h1 h2 h3 hz2 => ?_)) he
  obtain ⟨h4, h5⟩ := hz2
  obtain ⟨z1, z2⟩ := h4 g1 R s1 ov h2 h3
  refine getMethod_builtin z1 pa slot hty z2 ?_
  refine callWith_method0 ?_
  exact Po.back (h5 g1 R s1 [ov] h2 ⟨ov, [], rfl, h3, rfl⟩) h1
theorem cl_dget {a b : AV} {kvs : List (Str × D)} {k : Str} (hl : DV S a kvs) (h : Q (match getK kvs k with | some d => .dat d | none => b) S) : Cl c X S (.builtin "dict.get") [a, .str k, b] Q := fun g R s vs hR hv => by
  obtain ⟨v1, r1, rfl, q1, v2, r2, rfl, ⟨t, rfl⟩, v3, r3, rfl, q3, e⟩ := hv
  have e' : r3 = [] := e
  subst e'
  obtain ⟨d, ps, rfl, h0, h1, h2⟩ := dvAt hR hl q1
  refine call_meetsIn F.slot_dict_get h1.typeIs F.entry_dict_get (F.args_dict_get_3 _ _ _) (meets_dict_get_default (PySem.strKind P0 c.w) d (strKind_is _ _ _ _) h0 v3) ⟨_, h1.mapOf, ?_⟩
  refine ⟨g, _, S, .rfl, hR.toks, ?_, h⟩
  rcases h2.get k with ⟨e1, e2⟩ | ⟨d, w, e1, e2, e3⟩
  · rw [e1, e2]; exact q3
  · rw [e1, e2]; exact e3
theorem cl_ditems {kvs : List (Str × D)} (h : Q (.items kvs) S) : Cl c X S (.builtin "dict.items") [.dat (.dct kvs)] Q := fun g R s vs hR hv => by
  obtain ⟨v1, r1, rfl, q1, e⟩ := hv
  have e' : r1 = [] := e
  subst e'
  obtain ⟨d, ps, rfl, h0, h1, h2⟩ := dvAt hR (.inl rfl) q1
  have hp := hR.pushF (o := { cls := .type "dict_items", data := .fields #[.ref d] }) (t := s.toks) rfl
  exact call_meetsIn F.slot_dict_items h1.typeIs F.entry_dict_items (F.args_dict_items_1 _) (meets_dict_items (PySem.strKind P0 c.w) d h0) ⟨⟨ps, h1⟩, ⟨_, .items kvs, S, hp.2, hp.1, ⟨_, d, rfl, G.put_self _ _ _, Rd.mono hp.2 _ q1⟩, h⟩⟩
theorem cl_dvalues {kvs : List (Str × D)} (h : Q (.vals kvs) S) : Cl c X S (.builtin "dict.values") [.dat (.dct kvs)] Q := fun g R s vs hR hv => by
  obtain ⟨v1, r1, rfl, q1, e⟩ := hv
  have e' : r1 = [] := e
  subst e'
  obtain ⟨d, ps, rfl, h0, h1, h2⟩ := dvAt hR (.inl rfl) q1
  have hp := hR.pushF (o := { cls := .type "dict_values", data := .fields #[.ref d] }) (t := s.toks) rfl
  exact call_meetsIn F.slot_dict_values h1.typeIs F.entry_dict_values (F.args_dict_values_1 _) (meets_dict_values (PySem.strKind P0 c.w) d h0) ⟨⟨ps, h1⟩, ⟨_, .vals kvs, S, hp.2, hp.1, ⟨_, d, rfl, G.put_self _ _ _, Rd.mono hp.2 _ q1⟩, h⟩⟩
theorem cl_mvalues {b : Addr} {kvs : List (Str × D)} (hm : (b, .dct kvs) ∈ S.mu) (h : Q (.mvals b) S) : Cl c X S (.builtin "dict.values") [.obj b] Q := fun g R s vs hR hv => by
  obtain ⟨v1, r1, rfl, q1, e⟩ := hv
  have e' : r1 = [] := e
  subst e'
  obtain ⟨d, ps, rfl, h0, h1, h2⟩ := dvAt hR (.inr ⟨b, rfl, hm⟩) q1
  have eb : Value.ref d = .ref b := q1
  cases eb
  have hp := hR.pushF (o := { cls := .type "dict_values", data := .fields #[.ref b] }) (t := s.toks) rfl
  exact call_meetsIn F.slot_dict_values h1.typeIs F.entry_dict_values (F.args_dict_values_1 _) (meets_dict_values (PySem.strKind P0 c.w) b h0) ⟨⟨ps, h1⟩, ⟨_, .mvals b, S, hp.2, hp.1, ⟨_, rfl, G.put_self _ _ _⟩, h⟩⟩
theorem cl_append {b : Addr} {ds : List D} {d : D} {pre post : List (Addr × MO)} (hm : S.mu = pre ++ (b, .lst ds) :: post) (hl : ds.length ≤ 100000) (h : Q .none (S.rew (pre ++ (b, .lst (ds ++ [d])) :: post))) : Cl c X S (.builtin "list.append") [.obj b, .dat d] Q := fun g R s vs hR hv => by
  obtain ⟨v1, r1, rfl, q1, v2, r2, rfl, q2, e⟩ := hv
  have e' : r2 = [] := e
  subst e'
  have e1 : v1 = .ref b := q1
  subst e1
  obtain ⟨o, h1, ⟨vs, n, rfl, h3⟩, h4⟩ := hR.muGet (a := b) (mo := .lst ds) (by rw [hm]; simp)
  have hlen := h3.length
  refine wpAny_list_append_plain (items := vs.toArray) ⟨n, h1⟩ (fun h' ⟨k', hpl⟩ hs => ⟨g, .none, _, .rfl, hR.muUpd (t := s.toks) hm (fun b o hb e => hs.extBut b o hb e) hpl (mo' := .lst (ds ++ [d])) ⟨vs ++ [v2], k', by simp [seqO], h3.append (.one q2)⟩, rfl, h⟩) (by rw [sizeLine_eq]; simp; omega)

noncomputable def St (c : Cx) (X : Fm) (S : AS) (a i v : AV) (K : AS → Prop) : Prop :=
  ∀ g R s x y z, Rel c X R g s S → AVr c.w g a x → AVr c.w g i y → AVr c.w g v z → wpAny (M c) X.A (setItem x y z) (Pa c X R K g) No s
theorem st_dict {b : Addr} {k : Str} {d : D} {kvs : List (Str × D)} {pre post : List (Addr × MO)} {K : AS → Prop} (hm : S.mu = pre ++ (b, .dct kvs) :: post) (hl : kvs.length ≤ 100000) (h : K (S.rew (pre ++ (b, .dct (putK kvs k d)) :: post))) : St c X S (.obj b) (.str k) (.dat d) K := fun g R s x y z hR hx hy hz => by
  have e1 : x = .ref b := hx
  subst e1
  obtain ⟨t, rfl⟩ := hy
  obtain ⟨d', ps, e, h0, h1, h2⟩ := dvAt hR (a := .obj b) (kvs := kvs) (.inr ⟨b, rfl, by rw [hm]; simp⟩) hx
  cases e
  have hlen := h2.length
  refine wpAny_setItem_pairs (strKind_is _ _ _ _) h1 (fun h' hd hs => ?_) (by rw [sizeLine_eq]; omega)
  obtain ⟨o, ho, hdo⟩ := Heap.dictOf_iff.mp hd
  exact ⟨g, _, .rfl, hR.muUpd (t := s.toks + 1) hm (fun b o hb e => hs.extBut b o hb e) ho (mo' := .dct (putK kvs k d)) ⟨_, hdo, h2.put hz⟩, h⟩
theorem RdL.set {w : World} {g : G} {d : D} {v : Value} (hv : Rd w g d v) : ∀ {ds : List D} {vs : List Value} {i : Nat}, RdL w g ds vs → RdL w g (ds.set i d) (vs.set i v)
  | [], _, _, h => by rw [RdL] at h; subst h; exact .nil
  | _ :: ds, _, i, h => by
    rw [RdL] at h
    obtain ⟨u, vs', rfl, h1, h2⟩ := h
    cases i with
    | zero => exact ⟨v, vs', rfl, hv, h2⟩
    | succ i => exact ⟨u, _, rfl, h1, RdL.set hv h2⟩
theorem st_list {b : Addr} {i : Int} {d : D} {ds : List D} {pre post : List (Addr × MO)} {K : AS → Prop} (hm : S.mu = pre ++ (b, .lst ds) :: post) (h0 : 0 ≤ i) (hi : i < ds.length) (hl : ds.length ≤ 100000) (h : K (S.rew (pre ++ (b, .lst (ds.set i.toNat d)) :: post))) : St c X S (.obj b) (.int i) (.dat d) K := fun g R s x y z hR hx hy hz => by
  have e1 : x = .ref b := hx
  subst e1
  obtain ⟨t, rfl⟩ := hy
  obtain ⟨o, h1, ⟨vs, n, rfl, h3⟩, h4⟩ := hR.muGet (a := b) (mo := .lst ds) (by rw [hm]; simp)
  have hlen := h3.length
  refine ki_setAt (items := vs.toArray) h1 h0 (by omega) (by simp; omega) ⟨g, _, .rfl, hR.muUpd (t := s.toks) hm (fun b o hb e => (Heap.SameBut.update ..).extBut b o hb e) (PySem.IsL.update h1 _) (mo' := .lst (ds.set i.toNat d)) ⟨vs.set i.toNat z, n, ?_, h3.set hz⟩, h⟩
  simp [seqO, W.listOf]
theorem ex_setsub {o i value : Expr} {p pos : Pos} {Q : Fl → AS → Prop} (h : Ev c X S (eval value env) (fun v S1 => Ev c X S1 (eval o env) (fun a S2 => Ev c X S2 (eval i env) (fun j S3 => St c X S3 a j v (fun S4 => Q .next S4)))))
    (hs : swapsWith value (some (.Subscript o i p)) pos.line env = pure false := by rfl) : Ex c X S (exec (.Assign [.Subscript o i p] value pos) env) Q := fun g R s hR => by
  refine wpAny_Assign_Subscript (Po.go (h g R s hR) (fun v s1 g1 a S1 h1 h2 h3 h4 => ?_)) hs
  refine Po.go (h4 g1 R s1 h2) (fun ov s2 g2 a2 S2 q1 q2 q3 q4 => ?_)
  refine Po.go (q4 g2 R s2 q2) (fun iv s3 g3 a3 S3 z1 z2 z3 z4 => ?_)
  exact Pa.go (z4 g3 R s3 ov iv v z2 (q3.mono z1) z3 ((h3.mono q1).mono z1)) (fun _ s4 g4 S4 y1 y2 y3 => ⟨g4, .next, S4, ((h1.trans q1).trans z1).trans y1, y2, rfl, y3⟩)
theorem ex_augsub {o i value : Expr} {p pos : Pos} {op : Operator} {Q : Fl → AS → Prop} (h : Ev c X S (eval o env) (fun a S1 => Ev c X S1 (eval i env) (fun j S2 => ∃ k kvs d, j = .str k ∧ DV S2 a kvs ∧ getK kvs k = some d ∧ Ev c X S2 (eval value env) (fun v S3 => Op2 c X S3 (inplaceOp op) (.dat d) v (fun r S4 => St c X S4 a (.str k) r (fun S5 => Q .next S5))))))
    (hi : ∀ ov iv new, augStore i ov iv new = (do holding [new, ov, iv] (setItem ov iv new); release [new, ov, iv] []; pure .next) := by intros; rfl) : Ex c X S (exec (.AugAssign (.Subscript o i p) op value pos) env) Q := fun g R s hR => by
  refine wpAny_AugAssign_SubscriptAny (Po.go (h g R s hR) (fun ov s1 g1 a S1 h1 h2 h3 h4 => ?_)) hi
  refine Po.go (h4 g1 R s1 h2) (fun iv s2 g2 a2 S2 q1 q2 q3 hz3 => ?_)
  obtain ⟨k, kvs, d, e, hd, hk, q4⟩ := hz3
  subst e
  obtain ⟨b, ps, rfl, k0, k1, k2⟩ := dvAt q2 hd (h3.mono q1)
  obtain ⟨t, rfl⟩ := q3
  rcases k2.get k with ⟨e1, _⟩ | ⟨d', w, e1, e2, e3⟩
  · rw [e1] at hk; cases hk
  rw [hk] at e1
  cases e1
  refine wpAny_getItem_of (strKind_is _ _ _ _) k1.mapOf e2 ?_
  refine Po.go (q4 g2 R _ q2.toks) (fun v s3 g3 a3 S3 z1 z2 z3 z4 => ?_)
  refine Po.go (z4 g3 R s3 w v z2 (Rd.mono z1 _ e3) z3) (fun nw s4 g4 a4 S4 y1 y2 y3 y4 => ?_)
  exact Pa.go (y4 g4 R s4 (.ref b) (.str k t) nw y2 (((h3.mono q1).mono z1).mono y1) ⟨t, rfl⟩ y3) (fun _ s5 g5 S5 x1 x2 x3 => ⟨g5, .next, S5, (((h1.trans q1).trans z1).trans y1).trans x1, x2, rfl, x3⟩)
theorem ex_expr {e : Expr} {pos : Pos} {Q : Fl → AS → Prop} (h : Ev c X S (eval e env) (fun a S1 => a = .none ∧ Q .next S1)) (hi : interactive env = false := by rfl) (hs : swapsWith e none pos.line env = pure false := by rfl) : Ex c X S (exec (.Expr e pos) env) Q := fun g R s hR =>
  wpAny_Expr (Po.go (h g R s hR) (fun v s1 g1 a S1 h1 h2 h3 hz4 => by
    obtain ⟨h4, h5⟩ := hz4
    subst h4
    have e : v = .none := h3
    subst e
    exact ⟨g1, .next, S1, h1, h2, rfl, h5⟩)) hi hs

theorem ev_dict0 {pos : Pos} (h : Q (.dat (.dct [])) S) : Ev c X S (eval (.Dict [] [] pos) env) Q := fun g R s hR => by
  have hp := hR.pushF (o := { cls := .type "dict", data := .dict #[] }) (t := s.toks) rfl
  obtain ⟨o, ho, hd⟩ := Heap.dictOf_iff.mp (Heap.DictOf.new (knd := PySem.strKind P0 c.w) s.heap)
  rw [Heap.get?_push_size _ rfl] at ho
  cases ho
  exact wpAny_Dict_empty ⟨_, .dat (.dct []), S, hp.2, hp.1, ⟨_, _, [], rfl, hR.sizeOk, G.put_self _ _ _, hd, by rw [RdK]⟩, h⟩
theorem ev_dict0m {pos : Pos} (h : ∀ a, Q (.obj a) (S.rew ((a, .dct []) :: S.mu))) : Ev c X S (eval (.Dict [] [] pos) env) Q := fun g R s hR => by
  obtain ⟨o, ho, hd⟩ := Heap.dictOf_iff.mp (Heap.DictOf.new (knd := PySem.strKind P0 c.w) s.heap)
  rw [Heap.get?_push_size _ rfl] at ho
  cases ho
  exact wpAny_Dict_empty ⟨g, .obj _, _, .rfl, hR.muPush (t := s.toks) (mo := .dct []) rfl ⟨[], hd, by rw [RdK]⟩, rfl, h _⟩
theorem ev_listm {elts : List Expr} {pos : Pos} (h : Evs c X S (spliced (backTo pos (starEach elts env))) (fun as S1 => ∃ ds, as = ds.map .dat ∧ ds.length ≤ 100 ∧ ∀ a, Q (.obj a) (S1.rew ((a, .lst ds) :: S1.mu)))) : Ev c X S (eval (.List elts pos) env) Q := fun g R s hR =>
  wpAny_List (Po.go (h g R s hR) (fun vs s1 g1 as S1 h1 h2 h3 hz5 => by
    obtain ⟨ds, e, hl, hq⟩ := hz5
    have hr := rdL_of h3 e
    have hlen := hr.length
    exact ⟨by rw [sizeLine_eq]; omega, g1, .obj _, _, h1, h2.muPush (t := s1.toks) (mo := .lst ds) (o := seqO "list" vs 0) rfl ⟨vs, 0, rfl, hr⟩, rfl, hq _⟩))
end
structure Cov (S S' : AS) : Prop where
  loc : LocSub S.loc S'.loc
  mu : S'.mu = S.mu
  gens : S'.gens = S.gens
section
variable {c : Cx} {X : Fm} {S : AS}
theorem Rel.cov {R : Ld} {g : G} {s : Shared} {S' : AS} (h : Rel c X R g s S') (hc : Cov S S') : Rel c X R g s S := by
  obtain ⟨h1, h2, h3⟩ := hc
  have := h.locs h1
  rw [h2, h3] at this
  exact this
theorem Wp.cov {α β : Type} {r : G → β → α → Prop} {S' : AS} {t : Sem α} {Q : β → AS → Prop} (hc : Cov S S') (h : Wp c X r S t Q) : Wp c X r S' t Q := fun g R s hR => h g R s (hR.cov hc)
theorem Asg.cov {S' : AS} {target : Expr} {a : AV} {K : AS → Prop} (hc : Cov S S') (h : Asg c X S target a K) : Asg c X S' target a K := fun g R s v hR hv => h g R s v (hR.cov hc) hv
theorem Asg.mono {target : Expr} {a : AV} {K K' : AS → Prop} (h : Asg c X S target a K) (hk : ∀ S', K S' → K' S') : Asg c X S target a K' := fun g R s v hR hv =>
  wpAny_mono (h g R s v hR hv) (fun _ _ h => let ⟨g', S', h1, h2, h3⟩ := h; ⟨g', S', h1, h2, hk _ h3⟩) fun _ _ x => x
/-- what follows a turn -/
noncomputable def LK (J : AS → Prop) (Q : Fl → AS → Prop) (f : Fl) (S3 : AS) : Prop := match f with | .next => ∃ S4, J S4 ∧ Cov S4 S3 | .brk => Q .next S3 | .ret d => Q (.ret d) S3
theorem lk_next {J : AS → Prop} {Q : Fl → AS → Prop} {S4 : AS} (h : J S4) (hc : Cov S4 S) : LK J Q .next S := ⟨S4, h, hc⟩
theorem lk_brk {J : AS → Prop} {Q : Fl → AS → Prop} (h : Q .next S) : LK J Q .brk S := h
theorem lk_ret {J : AS → Prop} {Q : Fl → AS → Prop} {d : AV} (h : Q (.ret d) S) : LK J Q (.ret d) S := h
theorem ex_forJ {α : Type} {Q : Fl → AS → Prop} {target iter : Expr} {body : List Stmt} {pos : Pos} (l : List α) (e : α → AV) (J : Nat → AS → Prop)
    (h : Ev c X S (eval iter X.env) (fun a S1 => Src0 c target a (l.map e) ∧ (∃ S0, J 0 S0 ∧ Cov S0 S1) ∧
      (∀ i x S', l[i]? = some x → J i S' → Asg c X S' target (e x) (fun S2 => Ex c X S2 (execs body X.env) (LK (J (i + 1)) Q))) ∧
      ∀ S', J l.length S' → Q .next S'))
    (hq : ∀ S' S'', Cov S' S'' → Q .next S' → Q .next S'')
    (hs : ∀ x, foldedSetIterable iter X.env x = pure x := by intro _; rfl) : Ex c X S (exec (.For target iter body [] pos) X.env) Q := by
  refine ex_for (Wp.mono h fun a S1 hh => ?_) hs
  obtain ⟨src, ⟨S0, j0, hc0⟩, turn, fin⟩ := hh
  refine ⟨l.map e, fun i S' => ∃ S0, J i S0 ∧ Cov S0 S', src, ⟨S0, j0, hc0⟩, fun i b S' hb hJ => ?_, fun S' hJ => ?_⟩
  · obtain ⟨S0, hJ, hc⟩ := hJ
    rw [List.getElem?_map] at hb
    obtain ⟨x, hx, rfl⟩ := Option.map_eq_some_iff.mp hb
    refine Asg.cov hc (Asg.mono (turn i x S0 hx hJ) fun S2 h2 => Wp.mono h2 fun f S3 h3 => ?_)
    cases f <;> exact h3
  · obtain ⟨S0, hJ, hc⟩ := hJ
    rw [List.length_map] at hJ
    exact hq S0 S' hc (fin S0 hJ)
/-- what a clause's turn asks -/
noncomputable def Turn (c : Cx) (X : Fm) (S : AS) (target : Expr) (ifs : List Expr) (elt : Expr) (a : AV) (o : Option D) : Prop :=
  Asg c X S target a (fun S2 => Ts c X S2 ifs (fun ok S3 => if ok then Ev c X S3 (eval elt X.env) (fun y S4 => (∃ d, o = some d ∧ y = .dat d) ∧ Cov S S4) else o = none ∧ Cov S S3))
theorem take_succ_filterMap {α β : Type} {l : List α} {f : α → Option β} {i : Nat} {x : α} (h : l[i]? = some x) : (l.take (i + 1)).filterMap f = (l.take i).filterMap f ++ (f x).toList := by
  rw [List.take_add_one, h, List.filterMap_append]
  congr 1
end
mutual
noncomputable def pyOf : D → PyData
  | .none => .none
  | .bool b => .bool b
  | .int i => .int i
  | .str x => .str x
  | .lst xs => .list (pyOfL xs)
  | .tup xs => .tuple (pyOfL xs)
  | .dct _ => .dict []
noncomputable def pyOfL : List D → List PyData
  | [] => []
  | d :: r => pyOf d :: pyOfL r
end
mutual
theorem reads_of {w : World} {g : G} {h : Heap} (hg : ∀ a o, g a = some o → h.get? a = some o) : ∀ (d : D) {v : Value}, (pyOf d).canLay0 = true → Rd w g d v → ∃ as, Reads h v (pyOf d) as
  | .none, _, _, hr => by have e : _ = Value.none := hr; subst e; exact ⟨_, .none⟩
  | .bool b, _, _, hr => by have e : _ = Value.bool b := hr; subst e; exact ⟨_, .bool b⟩
  | .int i, _, _, hr => by obtain ⟨t, rfl⟩ := hr; exact ⟨_, .int i t⟩
  | .str x, _, _, hr => by obtain ⟨t, rfl⟩ := hr; exact ⟨_, .str x t⟩
  | .lst xs, _, hc, hr => by
    obtain ⟨a, vs, n, rfl, h1, h2⟩ := hr
    obtain ⟨as, q⟩ := readsL_of hg xs hc h2
    exact ⟨_, .list (hg _ _ h1) rfl rfl q⟩
  | .tup xs, _, hc, hr => by
    obtain ⟨a, vs, n, rfl, h1, h2⟩ := hr
    obtain ⟨as, q⟩ := readsL_of hg xs hc h2
    exact ⟨_, .tuple (hg _ _ h1) rfl rfl q⟩
  | .dct _, _, hc, _ => nomatch hc
theorem readsL_of {w : World} {g : G} {h : Heap} (hg : ∀ a o, g a = some o → h.get? a = some o) : ∀ (ds : List D) {vs : List Value}, PyData.canLayAll0 (pyOfL ds) = true → RdL w g ds vs → ∃ as, ReadsAll h vs (pyOfL ds) as
  | [], _, _, hr => by rw [RdL] at hr; subst hr; exact ⟨_, .nil⟩
  | d :: ds, _, hc, hr => by
    rw [RdL] at hr
    obtain ⟨v, vs', rfl, h1, h2⟩ := hr
    have hc' : (pyOf d).canLay0 = true ∧ PyData.canLayAll0 (pyOfL ds) = true := Bool.and_eq_true_iff.mp hc
    obtain ⟨as, q1⟩ := reads_of hg d hc'.1 h1
    obtain ⟨bs, q2⟩ := readsL_of hg ds hc'.2 h2
    exact ⟨_, .cons q1 q2⟩
end
theorem pyOf_ints : ∀ xs : List Int, pyOfL (xs.map .int) = xs.map PyData.int
  | [] => rfl
  | x :: r => by rw [List.map_cons, pyOfL, pyOf, pyOf_ints r]; rfl
theorem canLay_ints : ∀ xs : List Int, PyData.canLayAll0 (pyOfL (xs.map .int)) = true
  | [] => rfl
  | x :: r => by rw [List.map_cons, pyOfL, PyData.canLayAll0, canLay_ints r]; rfl
theorem eqv_ints : ∀ xs ys : List Int, PyData.eqvAll (pyOfL (xs.map .int)) (pyOfL (ys.map .int)) = decide (xs = ys)
  | [], [] => rfl
  | [], _ :: _ => rfl
  | _ :: _, [] => rfl
  | x :: xs, y :: ys => by
    rw [List.map_cons, List.map_cons, pyOfL, pyOfL, PyData.eqvAll, eqv_ints xs ys]
    show ((x == y) && _) = _
    by_cases h : x = y
    · subst h; simp
    · simp [h]
theorem eqv_nil (xs : List D) : PyData.eqvAll (pyOfL xs) (pyOfL []) = xs.isEmpty := by cases xs <;> rfl

section
variable {c : Cx} {X : Fm} {S : AS} {Q : AV → AS → Prop}
theorem Fm.room {n : Nat} (h : n ≤ 64) : X.A.units + n < cLine := by have := X.ok.un; omega
theorem Rel.wdfz {R : Ld} {g : G} {s : Shared} (h : Rel c X R g s S) : ∀ a o, g a = some o → s.heap.get? a = some o := fun _ _ e => h.fz e
/-- what reads as data just now -/
noncomputable def Now (S : AS) (a : AV) (d : D) : Prop := a = .dat d ∨ ∃ b ds, a = .obj b ∧ d = .lst ds ∧ (b, .lst ds) ∈ S.mu
theorem nowReads {R : Ld} {g : G} {s : Shared} (h : Rel c X R g s S) {a : AV} {d : D} {v : Value} (hn : Now S a d) (hv : AVr c.w g a v) (hc : (pyOf d).canLay0 = true) : ∃ as, Reads s.heap v (pyOf d) as := by
  rcases hn with rfl | ⟨b, ds, rfl, rfl, hm⟩
  · exact reads_of h.wdfz d hc hv
  · have e : v = .ref b := hv
    subst e
    obtain ⟨o, h1, ⟨vs, n, rfl, h3⟩, _⟩ := h.muGet hm
    obtain ⟨as, q⟩ := readsL_of h.wdfz ds hc h3
    exact ⟨_, .list h1 rfl rfl q⟩
theorem op_eqN {a b : AV} {d e : D} (ha : Now S a d) (hb : Now S b e) (ca : (pyOf d).canLay0 = true) (cb : (pyOf e).canLay0 = true) (hd : (pyOf e).depth ≤ 64) (h : Q (.bool (PyData.eqv (pyOf d) (pyOf e))) S) : Op2 c X S (compareOp .Eq) a b Q := fun g R s v u hR hv hu => by
  obtain ⟨_, r1⟩ := nowReads hR ha hv ca
  obtain ⟨_, r2⟩ := nowReads hR hb hu cb
  exact SeqAt.compareEq_reads r1 r2 ca cb (Nat.lt_of_le_of_lt (Nat.add_le_add_left (Nat.min_le_right _ _) _) (X.room hd)) ⟨g, .bool _, S, .rfl, hR, rfl, h⟩
theorem op_neN {a b : AV} {d e : D} (ha : Now S a d) (hb : Now S b e) (ca : (pyOf d).canLay0 = true) (cb : (pyOf e).canLay0 = true) (hd : (pyOf e).depth ≤ 64) (h : Q (.bool (!PyData.eqv (pyOf d) (pyOf e))) S) : Op2 c X S (compareOp .NotEq) a b Q := fun g R s v u hR hv hu => by
  obtain ⟨_, r1⟩ := nowReads hR ha hv ca
  obtain ⟨_, r2⟩ := nowReads hR hb hu cb
  exact SeqAt.compareNe_reads r1 r2 ca cb (Nat.lt_of_le_of_lt (Nat.add_le_add_left (Nat.min_le_right _ _) _) (X.room hd)) ⟨g, .bool _, S, .rfl, hR, rfl, h⟩

theorem cl_len {a : AV} {ds : List D} (hl : LV S a ds) (hs : ds.length ≤ 100000) (h : Q (.int (ds.length : Nat)) S) : Cl c X S (.builtin "len") [a] Q := fun g R s vs hR hv => by
  obtain ⟨v1, r1, rfl, q1, e⟩ := hv
  have e' : r1 = [] := e
  subst e'
  obtain ⟨b, vs, n, rfl, h1, h1', h2⟩ := lvAt hR hl q1
  have hlen := h2.length
  refine PySem.Calls.call_len_list h1' (by simp; omega) ⟨g, .int (ds.length : Nat), S, .rfl, hR.toks, ⟨s.toks + 1, by simp [hlen]⟩, h⟩
theorem cl_max {i j : Int} (h : Q (.int (if j > i then j else i)) S) : Cl c X S (.builtin "max") [.int i, .int j] Q := fun g R s vs hR hv => by
  obtain ⟨v1, r1, rfl, ⟨t, rfl⟩, v2, r2, rfl, ⟨u, rfl⟩, e⟩ := hv
  have e' : r2 = [] := e
  subst e'
  refine max_two_ints X.ok.hd fun h' tk hk => ⟨g, .int (if j > i then j else i), S, .rfl, hR.keeps hk, ?_, h⟩
  by_cases hij : j > i
  · rw [if_pos hij, if_pos hij]; exact ⟨u, rfl⟩
  · rw [if_neg hij, if_neg hij]; exact ⟨t, rfl⟩
theorem cl_min {i j : Int} (h : Q (.int (if j < i then j else i)) S) : Cl c X S (.builtin "min") [.int i, .int j] Q := fun g R s vs hR hv => by
  obtain ⟨v1, r1, rfl, ⟨t, rfl⟩, v2, r2, rfl, ⟨u, rfl⟩, e⟩ := hv
  have e' : r2 = [] := e
  subst e'
  refine min_two_ints X.ok.hd fun h' tk hk => ⟨g, .int (if j < i then j else i), S, .rfl, hR.keeps hk, ?_, h⟩
  by_cases hij : j < i
  · rw [if_pos hij, if_pos hij]; exact ⟨u, rfl⟩
  · rw [if_neg hij, if_neg hij]; exact ⟨t, rfl⟩
theorem rdInts {w : World} {g : G} : ∀ {xs : List Int} {vs : List Value}, RdL w g (xs.map .int) vs → ∃ ps : List (Int × Tok), vs = ps.map (fun p => .int p.1 p.2) ∧ ps.map Prod.fst = xs
  | [], _, h => by rw [List.map_nil, RdL] at h; subst h; exact ⟨[], rfl, rfl⟩
  | x :: xs, _, h => by
    rw [List.map_cons, RdL] at h
    obtain ⟨v, vs', rfl, ⟨t, rfl⟩, h2⟩ := h
    obtain ⟨ps, rfl, rfl⟩ := rdInts h2
    exact ⟨(x, t) :: ps, rfl, rfl⟩
theorem cl_sum {xs : List Int} (h : Q (.int xs.sum) S) : Cl c X S (.builtin "sum") [.dat (.lst (xs.map .int))] Q := fun g R s vs hR hv => by
  obtain ⟨v1, r1, rfl, q1, e⟩ := hv
  have e' : r1 = [] := e
  subst e'
  obtain ⟨b, vs, n, rfl, h1, h1', h2⟩ := lstAt hR q1
  obtain ⟨ps, rfl, rfl⟩ := rdInts h2
  have e1 : (ps.map fun p => Value.int p.1 p.2).toArray = intItems ps.toArray := by simp [intItems]
  rw [e1] at h1'
  refine sum_intListG X.ok.hd h1' fun h' tk t' hk => ⟨g, .int _, S, .rfl, hR.keeps hk, ⟨t', rfl⟩, ?_⟩
  rw [preSum_eq, List.take_of_length_le (by simp)]
  exact h
noncomputable def intIs (i : Int) : Value → Bool
  | .int j _ => j == i
  | _ => false
noncomputable def strIs (i : Str) : Value → Bool
  | .str j _ => j == i
  | _ => false
theorem countP_ints {i : Int} : ∀ ps : List (Int × Tok), (ps.map fun p => Value.int p.1 p.2).countP (intIs i) = (ps.map Prod.fst).count i
  | [] => rfl
  | p :: r => by
    rw [List.map_cons, List.map_cons, List.countP_cons, List.count_cons, countP_ints r]; rfl
theorem cl_countI {xs : List Int} {i : Int} (h : Q (.int (xs.count i : Nat)) S) : Cl c X S (.builtin "list.count") [.dat (.lst (xs.map .int)), .int i] Q := fun g R s vs hR hv => by
  obtain ⟨v1, r1, rfl, q1, v2, r2, rfl, ⟨u, rfl⟩, en⟩ := hv
  have e' : r2 = [] := en
  subst e'
  obtain ⟨b, vs, n, rfl, h1, h1', h2⟩ := lstAt hR q1
  obtain ⟨ps, rfl, rfl⟩ := rdInts h2
  refine call_meets F.slot_list_count h1'.typeIs F.entry_list_count (F.args_list_count_2 _ _) (SeqAt.list_countAt b _ n none #[] (.int i u) (intIs i)) ⟨h1, fun y hy => ?_, ⟨g, .int _, S, .rfl, hR.toks, ⟨s.toks, rfl⟩, ?_⟩⟩
  · obtain ⟨p, _, rfl⟩ := List.mem_map.mp (List.mem_toArray.mp hy)
    exact SeqAt.EqAt.int_int _ _ _ _
  · have e3 := countP_ints (i := i) ps
    rw [← e3] at h
    exact h
theorem rdStrs {w : World} {g : G} : ∀ {xs : List Str} {vs : List Value}, RdL w g (xs.map .str) vs → ∃ ps : List (Str × Tok), vs = ps.map (fun p => .str p.1 p.2) ∧ ps.map Prod.fst = xs
  | [], _, h => by rw [List.map_nil, RdL] at h; subst h; exact ⟨[], rfl, rfl⟩
  | x :: xs, _, h => by
    rw [List.map_cons, RdL] at h
    obtain ⟨v, vs', rfl, ⟨t, rfl⟩, h2⟩ := h
    obtain ⟨ps, rfl, rfl⟩ := rdStrs h2
    exact ⟨(x, t) :: ps, rfl, rfl⟩
theorem countP_strs {i : Str} : ∀ ps : List (Str × Tok), (ps.map fun p => Value.str p.1 p.2).countP (strIs i) = (ps.map Prod.fst).count i
  | [] => rfl
  | p :: r => by
    rw [List.map_cons, List.map_cons, List.countP_cons, List.count_cons, countP_strs r]; rfl
theorem cl_countS {xs : List Str} {i : Str} (h : Q (.int (xs.count i : Nat)) S) : Cl c X S (.builtin "list.count") [.dat (.lst (xs.map .str)), .str i] Q := fun g R s vs hR hv => by
  obtain ⟨v1, r1, rfl, q1, v2, r2, rfl, ⟨u, rfl⟩, en⟩ := hv
  have e' : r2 = [] := en
  subst e'
  obtain ⟨b, vs, n, rfl, h1, h1', h2⟩ := lstAt hR q1
  obtain ⟨ps, rfl, rfl⟩ := rdStrs h2
  refine call_meets F.slot_list_count h1'.typeIs F.entry_list_count (F.args_list_count_2 _ _) (SeqAt.list_countAt b _ n none #[] (.str i u) (strIs i)) ⟨h1, fun y hy => ?_, ⟨g, .int _, S, .rfl, hR.toks, ⟨s.toks, rfl⟩, ?_⟩⟩
  · obtain ⟨p, _, rfl⟩ := List.mem_map.mp (List.mem_toArray.mp hy)
    exact SeqAt.EqAt.str_str _ _ _ _
  · have e3 := countP_strs (i := i) ps
    rw [← e3] at h
    exact h
theorem op_inT {xs : List Int} {i : Int} (h : Q (.bool (xs.any (· == i))) S) : Op2 c X S (compareOp .In) (.int i) (.dat (.tup (xs.map .int))) Q := fun g R s v u hR hv hu => by
  obtain ⟨t, rfl⟩ := hv
  obtain ⟨b, vs, n, rfl, h1, h2⟩ := tupAt hR hu
  obtain ⟨ps, rfl, rfl⟩ := rdInts h2
  refine SeqAt.in_tupleAt (intIs i) ⟨_, h1, rfl, n, rfl⟩ (fun y hy => ?_) ⟨g, .bool _, S, .rfl, hR, rfl, ?_⟩
  · obtain ⟨p, _, rfl⟩ := List.mem_map.mp (List.mem_toArray.mp hy)
    exact SeqAt.EqAt.int_int _ _ _ _
  · have e3 : ((ps.map fun p => Value.int p.1 p.2).toArray.any (intIs i)) = ((ps.map Prod.fst).any (· == i)) := by
      rw [List.any_toArray, List.any_map, List.any_map]; rfl
    rw [e3]; exact h
theorem RdL.rep {w : World} {g : G} {ds : List D} {vs : List Value} (h : RdL w g ds vs) : ∀ k : Nat, RdL w g (List.replicate k ds).flatten (List.replicate k vs).flatten
  | 0 => .nil
  | k + 1 => by
    rw [List.replicate_succ, List.replicate_succ, List.flatten_cons, List.flatten_cons]
    exact h.append (RdL.rep h k)
theorem op_mulL {xs : List D} {i : Int} (h0 : 0 ≤ i) (hi : i ≤ 1000) (hl : xs.length ≤ 1000) (h : Q (.dat (.lst (List.replicate i.toNat xs).flatten)) S) : Op2 c X S (binaryOp .Mult) (.dat (.lst xs)) (.int i) Q := fun g R s v u hR hv hu => by
  obtain ⟨a, vs, n, rfl, h1, h1', h2⟩ := lstAt hR hv
  obtain ⟨t, rfl⟩ := hu
  have hlen := h2.length
  have hb : vs.length * i.toNat ≤ 1000 * 1000 := Nat.mul_le_mul (by omega) (by omega)
  have hsz' : vs.toArray.size * i.toNat ≤ 2 ^ 24 := by simp; omega
  refine wpAny_binaryOp_repeat_ref (T := "list") (U := "int") (by decide) h1'.typeIs (fun s' => typeIs_int s' i t) noFill_list_mul F.fills_int_mul F.slot_int_rmul repeat_list F.slot_int_index.lookup
    (call_meets F.slot_int_rmul (typeIs_int s i t) F.entry_int_rmul (F.args_int_rmul_2 _ _) (lm_int_rmul_list_any i t a vs.toArray n none #[])
      ⟨h1, rfl, h1'.typeIs, call_meets F.slot_list_mul h1'.typeIs F.entry_list_mul (F.args_list_mul_2 _ _)
        (lm_list_mul_any a vs.toArray n none #[] i t (by simp [Builtin.List.listFitsIndex]; omega) (by omega) (by simp [Builtin.List.listTooLong, sizeLine]; omega))
        ⟨h1, ?_⟩⟩)
  have hp := hR.pushF (o := seqO "list" (List.replicate i.toNat vs).flatten 0) (t := s.toks) rfl
  rw [listMul_foldl_if]
  exact ⟨_, .dat (.lst _), S, hp.2, hp.1, ⟨_, _, 0, rfl, G.put_self _ _ _, (h2.mono hp.2).rep _⟩, h⟩
theorem rdL_ints {w : World} {g : G} : ∀ ps : List (Int × Tok), RdL w g ((ps.map Prod.fst).map .int) (ps.map fun p => .int p.1 p.2)
  | [] => .nil
  | p :: r => ⟨_, _, rfl, ⟨_, rfl⟩, rdL_ints r⟩
theorem eraseIdx_mapL {α β : Type} {f : α → β} : ∀ {l : List α} {j : Nat}, (l.map f).eraseIdx j = (l.eraseIdx j).map f
  | [], _ => by simp
  | _ :: _, 0 => by simp
  | x :: r, j + 1 => by simp [eraseIdx_mapL (l := r) (j := j)]
theorem first_at {xs : List Int} {i : Int} (h : i ∈ xs) : ∃ j, ∃ hj : j < xs.length, xs[j] = i ∧ ∀ m, m < j → ∀ hm : m < xs.length, xs[m] ≠ i := by
  induction xs with
  | nil => cases h
  | cons x r ih =>
    by_cases e : x = i
    · exact ⟨0, by simp, e, fun m hm => absurd hm (Nat.not_lt_zero _)⟩
    · obtain ⟨j, hj, h1, h2⟩ := ih ((List.mem_cons.mp h).resolve_left fun z => e z.symm)
      refine ⟨j + 1, by simpa using hj, by simpa using h1, fun m hm hm' => ?_⟩
      cases m with
      | zero => exact e
      | succ m => exact h2 m (by omega) (by simpa using hm')
theorem erase_first {xs : List Int} {i : Int} : ∀ {j : Nat} (hj : j < xs.length), xs[j] = i → (∀ m, m < j → ∀ hm : m < xs.length, xs[m] ≠ i) → xs.erase i = xs.eraseIdx j := by
  induction xs with
  | nil => intro j hj; cases hj
  | cons x r ih =>
    intro j hj h1 h2
    cases j with
    | zero => have e : x = i := h1; subst e; simp
    | succ j =>
      have hx : x ≠ i := h2 0 (by omega) (by simp)
      rw [List.erase_cons_tail (by simpa using hx), List.eraseIdx_cons_succ]
      rw [ih (by simpa using hj) (by simpa using h1) fun m hm hm' => h2 (m + 1) (by omega) (by simpa using hm')]
theorem cl_remove {b : Addr} {xs : List Int} {i : Int} {pre post : List (Addr × MO)} (hm : S.mu = pre ++ (b, .lst (xs.map .int)) :: post) (hl : xs.length ≤ 100000) (hi : i ∈ xs) (h : Q .none (S.rew (pre ++ (b, .lst ((xs.erase i).map .int)) :: post))) : Cl c X S (.builtin "list.remove") [.obj b, .int i] Q := fun g R s vs hR hv => by
  obtain ⟨v1, r1, rfl, q1, v2, r2, rfl, ⟨u, rfl⟩, en⟩ := hv
  have e' : r2 = [] := en
  subst e'
  have e1 : v1 = .ref b := q1
  subst e1
  obtain ⟨o, h1, ⟨vs, n, rfl, h3⟩, h4⟩ := hR.muGet (a := b) (mo := .lst (xs.map .int)) (by rw [hm]; simp)
  obtain ⟨ps, rfl, rfl⟩ := rdInts h3
  obtain ⟨j, hj, hat, hno⟩ := first_at hi
  have hj' : j < ps.length := by simpa using hj
  have hsz : (ps.map fun p => Value.int p.1 p.2).toArray.size = ps.length := by simp
  refine call_meets F.slot_list_remove ⟨_, h1, rfl⟩ F.entry_list_remove (F.args_list_remove_2 _ _) (MeetsSeq.list_remove b _ n (.int i u) (intIs i) (fun y hy => ?_) j (by rw [hsz]; exact hj') ?_ ?_ (by rw [sizeLine_eq, hsz]; simp at hl; omega)) ⟨h1, ?_⟩
  · obtain ⟨p, _, rfl⟩ := List.mem_map.mp (List.mem_toArray.mp hy)
    exact MeetsSeq.EqGives.int _ _ _ _
  · have : (ps[j]).1 = i := by simpa using hat
    simp [intIs, this]
  · intro m hm hmj
    have := hno m hmj (by rw [hsz] at hm; simpa using hm)
    simpa [intIs] using this
  · have hu := PySem.IsL.update h1 (fun xs => xs.eraseIdxIfInBounds j)
    have ea : (ps.map fun p => Value.int p.1 p.2).toArray.eraseIdxIfInBounds j = ((ps.eraseIdx j).map fun p => Value.int p.1 p.2).toArray := by
      simp [eraseIdx_mapL]
    rw [ea] at hu
    refine ⟨g, .none, _, .rfl, hR.muUpd (t := s.toks) hm (fun b o hb e => (Heap.SameBut.update ..).extBut b o hb e) hu (mo' := .lst (((ps.map Prod.fst).erase i).map .int)) ⟨(ps.eraseIdx j).map (fun p => .int p.1 p.2), _, rfl, ?_⟩, rfl, h⟩
    rw [erase_first hj hat hno, eraseIdx_mapL]
    exact rdL_ints _
end
section
variable {c : Cx} {X : Fm} {S : AS}
/-- names that take a list of values in turn -/
inductive Nms (X : Fm) : List Expr → List Str → Prop
  | nil : Nms X [] []
  | cons {x : Str} {p : Pos} {es : List Expr} {xs : List Str} : Fine X x → Nms X es xs → Nms X (.Name x p :: es) (x :: xs)
noncomputable def AS.sets (S : AS) : List Str → List D → AS
  | x :: xs, d :: ds => (S.set x (.dat d)).sets xs ds
  | _, _ => S
theorem io_names {K : AS → Prop} : ∀ {es : List Expr} {xs : List Str}, Nms X es xs → ∀ {ds : List D} {vs : List Value} {g : G} {R : Ld} {s : Shared} {S : AS}, Rel c X R g s S → RdL c.w g ds vs → K (S.sets xs ds) → ds.length = xs.length →
    wpAny (M c) X.A (assignInOrder ((assignEach es X.env).map (·.2)) vs) (Pa c X R K g) No s
  | _, _, .nil, ds, vs, g, R, s, S, hR, hv, hk, hl => by
    cases ds with
    | nil => exact wpAny_pure ⟨g, S, .rfl, hR, hk⟩
    | cons => cases hl
  | _, _, .cons (x := x) (p := p) (es := es) (xs := xs) F rest, ds, vs, g, R, s, S, hR, hv, hk, hl => by
    cases ds with
    | nil => cases hl
    | cons d ds =>
      rw [RdL] at hv
      obtain ⟨v, vs', rfl, h1, h2⟩ := hv
      show wpAny _ _ (do holding vs' (assign (.Name x p) X.env v); assignInOrder ((assignEach es X.env).map (·.2)) vs') _ _ _
      refine wpAny_bind (wpAny_holding (wpAny_mono (wp_assignName (a := .dat d) (Q := fun S' => S' = S.set x (.dat d)) F rfl hR h1) (fun _ s2 hh => ?_) fun _ _ x => x))
      obtain ⟨g2, S2, q1, q2, q3⟩ := hh
      subst q3
      refine wpAny_mono (io_names rest q2 (h2.mono q1) hk (Nat.succ.inj hl)) (fun _ s3 hh => ?_) fun _ _ x => x
      obtain ⟨g3, S3, z1, z2, z3⟩ := hh
      exact ⟨g3, S3, q1.trans z1, z2, z3⟩
theorem asg_names {es : List Expr} {xs : List Str} {k : Nat} {p : Pos} {ds : List D} {K : AS → Prop} (hn : Nms X es xs) (hl : ds.length = xs.length) (h : K (S.sets xs ds)) (hle : (assignEach es X.env).length = xs.length := by rfl) (hst : (assignEach es X.env).findIdx? (·.1) = none := by rfl) : Asg c X S (.Tuple es k p) (.dat (.tup ds)) K := fun g R s v hR hv => by
  obtain ⟨a, vs, n, rfl, ha, hr⟩ := tupAt hR hv
  have hlen := hr.length
  refine wpAny_assign_Tuple (items := vs.toArray) X.ok.hd ⟨_, ha, rfl, n, rfl⟩ (by rw [hle, List.size_toArray]; omega) hst fun h' hx => ?_
  exact io_names hn (hR.keeps (t := s.toks) fun b o e => hx b o (Nat.ne_of_lt (Heap.lt_size e)) e) hr h hl
theorem ex_unpack {es : List Expr} {k : Nat} {tp pos : Pos} {value : Expr} {Q : Fl → AS → Prop} (h : Ev c X S (eval value X.env) (fun a S1 => Asg c X S1 (.Tuple es k tp) a (fun S2 => Q .next S2)))
    (hs : swapsWithSole [.Tuple es k tp] value pos.line X.env = pure false := by rfl) (hw : swappedStores [.Tuple es k tp] value X.env = pure none := by rfl) : Ex c X S (exec (.Assign [.Tuple es k tp] value pos) X.env) Q := fun g R s hR =>
  Assign_Tuple (wpAny_mono (h g R s hR) (fun v s1 hh => by
    obtain ⟨g1, a, S1, h1, h2, h3, h4⟩ := hh
    refine wpAny_mono (h4 g1 R s1 v h2 h3) (fun _ s2 hh => ?_) fun _ _ x => x
    obtain ⟨g2, S2, q1, q2, q3⟩ := hh
    exact ⟨g2, .next, S2, h1.trans q1, q2, rfl, q3⟩) fun _ _ x => x) hs hw

theorem pln_exact {o : Obj} (h1 : o.cls ≠ .none) (h2 : ∀ v, o.data ≠ .cell v) : Pln (fun x => x = o) := by
  refine ⟨fun m e => ?_, fun v e => ?_⟩
  · have z : NsP m o := by rw [← e]
    have z2 : NsP m { o with cls := .none } := z
    rw [← e] at z2
    exact h1 (by rw [← z2])
  · have z : cellP v o := by rw [← e]
    exact h2 v z
theorem ev_dict1 {ke ve : Expr} {pos : Pos} {Q : AV → AS → Prop} (h : Ev c X S (eval ke X.env) (fun k S1 => Ev c X S1 (eval ve X.env) (fun v S2 => ∃ x d, k = .str x ∧ v = .dat d ∧ Q (.dat (.dct [(x, d)])) S2))) :
    Ev c X S (eval (.Dict [some ke] [ve] pos) X.env) Q := fun g R s hR => by
  refine wpAny_Dict_pairs (knd := PySem.strKind P0 c.w) (pairs := [(eval ke X.env, do let x ← eval ve X.env; standAt pos; pure x)]) rfl (by simp) (by simp) ?_
  have hR1 := hR.tPush (o := { cls := .type "dict", data := .dict #[] }) (P := fun x => x = { cls := .type "dict", data := .dict #[] }) (t := s.toks) rfl rfl
  have hpl : ∀ {o : Obj} {kvs : List (Str × Value)}, o.IsDictOf (PySem.strKind P0 c.w) kvs → Pln (fun x => x = o) := fun ⟨es, ep, hx, hd, _⟩ => pln_exact (by rw [hx.1]; exact fun e => nomatch e) (fun v e => by rw [hd] at e; cases e)
  show wpAny _ _ (do let kv ← eval ke X.env; let vv ← holding [kv] (do let x ← eval ve X.env; standAt pos; pure x); pure ((kv, vv) :: (← holding [kv, vv] (pure [])))) _ _ _
  refine wpAny_bind (wpAny_mono (h g _ _ hR1) (fun kv s1 hh => ?_) fun _ _ x => x)
  obtain ⟨g1, ka, S1, h1, h2, h3, h4⟩ := hh
  refine wpAny_bind (wpAny_holding (wpAny_bind (wpAny_mono (h4 g1 _ s1 h2) (fun vv s2 hh => wpAny_bind (wpAny_standAt (wpAny_pure ?_))) fun _ _ x => x)))
  obtain ⟨g2, va, S2, q1, q2, q3, x, d, rfl, rfl, hq⟩ := hh
  refine wpAny_bind (wpAny_holding (wpAny_pure (wpAny_pure ?_)))
  obtain ⟨t, rfl⟩ := h3
  obtain ⟨o, ho, rfl⟩ := q2.tGet
  obtain ⟨oe, hoe, hde⟩ := Heap.dictOf_iff.mp (Heap.DictOf.new (knd := PySem.strKind P0 c.w) s.heap)
  rw [Heap.get?_push_size _ rfl] at hoe
  cases hoe
  refine ⟨[(x, vv)], ⟨strKind_is _ _ _ _, rfl, trivial⟩, Heap.dictOf_iff.mpr ⟨_, ho, hde⟩, fun h' hd' hs => ?_⟩
  obtain ⟨o', ho', hdo⟩ := Heap.dictOf_iff.mp hd'
  have q4 := q2.tUpd (P' := fun z => z = o') (t := s2.toks + 1) (fun b o hb e => hs.extBut b o hb e) ho' rfl (hpl hde)
  obtain ⟨o2, e2, k1, k2⟩ := q4.tFreeze (hpl hdo)
  subst e2
  refine ⟨_, .dat (.dct [(x, d)]), S2, (h1.trans q1).trans k1, k2, ⟨_, o2, [(x, vv)], rfl, hR.sizeOk, G.put_self _ _ _, hdo, ?_⟩, hq⟩
  exact ⟨vv, [], rfl, Rd.mono k1 _ q3, by rw [RdK]⟩
end
section
variable {c : Cx} {X : Fm} {R : Ld} {g : G} {s : Shared} {S : AS}
theorem Rel.muHide (h : Rel c X R g s S) {pre post : List (Addr × MO)} {a : Addr} {mo : MO} (hm : S.mu = pre ++ (a, mo) :: post) :
    ∃ o, MOr c.w g mo o ∧ (a == sysModules) = false ∧ Rel c X ((a, fun x => x = o) :: R) g s (S.rew (pre ++ post)) := by
  obtain ⟨m, cs, mol, tb, q⟩ := h
  have hmu := q.mut_
  rw [hm] at hmu
  obtain ⟨lp, o, lq, rfl, k0, k1, k2, k3, k4⟩ := hmu.split
  refine ⟨o, k1, k0, ⟨m, cs, lp ++ lq, tb, ⟨?_, q.loc.tail fun _ _ h => .tail _ h, q.cel, k2.append k3, q.gen, q.tbo, q.os, q.g0, q.fr.mono fun p hp => ?_⟩⟩⟩
  · have w : Wd g s.heap (((X.env.locals, NsP m) :: (cs.map cellE ++ lp.map exE)) ++ (a, fun x => x = o) :: (lq.map exE ++ (S.gens.flatMap GA.ents ++ ((114, fun o => o = tb) :: R)))) := by
      have := q.wd
      unfold ledger at this
      simpa [exE] using this
    refine w.perm (List.perm_middle.trans ?_)
    rw [ledger_eq]
    refine List.Perm.trans ?_ List.perm_middle.symm
    refine List.Perm.cons _ ?_
    unfold ledPre
    simp [AS.rew]
  · rcases List.mem_cons.mp hp with e | e
    · exact e ▸ .head _
    · exact .tail _ (.tail _ e)
theorem Rel.muShow {pre post : List (Addr × MO)} {a : Addr} {mo : MO} {o : Obj} (h : Rel c X ((a, fun x => x = o) :: R) g s S) (hm : S.mu = pre ++ post) (ho : MOr c.w g mo o) (ha : (a == sysModules) = false) (hpl : Pln (fun x => x = o)) :
    Rel c X R g s (S.rew (pre ++ (a, mo) :: post)) := by
  obtain ⟨m, cs, mol, tb, q⟩ := h
  have hmu := q.mut_
  rw [hm] at hmu
  have hsp : ∀ {pre post : List (Addr × MO)} {l : List (Addr × Obj)}, MutOk c.w g (pre ++ post) l → ∃ lp lq, l = lp ++ lq ∧ MutOk c.w g (pre ++ (a, mo) :: post) (lp ++ (a, o) :: lq) := by
    intro pre
    induction pre with
    | nil => intro post l h; exact ⟨[], l, rfl, ⟨o, l, rfl, ha, ho, h⟩⟩
    | cons p r ih =>
      obtain ⟨b, mb⟩ := p
      intro post l h
      obtain ⟨ob, l', rfl, h0, h1, h2⟩ := h
      obtain ⟨lp, lq, rfl, h3⟩ := ih h2
      exact ⟨(b, ob) :: lp, lq, rfl, ⟨ob, _, rfl, h0, h1, h3⟩⟩
  obtain ⟨lp, lq, rfl, h3⟩ := hsp hmu
  refine ⟨m, cs, lp ++ (a, o) :: lq, tb, ⟨?_, q.loc.tail fun b v h => (List.mem_cons.mp h).elim (fun e => absurd (Prod.mk.inj e).2.symm (hpl.2 v)) id, q.cel, h3, q.gen, q.tbo, q.os, q.g0, fun e he => ?_⟩⟩
  · have w := q.wd
    rw [ledger_eq] at w
    have w' := w.perm List.perm_middle
    have : ledger X.env.locals m cs (lp ++ (a, o) :: lq) S.gens tb R = ((X.env.locals, NsP m) :: (cs.map cellE ++ lp.map exE)) ++ (a, fun x => x = o) :: (lq.map exE ++ (S.gens.flatMap GA.ents ++ ((114, fun o => o = tb) :: R))) := by
      unfold ledger; simp [exE]
    show Wd g s.heap (ledger X.env.locals m cs (lp ++ (a, o) :: lq) S.gens tb R)
    rw [this]
    refine w'.perm (List.Perm.trans ?_ List.perm_middle.symm)
    refine List.Perm.cons _ ?_
    unfold ledPre
    simp
  · obtain ⟨f, m', h1, h2, h3⟩ := q.fr e he
    refine ⟨f, m', h1, h2, ?_⟩
    rcases List.mem_cons.mp h3 with z | z
    · exact z ▸ .head _
    · rcases List.mem_cons.mp z with z | z
      · exact absurd (Prod.mk.inj z).2.symm (hpl.1 m')
      · exact .tail _ z
theorem Rel.rGet (h : Rel c X R g s S) {a : Addr} {P : Obj → Prop} (hm : (a, P) ∈ R) : ∃ o, s.heap.get? a = some o ∧ P o := by
  obtain ⟨m, cs, mo, tb, q⟩ := h
  refine q.wd.get ?_
  rw [ledger_eq]
  exact List.mem_append_right _ hm
/-- sources that hang on a hidden object -/
noncomputable def SrcH (c : Cx) (target : Expr) (a : AV) (b : Addr) (mo : MO) (as : List AV) : Prop := ∀ X R g s S v o, Rel c X ((b, fun x => x = o) :: R) g s S → MOr c.w g mo o → AVr c.w g a v →
  wpAny (M c) X.A (pyIter v) (fun it s' => ∃ I ip g', it = .ref I ∧ G.le g g' ∧ Rel c X ((I, ip 0) :: (b, fun x => x = o) :: R) g' s' S ∧ ItOk c target I ip as g' (fun R => (b, fun x => x = o) ∈ R)) No s
theorem srcH_vals {kvs : List (Str × D)} {x : Str} {p : Pos} {b : Addr} : SrcH c (.Name x p) (.mvals b) b (.dct kvs) (kvs.map fun q => .dat q.2) := by
  intro X R g s S v o hR hmo hv
  obtain ⟨a, rfl, ha⟩ := hv
  obtain ⟨ps, hdo, hk⟩ := hmo
  obtain ⟨o', hb, e⟩ := hR.rGet (.head _)
  subst e
  obtain ⟨ep, hat, hat'⟩ := dictAt_of hb hdo
  have hlen := hk.length
  refine wpAny_pyIter_values (knd := PySem.strKind P0 c.w) ⟨_, hR.fz ha, rfl, rfl⟩ hat ⟨_, valIt b ps.length ep, g, rfl, .rfl, hR.tPush (t := s.toks) rfl ⟨rfl, rfl⟩, ⟨fun _ => valIt_ns, ?_, ?_⟩⟩
  · intro X' i b' g' R' s' S' hb' hg hold hR'
    rw [List.getElem?_map] at hb'
    obtain ⟨⟨kk, dd⟩, hkd, rfl⟩ := Option.map_eq_some_iff.mp hb'
    obtain ⟨y, hy, hry⟩ := hk.at hkd
    obtain ⟨o2, ho2, h1, h2⟩ := hR'.tGet
    obtain ⟨o3, hb3, e⟩ := hR'.rGet (.tail _ hold)
    subst e
    refine wpAny_pyNext_values_item (knd := PySem.strKind P0 c.w) (d := b) (ep := ep) ⟨o2, ho2, h1, h2⟩ (hat' _ hb3) hy fun h' hit hs => ⟨_, rfl, wpAny_of_eq (a := ()) rfl ?_⟩
    obtain ⟨o4, ho4, k1, k2⟩ := hit
    exact ⟨g', .rfl, hR'.tUpd (P' := valIt b ps.length ep (i + 1)) (t := s'.toks) (fun b o hb e => hs.extBut b o hb e) ho4 ⟨k1, k2⟩ valIt_ns, Rd.mono hg _ hry⟩
  · intro X' g' R' s' S' hg hold hR'
    obtain ⟨o2, ho2, h1, h2⟩ := hR'.tGet
    obtain ⟨o3, hb3, e⟩ := hR'.rGet (.tail _ hold)
    subst e
    exact wpAny_pyNext_values_end (knd := PySem.strKind P0 c.w) (d := b) (ep := ep) (kvs := ps) X'.ok.hd ⟨o2, ho2, h1, h2⟩ (hat' _ hb3) (by simp [hlen]) fun h' he => ⟨rfl, hR'.tDrop (t := s'.toks) he valIt_ns⟩
theorem srcH_list {ds : List D} {x : Str} {p : Pos} {b : Addr} : SrcH c (.Name x p) (.obj b) b (.lst ds) (ds.map .dat) := by
  intro X R g s S v o hR hmo hv
  have e : v = .ref b := hv
  subst e
  obtain ⟨vs, n, rfl, hr⟩ := hmo
  obtain ⟨o', hb, e⟩ := hR.rGet (.head _)
  subst e
  refine wpAny_pyIter_list (items := vs.toArray) ⟨_, hb, rfl, n, rfl⟩ ⟨_, listIt b, g, rfl, .rfl, hR.tPush (t := s.toks) rfl ⟨rfl, rfl⟩, ⟨fun _ => listIt_ns, ?_, ?_⟩⟩
  · intro X' i b' g' R' s' S' hb' hg hold hR'
    rw [List.getElem?_map] at hb'
    obtain ⟨d, hd, rfl⟩ := Option.map_eq_some_iff.mp hb'
    obtain ⟨y, hy, hry⟩ := hr.at hd
    obtain ⟨o2, ho2, h1, h2⟩ := hR'.tGet
    obtain ⟨o3, hb3, e⟩ := hR'.rGet (.tail _ hold)
    subst e
    refine wpAny_pyNext_list_item (items := vs.toArray) ⟨o2, ho2, h1, h2⟩ ⟨_, hb3, rfl, n, rfl⟩ (by simpa using hy) fun h' hit hs => ⟨y, rfl, wpAny_of_eq (a := ()) rfl ?_⟩
    obtain ⟨o4, ho4, k1, k2⟩ := hit
    exact ⟨g', .rfl, hR'.tUpd (P' := listIt b (i + 1)) (t := s'.toks) (fun b o hb e => hs.extBut b o hb e) ho4 ⟨k1, k2⟩ listIt_ns, Rd.mono hg _ hry⟩
  · intro X' g' R' s' S' hg hold hR'
    obtain ⟨o2, ho2, h1, h2⟩ := hR'.tGet
    obtain ⟨o3, hb3, e⟩ := hR'.rGet (.tail _ hold)
    subst e
    have e1 := hr.length
    refine wpAny_pyNext_list_end X'.ok.hd ⟨o2, ho2, h1, h2⟩ (items := vs.toArray) ⟨_, hb3, rfl, n, rfl⟩ (by simp [e1]) fun h' he => ⟨rfl, hR'.tDrop (t := s'.toks) he listIt_ns⟩
theorem ex_forH {α : Type} {Q : Fl → AS → Prop} {target iter : Expr} {body : List Stmt} {pos : Pos} (l : List α) (e : α → AV) (J : Nat → AS → Prop)
    (h : Ev c X S (eval iter X.env) (fun a S1 => ∃ b mo pre post, SrcH c target a b mo (l.map e) ∧ S1.mu = pre ++ (b, mo) :: post ∧ (∃ S0, J 0 S0 ∧ Cov S0 (S1.rew (pre ++ post))) ∧
      (∀ i x S', l[i]? = some x → J i S' → Asg c X S' target (e x) (fun S2 => Ex c X S2 (execs body X.env) (LK (J (i + 1)) (fun _ _ => False)))) ∧
      ∀ S', J l.length S' → S'.mu = pre ++ post ∧ Q .next (S'.rew (pre ++ (b, mo) :: post))))
    (hq : ∀ S' S'', Cov S' S'' → Q .next S' → Q .next S'')
    (hs : ∀ x, foldedSetIterable iter X.env x = pure x := by intro _; rfl) : Ex c X S (exec (.For target iter body [] pos) X.env) Q := fun g R s hR => by
  refine wpAny_For (wpAny_mono (h g R s hR) (fun v s1 hh => ?_) fun _ _ x => x) hs
  obtain ⟨g1, a, S1, h1, h2, h3, b, mo, pre, post, src, hmu, ⟨S0, j0, hc0⟩, turn, fin⟩ := hh
  obtain ⟨o, ho, ha, hR1⟩ := h2.muHide hmu
  have hpl : Pln (fun x => x = o) := by
    cases mo with
    | lst ds => obtain ⟨vs, n, rfl, _⟩ := ho; exact pln_exact (fun e => nomatch e) (fun v e => nomatch e)
    | dct kvs => obtain ⟨ps, ⟨es, ep, hx, hd, _⟩, _⟩ := ho; exact pln_exact (by rw [hx.1]; exact fun e => nomatch e) (fun v e => by rw [hd] at e; cases e)
  refine wpAny_mono (src X R g1 s1 _ v o hR1 ho h3) (fun it s2 hh => ?_) fun _ _ x => x
  obtain ⟨I, ip, g2, e, q1, q2, q3⟩ := hh
  subst e
  refine codeAny_mono (loop_for (Q := fun f S' => f = .next ∧ ∃ S0, J l.length S0 ∧ Cov S0 S') q3 (fun i S' => ∃ S0, J i S0 ∧ Cov S0 S') (fun i b' S' hb' hJ => ?_) (fun S' hJ => ?_) .rfl (.head _) q2 ⟨S0, j0, hc0⟩) fun r s' hr => ?_
  · obtain ⟨S0, hJ, hc⟩ := hJ
    rw [List.getElem?_map] at hb'
    obtain ⟨x, hx, rfl⟩ := Option.map_eq_some_iff.mp hb'
    refine Asg.cov hc (Asg.mono (turn i x S0 hx hJ) fun S2 h2 => Wp.mono h2 fun f S3 h3 => ?_)
    cases f with
    | next => exact h3
    | brk => exact h3.elim
    | ret d => exact h3.elim
  · rw [List.length_map] at hJ
    exact ⟨rfl, hJ⟩
  · cases r with
    | error x => exact hr.elim
    | ok f =>
      obtain ⟨g', fb, S', z1, z2, z3, rfl, S0', z4, z5⟩ := hr
      obtain ⟨w1, w2⟩ := fin S0' z4
      have hmu' : S'.mu = pre ++ post := by rw [z5.mu, w1]
      refine ⟨g', .next, _, (h1.trans q1).trans z1, z2.muShow hmu' (ho.mono (q1.trans z1)) ha hpl, z3, hq _ _ ?_ w2⟩
      exact ⟨z5.loc, rfl, z5.gens⟩
end
theorem OkA.in1 {n : Nat} {A : Around} (h : OkA (n + 1) A) : OkA n A.in1 := ⟨h.hd, by have := h.dp; show A.depth + n < _; omega, by have := h.un; show A.units + 1 + 20 * n + 100 < _; omega⟩
theorem OkA.less {n k : Nat} {A : Around} (h : OkA n A) (hk : k ≤ n) : OkA k A := ⟨h.hd, by have := h.dp; omega, by have := h.un; omega⟩
section
variable {Y : Fm} {fd : FuncData} {f L : Addr} {x : Str} {k : NameKind}
theorem Kn.kd (K : Kn Y fd f L) (h : fd.scope.names.lookup x = some k) : Y.env.kindOf x = some k := by rw [K.env]; exact h
theorem Kn.fl (K : Kn Y fd f L) (h : fd.scope.names.lookup x = some .local) : Fine Y x := ⟨.inl (K.kd h)⟩
theorem Kn.fc (K : Kn Y fd f L) (h : fd.scope.names.lookup x = some .cell) : Fine Y x := by
  refine ⟨.inr ⟨K.own, K.kd h, ?_, K.prs⟩⟩
  rw [K.env]
  exact Option.isSome_iff_exists.mp (cellsFrom_some (x := x) fd.scope.names (L + 1) [] (.inl h))
theorem Kn.kc {scope : Scope} {cl : List (Str × Addr)} {C : Addr} {hk : scope.kind = .function} (K : Kn Y fd f L) (h : (relabel scope (callEnvC fd L f)).names.lookup x = some k) : (cmOf Y scope cl C hk).env.kindOf x = some k := by
  show (relabel scope Y.env).names.lookup x = some k
  rw [K.env]; exact h
theorem Kn.fm {scope : Scope} {cl : List (Str × Addr)} {C : Addr} {hk : scope.kind = .function} (K : Kn Y fd f L) (h : (relabel scope (callEnvC fd L f)).names.lookup x = some .local) : Fine (cmOf Y scope cl C hk) x := ⟨.inl (K.kc h)⟩
end
theorem Kn.cap {Y : Fm} {fd : FuncData} {f L : Addr} {scope : Scope} {cl : List (Str × Addr)} {x : Str} (K : Kn Y fd f L) (h : CapV (callEnvC fd L f) scope cl x) : CapV Y.env scope cl x := by rw [K.env]; exact h
theorem fm_inter (X : Fm) : interactive X.env = false := by unfold interactive; rw [X.fk]; rfl
theorem gt_strcoll : gtab.lookup (Str.ofString "_strcoll") = some (.ref 21) := by rfl
theorem gt_groupingintervals : gtab.lookup (Str.ofString "_grouping_intervals") = some (.ref 28) := by rfl
theorem gt_TupleComp : gtab.lookup (Str.ofString "TupleComp") = some (.ref 52) := by rfl
theorem gt_funcstdstring : gtab.lookup (Str.ofString "func_std_string") = some (.ref 63) := by rfl
theorem gt_addfuncstats : gtab.lookup (Str.ofString "add_func_stats") = some (.ref 70) := by rfl
theorem gt_addcallers : gtab.lookup (Str.ofString "add_callers") = some (.ref 77) := by rfl
theorem gt_countcalls : gtab.lookup (Str.ofString "count_calls") = some (.ref 84) := by rfl
theorem gt_lawrow : gtab.lookup (Str.ofString "_law_row") = some (.ref 91) := by rfl
theorem gt_lawask : gtab.lookup (Str.ofString "_law_ask") = some (.ref 98) := by rfl
theorem gt_lawfile : gtab.lookup (Str.ofString "_law_file") = some (.ref 105) := by rfl
theorem gt_lawhere : gtab.lookup (Str.ofString "_law_here") = some (.ref 112) := by rfl
theorem gt_lawall : gtab.lookup (Str.ofString "_law_all") = some (.ref 117) := by rfl
theorem gt_lawlead : gtab.lookup (Str.ofString "_law_lead") = some (.ref 124) := by rfl
theorem gt_lawone : gtab.lookup (Str.ofString "_law_one") = some (.ref 129) := by rfl
theorem gt_lawsizes : gtab.lookup (Str.ofString "_law_sizes") = some (.ref 134) := by rfl
theorem gt_lawleast : gtab.lookup (Str.ofString "_law_least") = some (.ref 139) := by rfl
theorem gt_lawbook : gtab.lookup (Str.ofString "_law_book") = some (.ref 144) := by rfl
theorem gt_law : gtab.lookup (Str.ofString "law") = some (.ref 149) := by rfl
theorem gt_CHARMAX : gtab.lookup (Str.ofString "CHAR_MAX") = some (.int 127 197) := by rfl
theorem bt_sum : btab.lookup (Str.ofString "sum") = some (.builtin "sum") := by rfl
theorem bt_range : btab.lookup (Str.ofString "range") = some (.type "range") := by rfl
theorem bt_len : btab.lookup (Str.ofString "len") = some (.builtin "len") := by rfl
theorem bt_min : btab.lookup (Str.ofString "min") = some (.builtin "min") := by rfl
theorem bt_max : btab.lookup (Str.ofString "max") = some (.builtin "max") := by rfl
theorem bt_next : btab.lookup (Str.ofString "next") = some (.builtin "next") := by rfl
theorem bt_isinstance : btab.lookup (Str.ofString "isinstance") = some (.builtin "isinstance") := by rfl
theorem bt_tuple : btab.lookup (Str.ofString "tuple") = some (.type "tuple") := by rfl
theorem bt_ValueError : btab.lookup (Str.ofString "ValueError") = some (.type "ValueError") := by rfl
noncomputable abbrev N (s : String) : Str := Str.ofString s
noncomputable def tabD (t : List (Str × Int)) : List (Str × D) := t.map fun p => (p.1, .int p.2)
noncomputable def sumT (t : List (Str × Int)) : Int := t.foldl (fun s p => s + p.2) 0
noncomputable def addC (t u : List (Str × Int)) : List (Str × Int) := u.foldl (fun n p => putK n p.1 ((getK n p.1).getD 0 + p.2)) (t.foldl (fun n p => putK n p.1 p.2) [])
theorem take_foldl {α β : Type} {l : List α} {f : β → α → β} {b : β} {i : Nat} {x : α} (h : l[i]? = some x) : (l.take (i + 1)).foldl f b = f ((l.take i).foldl f b) x := by
  rw [List.take_add_one, h, List.foldl_append]; rfl
theorem tabD_length {t : List (Str × Int)} : (tabD t).length = t.length := by rw [tabD, List.length_map]
theorem getK_map {α β : Type} {f : α → β} {t : List (Str × α)} {k : Str} : getK (t.map fun p => (p.1, f p.2)) k = (getK t k).map f := by
  unfold getK
  rw [List.find?_map]
  cases h : t.find? ((fun kv : Str × β => decide (kv.1 = k)) ∘ fun p => (p.1, f p.2)) with
  | none => rw [show (t.find? fun kv => decide (kv.1 = k)) = none from h]; rfl
  | some x => rw [show (t.find? fun kv => decide (kv.1 = k)) = some x from h]; rfl
theorem putK_map {α β : Type} {f : α → β} {t : List (Str × α)} {k : Str} {i : α} : putK (t.map fun p => (p.1, f p.2)) k (f i) = (putK t k i).map fun p => (p.1, f p.2) := by
  unfold putK
  rw [List.any_map]
  show (if (t.any fun kv => decide (kv.1 = k)) = true then _ else _) = _
  cases t.any fun kv => decide (kv.1 = k) with
  | true =>
    simp only [if_true, List.map_map]
    apply List.map_congr_left
    intro p _
    simp only [Function.comp]
    split <;> rfl
  | false => simp
theorem getK_tabD {t : List (Str × Int)} {k : Str} : getK (tabD t) k = (getK t k).map .int := getK_map
theorem putK_tabD {t : List (Str × Int)} {k : Str} {i : Int} : putK (tabD t) k (.int i) = tabD (putK t k i) := putK_map
theorem getK_nil {α : Type} {k : Str} : getK ([] : List (Str × α)) k = none := rfl
theorem getK_cons {α : Type} {p : Str × α} {t : List (Str × α)} {k : Str} : getK (p :: t) k = if p.1 = k then some p.2 else getK t k := by
  unfold getK
  rw [List.find?_cons]
  by_cases h : p.1 = k
  · simp [h]
  · simp [h]
theorem any_getK {α : Type} : ∀ {t : List (Str × α)} {k : Str}, (t.any fun kv => decide (kv.1 = k)) = (getK t k).isSome
  | [], _ => rfl
  | p :: t, k => by
    rw [List.any_cons, getK_cons, any_getK (t := t)]
    by_cases h : p.1 = k <;> simp [h]
theorem getK_put {α : Type} {k k' : Str} {v : α} {t : List (Str × α)} : getK (putK t k v) k' = if k' = k then some v else getK t k' := by
  have app : ∀ (t u : List (Str × α)), getK (t ++ u) k' = (getK t k').or (getK u k') := by
    intro t u
    induction t with
    | nil => rfl
    | cons p r ih =>
      rw [List.cons_append, getK_cons, getK_cons, ih]
      split <;> rfl
  unfold putK
  rw [any_getK]
  cases hg : getK t k with
  | none =>
    simp only [Option.isSome_none, Bool.false_eq_true, if_false]
    rw [app, getK_cons]
    by_cases h : k' = k
    · subst h; simp [hg]
    · rw [if_neg (show ¬ (k, v).1 = k' from fun e => h e.symm), if_neg h, getK_nil]; simp
  | some x =>
    simp only [Option.isSome_some, if_true]
    by_cases h : k' = k
    · subst h
      rw [if_pos rfl]
      clear app
      induction t with
      | nil => cases hg
      | cons p r ih =>
        rw [List.map_cons, getK_cons]
        by_cases hp : p.1 = k'
        · rw [if_pos hp, if_pos hp]
        · rw [if_neg hp, if_neg hp]
          rw [getK_cons, if_neg hp] at hg
          exact ih hg
    · rw [if_neg h]
      clear hg
      induction t with
      | nil => rfl
      | cons p r ih =>
        rw [List.map_cons, getK_cons, getK_cons, ih]
        by_cases hp : p.1 = k
        · have hk : ¬ k = k' := fun e => h e.symm
          simp [hp, hk]
        · simp [hp]
noncomputable def NM : List Str := [N "{low}", N "w:8(go)", N "w:9(go)", N "w:10(go)", N "w:11(go)", N "high"]
/-- keys among the six names, each once -/
noncomputable def KN {α : Type} (t : List (Str × α)) : Prop := (t.map Prod.fst).Nodup ∧ ∀ k ∈ t.map Prod.fst, k ∈ NM
theorem sub_len : ∀ {l m : List Str}, l.Nodup → (∀ k ∈ l, k ∈ m) → l.length ≤ m.length
  | [], _, _, _ => Nat.zero_le _
  | x :: l, m, nd, hs => by
    rw [List.nodup_cons] at nd
    have hx := hs x (.head _)
    have := sub_len (l := l) (m := m.erase x) nd.2 fun k hk => (List.mem_erase_of_ne (fun (e : k = x) => nd.1 (e ▸ hk))).mpr (hs k (.tail _ hk))
    rw [List.length_erase_of_mem hx] at this
    have hpos := List.length_pos_of_mem hx
    rw [List.length_cons]
    omega
theorem KN.le {α : Type} {t : List (Str × α)} (h : KN t) : t.length ≤ 6 := by
  have := sub_len h.1 h.2
  rw [List.length_map] at this
  exact this
theorem KN.nil {α : Type} : KN ([] : List (Str × α)) := ⟨.nil, fun _ h => nomatch h⟩
theorem KN.one {α : Type} {k : Str} {v : α} (h : k ∈ NM) : KN [(k, v)] := ⟨by simp, fun x hx => by simp at hx; exact hx ▸ h⟩
theorem KN.put {α : Type} {t : List (Str × α)} {k : Str} {v : α} (h : KN t) (hk : k ∈ NM) : KN (putK t k v) := by
  unfold putK
  cases ha : t.any fun kv => decide (kv.1 = k) with
  | true =>
    have e : (t.map fun kv => if kv.1 = k then (kv.1, v) else kv).map Prod.fst = t.map Prod.fst := by
      rw [List.map_map]
      apply List.map_congr_left
      intro p _
      simp only [Function.comp]
      split <;> rfl
    rw [if_pos rfl]
    unfold KN
    rw [e]
    exact h
  | false =>
    rw [if_neg (by decide)]
    unfold KN
    rw [List.map_append, List.map_cons, List.map_nil, List.nodup_append]
    refine ⟨⟨h.1, by simp, fun a ha' b hb e => ?_⟩, fun x hx => ?_⟩
    · rw [List.mem_singleton] at hb
      subst hb
      obtain ⟨p, hp, e'⟩ := List.mem_map.mp ha'
      have := List.any_eq_false.mp ha p hp
      exact this (by rw [e', e]; simp)
    · rcases List.mem_append.mp hx with hx | hx
      · exact h.2 x hx
      · rw [List.mem_singleton] at hx; exact hx ▸ hk
theorem KN.fold {α β : Type} {f : List (Str × α) → Str × β → α} : ∀ {u : List (Str × β)} {n : List (Str × α)}, KN n → (∀ p ∈ u, p.1 ∈ NM) → KN (u.foldl (fun n p => putK n p.1 (f n p)) n)
  | [], _, h, _ => h
  | p :: u, n, h, hu => KN.fold (u := u) (h.put (hu p (.head _))) fun q hq => hu q (.tail _ hq)
theorem KN.mem {α : Type} {t : List (Str × α)} (h : KN t) : ∀ p ∈ t, p.1 ∈ NM := fun p hp => h.2 _ (List.mem_map.mpr ⟨p, hp, rfl⟩)
theorem KN.addC {t u : List (Str × Int)} (h : KN t) (h' : KN u) : KN (addC t u) := KN.fold (KN.fold KN.nil h.mem) h'.mem

structure Ent where
  cc : Int
  nc : Int
  tt : Int
  ct : Int
  cal : List (Str × Int)
noncomputable def zeroE : Ent := ⟨0, 0, 0, 0, []⟩
noncomputable def entD (e : Ent) : D := .tup [.int e.cc, .int e.nc, .int e.tt, .int e.ct, .dct (tabD e.cal)]
noncomputable def addE (t s : Ent) : Ent := ⟨s.cc + t.cc, s.nc + t.nc, s.tt + t.tt, s.ct + t.ct, addC t.cal s.cal⟩
noncomputable abbrev Book := List (Str × Ent)
noncomputable def bookD (b : Book) : List (Str × D) := b.map fun p => (p.1, entD p.2)
noncomputable def BkOk (b : Book) : Prop := KN b ∧ ∀ k e, getK b k = some e → KN e.cal
noncomputable def nmAt (i : Int) : Str := NM.getD i.toNat (N "")
noncomputable def clampI (x : Int) : Int := if 4 < (if -1 > x then -1 else x) then 4 else (if -1 > x then -1 else x)
noncomputable def callE (p z : Int) : Ent := ⟨if z > 0 then 1 else 0, 1, z, 8 + p, [(nmAt (p + 1), 1)]⟩
noncomputable def getE (b : Book) (k : Str) : Ent := (getK b k).getD zeroE
noncomputable def fileB (b : Book) (p z : Int) : Book := putK b (nmAt (clampI (p + z) + 1)) (addE (getE b (nmAt (clampI (p + z) + 1))) (callE p z))
theorem getK_bookD {b : Book} {k : Str} : getK (bookD b) k = (getK b k).map entD := getK_map
theorem putK_bookD {b : Book} {k : Str} {e : Ent} : putK (bookD b) k (entD e) = bookD (putK b k e) := putK_map
theorem nmAt_mem {i : Int} (h0 : 0 ≤ i) (h5 : i ≤ 5) : nmAt i ∈ NM := by
  obtain ⟨n, rfl⟩ := Int.eq_ofNat_of_zero_le h0
  have : n ≤ 5 := by omega
  have hn : n = 0 ∨ n = 1 ∨ n = 2 ∨ n = 3 ∨ n = 4 ∨ n = 5 := by omega
  rcases hn with rfl | rfl | rfl | rfl | rfl | rfl <;> simp [nmAt, NM]
theorem clampI_range (x : Int) : -1 ≤ clampI x ∧ clampI x ≤ 4 := by
  unfold clampI
  split <;> split <;> (try split) <;> omega
theorem getE_KN {b : Book} (h : BkOk b) (k : Str) : KN (getE b k).cal := by
  unfold getE
  cases e : getK b k with
  | none => exact KN.nil
  | some x => exact h.2 k x e
theorem BkOk.nil : BkOk [] := ⟨KN.nil, fun k e h => by cases h⟩
theorem BkOk.file {b : Book} {p z : Int} (h : BkOk b) (h0 : 0 ≤ p) (h3 : p ≤ 3) : BkOk (fileB b p z) := by
  have hc := clampI_range (p + z)
  refine ⟨h.1.put (nmAt_mem (by omega) (by omega)), fun k e he => ?_⟩
  unfold fileB at he
  rw [getK_put] at he
  split at he
  · cases he
    exact (getE_KN h _).addC (KN.one (nmAt_mem (by omega) (by omega)))
  · exact h.2 k e he
noncomputable def wentB (b : Book) : List (Str × Int) := b.foldl (fun w p => addC w p.2.cal) []
noncomputable def hereB (b : Book) (st : Int) (p : Int) : Int := st + sumT (getE b (nmAt (p + 1))).cal - (getK (wentB b) (nmAt (p + 1))).getD 0
theorem allN {n : Nat} {P : List Value → Prop} (h : ∀ a vs, vs.length = n → P (a :: vs)) (vs : List Value) (e : vs.length = n + 1) : P vs := by
  cases vs with
  | nil => cases e
  | cons a r => exact h a r (Nat.succ.inj e)
theorem all0 {P : List Value → Prop} (h : P []) (vs : List Value) (e : vs.length = 0) : P vs := List.length_eq_zero_iff.mp e ▸ h
theorem all1 {P : List Value → Prop} (h : ∀ a, P [a]) : ∀ vs, vs.length = 1 → P vs := allN fun a => all0 (h a)
theorem all2 {P : List Value → Prop} (h : ∀ a b, P [a, b]) : ∀ vs, vs.length = 2 → P vs := allN fun a => all1 (P := fun l => P (a :: l)) (h a)
local macro_rules | `(tactic| walk_at "C") => `(tactic| (refine Kn.cap (by assumption) ?_; exact ⟨.inl (by with_unfolding_all rfl), (fun h => nomatch (show some NameKind.cell = some NameKind.local from h)), _, by with_unfolding_all rfl, by with_unfolding_all rfl⟩))
local macro_rules | `(tactic| walk_at "G") => `(tactic| first | exact gt_strcoll | exact gt_groupingintervals | exact gt_TupleComp | exact gt_funcstdstring | exact gt_addfuncstats | exact gt_addcallers | exact gt_countcalls | exact gt_lawrow | exact gt_lawask | exact gt_lawfile | exact gt_lawhere | exact gt_lawall | exact gt_lawlead | exact gt_lawone | exact gt_lawsizes | exact gt_lawleast | exact gt_lawbook | exact gt_law | exact gt_CHARMAX)
local macro_rules | `(tactic| walk_at "B") => `(tactic| first | exact bt_sum | exact bt_range | exact bt_len | exact bt_min | exact bt_max | exact bt_next | exact bt_isinstance | exact bt_tuple | exact bt_ValueError)
local macro_rules | `(tactic| walk_at "F") => `(tactic| first | with_unfolding_all exact Kn.fl (by assumption) (by rfl) | with_unfolding_all exact Kn.fc (by assumption) (by rfl) | with_unfolding_all exact Kn.fm (by assumption) (by rfl))
local macro_rules | `(tactic| walk_at "K") => `(tactic| first | with_unfolding_all exact Kn.kd (by assumption) (by rfl) | with_unfolding_all exact Kn.kc (by assumption) (by rfl))
/-- one step of the walk by the tree's head -/
local macro_rules | `(tactic| walk_at "M1") => `(tactic| with_reducible first
  | refine ex_cons ?_
  | refine seq_next ?_
  | (refine' ev_var ?hx ?h ?hd ?hc; (case hx => with_unfolding_all rfl); (case hd => with_unfolding_all rfl); (case hc => with_unfolding_all rfl))
  | refine ev_int ?_
  | refine evs_nil ?_
  | (refine evs_cons ?_ ?_; rotate_left; with_unfolding_all rfl)
  | refine ev_bin ?_
  | refine op_add ?_
  | refine op_sub ?_
  | refine op_iadd ?_
  | (refine' ev_callG ?hv ?hkp ?h ?hk ?hd ?he ?hp; (case hv => walk_at "G"); (case hkp => with_unfolding_all rfl); (case hk => walk_at "K"); (case hd => with_unfolding_all rfl); (case he => with_unfolding_all rfl); (case hp => with_unfolding_all rfl))
  | (refine' ev_callB ?hv ?h ?hk ?hd ?he ?hp; (case hv => walk_at "B"); (case hk => walk_at "K"); (case hd => with_unfolding_all rfl); (case he => with_unfolding_all rfl); (case hp => with_unfolding_all rfl))
  | (refine' ev_callT ?hv ?h ?hk ?hd ?he ?hp; (case hv => walk_at "B"); (case hk => walk_at "K"); (case hd => with_unfolding_all rfl); (case he => with_unfolding_all rfl); (case hp => with_unfolding_all rfl))
  | (refine ex_assign ?_ ?_ ?_; walk_at "F"; rotate_left; with_unfolding_all rfl)
  | refine seq_ret ?_
  | refine seq_brk ?_
  | refine lk_brk ?_
  | refine lk_ret ?_
  | refine ex_nil ?_
  | refine ex_ret ?_
  | refine ex_ret0 ?_
  | refine ex_brk ?_
  | refine ex_if ?_
  | refine ev_str ?_
  | refine ev_none ?_
  | refine ev_bool ?_
  | refine ev_un ?_
  | refine ev_tuple ?_
  | refine ev_list ?_
  | refine th_bool ?_
  | refine tr_and ?_
  | refine tr_or ?_
  | (refine ev_cmp ?_ ?_; rotate_left; with_unfolding_all rfl)
  | (refine tr_cmp ?_ ?_; rotate_left; with_unfolding_all rfl)
  | (refine' ev_gint ?hv ?h ?hk ?hd; (case hv => walk_at "G"); (case hk => walk_at "K"); (case hd => with_unfolding_all rfl))
  | (refine' ev_g ?hv ?h ?hk ?hd; (case hv => walk_at "G"); (case hk => walk_at "K"); (case hd => with_unfolding_all rfl))
  | (refine' ev_b ?hv ?h ?hk ?hd; (case hv => walk_at "B"); (case hk => walk_at "K"); (case hd => with_unfolding_all rfl))
  | refine ev_slice ?_
  | refine ev_sub ?_
  | (refine ex_setsub ?_ ?_; rotate_left; with_unfolding_all rfl)
  | (refine ex_augsub ?_ ?_; rotate_left; (with_unfolding_all (intros; rfl)))
  | (refine ex_expr ?_ (fm_inter _) ?_; rotate_left; with_unfolding_all rfl)
  | refine op_subB ?_
  | refine op_neg ?_
  | refine op_eqI ?_
  | refine op_neI ?_
  | refine op_ltI ?_
  | refine op_gtI ?_
  | refine op_ltS ?_
  | refine op_gtS ?_
  | (refine op_mod ?_ ?_; decide)
  | (refine op_fdiv ?_ ?_ ?_; decide; decide))
local macro_rules | `(tactic| walk_at "M") => `(tactic| repeat walk_at "M1")
theorem tabD_vals {t : List (Str × Int)} : (tabD t).map (fun q => AV.dat q.2) = t.map fun p => AV.int p.2 := by rw [tabD, List.map_map]; rfl
theorem count_calls_spec {c : Cx} {X : Fm} {S : AS} {Q : AV → AS → Prop} {t : List (Str × Int)} {n : Nat} (hn : X.n = n + 1) (h : Q (.int (sumT t)) S) : Cl c X S (.ref 84) [.dat (.dct (tabD t))] Q := by
  refine cl_fn (n := n) (ps := [N "callers"]) (by with_unfolding_all rfl) (by decide) rfl (by decide) rfl rfl (all1 fun _ => rfl) rfl (by decide) rfl (by decide) rfl rfl rfl rfl rfl hn ?_
  intro Y L K hY
  walk_at "M"
  refine ex_forJ t (fun p => .int p.2) (fun i S' => S' = ⟨[(N "nc", .int (sumT (t.take i)))], S.mu, S.gens⟩) ?_ (fun _ _ hc h => Wp.cov hc h)
  refine ev_meth0 F.slot_dict_values F.plainAttrs_dict F.type_dict_values ?_ (by rfl)
  walk_at "M"
  refine ⟨me_dv (.inl rfl), cl_dvalues ⟨?_, ⟨_, rfl, ?_⟩, ?_, ?_⟩⟩
  · rw [← tabD_vals]; exact src_vals
  · exact ⟨⟨rfl, trivial⟩, rfl, rfl⟩
  · rintro i p S' hx rfl
    refine asg_name (by walk_at "F") ?_
    refine ex_cons ?_
    refine ex_aug (by walk_at "F") (by rfl) ?_
    walk_at "M"
    refine lk_next rfl ⟨⟨?_, trivial⟩, rfl, rfl⟩
    rw [show sumT (t.take (i + 1)) = sumT (t.take i) + p.2 from take_foldl hx]; rfl
  · rintro S' rfl
    rw [List.take_length]
    walk_at "M"
    exact h
theorem putK_length {α : Type} {t : List (Str × α)} {k : Str} {i : α} : (putK t k i).length ≤ t.length + 1 := by
  unfold putK
  split
  · simp
  · simp
theorem fold_length {α β : Type} {f : List (Str × α) → β → List (Str × α)} (hf : ∀ n p, (f n p).length ≤ n.length + 1) : ∀ {u : List β} {n : List (Str × α)}, (u.foldl f n).length ≤ n.length + u.length
  | [], n => Nat.le_refl _
  | p :: u, n => by
    have h1 := fold_length hf (u := u) (n := f n p)
    have h2 := hf n p
    rw [List.foldl_cons, List.length_cons]
    omega
theorem tabD_items {t : List (Str × Int)} : (tabD t).map (fun q => AV.dat (.tup [.str q.1, q.2])) = t.map fun p => AV.dat (.tup [.str p.1, .int p.2]) := by rw [tabD, List.map_map]; rfl
theorem cl_isTuple {c : Cx} {X : Fm} {S : AS} {Q : AV → AS → Prop} {i : Int} (h : Q (.bool false) S) : Cl c X S (.builtin "isinstance") [.int i, .raw (.type "tuple")] Q := fun g R s vs hR hv => by
  obtain ⟨v1, r1, rfl, ⟨t, rfl⟩, v2, r2, rfl, q2, e⟩ := hv
  have e' : r2 = [] := e
  subst e'
  have e2 : v2 = .type "tuple" := q2
  subst e2
  exact IsiPair.int_tuple ⟨g, .bool false, S, .rfl, hR.toks, rfl, h⟩
theorem add_callers_spec {c : Cx} {X : Fm} {S : AS} {Q : AV → AS → Prop} {t u : List (Str × Int)} {n : Nat} (hn : X.n = n + 1) (hl : t.length + u.length ≤ 50000) (h : Q (.dat (.dct (tabD (addC t u)))) S) : Cl c X S (.ref 77) [.dat (.dct (tabD t)), .dat (.dct (tabD u))] Q := by
  refine cl_fn (n := n) (ps := [N "target", N "source"]) (by with_unfolding_all rfl) (by decide) rfl (by decide) rfl rfl (all2 fun _ _ => rfl) rfl (by decide) rfl (by decide) rfl rfl rfl rfl rfl hn ?_
  intro Y L K hY
  refine ex_cons ?_
  refine ex_assign (by walk_at "F") (ev_dict0m fun a => ?_) rfl
  refine seq_next (ex_cons ?_)
  refine ex_forJ t (fun p => .dat (.tup [.str p.1, .int p.2])) (fun i S' => S' = ⟨[(N "new_callers", .obj a), (N "source", .dat (.dct (tabD u)))], (a, .dct (tabD ((t.take i).foldl (fun n p => putK n p.1 p.2) []))) :: S.mu, S.gens⟩) ?_ (fun _ _ hc h => Wp.cov hc h)
  refine ev_meth0 F.slot_dict_items F.plainAttrs_dict F.type_dict_items ?_ (by rfl)
  walk_at "M"
  refine ⟨me_dv (.inl rfl), cl_ditems ⟨?_, ⟨_, rfl, ⟨⟨rfl, rfl, trivial⟩, rfl, rfl⟩⟩, ?_, ?_⟩⟩
  · rw [← tabD_items]; exact src_items
  · rintro i p S' hx rfl
    refine asg_tuple2 (by walk_at "F") (by walk_at "F") ?_
    walk_at "M"
    refine st_dict (pre := []) rfl ?_ ?_
    · rw [tabD_length]
      exact Nat.le_trans (fold_length fun _ _ => putK_length) (by simp; omega)
    walk_at "M"
    refine lk_next rfl ⟨⟨rfl, rfl, trivial⟩, ?_, rfl⟩
    rw [take_foldl hx, ← putK_tabD]; rfl
  · rintro S' rfl
    rw [List.take_length]
    generalize hn0 : t.foldl (fun n p => putK n p.1 p.2) [] = n0
    have hn1 : n0.length ≤ t.length := by rw [← hn0]; exact Nat.le_trans (fold_length fun _ _ => putK_length) (by simp)
    let st := fun i => (u.take i).foldl (fun n p => putK n p.1 ((getK n p.1).getD 0 + p.2)) n0
    have hst : ∀ i, (tabD (st i)).length ≤ 100000 := fun i => by
      rw [tabD_length]
      exact Nat.le_trans (fold_length fun _ _ => putK_length) (by simp; omega)
    refine seq_next (ex_cons ?_)
    refine ex_forJ u (fun p => .dat (.tup [.str p.1, .int p.2])) (fun i S' => S' = ⟨[(N "new_callers", .obj a)], (a, .dct (tabD (st i))) :: S.mu, S.gens⟩) ?_ (fun _ _ hc h => Wp.cov hc h)
    refine ev_meth0 F.slot_dict_items F.plainAttrs_dict F.type_dict_items ?_ (by rfl)
    walk_at "M"
    refine ⟨me_dv (.inl rfl), cl_ditems ⟨?_, ⟨_, rfl, ⟨⟨rfl, trivial⟩, rfl, rfl⟩⟩, ?_, ?_⟩⟩
    · rw [← tabD_items]; exact src_items
    · rintro i p S' hx rfl
      have hfold : st (i + 1) = putK (st i) p.1 ((getK (st i) p.1).getD 0 + p.2) := take_foldl hx
      refine asg_tuple2 (by walk_at "F") (by walk_at "F") ?_
      walk_at "M"
      refine op_inD (kvs := tabD (st i)) (.inr ⟨a, rfl, .head _⟩) ?_
      rw [getK_tabD]
      walk_at "M"
      have fin : ∀ {Q' : Fl → AS → Prop} S3, S3 = (((⟨[(N "new_callers", .obj a)], (a, .dct (tabD (st i))) :: S.mu, S.gens⟩ : AS).set (N "func") (.str p.1)).set (N "caller") (.int p.2)).rew ((a, .dct (putK (tabD (st i)) p.1 (.int ((getK (st i) p.1).getD 0 + p.2)))) :: S.mu) → LK (fun S' => S' = ⟨[(N "new_callers", .obj a)], (a, .dct (tabD (st (i + 1)))) :: S.mu, S.gens⟩) Q' .next S3 := by
        rintro Q' S3 rfl
        refine lk_next rfl ⟨⟨rfl, trivial⟩, ?_, rfl⟩
        rw [hfold, ← putK_tabD]; rfl
      refine ite_in (fun hb => ?_) (fun hb => ?_)
      · obtain ⟨x, hx⟩ : ∃ x, getK (st i) p.1 = some x := by
          cases hg : getK (st i) p.1 with
          | none => rw [hg] at hb; cases hb
          | some x => exact ⟨x, rfl⟩
        walk_at "M"
        refine tr_val ?_ (by rfl)
        walk_at "M"
        refine cl_isTuple ?_
        walk_at "M"
        refine ite_in (fun h => nomatch h) (fun _ => ?_)
        walk_at "M"
        refine ⟨p.1, tabD (st i), .int x, rfl, .inr ⟨a, rfl, .head _⟩, by rw [getK_tabD, hx]; rfl, ?_⟩
        walk_at "M"
        refine st_dict (pre := []) rfl (hst i) ?_
        walk_at "M"
        refine fin _ ?_
        rw [hx]; rfl
      · have hg : getK (st i) p.1 = none := by
          cases hg : getK (st i) p.1 with
          | none => rfl
          | some x => rw [hg] at hb; cases hb
        walk_at "M"
        refine st_dict (pre := []) rfl (hst i) ?_
        walk_at "M"
        refine fin _ ?_
        rw [hg, Option.getD_none, Int.zero_add]; rfl
    · rintro S' rfl
      refine seq_next ?_
      refine Wp.freeze (pre := []) (loc := [(N "new_callers", .dat (.dct (tabD (st u.length))))]) rfl ⟨.inr ⟨rfl, rfl⟩, trivial⟩ ?_
      walk_at "M"
      have e : st u.length = addC t u := by
        show (u.take u.length).foldl _ n0 = _
        rw [List.take_length, ← hn0]; rfl
      rw [e]
      exact h
theorem ev_join {c : Cx} {X : Fm} {S : AS} {Q : AV → AS → Prop} {t : Sem Value} {a0 : AV} (h1 : Ev c X S t (fun a S1 => a = a0 ∧ S1 = S)) (h2 : Q a0 S) : Ev c X S t Q := Wp.mono h1 fun a S1 h => by obtain ⟨rfl, rfl⟩ := h; exact h2
theorem all4 {P : List Value → Prop} (h : ∀ a b d e, P [a, b, d, e]) : ∀ vs, vs.length = 4 → P vs := allN fun a => allN fun b => all2 (P := fun l => P (a :: b :: l)) (h a b)
theorem add_stats_spec {c : Cx} {X : Fm} {S : AS} {Q : AV → AS → Prop} {t s : Ent} {n : Nat} (hn : X.n = n + 2) (hl : t.cal.length + s.cal.length ≤ 50000) (h : Q (.dat (entD (addE t s))) S) : Cl c X S (.ref 70) [.dat (entD t), .dat (entD s)] Q := by
  refine cl_fn (n := n + 1) (ps := [N "target", N "source"]) (by with_unfolding_all rfl) (by decide) rfl (by decide) rfl rfl (all2 fun _ _ => rfl) rfl (by decide) rfl (by decide) rfl rfl rfl rfl rfl hn ?_
  intro Y L K hY
  refine ex_cons (ex_unpack ?_ (by rfl) (by rfl))
  walk_at "M"
  refine asg_names (ds := [.int s.cc, .int s.nc, .int s.tt, .int s.ct, .dct (tabD s.cal)]) (.cons (by walk_at "F") (.cons (by walk_at "F") (.cons (by walk_at "F") (.cons (by walk_at "F") (.cons (by walk_at "F") .nil))))) rfl ?_ (by rfl) (by rfl)
  refine seq_next (ex_cons (ex_unpack ?_ (by rfl) (by rfl)))
  walk_at "M"
  refine asg_names (ds := [.int t.cc, .int t.nc, .int t.tt, .int t.ct, .dct (tabD t.cal)]) (.cons (by walk_at "F") (.cons (by walk_at "F") (.cons (by walk_at "F") (.cons (by walk_at "F") (.cons (by walk_at "F") .nil))))) rfl ?_ (by rfl) (by rfl)
  walk_at "M"
  refine add_callers_spec (n := n) hY hl ?_
  walk_at "M"
  refine ⟨[_, _, _, _, _], rfl, Nat.le_of_ble_eq_true rfl, ?_⟩
  walk_at "M"
  exact h
noncomputable def namesD : D := .lst (NM.map .str)
theorem names_at {i : Int} (h0 : 0 ≤ i) (h5 : i ≤ 5) : (NM.map D.str)[i.toNat]? = some (.str (nmAt i)) := by
  have h : i.toNat < NM.length := by show i.toNat < 6; omega
  rw [List.getElem?_map, nmAt, List.getElem?_eq_getElem h, List.getD_eq_getElem?_getD, List.getElem?_eq_getElem h]
  rfl
theorem bookD_length {b : Book} : (bookD b).length = b.length := by rw [bookD, List.length_map]
theorem cl_bget {c : Cx} {X : Fm} {S : AS} {Q : AV → AS → Prop} {a : AV} {b : Book} {k : Str} (hl : DV S a (bookD b)) (h : Q (.dat (entD (getE b k))) S) : Cl c X S (.builtin "dict.get") [a, .str k, .dat (entD zeroE)] Q := by
  refine cl_dget hl ?_
  rw [getK_bookD]
  unfold getE at h
  cases hg : getK b k with
  | none => rw [hg] at h; exact h
  | some e => rw [hg] at h; exact h
theorem file_spec {c : Cx} {X : Fm} {S : AS} {Q : AV → AS → Prop} {b : Book} {a : Addr} {p z : Int} {pre post : List (Addr × MO)} {n : Nat} (hn : X.n = n + 3) (hb : BkOk b) (h0 : 0 ≤ p) (h3 : p ≤ 3) (hm : S.mu = pre ++ (a, .dct (bookD b)) :: post)
    (h : Q .none (S.rew (pre ++ (a, .dct (bookD (fileB b p z))) :: post))) : Cl c X S (.ref 105) [.obj a, .dat namesD, .int p, .int z] Q := by
  refine cl_fn (n := n + 2) (ps := [N "book", N "names", N "place", N "size"]) (by with_unfolding_all rfl) (by decide) rfl (by decide) rfl rfl (all4 fun _ _ _ _ => rfl) rfl (by decide) rfl (by decide) rfl rfl rfl rfl rfl hn ?_
  intro Y L K hY
  have hc := clampI_range (p + z)
  walk_at "M"
  refine cl_max ?_
  walk_at "M"
  refine cl_min ?_
  walk_at "M"
  refine sb_list (ds := NM.map .str) (i := clampI (p + z) + 1) (by omega) (by omega) (names_at (by omega) (by omega)) ?_ (by intro _ _; with_unfolding_all rfl)
  walk_at "M"
  refine ev_join (a0 := .int (if z > 0 then 1 else 0)) (ev_ite ?_) ?_
  · walk_at "M"
    refine ite_in (fun hz => ?_) (fun hz => ?_)
    · walk_at "M"
      exact ⟨by rw [if_pos (of_decide_eq_true hz)], rfl⟩
    · walk_at "M"
      exact ⟨by rw [if_neg (of_decide_eq_false hz)], rfl⟩
  walk_at "M"
  refine ev_dict1 ?_
  walk_at "M"
  refine sb_list (ds := NM.map .str) (i := p + 1) (by omega) (by omega) (names_at (by omega) (by omega)) ?_ (by intro _ _; with_unfolding_all rfl)
  walk_at "M"
  refine ⟨nmAt (p + 1), .int 1, rfl, rfl, ?_⟩
  walk_at "M"
  refine ⟨[_, _, _, _, _], rfl, Nat.le_of_ble_eq_true rfl, ?_⟩
  walk_at "M"
  refine ev_meth F.slot_dict_get F.plainAttrs_dict F.type_dict_get ?_ (by rfl) (by rfl) (by rfl)
  walk_at "M"
  refine ⟨me_dv (kvs := bookD b) (.inr ⟨a, rfl, by show (a, _) ∈ S.mu; rw [hm]; simp⟩), ?_⟩
  walk_at "M"
  refine ev_dict0 ?_
  walk_at "M"
  refine ⟨[_, _, _, _, _], rfl, Nat.le_of_ble_eq_true rfl, ?_⟩
  walk_at "M"
  refine cl_bget (b := b) (.inr ⟨a, rfl, by show (a, _) ∈ S.mu; rw [hm]; simp⟩) ?_
  walk_at "M"
  have hke := getE_KN hb (nmAt (clampI (p + z) + 1))
  refine add_stats_spec (n := n) (t := getE b (nmAt (clampI (p + z) + 1))) (s := callE p z) hY ?_ ?_
  · have := hke.le
    show _ + 1 ≤ _
    omega
  walk_at "M"
  refine st_dict (pre := pre) (post := post) hm ?_ ?_
  · have := hb.1.le
    rw [bookD_length]; omega
  walk_at "M"
  rw [putK_bookD]
  exact h
noncomputable def Sg (c : Cx) (A : Around) (cd : Code) (t : Sem Fin) (fs : List Frame) (s : Shared) (Φ : End → Shared → Prop) : Prop :=
  ∀ Γ p, Γ.code = cd → Γ.Woken A → ∃ e s', Runs (M c) Γ p t fs s e s' ∧ Φ e s'
section
variable {c : Cx} {A : Around} {cd : Code} {fs : List Frame} {s : Shared} {Φ : End → Shared → Prop}
theorem sg_wrap {α : Type} {m : Sem α} {K : α → Sem Fin} {H : Value → Sem Fin} {gd : Bool → Bool} {lv : List Value → List Value} (h : wpAny (M c) (A.over cd fs) m (fun a s' => Sg c A cd (K a) fs s' Φ) (fun x s' => Sg c A cd (H x) fs s' Φ) s) :
    Sg c A cd (m.wrap K H gd lv) fs s Φ := by
  rintro Γ p rfl hΓ
  exact runs_wrap_of_wp K H gd lv m (h (Γ.over fs) p (hΓ.over fs)) (fun a p' s' h' => h' Γ p' rfl hΓ) (fun x p' s' h' => h' Γ p' rfl hΓ)
theorem sg_at {p' : Pos} {k : Unit → Sem Fin} (h : Sg c A cd (k ()) fs s Φ) : Sg c A cd (.at p' k) fs s Φ :=
  sg_wrap (m := standAt p') (K := k) (H := .raise) (gd := id) (lv := id) (wpAny_standAt h)
theorem sg_point {l : List Value} {k : Unit → Sem Fin} (h : Sg c A cd (k ()) fs s Φ) : Sg c A cd (.point l k) fs s Φ :=
  sg_wrap (m := point) (K := k) (H := .raise) (gd := id) (lv := fun _ => l) (wpAny_point h)
theorem sg_call {c' : Code} {h : Option Value} {g : Bool} {l : List Value} {k : Result → Sem Fin} (hc : ∀ p, Sg c A c' ((M c).den c') (.ret k h g l cd p [] :: fs) s Φ) : Sg c A cd (.call c' h g l k) fs s Φ := by
  rintro Γ p rfl hΓ
  obtain ⟨e, s', hr, he⟩ := hc p (Γ.goto c') p rfl (hΓ.goto c')
  exact ⟨e, s', runs_call_seg hr, he⟩
theorem sg_leaf {k : Result → Sem Fin} {h : Option Value} {g : Bool} {l : List Value} {c₁ : Code} {p₁ : Pos} {kp : List Value} (r : Result) (hk : Sg c A c₁ (k r) fs s Φ) : Sg c A cd (leafOf r) (.ret k h g l c₁ p₁ kp :: fs) s Φ := by
  rintro Γ p rfl hΓ
  obtain ⟨e, s', hr, he⟩ := hk (Γ.goto c₁) p₁ rfl (hΓ.goto c₁)
  exact ⟨e, s', Runs.pop r hr, he⟩
theorem sg_again {c' : Code} (hq : c'.quiet = true) (hc : Sg c A c' ((M c).den c') fs s Φ) : Sg c A cd (.pure (.again c')) fs s Φ := by
  rintro Γ p rfl hΓ
  obtain ⟨e, s', hr, he⟩ := hc (Γ.goto c') p rfl (hΓ.goto c')
  exact ⟨e, s', Runs.head (c₁ := c') (fun _ _ x => .again hq x) hr, he⟩
theorem sg_end (r : Result) (h : Φ (.ret r) s) : Sg c A cd (leafOf r) [] s Φ := by
  rintro Γ p rfl _
  exact ⟨.ret r, s, Runs.leaf r, h⟩
theorem sg_yield {v : Value} {g : Bool} {l : List Value} {k : Resume → Sem Fin} (hfs : splitAtGen fs = none) (h : ∀ p, Φ (.susp v g l k cd p fs) s) : Sg c A cd (.yield v g l k) fs s Φ := by
  rintro Γ p rfl _
  exact ⟨_, s, Runs.yield' fs hfs, h p⟩
variable {env : Env} {K : Flow → Sem Fin} {H : Value → Sem Fin} {gd : Bool → Bool} {lv : List Value → List Value}
theorem sg_nil (h : Sg c A cd (K .next) fs s Φ) : Sg c A cd ((execs [] env).wrap K H gd lv) fs s Φ := h
theorem sg_cons {st : Stmt} {rest : List Stmt} (h : Sg c A cd ((exec st env).wrap (fun f => match f with | .next => (execs rest env).wrap K H gd lv | f => K f) H gd lv) fs s Φ) : Sg c A cd ((execs (st :: rest) env).wrap K H gd lv) fs s Φ := by
  rw [execs_cons_wrap]; exact h
theorem bind_wrap {α β γ : Type} (m : Sem α) (f : α → Sem β) (K : β → Sem γ) (H : Value → Sem γ) (gd : Bool → Bool) (lv : List Value → List Value) : (m >>= f).wrap K H gd lv = m.wrap (fun a => (f a).wrap K H gd lv) H gd lv := by
  rw [Sem.bind_eq_wrap', Sem.wrap_wrap]; rfl
theorem sg_bind {α : Type} {m : Sem α} {f : α → Sem Flow} (h : wpAny (M c) (A.over cd fs) m (fun a s' => Sg c A cd ((f a).wrap K H gd lv) fs s' Φ) No s) : Sg c A cd ((m >>= f).wrap K H gd lv) fs s Φ := by
  rw [bind_wrap]
  exact sg_wrap (wpAny_mono h (fun _ _ x => x) fun _ _ x => x.elim)
theorem sg_stmt {m : Sem Flow} (h : wpAny (M c) (A.over cd fs) m (fun f s' => Sg c A cd (K f) fs s' Φ) No s) : Sg c A cd (m.wrap K H gd lv) fs s Φ := sg_wrap (wpAny_mono h (fun _ _ x => x) fun _ _ x => x.elim)
theorem sg_If {test : Expr} {body orelse : List Stmt} {pos : Pos} (h : wpAny (M c) (A.over cd fs) (isTrue test env (eval test env)) (fun b s' => if b = true then Sg c A cd ((execs body env).wrap K H gd lv) fs s' Φ else Sg c A cd ((execs orelse env).wrap K H gd lv) fs s' Φ) No s) :
    Sg c A cd ((exec (.If test body orelse pos) env).wrap K H gd lv) fs s Φ := by
  rw [arm_exec_If]
  refine sg_bind (wpAny_standAt (sg_bind (wpAny_mono h (fun b s' hb => ?_) fun _ _ x => x)))
  cases b with
  | true => exact hb
  | false => exact hb
theorem sg_Yield {e : Expr} {ypos pos : Pos} (hfs : splitAtGen fs = none) (hco : env.scope.isCoroutine = false) (hi : interactive env = false)
    (h : wpAny (M c) (A.over cd fs) (eval e env) (fun v s' => ∀ k p, k (.send .none) = K .next → Φ (.susp v (gd false) (lv []) k cd p fs) s') No s) :
    Sg c A cd ((exec (.Expr (.Yield (some e) ypos) pos) env).wrap K H gd lv) fs s Φ := by
  rw [exec_Expr env _ pos hi rfl]
  show Sg c A cd (.at pos fun _ => ((eval e env >>= fun v => (standAt ypos >>= fun _ => yieldOut env v)) >>= fun x =>
    dropValue (.Yield (some e) ypos) pos x).wrap K H gd lv) fs s Φ
  have hy : ∀ v, yieldOut env v = yieldValue v := fun v => by simp only [yieldOut, hco, Bool.false_eq_true, if_false]
  simp only [hy]
  refine sg_at ?_
  rw [Sem.bind_eq_wrap', Sem.bind_eq_wrap', Sem.wrap_wrap, Sem.wrap_wrap]
  refine sg_wrap (wpAny_mono h (fun v s' h' => ?_) fun _ _ x => x.elim)
  exact sg_at (sg_yield hfs fun p => h' _ p rfl)
noncomputable abbrev ownBack (env : Env) : Result → Sem Flow := fun r => (match r with | .ok f => (.pure f : Sem Flow) | .error e => .raise e).onRaise fun (x : Value) => do
        if (← field x 1) == Value.none then unsupported "frame.own-activation:exception-without-traceback"
        setFlight x env.frame
theorem sg_runOwn {cc : Code} (h : ∀ p, Sg c A cc ((M c).den cc) (.ret (fun r => (ownBack env r).wrap K H gd lv) none (gd false) (lv []) cd p [] :: fs) s Φ) : Sg c A cd ((runOwn cc env).wrap K H gd lv) fs s Φ := sg_call h
theorem sg_While {test : Expr} {body orelse : List Stmt} {pos : Pos} (h : ∀ p, Sg c A (.whileLoop test body orelse env) ((M c).den (.whileLoop test body orelse env)) (.ret (fun r => (ownBack env r).wrap K H gd lv) none (gd false) (lv []) cd p [] :: fs) s Φ) :
    Sg c A cd ((exec (.While test body orelse pos) env).wrap K H gd lv) fs s Φ := by
  rw [arm_exec_While]
  exact sg_bind (wpAny_standAt (sg_runOwn h))
theorem sg_For {target iter : Expr} {body : List Stmt} {pos : Pos} (h : wpAny (M c) (A.over cd fs) (eval iter env) (fun x s₁ => wpAny (M c) (A.over cd fs) (pyIter x) (fun it s₂ =>
      ∀ p, Sg c A (.forLoop target it body [] env) ((M c).den (.forLoop target it body [] env)) (.ret (fun r => (ownBack env r).wrap K H gd lv) none (gd false) (lv []) cd p [] :: fs) s₂ Φ) No s₁) No s)
    (hs : ∀ x, foldedSetIterable iter env x = pure x := by intro _; rfl) : Sg c A cd ((exec (.For target iter body [] pos) env).wrap K H gd lv) fs s Φ := by
  rw [arm_exec_For]
  refine sg_bind (wpAny_standAt (sg_bind (wpAny_mono h (fun x s₁ h₁ => sg_bind (wpAny_of_eq (hs x) (sg_bind (wpAny_standAt (sg_bind (wpAny_holding (wpAny_mono h₁ (fun it s₂ h₂ => ?_) fun _ _ x => x))))))) fun _ _ x => x)))
  exact sg_runOwn h₂
noncomputable abbrev loopH (env : Env) : Value → Sem Fin := fun e => (do noteFrame e env; theTreesLotGoes e : Sem Unit).wrap (fun _ => .raise e) .raise id id
noncomputable abbrev forK (target : Expr) (it : Value) (body : List Stmt) (env : Env) : Flow → Sem Fin := fun f => match f with
  | .next | .cont => .pure (.again (.forLoop target it body [] env))
  | .brk => .pure (.done .next)
  | .ret v => .pure (.done (.ret v))
noncomputable abbrev whileK (test : Expr) (body : List Stmt) (env : Env) : Flow → Sem Fin := fun f => match f with
  | .next | .cont => .pure (.again (.whileLoop test body [] env))
  | .brk => .pure (.done .next)
  | .ret v => .pure (.done (.ret v))
theorem loopH_eq (env : Env) (e : Value) : ((do noteFrame e env; theTreesLotGoes e : Sem Unit).bind fun _ => (.raise e : Sem Fin)) = loopH env e := Sem.bind_eq_wrap _ _
theorem sg_forLoop {target : Expr} {it : Value} {body : List Stmt} (h : wpAny (M c) (A.over (.forLoop target it body [] env) fs) (pyNext it) (fun r s₁ => match r with
      | none => Sg c A (.block [] env) ((M c).den (.block [] env)) fs s₁ Φ
      | some v => wpAny (M c) (A.over (.forLoop target it body [] env) fs) (letOwnedTupleGo target it v) (fun _ s₂ => wpAny (M c) (A.over (.forLoop target it body [] env) fs) (assign target env v) (fun _ s₃ =>
          Sg c A (.forLoop target it body [] env) ((execs body env).wrap (forK target it body env) (loopH env) id id) fs s₃ Φ) No s₂) No s₁) No s) :
    Sg c A (.forLoop target it body [] env) ((M c).den (.forLoop target it body [] env)) fs s Φ := by
  show Sg c A _ ((forTurn target it body [] env).onRaise (fun x => do noteFrame x env; theTreesLotGoes x)) fs s Φ
  unfold forTurn
  rw [Sem.onRaise_eq_wrap, bind_wrap]
  refine sg_wrap (wpAny_standAt ?_)
  rw [bind_wrap]
  refine sg_wrap (wpAny_onRaise (wpAny_mono h (fun r s₁ h₁ => ?_) fun _ _ x => x.elim))
  cases r with
  | none => exact sg_again (by rfl) h₁
  | some v =>
    show Sg c A _ ((letOwnedTupleGo target it v >>= fun _ => _).wrap _ _ _ _) fs s₁ Φ
    rw [bind_wrap]
    refine sg_wrap (wpAny_mono h₁ (fun _ s₂ h₂ => ?_) fun _ _ x => x.elim)
    rw [bind_wrap]
    refine sg_wrap (wpAny_mono h₂ (fun _ s₃ h₃ => ?_) fun _ _ x => x.elim)
    rw [bind_wrap]
    rw [Sem.wrap_congr (execs body env) _ _ (K' := forK target it body env) (H' := loopH env) (fun f => by cases f <;> rfl) (fun e => loopH_eq env e)]
    exact h₃
theorem sg_whileLoop {test : Expr} {body : List Stmt} (h : wpAny (M c) (A.over (.whileLoop test body [] env) fs) (isTrue test env (eval test env)) (fun b s' => b = true ∧
      Sg c A (.whileLoop test body [] env) ((execs body env).wrap (whileK test body env) (loopH env) id id) fs s' Φ) No s) :
    Sg c A (.whileLoop test body [] env) ((M c).den (.whileLoop test body [] env)) fs s Φ := by
  show Sg c A _ ((whileTurn test body [] env).onRaise (fun x => do noteFrame x env; theTreesLotGoes x)) fs s Φ
  unfold whileTurn
  rw [Sem.onRaise_eq_wrap, bind_wrap]
  refine sg_wrap (wpAny_mono h (fun b s' hb => ?_) fun _ _ x => x.elim)
  obtain ⟨rfl, hb⟩ := hb
  show Sg c A _ (Sem.wrap _ _ _ _ (if true = true then _ else _)) fs s' Φ
  rw [if_pos rfl, bind_wrap]
  rw [Sem.wrap_congr (execs body env) _ _ (K' := whileK test body env) (H' := loopH env) (fun f => by cases f <;> rfl) (fun e => loopH_eq env e)]
  exact hb
theorem sg_block (h : Sg c A (.block [] env) (leafOf (.ok .next)) fs s Φ) : Sg c A (.block [] env) ((M c).den (.block [] env)) fs s Φ := h
noncomputable abbrev funcK : Flow → Sem Fin := fun f => .pure (.done (.ret (match f with | .ret v => v | _ => .none)))
noncomputable abbrev funcH (env : Env) : Value → Sem Fin := fun e => (leaving env e).wrap (fun _ => .raise e) .raise id id
theorem sg_func {body : List Stmt} (h : Sg c A (.func body env) ((execs body env).wrap funcK (funcH env) id id) fs s Φ) : Sg c A (.func body env) ((M c).den (.func body env)) fs s Φ := by
  show Sg c A _ (.point [] fun _ => ((execs body env).onRaise (leaving env)) >>= _) fs s Φ
  refine sg_point ?_
  rw [Sem.onRaise_eq_wrap, Sem.bind_eq_wrap', Sem.wrap_wrap]
  rw [Sem.wrap_congr (execs body env) _ _ (K' := funcK) (H' := funcH env) (fun f => by cases f <;> rfl)
    (fun e => by rw [Sem.bind_eq_wrap, Sem.wrap_wrap]; rfl)]
  exact h
end
/-- the frame of a ruler -/
structure EnvG (env : Env) (L : Addr) : Prop where
  loc : env.locals = L
  fr : env.frame = some L
  fk : env.scope.kind = .function
  co : env.scope.isCoroutine = false
  gl : env.globals = mainGlobals
  bl : env.builtins = builtinsNs
  k1 : env.kindOf (Str.ofString "grouping") = some .local
  k2 : env.kindOf (Str.ofString "interval") = some .local
  k3 : env.kindOf (Str.ofString "last_interval") = some .local
  k4 : env.kindOf (Str.ofString "CHAR_MAX") = some .globalImplicit
  k5 : env.kindOf (Str.ofString "ValueError") = some .globalImplicit
noncomputable def putM (m : Str → Option Value) (x : Str) (v : Value) : Str → Option Value := fun y => if y = x then some v else m y
section
variable {c : Cx} {A : Around} {env : Env} {L : Addr} {g : G} {l : Ld} {s : Shared} {m : Str → Option Value} {Er : Value → Shared → Prop}
theorem gBase {h : Heap} (w : Wd g h l) (l0 : G.le c.g0 g) {a : Addr} {o : Obj} (e : c.h0.get? a = some o) (ha : a ≠ 114) : h.get? a = some o :=
  w.fz a o (l0 a o (by unfold Cx.g0; rw [if_neg ha]; exact e))
theorem gload {x : Str} {pos : Pos} {v : Value} {Q : Value → Shared → Prop} (E : EnvG env L) (w : Wd g s.heap ((L, NsP m) :: l)) (hk : env.kindOf x = some .local) (hm : m x = some v) (h : Q v s) (hd : (x == ("__debug__" : Str)) = false := by rfl) :
    wpAny (M c) A (eval (.Name x pos) env) Q Er s := by
  obtain ⟨o, ho, hp⟩ := w.get (a := L) (P := NsP m) (.head _)
  exact wpAny_Name (wpAny_loadName_local E.fk hk (E.loc ▸ hp.ns ho) hm h) hd
theorem gstore {x : Str} {v : Value} {Q : Unit → Shared → Prop} (E : EnvG env L) (w : Wd g s.heap ((L, NsP m) :: l)) (hk : env.kindOf x = some .local)
    (h : ∀ h' tk, Wd g h' ((L, NsP (putM m x v)) :: l) → Q () { s with heap := h', toks := tk }) : wpAny (M c) A (storeName env x v) Q Er s := by
  obtain ⟨o, ho, hp⟩ := w.get (a := L) (P := NsP m) (.head _)
  refine wpAny_storeName_local hk (E.loc ▸ hp.ns ho) (fun h' hn hs => ?_) (by rw [E.fk]; rfl)
  rw [E.loc] at hn hs
  obtain ⟨o', ho', hp'⟩ := NsP.of hn
  exact h h' _ (w.upd0 (fun b o hb e => hs.extBut b o hb e) ho' hp')
theorem gchar {pos : Pos} {Q : Value → Shared → Prop} (E : EnvG env L) (w : Wd g s.heap l) (l0 : G.le c.g0 g) (h : ∀ t, Q (.int 127 t) s) : wpAny (M c) A (eval (.Name (Str.ofString "CHAR_MAX") pos) env) Q Er s :=
  Calls.Name_function_global E.fk E.k4 (Calls.loadGlobal_global (by rw [E.gl]; exact c.gN.at' fun _ x => gBase w l0 x (by decide)) (gtab_ok (c := c) gt_CHARMAX) (h 197)) (by rfl)
theorem gvalerr {pos : Pos} {Q : Value → Shared → Prop} (E : EnvG env L) (w : Wd g s.heap l) (l0 : G.le c.g0 g) (h : Q (.type "ValueError") s) : wpAny (M c) A (eval (.Name (Str.ofString "ValueError") pos) env) Q Er s :=
  Calls.Name_function_global E.fk E.k5 (Calls.loadGlobal_builtin (by rw [E.gl]; exact c.gN.at' fun _ x => gBase w l0 x (by decide)) (mg_none c.hK c.gN (btab_in c.w.params _ (lookup_mem bt_ValueError))) (by rw [E.bl]; exact c.bN.at' fun _ x => gBase w l0 x (by decide)) ((c.blt _ (btab_boot _ (lookup_mem bt_ValueError)).2).trans (btab_boot _ (lookup_mem bt_ValueError)).1) h) (by rfl)
end
theorem Wd.swap2 {g : G} {h : Heap} {p q : Addr × (Obj → Prop)} {l : Ld} (w : Wd g h (p :: q :: l)) : Wd g h (q :: p :: l) := w.perm (List.Perm.swap _ _ _)
noncomputable def LastOk (row : List Int) : Nat → (Str → Option Value) → Prop
  | 0, m => m (Str.ofString "last_interval") = some .none
  | k + 1, m => ∃ x t, row[k]? = some x ∧ m (Str.ofString "last_interval") = some (.int x t)
section
variable (c : Cx) (env : Env) (L : Addr) (target : Expr) (body : List Stmt) (I : Addr) (a : Addr) (row : List Int) (fs : List Frame)
noncomputable def ForSpec (n : Nat) : Prop := ∀ (A : Around) (fl : List Env) (g : G) (R : Ld) (s : Shared) (m : Str → Option Value) (j : Nat), OkA 5 A → A.frames = some fl → FrOk fl R → Wd g s.heap ((L, NsP m) :: (I, itP a j) :: R) → Rd c.w g (intL row) (.ref a) → G.le c.g0 g → LastOk row j m →
  Sg c A (.forLoop target (.ref I) body [] env) ((M c).den (.forLoop target (.ref I) body [] env)) fs s (GEnd c (GN c n) (scan row j) fl g R s.gens s.os)
noncomputable def TurnSpec (n : Nat) : Prop := ∀ (A : Around) (fl : List Env) (g : G) (R : Ld) (s : Shared) (m : Str → Option Value) (j : Nat) (x : Int) (t : Tok), OkA 5 A → A.frames = some fl → FrOk fl R → Wd g s.heap ((L, NsP m) :: (I, itP a (j + 1)) :: R) → Rd c.w g (intL row) (.ref a) → G.le c.g0 g → LastOk row j m →
  row[j]? = some x → m (Str.ofString "interval") = some (.int x t) →
  Sg c A (.forLoop target (.ref I) body [] env) ((execs body env).wrap (forK target (.ref I) body env) (loopH env) id id) fs s (GEnd c (GN c n) (scan row j) fl g R s.gens s.os)
noncomputable def WhileSpec (test : Expr) (n : Nat) : Prop := ∀ (A : Around) (fl : List Env) (g : G) (R : Ld) (s : Shared) (m : Str → Option Value) (x : Int) (t : Tok), OkA 5 A → A.frames = some fl → FrOk fl R → Wd g s.heap ((L, NsP m) :: R) → G.le c.g0 g → m (Str.ofString "last_interval") = some (.int x t) →
  Sg c A (.whileLoop test body [] env) ((M c).den (.whileLoop test body [] env)) fs s (GEnd c (GN c n) (.says x (.loop x)) fl g R s.gens s.os)
end
theorem gi_for {c : Cx} {env : Env} {L : Addr} {p : Pos} {body : List Stmt} {I a : Addr} {row : List Int} {fs : List Frame} (E : EnvG env L)
    (hov : ∀ A : Around, A.handled = none → (A.over (.forLoop (.Name (Str.ofString "interval") p) (.ref I) body [] env) fs).handled = none)
    (hfin : ∀ (A : Around) (s : Shared) (Φ : End → Shared → Prop), Φ (.ret (.ok (.ret .none))) s → Sg c A (.block [] env) (leafOf (.ok .next)) fs s Φ)
    (turn : ∀ n, (∀ k, n = k + 1 → ForSpec c env L (.Name (Str.ofString "interval") p) body I a row fs k) → TurnSpec c env L (.Name (Str.ofString "interval") p) body I a row fs n) :
    ∀ n, ForSpec c env L (.Name (Str.ofString "interval") p) body I a row fs n := by
  have step : ∀ n, (∀ k, n = k + 1 → ForSpec c env L (.Name (Str.ofString "interval") p) body I a row fs k) → ForSpec c env L (.Name (Str.ofString "interval") p) body I a row fs n := by
    intro n ih A fl g R s m j ok hfr hfo w hrow l0 hlast
    obtain ⟨a', vs, nn, e0, hga, hr⟩ := hrow
    cases e0
    obtain ⟨o, ho, hc, hda⟩ := w.swap2.get (a := I) (P := itP a j) (.head _)
    have hl : s.heap.IsList a vs.toArray := ⟨_, w.fz _ _ hga, rfl, nn, rfl⟩
    have hlen := hr.length
    have hrow : Rd c.w g (intL row) (.ref a) := ⟨a, vs, nn, rfl, hga, hr⟩
    refine sg_forLoop ?_
    cases hj : row[j]? with
    | none =>
      refine wpAny_pyNext_list_end (hov A ok.hd) ⟨o, ho, hc, hda⟩ hl ?_ fun h' he => ?_
      · rw [List.length_map] at hlen
        have hj' := List.getElem?_eq_none_iff.mp hj
        simp only [List.getElem?_toArray]
        exact List.getElem?_eq_none_iff.mpr (by omega)
      · refine sg_block (hfin _ _ _ ?_)
        have w2 : Wd g h' R := (Wd.drop (pre := [(L, NsP m)]) w fun b o hb e => he b o hb e).sub (List.sublist_cons_self _ _)
        have : scan row j = .stops := by unfold scan; rw [hj]
        rw [this]
        exact ⟨rfl, rfl, rfl, g, .rfl, w2, rfl⟩
    | some x =>
      obtain ⟨d, hd, hrx⟩ : ∃ v, vs[j]? = some v ∧ Rd c.w g (.int x) v := hr.at (by rw [List.getElem?_map, hj]; rfl)
      obtain ⟨t, rfl⟩ := hrx
      refine wpAny_pyNext_list_item (items := vs.toArray) ⟨o, ho, hc, hda⟩ hl (by simpa using hd) fun h' hit hs => wpAny_of_eq (a := ()) rfl ?_
      obtain ⟨o', ho', hc', hda'⟩ := hit
      have w2 : Wd g h' ((L, NsP m) :: (I, itP a (j + 1)) :: R) := Wd.upd (pre := [(L, NsP m)]) w (fun b o hb e => hs.extBut b o hb e) ho' ⟨hc', hda'⟩
      refine wpAny_assign_Name (gstore E w2 E.k2 fun h'' tk w3 => ?_)
      refine turn n ih A fl g R _ (putM m (Str.ofString "interval") (.int x t)) j x t ok hfr hfo w3 hrow l0 ?_ hj (if_pos rfl)
      have hne : ∀ v, putM m (Str.ofString "interval") v (Str.ofString "last_interval") = m (Str.ofString "last_interval") := fun v => if_neg (by decide +kernel)
      cases j with
      | zero => exact (hne _).trans hlast
      | succ k => obtain ⟨x', t', h1, h2⟩ := hlast; exact ⟨x', t', h1, (hne _).trans h2⟩
  intro n
  induction n with
  | zero => exact step 0 fun k h => nomatch h
  | succ n ih => exact step (n + 1) fun k h => by cases h; exact ih
theorem gi_while {c : Cx} {env : Env} {L : Addr} {p1 p2 p3 p4 : Pos} {kk : Nat} {fs : List Frame} (E : EnvG env L) (hfs : splitAtGen fs = none) (hfg : fs.any Frame.guarded = false) :
    ∀ n, WhileSpec c env L [.Expr (.Yield (some (.Name (Str.ofString "last_interval") p1)) p2) p3] fs (.Constant (.bool true) kk p4) n := by
  have step : ∀ n, (∀ k, n = k + 1 → WhileSpec c env L [.Expr (.Yield (some (.Name (Str.ofString "last_interval") p1)) p2) p3] fs (.Constant (.bool true) kk p4) k) → WhileSpec c env L [.Expr (.Yield (some (.Name (Str.ofString "last_interval") p1)) p2) p3] fs (.Constant (.bool true) kk p4) n := by
    intro n ih A fl g R s m x t ok hfr hfo w l0 hm
    refine sg_whileLoop (wpAny_isTrue_value (wpAny_Constant_bool (wpAny_truthy_bool ⟨rfl, ?_⟩)) (by rfl))
    refine sg_cons (sg_Yield hfs E.co (by unfold interactive; rw [E.fk]; rfl) (gload E w E.k3 hm fun k p hk => ?_))
    refine ⟨by simp [End.quiet, hfg], rfl, rfl, g, [(L, NsP m)], t, .rfl, w, ⟨L, m, t, rfl, hm⟩, ?_, rfl⟩
    cases n with
    | zero => trivial
    | succ n =>
      intro A' fl' g' R' s' Γ p' hΓ ok' hfr' hfo' w' hp l0'
      obtain ⟨L2, m2, t2, e1, e2⟩ := hp
      have w2 : Wd g' s'.heap ((L, NsP m2) :: R') := by
        have := (Prod.mk.inj (List.cons.inj e1).1).2
        rw [← this]; exact w'
      have := ih n rfl A' fl' g' R' s' m2 x t2 ok' hfr' hfo' w2 l0' e2
      have h2 : Sg c A' (.whileLoop (.Constant (.bool true) kk p4) [.Expr (.Yield (some (.Name (Str.ofString "last_interval") p1)) p2) p3] [] env) (k (.send .none)) fs s' (GEnd c (GN c n) (.says x (.loop x)) fl' g' R' s'.gens s'.os) := by
        rw [hk]
        exact sg_again (by rfl) this
      exact h2 (Γ.wake _ p') p rfl (hΓ.wake _ p')
  intro n
  induction n with
  | zero => exact step 0 fun k h => nomatch h
  | succ n ih => exact step (n + 1) fun k h => by cases h; exact ih
section
variable {M : Model} {A : Around} {E : Value → Shared → Prop} {s : Shared}
/-- an exception that this frame already notes is noted again -/
theorem setFlight_again {base : Heap} {l : List Env} {e L : Addr} {cls a0 : Value} {Q : Unit → Shared → Prop} (R : Heap.HeldW base l e cls a0 L s.heap)
    (h : ∀ h', Heap.HeldW base l e cls a0 L h' → s.heap.UpToSlots h' → Q () { s with heap := h' }) : wpAny M A (setFlight (.ref e) (some L)) Q E s := by
  obtain ⟨hkb, hen, hl, oe, vs, T, oT, ts, he, hcls, hd, h1, hnT, hTe, hT, hdT, h3⟩ := R
  have hsz3 : 3 < ts.size := (Array.getElem?_eq_some_iff.mp h3).1
  have other : ∀ b, b ≠ T → (s.heap.update T (Obj.mapFields (·.setIfInBounds 3 ((some L).elim Value.none fun f => rawInt f)))).get? b = s.heap.get? b :=
    fun b hb => Heap.get?_update_other _ _ (Ne.symm hb)
  have noRecord : ∀ b o, s.heap.get? b = some o → (∀ vs, o.data ≠ .fields vs) → b ≠ T := fun b o hb hnf q => by
    rw [q, hT] at hb; injection hb with hb; subst hb; exact hnf ts hdT
  unfold setFlight
  refine wpAny_bind (wpAny_field he hd h1 ?_)
  rw [if_pos (show (Value.ref T != Value.none) = true from by simp)]
  refine wpAny_setField hT hdT hsz3 (h _ ⟨fun b o hbo => (other b fun q => by rw [q, hnT] at hbo; cases hbo).trans (hkb b o hbo), hen,
    hl.of_keeps fun b o hb hnf => ⟨o, (other b (noRecord b o hb hnf)).trans hb, rfl⟩, ?_⟩ fun b o hb hnf => ⟨o.slots, (other b (noRecord b o hb hnf)).trans hb⟩)
  exact ⟨oe, vs, T, _, _, (other e (Ne.symm hTe)).trans he, hcls, hd, h1, hnT, hTe, Heap.get?_update_self _ hT (Obj.isFreed_of_fields (Obj.data_mapFields hdT _)), Obj.data_mapFields hdT _, by simp [hsz3]⟩
end
theorem funFr {g : G} {h : Heap} {R : Ld} {as : List Addr} (w : Wd g h R) : ∀ {fl : List Env}, FrOk fl R → (∀ e ∈ fl, ∀ a, e.frame = some a → a ∈ as) → h.FunFrames (hideAll h as) fl
  | [], _, _ => trivial
  | e :: fl, hf, hin => by
    obtain ⟨f, m, h1, h2, h3⟩ := hf e (.head _)
    obtain ⟨o, ho, hp⟩ := w.get h3
    exact Heap.FunFrames.cons (by rw [h2]; decide) h1 (hp.ns ho) (hideAll_none _ (hin e (.head _) f h1)) (funFr w (fun e he => hf e (.tail _ he)) fun e he => hin e (.tail _ he))
theorem sg_raised {c : Cx} {env : Env} {L : Addr} {A : Around} {fl : List Env} {g g0 : G} {l R : Ld} {s : Shared} {h0 : Heap} {m : Str → Option Value} {x : Addr} {args : List Value} {target : Expr} {it : Value} {body body0 : List Stmt} {K : Flow → Sem Fin} {gd : Bool → Bool} {lv : List Value → List Value} {gg : Bool} {ll : List Value} {p : Pos} {next : Ph → Ld → GenState → Prop}
    (E : EnvG env L) (hfr : A.frames = some fl) (hfo : FrOk fl R) (w : Wd g h0 ((L, NsP m) :: (l ++ R))) (hg : G.le g0 g) (hx : Heap.MadeExc h0 s.heap x "ValueError" args) :
    Sg c A (.forLoop target it body [] env) (loopH env (.ref x)) [.ret (fun r => (ownBack env r).wrap K (funcH env) gd lv) none gg ll (.func body0 env) p []] s (GEnd c next .refuses fl g0 R s.gens s.os) := by
  have wR : Wd g h0 R := w.sub ((List.sublist_append_right _ _).trans (List.sublist_cons_self _ _))
  let as := (env :: fl).filterMap (·.frame)
  have hin : ∀ e ∈ (env :: fl), ∀ a, e.frame = some a → a ∈ as := fun e he a h => List.mem_filterMap.mpr ⟨e, he, h⟩
  obtain ⟨t, he, htn, ht⟩ := hx.there
  have hl0 : h0.FunFrames (hideAll h0 as) (env :: fl) := by
    obtain ⟨o, ho, hp⟩ := w.get (a := L) (P := NsP m) (.head _)
    exact Heap.FunFrames.cons (by rw [E.fk]; decide) E.fr (hp.ns ho) (hideAll_none _ (hin env (.head _) L E.fr)) (funFr wR hfo fun e he => hin e (.tail _ he))
  have hl : s.heap.FunFrames (hideAll h0 as) (env :: fl) := hl0.of_keeps fun b o hb _ => ⟨o, hx.keeps b o hb, rfl⟩
  have hkb : (hideAll h0 as).StaysIn s.heap := fun b o hb => hx.keeps b o (of_hideAll _ hb)
  have hen : (hideAll h0 as).get? x = none := by
    cases q : (hideAll h0 as).get? x with
    | none => rfl
    | some o => have := of_hideAll _ q; rw [hx.new] at this; cases this
  have hof : ∀ cd : Code, cd.envs = [] → (A.over cd [.ret (fun r => (ownBack env r).wrap K (funcH env) gd lv) none gg ll (.func body0 env) p []]).frames = some (env :: fl) := fun cd h => by
    show pushEnvs cd.envs (pushEnvs [env] A.frames) = _
    rw [h, hfr]; rfl
  refine sg_wrap (wpAny_bind ?_)
  unfold noteFrame
  simp only [E.fr]
  refine wpAny_bind (wpAny_field he rfl (x := .none) rfl ?_)
  rw [if_neg (by decide)]
  refine wpAny_entryW (hof _ rfl) hl E.fr he hkb hen rfl (by simp) (a0 := .ref t) rfl fun h2 hN => wpAny_theTreesLotGoes ?_
  obtain ⟨n1, n2, n3, n4⟩ := hN
  have hup : h0.UpToSlots h2 := (Heap.UpToSlots.of_keeps hx.keeps).trans n4
  have hheld : Heap.HeldW (hideAll h0 as) (env :: fl) x (.type "ValueError") (.ref t) L h2 := ⟨n1, hen, n2, n3⟩
  show Sg c A _ (leafOf (.error (.ref x))) _ _ _
  refine sg_leaf _ ?_
  show Sg c A _ (((do
        if (← field (.ref x) 1) == Value.none then unsupported "frame.own-activation:exception-without-traceback"
        setFlight (.ref x) env.frame : Sem Unit) >>= fun _ => (.raise (.ref x) : Sem Flow)).wrap K (funcH env) gd lv) [] _ _
  rw [bind_wrap, E.fr]
  refine sg_wrap ?_
  obtain ⟨oe, vs, T, oT, ts, he2, hcls, hd, h1, hnT, hTe, hT, hdT, h3⟩ := n3
  refine wpAny_bind (wpAny_field he2 hd h1 ?_)
  rw [show (Value.ref T == Value.none) = false from rfl]
  refine setFlight_again hheld fun h3' hheld3 hup3 => ?_
  show Sg c A _ ((leaving env (.ref x)).wrap _ _ _ _) [] _ _
  refine sg_wrap ?_
  unfold leaving
  refine wpAny_bind (wpAny_noteFrame_againW E.fr hheld3.2.2.2 ?_)
  refine wpAny_landsW hheld3 fun h4 hfl4 hup4 => ?_
  show Sg c A _ (leafOf (.error (.ref x))) [] _ _
  refine sg_end _ ?_
  obtain ⟨k1, k2, ⟨_, _, k3⟩, k4⟩ := hfl4
  refine ⟨rfl, rfl, rfl, g, x, .ref t, hideAll h0 as, h0, hg, rfl, ⟨k1, k2, k3, k4⟩, wR, (hup.trans hup3).trans hup4, fun a o ha hor hne => ?_⟩
  refine hideAll_get _ ha fun hm => ?_
  obtain ⟨e, hme, hf⟩ := List.mem_filterMap.mp hm
  rcases List.mem_cons.mp hme with z | z
  · subst z
    have hf' : some a = some L := hf.symm.trans E.fr
    cases hf'
    rcases hor with q | ⟨P, q⟩
    · have := (w.ok (L, NsP m) (.head _)).1
      simp only at this
      rw [this] at q; cases q
    · have hnd := w.nd
      rw [List.map_cons, List.nodup_cons] at hnd
      exact hnd.1 (List.mem_map.mpr ⟨(L, P), List.mem_append_right _ q, rfl⟩)
  · exact hne e z hf
theorem ns_eq {L L' : Addr} {m m' : Str → Option Value} {l l' : Ld} (h : (L, NsP m) :: l = (L', NsP m') :: l') : L = L' ∧ NsP m = NsP m' ∧ l = l' :=
  ⟨(Prod.mk.inj (List.cons.inj h).1).1, (Prod.mk.inj (List.cons.inj h).1).2, (List.cons.inj h).2⟩
theorem itP_inj {a a' : Addr} {i i' : Nat} (h : itP a i = itP a' i') : a = a' ∧ i = i' := by
  have : itP a' i' { cls := .type "list_iterator", data := .fields #[.ref a, .int i 0] } := by rw [← h]; exact ⟨rfl, rfl⟩
  have := this.2
  simp at this
  exact ⟨this.1, by omega⟩
theorem GensOk.length {c : Cx} {g : G} : ∀ {st : List GenState} {l : List GA}, GensOk c g st l → st.length = l.length
  | [], _, h => by have e : _ = [] := h; subst e; rfl
  | _ :: _, _, h => by obtain ⟨ga, l', rfl, _, h2⟩ := h; simp [GensOk.length h2]
theorem GensOk.snoc {c : Cx} {g : G} {st0 : GenState} {ga0 : GA} (h0 : GaOk c g st0 ga0) : ∀ {st : List GenState} {l : List GA}, GensOk c g st l → GensOk c g (st ++ [st0]) (l ++ [ga0])
  | [], _, h => by have e : _ = [] := h; subst e; exact ⟨ga0, [], rfl, h0, rfl⟩
  | _ :: _, _, h => by obtain ⟨ga, l', rfl, h1, h2⟩ := h; exact ⟨ga, _, rfl, h1, GensOk.snoc h0 h2⟩
/-- a ruler is made -/
theorem cl_gi {c : Cx} {X : Fm} {S : AS} {Q : AV → AS → Prop} {oc : Value} {od : Option Addr} {fd : FuncData} {osl : Array (Option Value)} {body : List Stmt} {row : List Int} {n k : Nat} (hn : X.n = n + 1)
    (ho : (KK c.w.params).lookup 28 = some ⟨oc, od, .func fd, osl⟩) (hcd : codeIn (KK c.w.params) fd.code fd.qualname = true) (hcd' : fd.code ≠ .ref 114) (hbody : fd.body = .stmts body)
    (hbind : ∀ v, bindArgs fd ⟨[v], []⟩ = pure [(Str.ofString "grouping", v)]) (hco : fd.scope.isCoroutine = false) (hgen : fd.scope.isGenerator = true) (hk : fd.scope.kind = .function)
    (hcell : ∀ x ∈ fd.scope.names, x.2 ≠ .cell) (hloc : fd.scope.names.lookup (Str.ofString "grouping") = some .local)
    (hE : ∀ L, EnvG (callEnv fd L 28) L) (hrun : ∀ env L, EnvG env L → ∀ n row m, GN c n (.fresh row) [(L, NsP m)] (.fresh (.func body env)))
    (h : ∀ es, Q (.gen S.gens.length) ⟨S.loc, S.mu, S.gens ++ [⟨k, .fresh row, es⟩]⟩) : Cl c X S (.ref 28) [.dat (intL row)] Q := by
  intro g R s vs hR hvs
  obtain ⟨v, r1, rfl, hv, e⟩ := hvs
  have e' : r1 = [] := e
  subst e'
  have hR0 := hR
  have okX : OkA (n + 1) X.A := hn ▸ X.ok
  refine wpAny_call (codeAny_call_generator (by have := okX.dp; omega) (hR0.kIn ho (by decide)) rfl hco hgen hbody (hR0.codeRec hcd hcd') ?_)
  rw [hbind]
  refine wpAny_pure (wpAny_newFunctionEnv hcell (fun x hx => ?_) (fun h' hns hsb => ?_) hk)
  · rw [List.mem_singleton] at hx; subst hx; exact hloc
  have hkeep : ∀ b o, s.heap.get? b = some o → h'.get? b = some o := fun b o e => hsb.extBut b o (Nat.ne_of_lt (Heap.lt_size e)) (Heap.get?_push_of_some _ e)
  refine ⟨hR0.lim.keeps hkeep, ?_⟩
  obtain ⟨m, cs, mo, tb, q⟩ := hR
  let L := s.heap.objs.size
  let mG : Str → Option Value := fun x => [(Str.ofString "grouping", v)].reverse.lookup x
  -- the new names
  have w1 : Wd g h' ((L, NsP mG) :: ledger X.env.locals m cs mo S.gens tb R) := by
    have w0 := q.wd.push (o := { cls := .type "frame", data := .dict #[] }) (P := fun _ => True) rfl trivial
    obtain ⟨o, ho', hp'⟩ := NsP.of hns
    exact w0.upd0 (fun b o hb e => hsb.extBut b o hb e) ho' hp'
  let ga : GA := ⟨k, .fresh row, [(L, NsP mG)]⟩
  have w2 : Wd g h' (ledger X.env.locals m cs mo (S.gens ++ [ga]) tb R) := by
    refine w1.perm ?_
    unfold ledger
    rw [List.flatMap_append]
    show ((L, NsP mG) :: _).Perm _
    have e1 : (X.env.locals, NsP m) :: (cs.map cellE ++ (mo.map exE ++ (S.gens.flatMap GA.ents ++ ((114, fun o => o = tb) :: R)))) = ((X.env.locals, NsP m) :: (cs.map cellE ++ (mo.map exE ++ S.gens.flatMap GA.ents))) ++ ((114, fun o => o = tb) :: R) := by simp
    have e2 : (X.env.locals, NsP m) :: (cs.map cellE ++ (mo.map exE ++ ((S.gens.flatMap GA.ents ++ [ga].flatMap GA.ents) ++ ((114, fun o => o = tb) :: R)))) = ((X.env.locals, NsP m) :: (cs.map cellE ++ (mo.map exE ++ S.gens.flatMap GA.ents))) ++ (L, NsP mG) :: ((114, fun o => o = tb) :: R) := by simp [ga]
    rw [e1, e2]
    exact List.perm_middle.symm
  have hrel : Rel c X R g { s with heap := h', gens := s.gens.push (.fresh (.func body (callEnv fd L 28))), toks := s.toks + 1 + 1 + 1 } ⟨S.loc, S.mu, S.gens ++ [ga]⟩ := by
    refine ⟨m, cs, mo, tb, ⟨w2, q.loc, q.cel, q.mut_, ?_, q.tbo, q.os, q.g0, q.fr⟩⟩
    have hm : mG (Str.ofString "grouping") = some v := by
      show List.lookup _ [(Str.ofString "grouping", v)] = some v
      rw [List.lookup_cons]; simp
    have hga : GaOk c g (.fresh (.func body (callEnv fd L 28))) ga := ⟨⟨L, mG, v, rfl, hm, hv⟩, hrun _ L (hE L) k row mG, rfl⟩
    show GensOk c g (s.gens.push _).toList _
    rw [Array.toList_push]
    exact GensOk.snoc hga q.gen
  have hp := hrel.pushF (o := genO s.gens.size (.str fd.name (s.toks + 1)) (.str fd.qualname (s.toks + 1 + 1))) (t := s.toks + 1 + 1 + 1) rfl
  have hlen : s.gens.size = S.gens.length := by rw [← q.gen.length]; simp
  refine ⟨_, .gen S.gens.length, _, hp.2, hp.1, ⟨_, .str fd.name (s.toks + 1), .str fd.qualname (s.toks + 1 + 1), rfl, ?_⟩, h _⟩
  rw [← hlen]
  exact G.put_self _ _ _
theorem gi_spec {c : Cx} {X : Fm} {S : AS} {Q : AV → AS → Prop} {row : List Int} {n k : Nat} (hn : X.n = n + 1) (h : ∀ es, Q (.gen S.gens.length) ⟨S.loc, S.mu, S.gens ++ [⟨k, .fresh row, es⟩]⟩) : Cl c X S (.ref 28) [.dat (intL row)] Q := by
  refine cl_gi hn (by with_unfolding_all rfl) rfl (by decide) rfl (fun _ => rfl) rfl rfl rfl (by decide +kernel) (by decide +kernel) (fun L => ⟨rfl, rfl, rfl, rfl, rfl, rfl, by rfl, by rfl, by rfl, by rfl, by rfl⟩) ?_ h
  intro env L E n row m
  cases n with
  | zero => trivial
  | succ n =>
  intro A fl g R s Γ p hΓ ok hfr hfo w hp l0
  obtain ⟨L2, m2, v, e1, hm, hrow⟩ := hp
  obtain ⟨_, e2, _⟩ := ns_eq e1
  rw [e2] at w
  refine (?_ : Sg c A (.func _ env) ((M c).den (.func _ env)) [] s (GEnd c (GN c n) (scan row 0) fl g R s.gens s.os)) (Γ.wake _ p) p rfl (hΓ.wake _ p)
  refine sg_func (sg_cons (sg_stmt (wpAny_Assign_Name (wpAny_Constant_none (gstore E w E.k3 fun h' tk w3 => ?_)) (by rfl))))
  have hmg : putM m2 (Str.ofString "last_interval") .none (Str.ofString "grouping") = some v := (if_neg (by decide +kernel)).trans hm
  obtain ⟨a, vs, nn, rfl, hga, hr⟩ := hrow
  have hrow : Rd c.w g (intL row) (.ref a) := ⟨a, vs, nn, rfl, hga, hr⟩
  refine sg_cons (sg_For (gload E w3 E.k1 hmg (wpAny_pyIter_list (items := vs.toArray) ⟨_, w3.fz _ _ hga, rfl, nn, rfl⟩ fun p1 => ?_)) (by intro _; rfl))
  have w4 := (w3.push (o := { cls := .type "list_iterator", data := .fields #[.ref a, .int 0 0] }) (P := itP a 0) rfl ⟨rfl, rfl⟩).swap2
  refine gi_for (fs := [_]) E ?_ ?_ ?_ n A fl g R _ _ 0 ok hfr hfo w4 hrow l0 (if_pos rfl)
  · intro A h
    show (marksOver _ (A.handled, A.handled)).1 = none
    rw [h]; rfl
  · intro A s Φ h
    exact sg_leaf _ (sg_end (.ok (.ret .none)) h)
  clear hrow w4 w3 hga hmg hr e1 e2 w hm hfo hfr ok hΓ l0
  intro n ih A fl g R s m j x t ok hfr hfo w hrow l0 hlast hj hmi
  have wR : Wd g s.heap R := w.sub ((List.sublist_cons_self _ _).trans (List.sublist_cons_self _ _))
  have hh : ∀ cd : Code, ∀ fs : List Frame, (∀ f ∈ fs, ∃ k g l cd p kp, f = Frame.ret k none g l cd p kp) → (A.over cd fs).handled = none := by
    intro cd fs
    induction fs with
    | nil => intro _; exact ok.hd
    | cons f r ih =>
      intro h
      obtain ⟨k, g, l, cd', p, kp, rfl⟩ := h f (.head _)
      exact ih fun f hf => h f (.tail _ hf)
  refine sg_cons (sg_If (wpAny_isTrue_Compare1 (gload E w E.k2 hmi (gchar E w l0 fun t' => P.eq_int (wpAny_truthy_bool ?_))) (by with_unfolding_all rfl)))
  by_cases h127 : x = 127
  · rw [if_pos (by simp [h127])]
    refine sg_cons (sg_stmt (wpAny_Return_none ?_))
    refine sg_leaf (.ok (.ret .none)) (sg_end (.ok (.ret .none)) ?_)
    have : scan row j = .stops := by unfold scan; rw [hj]; simp [h127]
    rw [this]
    exact ⟨rfl, rfl, rfl, g, .rfl, wR, rfl⟩
  rw [if_neg (by simp [h127])]
  refine sg_nil ?_
  refine sg_cons (sg_If (wpAny_isTrue_Compare1 (gload E w E.k2 hmi (wpAny_Constant_int (P.eq_int (wpAny_truthy_bool ?_)))) (by with_unfolding_all rfl)))
  by_cases h0 : x = 0
  · rw [if_pos (by simp [h0])]
    cases j with
    | zero =>
      refine sg_cons (sg_If (wpAny_isTrue_Compare1 (gload E w E.k3 hlast (wpAny_Constant_none (is_none (wpAny_truthy_bool ?_)))) (by with_unfolding_all rfl)))
      rw [if_pos (by rfl)]
      have : scan row 0 = .refuses := by unfold scan; rw [hj]; simp [h0]
      rw [this]
      refine sg_cons (sg_wrap (wpAny_Raise_call PySem.F.excCall_ValueError PySem.F.excRaise_ValueError (hh _ _ (by
        intro f hf
        rw [List.mem_singleton] at hf
        exact ⟨_, _, _, _, _, _, hf⟩)) (by rfl) (gvalerr E w l0 ⟨rfl, Calls.evalArgs_plain (wpAny_items_cons (wpAny_Constant_str (wpAny_items_nil ⟨rfl, by rw [sizeLine_eq]; exact Nat.le_of_ble_eq_true rfl, fun h' e hx => ?_⟩)) (by rfl))⟩)))
      exact sg_raised (l := [(_, itP a 1)]) E hfr hfo w .rfl hx
    | succ k =>
      obtain ⟨x', t', hk', hl'⟩ := hlast
      refine sg_cons (sg_If (wpAny_isTrue_Compare1 (gload E w E.k3 hl' (wpAny_Constant_none (is_none (wpAny_truthy_bool ?_)))) (by with_unfolding_all rfl)))
      rw [if_neg (by intro h; cases h)]
      refine sg_nil ?_
      have : scan row (k + 1) = .says x' (.loop x') := by unfold scan; rw [hj]; simp [h0, h127, hk']
      rw [this]
      have w5 : Wd g s.heap ((L, NsP m) :: R) := w.sub (.cons_cons _ (List.sublist_cons_self _ _))
      exact sg_cons (sg_While fun p2 => gi_while E (by rfl) (by rfl) n A fl g R _ m x' t' ok hfr hfo w5 l0 hl')
  rw [if_neg (by simp [h0])]
  refine sg_nil ?_
  refine sg_cons (sg_Yield (by rfl) E.co (by unfold interactive; rw [E.fk]; rfl) (gload E w E.k2 hmi fun k p hk => ?_))
  have hsc : scan row j = .says x (.at row j) := by unfold scan; rw [hj]; simp [h0, h127]
  rw [hsc]
  refine ⟨by rfl, rfl, rfl, g, [(L, NsP m), (_, itP a (j + 1))], t, .rfl, w, ⟨L, _, m, a, t, x, rfl, hrow, hj, hmi⟩, ?_, rfl⟩
  cases n with
  | zero => trivial
  | succ n =>
  intro A' fl' g' R' s' Γ p' hΓ ok' hfr' hfo' w' hp l0'
  obtain ⟨L3, I3, m3, a3, t3, x3, e3, hrow3, hj3, hm3⟩ := hp
  obtain ⟨_, e4, e5⟩ := ns_eq e3
  have e6 := (Prod.mk.inj (List.cons.inj e5).1).2
  obtain ⟨rfl, _⟩ := itP_inj e6
  rw [hj] at hj3
  cases hj3
  rw [e4] at w'
  refine (?_ : Sg c A' _ (k (.send .none)) _ s' (GEnd c (GN c n) (scan row (j + 1)) fl' g' R' s'.gens s'.os)) (Γ.wake _ p') p rfl (hΓ.wake _ p')
  rw [hk]
  refine sg_cons (sg_stmt (wpAny_Assign_Name (gload E w' E.k2 hm3 (gstore E w' E.k3 fun h' tk w6 => ?_)) (by rfl)))
  exact sg_again (by rfl) (ih n rfl A' fl' g' R' _ _ (j + 1) ok' hfr' hfo' w6 hrow3 l0' ⟨x, t3, hj, if_pos rfl⟩)
/-- an exception under way, and what stood ahead of it -/
noncomputable def Fly (c : Cx) (X : Fm) (R : Ld) (g : G) (S : AS) (x : Addr) (s : Shared) : Prop :=
  ∃ a0 base h0 m cs mo tb, Heap.FlyingW base X.fl x (.type "ValueError") a0 s.heap ∧ RelX c X R g { s with heap := h0 } S m cs mo tb ∧ h0.UpToSlots s.heap ∧ BaseOk base g (ledger X.env.locals m cs mo S.gens tb R) X.fl h0
theorem gens_at {c : Cx} {g : G} : ∀ {st : List GenState} {l : List GA}, GensOk c g st l → ∀ {i : Nat} {ga : GA}, l[i]? = some ga → ∃ s0 pre post, st[i]? = some s0 ∧ l = pre ++ ga :: post ∧ pre.length = i ∧ GaOk c g s0 ga ∧
    ∀ g' st' ga', G.le g g' → GaOk c g' st' ga' → GensOk c g' (st.set i st') (l.set i ga')
  | [], l, h, i, ga, e => by have z : l = [] := h; subst z; simp at e
  | s1 :: r, _, h, i, ga, e => by
    obtain ⟨ga1, l', rfl, h1, h2⟩ := h
    cases i with
    | zero => simp at e; subst e; exact ⟨s1, [], l', rfl, rfl, rfl, h1, fun g' st' ga' hg h => ⟨ga', l', rfl, h, h2.mono hg⟩⟩
    | succ i =>
      obtain ⟨s0, pre, post, z1, z2, z3, z4, z5⟩ := gens_at h2 (i := i) (ga := ga) (by simpa using e)
      exact ⟨s0, ga1 :: pre, post, by simpa using z1, by rw [z2]; rfl, by simp [z3], z4, fun g' st' ga' hg h => ⟨ga1, _, rfl, h1.mono hg, z5 g' st' ga' hg h⟩⟩
theorem wpAny_resumeX {c : Cx} {A : Around} {E : Value → Shared → Prop} {s : Shared} {i : Nat} {st : GenState} {α : Type} {l : List Value} {k : GenResult → Sem α} {Q : α → Shared → Prop} {P : End → Shared → Prop} (hg : s.gens[i]? = some st)
    (hrun : ∀ Γ p, Γ.In A → ∃ e s₁, Resumes c Γ p st (s.setGen i .running) e s₁ ∧ e.quiet = true ∧ P e s₁) (hk : ∀ e s₁, P e s₁ → wpAny (M c) A (k e.result) Q E (s₁.setGen i e.genState)) : wpAny (M c) A (.resume i (.send .none) l k) Q E s := by
  intro Γ p hΓ
  rw [Sem.wp_resume]
  obtain ⟨e, s₁, hr, hq, hp⟩ := hrun Γ p hΓ
  refine ⟨e.result, s₁.setGen i e.genState, ?_, hk e s₁ hp Γ p hΓ⟩
  unfold Wakes
  rw [hg]
  cases st with
  | fresh cd => exact ⟨e, s₁, hr, hq, rfl, rfl⟩
  | suspended k₀ l₀ c₀ p₀ fs₀ cl => exact ⟨e, s₁, hr, hq, rfl, rfl⟩
  | running => exact hr.elim
  | finished => exact hr.elim
theorem stop_tail {c : Cx} {A : Around} {Q : Option Value → Shared → Prop} {E : Value → Shared → Prop} {s1 : Shared} {K : Value → Sem Fin} {Qf : Fin → Shared → Prop} {Ef : Value → Shared → Prop} (hh : A.handled = none) (hK : ∀ e s2, Ef e s2 → wpAny (M c) A.in1 (K e) Qf Ef s2)
    (hE : Ef = fun e s' => wpAny (M c) A (do if ← isInstance e (.type "StopIteration") then pure none else throw e) Q E s')
    (hq : ∀ h', (∀ b o, s1.heap.get? b = some o → h'.get? b = some o) → Q none { s1 with heap := h' }) : wpAny (M c) A.in1 (newExc (.type "StopIteration") [] >>= K) Qf Ef s1 := by
  subst hE
  refine wpAny_bind ?_
  simp only [newExc, newTuple]
  refine wpAny_bind (wpAny_newObj_type ?_ (by size_fits))
  refine wpAny_bind (m := firstArgMember _ _) (wpAny_of_eq (a := Value.none) (by first | rfl | (simp only [firstArgMember]; rfl)) ?_)
  refine wpAny_newObj_type ?_ (by size_fits)
  refine hK _ _ ?_
  refine wpAny_bind (wpAny_isInstance (T := "StopIteration") (b := true) ⟨_, Heap.get?_push_size _ rfl, rfl⟩ isSubtype_stop ?_)
  exact wpAny_pure (hq _ fun b o hb => Heap.get?_push_of_some _ (Heap.get?_push_of_some _ hb))
theorem valErr_notStop : isSubtype (.type "ValueError") (.type "StopIteration") = pure false := by rw [isSubtype_type]; kernel_rfl
theorem wpAny_pyNextX {c : Cx} {A : Around} {E : Value → Shared → Prop} {s : Shared} {a i : Nat} {st : GenState} {Q : Option Value → Shared → Prop} {P : End → Shared → Prop} (hh : A.handled = none) (hl : s.heap.NoLimit) (hroom : A.depth < recursionLimit)
    (hgen : s.heap.IsGen a i) (hst : s.gens[i]? = some st) (hrun : ∀ Γ p, Γ.In A.in1 → ∃ e s₁, Resumes c Γ p st (s.setGen i .running) e s₁ ∧ e.quiet = true ∧ P e s₁)
    (hP : ∀ e s₁, P e s₁ → (∃ v, e.result = .yielded v ∧ Q (some v) (s₁.setGen i e.genState)) ∨ (e.result = .returned .none ∧ ∀ h', (∀ b o, s₁.heap.get? b = some o → h'.get? b = some o) → Q none { s₁.setGen i e.genState with heap := h' }) ∨
      (∃ x, e.result = .raised (.ref x) ∧ (∃ ox, s₁.heap.get? x = some ox ∧ ox.cls = .type "ValueError") ∧ (∃ og nm qn, s₁.heap.get? a = some og ∧ og.data = .fields #[.int i 0, nm, qn]) ∧ E (.ref x) (s₁.setGen i e.genState))) :
    wpAny (M c) A (pyNext (.ref a)) Q E s := by
  unfold pyNext
  refine wpAny_bind (wpAny_attempt (wpAny_callSpecial?_slot (name := Str.ofString "__next__") hgen.typeIs slot_gen_next
    (wpAny_call_entry slot_gen_next hgen.typeIs entry_gen_next ?_ (args_gen_next _))))
  show wpAny _ _ (Builtin.Generator.genWake (.ref a) (.send .none)) _ _ s
  unfold Builtin.Generator.genWake
  refine wpAny_bind (wpAny_holding (wpAny_genNumber hgen (wpAny_bind (wpAny_genState hst ?_))))
  cases st with
  | running => intro Γ p hΓ; obtain ⟨_, _, hr, _⟩ := hrun Γ p hΓ; exact hr.elim
  | finished => intro Γ p hΓ; obtain ⟨_, _, hr, _⟩ := hrun Γ p hΓ; exact hr.elim
  | _ =>
    refine wpAny_bind (wpAny_roomToWake hl hroom ?_)
    show wpAny _ _ (.resume i (.send .none) [] _) _ _ s
    refine wpAny_resumeX hst hrun fun e s₁ hp => ?_
    rcases hP e s₁ hp with ⟨v, h1, h2⟩ | ⟨h1, h2⟩ | ⟨x, h1, ⟨ox, h2, h3⟩, ⟨og, nm, qn, h4, h5⟩, h6⟩
    · rw [h1]; exact wpAny_pure ⟨v, rfl, wpAny_pure h2⟩
    · rw [h1]; exact stop_tail hh (fun e s2 h => wpAny_bind (wpAny_raiseNew_none hh h)) rfl h2
    · rw [h1]
      show wpAny _ _ (Builtin.Generator.genLeft (.ref a) (.ref x)) _ _ _
      unfold Builtin.Generator.genLeft Builtin.Generator.madeByALambda Builtin.Generator.genEscaped
      refine wpAny_bind (wpAny_bind (wpAny_load (s := s₁.setGen i e.genState) h4 (wpAny_pure ?_)))
      rw [h5]
      simp only [show ((#[Value.int (↑i) 0, nm, qn] : Array Value)[3]? == some (Value.bool true)) = false from rfl, Bool.and_false, Bool.false_and, Bool.false_eq_true, if_false]
      have tx : (s₁.setGen i e.genState).TypeIs (.ref x) "ValueError" := ⟨ox, h2, h3⟩
      refine wpAny_bind (wpAny_isInstance (b := false) tx valErr_notStop (wpAny_bind (wpAny_isInstance (b := false) tx valErr_notStop ?_)))
      refine wpAny_bind (wpAny_throw (wpAny_bind (wpAny_isInstance (b := false) tx valErr_notStop ?_)))
      exact wpAny_throw h6
theorem wpAny_pyNextF {c : Cx} {A : Around} {E : Value → Shared → Prop} {s : Shared} {a i : Nat} {Q : Option Value → Shared → Prop} (hh : A.handled = none)
    (hgen : s.heap.IsGen a i) (hst : s.gens[i]? = some .finished) (hq : ∀ h', (∀ b o, s.heap.get? b = some o → h'.get? b = some o) → Q none { s with heap := h' }) : wpAny (M c) A (pyNext (.ref a)) Q E s := by
  unfold pyNext
  refine wpAny_bind (wpAny_attempt (wpAny_callSpecial?_slot (name := Str.ofString "__next__") hgen.typeIs slot_gen_next
    (wpAny_call_entry slot_gen_next hgen.typeIs entry_gen_next ?_ (args_gen_next _))))
  show wpAny _ _ (Builtin.Generator.genWake (.ref a) (.send .none)) _ _ s
  unfold Builtin.Generator.genWake
  refine wpAny_bind (wpAny_holding (wpAny_genNumber hgen (wpAny_bind (wpAny_genState hst ?_))))
  show wpAny _ _ (.resume i (.send .none) [] _) _ _ s
  intro Γ p hΓ
  rw [Sem.wp_resume]
  refine ⟨.finished, s, by unfold Wakes; rw [hst]; exact ⟨rfl, rfl⟩, ?_⟩
  exact stop_tail (c := c) hh (fun e s2 h => wpAny_raiseNew_none hh h) rfl hq Γ p hΓ
/-- the ledger, one ruler's part ahead -/
theorem ledger_gen {L : Addr} {m : Str → Option Value} {cs : List (Addr × Option Value)} {mo : List (Addr × Obj)} {pre post : List GA} {ga : GA} {tb : Obj} {R : Ld} :
    (ledger L m cs mo (pre ++ ga :: post) tb R).Perm (ga.ents ++ ((L, NsP m) :: (cs.map cellE ++ (mo.map exE ++ ((pre ++ post).flatMap GA.ents ++ ((114, fun o => o = tb) :: R)))))) := by
  unfold ledger
  rw [List.flatMap_append, List.flatMap_cons, List.flatMap_append]
  generalize cs.map cellE = c1
  generalize mo.map exE = m1
  generalize pre.flatMap GA.ents = p1
  generalize post.flatMap GA.ents = p2
  generalize ga.ents = e1
  generalize ((114, fun o => o = tb) : Addr × (Obj → Prop)) :: R = R1
  generalize ((L, NsP m) : Addr × (Obj → Prop)) = x1
  have a1 : x1 :: (c1 ++ (m1 ++ (p1 ++ (e1 ++ p2) ++ R1))) = (x1 :: (c1 ++ (m1 ++ p1))) ++ e1 ++ (p2 ++ R1) := by simp
  have a2 : e1 ++ (x1 :: (c1 ++ (m1 ++ (p1 ++ p2 ++ R1)))) = e1 ++ (x1 :: (c1 ++ (m1 ++ p1))) ++ (p2 ++ R1) := by simp
  rw [a1, a2]
  exact List.perm_append_comm.append_right _
theorem set_split {α : Type} {pre post : List α} {a b : α} : (pre ++ a :: post).set pre.length b = pre ++ b :: post := by simp
theorem BaseOk.perm {base : Heap} {g : G} {l l' : Ld} {fl : List Env} {h : Heap} (b : BaseOk base g l fl h) (hp : ∀ p ∈ l', p ∈ l) : BaseOk base g l' fl h :=
  fun a o ha hor hne => b a o ha (hor.imp id fun hh => by obtain ⟨P, q⟩ := hh; exact ⟨P, hp _ q⟩) hne
theorem gnext {c : Cx} {X : Fm} {R : Ld} {g : G} {s : Shared} {S : AS} {A : Around} {i k : Nat} {v : Value} {ga : GA} {Q : Option Value → Shared → Prop} {E : Value → Shared → Prop}
    (hR : Rel c X R g s S) (hv : RdGen g i v) (hi : S.gens[i]? = some ga) (hk : ga.n = k + 1) (ok : OkA 6 A) (hfl : A.frames = some X.fl)
    (hsay : ∀ x ph', ga.ph.tell = .says x ph' → ∀ g' s' es t, G.le g g' → Rel c X R g' s' ⟨S.loc, S.mu, S.gens.set i ⟨k, ph', es⟩⟩ → Q (some (.int x t)) s')
    (hstop : ga.ph.tell = .stops → ∀ g' s', G.le g g' → Rel c X R g' s' ⟨S.loc, S.mu, S.gens.set i ⟨k, .done, []⟩⟩ → Q none s')
    (href : ga.ph.tell = .refuses → ∀ g' s' x, G.le g g' → Fly c X R g' ⟨S.loc, S.mu, S.gens.set i ⟨k, .done, []⟩⟩ x s' → E (.ref x) s') :
    wpAny (M c) A (pyNext v) Q E s := by
  have hR0 := hR
  obtain ⟨a, nm, qn, rfl, hga⟩ := hv
  obtain ⟨m, cs, mo, tb, q⟩ := hR
  obtain ⟨st, pre, post, hst, hgs, hpl, hok, hset⟩ := gens_at q.gen hi
  have hgen : s.heap.IsGen a i := ⟨_, nm, qn, hR0.fz hga, rfl, rfl, rfl⟩
  have hst' : s.gens[i]? = some st := by simpa using hst
  have okI : OkA 5 A.in1 := ok.in1
  obtain ⟨hpo, hgn, _⟩ := hok
  rw [hk] at hgn
  let rest : Ld := (X.env.locals, NsP m) :: (cs.map cellE ++ (mo.map exE ++ ((pre ++ post).flatMap GA.ents ++ ((114, fun o => o = tb) :: R))))
  have hw : Wd g s.heap (ga.ents ++ rest) := by
    have := q.wd
    rw [hgs] at this
    exact this.perm ledger_gen
  -- what stands behind a run
  have back : ∀ g' h' ga', G.le g g' → Wd g' h' (ga'.ents ++ rest) → Wd g' h' (ledger X.env.locals m cs mo (S.gens.set i ga') tb R) := by
    intro g' h' ga' hg hw'
    rw [hgs, ← hpl, set_split]
    exact hw'.perm ledger_gen.symm
  have backR : ∀ g' (s1 : Shared) ga' st', G.le g g' → s1.gens = s.gens.setIfInBounds i .running → s1.os = s.os → Wd g' s1.heap (ga'.ents ++ rest) → GaOk c g' st' ga' → RelX c X R g' (s1.setGen i st') ⟨S.loc, S.mu, S.gens.set i ga'⟩ m cs mo tb := by
    intro g' s1 ga' st' hg h1 h2 hw' hga'
    refine ⟨back g' _ ga' hg hw', q.loc.mono hg, q.cel, q.mut_.mono hg, ?_, q.tbo.mono hg, h2.trans q.os, q.g0.trans hg, q.fr⟩
    have : (s1.setGen i st').gens.toList = s.gens.toList.set i st' := by
      show (s1.gens.setIfInBounds i st').toList = _
      rw [h1]; simp
    rw [this]
    exact hset g' st' ga' hg hga'
  have finOk : ∀ g', GaOk c g' .finished ⟨k, .done, []⟩ := fun g' => ⟨trivial, by cases k <;> first | trivial | rfl, rfl⟩
  have hfo : FrOk X.fl rest := q.fr.mono fun p hp => by
    rcases List.mem_cons.mp hp with e | e
    · exact e ▸ .head _
    · exact .tail _ (List.mem_append_right _ (List.mem_append_right _ (List.mem_append_right _ (.tail _ e))))
  by_cases hdone : ga.ph = .done
  · rw [hdone] at hgn
    have e : st = .finished := hgn
    subst e
    refine wpAny_pyNextF ok.hd hgen hst' fun h' hkeep => hstop (by rw [hdone]; rfl) g { s with heap := h' } .rfl ⟨m, cs, mo, tb, ?_⟩
    have w3 : Wd g h' (ga.ents ++ rest) := hw.keeps hkeep
    have hsame : s.gens.toList.set i .finished = s.gens.toList := by
      apply List.ext_getElem?
      intro j
      rw [List.getElem?_set]
      split
      · rename_i hji; subst hji
        rw [hst]
        split
        · rfl
        · rename_i hlt; simp [List.getElem?_eq_none_iff.mpr (Nat.not_lt.mp hlt)] at hst
      · rfl
    refine ⟨back g h' _ .rfl (w3.sub (List.sublist_append_right _ _)), q.loc, q.cel, q.mut_, ?_, q.tbo, q.os, q.g0, q.fr⟩
    show GensOk c g s.gens.toList _
    rw [← hsame]
    exact hset g .finished ⟨k, .done, []⟩ .rfl (finOk g)
  have hgn' : ∀ (A : Around) (fl : List Env) (g : G) (R : Ld) (s : Shared) (Γ : Ctx) (p : Pos), Γ.In A → OkA 5 A → A.frames = some fl → FrOk fl R → Wd g s.heap (ga.ents ++ R) → PhOk c.w g ga.ph ga.ents → G.le c.g0 g →
      ∃ e s', Resumes c Γ p st s e s' ∧ GEnd c (GN c k) ga.ph.tell fl g R s.gens s.os e s' := by
    cases hph : ga.ph with
    | done => exact absurd hph hdone
    | fresh row => rw [hph] at hgn; exact hgn
    | «at» row j => rw [hph] at hgn; exact hgn
    | loop x => rw [hph] at hgn; exact hgn
  have run : ∀ Γ p, Γ.In A.in1 → ∃ e s₁, Resumes c Γ p st (s.setGen i .running) e s₁ ∧ e.quiet = true ∧ GEnd c (GN c k) ga.ph.tell X.fl g rest (s.setGen i .running).gens s.os e s₁ := fun Γ p hΓ => by
    obtain ⟨e, s1, z1, z2⟩ := hgn' A.in1 X.fl g rest (s.setGen i .running) Γ p hΓ okI hfl hfo hw hpo q.g0
    exact ⟨e, s1, z1, z2.1, z2⟩
  refine wpAny_pyNextX ok.hd hR0.lim (by have := ok.dp; omega) hgen hst' run fun e s1 hge => ?_
  obtain ⟨hqt, h1, h2, h3⟩ := hge
  cases ht : ga.ph.tell with
  | says x ph' =>
    rw [ht] at h3
    obtain ⟨g', es', t, z1, z2, z3, z4, z5⟩ := h3
    exact .inl ⟨_, z5, hsay x ph' ht g' _ es' t z1 ⟨m, cs, mo, tb, backR g' s1 ⟨k, ph', es'⟩ _ z1 h1 h2 z2 ⟨z3, z4, End.bare_of_quiet hqt⟩⟩⟩
  | stops =>
    rw [ht] at h3
    obtain ⟨g', z1, z2, z3⟩ := h3
    have e4 : e.genState = .finished := by
      cases e with
      | ret r => rfl
      | susp v g l k c p fs => cases z3
    rw [e4]
    refine .inr (.inl ⟨z3, fun h' hkeep => hstop ht g' _ z1 ⟨m, cs, mo, tb, ?_⟩⟩)
    have := backR g' { s1 with heap := h' } ⟨k, .done, []⟩ .finished z1 h1 h2 (z2.keeps hkeep) (finOk g')
    exact this
  | refuses =>
    rw [ht] at h3
    obtain ⟨g', x, a0, base, h0, z1, z2, z3, z4, z5, z6⟩ := h3
    have e4 : e.genState = .finished := by
      cases e with
      | ret r => rfl
      | susp v g l k c p fs => cases z2
    rw [e4]
    have hh0 : h0.get? a = some (genO i nm qn) := z4.fz _ _ (z1 _ _ hga)
    have hnf : ∀ e ∈ X.fl, e.frame ≠ some a := fun e he hf => by
      obtain ⟨f, m', k1, _, k3⟩ := hfo e he
      rw [k1] at hf
      cases hf
      have := (z4.ok _ k3).1
      rw [z1 _ _ hga] at this
      cases this
    have hb := z6 a _ hh0 (.inl (z1 _ _ hga)) hnf
    refine .inr (.inr ⟨x, z2, z3.there, ⟨_, nm, qn, z3.1 _ _ hb, rfl⟩, href ht g' _ x z1 ⟨a0, base, h0, m, cs, mo, tb, z3, ?_, z5, ?_⟩⟩)
    · exact backR g' { s1 with heap := h0 } ⟨k, .done, []⟩ .finished z1 h1 h2 z4 (finOk g')
    · refine z6.perm fun p hp => ?_
      rw [hgs, ← hpl, set_split] at hp
      exact ledger_gen.mem_iff.mp hp
theorem nd_eq {l : Ld} (nd : (l.map Prod.fst).Nodup) {a : Addr} {P P' : Obj → Prop} (h : (a, P) ∈ l) (h' : (a, P') ∈ l) : P = P' := by
  induction l with
  | nil => cases h
  | cons p r ih =>
    rw [List.map_cons, List.nodup_cons] at nd
    rcases List.mem_cons.mp h with e | k1
    · rcases List.mem_cons.mp h' with e' | k2
      · exact (Prod.mk.inj (e.trans e'.symm)).2
      · exact (nd.1 (List.mem_map.mpr ⟨_, k2, by rw [← e]⟩)).elim
    · rcases List.mem_cons.mp h' with e' | k2
      · exact (nd.1 (List.mem_map.mpr ⟨_, k1, by rw [← e']⟩)).elim
      · exact ih nd.2 k1 k2
theorem NsP.slots {m : Str → Option Value} {o : Obj} (h : NsP m o) (sl : Array (Option Value)) : NsP m { o with slots := sl } := h
theorem fly_lands {c : Cx} {X : Fm} {R : Ld} {g : G} {s : Shared} {S : AS} {base h0 h' : Heap} {t : Nat} {m : Str → Option Value} {cs : List (Addr × Option Value)} {mo : List (Addr × Obj)} {tb : Obj}
    (q : RelX c X R g { s with heap := h0 } S m cs mo tb) (hb : BaseOk base g (ledger X.env.locals m cs mo S.gens tb R) X.fl h0) (hst : base.StaysIn h') (hup : h0.UpToSlots h') : Rel c X R g { s with heap := h', toks := t } S := by
  have hfo : FrOk X.fl (ledger X.env.locals m cs mo S.gens tb R) := q.fr.mono fun p hp => by
    rcases List.mem_cons.mp hp with e | e
    · exact e ▸ .head _
    · exact .tail _ (List.mem_append_right _ (List.mem_append_right _ (List.mem_append_right _ (.tail _ e))))
  refine ⟨m, cs, mo, tb, ⟨⟨fun a o ha => ?_, q.wd.nd, fun p hp => ?_⟩, q.loc, q.cel, q.mut_, q.gen, q.tbo, q.os, q.g0, q.fr⟩⟩
  · refine hst _ _ (hb a o (q.wd.fz a o ha) (.inl ha) fun e he hf => ?_)
    obtain ⟨f, m', k1, _, k3⟩ := hfo e he
    rw [k1] at hf
    cases hf
    have := (q.wd.ok _ k3).1
    rw [ha] at this
    cases this
  · obtain ⟨h1, o, h2, h3⟩ := q.wd.ok p hp
    refine ⟨h1, ?_⟩
    by_cases hfr : ∃ e ∈ X.fl, e.frame = some p.1
    · obtain ⟨e, he, hf⟩ := hfr
      obtain ⟨f, m', k1, _, k3⟩ := hfo e he
      rw [k1] at hf
      cases hf
      have hP : NsP m' = p.2 := nd_eq q.wd.nd k3 hp
      rw [← hP] at h3 ⊢
      obtain ⟨es, ep, hd, _⟩ := id h3
      obtain ⟨sl, hs⟩ := hup _ o h2 fun vs z => by rw [hd] at z; cases z
      exact ⟨_, hs, h3.slots sl⟩
    · exact ⟨o, hst _ _ (hb p.1 o h2 (.inr ⟨p.2, hp⟩) fun e he hf => hfr ⟨e, he, hf⟩), h3⟩
theorem Ev.any {c : Cx} {X : Fm} {S : AS} {t : Sem Value} {Q : AV → AS → Prop} (h : Ev c X S t Q) {g : G} {R : Ld} {s : Shared} (hR : Rel c X R g s S) {E : Value → Shared → Prop} : wpAny (M c) X.A t (Po c X R (AVr c.w) Q g) E s :=
  wpAny_mono (h g R s hR) (fun _ _ x => x) fun _ _ x => x.elim
theorem call_next2 {c : Cx} {A : Around} {E : Value → Shared → Prop} {s : Shared} {v d : Value} {Q : Value → Shared → Prop} (hT : s.TypeIs v "generator") (h : wpAny (M c) A.in1 (pyNext v) (fun r s' => Q (r.getD d) s') E s) : wpAny (M c) A (call (.builtin "next") [v, d]) Q E s := by
  refine Calls.call_function_entry (by decide +kernel) (by decide +kernel) kdk_entry_next (kdk_args_next2 _ _) ?_
  unfold Builtin.«next»
  refine wpAny_bind (m := someArgs "next" 1 2 _) (wpAny_of_eq (a := [v, d]) (by first | rfl | kernel_rfl!) ?_)
  dsimp only
  refine wpAny_bind (wpAny_specialOf (name := Str.ofString "__next__") hT slot_gen_next.lookup ?_)
  refine wpAny_ite_split (fun hab => absurd hab (by decide)) (fun _ => ?_)
  exact wpAny_bind (wpAny_mono h (fun r s' hq => wpAny_pure ⟨_, rfl, hq⟩) fun _ _ x => x)
theorem valErr_sub : isSubtype (.type "ValueError") (.type "ValueError") = pure true := by rw [isSubtype_type]; kernel_rfl
/-- the next size, nought, or none where it is refused -/
theorem ex_ask {c : Cx} {Y : Fm} {S : AS} {fd : FuncData} {f L : Addr} {i k : Nat} {ga : GA} {Q : Fl → AS → Prop} {np rp cp kp tp hp p1 p2 p3 p4 : Pos} {k1 k2 : Nat} (K : Kn Y fd f L) (hn : 8 ≤ Y.n) (hx : S.loc.lookup (Str.ofString "ruler") = some (.gen i)) (hi : S.gens[i]? = some ga) (hk : ga.n = k + 1)
    (hkn : fd.scope.names.lookup (Str.ofString "next") = some .globalImplicit) (hkv : fd.scope.names.lookup (Str.ofString "ValueError") = some .globalImplicit)
    (h : match ga.ph.tell with
      | .says x ph' => ∀ es, Q (.ret (.int x)) ⟨S.loc, S.mu, S.gens.set i ⟨k, ph', es⟩⟩
      | .stops => Q (.ret (.int 0)) ⟨S.loc, S.mu, S.gens.set i ⟨k, .done, []⟩⟩
      | .refuses => Q (.ret .none) ⟨S.loc, S.mu, S.gens.set i ⟨k, .done, []⟩⟩) :
    Ex c Y S (exec (.Try [.Return (some (.Call (.Name (Str.ofString "next") np) [.Name (Str.ofString "ruler") rp, .Constant (.int 0) k1 cp] [] kp)) tp] [.ExceptHandler (some (.Name (Str.ofString "ValueError") p1)) none [.Return (some (.Constant .none k2 p2)) p3] hp] [] [] p4) Y.env) Q := by
  intro g R s hR
  have hfin : ∀ g', (Q (.ret (.int 0)) ⟨S.loc, S.mu, S.gens.set i ⟨k, .done, []⟩⟩) → ∀ s' t, G.le g g' → Rel c Y R g' s' ⟨S.loc, S.mu, S.gens.set i ⟨k, .done, []⟩⟩ → Po c Y R (FlR c.w) Q g (.ret (.int 0 t)) s' := fun g' hq s' t hg hr => ⟨g', .ret (.int 0), _, hg, hr, ⟨_, rfl, t, rfl⟩, hq⟩
  refine wpAny_Try_except (wpAny_execs_cons (wpAny_Return_some ?_))
  show wpAny _ _ (do callWith kp (← eval (.Name _ np) Y.env) [] (backTo kp (starEach [.Name _ rp, .Constant (.int 0) k1 cp] Y.env)) (backToKw kp (keywordEach [] Y.env))) _ _ s
  refine wpAny_bind (wpAny_mono (ev_b (c := c) (X := Y) (S := S) (Q := fun a S1 => a = .raw (.builtin "next") ∧ S1 = S) (pos := np) bt_next ⟨rfl, rfl⟩ (K.kd hkn) (by rfl) g R s hR) (fun v s1 hh => ?_) fun _ _ x => x.elim)
  obtain ⟨g1, a, S1, h1, h2, h3, h4, h5⟩ := hh
  subst h4 h5
  have e1 : v = .builtin "next" := h3
  subst e1
  refine Calls.callWith_builtin (by rfl) (Calls.evalArgs_plain ?_)
  have hargs : Evs c Y S1 (spliced (backTo kp (starEach [.Name (Str.ofString "ruler") rp, .Constant (.int 0) k1 cp] Y.env))) (fun as S2 => as = [.gen i, .int 0] ∧ S2 = S1) :=
    evs_cons (ev_var hx (evs_cons (ev_int (evs_nil ⟨rfl, rfl⟩)) (by rfl)) (by rfl) (by rfl)) (by rfl)
  refine wpAny_mono (hargs g1 R s1 h2) (fun vs s2 hh => ?_) fun _ _ x => x.elim
  obtain ⟨g2, as, S2, q1, q2, q3, q4, q5⟩ := hh
  subst q4 q5
  obtain ⟨v1, r1, rfl, hv1, v2, r2, rfl, ⟨t0, rfl⟩, e2⟩ := q3
  have e2' : r2 = [] := e2
  subst e2'
  have hg2 : G.le g g2 := h1.trans q1
  have hfls := K.fls
  obtain ⟨outer, hfl⟩ := hfls
  have hfr : Y.A.frames = some (Y.env :: outer) := hfl ▸ Y.hfl
  have hframe : Y.env.frame = some L := by rw [K.env]; rfl
  have hT : s2.TypeIs v1 "generator" := by
    obtain ⟨ad, nm, qn, rfl, hga⟩ := hv1
    exact ⟨_, q2.fz hga, rfl⟩
  refine call_next2 hT (gnext (k := k) q2 hv1 hi hk (Y.ok.less (by omega : 7 ≤ Y.n)).in1 Y.hfl (fun x ph' ht g3 s3 es t hg3 hr3 => ?_) (fun ht g3 s3 hg3 hr3 => ?_) (fun ht g3 s3 x hg3 hfly => ?_))
  · rw [ht] at h
    exact ⟨g3, .ret (.int x), _, hg2.trans hg3, hr3, ⟨_, rfl, t, rfl⟩, h es⟩
  · rw [ht] at h
    exact hfin g3 h s3 t0 (hg2.trans hg3) hr3
  · rw [ht] at h
    obtain ⟨a0, base, h0, m, cs, mo, tb, f1, f2, f3, f4⟩ := hfly
    rw [hfl] at f1
    refine wpAny_looks_onW hfr hframe f1 fun h4 k1 k2 => ?_
    refine wpAny_landsW k1 fun h5 k3 k4 => ?_
    have hup5 := (f3.trans k2).trans k4
    have hR5 : Rel c Y R g3 { s3 with heap := h5 } _ := fly_lands (t := s3.toks) f2 f4 k3.1 hup5
    refine wpAny_handleBy_builtin (X := "ValueError") (T := "ValueError") (b := true) (by rw [isSubtype_type]; kernel_rfl) (by rw [isSubtype_type]; kernel_rfl) valErr_sub ?_
    refine Calls.Name_function_global Y.fk (K.kd hkv) (Calls.loadGlobal_builtin (by rw [Y.gl]; exact hR5.gNs) (mg_none c.hK c.gN (btab_in c.w.params _ (lookup_mem bt_ValueError))) (by rw [Y.bl]; exact hR5.bNs) ((c.blt _ (btab_boot _ (lookup_mem bt_ValueError)).2).trans (btab_boot _ (lookup_mem bt_ValueError)).1) ⟨rfl, k3.there, ?_⟩) (by rfl)
    rw [if_pos rfl]
    refine lands_againW k3 fun h6 k5 k6 => ?_
    refine wpAny_execs_cons (wpAny_Return_some (wpAny_Constant_none ?_))
    exact ⟨g3, .ret .none, _, hg2.trans hg3, fly_lands (t := s3.toks) f2 f4 k5.1 (hup5.trans k6), ⟨_, rfl, rfl⟩, h⟩
theorem ask_spec {c : Cx} {X : Fm} {S : AS} {Q : AV → AS → Prop} {i k n : Nat} {ga : GA} (hn : X.n = n + 9) (hi : S.gens[i]? = some ga) (hk : ga.n = k + 1)
    (h : match ga.ph.tell with
      | .says x ph' => ∀ es, Q (.int x) ⟨S.loc, S.mu, S.gens.set i ⟨k, ph', es⟩⟩
      | .stops => Q (.int 0) ⟨S.loc, S.mu, S.gens.set i ⟨k, .done, []⟩⟩
      | .refuses => Q .none ⟨S.loc, S.mu, S.gens.set i ⟨k, .done, []⟩⟩) : Cl c X S (.ref 98) [.gen i] Q := by
  refine cl_fn (n := n + 8) (ps := [Str.ofString "ruler"]) (by with_unfolding_all rfl) (by decide) rfl (by decide) rfl rfl (all1 fun _ => rfl) rfl (by decide) rfl (by decide) rfl rfl rfl rfl rfl hn ?_
  intro Y L K hY
  refine ex_cons (ex_ask (i := i) (ga := ga) K (by omega) (by rfl) hi hk (by rfl) (by rfl) ?_)
  cases ht : ga.ph.tell with
  | says x ph' => rw [ht] at h; exact h
  | stops => rw [ht] at h; exact h
  | refuses => rw [ht] at h; exact h
noncomputable def lexLt : List Int → List Int → Bool
  | x :: xs, y :: ys => if x = y then lexLt xs ys else decide (x < y)
  | [], [] => false
  | [], _ :: _ => true
  | _ :: _, [] => false
theorem mkInt_zero : (rawInt 0 : Value) = .int 0 0 := rfl
theorem lt_loop {c : Cx} {A : Around} {s : Shared} {a b : Addr} {n k : Nat} {R : Result → Shared → Prop} (ps qs : List (Int × Tok)) (ha : s.heap.get? a = some (seqO "list" (ps.map fun p => .int p.1 p.2) n)) (hb : s.heap.get? b = some (seqO "list" (qs.map fun p => .int p.1 p.2) k)) (hl : ps.length = qs.length) :
    ∀ r i, ps.length - i = r → R (.ok (.ret (.bool (lexLt ((ps.drop i).map Prod.fst) ((qs.drop i).map Prod.fst))))) s → codeAny (M c) A (.builtin "list.__eq__.loop" ⟨[.ref a, .ref b, rawInt (i : Nat), rawInt 0], []⟩) R s := by
  intro r
  induction r with
  | zero =>
    intro i hr h
    refine codeAny_builtin MeetsSeq3.entry_eq_loop ?_
    rw [Around.under_plainId MeetsSeq3.plain_eq_loop _]
    show wpAny _ A.in1 (Builtin.List.listItems (.ref a) >>= _) _ _ _
    have h1 : (ps.drop i).map Prod.fst = [] := by simp; omega
    have h2 : (qs.drop i).map Prod.fst = [] := by simp; omega
    rw [h1, h2] at h
    have e1 : (ps.map fun p => Value.int p.1 p.2).toArray[((i : Nat) : Int).toNat]? = none := by simp; omega
    refine wpAny_bind (listItems_at ha rfl (wpAny_bind (listItems_at hb rfl ?_)))
    rw [e1]
    refine wpAny_bind (listItems_at ha rfl (wpAny_bind (listItems_at hb rfl ?_)))
    refine wpAny_pure ?_
    show R (.ok (.ret (.bool (decide ((ps.map fun p => Value.int p.1 p.2).toArray.size < (qs.map fun p => Value.int p.1 p.2).toArray.size))))) s
    have : (ps.map fun p => Value.int p.1 p.2).toArray.size = (qs.map fun p => Value.int p.1 p.2).toArray.size := by simp [hl]
    rw [this]
    simpa [lexLt] using h
  | succ r ih =>
    intro i hr h
    have hlt : i < ps.length := by omega
    have hlt2 : i < qs.length := by omega
    have e1 : (ps.map fun p => Value.int p.1 p.2).toArray[((i : Nat) : Int).toNat]? = some (.int ps[i].1 ps[i].2) := by simp [hlt]
    have e2 : (qs.map fun p => Value.int p.1 p.2).toArray[((i : Nat) : Int).toNat]? = some (.int qs[i].1 qs[i].2) := by simp [hlt2]
    rw [List.drop_eq_getElem_cons hlt, List.drop_eq_getElem_cons hlt2, List.map_cons, List.map_cons, lexLt] at h
    refine codeAny_builtin MeetsSeq3.entry_eq_loop ?_
    rw [Around.under_plainId MeetsSeq3.plain_eq_loop _]
    show wpAny _ A.in1 (Builtin.List.listItems (.ref a) >>= _) _ _ _
    refine wpAny_bind (listItems_at ha rfl (wpAny_bind (listItems_at hb rfl ?_)))
    rw [e1, e2]
    refine wpAny_bind (wpAny_eqBool_int ?_)
    by_cases he : ps[i].1 = qs[i].1
    · rw [if_pos he] at h
      rw [show (ps[i].1 == qs[i].1) = true from by simp [he]]
      have := ih (i + 1) (by omega) h
      refine wpAny_pure ⟨plainId_quiet MeetsSeq3.plain_eq_loop _, ?_⟩
      have hc : ((i : Int) + 1) = ((i + 1 : Nat) : Int) := by push_cast; rfl
      rw [hc]
      exact this
    · rw [if_neg he] at h
      rw [show (ps[i].1 == qs[i].1) = false from by simp [he]]
      refine wpAny_bind (listItems_at ha rfl (wpAny_bind (listItems_at hb rfl ?_)))
      rw [e1, e2]
      refine wpAny_bind ?_
      show wpAny _ _ (compareOp .Lt _ _) _ _ _
      exact P.lt_int (wpAny_pure h)
theorem lt_lists {c : Cx} {A : Around} {E : Value → Shared → Prop} {s : Shared} {a b : Addr} {n k : Nat} {Q : Value → Shared → Prop} {ps qs : List (Int × Tok)} (ha : s.heap.get? a = some (seqO "list" (ps.map fun p => .int p.1 p.2) n)) (hb : s.heap.get? b = some (seqO "list" (qs.map fun p => .int p.1 p.2) k)) (hl : ps.length = qs.length) (hu : A.units < cLine)
    (h : Q (.bool (lexLt (ps.map Prod.fst) (qs.map Prod.fst))) s) : wpAny (M c) A (richCompare .Lt (.ref a) (.ref b)) Q E s := by
  refine wpAny_richCompare_same_room (T := "list") ⟨_, ha, rfl⟩ ⟨_, hb, rfl⟩ F.slot_list_lt ?_ hu
  refine wpAny_call (codeAny_call_builtin F.slot_list_lt.plain F.entry_list_lt (F.slot_list_lt.check _ _ _ _ _ _ _ _ ⟨_, ha, rfl⟩ (F.args_list_lt_2 _ _) ?_))
  show wpAny _ A.in1 (Builtin.«list.__lt__» ⟨[.ref a, .ref b], []⟩) _ _ _
  obtain ⟨hp, g, d, tk, os⟩ := s
  have f3 := AutoSeq1.sub_list_list
  have ha' : hp.get? a = some { cls := .type "list", dict := none, data := .seq (ps.map fun p => Value.int p.1 p.2).toArray n, slots := #[] } := ha
  have hb' : hp.get? b = some { cls := .type "list", dict := none, data := .seq (qs.map fun p => Value.int p.1 p.2).toArray k, slots := #[] } := hb
  wp_walk using AutoSeq1.wpAny_loadPart' ha', AutoSeq1.wpAny_loadPart' hb'
  refine ⟨plainId_quiet MeetsSeq3.plain_eq_loop _, ?_⟩
  refine lt_loop ps qs ha hb hl _ 0 rfl ?_
  exact ⟨by simp, h⟩
theorem Wd.putNew {g : G} {h : Heap} {l : Ld} {a : Addr} {o : Obj} (w : Wd g h l) (hc : h.get? a = some o) (hg : g a = none) (hl : a ∉ l.map Prod.fst) : Wd (g.put a o) h l ∧ G.le g (g.put a o) := by
  refine ⟨⟨fun b o' e => ?_, w.nd, fun p hp => ?_⟩, G.le_put hg⟩
  · unfold G.put at e
    split at e
    · rename_i q; subst q; cases e; exact hc
    · exact w.fz b o' e
  · obtain ⟨q1, q2⟩ := w.ok p hp
    refine ⟨?_, q2⟩
    unfold G.put
    rw [if_neg]
    · exact q1
    · intro e
      exact hl (List.mem_map.mpr ⟨p, hp, e⟩)
theorem Rel.cHd {c : Cx} {X : Fm} {R : Ld} {g : G} {s : Shared} {S : AS} (h : Rel c X R g s S) : CodeHd s.heap 116 114 := by
  obtain ⟨o, vs, file, tf, flags, tg, inF, text, tt, e, r⟩ := c.cHd
  exact ⟨o, vs, file, tf, flags, tg, inF, text, tt, h.base e (by decide), r⟩
theorem Rel.bat {c : Cx} {X : Fm} {R : Ld} {g : G} {s : Shared} {S : AS} (h : Rel c X R g s S) : s.heap.BuiltinsAt c.mg 114 := by
  obtain ⟨bm, o, h1, h2, h3, h4, h5, r⟩ := c.bat
  exact ⟨bm, o, h1, h2, h3, h4, h.base h5 h4, r⟩
noncomputable abbrev lamQ : Str := Str.ofString "_law_all.<locals>.<lambda>"
noncomputable def LamAt (g : G) (f : Addr) (params : Arguments) (body : Expr) (scope : Scope) (clos : List (Str × Addr)) : Prop :=
  ∃ pm c' ctv oc vs t, g f = some (kla_obj (Str.ofString "<lambda>") lamQ params body scope clos pm c' ctv) ∧ g c' = some oc ∧ oc.data = .fields vs ∧ vs[1]? = some (.str lamQ t)
theorem lam_make {c : Cx} {X : Fm} {R : Ld} {g : G} {s : Shared} {S : AS} {params : Arguments} {body : Expr} {scope : Scope} {pos : Pos} {clos : List (Str × Addr)} (hR : Rel c X R g s S) (hcode : X.env.code = .ref 116) (hcl : closureFor scope X.env = pure clos)
    (hp1 : pos.line = 101) (hp2 : pos.col = 34) (hq : X.env.qual ++ Str.ofString "<lambda>" = lamQ) (hdef : defaultsOf params X.env = ([], [])) :
    wpAny (M c) X.A (eval (.Lambda params body scope pos) X.env) (fun v s' => ∃ f g', v = .ref f ∧ G.le g g' ∧ Rel c X R g' s' S ∧ LamAt g' f params body scope clos) No s := by
  have hR0 := hR
  obtain ⟨m, cs, mo, tb, q⟩ := hR
  let pre : Ld := (X.env.locals, NsP m) :: (cs.map cellE ++ (mo.map exE ++ S.gens.flatMap GA.ents))
  have hled : ∀ tb, ledger X.env.locals m cs mo S.gens tb R = pre ++ (114, fun o => o = tb) :: R := fun tb => by unfold ledger; simp [pre]
  have w := q.wd
  rw [hled] at w
  obtain ⟨o, hP, rfl⟩ := w.get (a := 114) (P := fun o => o = tb) (by simp)
  refine kla_eval hdef ?_
  rw [show X.env.qual ++ Str.ofString "<lambda>" = lamQ from hq]
  rcases q.tbo with htb | ⟨cc, oc, vs, t, htb, h1, h2, h3⟩
  · subst htb
    refine kla_makeFunction (mg := c.mg) hcl X.gl hR0.gNs hcode hR0.cHd hP trivial rfl (by decide) hR0.bat fun c' ctv h' tk hx hge hlt hrec htb => ?_
    obtain ⟨c₂, oc, vs, t, e2, hoc, hd, hv⟩ := hrec
    cases e2
    have w1 : Wd g h' (pre ++ (114, fun o => o = tabObj #[rawInt pos.line, rawInt pos.col, .ref c']) :: R) := w.upd (fun b o hb e => hx b o hb e) htb (by simp)
    have hgc : g c' = none := by
      cases e : g c' with
      | none => rfl
      | some o => exact absurd (Heap.lt_size (q.wd.fz _ _ e)) (Nat.not_lt.mpr hge)
    have hlc : c' ∉ (pre ++ (114, fun o => o = tabObj #[rawInt pos.line, rawInt pos.col, .ref c']) :: R).map Prod.fst := by
      intro hm
      have : c' ∈ (pre ++ (114, fun o => o = tabObj #[]) :: R).map Prod.fst := by simpa using hm
      obtain ⟨p, hp, e⟩ := List.mem_map.mp this
      obtain ⟨_, o, ho, _⟩ := w.ok p hp
      rw [e] at ho
      exact absurd (Heap.lt_size ho) (Nat.not_lt.mpr hge)
    obtain ⟨w2, hle⟩ := w1.putNew hoc hgc hlc
    have hrel : Rel c X R (g.put c' oc) { s with heap := h', toks := tk } S := by
      refine ⟨m, cs, mo, tabObj #[rawInt pos.line, rawInt pos.col, .ref c'], ⟨?_, q.loc.mono hle, q.cel, q.mut_.mono hle, q.gen.mono hle, .inr ⟨c', oc, vs, t, ?_, G.put_self _ _ _, hd, hv⟩, q.os, q.g0.trans hle, q.fr⟩⟩
      · rw [hled]; exact w2
      · rw [hp1, hp2]; rfl
    have hp := hrel.pushF (o := kla_obj (Str.ofString "<lambda>") lamQ params body scope clos ((c.mg "__name__").getD .none) c' ctv) (t := tk) rfl
    exact ⟨_, _, rfl, hle.trans hp.2, hp.1, _, c', ctv, oc, vs, t, G.put_self _ _ _, hp.2 _ _ (G.put_self _ _ _), hd, hv⟩
  · subst htb
    refine kla_makeFunctionHit (mg := c.mg) (cv := .ref cc) hcl X.gl hR0.gNs hcode hR0.cHd hP (by exact trivial) (by simp [codeAmong, rawInt, hp1, hp2]) hR0.bat fun ctv h' tk hk hsz => ?_
    have hrel : Rel c X R g { s with heap := h', toks := tk } S := hR0.keeps hk
    have hp := hrel.pushF (o := kla_obj (Str.ofString "<lambda>") lamQ params body scope clos ((c.mg "__name__").getD .none) cc ctv) (t := tk) rfl
    exact ⟨_, _, rfl, hp.2, hp.1, _, cc, ctv, oc, vs, t, G.put_self _ _ _, hp.2 _ _ h1, h2, h3⟩
noncomputable abbrev lamEnv (scope : Scope) (L : Addr) (cl : List (Str × Addr)) (f : Addr) (cd : Value) : Env := newEnv scope L mainGlobals cl (lamQ ++ ".<locals>.") (some f) cd none builtinsNs
theorem lam_call {c : Cx} {X : Fm} {R : Ld} {g : G} {s : Shared} {S : AS} {A : Around} {n : Nat} {f ck : Addr} {params : Arguments} {body : Expr} {scope : Scope} {one ky : Str} {a kv : AV} {v : Value} {Q : AV → AS → Prop} {E : Value → Shared → Prop}
    (hR : Rel c X R g s S) (hA : A.frames = some X.fl) (ok : OkA (n + 1) A) (hlam : LamAt g f params body scope [(ky, ck)])
    (hbind : ∀ pm c' ctv v, bindArgs (kla_fn (Str.ofString "<lambda>") lamQ params body scope [(ky, ck)] pm (.ref c') ctv) ⟨[v], []⟩ = pure [(one, v)])
    (hk : scope.kind = .function) (hco : scope.isCoroutine = false) (hgen : scope.isGenerator = false)
    (hcf : ∀ n acc, cellsFrom n scope.names acc = (one, n) :: acc) (hpc : ∀ h, pushCells h scope.names = h.push { cls := .type "cell", data := .cell none })
    (hone : scope.names.lookup one = some .cell) (hky : scope.names.lookup ky = some .free) (hne : (ky == one) = false)
    (hxk : X.env.kindOf ky = some .cell) (hck : X.env.cells.lookup ky = some ck) (hkv : S.loc.lookup ky = some kv) (hv : AVr c.w g a v)
    (h : ∀ Y L cd, Y.env = lamEnv scope L [(one, L + 1), (ky, ck)] f cd → Y.n = n → Ev c Y ⟨[(one, a), (ky, kv)], S.mu, S.gens⟩ (eval body Y.env) (fun b S1 => Q b ⟨S.loc, S1.mu, S1.gens⟩)) :
    wpAny (M c) A (call (.ref f) [v]) (Po c X R (AVr c.w) Q g) E s := by
  have hR0 := hR
  obtain ⟨pm, c', ctv, oc, vs, t, hf, hc', hd', hv'⟩ := hlam
  obtain ⟨m, cs, mo, tb, q⟩ := hR
  refine wpAny_call (kla_callFunE (by have := ok.dp; omega) (hR0.fz hf) rfl hco hgen rfl ⟨c', oc, vs, t, rfl, hR0.fz hc', hd', hv'⟩ ?_)
  show wpAny _ _ (bindArgs (kla_fn _ lamQ params body scope [(ky, ck)] pm (.ref c') ctv) ⟨[v], []⟩) _ _ _
  rw [hbind]
  refine wpAny_pure ?_
  show wpAny _ _ (newFunctionEnv scope mainGlobals [(ky, ck)] [(one, v)] _ _ _ none builtinsNs) _ _ _
  simp only [newFunctionEnv, Option.isSome_none, Bool.false_eq_true, if_false]
  refine wpAny_bind (wpAny_alloc ?_)
  refine wpAny_bind (wpAny_layCells _ (fun name kind cells => by cases hkc : kind == NameKind.cell <;> simp [hkc]) _ _ _ _ ?_)
  rw [hcf, hpc]
  have hsz : (s.heap.push { cls := .type "frame", data := .dict #[] }).objs.size = s.heap.objs.size + 1 := Heap.size_push ..
  rw [hsz]
  let L := s.heap.objs.size
  let h0 := (s.heap.push { cls := .type "frame", data := .dict #[] }).push { cls := .type "cell", data := .cell none }
  have hcell0 : h0.get? (L + 1) = some { cls := .type "cell", data := .cell none } := by
    have := Heap.get?_push_size (s.heap.push { cls := .type "frame", data := .dict #[] }) (o := { cls := .type "cell", data := .cell none }) rfl
    rw [hsz] at this
    exact this
  let env := lamEnv scope L [(one, L + 1), (ky, ck)] f (.ref c')
  have hkind : env.kindOf one = some .cell := hone
  rw [List.forIn_cons]
  refine wpAny_bind (wpAny_bind (wpAny_bind (wpAny_storeName_cell (env := env) hk hkind (c := L + 1) (v₀ := none) (by
      show List.lookup one ((one, L + 1) :: _) = _
      rw [List.lookup_cons, beq_self_eq_true]) ⟨_, hcell0, rfl⟩ fun h1 hn hs => wpAny_pure (wpAny_pure ?_))))
  refine wpAny_pure ?_
  obtain ⟨oc1, hoc1, hdc1⟩ := hn
  have hkeep : ∀ b o, s.heap.get? b = some o → h1.get? b = some o := fun b o e => hs.extBut b o (Nat.ne_of_lt (Nat.lt_succ_of_lt (Heap.lt_size e))) (Heap.get?_push_of_some _ (Heap.get?_push_of_some _ e))
  refine ⟨hR0.lim.keeps hkeep, kla_codeExpr ?_⟩
  have hfr : ∃ o, h1.get? L = some o ∧ NsP (fun _ => none) o := by
    have hn0 := (Heap.Ns.new s.heap (.type "frame")).keeps (h' := h1) (fun b o e => hs.extBut b o (by
      have := Heap.lt_size e
      rw [hsz] at this
      exact Nat.ne_of_lt this) (Heap.get?_push_of_some _ e))
    exact NsP.of hn0
  have hlow : ∀ p ∈ ledger X.env.locals m cs mo S.gens tb R, p.1 < L := fun p hp => let ⟨_, ho, _⟩ := (q.wd.ok p hp).2; Heap.lt_size ho
  let R1 : Ld := (X.env.locals, NsP m) :: (cs.map cellE ++ R)
  have w2 := (q.wd.keeps hkeep).perm (callPerm ..)
  have w3 : Wd g h1 ([(L, NsP fun _ => none), (L + 1, cellP (some v))] ++ (mo.map exE ++ (S.gens.flatMap GA.ents ++ ((114, fun o => o = tb) :: R1)))) := by
    refine w2.join (n := L) (fun a o e => Heap.lt_size (q.wd.fz a o e)) (fun p hp => hlow p ((callPerm ..).mem_iff.mpr hp)) (fun p hp => ?_) (by simp)
    rcases List.mem_cons.mp hp with e | hp
    · subst e; exact ⟨Nat.le_refl _, hfr⟩
    · rw [List.mem_singleton.mp hp]
      exact ⟨Nat.le_succ _, _, hoc1, hdc1⟩
  have w4 : Wd g h1 (ledger L (fun _ => none) [] mo S.gens tb ((L + 1, cellP (some v)) :: R1)) := by
    refine w3.perm ?_
    unfold ledger
    refine List.Perm.cons _ ?_
    have e1 : (List.map cellE [] ++ (mo.map exE ++ (S.gens.flatMap GA.ents ++ ((114, fun o => o = tb) :: (L + 1, cellP (some v)) :: R1)))) = (mo.map exE ++ (S.gens.flatMap GA.ents ++ [(114, fun o => o = tb)])) ++ (L + 1, cellP (some v)) :: R1 := by simp
    have e2 : (L + 1, cellP (some v)) :: ([] ++ (mo.map exE ++ (S.gens.flatMap GA.ents ++ ((114, fun o => o = tb) :: R1)))) = (L + 1, cellP (some v)) :: ((mo.map exE ++ (S.gens.flatMap GA.ents ++ [(114, fun o => o = tb)])) ++ R1) := by simp
    rw [e1]
    show List.Perm ((L + 1, cellP (some v)) :: ([] ++ (mo.map exE ++ (S.gens.flatMap GA.ents ++ ((114, fun o => o = tb) :: R1))))) _
    rw [e2]
    exact List.perm_middle.symm
  let Y : Fm := { A := A.deeper env, env := env, n := n, ok := ok.deeper env, fk := hk, gl := rfl, bl := rfl, fl := env :: X.fl, hfl := Around.frames_deeper hA, own := false }
  have hloc : LocOk c.w g env (fun _ => none) [] ((L + 1, cellP (some v)) :: R1) [(one, a), (ky, kv)] := by
    intro x b e
    rw [List.lookup_cons] at e
    cases hx : x == one with
    | true =>
      rw [hx] at e; cases e
      have := beq_iff_eq.mp hx; subst this
      refine ⟨v, hv, .inr ⟨.inl hone, L + 1, ?_, .inr (.head _)⟩⟩
      show List.lookup x ((x, L + 1) :: _) = _
      rw [List.lookup_cons, beq_self_eq_true]
    | false =>
      rw [hx, List.lookup_cons] at e
      cases hx2 : x == ky with
      | false => rw [hx2] at e; cases e
      | true =>
        rw [hx2] at e; cases e
        have := beq_iff_eq.mp hx2; subst this
        obtain ⟨v', z1, z2⟩ := q.loc x _ hkv
        refine ⟨v', z1, .inr ⟨.inr hky, ck, ?_, .inr ?_⟩⟩
        · show List.lookup x ((one, L + 1) :: [(x, ck)]) = _
          rw [List.lookup_cons, hne, List.lookup_cons, beq_self_eq_true]
        · rcases z2 with ⟨z2, _⟩ | ⟨_, ca, z3, z4⟩
          · rw [hxk] at z2; cases z2
          · rw [hck] at z3; cases z3
            refine .tail _ (.tail _ ?_)
            rcases z4 with z4 | z4
            · refine List.mem_append_left _ ?_
              obtain ⟨pre, post, e1, _⟩ := lookup_cell_split z4
              rw [e1]; simp [cellE]
            · exact List.mem_append_right _ z4
  have hfr' : FrOk (env :: X.fl) ((L, NsP fun _ => none) :: (L + 1, cellP (some v)) :: R1) := by
    intro e he
    rcases List.mem_cons.mp he with e1 | he
    · subst e1; exact ⟨_, _, rfl, hk, .head _⟩
    · obtain ⟨f', m', z1, z2, z3⟩ := q.fr e he
      refine ⟨f', m', z1, z2, .tail _ (.tail _ ?_)⟩
      rcases List.mem_cons.mp z3 with z | z
      · exact z ▸ .head _
      · exact .tail _ (List.mem_append_right _ z)
  have hrel : Rel c Y ((L + 1, cellP (some v)) :: R1) g { s with heap := h1 } ⟨[(one, a), (ky, kv)], S.mu, S.gens⟩ :=
    ⟨_, [], mo, tb, ⟨w4, hloc, (fun h => nomatch h), q.mut_, q.gen, q.tbo, q.os, q.g0, hfr'⟩⟩
  refine wpAny_mono (h Y L (.ref c') rfl rfl g _ _ hrel) (fun u s2 hh => ?_) fun _ _ x => x.elim
  obtain ⟨g2, b, S1, z1, z2, z3, z4⟩ := hh
  refine ⟨g2, b, _, z1, ?_, z3, z4⟩
  obtain ⟨m2, cs2, mo2, tb2, q2⟩ := z2
  have w5 : Wd g2 s2.heap (mo2.map exE ++ (S1.gens.flatMap GA.ents ++ ((114, fun o => o = tb2) :: R1))) := q2.wd.sub (by
    unfold ledger
    refine .cons _ (List.Sublist.trans ?_ (List.sublist_append_right _ _))
    exact (List.Sublist.refl _).append ((List.Sublist.refl _).append (.cons_cons _ (List.sublist_cons_self _ _))))
  refine ⟨m, cs, mo2, tb2, ⟨w5.perm ?_, q.loc.mono z1, q.cel, q2.mut_, q2.gen, q2.tbo, q2.os, q2.g0, q.fr⟩⟩
  exact (callPerm ..).symm
noncomputable def minStep (kf : D → List Int) (b d : D) : D := if lexLt (kf d) (kf b) then d else b
theorem intL_rd {w : World} {g : G} {xs : List Int} {v : Value} (h : Rd w g (intL xs) v) : ∃ a n, ∃ ps : List (Int × Tok), v = .ref a ∧ g a = some (seqO "list" (ps.map fun p => .int p.1 p.2) n) ∧ ps.map Prod.fst = xs := by
  obtain ⟨a, vs, n, rfl, h1, h2⟩ := h
  obtain ⟨ps, rfl, h3⟩ := rdInts h2
  exact ⟨a, n, ps, rfl, h1, h3⟩
section
variable {c : Cx} {X : Fm} {S : AS} {A : Around} {l q : Addr} {ds : List D} {kf : D → List Int} {kn : Nat}
theorem accSet {R : Ld} {g : G} {s : Shared} {Sx I : Addr} {P : Obj → Prop} {us : List Value} {ws : Array Value} {t : Nat} (hR : Rel c X ((I, P) :: (Sx, accP us) :: R) g s S) :
    Rel c X ((I, P) :: (Sx, accP ws.toList) :: R) g { s with heap := s.heap.update Sx (Obj.mapSeq fun _ => ws), toks := t } S := by
  have h1 := hR.perm (List.Perm.swap _ _ _)
  obtain ⟨o, ho, k, rfl⟩ := h1.tGet
  obtain ⟨c2, hc2⟩ : ∃ c2, (s.heap.update Sx (Obj.mapSeq fun _ => ws)).get? Sx = some (seqObj "list" ws c2) := ⟨_, get?_update_seq (show s.heap.get? Sx = some (seqObj "list" us.toArray k) from ho) fun _ => ws⟩
  exact (h1.tUpd (P' := accP ws.toList) (t := t) (fun b o hb e => (Heap.SameBut.update s.heap Sx _).extBut b o hb e) (o := seqO "list" ws.toList c2) (by rw [hc2]; simp [seqO]) ⟨_, rfl⟩ accP_pln).perm (List.Perm.swap _ _ _)
theorem min_loop {g0 : G} {R : Ld} {I Sx : Addr} {vs : List Value} {nn : Nat} {RR : Result → Shared → Prop} (hh : A.handled = none) (hu : A.units + 10 < cLine) (hl : g0 l = some (seqO "list" vs nn)) (hr : RdL c.w g0 ds vs) (hkl : ∀ d ∈ ds, (kf d).length = kn)
    (turn : ∀ d ∈ ds, ∀ g R s v, G.le g0 g → Rel c X R g s S → Rd c.w g d v → wpAny (M c) A.in1 (call (.ref q) [v]) (Po c X R (AVr c.w) (fun b S1 => b = .dat (intL (kf d)) ∧ S1 = S) g) No s)
    :
    ∀ r i g s best vb kb, ds.length - i = r → i ≤ ds.length → G.le g0 g → Rel c X ((I, listIt l i) :: (Sx, accP [vb, kb]) :: R) g s S → Rd c.w g best vb → Rd c.w g (intL (kf best)) kb → (kf best).length = kn →
      (∀ v s g, G.le g0 g → Rel c X R g s S → Rd c.w g ((ds.drop i).foldl (minStep kf) best) v → RR (.ok (.ret v)) s) →
      codeAny (M c) A (.builtin "min.loop" ⟨[.ref I, .ref q, .ref Sx], []⟩) RR s := by
  have hname : (toString "min" ++ toString ".loop" : String) = "min.loop" := by decide
  have hlen := hr.length
  intro r
  induction r with
  | zero =>
    intro i g s best vb kb hri hi hg hR hvb hkb hbl hfin
    obtain ⟨oS, hoS, kS, rfl⟩ := (hR.perm (List.Perm.swap _ _ _)).tGet
    obtain ⟨oI, hoI, hic, hid⟩ := hR.tGet
    refine codeAny_builtin PySem.F.entry_min_loop ?_
    rw [Around.under_plainId PySem.F.plain_min_loop _]
    show wpAny _ A.in1 (seqItems? (.ref Sx) >>= _) _ _ _
    refine wpAny_bind (wpAny_seqItems hoS rfl ?_)
    show wpAny _ A.in1 (tryCatch (pyNext (.ref I)) _ >>= _) _ _ _
    refine wpAny_bind (wpAny_tryCatch (wpAny_pyNext_list_end (A := A.in1) hh ⟨oI, hoI, hic, hid⟩ (items := vs.toArray) ⟨_, hR.fz (hg _ _ hl), rfl, _, rfl⟩ (by simp; omega) fun h' he => ?_))
    have h1 := hR.tDrop (t := s.toks) he listIt_ns
    obtain ⟨oS2, hoS2, kS2, rfl⟩ := h1.tGet
    show wpAny _ A.in1 (updateSeq Sx (fun _ => #[]) >>= _) _ _ _
    refine wpAny_bind (wpAny_updateSeq hoS2 rfl (wpAny_bind (wpAny_letGo (wpAny_pure ?_))))
    refine hfin vb _ g hg (h1.tDrop (t := s.toks) (fun b o hb e => (Heap.SameBut.update h' Sx _).extBut b o hb e) accP_pln) ?_
    have : ds.drop i = [] := by simp; omega
    rw [this]; exact hvb
  | succ r ih =>
    intro i g s best vb kb hri hi hg hR hvb hkb hbl hfin
    have hlt : i < ds.length := by omega
    obtain ⟨oS, hoS, kS, rfl⟩ := (hR.perm (List.Perm.swap _ _ _)).tGet
    obtain ⟨oI, hoI, hic, hid⟩ := hR.tGet
    obtain ⟨v, hv, hvr⟩ := (hr.mono hg).at (i := i) (d := ds[i]) (by simp [hlt])
    refine codeAny_builtin PySem.F.entry_min_loop ?_
    rw [Around.under_plainId PySem.F.plain_min_loop _]
    show wpAny _ A.in1 (seqItems? (.ref Sx) >>= _) _ _ _
    refine wpAny_bind (wpAny_seqItems hoS rfl ?_)
    show wpAny _ A.in1 (tryCatch (pyNext (.ref I)) _ >>= _) _ _ _
    refine wpAny_bind (wpAny_tryCatch (wpAny_pyNext_list_item (A := A.in1) ⟨oI, hoI, hic, hid⟩ (items := vs.toArray) ⟨_, hR.fz (hg _ _ hl), rfl, _, rfl⟩ (by simpa using hv) fun h' hit hs => ?_))
    obtain ⟨o', ho', hc', hda'⟩ := hit
    have h1 : Rel c X ((I, listIt l (i + 1)) :: (Sx, accP [vb, kb]) :: R) g { s with heap := h' } S := hR.tUpd (P' := listIt l (i + 1)) (t := s.toks) (fun b o hb e => hs.extBut b o hb e) ho' ⟨hc', hda'⟩ listIt_ns
    show wpAny _ A.in1 (tryCatch (holding [v] (call (.ref q) [v])) _ >>= _) _ _ _
    refine wpAny_bind (wpAny_tryCatch (wpAny_holding (wpAny_mono (turn ds[i] (List.getElem_mem hlt) g _ _ v hg h1 hvr) (fun kv s2 hh2 => ?_) fun _ _ hF => hF.elim)))
    obtain ⟨g2, b, S2, z1, z2, z3, rfl, rfl⟩ := hh2
    have z3' : Rd c.w g2 (intL (kf ds[i])) kv := z3
    have hkb2 := Rd.mono z1 _ hkb
    have hvr2 := Rd.mono z1 _ hvr
    have hvb2 := Rd.mono z1 _ hvb
    obtain ⟨ka, kna, ps, rfl, hka, hps⟩ := intL_rd z3'
    obtain ⟨kc, knc, qs, rfl, hkc, hqs⟩ := intL_rd hkb2
    have hl1 : ps.length = qs.length := by
      have e1 := congrArg List.length hps
      have e2 := congrArg List.length hqs
      rw [List.length_map] at e1 e2
      rw [e1, e2, hbl, hkl _ (List.getElem_mem hlt)]
    show wpAny _ A.in1 (tryCatch (holding [v, .ref ka] (richCompare .Lt (.ref ka) (.ref kc) >>= _)) _ >>= _) _ _ _
    refine wpAny_bind (wpAny_tryCatch (wpAny_holding (wpAny_bind (lt_lists (z2.fz hka) (z2.fz hkc) hl1 (by show A.units + 1 < _; omega) ?_))))
    rw [hps, hqs]
    refine wpAny_bind (wpAny_holding (wpAny_truthy_bool ?_))
    refine wpAny_bind (wpAny_letGo (wpAny_pure ?_))
    have hdrop : ds.drop i = ds[i] :: ds.drop (i + 1) := List.drop_eq_getElem_cons hlt
    rw [hdrop, List.foldl_cons] at hfin
    by_cases hb' : lexLt (kf ds[i]) (kf best) = true
    · rw [hb']
      simp only [if_true]
      obtain ⟨oS2, hoS2, kS2, rfl⟩ := (z2.perm (List.Perm.swap _ _ _)).tGet
      refine wpAny_bind (wpAny_updateSeq hoS2 rfl (wpAny_bind (wpAny_letGo ?_)))
      rw [hname]
      have h3 := accSet (ws := #[v, .ref ka]) (t := s2.toks) z2
      refine wpAny_pure ⟨plainId_quiet PySem.F.plain_min_loop _, ih (i + 1) g2 _ ds[i] v (.ref ka) (by omega) hlt (hg.trans z1) h3 hvr2 z3' (hkl _ (List.getElem_mem hlt)) ?_⟩
      rw [minStep, if_pos hb'] at hfin
      exact hfin
    · have hb2 : lexLt (kf ds[i]) (kf best) = false := by simpa using hb'
      rw [hb2]
      simp only [Bool.false_eq_true, if_false]
      refine wpAny_bind (wpAny_letGo ?_)
      rw [hname]
      refine wpAny_pure ⟨plainId_quiet PySem.F.plain_min_loop _, ih (i + 1) g2 s2 best vb (.ref kc) (by omega) hlt (hg.trans z1) z2 hvb2 hkb2 hbl ?_⟩
      rw [minStep, if_neg hb'] at hfin
      exact hfin
theorem min_call {d0 : D} {R : Ld} {g : G} {s : Shared} {vs : List Value} {nn : Nat} {E : Value → Shared → Prop} (hR : Rel c X R g s S) (hh : A.handled = none) (hu : A.units + 10 < cLine) (hl : g l = some (seqO "list" vs nn)) (hr : RdL c.w g (d0 :: ds) vs) (hkl : ∀ d ∈ d0 :: ds, (kf d).length = kn)
    (turn : ∀ d ∈ d0 :: ds, ∀ g' R s v, G.le g g' → Rel c X R g' s S → Rd c.w g' d v → wpAny (M c) A.in1 (call (.ref q) [v]) (Po c X R (AVr c.w) (fun b S1 => b = .dat (intL (kf d)) ∧ S1 = S) g') No s) :
    wpAny (M c) A (call (.builtin "min") [.ref l] [(Str.ofString "key", .ref q)]) (Po c X R (AVr c.w) (fun b S1 => b = .dat (ds.foldl (minStep kf) d0) ∧ S1 = S) g) E s := by
  have hname : (toString "min" ++ toString ".loop" : String) = "min.loop" := by decide
  refine kmk_tree PySem.F.kind_min PySem.F.plain_min PySem.F.entry_min (kmk_min_key _ _) ?_
  show wpAny _ A.in1 (Builtin.Builtins.bindParams "min" ["key", "default"] 0 ⟨[], [(Str.ofString "key", .ref q)]⟩ >>= _) _ _ s
  refine wpAny_bind (wpAny_of_eq (show Builtin.Builtins.bindParams "min" ["key", "default"] 0 ⟨[], [(Str.ofString "key", .ref q)]⟩ = pure [some (.ref q), none] from rfl) ?_)
  refine wpAny_bind (wpAny_pure ?_)
  have hls : s.heap.IsList l vs.toArray := ⟨_, hR.fz hl, rfl, nn, rfl⟩
  refine wpAny_bind (wpAny_pyIter_list hls ?_)
  refine wpAny_bind (wpAny_newList ?_ (Nat.zero_le _))
  rw [hname]
  have h1 := (hR.tPush (o := { cls := .type "list_iterator", data := .fields #[.ref l, .int 0 0] }) (P := listIt l 0) (t := s.toks) rfl ⟨rfl, rfl⟩)
  have h2 := (h1.tPush (o := seqO "list" [] 0) (P := accP []) (t := s.toks) rfl ⟨0, rfl⟩).perm (List.Perm.swap _ _ _)
  generalize hI : s.heap.objs.size = I at h1 h2 ⊢
  generalize hS : (s.heap.push { cls := .type "list_iterator", data := .fields #[.ref l, .int 0 0] }).objs.size = Sx at h2 ⊢
  refine wpAny_pure ⟨plainId_quiet PySem.F.plain_min_loop _, ?_⟩
  -- the first item
  obtain ⟨oS, hoS, kS, rfl⟩ := (h2.perm (List.Perm.swap _ _ _)).tGet
  obtain ⟨oI, hoI, hic, hid⟩ := h2.tGet
  obtain ⟨v, hv, hvr⟩ := hr.at (i := 0) (d := d0) rfl
  refine codeAny_builtin PySem.F.entry_min_loop ?_
  rw [Around.under_plainId PySem.F.plain_min_loop _]
  show wpAny _ A.in1 (seqItems? (.ref Sx) >>= _) _ _ _
  refine wpAny_bind (wpAny_seqItems hoS rfl ?_)
  show wpAny _ A.in1 (tryCatch (pyNext (.ref I)) _ >>= _) _ _ _
  refine wpAny_bind (wpAny_tryCatch (wpAny_pyNext_list_item (A := A.in1) ⟨oI, hoI, hic, hid⟩ (items := vs.toArray) ⟨_, h2.fz hl, rfl, _, rfl⟩ (by simpa using hv) fun h' hit hs => ?_))
  obtain ⟨o', ho', hc', hda'⟩ := hit
  have h3 : Rel c X ((I, listIt l (0 + 1)) :: (Sx, accP []) :: R) g { s with heap := h' } S := h2.tUpd (P' := listIt l (0 + 1)) (t := s.toks) (fun b o hb e => hs.extBut b o hb e) ho' ⟨hc', hda'⟩ listIt_ns
  show wpAny _ A.in1 (tryCatch (holding [v] (call (.ref q) [v])) _ >>= _) _ _ _
  refine wpAny_bind (wpAny_tryCatch (wpAny_holding (wpAny_mono (turn d0 (.head _) g _ _ v .rfl h3 hvr) (fun kv s2 hh2 => ?_) fun _ _ hF => hF.elim)))
  obtain ⟨g2, b, S2, z1, z2, z3, rfl, rfl⟩ := hh2
  obtain ⟨oS2, hoS2, kS2, rfl⟩ := (z2.perm (List.Perm.swap _ _ _)).tGet
  show wpAny _ A.in1 (updateSeq Sx (fun _ => #[v, kv]) >>= _) _ _ _
  refine wpAny_bind (wpAny_updateSeq hoS2 rfl ?_)
  rw [hname]
  refine wpAny_pure ⟨plainId_quiet PySem.F.plain_min_loop _, ?_⟩
  have h4 := accSet (ws := #[v, kv]) (t := s2.toks) z2
  refine min_loop (ds := d0 :: ds) (kf := kf) hh hu (z1 _ _ hl) (hr.mono z1) hkl (fun d hd g' R s v hg => turn d hd g' R s v (z1.trans hg)) _ 1 g2 _ d0 v kv rfl (by simp) .rfl h4 (Rd.mono z1 _ hvr) z3 (hkl _ (.head _)) ?_
  intro v' s' g' hg' hR' hv'
  exact ⟨g', .dat _, _, z1.trans hg', hR', hv', rfl, rfl⟩
/-- min(.., key=lambda ..) -/
theorem ev_minKey {Q : AV → AS → Prop} {np fp kp lp pos : Pos} {fx one ky : Str} {params : Arguments} {body : Expr} {scope : Scope} {ck : Addr} {kv : AV} {d0 : D} {n : Nat} (hn : X.n = n + 2) (hx : S.loc.lookup fx = some (.dat (.lst (d0 :: ds)))) (hkl : ∀ d ∈ d0 :: ds, (kf d).length = kn)
    (hkm : X.env.kindOf (Str.ofString "min") = some .globalImplicit)
    (hcode : X.env.code = .ref 116) (hcl : closureFor scope X.env = pure [(ky, ck)])
    (hp1 : lp.line = 101) (hp2 : lp.col = 34) (hq : X.env.qual ++ Str.ofString "<lambda>" = lamQ) (hdef : defaultsOf params X.env = ([], []))
    (hbind : ∀ pm c' ctv v, bindArgs (kla_fn (Str.ofString "<lambda>") lamQ params body scope [(ky, ck)] pm (.ref c') ctv) ⟨[v], []⟩ = pure [(one, v)])
    (hk : scope.kind = .function) (hco : scope.isCoroutine = false) (hgen : scope.isGenerator = false)
    (hcf : ∀ n acc, cellsFrom n scope.names acc = (one, n) :: acc) (hpc : ∀ h, pushCells h scope.names = h.push { cls := .type "cell", data := .cell none })
    (hone : scope.names.lookup one = some .cell) (hky : scope.names.lookup ky = some .free) (hne : (ky == one) = false)
    (hxk : X.env.kindOf ky = some .cell) (hck : X.env.cells.lookup ky = some ck) (hkv : S.loc.lookup ky = some kv)
    (turn : ∀ d ∈ d0 :: ds, ∀ f Y L cd, Y.env = lamEnv scope L [(one, L + 1), (ky, ck)] f cd → Y.n = n → Ev c Y ⟨[(one, .dat d), (ky, kv)], S.mu, S.gens⟩ (eval body Y.env) (fun b S1 => b = .dat (intL (kf d)) ∧ S1.mu = S.mu ∧ S1.gens = S.gens))
    (h : Q (.dat (ds.foldl (minStep kf) d0)) S) (hd : (fx == ("__debug__" : Str)) = false := by rfl) (hc : (fx == ("__classdict__" : Str)) = false := by rfl) :
    Ev c X S (eval (.Call (.Name (Str.ofString "min") np) [.Name fx fp] [⟨some (Str.ofString "key"), .Lambda params body scope lp, kp⟩] pos) X.env) Q := fun g R s hR => by
  have okX : OkA (n + 2) X.A := hn ▸ X.ok
  show wpAny _ _ (do callWith pos (← eval (.Name _ np) X.env) [] (backTo pos (starEach [.Name fx fp] X.env)) (backToKw pos (keywordEach [⟨some (Str.ofString "key"), .Lambda params body scope lp, kp⟩] X.env))) _ _ s
  refine wpAny_bind (wpAny_mono (ev_b (c := c) (X := X) (S := S) (Q := fun a S1 => a = .raw (.builtin "min") ∧ S1 = S) (pos := np) bt_min ⟨rfl, rfl⟩ hkm (by rfl) g R s hR) (fun v s1 hh => ?_) fun _ _ x => x.elim)
  obtain ⟨g1, a, S1, h1, h2, h3, h4, h5⟩ := hh
  subst h4 h5
  have e1 : v = .builtin "min" := h3
  subst e1
  refine callWith_kw ?_ (by rfl) (by rfl) (by rfl) (by rfl)
  have hargs : Evs c X S1 (spliced (backTo pos (starEach [.Name fx fp] X.env))) (fun as S2 => as = [.dat (.lst (d0 :: ds))] ∧ S2 = S1) := evs_cons (ev_var hx (evs_nil ⟨rfl, rfl⟩) hd hc) (by rfl)
  refine wpAny_mono (hargs g1 R s1 h2) (fun vs s2 hh => ?_) fun _ _ x => x.elim
  obtain ⟨g2, as, S2, q1, q2, q3, q4, q5⟩ := hh
  subst q4 q5
  obtain ⟨v1, r1, rfl, hv1, e2⟩ := q3
  have e2' : r1 = [] := e2
  subst e2'
  refine kws_cons (wpAny_mono (lam_make q2 hcode hcl hp1 hp2 hq hdef) (fun v2 s3 hh => ?_) fun _ _ x => x.elim)
  obtain ⟨f, g3, rfl, z1, z2, z3⟩ := hh
  refine kws_nil ?_
  have hv3 := AVr.mono z1 hv1
  obtain ⟨la, lvs, ln, rfl, hla, hlr⟩ := hv3
  show wpAny _ _ (call (.builtin "min") [.ref la] [(Str.ofString "key", .ref f)]) _ _ _
  refine wpAny_mono (min_call (kf := kf) (kn := kn) z2 okX.hd (by have := okX.un; omega) hla hlr hkl (fun d hd' g' R' s' v' hg' hR' hv' => ?_)) (fun v' s' hh => ?_) fun _ _ x => x
  · refine wpAny_mono (lam_call (n := n) (Q := fun b S1 => b = .dat (intL (kf d)) ∧ S1 = S2) (a := .dat d) hR' X.hfl okX.in1 (by
      obtain ⟨pm, c', ctv, oc, vs, t, y1, y2, y3⟩ := z3
      exact ⟨pm, c', ctv, oc, vs, t, hg' _ _ y1, hg' _ _ y2, y3⟩) hbind hk hco hgen hcf hpc hone hky hne hxk hck hkv hv' (fun Y L cd hY hYn => ?_)) (fun _ _ x => x) fun _ _ x => x
    refine Wp.mono (turn d hd' f Y L cd hY hYn) fun b S3 h3 => ?_
    obtain ⟨y1, y2, y3⟩ := h3
    exact ⟨y1, by rw [y2, y3]⟩
  · obtain ⟨g4, b, S4, y1, y2, y3, rfl, rfl⟩ := hh
    exact ⟨g4, _, _, ((h1.trans q1).trans z1).trans y1, y2, y3, h⟩
end
noncomputable def EqS (K : D → D → Prop) : D → D → Prop
  | .int i, e => e = .int i
  | .str x, e => e = .str x
  | .lst xs, e => e = .lst xs ∧ ∃ is : List Int, xs = is.map .int
  | .tup xs, e => ∃ ys, e = .tup ys ∧ xs.length = ys.length ∧ ∀ (i : Nat) d e, xs[i]? = some d → ys[i]? = some e → K d e
  | .dct ks, e => ∃ ls, e = .dct ls ∧ ks.length = ls.length ∧ ∀ k d, (k, d) ∈ ks → ∃ e, getK ls k = some e ∧ K d e
  | _, _ => False
/-- equal, the tables in any order, at most n deep -/
noncomputable def EqD : Nat → D → D → Prop
  | 0 => EqS fun _ _ => False
  | n + 1 => EqS (EqD n)
section
variable {c : Cx} {A : Around} {s : Shared}
noncomputable def EqW (c : Cx) (A : Around) (s : Shared) (v u : Value) : Prop := ∀ (E : Value → Shared → Prop) (Q : Bool → Shared → Prop), Q true s → wpAny (M c) A (eqBool v u) Q E s
noncomputable def RcW (c : Cx) (A : Around) (s : Shared) (v u : Value) : Prop := ∀ (E : Value → Shared → Prop) (Q : Value → Shared → Prop), Q (.bool true) s → wpAny (M c) A (richCompare .Eq v u) Q E s
theorem EqW.of_rc {a b : Addr} (h : RcW c A s (.ref a) (.ref b)) : EqW c A s (.ref a) (.ref b) := fun E Q hq => by
  unfold eqBool
  refine wpAny_holding ?_
  refine wpAny_ite_split (fun _ => wpAny_bind (wpAny_rule (wpAny_pure hq))) (fun _ => ?_)
  exact wpAny_bind (h E _ (wpAny_truthy_bool hq))
theorem zip_all {P : Value → Value → Prop} : ∀ {xs ys : List Value}, (∀ (i : Nat) x y, xs[i]? = some x → ys[i]? = some y → P x y) → ∀ p ∈ xs.zip ys, P p.1 p.2
  | [], _, _, p, hp => by simp at hp
  | _ :: _, [], _, p, hp => by simp at hp
  | x :: xs, y :: ys, h, p, hp => by
    rcases List.mem_cons.mp hp with e | hp
    · subst e; exact h 0 x y rfl rfl
    · exact zip_all (fun i x y h1 h2 => h (i + 1) x y h1 h2) p hp
theorem tup_true {a b : Addr} {xs ys : List Value} {n k : Nat} {P : Fin → Shared → Prop} {E : Value → Shared → Prop} (ha : s.heap.get? a = some (seqO "tuple" xs n)) (hb : s.heap.get? b = some (seqO "tuple" ys k)) (hl : xs.length = ys.length)
    (he : ∀ (i : Nat) x y, xs[i]? = some x → ys[i]? = some y → EqW c A s x y) (h : P (.done (.ret (.bool true))) s) : wpAny (M c) A (Builtin.«tuple.__eq__» ⟨[.ref a, .ref b], []⟩) P E s := by
  show wpAny _ _ (isInstance (.ref b) (.type "tuple") >>= _) _ _ s
  refine wpAny_bind (wpAny_isInstance (T := "tuple") ⟨_, hb, rfl⟩ isSubtype_tuple_tuple ?_)
  simp only [Bool.not_true, Bool.false_eq_true, if_false]
  refine wpAny_bind (wpAny_tupleItemsOf ha rfl ?_)
  refine wpAny_bind (wpAny_tupleItemsOf hb rfl ?_)
  refine wpAny_bind ?_
  refine wpAny_forIn_list _ (fun rest r s' => r.1 = none ∧ s' = s ∧ ∀ p ∈ rest, EqW c A s p.1 p.2) _ ?_ ?_ _ _ ⟨rfl, rfl, zip_all (by simpa using he)⟩
  · rintro ⟨u, v⟩ rest r s' ⟨hr, rfl, hall⟩
    refine wpAny_bind (hall (u, v) (.head _) _ _ ?_)
    simp only [Bool.not_true, Bool.false_eq_true, if_false]
    exact wpAny_pure ⟨rfl, rfl, fun p hp => hall p (.tail _ hp)⟩
  · rintro ⟨r1, r2⟩ s' ⟨hr, rfl, _⟩
    simp only at hr
    subst hr
    refine wpAny_pure ?_
    show P (.done (.ret (.bool (xs.toArray.size == ys.toArray.size)))) s'
    simpa [hl] using h
theorem tup_false {a b : Addr} {xs ys : List Value} {n k : Nat} {P : Fin → Shared → Prop} {E : Value → Shared → Prop} (ha : s.heap.get? a = some (seqO "tuple" xs n)) (hb : s.heap.get? b = some (seqO "tuple" ys k)) (hl : xs.length = ys.length)
    (he : ∀ (i : Nat) x y, xs[i]? = some x → ys[i]? = some y → EqW c A s x y) (h : P (.done (.ret (.bool false))) s) : wpAny (M c) A (Builtin.«tuple.__ne__» ⟨[.ref a, .ref b], []⟩) P E s := by
  show wpAny _ _ (isInstance (.ref b) (.type "tuple") >>= _) _ _ s
  refine wpAny_bind (wpAny_isInstance (T := "tuple") ⟨_, hb, rfl⟩ isSubtype_tuple_tuple ?_)
  simp only [Bool.not_true, Bool.false_eq_true, if_false]
  refine wpAny_bind (wpAny_tupleItemsOf ha rfl ?_)
  refine wpAny_bind (wpAny_tupleItemsOf hb rfl ?_)
  refine wpAny_bind ?_
  refine wpAny_forIn_list _ (fun rest r s' => r.1 = none ∧ s' = s ∧ ∀ p ∈ rest, EqW c A s p.1 p.2) _ ?_ ?_ _ _ ⟨rfl, rfl, zip_all (by simpa using he)⟩
  · rintro ⟨u, v⟩ rest r s' ⟨hr, rfl, hall⟩
    refine wpAny_bind (hall (u, v) (.head _) _ _ ?_)
    simp only [Bool.not_true, Bool.false_eq_true, if_false]
    exact wpAny_pure ⟨rfl, rfl, fun p hp => hall p (.tail _ hp)⟩
  · rintro ⟨r1, r2⟩ s' ⟨hr, rfl, _⟩
    simp only at hr
    subst hr
    refine wpAny_pure ?_
    show P (.done (.ret (.bool (xs.toArray.size != ys.toArray.size)))) s'
    simpa [hl] using h
theorem dct_true {nm : String} {a b : Addr} {ka kb : List (Str × Value)} {Q : Bool → Shared → Prop} {E : Value → Shared → Prop} (ha : (a == sysModules) = false) (hb : (b == sysModules) = false)
    (da : s.heap.DictOf (strKind P0 c.w) a ka) (db : s.heap.DictOf (strKind P0 c.w) b kb) (hl : ka.length = kb.length) (hits : ∀ k v, (k, v) ∈ ka → ∃ u, valueAt kb k = some u ∧ EqW c A s v u) (h : Q true s) :
    wpAny (M c) A (Builtin.Dict.samePairs nm a b) Q E s := by
  obtain ⟨oa, es, ep, hoa, _, hda, hka, hpa, _⟩ := da
  obtain ⟨ob, es', ep', hob, _, hdb, hkb, hpb, _⟩ := db
  have hla : ka.length = es.size := by rw [← hpa.length]; exact Array.length_toList
  have hlb : kb.length = es'.size := by rw [← hpb.length]; exact Array.length_toList
  have hfind : ∀ k, findBy (strKind P0 c.w).is es' k = valueAt kb k := fun k => by
    rw [← hpb.find k]
    clear hlb hpb hkb hdb hob
    obtain ⟨l⟩ := es'
    simp [findBy]
  have hsz : es.size = es'.size := by rw [← hla, ← hlb, hl]
  unfold Builtin.Dict.samePairs Builtin.Dict.showsAll
  rw [if_neg (show ¬ (a == sysModules) = true by rw [ha]; exact Bool.false_ne_true), if_neg (show ¬ (b == sysModules) = true by rw [hb]; exact Bool.false_ne_true)]
  refine wpAny_bind (wpAny_pure (wpAny_bind (wpAny_pure ?_)))
  refine wpAny_bind (wpAny_dictEntries hoa hda ?_)
  dsimp only
  refine wpAny_bind (wpAny_dictEntries hob hdb ?_)
  rw [if_neg (by rw [hsz]; simp)]
  refine wpAny_bind (wpAny_dictEpoch hoa hda ?_)
  refine wpAny_bind ?_
  rw [Std.Legacy.Range.forIn_eq_forIn_range']
  simp only [Std.Legacy.Range.size, Nat.sub_zero, Nat.add_sub_cancel, Nat.div_one]
  refine wpAny_forIn_list _
    (fun rest q s' => s' = s ∧ q = (none, ()) ∧ ∃ i, rest = List.range' i (es.size - i) ∧ i ≤ es.size)
    _ ?_ ?_ _ _ ⟨rfl, rfl, 0, by simp, Nat.zero_le _⟩
  · rintro x rest q s' ⟨rfl, rfl, i, hr, hi⟩
    have hlt : i < es.size := by
      rcases Nat.lt_or_ge i es.size with h | h
      · exact h
      · rw [Nat.sub_eq_zero_of_le h] at hr; simp at hr
    obtain ⟨rfl, hrest⟩ : x = i ∧ rest = List.range' (i + 1) (es.size - (i + 1)) := by
      have e : es.size - i = (es.size - (i + 1)) + 1 := by omega
      rw [e, List.range'_succ] at hr
      injection hr with h1 h2
      exact ⟨h1, h2⟩
    refine wpAny_bind (wpAny_dictEntries hoa hda ?_)
    rw [Array.getElem?_eq_getElem hlt]
    have hlt' : x < ka.length := by rw [hla]; exact hlt
    obtain ⟨k, v, hkv⟩ : ∃ k v, ka[x] = (k, v) := ⟨_, _, rfl⟩
    obtain ⟨hkey, hval⟩ := hpa.get? (i := x) (e := es[x]) (k := k) (v := v) (by rw [Array.getElem?_toList]; exact Array.getElem?_eq_getElem hlt) (by rw [List.getElem?_eq_getElem hlt', hkv])
    obtain ⟨k', hk', hh⟩ := hka es[x] (Array.getElem_mem hlt)
    have ekk : k' = k := (strKind P0 c.w).inj _ _ _ hk' hkey
    rw [ekk] at hh
    obtain ⟨u, hu, heq⟩ := hits k v (by rw [← hkv]; exact List.getElem_mem hlt')
    show wpAny _ _ (holding [es[x].key, es[x].val] _ >>= _) _ _ _
    rw [hh]
    refine wpAny_bind (wpAny_holding (wpAny_bind (wpAny_dictFind_of hkey hob hdb hkb ?_)))
    cases hj : es'.findIdx? fun e => (strKind P0 c.w).is k e.key with
    | none =>
      have hn : valueAt kb k = none := by rw [← hfind k, findBy_of_findIdx?, hj]
      rw [hu] at hn
      cases hn
    | some j =>
      obtain ⟨hjlt, _, _⟩ := Array.findIdx?_eq_some_iff_getElem.mp hj
      have hv' : valueAt kb k = some es'[j].val := by
        rw [← hfind k, findBy_of_findIdx?, hj]
        simp [Array.getElem?_eq_getElem hjlt]
      refine wpAny_bind (wpAny_dictEntries hob hdb ?_)
      rw [Array.getElem?_eq_getElem hjlt]
      have ey : es'[j].val = u := Option.some.inj (hv'.symm.trans hu)
      rw [← ey, ← hval] at heq
      refine wpAny_holding (heq _ _ ?_)
      show wpAny _ _ (if (!true) = true then _ else _) _ _ _
      rw [if_neg (by decide)]
      refine wpAny_bind (wpAny_dictEpoch hoa hda ?_)
      rw [if_neg (by simp)]
      exact wpAny_pure ⟨rfl, rfl, x + 1, hrest, hlt⟩
  · rintro q s' ⟨rfl, rfl, i, hr, hi⟩
    exact wpAny_pure h
theorem rc_dct {a b : Addr} {ka kb : List (Str × Value)} (ha : (a == sysModules) = false) (hb : (b == sysModules) = false)
    (da : s.heap.DictOf (strKind P0 c.w) a ka) (db : s.heap.DictOf (strKind P0 c.w) b kb) (hu : A.units < cLine) (hl : ka.length = kb.length) (hits : ∀ k v, (k, v) ∈ ka → ∃ u, valueAt kb k = some u ∧ EqW c A.in1 s v u) : RcW c A s (.ref a) (.ref b) := fun E Q h => by
  refine wpAny_richCompare_same_room (op := .Eq) da.typeIs db.typeIs PySem.F.slot_dict_eq (wpAny_call_entry PySem.F.slot_dict_eq da.typeIs PySem.F.entry_dict_eq ?_ (PySem.F.args_dict_eq_2 _ _)) hu
  show wpAny _ _ (Builtin.Dict.dictSlotArgs "__eq__" ⟨[.ref a, .ref b], []⟩ >>= _) _ _ s
  refine wpAny_bind ?_
  unfold Builtin.Dict.dictSlotArgs
  refine wpAny_bind (wpAny_notOrdered_dict da.typeIs ?_)
  show wpAny _ _ (pure (Value.ref a, Value.ref b)) _ _ s
  refine wpAny_pure ?_
  refine wpAny_bind (wpAny_isInstance (T := "dict") db.typeIs PySem.F.sub_dict_dict ?_)
  simp only [Bool.not_true, Bool.false_eq_true, if_false]
  refine wpAny_bind (wpAny_pure (wpAny_bind (wpAny_pure ?_)))
  refine wpAny_bind (dct_true ha hb da db hl hits ?_)
  refine wpAny_pure ⟨_, rfl, ?_, ?_⟩
  · exact fun x => nomatch x
  · simpa using h
end
theorem RdK.memD {w : World} {g : G} : ∀ {kvs : List (Str × D)} {ps : List (Str × Value)}, RdK w g kvs ps → ∀ {k : Str} {v : Value}, (k, v) ∈ ps → ∃ d, (k, d) ∈ kvs ∧ Rd w g d v
  | [], _, h, k, v, hm => by rw [RdK] at h; subst h; cases hm
  | (k0, d0) :: r, _, h, k, v, hm => by
    rw [RdK] at h
    obtain ⟨v0, ps', rfl, h1, h2⟩ := h
    rcases List.mem_cons.mp hm with e | hm
    · cases e; exact ⟨d0, .head _, h1⟩
    · obtain ⟨d, q1, q2⟩ := RdK.memD h2 hm
      exact ⟨d, .tail _ q1, q2⟩
theorem eqS_true {c : Cx} {X : Fm} {R : Ld} {g : G} {s : Shared} {S : AS} (hR : Rel c X R g s S) {K : D → D → Prop} {m : Nat}
    (ih : ∀ {d e : D} {v u : Value} {A : Around}, K d e → A.units + m < cLine → Rd c.w g d v → Rd c.w g e u → EqW c A s v u) {d e : D} {v u : Value} {A : Around} (he : EqS K d e) (hA : A.units + 1 + m < cLine) (hv : Rd c.w g d v) (hu : Rd c.w g e u) :
    EqW c A s v u ∧ ∀ a b, v = .ref a → u = .ref b → RcW c A s v u := by
  have rcof : ∀ {a b : Addr}, RcW c A s (.ref a) (.ref b) → EqW c A s (.ref a) (.ref b) ∧ ∀ a' b', Value.ref a = .ref a' → Value.ref b = .ref b' → RcW c A s (.ref a) (.ref b) := fun h => ⟨.of_rc h, fun _ _ _ _ => h⟩
  have hA1 : A.in1.units + m < cLine := hA
  have hA0 : A.units < cLine := by omega
  cases d with
  | none => exact he.elim
  | bool b => exact he.elim
  | int i =>
    have he : e = .int i := he
    subst he
    obtain ⟨t, rfl⟩ := hv
    obtain ⟨t', rfl⟩ := hu
    exact ⟨fun E Q hq => wpAny_eqBool_int (by simpa using hq), fun a b z => nomatch z⟩
  | str x =>
    have he : e = .str x := he
    subst he
    obtain ⟨t, rfl⟩ := hv
    obtain ⟨t', rfl⟩ := hu
    exact ⟨fun E Q hq => wpAny_eqBool_str (by simpa using hq), fun a b z => nomatch z⟩
  | lst xs =>
    obtain ⟨rfl, is, rfl⟩ := he
    obtain ⟨a, vs, k1, rfl, ha, hr⟩ := hv
    obtain ⟨b, us, k2, rfl, hb, hr2⟩ := hu
    obtain ⟨ps, rfl, hps⟩ := rdInts hr
    obtain ⟨qs, rfl, hqs⟩ := rdInts hr2
    have hlen : ps.length = qs.length := by
      have e1 := congrArg List.length (hps.trans hqs.symm)
      rwa [List.length_map, List.length_map] at e1
    refine rcof fun E Q hq => ?_
    refine SeqAt.RcAt.lists (e := fun _ => true) ⟨_, hR.fz ha, rfl, _, rfl⟩ ⟨_, hR.fz hb, rfl, _, rfl⟩ (by simp [hlen]) hA0 (fun j h1 h2 => ?_) P0 c.w E Q (by rw [List.all_eq_true.mpr fun _ _ => rfl]; exact hq)
    have j1 : j < ps.length := by simpa using h1
    have j2 : j < qs.length := by simpa using h2
    have e3 : ps[j].1 = qs[j].1 := by
      have z1 : (ps.map Prod.fst)[j]? = some ps[j].1 := by simp [j1]
      have z2 : (qs.map Prod.fst)[j]? = some qs[j].1 := by simp [j2]
      rw [hps] at z1
      rw [hqs, z1] at z2
      exact Option.some.inj z2
    have := SeqAt.EqAt.int_int (A := A.in1) (s := s) ps[j].1 ps[j].2 qs[j].1 qs[j].2
    rw [show (ps[j].1 == qs[j].1) = true from by rw [e3]; exact beq_self_eq_true _] at this
    simpa using this
  | tup xs =>
    obtain ⟨ys, rfl, hl, hi⟩ := he
    obtain ⟨a, vs, k1, rfl, ha, hr⟩ := hv
    obtain ⟨b, us, k2, rfl, hb, hr2⟩ := hu
    refine rcof fun E Q hq => ?_
    refine wpAny_richCompare_same_room (op := .Eq) (T := "tuple") ⟨_, hR.fz ha, rfl⟩ ⟨_, hR.fz hb, rfl⟩ PySem.F.slot_tuple_eq (wpAny_call_entry PySem.F.slot_tuple_eq ⟨_, hR.fz ha, rfl⟩ PySem.F.entry_tuple_eq ?_ (PySem.F.args_tuple_eq_2 _ _)) hA0
    refine tup_true (hR.fz ha) (hR.fz hb) ((hr.length.trans hl).trans hr2.length.symm) (fun i x y hx hy => ?_) ⟨_, rfl, nofun, hq⟩
    obtain ⟨d, hd, hdx⟩ := hr.at' hx
    obtain ⟨e, he, hey⟩ := hr2.at' hy
    exact ih (hi i d e hd he) hA1 hdx hey
  | dct ks =>
    obtain ⟨ls, rfl, hl, hi⟩ := he
    obtain ⟨a, oa, ps, rfl, ha0, ha, hda, hka⟩ := hv
    obtain ⟨b, ob, qs, rfl, hb0, hb, hdb, hkb⟩ := hu
    refine rcof (rc_dct ha0 hb0 (Heap.dictOf_iff.mpr ⟨_, hR.fz ha, hda⟩) (Heap.dictOf_iff.mpr ⟨_, hR.fz hb, hdb⟩) hA0 ((hka.length.trans hl).trans hkb.length.symm) fun k v hm => ?_)
    obtain ⟨d, hd, hdv⟩ := hka.memD hm
    obtain ⟨e, he, hee⟩ := hi k d hd
    rcases hkb.get k with ⟨z1, _⟩ | ⟨d', u, z1, z2, z3⟩
    · rw [he] at z1; cases z1
    · rw [he] at z1; cases z1
      exact ⟨u, z2, ih hee hA1 hdv z3⟩
theorem eqD_true {c : Cx} {X : Fm} {R : Ld} {g : G} {s : Shared} {S : AS} (hR : Rel c X R g s S) : ∀ (n : Nat) {d e : D} {v u : Value} {A : Around}, EqD n d e → A.units + (n + 1) < cLine → Rd c.w g d v → Rd c.w g e u → EqW c A s v u ∧ ∀ a b, v = .ref a → u = .ref b → RcW c A s v u
  | 0, _, _, _, _, _, he, hA, hv, hu => eqS_true hR (m := 0) (fun h => h.elim) he hA hv hu
  | n + 1, _, _, _, _, _, he, hA, hv, hu => eqS_true hR (m := n + 1) (fun h hA hv hu => (eqD_true hR n h hA hv hu).1) he (by rw [Nat.add_assoc, Nat.add_comm 1]; exact hA) hv hu
section
variable {c : Cx} {X : Fm} {S : AS} {Q : AV → AS → Prop}
theorem op_eqT {n : Nat} {xs ys : List D} (he : EqD n (.tup xs) (.tup ys)) (hn : n ≤ 20) (h : Q (.bool true) S) : Op2 c X S (compareOp .Eq) (.dat (.tup xs)) (.dat (.tup ys)) Q := fun g R s v u hR hv hu => by
  have hun := X.ok.un
  obtain ⟨a, _, _, e1, _, _⟩ := id hv
  obtain ⟨b, _, _, e2, _, _⟩ := id hu
  exact (eqD_true hR n (A := X.A) he (by omega) hv hu).2 a b e1 e2 No _ ⟨g, .bool true, S, .rfl, hR, rfl, h⟩
theorem op_neT {n : Nat} {xs ys : List D} (he : EqD (n + 1) (.tup xs) (.tup ys)) (hn : n ≤ 20) (h : Q (.bool false) S) : Op2 c X S (compareOp .NotEq) (.dat (.tup xs)) (.dat (.tup ys)) Q := fun g R s v u hR hv hu => by
  have hun := X.ok.un
  obtain ⟨a, vs, k1, rfl, ha, hr⟩ := hv
  obtain ⟨b, us, k2, rfl, hb, hr2⟩ := hu
  obtain ⟨ys', e0, hl, hi⟩ : ∃ ys', D.tup ys = .tup ys' ∧ xs.length = ys'.length ∧ ∀ (i : Nat) d e, xs[i]? = some d → ys'[i]? = some e → EqD n d e := he
  cases e0
  have e1 := hr.length
  have e2 := hr2.length
  show wpAny (M c) X.A (richCompare .NotEq (.ref a) (.ref b)) _ No s
  refine wpAny_richCompare_same_room (op := .NotEq) (T := "tuple") ⟨_, hR.fz ha, rfl⟩ ⟨_, hR.fz hb, rfl⟩ PySem.F.slot_tuple_ne (wpAny_call_entry PySem.F.slot_tuple_ne ⟨_, hR.fz ha, rfl⟩ PySem.F.entry_tuple_ne ?_ (PySem.F.args_tuple_ne_2 _ _)) (by omega)
  refine tup_false (hR.fz ha) (hR.fz hb) (by omega) (fun i x y hx hy => ?_) ⟨_, rfl, nofun, ⟨g, .bool false, S, .rfl, hR, rfl, h⟩⟩
  obtain ⟨d, hd, hdx⟩ := hr.at' hx
  obtain ⟨e, he, hey⟩ := hr2.at' hy
  exact (eqD_true hR n (A := X.A.in1) (hi i d e hd he) (by show X.A.units + 1 + (n + 1) < _; omega) hdx hey).1
end
noncomputable def compTree (ipos : Pos) (target : Expr) (ifs : List Expr) (em : Sem Unit) (nx : Sem Fin) (it : Value) (env : Env) : Sem Fin := do
  standAt ipos
  match ← pyNext it with
  | none => pure (.done .next)
  | some v =>
    letOwnedTupleGo target it v
    assign target env v
    let mut ok := true
    for c in ifs do
      if ok then ok ← isTrue c env (eval c env)
    if ok then em
    nx
noncomputable abbrev KP := Nat → G → (Obj → Prop) → AS → Prop
/-- what a turn gives -/
noncomputable def EmOk (c : Cx) (X : Fm) (acc : Addr) (em : Sem Unit) (S : AS) (P : Obj → Prop) (g0 : G) (post : G → (Obj → Prop) → AS → Prop) : Prop :=
  ∀ g R s, G.le g0 g → Rel c X ((acc, P) :: R) g s S → wpAny (M c) X.A em (fun _ s' => ∃ g' P' S', G.le g g' ∧ Rel c X ((acc, P') :: R) g' s' S' ∧ post g' P' S') No s
structure KOk (K : KP) : Prop where
  mono : ∀ {i g g' P S}, G.le g g' → K i g P S → K i g' P S
section
variable {c : Cx} {X : Fm} {S : AS}
theorem comp_loopG {e : Expr} {depth : Nat} {target : Expr} {ifs : List Expr} {em : Sem Unit} {ipos : Pos} {as : List AV} {I acc : Addr} {ip : Nat → Obj → Prop} {g0 : G} (it : ItOk c target I ip as g0 (fun _ => True)) {K : KP} (hK : KOk K)
    (hq : (Code.compLoop e depth (.ref I) (.ref acc) X.env).quiet = true) (hund : X.A.under (.compLoop e depth (.ref I) (.ref acc) X.env) = X.A)
    (hden : (M c).den (.compLoop e depth (.ref I) (.ref acc) X.env) = (compTree ipos target ifs em (again (.compLoop e depth (.ref I) (.ref acc) X.env)) (.ref I) X.env).onRaise (fun x => do noteFrame x X.env; theTreesLotGoes x))
    (turn : ∀ i a g P S', as[i]? = some a → G.le g0 g → K i g P S' → Asg c X S' target a (fun S2 => Ts c X S2 ifs (fun ok S3 => if ok then EmOk c X acc em S3 P g (K (i + 1)) else K (i + 1) g P S3)))
    {g : G} {R : Ld} {s : Shared} {P : Obj → Prop} (hg : G.le g0 g) (hR : Rel c X ((I, ip 0) :: (acc, P) :: R) g s S) (h0 : K 0 g P S) :
    codeAny (M c) X.A (.compLoop e depth (.ref I) (.ref acc) X.env) (fun r s' => match r with | .ok _ => ∃ g' P' S', G.le g g' ∧ Rel c X ((acc, P') :: R) g' s' S' ∧ K as.length g' P' S' | .error _ => False) s := by
  refine codeAny_loop hq (fun n s' => ∃ i g' P' S', n = as.length + 1 - i ∧ i ≤ as.length ∧ G.le g g' ∧ Rel c X ((I, ip i) :: (acc, P') :: R) g' s' S' ∧ K i g' P' S') ?_ (as.length + 1) ⟨0, g, P, S, rfl, Nat.zero_le _, .rfl, hR, h0⟩
  rintro n s' ⟨i, g', P', S', rfl, hi, hg', hR', hJ⟩
  rw [hund, hden]
  refine wpAny_noted ?_
  unfold compTree
  refine wpAny_bind (wpAny_standAt (wpAny_bind ?_))
  cases ha : as[i]? with
  | none =>
    have : i = as.length := Nat.le_antisymm hi (by simpa using ha)
    subst this
    refine no_noted (wpAny_mono (it.fin X g' _ s' S' (hg.trans hg') trivial hR') (fun r s1 hh => ?_) fun _ _ x => x.elim)
    obtain ⟨rfl, h1⟩ := hh
    exact wpAny_pure ⟨g', P', S', hg', h1, hJ⟩
  | some a =>
    have hlt : i < as.length := (List.getElem?_eq_some_iff.mp ha).1
    refine no_noted (wpAny_mono (it.item X i a g' _ s' S' ha (hg.trans hg') trivial hR') (fun r s1 hh => ?_) fun _ _ x => x.elim)
    obtain ⟨v, rfl, h1⟩ := hh
    refine wpAny_bind (wpAny_mono h1 (fun _ s2 hh => ?_) fun _ _ x => x.elim)
    obtain ⟨g2, q1, q2, q3⟩ := hh
    refine wpAny_bind (wpAny_mono (turn i a g2 P' S' ha ((hg.trans hg').trans q1) (hK.mono q1 hJ) g2 _ s2 v q2 q3) (fun _ s3 hh => ?_) fun _ _ x => x.elim)
    obtain ⟨g3, S3, z1, z2, z3⟩ := hh
    refine wpAny_bind (wpAny_mono (z3 g3 _ s3 z2) (fun ok s4 hh => ?_) fun _ _ x => x.elim)
    obtain ⟨g4, b, S4, y1, y2, y3, y4⟩ := hh
    have e : ok = b := y3
    subst e
    cases ok with
    | false => exact wpAny_pure ⟨rfl, as.length + 1 - (i + 1), by omega, i + 1, g4, P', S4, rfl, hlt, ((hg'.trans q1).trans z1).trans y1, y2, hK.mono (z1.trans y1) y4⟩
    | true =>
      have y4' : EmOk c X acc em S4 P' g2 (K (i + 1)) := y4
      refine wpAny_bind (wpAny_mono (y4' g4 _ s4 (z1.trans y1) (y2.perm (List.Perm.swap _ _ _))) (fun _ s5 hh => ?_) fun _ _ x => x.elim)
      obtain ⟨g5, P5, S5, x1, x2, x3⟩ := hh
      exact wpAny_pure ⟨rfl, as.length + 1 - (i + 1), by omega, i + 1, g5, P5, S5, rfl, hlt, (((hg'.trans q1).trans z1).trans y1).trans x1, x2.perm (List.Perm.swap _ _ _), x3⟩
theorem comp_startG {A : Around} {e : Expr} {depth : Nat} {it acc : Value} {env : Env} {gc : Comprehension} {R : Result → Shared → Prop} {s : Shared} (hcl : (clausesOf e)[depth]? = some gc) (ha : gc.is_async = 0) (hund : A.under (.compStart e depth it acc env) = A) (hq : (Code.compLoop e depth it acc env).quiet = true) (hq' : ∀ it', (Code.compLoop e depth it' acc env).quiet = true)
    (hden : (M c).den (.compStart e depth it acc env) = (compStart e depth it acc env).onRaise (fun x => do noteFrame x env; standAt theWindowsPlace))
    (h0 : codeAny (M c) A (.compLoop e depth it acc env) R s) (h : wpAny (M c) A (pyIter it) (fun it' s' => codeAny (M c) A (.compLoop e depth it' acc env) R s') No s) : codeAny (M c) A (.compStart e depth it acc env) R s := by
  refine codeAny_of_tree ?_
  rw [hund, hden]
  refine wpAny_notedAt ?_
  unfold compStart
  rw [hcl]
  have e0 : (Option.elim (some gc) false fun x => x.is_async != 0) = false := by simp [ha]
  simp only [e0, Bool.false_eq_true, if_false]
  refine wpAny_bind (wpAny_askSetting (wpAny_ite ?_))
  split
  · first
      | exact wpAny_bind (wpAny_pure (wpAny_pure ⟨hq, h0⟩))
      | exact wpAny_pure ⟨hq, h0⟩
  · refine wpAny_bind (wpAny_rule (wpAny_bind (wpAny_standAt (wpAny_bind (no_noted (wpAny_mono h (fun it' s' h' => wpAny_pure ⟨hq' it', h'⟩) fun _ _ x => x))))))

noncomputable def KL (c : Cx) (J : Nat → List AV → AS → Prop) : KP := fun i g P S => ∃ ys vs, P = accP vs ∧ AVsr c.w g ys vs ∧ ys.length ≤ 100000 ∧ J i ys S
theorem kl_ok {J : Nat → List AV → AS → Prop} : KOk (KL c J) where
  mono := fun hg h => by obtain ⟨ys, vs, rfl, h1, h2, h3⟩ := h; exact ⟨ys, vs, rfl, h1.mono hg, h2, h3⟩
theorem em_list {elt : Expr} {acc : Addr} {ys : List AV} {vs : List Value} {g0 : G} {post : List AV → AS → Prop} (hv : AVsr c.w g0 ys vs) (hl : ys.length < 100000) (h : Ev c X S (eval elt X.env) (fun y S4 => post (ys ++ [y]) S4)) :
    EmOk c X acc (do let _ ← call (.builtin "list.append") [.ref acc, ← eval elt X.env]) S (accP vs) g0 (fun g P S' => ∃ zs ws, P = accP ws ∧ AVsr c.w g zs ws ∧ zs.length ≤ 100000 ∧ post zs S') := fun g R s hg hR => by
  refine wpAny_bind (wpAny_mono (h g _ s hR) (fun x s5 hh => ?_) fun _ _ x => x)
  obtain ⟨g5, y, S5, x1, x2, x3, x4⟩ := hh
  obtain ⟨o, ho, k, rfl⟩ := x2.tGet
  have hl2 := hv.length
  refine wpAny_bind (wpAny_list_append_plain (items := vs.toArray) ⟨k, ho⟩ (fun h' hp hs => wpAny_pure ?_) (by rw [sizeLine_eq]; simp; omega))
  obtain ⟨k', hpl⟩ := hp
  refine ⟨g5, accP (vs ++ [x]), S5, x1, ?_, ys ++ [y], vs ++ [x], rfl, (hv.mono (hg.trans x1)).snoc x3, by simp; omega, x4⟩
  refine x2.tUpd (P' := accP (vs ++ [x])) (t := s5.toks) (fun b o hb e => hs.extBut b o hb e) (o := seqO "list" (vs ++ [x]) k') ?_ ⟨_, rfl⟩ accP_pln
  rw [hpl]
  simp [seqO]
noncomputable def KD (c : Cx) (J : Nat → List (Str × D) → AS → Prop) : KP := fun i g P S => ∃ kvs ps, P = (fun o => o.IsDictOf (PySem.strKind P0 c.w) ps) ∧ RdK c.w g kvs ps ∧ kvs.length ≤ 100000 ∧ J i kvs S
theorem kd_ok {J : Nat → List (Str × D) → AS → Prop} : KOk (KD c J) where
  mono := fun hg h => by obtain ⟨ys, vs, rfl, h1, h2, h3⟩ := h; exact ⟨ys, vs, rfl, h1.mono hg, h2, h3⟩
theorem dictP_pln {ps : List (Str × Value)} (hex : ∃ o : Obj, o.IsDictOf (PySem.strKind P0 c.w) ps) : Pln (fun o => o.IsDictOf (PySem.strKind P0 c.w) ps) := by
  obtain ⟨o, ho⟩ := hex
  have hP : ∀ o : Obj, o.IsDictOf (PySem.strKind P0 c.w) ps → o.cls = .type "dict" := fun o ho => by obtain ⟨es, ep, hx, _⟩ := ho; exact hx.1
  refine ⟨fun m e => ?_, fun v e => ?_⟩
  · have z : NsP m o := by rw [← e]; exact ho
    have z2 : NsP m { o with cls := .none } := z
    rw [← e] at z2
    cases hP _ z2
  · have z : cellP v o := by rw [← e]; exact ho
    have z2 : cellP v { o with cls := .none } := z
    rw [← e] at z2
    cases hP _ z2
theorem em_dict {ke ve : Expr} {acc : Addr} {dpos : Pos} {kvs : List (Str × D)} {ps : List (Str × Value)} {g0 : G} {post : List (Str × D) → AS → Prop} (hv : RdK c.w g0 kvs ps) (hl : kvs.length < 100000)
    (h : Ev c X S (eval ke X.env) (fun k S1 => Ev c X S1 (eval ve X.env) (fun v S2 => ∃ x d, k = .str x ∧ v = .dat d ∧ post (putK kvs x d) S2))) :
    EmOk c X acc (do
        let kv ← eval ke X.env
        let vv ← holding [kv] (eval ve X.env)
        standAt dpos
        holding [kv, vv] (dictSet acc kv vv)) S (fun o => o.IsDictOf (PySem.strKind P0 c.w) ps) g0 (fun g P S' => ∃ zs ws, P = (fun o => o.IsDictOf (PySem.strKind P0 c.w) ws) ∧ RdK c.w g zs ws ∧ zs.length ≤ 100000 ∧ post zs S') := fun g R s hg hR => by
  refine wpAny_bind (wpAny_mono (h g _ s hR) (fun kv s1 hh => ?_) fun _ _ x => x)
  obtain ⟨g1, ka, S1, x1, x2, x3, x4⟩ := hh
  refine wpAny_bind (wpAny_holding (wpAny_mono (x4 g1 _ s1 x2) (fun vv s2 hh => ?_) fun _ _ x => x))
  obtain ⟨g2, va, S2, q1, q2, q3, x, d, rfl, rfl, hq⟩ := hh
  refine wpAny_bind (wpAny_standAt (wpAny_holding ?_))
  obtain ⟨t, rfl⟩ := x3
  obtain ⟨o, ho, hdo⟩ := q2.tGet
  have hlen := hv.length
  refine wpAny_dictSet_pairs (knd := PySem.strKind P0 c.w) (strKind_is _ _ _ _) (Heap.dictOf_iff.mpr ⟨o, ho, hdo⟩) (fun h' hd hs => ?_) (by rw [sizeLine_eq]; omega)
  obtain ⟨o', ho', hdo'⟩ := Heap.dictOf_iff.mp hd
  have hle : G.le g0 g2 := (hg.trans x1).trans q1
  refine ⟨g2, _, S2, x1.trans q1, q2.tUpd (P' := fun o => o.IsDictOf (PySem.strKind P0 c.w) (stored ps x vv)) (t := s2.toks + 1) (fun b o hb e => hs.extBut b o hb e) ho' hdo' (dictP_pln ⟨o, hdo⟩), _, _, rfl, (hv.mono hle).put q3, ?_, hq⟩
  unfold putK
  split <;> simp <;> omega
theorem em_inner {e : Expr} {target2 iter2 : Expr} {ifs2 : List Expr} {em2 : Sem Unit} {ipos2 ip2 : Pos} {acc : Addr} {P : Obj → Prop} {g0 : G} {post : G → (Obj → Prop) → AS → Prop}
    (hcl : (clausesOf e)[1]? = some ⟨target2, iter2, ifs2, 0⟩) (hund : ∀ it, X.A.under (.compStart e 1 it (.ref acc) X.env) = X.A) (hund2 : ∀ it, X.A.under (.compLoop e 1 it (.ref acc) X.env) = X.A) (hq : ∀ it, (Code.compLoop e 1 it (.ref acc) X.env).quiet = true)
    (hden : ∀ it, (M c).den (.compStart e 1 it (.ref acc) X.env) = (compStart e 1 it (.ref acc) X.env).onRaise (fun x => do noteFrame x X.env; standAt theWindowsPlace))
    (hden2 : ∀ I, (M c).den (.compLoop e 1 (.ref I) (.ref acc) X.env) = (compTree ipos2 target2 ifs2 em2 (again (.compLoop e 1 (.ref I) (.ref acc) X.env)) (.ref I) X.env).onRaise (fun x => do noteFrame x X.env; theTreesLotGoes x))
    (h : Ev c X S (eval iter2 X.env) (fun a S4 => ∃ as, ∃ K : KP, Src c target2 a as ∧ KOk K ∧ (∀ g, G.le g0 g → K 0 g P S4) ∧
      (∀ i b g P S', as[i]? = some b → K i g P S' → Asg c X S' target2 b (fun S2 => Ts c X S2 ifs2 (fun ok S3 => if ok then EmOk c X acc em2 S3 P g (K (i + 1)) else K (i + 1) g P S3))) ∧
      ∀ g P S', K as.length g P S' → post g P S'))
    (hs : ∀ x, foldedSetIterable iter2 X.env x = pure x := by intro _; rfl) :
    EmOk c X acc (do
        let x ← eval iter2 X.env
        standAt ip2
        let x ← foldedSetIterable iter2 X.env x
        let _ ← runOwn (.compStart e 1 (← holding [x] (pyIter x)) (.ref acc) X.env) X.env) S P g0 post := fun g R s hg hR => by
  refine wpAny_bind (wpAny_mono (h g _ s hR) (fun x s1 hh => ?_) fun _ _ x => x)
  obtain ⟨g1, a, S1, x1, x2, x3, as, K, src, hK, k0, turn, fin⟩ := hh
  refine wpAny_bind (wpAny_standAt (wpAny_bind (wpAny_of_eq (hs x) (wpAny_bind (wpAny_holding (wpAny_mono (src X _ g1 s1 S1 x x2 x3) (fun it s2 hh => ?_) fun _ _ x => x))))))
  obtain ⟨I, ip, g2, rfl, q1, q2, q3, q4⟩ := hh
  refine wpAny_bind (wpAny_runOwn ?_)
  have loop : codeAny (M c) X.A (.compLoop e 1 (.ref I) (.ref acc) X.env) (fun r s' => match r with | .ok f => wpAny (M c) X.A (pure ()) (fun _ s' => ∃ g' P' S', G.le g g' ∧ Rel c X ((acc, P') :: R) g' s' S' ∧ post g' P' S') No s' | .error e => cameBackBy (M c) X.A X.env No e s') s2 := by
    refine codeAny_mono (comp_loopG (ipos := ipos2) q3 hK (hq _) (hund2 _) (hden2 _) (fun i b g P S' hb hg hk => turn i b g P S' hb hk) .rfl q2 (k0 g2 ((hg.trans x1).trans q1))) fun r s' hr => ?_
    cases r with
    | error x => exact hr.elim
    | ok f =>
      obtain ⟨g', P', S', z1, z2, z3⟩ := hr
      exact wpAny_pure ⟨g', P', S', (x1.trans q1).trans z1, z2, fin g' P' S' z3⟩
  refine comp_startG hcl rfl (hund _) (hq _) hq (hden _) loop ?_
  exact q4 X 0 g2 _ s2 S1 _ .rfl trivial q2 loop
end
section
variable {c : Cx} {X : Fm} {S : AS}
/-- what a block's trees are -/
structure BlkOk (c : Cx) (A : Around) (e : Expr) (target : Expr) (ifs : List Expr) (ipos : Pos) (em : Addr → Env → Sem Unit) (env : Env) : Prop where
  us : ∀ it acc, A.under (.compStart e 0 it acc env) = A
  ul : ∀ it acc, A.under (.compLoop e 0 it acc env) = A
  q : ∀ it acc, (Code.compLoop e 0 it acc env).quiet = true
  ds : ∀ it acc, (M c).den (.compStart e 0 it acc env) = (compStart e 0 it acc env).onRaise (fun x => do noteFrame x env; standAt theWindowsPlace)
  dl : ∀ I acc, (M c).den (.compLoop e 0 (.ref I) (.ref acc) env) = (compTree ipos target ifs (em acc env) (again (.compLoop e 0 (.ref I) (.ref acc) env)) (.ref I) env).onRaise (fun x => do noteFrame x env; theTreesLotGoes x)
/-- what a block asks -/
structure BlkQ (c : Cx) (X : Fm) (S1 : AS) (scope : Scope) (hk : scope.kind = .function) (cl : List (Str × Addr)) (target : Expr) (ifs : List Expr) (em : Addr → Env → Sem Unit) (P0' : Obj → Prop) (as : List AV) (loc' : List (Str × AV)) (K : KP) : Prop where
  ok : KOk K
  cap : CapL X.env scope cl S1.loc loc'
  start : ∀ g, K 0 g P0' ⟨loc', S1.mu, S1.gens⟩
  pln : ∀ i g P S o, K i g P S → P o → Pln P
  turn : ∀ C acc i b g P S', as[i]? = some b → K i g P S' → Asg c (cmOf X scope cl C hk) S' target b (fun S2 => Ts c (cmOf X scope cl C hk) S2 ifs (fun ok S3 => if ok then EmOk c (cmOf X scope cl C hk) acc (em acc (cmOf X scope cl C hk).env) S3 P g (K (i + 1)) else K (i + 1) g P S3))
theorem blockG {e target iter : Expr} {ifs : List Expr} {gs : List Comprehension} {scope : Scope} {ipos : Pos} {cl : List (Str × Addr)} {newAcc : Sem Value} {o0 : Obj} {P0' : Obj → Prop} {em : Addr → Env → Sem Unit} {hk : scope.kind = .function}
    (hnew : ∀ (Q : Value → Shared → Prop) (s : Shared), Q (.ref s.heap.objs.size) { s with heap := s.heap.push o0 } → wpAny (M c) X.A newAcc Q No s) (hfr : o0.isFreed = false) (hP0 : P0' o0) (hpl0 : Pln P0')
    (hcl : clausesOf e = ⟨target, iter, ifs, 0⟩ :: gs) (hcell : ∀ y ∈ scope.names, y.2 ≠ .cell) (hB : ∀ C, BlkOk c X.A e target ifs ipos em (cmOf X scope cl C hk).env)
    {a : AV} {v : Value} {as : List AV} {loc' : List (Str × AV)} {K : KP} {g : G} {R : Ld} {s : Shared} (src : Src c target a as) (q : BlkQ c X S scope hk cl target ifs em P0' as loc' K) (hR : Rel c X R g s S) (hv : AVr c.w g a v) {RR : Value → Addr → Result → Shared → Prop}
    (hRR : ∀ C acc g' s' S' mC P, G.le g g' → Rel c X ((C, NsP mC) :: (acc, P) :: R) g' s' ⟨S.loc, S'.mu, S'.gens⟩ → K as.length g' P S' → Pln P → (acc == sysModules) = false → (∀ e ∈ X.fl, e.frame ≠ some C) → ∀ f, RR (.ref acc) C (.ok f) s') :
    wpAny (M c) X.A (pyIter v) (fun it s₂ => wpAny (M c) X.A newAcc (fun acc s₃ => wpAny (M c) X.A (newFunctionEnv scope X.env.globals cl [] X.env.qual none .none (some X.env)) (fun cenv s₄ =>
      codeAny (M c) X.A (.compStart e 0 it acc { cenv with scope := relabel scope X.env }) (RR acc cenv.locals) s₄) No s₃) No s₂) No s := by
  refine wpAny_mono (src X R g s S v hR hv) (fun it s₂ hh => ?_) fun _ _ x => x
  obtain ⟨I, ip, g2, rfl, z1, z2, z3, z4⟩ := hh
  refine hnew _ _ ?_
  have hsz : (s₂.heap.objs.size == sysModules) = false := z2.sizeOk
  have hacc := z2.tPush (o := o0) (P := P0') (t := s₂.toks) hfr hP0
  refine wpAny_newFunctionEnv hcell (by intro y hy; simp at hy) (fun h₁ hns hsb => ?_) hk
  obtain ⟨m, cs, hsus, hrel⟩ := rel_enter (t := s₂.toks) hacc hk hns hsb q.cap
  have hfrl := hacc.frLow
  generalize hacd : s₂.heap.objs.size = acc at hacc hrel hsus hsz ⊢
  generalize hCd : (s₂.heap.push o0).objs.size = C at hrel hfrl ⊢
  have hperm : ((X.env.locals, NsP m) :: (cs.map cellE ++ (acc, P0') :: (I, ip 0) :: R)).Perm ((I, ip 0) :: (acc, P0') :: ((X.env.locals, NsP m) :: (cs.map cellE ++ R))) := by
    have e1 : (X.env.locals, NsP m) :: (cs.map cellE ++ (acc, P0') :: (I, ip 0) :: R) = ((X.env.locals, NsP m) :: cs.map cellE) ++ (acc, P0') :: (I, ip 0) :: R := rfl
    rw [e1]
    refine List.perm_middle.trans ?_
    refine (List.Perm.cons _ List.perm_middle).trans ?_
    exact List.Perm.swap _ _ _
  have hrel2 := hrel.perm hperm
  have hb := hB C
  have loop : codeAny (M c) X.A (.compLoop e 0 (.ref I) (.ref acc) (cmOf X scope cl C hk).env) (RR (.ref acc) C) { s₂ with heap := h₁, toks := s₂.toks + ([] : List (Str × Value)).length } := by
    refine codeAny_mono (comp_loopG (X := cmOf X scope cl C hk) (ipos := ipos) z3 q.ok (hb.q _ _) (hb.ul _ _) (hb.dl _ _) (fun i b g P S' hbx _ hkx => q.turn C acc i b g P S' hbx hkx) .rfl hrel2 (q.start g2)) fun r s' hr => ?_
    cases r with
    | error x => exact hr.elim
    | ok f =>
      obtain ⟨g', P', S', w1, w2, w3⟩ := hr
      have w5 := w2.perm (List.perm_middle (l₁ := (X.env.locals, NsP m) :: cs.map cellE) (l₂ := R)).symm
      obtain ⟨oP, hoP, hpP⟩ := w2.tGet
      have hsus' : Susp c X m cs ((acc, P') :: R) S g' := by
        obtain ⟨u1, u2, u3⟩ := hsus
        refine ⟨(u1.mono w1).tail fun b v h => ?_, u2, fun e he => ?_⟩
        · rcases List.mem_cons.mp h with e | h
          · exact absurd (Prod.mk.inj e).2.symm (hpl0.2 v)
          · rcases List.mem_cons.mp h with e | h
            · exact absurd (Prod.mk.inj e).2.symm ((z3.pln 0).2 v)
            · exact .tail _ h
        · obtain ⟨f, m', k1, k2, k3⟩ := u3 e he
          refine ⟨f, m', k1, k2, ?_⟩
          rcases List.mem_cons.mp k3 with e | h
          · exact e ▸ .head _
          · rcases List.mem_cons.mp h with e | h
            · exact absurd (Prod.mk.inj e).2.symm (hpl0.1 m')
            · rcases List.mem_cons.mp h with e | h
              · exact absurd (Prod.mk.inj e).2.symm ((z3.pln 0).1 m')
              · exact .tail _ (.tail _ h)
      obtain ⟨mC, z6⟩ := rel_exit w5 hsus'
      refine hRR C acc g' s' S' mC P' (z1.trans w1) z6 w3 (q.pln _ _ _ _ _ w3 hpP) hsz (fun e he h => ?_) f
      obtain ⟨f', k1, k2⟩ := hfrl e he
      rw [k1] at h
      cases h
      rw [← hCd] at k2
      exact Nat.lt_irrefl _ k2
  refine comp_startG (gc := ⟨target, iter, ifs, 0⟩) (by rw [hcl]; rfl) rfl (hb.us _ _) (hb.q _ _) (fun _ => hb.q _ _) (hb.ds _ _) loop ?_
  exact z4 (cmOf X scope cl C hk) 0 g2 _ _ _ _ .rfl trivial hrel2 loop
/-- the frozen block's value -/
noncomputable def FinK (c : Cx) (K : KP) (n : Nat) (loc : List (Str × AV)) (Q : AV → AS → Prop) : Prop := ∀ g P S' a o, K n g P S' → P o → g a = some o → (a == sysModules) = false → ∃ b, AVr c.w g b (.ref a) ∧ Q b ⟨loc, S'.mu, S'.gens⟩
theorem ev_blockG {Q : AV → AS → Prop} {e target iter : Expr} {ifs : List Expr} {gs : List Comprehension} {scope : Scope} {pos ipos : Pos} {cl : List (Str × Addr)} {newAcc : Sem Value} {o0 : Obj} {P0' : Obj → Prop} {em : Addr → Env → Sem Unit} (hk : scope.kind = .function)
    (heval : eval e X.env = comprehension e scope X.env pos newAcc false (eval iter X.env)) (hnew : ∀ (Q : Value → Shared → Prop) (s : Shared), Q (.ref s.heap.objs.size) { s with heap := s.heap.push o0 } → wpAny (M c) X.A newAcc Q No s) (hfr : o0.isFreed = false) (hP0 : P0' o0) (hpl0 : Pln P0')
    (hcl : clausesOf e = ⟨target, iter, ifs, 0⟩ :: gs) (hclos : closureFor scope X.env = pure cl) (hcell : ∀ y ∈ scope.names, y.2 ≠ .cell) (hnames : ∀ x ∈ scope.names, x.2 = .local → scope.names.lookup x.1 = some .local)
    (hB : ∀ C, BlkOk c X.A e target ifs ipos em (cmOf X scope cl C hk).env)
    (h : Ev c X S (eval iter X.env) (fun a S1 => ∃ as loc', ∃ K : KP, Src c target a as ∧ BlkQ c X S1 scope hk cl target ifs em P0' as loc' K ∧ FinK c K as.length S1.loc Q))
    (hs : ∀ x, foldedSetIterable iter X.env x = pure x := by intro _; rfl) : Ev c X S (eval e X.env) Q := fun g R s hR => by
  rw [heval]
  refine wpAny_comprehension_free (use := none) hcl hs hclos hk hnames (wpAny_mono (h g R s hR) (fun v s1 hh => ?_) fun _ _ x => x)
  obtain ⟨g1, a, S1, h1, h2, h3, as, loc', K, src, q, fin⟩ := hh
  refine blockG hnew hfr hP0 hpl0 hcl hcell hB src q h2 h3 (RR := fun acc C => compPost (M c) X.A No none (Po c X R (AVr c.w) Q g) acc C) ?_
  intro C acc g' s' S' mC P z1 z2 z3 z4 z5 z6 f
  obtain ⟨o, ho, hp⟩ := z2.tGet
  refine ⟨mC, hp.ns ho, fun h' hs' => ?_⟩
  have w1 := z2.dropNs (h' := h') (t := s'.toks) (fun b o hb e => hs'.extBut b o hb e) ⟨mC, rfl⟩ z6
  obtain ⟨o2, hp2, k1, k2⟩ := w1.tFreeze z4
  obtain ⟨b, hb1, hq⟩ := fin (g'.put acc o2) P S' acc o2 (q.ok.mono k1 z3) hp2 (G.put_self _ _ _) z5
  exact ⟨_, b, _, (h1.trans z1).trans k1, k2, hb1, hq⟩
theorem ex_blockG {Q : Fl → AS → Prop} {e target iter : Expr} {ifs : List Expr} {gs : List Comprehension} {scope : Scope} {pos ipos spos py : Pos} {y : Str} {cl : List (Str × Addr)} {newAcc : Sem Value} {o0 : Obj} {P0' : Obj → Prop} {em : Addr → Env → Sem Unit} (F : Fine X y) (hk : scope.kind = .function)
    (hsw : swapsWith e (some (.Name y py)) spos.line X.env = pure true) (hev : ∀ u, evalThenUse e X.env u = (do let _ ← comprehension e scope X.env pos newAcc false (eval iter X.env) (some u))) (hnew : ∀ (Q : Value → Shared → Prop) (s : Shared), Q (.ref s.heap.objs.size) { s with heap := s.heap.push o0 } → wpAny (M c) X.A newAcc Q No s) (hfr : o0.isFreed = false) (hP0 : P0' o0) (hpl0 : Pln P0')
    (hcl : clausesOf e = ⟨target, iter, ifs, 0⟩ :: gs) (hclos : closureFor scope X.env = pure cl) (hcell : ∀ y ∈ scope.names, y.2 ≠ .cell) (hnames : ∀ x ∈ scope.names, x.2 = .local → scope.names.lookup x.1 = some .local)
    (hB : ∀ C, BlkOk c X.A e target ifs ipos em (cmOf X scope cl C hk).env)
    (h : Ev c X S (eval iter X.env) (fun a S1 => ∃ as loc', ∃ K : KP, Src c target a as ∧ BlkQ c X S1 scope hk cl target ifs em P0' as loc' K ∧ FinK c K as.length S1.loc (fun b S2 => Q .next (S2.set y b))))
    (hs : ∀ x, foldedSetIterable iter X.env x = pure x := by intro _; rfl) : Ex c X S (exec (.Assign [.Name y py] e spos) X.env) Q := fun g R s hR => by
  rw [exec_Assign_Name_used _ _ _ _ hsw, hev]
  refine wpAny_bind (wpAny_standAt (wpAny_bind (wpAny_bind (wpAny_mono (wpAny_comprehension_free (use := some (assign (.Name y py) X.env)) (Q := fun _ s' => ∃ g' b S', G.le g g' ∧ Rel c X R g' s' S' ∧ FlR c.w g' b .next ∧ Q b S') hcl hs hclos hk hnames (wpAny_mono (h g R s hR) (fun v s1 hh => ?_) fun _ _ x => x)) (fun _ s' hq => wpAny_pure (wpAny_pure hq)) fun _ _ x => x))))
  obtain ⟨g1, a, S1, h1, h2, h3, as, loc', K, src, q, fin⟩ := hh
  refine blockG hnew hfr hP0 hpl0 hcl hcell hB src q h2 h3 (RR := fun acc C => compPost (M c) X.A No (some (assign (.Name y py) X.env)) (fun _ s' => ∃ g' b S', G.le g g' ∧ Rel c X R g' s' S' ∧ FlR c.w g' b .next ∧ Q b S') acc C) ?_
  intro C acc g' s' S' mC P z1 z2 z3 z4 z5 z6 f
  obtain ⟨o2, hp2, k1, k2⟩ := (z2.perm (List.Perm.swap _ _ _)).tFreeze z4
  obtain ⟨b, hb1, hq⟩ := fin (g'.put acc o2) P S' acc o2 (q.ok.mono k1 z3) hp2 (G.put_self _ _ _) z5
  show wpAny _ _ (assign (.Name y py) X.env (.ref acc)) _ _ _
  refine wpAny_mono (wp_assignName (a := b) (Q := fun S2 => Q .next S2) F hq k2 hb1) (fun _ s'' hh => ?_) fun _ _ x => x
  obtain ⟨g2, S2, q1, q2, q3⟩ := hh
  obtain ⟨o, ho, hp⟩ := q2.tGet
  refine ⟨mC, hp.ns ho, fun h' hs' => ?_⟩
  exact ⟨g2, .next, S2, ((h1.trans z1).trans k1).trans q1, q2.dropNs (h' := h') (t := s''.toks) (fun b o hb e => hs'.extBut b o hb e) ⟨mC, rfl⟩ z6, rfl, q3⟩
end
section
variable {c : Cx} {X : Fm} {S : AS}
theorem finK_list {J : Nat → List AV → AS → Prop} {n : Nat} {loc : List (Str × AV)} {Q : AV → AS → Prop} (h : ∀ ys S', J n ys S' → ∃ ds, ys = ds.map .dat ∧ Q (.dat (.lst ds)) ⟨loc, S'.mu, S'.gens⟩) : FinK c (KL c J) n loc Q := by
  intro g P S' a o hK hP hg _
  obtain ⟨ys, vs, rfl, hv, _, hJ⟩ := hK
  obtain ⟨k, rfl⟩ := hP
  obtain ⟨ds, rfl, hq⟩ := h ys S' hJ
  exact ⟨.dat (.lst ds), ⟨a, vs, k, rfl, hg, rdL_of hv rfl⟩, hq⟩
theorem finK_gens {J : Nat → List AV → AS → Prop} {n : Nat} {loc : List (Str × AV)} {Q : AV → AS → Prop} (h : ∀ ys S', J n ys S' → ∃ l, ys = l.map .gen ∧ Q (.gens l) ⟨loc, S'.mu, S'.gens⟩) : FinK c (KL c J) n loc Q := by
  intro g P S' a o hK hP hg _
  obtain ⟨ys, vs, rfl, hv, _, hJ⟩ := hK
  obtain ⟨k, rfl⟩ := hP
  obtain ⟨l, rfl, hq⟩ := h ys S' hJ
  exact ⟨.gens l, ⟨a, vs, k, rfl, hg, rdGens_of hv rfl⟩, hq⟩
theorem finK_dict {J : Nat → List (Str × D) → AS → Prop} {n : Nat} {loc : List (Str × AV)} {Q : AV → AS → Prop} (h : ∀ kvs S', J n kvs S' → Q (.dat (.dct kvs)) ⟨loc, S'.mu, S'.gens⟩) : FinK c (KD c J) n loc Q := by
  intro g P S' a o hK hP hg hs
  obtain ⟨kvs, ps, rfl, hv, _, hJ⟩ := hK
  exact ⟨.dat (.dct kvs), ⟨a, o, ps, rfl, hs, hg, hP, hv⟩, h kvs S' hJ⟩
theorem kl_pln {J : Nat → List AV → AS → Prop} : ∀ i g P S (o : Obj), KL c J i g P S → P o → Pln P := fun i g P S o h _ => by obtain ⟨ys, vs, rfl, _⟩ := h; exact accP_pln
theorem kd_pln {J : Nat → List (Str × D) → AS → Prop} : ∀ i g P S (o : Obj), KD c J i g P S → P o → Pln P := fun i g P S o h ho => by obtain ⟨ys, vs, rfl, _⟩ := h; exact dictP_pln ⟨o, ho⟩
theorem LocSub.trans : ∀ {a b d : List (Str × AV)}, LocSub a b → LocSub b d → LocSub a d
  | [], _, _, _, _ => trivial
  | (x, v) :: r, b, d, h, h' => ⟨h'.get h.1, LocSub.trans h.2 h'⟩
theorem Cov.up {loc loc1 : List (Str × AV)} {mu : List (Addr × MO)} {gens : List GA} {S' : AS} (h : Cov ⟨loc1, mu, gens⟩ S') (hl : LocSub loc loc1) : Cov ⟨loc, mu, gens⟩ S' := ⟨hl.trans h.loc, h.mu, h.gens⟩
noncomputable def Turn2 {β : Type} (c : Cx) (Y : Fm) (S : AS) (t1 i2 t2 elt : Expr) (a : AV) (l2 : List β) (e2 : β → AV) (f : β → D) : Prop :=
  Asg c Y S t1 a (fun S2 => Ev c Y S2 (eval i2 Y.env) (fun b S4 => Src c t2 b (l2.map e2) ∧ ∃ loc1, LocSub S.loc loc1 ∧ Cov ⟨loc1, S.mu, S.gens⟩ S4 ∧
    ∀ y, y ∈ l2 → Asg c Y ⟨loc1, S.mu, S.gens⟩ t2 (e2 y) (fun S5 => Ev c Y S5 (eval elt Y.env) (fun r S6 => r = .dat (f y) ∧ Cov ⟨loc1, S.mu, S.gens⟩ S6))))
noncomputable abbrev em2 (elt t1 i1 t2 i2 : Expr) (scope : Scope) (pos : Pos) (acc : Addr) (env : Env) : Sem Unit := do
  let x ← eval i2 env
  standAt i2.pos
  let x ← foldedSetIterable i2 env x
  let _ ← runOwn (.compStart (.ListComp elt [⟨t1, i1, [], 0⟩, ⟨t2, i2, [], 0⟩] scope pos) 1 (← holding [x] (pyIter x)) (.ref acc) env) env
theorem nil_acc : Pln (accP []) := accP_pln
theorem newList_ok {s : Shared} {A : Around} (Q : Value → Shared → Prop) (h : Q (.ref s.heap.objs.size) { s with heap := s.heap.push (seqO "list" [] 0) }) : wpAny (M c) A (newList []) Q No s :=
  wpAny_newObj_type h (by show ([] : List Value).toArray.size ≤ sizeLine; rw [sizeLine_eq]; simp)
theorem blk2 {A : Around} {elt t1 i1 t2 i2 : Expr} {scope : Scope} {pos : Pos} {env : Env} : BlkOk c A (.ListComp elt [⟨t1, i1, [], 0⟩, ⟨t2, i2, [], 0⟩] scope pos) t1 [] i1.pos (em2 elt t1 i1 t2 i2 scope pos) env where
  us := fun _ _ => rfl
  ul := fun _ _ => rfl
  q := fun _ _ => rfl
  ds := fun _ _ => rfl
  dl := fun I acc => by
    have e : compTurn (.ListComp elt [⟨t1, i1, [], 0⟩, ⟨t2, i2, [], 0⟩] scope pos) 0 (.ref I) (.ref acc) env = compTree i1.pos t1 [] (em2 elt t1 i1 t2 i2 scope pos acc env) (again (.compLoop (.ListComp elt [⟨t1, i1, [], 0⟩, ⟨t2, i2, [], 0⟩] scope pos) 0 (.ref I) (.ref acc) env)) (.ref I) env := by
      unfold compTree em2
      simp only [bind_assoc]
      rfl
    show (compTurn _ 0 _ _ env).onRaise _ = _
    rw [e]
theorem take_flat {α β : Type} {l : List α} {f : α → List β} {i : Nat} {x : α} (h : l[i]? = some x) : (l.take (i + 1)).flatMap f = (l.take i).flatMap f ++ f x := by
  rw [List.take_add_one, h, List.flatMap_append]; simp
theorem blkQ2 {α β : Type} {S1 : AS} {elt t1 i1 t2 i2 : Expr} {scope : Scope} {pos : Pos} {hk : scope.kind = .function} {cl : List (Str × Addr)} {loc' : List (Str × AV)} (l1 : List α) (e1 : α → AV) (l2 : α → List β) (e2 : β → AV) (f : α → β → D)
    (hsz : (l1.flatMap fun x => (l2 x).map (f x)).length < 100000) (cap : CapL X.env scope cl S1.loc loc') (hl : LocSub loc' loc') (hs2 : ∀ env x, foldedSetIterable i2 env x = pure x)
    (turn : ∀ C x, x ∈ l1 → Turn2 c (cmOf X scope cl C hk) ⟨loc', S1.mu, S1.gens⟩ t1 i2 t2 elt (e1 x) (l2 x) e2 (f x)) :
    BlkQ c X S1 scope hk cl t1 [] (em2 elt t1 i1 t2 i2 scope pos) (accP []) (l1.map e1) loc' (KL c fun i ys S => ys = ((l1.take i).flatMap fun x => (l2 x).map (f x)).map .dat ∧ Cov ⟨loc', S1.mu, S1.gens⟩ S) where
  ok := kl_ok
  cap := cap
  start := fun g => ⟨[], [], rfl, rfl, Nat.zero_le _, by simp, ⟨hl, rfl, rfl⟩⟩
  pln := kl_pln
  turn := fun C acc i b g P S' hb hK => by
    rw [List.getElem?_map] at hb
    obtain ⟨x, hx, rfl⟩ := Option.map_eq_some_iff.mp hb
    obtain ⟨ys, vs, rfl, hv, hyl, rfl, hcov⟩ := hK
    have hpre : ∀ k, ((l1.take k).flatMap fun x => (l2 x).map (f x)).length < 100000 := fun k => by
      refine Nat.lt_of_le_of_lt ?_ hsz
      have e : l1.flatMap (fun x => (l2 x).map (f x)) = (l1.take k).flatMap (fun x => (l2 x).map (f x)) ++ (l1.drop k).flatMap (fun x => (l2 x).map (f x)) := by
        rw [← List.flatMap_append, List.take_append_drop]
      rw [e, List.length_append]
      exact Nat.le_add_right _ _
    refine (Asg.mono (turn C x (List.mem_of_getElem? hx)) fun S2 h2 => ts_nil ?_).cov hcov
    have hlen2 : ((l1.take i).flatMap fun x => (l2 x).map (f x)).length + (l2 x).length < 100000 := by
      have := hpre (i + 1)
      rw [take_flat hx, List.length_append, List.length_map] at this
      exact this
    refine em_inner (target2 := t2) (iter2 := i2) (ifs2 := []) (ipos2 := i2.pos) (em2 := do let _ ← call (.builtin "list.append") [.ref acc, ← eval elt (cmOf X scope cl C hk).env]) rfl (fun _ => rfl) (fun _ => rfl) (fun _ => rfl) (fun _ => rfl) (fun _ => rfl) (Wp.mono h2 fun a S4 h4 => ?_) (hs2 _)
    obtain ⟨src, loc1, hls, hc4, tu⟩ := h4
    refine ⟨_, KL c fun j ys S => ys = (((l1.take i).flatMap fun x => (l2 x).map (f x)) ++ ((l2 x).take j).map (f x)).map .dat ∧ Cov ⟨loc1, S1.mu, S1.gens⟩ S, src, kl_ok, fun g' hg' => ?_, fun j b g P S' hb hK => ?_, fun g P S' hK => ?_⟩
    · exact ⟨_, vs, rfl, hv.mono hg', hyl, by simp, hc4⟩
    · rw [List.getElem?_map] at hb
      obtain ⟨y, hy, rfl⟩ := Option.map_eq_some_iff.mp hb
      obtain ⟨ys, vs, rfl, hv, hyl, rfl, hcov⟩ := hK
      refine (Asg.mono (tu y (List.mem_of_getElem? hy)) fun S5 h5 => ts_nil ?_).cov hcov
      have hj : j < (l2 x).length := (List.getElem?_eq_some_iff.mp hy).1
      refine em_list (post := fun ys S => ys = (((l1.take i).flatMap fun x => (l2 x).map (f x)) ++ ((l2 x).take (j + 1)).map (f x)).map .dat ∧ Cov ⟨loc1, S1.mu, S1.gens⟩ S) hv (by simp at hlen2 ⊢; omega) (Wp.mono h5 fun r S6 h6 => ?_)
      obtain ⟨rfl, h7⟩ := h6
      refine ⟨?_, h7⟩
      rw [List.take_add_one, hy]
      simp
    · obtain ⟨ys, vs, rfl, hv, hyl, rfl, hcov⟩ := hK
      refine ⟨_, vs, rfl, hv, hyl, ?_, hcov.up hls⟩
      rw [take_flat hx, List.length_map, List.take_length]
theorem ev_comp2 {α β : Type} {Q : AV → AS → Prop} {elt t1 i1 t2 i2 : Expr} {scope : Scope} {pos : Pos} {cl : List (Str × Addr)} (l1 : List α) (e1 : α → AV) (l2 : α → List β) (e2 : β → AV) (f : α → β → D) (hk : scope.kind = .function)
    (hclos : closureFor scope X.env = pure cl) (hcell : ∀ y ∈ scope.names, y.2 ≠ .cell) (hnames : ∀ x ∈ scope.names, x.2 = .local → scope.names.lookup x.1 = some .local)
    (h : Ev c X S (eval i1 X.env) (fun a S1 => Src c t1 a (l1.map e1) ∧ (l1.flatMap fun x => (l2 x).map (f x)).length < 100000 ∧ (∃ loc', CapL X.env scope cl S1.loc loc' ∧ LocSub loc' loc' ∧ ∀ C x, x ∈ l1 → Turn2 c (cmOf X scope cl C hk) ⟨loc', S1.mu, S1.gens⟩ t1 i2 t2 elt (e1 x) (l2 x) e2 (f x)) ∧
      Q (.dat (.lst (l1.flatMap fun x => (l2 x).map (f x)))) S1))
    (hs : ∀ x, foldedSetIterable i1 X.env x = pure x := by intro _; rfl) (hs2 : ∀ env x, foldedSetIterable i2 env x = pure x := by intro _ _; rfl) : Ev c X S (eval (.ListComp elt [⟨t1, i1, [], 0⟩, ⟨t2, i2, [], 0⟩] scope pos) X.env) Q := by
  refine ev_blockG (o0 := seqO "list" [] 0) (P0' := accP []) (em := em2 elt t1 i1 t2 i2 scope pos) (target := t1) (iter := i1) (ifs := []) hk (eval_ListComp _ _ _ _) (fun Q s h => newList_ok Q h) rfl ⟨0, rfl⟩ accP_pln rfl hclos hcell hnames (fun C => blk2) (Wp.mono h fun a S1 hh => ?_) hs
  obtain ⟨src, hsz, ⟨loc', cap, hl, turn⟩, hq⟩ := hh
  refine ⟨_, loc', _, src, blkQ2 l1 e1 l2 e2 f hsz cap hl hs2 turn, finK_list fun ys S' hJ => ⟨_, hJ.1, ?_⟩⟩
  have e1 := hJ.2.mu
  have e2 := hJ.2.gens
  simp only at e1 e2
  rw [List.length_map, List.take_length, e1, e2]
  exact hq
theorem ex_comp2 {α β : Type} {Q : Fl → AS → Prop} {elt t1 i1 t2 i2 : Expr} {scope : Scope} {pos spos py : Pos} {y : Str} {cl : List (Str × Addr)} (l1 : List α) (e1 : α → AV) (l2 : α → List β) (e2 : β → AV) (f : α → β → D) (F : Fine X y) (hk : scope.kind = .function)
    (hclos : closureFor scope X.env = pure cl) (hcell : ∀ y ∈ scope.names, y.2 ≠ .cell) (hnames : ∀ x ∈ scope.names, x.2 = .local → scope.names.lookup x.1 = some .local)
    (hsw : swapsWith (.ListComp elt [⟨t1, i1, [], 0⟩, ⟨t2, i2, [], 0⟩] scope pos) (some (.Name y py)) spos.line X.env = pure true)
    (h : Ev c X S (eval i1 X.env) (fun a S1 => Src c t1 a (l1.map e1) ∧ (l1.flatMap fun x => (l2 x).map (f x)).length < 100000 ∧ (∃ loc', CapL X.env scope cl S1.loc loc' ∧ LocSub loc' loc' ∧ ∀ C x, x ∈ l1 → Turn2 c (cmOf X scope cl C hk) ⟨loc', S1.mu, S1.gens⟩ t1 i2 t2 elt (e1 x) (l2 x) e2 (f x)) ∧
      Q .next (S1.set y (.dat (.lst (l1.flatMap fun x => (l2 x).map (f x)))))))
    (hs : ∀ x, foldedSetIterable i1 X.env x = pure x := by intro _; rfl) (hs2 : ∀ env x, foldedSetIterable i2 env x = pure x := by intro _ _; rfl) : Ex c X S (exec (.Assign [.Name y py] (.ListComp elt [⟨t1, i1, [], 0⟩, ⟨t2, i2, [], 0⟩] scope pos) spos) X.env) Q := by
  refine ex_blockG (o0 := seqO "list" [] 0) (P0' := accP []) (em := em2 elt t1 i1 t2 i2 scope pos) (target := t1) (iter := i1) (ifs := []) F (pos := firstIterPos [⟨t1, i1, [], 0⟩, ⟨t2, i2, [], 0⟩] pos) (newAcc := newList []) hk hsw (fun _ => rfl) (fun Q s h => newList_ok Q h) rfl ⟨0, rfl⟩ accP_pln rfl hclos hcell hnames (fun C => blk2) (Wp.mono h fun a S1 hh => ?_) hs
  obtain ⟨src, hsz, ⟨loc', cap, hl, turn⟩, hq⟩ := hh
  refine ⟨_, loc', _, src, blkQ2 l1 e1 l2 e2 f hsz cap hl hs2 turn, finK_list fun ys S' hJ => ⟨_, hJ.1, ?_⟩⟩
  have e1 := hJ.2.mu
  have e2 := hJ.2.gens
  simp only at e1 e2
  rw [List.length_map, List.take_length, e1, e2]
  exact hq
end
section
variable {c : Cx} {X : Fm} {S : AS}
noncomputable abbrev em1 (elt : Expr) (acc : Addr) (env : Env) : Sem Unit := do let _ ← call (.builtin "list.append") [.ref acc, ← eval elt env]
theorem blk1 {A : Around} {elt target iter : Expr} {ifs : List Expr} {scope : Scope} {pos : Pos} {env : Env} : BlkOk c A (.ListComp elt [⟨target, iter, ifs, 0⟩] scope pos) target ifs iter.pos (em1 elt) env where
  us := fun _ _ => rfl
  ul := fun _ _ => rfl
  q := fun _ _ => rfl
  ds := fun _ _ => rfl
  dl := fun I acc => by
    show (compTurn _ 0 _ _ env).onRaise _ = _
    rw [compTurn_list]
    rfl
/-- what a list of one clause asks -/
structure Cq1 (c : Cx) (X : Fm) (S : AS) (scope : Scope) (hk : scope.kind = .function) (cl : List (Str × Addr)) (elt target : Expr) (ifs : List Expr) (as : List AV) (loc' : List (Str × AV)) (J : Nat → List AV → AS → Prop) : Prop where
  sz : as.length ≤ 100000
  cap : CapL X.env scope cl S.loc loc'
  len : ∀ i ys S', J i ys S' → ys.length ≤ i
  start : J 0 [] ⟨loc', S.mu, S.gens⟩
  turn : ∀ C i a ys S', as[i]? = some a → J i ys S' → Asg c (cmOf X scope cl C hk) S' target a (fun S2 => Ts c (cmOf X scope cl C hk) S2 ifs (fun ok S3 => if ok then Ev c (cmOf X scope cl C hk) S3 (eval elt (cmOf X scope cl C hk).env) (fun y S4 => J (i + 1) (ys ++ [y]) S4) else J (i + 1) ys S3))
theorem Cq1.blk {S1 : AS} {scope : Scope} {hk : scope.kind = .function} {cl : List (Str × Addr)} {elt target : Expr} {ifs : List Expr} {as : List AV} {loc' : List (Str × AV)} {J : Nat → List AV → AS → Prop} (q : Cq1 c X S1 scope hk cl elt target ifs as loc' J) :
    BlkQ c X S1 scope hk cl target ifs (em1 elt) (accP []) as loc' (KL c J) where
  ok := kl_ok
  cap := q.cap
  start := fun g => ⟨[], [], rfl, rfl, Nat.zero_le _, q.start⟩
  pln := kl_pln
  turn := fun C acc i b g P S' hb hK => by
    obtain ⟨ys, vs, rfl, hv, hyl, hJ⟩ := hK
    have hi : i < as.length := (List.getElem?_eq_some_iff.mp hb).1
    refine Asg.mono (q.turn C i b ys S' hb hJ) fun S2 h2 => Wp.mono h2 fun ok S3 h3 => ?_
    cases ok with
    | true => exact em_list (post := J (i + 1)) hv (Nat.lt_of_le_of_lt (q.len _ _ _ hJ) (Nat.lt_of_lt_of_le hi q.sz)) h3
    | false => exact ⟨ys, vs, rfl, hv, hyl, h3⟩
theorem cq1_of {α : Type} {scope : Scope} {hk : scope.kind = .function} {cl : List (Str × Addr)} {elt target : Expr} {ifs : List Expr} {l : List α} {e : α → AV} {loc' : List (Str × AV)} (f : α → Option D) (hsz : l.length ≤ 100000) (cap : CapL X.env scope cl S.loc loc') (hl : LocSub loc' loc')
    (turn : ∀ C x, x ∈ l → Turn c (cmOf X scope cl C hk) ⟨loc', S.mu, S.gens⟩ target ifs elt (e x) (f x)) :
    Cq1 c X S scope hk cl elt target ifs (l.map e) loc' (fun i ys S' => ys = ((l.take i).filterMap f).map .dat ∧ Cov ⟨loc', S.mu, S.gens⟩ S') where
  sz := by simpa using hsz
  cap := cap
  len := fun i ys S' h => by
    rw [h.1, List.length_map]
    exact Nat.le_trans (List.length_filterMap_le _ _) (by simp; omega)
  start := ⟨by simp, ⟨hl, rfl, rfl⟩⟩
  turn := fun C i a ys S' ha hJ => by
    rw [List.getElem?_map] at ha
    obtain ⟨x, hx, rfl⟩ := Option.map_eq_some_iff.mp ha
    refine (Asg.mono (turn C x (List.mem_of_getElem? hx)) fun S2 h2 => Wp.mono h2 fun ok S3 h3 => ?_).cov hJ.2
    cases ok with
    | true =>
      refine Wp.mono h3 fun y S4 h4 => ?_
      obtain ⟨⟨d, e1, rfl⟩, h5⟩ := h4
      exact ⟨by rw [hJ.1, take_succ_filterMap hx, e1]; simp, h5⟩
    | false =>
      obtain ⟨e1, h5⟩ := h3
      exact ⟨by rw [hJ.1, take_succ_filterMap hx, e1]; simp, h5⟩
theorem ev_compM {α : Type} {Q : AV → AS → Prop} {elt target iter : Expr} {ifs : List Expr} {scope : Scope} {pos : Pos} {cl : List (Str × Addr)} (l : List α) (e : α → AV) (f : α → Option D) (hk : scope.kind = .function)
    (hclos : closureFor scope X.env = pure cl) (hcell : ∀ y ∈ scope.names, y.2 ≠ .cell) (hnames : ∀ x ∈ scope.names, x.2 = .local → scope.names.lookup x.1 = some .local)
    (h : Ev c X S (eval iter X.env) (fun a S1 => Src c target a (l.map e) ∧ l.length ≤ 100000 ∧ (∃ loc', CapL X.env scope cl S1.loc loc' ∧ LocSub loc' loc' ∧ ∀ C x, x ∈ l → Turn c (cmOf X scope cl C hk) ⟨loc', S1.mu, S1.gens⟩ target ifs elt (e x) (f x)) ∧ Q (.dat (.lst (l.filterMap f))) S1))
    (hs : ∀ x, foldedSetIterable iter X.env x = pure x := by intro _; rfl) : Ev c X S (eval (.ListComp elt [⟨target, iter, ifs, 0⟩] scope pos) X.env) Q := by
  refine ev_blockG (o0 := seqO "list" [] 0) (P0' := accP []) (em := em1 elt) (target := target) (iter := iter) (ifs := ifs) hk (eval_ListComp _ _ _ _) (fun Q s h => newList_ok Q h) rfl ⟨0, rfl⟩ accP_pln rfl hclos hcell hnames (fun C => blk1) (Wp.mono h fun a S1 hh => ?_) hs
  obtain ⟨src, hsz, ⟨loc', cap, hl, turn⟩, hq⟩ := hh
  refine ⟨_, loc', _, src, (cq1_of f hsz cap hl turn).blk, finK_list fun ys S' hJ => ⟨_, hJ.1, ?_⟩⟩
  have e1 := hJ.2.mu
  have e2 := hJ.2.gens
  simp only at e1 e2
  rw [List.length_map, List.take_length, e1, e2]
  exact hq
theorem ex_compM {α : Type} {Q : Fl → AS → Prop} {elt target iter : Expr} {ifs : List Expr} {scope : Scope} {pos spos py : Pos} {y : Str} {cl : List (Str × Addr)} (l : List α) (e : α → AV) (f : α → Option D) (F : Fine X y) (hk : scope.kind = .function)
    (hclos : closureFor scope X.env = pure cl) (hcell : ∀ y ∈ scope.names, y.2 ≠ .cell) (hnames : ∀ x ∈ scope.names, x.2 = .local → scope.names.lookup x.1 = some .local)
    (hsw : swapsWith (.ListComp elt [⟨target, iter, ifs, 0⟩] scope pos) (some (.Name y py)) spos.line X.env = pure true)
    (h : Ev c X S (eval iter X.env) (fun a S1 => Src c target a (l.map e) ∧ l.length ≤ 100000 ∧ (∃ loc', CapL X.env scope cl S1.loc loc' ∧ LocSub loc' loc' ∧ ∀ C x, x ∈ l → Turn c (cmOf X scope cl C hk) ⟨loc', S1.mu, S1.gens⟩ target ifs elt (e x) (f x)) ∧ Q .next (S1.set y (.dat (.lst (l.filterMap f))))))
    (hs : ∀ x, foldedSetIterable iter X.env x = pure x := by intro _; rfl) : Ex c X S (exec (.Assign [.Name y py] (.ListComp elt [⟨target, iter, ifs, 0⟩] scope pos) spos) X.env) Q := by
  refine ex_blockG (o0 := seqO "list" [] 0) (P0' := accP []) (em := em1 elt) (target := target) (iter := iter) (ifs := ifs) F (pos := firstIterPos [⟨target, iter, ifs, 0⟩] pos) (newAcc := newList []) hk hsw (fun _ => rfl) (fun Q s h => newList_ok Q h) rfl ⟨0, rfl⟩ accP_pln rfl hclos hcell hnames (fun C => blk1) (Wp.mono h fun a S1 hh => ?_) hs
  obtain ⟨src, hsz, ⟨loc', cap, hl, turn⟩, hq⟩ := hh
  refine ⟨_, loc', _, src, (cq1_of f hsz cap hl turn).blk, finK_list fun ys S' hJ => ⟨_, hJ.1, ?_⟩⟩
  have e1 := hJ.2.mu
  have e2 := hJ.2.gens
  simp only at e1 e2
  rw [List.length_map, List.take_length, e1, e2]
  exact hq
/-- rulers gathered -/
theorem ex_comp1G {Q : Fl → AS → Prop} {elt target iter : Expr} {ifs : List Expr} {scope : Scope} {pos spos py : Pos} {y : Str} {cl : List (Str × Addr)} (F : Fine X y) (hk : scope.kind = .function)
    (hclos : closureFor scope X.env = pure cl) (hcell : ∀ y ∈ scope.names, y.2 ≠ .cell) (hnames : ∀ x ∈ scope.names, x.2 = .local → scope.names.lookup x.1 = some .local)
    (hsw : swapsWith (.ListComp elt [⟨target, iter, ifs, 0⟩] scope pos) (some (.Name y py)) spos.line X.env = pure true)
    (h : Ev c X S (eval iter X.env) (fun a S1 => ∃ as loc' J, Src c target a as ∧ Cq1 c X S1 scope hk cl elt target ifs as loc' J ∧ ∀ ys S', J as.length ys S' → ∃ l, ys = l.map .gen ∧ Q .next ⟨(y, .gens l) :: S1.loc, S'.mu, S'.gens⟩))
    (hs : ∀ x, foldedSetIterable iter X.env x = pure x := by intro _; rfl) : Ex c X S (exec (.Assign [.Name y py] (.ListComp elt [⟨target, iter, ifs, 0⟩] scope pos) spos) X.env) Q := by
  refine ex_blockG (o0 := seqO "list" [] 0) (P0' := accP []) (em := em1 elt) (target := target) (iter := iter) (ifs := ifs) F (pos := firstIterPos [⟨target, iter, ifs, 0⟩] pos) (newAcc := newList []) hk hsw (fun _ => rfl) (fun Q s h => newList_ok Q h) rfl ⟨0, rfl⟩ accP_pln rfl hclos hcell hnames (fun C => blk1) (Wp.mono h fun a S1 hh => ?_) hs
  obtain ⟨as, loc', J, src, q, fin⟩ := hh
  exact ⟨_, loc', _, src, q.blk, finK_gens fin⟩
end
noncomputable abbrev csl : Str := Str.ofString "comp_select_list"
theorem Rel.new2 {c : Cx} {X : Fm} {R : Ld} {g : G} {s : Shared} {S : AS} {h' : Heap} {t : Nat} {a b : Addr} {oa ob : Obj} (hR : Rel c X R g s S) (hk : ∀ b o, s.heap.get? b = some o → h'.get? b = some o) (ha : s.heap.objs.size ≤ a) (hb : s.heap.objs.size ≤ b) (hab : a ≠ b)
    (hoa : h'.get? a = some oa) (hob : h'.get? b = some ob) : ∃ g', G.le g g' ∧ Rel c X R g' { s with heap := h', toks := t } S ∧ g' a = some oa ∧ g' b = some ob := by
  have hR1 := hR.keeps (t := t) hk
  have gn : ∀ x, s.heap.objs.size ≤ x → g x = none := fun x hx => by
    cases e : g x with
    | none => rfl
    | some o => exact absurd (Heap.lt_size (hR.fz e)) (Nat.not_lt.mpr hx)
  obtain ⟨m, cs, mo, tb, q⟩ := hR
  have hled : ∀ x, s.heap.objs.size ≤ x → x ∉ (ledger X.env.locals m cs mo S.gens tb R).map Prod.fst := fun x hx hm => by
    obtain ⟨p, hp, e⟩ := List.mem_map.mp hm
    obtain ⟨_, o, ho, _⟩ := q.wd.ok p hp
    rw [e] at ho
    exact absurd (Heap.lt_size ho) (Nat.not_lt.mpr hx)
  have put : ∀ (g0 : G) (x : Addr) (o : Obj), Wd g0 h' (ledger X.env.locals m cs mo S.gens tb R) → h'.get? x = some o → g0 x = none → s.heap.objs.size ≤ x → Wd (g0.put x o) h' (ledger X.env.locals m cs mo S.gens tb R) := fun g0 x o w ho hg hx => by
    refine ⟨fun b o' e => ?_, w.nd, fun p hp => ?_⟩
    · unfold G.put at e
      split at e
      · rename_i z; subst z; cases e; exact ho
      · exact w.fz b o' e
    · obtain ⟨q1, q2⟩ := w.ok p hp
      refine ⟨?_, q2⟩
      unfold G.put
      rw [if_neg]
      · exact q1
      · intro e
        exact hled x hx (List.mem_map.mpr ⟨p, hp, e⟩)
  have w1 := put g a oa (q.wd.keeps hk) hoa (gn a ha) ha
  have hgb : (g.put a oa) b = none := by
    unfold G.put
    rw [if_neg (fun e => hab e.symm)]
    exact gn b hb
  have w2 := put (g.put a oa) b ob w1 hob hgb hb
  have hle := (G.le_put (gn a ha)).trans (G.le_put (o := ob) hgb)
  refine ⟨(g.put a oa).put b ob, hle, ⟨m, cs, mo, tb, ⟨w2, q.loc.mono hle, q.cel, q.mut_.mono hle, q.gen.mono hle, q.tbo.mono hle, q.os, q.g0.trans hle, q.fr⟩⟩, ?_, G.put_self _ _ _⟩
  exact G.le_put hgb _ _ (G.put_self _ _ _)
theorem csl_key (t : Tok) : (Value.str csl t).isStr csl = true := by simp [Value.isStr]
theorem cl_tc {c : Cx} {X : Fm} {S : AS} {Q : AV → AS → Prop} {oc : Value} {od : Option Addr} {fd : FuncData} {osl : Array (Option Value)} {ks : List (Int × Int)} {p1 p2 p3 p4 : Pos} {n : Nat} (hn : X.n = n + 2)
    (ho : (KK c.w.params).lookup 42 = some ⟨oc, od, .func fd, osl⟩) (hcd : codeIn (KK c.w.params) fd.code fd.qualname = true) (hcd' : fd.code ≠ .ref 114)
    (hbody : fd.body = .stmts [.Assign [.Attribute (.Name (Str.ofString "self") p1) csl p2] (.Name csl p3) p4]) (hclo : fd.closure = []) (hbind : ∀ u v, bindArgs fd ⟨[u, v], []⟩ = pure [(Str.ofString "self", u), (csl, v)])
    (hnames : fd.scope.names = [(Str.ofString "self", .local), (csl, .local)])
    (hco : fd.scope.isCoroutine = false) (hgen : fd.scope.isGenerator = false) (hk : fd.scope.kind = .function)
    (h : Q (.cmp ks) S) : Cl c X S (.ref 52) [.dat (ksD ks)] Q := by
  intro g R s vs hR hvs
  obtain ⟨v, r1, rfl, hv, e⟩ := hvs
  have e' : r1 = [] := e
  subst e'
  have okX : OkA (n + 2) X.A := hn ▸ X.ok
  have hkA := hR.kAll
  have hlim := hR.lim
  have hcode := hR.codeRec hcd hcd'
  have hfn := hR.kIn ho (by decide)
  refine wpAny_call ?_
  obtain ⟨hh, gg, dd, tt, os⟩ := s
  refine make_core (C := 52) (init := .ref 42) (makes_of hkA (by rfl)) (looks_findIn hkA (by rfl)) (fun self => bind_fn hkA self (by rfl)) (.inl rfl) ?_
  have hdp : (X.A.under (.builtin "type.__call__" ⟨[.ref 52, v], []⟩)).depth = X.A.depth + 1 := congrArg (X.A.depth + ·) (by kernel_rfl : (Code.builtin "type.__call__" ⟨[.ref 52, v], []⟩).weight = 1)
  have okd : X.A.depth + 1 < recursionLimit := by have := okX.dp; omega
  rw [← hdp] at okd
  generalize X.A.under _ = A1 at okd ⊢
  let x := hh.objs.size + 1
  let dx := hh.objs.size
  let h2 := (hh.push emptyDict).push (instObj 52 dx)
  have hk2 : ∀ b o, hh.get? b = some o → h2.get? b = some o := fun b o e => Heap.get?_push_of_some _ (Heap.get?_push_of_some _ e)
  have hsz2 : h2.objs.size = hh.objs.size + 2 := by show ((hh.push emptyDict).push _).objs.size = _; rw [Heap.size_push, Heap.size_push]
  have hl1 : fd.scope.names.lookup (Str.ofString "self") = some .local := by rw [hnames]; rfl
  have hl2 : fd.scope.names.lookup csl = some .local := by rw [hnames]; rfl
  refine codeAny_call_cells okd (hk2 _ _ hfn) rfl (hlim.keeps hk2) (hcode.keeps hk2) hbody (hbind _ _) hclo (fun y hy => ?_) (fun s₁ hin => ?_) hco hgen hk
  · rcases List.mem_cons.mp hy with e | hy
    · subst e; exact .inl hl1
    · rw [List.mem_singleton] at hy; subst hy; exact .inl hl2
  have hC := hin.toInCall
  obtain ⟨h3, tk, rfl⟩ := hC.same
  have hkeep3 := hC.keep
  generalize henv : callEnvC fd h2.objs.size 42 = env at hC ⊢
  have hkind : env.scope.kind = .function := by rw [← henv]; exact hk
  have hks : env.kindOf (Str.ofString "self") = some .local := by rw [← henv]; exact hl1
  have hkc : env.kindOf csl = some .local := by rw [← henv]; exact hl2
  have hL : env.locals = h2.objs.size := by rw [← henv]; rfl
  have hnd : ([(Str.ofString "self", Value.ref x), (csl, v)].map Prod.fst).Nodup := (by decide +kernel : [Str.ofString "self", csl].Nodup)
  have hm1 : bindL env.kindOf [(Str.ofString "self", .ref x), (csl, v)] (fun _ => none) (Str.ofString "self") = some (.ref x) := bindL_get hnd (.head _) hks
  have hm2 : bindL env.kindOf [(Str.ofString "self", .ref x), (csl, v)] (fun _ => none) csl = some v := bindL_get hnd (.tail _ (.head _)) hkc
  have hns := hC.ns
  have F : Fr hh h2.objs.size h3 (bindL env.kindOf [(Str.ofString "self", .ref x), (csl, v)] fun _ => none) := ⟨hL ▸ hns, fun b o e => hkeep3 b o (hk2 b o e), by rw [hsz2]; omega⟩
  have hx2 : h2.get? x = some (instObj 52 dx) := by
    have := Heap.get?_push_size (hh.push emptyDict) (o := instObj 52 dx) rfl
    rw [Heap.size_push] at this
    exact this
  have hd2 : h2.get? dx = some emptyDict := Heap.get?_push_of_some _ (Heap.get?_push_size hh rfl)
  have N : News hh h2.objs.size h3 ([(x, instObj 52 dx)] ++ (dx, dictOf [] 0) :: []) := by
    intro p hp
    rcases List.mem_cons.mp hp with e | hp
    · subst e
      exact ⟨hkeep3 _ _ hx2, by rw [hsz2]; exact Nat.ne_of_lt (Nat.lt_succ_self _), Heap.get?_none_of_le (Nat.le_succ _)⟩
    · rw [List.mem_singleton.mp hp]
      exact ⟨hkeep3 _ _ hd2, by rw [hsz2]; exact Nat.ne_of_lt (by show dx < dx + 2; omega), Heap.get?_none_of_le (Nat.le_refl _)⟩
  have hK3 : (KK c.w.params).In h3 := fun a o e => hkeep3 _ _ (hk2 _ _ (hkA a o e))
  have I : InstAt h3 x (instObj 52 dx) 52 (some (dictOf [] 0)) := ⟨hkeep3 _ _ hx2, rfl, rfl, hkeep3 _ _ hd2⟩
  refine wpAny_execs_cons (plainObj_wpAny_Assign_Attribute (wpAny_Name (wpAny_loadName_local hkind hkc hns hm2 (wpAny_Name (wpAny_loadName_local hkind hks hns hm1 ?_) (by rfl))) (by rfl)) (by rfl))
  refine set_plain hK3 I (by rfl) (osa_dict (h₀ := hh) (L := h2.objs.size) (es := [_]) (n := 1) F N hK3 I rfl (by rfl) (by rfl) (by rfl) (by rfl) (fun p hp => ?_) (fun p hp => nomatch hp) (putName_dict _ _ _ _ _ _) rfl (by simp) fun h4 F4 N4 => ?_)
  · rw [List.mem_singleton.mp hp]; exact Nat.ne_of_gt (Nat.lt_succ_self _)
  refine wpAny_execs_nil ⟨rfl, ?_⟩
  have nx := (N4 (x, instObj 52 dx) (by simp)).1
  have nd := (N4 _ (List.mem_append_right _ (.head _))).1
  obtain ⟨g', hle, hrel, hgx, hgd⟩ := hR.new2 (t := tk + 1 + 1) (h' := h4) F4.keep (a := x) (b := dx) (Nat.le_succ _) (Nat.le_refl _) (Nat.ne_of_gt (Nat.lt_succ_self _)) nx nd
  exact ⟨g', .cmp ks, S, hle, hrel, ⟨x, dx, _, _, rfl, hgx, hgd, csl_key _, Rd.mono hle _ hv⟩, h⟩
theorem all3 {P : List Value → Prop} (h : ∀ a b d, P [a, b, d]) : ∀ vs, vs.length = 3 → P vs := allN fun a => all2 (P := fun l => P (a :: l)) (h a)
theorem rdCmp_at {c : Cx} {X : Fm} {R : Ld} {g : G} {s : Shared} {S : AS} (hR : Rel c X R g s S) {ks : List (Int × Int)} {v : Value} (hv : AVr c.w g (.cmp ks) v) :
    ∃ (x dx : Addr) (t : Int × Tok) (u : Value) (n : Nat), v = .ref x ∧ InstAt s.heap x (instObj 52 dx) 52 (some (dictOf [⟨t.1, .str csl t.2, u⟩] n)) ∧ Rd c.w g (ksD ks) u := by
  obtain ⟨x, dx, ⟨eh, ek, ev⟩, n, rfl, h1, h2, h3, h4⟩ := hv
  obtain ⟨t, rfl⟩ : ∃ t, ek = .str csl t := by
    cases ek <;> simp [Value.isStr] at h3
    rename_i s t
    exact ⟨t, by rw [h3]⟩
  exact ⟨x, dx, (eh, t), ev, n, rfl, ⟨hR.fz h1, rfl, rfl, hR.fz h2⟩, h4⟩
theorem ev_csl {c : Cx} {X : Fm} {S : AS} {o : Expr} {env : Env} {Q : AV → AS → Prop} {pos : Pos} (h : Ev c X S (eval o env) (fun a S1 => ∃ ks, a = .cmp ks ∧ Q (.dat (ksD ks)) S1))
    (he : eval (.Attribute o csl pos) env = (do
      let o' ← eval o env
      standAt pos.atName
      let r ← holding [o'] (getAttr o' csl true)
      letTemporaryGo o o' r
      pure r) := by with_unfolding_all rfl) : Ev c X S (eval (.Attribute o csl pos) env) Q := fun g R s hR => by
  refine Attribute_any_ (wpAny_mono (h g R s hR) (fun ov s1 hh => ?_) fun _ _ x => x) he
  obtain ⟨g1, a, S1, h1, h2, h3, ks, rfl, hq⟩ := hh
  obtain ⟨x, dx, t, u, n, rfl, I, hu⟩ := rdCmp_at h2 h3
  have hu2 : handedIn u = true := by
    obtain ⟨b, vs, k, rfl, _⟩ := hu; rfl
  refine get_value h2.kAll I (plainGet_of (name := "comp_select_list") (by rfl)).1 (findObj_own (attr := none) (by rfl) (by rfl) (by rfl) ?_) hu2 ⟨g1, .dat (ksD ks), S1, h1, h2.toks, hu, hq⟩
  show lookIn csl (dictOf _ n) = _
  rw [lookIn_dict, getL, List.find?_cons_of_pos]
  exact csl_key t.2
theorem ev_compare {c : Cx} {X : Fm} {S : AS} {o e : Expr} {rest : List Expr} {env : Env} {Q : AV → AS → Prop} {apos pos : Pos} {pl : Sem Bool}
    (h : Ev c X S (eval o env) (fun a S1 => (∃ ks, a = .cmp ks) ∧ Evs c X S1 (spliced (backTo pos (starEach (e :: rest) env))) (fun as S2 => Cl c X S2 (.ref 49) (a :: as) Q)))
    (he : eval (.Call (.Attribute o (Str.ofString "compare") apos) (e :: rest) [] pos) env = (do
      let ov ← eval o env
      standAt apos.atName
      let (f, first) ← holding [ov] (getMethod ov (Str.ofString "compare") pl)
      callWith pos f first (backTo pos (starEach (e :: rest) env)) []) := by rfl)
    (he' : starEach (e :: rest) env = (false, eval e env) :: starEach rest env := by rfl) (hplain : (backTo pos (starEach rest env)).any (·.1) = false := by rfl) :
    Ev c X S (eval (.Call (.Attribute o (Str.ofString "compare") apos) (e :: rest) [] pos) env) Q := fun g R s hR => by
  refine MethodCall_ (pl := pl) (wpAny_mono (h g R s hR) (fun ov s1 hh => ?_) fun _ _ x => x) he
  obtain ⟨g1, a, S1, h1, h2, h3, ⟨ks, rfl⟩, h5⟩ := hh
  obtain ⟨x, dx, t, u, n, rfl, I, hu⟩ := rdCmp_at h2 h3
  have hp := plainGet_of (K := KK c.w.params) (C := 52) (name := "compare") (by rfl)
  refine method_fn (f := 49) h2.kAll I hp.1 hp.2 (by rfl) (by rfl) ?_ ?_
  · unfold shadowIn
    dsimp only
    rw [lookIn_dict, getL, List.find?_cons_of_neg]
    · rfl
    · show ¬ (Value.str csl t.2).isStr _ = true
      show ¬ (csl == Str.ofString "compare") = true
      decide
  · refine callWith_K h2.kAll (by rfl) (wpAny_mono (h5 g1 R s1 h2) (fun vs s2 hh => ?_) fun _ _ x => x) he' hplain
    obtain ⟨g2, as, S2, q1, q2, q3, q4⟩ := hh
    exact ⟨q2.kAll, Po.back (q4 g2 R s2 (_ :: vs) q2 ⟨_, vs, rfl, AVr.mono q1 h3, q3⟩) (h1.trans q1)⟩
noncomputable def colZ (t : Int × Int) (i : Int) : Int := if i = 0 then t.1 else t.2
noncomputable def cmpK : List (Int × Int) → Int × Int → Int × Int → Int
  | [], _, _ => 0
  | p :: ks, l, r => if colZ l p.1 < colZ r p.1 then -p.2 else if colZ l p.1 > colZ r p.1 then p.2 else cmpK ks l r
noncomputable def prD (t : Int × Int) : D := .tup [.int t.1, .int t.2]
theorem col_at {t : Int × Int} {i : Int} (h : i = 0 ∨ i = 1) : 0 ≤ i ∧ i < 2 ^ 63 ∧ [D.int t.1, .int t.2][i.toNat]? = some (.int (colZ t i)) := by
  rcases h with rfl | rfl <;> exact ⟨by decide, by decide, rfl⟩
theorem drop_at {α : Type} {l : List α} {i : Nat} {x : α} (h : l[i]? = some x) : l.drop i = x :: l.drop (i + 1) := by
  obtain ⟨hi, e⟩ := List.getElem?_eq_some_iff.mp h
  rw [List.drop_eq_getElem_cons hi, e]
theorem compare_spec {c : Cx} {X : Fm} {S : AS} {Q : AV → AS → Prop} {ks : List (Int × Int)} {l r : Int × Int} {n : Nat} (hn : X.n = n + 1) (hks : ∀ p ∈ ks, p.1 = 0 ∨ p.1 = 1) (h : Q (.int (cmpK ks l r)) S) : Cl c X S (.ref 49) [.cmp ks, .dat (prD l), .dat (prD r)] Q := by
  refine cl_fn (n := n) (ps := [N "self", N "left", N "right"]) (by with_unfolding_all rfl) (by decide) rfl (by decide) rfl rfl (all3 fun _ _ _ => rfl) rfl (by decide) rfl (by decide) rfl rfl rfl rfl rfl hn ?_
  intro Y L K hY
  refine ex_cons ?_
  refine ex_forJ ks (fun p => .dat (.tup [.int p.1, .int p.2])) (fun i S' => S' = ⟨[(N "self", .cmp ks), (N "left", .dat (prD l)), (N "right", .dat (prD r))], S.mu, S.gens⟩ ∧ cmpK ks l r = cmpK (ks.drop i) l r) ?_ (fun _ _ hc h => Wp.cov hc h)
  refine ev_csl ?_
  walk_at "M"
  refine ⟨ks, rfl, ?_, ⟨_, ⟨rfl, rfl⟩, ⟨⟨rfl, rfl, rfl, trivial⟩, rfl, rfl⟩⟩, ?_, ?_⟩
  · have := fun (es : List Expr) (k : Nat) (p : Pos) => (src_list (c := c) (target := .Tuple es k p) (ds := ks.map fun p => D.tup [.int p.1, .int p.2]) (.tup fun d hd => ?_)).to0
    · simp only [List.map_map] at this; exact this _ _ _
    · obtain ⟨p, _, rfl⟩ := List.mem_map.mp hd; exact ⟨_, rfl⟩
  · rintro i p S' hx ⟨rfl, he⟩
    have hp := hks p (List.mem_of_getElem? hx)
    rw [drop_at hx] at he
    refine asg_tuple2 (by walk_at "F") (by walk_at "F") ?_
    walk_at "M"
    refine sb_tuple (col_at (t := l) hp).1 (col_at (t := l) hp).2.1 (col_at (t := l) hp).2.2 ?_ (by intro _ _; with_unfolding_all rfl)
    walk_at "M"
    refine sb_tuple (col_at (t := r) hp).1 (col_at (t := r) hp).2.1 (col_at (t := r) hp).2.2 ?_ (by intro _ _; with_unfolding_all rfl)
    walk_at "M"
    refine ite_in (fun hb => ?_) (fun hb => ?_)
    · walk_at "M"
      rw [he, cmpK, if_pos (of_decide_eq_true hb)] at h
      exact h
    walk_at "M"
    refine ite_in (fun hb2 => ?_) (fun hb2 => ?_)
    · walk_at "M"
      rw [he, cmpK, if_neg (of_decide_eq_false hb), if_pos (of_decide_eq_true hb2)] at h
      exact h
    walk_at "M"
    refine lk_next ⟨rfl, ?_⟩ ⟨⟨rfl, rfl, rfl, trivial⟩, rfl, rfl⟩
    rw [he, cmpK, if_neg (of_decide_eq_false hb), if_neg (of_decide_eq_false hb2)]
  · rintro S' ⟨rfl, he⟩
    rw [List.drop_length] at he
    walk_at "M"
    rw [he] at h
    exact h
noncomputable def sgn (a b : Str) : Int := b2i (decide (b.cps.toList < a.cps.toList)) - b2i (decide (a.cps.toList < b.cps.toList))
theorem strcoll_spec {c : Cx} {X : Fm} {S : AS} {Q : AV → AS → Prop} {a b : Str} {n : Nat} (hn : X.n = n + 1) (h : Q (.int (sgn a b)) S) : Cl c X S (.ref 21) [.str a, .str b] Q := by
  refine cl_fn (n := n) (ps := [N "a", N "b"]) (by with_unfolding_all rfl) (by decide) rfl (by decide) rfl rfl (all2 fun _ _ => rfl) rfl (by decide) rfl (by decide) rfl rfl rfl rfl rfl hn ?_
  intro Y L K hY
  walk_at "M"
  exact h
theorem sliceApplied_2of3 {c : Cx} {A : Around} {E : Value → Shared → Prop} {s : Shared} {sl : Addr} {u : Tok} {Q : Int × Int × Nat → Shared → Prop} (hs : s.heap.IsSliceOf sl .none (.int 2 u) .none) (h : Q ((0 : Int), 1, 2) s) :
    wpAny (M c) A (Builtin.Slice.sliceApplied (.ref sl) (pure (3 : Int))) Q E s := by
  obtain ⟨os, hos, hcs, hds⟩ := id hs
  unfold Builtin.Slice.sliceApplied Builtin.Slice.sliceFields
  refine wpAny_bind (wpAny_bind (wpAny_field hos hds (x := .none) rfl (wpAny_bind (wpAny_field hos hds (x := .int 2 u) rfl (wpAny_bind (wpAny_field hos hds (x := .none) rfl (wpAny_pure ?_)))))))
  refine wpAny_bind (slicePart_none ?_)
  show wpAny _ _ (if ((1 : Int) == 0) = true then _ else _) _ _ s
  rw [if_neg (by decide)]
  refine wpAny_bind (slicePart_none (wpAny_bind (slicePart_int (wpAny_bind (wpAny_pure ?_)))))
  show wpAny _ _ (match Builtin.Slice.sliceAdjust none (some (2 : Int)) 1 (3 : Int) with | (lo, hi) => pure (lo, (1 : Int), Builtin.Slice.slicePlaces lo hi 1)) _ _ s
  exact wpAny_pure h
theorem getItem_2of3 {c : Cx} {A : Around} {E : Value → Shared → Prop} {s : Shared} {t sl : Addr} {x y z : Value} {u : Tok} {Q : Value → Shared → Prop} (ht : IsTup s.heap t #[x, y, z]) (hs : s.heap.IsSliceOf sl .none (.int 2 u) .none)
    (h : Q (.ref s.heap.objs.size) { s with heap := s.heap.push { cls := .type "tuple", data := .seq #[x, y] } }) : wpAny (M c) A (getItem (.ref t) (.ref sl)) Q E s := by
  have hdrop : sizeOk (.seq #[x, y]) := by
    show 2 ≤ sizeLine
    size_fits
  obtain ⟨os, hos, hcs, hds⟩ := id hs
  have hTs : s.TypeIs (.ref sl) "slice" := ⟨os, hos, hcs⟩
  unfold getItem
  try with_reducible refine wpAny_holding ?_
  first | refine wpAny_bind (wpAny_pure ?_) | skip
  refine wpAny_bind (wpAny_sequenceKey ht.typeIs (by decide) ?_)
  refine wpAny_bind (wpAny_callSpecial?_slot (name := Str.ofString "__getitem__") ht.typeIs slot_tuple_getitem
    (wpAny_call_entry slot_tuple_getitem ht.typeIs entry_tuple_getitem ?_ (args_tuple_getitem _ _)))
  show wpAny _ _ (Builtin.Tuple.tupleItemsOf (.ref t) >>= _) _ _ s
  refine wpAny_bind (tupleItemsOf_ ht ?_)
  refine wpAny_bind (wpAny_typeOf hTs ?_)
  rw [if_pos (by decide)]
  refine wpAny_bind (sliceApplied_2of3 hs ?_)
  have hno : ¬ (((0 : Int) == 0 && (1 : Int) == 1 && (2 == 3)) = true) := by decide
  show wpAny _ _ (if ((0 : Int) == 0 && (1 : Int) == 1 && (2 == 3)) = true then _ else _) _ _ s
  rw [if_neg hno]
  show wpAny _ _ (do let t ← Builtin.Tuple.tupleExact _; _) _ _ _
  first
    | exact wpAny_bind (m := Builtin.Tuple.tupleExact _) (wpAny_newObj_type (wpAny_pure ⟨_, rfl, wpAny_pure h⟩) hdrop)
    | exact wpAny_bind (m := Builtin.Tuple.tupleExact _) (wpAny_newObj_type (wpAny_bind (wpAny_pure (wpAny_pure ⟨_, rfl, wpAny_pure h⟩))) hdrop)
    | exact wpAny_bind (wpAny_bind (m := Builtin.Tuple.tupleExact _) (wpAny_newObj_type (wpAny_pure (wpAny_pure ⟨_, rfl, wpAny_pure h⟩)) hdrop))
    | exact wpAny_bind (wpAny_bind (m := Builtin.Tuple.tupleExact _) (wpAny_newObj_type (wpAny_pure ⟨_, rfl, wpAny_pure h⟩) hdrop))
section
variable {c : Cx} {X : Fm} {S : AS} {Q : AV → AS → Prop}
/-- `t[:2]` of a triple -/
theorem ev_take2 {value hi : Expr} {p pos : Pos} {env : Env} {d1 d2 d3 : D}
    (h : Ev c X S (eval value env) (fun a S1 => a = .dat (.tup [d1, d2, d3]) ∧ Ev c X S1 (eval hi env) (fun b S2 => b = .int 2 ∧ Q (.dat (.tup [d1, d2])) S2)))
    (htg : ∀ o r, letTemporaryGo value o r = pure () := by intro _ _; with_unfolding_all rfl) :
    Ev c X S (eval (.Subscript value (.Slice none (some hi) none p) pos) env) Q := fun g R s hR => by
  refine Subscript_ (wpAny_mono (h g R s hR) (fun v s1 hh => wpAny_Slice ?_) fun _ _ x => x)
  obtain ⟨g1, a, S1, h1, h2, h3, rfl, h4⟩ := hh
  refine wpAny_pure ?_
  refine wpAny_mono (h4 g1 R s1 h2) (fun u s2 hh => ?_) fun _ _ x => x
  obtain ⟨g2, b, S2, q1, q2, q3, rfl, q4⟩ := hh
  obtain ⟨ut, rfl⟩ := q3
  refine wpAny_pure ?_
  have hp := q2.pushF (o := { cls := .type "slice", data := .fields #[.none, .int 2 ut, .none] }) (t := s2.toks) rfl
  obtain ⟨b, vs, n, rfl, hb, hr⟩ := tupAt hp.1 (AVr.mono hp.2 (AVr.mono q1 h3))
  obtain ⟨v1, r1, rfl, w1, v2, r2, rfl, w2, v3, r3, rfl, w3, e⟩ := hr
  have e' : r3 = [] := e
  subst e'
  have hp2 := hp.1.pushF (o := seqO "tuple" [v1, v2] 0) (t := s2.toks) rfl
  have ht : IsTup (s2.heap.push { cls := .type "slice", data := .fields #[.none, .int 2 ut, .none] }) b #[v1, v2, v3] := ⟨_, hb, rfl, n, rfl⟩
  refine subscriptTail_ops (s := { s2 with heap := s2.heap.push { cls := .type "slice", data := .fields #[.none, .int 2 ut, .none] } }) ht.typeIs slot_tuple_getitem.lookup (getItem_2of3 ht (Heap.IsSliceOf.new ..) ?_) (by with_unfolding_all rfl) (htg _)
  exact ⟨_, .dat (.tup [d1, d2]), S2, ((h1.trans q1).trans hp.2).trans hp2.2, hp2.1, ⟨_, _, 0, rfl, G.put_self _ _ _, v1, _, rfl, Rd.mono hp2.2 _ w1, v2, _, rfl, Rd.mono hp2.2 _ w2, rfl⟩, q4⟩
/-- `x[1:-1]` of a text -/
theorem ev_strSlice {value lo hi : Expr} {p pos : Pos} {env : Env}
    (h : Ev c X S (eval value env) (fun a S1 => ∃ x, a = .str x ∧ x.length ≤ 1000 ∧ Ev c X S1 (eval lo env) (fun l S2 => ∃ i, l = .int i ∧ Ev c X S2 (eval hi env) (fun k S3 => ∃ j, k = .int j ∧ Q (.str (Txt.slice x (some i) (some j))) S3))))
    (htg : ∀ o r, letTemporaryGo value o r = pure () := by intro _ _; with_unfolding_all rfl) :
    Ev c X S (eval (.Subscript value (.Slice (some lo) (some hi) none p) pos) env) Q := fun g R s hR => by
  refine Subscript_ (wpAny_mono (h g R s hR) (fun v s1 hh => wpAny_Slice ?_) fun _ _ x => x)
  obtain ⟨g1, a, S1, h1, h2, h3, x, rfl, hl, h4⟩ := hh
  obtain ⟨t, rfl⟩ := h3
  refine wpAny_mono (h4 g1 R s1 h2) (fun u s2 hh => ?_) fun _ _ x => x
  obtain ⟨g2, b, S2, q1, q2, q3, i, rfl, q4⟩ := hh
  obtain ⟨ui, rfl⟩ := q3
  refine wpAny_mono (q4 g2 R s2 q2) (fun u s3 hh => ?_) fun _ _ x => x
  obtain ⟨g3, b, S3, z1, z2, z3, j, rfl, z4⟩ := hh
  obtain ⟨uj, rfl⟩ := z3
  refine wpAny_pure ?_
  have hp := z2.pushF (o := { cls := .type "slice", data := .fields #[.int i ui, .int j uj, .none] }) (t := s3.toks) rfl
  obtain ⟨T, idl, e1, e2, e3⟩ := SBH.sliceItem_ss (prog := P0) (w := c.w) (A := X.A) (E := No) (P := fun h => ∀ b o, s3.heap.get? b = some o → h.get? b = some o) (s := s3) (x := x) (t := t) (i := i) (ui := ui) (j := j) (uj := uj) (Q := Po c X R (AVr c.w) Q g) (fun h o e b ob eb => Heap.get?_push_of_some _ (e b ob eb)) (fun _ _ e => e) (fun h' t' k hk => ⟨g3, .str (Txt.slice x (some i) (some j)), S3, (h1.trans q1).trans z1, z2.keeps hk, ⟨t', rfl⟩, z4⟩) (by rw [sizeLine_eq]; omega)
  exact subscriptTail_ops e2 e1 e3 (by with_unfolding_all rfl) (htg _)
theorem mod_tup {A : Around} {E : Value → Shared → Prop} {s : Shared} {F F' T : Str} {t : Tok} {b : Addr} {its : Array Value} {Q : Value → Shared → Prop} (ht : IsTup s.heap b its) (hX : F = F')
    (hm : Meets (Builtin.«str.__mod__» ⟨[.str F' t, .ref b], []⟩) (fun _ R s => IsTup s.heap b its ∧ ∀ t' k, R (.ok (.ret (.str T t'))) { s with toks := k }))
    (h : ∀ t' k, Q (.str T t') { s with toks := k }) : wpAny (M c) A (binaryOp .Mod (.str F t) (.ref b)) Q E s := by
  subst hX
  have hT : s.TypeIs (.ref b) "tuple" := by
    obtain ⟨o, ho, hc, _⟩ := id ht
    exact ⟨o, ho, hc⟩
  exact KPt.bin_left (T := "str") (U := "tuple") (op := .Mod) (by decide) (typeIs_str s F t) hT PySem.F.fills_str_mod KPt.fills_tuple PySem.F.slot_str_mod
    (call_meets PySem.F.slot_str_mod (typeIs_str s F t) PySem.F.entry_str_mod (PySem.F.args_str_mod_2 _ _) hm ⟨ht, fun t' k => ⟨(fun e => nomatch e), h t' k⟩⟩)
noncomputable def lineT (x y : Str) (n : Int) : Str := x ++ N ":" ++ Str.ofString (toString n) ++ N "(" ++ y ++ N ")"
theorem fmt_meets (x y : Str) (n : Int) (h0 : 0 ≤ n) (h1 : n < 10 ^ 10) (hx : x.length ≤ 1000) (hy : y.length ≤ 1000) (b : Addr) (t t1 t2 t3 : Tok) : Meets (Builtin.«str.__mod__» ⟨[.str (Str.mk #[37, 115, 58, 37, 100, 40, 37, 115, 41]) t, .ref b], []⟩) (fun _ R s => IsTup s.heap b #[.str x t1, .int n t2, .str y t3] ∧ ∀ t' k, R (.ok (.ret (.str (lineT x y n) t'))) { s with toks := k }) := by
  kpt_run
end
section
variable {c : Cx} {X : Fm} {S : AS} {Q : AV → AS → Prop}
theorem me_str {x : Str} : Me c X S (.str x) "str" := fun g R s v hR hv => by
  obtain ⟨t, rfl⟩ := hv
  exact ⟨typeIs_str s x t, fun b e => nomatch e⟩
theorem cl_starts {x y : Str} (h : Q (.bool (Txt.startswith x y)) S) : Cl c X S (.builtin "str.startswith") [.str x, .str y] Q := fun g R s vs hR hv => by
  obtain ⟨v1, r1, rfl, ⟨t, rfl⟩, v2, r2, rfl, ⟨u, rfl⟩, e⟩ := hv
  have e' : r2 = [] := e
  subst e'
  exact SC.startswith ⟨g, .bool _, S, .rfl, hR, rfl, h⟩
theorem cl_ends {x y : Str} (h : Q (.bool (Txt.endswith x y)) S) : Cl c X S (.builtin "str.endswith") [.str x, .str y] Q := fun g R s vs hR hv => by
  obtain ⟨v1, r1, rfl, ⟨t, rfl⟩, v2, r2, rfl, ⟨u, rfl⟩, e⟩ := hv
  have e' : r2 = [] := e
  subst e'
  exact SC.endswith ⟨g, .bool _, S, .rfl, hR, rfl, h⟩
theorem cl_two {x : Str} {i : Int} (h : PyData.strOk x = true) : (pyOf (.tup [.str x, .int i])).canLay0 = true := by
  simp [pyOf, pyOfL, PyData.canLay0, PyData.canLayAll0, h]
noncomputable def braceT (y : Str) : Str := N "{" ++ y ++ N "}"
theorem op_brace {y : Str} (hy : y.length ≤ 1000) (h : Q (.str (braceT y)) S) : Op2 c X S (binaryOp .Mod) (.str (Str.ofString "{%s}")) (.str y) Q := fun g R s v u hR hv hu => by
  obtain ⟨t1, rfl⟩ := hv
  obtain ⟨t2, rfl⟩ := hu
  refine KPc.mod_str (T := braceT) (X' := Str.mk #[123, 37, 115, 125]) (by decide +kernel) (by omega) ?_ (fun t' k => ⟨g, .str _, S, .rfl, hR.toks, ⟨t', rfl⟩, h⟩)
  kpc_run_s
theorem op_line {x y : Str} {n : Int} (h0 : 0 ≤ n) (h1 : n < 10 ^ 10) (hx : x.length ≤ 1000) (hy : y.length ≤ 1000) (h : Q (.str (lineT x y n)) S) : Op2 c X S (binaryOp .Mod) (.str (Str.ofString "%s:%d(%s)")) (.dat (.tup [.str x, .int n, .str y])) Q := fun g R s v u hR hv hu => by
  obtain ⟨t, rfl⟩ := hv
  obtain ⟨b, vs, k, rfl, hb, hr⟩ := tupAt hR hu
  obtain ⟨v1, r1, rfl, ⟨t1, rfl⟩, v2, r2, rfl, ⟨t2, rfl⟩, v3, r3, rfl, ⟨t3, rfl⟩, e⟩ := hr
  have e' : r3 = [] := e
  subst e'
  exact mod_tup ⟨_, hb, rfl, k, rfl⟩ (F' := Str.mk #[37, 115, 58, 37, 100, 40, 37, 115, 41]) (by decide +kernel) (fmt_meets x y n h0 h1 hx hy b t t1 t2 t3) (fun t' k => ⟨g, .str _, S, .rfl, hR.toks, ⟨t', rfl⟩, h⟩)
end
noncomputable def fss (x : Str) (n : Int) (y : Str) : Str :=
  if PyData.eqv (.tuple [.str x, .int n]) (.tuple [.str (N "~"), .int 0]) = true then
    if Txt.startswith y (N "<") = true then if Txt.endswith y (N ">") = true then braceT (Txt.slice y (some 1) (some (-1))) else y else y
  else lineT x y n
theorem fss_spec {c : Cx} {X : Fm} {S : AS} {Q : AV → AS → Prop} {x y : Str} {i : Int} {n : Nat} (hn : X.n = n + 1) (h0 : 0 ≤ i) (h1 : i < 10 ^ 10) (hx : x.length ≤ 1000) (hy : y.length ≤ 1000) (hok : PyData.strOk x = true) (h : Q (.str (fss x i y)) S) : Cl c X S (.ref 63) [.dat (.tup [.str x, .int i, .str y])] Q := by
  refine cl_fn (n := n) (ps := [N "func_name"]) (by with_unfolding_all rfl) (by decide) rfl (by decide) rfl rfl (all1 fun _ => rfl) rfl (by decide) rfl (by decide) rfl rfl rfl rfl rfl hn ?_
  intro Y L K hY
  refine ex_cons (ex_if (tr_cmp ?_ (by with_unfolding_all rfl)))
  refine ev_take2 (d1 := .str x) (d2 := .int i) (d3 := .str y) ?_
  walk_at "M"
  refine ⟨rfl, ?_⟩
  walk_at "M"
  refine ⟨rfl, ?_⟩
  walk_at "M"
  refine ⟨[_, _], rfl, Nat.le_of_ble_eq_true rfl, ?_⟩
  refine op_eqN (.inl rfl) (.inl rfl) (cl_two hok) (cl_two (by decide +kernel)) (by simp [pyOf, pyOfL, PyData.depth, PyData.depthAll]) ?_
  rw [show pyOf (.tup [.str x, .int i]) = .tuple [.str x, .int i] by simp only [pyOf, pyOfL], show pyOf (.tup [.str (Str.ofString "~"), .int 0]) = .tuple [.str (N "~"), .int 0] by simp only [pyOf, pyOfL]]
  walk_at "M"
  unfold fss at h
  refine ite_in (fun hb => ?_) (fun hb => ?_)
  · rw [if_pos hb] at h
    walk_at "M"
    refine sb_tuple (ds := [.str x, .int i, .str y]) (i := 2) (d := .str y) (by decide) (by decide) rfl ?_ (by intro _ _; with_unfolding_all rfl)
    walk_at "M"
    refine tr_val ?_ (by rfl)
    refine ev_meth PySem.F.slot_str_startswith PySem.F.plainAttrs_str PySem.F.type_str_startswith ?_ (by rfl) (by rfl) (by rfl)
    walk_at "M"
    refine ⟨me_str, ?_⟩
    walk_at "M"
    refine cl_starts ?_
    walk_at "M"
    refine ite_in (fun hb1 => ?_) (fun hb1 => ?_)
    · rw [if_pos hb1] at h
      refine tr_val ?_ (by rfl)
      refine ev_meth PySem.F.slot_str_endswith PySem.F.plainAttrs_str PySem.F.type_str_endswith ?_ (by rfl) (by rfl) (by rfl)
      walk_at "M"
      refine ⟨me_str, ?_⟩
      walk_at "M"
      refine cl_ends ?_
      walk_at "M"
      refine ite_in (fun hb2 => ?_) (fun hb2 => ?_)
      · rw [if_pos hb2] at h
        refine ex_cons (ex_ret (ev_bin (ev_str ?_)))
        refine ev_strSlice ?_
        walk_at "M"
        refine ⟨y, rfl, hy, ?_⟩
        walk_at "M"
        refine ⟨1, rfl, ?_⟩
        walk_at "M"
        refine ⟨-1, rfl, ?_⟩
        walk_at "M"
        refine op_brace (Nat.le_trans (Txt.slice_le _ _ _) hy) ?_
        walk_at "M"
        exact h
      · rw [if_neg (by rw [hb2]; decide)] at h
        walk_at "M"
        exact h
    · rw [if_neg (by rw [hb1]; decide)] at h
      refine ite_in (fun hb2 => nomatch hb2) (fun hb2 => ?_)
      walk_at "M"
      exact h
  · rw [if_neg (by rw [hb]; decide)] at h
    walk_at "M"
    refine op_line h0 h1 hx hy ?_
    walk_at "M"
    exact h
theorem fss_all : fss (N "~") 0 (N "<low>") = N "{low}" ∧ fss (N "w") 8 (N "go") = N "w:8(go)" ∧ fss (N "w") 9 (N "go") = N "w:9(go)" ∧ fss (N "w") 10 (N "go") = N "w:10(go)" ∧ fss (N "w") 11 (N "go") = N "w:11(go)" ∧ fss (N "~") 0 (N "high") = N "high" := by decide +kernel
noncomputable def tailOf (m : Int) : List Int := if m = 0 then [] else if m = 1 then [127, 1] else if m = 2 then [1, 0] else [2, 0]
noncomputable def stepOf (m : Int) : Int := if m = 0 then 1 else if m = 1 then -1 else if m = 2 then 2 else -2
noncomputable def rowOf (n : Int) : List Int := if n / 64 % 5 = 0 then 0 :: stepOf (n % 4) :: stepOf (n / 4 % 4) :: tailOf (n / 16 % 4) else stepOf (n % 4) :: stepOf (n / 4 % 4) :: tailOf (n / 16 % 4)
theorem four {m : Int} (h0 : 0 ≤ m) (h4 : m < 4) : m = 0 ∨ m = 1 ∨ m = 2 ∨ m = 3 := by omega
theorem steps_at {m : Int} (h0 : 0 ≤ m) (h4 : m < 4) : [D.int 1, .int (-1), .int 2, .int (-2)][m.toNat]? = some (.int (stepOf m)) := by
  rcases four h0 h4 with rfl | rfl | rfl | rfl <;> rfl
theorem tails_at {m : Int} (h0 : 0 ≤ m) (h4 : m < 4) : [D.lst [], .lst [.int 127, .int 1], .lst [.int 1, .int 0], .lst [.int 2, .int 0]][m.toNat]? = some (intL (tailOf m)) := by
  rcases four h0 h4 with rfl | rfl | rfl | rfl <;> rfl
theorem tailOf_len (m : Int) : (tailOf m).length ≤ 2 := by
  unfold tailOf
  split
  · decide
  · split
    · decide
    · split <;> decide
theorem row_spec {c : Cx} {X : Fm} {S : AS} {Q : AV → AS → Prop} {i : Int} {n : Nat} (hn : X.n = n + 1) (h : Q (.dat (intL (rowOf i))) S) : Cl c X S (.ref 91) [.int i] Q := by
  refine cl_fn (n := n) (ps := [N "number"]) (by with_unfolding_all rfl) (by decide) rfl (by decide) rfl rfl (all1 fun _ => rfl) rfl (by decide) rfl (by decide) rfl rfl rfl rfl rfl hn ?_
  intro Y L K hY
  walk_at "M"
  refine ⟨[_, _, _, _], rfl, Nat.le_of_ble_eq_true rfl, ?_⟩
  walk_at "M"
  refine ⟨[], rfl, Nat.le_of_ble_eq_true rfl, ?_⟩
  walk_at "M"
  refine ⟨[_, _], rfl, Nat.le_of_ble_eq_true rfl, ?_⟩
  walk_at "M"
  refine ⟨[_, _], rfl, Nat.le_of_ble_eq_true rfl, ?_⟩
  walk_at "M"
  refine ⟨[_, _], rfl, Nat.le_of_ble_eq_true rfl, ?_⟩
  walk_at "M"
  refine ⟨[_, _, _, _], rfl, Nat.le_of_ble_eq_true rfl, ?_⟩
  walk_at "M"
  refine sb_list (i := i / 16 % 4) (by omega) (by omega) (tails_at (by omega) (by omega)) ?_ (by intro _ _; with_unfolding_all rfl)
  walk_at "M"
  refine sb_list (i := i % 4) (by omega) (by omega) (steps_at (by omega) (by omega)) ?_ (by intro _ _; with_unfolding_all rfl)
  walk_at "M"
  refine sb_list (i := i / 4 % 4) (by omega) (by omega) (steps_at (by omega) (by omega)) ?_ (by intro _ _; with_unfolding_all rfl)
  walk_at "M"
  refine ⟨[_, _], rfl, Nat.le_of_ble_eq_true rfl, ?_⟩
  walk_at "M"
  refine op_addL (ys := (tailOf (i / 16 % 4)).map .int) ?_ ?_
  · have := tailOf_len (i / 16 % 4)
    rw [List.length_map]
    show 2 + _ ≤ _
    omega
  walk_at "M"
  refine ev_ite ?_
  walk_at "M"
  refine ite_in (fun hb => ?_) (fun hb => ?_)
  · walk_at "M"
    refine ⟨[_], rfl, Nat.le_of_ble_eq_true rfl, ?_⟩
    walk_at "M"
    refine op_addL (xs := [.int 0]) (ys := (stepOf (i % 4) :: stepOf (i / 4 % 4) :: tailOf (i / 16 % 4)).map .int) ?_ ?_
    · have := tailOf_len (i / 16 % 4)
      rw [List.length_map]
      show 1 + (_ + 1 + 1) ≤ _
      omega
    rw [rowOf, if_pos (eq_of_beq hb)] at h
    exact h
  · walk_at "M"
    rw [rowOf, if_neg (ne_of_beq_false hb)] at h
    exact h
theorem range_pick {α : Type} (l : List α) (a : Nat) : ∀ k : Nat, ((List.range k).map (a + ·)).filterMap (l[·]?) = (l.drop a).take k
  | 0 => by simp
  | k + 1 => by
    rw [List.range_succ, List.map_append, List.filterMap_append, range_pick l a k, List.take_add_one, List.getElem?_drop]
    congr 1
theorem sliceRange_one (a : Nat) (b : Int) : sliceRange a b 1 = (List.range (b - a).toNat).map (a + ·) := by
  unfold sliceRange
  have e : (if (1 : Int) > 0 then (if (a : Int) < b then (b - a + 1 - 1) / 1 else 0) else (if (a : Int) > b then (a - b - 1 - 1) / (-1) else 0)).toNat = (b - a).toNat := by
    rw [if_pos (by decide)]
    split
    · rw [Int.ediv_one]; omega
    · omega
  dsimp only
  rw [e]
  refine List.map_congr_left fun k _ => ?_
  omega
theorem pick_take {α : Type} (l : List α) {i : Int} (h : 0 ≤ i) : pickL l none (some i) none = l.take i.toNat := by
  unfold pickL
  have e : sliceBounds none (some i) none l.length = (((0 : Nat) : Int), max 0 (min i l.length), 1) := by
    unfold sliceBounds
    simp only [Option.getD_none, if_pos (show (1 : Int) > 0 by decide), if_neg (show ¬ i < 0 by omega)]
    rfl
  rw [e]
  dsimp only
  rw [sliceRange_one, range_pick, List.drop_zero]
  by_cases hi : i ≤ l.length
  · congr 1; omega
  · rw [List.take_of_length_le (by omega), List.take_of_length_le (by omega)]
theorem pick_last {α : Type} (l : List α) : pickL l (some (-1)) none none = l.drop (l.length - 1) := by
  unfold pickL
  have e : sliceBounds (some (-1)) none none l.length = (((l.length - 1 : Nat) : Int), (l.length : Int), 1) := by
    unfold sliceBounds
    simp only [Option.getD_none, if_pos (show (1 : Int) > 0 by decide), if_pos (show (-1 : Int) < 0 by decide)]
    congr 1
    omega
  rw [e]
  dsimp only
  rw [sliceRange_one, range_pick]
  exact List.take_of_length_le (by rw [List.length_drop]; omega)
noncomputable def isEnd (x : Int) : Bool := [(0 : Int), 127].any (· == x)
noncomputable def endsOf (row : List Int) : List Nat := (List.range row.length).filter fun k => isEnd (row.getD k 0)
noncomputable def toldOf (row : List Int) (e n : Nat) : List Int := if row.getD e 0 = 0 then row.take e ++ (List.replicate n ((row.take e).drop ((row.take e).length - 1))).flatten else row.take e
noncomputable def sizesOf (row : List Int) (n : Nat) : List Int := match endsOf row with
  | [] => row.take n
  | e :: _ => (toldOf row e n).take n
theorem filterMap_if {α β : Type} {p : α → Bool} {f : α → β} : ∀ l : List α, (l.filterMap fun x => if p x = true then some (f x) else none) = (l.filter p).map f
  | [] => rfl
  | x :: l => by
    cases h : p x with
    | true => rw [List.filterMap_cons_some (b := f x) (by rw [h]; rfl), List.filter_cons_of_pos h, List.map_cons, filterMap_if l]
    | false => rw [List.filterMap_cons_none (by rw [h]; rfl), List.filter_cons_of_neg (by rw [h]; decide), filterMap_if l]
theorem int_at {row : List Int} {k : Nat} (h : k < row.length) : (row.map D.int)[((k : Nat) : Int).toNat]? = some (.int (row.getD k 0)) := by
  rw [Int.toNat_natCast, List.getElem?_map, List.getElem?_eq_getElem h, List.getD_eq_getElem?_getD, List.getElem?_eq_getElem h]; rfl
theorem lay_nats : ∀ {l : List Nat}, (pyOf (.lst (l.map fun k => .int (k : Nat)))).canLay0 = true := by
  intro l
  have := canLay_ints (l.map fun k => ((k : Nat) : Int))
  rw [List.map_map] at this
  rw [pyOf]
  exact this
theorem op_eqE {c : Cx} {X : Fm} {S : AS} {Q : AV → AS → Prop} {a : AV} {ds : List D} (ha : Now S a (.lst ds)) (ca : (pyOf (.lst ds)).canLay0 = true) (h : Q (.bool ds.isEmpty) S) : Op2 c X S (compareOp .Eq) a (.dat (.lst [])) Q :=
  op_eqN ha (.inl rfl) ca (by rw [pyOf, pyOfL]; rfl) (by rw [pyOf, pyOfL]; decide) (by rw [pyOf, pyOf, PyData.eqv, eqv_nil]; exact h)
theorem op_neE {c : Cx} {X : Fm} {S : AS} {Q : AV → AS → Prop} {a : AV} {ds : List D} (ha : Now S a (.lst ds)) (ca : (pyOf (.lst ds)).canLay0 = true) (h : Q (.bool (!ds.isEmpty)) S) : Op2 c X S (compareOp .NotEq) a (.dat (.lst [])) Q :=
  op_neN ha (.inl rfl) ca (by rw [pyOf, pyOfL]; rfl) (by rw [pyOf, pyOfL]; decide) (by rw [pyOf, pyOf, PyData.eqv, eqv_nil]; exact h)
theorem flat_map {α β : Type} {f : α → β} (l : List α) (k : Nat) : (List.replicate k l).flatten.map f = (List.replicate k (l.map f)).flatten := by
  rw [List.map_flatten, List.map_replicate]
theorem rep_len {α : Type} (l : List α) (k : Nat) : (List.replicate k l).flatten.length = k * l.length := by
  rw [List.length_flatten, List.map_replicate, List.sum_replicate_nat]
theorem sizes_spec {c : Cx} {X : Fm} {S : AS} {Q : AV → AS → Prop} {row : List Int} {m : Nat} {n : Nat} (hn : X.n = n + 1) (hl : row.length ≤ 100) (hm : m ≤ 100) (h : Q (.dat (intL (sizesOf row m))) S) : Cl c X S (.ref 134) [.dat (intL row), .int (m : Nat)] Q := by
  refine cl_fn (n := n) (ps := [N "row", N "count"]) (by with_unfolding_all rfl) (by decide) rfl (by decide) rfl rfl (all2 fun _ _ => rfl) rfl (by decide) rfl (by decide) rfl rfl rfl rfl rfl hn ?_
  intro Y L K hY
  refine ex_cons ?_
  refine' ex_compM (List.range row.length) (fun k => .int (k : Nat)) (fun k => if isEnd (row.getD k 0) = true then some (.int (k : Nat)) else none) ?F ?hk ?hclos ?hcell ?hnames ?hsw ?hmq81 ?hs
  case F => walk_at "F"
  case hk => rfl
  case hclos => rw [K.env]; with_unfolding_all rfl
  case hcell => decide
  case hnames => decide
  case hsw => rw [K.env]; with_unfolding_all rfl
  case hs => intro _; rfl
  walk_at "M"
  refine cl_len (.inl rfl) (by rw [List.length_map]; omega) ?_
  rw [List.length_map]
  walk_at "M"
  refine cl_range ?_ (by omega)
  rw [Int.toNat_natCast]
  refine ⟨src_range (by omega), by rw [List.length_range]; omega, ⟨[(N "row", .dat (intL row))], ⟨⟨rfl, K.cap ⟨.inl (by with_unfolding_all rfl), (fun h => nomatch (h : some NameKind.cell = some NameKind.local)), _, by with_unfolding_all rfl, by with_unfolding_all rfl⟩⟩, trivial⟩, ⟨rfl, trivial⟩, fun C k hk => ?_⟩, ?_⟩
  · have hk' := List.mem_range.mp hk
    refine asg_name (by walk_at "F") ?_
    refine ts_one ?_
    walk_at "M"
    refine sb_list (ds := row.map .int) (i := (k : Nat)) (by omega) (by omega) (int_at hk') ?_ (by intro _ _; with_unfolding_all rfl)
    walk_at "M"
    refine ⟨[_, _], rfl, Nat.le_of_ble_eq_true rfl, ?_⟩
    refine op_inT (xs := [0, 127]) ?_
    walk_at "M"
    refine ite_in (fun hb => ?_) (fun hb => ?_)
    · walk_at "M"
      exact ⟨⟨_, if_pos hb, rfl⟩, ⟨⟨rfl, trivial⟩, rfl, rfl⟩⟩
    · exact ⟨if_neg (fun e => nomatch e.symm.trans hb), ⟨⟨rfl, trivial⟩, rfl, rfl⟩⟩
  rw [filterMap_if]
  change Seq _ _ _ _ _ _ _
  rw [show ((List.range row.length).filter fun k => isEnd (row.getD k 0)) = endsOf row from rfl]
  walk_at "M"
  refine ⟨[], rfl, Nat.zero_le _, ?_⟩
  refine op_eqE (ds := (endsOf row).map fun k => .int (k : Nat)) (.inl rfl) lay_nats ?_
  walk_at "M"
  unfold sizesOf at h
  have hlow : ∀ e ∈ endsOf row, e < row.length := fun e he => List.mem_range.mp (List.mem_filter.mp he).1
  cases hE : endsOf row with
  | nil =>
    rw [hE] at h
    refine ite_in (fun _ => ?_) (fun hb => nomatch hb)
    walk_at "M"
    refine evp_none (evp_some ?_)
    walk_at "M"
    refine ⟨_, rfl, evp_none ⟨row.map .int, rfl, by rw [List.length_map]; omega, (fun h => nomatch h), ?_⟩⟩
    walk_at "M"
    rw [pick_take _ (Int.natCast_nonneg _), Int.toNat_natCast, ← List.map_take]
    exact h
  | cons e r =>
    rw [hE] at h hlow
    have he := hlow e (.head _)
    refine ite_in (fun hb => nomatch hb) (fun _ => ?_)
    walk_at "M"
    refine evp_none (evp_some ?_)
    walk_at "M"
    refine sb_list (i := 0) (d := .int (e : Nat)) (by decide) (by decide) rfl ?_ (by intro _ _; with_unfolding_all rfl)
    refine ⟨_, rfl, evp_none ⟨row.map .int, rfl, by rw [List.length_map]; omega, (fun h => nomatch h), ?_⟩⟩
    rw [pick_take _ (Int.natCast_nonneg _), Int.toNat_natCast, ← List.map_take]
    walk_at "M"
    refine sb_list (i := 0) (d := .int (e : Nat)) (by decide) (by decide) rfl ?_ (by intro _ _; with_unfolding_all rfl)
    refine sb_list (ds := row.map .int) (i := (e : Nat)) (by omega) (by omega) (int_at he) ?_ (by intro _ _; with_unfolding_all rfl)
    walk_at "M"
    have hto : (row.take e).length ≤ 100 := by rw [List.length_take]; omega
    refine ite_in (fun hb => ?_) (fun hb => ?_)
    · have et : toldOf row e m = row.take e ++ (List.replicate m ((row.take e).drop ((row.take e).length - 1))).flatten := if_pos (eq_of_beq hb)
      walk_at "M"
      refine evp_some ?_
      walk_at "M"
      refine ⟨_, rfl, evp_none (evp_none ⟨(row.take e).map .int, rfl, by rw [List.length_map]; omega, (fun h => nomatch h), ?_⟩)⟩
      rw [pick_last, List.length_map, ← List.map_drop]
      walk_at "M"
      refine op_mulL (by omega) (by omega) (by rw [List.length_map, List.length_drop]; omega) ?_
      rw [Int.toNat_natCast, ← flat_map]
      refine op_addL ?_ ?_
      · rw [List.length_map, List.length_map]
        have := rep_len ((row.take e).drop ((row.take e).length - 1)) m
        rw [List.length_drop] at this
        have : m * ((row.take e).length - ((row.take e).length - 1)) ≤ 100 * 100 := Nat.mul_le_mul hm (by omega)
        omega
      rw [← List.map_append, ← et]
      walk_at "M"
      refine evp_none (evp_some ?_)
      walk_at "M"
      refine ⟨_, rfl, evp_none ⟨(toldOf row e m).map .int, rfl, ?_, (fun h => nomatch h), ?_⟩⟩
      · rw [List.length_map, et, List.length_append]
        have := rep_len ((row.take e).drop ((row.take e).length - 1)) m
        rw [List.length_drop] at this
        have : m * ((row.take e).length - ((row.take e).length - 1)) ≤ 100 * 100 := Nat.mul_le_mul hm (by omega)
        omega
      rw [pick_take _ (Int.natCast_nonneg _), Int.toNat_natCast, ← List.map_take]
      walk_at "M"
      exact h
    · have et : toldOf row e m = row.take e := if_neg (ne_of_beq_false hb)
      walk_at "M"
      refine evp_none (evp_some ?_)
      walk_at "M"
      refine ⟨_, rfl, evp_none ⟨(row.take e).map .int, rfl, by rw [List.length_map]; omega, (fun h => nomatch h), ?_⟩⟩
      rw [pick_take _ (Int.natCast_nonneg _), Int.toNat_natCast, ← List.map_take]
      walk_at "M"
      dsimp only at h
      rw [et] at h
      exact h
noncomputable def natsD (l : List Nat) : D := .lst (l.map fun k => .int (k : Nat))
noncomputable def rowsD (l : List (List Int)) : D := .lst (l.map intL)
noncomputable def goalsOf (rws : List (List Int)) (mv : List Nat) : List Int := (List.range 4).flatMap fun p => (sizesOf (rws.getD p []) (mv.getD p 0)).map fun z => (p : Int) + z
noncomputable def cameOf (rws : List (List Int)) (st mv : List Nat) : List Nat := (List.range 4).map fun p => st.getD p 0 + (goalsOf rws mv).count (p : Int)
noncomputable def moreOf (rws : List (List Int)) (came : List Nat) : List Nat := (List.range 4).map fun p => (sizesOf (rws.getD p []) (came.getD p 0)).length
noncomputable def itM (rws : List (List Int)) (st : List Nat) : Nat → List Nat
  | 0 => [0, 0, 0, 0]
  | k + 1 => moreOf rws (cameOf rws st (itM rws st k))
theorem itM_len (rws : List (List Int)) (st : List Nat) : ∀ k, (itM rws st k).length = 4
  | 0 => rfl
  | k + 1 => by rw [itM, moreOf, List.length_map, List.length_range]
theorem came_len (rws : List (List Int)) (st mv : List Nat) : (cameOf rws st mv).length = 4 := by rw [cameOf, List.length_map, List.length_range]
theorem itM_stay {rws : List (List Int)} {st : List Nat} {K : Nat} (h : itM rws st (K + 1) = itM rws st K) : ∀ j, itM rws st (K + j) = itM rws st K
  | 0 => rfl
  | j + 1 => by rw [← Nat.add_assoc, itM, itM_stay h j, ← itM]; exact h
theorem itM_end {rws : List (List Int)} {st : List Nat} {K i : Nat} (h : itM rws st (K + 1) = itM rws st K) (hi : itM rws st (i + 1) = itM rws st i) (hl : i ≤ K) : itM rws st K = itM rws st i := by
  have := itM_stay hi (K - i)
  rwa [Nat.add_sub_cancel' hl] at this
theorem nats_at {l : List Nat} {k : Nat} (h : k < l.length) : (l.map fun k => D.int (k : Nat))[((k : Nat) : Int).toNat]? = some (.int ((l.getD k 0 : Nat) : Int)) := by
  rw [Int.toNat_natCast, List.getElem?_map, List.getElem?_eq_getElem h, List.getD_eq_getElem?_getD, List.getElem?_eq_getElem h]; rfl
theorem rows_at {l : List (List Int)} {k : Nat} (h : k < l.length) : (l.map intL)[((k : Nat) : Int).toNat]? = some (intL (l.getD k [])) := by
  rw [Int.toNat_natCast, List.getElem?_map, List.getElem?_eq_getElem h, List.getD_eq_getElem?_getD, List.getElem?_eq_getElem h]; rfl
theorem sizes_le (row : List Int) (n : Nat) : (sizesOf row n).length ≤ n := by
  unfold sizesOf
  split <;> (rw [List.length_take]; omega)
theorem goals_map (rws : List (List Int)) (mv : List Nat) : ((List.range 4).flatMap fun p => (sizesOf (rws.getD p []) (mv.getD p 0)).map fun z => D.int ((p : Int) + z)) = (goalsOf rws mv).map .int := by
  rw [goalsOf, List.map_flatMap]
  congr 1
  funext p
  rw [List.map_map]; rfl
theorem nats_ints (l : List Nat) : (l.map fun k => D.int (k : Nat)) = (l.map fun k => ((k : Nat) : Int)).map .int := by rw [List.map_map]; rfl
theorem eqv_nats (xs ys : List Nat) : PyData.eqv (pyOf (natsD xs)) (pyOf (natsD ys)) = decide (xs = ys) := by
  rw [natsD, natsD, pyOf, pyOf, PyData.eqv, nats_ints, nats_ints, eqv_ints]
  have : Function.Injective fun k : Nat => ((k : Nat) : Int) := fun a b h => Int.ofNat.inj h
  exact decide_eq_decide.mpr ((List.map_inj_right fun a b h => this h))
theorem filterMap_some {α β : Type} (f : α → β) (l : List α) : l.filterMap (fun x => some (f x)) = l.map f := congrFun (List.filterMap_eq_map (f := f)) l
theorem depth_ints : ∀ xs : List Int, PyData.depthAll (pyOfL (xs.map .int)) = 0
  | [] => rfl
  | x :: r => by rw [List.map_cons, pyOfL, pyOf, PyData.depthAll, PyData.depth, depth_ints r]; rfl
theorem depth_nats (l : List Nat) : (pyOf (natsD l)).depth ≤ 64 := by
  rw [natsD, pyOf, PyData.depth, nats_ints, depth_ints]; decide
theorem cm_map {cm : List Nat} {f : Nat → Nat} (h : cm = (List.range 4).map f) : (cm.map fun k => D.int (k : Nat)) = (List.range 4).map fun p => D.int ((f p : Nat) : Int) := by rw [h, List.map_map]; rfl
theorem goals_len {rws : List (List Int)} {mv : List Nat} (h : ∀ p, mv.getD p 0 ≤ 100) : (goalsOf rws mv).length ≤ 400 := by
  have h1 : ∀ p, (sizesOf (rws.getD p []) (mv.getD p 0)).length ≤ 100 := fun p => Nat.le_trans (sizes_le _ _) (h p)
  have e : (goalsOf rws mv).length = (sizesOf (rws.getD 0 []) (mv.getD 0 0)).length + ((sizesOf (rws.getD 1 []) (mv.getD 1 0)).length + ((sizesOf (rws.getD 2 []) (mv.getD 2 0)).length + ((sizesOf (rws.getD 3 []) (mv.getD 3 0)).length + 0))) := by
    simp [goalsOf, show List.range 4 = [0, 1, 2, 3] from rfl]
  have a := h1 0
  have b := h1 1
  have d := h1 2
  have f := h1 3
  omega
theorem src_map {c : Cx} {α : Type} {x : Str} {p : Pos} (f : α → D) (l : List α) : Src c (.Name x p) (.dat (.lst (l.map f))) (l.map fun z => .dat (f z)) := by
  have := src_list (c := c) (target := .Name x p) (ds := l.map f) .name
  rw [List.map_map] at this
  exact this
theorem least_spec {c : Cx} {X : Fm} {S : AS} {Q : AV → AS → Prop} {rws : List (List Int)} {st : List Nat} {K n : Nat} (hn : X.n = n + 2) (hr : rws.length = 4) (hr2 : ∀ p, (rws.getD p []).length ≤ 100) (hs : st.length = 4)
    (hK : K < 99) (hfix : itM rws st (K + 1) = itM rws st K) (hB : ∀ k p, (itM rws st k).getD p 0 ≤ 100 ∧ (cameOf rws st (itM rws st k)).getD p 0 ≤ 100)
    (h : Q (.dat (.tup [natsD (itM rws st K), natsD (cameOf rws st (itM rws st K))])) S) : Cl c X S (.ref 139) [.dat (rowsD rws), .dat (natsD st)] Q := by
  refine cl_fn (n := n + 1) (ps := [N "rows", N "starts"]) (by with_unfolding_all rfl) (by decide) rfl (by decide) rfl rfl (all2 fun _ _ => rfl) rfl (by decide) rfl (by decide) rfl rfl rfl rfl rfl hn ?_
  intro Y L K0 hY
  walk_at "M"
  refine ⟨[_, _, _, _], rfl, Nat.le_of_ble_eq_true rfl, ?_⟩
  refine seq_next (ex_cons ?_)
  refine ex_forJ (List.range 99) (fun k => .int (k : Nat)) (fun i S' => ∃ cm, S' = ⟨match i with | 0 => [(N "moves", .dat (natsD (itM rws st 0))), (N "rows", .dat (rowsD rws)), (N "starts", .dat (natsD st))] | i + 1 => [(N "moves", .dat (natsD (itM rws st (i + 1)))), (N "came", .dat (natsD cm)), (N "rows", .dat (rowsD rws)), (N "starts", .dat (natsD st))], S.mu, S.gens⟩ ∧ i ≤ K) ?_ (fun _ _ hc h => Wp.cov hc h)
  walk_at "M"
  refine cl_range ?_ (by decide)
  refine ⟨(src_range (by decide)).to0, ⟨_, ⟨[], rfl, Nat.zero_le _⟩, ⟨⟨rfl, rfl, rfl, trivial⟩, rfl, rfl⟩⟩, ?_, ?_⟩
  · rintro i x S' hx ⟨cm, rfl, hi⟩
    refine asg_name (by walk_at "F") ?_
    refine Wp.locs (loc := [(N "moves", .dat (natsD (itM rws st i))), (N "rows", .dat (rowsD rws)), (N "starts", .dat (natsD st))]) (by cases i <;> exact ⟨rfl, rfl, rfl, trivial⟩) ?_
    show Ex c Y ⟨_, S.mu, S.gens⟩ _ _
    have hB1 := hB i
    have hl1 := itM_len rws st i
    have hl2 := came_len rws st (itM rws st i)
    have he2 : itM rws st (i + 1) = moreOf rws (cameOf rws st (itM rws st i)) := rfl
    have he3 : cameOf rws st (itM rws st i) = (List.range 4).map fun p => st.getD p 0 + (goalsOf rws (itM rws st i)).count (p : Int) := rfl
    have he4 : itM rws st (i + 1) = itM rws st i → itM rws st K = itM rws st i := fun h => itM_end hfix h hi
    have he5 : itM rws st (i + 1) ≠ itM rws st i → i + 1 ≤ K := fun hne => by
      by_cases e : i = K
      · subst e; exact absurd hfix hne
      · omega
    generalize hmv : itM rws st (i + 1) = mv' at he2 he4 he5 ⊢
    generalize itM rws st i = mv at hB1 hl1 hl2 he2 he3 he4 he5 ⊢
    generalize hcm : cameOf rws st mv = cm' at hB1 hl2 he2 he3 ⊢
    have hgl : (goalsOf rws mv).length < 100000 := Nat.lt_of_le_of_lt (goals_len fun p => (hB1 p).1) (by decide)
    refine ex_cons ?_
    refine ex_assign (by walk_at "F") ?_ ?_
    rotate_left
    · rw [K0.env]; with_unfolding_all rfl
    refine' ev_comp2 (List.range 4) (fun k => .int (k : Nat)) (fun p => sizesOf (rws.getD p []) (mv.getD p 0)) (fun z => .int z) (fun p z => .int ((p : Int) + z)) ?hk ?hclos ?hcell ?hnames ?hmq99 ?hs ?hs2
    case hk => rfl
    case hclos => rw [K0.env]; with_unfolding_all rfl
    case hcell => decide
    case hnames => decide
    case hs => intro _; rfl
    case hs2 => intro _ _; rfl
    walk_at "M"
    refine cl_range ?_ (by decide)
    refine ⟨src_range (by decide), ?_, ⟨[(N "moves", .dat (natsD mv)), (N "rows", .dat (rowsD rws))], ⟨⟨rfl, by walk_at "C"⟩, ⟨rfl, by walk_at "C"⟩, trivial⟩, ⟨rfl, rfl, trivial⟩, fun C p hp => ?_⟩, ?_⟩
    · rw [goals_map, List.length_map]
      exact hgl
    · have hp' := List.mem_range.mp hp
      refine asg_name (by walk_at "F") ?_
      walk_at "M"
      refine sb_list (ds := rws.map intL) (i := (p : Nat)) (by omega) (by omega) (rows_at (by omega)) ?_ (by intro _ _; with_unfolding_all rfl)
      walk_at "M"
      refine sb_list (ds := mv.map fun k => .int (k : Nat)) (i := (p : Nat)) (by omega) (by omega) (nats_at (by omega)) ?_ (by intro _ _; with_unfolding_all rfl)
      walk_at "M"
      refine sizes_spec (n := n) hY (hr2 p) (hB1 p).1 ?_
      refine ⟨?_, [(N "place", .int (p : Nat)), (N "moves", .dat (natsD mv)), (N "rows", .dat (rowsD rws))], ⟨rfl, rfl, trivial⟩, ⟨⟨rfl, rfl, rfl, trivial⟩, rfl, rfl⟩, fun z hz => ?_⟩
      · exact src_map .int _
      · refine asg_name (by walk_at "F") ?_
        walk_at "M"
        exact ⟨rfl, ⟨⟨rfl, rfl, rfl, trivial⟩, rfl, rfl⟩⟩
    rw [goals_map]
    walk_at "M"
    refine ex_assign (by walk_at "F") ?_ ?_
    rotate_left
    · rw [K0.env]; with_unfolding_all rfl
    refine' ev_compM (List.range 4) (fun k => .int (k : Nat)) (fun p => some (.int ((st.getD p 0 + (goalsOf rws mv).count (p : Int) : Nat) : Int))) ?hk ?hclos ?hcell ?hnames ?hmainL ?hs
    case hk => rfl
    case hclos => rw [K0.env]; with_unfolding_all rfl
    case hcell => decide
    case hnames => decide
    case hs => intro _; rfl
    walk_at "M"
    refine cl_range ?_ (by decide)
    refine ⟨src_range (by decide), by decide, ⟨[(N "goals", .dat (.lst ((goalsOf rws mv).map .int))), (N "starts", .dat (natsD st))], ⟨⟨rfl, by walk_at "C"⟩, ⟨rfl, by walk_at "C"⟩, trivial⟩, ⟨rfl, rfl, trivial⟩, fun C p hp => ?_⟩, ?_⟩
    · have hp' := List.mem_range.mp hp
      refine asg_name (by walk_at "F") (ts_nil ?_)
      show Ev _ _ _ _ _
      walk_at "M"
      refine sb_list (ds := st.map fun k => .int (k : Nat)) (i := (p : Nat)) (by omega) (by omega) (nats_at (by omega)) ?_ (by intro _ _; with_unfolding_all rfl)
      refine ev_meth PySem.F.slot_list_count PySem.F.plainAttrs_list PySem.F.type_list_count ?_ (by rfl) (by rfl) (by rfl)
      walk_at "M"
      refine ⟨me_lv (.inl rfl), ?_⟩
      walk_at "M"
      refine cl_countI ?_
      walk_at "M"
      exact ⟨⟨_, rfl, by rw [Int.natCast_add]⟩, ⟨⟨rfl, rfl, trivial⟩, rfl, rfl⟩⟩
    rw [filterMap_some, ← cm_map he3]
    walk_at "M"
    refine' ex_compM (List.range 4) (fun k => .int (k : Nat)) (fun p => some (.int (((sizesOf (rws.getD p []) (cm'.getD p 0)).length : Nat) : Int))) ?F ?hk ?hclos ?hcell ?hnames ?hsw ?hmq152 ?hs
    case F => walk_at "F"
    case hk => rfl
    case hclos => rw [K0.env]; with_unfolding_all rfl
    case hcell => decide
    case hnames => decide
    case hsw => rw [K0.env]; with_unfolding_all rfl
    case hs => intro _; rfl
    walk_at "M"
    refine cl_range ?_ (by decide)
    refine ⟨src_range (by decide), by decide, ⟨[(N "came", .dat (natsD cm')), (N "rows", .dat (rowsD rws))], ⟨⟨rfl, by walk_at "C"⟩, ⟨rfl, by walk_at "C"⟩, trivial⟩, ⟨rfl, rfl, trivial⟩, fun C p hp => ?_⟩, ?_⟩
    · have hp' := List.mem_range.mp hp
      refine asg_name (by walk_at "F") (ts_nil ?_)
      show Ev _ _ _ _ _
      walk_at "M"
      refine sb_list (ds := rws.map intL) (i := (p : Nat)) (by omega) (by omega) (rows_at (by omega)) ?_ (by intro _ _; with_unfolding_all rfl)
      walk_at "M"
      refine sb_list (ds := cm'.map fun k => .int (k : Nat)) (i := (p : Nat)) (by omega) (by omega) (nats_at (by omega)) ?_ (by intro _ _; with_unfolding_all rfl)
      walk_at "M"
      refine sizes_spec (n := n) hY (hr2 p) (hB1 p).2 ?_
      walk_at "M"
      have := (hB1 p).2
      refine cl_len (.inl rfl) ?_ ?_
      · rw [List.length_map]
        have := sizes_le (rws.getD p []) (cm'.getD p 0)
        omega
      rw [List.length_map]
      exact ⟨⟨_, rfl, rfl⟩, ⟨⟨rfl, rfl, trivial⟩, rfl, rfl⟩⟩
    rw [filterMap_some, ← cm_map (cm := mv') he2]
    walk_at "M"
    refine op_eqN (d := natsD mv') (e := natsD mv) (.inl rfl) (.inl rfl) lay_nats lay_nats (depth_nats _) ?_
    rw [eqv_nats]
    walk_at "M"
    refine ite_in (fun hb => ?_) (fun hb => ?_)
    · have e := he4 (of_decide_eq_true hb)
      rw [e, hcm] at h
      walk_at "M"
      refine ⟨[_, _], rfl, Nat.le_of_ble_eq_true rfl, ?_⟩
      walk_at "M"
      exact h
    · walk_at "M"
      refine lk_next ⟨cm', rfl, he5 (of_decide_eq_false hb)⟩ ?_
      subst hmv
      exact ⟨⟨rfl, rfl, rfl, rfl, trivial⟩, rfl, rfl⟩
  · rintro S' ⟨cm, rfl, hi⟩
    rw [List.length_range] at hi
    omega
section
variable {c : Cx} {X : Fm} {S : AS}
noncomputable abbrev emD (ke ve : Expr) (acc : Addr) (env : Env) : Sem Unit := do
  let kv ← eval ke env
  let vv ← holding [kv] (eval ve env)
  standAt { ke.pos with endLine := ve.pos.endLine, endCol := ve.pos.endCol }
  holding [kv, vv] (dictSet acc kv vv)
theorem blkD {A : Around} {ke ve t1 i1 : Expr} {scope : Scope} {pos : Pos} {env : Env} : BlkOk c A (.DictComp ke ve [⟨t1, i1, [], 0⟩] scope pos) t1 [] i1.pos (emD ke ve) env where
  us := fun _ _ => rfl
  ul := fun _ _ => rfl
  q := fun _ _ => rfl
  ds := fun _ _ => rfl
  dl := fun I acc => by
    have e : compTurn (.DictComp ke ve [⟨t1, i1, [], 0⟩] scope pos) 0 (.ref I) (.ref acc) env = compTree i1.pos t1 [] (emD ke ve acc env) (again (.compLoop (.DictComp ke ve [⟨t1, i1, [], 0⟩] scope pos) 0 (.ref I) (.ref acc) env)) (.ref I) env := by
      rw [compTurn_dict]
      unfold compTree emD
      simp only [bind_assoc]
      rfl
    show (compTurn _ 0 _ _ env).onRaise _ = _
    rw [e]
theorem newDict_ok {s : Shared} {A : Around} (Q : Value → Shared → Prop) (h : Q (.ref s.heap.objs.size) { s with heap := s.heap.push { cls := .type "dict", data := .dict #[] } }) : wpAny (M c) A newDict Q No s :=
  wpAny_newObj_type h (by first | trivial | size_fits | (unfold sizeOk; size_fits))
theorem empty_isD : ({ cls := .type "dict", data := .dict #[] } : Obj).IsDictOf (PySem.strKind P0 c.w) [] := by
  obtain ⟨o, ho, hd⟩ := Heap.dictOf_iff.mp (Heap.DictOf.new (knd := PySem.strKind P0 c.w) c.h0)
  rw [Heap.get?_push_size _ rfl] at ho
  cases ho
  exact hd
noncomputable def TurnD (c : Cx) (Y : Fm) (S : AS) (t1 ke ve : Expr) (a : AV) (k : Str) (d : D) : Prop :=
  Asg c Y S t1 a (fun S2 => Ev c Y S2 (eval ke Y.env) (fun b S3 => Ev c Y S3 (eval ve Y.env) (fun v S4 => b = .str k ∧ v = .dat d ∧ Cov S S4)))
theorem blkQD {α : Type} {S1 : AS} {ke ve t1 : Expr} {scope : Scope} {hk : scope.kind = .function} {cl : List (Str × Addr)} {loc' : List (Str × AV)} (l1 : List α) (e1 : α → AV) (kf : α → Str) (vf : α → D)
    (hsz : l1.length < 100000) (cap : CapL X.env scope cl S1.loc loc') (hl : LocSub loc' loc')
    (turn : ∀ C x, x ∈ l1 → TurnD c (cmOf X scope cl C hk) ⟨loc', S1.mu, S1.gens⟩ t1 ke ve (e1 x) (kf x) (vf x)) :
    BlkQ c X S1 scope hk cl t1 [] (emD ke ve) (fun o => o.IsDictOf (PySem.strKind P0 c.w) []) (l1.map e1) loc' (KD c fun i kvs S => kvs = ((l1.take i).foldl (fun t x => putK t (kf x) (vf x)) []) ∧ Cov ⟨loc', S1.mu, S1.gens⟩ S) where
  ok := kd_ok
  cap := cap
  start := fun g => ⟨[], [], rfl, by rw [RdK], Nat.zero_le _, by simp, ⟨hl, rfl, rfl⟩⟩
  pln := kd_pln
  turn := fun C acc i b g P S' hb hK => by
    rw [List.getElem?_map] at hb
    obtain ⟨x, hx, rfl⟩ := Option.map_eq_some_iff.mp hb
    obtain ⟨ys, vs, rfl, hv, hyl, rfl, hcov⟩ := hK
    have hi : i < l1.length := (List.getElem?_eq_some_iff.mp hx).1
    have hlen : ∀ k, ((l1.take k).foldl (fun t x => putK t (kf x) (vf x)) []).length ≤ k := fun k => by
      have := fold_length (f := fun t (x : α) => putK t (kf x) (vf x)) (fun _ _ => putK_length) (u := l1.take k) (n := [])
      rw [List.length_take] at this
      have h0 : ([] : List (Str × D)).length = 0 := rfl
      omega
    refine (Asg.mono (turn C x (List.mem_of_getElem? hx)) fun S2 h2 => ts_nil ?_).cov hcov
    refine em_dict (post := fun kvs S => kvs = ((l1.take (i + 1)).foldl (fun t x => putK t (kf x) (vf x)) []) ∧ Cov ⟨loc', S1.mu, S1.gens⟩ S) hv (by have := hlen i; omega) (Wp.mono h2 fun r S6 h6 => Wp.mono h6 fun v S7 h7 => ?_)
    obtain ⟨rfl, rfl, h8⟩ := h7
    refine ⟨_, _, rfl, rfl, ?_, h8⟩
    rw [take_foldl hx]
theorem ex_compD {α : Type} {Q : Fl → AS → Prop} {ke ve t1 i1 : Expr} {scope : Scope} {pos spos py : Pos} {y : Str} {cl : List (Str × Addr)} (l1 : List α) (e1 : α → AV) (kf : α → Str) (vf : α → D) (F : Fine X y) (hk : scope.kind = .function)
    (hclos : closureFor scope X.env = pure cl) (hcell : ∀ y ∈ scope.names, y.2 ≠ .cell) (hnames : ∀ x ∈ scope.names, x.2 = .local → scope.names.lookup x.1 = some .local)
    (hsw : swapsWith (.DictComp ke ve [⟨t1, i1, [], 0⟩] scope pos) (some (.Name y py)) spos.line X.env = pure true)
    (h : Ev c X S (eval i1 X.env) (fun a S1 => Src c t1 a (l1.map e1) ∧ l1.length < 100000 ∧ (∃ loc', CapL X.env scope cl S1.loc loc' ∧ LocSub loc' loc' ∧ ∀ C x, x ∈ l1 → TurnD c (cmOf X scope cl C hk) ⟨loc', S1.mu, S1.gens⟩ t1 ke ve (e1 x) (kf x) (vf x)) ∧
      Q .next (S1.set y (.dat (.dct (l1.foldl (fun t x => putK t (kf x) (vf x)) []))))))
    (hs : ∀ x, foldedSetIterable i1 X.env x = pure x := by intro _; rfl) : Ex c X S (exec (.Assign [.Name y py] (.DictComp ke ve [⟨t1, i1, [], 0⟩] scope pos) spos) X.env) Q := by
  refine ex_blockG (o0 := { cls := .type "dict", data := .dict #[] }) (P0' := fun o => o.IsDictOf (PySem.strKind P0 c.w) []) (em := emD ke ve) (target := t1) (iter := i1) (ifs := []) F (pos := firstIterPos [⟨t1, i1, [], 0⟩] pos) (newAcc := newDict) hk hsw (fun _ => rfl) (fun Q s h => newDict_ok Q h) rfl empty_isD (dictP_pln ⟨_, empty_isD⟩) rfl hclos hcell hnames (fun C => blkD) (Wp.mono h fun a S1 hh => ?_) hs
  obtain ⟨src, hsz, ⟨loc', cap, hl, turn⟩, hq⟩ := hh
  refine ⟨_, loc', _, src, blkQD l1 e1 kf vf hsz cap hl turn, finK_dict fun kvs S' hJ => ?_⟩
  have e1 := hJ.2.mu
  have e2 := hJ.2.gens
  have e3 := hJ.1
  simp only at e1 e2
  rw [List.length_map, List.take_length] at e3
  rw [e1, e2, e3]
  exact hq
end
noncomputable abbrev Call := Int × Int × Int
noncomputable def callsAt (rws : List (List Int)) (mv : List Nat) (p : Nat) : List Call := (sizesOf (rws.getD p []) (mv.getD p 0)).map fun z => (clampI ((p : Int) + z) + 1, (p : Int), z)
noncomputable def callsOf (rws : List (List Int)) (mv : List Nat) : List Call := (List.range 4).flatMap (callsAt rws mv)
noncomputable def callD (k : Call) : D := .tup [.int k.1, .int k.2.1, .int k.2.2]
noncomputable def partOf (calls : List Call) (g : Nat) : List Call := calls.filter fun k => k.1 == (g : Int)
noncomputable def tableOf (part : List Call) : List (Str × Int) := (part.map fun k => nmAt (k.2.1 + 1)).foldl (fun t n => putK t n (((part.map fun k => nmAt (k.2.1 + 1)).count n : Nat) : Int)) []
noncomputable def entOf (part : List Call) : Ent := ⟨(((part.map fun k => k.2.2).filter fun z => decide (z > 0)).length : Nat), (part.length : Nat), (part.map fun k => k.2.2).sum, (part.map fun k => 8 + k.2.1).sum, tableOf part⟩
noncomputable def bookStep (calls : List Call) (b : Book) (g : Nat) : Book := if (partOf calls g).isEmpty = true then b else putK b (nmAt g) (entOf (partOf calls g))
noncomputable def bookTo (calls : List Call) (i : Nat) : Book := ((List.range 6).take i).foldl (bookStep calls) []
noncomputable def bookOf (calls : List Call) : Book := (List.range 6).foldl (bookStep calls) []
theorem call_place {rws : List (List Int)} {mv : List Nat} : ∀ k ∈ callsOf rws mv, 0 ≤ k.2.1 ∧ k.2.1 ≤ 3 := by
  intro k hk
  obtain ⟨p, hp, hk⟩ := List.mem_flatMap.mp hk
  obtain ⟨z, _, rfl⟩ := List.mem_map.mp hk
  have := List.mem_range.mp hp
  exact ⟨by show (0 : Int) ≤ (p : Int); omega, by show (p : Int) ≤ 3; omega⟩
theorem calls_len {rws : List (List Int)} {mv : List Nat} (h : ∀ p, mv.getD p 0 ≤ 100) : (callsOf rws mv).length ≤ 400 := by
  have h1 : ∀ p, (callsAt rws mv p).length ≤ 100 := fun p => by rw [callsAt, List.length_map]; exact Nat.le_trans (sizes_le _ _) (h p)
  have e : (callsOf rws mv).length = (callsAt rws mv 0).length + ((callsAt rws mv 1).length + ((callsAt rws mv 2).length + ((callsAt rws mv 3).length + 0))) := by
    simp [callsOf, show List.range 4 = [0, 1, 2, 3] from rfl]
  have a := h1 0
  have b := h1 1
  have d := h1 2
  have f := h1 3
  omega
theorem callsTo_len {rws : List (List Int)} {mv : List Nat} (h : ∀ p, mv.getD p 0 ≤ 100) (i : Nat) : (((List.range 4).take i).flatMap (callsAt rws mv)).length ≤ 400 := by
  have e : callsOf rws mv = ((List.range 4).take i).flatMap (callsAt rws mv) ++ ((List.range 4).drop i).flatMap (callsAt rws mv) := by
    rw [← List.flatMap_append, List.take_append_drop]; rfl
  have := calls_len (rws := rws) h
  rw [e, List.length_append] at this
  omega
theorem lay_calls : ∀ {l : List Call}, (pyOf (.lst (l.map callD))).canLay0 = true := by
  intro l
  rw [pyOf]
  show PyData.canLayAll0 _ = true
  induction l with
  | nil => rfl
  | cons k l ih =>
    rw [List.map_cons, pyOfL, PyData.canLayAll0, ih, callD, pyOf]
    rfl
theorem table_fold {l m : List Str} : l.foldl (fun t x => putK t x (D.int ((m.count x : Nat) : Int))) [] = tabD (l.foldl (fun t n => putK t n ((m.count n : Nat) : Int)) []) := by
  suffices h : ∀ (l : List Str) (t : List (Str × Int)), l.foldl (fun t x => putK t x (D.int ((m.count x : Nat) : Int))) (tabD t) = tabD (l.foldl (fun t n => putK t n ((m.count n : Nat) : Int)) t) from h l []
  intro l
  induction l with
  | nil => intro t; rfl
  | cons x l ih => intro t; rw [List.foldl_cons, List.foldl_cons, putK_tabD, ih]
theorem step_len {cs : List Call} {n : Book} {g : Nat} : (bookStep cs n g).length ≤ n.length + 1 := by
  unfold bookStep
  split
  · exact Nat.le_succ _
  · exact putK_length
theorem book_spec {c : Cx} {X : Fm} {S : AS} {Q : AV → AS → Prop} {rws : List (List Int)} {mv : List Nat} {n : Nat} (hn : X.n = n + 2) (hr : rws.length = 4) (hr2 : ∀ p, (rws.getD p []).length ≤ 100) (hs : mv.length = 4) (hB : ∀ p, mv.getD p 0 ≤ 100)
    (h : Q (.dat (.dct (bookD (bookOf (callsOf rws mv))))) S) : Cl c X S (.ref 144) [.dat (rowsD rws), .dat namesD, .dat (natsD mv)] Q := by
  refine cl_fn (n := n + 1) (ps := [N "rows", N "names", N "moves"]) (by with_unfolding_all rfl) (by decide) rfl (by decide) rfl rfl (all3 fun _ _ _ => rfl) rfl (by decide) rfl (by decide) rfl rfl rfl rfl rfl hn ?_
  intro Y L K0 hY
  refine ex_cons ?_
  refine ex_assign (by walk_at "F") (ev_listm ?_) rfl
  walk_at "M"
  refine ⟨[], rfl, Nat.zero_le _, fun a => ?_⟩
  refine seq_next (ex_cons ?_)
  refine ex_forJ (List.range 4) (fun k => .int (k : Nat)) (fun i S' => S' = ⟨[(N "calls", .obj a), (N "rows", .dat (rowsD rws)), (N "names", .dat namesD), (N "moves", .dat (natsD mv))], (a, .lst ((((List.range 4).take i).flatMap (callsAt rws mv)).map callD)) :: S.mu, S.gens⟩) ?_ (fun _ _ hc h => Wp.cov hc h)
  walk_at "M"
  refine cl_range ?_ (by decide)
  refine ⟨(src_range (by decide)).to0, ⟨_, rfl, ⟨⟨rfl, rfl, rfl, rfl, trivial⟩, rfl, rfl⟩⟩, ?_, ?_⟩
  · rintro i p S' hx rfl
    have hp' := List.mem_range.mp (List.mem_of_getElem? hx)
    have hto := callsTo_len (rws := rws) hB (i + 1)
    rw [take_flat hx] at hto
    refine asg_name (by walk_at "F") ?_
    refine ex_cons ?_
    refine ex_forJ (sizesOf (rws.getD p []) (mv.getD p 0)) (fun z => .int z) (fun j S' => S' = ⟨[(N "place", .int (p : Nat)), (N "calls", .obj a), (N "rows", .dat (rowsD rws)), (N "names", .dat namesD), (N "moves", .dat (natsD mv))], (a, .lst ((((List.range 4).take i).flatMap (callsAt rws mv) ++ (callsAt rws mv p).take j).map callD)) :: S.mu, S.gens⟩) ?_ (fun _ _ hc h => Wp.cov hc h)
    walk_at "M"
    refine sb_list (ds := rws.map intL) (i := (p : Nat)) (by omega) (by omega) (rows_at (by omega)) ?_ (by intro _ _; with_unfolding_all rfl)
    walk_at "M"
    refine sb_list (ds := mv.map fun k => .int (k : Nat)) (i := (p : Nat)) (by omega) (by omega) (nats_at (by omega)) ?_ (by intro _ _; with_unfolding_all rfl)
    walk_at "M"
    refine sizes_spec (n := n) hY (hr2 p) (hB p) ?_
    refine ⟨(src_map .int _).to0, ⟨_, rfl, ⟨⟨rfl, rfl, rfl, rfl, rfl, trivial⟩, by rw [List.take_zero, List.append_nil]; rfl, rfl⟩⟩, ?_, ?_⟩
    · rintro j z S' hz rfl
      have hj : (callsAt rws mv p)[j]? = some (clampI ((p : Int) + z) + 1, (p : Int), z) := by rw [callsAt, List.getElem?_map, hz]; rfl
      refine asg_name (by walk_at "F") ?_
      walk_at "M"
      refine ev_meth PySem.F.slot_list_append PySem.F.plainAttrs_list PySem.F.type_list_append ?_ (by rfl) (by rfl) (by rfl)
      walk_at "M"
      refine ⟨me_lv (.inr ⟨a, rfl, .head _⟩), ?_⟩
      walk_at "M"
      refine cl_max ?_
      walk_at "M"
      refine cl_min ?_
      walk_at "M"
      refine ⟨[_, _, _], rfl, Nat.le_of_ble_eq_true rfl, ?_⟩
      walk_at "M"
      refine cl_append (pre := []) rfl ?_ ?_
      · rw [List.length_map, List.length_append, List.length_take]
        rw [List.length_append] at hto
        omega
      refine ⟨rfl, ?_⟩
      walk_at "M"
      refine lk_next rfl ⟨⟨rfl, rfl, rfl, rfl, rfl, trivial⟩, ?_, rfl⟩
      rw [List.take_add_one, hj, ← List.append_assoc, List.map_append (l₂ := Option.toList _)]; rfl
    · rintro S' rfl
      rw [show (sizesOf (rws.getD p []) (mv.getD p 0)).length = (callsAt rws mv p).length by rw [callsAt, List.length_map], List.take_length, ← take_flat hx]
      walk_at "M"
      exact lk_next rfl ⟨⟨rfl, rfl, rfl, rfl, trivial⟩, rfl, rfl⟩
  · rintro S' rfl
    refine seq_next ?_
    refine Wp.freeze (pre := []) (loc := [(N "calls", .dat (.lst ((callsOf rws mv).map callD))), (N "names", .dat namesD)]) rfl ⟨.inr ⟨rfl, rfl⟩, .inl rfl, trivial⟩ ?_
    have hcl := calls_len (rws := rws) hB
    have hcp := call_place (rws := rws) (mv := mv)
    generalize hcs : callsOf rws mv = cs at h hcl hcp
    show Ex c Y ⟨_, S.mu, S.gens⟩ _ _
    clear hcs
    refine ex_cons ?_
    refine ex_assign (by walk_at "F") (ev_dict0m fun a => ?_) rfl
    refine seq_next (ex_cons ?_)
    refine ex_forJ (List.range 6) (fun k => .int (k : Nat)) (fun i S' => S' = ⟨[(N "book", .obj a), (N "calls", .dat (.lst (cs.map callD))), (N "names", .dat namesD)], (a, .dct (bookD (bookTo cs i))) :: S.mu, S.gens⟩) ?_ (fun _ _ hc h => Wp.cov hc h)
    walk_at "M"
    refine cl_range ?_ (by decide)
    refine ⟨(src_range (by decide)).to0, ⟨_, rfl, ⟨⟨rfl, rfl, rfl, trivial⟩, rfl, rfl⟩⟩, ?_, ?_⟩
    · rintro i p S' hx rfl
      have hp' := List.mem_range.mp (List.mem_of_getElem? hx)
      have hst : bookTo cs (i + 1) = bookStep cs (bookTo cs i) p := take_foldl hx
      refine asg_name (by walk_at "F") ?_
      refine ex_cons ?_
      refine' ex_compM cs (fun k => .dat (callD k)) (fun k => if (k.1 == (p : Int)) = true then some (callD k) else none) ?F ?hk ?hclos ?hcell ?hnames ?hsw ?hmq135 ?hs
      case F => walk_at "F"
      case hk => rfl
      case hclos => rw [K0.env]; with_unfolding_all rfl
      case hcell => decide
      case hnames => decide
      case hsw => rw [K0.env]; with_unfolding_all rfl
      case hs => intro _; rfl
      walk_at "M"
      refine ⟨src_map callD cs, by omega, ⟨[(N "goal", .int (p : Nat))], ⟨⟨rfl, by walk_at "C"⟩, trivial⟩, ⟨rfl, trivial⟩, fun C k hk => ?_⟩, ?_⟩
      · refine asg_name (by walk_at "F") (ts_one ?_)
        walk_at "M"
        refine sb_tuple (ds := [.int k.1, .int k.2.1, .int k.2.2]) (i := 0) (d := .int k.1) (by decide) (by decide) rfl ?_ (by intro _ _; with_unfolding_all rfl)
        walk_at "M"
        refine ite_in (fun hb => ?_) (fun hb => ?_)
        · walk_at "M"
          exact ⟨⟨_, if_pos hb, rfl⟩, ⟨⟨rfl, trivial⟩, rfl, rfl⟩⟩
        · exact ⟨if_neg (fun e => nomatch e.symm.trans hb), ⟨⟨rfl, trivial⟩, rfl, rfl⟩⟩
      rw [filterMap_if]
      change Seq _ _ _ _ _ _ _
      rw [show (cs.filter fun k => k.1 == (p : Int)) = partOf cs p from rfl]
      have hpl : (partOf cs p).length ≤ 400 := Nat.le_trans (List.length_filter_le _ _) hcl
      have hpp : ∀ k ∈ partOf cs p, 0 ≤ k.2.1 ∧ k.2.1 ≤ 3 := fun k hk => hcp k (List.mem_filter.mp hk).1
      have hst2 : bookTo cs (i + 1) = if (partOf cs p).isEmpty = true then bookTo cs i else putK (bookTo cs i) (nmAt p) (entOf (partOf cs p)) := hst
      generalize partOf cs p = pt at hpl hpp hst2
      walk_at "M"
      refine ex_assign (by walk_at "F") ?_ ?_
      rotate_left
      · rw [K0.env]; with_unfolding_all rfl
      refine' ev_compM pt (fun k => .dat (callD k)) (fun k => some (.str (nmAt (k.2.1 + 1)))) ?hk ?hclos ?hcell ?hnames ?hmainB ?hs
      case hk => rfl
      case hclos => rw [K0.env]; with_unfolding_all rfl
      case hcell => decide
      case hnames => decide
      case hs => intro _; rfl
      walk_at "M"
      refine ⟨src_map callD pt, by omega, ⟨[(N "names", .dat namesD)], ⟨⟨rfl, by walk_at "C"⟩, trivial⟩, ⟨rfl, trivial⟩, fun C k hk => ?_⟩, ?_⟩
      · have hkp := hpp k hk
        refine asg_name (by walk_at "F") (ts_nil ?_)
        show Ev _ _ _ _ _
        walk_at "M"
        refine sb_tuple (ds := [.int k.1, .int k.2.1, .int k.2.2]) (i := 1) (d := .int k.2.1) (by decide) (by decide) rfl ?_ (by intro _ _; with_unfolding_all rfl)
        walk_at "M"
        refine sb_list (ds := NM.map .str) (i := k.2.1 + 1) (by omega) (by omega) (names_at (by omega) (by omega)) ?_ (by intro _ _; with_unfolding_all rfl)
        exact ⟨⟨_, rfl, rfl⟩, ⟨⟨rfl, trivial⟩, rfl, rfl⟩⟩
      rw [filterMap_some]
      rw [show (pt.map fun k => D.str (nmAt (k.2.1 + 1))) = (pt.map fun k => nmAt (k.2.1 + 1)).map D.str from (List.map_map ..).symm]
      walk_at "M"
      refine' ex_compM pt (fun k => .dat (callD k)) (fun k => some (.int k.2.2)) ?F ?hk ?hclos ?hcell ?hnames ?hsw ?hmq183 ?hs
      case F => walk_at "F"
      case hk => rfl
      case hclos => rw [K0.env]; with_unfolding_all rfl
      case hcell => decide
      case hnames => decide
      case hsw => rw [K0.env]; with_unfolding_all rfl
      case hs => intro _; rfl
      walk_at "M"
      refine ⟨src_map callD pt, by omega, ⟨[], trivial, trivial, fun C k hk => ?_⟩, ?_⟩
      · refine asg_name (by walk_at "F") (ts_nil ?_)
        show Ev _ _ _ _ _
        walk_at "M"
        refine sb_tuple (ds := [.int k.1, .int k.2.1, .int k.2.2]) (i := 2) (d := .int k.2.2) (by decide) (by decide) rfl ?_ (by intro _ _; with_unfolding_all rfl)
        exact ⟨⟨_, rfl, rfl⟩, ⟨trivial, rfl, rfl⟩⟩
      rw [filterMap_some]
      rw [show (pt.map fun k => D.int k.2.2) = (pt.map fun k => k.2.2).map D.int from (List.map_map ..).symm]
      walk_at "M"
      refine' ex_compM (pt.map fun k => k.2.2) (fun z => .int z) (fun z => if decide (z > 0) = true then some (.int z) else none) ?F ?hk ?hclos ?hcell ?hnames ?hsw ?hmq201 ?hs
      case F => walk_at "F"
      case hk => rfl
      case hclos => rw [K0.env]; with_unfolding_all rfl
      case hcell => decide
      case hnames => decide
      case hsw => rw [K0.env]; with_unfolding_all rfl
      case hs => intro _; rfl
      walk_at "M"
      refine ⟨src_map .int _, by rw [List.length_map]; omega, ⟨[], trivial, trivial, fun C z hz => ?_⟩, ?_⟩
      · refine asg_name (by walk_at "F") (ts_one ?_)
        walk_at "M"
        refine ite_in (fun hb => ?_) (fun hb => ?_)
        · walk_at "M"
          exact ⟨⟨_, if_pos hb, rfl⟩, ⟨trivial, rfl, rfl⟩⟩
        · exact ⟨if_neg (fun e => nomatch e.symm.trans hb), ⟨trivial, rfl, rfl⟩⟩
      rw [filterMap_if]
      walk_at "M"
      refine ⟨[], rfl, Nat.zero_le _, ?_⟩
      refine op_neE (ds := pt.map callD) (.inl rfl) lay_calls ?_
      walk_at "M"
      rw [List.isEmpty_map]
      refine ite_in (fun hb => ?_) (fun hb => ?_)
      · rw [if_neg (by intro e; rw [e] at hb; cases hb)] at hst2
        walk_at "M"
        refine' ev_compM pt (fun k => .dat (callD k)) (fun k => some (.int (8 + k.2.1))) ?hk ?hclos ?hcell ?hnames ?hmainC ?hs
        case hk => rfl
        case hclos => rw [K0.env]; with_unfolding_all rfl
        case hcell => decide
        case hnames => decide
        case hs => intro _; rfl
        walk_at "M"
        refine ⟨src_map callD pt, by omega, ⟨[], trivial, trivial, fun C k hk => ?_⟩, ?_⟩
        · refine asg_name (by walk_at "F") (ts_nil ?_)
          show Ev _ _ _ _ _
          walk_at "M"
          refine sb_tuple (ds := [.int k.1, .int k.2.1, .int k.2.2]) (i := 1) (d := .int k.2.1) (by decide) (by decide) rfl ?_ (by intro _ _; with_unfolding_all rfl)
          walk_at "M"
          exact ⟨⟨_, rfl, rfl⟩, ⟨trivial, rfl, rfl⟩⟩
        rw [filterMap_some]
        rw [show (pt.map fun k => D.int (8 + k.2.1)) = (pt.map fun k => 8 + k.2.1).map D.int from (List.map_map ..).symm]
        walk_at "M"
        refine cl_sum ?_
        walk_at "M"
        refine' ex_compD (pt.map fun k => nmAt (k.2.1 + 1)) (fun x => .str x) (fun x => x) (fun x => .int (((pt.map fun k => nmAt (k.2.1 + 1)).count x : Nat) : Int)) ?F ?hk ?hclos ?hcell ?hnames ?hsw ?hmq245 ?hs
        case F => walk_at "F"
        case hk => rfl
        case hclos => rw [K0.env]; with_unfolding_all rfl
        case hcell => decide
        case hnames => decide
        case hsw => rw [K0.env]; with_unfolding_all rfl
        case hs => intro _; rfl
        walk_at "M"
        refine ⟨src_map .str _, by rw [List.length_map]; omega, ⟨[(N "callers", .dat (.lst ((pt.map fun k => nmAt (k.2.1 + 1)).map .str)))], ⟨⟨rfl, by walk_at "C"⟩, trivial⟩, ⟨rfl, trivial⟩, fun C x hx => ?_⟩, ?_⟩
        · refine asg_name (by walk_at "F") ?_
          walk_at "M"
          refine ev_meth PySem.F.slot_list_count PySem.F.plainAttrs_list PySem.F.type_list_count ?_ (by rfl) (by rfl) (by rfl)
          walk_at "M"
          refine ⟨me_lv (.inl rfl), ?_⟩
          walk_at "M"
          refine cl_countS ?_
          exact ⟨rfl, rfl, ⟨⟨rfl, trivial⟩, rfl, rfl⟩⟩
        rw [table_fold]
        walk_at "M"
        refine cl_len (.inl rfl) ?_ ?_
        · rw [List.length_map]
          exact Nat.le_trans (List.length_filter_le _ _) (by rw [List.length_map]; omega)
        walk_at "M"
        refine cl_len (.inl rfl) (by rw [List.length_map]; omega) ?_
        walk_at "M"
        refine cl_sum ?_
        walk_at "M"
        rw [List.length_map, List.length_map]
        refine ⟨[_, _, _, _, _], rfl, Nat.le_of_ble_eq_true rfl, ?_⟩
        walk_at "M"
        refine sb_list (ds := NM.map .str) (i := (p : Nat)) (by omega) (by omega) (names_at (by omega) (by omega)) ?_ (by intro _ _; with_unfolding_all rfl)
        refine st_dict (pre := []) rfl ?_ ?_
        · rw [bookD_length]
          exact Nat.le_trans (fold_length fun n g => step_len) (by simp [List.length_take]; omega)
        walk_at "M"
        refine lk_next rfl ⟨⟨rfl, rfl, rfl, trivial⟩, ?_, rfl⟩
        rw [hst2, ← putK_bookD]; rfl
      · rw [if_pos (by cases q : pt.isEmpty with | true => rfl | false => rw [q] at hb; cases hb)] at hst2
        walk_at "M"
        refine lk_next rfl ?_
        rw [hst2]
        exact ⟨⟨rfl, rfl, rfl, trivial⟩, rfl, rfl⟩
    · rintro S' rfl
      refine seq_next ?_
      refine Wp.freeze (pre := []) (loc := [(N "book", .dat (.dct (bookD (bookOf cs))))]) rfl ⟨.inr ⟨rfl, rfl⟩, trivial⟩ ?_
      walk_at "M"
      exact h
noncomputable def hereL (bk : Book) (st : List Nat) : List Int := (List.range 4).map fun p => hereB bk ((st.getD p 0 : Nat) : Int) (p : Int)
theorem getK_mem {α : Type} : ∀ {t : List (Str × α)}, (t.map Prod.fst).Nodup → ∀ {p : Str × α}, p ∈ t → getK t p.1 = some p.2
  | q :: t, nd, p, hp => by
    rw [List.map_cons, List.nodup_cons] at nd
    rw [getK_cons]
    rcases List.mem_cons.mp hp with e | hp
    · subst e; rw [if_pos rfl]
    · rw [if_neg (fun e => nd.1 (List.mem_map.mpr ⟨p, hp, e.symm⟩))]
      exact getK_mem nd.2 hp
noncomputable def wentTo (bk : Book) (i : Nat) : List (Str × Int) := (bk.take i).foldl (fun w p => addC w p.2.cal) []
theorem went_KN {bk : Book} (hb : BkOk bk) : ∀ i, KN (wentTo bk i) := by
  intro i
  have h : ∀ (l : Book) (w : List (Str × Int)), (∀ p ∈ l, p ∈ bk) → KN w → KN (l.foldl (fun w p => addC w p.2.cal) w) := by
    intro l
    induction l with
    | nil => intro w _ hw; exact hw
    | cons p l ih => intro w hl hw; exact ih _ (fun q hq => hl q (.tail _ hq)) (hw.addC (hb.2 p.1 p.2 (getK_mem hb.1.1 (hl p (.head _)))))
  exact h _ _ (fun p hp => List.mem_of_mem_take hp) KN.nil
theorem cl_tget {c : Cx} {X : Fm} {S : AS} {Q : AV → AS → Prop} {t : List (Str × Int)} {k : Str} {j : Int} (h : Q (.int ((getK t k).getD j)) S) : Cl c X S (.builtin "dict.get") [.dat (.dct (tabD t)), .str k, .int j] Q := by
  refine cl_dget (.inl rfl) ?_
  rw [getK_tabD]
  cases hg : getK t k with
  | none => rw [hg] at h; exact h
  | some e => rw [hg] at h; exact h
theorem here_spec {c : Cx} {X : Fm} {S : AS} {Q : AV → AS → Prop} {bk : Book} {b : Addr} {st : List Nat} {pre post : List (Addr × MO)} {n : Nat} (hn : X.n = n + 2) (hb : BkOk bk) (hs : st.length = 4) (hm : S.mu = pre ++ (b, .dct (bookD bk)) :: post)
    (h : Q (.dat (.lst ((hereL bk st).map .int))) S) : Cl c X S (.ref 112) [.obj b, .dat namesD, .dat (natsD st)] Q := by
  refine cl_fn (n := n + 1) (ps := [N "book", N "names", N "starts"]) (by with_unfolding_all rfl) (by decide) rfl (by decide) rfl rfl (all3 fun _ _ _ => rfl) rfl (by decide) rfl (by decide) rfl rfl rfl rfl rfl hn ?_
  intro Y L K0 hY
  have hm2 : (b, MO.dct (bookD bk)) ∈ S.mu := by rw [hm]; simp
  refine ex_cons ?_
  refine ex_assign (by walk_at "F") (ev_dict0 ?_) rfl
  refine seq_next (ex_cons ?_)
  refine ex_forH bk (fun p => .dat (entD p.2)) (fun i S' => S' = ⟨[(N "went", .dat (.dct (tabD (wentTo bk i)))), (N "book", .obj b), (N "names", .dat namesD), (N "starts", .dat (natsD st))], pre ++ post, S.gens⟩) ?_ (fun _ _ hc h => Wp.cov hc h)
  refine ev_meth0 PySem.F.slot_dict_values PySem.F.plainAttrs_dict PySem.F.type_dict_values ?_ (by rfl)
  walk_at "M"
  refine ⟨me_dv (.inr ⟨b, rfl, hm2⟩), cl_mvalues hm2 ?_⟩
  refine ⟨b, _, pre, post, ?_, hm, ⟨_, rfl, ⟨⟨rfl, rfl, rfl, rfl, trivial⟩, rfl, rfl⟩⟩, ?_, ?_⟩
  · have := fun (x : Str) (p : Pos) => srcH_vals (c := c) (kvs := bookD bk) (x := x) (p := p) (b := b)
    rw [show ((bookD bk).map fun q => AV.dat q.2) = bk.map fun p => .dat (entD p.2) from List.map_map ..] at this
    exact this _ _
  · rintro i p S' hx rfl
    have hw := (went_KN hb i).le
    have hpc := (hb.2 p.1 p.2 (getK_mem hb.1.1 (List.mem_of_getElem? hx))).le
    refine asg_name (by walk_at "F") ?_
    walk_at "M"
    refine sb_tuple (ds := [.int p.2.cc, .int p.2.nc, .int p.2.tt, .int p.2.ct, .dct (tabD p.2.cal)]) (i := 4) (d := .dct (tabD p.2.cal)) (by decide) (by decide) rfl ?_ (by intro _ _; with_unfolding_all rfl)
    walk_at "M"
    refine add_callers_spec (n := n) (t := wentTo bk i) (u := p.2.cal) hY (by omega) ?_
    walk_at "M"
    refine lk_next rfl ⟨⟨?_, rfl, rfl, rfl, trivial⟩, rfl, rfl⟩
    rw [show wentTo bk (i + 1) = addC (wentTo bk i) p.2.cal from take_foldl hx]; rfl
  · rintro S' rfl
    refine ⟨rfl, ?_⟩
    refine seq_next ?_
    rw [show wentTo bk bk.length = wentB bk by rw [wentTo, List.take_length]; rfl]
    show Ex c Y ⟨_, _, S.gens⟩ _ _
    rw [← hm]
    refine ex_cons ?_
    refine ex_assign (by walk_at "F") (ev_listm ?_) rfl
    walk_at "M"
    refine ⟨[], rfl, Nat.zero_le _, fun a => ?_⟩
    refine seq_next (ex_cons ?_)
    refine ex_forJ (List.range 4) (fun k => .int (k : Nat)) (fun i S' => S' = ⟨[(N "here", .obj a), (N "went", .dat (.dct (tabD (wentB bk)))), (N "book", .obj b), (N "names", .dat namesD), (N "starts", .dat (natsD st))], (a, .lst ((((List.range 4).take i).map fun p => hereB bk ((st.getD p 0 : Nat) : Int) (p : Int)).map .int)) :: S.mu, S.gens⟩) ?_ (fun _ _ hc h => Wp.cov hc h)
    walk_at "M"
    refine cl_range ?_ (by decide)
    refine ⟨(src_range (by decide)).to0, ⟨_, rfl, ⟨⟨rfl, rfl, rfl, rfl, rfl, trivial⟩, rfl, rfl⟩⟩, ?_, ?_⟩
    · rintro i p S' hx rfl
      have hp' := List.mem_range.mp (List.mem_of_getElem? hx)
      refine asg_name (by walk_at "F") ?_
      walk_at "M"
      refine ev_meth PySem.F.slot_dict_get PySem.F.plainAttrs_dict PySem.F.type_dict_get ?_ (by rfl) (by rfl) (by rfl)
      walk_at "M"
      refine ⟨me_dv (kvs := bookD bk) (.inr ⟨b, rfl, .tail _ hm2⟩), ?_⟩
      walk_at "M"
      refine sb_list (ds := NM.map .str) (i := (p : Nat) + 1) (by omega) (by omega) (names_at (by omega) (by omega)) ?_ (by intro _ _; with_unfolding_all rfl)
      walk_at "M"
      refine ev_dict0 ?_
      walk_at "M"
      refine ⟨[_, _, _, _, _], rfl, Nat.le_of_ble_eq_true rfl, ?_⟩
      walk_at "M"
      refine cl_bget (b := bk) (.inr ⟨b, rfl, .tail _ hm2⟩) ?_
      walk_at "M"
      generalize hE : getE bk (nmAt ((p : Int) + 1)) = E
      refine sb_tuple (ds := [.int E.cc, .int E.nc, .int E.tt, .int E.ct, .dct (tabD E.cal)]) (i := 4) (d := .dct (tabD E.cal)) (by decide) (by decide) rfl ?_ (by intro _ _; with_unfolding_all rfl)
      walk_at "M"
      refine ev_meth PySem.F.slot_list_append PySem.F.plainAttrs_list PySem.F.type_list_append ?_ (by rfl) (by rfl) (by rfl)
      walk_at "M"
      refine ⟨me_lv (.inr ⟨a, rfl, .head _⟩), ?_⟩
      walk_at "M"
      refine sb_list (ds := st.map fun k => .int (k : Nat)) (i := (p : Nat)) (by omega) (by omega) (nats_at (by omega)) ?_ (by intro _ _; with_unfolding_all rfl)
      walk_at "M"
      refine count_calls_spec (n := n) (t := E.cal) hY ?_
      walk_at "M"
      refine ev_meth PySem.F.slot_dict_get PySem.F.plainAttrs_dict PySem.F.type_dict_get ?_ (by rfl) (by rfl) (by rfl)
      walk_at "M"
      refine ⟨me_dv (kvs := tabD (wentB bk)) (.inl rfl), ?_⟩
      walk_at "M"
      refine sb_list (ds := NM.map .str) (i := (p : Nat) + 1) (by omega) (by omega) (names_at (by omega) (by omega)) ?_ (by intro _ _; with_unfolding_all rfl)
      walk_at "M"
      refine cl_tget (t := wentB bk) ?_
      walk_at "M"
      have hlen : (((List.range 4).take i).map fun p => hereB bk ((st.getD p 0 : Nat) : Int) (p : Int)).length ≤ 4 := by rw [List.length_map, List.length_take, List.length_range]; omega
      refine cl_append (pre := []) rfl (by rw [List.length_map]; omega) ?_
      refine ⟨rfl, ?_⟩
      walk_at "M"
      refine lk_next rfl ⟨⟨rfl, rfl, rfl, rfl, rfl, trivial⟩, ?_, rfl⟩
      rw [List.take_add_one, hx, List.map_append, List.map_append]
      subst hE
      rfl
    · rintro S' rfl
      refine seq_next ?_
      refine Wp.freeze (pre := []) (loc := [(N "here", .dat (.lst ((hereL bk st).map .int)))]) rfl ⟨.inr ⟨rfl, rfl⟩, trivial⟩ ?_
      walk_at "M"
      exact h
/-- gens of a run: rulers of the rows stand from g0 on -/
noncomputable def GsOk (g0 : Nat) (ph : List Ph) (k : Nat) (gs : List GA) : Prop := ∀ p, p < 4 → ∃ ga, gs[g0 + p]? = some ga ∧ ga.ph = ph.getD p .done ∧ k < ga.n
theorem GsOk.le {g0 k j : Nat} {ph : List Ph} {gs : List GA} (h : GsOk g0 ph k gs) (hj : j ≤ k) : GsOk g0 ph j gs := fun p hp => by
  obtain ⟨ga, k1, k2, k3⟩ := h p hp
  exact ⟨ga, k1, k2, by omega⟩
noncomputable def rulersAt (g0 : Nat) : List Nat := (List.range 4).map (g0 + ·)
theorem ex_rulers {c : Cx} {Y : Fm} {S : AS} {Q : Fl → AS → Prop} {fd : FuncData} {f L : Addr} {scope : Scope} {np rp sp tp cp pos spos py : Pos} {y x : Str} {rws : List (List Int)} {n : Nat} (K : Kn Y fd f L) (hn : Y.n = n + 1) (F : Fine Y y) (hk : scope.kind = .function)
    (hclos : closureFor scope Y.env = pure []) (hcell : ∀ y ∈ scope.names, y.2 ≠ .cell) (hnames : ∀ x ∈ scope.names, x.2 = .local → scope.names.lookup x.1 = some .local)
    (hrow : ∀ C, Fine (cmOf Y scope [] C hk) (Str.ofString "row")) (hgi : ∀ C, (cmOf Y scope [] C hk).env.kindOf (Str.ofString "_grouping_intervals") = some .globalImplicit)
    (hsw : swapsWith (.ListComp (.Call (.Name (Str.ofString "_grouping_intervals") np) [.Name (Str.ofString "row") rp] [] cp) [⟨.Name (Str.ofString "row") tp, .Name x sp, [], 0⟩] scope pos) (some (.Name y py)) spos.line Y.env = pure true)
    (hx : S.loc.lookup x = some (.dat (rowsD rws))) (hl : rws.length = 4) (hd : (x == ("__debug__" : Str)) = false) (hc : (x == ("__classdict__" : Str)) = false)
    (h : ∀ gs, GsOk S.gens.length (rws.map .fresh) 999 gs → Q .next ⟨(y, .gens (rulersAt S.gens.length)) :: S.loc, S.mu, gs⟩) :
    Ex c Y S (exec (.Assign [.Name y py] (.ListComp (.Call (.Name (Str.ofString "_grouping_intervals") np) [.Name (Str.ofString "row") rp] [] cp) [⟨.Name (Str.ofString "row") tp, .Name x sp, [], 0⟩] scope pos) spos) Y.env) Q := by
  refine ex_comp1G F hk hclos hcell hnames hsw (ev_var hx ?_ hd hc) (by intro _; rfl)
  refine ⟨rws.map fun r => .dat (intL r), [], fun i ys S' => ys = ((List.range i).map (S.gens.length + ·)).map .gen ∧ S'.mu = S.mu ∧ ∃ l : List GA, S'.gens = S.gens ++ l ∧ l.length = i ∧ ∀ j, j < i → ∃ ga, l[j]? = some ga ∧ ga.ph = .fresh (rws.getD j []) ∧ ga.n = 1000, src_map intL rws, ⟨by rw [List.length_map]; omega, trivial, ?_, ?_, ?_⟩, ?_⟩
  · rintro i ys S' ⟨rfl, _⟩
    rw [List.length_map, List.length_map, List.length_range]
    exact Nat.le_refl _
  · exact ⟨rfl, rfl, [], by simp, rfl, fun j hj => absurd hj (Nat.not_lt_zero _)⟩
  · rintro C i a ys S' ha ⟨rfl, hmu, l, hg, hlen, hga⟩
    rw [List.getElem?_map] at ha
    obtain ⟨r, hr, rfl⟩ := Option.map_eq_some_iff.mp ha
    have hrd : rws.getD i [] = r := by rw [List.getD_eq_getElem?_getD, hr]; rfl
    refine asg_name (hrow C) (ts_nil ?_)
    show Ev _ _ _ _ _
    refine' ev_callG gt_groupingintervals ?hkp ?h (hgi C) ?hd ?he ?hp
    case hkp => with_unfolding_all rfl
    case hd => with_unfolding_all rfl
    case he => with_unfolding_all rfl
    case hp => with_unfolding_all rfl
    refine evs_cons (ev_var (a := .dat (intL r)) (by with_unfolding_all rfl) ?_ (by with_unfolding_all rfl) (by with_unfolding_all rfl)) (by with_unfolding_all rfl)
    refine evs_nil ?_
    refine gi_spec (n := n) (k := 1000) hn fun es => ?_
    show _ ∧ _ ∧ _
    have e : S'.gens.length = S.gens.length + i := by rw [hg, List.length_append, hlen]
    refine ⟨?_, hmu, l ++ [⟨1000, .fresh r, es⟩], ?_, by simp [hlen], fun j hj => ?_⟩
    · rw [List.range_succ, List.map_append, List.map_append]
      show _ ++ [AV.gen S'.gens.length] = _
      rw [e]; rfl
    · show S'.gens ++ _ = _
      rw [hg, List.append_assoc]
    · by_cases hji : j < i
      · obtain ⟨ga, k1, k2⟩ := hga j hji
        exact ⟨ga, by rw [List.getElem?_append_left (by omega)]; exact k1, k2⟩
      · have : j = i := by omega
        subst this
        exact ⟨⟨1000, .fresh r, es⟩, by rw [List.getElem?_append_right (by omega), hlen, Nat.sub_self]; rfl, by rw [hrd], rfl⟩
  · rintro ys S' ⟨rfl, hmu, l, hg, hlen, hga⟩
    rw [List.length_map, hl] at hlen hga ⊢
    refine ⟨rulersAt S.gens.length, rfl, ?_⟩
    rw [hmu]
    refine h _ fun p hp => ?_
    obtain ⟨ga, k1, k2, k3⟩ := hga p hp
    refine ⟨ga, ?_, ?_, by omega⟩
    · rw [hg, List.getElem?_append_right (by omega), Nat.add_sub_cancel_left]; exact k1
    · have hp' : p < rws.length := by omega
      rw [k2]
      simp [List.getD_eq_getElem?_getD, List.getElem?_eq_getElem hp']
structure LS where
  bk : Book
  sh : List Int
  ph : List Ph
noncomputable def freeAt (h sh : List Int) (p : Nat) : Bool := decide (h.getD p 0 > 0) && (sh.getD p 0 == 0)
noncomputable def freeOf (h sh : List Int) : List (Int × Int) := ((List.range 4).filter (freeAt h sh)).map fun p => (h.getD p 0, 8 + (p : Int))
noncomputable def bestOf (ks : List (Int × Int)) (o : Int × Int) (l : List (Int × Int)) : Int × Int := l.foldl (fun f o => if cmpK ks o f < 0 then o else f) o
noncomputable def nextL (s : LS) (p : Nat) : LS := match (s.ph.getD p .done).tell with
  | .says x ph' => ⟨fileB s.bk (p : Int) x, s.sh, s.ph.set p ph'⟩
  | .stops => ⟨s.bk, s.sh.set p 1, s.ph.set p .done⟩
  | .refuses => ⟨s.bk, s.sh.set p 2, s.ph.set p .done⟩
noncomputable def keyOf (ks : List (Int × Int)) (t : Int × Int) : List Int := ks.map fun k => k.2 * colZ t k.1
theorem cmp_lex : ∀ {ks : List (Int × Int)}, (∀ k ∈ ks, k.2 = 1 ∨ k.2 = -1) → ∀ o f, (cmpK ks o f < 0) ↔ lexLt (keyOf ks o) (keyOf ks f) = true
  | [], _, o, f => by rw [cmpK, keyOf, keyOf]; exact ⟨fun h => absurd h (by decide), fun h => nomatch h⟩
  | k :: ks, h, o, f => by
    have ih := cmp_lex (fun k hk => h k (.tail _ hk)) o f
    rw [cmpK]
    show _ ↔ lexLt (k.2 * colZ o k.1 :: keyOf ks o) (k.2 * colZ f k.1 :: keyOf ks f) = true
    rw [lexLt]
    rcases h k (.head _) with e | e <;> rw [e]
    · by_cases h1 : colZ o k.1 < colZ f k.1
      · rw [if_pos h1, if_neg (by omega)]; exact ⟨fun _ => decide_eq_true (by omega), fun _ => by decide⟩
      · rw [if_neg h1]
        by_cases h2 : colZ o k.1 > colZ f k.1
        · rw [if_pos h2, if_neg (by omega)]; exact ⟨fun h => absurd h (by decide), fun h => by have := of_decide_eq_true h; omega⟩
        · rw [if_neg h2, if_pos (by omega)]; exact ih
    · by_cases h1 : colZ o k.1 < colZ f k.1
      · rw [if_pos h1, if_neg (by omega)]; exact ⟨fun h => absurd h (by decide), fun h => by have := of_decide_eq_true h; omega⟩
      · rw [if_neg h1]
        by_cases h2 : colZ o k.1 > colZ f k.1
        · rw [if_pos h2, if_neg (by omega)]; exact ⟨fun _ => decide_eq_true (by omega), fun _ => by decide⟩
        · rw [if_neg h2, if_pos (by omega)]; exact ih
theorem lex_irr : ∀ l : List Int, lexLt l l = false
  | [] => rfl
  | x :: l => by rw [lexLt, if_pos rfl, lex_irr l]
noncomputable def kfD (ks : List (Int × Int)) : D → List Int
  | .tup [.int a, .int b] => keyOf ks (a, b)
  | _ => []
theorem best_min {ks : List (Int × Int)} (h : ∀ k ∈ ks, k.2 = 1 ∨ k.2 = -1) : ∀ (l : List (Int × Int)) (o : Int × Int), (l.map prD).foldl (minStep (kfD ks)) (prD o) = prD (bestOf ks o l)
  | [], o => rfl
  | x :: l, o => by
    rw [List.map_cons, List.foldl_cons]
    have e : minStep (kfD ks) (prD o) (prD x) = prD (if cmpK ks x o < 0 then x else o) := by
      unfold minStep
      show (if lexLt (keyOf ks x) (keyOf ks o) = true then _ else _) = _
      by_cases q : cmpK ks x o < 0
      · rw [if_pos q, if_pos ((cmp_lex h x o).mp q)]
      · rw [if_neg q, if_neg fun z => q ((cmp_lex h x o).mpr z)]
    rw [e, best_min h l]; rfl
theorem best_self {ks : List (Int × Int)} (h : ∀ k ∈ ks, k.2 = 1 ∨ k.2 = -1) (o : Int × Int) (l : List (Int × Int)) : bestOf ks o (o :: l) = bestOf ks o l := by
  rw [bestOf, List.foldl_cons, if_neg]
  · rfl
  · intro q
    have := (cmp_lex h o o).mp q
    rw [lex_irr] at this
    cases this
theorem best_mem {ks : List (Int × Int)} : ∀ (l : List (Int × Int)) (o : Int × Int), bestOf ks o l ∈ o :: l
  | [], o => .head _
  | x :: l, o => by
    show bestOf ks (if cmpK ks x o < 0 then x else o) l ∈ _
    have := best_mem (ks := ks) l (if cmpK ks x o < 0 then x else o)
    rcases List.mem_cons.mp this with e | m
    · rw [e]; split
      · exact .tail _ (.head _)
      · exact .head _
    · exact .tail _ (.tail _ m)
theorem lay_prs : ∀ {l : List (Int × Int)}, (pyOf (.lst (l.map prD))).canLay0 = true := by
  intro l
  rw [pyOf]
  show PyData.canLayAll0 _ = true
  induction l with
  | nil => rfl
  | cons k l ih =>
    rw [List.map_cons, pyOfL, PyData.canLayAll0, ih, prD, pyOf]
    rfl
theorem set_getD {α : Type} {l : List α} {p q : Nat} {x d : α} (hp : p < l.length) : (l.set p x).getD q d = if q = p then x else l.getD q d := by
  rw [List.getD_eq_getElem?_getD, List.getElem?_set, List.getD_eq_getElem?_getD]
  by_cases e : q = p
  · subst e; rw [if_pos rfl, if_pos hp, if_pos rfl]; rfl
  · rw [if_neg (fun h => e h.symm), if_neg e]
theorem GsOk.set {g0 p k : Nat} {ph : List Ph} {gs : List GA} {ph' : Ph} {es : Ld} {j : Nat} (h : GsOk g0 ph (k + 1) gs) (hp : p < 4) (hl : ph.length = 4) (hj : k < j) : GsOk g0 (ph.set p ph') k (gs.set (g0 + p) ⟨j, ph', es⟩) := fun q hq => by
  obtain ⟨ga, k1, k2, k3⟩ := h q hq
  rw [set_getD (by omega), List.getElem?_set]
  have hlt : g0 + p < gs.length := by
    obtain ⟨gp, z, _⟩ := h p hp
    exact (List.getElem?_eq_some_iff.mp z).1
  by_cases e : q = p
  · subst e; rw [if_pos rfl, if_pos hlt, if_pos rfl]; exact ⟨_, rfl, rfl, hj⟩
  · rw [if_neg (by omega), if_neg e]; exact ⟨ga, k1, k2, by omega⟩
theorem nsD_eq {l : List Int} {k : Nat} (h : k < l.length) : (l.map D.int)[((k : Nat) : Int).toNat]? = some (.int (l.getD k 0)) := int_at h
noncomputable abbrev tc3 (bk : Book) (sh h : List Int) : D := .tup [.dct (bookD bk), .lst (sh.map .int), .lst (h.map .int)]
theorem hereL_len (bk : Book) (st : List Nat) : (hereL bk st).length = 4 := by rw [hereL, List.length_map, List.length_range]
theorem free_map {h sh : List Int} : ((List.range 4).filterMap fun p => if freeAt h sh p = true then some (prD (h.getD p 0, 8 + (p : Int))) else none) = (freeOf h sh).map prD := by
  rw [filterMap_if (f := fun p => prD (h.getD p 0, 8 + ((p : Nat) : Int))), freeOf, List.map_map]; rfl
theorem all_spec {c : Cx} {X : Fm} {S : AS} {Q : AV → AS → Prop} {rws : List (List Int)} {st : List Nat} {ks : List (Int × Int)} {n : Nat} {I : Nat → LS → Prop} {k0 : Nat} (hn : X.n = n + 10) (hr : rws.length = 4) (hs : st.length = 4)
    (hk1 : ∀ k ∈ ks, k.1 = 0 ∨ k.1 = 1) (hk2 : ∀ k ∈ ks, k.2 = 1 ∨ k.2 = -1) (hkl : ks.length ≤ 10)
    (h0 : I k0 ⟨[], [0, 0, 0, 0], rws.map .fresh⟩) (hμ : k0 < 99)
    (step : ∀ k s, I k s → ∀ p, p < 4 → freeAt (hereL s.bk st) s.sh p = true → (∀ x ph', (s.ph.getD p .done).tell = .says x ph' → x ≠ 0) ∧ ∃ k', k' < k ∧ I k' (nextL s p))
    (fin : ∀ k s, I k s → freeOf (hereL s.bk st) s.sh = [] → ∀ gs, Q (.dat (tc3 s.bk s.sh (hereL s.bk st))) ⟨S.loc, S.mu, gs⟩) :
    Cl c X S (.ref 117) [.dat (rowsD rws), .dat namesD, .dat (natsD st), .dat (ksD ks)] Q := by
  refine cl_fn (n := n + 9) (ps := [N "rows", N "names", N "starts", N "keys"]) (by with_unfolding_all rfl) (by decide) rfl (by decide) rfl rfl (all4 fun _ _ _ _ => rfl) rfl (by decide) rfl (by decide) rfl rfl rfl rfl rfl hn ?_
  intro Y L K hY
  refine ex_cons ?_
  refine' ex_rulers (n := n + 8) (rws := rws) K hY ?F ?hk ?hclos ?hcell ?hnames ?hrow ?hgi ?hsw ?hx hr ?hd ?hc ?hmain
  case F => walk_at "F"
  case hk => rfl
  case hclos => rw [K.env]; with_unfolding_all rfl
  case hcell => decide
  case hnames => decide
  case hrow => intro C; walk_at "F"
  case hgi => intro C; walk_at "K"
  case hsw => rw [K.env]; with_unfolding_all rfl
  case hx => with_unfolding_all rfl
  case hd => with_unfolding_all rfl
  case hc => with_unfolding_all rfl
  intro gs0 hgs0
  walk_at "M"
  refine cl_tc (n := n + 7) hY (by with_unfolding_all rfl) rfl (by decide) rfl rfl (fun _ _ => rfl) rfl rfl rfl rfl ?_
  refine seq_next (ex_cons ?_)
  refine ex_assign (by walk_at "F") (ev_dict0m fun a => ?_) rfl
  refine seq_next (ex_cons ?_)
  refine ex_assign (by walk_at "F") (ev_listm ?_) rfl
  walk_at "M"
  refine ⟨[_, _, _, _], rfl, Nat.le_of_ble_eq_true rfl, fun b => ?_⟩
  refine seq_next (ex_cons ?_)
  refine ex_forJ (List.range 99) (fun k => .int (k : Nat)) (fun i S' => ∃ s gs k, S' = ⟨[(N "rulers", .gens (rulersAt S.gens.length)), (N "comp", .cmp ks), (N "book", .obj a), (N "shut", .obj b), (N "names", .dat namesD), (N "starts", .dat (natsD st)), (N "keys", .dat (ksD ks))], (b, .lst (s.sh.map .int)) :: (a, .dct (bookD s.bk)) :: S.mu, gs⟩ ∧
    I k s ∧ k + i < 99 ∧ GsOk S.gens.length s.ph (199 - i) gs ∧ s.sh.length = 4 ∧ s.ph.length = 4 ∧ BkOk s.bk) ?_ (fun _ _ hc h => Wp.cov hc h)
  walk_at "M"
  refine cl_range ?_ (by decide)
  refine ⟨(src_range (by decide)).to0, ⟨_, ⟨⟨[], [0, 0, 0, 0], rws.map .fresh⟩, gs0, k0, rfl, h0, by omega, hgs0.le (by decide), rfl, by rw [List.length_map, hr], BkOk.nil⟩, ⟨⟨rfl, rfl, rfl, rfl, rfl, rfl, rfl, trivial⟩, rfl, rfl⟩⟩, ?_, ?_⟩
  · rintro i x S' hx ⟨s, gs, k, rfl, hI, hμ', hgs, hsh, hph, hbk⟩
    have hi := List.mem_range.mp (List.mem_of_getElem? hx)
    have hst := step k s hI
    refine asg_name (by walk_at "F") ?_
    walk_at "M"
    refine here_spec (n := n + 7) (b := a) (bk := s.bk) (pre := [(b, .lst (s.sh.map .int))]) (post := S.mu) hY hbk hs rfl ?_
    have hhl := hereL_len s.bk st
    have hfin := fin k s hI
    generalize hereL s.bk st = hr' at hhl hst hfin ⊢
    walk_at "M"
    refine' ex_compM (List.range 4) (fun k => .int (k : Nat)) (fun p => if freeAt hr' s.sh p = true then some (prD (hr'.getD p 0, 8 + (p : Int))) else none) ?F ?hk ?hclos ?hcell ?hnames ?hsw ?hmq60 ?hs
    case F => walk_at "F"
    case hk => rfl
    case hclos => rw [K.env]; with_unfolding_all rfl
    case hcell => decide
    case hnames => decide
    case hsw => rw [K.env]; with_unfolding_all rfl
    case hs => intro _; rfl
    walk_at "M"
    refine cl_range ?_ (by decide)
    refine ⟨src_range (by decide), by decide, ⟨[(N "here", .dat (.lst (hr'.map .int))), (N "shut", .obj b)], ⟨⟨rfl, by walk_at "C"⟩, ⟨rfl, by walk_at "C"⟩, trivial⟩, ⟨rfl, rfl, trivial⟩, fun C p hp => ?_⟩, ?_⟩
    · have hp' := List.mem_range.mp hp
      refine asg_name (by walk_at "F") (ts_one ?_)
      walk_at "M"
      refine sb_list (ds := hr'.map .int) (i := (p : Nat)) (by omega) (by omega) (int_at (by omega)) ?_ (by intro _ _; with_unfolding_all rfl)
      walk_at "M"
      have hcov : ∀ {S0 : AS}, S0 = (⟨[(N "here", .dat (.lst (hr'.map .int))), (N "shut", .obj b)], (b, .lst (s.sh.map .int)) :: (a, .dct (bookD s.bk)) :: S.mu, gs⟩ : AS).set (N "place") (.int (p : Nat)) → Cov ⟨[(N "here", .dat (.lst (hr'.map .int))), (N "shut", .obj b)], (b, .lst (s.sh.map .int)) :: (a, .dct (bookD s.bk)) :: S.mu, gs⟩ S0 := by
        rintro S0 rfl; exact ⟨⟨rfl, rfl, trivial⟩, rfl, rfl⟩
      refine ite_in (fun hb1 => ?_) (fun hb1 => ?_)
      · walk_at "M"
        refine sb_lv (ds := s.sh.map .int) (i := (p : Nat)) (.inr ⟨b, rfl, .head _⟩) (by omega) (by omega) (int_at (by omega)) ?_ (by intro _ _; with_unfolding_all rfl)
        walk_at "M"
        refine ite_in (fun hb2 => ?_) (fun hb2 => ?_)
        · walk_at "M"
          refine sb_list (ds := hr'.map .int) (i := (p : Nat)) (by omega) (by omega) (int_at (by omega)) ?_ (by intro _ _; with_unfolding_all rfl)
          walk_at "M"
          refine ⟨[_, _], rfl, Nat.le_of_ble_eq_true rfl, ?_⟩
          exact ⟨⟨_, if_pos (by rw [freeAt, hb1, hb2]; rfl), rfl⟩, hcov rfl⟩
        · exact ⟨if_neg (by rw [freeAt, hb1, hb2]; decide), hcov rfl⟩
      · refine ite_in (fun h => nomatch h) (fun _ => ?_)
        exact ⟨if_neg (by rw [freeAt, hb1]; simp), hcov rfl⟩
    rw [free_map]
    walk_at "M"
    refine ⟨[], rfl, Nat.zero_le _, ?_⟩
    refine op_eqE (ds := (freeOf hr' s.sh).map prD) (.inl rfl) lay_prs ?_
    walk_at "M"
    rw [List.isEmpty_map]
    have hfm : ∀ t ∈ freeOf hr' s.sh, ∃ p, p < 4 ∧ freeAt hr' s.sh p = true ∧ t = (hr'.getD p 0, 8 + (p : Int)) := by
      intro t ht
      obtain ⟨p, hp, rfl⟩ := List.mem_map.mp ht
      obtain ⟨k1, k2⟩ := List.mem_filter.mp hp
      exact ⟨p, List.mem_range.mp k1, k2, rfl⟩
    have hflen : (freeOf hr' s.sh).length ≤ 4 := by
      rw [freeOf, List.length_map]
      exact Nat.le_trans (List.length_filter_le _ _) (by rw [List.length_range]; exact Nat.le_refl _)
    generalize freeOf hr' s.sh = fr at hfm hfin hflen ⊢
    cases fr with
    | nil =>
      refine ite_in (fun _ => ?_) (fun h => nomatch h)
      refine Wp.freeze (pre := []) (loc := [(N "shut", .dat (.lst (s.sh.map .int))), (N "book", .obj a), (N "here", .dat (.lst (hr'.map .int)))]) rfl ⟨.inr ⟨rfl, rfl⟩, .inl rfl, .inl rfl, trivial⟩ ?_
      refine Wp.freeze (pre := []) (loc := [(N "shut", .dat (.lst (s.sh.map .int))), (N "book", .dat (.dct (bookD s.bk))), (N "here", .dat (.lst (hr'.map .int)))]) rfl ⟨.inl rfl, .inr ⟨rfl, rfl⟩, .inl rfl, trivial⟩ ?_
      walk_at "M"
      refine ⟨[_, _, _], rfl, Nat.le_of_ble_eq_true rfl, ?_⟩
      walk_at "M"
      exact hfin rfl _
    | cons o r =>
      refine ite_in (fun h => nomatch h) (fun _ => ?_)
      walk_at "M"
      refine sb_list (i := 0) (d := prD o) (by decide) (by decide) rfl ?_ (by intro _ _; with_unfolding_all rfl)
      walk_at "M"
      refine ex_forJ (o :: r) (fun t => .dat (prD t)) (fun j S' => S' = ⟨[(N "first", .dat (prD (bestOf ks o ((o :: r).take j)))), (N "rulers", .gens (rulersAt S.gens.length)), (N "comp", .cmp ks), (N "book", .obj a), (N "shut", .obj b), (N "names", .dat namesD), (N "starts", .dat (natsD st)), (N "keys", .dat (ksD ks)), (N "free", .dat (.lst ((o :: r).map prD)))], (b, .lst (s.sh.map .int)) :: (a, .dct (bookD s.bk)) :: S.mu, gs⟩) ?_ (fun _ _ hc h => Wp.cov hc h)
      walk_at "M"
      refine ⟨(src_map prD _).to0, ⟨_, rfl, ⟨⟨rfl, rfl, rfl, rfl, rfl, rfl, rfl, rfl, rfl, trivial⟩, rfl, rfl⟩⟩, ?_, ?_⟩
      · rintro j t S' ht rfl
        have hb1 : bestOf ks o ((o :: r).take (j + 1)) = if cmpK ks t (bestOf ks o ((o :: r).take j)) < 0 then t else bestOf ks o ((o :: r).take j) := take_foldl ht
        refine asg_name (by walk_at "F") ?_
        walk_at "M"
        refine ev_compare ?_ (by rfl) (by rfl) (by rfl)
        walk_at "M"
        refine ⟨⟨ks, rfl⟩, ?_⟩
        walk_at "M"
        refine compare_spec (n := n + 8) hY hk1 ?_
        walk_at "M"
        refine ite_in (fun hb2 => ?_) (fun hb2 => ?_)
        · rw [if_pos (of_decide_eq_true hb2)] at hb1
          walk_at "M"
          refine lk_next rfl ?_
          rw [hb1]
          exact ⟨⟨rfl, rfl, rfl, rfl, rfl, rfl, rfl, rfl, rfl, trivial⟩, rfl, rfl⟩
        · rw [if_neg (of_decide_eq_false hb2)] at hb1
          walk_at "M"
          refine lk_next rfl ?_
          rw [hb1]
          exact ⟨⟨rfl, rfl, rfl, rfl, rfl, rfl, rfl, rfl, rfl, trivial⟩, rfl, rfl⟩
      · rintro S' rfl
        rw [List.take_length, best_self hk2]
        have hbm : bestOf ks o r ∈ o :: r := best_mem r o
        have hbmin : (r.map prD).foldl (minStep (kfD ks)) (prD o) = prD (bestOf ks o r) := best_min hk2 r o
        refine seq_next (ex_cons (ex_if (tr_cmp ?_ (by with_unfolding_all rfl))))
        walk_at "M"
        refine' ev_minKey (n := n + 7) (d0 := prD o) (ds := r.map prD) (kf := kfD ks) (kn := ks.length) (kv := .dat (ksD ks)) hY ?hx ?hkl ?hkm ?hcode ?hcl ?hp1 ?hp2 ?hq ?hdef ?hbind ?hk2 ?hco ?hgen ?hcf ?hpc ?hone ?hky ?hne ?hxk ?hck ?hkv ?turn ?hmain2 ?hd2 ?hc2
        case hx => with_unfolding_all rfl
        case hkl =>
          intro d hd
          obtain ⟨t, _, rfl⟩ : ∃ t, t ∈ o :: r ∧ prD t = d := by
            rcases List.mem_cons.mp hd with e | hd
            · exact ⟨o, .head _, e.symm⟩
            · obtain ⟨t, ht, e⟩ := List.mem_map.mp hd; exact ⟨t, .tail _ ht, e⟩
          show (keyOf ks _).length = _
          rw [keyOf, List.length_map]
        case hkm => walk_at "K"
        case hcode => rw [K.env]; with_unfolding_all rfl
        case hcl => rw [K.env]; with_unfolding_all rfl
        case hp1 => rfl
        case hp2 => rfl
        case hq => rw [K.env]; exact (by decide +kernel : (Str.ofString "_law_all" ++ (".<locals>." : Str)) ++ Str.ofString "<lambda>" = lamQ)
        case hdef => rw [K.env]; rfl
        case hbind => intro _ _ _ _; rfl
        case hk2 => rfl
        case hco => rfl
        case hgen => rfl
        case hcf => intro _ _; rfl
        case hpc => intro _; rfl
        case hone => rfl
        case hky => rfl
        case hne => decide
        case hxk => walk_at "K"
        case hck => rw [K.env]; with_unfolding_all rfl
        case hkv => with_unfolding_all rfl
        case hd2 => with_unfolding_all rfl
        case hc2 => with_unfolding_all rfl
        case turn =>
          intro d hd f Y' L' cd hYe hYn
          obtain ⟨t, _, rfl⟩ : ∃ t, t ∈ o :: r ∧ prD t = d := by
            rcases List.mem_cons.mp hd with e | hd
            · exact ⟨o, .head _, e.symm⟩
            · obtain ⟨t, ht, e⟩ := List.mem_map.mp hd; exact ⟨t, .tail _ ht, e⟩
          refine' ev_compM ks (fun k => .dat (.tup [.int k.1, .int k.2])) (fun k => some (.int (k.2 * colZ t k.1))) ?hk3 ?hclos3 ?hcell3 ?hnames3 ?hmain3 ?hs3
          case hk3 => rfl
          case hclos3 => rw [hYe]; with_unfolding_all rfl
          case hcell3 => decide
          case hnames3 => decide
          case hs3 => intro _; rfl
          refine ev_var (a := .dat (ksD ks)) (by with_unfolding_all rfl) ?_ (by with_unfolding_all rfl) (by with_unfolding_all rfl)
          refine ⟨?_, by omega, ⟨[(N "one", .dat (prD t))], ⟨⟨rfl, ?_⟩, trivial⟩, ⟨rfl, trivial⟩, fun C k hk => ?_⟩, ?_⟩
          · have := fun (es : List Expr) (m : Nat) (p : Pos) => (src_list (c := c) (target := .Tuple es m p) (ds := ks.map fun p => D.tup [.int p.1, .int p.2]) (.tup fun d hd => ?_))
            · simp only [List.map_map] at this; exact this _ _ _
            · obtain ⟨p, _, rfl⟩ := List.mem_map.mp hd; exact ⟨_, rfl⟩
          · rw [hYe]
            exact ⟨.inl (by with_unfolding_all rfl), (fun h => nomatch (show some NameKind.cell = some NameKind.local from h)), _, by with_unfolding_all rfl, by with_unfolding_all rfl⟩
          · have hk0 := hk1 k hk
            have hk3 : IntMulOk k.2 (colZ t k.1) := .of_left (by rcases hk2 k hk with e | e <;> rw [e] <;> decide)
            refine asg_tuple2 ⟨.inl ?_⟩ ⟨.inl ?_⟩ (ts_nil ?_)
            · show (relabel _ Y'.env).names.lookup _ = _
              rw [hYe]; with_unfolding_all rfl
            · show (relabel _ Y'.env).names.lookup _ = _
              rw [hYe]; with_unfolding_all rfl
            show Ev _ _ _ _ _
            walk_at "M"
            refine sb_tuple (col_at (t := t) hk0).1 (col_at (t := t) hk0).2.1 (col_at (t := t) hk0).2.2 ?_ (by intro _ _; with_unfolding_all rfl)
            refine op_mul hk3 ?_
            exact ⟨⟨_, rfl, rfl⟩, ⟨⟨rfl, trivial⟩, rfl, rfl⟩⟩
          · rw [filterMap_some]
            refine ⟨?_, rfl, rfl⟩
            show _ = AV.dat (.lst ((keyOf ks t).map .int))
            rw [keyOf, List.map_map]; rfl
        case hmain2 =>
          rw [hbmin]
          obtain ⟨p, hp, hfr, hbe⟩ := hfm _ hbm
          obtain ⟨hsay, k', hlt, hI'⟩ := hst p hp hfr
          rw [hbe]
          generalize hr'.getD p 0 = hv
          refine op_neT (n := 1) ⟨_, rfl, rfl, fun i d e h1 h2 => ?_⟩ (by decide) ?_
          · rw [h1] at h2; cases h2
            match i, h1 with
            | 0, h1 => cases h1; rfl
            | 1, h1 => cases h1; rfl
          walk_at "M"
          refine ite_in (fun h => nomatch h) (fun _ => ?_)
          walk_at "M"
          refine sb_tuple (ds := [.int hv, .int (8 + (p : Int))]) (i := 1) (d := .int (8 + (p : Int))) (by decide) (by decide) rfl ?_ (by intro _ _; with_unfolding_all rfl)
          walk_at "M"
          rw [show (8 : Int) + (p : Int) - 8 = (p : Int) by omega]
          refine sb_gens (i := (p : Nat)) (k := S.gens.length + p) (by omega) (by omega) ?_ ?_ (by intro _ _; with_unfolding_all rfl)
          · rw [Int.toNat_natCast, rulersAt, List.getElem?_map, List.getElem?_range hp]; rfl
          walk_at "M"
          obtain ⟨ga, hg1, hg2, hg3⟩ := hgs p hp
          have hgk : ga.n = (ga.n - 1) + 1 := by omega
          have hgset : ∀ {ph'' : Ph} {es : Ld}, GsOk S.gens.length (s.ph.set p ph'') (199 - (i + 1)) (gs.set (S.gens.length + p) ⟨ga.n - 1, ph'', es⟩) := fun {ph'' es} =>
            GsOk.set (k := 199 - (i + 1)) (by rw [show 199 - (i + 1) + 1 = 199 - i by omega]; exact hgs) hp hph (by omega)
          refine ask_spec (n := n) (k := ga.n - 1) (ga := ga) hY hg1 hgk ?_
          rw [hg2]
          cases ht : (s.ph.getD p .done).tell with
          | says z ph' =>
            have hz := hsay z ph' ht
            have hnx : nextL s p = ⟨fileB s.bk (p : Int) z, s.sh, s.ph.set p ph'⟩ := by unfold nextL; rw [ht]
            intro es
            walk_at "M"
            refine op_isNone (b := false) rfl ?_
            walk_at "M"
            refine ite_in (fun h => nomatch h) (fun _ => ?_)
            walk_at "M"
            refine ite_in (fun h => absurd (eq_of_beq h) hz) (fun _ => ?_)
            walk_at "M"
            refine file_spec (n := n + 6) (b := s.bk) (p := (p : Int)) (z := z) (pre := [(b, .lst (s.sh.map .int))]) (post := S.mu) hY hbk (by omega) (by omega) rfl ?_
            refine ⟨rfl, ?_⟩
            walk_at "M"
            refine lk_next ⟨nextL s p, gs.set (S.gens.length + p) ⟨ga.n - 1, ph', es⟩, k', rfl, hI', by omega, ?_, ?_, ?_, ?_⟩ ?_
            · rw [hnx]; exact hgset
            · rw [hnx]; exact hsh
            · rw [hnx]; rw [List.length_set]; exact hph
            · rw [hnx]; exact hbk.file (by omega) (by omega)
            · rw [hnx]
              exact ⟨⟨rfl, rfl, rfl, rfl, rfl, rfl, rfl, trivial⟩, rfl, rfl⟩
          | stops =>
            have hnx : nextL s p = ⟨s.bk, s.sh.set p 1, s.ph.set p .done⟩ := by unfold nextL; rw [ht]
            dsimp only
            walk_at "M"
            refine op_isNone (b := false) rfl ?_
            walk_at "M"
            refine ite_in (fun h => nomatch h) (fun _ => ?_)
            walk_at "M"
            refine ite_in (fun _ => ?_) (fun h => nomatch h)
            walk_at "M"
            refine ev_ite ?_
            walk_at "M"
            refine op_isNone (b := false) rfl ?_
            walk_at "M"
            refine ite_in (fun h => nomatch h) (fun _ => ?_)
            walk_at "M"
            refine st_list (pre := []) rfl (by omega) (by rw [List.length_map]; omega) (by rw [List.length_map]; omega) ?_
            walk_at "M"
            refine lk_next ⟨nextL s p, gs.set (S.gens.length + p) ⟨ga.n - 1, .done, []⟩, k', rfl, hI', by omega, ?_, ?_, ?_, ?_⟩ ?_
            · rw [hnx]; exact hgset
            · rw [hnx]; rw [List.length_set]; exact hsh
            · rw [hnx]; rw [List.length_set]; exact hph
            · rw [hnx]; exact hbk
            · rw [hnx, Int.toNat_natCast]
              refine ⟨⟨rfl, rfl, rfl, rfl, rfl, rfl, rfl, trivial⟩, ?_, rfl⟩
              rw [List.map_set]; rfl
          | refuses =>
            have hnx : nextL s p = ⟨s.bk, s.sh.set p 2, s.ph.set p .done⟩ := by unfold nextL; rw [ht]
            dsimp only
            walk_at "M"
            refine op_isNone (b := true) rfl ?_
            walk_at "M"
            refine ite_in (fun _ => ?_) (fun h => nomatch h)
            refine ite_in (fun _ => ?_) (fun h => nomatch h)
            walk_at "M"
            refine ev_ite ?_
            walk_at "M"
            refine op_isNone (b := true) rfl ?_
            walk_at "M"
            refine ite_in (fun _ => ?_) (fun h => nomatch h)
            walk_at "M"
            refine st_list (pre := []) rfl (by omega) (by rw [List.length_map]; omega) (by rw [List.length_map]; omega) ?_
            walk_at "M"
            refine lk_next ⟨nextL s p, gs.set (S.gens.length + p) ⟨ga.n - 1, .done, []⟩, k', rfl, hI', by omega, ?_, ?_, ?_, ?_⟩ ?_
            · rw [hnx]; exact hgset
            · rw [hnx]; rw [List.length_set]; exact hsh
            · rw [hnx]; rw [List.length_set]; exact hph
            · rw [hnx]; exact hbk
            · rw [hnx, Int.toNat_natCast]
              refine ⟨⟨rfl, rfl, rfl, rfl, rfl, rfl, rfl, trivial⟩, ?_, rfl⟩
              rw [List.map_set]; rfl
  · rintro S' ⟨s, gs, k, rfl, hI, hμ', _⟩
    rw [List.length_range] at hμ'
    omega
theorem all5 {P : List Value → Prop} (h : ∀ a b d e f, P [a, b, d, e, f]) : ∀ vs, vs.length = 5 → P vs := allN fun a => all4 (P := fun l => P (a :: l)) (h a)
noncomputable def mx (i j : Int) : Int := if j > i then j else i
theorem lead_spec {c : Cx} {X : Fm} {S : AS} {Q : AV → AS → Prop} {I : Nat → LS → Int → Prop} {E : LS → Prop} {n g0 B k0 : Nat} {a b : Addr} {pre post : List (Addr × MO)} {s0 : LS} {p0 : Int} (hn : X.n = n + 10)
    (h0 : I k0 s0 p0) (hμ : k0 < 99) (out : ∀ k s p, I k s p → (p < 0 ∨ p > 3) → E s)
    (step : ∀ k s (p : Nat), p < 4 → I k s p → match (s.ph.getD p .done).tell with
      | .says x ph' => x ≠ 0 ∧ ∃ k', k' < k ∧ I k' ⟨fileB s.bk p x, s.sh, s.ph.set p ph'⟩ (p + x)
      | .stops => E ⟨s.bk, s.sh.set p (mx (s.sh.getD p 0) 1), s.ph.set p .done⟩
      | .refuses => E ⟨s.bk, s.sh.set p (mx (s.sh.getD p 0) 2), s.ph.set p .done⟩)
    (hm : S.mu = pre ++ (b, .lst (s0.sh.map .int)) :: (a, .dct (bookD s0.bk)) :: post) (hgs : GsOk g0 s0.ph (100 + B) S.gens) (hsh : s0.sh.length = 4) (hph : s0.ph.length = 4) (hbk : BkOk s0.bk)
    (fin : ∀ s gs, E s → GsOk g0 s.ph B gs → s.sh.length = 4 → s.ph.length = 4 → BkOk s.bk → Q .none ⟨S.loc, pre ++ (b, .lst (s.sh.map .int)) :: (a, .dct (bookD s.bk)) :: post, gs⟩) :
    Cl c X S (.ref 124) [.int p0, .gens (rulersAt g0), .dat namesD, .obj a, .obj b] Q := by
  refine cl_fn (n := n + 9) (ps := [N "place", N "rulers", N "names", N "book", N "shut"]) (by with_unfolding_all rfl) (by decide) rfl (by decide) rfl rfl (all5 fun _ _ _ _ _ => rfl) rfl (by decide) rfl (by decide) rfl rfl rfl rfl rfl hn ?_
  intro Y L K hY
  refine ex_cons ?_
  refine ex_forJ (List.range 99) (fun k => .int (k : Nat)) (fun i S' => ∃ s p gs k, S' = ⟨[(N "place", .int p), (N "rulers", .gens (rulersAt g0)), (N "names", .dat namesD), (N "book", .obj a), (N "shut", .obj b)], pre ++ (b, .lst (s.sh.map .int)) :: (a, .dct (bookD s.bk)) :: post, gs⟩ ∧
    I k s p ∧ k + i < 99 ∧ GsOk g0 s.ph (100 + B - i) gs ∧ s.sh.length = 4 ∧ s.ph.length = 4 ∧ BkOk s.bk) ?_ (fun _ _ hc h => Wp.cov hc h)
  walk_at "M"
  refine cl_range ?_ (by decide)
  refine ⟨(src_range (by decide)).to0, ⟨_, ⟨s0, p0, S.gens, k0, rfl, h0, by omega, hgs, hsh, hph, hbk⟩, ⟨⟨rfl, rfl, rfl, rfl, rfl, trivial⟩, hm, rfl⟩⟩, ?_, ?_⟩
  · rintro i x S' hx ⟨s, p, gs, k, rfl, hI, hμ', hgs, hsh, hph, hbk⟩
    have hi := List.mem_range.mp (List.mem_of_getElem? hx)
    have hmb : (b, MO.lst (s.sh.map .int)) ∈ pre ++ (b, .lst (s.sh.map .int)) :: (a, .dct (bookD s.bk)) :: post := by simp
    have hma : pre ++ (b, MO.lst (s.sh.map .int)) :: (a, .dct (bookD s.bk)) :: post = (pre ++ [(b, .lst (s.sh.map .int))]) ++ (a, .dct (bookD s.bk)) :: post := by simp
    refine asg_name (by walk_at "F") ?_
    walk_at "M"
    have hout : (p < 0 ∨ p > 3) → Q .none ⟨S.loc, pre ++ (b, .lst (s.sh.map .int)) :: (a, .dct (bookD s.bk)) :: post, gs⟩ := fun h => fin s gs (out k s p hI h) (hgs.le (by omega)) hsh hph hbk
    refine ite_in (fun hb => ?_) (fun hb => ?_)
    · refine ite_in (fun _ => ?_) (fun h => nomatch h)
      walk_at "M"
      exact hout (.inl (of_decide_eq_true hb))
    have hp0 : ¬ p < 0 := of_decide_eq_false hb
    walk_at "M"
    refine ite_in (fun hb => ?_) (fun hb => ?_)
    · walk_at "M"
      exact hout (.inr (of_decide_eq_true hb))
    have hp3 : ¬ p > 3 := of_decide_eq_false hb
    clear hout hb
    obtain ⟨q, rfl⟩ : ∃ q : Nat, p = (q : Int) := ⟨p.toNat, by omega⟩
    have hq : q < 4 := by omega
    have hst := step k s q hq hI
    walk_at "M"
    refine sb_gens (i := (q : Nat)) (k := g0 + q) (by omega) (by omega) ?_ ?_ (by intro _ _; with_unfolding_all rfl)
    · rw [Int.toNat_natCast, rulersAt, List.getElem?_map, List.getElem?_range hq]; rfl
    walk_at "M"
    obtain ⟨ga, hg1, hg2, hg3⟩ := hgs q hq
    have hgk : ga.n = (ga.n - 1) + 1 := by omega
    have hgset : ∀ {ph'' : Ph} {es : Ld}, GsOk g0 (s.ph.set q ph'') (100 + B - (i + 1)) (gs.set (g0 + q) ⟨ga.n - 1, ph'', es⟩) := fun {ph'' es} =>
      GsOk.set (k := 100 + B - (i + 1)) (by rw [show 100 + B - (i + 1) + 1 = 100 + B - i by omega]; exact hgs) hq hph (by omega)
    refine ask_spec (n := n) (k := ga.n - 1) (ga := ga) hY hg1 hgk ?_
    rw [hg2]
    cases ht : (s.ph.getD q .done).tell with
    | says z ph' =>
      rw [ht] at hst
      obtain ⟨hz, k', hlt, hI'⟩ := hst
      intro es
      walk_at "M"
      refine op_isNone (b := false) rfl ?_
      walk_at "M"
      refine ite_in (fun h => nomatch h) (fun _ => ?_)
      walk_at "M"
      refine ite_in (fun h => absurd (eq_of_beq h) hz) (fun _ => ?_)
      walk_at "M"
      refine file_spec (n := n + 6) (b := s.bk) (p := (q : Int)) (z := z) (pre := pre ++ [(b, MO.lst (s.sh.map .int))]) (post := post) hY hbk (by omega) (by omega) hma ?_
      refine ⟨rfl, ?_⟩
      walk_at "M"
      refine lk_next ⟨⟨fileB s.bk q z, s.sh, s.ph.set q ph'⟩, (q : Int) + z, gs.set (g0 + q) ⟨ga.n - 1, ph', es⟩, k', rfl, hI', by omega, hgset, hsh, by rw [List.length_set]; exact hph, hbk.file (by omega) (by omega)⟩ ?_
      refine ⟨⟨rfl, rfl, rfl, rfl, rfl, trivial⟩, ?_, rfl⟩
      show (pre ++ [_]) ++ _ = _
      simp
    | stops =>
      rw [ht] at hst
      dsimp only
      walk_at "M"
      refine op_isNone (b := false) rfl ?_
      walk_at "M"
      refine ite_in (fun h => nomatch h) (fun _ => ?_)
      walk_at "M"
      refine ite_in (fun _ => ?_) (fun h => nomatch h)
      walk_at "M"
      refine sb_lv (ds := s.sh.map .int) (i := (q : Nat)) (.inr ⟨b, rfl, hmb⟩) (by omega) (by omega) (int_at (by omega)) ?_ (by intro _ _; with_unfolding_all rfl)
      walk_at "M"
      refine ev_ite ?_
      walk_at "M"
      refine op_isNone (b := false) rfl ?_
      walk_at "M"
      refine ite_in (fun h => nomatch h) (fun _ => ?_)
      walk_at "M"
      refine cl_max ?_
      walk_at "M"
      refine st_list (pre := pre) rfl (by omega) (by rw [List.length_map]; omega) (by rw [List.length_map]; omega) ?_
      walk_at "M"
      have := fin _ (gs.set (g0 + q) ⟨ga.n - 1, .done, []⟩) hst (hgset.le (by omega)) (by rw [List.length_set]; exact hsh) (by rw [List.length_set]; exact hph) hbk
      rw [List.map_set] at this
      exact this
    | refuses =>
      rw [ht] at hst
      dsimp only
      walk_at "M"
      refine op_isNone (b := true) rfl ?_
      walk_at "M"
      refine ite_in (fun _ => ?_) (fun h => nomatch h)
      refine ite_in (fun _ => ?_) (fun h => nomatch h)
      walk_at "M"
      refine sb_lv (ds := s.sh.map .int) (i := (q : Nat)) (.inr ⟨b, rfl, hmb⟩) (by omega) (by omega) (int_at (by omega)) ?_ (by intro _ _; with_unfolding_all rfl)
      walk_at "M"
      refine ev_ite ?_
      walk_at "M"
      refine op_isNone (b := true) rfl ?_
      walk_at "M"
      refine ite_in (fun _ => ?_) (fun h => nomatch h)
      walk_at "M"
      refine cl_max ?_
      walk_at "M"
      refine st_list (pre := pre) rfl (by omega) (by rw [List.length_map]; omega) (by rw [List.length_map]; omega) ?_
      walk_at "M"
      have := fin _ (gs.set (g0 + q) ⟨ga.n - 1, .done, []⟩) hst (hgset.le (by omega)) (by rw [List.length_set]; exact hsh) (by rw [List.length_set]; exact hph) hbk
      rw [List.map_set] at this
      exact this
  · rintro S' ⟨s, p, gs, k, rfl, hI, hμ', _⟩
    rw [List.length_range] at hμ'
    omega
section
variable {c : Cx} {X : Fm} {S : AS}
/-- a block bound by the exchanged stores whose value will change -/
theorem ex_blockM {Q : Fl → AS → Prop} {e target iter : Expr} {ifs : List Expr} {gs : List Comprehension} {scope : Scope} {pos ipos spos py : Pos} {y : Str} {cl : List (Str × Addr)} {newAcc : Sem Value} {o0 : Obj} {P0' : Obj → Prop} {em : Addr → Env → Sem Unit} (F : Fine X y) (hk : scope.kind = .function)
    (hsw : swapsWith e (some (.Name y py)) spos.line X.env = pure true) (hev : ∀ u, evalThenUse e X.env u = (do let _ ← comprehension e scope X.env pos newAcc false (eval iter X.env) (some u))) (hnew : ∀ (Q : Value → Shared → Prop) (s : Shared), Q (.ref s.heap.objs.size) { s with heap := s.heap.push o0 } → wpAny (M c) X.A newAcc Q No s) (hfr : o0.isFreed = false) (hP0 : P0' o0) (hpl0 : Pln P0')
    (hcl : clausesOf e = ⟨target, iter, ifs, 0⟩ :: gs) (hclos : closureFor scope X.env = pure cl) (hcell : ∀ y ∈ scope.names, y.2 ≠ .cell) (hnames : ∀ x ∈ scope.names, x.2 = .local → scope.names.lookup x.1 = some .local)
    (hB : ∀ C, BlkOk c X.A e target ifs ipos em (cmOf X scope cl C hk).env)
    (h : Ev c X S (eval iter X.env) (fun a S1 => ∃ as loc', ∃ K : KP, Src c target a as ∧ BlkQ c X S1 scope hk cl target ifs em P0' as loc' K ∧ ∀ g P S' o, K as.length g P S' → P o → Pln (fun x => x = o) ∧ ∃ mo, MOr c.w g mo o ∧ ∀ a, Q .next ⟨(y, .obj a) :: S1.loc, (a, mo) :: S'.mu, S'.gens⟩))
    (hs : ∀ x, foldedSetIterable iter X.env x = pure x := by intro _; rfl) : Ex c X S (exec (.Assign [.Name y py] e spos) X.env) Q := fun g R s hR => by
  rw [exec_Assign_Name_used _ _ _ _ hsw, hev]
  refine wpAny_bind (wpAny_standAt (wpAny_bind (wpAny_bind (wpAny_mono (wpAny_comprehension_free (use := some (assign (.Name y py) X.env)) (Q := fun _ s' => ∃ g' b S', G.le g g' ∧ Rel c X R g' s' S' ∧ FlR c.w g' b .next ∧ Q b S') hcl hs hclos hk hnames (wpAny_mono (h g R s hR) (fun v s1 hh => ?_) fun _ _ x => x)) (fun _ s' hq => wpAny_pure (wpAny_pure hq)) fun _ _ x => x))))
  obtain ⟨g1, a, S1, h1, h2, h3, as, loc', K, src, q, fin⟩ := hh
  refine blockG hnew hfr hP0 hpl0 hcl hcell hB src q h2 h3 (RR := fun acc C => compPost (M c) X.A No (some (assign (.Name y py) X.env)) (fun _ s' => ∃ g' b S', G.le g g' ∧ Rel c X R g' s' S' ∧ FlR c.w g' b .next ∧ Q b S') acc C) ?_
  intro C acc g' s' S' mC P z1 z2 z3 z4 z5 z6 f
  have z7 := z2.perm (List.Perm.swap _ _ _)
  obtain ⟨o, ho, hp⟩ := z7.tGet
  obtain ⟨hpl, mo, hmo, hq⟩ := fin g' P S' o z3 hp
  have z8 := z7.tUpd (P' := fun x => x = o) (h' := s'.heap) (t := s'.toks) (fun b o hb e => e) ho rfl z4
  have z9 := z8.muShow (pre := []) (post := S'.mu) rfl hmo z5 hpl
  show wpAny _ _ (assign (.Name y py) X.env (.ref acc)) _ _ _
  refine wpAny_mono (wp_assignName (a := .obj acc) (Q := fun S2 => Q .next S2) F (hq acc) z9 rfl) (fun _ s'' hh => ?_) fun _ _ x => x
  obtain ⟨g2, S2, q1, q2, q3⟩ := hh
  obtain ⟨o, ho, hp⟩ := q2.tGet
  refine ⟨mC, hp.ns ho, fun h' hs' => ?_⟩
  exact ⟨g2, .next, S2, (h1.trans z1).trans q1, q2.dropNs (h' := h') (t := s''.toks) (fun b o hb e => hs'.extBut b o hb e) ⟨mC, rfl⟩ z6, rfl, q3⟩
theorem ex_comp2M {α β : Type} {Q : Fl → AS → Prop} {elt t1 i1 t2 i2 : Expr} {scope : Scope} {pos spos py : Pos} {y : Str} {cl : List (Str × Addr)} (l1 : List α) (e1 : α → AV) (l2 : α → List β) (e2 : β → AV) (f : α → β → D) (F : Fine X y) (hk : scope.kind = .function)
    (hclos : closureFor scope X.env = pure cl) (hcell : ∀ y ∈ scope.names, y.2 ≠ .cell) (hnames : ∀ x ∈ scope.names, x.2 = .local → scope.names.lookup x.1 = some .local)
    (hsw : swapsWith (.ListComp elt [⟨t1, i1, [], 0⟩, ⟨t2, i2, [], 0⟩] scope pos) (some (.Name y py)) spos.line X.env = pure true)
    (h : Ev c X S (eval i1 X.env) (fun a S1 => Src c t1 a (l1.map e1) ∧ (l1.flatMap fun x => (l2 x).map (f x)).length < 100000 ∧ (∃ loc', CapL X.env scope cl S1.loc loc' ∧ LocSub loc' loc' ∧ ∀ C x, x ∈ l1 → Turn2 c (cmOf X scope cl C hk) ⟨loc', S1.mu, S1.gens⟩ t1 i2 t2 elt (e1 x) (l2 x) e2 (f x)) ∧
      ∀ a, Q .next ⟨(y, .obj a) :: S1.loc, (a, .lst (l1.flatMap fun x => (l2 x).map (f x))) :: S1.mu, S1.gens⟩))
    (hs : ∀ x, foldedSetIterable i1 X.env x = pure x := by intro _; rfl) (hs2 : ∀ env x, foldedSetIterable i2 env x = pure x := by intro _ _; rfl) : Ex c X S (exec (.Assign [.Name y py] (.ListComp elt [⟨t1, i1, [], 0⟩, ⟨t2, i2, [], 0⟩] scope pos) spos) X.env) Q := by
  refine ex_blockM (o0 := seqO "list" [] 0) (P0' := accP []) (em := em2 elt t1 i1 t2 i2 scope pos) (target := t1) (iter := i1) (ifs := []) F (pos := firstIterPos [⟨t1, i1, [], 0⟩, ⟨t2, i2, [], 0⟩] pos) (newAcc := newList []) hk hsw (fun _ => rfl) (fun Q s h => newList_ok Q h) rfl ⟨0, rfl⟩ accP_pln rfl hclos hcell hnames (fun C => blk2) (Wp.mono h fun a S1 hh => ?_) hs
  obtain ⟨src, hsz, ⟨loc', cap, hl, turn⟩, hq⟩ := hh
  refine ⟨_, loc', _, src, blkQ2 l1 e1 l2 e2 f hsz cap hl hs2 turn, fun g P S' o hJ hP => ?_⟩
  obtain ⟨ys, vs, rfl, hv, hyl, rfl, hcov⟩ := hJ
  obtain ⟨k, rfl⟩ := hP
  refine ⟨pln_exact (fun e => nomatch e) (fun v e => nomatch e), .lst (l1.flatMap fun x => (l2 x).map (f x)), ⟨vs, k, rfl, rdL_of hv (by rw [List.length_map, List.take_length])⟩, ?_⟩
  have e1 := hcov.mu
  have e2 := hcov.gens
  simp only at e1 e2
  rw [e1, e2]
  exact hq
end
section
variable {c : Cx} {X : Fm} {S : AS}
noncomputable def WK (J : Nat → AS → Prop) (n : Nat) (Q : Fl → AS → Prop) (f : Fl) (S3 : AS) : Prop := match f with | .next => ∃ m, m < n ∧ ∃ S4, J m S4 ∧ Cov S4 S3 | .brk => Q .next S3 | .ret d => Q (.ret d) S3
theorem wk_next {J : Nat → AS → Prop} {Q : Fl → AS → Prop} {n m : Nat} {S4 : AS} (hm : m < n) (h : J m S4) (hc : Cov S4 S) : WK J n Q .next S := ⟨m, hm, S4, h, hc⟩
theorem ex_while {Q : Fl → AS → Prop} {test : Expr} {body : List Stmt} {pos : Pos} (J : Nat → AS → Prop) {n0 : Nat} (h0 : ∃ S0, J n0 S0 ∧ Cov S0 S)
    (turn : ∀ n S', J n S' → Tr c X S' (isTrue test X.env (eval test X.env)) (fun b S1 => if b = true then Ex c X S1 (execs body X.env) (WK J n Q) else Q .next S1)) :
    Ex c X S (exec (.While test body [] pos) X.env) Q := fun g R s hR => by
  obtain ⟨S0, j0, hc0⟩ := h0
  refine wpAny_While (codeAny_mono (codeAny_whileLoop (R := fun r s' => match r with | .ok f => ∃ g' b S', G.le g g' ∧ Rel c X R g' s' S' ∧ FlR c.w g' b f ∧ Q b S' | .error _ => False) (fun n s' => ∃ g' S', G.le g g' ∧ Rel c X R g' s' S' ∧ J n S') ?_ n0 ⟨g, S0, .rfl, hR.cov hc0, j0⟩) fun r s' hr => ?_)
  · rintro n s' ⟨g', S', hg', hR', hJ⟩
    refine no_noted (wpAny_mono (turn n S' hJ g' R s' hR') (fun b s2 hh => ?_) fun _ _ x => x)
    obtain ⟨g2, b', S2, q1, q2, q3, q4⟩ := hh
    have e : b = b' := q3
    subst e
    cases b with
    | false =>
      simp only [Bool.false_eq_true, if_false] at q4 ⊢
      exact no_noted (wpAny_execs_nil ⟨g2, .next, S2, hg'.trans q1, q2, rfl, q4⟩)
    | true =>
      simp only [if_true] at q4 ⊢
      refine no_noted (wpAny_mono (q4 g2 R s2 q2) (fun f s3 hh => ?_) fun _ _ x => x)
      obtain ⟨g3, fl, S3, z1, z2, z3, z4⟩ := hh
      cases fl with
      | next =>
        have e : f = .next := z3
        subst e
        obtain ⟨m, hm, S4, hJ4, hc4⟩ := z4
        exact ⟨m, hm, g3, S4, (hg'.trans q1).trans z1, z2.cov hc4, hJ4⟩
      | brk =>
        have e : f = .brk := z3
        subst e
        exact ⟨g3, .next, S3, (hg'.trans q1).trans z1, z2, rfl, z4⟩
      | ret b =>
        obtain ⟨u, rfl, hu⟩ := z3
        exact ⟨g3, .ret b, S3, (hg'.trans q1).trans z1, z2, ⟨u, rfl, hu⟩, z4⟩
  · cases r with
    | error x => exact hr.elim
    | ok f => exact hr
end
noncomputable def leftOf (st : List Nat) : List Int := (List.range 4).flatMap fun p => (List.range (st.getD p 0)).map fun _ => (p : Int)
noncomputable def pickW (p o : Int) : Int := if sgn (nmAt (o + 1)) (nmAt (p + 1)) < 0 then o else p
noncomputable def bestW (l : List Int) : Int := l.foldl pickW (l.headD 0)
noncomputable def ordL : Nat → List Int → List Int
  | 0, _ => []
  | k + 1, l => bestW l :: ordL k (l.erase (bestW l))
theorem pickW_mem {l : List Int} : ∀ {m : List Int} {x : Int}, (∀ y ∈ m, y ∈ l) → x ∈ l → m.foldl pickW x ∈ l
  | [], x, _, hx => hx
  | o :: m, x, h, hx => by
    rw [List.foldl_cons]
    refine pickW_mem (fun y hy => h y (.tail _ hy)) ?_
    unfold pickW
    split
    · exact h o (.head _)
    · exact hx
theorem bestW_mem {l : List Int} (h : l ≠ []) : bestW l ∈ l := by
  refine pickW_mem (fun y hy => hy) ?_
  cases l with
  | nil => exact absurd rfl h
  | cons x l => exact .head _
noncomputable def LeadOk (s0 : LS) (p0 : Int) (E : LS → Prop) : Prop := ∃ (I : Nat → LS → Int → Prop) (k0 : Nat), I k0 s0 p0 ∧ k0 < 99 ∧ (∀ k s p, I k s p → (p < 0 ∨ p > 3) → E s) ∧
  ∀ k s (p : Nat), p < 4 → I k s p → match (s.ph.getD p .done).tell with
      | .says x ph' => x ≠ 0 ∧ ∃ k', k' < k ∧ I k' ⟨fileB s.bk p x, s.sh, s.ph.set p ph'⟩ (p + x)
      | .stops => E ⟨s.bk, s.sh.set p (mx (s.sh.getD p 0) 1), s.ph.set p .done⟩
      | .refuses => E ⟨s.bk, s.sh.set p (mx (s.sh.getD p 0) 2), s.ph.set p .done⟩
theorem lay_ints {xs : List Int} : (pyOf (.lst (xs.map .int))).canLay0 = true := by rw [pyOf]; exact canLay_ints xs
theorem left_map {st : List Nat} : ((List.range 4).flatMap fun p => (List.range (st.getD p 0)).map fun _ => D.int ((p : Nat) : Int)) = (leftOf st).map .int := by
  rw [leftOf, List.map_flatMap]
  congr 1
  funext p
  rw [List.map_map]; rfl
theorem left_range {st : List Nat} : ∀ x ∈ leftOf st, 0 ≤ x ∧ x ≤ 3 := by
  intro x hx
  obtain ⟨p, hp, hx⟩ := List.mem_flatMap.mp hx
  obtain ⟨_, _, rfl⟩ := List.mem_map.mp hx
  have := List.mem_range.mp hp
  omega
theorem one_spec {c : Cx} {X : Fm} {S : AS} {Q : AV → AS → Prop} {rws : List (List Int)} {st : List Nat} {n : Nat} {I : List Int → LS → Prop} (hn : X.n = n + 11) (hr : rws.length = 4) (hs : st.length = 4) (hl : (leftOf st).length ≤ 9)
    (h0 : I (leftOf st) ⟨[], [0, 0, 0, 0], rws.map .fresh⟩)
    (step : ∀ lf s, I lf s → lf ≠ [] → LeadOk s (bestW lf) (I (lf.erase (bestW lf))))
    (fin : ∀ s, I [] s → ∀ gs, Q (.dat (tc3 s.bk s.sh (ordL (leftOf st).length (leftOf st)))) ⟨S.loc, S.mu, gs⟩) :
    Cl c X S (.ref 129) [.dat (rowsD rws), .dat namesD, .dat (natsD st)] Q := by
  refine cl_fn (n := n + 10) (ps := [N "rows", N "names", N "starts"]) (by with_unfolding_all rfl) (by decide) rfl (by decide) rfl rfl (all3 fun _ _ _ => rfl) rfl (by decide) rfl (by decide) rfl rfl rfl rfl rfl hn ?_
  intro Y L K hY
  refine ex_cons ?_
  refine' ex_rulers (n := n + 9) (rws := rws) K hY ?F ?hk ?hclos ?hcell ?hnames ?hrow ?hgi ?hsw ?hx hr ?hd ?hc ?hmain
  case F => walk_at "F"
  case hk => rfl
  case hclos => rw [K.env]; with_unfolding_all rfl
  case hcell => decide
  case hnames => decide
  case hrow => intro C; walk_at "F"
  case hgi => intro C; walk_at "K"
  case hsw => rw [K.env]; with_unfolding_all rfl
  case hx => with_unfolding_all rfl
  case hd => with_unfolding_all rfl
  case hc => with_unfolding_all rfl
  intro gs0 hgs0
  refine seq_next (ex_cons ?_)
  refine' ex_comp2M (List.range 4) (fun k => .int (k : Nat)) (fun p => List.range (st.getD p 0)) (fun z => .int (z : Nat)) (fun p z => .int (p : Nat)) ?F1 ?hk1 ?hclos1 ?hcell1 ?hnames1 ?hsw1 ?hmain1 ?hs1 ?hs2
  case F1 => walk_at "F"
  case hk1 => rfl
  case hclos1 => rw [K.env]; with_unfolding_all rfl
  case hcell1 => decide
  case hnames1 => decide
  case hsw1 => rw [K.env]; with_unfolding_all rfl
  case hs1 => intro _; rfl
  case hs2 => intro _ _; rfl
  have hstl : ∀ p, p < 4 → st.getD p 0 ≤ 9 := fun p hp => by
    have e : (leftOf st).length = st.getD 0 0 + (st.getD 1 0 + (st.getD 2 0 + (st.getD 3 0 + 0))) := by
      simp [leftOf, show List.range 4 = [0, 1, 2, 3] from rfl]
    rcases lt4 hp with rfl | rfl | rfl | rfl
    · omega
    · omega
    · omega
    · omega
  walk_at "M"
  refine cl_range ?_ (by decide)
  refine ⟨src_range (by decide), ?_, ⟨[(N "starts", .dat (natsD st))], ⟨⟨rfl, by walk_at "C"⟩, trivial⟩, ⟨rfl, trivial⟩, fun C p hp => ?_⟩, fun l => ?_⟩
  · rw [left_map, List.length_map]; omega
  · have hp' := List.mem_range.mp hp
    have hsp := hstl p hp'
    refine asg_name (by walk_at "F") ?_
    walk_at "M"
    refine sb_list (ds := st.map fun k => .int (k : Nat)) (i := (p : Nat)) (by omega) (by omega) (nats_at (by omega)) ?_ (by intro _ _; with_unfolding_all rfl)
    walk_at "M"
    refine cl_range ?_ (by omega)
    rw [Int.toNat_natCast]
    refine ⟨src_range (by omega), [(N "place", .int (p : Nat)), (N "starts", .dat (natsD st))], ⟨rfl, trivial⟩, ⟨⟨rfl, rfl, trivial⟩, rfl, rfl⟩, fun z hz => ?_⟩
    refine asg_name (by walk_at "F") ?_
    walk_at "M"
    exact ⟨rfl, ⟨⟨rfl, rfl, trivial⟩, rfl, rfl⟩⟩
  rw [left_map]
  refine seq_next (ex_cons ?_)
  refine ex_assign (by walk_at "F") (ev_dict0m fun a => ?_) rfl
  refine seq_next (ex_cons ?_)
  refine ex_assign (by walk_at "F") (ev_listm ?_) rfl
  walk_at "M"
  refine ⟨[_, _, _, _], rfl, Nat.le_of_ble_eq_true rfl, fun b => ?_⟩
  refine seq_next (ex_cons ?_)
  refine ex_assign (by walk_at "F") (ev_listm ?_) rfl
  walk_at "M"
  refine ⟨[], rfl, Nat.zero_le _, fun d => ?_⟩
  refine seq_next (ex_cons ?_)
  refine ex_while (n0 := (leftOf st).length) (fun n S' => ∃ lf ord s gs, S' = ⟨[(N "rulers", .gens (rulersAt S.gens.length)), (N "left", .obj l), (N "book", .obj a), (N "shut", .obj b), (N "order", .obj d), (N "names", .dat namesD), (N "starts", .dat (natsD st))], (d, .lst (ord.map .int)) :: (b, .lst (s.sh.map .int)) :: (a, .dct (bookD s.bk)) :: (l, .lst (lf.map .int)) :: S.mu, gs⟩ ∧
    n = lf.length ∧ I lf s ∧ GsOk S.gens.length s.ph (100 * lf.length) gs ∧ s.sh.length = 4 ∧ s.ph.length = 4 ∧ BkOk s.bk ∧ (∀ x ∈ lf, 0 ≤ x ∧ x ≤ 3) ∧ ord ++ ordL lf.length lf = ordL (leftOf st).length (leftOf st) ∧ lf.length + ord.length ≤ 9) ?_ ?_
  · refine ⟨_, ⟨leftOf st, [], ⟨[], [0, 0, 0, 0], rws.map .fresh⟩, gs0, rfl, rfl, h0, hgs0.le (by omega), rfl, by rw [List.length_map, hr], BkOk.nil, left_range, rfl, by simpa using hl⟩, ⟨⟨rfl, rfl, rfl, rfl, rfl, rfl, rfl, trivial⟩, rfl, rfl⟩⟩
  · rintro m S' ⟨lf, ord, s, gs, rfl, rfl, hI, hgs, hsh, hph, hbk, hrg, hord, hlen⟩
    walk_at "M"
    refine ⟨[], rfl, Nat.zero_le _, ?_⟩
    refine op_neE (ds := lf.map .int) (.inr ⟨l, _, rfl, rfl, by simp⟩) lay_ints ?_
    walk_at "M"
    rw [List.isEmpty_map]
    cases lf with
    | nil =>
      refine ite_in (fun h => nomatch h) (fun _ => ?_)
      have ho : ord = ordL (leftOf st).length (leftOf st) := by rw [← hord]; exact (List.append_nil ord).symm
      refine seq_next ?_
      refine Wp.freeze (pre := []) (loc := [(N "order", .dat (.lst (ord.map .int))), (N "shut", .obj b), (N "book", .obj a)]) rfl ⟨.inr ⟨rfl, rfl⟩, .inl rfl, .inl rfl, trivial⟩ ?_
      refine Wp.freeze (pre := []) (loc := [(N "order", .dat (.lst (ord.map .int))), (N "shut", .dat (.lst (s.sh.map .int))), (N "book", .obj a)]) rfl ⟨.inl rfl, .inr ⟨rfl, rfl⟩, .inl rfl, trivial⟩ ?_
      refine Wp.freeze (pre := []) (loc := [(N "order", .dat (.lst (ord.map .int))), (N "shut", .dat (.lst (s.sh.map .int))), (N "book", .dat (.dct (bookD s.bk)))]) rfl ⟨.inl rfl, .inl rfl, .inr ⟨rfl, rfl⟩, trivial⟩ ?_
      refine Wp.freeze (pre := []) (loc := [(N "order", .dat (.lst (ord.map .int))), (N "shut", .dat (.lst (s.sh.map .int))), (N "book", .dat (.dct (bookD s.bk)))]) rfl ⟨.inl rfl, .inl rfl, .inl rfl, trivial⟩ ?_
      walk_at "M"
      refine ⟨[_, _, _], rfl, Nat.le_of_ble_eq_true rfl, ?_⟩
      walk_at "M"
      rw [ho]
      exact fin s hI _
    | cons x r =>
      refine ite_in (fun _ => ?_) (fun h => nomatch h)
      have hst := step _ s hI (fun h => nomatch h)
      have hbm : bestW (x :: r) ∈ x :: r := bestW_mem (fun h => nomatch h)
      walk_at "M"
      refine sb_lv (ds := (x :: r).map .int) (i := 0) (d := .int x) (.inr ⟨l, rfl, by simp⟩) (by decide) (by decide) rfl ?_ (by intro _ _; with_unfolding_all rfl)
      walk_at "M"
      refine ex_forH (x :: r) (fun z => .int z) (fun j S' => S' = ⟨[(N "place", .int (((x :: r).take j).foldl pickW x)), (N "rulers", .gens (rulersAt S.gens.length)), (N "left", .obj l), (N "book", .obj a), (N "shut", .obj b), (N "order", .obj d), (N "names", .dat namesD), (N "starts", .dat (natsD st))], (d, .lst (ord.map .int)) :: (b, .lst (s.sh.map .int)) :: (a, .dct (bookD s.bk)) :: S.mu, gs⟩) ?_ (fun _ _ hc h => Wp.cov hc h)
      walk_at "M"
      refine ⟨l, .lst ((x :: r).map .int), [(d, .lst (ord.map .int)), (b, .lst (s.sh.map .int)), (a, .dct (bookD s.bk))], S.mu, ?_, rfl, ⟨_, rfl, ⟨⟨rfl, rfl, rfl, rfl, rfl, rfl, rfl, rfl, trivial⟩, rfl, rfl⟩⟩, ?_, ?_⟩
      · have := fun (y : Str) (p : Pos) => srcH_list (c := c) (ds := (x :: r).map .int) (x := y) (p := p) (b := l)
        rw [List.map_map] at this
        exact this _ _
      · rintro j o S' ho rfl
        have hom : o ∈ x :: r := List.mem_of_getElem? ho
        have hor := hrg o hom
        have hpm : ((x :: r).take j).foldl pickW x ∈ x :: r := pickW_mem (fun y hy => List.mem_of_mem_take hy) (.head _)
        have hpr := hrg _ hpm
        have hnext : ((x :: r).take (j + 1)).foldl pickW x = pickW (((x :: r).take j).foldl pickW x) o := take_foldl ho
        generalize ((x :: r).take j).foldl pickW x = p at hpr hnext ⊢
        refine asg_name (by walk_at "F") ?_
        walk_at "M"
        refine sb_list (ds := NM.map .str) (i := o + 1) (by omega) (by omega) (names_at (by omega) (by omega)) ?_ (by intro _ _; with_unfolding_all rfl)
        walk_at "M"
        refine sb_list (ds := NM.map .str) (i := p + 1) (by omega) (by omega) (names_at (by omega) (by omega)) ?_ (by intro _ _; with_unfolding_all rfl)
        walk_at "M"
        refine strcoll_spec (n := n + 9) hY ?_
        walk_at "M"
        refine ite_in (fun hb => ?_) (fun hb => ?_)
        · rw [pickW, if_pos (of_decide_eq_true hb)] at hnext
          walk_at "M"
          refine lk_next rfl ?_
          rw [hnext]
          exact ⟨⟨rfl, rfl, rfl, rfl, rfl, rfl, rfl, rfl, trivial⟩, rfl, rfl⟩
        · rw [pickW, if_neg (of_decide_eq_false hb)] at hnext
          walk_at "M"
          refine lk_next rfl ?_
          rw [hnext]
          exact ⟨⟨rfl, rfl, rfl, rfl, rfl, rfl, rfl, rfl, trivial⟩, rfl, rfl⟩
      · rintro S' rfl
        refine ⟨rfl, ?_⟩
        rw [List.take_length]
        have hbr := hrg _ hbm
        rw [show (x :: r).foldl pickW x = bestW (x :: r) from rfl]
        generalize hlf : x :: r = lf at hbm hbr hst hord hlen hgs hrg ⊢
        generalize hpb : bestW lf = p at hbm hbr hst ⊢
        walk_at "M"
        refine ev_meth PySem.F.slot_list_remove PySem.F.plainAttrs_list PySem.F.type_list_remove ?_ (by rfl) (by rfl) (by rfl)
        walk_at "M"
        refine ⟨me_lv (ds := lf.map .int) (.inr ⟨l, rfl, by simp [AS.rew]⟩), ?_⟩
        walk_at "M"
        refine cl_remove (pre := [(d, .lst (ord.map .int)), (b, .lst (s.sh.map .int)), (a, .dct (bookD s.bk))]) (post := S.mu) rfl (by omega) hbm ?_
        refine ⟨rfl, ?_⟩
        walk_at "M"
        refine ev_meth PySem.F.slot_list_append PySem.F.plainAttrs_list PySem.F.type_list_append ?_ (by rfl) (by rfl) (by rfl)
        walk_at "M"
        refine ⟨me_lv (ds := ord.map .int) (.inr ⟨d, rfl, .head _⟩), ?_⟩
        walk_at "M"
        refine cl_append (pre := []) rfl (by rw [List.length_map]; omega) ?_
        refine ⟨rfl, ?_⟩
        walk_at "M"
        obtain ⟨Iw, k0, i0, iμ, iout, istep⟩ := hst
        have hel : (lf.erase p).length = lf.length - 1 := List.length_erase_of_mem hbm
        have hpos : 0 < lf.length := List.length_pos_of_mem hbm
        refine lead_spec (n := n) (g0 := S.gens.length) (I := Iw) (E := I (lf.erase p)) (k0 := k0) (B := 100 * (lf.length - 1)) (s0 := s) (pre := [(d, MO.lst (ord.map .int ++ [.int p]))]) (post := (l, MO.lst ((lf.erase p).map .int)) :: S.mu) hY i0 iμ iout istep rfl (by rw [show 100 + 100 * (lf.length - 1) = 100 * lf.length by omega]; exact hgs) hsh hph hbk ?_
        intro s' gs' hE hgs' h1 h2 h3
        refine ⟨rfl, ?_⟩
        walk_at "M"
        refine wk_next (m := (lf.erase p).length) (by omega) ⟨lf.erase p, ord ++ [p], s', gs', rfl, rfl, hE, by rw [hel]; exact hgs', h1, h2, h3, fun y hy => hrg y (List.mem_of_mem_erase hy), ?_, by rw [List.length_append, hel, List.length_singleton]; omega⟩ ?_
        · rw [← hord, List.append_assoc]
          congr 1
          rw [hel, ← hpb]
          cases hk : lf.length with
          | zero => omega
          | succ k => rfl
        · refine ⟨⟨rfl, rfl, rfl, rfl, rfl, rfl, rfl, trivial⟩, ?_, rfl⟩
          rw [List.map_append]; rfl
noncomputable def numOf (xs : List Int) (k : Nat) : Int := [(392 : Int), 97, 439, 405].getD k 0 + (pickL xs (some (k : Int)) none (some 4)).sum
noncomputable def numsOf (xs : List Int) : List Int := (List.range 4).map (numOf xs)
noncomputable def rwsOf (nums : List Int) : List (List Int) := nums.map rowOf
noncomputable def stOf (nums : List Int) : List Nat := (List.range 4).map fun k => (nums.getD k 0 / 320 % 2).toNat + [0, 1, 0, 0].getD k 0
noncomputable def keysL : List (List (Int × Int)) := [[(0, -1), (1, 1)], [(1, -1)], [(0, 1), (1, -1)], [(1, 1)]]
noncomputable def leftL (rws : List (List Int)) (st m : List Nat) : List Int := (List.range 4).map fun k => ((cameOf rws st m).getD k 0 : Nat) - ((m.getD k 0 : Nat) : Int)
noncomputable def shutL (rws : List (List Int)) (st m : List Nat) : List Int := (List.range 4).map fun k => if ((leftL rws st m).getD k 0 == 0) = true then 0 else if ((rws.getD k []).getD 0 0 == 0) = true then 2 else 1
noncomputable def orderL (st : List Nat) : List Int := [2, 3, 0, 1].flatMap fun k => (List.range (st.getD k 0)).map fun _ => (k : Int)
noncomputable def initL (rws : List (List Int)) : LS := ⟨[], [0, 0, 0, 0], rws.map .fresh⟩
structure PlainOk (rws : List (List Int)) (st : List Nat) : Prop where
  len : ∀ p, (rws.getD p []).length ≤ 100
  pos : ∀ p, p < 4 → 0 < (rws.getD p []).length
  lf : (leftOf st).length ≤ 9
  out : ∃ K, K < 99 ∧ itM rws st (K + 1) = itM rws st K ∧ (∀ k p, (itM rws st k).getD p 0 ≤ 100 ∧ (cameOf rws st (itM rws st k)).getD p 0 ≤ 100) ∧
    (∃ (I : Nat → LS → Prop) (k0 : Nat), I k0 (initL rws) ∧ k0 < 99 ∧
      (∀ k s, I k s → ∀ p, p < 4 → freeAt (hereL s.bk st) s.sh p = true → (∀ x ph', (s.ph.getD p .done).tell = .says x ph' → x ≠ 0) ∧ ∃ k', k' < k ∧ I k' (nextL s p)) ∧
      ∀ k s, I k s → freeOf (hereL s.bk st) s.sh = [] → EqD 9 (tc3 s.bk s.sh (hereL s.bk st)) (tc3 (bookOf (callsOf rws (itM rws st K))) (shutL rws st (itM rws st K)) (leftL rws st (itM rws st K)))) ∧
    (∃ I : List Int → LS → Prop, I (leftOf st) (initL rws) ∧ (∀ lf s, I lf s → lf ≠ [] → LeadOk s (bestW lf) (I (lf.erase (bestW lf)))) ∧
      ∀ s, I [] s → EqD 9 (tc3 s.bk s.sh (ordL (leftOf st).length (leftOf st))) (tc3 (bookOf (callsOf rws (itM rws st K))) (shutL rws st (itM rws st K)) (orderL st)))
theorem filterMap_map {α β : Type} (f : α → β) (l : List α) (is : List Nat) : is.filterMap ((l.map f)[·]?) = (is.filterMap (l[·]?)).map f := by
  induction is with
  | nil => rfl
  | cons i is ih =>
    rw [List.filterMap_cons, List.filterMap_cons, List.getElem?_map]
    cases l[i]? with
    | none => exact ih
    | some x => exact congrArg (f x :: ·) ih
theorem pick_map {α β : Type} (f : α → β) (l : List α) (lo hi st : Option Int) : pickL (l.map f) lo hi st = (pickL l lo hi st).map f := by
  unfold pickL
  rw [List.length_map, filterMap_map]
local macro_rules | `(tactic| walk_at "N") => `(tactic| repeat (first | walk_at "M1" | refine ⟨[], rfl, Nat.le_of_ble_eq_true rfl, ?_⟩ | refine ⟨[_], rfl, Nat.le_of_ble_eq_true rfl, ?_⟩ | refine ⟨[_, _], rfl, Nat.le_of_ble_eq_true rfl, ?_⟩ | refine ⟨[_, _, _], rfl, Nat.le_of_ble_eq_true rfl, ?_⟩ | refine ⟨[_, _, _, _], rfl, Nat.le_of_ble_eq_true rfl, ?_⟩ | refine ⟨[_, _, _, _, _, _], rfl, Nat.le_of_ble_eq_true rfl, ?_⟩))
theorem c4_at {a b d e : Int} {k : Nat} (h : k < 4) : [D.int a, .int b, .int d, .int e][((k : Nat) : Int).toNat]? = some (.int ([a, b, d, e].getD k 0)) := by
  rcases lt4 h with rfl | rfl | rfl | rfl
  · rfl
  · rfl
  · rfl
  · rfl
theorem st_cast {x : Int} {k : Nat} (h : k < 4) : x / 320 % 2 + [(0 : Int), 1, 0, 0].getD k 0 = (((x / 320 % 2).toNat + [0, 1, 0, 0].getD k 0 : Nat) : Int) := by
  rcases lt4 h with rfl | rfl | rfl | rfl
  · show x / 320 % 2 + 0 = (((x / 320 % 2).toNat + 0 : Nat) : Int); omega
  · show x / 320 % 2 + 1 = (((x / 320 % 2).toNat + 1 : Nat) : Int); omega
  · show x / 320 % 2 + 0 = (((x / 320 % 2).toNat + 0 : Nat) : Int); omega
  · show x / 320 % 2 + 0 = (((x / 320 % 2).toNat + 0 : Nat) : Int); omega
noncomputable def lineD (t : Str × Int × Str) : D := .tup [.str t.1, .int t.2.1, .str t.2.2]
noncomputable def linesL : List (Str × Int × Str) := [(N "~", 0, N "<low>"), (N "w", 8, N "go"), (N "w", 9, N "go"), (N "w", 10, N "go"), (N "w", 11, N "go"), (N "~", 0, N "high")]
theorem lines_ok : ∀ t ∈ linesL, 0 ≤ t.2.1 ∧ t.2.1 < 10 ^ 10 ∧ t.1.length ≤ 1000 ∧ t.2.2.length ≤ 1000 ∧ PyData.strOk t.1 = true := by decide +kernel
theorem lines_names : (linesL.map fun t => D.str (fss t.1 t.2.1 t.2.2)) = NM.map D.str := by
  obtain ⟨h1, h2, h3, h4, h5, h6⟩ := fss_all
  show [D.str _, D.str _, D.str _, D.str _, D.str _, D.str _] = _
  rw [h1, h2, h3, h4, h5, h6]; rfl
theorem names_lay : (pyOf namesD).canLay0 = true := by decide +kernel
theorem names_dep : (pyOf namesD).depth ≤ 64 := by decide +kernel
theorem names_eqv : (!PyData.eqv (pyOf namesD) (pyOf namesD)) = false := by decide +kernel
noncomputable def keyAt (m : Int) : List (Int × Int) := if m = 0 then [(0, -1), (1, 1)] else if m = 1 then [(1, -1)] else if m = 2 then [(0, 1), (1, -1)] else [(1, 1)]
theorem keyAt_ok (m : Int) : (∀ k ∈ keyAt m, k.1 = 0 ∨ k.1 = 1) ∧ (∀ k ∈ keyAt m, k.2 = 1 ∨ k.2 = -1) ∧ (keyAt m).length ≤ 10 := by
  unfold keyAt
  split
  · decide
  · split
    · decide
    · split <;> decide
theorem keys_at {m : Int} (h0 : 0 ≤ m) (h4 : m < 4) : [D.lst [.tup [.int 0, .int (-1)], .tup [.int 1, .int 1]], .lst [.tup [.int 1, .int (-1)]], .lst [.tup [.int 0, .int 1], .tup [.int 1, .int (-1)]], .lst [.tup [.int 1, .int 1]]][m.toNat]? = some (ksD (keyAt m)) := by
  rcases four h0 h4 with rfl | rfl | rfl | rfl <;> rfl
theorem law_core {c : Cx} {oc : Value} {od : Option Addr} {fd : FuncData} {osl : Array (Option Value)} {body : List Stmt} (ho : (KK c.w.params).lookup 149 = some ⟨oc, od, .func fd, osl⟩) (hbody : fd.body = .stmts body) {cd : Value} {Y : Fm} {f L : Addr} {S : AS} {Q : Fl → AS → Prop} {xs : List Int} {n : Nat}
    (K : Kn Y { fd with code := cd } f L) (hY : Y.n = n + 11) (hl : xs.length ≤ 100) (hP : PlainOk (rwsOf (numsOf xs)) (stOf (numsOf xs))) (h : ∀ S1, Q (.ret (.bool true)) S1) :
    Ex c Y ⟨[(N "script", .dat (intL xs))], S.mu, S.gens⟩ (execs body Y.env) Q := by
  have key : ∀ {x : Obj}, (KK c.w.params).lookup 149 = some x → (⟨oc, od, .func fd, osl⟩ : Obj) = x := fun h => Option.some.inj (ho.symm.trans h)
  have e := key (by with_unfolding_all rfl)
  cases e
  cases hbody
  clear key
  walk_at "M"
  refine cl_sum ?_
  walk_at "M"
  refine ex_assign (by walk_at "F") ?_ ?_
  rotate_left
  · rw [K.env]; with_unfolding_all rfl
  refine' ev_compM (List.range 4) (fun k => .int (k : Nat)) (fun k => some (.int (numOf xs k))) ?hk ?hclos ?hcell ?hnames ?hmain ?hs
  case hk => rfl
  case hclos => rw [K.env]; with_unfolding_all rfl
  case hcell => decide
  case hnames => decide
  case hs => intro _; rfl
  walk_at "M"
  refine cl_range ?_ (by decide)
  refine ⟨src_range (by decide), by decide, ⟨[(N "script", .dat (intL xs))], ⟨⟨rfl, by walk_at "C"⟩, trivial⟩, ⟨rfl, trivial⟩, fun C k hk => ?_⟩, ?_⟩
  · have hk' := List.mem_range.mp hk
    refine asg_name (by walk_at "F") (ts_nil ?_)
    show Ev _ _ _ _ _
    walk_at "N"
    refine sb_list (i := (k : Nat)) (by omega) (by omega) (c4_at (by omega)) ?_ (by intro _ _; with_unfolding_all rfl)
    walk_at "M"
    refine evp_some ?_
    walk_at "M"
    refine ⟨_, rfl, evp_none (evp_some ?_)⟩
    walk_at "M"
    refine ⟨_, rfl, xs.map .int, rfl, by rw [List.length_map]; omega, by decide, ?_⟩
    rw [pick_map]
    walk_at "M"
    refine cl_sum ?_
    walk_at "M"
    exact ⟨⟨_, rfl, rfl⟩, ⟨⟨rfl, trivial⟩, rfl, rfl⟩⟩
  rw [filterMap_some, show ((List.range 4).map fun k => D.int (numOf xs k)) = (numsOf xs).map .int from (List.map_map ..).symm]
  have hnl : (numsOf xs).length = 4 := by rw [numsOf, List.length_map, List.length_range]
  generalize numsOf xs = ns at hnl hP ⊢
  walk_at "M"
  refine ex_assign (by walk_at "F") ?_ ?_
  rotate_left
  · rw [K.env]; with_unfolding_all rfl
  refine' ev_compM ns (fun x => .int x) (fun x => some (intL (rowOf x))) ?hk1 ?hclos1 ?hcell1 ?hnames1 ?hmain1 ?hs1
  case hk1 => rfl
  case hclos1 => rw [K.env]; with_unfolding_all rfl
  case hcell1 => decide
  case hnames1 => decide
  case hs1 => intro _; rfl
  walk_at "M"
  refine ⟨src_map .int ns, by omega, ⟨[], trivial, trivial, fun C x hx => ?_⟩, ?_⟩
  · refine asg_name (by walk_at "F") (ts_nil ?_)
    show Ev _ _ _ _ _
    walk_at "M"
    refine row_spec (n := n + 10) hY ?_
    exact ⟨⟨_, rfl, rfl⟩, ⟨trivial, rfl, rfl⟩⟩
  rw [filterMap_some, show (ns.map fun x => intL (rowOf x)) = (rwsOf ns).map intL by rw [rwsOf, List.map_map]; rfl]
  walk_at "M"
  refine ex_assign (by walk_at "F") ?_ ?_
  rotate_left
  · rw [K.env]; with_unfolding_all rfl
  refine' ev_compM (List.range 4) (fun k => .int (k : Nat)) (fun k => some (.int (((ns.getD k 0 / 320 % 2).toNat + [0, 1, 0, 0].getD k 0 : Nat) : Int))) ?hk2 ?hclos2 ?hcell2 ?hnames2 ?hmain2 ?hs2
  case hk2 => rfl
  case hclos2 => rw [K.env]; with_unfolding_all rfl
  case hcell2 => decide
  case hnames2 => decide
  case hs2 => intro _; rfl
  walk_at "M"
  refine cl_range ?_ (by decide)
  refine ⟨src_range (by decide), by decide, ⟨[(N "numbers", .dat (.lst (ns.map .int)))], ⟨⟨rfl, by walk_at "C"⟩, trivial⟩, ⟨rfl, trivial⟩, fun C k hk => ?_⟩, ?_⟩
  · have hk' := List.mem_range.mp hk
    refine asg_name (by walk_at "F") (ts_nil ?_)
    show Ev _ _ _ _ _
    walk_at "N"
    refine sb_list (ds := ns.map .int) (i := (k : Nat)) (by omega) (by omega) (int_at (by omega)) ?_ (by intro _ _; with_unfolding_all rfl)
    walk_at "N"
    refine sb_list (i := (k : Nat)) (by omega) (by omega) (c4_at (by omega)) ?_ (by intro _ _; with_unfolding_all rfl)
    walk_at "M"
    refine ⟨⟨_, rfl, congrArg (fun i => AV.dat (.int i)) ?_⟩, ⟨⟨rfl, trivial⟩, rfl, rfl⟩⟩
    exact st_cast hk'
  rw [filterMap_some, show ((List.range 4).map fun k => D.int (((ns.getD k 0 / 320 % 2).toNat + [0, 1, 0, 0].getD k 0 : Nat) : Int)) = (stOf ns).map fun k => .int (k : Nat) by rw [stOf, List.map_map]; rfl]
  have hrl : (rwsOf ns).length = 4 := by rw [rwsOf, List.length_map, hnl]
  have hsl : (stOf ns).length = 4 := by rw [stOf, List.length_map, List.length_range]
  generalize rwsOf ns = rws at hP hrl ⊢
  generalize stOf ns = st at hP hsl ⊢
  walk_at "N"
  refine' ex_compM linesL (fun t => .dat (lineD t)) (fun t => some (.str (fss t.1 t.2.1 t.2.2))) ?F3 ?hk3 ?hclos3 ?hcell3 ?hnames3 ?hsw3 ?hmain3 ?hs3
  case F3 => walk_at "F"
  case hk3 => rfl
  case hclos3 => rw [K.env]; with_unfolding_all rfl
  case hcell3 => decide
  case hnames3 => decide
  case hsw3 => rw [K.env]; with_unfolding_all rfl
  case hs3 => intro _; rfl
  walk_at "M"
  refine ⟨src_map lineD linesL, by decide, ⟨[], trivial, trivial, fun C t ht => ?_⟩, ?_⟩
  · obtain ⟨l1, l2, l3, l4, l5⟩ := lines_ok t ht
    refine asg_name (by walk_at "F") (ts_nil ?_)
    show Ev _ _ _ _ _
    walk_at "M"
    refine fss_spec (n := n + 10) (x := t.1) (i := t.2.1) (y := t.2.2) hY l1 l2 l3 l4 l5 ?_
    exact ⟨⟨_, rfl, rfl⟩, ⟨trivial, rfl, rfl⟩⟩
  rw [filterMap_some, lines_names]
  walk_at "N"
  refine op_neN (d := namesD) (e := namesD) (.inl rfl) (.inl rfl) names_lay names_lay names_dep ?_
  rw [names_eqv]
  walk_at "M"
  refine ite_in (fun h => nomatch h) (fun _ => ?_)
  walk_at "N"
  refine sb_list (i := xs.sum % 4) (by omega) (by omega) (keys_at (by omega) (by omega)) ?_ (by intro _ _; with_unfolding_all rfl)
  have hkA := keyAt_ok (xs.sum % 4)
  generalize keyAt (xs.sum % 4) = ks at hkA ⊢
  walk_at "M"
  obtain ⟨Kf, hK, hfix, hB, hall, hone⟩ := hP.out
  refine ex_unpack ?_ (by rfl) (by rfl)
  walk_at "M"
  refine least_spec (n := n + 9) (rws := rws) (st := st) (K := Kf) hY hrl hP.len hsl hK hfix hB ?_
  have hml := itM_len rws st Kf
  have hcl := came_len rws st (itM rws st Kf)
  have hmB := fun p => (hB Kf p).1
  have hcB := fun p => (hB Kf p).2
  generalize hm : itM rws st Kf = m at hml hcl hmB hcB hall hone ⊢
  clear hfix hB
  refine asg_names (ds := [natsD m, natsD (cameOf rws st m)]) (.cons (by walk_at "F") (.cons (by walk_at "F") .nil)) rfl ?_ (by rfl) (by rfl)
  walk_at "M"
  refine book_spec (n := n + 9) (rws := rws) (mv := m) hY hrl hP.len hml hmB ?_
  walk_at "M"
  refine ex_assign (by walk_at "F") ?_ ?_
  rotate_left
  · rw [K.env]; with_unfolding_all rfl
  refine' ev_compM (List.range 4) (fun k => .int (k : Nat)) (fun k => some (.int (((cameOf rws st m).getD k 0 : Nat) - ((m.getD k 0 : Nat) : Int)))) ?hk4 ?hclos4 ?hcell4 ?hnames4 ?hmain4 ?hs4
  case hk4 => rfl
  case hclos4 => rw [K.env]; with_unfolding_all rfl
  case hcell4 => decide
  case hnames4 => decide
  case hs4 => intro _; rfl
  walk_at "M"
  refine cl_range ?_ (by decide)
  refine ⟨src_range (by decide), by decide, ⟨[(N "came", .dat (natsD (cameOf rws st m))), (N "moves", .dat (natsD m))], ⟨⟨rfl, by walk_at "C"⟩, ⟨rfl, by walk_at "C"⟩, trivial⟩, ⟨rfl, rfl, trivial⟩, fun C k hk => ?_⟩, ?_⟩
  · have hk' := List.mem_range.mp hk
    refine asg_name (by walk_at "F") (ts_nil ?_)
    show Ev _ _ _ _ _
    walk_at "M"
    refine sb_list (ds := (cameOf rws st m).map fun k => .int (k : Nat)) (i := (k : Nat)) (by omega) (by omega) (nats_at (by omega)) ?_ (by intro _ _; with_unfolding_all rfl)
    walk_at "M"
    refine sb_list (ds := m.map fun k => .int (k : Nat)) (i := (k : Nat)) (by omega) (by omega) (nats_at (by omega)) ?_ (by intro _ _; with_unfolding_all rfl)
    walk_at "M"
    exact ⟨⟨_, rfl, rfl⟩, ⟨⟨rfl, rfl, trivial⟩, rfl, rfl⟩⟩
  rw [filterMap_some, show ((List.range 4).map fun k => D.int (((cameOf rws st m).getD k 0 : Nat) - ((m.getD k 0 : Nat) : Int))) = (leftL rws st m).map .int by rw [leftL, List.map_map]; rfl]
  have hll : (leftL rws st m).length = 4 := by rw [leftL, List.length_map, List.length_range]
  walk_at "M"
  refine' ex_compM (List.range 4) (fun k => .int (k : Nat)) (fun k => some (.int (if ((leftL rws st m).getD k 0 == 0) = true then 0 else if ((rws.getD k []).getD 0 0 == 0) = true then 2 else 1))) ?F5 ?hk5 ?hclos5 ?hcell5 ?hnames5 ?hsw5 ?hmain5 ?hs5
  case F5 => walk_at "F"
  case hk5 => rfl
  case hclos5 => rw [K.env]; with_unfolding_all rfl
  case hcell5 => decide
  case hnames5 => decide
  case hsw5 => rw [K.env]; with_unfolding_all rfl
  case hs5 => intro _; rfl
  walk_at "M"
  refine cl_range ?_ (by decide)
  refine ⟨src_range (by decide), by decide, ⟨[(N "left", .dat (.lst ((leftL rws st m).map .int))), (N "rows", .dat (rowsD rws))], ⟨⟨rfl, by walk_at "C"⟩, ⟨rfl, by walk_at "C"⟩, trivial⟩, ⟨rfl, rfl, trivial⟩, fun C k hk => ?_⟩, ?_⟩
  · have hk' := List.mem_range.mp hk
    have hrp := hP.pos k hk'
    refine asg_name (by walk_at "F") (ts_nil ?_)
    show Ev _ _ _ _ _
    refine ev_ite ?_
    walk_at "M"
    refine sb_list (ds := (leftL rws st m).map .int) (i := (k : Nat)) (by omega) (by omega) (int_at (by omega)) ?_ (by intro _ _; with_unfolding_all rfl)
    walk_at "M"
    refine ite_in (fun hb => ?_) (fun hb => ?_)
    · walk_at "M"
      exact ⟨⟨_, rfl, by rw [if_pos hb]⟩, ⟨⟨rfl, rfl, trivial⟩, rfl, rfl⟩⟩
    refine ev_ite ?_
    walk_at "M"
    refine sb_list (ds := rws.map intL) (i := (k : Nat)) (by omega) (by omega) (rows_at (by omega)) ?_ (by intro _ _; with_unfolding_all rfl)
    walk_at "M"
    refine sb_list (ds := (rws.getD k []).map .int) (i := ((0 : Nat) : Int)) (by omega) (by omega) (int_at hrp) ?_ (by intro _ _; with_unfolding_all rfl)
    walk_at "M"
    refine ite_in (fun hb2 => ?_) (fun hb2 => ?_)
    · walk_at "M"
      exact ⟨⟨_, rfl, by rw [if_neg (by rw [hb]; decide), if_pos hb2]⟩, ⟨⟨rfl, rfl, trivial⟩, rfl, rfl⟩⟩
    · walk_at "M"
      exact ⟨⟨_, rfl, by rw [if_neg (by rw [hb]; decide), if_neg (by rw [hb2]; decide)]⟩, ⟨⟨rfl, rfl, trivial⟩, rfl, rfl⟩⟩
  rw [filterMap_some, show ((List.range 4).map fun k => D.int (if ((leftL rws st m).getD k 0 == 0) = true then 0 else if ((rws.getD k []).getD 0 0 == 0) = true then 2 else 1)) = (shutL rws st m).map .int by rw [shutL, List.map_map]; rfl]
  obtain ⟨I, k0, i0, iμ, istep, ifin⟩ := hall
  obtain ⟨I1, j0, jstep, jfin⟩ := hone
  generalize shutL rws st m = shL at ifin jfin ⊢
  generalize leftL rws st m = lfL at ifin jfin ⊢
  generalize callsOf rws m = cs at ifin jfin ⊢
  walk_at "M"
  refine all_spec (n := n + 1) (rws := rws) (st := st) (ks := ks) (I := I) (k0 := k0) hY hrl hsl hkA.1 hkA.2.1 hkA.2.2 i0 iμ istep ?_
  intro kk s hs hfr gs
  have hE := ifin kk s hs hfr
  walk_at "N"
  refine op_neT (n := 8) hE (by decide) ?_
  walk_at "M"
  refine ite_in (fun h => nomatch h) (fun _ => ?_)
  walk_at "M"
  refine' ex_comp2 [2, 3, 0, 1] (fun k => .int (k : Nat)) (fun p => List.range (st.getD p 0)) (fun z => .int (z : Nat)) (fun p z => .int (p : Nat)) ?F6 ?hk6 ?hclos6 ?hcell6 ?hnames6 ?hsw6 ?hmain6 ?hs6 ?hs7
  case F6 => walk_at "F"
  case hk6 => rfl
  case hclos6 => rw [K.env]; with_unfolding_all rfl
  case hcell6 => decide
  case hnames6 => decide
  case hsw6 => rw [K.env]; with_unfolding_all rfl
  case hs6 => intro _; rfl
  case hs7 => intro _ _; rfl
  have hstl : ∀ p, p < 4 → st.getD p 0 ≤ 9 := fun p hp => by
    have e : (leftOf st).length = st.getD 0 0 + (st.getD 1 0 + (st.getD 2 0 + (st.getD 3 0 + 0))) := by
      simp [leftOf, show List.range 4 = [0, 1, 2, 3] from rfl]
    have := hP.lf
    rcases lt4 hp with rfl | rfl | rfl | rfl
    · omega
    · omega
    · omega
    · omega
  walk_at "N"
  refine ⟨src_map (fun k : Nat => .int (k : Nat)) [2, 3, 0, 1], ?_, ⟨[(N "starts", .dat (natsD st))], ⟨⟨rfl, by walk_at "C"⟩, trivial⟩, ⟨rfl, trivial⟩, fun C p hp => ?_⟩, ?_⟩
  · have a0 := hstl 0 (by decide)
    have a1 := hstl 1 (by decide)
    have a2 := hstl 2 (by decide)
    have a3 := hstl 3 (by decide)
    simp only [List.flatMap_cons, List.flatMap_nil, List.length_append, List.length_map, List.length_range, List.length_nil]
    omega
  · have hp' : p < 4 := by
      simp only [List.mem_cons, List.not_mem_nil, or_false] at hp
      omega
    have hsp := hstl p hp'
    refine asg_name (by walk_at "F") ?_
    walk_at "M"
    refine sb_list (ds := st.map fun k => .int (k : Nat)) (i := (p : Nat)) (by omega) (by omega) (nats_at (by omega)) ?_ (by intro _ _; with_unfolding_all rfl)
    walk_at "M"
    refine cl_range ?_ (by omega)
    rw [Int.toNat_natCast]
    refine ⟨src_range (by omega), [(N "k", .int (p : Nat)), (N "starts", .dat (natsD st))], ⟨rfl, trivial⟩, ⟨⟨rfl, rfl, trivial⟩, rfl, rfl⟩, fun z hz => ?_⟩
    refine asg_name (by walk_at "F") ?_
    walk_at "M"
    exact ⟨rfl, ⟨⟨rfl, rfl, trivial⟩, rfl, rfl⟩⟩
  rw [show ([2, 3, 0, 1].flatMap fun p => (List.range (st.getD p 0)).map fun _ => D.int ((p : Nat) : Int)) = (orderL st).map .int by rw [orderL, List.map_flatMap]; congr 1; funext p; rw [List.map_map]; rfl]
  walk_at "M"
  refine one_spec (n := n) (rws := rws) (st := st) (I := I1) hY hrl hsl hP.lf j0 jstep ?_
  intro s2 hs2 gs2
  have hE2 := jfin s2 hs2
  walk_at "N"
  refine op_eqT (n := 9) hE2 (by decide) ?_
  walk_at "M"
  exact h _
noncomputable def S6 (f : Nat → Int) : Int := f 0 + f 1 + f 2 + f 3 + f 4 + f 5
noncomputable def nm (q : Nat) : Str := nmAt (q : Int)
theorem nm_inj : ∀ q < 6, ∀ r < 6, nm q = nm r → q = r := by decide +kernel
theorem nm_all : NM = [nm 0, nm 1, nm 2, nm 3, nm 4, nm 5] := by decide +kernel
theorem nm_mem : ∀ q < 6, nm q ∈ NM := by decide +kernel
theorem nm_of {k : Str} (h : k ∈ NM) : ∃ q, q < 6 ∧ k = nm q := by
  rw [nm_all] at h
  simp only [List.mem_cons, List.not_mem_nil, or_false] at h
  rcases h with e | e | e | e | e | e
  · exact ⟨0, by decide, e⟩
  · exact ⟨1, by decide, e⟩
  · exact ⟨2, by decide, e⟩
  · exact ⟨3, by decide, e⟩
  · exact ⟨4, by decide, e⟩
  · exact ⟨5, by decide, e⟩
theorem getK_out {α : Type} : ∀ {t : List (Str × α)} {k : Str}, k ∉ t.map Prod.fst → getK t k = none
  | [], _, _ => rfl
  | p :: t, k, h => by
    rw [List.map_cons, List.mem_cons, not_or] at h
    rw [getK_cons, if_neg (fun e => h.1 e.symm), getK_out h.2]
theorem getK_in {α : Type} {t : List (Str × α)} {k : Str} {v : α} (h : getK t k = some v) : k ∈ t.map Prod.fst := by
  apply Classical.byContradiction
  intro hn
  rw [getK_out hn] at h
  cases h
theorem S6_put (f : Nat → Int) {q0 : Nat} (h : q0 < 6) (v : Int) (hz : f q0 = 0) : S6 (fun q => if q = q0 then v else f q) = v + S6 f := by
  unfold S6
  rcases lt6 h with rfl | rfl | rfl | rfl | rfl | rfl
  · simp only [if_true, hz]; simp; omega
  · simp only [if_true, hz]; simp; omega
  · simp only [if_true, hz]; simp; omega
  · simp only [if_true, hz]; simp; omega
  · simp only [if_true, hz]; simp; omega
  · simp only [if_true, hz]; simp; omega
theorem S6_congr {f g : Nat → Int} (h : ∀ q, q < 6 → f q = g q) : S6 f = S6 g := by
  unfold S6
  rw [h 0 (by decide), h 1 (by decide), h 2 (by decide), h 3 (by decide), h 4 (by decide), h 5 (by decide)]
theorem sum_S6 {α : Type} (f : α → Int) : ∀ {t : List (Str × α)}, KN t → (t.map fun p => f p.2).sum = S6 fun q => ((getK t (nm q)).map f).getD 0
  | [], _ => rfl
  | p :: t, h => by
    have hnd := h.1
    rw [List.map_cons, List.nodup_cons] at hnd
    have ht : KN t := ⟨hnd.2, fun k hk => h.2 k (.tail _ hk)⟩
    obtain ⟨q0, hq, e⟩ := nm_of (h.2 p.1 (.head _))
    rw [List.map_cons, List.sum_cons, sum_S6 f ht, ← S6_put _ hq (f p.2) (by rw [← e, getK_out hnd.1]; rfl)]
    refine S6_congr fun q hq' => ?_
    rw [getK_cons]
    by_cases hqq : q = q0
    · subst hqq; rw [if_pos rfl, if_pos e]; rfl
    · rw [if_neg hqq, if_neg (fun h' => hqq (nm_inj q hq' q0 hq (h'.symm.trans e)))]
theorem foldl_sum (f : Str × Int → Int) : ∀ (t : List (Str × Int)) (a : Int), t.foldl (fun s p => s + f p) a = a + (t.map f).sum
  | [], a => (Int.add_zero a).symm
  | p :: t, a => by rw [List.foldl_cons, foldl_sum f t, List.map_cons, List.sum_cons, Int.add_assoc]
theorem sumT_S6 {t : List (Str × Int)} (h : KN t) : sumT t = S6 fun q => (getK t (nm q)).getD 0 := by
  rw [sumT, foldl_sum, Int.zero_add]
  have := sum_S6 (fun x : Int => x) h
  rw [this]
  refine S6_congr fun q _ => ?_
  cases getK t (nm q) <;> rfl
theorem getK_fold {β : Type} (g : Option Int → β → Int) : ∀ {u : List (Str × β)}, (u.map Prod.fst).Nodup → ∀ (n : List (Str × Int)) (k : Str), getK (u.foldl (fun n p => putK n p.1 (g (getK n p.1) p.2)) n) k = (match getK u k with | none => getK n k | some v => some (g (getK n k) v))
  | [], _, n, k => rfl
  | p :: u, hd, n, k => by
    rw [List.map_cons, List.nodup_cons] at hd
    rw [List.foldl_cons, getK_fold g hd.2, getK_cons, getK_put]
    by_cases e : p.1 = k
    · subst e
      rw [if_pos rfl, if_pos rfl, getK_out hd.1]
    · rw [if_neg e, if_neg (fun h => e h.symm)]
theorem getK_addC {t u : List (Str × Int)} (ht : KN t) (hu : KN u) (k : Str) : getK (addC t u) k = (match getK u k with | none => getK t k | some v => some ((getK t k).getD 0 + v)) := by
  unfold addC
  rw [getK_fold (fun o v => o.getD 0 + v) hu.1, getK_fold (fun _ v => v) ht.1]
  cases getK u k <;> cases getK t k <;> rfl
theorem getK_addC0 {t u : List (Str × Int)} (ht : KN t) (hu : KN u) (k : Str) : (getK (addC t u) k).getD 0 = (getK t k).getD 0 + (getK u k).getD 0 := by
  rw [getK_addC ht hu]
  cases getK u k with
  | none => exact (Int.add_zero _).symm
  | some v => rfl
theorem went_S6 {b : Book} (hb : BkOk b) (k : Str) : (getK (wentB b) k).getD 0 = S6 fun q => ((getK b (nm q)).map fun e => (getK e.cal k).getD 0).getD 0 := by
  rw [← sum_S6 (fun e : Ent => (getK e.cal k).getD 0) hb.1]
  have h : ∀ (l : Book) (w : List (Str × Int)), (∀ p ∈ l, KN p.2.cal) → KN w → (getK (l.foldl (fun w p => addC w p.2.cal) w) k).getD 0 = (getK w k).getD 0 + (l.map fun p => (getK p.2.cal k).getD 0).sum := by
    intro l
    induction l with
    | nil => intro w _ _; exact (Int.add_zero _).symm
    | cons p l ih =>
      intro w hl hw
      have hp := hl p (.head _)
      rw [List.foldl_cons, ih _ (fun q hq => hl q (.tail _ hq)) (hw.addC hp), getK_addC0 hw hp, List.map_cons, List.sum_cons, Int.add_assoc]
  rw [wentB, h b [] (fun p hp => hb.2 p.1 p.2 (getK_mem hb.1.1 hp)) KN.nil]
  exact Int.zero_add _
noncomputable def mkC (p : Nat) (z : Int) : Call := (clampI ((p : Int) + z) + 1, (p : Int), z)
noncomputable def cnt (P : List Call) (q : Nat) : Nat := P.countP fun k => k.2.1 + 1 == (q : Int)
structure EntIs (e : Ent) (P : List Call) : Prop where
  cc : e.cc = (((P.map fun k => k.2.2).filter fun z => decide (z > 0)).length : Nat)
  nc : e.nc = (P.length : Nat)
  tt : e.tt = (P.map fun k => k.2.2).sum
  ct : e.ct = (P.map fun k => 8 + k.2.1).sum
  kn : KN e.cal
  cal : ∀ q, q < 6 → getK e.cal (nm q) = if cnt P q = 0 then none else some ((cnt P q : Nat) : Int)
structure Chr (b : Book) (L : List Call) : Prop where
  kn : KN b
  none_ : ∀ g, g < 6 → getK b (nm g) = none → partOf L g = []
  some_ : ∀ g, g < 6 → ∀ e, getK b (nm g) = some e → partOf L g ≠ [] ∧ EntIs e (partOf L g)
theorem EntIs.zero : EntIs zeroE [] := ⟨rfl, rfl, rfl, rfl, KN.nil, fun q _ => rfl⟩
theorem Chr.nil : Chr [] [] := ⟨KN.nil, fun _ _ _ => rfl, fun g _ e h => by cases h⟩
theorem Chr.get {b : Book} {L : List Call} (h : Chr b L) {g : Nat} (hg : g < 6) : EntIs (getE b (nm g)) (partOf L g) := by
  unfold getE
  cases q : getK b (nm g) with
  | none => rw [h.none_ g hg q]; exact EntIs.zero
  | some e => exact (h.some_ g hg e q).2
theorem Chr.bk {b : Book} {L : List Call} (h : Chr b L) : BkOk b := ⟨h.kn, fun k e he => by
  obtain ⟨q, hq, rfl⟩ := nm_of (h.kn.2 k (getK_in he))
  exact (h.some_ q hq e he).2.kn⟩
theorem nm_eq_beq {p q : Nat} (hp : p < 4) (hq : q < 6) : ((p : Int) + 1 == (q : Int)) = decide (nm (p + 1) = nm q) := by
  by_cases e : p + 1 = q
  · subst e; simp
  · rw [decide_eq_false (fun h => e (nm_inj _ (by omega) _ hq h))]
    rw [beq_eq_false_iff_ne]; omega
theorem nm_succ (p : Nat) : nmAt ((p : Int) + 1) = nm (p + 1) := by rw [nm]; congr 1
theorem EntIs.add {t : Ent} {P : List Call} (h : EntIs t P) {p : Nat} (hp : p < 4) (g z : Int) : EntIs (addE t (callE (p : Int) z)) (P ++ [(g, (p : Int), z)]) := by
  have hkn : KN [(nm (p + 1), (1 : Int))] := KN.one (nm_mem (p + 1) (by omega))
  have e0 : (callE (p : Int) z).cal = [(nm (p + 1), 1)] := by rw [← nm_succ]; rfl
  refine ⟨?_, ?_, ?_, ?_, ?_, fun q hq => ?_⟩
  · show (if z > 0 then 1 else 0) + t.cc = _
    rw [h.cc, List.map_append, List.filter_append, List.length_append]
    show _ = ((_ + (List.filter _ [z]).length : Nat) : Int)
    by_cases hz : z > 0
    · rw [if_pos hz]; simp [hz]; omega
    · rw [if_neg hz]; simp [hz]
  · show 1 + t.nc = _
    rw [h.nc, List.length_append, List.length_singleton]; omega
  · show z + t.tt = _
    rw [h.tt, List.map_append, List.sum_append]
    simp; omega
  · show 8 + (p : Int) + t.ct = _
    rw [h.ct, List.map_append, List.sum_append]
    simp; omega
  · show KN (addC t.cal (callE (p : Int) z).cal)
    rw [e0]; exact h.kn.addC hkn
  · show getK (addC t.cal (callE (p : Int) z).cal) (nm q) = _
    have hc : cnt (P ++ [(g, (p : Int), z)]) q = cnt P q + (if nm (p + 1) = nm q then 1 else 0) := by
      rw [cnt, List.countP_append, List.countP_singleton]
      show cnt P q + (if ((p : Int) + 1 == (q : Int)) = true then 1 else 0) = _
      rw [nm_eq_beq hp hq]
      by_cases e : nm (p + 1) = nm q <;> simp [e]
    by_cases e : nm (p + 1) = nm q
    · have k1 : getK [(nm (p + 1), (1 : Int))] (nm q) = some 1 := by rw [getK_cons, if_pos e]
      rw [if_pos e] at hc
      rw [e0, getK_addC h.kn hkn, k1, hc, if_neg (Nat.succ_ne_zero _)]
      show some ((getK t.cal (nm q)).getD 0 + 1) = _
      rw [h.cal q hq]
      by_cases c0 : cnt P q = 0
      · rw [if_pos c0, c0]; rfl
      · rw [if_neg c0, Int.natCast_add]; rfl
    · have k1 : getK [(nm (p + 1), (1 : Int))] (nm q) = none := by rw [getK_cons, if_neg e]; rfl
      rw [if_neg e, Nat.add_zero] at hc
      rw [e0, getK_addC h.kn hkn, k1, hc]
      exact h.cal q hq
theorem clamp_nat (p : Nat) (z : Int) : ∃ g : Nat, g < 6 ∧ clampI ((p : Int) + z) + 1 = (g : Int) := by
  obtain ⟨h1, h2⟩ := clampI_range ((p : Int) + z)
  exact ⟨(clampI ((p : Int) + z) + 1).toNat, by omega, by omega⟩
theorem part_app (L : List Call) (k : Call) (g : Nat) : partOf (L ++ [k]) g = if k.1 = (g : Int) then partOf L g ++ [k] else partOf L g := by
  unfold partOf
  rw [List.filter_append]
  by_cases e : k.1 = (g : Int)
  · rw [if_pos e, List.filter_cons_of_pos (by simpa using e)]; rfl
  · rw [if_neg e, List.filter_cons_of_neg (by simpa using e), List.filter_nil, List.append_nil]
theorem Chr.file {b : Book} {L : List Call} (h : Chr b L) {p : Nat} (hp : p < 4) (z : Int) : Chr (fileB b (p : Int) z) (L ++ [mkC p z]) := by
  obtain ⟨g0, hg0, eg⟩ := clamp_nat p z
  have e1 : fileB b (p : Int) z = putK b (nm g0) (addE (getE b (nm g0)) (callE (p : Int) z)) := by unfold fileB; rw [eg]; rfl
  have e2 : mkC p z = ((g0 : Int), (p : Int), z) := by rw [mkC, eg]
  rw [e1, e2]
  refine ⟨h.kn.put (nm_mem g0 hg0), fun g hg hn => ?_, fun g hg e he => ?_⟩
  · rw [getK_put] at hn
    split at hn
    · cases hn
    · rename_i hne
      rw [part_app, if_neg (fun e => hne (by rw [show g0 = g from Int.ofNat.inj e]))]
      exact h.none_ g hg hn
  · rw [getK_put] at he
    split at he
    · rename_i heq
      cases he
      have : g = g0 := nm_inj g hg g0 hg0 heq
      subst this
      rw [part_app, if_pos rfl]
      exact ⟨by simp, (h.get hg).add hp _ z⟩
    · rename_i hne
      rw [part_app, if_neg (fun e => hne (by rw [show g0 = g from Int.ofNat.inj e]))]
      exact h.some_ g hg e he
theorem getK_foldv {α : Type} (f : Str → α) : ∀ (l : List Str) (t : List (Str × α)) (k : Str), getK (l.foldl (fun t n => putK t n (f n)) t) k = if k ∈ l then some (f k) else getK t k
  | [], t, k => by simp
  | x :: l, t, k => by
    rw [List.foldl_cons, getK_foldv f l, getK_put]
    by_cases h : k ∈ l
    · rw [if_pos h, if_pos (.tail _ h)]
    · rw [if_neg h]
      by_cases e : k = x
      · subst e; rw [if_pos rfl, if_pos (.head _)]
      · rw [if_neg e, if_neg (fun h' => (List.mem_cons.mp h').elim e h)]
theorem KN_foldv {α : Type} (f : Str → α) : ∀ (l : List Str) (t : List (Str × α)), (∀ k ∈ l, k ∈ NM) → KN t → KN (l.foldl (fun t n => putK t n (f n)) t)
  | [], t, _, h => h
  | x :: l, t, hl, h => KN_foldv f l _ (fun k hk => hl k (.tail _ hk)) (h.put (hl x (.head _)))
theorem callers_nm {P : List Call} (hP : ∀ k ∈ P, 0 ≤ k.2.1 ∧ k.2.1 ≤ 3) : ∀ x ∈ P.map (fun k => nmAt (k.2.1 + 1)), x ∈ NM := by
  intro x hx
  obtain ⟨k, hk, rfl⟩ := List.mem_map.mp hx
  have := hP k hk
  exact nmAt_mem (by omega) (by omega)
theorem callers_cnt {P : List Call} (hP : ∀ k ∈ P, 0 ≤ k.2.1 ∧ k.2.1 ≤ 3) {q : Nat} (hq : q < 6) : (P.map fun k => nmAt (k.2.1 + 1)).count (nm q) = cnt P q := by
  rw [List.count, List.countP_map]
  refine List.countP_congr fun k hk => ?_
  obtain ⟨h0, h3⟩ := hP k hk
  obtain ⟨p, hp⟩ : ∃ p : Nat, k.2.1 = (p : Int) := ⟨k.2.1.toNat, by omega⟩
  show (nmAt (k.2.1 + 1) == nm q) = true ↔ (k.2.1 + 1 == (q : Int)) = true
  rw [hp, nm_eq_beq (by omega) hq, nm_succ]
  simp
theorem EntIs.of {P : List Call} (hP : ∀ k ∈ P, 0 ≤ k.2.1 ∧ k.2.1 ≤ 3) : EntIs (entOf P) P where
  cc := rfl
  nc := rfl
  tt := rfl
  ct := rfl
  kn := KN_foldv _ _ _ (callers_nm hP) KN.nil
  cal := fun q hq => by
    show getK (tableOf P) (nm q) = _
    rw [tableOf, getK_foldv (fun n => (((P.map fun k => nmAt (k.2.1 + 1)).count n : Nat) : Int)), callers_cnt hP hq]
    by_cases h : cnt P q = 0
    · rw [if_pos h, if_neg]
      · rfl
      · rw [← List.count_pos_iff, callers_cnt hP hq]; omega
    · rw [if_neg h, if_pos]
      rw [← List.count_pos_iff, callers_cnt hP hq]; omega
theorem bookStep_get (cs : List Call) : ∀ (l : List Nat) (b : Book), (∀ g ∈ l, g < 6) → KN b → KN (l.foldl (bookStep cs) b) ∧ ∀ g, g < 6 → getK (l.foldl (bookStep cs) b) (nm g) = if g ∈ l ∧ partOf cs g ≠ [] then some (entOf (partOf cs g)) else getK b (nm g)
  | [], b, _, h => ⟨h, fun g _ => by simp⟩
  | x :: l, b, hl, h => by
    have hx := hl x (.head _)
    have hb : KN (bookStep cs b x) ∧ ∀ g, g < 6 → getK (bookStep cs b x) (nm g) = if g = x ∧ partOf cs x ≠ [] then some (entOf (partOf cs x)) else getK b (nm g) := by
      unfold bookStep
      cases hp : partOf cs x with
      | nil => exact ⟨h, fun g _ => by simp⟩
      | cons k r =>
        refine ⟨h.put (nmAt_mem (by omega) (by omega)), fun g hg => ?_⟩
        rw [if_neg (by simp), getK_put]
        show (if nm g = nm x then _ else _) = _
        by_cases e : g = x
        · subst e; rw [if_pos rfl, if_pos ⟨rfl, by simp⟩]
        · rw [if_neg (fun h' => e (nm_inj g hg x hx h')), if_neg (fun h' => e h'.1)]
    obtain ⟨h1, h2⟩ := bookStep_get cs l _ (fun g hg => hl g (.tail _ hg)) hb.1
    refine ⟨h1, fun g hg => ?_⟩
    rw [List.foldl_cons, h2 g hg, hb.2 g hg]
    by_cases hne : partOf cs g ≠ []
    · by_cases e : g = x
      · subst e
        have q1 : g = g ∧ partOf cs g ≠ [] := ⟨rfl, hne⟩
        have q2 : g ∈ g :: l ∧ partOf cs g ≠ [] := ⟨.head _, hne⟩
        rw [if_pos q1, if_pos q2]
        split <;> rfl
      · by_cases hgl : g ∈ l
        · rw [if_pos ⟨hgl, hne⟩, if_pos ⟨.tail _ hgl, hne⟩]
        · rw [if_neg (fun h' => hgl h'.1), if_neg (fun h' => e h'.1), if_neg (fun h' => (List.mem_cons.mp h'.1).elim e hgl)]
    · rw [if_neg (fun h' => hne h'.2), if_neg (c := g ∈ x :: l ∧ _) (fun h' => hne h'.2)]
      by_cases e : g = x
      · subst e; rw [if_neg (fun h' => hne h'.2)]
      · rw [if_neg (fun h' => e h'.1)]
theorem Chr.of {cs : List Call} (hP : ∀ k ∈ cs, 0 ≤ k.2.1 ∧ k.2.1 ≤ 3) : Chr (bookOf cs) cs := by
  obtain ⟨h1, h2⟩ := bookStep_get cs (List.range 6) [] (fun g hg => List.mem_range.mp hg) KN.nil
  refine ⟨h1, fun g hg hn => ?_, fun g hg e he => ?_⟩
  · rw [bookOf, h2 g hg] at hn
    apply Classical.byContradiction
    intro hne
    rw [if_pos ⟨List.mem_range.mpr hg, hne⟩] at hn
    cases hn
  · rw [bookOf, h2 g hg] at he
    split at he
    · rename_i hc
      cases he
      exact ⟨hc.2, EntIs.of fun k hk => hP k (List.mem_filter.mp hk).1⟩
    · cases he
theorem perm_sum {l l' : List Int} (h : l.Perm l') : l.sum = l'.sum := by
  induction h with
  | nil => rfl
  | cons x _ ih => rw [List.sum_cons, List.sum_cons, ih]
  | swap x y l => rw [List.sum_cons, List.sum_cons, List.sum_cons, List.sum_cons]; omega
  | trans _ _ h1 h2 => rw [h1, h2]
theorem ones_len {α : Type} (t : List (Str × α)) : (t.map fun _ => (1 : Int)).sum = (t.length : Nat) := by
  induction t with
  | nil => rfl
  | cons p t ih => rw [List.map_cons, List.sum_cons, ih, List.length_cons]; omega
theorem len_same {α : Type} {t u : List (Str × α)} (ht : KN t) (hu : KN u) (h : ∀ q, q < 6 → (getK t (nm q)).isSome = (getK u (nm q)).isSome) : t.length = u.length := by
  have e : (t.map fun _ => (1 : Int)).sum = (u.map fun _ => (1 : Int)).sum := by
    refine (sum_S6 (fun _ : α => (1 : Int)) ht).trans (Eq.trans ?_ (sum_S6 (fun _ : α => (1 : Int)) hu).symm)
    refine S6_congr fun q hq => ?_
    have := h q hq
    cases h1 : getK t (nm q) with
    | none =>
      cases h2 : getK u (nm q) with
      | none => rfl
      | some y => rw [h1, h2] at this; simp at this
    | some x =>
      cases h2 : getK u (nm q) with
      | none => rw [h1, h2] at this; simp at this
      | some y => rfl
  rw [ones_len, ones_len] at e
  exact Int.ofNat.inj e
theorem cal_eq {n : Nat} {t u : List (Str × Int)} (ht : KN t) (hu : KN u) (h : ∀ q, q < 6 → getK t (nm q) = getK u (nm q)) : EqD (n + 1) (.dct (tabD t)) (.dct (tabD u)) := by
  refine ⟨_, rfl, ?_, fun k d hkd => ?_⟩
  · rw [tabD_length, tabD_length]
    exact len_same ht hu fun q hq => by rw [h q hq]
  · obtain ⟨p, hp, e⟩ := List.mem_map.mp hkd
    cases e
    obtain ⟨q, hq, e⟩ := nm_of (ht.2 p.1 (List.mem_map.mpr ⟨p, hp, rfl⟩))
    refine ⟨.int p.2, ?_, ?_⟩
    · rw [getK_tabD, e, ← h q hq, ← e, getK_mem ht.1 hp]; rfl
    · cases n <;> exact rfl
theorem EntIs.eq {n : Nat} {e e' : Ent} {P P' : List Call} (h : EntIs e P) (h' : EntIs e' P') (hp : P.Perm P') : EqD (n + 2) (entD e) (entD e') := by
  have hcc : e.cc = e'.cc := by rw [h.cc, h'.cc, ((hp.map _).filter _).length_eq]
  have hnc : e.nc = e'.nc := by rw [h.nc, h'.nc, hp.length_eq]
  have htt : e.tt = e'.tt := by rw [h.tt, h'.tt, perm_sum (hp.map _)]
  have hct : e.ct = e'.ct := by rw [h.ct, h'.ct, perm_sum (hp.map _)]
  have hcal : ∀ q, q < 6 → getK e.cal (nm q) = getK e'.cal (nm q) := fun q hq => by rw [h.cal q hq, h'.cal q hq, cnt, cnt, hp.countP_eq]
  refine ⟨_, rfl, rfl, fun i d d' h1 h2 => ?_⟩
  match i, h1, h2 with
  | 0, h1, h2 => cases h1; cases h2; exact congrArg D.int hcc.symm
  | 1, h1, h2 => cases h1; cases h2; exact congrArg D.int hnc.symm
  | 2, h1, h2 => cases h1; cases h2; exact congrArg D.int htt.symm
  | 3, h1, h2 => cases h1; cases h2; exact congrArg D.int hct.symm
  | 4, h1, h2 => cases h1; cases h2; exact cal_eq h.kn h'.kn hcal
theorem Chr.eq {n : Nat} {b b' : Book} {L L' : List Call} (h : Chr b L) (h' : Chr b' L') (hp : L.Perm L') : EqD (n + 3) (.dct (bookD b)) (.dct (bookD b')) := by
  have hpart : ∀ g, (partOf L g).Perm (partOf L' g) := fun g => hp.filter _
  have hsome : ∀ g, g < 6 → (getK b (nm g)).isSome = (getK b' (nm g)).isSome := fun g hg => by
    cases h1 : getK b (nm g) with
    | none =>
      cases h2 : getK b' (nm g) with
      | none => rfl
      | some e' =>
        have := hpart g
        rw [h.none_ g hg h1] at this
        exact absurd this.symm.eq_nil (h'.some_ g hg e' h2).1
    | some e =>
      cases h2 : getK b' (nm g) with
      | some _ => rfl
      | none =>
        have := hpart g
        rw [h'.none_ g hg h2] at this
        exact absurd this.eq_nil (h.some_ g hg e h1).1
  refine ⟨_, rfl, by rw [bookD_length, bookD_length]; exact len_same h.kn h'.kn hsome, fun k d hkd => ?_⟩
  obtain ⟨p, hpm, e⟩ := List.mem_map.mp hkd
  cases e
  obtain ⟨g, hg, e⟩ := nm_of (h.kn.2 p.1 (List.mem_map.mpr ⟨p, hpm, rfl⟩))
  have h1 : getK b (nm g) = some p.2 := by rw [← e]; exact getK_mem h.kn.1 hpm
  have h2 := hsome g hg
  rw [h1] at h2
  obtain ⟨e', h3⟩ := Option.isSome_iff_exists.mp h2.symm
  refine ⟨entD e', ?_, (h.some_ g hg _ h1).2.eq (h'.some_ g hg _ h3).2 (hpart g)⟩
  show getK (bookD b') p.1 = _
  rw [getK_bookD, e, h3]; rfl
theorem S6_add (a : Nat → Int) {g0 : Nat} (h : g0 < 6) (d : Int) : S6 (fun g => a g + (if g = g0 then d else 0)) = S6 a + d := by
  unfold S6
  rcases lt6 h with rfl | rfl | rfl | rfl | rfl | rfl
  · simp; omega
  · simp; omega
  · simp; omega
  · simp; omega
  · simp; omega
  · simp; omega
theorem S6_cnt (κ : Call → Int) (f : Call → Bool) : ∀ L : List Call, (∀ k ∈ L, ∃ g : Nat, g < 6 ∧ κ k = (g : Int)) → S6 (fun g => ((L.countP fun k => κ k == (g : Int) && f k : Nat) : Int)) = ((L.countP f : Nat) : Int)
  | [], _ => rfl
  | k :: L, h => by
    obtain ⟨g0, hg0, e⟩ := h k (.head _)
    have ih := S6_cnt κ f L fun k hk => h k (.tail _ hk)
    have e1 : S6 (fun g => (((k :: L).countP fun k => κ k == (g : Int) && f k : Nat) : Int)) = S6 (fun g => ((L.countP fun k => κ k == (g : Int) && f k : Nat) : Int) + (if g = g0 then (if f k = true then 1 else 0) else 0)) := by
      refine S6_congr fun g hg => ?_
      rw [List.countP_cons, e]
      by_cases q : g = g0
      · subst q
        cases f k <;> simp
      · rw [if_neg q]
        have : ((g0 : Int) == (g : Int)) = false := by rw [beq_eq_false_iff_ne]; omega
        simp [this]
    rw [e1, S6_add _ hg0, ih, List.countP_cons]
    split <;> simp
theorem cnt_sum {P : List Call} (hP : ∀ k ∈ P, 0 ≤ k.2.1 ∧ k.2.1 ≤ 3) : S6 (fun q => ((cnt P q : Nat) : Int)) = (P.length : Nat) := by
  have := S6_cnt (fun k => k.2.1 + 1) (fun _ => true) P fun k hk => by
    have := hP k hk
    exact ⟨(k.2.1 + 1).toNat, by omega, by omega⟩
  simp only [Bool.and_true, List.countP_true] at this
  exact this
theorem here_is {b : Book} {L : List Call} (h : Chr b L) (hL : ∀ k ∈ L, (0 ≤ k.2.1 ∧ k.2.1 ≤ 3) ∧ ∃ g : Nat, g < 6 ∧ k.1 = (g : Int)) (st : Int) {p : Nat} (hp : p < 4) :
    hereB b st (p : Int) = st + ((partOf L (p + 1)).length : Nat) - ((L.countP fun k => k.2.1 == (p : Int) : Nat) : Int) := by
  unfold hereB
  rw [nm_succ]
  have hE := h.get (g := p + 1) (by omega)
  have e1 : sumT (getE b (nm (p + 1))).cal = ((partOf L (p + 1)).length : Nat) := by
    rw [sumT_S6 hE.kn, ← cnt_sum (P := partOf L (p + 1)) fun k hk => (hL k (List.mem_filter.mp hk).1).1]
    refine S6_congr fun q hq => ?_
    rw [hE.cal q hq]
    split
    · rename_i h0; rw [h0]; rfl
    · rfl
  have e2 : (getK (wentB b) (nm (p + 1))).getD 0 = ((L.countP fun k => k.2.1 == (p : Int) : Nat) : Int) := by
    rw [went_S6 h.bk, ← S6_cnt (fun k => k.1) (fun k => k.2.1 == (p : Int)) L fun k hk => (hL k hk).2]
    refine S6_congr fun g hg => ?_
    have hc : cnt (partOf L g) (p + 1) = L.countP fun k => k.1 == (g : Int) && k.2.1 == (p : Int) := by
      rw [cnt, partOf, List.countP_filter]
      refine List.countP_congr fun k _ => ?_
      rw [Bool.and_eq_true, Bool.and_eq_true, beq_iff_eq, beq_iff_eq, beq_iff_eq]
      omega
    rw [← hc]
    cases hg2 : getK b (nm g) with
    | none => rw [h.none_ g hg hg2]; rfl
    | some e =>
      show (getK e.cal (nm (p + 1))).getD 0 = _
      rw [(h.some_ g hg e hg2).2.cal (p + 1) (by omega)]
      split
      · rename_i h0; rw [h0]; rfl
      · rfl
  rw [e1, e2]
noncomputable def okA (a : Int) : Prop := a = 1 ∨ a = -1 ∨ a = 2 ∨ a = -2
inductive RowSh : List Int → Prop
  | zero {r : List Int} : r.length ≤ 4 → RowSh (0 :: r)
  | two {a b : Int} : okA a → okA b → RowSh [a, b]
  | stop {a b : Int} : okA a → okA b → RowSh [a, b, 127, 1]
  | on {a b t : Int} : okA a → okA b → t = 1 ∨ t = 2 → RowSh [a, b, t, 0]
theorem step_ok (m : Int) : okA (stepOf m) := by
  unfold stepOf okA
  split
  · exact .inl rfl
  · split
    · exact .inr (.inl rfl)
    · split
      · exact .inr (.inr (.inl rfl))
      · exact .inr (.inr (.inr rfl))
theorem rowOf_sh (n : Int) : RowSh (rowOf n) := by
  unfold rowOf
  split
  · refine .zero ?_
    have := tailOf_len (n / 16 % 4)
    show _ + 1 + 1 ≤ _
    omega
  · unfold tailOf
    split
    · exact .two (step_ok _) (step_ok _)
    · split
      · exact .stop (step_ok _) (step_ok _)
      · split
        · exact .on (step_ok _) (step_ok _) (.inl rfl)
        · exact .on (step_ok _) (step_ok _) (.inr rfl)
noncomputable def sayR (row : List Int) (k : Nat) : Option Int :=
  if row.getD 0 0 = 0 then none else if k < 2 then some (row.getD k 0) else if row.length = 4 ∧ row.getD 2 0 ≠ 127 then some (row.getD 2 0) else none
theorem sayR_ne {a : Int} {r : List Int} {k : Nat} (h : a ≠ 0) : sayR (a :: r) k = if k < 2 then some ((a :: r).getD k 0) else if (a :: r).length = 4 ∧ (a :: r).getD 2 0 ≠ 127 then some ((a :: r).getD 2 0) else none := if_neg h
noncomputable def phR (row : List Int) : Nat → Ph
  | 0 => .fresh row
  | 1 => .at row 0
  | 2 => .at row 1
  | 3 => .at row 2
  | _ + 4 => .loop (row.getD 2 0)
theorem okA.n0 {a : Int} (h : okA a) : a ≠ 0 := by unfold okA at h; omega
theorem okA.n127 {a : Int} (h : okA a) : a ≠ 127 := by unfold okA at h; omega
theorem okA.beq0 {a : Int} (h : okA a) : (a == 0) = false := beq_eq_false_iff_ne.mpr h.n0
theorem scan_say {row : List Int} {k : Nat} {x : Int} (h : row[k]? = some x) (h0 : x ≠ 0) (h1 : x ≠ 127) : scan row k = .says x (.at row k) := by
  unfold scan; rw [h]; simp only; rw [if_neg h1, if_neg h0]
theorem tell_R {row : List Int} (h : RowSh row) (k : Nat) (hk : ∀ j, j < k → sayR row j ≠ none) : (phR row k).tell = (match sayR row k with
    | some x => .says x (phR row (k + 1))
    | none => if row.getD 0 0 = 0 then .refuses else .stops) := by
  cases h with
  | zero hl =>
    cases k with
    | zero => rfl
    | succ k => exact absurd rfl (hk 0 (Nat.succ_pos k))
  | @two a b ha hb =>
    have e0 : sayR [a, b] 0 = some a := by rw [sayR_ne ha.n0]; rfl
    have e1 : sayR [a, b] 1 = some b := by rw [sayR_ne ha.n0]; rfl
    have e2 : sayR [a, b] 2 = none := by rw [sayR_ne ha.n0]; rfl
    match k with
    | 0 => rw [e0]; exact scan_say (row := [a, b]) (k := 0) rfl ha.n0 ha.n127
    | 1 => rw [e1]; exact scan_say (row := [a, b]) (k := 1) rfl hb.n0 hb.n127
    | 2 => rw [e2]; show Tell.stops = if a = 0 then _ else _; rw [if_neg ha.n0]
    | k + 3 => exact absurd e2 (hk 2 (by omega))
  | @stop a b ha hb =>
    have e0 : sayR [a, b, 127, 1] 0 = some a := by rw [sayR_ne ha.n0]; rfl
    have e1 : sayR [a, b, 127, 1] 1 = some b := by rw [sayR_ne ha.n0]; rfl
    have e2 : sayR [a, b, 127, 1] 2 = none := by rw [sayR_ne ha.n0]; rfl
    match k with
    | 0 => rw [e0]; exact scan_say (row := [a, b, 127, 1]) (k := 0) rfl ha.n0 ha.n127
    | 1 => rw [e1]; exact scan_say (row := [a, b, 127, 1]) (k := 1) rfl hb.n0 hb.n127
    | 2 => rw [e2]; show Tell.stops = if a = 0 then _ else _; rw [if_neg ha.n0]
    | k + 3 => exact absurd e2 (hk 2 (by omega))
  | @on a b t ha hb ht =>
    have t0 : t ≠ 0 := by omega
    have t1 : t ≠ 127 := by omega
    have e0 : sayR [a, b, t, 0] 0 = some a := by rw [sayR_ne ha.n0]; rfl
    have e1 : sayR [a, b, t, 0] 1 = some b := by rw [sayR_ne ha.n0]; rfl
    have e2 : ∀ k, sayR [a, b, t, 0] (k + 2) = some t := fun k => by
      rw [sayR_ne ha.n0, if_neg (by omega), if_pos ⟨rfl, t1⟩]; rfl
    match k with
    | 0 => rw [e0]; exact scan_say (row := [a, b, t, 0]) (k := 0) rfl ha.n0 ha.n127
    | 1 => rw [e1]; exact scan_say (row := [a, b, t, 0]) (k := 1) rfl hb.n0 hb.n127
    | 2 => rw [e2 0]; exact scan_say (row := [a, b, t, 0]) (k := 2) rfl t0 t1
    | 3 => rw [e2 1]; rfl
    | k + 4 => rw [e2 (k + 2)]; rfl
theorem say_down {row : List Int} (h : RowSh row) {k : Nat} (hk : sayR row k = none) : sayR row (k + 1) = none := by
  unfold sayR at hk ⊢
  split at hk
  · rename_i h0; rw [if_pos h0]
  · rename_i h0
    rw [if_neg h0]
    split at hk
    · cases hk
    · rename_i h2
      rw [if_neg (by omega)]
      split at hk
      · cases hk
      · rename_i h3; rw [if_neg h3]
theorem say_bound {row : List Int} (h : RowSh row) {k : Nat} {x : Int} (hk : sayR row k = some x) : x ≠ 0 ∧ -2 ≤ x ∧ x ≤ 2 ∧ (2 ≤ k → 1 ≤ x) := by
  cases h with
  | zero hl => cases hk
  | @two a b ha hb =>
    unfold okA at ha hb
    rw [sayR_ne (show a ≠ 0 by omega)] at hk
    match k with
    | 0 => cases hk; show a ≠ 0 ∧ -2 ≤ a ∧ a ≤ 2 ∧ (_ → 1 ≤ a); omega
    | 1 => cases hk; show b ≠ 0 ∧ -2 ≤ b ∧ b ≤ 2 ∧ (_ → 1 ≤ b); omega
    | k + 2 => rw [if_neg (by omega), if_neg (fun h => nomatch h.1)] at hk; cases hk
  | @stop a b ha hb =>
    unfold okA at ha hb
    rw [sayR_ne (show a ≠ 0 by omega)] at hk
    match k with
    | 0 => cases hk; show a ≠ 0 ∧ -2 ≤ a ∧ a ≤ 2 ∧ (_ → 1 ≤ a); omega
    | 1 => cases hk; show b ≠ 0 ∧ -2 ≤ b ∧ b ≤ 2 ∧ (_ → 1 ≤ b); omega
    | k + 2 => rw [if_neg (by omega), if_neg (fun h => h.2 rfl)] at hk; cases hk
  | @on a b t ha hb ht =>
    unfold okA at ha hb
    rw [sayR_ne (show a ≠ 0 by omega)] at hk
    match k with
    | 0 => cases hk; show a ≠ 0 ∧ -2 ≤ a ∧ a ≤ 2 ∧ (_ → 1 ≤ a); omega
    | 1 => cases hk; show b ≠ 0 ∧ -2 ≤ b ∧ b ≤ 2 ∧ (_ → 1 ≤ b); omega
    | k + 2 =>
      rw [if_neg (by omega), if_pos ⟨rfl, show t ≠ 127 by omega⟩] at hk
      cases hk
      show t ≠ 0 ∧ -2 ≤ t ∧ t ≤ 2 ∧ (_ → 1 ≤ t); omega
noncomputable def sayL (row : List Int) (n : Nat) : List Int := (List.range n).filterMap (sayR row)
theorem sayL_succ (row : List Int) (n : Nat) : sayL row (n + 1) = sayL row n ++ (sayR row n).toList := by
  rw [sayL, List.range_succ, List.filterMap_append]; rfl
theorem sayL_stop {row : List Int} (h : RowSh row) {n : Nat} (hn : sayR row n = none) : ∀ j, sayL row (n + j) = sayL row n ∧ sayR row (n + j) = none
  | 0 => ⟨rfl, hn⟩
  | j + 1 => by
    obtain ⟨h1, h2⟩ := sayL_stop h hn j
    rw [← Nat.add_assoc, sayL_succ, h2, h1]
    exact ⟨List.append_nil _, say_down h h2⟩
theorem sizes_say {row : List Int} (h : RowSh row) (n : Nat) : sizesOf row n = sayL row n := by
  cases h with
  | @zero r hl =>
    have e1 : sayL (0 :: r) n = [] := by
      induction n with
      | zero => rfl
      | succ n ih => rw [sayL_succ, ih]; rfl
    have e2 : ∃ l, endsOf (0 :: r) = 0 :: l := by
      rw [endsOf, List.length_cons, List.range_succ_eq_map]
      exact ⟨_, rfl⟩
    obtain ⟨l, e2⟩ := e2
    rw [e1, sizesOf, e2]
    show (toldOf (0 :: r) 0 n).take n = []
    unfold toldOf
    rw [if_pos (show (0 :: r).getD 0 0 = 0 from rfl)]
    show (([] : List Int) ++ (List.replicate n ([] : List Int)).flatten).take n = []
    have : (List.replicate n ([] : List Int)).flatten = [] := by
      apply List.flatten_eq_nil_iff.mpr
      intro l hl
      exact (List.mem_replicate.mp hl).2
    rw [this]; simp
  | @two a b ha hb =>
    have e : endsOf [a, b] = [] := by
      have h1 : isEnd a = false := by unfold okA at ha; unfold isEnd; simp; omega
      have h2 : isEnd b = false := by unfold okA at hb; unfold isEnd; simp; omega
      show [0, 1].filter _ = []
      rw [List.filter_cons_of_neg (by show ¬ isEnd a = true; rw [h1]; decide), List.filter_cons_of_neg (by show ¬ isEnd b = true; rw [h2]; decide)]; rfl
    have e0 : sayR [a, b] 0 = some a := by rw [sayR_ne ha.n0]; rfl
    have e1 : sayR [a, b] 1 = some b := by rw [sayR_ne ha.n0]; rfl
    have e2 : sayR [a, b] 2 = none := by rw [sayR_ne ha.n0]; rfl
    rw [sizesOf, e]
    match n with
    | 0 => rfl
    | 1 => rw [sayL_succ, e0]; rfl
    | n + 2 =>
      rw [Nat.add_comm n 2, (sayL_stop (.two ha hb) e2 n).1, sayL_succ, sayL_succ, e0, e1]
      exact List.take_of_length_le (by show 2 ≤ _; omega)
  | @stop a b ha hb =>
    have e : ∃ l, endsOf [a, b, 127, 1] = 2 :: l := by
      have h1 : isEnd a = false := by unfold okA at ha; unfold isEnd; simp; omega
      have h2 : isEnd b = false := by unfold okA at hb; unfold isEnd; simp; omega
      refine ⟨[], ?_⟩
      show [0, 1, 2, 3].filter _ = _
      rw [List.filter_cons_of_neg (by show ¬ isEnd a = true; rw [h1]; decide), List.filter_cons_of_neg (by show ¬ isEnd b = true; rw [h2]; decide)]; rfl
    obtain ⟨l, e⟩ := e
    have e0 : sayR [a, b, 127, 1] 0 = some a := by rw [sayR_ne ha.n0]; rfl
    have e1 : sayR [a, b, 127, 1] 1 = some b := by rw [sayR_ne ha.n0]; rfl
    have e2 : sayR [a, b, 127, 1] 2 = none := by rw [sayR_ne ha.n0]; rfl
    rw [sizesOf, e]
    show ([a, b] : List Int).take n = _
    match n with
    | 0 => rfl
    | 1 => rw [sayL_succ, e0]; rfl
    | n + 2 =>
      rw [Nat.add_comm n 2, (sayL_stop (.stop ha hb) e2 n).1, sayL_succ, sayL_succ, e0, e1]
      exact List.take_of_length_le (by show 2 ≤ _; omega)
  | @on a b t ha hb ht =>
    have e : ∃ l, endsOf [a, b, t, 0] = 3 :: l := by
      have h1 : isEnd a = false := by unfold okA at ha; unfold isEnd; simp; omega
      have h2 : isEnd b = false := by unfold okA at hb; unfold isEnd; simp; omega
      have h3 : isEnd t = false := by unfold isEnd; simp; omega
      refine ⟨[], ?_⟩
      show [0, 1, 2, 3].filter _ = _
      rw [List.filter_cons_of_neg (by show ¬ isEnd a = true; rw [h1]; decide), List.filter_cons_of_neg (by show ¬ isEnd b = true; rw [h2]; decide), List.filter_cons_of_neg (by show ¬ isEnd t = true; rw [h3]; decide)]; rfl
    obtain ⟨l, e⟩ := e
    have t1 : t ≠ 127 := by omega
    have e0 : sayR [a, b, t, 0] 0 = some a := by rw [sayR_ne ha.n0]; rfl
    have e1 : sayR [a, b, t, 0] 1 = some b := by rw [sayR_ne ha.n0]; rfl
    have e2 : ∀ k, sayR [a, b, t, 0] (k + 2) = some t := fun k => by
      rw [sayR_ne ha.n0, if_neg (by omega), if_pos ⟨rfl, t1⟩]; rfl
    have hs : ∀ m, sayL [a, b, t, 0] (m + 2) = a :: b :: List.replicate m t := by
      intro m
      induction m with
      | zero => rw [sayL_succ, sayL_succ, e0, e1]; rfl
      | succ m ih => rw [sayL_succ, ih, e2, List.replicate_succ']; rfl
    have hf : (List.replicate n [t]).flatten = List.replicate n t := by
      have : ∀ k : Nat, (List.replicate k [t]).flatten = List.replicate k t := by
        intro k
        induction k with
        | zero => rfl
        | succ k ih => rw [List.replicate_succ, List.flatten_cons, ih]; rfl
      exact this n
    have htold : toldOf [a, b, t, 0] 3 n = a :: b :: t :: List.replicate n t := by
      unfold toldOf
      rw [if_pos (show [a, b, t, 0].getD 3 0 = 0 from rfl)]
      show [a, b, t] ++ (List.replicate n [t]).flatten = _
      rw [hf]; rfl
    rw [sizesOf, e]
    show (toldOf [a, b, t, 0] 3 n).take n = _
    rw [htold]
    match n with
    | 0 => rfl
    | 1 => rw [sayL_succ, e0]; rfl
    | n + 2 =>
      rw [hs]
      show a :: b :: (t :: List.replicate (n + 2) t).take n = _
      congr 2
      rw [show t :: List.replicate (n + 2) t = List.replicate (n + 3) t from rfl, List.take_replicate]
      congr 1
      omega
noncomputable def capR (row : List Int) (j : Nat) : Nat := (sayL row j).length
noncomputable def AllS (row : List Int) (n : Nat) : Prop := ∀ k, k < n → sayR row k ≠ none
theorem cap_succ (row : List Int) (j : Nat) : capR row (j + 1) = capR row j + (sayR row j).toList.length := by rw [capR, sayL_succ, List.length_append]; rfl
theorem cap_le (row : List Int) : ∀ j, capR row j ≤ j
  | 0 => Nat.le_refl _
  | j + 1 => by
    rw [cap_succ]
    have := cap_le row j
    cases sayR row j <;> simp <;> omega
theorem cap_full {row : List Int} : ∀ {n : Nat}, AllS row n → capR row n = n
  | 0, _ => rfl
  | n + 1, h => by
    rw [cap_succ, cap_full fun k hk => h k (by omega)]
    cases q : sayR row n with
    | none => exact absurd q (h n (by omega))
    | some x => rfl
theorem say_pre (row : List Int) : ∀ i j, i ≤ j → (sayL row i).Sublist (sayL row j)
  | i, j, h => by
    obtain ⟨d, rfl⟩ : ∃ d, j = i + d := ⟨j - i, by omega⟩
    clear h
    induction d with
    | zero => exact List.Sublist.refl _
    | succ d ih => rw [← Nat.add_assoc, sayL_succ]; exact ih.trans (List.sublist_append_left _ _)
theorem cap_mono (row : List Int) {i j : Nat} (h : i ≤ j) : capR row i ≤ capR row j := (say_pre row i j h).length_le
theorem cap_stop {row : List Int} (h : RowSh row) {n j : Nat} (hn : AllS row n) (h0 : sayR row n = none) (hj : n ≤ j) : capR row j = n := by
  obtain ⟨d, rfl⟩ : ∃ d, j = n + d := ⟨j - n, by omega⟩
  rw [capR, (sayL_stop h h0 d).1]
  exact cap_full hn
theorem cap_all {row : List Int} (h : RowSh row) (j : Nat) : AllS row (capR row j) := by
  intro k hk hn
  by_cases hkj : k ≤ j
  · obtain ⟨d, rfl⟩ : ∃ d, j = k + d := ⟨j - k, by omega⟩
    rw [capR, (sayL_stop h hn d).1] at hk
    have := cap_le row k
    rw [capR] at this
    omega
  · have := cap_le row j
    omega
theorem say_sum {row : List Int} (h : RowSh row) : ∀ n : Nat, AllS row n → (n : Int) - 6 ≤ (sayL row n).sum ∧ (n ≤ 2 → -2 * (n : Int) ≤ (sayL row n).sum)
  | 0, _ => ⟨by show (0 : Int) - 6 ≤ 0; decide, fun _ => by show -2 * (0 : Int) ≤ 0; decide⟩
  | n + 1, hn => by
    obtain ⟨h1, h2⟩ := say_sum h n fun k hk => hn k (by omega)
    cases q : sayR row n with
    | none => exact absurd q (hn n (by omega))
    | some x =>
      obtain ⟨_, b1, b2, b3⟩ := say_bound h q
      rw [sayL_succ, q, List.sum_append]
      simp only [Option.toList_some, List.sum_cons, List.sum_nil]
      constructor
      · by_cases hn2 : 2 ≤ n
        · have := b3 hn2; omega
        · have := h2 (by omega); omega
      · intro hn2
        have := h2 (by omega)
        omega
theorem say_le2 {row : List Int} (h : RowSh row) (n : Nat) : ∀ z ∈ sayL row n, -2 ≤ z ∧ z ≤ 2 := by
  intro z hz
  obtain ⟨k, _, hk⟩ := List.mem_filterMap.mp hz
  obtain ⟨_, b1, b2, _⟩ := say_bound h hk
  exact ⟨b1, b2⟩
noncomputable def cA (l : List Int) (p q : Nat) : Nat := (l.map fun z => (p : Int) + z).count (q : Int)
theorem cA_cons (z : Int) (l : List Int) (p q : Nat) : cA (z :: l) p q = cA l p q + (if (p : Int) + z = (q : Int) then 1 else 0) := by
  unfold cA
  rw [List.map_cons, List.count_cons]
  congr 1
  by_cases e : (p : Int) + z = (q : Int) <;> simp [e]
theorem flow_p {p : Nat} (hp : p < 4) : ∀ l : List Int, (∀ z ∈ l, z ≤ 2) → l.sum ≤ (5 - (p : Int)) * (l.length : Nat) - (5 * (cA l p 0 : Nat) + 4 * (cA l p 1 : Nat) + 3 * (cA l p 2 : Nat) + 2 * (cA l p 3 : Nat) : Int)
  | [], _ => by simp [cA]
  | z :: l, h => by
    have ih := flow_p hp l fun z hz => h z (.tail _ hz)
    have hz := h z (.head _)
    rw [cA_cons, cA_cons, cA_cons, cA_cons, List.sum_cons, List.length_cons]
    have e : (5 - (p : Int)) * ((l.length + 1 : Nat) : Int) = (5 - (p : Int)) * (l.length : Nat) + (5 - (p : Int)) := by
      rw [Int.natCast_add, Int.mul_add]; simp
    rw [e]
    generalize (5 - (p : Int)) * (l.length : Nat) = u at ih ⊢
    by_cases h0 : (p : Int) + z = ((0 : Nat) : Int)
    · rw [if_pos h0, if_neg (by omega), if_neg (by omega), if_neg (by omega)]; omega
    · by_cases h1 : (p : Int) + z = ((1 : Nat) : Int)
      · rw [if_neg h0, if_pos h1, if_neg (by omega), if_neg (by omega)]; omega
      · by_cases h2 : (p : Int) + z = ((2 : Nat) : Int)
        · rw [if_neg h0, if_neg h1, if_pos h2, if_neg (by omega)]; omega
        · by_cases h3 : (p : Int) + z = ((3 : Nat) : Int)
          · rw [if_neg h0, if_neg h1, if_neg h2, if_pos h3]; omega
          · rw [if_neg h0, if_neg h1, if_neg h2, if_neg h3]; omega
section
variable (rws : List (List Int)) (st : List Nat)
noncomputable def rw_ (p : Nat) : List Int := rws.getD p []
noncomputable def sv (p : Nat) : Nat := st.getD p 0
/-- how many come to q -/
noncomputable def Arr (f : Nat → Nat) (q : Nat) : Nat := cA (sayL (rw_ rws 0) (f 0)) 0 q + cA (sayL (rw_ rws 1) (f 1)) 1 q + cA (sayL (rw_ rws 2) (f 2)) 2 q + cA (sayL (rw_ rws 3) (f 3)) 3 q
structure Game : Prop where
  l4 : rws.length = 4
  s4 : st.length = 4
  sh : ∀ p, p < 4 → RowSh (rw_ rws p)
  b0 : sv st 0 ≤ 1
  b1 : sv st 1 ≤ 2
  b2 : sv st 2 ≤ 1
  b3 : sv st 3 ≤ 1
end
variable {rws : List (List Int)} {st : List Nat}
theorem Arr_mono {f g : Nat → Nat} (h : ∀ p, p < 4 → f p ≤ g p) (q : Nat) : Arr rws f q ≤ Arr rws g q := by
  have e : ∀ p, p < 4 → cA (sayL (rw_ rws p) (f p)) p q ≤ cA (sayL (rw_ rws p) (g p)) p q := fun p hp => ((say_pre _ _ _ (h p hp)).map _).count_le _
  have a := e 0 (by decide)
  have b := e 1 (by decide)
  have c := e 2 (by decide)
  have d := e 3 (by decide)
  unfold Arr
  omega
theorem total_le (G : Game rws st) {f : Nat → Nat} (hall : ∀ p, p < 4 → AllS (rw_ rws p) (f p)) (hle : ∀ q, q < 4 → f q ≤ sv st q + Arr rws f q) : f 0 + f 1 + f 2 + f 3 ≤ 42 := by
  have hl : ∀ p, p < 4 → (f p : Int) - 6 ≤ (sayL (rw_ rws p) (f p)).sum ∧ (sayL (rw_ rws p) (f p)).length = f p ∧ (sayL (rw_ rws p) (f p)).sum ≤ (5 - (p : Int)) * ((sayL (rw_ rws p) (f p)).length : Nat) - (5 * (cA (sayL (rw_ rws p) (f p)) p 0 : Nat) + 4 * (cA (sayL (rw_ rws p) (f p)) p 1 : Nat) + 3 * (cA (sayL (rw_ rws p) (f p)) p 2 : Nat) + 2 * (cA (sayL (rw_ rws p) (f p)) p 3 : Nat) : Int) := fun p hp =>
    ⟨(say_sum (G.sh p hp) _ (hall p hp)).1, cap_full (hall p hp), flow_p hp _ fun z hz => (say_le2 (G.sh p hp) _ z hz).2⟩
  obtain ⟨a0, b0, c0⟩ := hl 0 (by decide)
  obtain ⟨a1, b1, c1⟩ := hl 1 (by decide)
  obtain ⟨a2, b2, c2⟩ := hl 2 (by decide)
  obtain ⟨a3, b3, c3⟩ := hl 3 (by decide)
  have h0 := hle 0 (by decide)
  have h1 := hle 1 (by decide)
  have h2 := hle 2 (by decide)
  have h3 := hle 3 (by decide)
  have g0 := G.b0
  have g1 := G.b1
  have g2 := G.b2
  have g3 := G.b3
  unfold Arr at h0 h1 h2 h3
  rw [b0] at c0
  rw [b1] at c1
  rw [b2] at c2
  rw [b3] at c3
  omega
theorem r4_get {α : Type} (f : Nat → α) (d : α) {p : Nat} (hp : p < 4) : ((List.range 4).map f).getD p d = f p := by
  rw [List.getD_eq_getElem?_getD, List.getElem?_map, List.getElem?_range hp]; rfl
theorem r4_out {α : Type} (f : Nat → α) (d : α) {p : Nat} (hp : ¬ p < 4) : ((List.range 4).map f).getD p d = d := by
  rw [List.getD_eq_getElem?_getD, List.getElem?_eq_none (by rw [List.length_map, List.length_range]; omega)]; rfl
theorem list4 {l : List Nat} (h : l.length = 4) : l = [l.getD 0 0, l.getD 1 0, l.getD 2 0, l.getD 3 0] := by
  match l, h with
  | [a, b, c, d], _ => rfl
section
variable {rws : List (List Int)} {st : List Nat}
noncomputable abbrev fn (l : List Nat) : Nat → Nat := fun p => l.getD p 0
theorem goals_cnt (G : Game rws st) (mv : List Nat) (q : Nat) : (goalsOf rws mv).count (q : Int) = Arr rws (fn mv) q := by
  have e : goalsOf rws mv = ((sayL (rw_ rws 0) (fn mv 0)).map fun z => ((0 : Nat) : Int) + z) ++ (((sayL (rw_ rws 1) (fn mv 1)).map fun z => ((1 : Nat) : Int) + z) ++ (((sayL (rw_ rws 2) (fn mv 2)).map fun z => ((2 : Nat) : Int) + z) ++ (((sayL (rw_ rws 3) (fn mv 3)).map fun z => ((3 : Nat) : Int) + z) ++ []))) := by
    rw [← sizes_say (G.sh 0 (by decide)), ← sizes_say (G.sh 1 (by decide)), ← sizes_say (G.sh 2 (by decide)), ← sizes_say (G.sh 3 (by decide))]
    rfl
  rw [e, List.count_append, List.count_append, List.count_append, List.count_append, List.count_nil]
  unfold Arr cA
  omega
theorem came_get (G : Game rws st) (mv : List Nat) {q : Nat} (hq : q < 4) : (cameOf rws st mv).getD q 0 = sv st q + Arr rws (fn mv) q := by
  rw [cameOf, r4_get _ _ hq, goals_cnt G]; rfl
theorem it_succ (G : Game rws st) (k : Nat) {p : Nat} (hp : p < 4) : fn (itM rws st (k + 1)) p = capR (rw_ rws p) (sv st p + Arr rws (fn (itM rws st k)) p) := by
  show (moreOf rws (cameOf rws st (itM rws st k))).getD p 0 = _
  rw [moreOf, r4_get _ _ hp, came_get G _ hp, capR, ← sizes_say (G.sh p hp)]; rfl
theorem it_inv (G : Game rws st) : ∀ k, (∀ p, p < 4 → AllS (rw_ rws p) (fn (itM rws st k) p)) ∧ (∀ p, p < 4 → fn (itM rws st k) p ≤ fn (itM rws st (k + 1)) p) ∧ (∀ q, q < 4 → fn (itM rws st k) q ≤ sv st q + Arr rws (fn (itM rws st k)) q)
  | 0 => by
    have h0 : ∀ p, p < 4 → fn (itM rws st 0) p = 0 := fun p hp => by
      rcases lt4 hp with rfl | rfl | rfl | rfl
      · rfl
      · rfl
      · rfl
      · rfl
    exact ⟨fun p hp k hk => by rw [h0 p hp] at hk; omega, fun p hp => by rw [h0 p hp]; exact Nat.zero_le _, fun q hq => by rw [h0 q hq]; exact Nat.zero_le _⟩
  | k + 1 => by
    obtain ⟨h1, h2, h3⟩ := it_inv G k
    have hm : ∀ q, Arr rws (fn (itM rws st k)) q ≤ Arr rws (fn (itM rws st (k + 1))) q := fun q => Arr_mono h2 q
    refine ⟨fun p hp => ?_, fun p hp => ?_, fun q hq => ?_⟩
    · rw [it_succ G k hp]; exact cap_all (G.sh p hp) _
    · rw [it_succ G k hp, it_succ G (k + 1) hp]
      exact cap_mono _ (Nat.add_le_add_left (hm p) _)
    · have := cap_le (rw_ rws q) (sv st q + Arr rws (fn (itM rws st k)) q)
      have h4 := it_succ G k hq
      have := hm q
      omega
theorem it_total (G : Game rws st) (k : Nat) : fn (itM rws st k) 0 + fn (itM rws st k) 1 + fn (itM rws st k) 2 + fn (itM rws st k) 3 ≤ 42 := total_le G (it_inv G k).1 (it_inv G k).2.2
theorem Arr_le (f : Nat → Nat) (h : ∀ p, p < 4 → AllS (rw_ rws p) (f p)) (q : Nat) : Arr rws f q ≤ f 0 + f 1 + f 2 + f 3 := by
  have e : ∀ p, p < 4 → cA (sayL (rw_ rws p) (f p)) p q ≤ f p := fun p hp => by
    have h1 := List.count_le_length (a := (q : Int)) (l := (sayL (rw_ rws p) (f p)).map fun z => (p : Int) + z)
    rw [List.length_map] at h1
    have h2 : (sayL (rw_ rws p) (f p)).length = f p := cap_full (h p hp)
    unfold cA
    omega
  have a := e 0 (by decide)
  have b := e 1 (by decide)
  have c := e 2 (by decide)
  have d := e 3 (by decide)
  unfold Arr
  omega
theorem it_bound (G : Game rws st) (k p : Nat) : (itM rws st k).getD p 0 ≤ 100 ∧ (cameOf rws st (itM rws st k)).getD p 0 ≤ 100 := by
  have ht := it_total G k
  by_cases hp : p < 4
  · refine ⟨?_, ?_⟩
    · rcases lt4 hp with rfl | rfl | rfl | rfl
      · show fn (itM rws st k) 0 ≤ _; omega
      · show fn (itM rws st k) 1 ≤ _; omega
      · show fn (itM rws st k) 2 ≤ _; omega
      · show fn (itM rws st k) 3 ≤ _; omega
    · rw [came_get G _ hp]
      have := Arr_le (rws := rws) (fn (itM rws st k)) (it_inv G k).1 p
      have hs : sv st p ≤ 2 := by
        rcases lt4 hp with rfl | rfl | rfl | rfl
        · have := G.b0; omega
        · exact G.b1
        · have := G.b2; omega
        · have := G.b3; omega
      omega
  · refine ⟨?_, ?_⟩
    · rw [List.getD_eq_getElem?_getD, List.getElem?_eq_none (by rw [itM_len]; omega)]; exact Nat.zero_le _
    · rw [cameOf, r4_out _ _ hp]; exact Nat.zero_le _
theorem it_fix (G : Game rws st) : ∃ K, K < 99 ∧ itM rws st (K + 1) = itM rws st K := by
  apply Classical.byContradiction
  intro hno
  have hne : ∀ k, k < 99 → itM rws st (k + 1) ≠ itM rws st k := fun k hk e => hno ⟨k, hk, e⟩
  have hgrow : ∀ k, k ≤ 43 → k ≤ fn (itM rws st k) 0 + fn (itM rws st k) 1 + fn (itM rws st k) 2 + fn (itM rws st k) 3 := by
    intro k
    induction k with
    | zero => intro _; exact Nat.zero_le _
    | succ k ih =>
      intro hk
      have h1 := ih (by omega)
      have h2 := (it_inv G k).2.1
      have a := h2 0 (by decide)
      have b := h2 1 (by decide)
      have c := h2 2 (by decide)
      have d := h2 3 (by decide)
      apply Classical.byContradiction
      intro hlt
      refine hne k (by omega) ?_
      rw [list4 (itM_len rws st (k + 1)), list4 (itM_len rws st k)]
      show [fn (itM rws st (k + 1)) 0, fn (itM rws st (k + 1)) 1, fn (itM rws st (k + 1)) 2, fn (itM rws st (k + 1)) 3] = [fn (itM rws st k) 0, fn (itM rws st k) 1, fn (itM rws st k) 2, fn (itM rws st k) 3]
      rw [show fn (itM rws st (k + 1)) 0 = fn (itM rws st k) 0 by omega, show fn (itM rws st (k + 1)) 1 = fn (itM rws st k) 1 by omega, show fn (itM rws st (k + 1)) 2 = fn (itM rws st k) 2 by omega, show fn (itM rws st (k + 1)) 3 = fn (itM rws st k) 3 by omega]
  have h1 := hgrow 43 (Nat.le_refl _)
  have h2 := it_total G 43
  omega
/-- a fixed n bears the least one -/
theorem it_least (G : Game rws st) {f : Nat → Nat} (hf : ∀ p, p < 4 → f p = capR (rw_ rws p) (sv st p + Arr rws f p)) : ∀ k p, p < 4 → fn (itM rws st k) p ≤ f p
  | 0, p, hp => by
    rcases lt4 hp with rfl | rfl | rfl | rfl
    · exact Nat.zero_le _
    · exact Nat.zero_le _
    · exact Nat.zero_le _
    · exact Nat.zero_le _
  | k + 1, p, hp => by
    rw [it_succ G k hp, hf p hp]
    exact cap_mono _ (Nat.add_le_add_left (Arr_mono (it_least G hf k) p) _)
end
noncomputable def codeR (row : List Int) : Int := if row.getD 0 0 = 0 then 2 else 1
noncomputable def GC (L : List Call) : Prop := ∀ k ∈ L, ∃ p z, p < 4 ∧ -2 ≤ z ∧ z ≤ 2 ∧ k = mkC p z
noncomputable def plF (p : Nat) (L : List Call) : List Call := L.filter fun k => k.2.1 == (p : Int)
theorem mkC_goal {p q : Nat} (hq : q < 4) (z : Int) : ((mkC p z).1 == ((q + 1 : Nat) : Int)) = decide ((p : Int) + z = (q : Int)) := by
  show (clampI ((p : Int) + z) + 1 == _) = _
  rw [Bool.eq_iff_iff, beq_iff_eq, decide_eq_true_iff]
  unfold clampI
  split
  · split
    · omega
    · omega
  · split
    · omega
    · omega
theorem GC.pl {L : List Call} (h : GC L) : ∀ k ∈ L, 0 ≤ k.2.1 ∧ k.2.1 ≤ 3 := fun k hk => by
  obtain ⟨p, z, hp, _, _, rfl⟩ := h k hk
  show 0 ≤ (p : Int) ∧ (p : Int) ≤ 3
  omega
theorem GC.gl {L : List Call} (h : GC L) : ∀ k ∈ L, (0 ≤ k.2.1 ∧ k.2.1 ≤ 3) ∧ ∃ g : Nat, g < 6 ∧ k.1 = (g : Int) := fun k hk => by
  refine ⟨h.pl k hk, ?_⟩
  obtain ⟨p, z, hp, _, _, rfl⟩ := h k hk
  exact clamp_nat p z
theorem pl_perm {L : List Call} (h : GC L) : L.Perm (plF 0 L ++ (plF 1 L ++ (plF 2 L ++ (plF 3 L ++ [])))) := by
  rw [List.perm_iff_count]
  intro a
  simp only [List.count_append, List.count_nil]
  by_cases ha : a ∈ L
  · obtain ⟨p, z, hp, _, _, e⟩ := h a ha
    have hc : ∀ q : Nat, q < 4 → (plF q L).count a = if q = p then L.count a else 0 := fun q hq => by
      by_cases hqp : q = p
      · rw [if_pos hqp]
        exact List.count_filter (by rw [e, hqp]; exact beq_self_eq_true _)
      · rw [if_neg hqp]
        refine List.count_eq_zero.mpr fun hm => ?_
        have := (List.mem_filter.mp hm).2
        rw [e] at this
        have := eq_of_beq this
        apply hqp
        exact (Int.ofNat.inj this).symm
    rw [hc 0 (by decide), hc 1 (by decide), hc 2 (by decide), hc 3 (by decide)]
    rcases lt4 hp with rfl | rfl | rfl | rfl
    · simp
    · simp
    · simp
    · simp
  · have h0 : L.count a = 0 := List.count_eq_zero.mpr ha
    have hq : ∀ q : Nat, (plF q L).count a = 0 := fun q => List.count_eq_zero.mpr fun hm => ha (List.mem_filter.mp hm).1
    rw [h0, hq 0, hq 1, hq 2, hq 3]
/-- sizes of the calls from p -/
noncomputable def szF (p : Nat) (L : List Call) : List Int := (plF p L).map fun k => k.2.2
theorem plF_mk {L : List Call} (h : GC L) (p : Nat) : plF p L = (szF p L).map (mkC p) := by
  rw [szF, List.map_map]
  refine (List.map_id' _).symm.trans (List.map_congr_left fun k hk => ?_)
  obtain ⟨hk1, hk2⟩ := List.mem_filter.mp hk
  obtain ⟨q, z, _, _, _, rfl⟩ := h k hk1
  have : (q : Int) = (p : Int) := eq_of_beq hk2
  have : q = p := Int.ofNat.inj this
  subst this
  rfl
theorem arr_L {L : List Call} (h : GC L) {q : Nat} (hq : q < 4) : (partOf L (q + 1)).length = cA (szF 0 L) 0 q + cA (szF 1 L) 1 q + cA (szF 2 L) 2 q + cA (szF 3 L) 3 q := by
  have e : ∀ p, ((plF p L).countP fun k => k.1 == ((q + 1 : Nat) : Int)) = cA (szF p L) p q := fun p => by
    rw [plF_mk h, List.countP_map, cA, List.count, List.countP_map]
    refine List.countP_congr fun z _ => ?_
    show (mkC p z).1 == ((q + 1 : Nat) : Int) ↔ ((p : Int) + z == (q : Int)) = true
    rw [mkC_goal hq]
    simp
  rw [partOf, ← List.countP_eq_length_filter, (pl_perm h).countP_eq]
  simp only [List.countP_append, List.countP_nil]
  rw [e 0, e 1, e 2, e 3]
  omega
noncomputable def upd (n : Nat → Nat) (p : Nat) : Nat → Nat := fun q => if q = p then n q + 1 else n q
theorem cA_app (l m : List Int) (p q : Nat) : cA (l ++ m) p q = cA l p q + cA m p q := by
  unfold cA
  rw [List.map_append, List.count_append]
section
variable (rws : List (List Int)) (st : List Nat)
noncomputable def PS (row : List Int) (n : Nat) (ph : Ph) (sh : Int) : Prop := (ph = phR row n ∧ sh = 0) ∨ (ph = .done ∧ sh = codeR row ∧ sayR row n = none)
structure Run (n : Nat → Nat) (s : LS) (L : List Call) : Prop where
  l1 : s.sh.length = 4
  l2 : s.ph.length = 4
  all : ∀ p, p < 4 → AllS (rw_ rws p) (n p)
  ps : ∀ p, p < 4 → PS (rw_ rws p) (n p) (s.ph.getD p .done) (s.sh.getD p 0)
  chr : Chr s.bk L
  gc : GC L
  mv : ∀ p, p < 4 → szF p L = sayL (rw_ rws p) (n p)
noncomputable def Hr (n : Nat → Nat) (q : Nat) : Int := ((sv st q + Arr rws n q : Nat) : Int) - (n q : Nat)
end
variable {rws : List (List Int)} {st : List Nat}
theorem code_ne (row : List Int) : codeR row ≠ 0 := by unfold codeR; split <;> decide
theorem Run.here {n : Nat → Nat} {s : LS} {L : List Call} (h : Run rws n s L) {q : Nat} (hq : q < 4) : (hereL s.bk st).getD q 0 = Hr rws st n q := by
  rw [hereL, r4_get _ _ hq, here_is h.chr h.gc.gl _ hq, arr_L h.gc hq]
  have e : (L.countP fun k => k.2.1 == (q : Int)) = n q := by
    rw [List.countP_eq_length_filter]
    show (plF q L).length = _
    have : (szF q L).length = (plF q L).length := List.length_map _
    rw [← this, h.mv q hq]
    exact cap_full (h.all q hq)
  rw [e, h.mv 0 (by decide), h.mv 1 (by decide), h.mv 2 (by decide), h.mv 3 (by decide)]
  unfold Hr Arr sv
  omega
theorem Arr_upd {n : Nat → Nat} {p : Nat} (hp : p < 4) {x : Int} (hx : sayR (rw_ rws p) (n p) = some x) (q : Nat) : Arr rws (upd n p) q = Arr rws n q + (if (p : Int) + x = (q : Int) then 1 else 0) := by
  have e : ∀ r, r < 4 → cA (sayL (rw_ rws r) (upd n p r)) r q = cA (sayL (rw_ rws r) (n r)) r q + (if r = p then (if (p : Int) + x = (q : Int) then 1 else 0) else 0) := fun r hr => by
    unfold upd
    by_cases e : r = p
    · subst e
      rw [if_pos rfl, if_pos rfl, sayL_succ, hx, cA_app]
      congr 1
      show cA [x] r q = _
      rw [cA_cons]; show 0 + _ = _; omega
    · rw [if_neg e, if_neg e]; rfl
  unfold Arr
  rw [e 0 (by decide), e 1 (by decide), e 2 (by decide), e 3 (by decide)]
  rcases lt4 hp with rfl | rfl | rfl | rfl
  · simp; omega
  · simp; omega
  · simp; omega
  · simp; omega
theorem Hr_upd {n : Nat → Nat} {p : Nat} (hp : p < 4) {x : Int} (hx : sayR (rw_ rws p) (n p) = some x) (q : Nat) : Hr rws st (upd n p) q = Hr rws st n q + (if (p : Int) + x = (q : Int) then 1 else 0) - (if q = p then 1 else 0) := by
  unfold Hr
  rw [Arr_upd hp hx]
  unfold upd
  split <;> split <;> omega
theorem upd_all {n : Nat → Nat} {p : Nat} {x : Int} (h : ∀ q, q < 4 → AllS (rw_ rws q) (n q)) (hx : sayR (rw_ rws p) (n p) = some x) : ∀ q, q < 4 → AllS (rw_ rws q) (upd n p q) := fun q hq k hk => by
  unfold upd at hk
  split at hk
  · rename_i e
    subst e
    by_cases hkn : k < n q
    · exact h q hq k hkn
    · have : k = n q := by omega
      rw [this, hx]; exact fun e => nomatch e
  · exact h q hq k hk
theorem Run.init (hr : rws.length = 4) : Run rws (fun _ => 0) (initL rws) [] where
  l1 := rfl
  l2 := by show (rws.map Ph.fresh).length = 4; rw [List.length_map, hr]
  all := fun p hp k hk => absurd hk (Nat.not_lt_zero _)
  ps := fun p hp => .inl ⟨by
    show (rws.map Ph.fresh).getD p .done = .fresh (rws.getD p [])
    have hp' : p < rws.length := by omega
    simp [List.getD_eq_getElem?_getD, List.getElem?_eq_getElem hp'], by
    rcases lt4 hp with rfl | rfl | rfl | rfl
    · rfl
    · rfl
    · rfl
    · rfl⟩
  chr := Chr.nil
  gc := fun k hk => nomatch hk
  mv := fun p hp => rfl
/-- what a ruler's turn is -/
theorem Run.tell (G : Game rws st) {n : Nat → Nat} {s : LS} {L : List Call} (h : Run rws n s L) {p : Nat} (hp : p < 4) :
    (∃ x, sayR (rw_ rws p) (n p) = some x ∧ s.sh.getD p 0 = 0 ∧ (s.ph.getD p .done).tell = .says x (phR (rw_ rws p) (n p + 1))) ∨
    (sayR (rw_ rws p) (n p) = none ∧ ((s.ph.getD p .done).tell = .stops ∧ (s.sh.getD p 0 = codeR (rw_ rws p) ∨ (s.sh.getD p 0 = 0 ∧ codeR (rw_ rws p) = 1)) ∨ ((s.ph.getD p .done).tell = .refuses ∧ s.sh.getD p 0 = 0 ∧ codeR (rw_ rws p) = 2))) := by
  rcases h.ps p hp with ⟨e1, e2⟩ | ⟨e1, e2, e3⟩
  · have ht := tell_R (G.sh p hp) (n p) (h.all p hp)
    rw [← e1] at ht
    cases hs : sayR (rw_ rws p) (n p) with
    | some x => rw [hs] at ht; exact .inl ⟨x, rfl, e2, ht⟩
    | none =>
      rw [hs] at ht
      refine .inr ⟨rfl, ?_⟩
      unfold codeR
      by_cases h0 : (rw_ rws p).getD 0 0 = 0
      · rw [if_pos h0]; exact .inr ⟨ht.trans (if_pos h0), e2, rfl⟩
      · rw [if_neg h0]; exact .inl ⟨ht.trans (if_neg h0), .inr ⟨e2, rfl⟩⟩
  · exact .inr ⟨e3, .inl ⟨by rw [e1]; rfl, .inl e2⟩⟩
theorem Run.says {n : Nat → Nat} {s : LS} {L : List Call} (G : Game rws st) (h : Run rws n s L) {p : Nat} (hp : p < 4) {x : Int} (hx : sayR (rw_ rws p) (n p) = some x) (hsh : s.sh.getD p 0 = 0) :
    Run rws (upd n p) ⟨fileB s.bk (p : Int) x, s.sh, s.ph.set p (phR (rw_ rws p) (n p + 1))⟩ (L ++ [mkC p x]) where
  l1 := h.l1
  l2 := by show (s.ph.set p _).length = 4; rw [List.length_set]; exact h.l2
  all := upd_all h.all hx
  ps := fun q hq => by
    show PS (rw_ rws q) (upd n p q) ((s.ph.set p _).getD q .done) (s.sh.getD q 0)
    rw [set_getD (by rw [h.l2]; exact hp)]
    unfold upd
    by_cases e : q = p
    · subst e; rw [if_pos rfl, if_pos rfl]; exact .inl ⟨rfl, hsh⟩
    · rw [if_neg e, if_neg e]; exact h.ps q hq
  chr := h.chr.file hp x
  gc := fun k hk => by
    rcases List.mem_append.mp hk with hk | hk
    · exact h.gc k hk
    · rw [List.mem_singleton.mp hk]
      obtain ⟨_, b1, b2, _⟩ := say_bound (G.sh p hp) hx
      exact ⟨p, x, hp, b1, b2, rfl⟩
  mv := fun q hq => by
    have e0 : szF q (L ++ [mkC p x]) = szF q L ++ (if q = p then [x] else []) := by
      unfold szF plF
      rw [List.filter_append, List.map_append]
      congr 1
      by_cases e : q = p
      · subst e; rw [if_pos rfl, List.filter_cons_of_pos (by show ((q : Int) == (q : Int)) = true; exact beq_self_eq_true _)]; rfl
      · rw [if_neg e, List.filter_cons_of_neg (by show ¬ ((p : Int) == (q : Int)) = true; rw [beq_iff_eq]; omega)]; rfl
    rw [e0, h.mv q hq]
    unfold upd
    by_cases e : q = p
    · subst e; rw [if_pos rfl, if_pos rfl, sayL_succ, hx]; rfl
    · rw [if_neg e, if_neg e, List.append_nil]
theorem Run.ends {n : Nat → Nat} {s : LS} {L : List Call} (h : Run rws n s L) {p : Nat} (hp : p < 4) (hx : sayR (rw_ rws p) (n p) = none) :
    Run rws n ⟨s.bk, s.sh.set p (codeR (rw_ rws p)), s.ph.set p .done⟩ L where
  l1 := by show (s.sh.set p _).length = 4; rw [List.length_set]; exact h.l1
  l2 := by show (s.ph.set p _).length = 4; rw [List.length_set]; exact h.l2
  all := h.all
  ps := fun q hq => by
    show PS (rw_ rws q) (n q) ((s.ph.set p _).getD q .done) ((s.sh.set p _).getD q 0)
    rw [set_getD (by rw [h.l2]; exact hp), set_getD (by rw [h.l1]; exact hp)]
    by_cases e : q = p
    · subst e; rw [if_pos rfl, if_pos rfl]; exact .inr ⟨rfl, rfl, hx⟩
    · rw [if_neg e, if_neg e]; exact h.ps q hq
  chr := h.chr
  gc := h.gc
  mv := h.mv
theorem list4i {l : List Int} (h : l.length = 4) : l = [l.getD 0 0, l.getD 1 0, l.getD 2 0, l.getD 3 0] := by
  match l, h with
  | [a, b, c, d], _ => rfl
theorem eq4i {l m : List Int} (hl : l.length = 4) (hm : m.length = 4) (h : ∀ p, p < 4 → l.getD p 0 = m.getD p 0) : l = m := by
  rw [list4i hl, list4i hm, h 0 (by decide), h 1 (by decide), h 2 (by decide), h 3 (by decide)]
section
variable {rws : List (List Int)} {st : List Nat} {K : Nat}
noncomputable abbrev mf (rws : List (List Int)) (st : List Nat) (K : Nat) : Nat → Nat := fn (itM rws st K)
theorem m_fix (G : Game rws st) (hfix : itM rws st (K + 1) = itM rws st K) {p : Nat} (hp : p < 4) : mf rws st K p = capR (rw_ rws p) (sv st p + Arr rws (mf rws st K) p) := by
  have := it_succ G K hp
  rw [hfix] at this
  exact this
noncomputable def LE4 (n m : Nat → Nat) : Prop := ∀ p, p < 4 → n p ≤ m p
theorem le_upd (G : Game rws st) (hfix : itM rws st (K + 1) = itM rws st K) {n : Nat → Nat} (hall : ∀ q, q < 4 → AllS (rw_ rws q) (n q)) (hle : LE4 n (mf rws st K)) {p : Nat} (hp : p < 4) (hH : 0 < Hr rws st n p) {x : Int} (hx : sayR (rw_ rws p) (n p) = some x) : LE4 (upd n p) (mf rws st K) := by
  intro q hq
  unfold upd
  split
  · rename_i e
    subst e
    have h1 : AllS (rw_ rws q) (n q + 1) := by
      have := upd_all hall hx q hq
      unfold upd at this
      rw [if_pos rfl] at this
      exact this
    have h2 : n q + 1 ≤ sv st q + Arr rws (mf rws st K) q := by
      have := Arr_mono (rws := rws) hle q
      unfold Hr at hH
      omega
    rw [m_fix G hfix hq, ← cap_full h1]
    exact cap_mono _ h2
  · exact hle q hq
theorem is_m (G : Game rws st) {n : Nat → Nat} (hall : ∀ q, q < 4 → AllS (rw_ rws q) (n q)) (hle : LE4 n (mf rws st K)) (h : ∀ p, p < 4 → 0 ≤ Hr rws st n p ∧ (0 < Hr rws st n p → sayR (rw_ rws p) (n p) = none)) : ∀ p, p < 4 → n p = mf rws st K p := by
  have hf : ∀ p, p < 4 → n p = capR (rw_ rws p) (sv st p + Arr rws n p) := fun p hp => by
    obtain ⟨h1, h2⟩ := h p hp
    unfold Hr at h1 h2
    by_cases e : sv st p + Arr rws n p = n p
    · rw [e, cap_full (hall p hp)]
    · exact (cap_stop (G.sh p hp) (hall p hp) (h2 (by omega)) (by omega)).symm
  intro p hp
  exact Nat.le_antisymm (hle p hp) (it_least G hf K p hp)
theorem Hr_congr {n m : Nat → Nat} (h : ∀ p, p < 4 → n p = m p) {q : Nat} (hq : q < 4) : Hr rws st n q = Hr rws st m q := by
  unfold Hr Arr
  rw [h 0 (by decide), h 1 (by decide), h 2 (by decide), h 3 (by decide), h q hq]
theorem left_get (G : Game rws st) {p : Nat} (hp : p < 4) : (leftL rws st (itM rws st K)).getD p 0 = Hr rws st (mf rws st K) p := by
  rw [leftL, r4_get _ _ hp, came_get G _ hp]; rfl
theorem shut_get (G : Game rws st) {p : Nat} (hp : p < 4) : (shutL rws st (itM rws st K)).getD p 0 = if Hr rws st (mf rws st K) p = 0 then 0 else codeR (rw_ rws p) := by
  rw [shutL, r4_get _ _ hp, left_get G hp]
  unfold codeR rw_
  by_cases e : Hr rws st (mf rws st K) p = 0
  · rw [if_pos e, if_pos (by rw [e]; rfl)]
  · rw [if_neg e, if_neg (by rw [beq_iff_eq]; exact e)]
    by_cases e2 : (rws.getD p []).getD 0 0 = 0
    · rw [if_pos e2, if_pos (by rw [e2]; rfl)]
    · rw [if_neg e2, if_neg (by rw [beq_iff_eq]; exact e2)]
theorem total_run (G : Game rws st) {n : Nat → Nat} (hall : ∀ q, q < 4 → AllS (rw_ rws q) (n q)) (h : ∀ p, p < 4 → 0 ≤ Hr rws st n p) : n 0 + n 1 + n 2 + n 3 ≤ 42 :=
  total_le G hall fun q hq => by have := h q hq; unfold Hr at this; omega
theorem run_calls (G : Game rws st) {n : Nat → Nat} {s : LS} {L : List Call} (h : Run rws n s L) (hm : ∀ p, p < 4 → n p = mf rws st K p) : L.Perm (callsOf rws (itM rws st K)) := by
  have e : ∀ p, p < 4 → plF p L = callsAt rws (itM rws st K) p := fun p hp => by
    rw [plF_mk h.gc, h.mv p hp, hm p hp, callsAt, show sizesOf (rws.getD p []) ((itM rws st K).getD p 0) = sayL (rw_ rws p) (mf rws st K p) from sizes_say (G.sh p hp) _]; rfl
  refine (pl_perm h.gc).trans ?_
  rw [e 0 (by decide), e 1 (by decide), e 2 (by decide), e 3 (by decide)]
  exact List.Perm.refl _
theorem run_end (G : Game rws st) {n : Nat → Nat} {s : LS} {L : List Call} (h : Run rws n s L) (hm : ∀ p, p < 4 → n p = mf rws st K p) (hsh : ∀ p, p < 4 → (s.sh.getD p 0 = 0 ↔ Hr rws st n p = 0)) (o : List Int) :
    EqD 9 (tc3 s.bk s.sh o) (tc3 (bookOf (callsOf rws (itM rws st K))) (shutL rws st (itM rws st K)) o) := by
  have hp := run_calls G h hm
  have e1 : s.sh = shutL rws st (itM rws st K) := by
    refine eq4i h.l1 (by rw [shutL, List.length_map, List.length_range]) fun p hp => ?_
    rw [shut_get G hp, ← Hr_congr hm hp]
    by_cases e : Hr rws st n p = 0
    · rw [if_pos e]; exact (hsh p hp).mpr e
    · rw [if_neg e]
      rcases h.ps p hp with ⟨_, q⟩ | ⟨_, q, _⟩
      · exact absurd ((hsh p hp).mp q) e
      · exact q
  rw [e1]
  refine ⟨_, rfl, rfl, fun i d e h1 h2 => ?_⟩
  match i, h1, h2 with
  | 0, h1, h2 => cases h1; cases h2; exact Chr.eq (n := 5) h.chr (Chr.of fun k hk => call_place k hk) hp
  | 1, h1, h2 => cases h1; cases h2; exact ⟨rfl, _, rfl⟩
  | 2, h1, h2 => cases h1; cases h2; exact ⟨rfl, _, rfl⟩
noncomputable def zr (x : Int) : Nat := if x = 0 then 1 else 0
noncomputable def op4 (sh : List Int) : Nat := zr (sh.getD 0 0) + zr (sh.getD 1 0) + zr (sh.getD 2 0) + zr (sh.getD 3 0)
theorem op_set {sh : List Int} (hl : sh.length = 4) {p : Nat} (hp : p < 4) {x : Int} (hx : x ≠ 0) (h0 : sh.getD p 0 = 0) : op4 (sh.set p x) + 1 = op4 sh := by
  have e : ∀ q, zr ((sh.set p x).getD q 0) = if q = p then 0 else zr (sh.getD q 0) := fun q => by
    rw [set_getD (by omega)]
    by_cases e : q = p
    · rw [if_pos e, if_pos e]; exact if_neg hx
    · rw [if_neg e, if_neg e]
  have e0 : zr (sh.getD p 0) = 1 := if_pos h0
  unfold op4
  rw [e 0, e 1, e 2, e 3]
  rcases lt4 hp with rfl | rfl | rfl | rfl
  · rw [if_pos rfl, if_neg (by decide), if_neg (by decide), if_neg (by decide)]; omega
  · rw [if_neg (by decide), if_pos rfl, if_neg (by decide), if_neg (by decide)]; omega
  · rw [if_neg (by decide), if_neg (by decide), if_pos rfl, if_neg (by decide)]; omega
  · rw [if_neg (by decide), if_neg (by decide), if_neg (by decide), if_pos rfl]; omega
/-- a run of all -/
noncomputable def AllI (rws : List (List Int)) (st : List Nat) (K k : Nat) (s : LS) : Prop := ∃ n L, Run rws n s L ∧ LE4 n (mf rws st K) ∧ (∀ p, p < 4 → 0 ≤ Hr rws st n p) ∧ (∀ p, p < 4 → s.sh.getD p 0 ≠ 0 → 0 < Hr rws st n p) ∧ k + (n 0 + n 1 + n 2 + n 3) = 42 + op4 s.sh
theorem upd_tot {n : Nat → Nat} {p : Nat} (hp : p < 4) : upd n p 0 + upd n p 1 + upd n p 2 + upd n p 3 = n 0 + n 1 + n 2 + n 3 + 1 := by
  unfold upd
  rcases lt4 hp with rfl | rfl | rfl | rfl
  · simp; omega
  · simp; omega
  · simp; omega
  · simp; omega
theorem Hr0 (q : Nat) : Hr rws st (fun _ => 0) q = (sv st q : Nat) := by
  have : Arr rws (fun _ => 0) q = 0 := rfl
  unfold Hr
  rw [this]
  show ((sv st q + 0 : Nat) : Int) - ((0 : Nat) : Int) = _
  omega
theorem all_ok (G : Game rws st) (hfix : itM rws st (K + 1) = itM rws st K) : ∃ (I : Nat → LS → Prop) (k0 : Nat), I k0 (initL rws) ∧ k0 < 99 ∧
      (∀ k s, I k s → ∀ p, p < 4 → freeAt (hereL s.bk st) s.sh p = true → (∀ x ph', (s.ph.getD p .done).tell = .says x ph' → x ≠ 0) ∧ ∃ k', k' < k ∧ I k' (nextL s p)) ∧
      ∀ k s, I k s → freeOf (hereL s.bk st) s.sh = [] → EqD 9 (tc3 s.bk s.sh (hereL s.bk st)) (tc3 (bookOf (callsOf rws (itM rws st K))) (shutL rws st (itM rws st K)) (leftL rws st (itM rws st K))) := by
  refine ⟨AllI rws st K, 46, ⟨fun _ => 0, [], Run.init G.l4, fun p hp => Nat.zero_le _, fun p hp => by rw [Hr0]; omega, fun p hp h => ?_, rfl⟩, by decide, ?_, ?_⟩
  · exfalso
    apply h
    rcases lt4 hp with rfl | rfl | rfl | rfl
    · rfl
    · rfl
    · rfl
    · rfl
  · rintro k s ⟨n, L, hR, hle, hH, hS, hk⟩ p hp hfr
    obtain ⟨f1, f2⟩ := Bool.and_eq_true_iff.mp hfr
    have f1' := of_decide_eq_true f1
    rw [hR.here hp] at f1'
    have f2' : s.sh.getD p 0 = 0 := eq_of_beq f2
    rcases hR.tell G hp with ⟨x, hx, _, ht⟩ | ⟨hx, ht⟩
    · refine ⟨fun y ph' hy => by rw [ht] at hy; cases hy; exact (say_bound (G.sh p hp) hx).1, k - 1, ?_, ?_⟩
      · have := total_run G (upd_all hR.all hx) (st := st) fun q hq => by
          have := hH q hq
          rw [Hr_upd hp hx]
          split <;> split <;> (try subst_vars) <;> omega
        rw [upd_tot hp] at this
        omega
      · have e : nextL s p = ⟨fileB s.bk (p : Int) x, s.sh, s.ph.set p (phR (rw_ rws p) (n p + 1))⟩ := by unfold nextL; rw [ht]
        rw [e]
        refine ⟨upd n p, _, hR.says G hp hx f2', le_upd G hfix hR.all hle hp f1' hx, fun q hq => ?_, fun q hq hne => ?_, ?_⟩
        · have := hH q hq
          rw [Hr_upd hp hx]
          split <;> split <;> (try subst_vars) <;> omega
        · have := hS q hq hne
          have hqp : q ≠ p := fun e => hne (by rw [e]; exact f2')
          rw [Hr_upd hp hx, if_neg hqp]
          split <;> omega
        · have := total_run G (upd_all hR.all hx) (st := st) fun q hq => by
            have := hH q hq
            rw [Hr_upd hp hx]
            split <;> split <;> (try subst_vars) <;> omega
          rw [upd_tot hp] at this ⊢
          show k - 1 + _ = 42 + op4 s.sh
          omega
    · have hc := code_ne (rw_ rws p)
      have hnx : nextL s p = ⟨s.bk, s.sh.set p (codeR (rw_ rws p)), s.ph.set p .done⟩ ∧ ∀ x ph', (s.ph.getD p .done).tell ≠ .says x ph' := by
        rcases ht with ⟨ht, h1 | ⟨_, h2⟩⟩ | ⟨ht, _, h2⟩
        · exact absurd (h1.symm.trans f2') hc
        · exact ⟨by unfold nextL; rw [ht, h2], fun x ph' e => by rw [ht] at e; cases e⟩
        · exact ⟨by unfold nextL; rw [ht, h2], fun x ph' e => by rw [ht] at e; cases e⟩
      have ho := op_set hR.l1 hp hc f2'
      refine ⟨fun x ph' e => absurd e (hnx.2 x ph'), k - 1, ?_, ?_⟩
      · have := total_run G hR.all hH
        omega
      · rw [hnx.1]
        refine ⟨n, L, hR.ends hp hx, hle, hH, fun q hq hne => ?_, ?_⟩
        · by_cases e : q = p
          · rw [e]; exact f1'
          · refine hS q hq fun h0 => hne ?_
            show (s.sh.set p _).getD q 0 = 0
            rw [set_getD (by rw [hR.l1]; exact hp), if_neg e]; exact h0
        · have := total_run G hR.all hH
          show k - 1 + _ = 42 + op4 (s.sh.set p _)
          omega
  · rintro k s ⟨n, L, hR, hle, hH, hS, hk⟩ hfr
    have hno : ∀ p, p < 4 → 0 < Hr rws st n p → s.sh.getD p 0 ≠ 0 := fun p hp h1 h2 => by
      have hf : freeAt (hereL s.bk st) s.sh p = true := by
        unfold freeAt
        rw [hR.here hp, h2]
        simpa using h1
      have : (hereL s.bk st).getD p 0 = (hereL s.bk st).getD p 0 := rfl
      have hm : ((hereL s.bk st).getD p 0, 8 + (p : Int)) ∈ freeOf (hereL s.bk st) s.sh := List.mem_map.mpr ⟨p, List.mem_filter.mpr ⟨List.mem_range.mpr hp, hf⟩, rfl⟩
      rw [hfr] at hm
      cases hm
    have hm := is_m G hR.all hle fun p hp => ⟨hH p hp, fun h1 => by
      rcases hR.ps p hp with ⟨_, q⟩ | ⟨_, _, q⟩
      · exact absurd q (hno p hp h1)
      · exact q⟩
    have hl : hereL s.bk st = leftL rws st (itM rws st K) := by
      refine eq4i (hereL_len _ _) (by rw [leftL, List.length_map, List.length_range]) fun p hp => ?_
      rw [hR.here hp, left_get G hp, Hr_congr hm hp]
    rw [hl]
    refine run_end G hR hm (fun p hp => ⟨fun h => ?_, fun h => ?_⟩) _
    · have := hH p hp
      apply Classical.byContradiction
      intro hne
      exact hno p hp (by omega) h
    · apply Classical.byContradiction
      intro hne
      have := hS p hp hne
      omega
end
section
variable {rws : List (List Int)} {st : List Nat} {K : Nat}
noncomputable def at1 (p q : Int) : Int := if p = q then 1 else 0
/-- one walker after another: between two walkers -/
noncomputable def OneI (rws : List (List Int)) (st : List Nat) (K : Nat) (lf : List Int) (s : LS) : Prop := ∃ n L, Run rws n s L ∧ LE4 n (mf rws st K) ∧ (∀ p : Nat, p < 4 → ((lf.count (p : Int) : Nat) : Int) ≤ Hr rws st n p) ∧
  (∀ p : Nat, p < 4 → (s.sh.getD p 0 ≠ 0 ↔ ((lf.count (p : Int) : Nat) : Int) < Hr rws st n p))
/-- .. while a walker goes -/
noncomputable def GoI (rws : List (List Int)) (st : List Nat) (K : Nat) (lf : List Int) (k : Nat) (s : LS) (p : Int) : Prop := ∃ n L, Run rws n s L ∧ LE4 n (mf rws st K) ∧ (∀ q : Nat, q < 4 → ((lf.count (q : Int) : Nat) : Int) + at1 p q ≤ Hr rws st n q) ∧
  (∀ q : Nat, q < 4 → (s.sh.getD q 0 ≠ 0 ↔ ((lf.count (q : Int) : Nat) : Int) + at1 p q < Hr rws st n q)) ∧ k + (n 0 + n 1 + n 2 + n 3) = 42
theorem at1_nn (p q : Int) : 0 ≤ at1 p q := by unfold at1; split <;> decide
theorem cnt_erase {lf : List Int} {p q : Int} (h : p ∈ lf) : (((lf.erase p).count q : Nat) : Int) + at1 p q = ((lf.count q : Nat) : Int) := by
  have hpos : 0 < lf.count p := List.count_pos_iff.mpr h
  rw [List.count_erase]
  unfold at1
  by_cases e : p = q
  · subst e; rw [if_pos rfl, if_pos (beq_self_eq_true _)]; omega
  · rw [if_neg e, if_neg (by rw [beq_iff_eq]; exact e)]; omega
theorem go_ok (G : Game rws st) (hfix : itM rws st (K + 1) = itM rws st K) {lf : List Int} {s : LS} {p0 : Int} (h : OneI rws st K lf s) (hp : p0 ∈ lf) : LeadOk s p0 (OneI rws st K (lf.erase p0)) := by
  obtain ⟨n, L, hR, hle, hH, hS⟩ := h
  have hnn : ∀ p, p < 4 → 0 ≤ Hr rws st n p := fun p hp => by have := hH p hp; omega
  have ht := total_run G hR.all hnn
  refine ⟨GoI rws st K (lf.erase p0), 42 - (n 0 + n 1 + n 2 + n 3), ⟨n, L, hR, hle, fun q hq => ?_, fun q hq => ?_, by omega⟩, by omega, ?_, ?_⟩
  · rw [cnt_erase hp]; exact hH q hq
  · rw [cnt_erase hp]; exact hS q hq
  · rintro k s p ⟨n, L, hR, hle, hH, hS, hk⟩ hout
    have h0 : ∀ q : Nat, q < 4 → at1 p q = 0 := fun q hq => if_neg (by omega)
    refine ⟨n, L, hR, hle, fun q hq => ?_, fun q hq => ?_⟩
    · have := hH q hq; rw [h0 q hq] at this; omega
    · have := hS q hq; rw [h0 q hq, Int.add_zero] at this; exact this
  · rintro k s p hp4 ⟨n, L, hR, hle, hH, hS, hk⟩
    have hHp := hH p hp4
    have e1 : at1 (p : Int) (p : Int) = 1 := if_pos rfl
    rw [e1] at hHp
    have hnn : ∀ q, q < 4 → 0 ≤ Hr rws st n q := fun q hq => by
      have := hH q hq
      have := at1_nn (p : Int) (q : Int)
      omega
    rcases hR.tell G hp4 with ⟨x, hx, hs0, ht⟩ | ⟨hx, ht⟩
    · rw [ht]
      have hHu : ∀ q, q < 4 → Hr rws st (upd n p) q = Hr rws st n q + at1 ((p : Int) + x) q - at1 (p : Int) q := fun q hq => by
        rw [Hr_upd hp4 hx]
        unfold at1
        by_cases e : q = p
        · rw [if_pos e, if_pos (show (p : Int) = (q : Int) by omega)]
        · rw [if_neg e, if_neg (show ¬ (p : Int) = (q : Int) by omega)]
      have htot := total_run G (upd_all hR.all hx) (st := st) fun q hq => by
        rw [hHu q hq]
        have a := hH q hq
        have b := at1_nn ((p : Int) + x) q
        omega
      rw [upd_tot hp4] at htot
      refine ⟨(say_bound (G.sh p hp4) hx).1, k - 1, by omega, upd n p, _, hR.says G hp4 hx hs0, le_upd G hfix hR.all hle hp4 (by omega) hx, fun q hq => ?_, fun q hq => ?_, by rw [upd_tot hp4]; omega⟩
      · rw [hHu q hq]
        have a := hH q hq
        omega
      · rw [hHu q hq]
        have a := hS q hq
        show s.sh.getD q 0 ≠ 0 ↔ _
        rw [a]
        omega
    · have hc := code_ne (rw_ rws p)
      have hend : OneI rws st K (lf.erase p0) ⟨s.bk, s.sh.set p (codeR (rw_ rws p)), s.ph.set p .done⟩ := by
        refine ⟨n, L, hR.ends hp4 hx, hle, fun q hq => ?_, fun q hq => ?_⟩
        · have a := hH q hq
          have b := at1_nn (p : Int) (q : Int)
          omega
        · show (s.sh.set p _).getD q 0 ≠ 0 ↔ _
          rw [set_getD (by rw [hR.l1]; exact hp4)]
          by_cases e : q = p
          · subst e
            rw [if_pos rfl]
            exact ⟨fun _ => by omega, fun _ => hc⟩
          · rw [if_neg e, hS q hq]
            have b : at1 (p : Int) (q : Int) = 0 := if_neg (by omega)
            rw [b, Int.add_zero]
      rcases ht with ⟨ht, hh⟩ | ⟨ht, h1, h2⟩
      · rw [ht]
        have e : mx (s.sh.getD p 0) 1 = codeR (rw_ rws p) := by
          rcases hh with h1 | ⟨h1, h2⟩
          · rw [h1]
            unfold codeR mx
            split <;> decide
          · rw [h1, h2]; decide
        show OneI _ _ _ _ ⟨_, s.sh.set p (mx (s.sh.getD p 0) 1), _⟩
        rw [e]; exact hend
      · rw [ht]
        have e : mx (s.sh.getD p 0) 2 = codeR (rw_ rws p) := by rw [h1, h2]; decide
        show OneI _ _ _ _ ⟨_, s.sh.set p (mx (s.sh.getD p 0) 2), _⟩
        rw [e]; exact hend
theorem left_cnt (G : Game rws st) {p : Nat} (hp : p < 4) : (leftOf st).count (p : Int) = sv st p := by
  have e : ∀ q : Nat, ((List.range (st.getD q 0)).map fun _ => (q : Int)).count (p : Int) = if q = p then sv st p else 0 := fun q => by
    rw [List.map_const', List.length_range, List.count_replicate]
    by_cases e : q = p
    · subst e; rw [if_pos rfl, if_pos (beq_self_eq_true _)]; rfl
    · rw [if_neg e, if_neg (by rw [beq_iff_eq]; omega)]
  have e2 : leftOf st = ((List.range (st.getD 0 0)).map fun _ => ((0 : Nat) : Int)) ++ (((List.range (st.getD 1 0)).map fun _ => ((1 : Nat) : Int)) ++ (((List.range (st.getD 2 0)).map fun _ => ((2 : Nat) : Int)) ++ (((List.range (st.getD 3 0)).map fun _ => ((3 : Nat) : Int)) ++ []))) := rfl
  rw [e2, List.count_append, List.count_append, List.count_append, List.count_append, e 0, e 1, e 2, e 3]
  rcases lt4 hp with rfl | rfl | rfl | rfl
  · simp
  · simp
  · simp
  · simp
theorem ord_all : ∀ a < 2, ∀ b < 3, ∀ c < 2, ∀ d < 2, ordL (leftOf [a, b, c, d]).length (leftOf [a, b, c, d]) = orderL [a, b, c, d] := by decide +kernel
theorem ord_is (G : Game rws st) : ordL (leftOf st).length (leftOf st) = orderL st := by
  have h := list4 G.s4
  have a := G.b0
  have b := G.b1
  have c := G.b2
  have d := G.b3
  unfold sv at a b c d
  rw [h]
  exact ord_all _ (by omega) _ (by omega) _ (by omega) _ (by omega)
theorem one_ok (G : Game rws st) (hfix : itM rws st (K + 1) = itM rws st K) : ∃ I : List Int → LS → Prop, I (leftOf st) (initL rws) ∧ (∀ lf s, I lf s → lf ≠ [] → LeadOk s (bestW lf) (I (lf.erase (bestW lf)))) ∧
      ∀ s, I [] s → EqD 9 (tc3 s.bk s.sh (ordL (leftOf st).length (leftOf st))) (tc3 (bookOf (callsOf rws (itM rws st K))) (shutL rws st (itM rws st K)) (orderL st)) := by
  refine ⟨OneI rws st K, ⟨fun _ => 0, [], Run.init G.l4, fun p hp => Nat.zero_le _, fun p hp => by rw [Hr0, left_cnt G hp]; exact Int.le_refl _, fun p hp => ?_⟩, fun lf s h hne => go_ok G hfix h (bestW_mem hne), ?_⟩
  · rw [Hr0, left_cnt G hp]
    have : (initL rws).sh.getD p 0 = 0 := by
      rcases lt4 hp with rfl | rfl | rfl | rfl
      · rfl
      · rfl
      · rfl
      · rfl
    rw [this]
    exact ⟨fun h => absurd rfl h, fun h => absurd h (Int.lt_irrefl _)⟩
  · rintro s ⟨n, L, hR, hle, hH, hS⟩
    have hH' : ∀ p, p < 4 → 0 ≤ Hr rws st n p := fun p hp => hH p hp
    have hS' : ∀ p, p < 4 → (s.sh.getD p 0 ≠ 0 ↔ 0 < Hr rws st n p) := fun p hp => hS p hp
    have hm := is_m G hR.all hle fun p hp => ⟨hH' p hp, fun h1 => by
      rcases hR.ps p hp with ⟨_, q⟩ | ⟨_, _, q⟩
      · exact absurd q ((hS' p hp).mpr h1)
      · exact q⟩
    rw [ord_is G]
    refine run_end G hR hm (fun p hp => ?_) _
    have a := hH' p hp
    have b := hS' p hp
    constructor
    · intro h
      apply Classical.byContradiction
      intro hne
      exact b.mpr (by omega) h
    · intro h
      apply Classical.byContradiction
      intro hne
      have := b.mp hne
      omega
theorem sh_len {row : List Int} (h : RowSh row) : 0 < row.length ∧ row.length ≤ 5 := by
  cases h with
  | zero hl => exact ⟨Nat.succ_pos _, by show _ + 1 ≤ _; omega⟩
  | two _ _ => exact ⟨by show 0 < 2; decide, by show 2 ≤ 5; decide⟩
  | stop _ _ => exact ⟨by show 0 < 4; decide, by show 4 ≤ 5; decide⟩
  | on _ _ _ => exact ⟨by show 0 < 4; decide, by show 4 ≤ 5; decide⟩
theorem plain_ok (G : Game rws st) : PlainOk rws st where
  len := fun p => by
    by_cases hp : p < 4
    · exact Nat.le_trans (sh_len (G.sh p hp)).2 (by decide)
    · rw [List.getD_eq_getElem?_getD, List.getElem?_eq_none (by rw [G.l4]; omega)]; exact Nat.zero_le _
  pos := fun p hp => (sh_len (G.sh p hp)).1
  lf := by
    have e : (leftOf st).length = st.getD 0 0 + (st.getD 1 0 + (st.getD 2 0 + (st.getD 3 0 + 0))) := by
      simp [leftOf, show List.range 4 = [0, 1, 2, 3] from rfl]
    have a := G.b0
    have b := G.b1
    have c := G.b2
    have d := G.b3
    unfold sv at a b c d
    omega
  out := by
    obtain ⟨K, h1, h2⟩ := it_fix G
    exact ⟨K, h1, h2, it_bound G, all_ok G h2, one_ok G h2⟩
end
theorem game_of {ns : List Int} (h : ns.length = 4) : Game (rwsOf ns) (stOf ns) where
  l4 := by rw [rwsOf, List.length_map, h]
  s4 := by rw [stOf, List.length_map, List.length_range]
  sh := fun p hp => by
    have hp' : p < ns.length := by omega
    unfold rw_ rwsOf
    rw [List.getD_eq_getElem?_getD, List.getElem?_map, List.getElem?_eq_getElem hp']
    exact rowOf_sh _
  b0 := by unfold sv stOf; rw [r4_get _ _ (by decide)]; show ((ns.getD 0 0 / 320 % 2).toNat + 0 : Nat) ≤ 1; omega
  b1 := by unfold sv stOf; rw [r4_get _ _ (by decide)]; show ((ns.getD 1 0 / 320 % 2).toNat + 1 : Nat) ≤ 2; omega
  b2 := by unfold sv stOf; rw [r4_get _ _ (by decide)]; show ((ns.getD 2 0 / 320 % 2).toNat + 0 : Nat) ≤ 1; omega
  b3 := by unfold sv stOf; rw [r4_get _ _ (by decide)]; show ((ns.getD 3 0 / 320 % 2).toNat + 0 : Nat) ≤ 1; omega
/-- the law's plain half -/
theorem plain_law (xs : List Int) : PlainOk (rwsOf (numsOf xs)) (stOf (numsOf xs)) := plain_ok (game_of (by rw [numsOf, List.length_map, List.length_range]))
noncomputable def runT (st : SharedT → Thread → Option (SharedT × Thread)) (ok : Thread → Bool) : Nat → SharedT → Thread → Option SharedT
  | 0, _, _ => none
  | n + 1, s, t => match through t with
    | true => some s
    | false => match ok t with
      | false => none
      | true => match st s t with
        | some (s', t') => runT st ok n s' t'
        | none => none
theorem runT_of {tb : String → Option Builtin} {p : Program} {w : World} {n₀ : Nat} {ann : Option Value} : ∀ {n : Nat} {s s' : SharedT} {t : Thread}, runT (stepT (denote tb) p w) (stepOk n₀ ann) n s t = some s' → topRun tb p w n₀ ann n s.abs t = some s'.abs
  | 0, _, _, _, h => by cases h
  | n + 1, s, s', t, h => by
    unfold runT at h
    unfold topRun
    cases he : through t with
    | true => rw [he] at h; cases h; rfl
    | false =>
      rw [he] at h
      cases hk : stepOk n₀ ann t with
      | false => rw [hk] at h; cases h
      | true =>
        rw [hk] at h
        cases hs : stepT (denote tb) p w s t with
        | none => rw [hs] at h; cases h
        | some r => obtain ⟨s₂, t₂⟩ := r; rw [hs] at h; rw [stepT_spec hs]; exact runT_of h
noncomputable def growT : List Obj → Nat → BT → BT
  | [], _, t => t
  | o :: r, n, t => growT r (n + 1) (t.ins n o)
noncomputable def bootS (w : World) (os : OsState) : SharedT := ⟨growT (boot_heap w.params).objs.toList 0 .nil, 11, (boot_heap w.params).life, #[], boot_drawn, boot_toks, os⟩
noncomputable def boot0 (w : World) (os : OsState) : Shared := ⟨boot_heap w.params, Array.mk [], boot_drawn, boot_toks, os⟩
theorem bootS_abs (w : World) (os : OsState) : (bootS w os).abs = boot0 w os := by kernel_rfl
theorem boot_size (w : World) : (boot_heap w.params).objs.size = 11 := by kernel_rfl
theorem boot_ann (w : World) : (boot_heap w.params).nsMap mainGlobals "__annotations__" = some (.ref 6) := by kernel_rfl
theorem boot_fine (w : World) : ((boot_heap w.params).isNs mainGlobals && (Array.mk [] : Array GenState).size == 0) = true := by kernel_rfl
theorem left_of {p q : Program} {loose : List Str} {Xt : Shared → Bool} {α : Type} {Yf : Shared → α} {Ya : World → α} {N : Nat}
    (open_ : ∀ w : World, (fencedOpening treeTable p w N).map (fun s => (s.heap, s.gens, s.drawn, s.toks)) = some (boot_heap w.params, Array.mk [], boot_drawn, boot_toks))
    (run : ∀ (w : World) (os : OsState), (runT (stepT (denote treeTable) p w) (stepOk 11 (some (.ref 6))) N (bootS w os) (topStub p)).map (fun s => (staticsOk (importedModules p.main.body) (boot_heap w.params) s.abs.heap && namesBound p s.abs.heap && gensDone s.abs && laidKept (boot_heap w.params) s.abs.heap,
      openSeen q loose (importedModules p.main.body) Xt true s.abs, Yf s.abs)) = some (true, openGood q loose, Ya w)) : LeftO p q loose Xt Yf Ya N := fun w => by
  obtain ⟨⟨h, gs, d, k, os⟩, e, e'⟩ := Option.map_eq_some_iff.mp (open_ w)
  obtain ⟨rfl, rfl, rfl, rfl⟩ : h = boot_heap w.params ∧ gs = Array.mk [] ∧ d = boot_drawn ∧ k = boot_toks := by simpa using e'
  obtain ⟨s, h1, h2⟩ := Option.map_eq_some_iff.mp (run w os)
  obtain ⟨l1, l2, l3⟩ : _ ∧ _ ∧ _ := by simpa only [Prod.mk.injEq] using h2
  have r := runT_of h1
  rw [bootS_abs] at r
  have t : topFrom treeTable p w N (boot0 w os) = some s.abs := by
    unfold topFrom boot0
    dsimp only
    rw [boot_fine, boot_size, boot_ann]
    show (topRun treeTable p w 11 (some (.ref 6)) N (boot0 w os) (topStub p)).bind _ = _
    rw [r]
    show (match staticsOk (importedModules p.main.body) (boot_heap w.params) s.abs.heap && namesBound p s.abs.heap && gensDone s.abs && laidKept (boot_heap w.params) s.abs.heap with | true => _ | false => _) = _
    rw [l1]
  unfold openEnds
  rw [e]
  show (topFrom treeTable p w N (boot0 w os)).map _ = _
  rw [t]
  exact congrArg some (Prod.ext l2 l3)
noncomputable def QQ : Program := view P0 [1, 2, 3, 5, 6, 7, 8, 9, 11, 12, 13, 14, 15, 16, 17, 18, 19, 20, 21]
noncomputable def KA : List Addr := [3, 20, 21, 27, 28, 41, 42, 48, 49, 51, 52, 62, 63, 69, 70, 76, 77, 83, 84, 90, 91, 97, 98, 104, 105, 111, 112, 116, 117, 123, 124, 128, 129, 133, 134, 138, 139, 143, 144, 148, 149]
theorem ka (P : Params) : KA = (KK P).map (·.1) := by kernel_rfl
noncomputable def HH : Hook := kmHook KK KA ka [114]
theorem opens : opening P0 = plainProg P0.main.scope.names := by kernel_rfl
theorem runs (w : World) (os : OsState) : (runT (Fast.tw10156331382660048174 (Fast.tw11892475500146522536 Fast.tw14364793385576792824) P0 w) (Fast.tw6613529449190102663 11 (some (.ref 6))) 1750 (bootS w os) (topStub P0)).map (fun s => (staticsOk (Fast.tw5923862056798008813 P0.main.body) (boot_heap w.params) s.abs.heap && namesBound P0 s.abs.heap && gensDone s.abs && laidKept (boot_heap w.params) s.abs.heap,
      Fast.tw4187177175401517315 QQ [] (Fast.tw5923862056798008813 P0.main.body) (fun s => xlAt QQ [] s && recOk [] s) true s.abs, HH.obs s.abs)) = some (true, openGood QQ [], HH.val w) := by kernel_rfl
theorem left : LeftO P0 QQ [] (fun s => xlAt QQ [] s && recOk [] s) HH.obs HH.val 1750 :=
  left_of (boot_open opens (by decide +kernel) fun s => by kernel_rfl) fun w os => by
    rw [Fast.te10156331382660048174, Fast.te11892475500146522536, Fast.te14364793385576792824, Fast.te6613529449190102663, Fast.te5923862056798008813, Fast.te4187177175401517315]
    exact runs w os
theorem said : OpenLaw.wellSaid PySem.Challenge.rw_pe0079_01 = true := by
  rw [Fast.te9446332074065402090]; kernel_rfl
noncomputable def dLaw : DefRec := match bodyAt 21 with
  | some (.FunctionDef x ps body _ _ _ scope _ _ p) => ⟨x, ps, body, scope, p⟩
  | _ => ⟨Str.ofString "", ⟨[], [], none, [], [], none, []⟩, [], ⟨.function, [], false, false, []⟩, ⟨0, 0, 0, 0⟩⟩
theorem hd (walk : WalkO QQ [] (XL QQ []) HH.says PySem.Challenge.rw_pe0079_01.row.toRowW dLaw [] fun f vs => call f vs) : PySem.Challenge.rw_pe0079_01.Holds := by
  refine holds_law said fun said => holds_open (q := QQ) (loose := []) (Xt := fun s => xlAt QQ [] s && recOk [] s) (XP := XL QQ []) (Yf := HH.obs) (Ya := HH.val) (YP := HH.says) (d := dLaw) (kwd := []) left HH.of HH.keeps
    (fun s e => xl_of s (Bool.and_eq_true_iff.mp e).1) XL.keeps ?_ ?_ ?_ (fun s e => recFacts_of (Bool.and_eq_true_iff.mp e).2) rfl said (by decide +kernel) ⟨rfl, rfl, rfl, rfl, rfl, by decide +kernel⟩ ?_ walk
  · kernel_rfl
  · kernel_rfl
  · kernel_rfl
  · exact ⟨[.list []], by decide +kernel, by decide +kernel⟩
noncomputable def TopEnd (c : Cx) (s' : Shared) : Prop := (∀ b o, b ≠ 114 → c.h0.get? b = some o → s'.heap.get? b = some o) ∧ (∃ ps, s'.heap.get? 114 = some (tabObj ps)) ∧ s'.os = c.os ∧ AllBare s'.gens
theorem gens_bare {c : Cx} {g : G} : ∀ {st : List GenState} {l : List GA}, GensOk c g st l → ∀ y ∈ st, y.bare = true
  | [], _, _, y, hy => nomatch hy
  | _ :: _, _, h, y, hy => by
    obtain ⟨ga, l', rfl, h1, h2⟩ := h
    rcases List.mem_cons.mp hy with e | hy
    · subst e; exact h1.2.2
    · exact gens_bare h2 y hy
theorem top_end {c : Cx} {X : Fm} {R : Ld} {g : G} {s : Shared} {S : AS} (h : Rel c X R g s S) : TopEnd c s := by
  obtain ⟨m, cs, mo, tb, q⟩ := h
  refine ⟨fun b o hb e => q.wd.fz b o (q.g0 b o (by unfold Cx.g0; rw [if_neg hb]; exact e)), ?_, q.os, fun y hy => gens_bare q.gen y (Array.mem_toList_iff.mpr hy)⟩
  obtain ⟨_, o, ho, hP⟩ := q.wd.ok (114, fun o => o = tb) (by unfold ledger; simp)
  have e : o = tb := hP
  subst e
  rcases q.tbo with e | ⟨cc, oc, vs, t, e, _⟩
  · exact ⟨_, e ▸ ho⟩
  · exact ⟨_, e ▸ ho⟩
theorem top_fn {c : Cx} {f : Addr} {fd : FuncData} {oc : Value} {od : Option Addr} {osl : Array (Option Value)} {body : List Stmt} {as : List AV} {ps : List Str} {n : Nat} {A : Around} {Q : AV → Prop}
    (ho : (KK c.w.params).lookup f = some ⟨oc, od, .func fd, osl⟩) (hcd : c.h0.CodeRec fd.code fd.qualname)
    (hbody : fd.body = .stmts body) (hclo : fd.closure = []) (hbind : ∀ vs, vs.length = as.length → bindArgs fd ⟨vs, []⟩ = pure (ps.zip vs)) (hlen : ps.length = as.length)
    (hcs : ((cellsFrom 0 fd.scope.names []).map Prod.fst).Nodup) (hkind : (ps.all fun y => fd.scope.names.lookup y == some .local || fd.scope.names.lookup y == some .cell) = true) (hnd : ps.Nodup)
    (hg : fd.globals = mainGlobals) (hb : fd.builtins = builtinsNs) (hco : fd.scope.isCoroutine = false) (hgen : fd.scope.isGenerator = false) (hk : fd.scope.kind = .function)
    (okA : OkA (n + 1) A) (hfl : A.frames = some []) {s : Shared} (hs : s.heap = c.h0) (hgens : s.gens = #[]) (hos : s.os = c.os) {vs : List Value} (hvs : AVsr c.w c.g0 as vs)
    (h : ∀ Y L, Kn Y fd f L → Y.n = n → Ex c Y ⟨ps.zip as, [], []⟩ (execs body Y.env) (fun fl S1 => Q (flAV fl))) :
    codeAny (M c) A (.call (.ref f) ⟨vs, []⟩) (fun r s' => ∃ v a g', r = .ok (.ret v) ∧ AVr c.w g' a v ∧ Q a ∧ TopEnd c s') s := by
  have hlv := hvs.length
  have hpz : (ps.zip vs).map Prod.fst = ps := by rw [List.map_fst_zip]; omega
  refine codeAny_call_cells (by have := okA.dp; omega) (by rw [hs]; exact c.hK f _ ho) rfl (by rw [hs]; exact c.lim) (by rw [hs]; exact hcd) hbody (hbind vs hlv) hclo (kindsX ?_ _) (fun s₁ hin => ?_) hco hgen hk
  · rw [List.all_eq_true] at hkind ⊢
    intro p hp
    exact hkind p.1 (hpz ▸ List.mem_map.mpr ⟨p, hp, rfl⟩)
  have hC := hin.toInCall
  let env := callEnvC fd s.heap.objs.size f
  have w0 : Wd c.g0 s.heap [(114, fun o => o = tabObj #[])] := by
    refine ⟨fun a o e => ?_, by simp, fun p hp => ?_⟩
    · unfold Cx.g0 at e
      split at e
      · cases e
      · rw [hs]; exact e
    · rw [List.mem_singleton.mp hp]
      exact ⟨if_pos rfl, _, by rw [hs]; exact c.tab, rfl⟩
  have w2 := w0.keeps hC.keep
  have hcn : (env.cells.map Prod.fst).Nodup := by
    have : env.cells.map Prod.fst = (cellsFrom 0 fd.scope.names []).map Prod.fst := cellsFrom_fst _ _ _ _ _ rfl
    rw [this]; exact hcs
  let cs' : List (Addr × Option Value) := env.cells.map fun p => (p.2, bindC env.kindOf (ps.zip vs) (fun _ => none) p.1)
  have hcsmap : cs'.map cellE = env.cells.map fun p => (p.2, cellP (bindC env.kindOf (ps.zip vs) (fun _ => none) p.1)) := by
    simp only [cs', List.map_map]; rfl
  have hlow : ∀ p ∈ ([(114, fun o => o = tabObj #[])] : Ld), p.1 < s.heap.objs.size := fun p hp => by
    obtain ⟨_, o, h1, _⟩ := w0.ok p hp
    exact Heap.lt_size h1
  have w3 : Wd c.g0 s₁.heap (ledger env.locals (bindL env.kindOf (ps.zip vs) fun _ => none) cs' [] [] (tabObj #[]) []) := by
    have : ledger env.locals (bindL env.kindOf (ps.zip vs) fun _ => none) cs' [] [] (tabObj #[]) [] = ((env.locals, NsP (bindL env.kindOf (ps.zip vs) fun _ => none)) :: cs'.map cellE) ++ [(114, fun o => o = tabObj #[])] := by
      unfold ledger; simp
    rw [this]
    refine w2.join (n := s.heap.objs.size) (fun a o e => Heap.lt_size (w0.fz a o e)) hlow (fun p hp => ?_) ?_
    · rcases List.mem_cons.mp hp with e | hp
      · subst e
        obtain ⟨o, h1, h2⟩ := NsP.of hC.ns
        exact ⟨Nat.le_refl _, o, h1, h2⟩
      · rw [hcsmap] at hp
        obtain ⟨⟨nm, ca⟩, hm, rfl⟩ := List.mem_map.mp hp
        have hl : env.cells.lookup nm = some ca := lookup_of_mem hcn hm
        obtain ⟨o, h1, h2⟩ := hin.cell nm ca hl
        exact ⟨Nat.le_of_lt (hin.above nm ca hm), o, h1, h2⟩
    · rw [List.map_cons, List.nodup_cons]
      have e : (cs'.map cellE).map Prod.fst = env.cells.map Prod.snd := by rw [hcsmap, List.map_map]; rfl
      rw [e]
      refine ⟨fun hm => ?_, List.pairwise_map.mpr hin.apart⟩
      obtain ⟨⟨nm, ca⟩, hm', e'⟩ := List.mem_map.mp hm
      have := hin.above nm ca hm'
      have e2 : ca = env.locals := e'
      rw [e2] at this
      exact Nat.lt_irrefl _ this
  have hloc : LocOk c.w c.g0 env (bindL env.kindOf (ps.zip vs) fun _ => none) cs' [] (ps.zip as) := by
    intro x a e
    obtain ⟨v, hm, hv⟩ := zip_at hvs e
    refine ⟨v, hv, ?_⟩
    have hx : x ∈ ps := hpz ▸ List.mem_map.mpr ⟨_, hm, rfl⟩
    have hnd' : ((ps.zip vs).map Prod.fst).Nodup := hpz.symm ▸ hnd
    rcases Bool.or_eq_true_iff.mp (List.all_eq_true.mp hkind x hx) with k1 | k1
    · exact .inl ⟨beq_iff_eq.mp k1, bindL_get hnd' hm (beq_iff_eq.mp k1)⟩
    · have k2 : env.kindOf x = some .cell := beq_iff_eq.mp k1
      have hs := cellsFrom_some (x := x) fd.scope.names (s.heap.objs.size + 1) [] (.inl k2)
      obtain ⟨ca, hca⟩ := Option.isSome_iff_exists.mp hs
      refine .inr ⟨.inl k2, ca, hca, .inl ?_⟩
      rw [cells_lookup hin.apart (mem_of_lookup hca)]
      rw [bindC_get hnd' hm (by rw [k2]; decide)]
  have hcel : CellsOk env cs' := fun x a e => ⟨_, cells_lookup hin.apart (mem_of_lookup e)⟩
  obtain ⟨h1, tk, rfl⟩ := hC.same
  have hfr' : FrOk [env] ((env.locals, NsP (bindL env.kindOf (ps.zip vs) fun _ => none)) :: []) := by
    intro e he
    rw [List.mem_singleton.mp he]
    exact ⟨_, _, rfl, hk, .head _⟩
  have hrel : Rel c (fmOf fd f s.heap.objs.size (A.deeper env) n (okA.deeper env) [env] (Around.frames_deeper hfl) hk hg hb) [] c.g0 { s with heap := h1, toks := tk } ⟨ps.zip as, [], []⟩ :=
    ⟨_, cs', [], tabObj #[], ⟨w3, hloc, fun _ => hcel, rfl, by show GensOk c c.g0 s.gens.toList []; rw [hgens]; rfl, .inl rfl, hos, .rfl, hfr'⟩⟩
  refine wpAny_mono (h (fmOf fd f s.heap.objs.size (A.deeper env) n (okA.deeper env) [env] (Around.frames_deeper hfl) hk hg hb) s.heap.objs.size ⟨rfl, rfl, hin.apart, _, rfl⟩ rfl c.g0 [] _ hrel) (fun fl s2 hh => ?_) fun _ _ x => x.elim
  obtain ⟨g2, b, S1, z1, z2, z3, z4⟩ := hh
  cases b with
  | next => have e : fl = .next := z3; subst e; exact ⟨.none, .dat .none, g2, rfl, rfl, z4, top_end z2⟩
  | brk => have e : fl = .brk := z3; subst e; exact ⟨.none, .dat .none, g2, rfl, rfl, z4, top_end z2⟩
  | ret a => obtain ⟨v, rfl, hv⟩ := z3; exact ⟨v, a, g2, rfl, hv, z4, top_end z2⟩
theorem top_law {c : Cx} {A : Around} {n : Nat} {xs : List Int} (okA : OkA (n + 12) A) (hfl : A.frames = some []) {s : Shared} (hs : s.heap = c.h0) (hgens : s.gens = #[]) (hos : s.os = c.os) {v : Value} (hv : Rd c.w c.g0 (intL xs) v) (hl : xs.length ≤ 100) :
    codeAny (M c) A (.call (.ref 149) ⟨[v], []⟩) (fun r s' => r = .ok (.ret (.bool true)) ∧ TopEnd c s') s := by
  refine codeAny_mono (top_fn (c := c) (n := n + 11) (as := [.dat (intL xs)]) (ps := [N "script"]) (Q := fun a => a = .bool true) (by with_unfolding_all rfl) (codeRec_of c.hK (by rfl)) rfl rfl (all1 fun _ => rfl) rfl (by decide) rfl (by decide) rfl rfl rfl rfl rfl okA hfl hs hgens hos ⟨v, [], rfl, hv, rfl⟩ ?_) fun r s' hh => ?_
  · intro Y L K hY
    exact law_core (n := n) (S := ⟨[], [], []⟩) (Q := fun fl _ => flAV fl = .bool true) (by with_unfolding_all rfl) rfl K hY hl (plain_law xs) fun S1 => rfl
  · obtain ⟨v', a, g', rfl, h1, rfl, h2⟩ := hh
    have e : v' = .bool true := h1
    subst e
    exact ⟨rfl, h2⟩
theorem bat_of {p : Program} {loose : List Str} {mean : ExcName → Option Value} {mg mb : Str → Option Value} {h : Heap} {P : Addr} (T : Top p loose mean mg mb h) (hP : h.get? P = some (tabObj #[])) : h.BuiltinsAt mg P := by
  obtain ⟨bm, ob, h1, h2, h3, h4, h5, h6⟩ := T.bmain
  refine ⟨bm, ob, h1, h2, fun e => ?_, fun e => ?_, h3, h4, h5, h6⟩
  · obtain ⟨o, es, ep, k1, k2, _⟩ := T.g
    rw [e] at h3
    rw [h3] at k1
    cases k1
    rw [h6] at k2
    cases k2
  · rw [e, hP] at h3
    cases h3
    cases h6
theorem well_ints {w : World} {P : Params} {h : Heap} {g : G} : ∀ {xs : List Int} {vs : List Value}, WellAll P h vs (ofPys (xs.map PyData.int)) → RdL w g (xs.map .int) vs
  | [], _, hw => by cases hw; rfl
  | x :: xs, _, hw => by
    cases hw with
    | cons h1 h2 => cases h1 with
      | int i t => exact ⟨_, _, rfl, ⟨t, rfl⟩, well_ints h2⟩
theorem well_rd {c : Cx} {a : Addr} {xs : List Int} (hw : Well c.w.params c.h0 (.ref a) (ofPy (.list (xs.map PyData.int)))) : Rd c.w c.g0 (intL xs) (.ref a) := by
  cases hw with
  | list h1 h2 =>
    refine ⟨a, _, 0, rfl, ?_, well_ints h2⟩
    unfold Cx.g0
    rw [if_neg]
    · exact h1
    · intro e
      subst e
      rw [c.tab] at h1
      cases h1
theorem top : PySem.Challenge.rw_pe0079_01.Holds := by
  refine Mine.hd ?_
  intro w s₀ s₁ mg mb G Y fa o pm cd doc dV kV ho hd hcd hD hmg hg args vals as hpre hlay hrd hwl hlo
  have KX := km_in_of Y
  have X := (Ground.X G).1
  have V := (Ground.X G).2
  refine Ground.open G ?_
  intro T B D TE TW
  try (refine guard_noD D (by decide +kernel) ?_; clear D)
  wrow_args hpre hlay hrd hwl hlo
  first | refine callC_kw (enter_call ?_) | refine enter_call ?_
  rename_i xs _ _ _ _ _ _ _ a lv _ hL ra w1 r0 hI _ hlen _
  have hT : CodeHd s₁.heap 116 114 ∧ s₁.heap.get? 114 = some (tabObj #[]) := ⟨codeHd_of_K (c := 116) (P := 114) KX (by kernel_rfl), km_tabs_of Y 114 (List.mem_singleton.mpr rfl)⟩
  have hfa : fa = 149 := by
    have := (mg_of KX T.g (n := Str.ofString "law") (v := .ref 149) (by rfl)).symm.trans hmg
    cases this; rfl
  subst hfa
  let c : Cx := ⟨w, s₁.heap, s₁.os, mg, mb, T.g, T.b, T.nolimit, T.builtins, KX, hT.2, hT.1, bat_of T hT.2⟩
  have hv : Rd c.w c.g0 (intL xs) (.ref a) := well_rd w1
  refine codeAny_mono (top_law (c := c) (n := 0) (A := callerA) ⟨rfl, by decide +kernel, by decide +kernel⟩ rfl rfl hg rfl hv (by omega)) fun r s' hh => ?_
  obtain ⟨rfl, h1, ⟨ps, h2⟩, h3, h4⟩ := hh
  refine ⟨.inl ⟨.bool true, .bool true, [], rfl, fun _ => rfl, .bool true, ?_, unshared_nil⟩, ⟨fun b o e => ?_, fun b o e => ?_⟩, h3, h4⟩
  · skip
    first | with_unfolding_all rfl | kernel_rfl | (refine postW_of ?_ ?_ ?_ <;> first | rfl | with_unfolding_all rfl | kernel_rfl | decide)
  · by_cases hb : b = 114
    · subst hb
      have e2 : o = tabObj #[] := Option.some.inj (e.symm.trans hT.2)
      subst e2
      exact .inr (.inl ⟨(hT.1.tab hT.2).isCodeTable, rfl, #[], ps, rfl, by rw [Array.empty_append]; exact h2⟩)
    · exact .inl (h1 b o hb e)
  · by_cases hb : b = 114
    · subst hb; exact ⟨_, h2⟩
    · exact ⟨o, h1 b o hb e⟩
end Mine
theorem PySem.Challenge.cw_pe0079_01_holds : PySem.Challenge.rw_pe0079_01.Holds :=
  Mine.top
