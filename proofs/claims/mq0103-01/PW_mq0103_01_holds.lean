import PyProof.Rows.All
import Wide.All
import OpenK.AllK
import Wide.FinOn
import Flt.RightMore
import Lean
import PySem.Challenge.RW_mq0103_01
open PySem PySem.W PyProof.Rows
set_option Elab.async false
set_option maxRecDepth 100000
set_option maxHeartbeats 8000000
set_option linter.all false

/-! Hd -/
namespace Mine

/-! the head: the objects of the state behind the top that the walk leans on, each function's object by its place in the text -/
noncomputable def cObj (n : Str) (t line na c : Nat) (full : Bool) (t2 : Nat) : Obj :=
  { cls := .type "code", data := .fields #[.str n t, .str n (t + 1), .str "/claim/cut.py" (t + 2), .int line 0, .int na 0, .int 0 0, .int 0 0, .int 3 0, .ref (if full then c - 5 else c - 3), .bool true, .int 181 0, .ref (if full then c - 4 else c - 2), .none,
    if full then .ref (c - 3) else .none, if full then .ref (c - 2) else .none, .ref (c - 1), .int t2 0, .int line 0, .str "/claim/cut.py" (t2 + 1)] }
noncomputable def fObj (i : Nat) (m : Str) (mt c : Nat) : Obj :=
  { cls := .type "function", data := match PySem.Challenge.pw_mq0103_01.main.body[i]? with
      | some (.FunctionDef n ps b _ _ _ sc _ _ _) => .func { name := n, qualname := n, params := ps, body := .stmts b, scope := sc, globals := 3, closure := [], defaults := .none, kwdefaults := .none, pyModule := .str m mt, code := .ref c }
      | _ => .plain }
noncomputable def gl (P : Params) (x : Str) (t : Nat) (v : Value) : DictEntry := ⟨PyData.keyHash P x, .str x t, v⟩
noncomputable def K (P : Params) : List (Addr × Obj) := [(3, { cls := .type "dict", data := .dict #[gl P "__name__" 165 (.str "law_mq0103_01" 244), gl P "__doc__" 166 (.none), gl P "__package__" 167 (.none), gl P "__loader__" 168 (.builtin "__main__.__loader__#opaque"), gl P "__spec__" 169 (.none), gl P "__annotations__" 170 (.ref 6), gl P "__builtins__" 171 (.ref 4), gl P "__file__" 173 (.str "/claim/cut.py" 172), gl P "__cached__" 174 (.none), gl P "StatisticsError" 206 (.ref 24), gl P "median_low" 214 (.ref 34), gl P "median_high" 222 (.ref 41), gl P "rgb_to_hls" 243 (.ref 48), gl P "_law_orders" 251 (.ref 55), gl P "_law_colour" 265 (.ref 62), gl P "_law_against" 271 (.ref 67), gl P "_law_fewest" 277 (.ref 72), gl P "_law_hue" 284 (.ref 79), gl P "_law_sixths" 290 (.ref 84), gl P "_law_told" 296 (.ref 89), gl P "_law_half" 302 (.ref 94), gl P "law" 308 (.ref 99)] 22 }),
  (33, cObj "median_low" 207 4 1 33 true 212), (34, fObj 2 "cpy313.statistics" 187 33),
  (40, cObj "median_high" 215 13 1 40 true 220), (41, fObj 3 "cpy313.statistics" 187 40),
  (47, cObj "rgb_to_hls" 225 20 3 47 true 241), (48, fObj 5 "cpy313.colorsys" 223 47),
  (54, cObj "_law_orders" 246 44 0 54 true 249), (55, fObj 7 "law_mq0103_01" 244 54),
  (61, cObj "_law_colour" 252 46 1 61 true 263), (62, fObj 8 "law_mq0103_01" 244 61),
  (66, cObj "_law_against" 266 55 1 66 false 269), (67, fObj 9 "law_mq0103_01" 244 66),
  (71, cObj "_law_fewest" 272 60 1 71 false 275), (72, fObj 10 "law_mq0103_01" 244 71),
  (78, cObj "_law_hue" 278 63 1 78 true 282), (79, fObj 11 "law_mq0103_01" 244 78),
  (83, cObj "_law_sixths" 285 65 2 83 false 288), (84, fObj 12 "law_mq0103_01" 244 83),
  (88, cObj "_law_told" 291 70 1 88 false 294), (89, fObj 13 "law_mq0103_01" 244 88),
  (93, cObj "_law_half" 297 79 3 93 false 300), (94, fObj 14 "law_mq0103_01" 244 93),
  (98, cObj "law" 303 97 1 98 false 306), (99, fObj 15 "law_mq0103_01" 244 98)]
noncomputable def kAddrs : List Addr := [3, 33, 34, 40, 41, 47, 48, 54, 55, 61, 62, 66, 67, 71, 72, 78, 79, 83, 84, 88, 89, 93, 94, 98, 99]
theorem kE : ∀ P, kAddrs = (K P).map (·.1) := fun _ => by kernel_rfl
noncomputable abbrev kH : Hook := kHook K kAddrs kE
noncomputable def vw : Program := view PySem.Challenge.pw_mq0103_01 [1, 2, 3, 5, 7, 8, 9, 10, 11, 12, 13, 14, 15]
theorem ws : PySem.Challenge.rw_mq0103_01.wellSaid = true := by
  try rw [PySem.W.Fast.te9446332074065402090]
  kernel_rfl
theorem leftO : LeftO PySem.Challenge.pw_mq0103_01 vw [] (fun s => xlAt vw [] s && recOk (RowW.records PySem.Challenge.rw_mq0103_01.row.toRowW) s) (Hook.obs kH) (Hook.val kH) 1252 := fun w => by
  unfold openEnds topFrom
  try rw [PySem.W.Fast.te14082659384304107361]
  try rw [PySem.W.Fast.te4187177175401517315]
  kernel_rfl
theorem promised : PySem.Challenge.rw_mq0103_01.row.toRowW.promised := by w_witness2
theorem hd {d : DefRec} {kwd : List (Str × Expr)} (hdef : defOf vw PySem.Challenge.rw_mq0103_01.row.name = some (d, kwd)) (hp : PySem.Challenge.rw_mq0103_01.row.prog.theDef PySem.Challenge.rw_mq0103_01.row.name = some (d.params, d.body, d.scope))
    (hk : kwWritten? d.params.kwonlyargs d.params.kw_defaults = some kwd)
    (call : WalkO vw [] (XL vw []) (Hook.says kH) PySem.Challenge.rw_mq0103_01.row.toRowW d kwd fun f vs => PySem.call f vs) : PySem.Challenge.rw_mq0103_01.Holds :=
  holds_law ws fun said => holds_open (q := vw) (loose := []) (XP := XL vw []) (YP := Hook.says kH) leftO (Hook.of kH) (Hook.keeps kH) (fun s e => xl_of s (Bool.and_eq_true_iff.mp e).1) XL.keeps hdef hp hk
    (fun _ e => recFacts_of (Bool.and_eq_true_iff.mp e).2) (by decide +kernel) said (by decide +kernel) ⟨rfl, rfl, rfl, rfl, rfl, by decide +kernel⟩ promised call
end Mine

/-! M1 -/

namespace Mine

/-- plain data that the law's values stand for -/
inductive D where
  | none
  | bool (b : Bool)
  | int (n : Int)
  | flt (x : UInt64)
  | list (ds : List D)
  | tup (ds : List D)
  | rng (n : Nat)
  deriving Inhabited

noncomputable def HK (h h' : Heap) : Prop := ∀ b o, h.get? b = some o → h'.get? b = some o
noncomputable def HKB (mu : List Addr) (h h' : Heap) : Prop := ∀ b o, b ∉ mu → h.get? b = some o → h'.get? b = some o
theorem HK.refl (h : Heap) : HK h h := fun _ _ e => e
theorem HK.trans {a b c : Heap} (x : HK a b) (y : HK b c) : HK a c := fun q o e => y q o (x q o e)
theorem HK.but {mu : List Addr} {a b : Heap} (x : HK a b) : HKB mu a b := fun q o _ e => x q o e
theorem HKB.trans {mu : List Addr} {a b c : Heap} (x : HKB mu a b) (y : HKB mu b c) : HKB mu a c := fun q o m e => y q o m (x q o m e)
theorem HKB.mono {mu mu' : List Addr} {a b : Heap} (x : HKB mu a b) (hs : ∀ q, q ∈ mu → q ∈ mu') : HKB mu' a b := fun q o m e => x q o (fun z => m (hs q z)) e

noncomputable def MuIn (mu : List Addr) (h : Heap) : Prop := ∀ b ∈ mu, ∃ o, h.get? b = some o
theorem MuIn.keep {mu : List Addr} {h h' : Heap} (x : MuIn mu h) (k : HK h h') : MuIn mu h' := fun b hb => let ⟨o, e⟩ := x b hb; ⟨o, k b o e⟩
theorem MuIn.new {mu : List Addr} {h : Heap} (x : MuIn mu h) {a : Addr} (e : h.get? a = none) : a ∉ mu := fun hm => by
  obtain ⟨o, q⟩ := x a hm; rw [e] at q; cases q
theorem MuIn.nil (h : Heap) : MuIn [] h := fun _ hb => nomatch hb

noncomputable def TupAt (h : Heap) (a : Addr) (vs : List Value) : Prop := ∃ n, h.get? a = some { cls := .type "tuple", data := .seq vs.toArray n }
theorem TupAt.isTup {h : Heap} {a : Addr} {vs : List Value} (x : TupAt h a vs) : IsTup h a vs.toArray := let ⟨n, e⟩ := x; ⟨_, e, rfl, n, rfl⟩
mutual
inductive Rep (mu : List Addr) (h : Heap) : Value → D → Prop
  | none : Rep mu h .none .none
  | bool (b : Bool) : Rep mu h (.bool b) (.bool b)
  | int (n : Int) (t : Tok) : Rep mu h (.int n t) (.int n)
  | flt (x : UInt64) (t : Tok) : Rep mu h (.float x t) (.flt x)
  | list {a : Addr} {vs : List Value} {ds : List D} (ha : a ∉ mu) (hl : h.IsList a vs.toArray) (hr : RepAll mu h vs ds) : Rep mu h (.ref a) (.list ds)
  | tup {a : Addr} {vs : List Value} {ds : List D} (ha : a ∉ mu) (hl : TupAt h a vs) (hr : RepAll mu h vs ds) : Rep mu h (.ref a) (.tup ds)
  | rng {a : Addr} {n : Nat} {t u v : Tok} (ha : a ∉ mu) (hl : IsRange h a 0 (n : Int) 1 t u v) : Rep mu h (.ref a) (.rng n)
inductive RepAll (mu : List Addr) (h : Heap) : List Value → List D → Prop
  | nil : RepAll mu h [] []
  | cons {v : Value} {d : D} {vs : List Value} {ds : List D} (hv : Rep mu h v d) (hr : RepAll mu h vs ds) : RepAll mu h (v :: vs) (d :: ds)
end

theorem isRange_at {h h' : Heap} {a : Addr} {i j k : Int} {t u v : Tok} (x : IsRange h a i j k t u v) (e : ∀ o, h.get? a = some o → h'.get? a = some o) : IsRange h' a i j k t u v := by
  unfold IsRange at x ⊢
  exact e _ x

mutual
theorem Rep.mono {mu mu' : List Addr} {h h' : Heap} (hs : ∀ b o, h.get? b = some o → b ∉ mu → b ∉ mu') (k : HKB mu h h') : ∀ {v : Value} {d : D}, Rep mu h v d → Rep mu' h' v d
  | _, _, .none => .none
  | _, _, .bool b => .bool b
  | _, _, .int n t => .int n t
  | _, _, .flt x t => .flt x t
  | _, _, .list ha hl hr => .list (let ⟨o, e, _⟩ := hl; hs _ o e ha) (let ⟨o, e, r⟩ := hl; ⟨o, k _ o ha e, r⟩) (hr.mono hs k)
  | _, _, .tup ha hl hr => .tup (let ⟨_, e⟩ := hl; hs _ _ e ha) (let ⟨n, e⟩ := hl; ⟨n, k _ _ ha e⟩) (hr.mono hs k)
  | _, _, .rng ha hl => .rng (by unfold IsRange at hl; exact hs _ _ hl ha) (isRange_at hl fun o e => k _ o ha e)
theorem RepAll.mono {mu mu' : List Addr} {h h' : Heap} (hs : ∀ b o, h.get? b = some o → b ∉ mu → b ∉ mu') (k : HKB mu h h') : ∀ {vs : List Value} {ds : List D}, RepAll mu h vs ds → RepAll mu' h' vs ds
  | _, _, .nil => .nil
  | _, _, .cons hv hr => .cons (hv.mono hs k) (hr.mono hs k)
end
theorem Rep.keep {mu : List Addr} {h h' : Heap} {v : Value} {d : D} (x : Rep mu h v d) (k : HKB mu h h') : Rep mu h' v d := x.mono (fun _ _ _ e => e) k
theorem RepAll.keep {mu : List Addr} {h h' : Heap} {v : List Value} {d : List D} (x : RepAll mu h v d) (k : HKB mu h h') : RepAll mu h' v d := x.mono (fun _ _ _ e => e) k
theorem Rep.weak {mu mu' : List Addr} {h : Heap} {v : Value} {d : D} (x : Rep mu h v d) (hs : ∀ b, b ∈ mu' → b ∈ mu) : Rep mu' h v d := x.mono (fun b _ _ n q => n (hs b q)) (fun _ _ _ e => e)
theorem RepAll.weak {mu mu' : List Addr} {h : Heap} {v : List Value} {d : List D} (x : RepAll mu h v d) (hs : ∀ b, b ∈ mu' → b ∈ mu) : RepAll mu' h v d := x.mono (fun b _ _ n q => n (hs b q)) (fun _ _ _ e => e)
theorem Rep.more {mu wr : List Addr} {h : Heap} {v : Value} {d : D} (x : Rep mu h v d) (hs : ∀ b, b ∈ wr → h.get? b = Option.none) : Rep (wr ++ mu) h v d :=
  x.mono (fun b o e n q => by rcases List.mem_append.mp q with q | q; · rw [hs b q] at e; cases e
                              · exact n q) (fun _ _ _ e => e)
theorem RepAll.more {mu wr : List Addr} {h : Heap} {v : List Value} {d : List D} (x : RepAll mu h v d) (hs : ∀ b, b ∈ wr → h.get? b = Option.none) : RepAll (wr ++ mu) h v d :=
  x.mono (fun b o e n q => by rcases List.mem_append.mp q with q | q; · rw [hs b q] at e; cases e
                              · exact n q) (fun _ _ _ e => e)
theorem RepAll.length {mu : List Addr} {h : Heap} : ∀ {vs : List Value} {ds : List D}, RepAll mu h vs ds → vs.length = ds.length
  | _, _, .nil => rfl
  | _, _, .cons _ r => by rw [List.length_cons, List.length_cons, r.length]
theorem RepAll.get {mu : List Addr} {h : Heap} : ∀ {vs : List Value} {ds : List D}, RepAll mu h vs ds → ∀ {i : Nat} {d : D}, ds[i]? = some d → ∃ v, vs[i]? = some v ∧ Rep mu h v d
  | _, _, .nil, i, d, e => by simp at e
  | _, _, .cons hv r, 0, d, e => by simp at e; subst e; exact ⟨_, rfl, hv⟩
  | _, _, .cons hv r, i + 1, d, e => by simp at e; simpa using r.get e
theorem RepAll.get' {mu : List Addr} {h : Heap} : ∀ {vs : List Value} {ds : List D}, RepAll mu h vs ds → ∀ {i : Nat} {v : Value}, vs[i]? = some v → ∃ d, ds[i]? = some d ∧ Rep mu h v d
  | _, _, .nil, i, d, e => by simp at e
  | _, _, .cons hv r, 0, d, e => by simp at e; subst e; exact ⟨_, rfl, hv⟩
  | _, _, .cons hv r, i + 1, d, e => by simp at e; simpa using r.get' e
theorem RepAll.append {mu : List Addr} {h : Heap} : ∀ {vs vs' : List Value} {ds ds' : List D}, RepAll mu h vs ds → RepAll mu h vs' ds' → RepAll mu h (vs ++ vs') (ds ++ ds')
  | _, _, _, _, .nil, r => r
  | _, _, _, _, .cons hv q, r => .cons hv (q.append r)
theorem RepAll.take {mu : List Addr} {h : Heap} : ∀ {vs : List Value} {ds : List D}, RepAll mu h vs ds → ∀ n, RepAll mu h (vs.take n) (ds.take n)
  | _, _, .nil, n => by simpa using RepAll.nil
  | _, _, .cons hv q, 0 => by simpa using RepAll.nil
  | _, _, .cons hv q, n + 1 => by simpa using RepAll.cons hv (q.take n)
theorem RepAll.drop {mu : List Addr} {h : Heap} : ∀ {vs : List Value} {ds : List D}, RepAll mu h vs ds → ∀ n, RepAll mu h (vs.drop n) (ds.drop n)
  | _, _, .nil, n => by simpa using RepAll.nil
  | _, _, .cons hv q, 0 => by simpa using RepAll.cons hv q
  | _, _, .cons hv q, n + 1 => by simpa using q.drop n

theorem Rep.intv {mu : List Addr} {h : Heap} {v : Value} {n : Int} (r : Rep mu h v (.int n)) : ∃ t, v = .int n t := by cases r; exact ⟨_, rfl⟩
theorem Rep.fltv {mu : List Addr} {h : Heap} {v : Value} {x : UInt64} (r : Rep mu h v (.flt x)) : ∃ t, v = .float x t := by cases r; exact ⟨_, rfl⟩
theorem Rep.boolv {mu : List Addr} {h : Heap} {v : Value} {b : Bool} (r : Rep mu h v (.bool b)) : v = .bool b := by cases r; rfl
theorem Rep.listv {mu : List Addr} {h : Heap} {v : Value} {ds : List D} (r : Rep mu h v (.list ds)) : ∃ a vs, v = .ref a ∧ h.IsList a (List.toArray vs) ∧ RepAll mu h vs ds := by
  cases r with | list ha hl hr => exact ⟨_, _, rfl, hl, hr⟩
theorem RepAll.consv {mu : List Addr} {h : Heap} {vs : List Value} {d : D} {ds : List D} (r : RepAll mu h vs (d :: ds)) : ∃ v vs', vs = v :: vs' ∧ Rep mu h v d ∧ RepAll mu h vs' ds := by
  cases r with | cons hv hr => exact ⟨_, _, rfl, hv, hr⟩
theorem RepAll.nilv {mu : List Addr} {h : Heap} {vs : List Value} (r : RepAll mu h vs []) : vs = [] := by cases r; rfl

noncomputable def asInt : D → Option Int
  | .int n => some n
  | _ => none
noncomputable def asFlt : D → Option UInt64
  | .flt x => some x
  | _ => none
noncomputable def asList : D → Option (List D)
  | .list ds => some ds
  | _ => none
theorem asInt_eq {d : D} {n : Int} (h : asInt d = some n) : d = .int n := by cases d <;> first | cases h; rfl | cases h
theorem asFlt_eq {d : D} {x : UInt64} (h : asFlt d = some x) : d = .flt x := by cases d <;> first | cases h; rfl | cases h
theorem asList_eq {d : D} {ds : List D} (h : asList d = some ds) : d = .list ds := by cases d <;> first | cases h; rfl | cases h
theorem no_some {α : Type} {p : Prop} {d : α} (h : (none : Option α) = some d) : p := by cases h
theorem ite_inv {α : Type} {c : Prop} [Decidable c] {x : Option α} {d : α} (h : (if c then x else none) = some d) : c ∧ x = some d := by
  by_cases hc : c
  · exact ⟨hc, by rw [if_pos hc] at h; exact h⟩
  · rw [if_neg hc] at h; cases h
end Mine

/-! M2 -/

namespace Mine

noncomputable def Kp (s s' : Shared) : Prop := ∃ h' tk, s' = { s with heap := h', toks := tk } ∧ HK s.heap h'
theorem Kp.refl (s : Shared) : Kp s s := ⟨s.heap, s.toks, rfl, HK.refl _⟩
theorem Kp.trans {a b c : Shared} (x : Kp a b) (y : Kp b c) : Kp a c := by
  obtain ⟨h, t, rfl, k⟩ := x
  obtain ⟨h', t', rfl, k'⟩ := y
  exact ⟨h', t', rfl, k.trans k'⟩
theorem Kp.hk {a b : Shared} (x : Kp a b) : HK a.heap b.heap := by obtain ⟨h, t, rfl, k⟩ := x; exact k
theorem Kp.mk' {s : Shared} {h' : Heap} {tk : Nat} (k : HK s.heap h') : Kp s { s with heap := h', toks := tk } := ⟨h', tk, rfl, k⟩
theorem hk_push (h : Heap) (o : Obj) : HK h (h.push o) := fun _ _ e => Heap.get?_push_of_some _ e
theorem new_none (h : Heap) : h.get? h.objs.size = none := by
  cases e : h.get? h.objs.size with
  | none => rfl
  | some o => exact absurd (Heap.lt_size e) (Nat.lt_irrefl _)

/-- what an evaluation gives: everything that stood is kept, the value stands for d -/
noncomputable def To (mu : List Addr) (s : Shared) (d : D) (v : Value) (s' : Shared) : Prop := Kp s s' ∧ Rep mu s'.heap v d
abbrev Nope : Value → Shared → Prop := fun _ _ => False

structure AOk (j : Nat) (A : Around) : Prop where
  hd : A.handled = none
  dp : A.depth + j < recursionLimit
  un : A.units + 200 + 4 * j < cLine
theorem AOk.deeper {j : Nat} {A : Around} {env : Env} (x : AOk (j + 1) A) : AOk j (A.deeper env) :=
  ⟨x.hd, by show A.depth + 1 + j < recursionLimit; have := x.dp; omega, by show A.units + 3 + 200 + 4 * j < cLine; have := x.un; omega⟩
theorem AOk.le {j k : Nat} {A : Around} (x : AOk k A) (h : j ≤ k) : AOk j A := ⟨x.hd, by have := x.dp; omega, by have := x.un; omega⟩

section
variable {mu : List Addr} {s : Shared}
theorem to_int {n : Int} {t : Tok} {tk : Nat} : To mu s (.int n) (.int n t) { s with toks := tk } := ⟨⟨s.heap, tk, rfl, HK.refl _⟩, .int n t⟩
theorem to_flt {n : UInt64} {t : Tok} {tk : Nat} : To mu s (.flt n) (.float n t) { s with toks := tk } := ⟨⟨s.heap, tk, rfl, HK.refl _⟩, .flt n t⟩
theorem to_bool {b : Bool} : To mu s (.bool b) (.bool b) s := ⟨Kp.refl _, .bool b⟩
theorem to_same {v : Value} {d : D} (r : Rep mu s.heap v d) : To mu s d v s := ⟨Kp.refl _, r⟩
theorem to_list {vs : List Value} {ds : List D} (hm : MuIn mu s.heap) (r : RepAll mu s.heap vs ds) : To mu s (.list ds) (.ref s.heap.objs.size) { s with heap := s.heap.push { cls := .type "list", data := .seq vs.toArray } } :=
  ⟨Kp.mk' (tk := s.toks) (hk_push _ _), .list (hm.new (new_none _)) ⟨_, Heap.get?_push_size _ rfl, rfl, _, rfl⟩ (r.keep (HK.but (hk_push _ _)))⟩
theorem to_tup {vs : List Value} {ds : List D} (hm : MuIn mu s.heap) (r : RepAll mu s.heap vs ds) : To mu s (.tup ds) (.ref s.heap.objs.size) { s with heap := s.heap.push { cls := .type "tuple", data := .seq vs.toArray } } :=
  ⟨Kp.mk' (tk := s.toks) (hk_push _ _), .tup (hm.new (new_none _)) ⟨_, Heap.get?_push_size _ rfl⟩ (r.keep (HK.but (hk_push _ _)))⟩
theorem To.from {s₁ : Shared} {d : D} {v : Value} {s' : Shared} (k : Kp s s₁) (x : To mu s₁ d v s') : To mu s d v s' := ⟨k.trans x.1, x.2⟩
end

/-- int / int -/
noncomputable def intDiv (a b : Int) : UInt64 := Float64.ofFrac (decide (a < 0) != decide (b < 0)) a.natAbs b.natAbs

noncomputable def binop (op : Operator) (a b : D) : Option D :=
  match op with
  | .Add => (match a with
      | .int m => (asInt b).map fun n => .int (m + n)
      | .flt x => (asFlt b).map fun y => .flt (Float64.add x y)
      | .list l => (asList b).bind fun r => if l.length + r.length < 1000 then some (.list (l ++ r)) else none
      | _ => none)
  | .Sub => (match a with
      | .int m => (asInt b).map fun n => .int (m - n)
      | .flt x => (asFlt b).map fun y => .flt (Float64.sub x y)
      | _ => none)
  | .Mult => (asFlt a).bind fun x => (match b with
      | .flt y => some (.flt (Float64.mul x y))
      | .int n => if n.natAbs < 2 ^ 62 then some (.flt (Float64.mul x (Float64.ofInt n))) else none
      | _ => none)
  | .FloorDiv => (asInt a).bind fun m => (asInt b).bind fun n => if 0 < n ∧ n < 2 ^ 62 then some (.int (m.fdiv n)) else none
  | .Mod => (match a with
      | .int m => (asInt b).bind fun n => if 0 < n ∧ n < 2 ^ 62 then some (.int (m.fmod n)) else none
      | .flt x => (asFlt b).bind fun y => if ¬ Float64.isZero y = true then some (.flt (Float64.divmod x y).snd) else none
      | _ => none)
  | .Div => (match a with
      | .int m => (asInt b).bind fun n => if 0 < n ∧ m.natAbs < 2 ^ 62 then some (.flt (intDiv m n)) else none
      | .flt x => (asFlt b).bind fun y => if ¬ Float64.isZero y = true then some (.flt (Float64.div x y)) else none
      | _ => none)
  | _ => none

theorem pow_big {n : Nat} (h : n < 2 ^ 62) : n < 2 ^ 1023 := Nat.lt_of_lt_of_le h (Nat.pow_le_pow_right (by decide) (by decide))
theorem not_pylong {a b : Int} (h0 : 0 < b) (h1 : b < 2 ^ 62) : Builtin.divisionGoesByPylong a b = false := by
  unfold Builtin.divisionGoesByPylong
  have hb : b.natAbs ≠ 0 := by omega
  have h2 : b.natAbs.log2 < 62 := (Nat.log2_lt hb).mpr (by omega)
  have h3 : (b == 0) = false := by simp; omega
  simp only [h3, Bool.false_eq_true, if_false]
  have : ¬ (b.natAbs.log2 / 30 + 1 > 300) := by omega
  simp [this]

section
variable {prog : Program} {w : World} {A : Around} {s : Shared} {mu : List Addr} {j : Nat}

theorem add_lists {l b : Addr} {its its2 : Array Value} {Q : Value → Shared → Prop} {E : Value → Shared → Prop} (hl : s.heap.IsList l its) (hb : s.heap.IsList b its2) (hz : its.size + its2.size ≤ sizeLine)
    (h : Q (.ref s.heap.objs.size) { s with heap := s.heap.push { cls := .type "list", data := .seq (its ++ its2) } }) : wpAny (model prog w) A (binaryOp .Add (.ref l) (.ref b)) Q E s := by
  obtain ⟨⟨cls, dd, data, sl⟩, ho, hc, n, hd⟩ := id hl
  obtain ⟨⟨cls2, dd2, data2, sl2⟩, ho2, hc2, n2, hd2⟩ := id hb
  simp only at hc hd hc2 hd2
  subst hc hd hc2 hd2
  exact concat_meets ⟨_, ho, rfl⟩ ⟨_, ho2, rfl⟩ noFill_list_add seq_list_add PySem.F.slot_list_add PySem.F.entry_list_add (PySem.F.args_list_add_2 _ _) (list_addW l b its its2 n n2 dd dd2 sl sl2 hz) ⟨ho, ho2, h⟩

theorem binop_ok {op : Operator} {va vb : Value} {a b d : D} (hA : AOk j A) (hm : MuIn mu s.heap) (ra : Rep mu s.heap va a) (rb : Rep mu s.heap vb b) (h : binop op a b = some d) :
    wpAny (model prog w) A (binaryOp op va vb) (To mu s d) Nope s := by
  cases op with
  | Add =>
    cases ra with
    | int m t =>
      obtain ⟨n, e, rfl⟩ := Option.map_eq_some_iff.mp h
      obtain ⟨u, rfl⟩ := (asInt_eq e ▸ rb).intv
      exact add_int to_int
    | flt x t =>
      obtain ⟨n, e, rfl⟩ := Option.map_eq_some_iff.mp h
      obtain ⟨u, rfl⟩ := (asFlt_eq e ▸ rb).fltv
      exact add_float to_flt
    | list ha hl hr =>
      obtain ⟨r, e, h⟩ := Option.bind_eq_some_iff.mp h
      obtain ⟨hb, e'⟩ := ite_inv h
      cases e'
      obtain ⟨a', vs', rfl, hl', hr'⟩ := (asList_eq e ▸ rb).listv
      refine add_lists hl hl' (by rw [sizeLine_eq, List.size_toArray, List.size_toArray, hr.length, hr'.length]; omega) ?_
      rw [List.append_toArray]
      exact to_list hm (hr.append hr')
    | _ => exact no_some h
  | Sub =>
    cases ra with
    | int m t =>
      obtain ⟨n, e, rfl⟩ := Option.map_eq_some_iff.mp h
      obtain ⟨u, rfl⟩ := (asInt_eq e ▸ rb).intv
      exact sub_int to_int
    | flt x t =>
      obtain ⟨n, e, rfl⟩ := Option.map_eq_some_iff.mp h
      obtain ⟨u, rfl⟩ := (asFlt_eq e ▸ rb).fltv
      exact sub_float to_flt
    | _ => exact no_some h
  | Mult =>
    obtain ⟨x, e, h⟩ := Option.bind_eq_some_iff.mp h
    obtain ⟨u, rfl⟩ := (asFlt_eq e ▸ ra).fltv
    cases rb with
    | flt y t => cases h; exact mul_float to_flt
    | int n t =>
      obtain ⟨hb, e'⟩ := ite_inv h
      cases e'
      exact mul_fi_fits (pow_big hb) to_flt
    | _ => exact no_some h
  | FloorDiv =>
    obtain ⟨m, e, h⟩ := Option.bind_eq_some_iff.mp h
    obtain ⟨n, e2, h⟩ := Option.bind_eq_some_iff.mp h
    obtain ⟨hb, e'⟩ := ite_inv h
    cases e'
    obtain ⟨t, rfl⟩ := (asInt_eq e ▸ ra).intv
    obtain ⟨u, rfl⟩ := (asInt_eq e2 ▸ rb).intv
    exact floordiv_int (Int.ne_of_gt hb.1) to_int (.inl (not_pylong hb.1 hb.2))
  | Mod =>
    cases ra with
    | int m t =>
      obtain ⟨n, e2, h⟩ := Option.bind_eq_some_iff.mp h
      obtain ⟨hb, e'⟩ := ite_inv h
      cases e'
      obtain ⟨u, rfl⟩ := (asInt_eq e2 ▸ rb).intv
      exact mod_int' (Int.ne_of_gt hb.1) to_int
    | flt x t =>
      obtain ⟨n, e2, h⟩ := Option.bind_eq_some_iff.mp h
      obtain ⟨hb, e'⟩ := ite_inv h
      cases e'
      obtain ⟨u, rfl⟩ := (asFlt_eq e2 ▸ rb).fltv
      exact AutoFloatOps.mod_1 hb to_flt
    | _ => exact no_some h
  | Div =>
    cases ra with
    | int m t =>
      obtain ⟨n, e2, h⟩ := Option.bind_eq_some_iff.mp h
      obtain ⟨hb, e'⟩ := ite_inv h
      cases e'
      obtain ⟨u, rfl⟩ := (asInt_eq e2 ▸ rb).intv
      exact Flt.div_ii_fits hA.hd (pow_big hb.2) (fun e => absurd hb.1 (by rw [e]; decide)) fun _ _ => to_flt
    | flt x t =>
      obtain ⟨n, e2, h⟩ := Option.bind_eq_some_iff.mp h
      obtain ⟨hb, e'⟩ := ite_inv h
      cases e'
      obtain ⟨u, rfl⟩ := (asFlt_eq e2 ▸ rb).fltv
      exact truediv_float_or hA.hd (fun e => absurd e hb) fun _ => to_flt
    | _ => exact no_some h
  | _ => exact no_some h
end
end Mine

/-! M3 -/

namespace Mine

mutual
noncomputable def toPy : D → PyData
  | .none => .none
  | .bool b => .bool b
  | .int n => .int n
  | .flt _ => .none
  | .list ds => .list (toPys ds)
  | .tup ds => .tuple (toPys ds)
  | .rng _ => .none
noncomputable def toPys : List D → List PyData
  | [] => []
  | d :: r => toPy d :: toPys r
end
mutual
/-- no float, no range; at most k deep -/
noncomputable def pyOk : Nat → D → Bool
  | _, .none => true
  | _, .bool _ => true
  | _, .int _ => true
  | _, .flt _ => false
  | 0, .list _ => false
  | k + 1, .list ds => pysOk k ds
  | 0, .tup _ => false
  | k + 1, .tup ds => pysOk k ds
  | _, .rng _ => false
noncomputable def pysOk : Nat → List D → Bool
  | _, [] => true
  | k, d :: r => pyOk k d && pysOk k r
end
mutual
theorem reads_of {mu : List Addr} {h : Heap} : ∀ {k : Nat} {v : Value} {d : D}, Rep mu h v d → pyOk k d = true → ∃ as, Reads h v (toPy d) as
  | _, _, _, .none, _ => ⟨_, .none⟩
  | _, _, _, .bool b, _ => ⟨_, .bool b⟩
  | _, _, _, .int n t, _ => ⟨_, .int n t⟩
  | k, _, _, .flt x t, e => by cases k <;> simp [pyOk] at e
  | 0, _, _, .list .., e => by simp [pyOk] at e
  | k + 1, _, _, .list (a := a) _ ⟨o, ho, hc, n, hd⟩ hr, e => by
    rw [pyOk] at e
    obtain ⟨as, r⟩ := readsAll_of hr e
    exact ⟨a :: as, .list ho hc hd r⟩
  | 0, _, _, .tup .., e => by simp [pyOk] at e
  | k + 1, _, _, .tup _ ⟨n, ho⟩ hr, e => by
    rw [pyOk] at e
    obtain ⟨as, r⟩ := readsAll_of hr e
    exact ⟨as, .tuple ho rfl rfl r⟩
  | k, _, _, .rng .., e => by cases k <;> simp [pyOk] at e
theorem readsAll_of {mu : List Addr} {h : Heap} : ∀ {k : Nat} {vs : List Value} {ds : List D}, RepAll mu h vs ds → pysOk k ds = true → ∃ as, ReadsAll h vs (toPys ds) as
  | _, _, _, .nil, _ => ⟨[], .nil⟩
  | k, _, _, .cons hv hr, e => by
    rw [pysOk, Bool.and_eq_true] at e
    obtain ⟨as, r⟩ := reads_of hv e.1
    obtain ⟨bs, r'⟩ := readsAll_of hr e.2
    exact ⟨as ++ bs, .cons r r'⟩
end
mutual
theorem canLay_of : ∀ {k : Nat} {d : D}, pyOk k d = true → (toPy d).canLay0 = true ∧ (toPy d).depth ≤ k
  | _, .none, _ => ⟨rfl, Nat.zero_le _⟩
  | _, .bool _, _ => ⟨rfl, Nat.zero_le _⟩
  | _, .int _, _ => ⟨rfl, Nat.zero_le _⟩
  | k, .flt _, e => by cases k <;> simp [pyOk] at e
  | 0, .list _, e => by simp [pyOk] at e
  | k + 1, .list ds, e => by
    rw [pyOk] at e
    have := canLays_of e
    exact ⟨by rw [toPy, PyData.canLay0]; exact this.1, by rw [toPy, PyData.depth]; have := this.2; omega⟩
  | 0, .tup _, e => by simp [pyOk] at e
  | k + 1, .tup ds, e => by
    rw [pyOk] at e
    have := canLays_of e
    exact ⟨by rw [toPy, PyData.canLay0]; exact this.1, by rw [toPy, PyData.depth]; have := this.2; omega⟩
  | k, .rng _, e => by cases k <;> simp [pyOk] at e
theorem canLays_of : ∀ {k : Nat} {ds : List D}, pysOk k ds = true → PyData.canLayAll0 (toPys ds) = true ∧ PyData.depthAll (toPys ds) ≤ k
  | _, [], _ => ⟨rfl, Nat.zero_le _⟩
  | k, d :: r, e => by
    rw [pysOk, Bool.and_eq_true] at e
    have a := canLay_of e.1
    have b := canLays_of e.2
    exact ⟨by rw [toPys, PyData.canLayAll0, a.1, b.1]; rfl, by rw [toPys, PyData.depthAll]; exact Nat.max_le.mpr ⟨a.2, b.2⟩⟩
end
theorem shaped_of {k : Nat} {d : D} (e : pyOk k d = true) (hk : k ≤ 64) : SeqAt.shaped (toPy d) = true := by
  have := canLay_of e
  unfold SeqAt.shaped
  rw [this.1, Bool.true_and]
  exact decide_eq_true (Nat.le_trans this.2 hk)

noncomputable def cmpop (op : CmpOp) (a b : D) : Option Bool :=
  match op with
  | .Eq => (match a with
      | .int m => (asInt b).map fun n => m == n
      | .flt x => (asFlt b).map fun y => Float64.cmp x y == some Ordering.eq
      | _ => none)
  | .Lt => (match a with
      | .int m => (asInt b).map fun n => decide (m < n)
      | .flt x => (asFlt b).map fun y => Float64.cmp x y == some Ordering.lt
      | _ => none)
  | .LtE => (match a with
      | .int m => (asInt b).map fun n => decide (m ≤ n)
      | .flt x => (asFlt b).map fun y => (Float64.cmp x y == some Ordering.lt || Float64.cmp x y == some Ordering.eq)
      | _ => none)
  | .Gt => (match a with
      | .int m => (asInt b).map fun n => decide (n < m)
      | .flt x => (asInt b).map fun n => Float64.cmpInt x n == some Ordering.gt
      | _ => none)
  | .NotEq => if pyOk 8 a && pyOk 8 b then some (!PyData.eqv (toPy a) (toPy b)) else none
  | _ => none

section
variable {prog : Program} {w : World} {A : Around} {s : Shared} {mu : List Addr} {j : Nat}
theorem cmpop_ok {op : CmpOp} {va vb : Value} {a b : D} {r : Bool} {Q : Value → Shared → Prop} {E : Value → Shared → Prop} (hA : AOk j A) (ra : Rep mu s.heap va a) (rb : Rep mu s.heap vb b) (h : cmpop op a b = some r) (hq : Q (.bool r) s) :
    wpAny (model prog w) A (compareOp op va vb) Q E s := by
  cases op with
  | Eq =>
    cases ra with
    | int m t =>
      obtain ⟨n, e, rfl⟩ := Option.map_eq_some_iff.mp h
      obtain ⟨u, rfl⟩ := (asInt_eq e ▸ rb).intv
      exact eq_int hq
    | flt x t =>
      obtain ⟨n, e, rfl⟩ := Option.map_eq_some_iff.mp h
      obtain ⟨u, rfl⟩ := (asFlt_eq e ▸ rb).fltv
      exact AutoFloatOps.eq_0 hq
    | _ => exact no_some h
  | Lt =>
    cases ra with
    | int m t =>
      obtain ⟨n, e, rfl⟩ := Option.map_eq_some_iff.mp h
      obtain ⟨u, rfl⟩ := (asInt_eq e ▸ rb).intv
      exact lt_int hq
    | flt x t =>
      obtain ⟨n, e, rfl⟩ := Option.map_eq_some_iff.mp h
      obtain ⟨u, rfl⟩ := (asFlt_eq e ▸ rb).fltv
      exact AutoFloatOps.lt_0 hq
    | _ => exact no_some h
  | LtE =>
    cases ra with
    | int m t =>
      obtain ⟨n, e, rfl⟩ := Option.map_eq_some_iff.mp h
      obtain ⟨u, rfl⟩ := (asInt_eq e ▸ rb).intv
      exact le_int hq
    | flt x t =>
      obtain ⟨n, e, rfl⟩ := Option.map_eq_some_iff.mp h
      obtain ⟨u, rfl⟩ := (asFlt_eq e ▸ rb).fltv
      exact AutoFloatOps.le_0 hq
    | _ => exact no_some h
  | Gt =>
    cases ra with
    | int m t =>
      obtain ⟨n, e, rfl⟩ := Option.map_eq_some_iff.mp h
      obtain ⟨u, rfl⟩ := (asInt_eq e ▸ rb).intv
      exact gt_int hq
    | flt x t =>
      obtain ⟨n, e, rfl⟩ := Option.map_eq_some_iff.mp h
      obtain ⟨u, rfl⟩ := (asInt_eq e ▸ rb).intv
      exact gt_fi hq
    | _ => exact no_some h
  | NotEq =>
    obtain ⟨e, e'⟩ := ite_inv h
    cases e'
    rw [Bool.and_eq_true] at e
    obtain ⟨as, r1⟩ := reads_of ra e.1
    obtain ⟨bs, r2⟩ := reads_of rb e.2
    exact ne_dataH r1 r2 (shaped_of e.1 (by decide)) (shaped_of e.2 (by decide)) (by have := hA.un; omega) hq
  | _ => exact no_some h
end

/-! ints of a list -/
noncomputable def ints? : List D → Option (List Int)
  | [] => some []
  | .int n :: r => (ints? r).map (n :: ·)
  | _ => none
theorem ints?_map (ns : List Int) : ints? (ns.map .int) = some ns := by
  induction ns with
  | nil => rfl
  | cons n r ih => simp [ints?, ih]
theorem ints?_eq : ∀ {ds : List D} {ns : List Int}, ints? ds = some ns → ds = ns.map .int
  | [], ns, h => by simp [ints?] at h; subst h; rfl
  | .int n :: r, ns, h => by
    simp only [ints?, Option.map_eq_some_iff] at h
    obtain ⟨m, hm, rfl⟩ := h
    rw [ints?_eq hm]; rfl
  | .none :: _, _, h => by simp [ints?] at h
  | .bool _ :: _, _, h => by simp [ints?] at h
  | .flt _ :: _, _, h => by simp [ints?] at h
  | .list _ :: _, _, h => by simp [ints?] at h
  | .tup _ :: _, _, h => by simp [ints?] at h
  | .rng _ :: _, _, h => by simp [ints?] at h
theorem rep_ints {mu : List Addr} {h : Heap} {ns : List Int} : ∀ {vs : List Value}, RepAll mu h vs (ns.map .int) → IntsAre vs ns := by
  induction ns with
  | nil => intro vs r; rw [r.nilv]; exact .nil
  | cons n ns ih =>
    intro vs r
    obtain ⟨v, vs', rfl, hv, hr⟩ := RepAll.consv r
    obtain ⟨t, rfl⟩ := hv.intv
    exact .cons n t (ih hr)
theorem ints_rep {mu : List Addr} {h : Heap} : ∀ {ns : List Int} {vs : List Value}, IntsAre vs ns → RepAll mu h vs (ns.map .int)
  | _, _, .nil => .nil
  | _, _, .cons n t r => .cons (.int n t) (ints_rep r)
theorem ints_items : ∀ {ns : List Int} {vs : List Value}, IntsAre vs ns → ∃ xs : Array (Int × Tok), vs.toArray = intItems xs ∧ xs.toList.map (·.1) = ns
  | _, _, .nil => ⟨#[], by simp [intItems], rfl⟩
  | _, _, .cons n t r => by
    obtain ⟨xs, e, e2⟩ := ints_items r
    refine ⟨((n, t) :: xs.toList).toArray, ?_, by simp [e2]⟩
    have : _ := congrArg Array.toList e
    simp [intItems] at this ⊢
    exact this

noncomputable def flts? : List D → Option (List UInt64)
  | [] => some []
  | .flt n :: r => (flts? r).map (n :: ·)
  | _ => none
theorem flts?_map (ns : List UInt64) : flts? (ns.map .flt) = some ns := by
  induction ns with
  | nil => rfl
  | cons n r ih => simp [flts?, ih]
theorem flts?_eq : ∀ {ds : List D} {ns : List UInt64}, flts? ds = some ns → ds = ns.map .flt
  | [], ns, h => by simp [flts?] at h; subst h; rfl
  | .flt n :: r, ns, h => by
    simp only [flts?, Option.map_eq_some_iff] at h
    obtain ⟨m, hm, rfl⟩ := h
    rw [flts?_eq hm]; rfl
  | .none :: _, _, h => by simp [flts?] at h
  | .bool _ :: _, _, h => by simp [flts?] at h
  | .int _ :: _, _, h => by simp [flts?] at h
  | .list _ :: _, _, h => by simp [flts?] at h
  | .tup _ :: _, _, h => by simp [flts?] at h
  | .rng _ :: _, _, h => by simp [flts?] at h

/-! sorting -/
noncomputable def ins {α : Type} (le : α → α → Bool) (a : α) : List α → List α
  | [] => [a]
  | b :: r => if le a b then a :: b :: r else b :: ins le a r
noncomputable def isort {α : Type} (le : α → α → Bool) : List α → List α
  | [] => []
  | a :: r => ins le a (isort le r)
theorem ins_perm {α : Type} (le : α → α → Bool) (a : α) : ∀ l : List α, (ins le a l).Perm (a :: l)
  | [] => .refl _
  | b :: r => by
    unfold ins
    split
    · exact .refl _
    · exact ((ins_perm le a r).cons b).trans (.swap a b r)
theorem isort_perm {α : Type} (le : α → α → Bool) : ∀ l : List α, (isort le l).Perm l
  | [] => .refl _
  | a :: r => (ins_perm le a _).trans ((isort_perm le r).cons a)
theorem ins_sorted {α : Type} (key : α → Int) (a : α) : ∀ l : List α, l.Pairwise (fun x y => key x ≤ key y) → (ins (fun x y => decide (key x ≤ key y)) a l).Pairwise (fun x y => key x ≤ key y)
  | [], _ => by simp [ins]
  | b :: r, h => by
    unfold ins
    split
    · rename_i e
      have e := of_decide_eq_true e
      refine .cons (fun x hx => ?_) h
      rcases List.mem_cons.mp hx with rfl | hx
      · exact e
      · exact Int.le_trans e ((List.pairwise_cons.mp h).1 x hx)
    · rename_i e
      have e : ¬ key a ≤ key b := fun q => e (decide_eq_true q)
      refine .cons (fun x hx => ?_) (ins_sorted key a r (List.pairwise_cons.mp h).2)
      rcases List.mem_cons.mp ((ins_perm _ a r).mem_iff.mp hx) with rfl | hx
      · omega
      · exact (List.pairwise_cons.mp h).1 x hx
theorem isort_sorted {α : Type} (key : α → Int) : ∀ l : List α, (isort (fun x y => decide (key x ≤ key y)) l).Pairwise (fun x y => key x ≤ key y)
  | [] => .nil
  | a :: r => ins_sorted key a _ (isort_sorted key r)
/-- two sorted arrangements are one, where the key tells the items apart -/
theorem sorted_uniq {α : Type} (key : α → Int) : ∀ {a b : List α}, a.Perm b → (∀ x ∈ a, ∀ y ∈ a, key x = key y → x = y) → a.Pairwise (fun x y => key x ≤ key y) → b.Pairwise (fun x y => key x ≤ key y) → a = b
  | [], _, p, _, _, _ => p.nil_eq
  | x :: r, b, p, hi, ha, hb => by
    cases b with
    | nil => exact absurd p.length_eq (by simp)
    | cons y t =>
      have hx : x ∈ y :: t := p.mem_iff.mp (.head _)
      have hy : y ∈ x :: r := p.mem_iff.mpr (.head _)
      have e : x = y := by
        refine hi x (.head _) y hy ?_
        rcases List.mem_cons.mp hx with h | h
        · rw [h]
        · rcases List.mem_cons.mp hy with h' | h'
          · rw [h']
          · have a1 := (List.pairwise_cons.mp ha).1 y h'
            have a2 := (List.pairwise_cons.mp hb).1 x h
            omega
      subst e
      rw [sorted_uniq key ((List.perm_cons x).mp p) (fun u hu v hv => hi u (.tail _ hu) v (.tail _ hv)) (List.pairwise_cons.mp ha).2 (List.pairwise_cons.mp hb).2]

noncomputable def sortI (ns : List Int) : List Int := isort (fun x y => decide (x ≤ y)) ns
theorem sortI_uniq {ns ms : List Int} (p : ms.Perm ns) (h : ms.Pairwise (· ≤ ·)) : ms = sortI ns :=
  sorted_uniq (fun x => x) (p.trans (isort_perm _ ns).symm) (fun _ _ _ _ e => e) h (isort_sorted (fun x => x) ns)

end Mine

/-! M4 -/

namespace Mine
open Float64 in
theorem fin_of {x : UInt64} (h : Float64.isFinite x = true) : ∃ a m e, Float64.decode x = .fin a m e := by
  rcases Flt.three x with ⟨hd, c⟩ | ⟨_, hd, c⟩ | ⟨sg, m, e, hd, c⟩
  · rw [Flt.not_nan_of_finite h] at c; cases c
  · rw [Flt.not_inf_of_finite h] at c; cases c
  · exact ⟨sg, m, e, hd⟩

noncomputable abbrev fltKind : KeyKind where
  α := Int
  blt a b := decide (a < b)
  irrefl a := by simp
  trans a b c h1 h2 := by simp only [decide_eq_true_eq] at *; omega
  negTrans a b c h := by simp only [decide_eq_true_eq] at *; omega
  total a b h1 h2 := by simp only [decide_eq_false_iff_not] at *; omega
  keyOf v := match v with | .float x _ => (if Float64.isFinite x then some (Float64.val x) else none) | _ => none
  dflt := 0

theorem cmp_val {x y : UInt64} (hx : Float64.isFinite x = true) (hy : Float64.isFinite y = true) : Float64.cmp x y = some (compare (Float64.val x) (Float64.val y)) := by
  obtain ⟨a, m, e, d1⟩ := fin_of hx
  obtain ⟨b, k, f, d2⟩ := fin_of hy
  exact Float64.cmp_right d1 d2
theorem cmp_lt {x y : UInt64} (hx : Float64.isFinite x = true) (hy : Float64.isFinite y = true) : (Float64.cmp x y == some Ordering.lt) = decide (Float64.val x < Float64.val y) := by
  rw [cmp_val hx hy]
  by_cases h : Float64.val x < Float64.val y
  · rw [decide_eq_true h, Int.compare_eq_lt.mpr h]; rfl
  · rw [decide_eq_false h]
    by_cases h2 : Float64.val x = Float64.val y
    · rw [Int.compare_eq_eq.mpr h2]; rfl
    · rw [Int.compare_eq_gt.mpr (by omega)]; rfl

section
variable {prog : Program} {w : World} {A : Around} {E : Value → Shared → Prop} {s : Shared}
theorem oneLt_flt {a b : UInt64} {t u : Tok} {Q : Bool → Shared → Prop} (h : Q (Float64.cmp a b == some Ordering.lt) s) : wpAny (model prog w) A (oneLt' true (.float a t) (.float b u)) Q E s := by
  rw [oneLt'_eq]
  simp only [if_true]
  refine wpAny_bind (wpAny_cRoomFor_byValue rfl ?_)
  refine wpAny_bind (wpAny_callSpecialIfBound?_slot (AutoFloatOps.typeIs_float s a t) F.slot_float_lt ?_)
  exact call_gives F.slot_float_lt (AutoFloatOps.typeIs_float s a t) F.entry_float_lt (F.args_float_lt_2 _ _) (AutoFloatG5.float___lt___float_float_0 a t b u) (wpAny_truthy_bool h)
end
theorem fltKind_oneLt : fltKind.OneLt := by
  intro prog w A E s x y a b Q ha hb h
  cases x <;> simp only [fltKind, reduceCtorEq] at ha
  cases y <;> simp only [fltKind, reduceCtorEq] at hb
  rename_i x t y u
  split at ha
  · split at hb
    · rename_i h1 h2
      cases ha; cases hb
      refine oneLt_flt ?_
      rw [cmp_lt h1 h2]
      exact h
    · cases hb
  · cases ha

/-! floats of a list -/
inductive FltsAre : List Value → List UInt64 → Prop
  | nil : FltsAre [] []
  | cons {vs : List Value} {xs : List UInt64} (x : UInt64) (t : Tok) (r : FltsAre vs xs) : FltsAre (.float x t :: vs) (x :: xs)
theorem FltsAre.all : ∀ {vs : List Value} {ss : List UInt64}, FltsAre vs ss → ∀ v, v ∈ vs → ∃ x t, v = .float x t ∧ x ∈ ss
  | _, _, .nil, v, hv => by simp at hv
  | _, _, .cons x t h, v, hv => by
    rcases List.mem_cons.mp hv with rfl | hv
    · exact ⟨x, t, rfl, .head _⟩
    · obtain ⟨y, u, e, m⟩ := h.all v hv; exact ⟨y, u, e, .tail _ m⟩
noncomputable def fltOf : Value → UInt64
  | .float x _ => x
  | _ => 0
theorem FltsAre.flts : ∀ {vs : List Value} {ss : List UInt64}, FltsAre vs ss → vs.map fltOf = ss
  | _, _, .nil => rfl
  | _, _, .cons x t h => by rw [List.map_cons, h.flts]; rfl
theorem fltsAre_map : ∀ (vs : List Value), (∀ v, v ∈ vs → ∃ x t, v = .float x t) → FltsAre vs (vs.map fltOf)
  | [], _ => .nil
  | v :: vs, h => by
    obtain ⟨x, t, rfl⟩ := h v (List.mem_cons_self ..)
    exact .cons x t (fltsAre_map vs fun u hu => h u (List.mem_cons_of_mem _ hu))
theorem rep_flts {mu : List Addr} {h : Heap} {ns : List UInt64} : ∀ {vs : List Value}, RepAll mu h vs (ns.map .flt) → FltsAre vs ns := by
  induction ns with
  | nil => intro vs r; rw [r.nilv]; exact .nil
  | cons n ns ih =>
    intro vs r
    obtain ⟨v, vs', rfl, hv, hr⟩ := RepAll.consv r
    obtain ⟨t, rfl⟩ := hv.fltv
    exact .cons n t (ih hr)
theorem flts_rep {mu : List Addr} {h : Heap} : ∀ {ns : List UInt64} {vs : List Value}, FltsAre vs ns → RepAll mu h vs (ns.map .flt)
  | _, _, .nil => .nil
  | _, _, .cons n t r => .cons (.flt n t) (flts_rep r)
theorem FltsAre.length : ∀ {vs : List Value} {ss : List UInt64}, FltsAre vs ss → vs.length = ss.length
  | _, _, .nil => rfl
  | _, _, .cons x t h => by rw [List.length_cons, List.length_cons, h.length]

theorem FltsAre.keysOf {vs : List Value} {ss : List UInt64} (hS : FltsAre vs ss) (hf : ∀ x ∈ ss, Float64.isFinite x = true) : KeysOf fltKind (pairsOf vs) := by
  intro p hp
  rw [pairsOf_toList] at hp
  obtain ⟨x, t, e, m⟩ := hS.all _ (mem_zip_self hp).2
  exact ⟨Float64.val x, by rw [e]; show (if Float64.isFinite x then some (Float64.val x) else none) = _; rw [hf x m]; rfl⟩

theorem mapM_first_flts : ∀ {vs : List Value} {ss : List UInt64}, FltsAre vs ss → vs.mapM firstOfTuple' = pure (vs.map fun _ => none)
  | _, _, .nil => by simp
  | _, _, .cons x t h => by rw [List.mapM_cons, show firstOfTuple' (.float x t) = pure none from rfl, mapM_first_flts h]; simp
theorem mapM_typeOf_flts : ∀ {vs : List Value} {ss : List UInt64}, FltsAre vs ss → vs.mapM typeOf = pure (vs.map fun _ => Value.type "float")
  | _, _, .nil => by simp
  | _, _, .cons x t h => by
    rw [List.mapM_cons, mapM_typeOf_flts h]
    show (pure (Value.type "float") >>= fun b => pure _ >>= fun bs => pure (b :: bs)) = _
    simp
theorem keyKind_flts {v₁ v₂ : Value} {vs : List Value} {ss : List UInt64} (hS : FltsAre (v₁ :: v₂ :: vs) ss) : keyKind' (v₁ :: v₂ :: vs).toArray = pure oneType' := by
  rw [keyKind'_eq, List.mapM_toArray, mapM_first_flts hS]
  simp only [map_pure, pure_bind]
  rw [if_neg (by simp), if_neg (by simp)]
  rw [oneTypeOnly'_eq, List.mapM_toArray, mapM_typeOf_flts hS]
  simp only [map_pure, pure_bind]
  have hall : ((List.map (fun _ => Value.type "float") (v₁ :: v₂ :: vs)).toArray.all fun x => x == Value.type "float") = true := by
    simp only [List.all_toArray, List.all_map, List.all_eq_true]
    intro _ _
    rfl
  have h0 : (List.map (fun _ => Value.type "float") (v₁ :: v₂ :: vs)).toArray[0]? = some (Value.type "float") := by simp
  rw [h0]
  simp only [hall, if_true, pure_bind, Option.isSome_some]

theorem sorted_out_flt {vs : List Value} {ss : List UInt64} (hS : FltsAre vs ss) (hf : ∀ x ∈ ss, Float64.isFinite x = true) {xs : Array Keyed} (hp : xs.Perm (pairsOf vs)) (hs : SortedToK fltKind xs (pairsOf vs).size) :
    ∃ ss', FltsAre (xs.map (·.2)).toList ss' ∧ ss'.Perm ss ∧ ss'.Pairwise (fun a b => Float64.val a ≤ Float64.val b) := by
  have hl : xs.toList.Perm (vs.zip vs) := by rw [← pairsOf_toList]; exact Array.perm_iff_toList_perm.mp hp
  have hmem : ∀ p, p ∈ xs.toList → p.1 = p.2 ∧ p.1 ∈ vs := fun p hp' => mem_zip_self (hl.mem_iff.mp hp')
  refine ⟨xs.toList.map (fun p => fltOf p.1), ?_, ?_, ?_⟩
  · have e : (xs.map (·.2)).toList = xs.toList.map (·.1) := by
      rw [Array.toList_map]; exact List.map_congr_left fun p hp' => (hmem p hp').1.symm
    rw [e]
    have h1 := fltsAre_map (xs.toList.map (·.1)) (by
      intro v hv
      obtain ⟨p, hp', rfl⟩ := List.mem_map.mp hv
      obtain ⟨x, t, e, _⟩ := hS.all _ (hmem p hp').2
      exact ⟨x, t, e⟩)
    rwa [List.map_map] at h1
  · have h1 := hl.map (fun p => fltOf p.1)
    have e2 : (vs.zip vs).map (fun p => fltOf p.1) = ss := by
      have : (vs.zip vs).map (fun p => fltOf p.1) = ((vs.zip vs).map Prod.fst).map fltOf := by rw [List.map_map]; rfl
      rw [this, List.map_fst_zip (Nat.le_refl _), hS.flts]
    rwa [e2] at h1
  · rw [List.pairwise_iff_getElem]
    intro i j hi hj hij
    have hi' : i < xs.size := by simpa using hi
    have hj' : j < xs.size := by simpa using hj
    have h1 := hs i j (Nat.le_of_lt hij) (by rw [← hp.size_eq]; exact hj')
    obtain ⟨x, t, ex, mx⟩ := hS.all _ (hmem xs[i] (by simp)).2
    obtain ⟨y, u, ey, my⟩ := hS.all _ (hmem xs[j] (by simp)).2
    have k1 : KK fltKind xs i = Float64.val x := by
      unfold KK; rw [getElem?_pos xs i hi', show xs[i] = (.float x t, xs[i].2) from Prod.ext ex rfl]; dsimp only [fltKind]; rw [hf x mx]; rfl
    have k2 : KK fltKind xs j = Float64.val y := by
      unfold KK; rw [getElem?_pos xs j hj', show xs[j] = (.float y u, xs[j].2) from Prod.ext ey rfl]; dsimp only [fltKind]; rw [hf y my]; rfl
    rw [k1, k2] at h1
    change decide (Float64.val y < Float64.val x) = false at h1
    simp only [List.getElem_map, Array.getElem_toList]
    rw [show fltOf xs[i].1 = x by rw [ex]; rfl, show fltOf xs[j].1 = y by rw [ey]; rfl]
    have := of_decide_eq_false h1
    omega

section
variable {prog : Program} {w : World} {A : Around} {E : Value → Shared → Prop} {s : Shared}
theorem sorted_flts {l : Addr} {vs : List Value} {ss : List UInt64} {Q : Value → Shared → Prop} (hl : s.heap.IsList l vs.toArray) (hS : FltsAre vs ss) (hf : ∀ x ∈ ss, Float64.isFinite x = true) (h64 : vs.length < 64)
    (h : ∀ (out : Array Value) (ss' : List UInt64), FltsAre out.toList ss' → ss'.Perm ss → ss'.Pairwise (fun a b => Float64.val a ≤ Float64.val b) → Q (.ref (s.heap.objs.size + 1)) { s with heap := sortedAll s.heap vs out }) :
    wpAny (model prog w) A (call (.builtin "sorted") [.ref l]) Q E s := by
  refine sortedK fltKind_oneLt hl (hS.keysOf hf) (fun v₁ v₂ rest e => keyKind_flts (by rw [← e]; exact hS)) h64 fun st' hp hs => ?_
  obtain ⟨ss', h1, h2, h3⟩ := sorted_out_flt hS hf hp hs
  exact h _ ss' h1 h2 h3
end

/-! the value tells finite floats apart, the negative nought left out -/
noncomputable def negZero : UInt64 := 0x8000000000000000
noncomputable def fltOk (x : UInt64) : Bool := Float64.isFinite x && x != negZero

theorem pack_self (x : UInt64) : x = Float64.pack (x.toNat / 2 ^ 63 == 1) (x.toNat % 2 ^ 63) := by
  have hx : x.toNat < 2 ^ 64 := x.toNat_lt
  have : x.toNat = (Float64.pack (x.toNat / 2 ^ 63 == 1) (x.toNat % 2 ^ 63)).toNat := by
    rw [Float64.pack_toNat _ (Nat.mod_lt _ (by decide))]
    by_cases h : x.toNat / 2 ^ 63 = 1
    · rw [h]; simp only [beq_self_eq_true, if_true]; omega
    · have : x.toNat / 2 ^ 63 = 0 := by omega
      rw [this]; simp only [Nat.reduceBEq, Bool.false_eq_true, if_false]; omega
  exact UInt64.toNat_inj.mp this
theorem mag_lt {x : UInt64} (h : Float64.isFinite x = true) : x.toNat % 2 ^ 63 < Float64.infMag := by
  obtain ⟨a, m, e, hd⟩ := fin_of h
  unfold Float64.decode at hd
  simp only at hd
  unfold Float64.infMag
  by_cases hex : x.toNat / 2 ^ 52 % 2048 = 2047
  · simp only [hex, beq_self_eq_true, if_true] at hd
    split at hd <;> cases hd
  · have hx : x.toNat < 2 ^ 64 := x.toNat_lt
    omega
theorem pack_of {x : UInt64} (h : Float64.isFinite x = true) : ∃ neg t, t < Float64.infMag ∧ x = Float64.pack neg t := ⟨_, _, mag_lt h, pack_self x⟩
theorem val_inj {x y : UInt64} (hx : fltOk x = true) (hy : fltOk y = true) (e : Float64.val x = Float64.val y) : x = y := by
  unfold fltOk at hx hy
  rw [Bool.and_eq_true] at hx hy
  obtain ⟨a, t, ht, rfl⟩ := pack_of hx.1
  obtain ⟨b, u, hu, rfl⟩ := pack_of hy.1
  rw [Float64.val_pack a ht, Float64.val_pack b hu] at e
  have hz : ∀ k : Nat, Float64.V k = 0 → k = 0 := fun k hk => by
    rcases Nat.eq_zero_or_pos k with h | h
    · exact h
    · have := Float64.V_lt h; rw [Float64.V_zero] at this; omega
  have hV : Float64.V t = Float64.V u := by
    have := congrArg Int.natAbs e
    rwa [Float64.sgn_natAbs, Float64.sgn_natAbs] at this
  have htu : t = u := by
    rcases Nat.lt_trichotomy t u with h | h | h
    · have := Float64.V_lt h; omega
    · exact h
    · have := Float64.V_lt h; omega
  subst htu
  by_cases h0 : t = 0
  · subst h0
    have z : ∀ c, (Float64.pack c 0 != negZero) = true → c = false := fun c hc => by
      cases c with
      | false => rfl
      | true => exact absurd hc (by decide +kernel)
    rw [z a hx.2, z b hy.2]
  · have hpos : Float64.V t ≠ 0 := fun q => h0 (hz t q)
    have : a = b := by
      unfold Float64.sgn at e
      cases a <;> cases b <;> simp at e ⊢ <;> omega
    rw [this]
noncomputable def sortF (ns : List UInt64) : List UInt64 := isort (fun x y => decide (Float64.val x ≤ Float64.val y)) ns
theorem sortF_uniq {ns ms : List UInt64} (p : ms.Perm ns) (ok : ∀ x ∈ ns, fltOk x = true) (h : ms.Pairwise (fun a b => Float64.val a ≤ Float64.val b)) : ms = sortF ns :=
  sorted_uniq Float64.val (p.trans (isort_perm _ ns).symm) (fun x hx y hy e => val_inj (ok x (p.mem_iff.mp hx)) (ok y (p.mem_iff.mp hy)) e) h (isort_sorted Float64.val ns)
end Mine

/-! M4b -/

namespace Mine
noncomputable def bI (b : Bool) : Int := if b = true then 1 else 0
noncomputable abbrev boolKind : KeyKind where
  α := Int
  blt a b := decide (a < b)
  irrefl a := by simp
  trans a b c h1 h2 := by simp only [decide_eq_true_eq] at *; omega
  negTrans a b c h := by simp only [decide_eq_true_eq] at *; omega
  total a b h1 h2 := by simp only [decide_eq_false_iff_not] at *; omega
  keyOf v := match v with | .bool x => some (bI x) | _ => none
  dflt := 0
section
variable {prog : Program} {w : World} {A : Around} {E : Value → Shared → Prop} {s : Shared}
theorem oneLt_bool {a b : Bool} {Q : Bool → Shared → Prop} (h : Q (decide (bI a < bI b)) s) : wpAny (model prog w) A (oneLt' true (.bool a) (.bool b)) Q E s := by
  rw [oneLt'_eq]
  simp only [if_true]
  refine wpAny_bind (wpAny_cRoomFor_byValue rfl ?_)
  refine wpAny_bind (wpAny_callSpecialIfBound?_slot (typeIs_bool' s a) F.slot_bool_lt ?_)
  exact call_gives F.slot_bool_lt (typeIs_bool' s a) F.entry_int_lt (F.args_int_lt_2 _ _) (gives_int_lt_bools a b) (wpAny_truthy_bool h)
end
theorem boolKind_oneLt : boolKind.OneLt := by
  intro prog w A E s x y a b Q ha hb h
  cases x <;> simp only [boolKind, reduceCtorEq] at ha
  cases y <;> simp only [boolKind, reduceCtorEq] at hb
  cases ha; cases hb
  exact oneLt_bool h

inductive BoolsAre : List Value → List Bool → Prop
  | nil : BoolsAre [] []
  | cons {vs : List Value} {xs : List Bool} (x : Bool) (r : BoolsAre vs xs) : BoolsAre (.bool x :: vs) (x :: xs)
theorem BoolsAre.all : ∀ {vs : List Value} {ss : List Bool}, BoolsAre vs ss → ∀ v, v ∈ vs → ∃ x, v = .bool x ∧ x ∈ ss
  | _, _, .nil, v, hv => by simp at hv
  | _, _, .cons x h, v, hv => by
    rcases List.mem_cons.mp hv with rfl | hv
    · exact ⟨x, rfl, .head _⟩
    · obtain ⟨y, e, m⟩ := h.all v hv; exact ⟨y, e, .tail _ m⟩
noncomputable def boolOf : Value → Bool
  | .bool x => x
  | _ => false
theorem BoolsAre.bools : ∀ {vs : List Value} {ss : List Bool}, BoolsAre vs ss → vs.map boolOf = ss
  | _, _, .nil => rfl
  | _, _, .cons x h => by rw [List.map_cons, h.bools]; rfl
theorem boolsAre_map : ∀ (vs : List Value), (∀ v, v ∈ vs → ∃ x, v = .bool x) → BoolsAre vs (vs.map boolOf)
  | [], _ => .nil
  | v :: vs, h => by
    obtain ⟨x, rfl⟩ := h v (List.mem_cons_self ..)
    exact .cons x (boolsAre_map vs fun u hu => h u (List.mem_cons_of_mem _ hu))
theorem rep_bools {mu : List Addr} {h : Heap} {ns : List Bool} : ∀ {vs : List Value}, RepAll mu h vs (ns.map .bool) → BoolsAre vs ns := by
  induction ns with
  | nil => intro vs r; rw [r.nilv]; exact .nil
  | cons n ns ih =>
    intro vs r
    obtain ⟨v, vs', rfl, hv, hr⟩ := RepAll.consv r
    rw [hv.boolv]
    exact .cons n (ih hr)
theorem bools_rep {mu : List Addr} {h : Heap} : ∀ {ns : List Bool} {vs : List Value}, BoolsAre vs ns → RepAll mu h vs (ns.map .bool)
  | _, _, .nil => .nil
  | _, _, .cons n r => .cons (.bool n) (bools_rep r)
theorem BoolsAre.length : ∀ {vs : List Value} {ss : List Bool}, BoolsAre vs ss → vs.length = ss.length
  | _, _, .nil => rfl
  | _, _, .cons x h => by rw [List.length_cons, List.length_cons, h.length]

theorem BoolsAre.keysOf {vs : List Value} {ss : List Bool} (hS : BoolsAre vs ss) : KeysOf boolKind (pairsOf vs) := by
  intro p hp
  rw [pairsOf_toList] at hp
  obtain ⟨x, e, m⟩ := hS.all _ (mem_zip_self hp).2
  exact ⟨bI x, by rw [e]⟩

theorem mapM_first_bools : ∀ {vs : List Value} {ss : List Bool}, BoolsAre vs ss → vs.mapM firstOfTuple' = pure (vs.map fun _ => none)
  | _, _, .nil => by simp
  | _, _, .cons x h => by rw [List.mapM_cons, show firstOfTuple' (.bool x) = pure none from rfl, mapM_first_bools h]; simp
theorem mapM_typeOf_bools : ∀ {vs : List Value} {ss : List Bool}, BoolsAre vs ss → vs.mapM typeOf = pure (vs.map fun _ => Value.type "bool")
  | _, _, .nil => by simp
  | _, _, .cons x h => by
    rw [List.mapM_cons, mapM_typeOf_bools h]
    show (pure (Value.type "bool") >>= fun b => pure _ >>= fun bs => pure (b :: bs)) = _
    simp
theorem keyKind_bools {v₁ v₂ : Value} {vs : List Value} {ss : List Bool} (hS : BoolsAre (v₁ :: v₂ :: vs) ss) : keyKind' (v₁ :: v₂ :: vs).toArray = pure oneType' := by
  rw [keyKind'_eq, List.mapM_toArray, mapM_first_bools hS]
  simp only [map_pure, pure_bind]
  rw [if_neg (by simp), if_neg (by simp)]
  rw [oneTypeOnly'_eq, List.mapM_toArray, mapM_typeOf_bools hS]
  simp only [map_pure, pure_bind]
  have hall : ((List.map (fun _ => Value.type "bool") (v₁ :: v₂ :: vs)).toArray.all fun x => x == Value.type "bool") = true := by
    simp only [List.all_toArray, List.all_map, List.all_eq_true]
    intro _ _
    rfl
  have h0 : (List.map (fun _ => Value.type "bool") (v₁ :: v₂ :: vs)).toArray[0]? = some (Value.type "bool") := by simp
  rw [h0]
  simp only [hall, if_true, pure_bind, Option.isSome_some]

theorem sorted_out_bool {vs : List Value} {ss : List Bool} (hS : BoolsAre vs ss) {xs : Array Keyed} (hp : xs.Perm (pairsOf vs)) (hs : SortedToK boolKind xs (pairsOf vs).size) :
    ∃ ss', BoolsAre (xs.map (·.2)).toList ss' ∧ ss'.Perm ss ∧ ss'.Pairwise (fun a b => bI a ≤ bI b) := by
  have hl : xs.toList.Perm (vs.zip vs) := by rw [← pairsOf_toList]; exact Array.perm_iff_toList_perm.mp hp
  have hmem : ∀ p, p ∈ xs.toList → p.1 = p.2 ∧ p.1 ∈ vs := fun p hp' => mem_zip_self (hl.mem_iff.mp hp')
  refine ⟨xs.toList.map (fun p => boolOf p.1), ?_, ?_, ?_⟩
  · have e : (xs.map (·.2)).toList = xs.toList.map (·.1) := by
      rw [Array.toList_map]; exact List.map_congr_left fun p hp' => (hmem p hp').1.symm
    rw [e]
    have h1 := boolsAre_map (xs.toList.map (·.1)) (by
      intro v hv
      obtain ⟨p, hp', rfl⟩ := List.mem_map.mp hv
      obtain ⟨x, e, _⟩ := hS.all _ (hmem p hp').2
      exact ⟨x, e⟩)
    rwa [List.map_map] at h1
  · have h1 := hl.map (fun p => boolOf p.1)
    have e2 : (vs.zip vs).map (fun p => boolOf p.1) = ss := by
      have : (vs.zip vs).map (fun p => boolOf p.1) = ((vs.zip vs).map Prod.fst).map boolOf := by rw [List.map_map]; rfl
      rw [this, List.map_fst_zip (Nat.le_refl _), hS.bools]
    rwa [e2] at h1
  · rw [List.pairwise_iff_getElem]
    intro i j hi hj hij
    have hi' : i < xs.size := by simpa using hi
    have hj' : j < xs.size := by simpa using hj
    have h1 := hs i j (Nat.le_of_lt hij) (by rw [← hp.size_eq]; exact hj')
    obtain ⟨x, ex, mx⟩ := hS.all _ (hmem xs[i] (by simp)).2
    obtain ⟨y, ey, my⟩ := hS.all _ (hmem xs[j] (by simp)).2
    have k1 : KK boolKind xs i = bI x := by
      unfold KK; rw [getElem?_pos xs i hi', show xs[i] = (.bool x, xs[i].2) from Prod.ext ex rfl]; rfl
    have k2 : KK boolKind xs j = bI y := by
      unfold KK; rw [getElem?_pos xs j hj', show xs[j] = (.bool y, xs[j].2) from Prod.ext ey rfl]; rfl
    rw [k1, k2] at h1
    change decide (bI y < bI x) = false at h1
    simp only [List.getElem_map, Array.getElem_toList]
    rw [show boolOf xs[i].1 = x by rw [ex]; rfl, show boolOf xs[j].1 = y by rw [ey]; rfl]
    have := of_decide_eq_false h1
    omega

section
variable {prog : Program} {w : World} {A : Around} {E : Value → Shared → Prop} {s : Shared}
theorem sorted_bools {l : Addr} {vs : List Value} {ss : List Bool} {Q : Value → Shared → Prop} (hl : s.heap.IsList l vs.toArray) (hS : BoolsAre vs ss) (h64 : vs.length < 64)
    (h : ∀ (out : Array Value) (ss' : List Bool), BoolsAre out.toList ss' → ss'.Perm ss → ss'.Pairwise (fun a b => bI a ≤ bI b) → Q (.ref (s.heap.objs.size + 1)) { s with heap := sortedAll s.heap vs out }) :
    wpAny (model prog w) A (call (.builtin "sorted") [.ref l]) Q E s := by
  refine sortedK boolKind_oneLt hl hS.keysOf (fun v₁ v₂ rest e => keyKind_bools (by rw [← e]; exact hS)) h64 fun st' hp hs => ?_
  obtain ⟨ss', h1, h2, h3⟩ := sorted_out_bool hS hp hs
  exact h _ ss' h1 h2 h3
end

noncomputable def bools? : List D → Option (List Bool)
  | [] => some []
  | .bool n :: r => (bools? r).map (n :: ·)
  | _ => none
theorem bools?_map (ns : List Bool) : bools? (ns.map .bool) = some ns := by
  induction ns with
  | nil => rfl
  | cons n r ih => simp [bools?, ih]
theorem bools?_eq : ∀ {ds : List D} {ns : List Bool}, bools? ds = some ns → ds = ns.map .bool
  | [], ns, h => by simp [bools?] at h; subst h; rfl
  | .bool n :: r, ns, h => by
    simp only [bools?, Option.map_eq_some_iff] at h
    obtain ⟨m, hm, rfl⟩ := h
    rw [bools?_eq hm]; rfl
  | .none :: _, _, h => by simp [bools?] at h
  | .flt _ :: _, _, h => by simp [bools?] at h
  | .int _ :: _, _, h => by simp [bools?] at h
  | .list _ :: _, _, h => by simp [bools?] at h
  | .tup _ :: _, _, h => by simp [bools?] at h
  | .rng _ :: _, _, h => by simp [bools?] at h
noncomputable def sortB (ns : List Bool) : List Bool := isort (fun x y => decide (bI x ≤ bI y)) ns
theorem sortB_uniq {ns ms : List Bool} (p : ms.Perm ns) (h : ms.Pairwise (fun a b => bI a ≤ bI b)) : ms = sortB ns :=
  sorted_uniq bI (p.trans (isort_perm _ ns).symm) (fun x _ y _ e => by cases x <;> cases y <;> first | rfl | cases e) h (isort_sorted bI ns)
end Mine

/-! M5 -/

namespace Mine

noncomputable def minL : Int → List Int → Int
  | a, [] => a
  | a, b :: r => minL (if b < a then b else a) r
theorem minL_spec : ∀ (r : List Int) (a : Int), minL a r ∈ a :: r ∧ ∀ x ∈ a :: r, minL a r ≤ x
  | [], a => by simp [minL]
  | b :: r, a => by
    have ih := minL_spec r (if b < a then b else a)
    unfold minL
    constructor
    · rcases List.mem_cons.mp ih.1 with h | h
      · rw [h]; split <;> simp
      · exact .tail _ (.tail _ h)
    · intro x hx
      have h0 := ih.2 _ (.head _)
      rcases List.mem_cons.mp hx with rfl | hx
      · refine Int.le_trans h0 ?_; split <;> omega
      · rcases List.mem_cons.mp hx with rfl | hx
        · refine Int.le_trans h0 ?_; split <;> omega
        · exact ih.2 x (.tail _ hx)
theorem minL_uniq {r : List Int} {a M : Int} (h1 : M ∈ a :: r) (h2 : ∀ x ∈ a :: r, M ≤ x) : M = minL a r := by
  have := minL_spec r a
  have a1 := this.2 M h1
  have a2 := h2 _ this.1
  omega

noncomputable def fLt (x y : UInt64) : Bool := Float64.cmp x y == some Ordering.lt
noncomputable def max3 (x y z : UInt64) : UInt64 := if fLt (if fLt x y then y else x) z then z else (if fLt x y then y else x)
noncomputable def min3 (x y z : UInt64) : UInt64 := if fLt z (if fLt y x then y else x) then z else (if fLt y x then y else x)

inductive BI | len | sorted | min | max | abs | sum | int | range
  deriving DecidableEq

noncomputable def d1 : List D → Option D
  | [a] => some a
  | _ => none
noncomputable def flt3 : List D → Option (UInt64 × UInt64 × UInt64)
  | [a, b, c] => (asFlt a).bind fun x => (asFlt b).bind fun y => (asFlt c).map fun z => (x, y, z)
  | _ => none
theorem d1_eq {as : List D} {a : D} (h : d1 as = some a) : as = [a] := by
  cases as with
  | nil => cases h
  | cons x r => cases r with
    | nil => cases h; rfl
    | cons => cases h
theorem flt3_eq {as : List D} {x y z : UInt64} (h : flt3 as = some (x, y, z)) : as = [.flt x, .flt y, .flt z] := by
  rcases as with _ | ⟨a, _ | ⟨b, _ | ⟨c, _ | _⟩⟩⟩
  · cases h
  · cases h
  · cases h
  · obtain ⟨x', e1, h⟩ := Option.bind_eq_some_iff.mp h
    obtain ⟨y', e2, h⟩ := Option.bind_eq_some_iff.mp h
    obtain ⟨z', e3, h⟩ := Option.map_eq_some_iff.mp h
    cases h
    rw [asFlt_eq e1, asFlt_eq e2, asFlt_eq e3]
  · cases h
noncomputable def sortD (ds : List D) : Option D :=
  match ints? ds with
  | some ns => some (.list ((sortI ns).map .int))
  | none => (match flts? ds with
    | some xs => if xs.all fltOk then some (.list ((sortF xs).map .flt)) else none
    | none => (bools? ds).map fun bs => .list ((sortB bs).map .bool))
noncomputable def minD : List D → Option D
  | [] => none
  | a :: r => (match r with
    | [] => (asList a).bind fun ds => (ints? ds).bind fun ns => (match ns with
       | a :: r => some (.int (minL a r))
       | [] => none)
    | b :: r' => (match r' with
      | [] => (asInt a).bind fun m => (asInt b).map fun n => .int (if n < m then n else m)
      | _ :: _ => (flt3 (a :: b :: r')).map fun p => .flt (min3 p.1 p.2.1 p.2.2)))
noncomputable def callBI (b : BI) (as : List D) : Option D :=
  match b with
  | .len => (d1 as).bind fun a => (asList a).bind fun ds => if ds.length < 1000 then some (.int ds.length) else none
  | .sorted => (d1 as).bind fun a => (asList a).bind fun ds => if ds.length < 64 then sortD ds else none
  | .min => minD as
  | .max => (flt3 as).map fun p => .flt (max3 p.1 p.2.1 p.2.2)
  | .abs => (d1 as).bind fun a => (asInt a).map fun n => .int (if n < 0 then -n else n)
  | .sum => (d1 as).bind fun a => (asList a).bind fun ds => (ints? ds).map fun ns => .int ns.sum
  | .int => (d1 as).bind fun a => (asFlt a).bind fun x => if Float64.isFinite x = true then some (.int (Flt.toInt Float64.truncOf x)) else none
  | .range => (d1 as).bind fun a => (asInt a).bind fun n => if 0 ≤ n ∧ n < 1000 then some (.rng n.toNat) else none

theorem cb_len (ds : List D) : callBI .len [.list ds] = if ds.length < 1000 then some (.int ds.length) else none := rfl
theorem cb_sorted (ds : List D) : callBI .sorted [.list ds] = if ds.length < 64 then sortD ds else none := rfl
theorem cb_sum (ds : List D) : callBI .sum [.list ds] = (ints? ds).map fun ns => .int ns.sum := rfl

/-- the value that the builtin's name holds -/
noncomputable def biVal : BI → Value
  | .len => .builtin "len"
  | .sorted => .builtin "sorted"
  | .min => .builtin "min"
  | .max => .builtin "max"
  | .abs => .builtin "abs"
  | .sum => .builtin "sum"
  | .int => .type "int"
  | .range => .type "range"

section
variable {prog : Program} {w : World} {A : Around} {s : Shared} {mu : List Addr} {j : Nat}

theorem sortedAll_hk (h : Heap) (vs : List Value) (out : Array Value) : HK h (sortedAll h vs out) := fun _ _ e => sortedAll_old e
theorem to_sorted {vs : List Value} {out : Array Value} {ds : List D} (hm : MuIn mu s.heap) (r : RepAll mu (sortedAll s.heap vs out) out.toList ds) :
    To mu s (.list ds) (.ref (s.heap.objs.size + 1)) { s with heap := sortedAll s.heap vs out } := by
  refine ⟨Kp.mk' (tk := s.toks) (sortedAll_hk _ _ _), ?_⟩
  obtain ⟨e, he⟩ := sortedAll_at s.heap vs out
  have hn : s.heap.get? (s.heap.objs.size + 1) = none := by
    cases q : s.heap.get? (s.heap.objs.size + 1) with
    | none => rfl
    | some o => exact absurd (Heap.lt_size q) (Nat.not_lt.mpr (Nat.le_succ _))
  exact .list (hm.new hn) ⟨_, he, rfl, e, rfl⟩ r

theorem max_flts {x y z : UInt64} {t u v : Tok} {Q : Value → Shared → Prop} {E : Value → Shared → Prop} (hh : A.handled = none)
    (h : ∀ h' tk t', HK s.heap h' → Q (.float (max3 x y z) t') { s with heap := h', toks := tk }) :
    wpAny (model prog w) A (call (.builtin "max") [.float x t, .float y u, .float z v]) Q E s := by
  have hT : (s.heap.push { cls := .type "tuple", data := .seq #[.float x t, .float y u, .float z v] }).IsTuple s.heap.objs.size #[.float x t, .float y u, .float z v] := ⟨_, Heap.get?_push_size _ rfl, rfl, 0, rfl⟩
  refine call_max_three (wpAny_pyIter_tuple hT ?_)
  have hsz : (s.heap.push { cls := .type "tuple", data := .seq #[.float x t, .float y u, .float z v] }).objs.size = s.heap.objs.size + 1 := Heap.size_push ..
  refine ⟨_, [_, s.heap.objs.size], [_], _, _, _, _, rfl, Walks.tuple (A := A.in1) hh _ s.heap.objs.size (by rw [hsz]; exact Nat.ne_of_lt (Nat.lt_succ_self _)) #[.float x t, .float y u, .float z v],
    ⟨⟨_, Heap.get?_push_size _ rfl, rfl, rfl⟩, hT.push _⟩, fun c hc => ?_, by simp, Flt.cmpOf_gt #[.float x t, .float y u, .float z v] (by simp [Flt.NumV.float]), fun r h' tk hP hk => ?_⟩
  · show c < ((s.heap.push _).push _).objs.size
    rw [Heap.size_push, hsz]
    rcases List.mem_cons.mp hc with rfl | hc
    · rw [hsz]; exact Nat.lt_succ_self _
    · rcases List.mem_cons.mp hc with rfl | hc
      · exact Nat.lt_succ_of_lt (Nat.lt_succ_self _)
      · cases hc
  · have hold : HK s.heap h' := fun c o e => by
      refine hk c o (fun hm => ?_) (Heap.get?_push_of_some _ (Heap.get?_push_of_some _ e))
      rcases List.mem_cons.mp hm with e1 | hm
      · have := Heap.lt_size e; rw [e1, hsz] at this; exact Nat.lt_irrefl _ (Nat.lt_of_succ_lt this)
      · cases hm
    have hv : ∃ t', r = .float (max3 x y z) t' := by
      simp [argBest, Flt.ltV] at hP
      unfold max3 fLt
      by_cases h1 : Float64.cmp x y = some Ordering.lt
      · simp [h1] at hP ⊢
        by_cases h2 : Float64.cmp y z = some Ordering.lt
        · simp [h2] at hP ⊢; exact ⟨_, hP.symm⟩
        · simp [h2] at hP ⊢; exact ⟨_, hP.symm⟩
      · simp [h1] at hP ⊢
        by_cases h2 : Float64.cmp x z = some Ordering.lt
        · simp [h2] at hP ⊢; exact ⟨_, hP.symm⟩
        · simp [h2] at hP ⊢; exact ⟨_, hP.symm⟩
    obtain ⟨t', rfl⟩ := hv
    exact h h' tk t' hold

theorem min_flts {x y z : UInt64} {t u v : Tok} {Q : Value → Shared → Prop} {E : Value → Shared → Prop} (hh : A.handled = none)
    (h : ∀ h' tk t', HK s.heap h' → Q (.float (min3 x y z) t') { s with heap := h', toks := tk }) :
    wpAny (model prog w) A (call (.builtin "min") [.float x t, .float y u, .float z v]) Q E s := by
  have hT : (s.heap.push { cls := .type "tuple", data := .seq #[.float x t, .float y u, .float z v] }).IsTuple s.heap.objs.size #[.float x t, .float y u, .float z v] := ⟨_, Heap.get?_push_size _ rfl, rfl, 0, rfl⟩
  refine call_min_three (wpAny_pyIter_tuple hT ?_)
  have hsz : (s.heap.push { cls := .type "tuple", data := .seq #[.float x t, .float y u, .float z v] }).objs.size = s.heap.objs.size + 1 := Heap.size_push ..
  refine ⟨_, [_, s.heap.objs.size], [_], _, _, _, _, rfl, Walks.tuple (A := A.in1) hh _ s.heap.objs.size (by rw [hsz]; exact Nat.ne_of_lt (Nat.lt_succ_self _)) #[.float x t, .float y u, .float z v],
    ⟨⟨_, Heap.get?_push_size _ rfl, rfl, rfl⟩, hT.push _⟩, fun c hc => ?_, by simp, Flt.cmpOf_lt #[.float x t, .float y u, .float z v] (by simp [Flt.NumV.float]), fun r h' tk hP hk => ?_⟩
  · show c < ((s.heap.push _).push _).objs.size
    rw [Heap.size_push, hsz]
    rcases List.mem_cons.mp hc with rfl | hc
    · rw [hsz]; exact Nat.lt_succ_self _
    · rcases List.mem_cons.mp hc with rfl | hc
      · exact Nat.lt_succ_of_lt (Nat.lt_succ_self _)
      · cases hc
  · have hold : HK s.heap h' := fun c o e => by
      refine hk c o (fun hm => ?_) (Heap.get?_push_of_some _ (Heap.get?_push_of_some _ e))
      rcases List.mem_cons.mp hm with e1 | hm
      · have := Heap.lt_size e; rw [e1, hsz] at this; exact Nat.lt_irrefl _ (Nat.lt_of_succ_lt this)
      · cases hm
    have hv : ∃ t', r = .float (min3 x y z) t' := by
      simp [argBest, Flt.ltV] at hP
      unfold min3 fLt
      by_cases h1 : Float64.cmp y x = some Ordering.lt
      · simp [h1] at hP ⊢
        by_cases h2 : Float64.cmp z y = some Ordering.lt
        · simp [h2] at hP ⊢; exact ⟨_, hP.symm⟩
        · simp [h2] at hP ⊢; exact ⟨_, hP.symm⟩
      · simp [h1] at hP ⊢
        by_cases h2 : Float64.cmp z x = some Ordering.lt
        · simp [h2] at hP ⊢; exact ⟨_, hP.symm⟩
        · simp [h2] at hP ⊢; exact ⟨_, hP.symm⟩
    obtain ⟨t', rfl⟩ := hv
    exact h h' tk t' hold

theorem one_arg {as : List D} {vs : List Value} {a : D} (ra : RepAll mu s.heap vs as) (h : d1 as = some a) : ∃ v, vs = [v] ∧ Rep mu s.heap v a := by
  rw [d1_eq h] at ra
  obtain ⟨v, vs', rfl, hv, hr⟩ := ra.consv
  rw [hr.nilv]
  exact ⟨v, rfl, hv⟩
theorem three_flts {as : List D} {vs : List Value} {x y z : UInt64} (ra : RepAll mu s.heap vs as) (h : flt3 as = some (x, y, z)) : ∃ t u v, vs = [.float x t, .float y u, .float z v] := by
  rw [flt3_eq h] at ra
  obtain ⟨v, vs', rfl, hv, hr⟩ := ra.consv
  obtain ⟨v', vs', rfl, hv', hr⟩ := hr.consv
  obtain ⟨v'', vs', rfl, hv'', hr⟩ := hr.consv
  rw [hr.nilv]
  obtain ⟨t, rfl⟩ := hv.fltv
  obtain ⟨u, rfl⟩ := hv'.fltv
  obtain ⟨w, rfl⟩ := hv''.fltv
  exact ⟨t, u, w, rfl⟩
theorem sort_ok {ds : List D} {vs : List Value} {a : Addr} {d : D} (hm : MuIn mu s.heap) (hl : s.heap.IsList a vs.toArray) (hr : RepAll mu s.heap vs ds) (hb : ds.length < 64) (h : sortD ds = some d) :
    wpAny (model prog w) A (call (.builtin "sorted") [.ref a]) (To mu s d) Nope s := by
  have e := hr.length
  unfold sortD at h
  split at h
  · rename_i ns hn
    cases h
    have en := ints?_eq hn
    subst en
    refine sorted_ints hl (rep_ints hr) (by omega) fun out ns' h1 h2 h3 => ?_
    rw [sortI_uniq h2 h3] at h1
    exact to_sorted hm (ints_rep h1)
  · split at h
    · rename_i xs hx
      obtain ⟨hall, e'⟩ := ite_inv h
      cases e'
      have en := flts?_eq hx
      subst en
      have ok : ∀ x ∈ xs, fltOk x = true := List.all_eq_true.mp hall
      refine sorted_flts hl (rep_flts hr) (fun x hx => by have := ok x hx; unfold fltOk at this; exact (Bool.and_eq_true_iff.mp this).1) (by omega) fun out ns' h1 h2 h3 => ?_
      rw [sortF_uniq h2 ok h3] at h1
      exact to_sorted hm (flts_rep h1)
    · obtain ⟨bs, hbs, rfl⟩ := Option.map_eq_some_iff.mp h
      have en := bools?_eq hbs
      subst en
      refine sorted_bools hl (rep_bools hr) (by omega) fun out ns' h1 h2 h3 => ?_
      rw [sortB_uniq h2 h3] at h1
      exact to_sorted hm (bools_rep h1)
theorem minL_at {a : Int} {r : List Int} {xs : Array (Int × Tok)} (e2 : xs.toList.map (·.1) = a :: r) (hlen : xs.size = r.length + 1) :
    numAt xs (argBest (fun i j => decide (numAt xs i < numAt xs j)) (xs.size - 1)) = minL a r := by
  have hb := argBest_lt (numAt xs) (xs.size - 1)
  have hl2 : (a :: r).length = r.length + 1 := rfl
  have hmem : ∀ i, i < xs.size → ∀ x, (a :: r)[i]? = some x → numAt xs i = x := fun i hi x hx => by
    rw [← e2] at hx
    rw [List.getElem?_map, Array.getElem?_toList] at hx
    unfold numAt
    rw [hx]; rfl
  apply minL_uniq
  · have hlt : argBest (fun i j => decide (numAt xs i < numAt xs j)) (xs.size - 1) < (a :: r).length := by have := hb.1; omega
    rw [hmem _ (by omega) _ (List.getElem?_eq_getElem hlt)]; exact List.getElem_mem hlt
  · intro x hx
    obtain ⟨i, hi, rfl⟩ := List.getElem_of_mem hx
    rw [← hmem i (by omega) _ (List.getElem?_eq_getElem hi)]
    exact hb.2 i (by omega)
theorem min_ok {as : List D} {vs : List Value} {d : D} (hA : AOk j A) (ra : RepAll mu s.heap vs as) (h : minD as = some d) :
    wpAny (model prog w) A (call (.builtin "min") vs) (To mu s d) Nope s := by
  rcases as with _ | ⟨a, _ | ⟨b, _ | ⟨c, r⟩⟩⟩
  · exact no_some h
  · obtain ⟨v, rfl, hv⟩ := one_arg ra rfl
    obtain ⟨ds, e, h⟩ := Option.bind_eq_some_iff.mp h
    obtain ⟨ns, hn, h⟩ := Option.bind_eq_some_iff.mp h
    obtain ⟨p, vs, rfl, hl, hr⟩ := (asList_eq e ▸ hv).listv
    cases ns with
    | nil => exact no_some h
    | cons a r =>
      cases h
      have en := ints?_eq hn
      subst en
      obtain ⟨xs, e1, e2⟩ := ints_items (rep_ints hr)
      rw [e1] at hl
      have hlen : xs.size = r.length + 1 := by have := congrArg List.length e2; rw [List.length_map, Array.length_toList] at this; exact this
      refine min_intList hA.hd hl (by omega) fun v h' tk hv hk => ?_
      obtain ⟨t, rfl⟩ := intItems_at hv
      rw [minL_at e2 hlen]
      exact ⟨Kp.mk' hk, .int _ t⟩
  · obtain ⟨v, vs', rfl, hv, hr⟩ := ra.consv
    obtain ⟨v', rfl, hv'⟩ := one_arg hr rfl
    obtain ⟨m, e, h⟩ := Option.bind_eq_some_iff.mp h
    obtain ⟨n, e2, rfl⟩ := Option.map_eq_some_iff.mp h
    obtain ⟨t, rfl⟩ := (asInt_eq e ▸ hv).intv
    obtain ⟨u, rfl⟩ := (asInt_eq e2 ▸ hv').intv
    refine min_two_ints hA.hd fun h' tk hk => ?_
    by_cases hc : n < m
    · rw [if_pos hc, if_pos hc]; exact ⟨Kp.mk' hk, .int _ u⟩
    · rw [if_neg hc, if_neg hc]; exact ⟨Kp.mk' hk, .int _ t⟩
  · obtain ⟨⟨x, y, z⟩, e, rfl⟩ := Option.map_eq_some_iff.mp h
    obtain ⟨t, u, v, rfl⟩ := three_flts ra e
    exact min_flts hA.hd fun h' tk t' hk => ⟨Kp.mk' hk, .flt _ t'⟩

theorem callBI_ok {b : BI} {as : List D} {vs : List Value} {d : D} (hA : AOk j A) (hm : MuIn mu s.heap) (ra : RepAll mu s.heap vs as) (h : callBI b as = some d) :
    wpAny (model prog w) A (call (biVal b) vs) (To mu s d) Nope s := by
  cases b with
  | len =>
    obtain ⟨a, e, h⟩ := Option.bind_eq_some_iff.mp h
    obtain ⟨v, rfl, hv⟩ := one_arg ra e
    obtain ⟨ds, e, h⟩ := Option.bind_eq_some_iff.mp h
    obtain ⟨p, vs, rfl, hl, hr⟩ := (asList_eq e ▸ hv).listv
    obtain ⟨hb, e'⟩ := ite_inv h
    cases e'
    refine Calls.call_len_list hl (by rw [List.size_toArray, hr.length]; omega) ?_
    rw [List.size_toArray, hr.length]
    exact to_int
  | sorted =>
    obtain ⟨a, e, h⟩ := Option.bind_eq_some_iff.mp h
    obtain ⟨v, rfl, hv⟩ := one_arg ra e
    obtain ⟨ds, e, h⟩ := Option.bind_eq_some_iff.mp h
    obtain ⟨p, vs, rfl, hl, hr⟩ := (asList_eq e ▸ hv).listv
    obtain ⟨hb, e'⟩ := ite_inv h
    exact sort_ok hm hl hr hb e'
  | min => exact min_ok hA ra h
  | max =>
    obtain ⟨⟨x, y, z⟩, e, rfl⟩ := Option.map_eq_some_iff.mp h
    obtain ⟨t, u, v, rfl⟩ := three_flts ra e
    exact max_flts hA.hd fun h' tk t' hk => ⟨Kp.mk' hk, .flt _ t'⟩
  | abs =>
    obtain ⟨a, e, h⟩ := Option.bind_eq_some_iff.mp h
    obtain ⟨v, rfl, hv⟩ := one_arg ra e
    obtain ⟨n, e, rfl⟩ := Option.map_eq_some_iff.mp h
    obtain ⟨t, rfl⟩ := (asInt_eq e ▸ hv).intv
    exact call_abs_int fun u tk => ⟨Kp.mk' (HK.refl _), .int _ u⟩
  | sum =>
    obtain ⟨a, e, h⟩ := Option.bind_eq_some_iff.mp h
    obtain ⟨v, rfl, hv⟩ := one_arg ra e
    obtain ⟨ds, e, h⟩ := Option.bind_eq_some_iff.mp h
    obtain ⟨p, vs, rfl, hl, hr⟩ := (asList_eq e ▸ hv).listv
    obtain ⟨ns, hn, rfl⟩ := Option.map_eq_some_iff.mp h
    have en := ints?_eq hn
    subst en
    obtain ⟨xs, e1, e2⟩ := ints_items (rep_ints hr)
    rw [e1] at hl
    refine sum_intListG hA.hd hl fun h' tk t' hk => ?_
    have hlen : ns.length = xs.size := by have := congrArg List.length e2; rw [List.length_map, Array.length_toList] at this; exact this.symm
    rw [preSum_eq, e2, List.take_of_length_le (by omega)]
    exact ⟨Kp.mk' hk, .int _ t'⟩
  | int =>
    obtain ⟨a, e, h⟩ := Option.bind_eq_some_iff.mp h
    obtain ⟨v, rfl, hv⟩ := one_arg ra e
    obtain ⟨x, e, h⟩ := Option.bind_eq_some_iff.mp h
    obtain ⟨t, rfl⟩ := (asFlt_eq e ▸ hv).fltv
    obtain ⟨hf, e'⟩ := ite_inv h
    cases e'
    refine Flt.call_int_float3 hA.hd (fun e => ?_) (fun e => ?_) fun _ => to_int
    · rw [Flt.not_nan_of_finite hf] at e; cases e
    · rw [Flt.not_inf_of_finite hf] at e; cases e
  | range =>
    obtain ⟨a, e, h⟩ := Option.bind_eq_some_iff.mp h
    obtain ⟨v, rfl, hv⟩ := one_arg ra e
    obtain ⟨n, e, h⟩ := Option.bind_eq_some_iff.mp h
    obtain ⟨t, rfl⟩ := (asInt_eq e ▸ hv).intv
    obtain ⟨hb, e'⟩ := ite_inv h
    cases e'
    refine call_range_1 ?_
    refine ⟨Kp.mk' (hk_push _ _), Rep.rng (t := s.toks) (u := t) (v := s.toks + 1) (hm.new (new_none _)) ?_⟩
    have e : ((n.toNat : Nat) : Int) = n := Int.toNat_of_nonneg hb.1
    rw [e]
    exact IsRange.new s.heap 0 n 1 s.toks t (s.toks + 1)
end
end Mine

/-! M6 -/

namespace Mine
open PySem.MeetsSeq

/-! tuple.index of three ints -/
theorem range3 (a b c : Value) : ∀ (γ : Type) (f : Nat → γ → Sem (ForInStep γ)) (x : γ), forIn [0 : min (#[a, b, c] : Array Value).size (#[a, b, c] : Array Value).size] x f = forIn [0, 1, 2] x f := by
  intro γ f x
  rw [Std.Legacy.Range.forIn_eq_forIn_range']
  have : List.range' [0 : min (#[a, b, c] : Array Value).size (#[a, b, c] : Array Value).size].start [0 : min (#[a, b, c] : Array Value).size (#[a, b, c] : Array Value).size].size [0 : min (#[a, b, c] : Array Value).size (#[a, b, c] : Array Value).size].step = [0, 1, 2] := by
    simp [Std.Legacy.Range.size]; rfl
  rw [this]
noncomputable def index3 (x y z k : Int) : Option Nat := if x == k then some 0 else if y == k then some 1 else if z == k then some 2 else none
theorem tuple_index3 (l : Addr) (n : Nat) (x y z k : Int) (t1 t2 t3 t : Tok) (i : Nat) (hi : index3 x y z k = some i) :
    Meets (Builtin.«tuple.index» ⟨[.ref l, .int k t], []⟩)
      (fun _ R s => s.heap.get? l = some { cls := .type "tuple", data := .seq #[.int x t1, .int y t2, .int z t3] n } ∧ R (.ok (.ret (.int i s.toks))) { s with toks := s.toks + 1 }) := by
  intro prog w A R s h
  obtain ⟨hp, g, d, tk, os⟩ := s; obtain ⟨hl, h⟩ := h
  unfold index3 at hi
  unfold Builtin.«tuple.index»
  refine wpAny_bind (wpAny_of_eq (a := (Value.ref l, [Value.int k t])) rfl ?_)
  dsimp only
  unfold Builtin.Tuple.tupleItemsOf
  refine wpAny_bind (wpAny_bind (wpAny_seqItems hl rfl ?_))
  refine wpAny_pure (wpAny_bind (wpAny_pure (wpAny_bind (wpAny_pure ?_))))
  rw [range3]
  refine wpAny_bind ?_
  have e0 := EqGives.int x k t1 t
  have e1 := EqGives.int y k t2 t
  have e2 := EqGives.int z k t3 t
  rw [List.forIn_cons]
  refine wpAny_bind ?_
  show wpAny _ _ (eqBool (.int x t1) (.int k t) >>= _) _ _ _
  refine wpAny_bind (e0 prog w _ _ _ _ ?_)
  cases h0 : (x == k)
  · simp only [h0, Bool.false_eq_true, if_false] at hi ⊢
    refine wpAny_pure ?_
    dsimp only
    rw [List.forIn_cons]
    refine wpAny_bind ?_
    show wpAny _ _ (eqBool (.int y t2) (.int k t) >>= _) _ _ _
    refine wpAny_bind (e1 prog w _ _ _ _ ?_)
    cases h1 : (y == k)
    · simp only [h1, Bool.false_eq_true, if_false] at hi ⊢
      refine wpAny_pure ?_
      dsimp only
      rw [List.forIn_cons]
      refine wpAny_bind ?_
      show wpAny _ _ (eqBool (.int z t3) (.int k t) >>= _) _ _ _
      refine wpAny_bind (e2 prog w _ _ _ _ ?_)
      cases h2 : (z == k)
      · simp [h2] at hi
      · simp only [h2, if_true] at hi ⊢
        cases hi
        wp_walk
        exact h
    · simp only [h1, if_true] at hi ⊢
      cases hi
      wp_walk
      exact h
  · simp only [h0, if_true] at hi ⊢
    cases hi
    wp_walk
    exact h

/-! the static frame of the whole -/
structure Gl where
  prog : Program
  w : World
  K : Frag
  p : Program
  loose : List Str
  mg : Str → Option Value
  mb : Str → Option Value
structure Gd (G : Gl) (h : Heap) : Prop where
  X : G.K.In h
  T : TopRead G.p G.loose G.mg G.mb h
theorem Gd.keep {G : Gl} {h h' : Heap} (x : Gd G h) (k : HK h h') : Gd G h' := ⟨x.X.keeps k, x.T.keeps k⟩

abbrev Names := List (Str × NameKind)
abbrev Rho := List (Str × D)
noncomputable def okName (x : Str) : Bool := !(x == ("__debug__" : Str)) && !(x == ("__classdict__" : Str))

noncomputable def InCell (sc : Names) (x : Str) : Prop := sc.lookup x = some .cell ∨ sc.lookup x = some .free

structure EnvIs (mu : List Addr) (h : Heap) (sc : Names) (env : Env) (ρ : Rho) : Prop where
  fn : env.scope.kind = .function
  gl : env.globals = mainGlobals
  bu : env.builtins = builtinsNs
  gk : ∀ x, sc.lookup x = some .globalImplicit → env.kindOf x = some .globalImplicit
  lk : ∀ x, sc.lookup x = some .local → env.kindOf x = some .local
  ck : ∀ x, InCell sc x → (env.kindOf x = some .cell ∨ env.kindOf x = some .free) ∧ ∃ c ov, env.cells.lookup x = some c ∧ h.IsCell c ov
  ns : ∃ m, h.Ns env.locals m ∧ ∀ x d, ρ.lookup x = some d → sc.lookup x = some .local → ∃ v, m x = some v ∧ Rep mu h v d
  cv : ∀ x d, ρ.lookup x = some d → InCell sc x → ∃ c v, env.cells.lookup x = some c ∧ h.IsCell c (some v) ∧ Rep mu h v d
  nm : ∀ x d, ρ.lookup x = some d → okName x = true ∧ (sc.lookup x = some .local ∨ InCell sc x)

theorem EnvIs.keep {mu : List Addr} {h h' : Heap} {sc : Names} {env : Env} {ρ : Rho} (x : EnvIs mu h sc env ρ) (k : HK h h') : EnvIs mu h' sc env ρ where
  fn := x.fn
  gl := x.gl
  bu := x.bu
  gk := x.gk
  lk := x.lk
  ck := fun y hy => let ⟨a, c, ov, e, i⟩ := x.ck y hy; ⟨a, c, ov, e, i.keeps k⟩
  ns := let ⟨m, n, r⟩ := x.ns; ⟨m, n.keeps k, fun y d e l => let ⟨v, a, b⟩ := r y d e l; ⟨v, a, b.keep k.but⟩⟩
  cv := fun y d e l => let ⟨c, v, a, b, r⟩ := x.cv y d e l; ⟨c, v, a, b.keeps k, r.keep k.but⟩
  nm := x.nm

section
variable {M : Model} {A : Around} {E : Value → Shared → Prop} {s : Shared} {mu : List Addr} {sc : Names} {env : Env} {ρ : Rho}
theorem name_ok {x : Str} {pos : Pos} {d : D} {Q : Value → Shared → Prop} (e : EnvIs mu s.heap sc env ρ) (h : ρ.lookup x = some d) (hq : ∀ v, Rep mu s.heap v d → Q v s) : wpAny M A (eval (.Name x pos) env) Q E s := by
  obtain ⟨ok, kd⟩ := e.nm x d h
  unfold okName at ok
  simp only [Bool.and_eq_true, Bool.not_eq_true'] at ok
  refine wpAny_Name ?_ ok.1
  rcases kd with l | c
  · obtain ⟨m, n, r⟩ := e.ns
    obtain ⟨v, hv, rv⟩ := r x d h l
    exact wpAny_loadName_local e.fn (e.lk x l) n hv (hq v rv)
  · obtain ⟨c', v, hc, hi, rv⟩ := e.cv x d h c
    rcases (e.ck x c).1 with k | k
    · exact wpAny_loadName_cell e.fn k hc hi (hq v rv)
    · exact wpAny_loadName_free e.fn k hc hi (hq v rv) ok.2
theorem glob_ok {G : Gl} {x : Str} {pos : Pos} {v : Value} {Q : Value → Shared → Prop} (e : EnvIs mu s.heap sc env ρ) (g : Gd G s.heap) (hx : sc.lookup x = some .globalImplicit) (hd : okName x = true)
    (hn : nsIn G.K mainGlobals x = some (some v)) (hq : Q v s) : wpAny M A (eval (.Name x pos) env) Q E s := by
  unfold okName at hd
  simp only [Bool.and_eq_true, Bool.not_eq_true'] at hd
  exact Calls.Name_function_global e.fn (e.gk x hx) (Calls.loadGlobal_global (by rw [e.gl]; exact g.T.g) (mg_of g.X g.T.g hn) hq) hd.1
theorem bi_ok {G : Gl} {x : Str} {pos : Pos} {v : Value} {Q : Value → Shared → Prop} (e : EnvIs mu s.heap sc env ρ) (g : Gd G s.heap) (hx : sc.lookup x = some .globalImplicit) (hd : okName x = true)
    (hn : nsIn G.K mainGlobals x = some none) (hb : bootBuiltins x = some v) (hne : x ≠ "__name__") (hq : Q v s) : wpAny M A (eval (.Name x pos) env) Q E s := by
  unfold okName at hd
  simp only [Bool.and_eq_true, Bool.not_eq_true'] at hd
  exact Calls.Name_function_global e.fn (e.gk x hx) (Calls.loadGlobal_builtin (by rw [e.gl]; exact g.T.g) (mg_none_of g.X g.T.g hn) (by rw [e.bu]; exact g.T.b) ((g.T.builtins x hne).trans hb) hq) hd.1
end

noncomputable def biOf (x : Str) : Option BI :=
  if x == ("len" : Str) then some .len
  else if x == ("sorted" : Str) then some .sorted
  else if x == ("min" : Str) then some .min
  else if x == ("max" : Str) then some .max
  else if x == ("abs" : Str) then some .abs
  else if x == ("sum" : Str) then some .sum
  else if x == ("int" : Str) then some .int
  else if x == ("range" : Str) then some .range
  else none
noncomputable def BiOk (G : Gl) : Prop := ∀ x b, biOf x = some b → nsIn G.K mainGlobals x = some none ∧ bootBuiltins x = some (biVal b) ∧ x ≠ "__name__"

noncomputable def Contract (G : Gl) (j : Nat) (a : Addr) (as : List D) (d : D) : Prop :=
  ∀ (A : Around) (mu : List Addr) (s : Shared) (vs : List Value), AOk j A → Gd G s.heap → MuIn mu s.heap → RepAll mu s.heap vs as → wpAny (model G.prog G.w) A (call (.ref a) vs) (To mu s d) Nope s
noncomputable def PhiOk (G : Gl) (j : Nat) (Φ : Str → List D → Option D) : Prop :=
  ∀ f as d, Φ f as = some d → ∃ a, nsIn G.K mainGlobals f = some (some (.ref a)) ∧ keepIn G.K (.ref a) = true ∧ Contract G j a as d

/-! the pure evaluator -/
noncomputable def noStar : Expr → Bool
  | .Starred .. => false
  | _ => true
noncomputable def notSet : Expr → Bool
  | .Set .. => false
  | _ => true
noncomputable def notSlice : Expr → Bool
  | .Slice .. => false
  | _ => true
noncomputable def items : D → Option (List D)
  | .list ds => some ds
  | .tup ds => some ds
  | .rng n => some ((List.range n).map fun (i : Nat) => .int (i : Int))
  | _ => none
noncomputable def getD (d : D) (k : Int) : Option D :=
  if 0 ≤ k ∧ k < 1000 then (match d with
    | .list ds => ds[k.toNat]?
    | .tup ds => ds[k.toNat]?
    | _ => none) else none
noncomputable def evl (f : Expr → Option D) : List Expr → Option (List D)
  | [] => some []
  | e :: r => (f e).bind fun d => (evl f r).map (d :: ·)
noncomputable def slot (sc : Names) (x : Str) : Bool := okName x && (sc.lookup x == some .local || sc.lookup x == some .cell)
noncomputable def asName : Expr → Option Str
  | .Name x _ => some x
  | _ => none
theorem asName_eq {e : Expr} {x : Str} (h : asName e = some x) : ∃ p, e = .Name x p := by
  cases e with
  | Name y p => cases h; exact ⟨p, rfl⟩
  | _ => exact no_some h
noncomputable def bindTs (sc : Names) : Rho → List Expr → List D → Option Rho
  | ρ, [], ds => (match ds with
    | [] => some ρ
    | _ :: _ => none)
  | ρ, e :: es, ds => (match ds with
    | [] => none
    | d :: ds => (asName e).bind fun x => if slot sc x = true then bindTs sc ((x, d) :: ρ) es ds else none)
theorem bindTs_nil {sc : Names} {ρ ρ' : Rho} {ds : List D} (h : bindTs sc ρ [] ds = some ρ') : ds = [] ∧ ρ' = ρ := by
  cases ds with
  | nil => cases h; exact ⟨rfl, rfl⟩
  | cons => exact no_some h
theorem bindTs_cons {sc : Names} {ρ ρ' : Rho} {e : Expr} {es : List Expr} {ds : List D} (h : bindTs sc ρ (e :: es) ds = some ρ') :
    ∃ x p d ds', e = .Name x p ∧ ds = d :: ds' ∧ slot sc x = true ∧ bindTs sc ((x, d) :: ρ) es ds' = some ρ' := by
  cases ds with
  | nil => exact no_some h
  | cons d ds' =>
    obtain ⟨x, e1, h⟩ := Option.bind_eq_some_iff.mp (show (asName e).bind (fun x => if slot sc x = true then bindTs sc ((x, d) :: ρ) es ds' else none) = some ρ' from h)
    obtain ⟨p, e2⟩ := asName_eq e1
    obtain ⟨hs, h⟩ := ite_inv h
    exact ⟨x, p, d, ds', e2, rfl, hs, h⟩
noncomputable def bindT (sc : Names) (ρ : Rho) (t : Expr) (d : D) : Option Rho :=
  match t with
  | .Name x _ => if slot sc x = true then some ((x, d) :: ρ) else none
  | .Tuple es _ _ => (match d with
    | .tup ds => if es.length < 100 then bindTs sc ρ es ds else none
    | _ => none)
  | _ => none
theorem bindT_inv {sc : Names} {ρ ρ' : Rho} {t : Expr} {d : D} (h : bindT sc ρ t d = some ρ') :
    (∃ x p, t = .Name x p ∧ slot sc x = true ∧ ρ' = (x, d) :: ρ) ∨ (∃ es k p ds, t = .Tuple es k p ∧ d = .tup ds ∧ es.length < 100 ∧ bindTs sc ρ es ds = some ρ') := by
  cases t with
  | Name x p =>
    obtain ⟨hs, e⟩ := ite_inv h
    cases e
    exact .inl ⟨x, p, rfl, hs, rfl⟩
  | Tuple es k p =>
    cases d with
    | tup ds =>
      obtain ⟨hs, e⟩ := ite_inv h
      exact .inr ⟨es, k, p, ds, rfl, rfl, hs, e⟩
    | _ => exact no_some h
  | _ => exact no_some h
theorem bindT_name {sc : Names} {ρ : Rho} {x : Str} {p : Pos} {d : D} (h : slot sc x = true) : bindT sc ρ (.Name x p) d = some ((x, d) :: ρ) := if_pos h
noncomputable def compL (f : D → Option (Option D)) : List D → Option (List D)
  | [] => some []
  | d :: r => (f d).bind fun o => (compL f r).map fun rest => match o with | some x => x :: rest | none => rest
noncomputable def tests (g : Expr → Option D) : List Expr → Option Bool
  | [] => some true
  | c :: r => match g c with
    | some (.bool true) => tests g r
    | some (.bool false) => some false
    | _ => none
noncomputable def nodupN : List (Str × NameKind) → Bool
  | [] => true
  | p :: r => !(r.any fun q => p.1 == q.1) && nodupN r
/-- what is asked of a comprehension's block, by its spelling -/
noncomputable def compOk (sc : Names) (scope : Scope) : Bool :=
  scope.kind == .function && nodupN scope.names && scope.names.all fun p => match p.2 with
    | .local | .cell => true
    | .free => sc.lookup p.1 == some .cell || sc.lookup p.1 == some .free
    | .globalImplicit => true
    | .globalExplicit => false
noncomputable def indexD (ds : List D) (k : Int) : Option D := match ds with
  | [.int x, .int y, .int z] => (index3 x y z k).map fun (i : Nat) => .int (i : Int)
  | _ => none

noncomputable def evB (Φ : Str → List D → Option D) (f : Names → Rho → Expr → Option D) (sc : Names) (ρ : Rho) (e : Expr) : Option D :=
    match e with
    | .Constant c _ _ => (match c with
        | .int i => some (.int i)
        | .float x => some (.flt x)
        | .bool b => some (.bool b)
        | _ => none)
    | .Name x _ => ρ.lookup x
    | .Tuple es _ _ => if es.all noStar && decide (es.length < 1000) then (evl (f sc ρ) es).map .tup else none
    | .List es _ => if es.all noStar && decide (es.length < 1000) then (evl (f sc ρ) es).map .list else none
    | .BinOp l op r _ => (f sc ρ l).bind fun a => (f sc ρ r).bind fun b => binop op a b
    | .Compare l ops rs _ => (match ops, rs with
        | [op], [r] => if notSet r then (f sc ρ l).bind fun a => (f sc ρ r).bind fun b => (cmpop op a b).map .bool else none
        | _, _ => none)
    | .BoolOp op xs _ => (match op, xs with
        | .And, [x, y] => (match f sc ρ x with
          | some (.bool true) => (match f sc ρ y with | some (.bool b) => some (.bool b) | _ => none)
          | some (.bool false) => some (.bool false)
          | _ => none)
        | .Or, [x, y] => (match f sc ρ x with
          | some (.bool false) => (match f sc ρ y with | some (.bool b) => some (.bool b) | _ => none)
          | some (.bool true) => some (.bool true)
          | _ => none)
        | _, _ => none)
    | .UnaryOp op x _ => (match op with
        | .Not => (match f sc ρ x with | some (.bool b) => some (.bool (!b)) | _ => none)
        | _ => none)
    | .IfExp t a b _ => (match f sc ρ t with
        | some (.bool true) => f sc ρ a
        | some (.bool false) => f sc ρ b
        | _ => none)
    | .Subscript v i _ => (match i with
        | .Slice lo hi st _ => (match lo, hi, st with
          | none, some u, none => (match f sc ρ v, f sc ρ u with
            | some (.list ds), some (.int k) => if 0 ≤ k ∧ k < 1000 ∧ ds.length < 1000 then some (.list (ds.take k.toNat)) else none
            | _, _ => none)
          | some l, none, none => (match f sc ρ v, f sc ρ l with
            | some (.list ds), some (.int k) => if 0 ≤ k ∧ k < 1000 ∧ ds.length < 1000 then some (.list (ds.drop k.toNat)) else none
            | _, _ => none)
          | _, _, _ => none)
        | i => (match f sc ρ v, f sc ρ i with
          | some d, some (.int k) => getD d k
          | _, _ => none))
    | .Call fn args kws cpos => (match kws with
        | [] => (match fn with
          | .Name x _ => if okName x && sc.lookup x == some .globalImplicit && args.all noStar then
              (evl (f sc ρ) args).bind fun as => (match biOf x with
                | some b => callBI b as
                | none => Φ x as) else none
          | .Attribute o nm ap => (match o, args with
            | .Name x _, [a] => if nm == ("index" : Str) && noStar a && ap.endLine == cpos.line then
                (match ρ.lookup x, f sc ρ a with
                | some (.tup ds), some (.int k) => indexD ds k
                | _, _ => none) else none
            | _, _ => none)
          | _ => none)
        | _ => none)
    | .ListComp elt gens scope _ => (match gens with
        | [⟨target, iter, ifs, asy⟩] => if asy == 0 && notSet iter && compOk sc scope then
            (f sc ρ iter).bind fun it => (items it).bind fun ds =>
              if ds.length < 1000 then
                (compL (fun d => (bindT scope.names (ρ.filter fun p => scope.names.lookup p.1 == some .free) target d).bind fun ρ1 =>
                  (tests (f scope.names ρ1) ifs).bind fun ok => if ok then (f scope.names ρ1 elt).map some else some none) ds).map .list
              else none
          else none
        | _ => none)
    | _ => none
noncomputable def ev (Φ : Str → List D → Option D) : Nat → Names → Rho → Expr → Option D
  | 0, _, _, _ => none
  | n + 1, sc, ρ, e => evB Φ (ev Φ n) sc ρ e
theorem ev_succ (Φ : Str → List D → Option D) (n : Nat) (sc : Names) (ρ : Rho) (e : Expr) : ev Φ (n + 1) sc ρ e = evB Φ (ev Φ n) sc ρ e := rfl
end Mine

/-! M7 -/

namespace Mine

noncomputable def EvOk (G : Gl) (j : Nat) (Φ : Str → List D → Option D) (n : Nat) : Prop :=
  ∀ (e : Expr) (sc : Names) (env : Env) (ρ : Rho) (mu : List Addr) (A : Around) (s : Shared) (d : D), AOk j A → Gd G s.heap → MuIn mu s.heap → EnvIs mu s.heap sc env ρ → ev Φ n sc ρ e = some d →
    wpAny (model G.prog G.w) A (eval e env) (To mu s d) Nope s
noncomputable def IsTOk (G : Gl) (j : Nat) (Φ : Str → List D → Option D) (n : Nat) : Prop :=
  ∀ (e : Expr) (sc : Names) (env : Env) (ρ : Rho) (mu : List Addr) (A : Around) (s : Shared) (b : Bool), AOk j A → Gd G s.heap → MuIn mu s.heap → EnvIs mu s.heap sc env ρ → ev Φ n sc ρ e = some (.bool b) →
    wpAny (model G.prog G.w) A (isTrue e env (eval e env)) (fun r s' => r = b ∧ Kp s s') Nope s

theorem nope {α : Type} {M : Model} {A : Around} {t : Sem α} {Q Q' : α → Shared → Prop} {E : Value → Shared → Prop} {s : Shared} (h : wpAny M A t Q Nope s) (k : ∀ a s', Q a s' → Q' a s') : wpAny M A t Q' E s :=
  wpAny_mono h k fun _ _ f => f.elim

theorem starEach_cons {e : Expr} {r : List Expr} {env : Env} (h : noStar e = true) : starEach (e :: r) env = (false, eval e env) :: starEach r env := by
  cases e <;> first | rfl | cases h
theorem plain_any {pos : Pos} {env : Env} : ∀ {es : List Expr}, es.all noStar = true → (backTo pos (starEach es env)).any (·.1) = false
  | [], _ => rfl
  | e :: r, h => by
    rw [List.all_cons, Bool.and_eq_true] at h
    rw [starEach_cons h.1]
    show (false || (backTo pos (starEach r env)).any (·.1)) = false
    rw [plain_any h.2]; rfl

section
variable {G : Gl} {j : Nat} {Φ : Str → List D → Option D} {n : Nat} {sc : Names} {env : Env} {ρ : Rho} {mu : List Addr} {A : Around}

theorem evl_ok (IH : EvOk G j Φ n) (hA : AOk j A) {pos : Pos} : ∀ {es : List Expr} {ds : List D} {s : Shared}, Gd G s.heap → MuIn mu s.heap → EnvIs mu s.heap sc env ρ → es.all noStar = true → evl (ev Φ n sc ρ) es = some ds →
    wpAny (model G.prog G.w) A (spliced (backTo pos (starEach es env))) (fun vs s' => Kp s s' ∧ RepAll mu s'.heap vs ds) Nope s
  | [], ds, s, _, _, _, _, h => by
    simp only [evl, Option.some.injEq] at h
    subst h
    exact Calls.spliced_nil ⟨Kp.refl _, .nil⟩
  | e :: r, ds, s, hG, hM, hE, hs, h => by
    rw [List.all_cons, Bool.and_eq_true] at hs
    simp only [evl, Option.bind_eq_some_iff, Option.map_eq_some_iff] at h
    obtain ⟨d, hd, dr, hr, rfl⟩ := h
    rw [starEach_cons hs.1]
    refine Calls.spliced_cons (nope (IH e sc env ρ mu A s d hA hG hM hE hd) fun v s₁ h₁ => ?_)
    obtain ⟨k₁, r₁⟩ := h₁
    refine nope (evl_ok IH hA (pos := pos) (hG.keep k₁.hk) (hM.keep k₁.hk) (hE.keep k₁.hk) hs.2 hr) fun vs s₂ h₂ => ?_
    exact ⟨k₁.trans h₂.1, .cons (r₁.keep h₂.1.hk.but) h₂.2⟩

theorem evalArgs_ok {pos : Pos} {f : Value} {es : List Expr} {s : Shared} {Q : Args → Shared → Prop} {E : Value → Shared → Prop} {M : Model} (hs : es.all noStar = true)
    (h : wpAny M A (spliced (backTo pos (starEach es env))) (fun vs s' => Q ⟨vs, []⟩ s') E s) : wpAny M A (evalArgs f true (backTo pos (starEach es env)) []) Q E s := by
  cases es with
  | nil =>
    unfold evalArgs
    show wpAny M A (spliced [] >>= _) Q E s
    refine wpAny_bind (wpAny_mono h (fun vs s' h' => ?_) fun _ _ x => x)
    exact wpAny_holding (wpAny_bind (wpAny_pure (wpAny_bind (wpAny_pure (wpAny_pure h')))))
  | cons e r =>
    rw [List.all_cons, Bool.and_eq_true] at hs
    rw [starEach_cons hs.1] at h ⊢
    exact Calls.evalArgs_plain h

theorem sub_tail {value slice : Expr} {o i : Value} {T id : String} {s : Shared} {Q : Value → Shared → Prop} {E : Value → Shared → Prop} {prog : Program} {w : World} (hT : s.TypeIs o T)
    (hl : typeLookup (.type T) "__getitem__" = pure (some (.builtin id))) (h : wpAny (model prog w) A (getItem o i) Q E s)
    (hs : subscripted slice false o i = operate [o, i] (getItem o i) ∨ subscripted slice false o i = operate [i, o] (getItem o i)) :
    wpAny (model prog w) A (subscriptTail value slice o i) Q E s := by
  unfold subscriptTail
  refine wpAny_bind ?_
  rw [getitemInPython_of_ne hT.not_modules]
  refine wpAny_bind (wpAny_specialOf hT hl ?_)
  have fin : wpAny (model prog w) A (subscripted slice false o i) (fun r s₃ => wpAny (model prog w) A (letTemporaryGo value o r >>= fun _ => pure r) Q E s₃) E s := by
    rcases hs with hs | hs <;> rw [hs] <;>
    exact wpAny_operating (wpAny_mono h (fun r s₃ h₃ => wpAny_bind (wpAny_letTemporaryGo (wpAny_pure h₃))) fun _ _ x => x)
  first
    | exact wpAny_pure (wpAny_bind fin)
    | exact wpAny_bind (wpAny_pure (wpAny_bind fin))
    | exact wpAny_bind fin
theorem plain_sub {e : Expr} {o i : Value} (h : notSlice e = true) : subscripted e false o i = operate [o, i] (getItem o i) := by
  cases e <;> first | rfl | cases h

theorem getD_ok {d r : D} {k : Int} {v : Value} {t : Tok} {value slice : Expr} {s : Shared} {prog : Program} {w : World} (rv : Rep mu s.heap v d) (h : getD d k = some r) (hs : notSlice slice = true) :
    wpAny (model prog w) A (subscriptTail value slice v (.int k t)) (To mu s r) Nope s := by
  unfold getD at h
  split at h
  · rename_i hb
    split at h
    · cases rv with | list ha hl hr =>
      obtain ⟨x, hx, rx⟩ := hr.get h
      exact sub_tail hl.typeIs list_getitem_lookup (wpAny_getItem_list hl hb.1 (by omega) (by simpa using hx) (to_same rx)) (.inl (plain_sub hs))
    · cases rv with | tup ha hl hr =>
      obtain ⟨x, hx, rx⟩ := hr.get h
      have hlt := (List.getElem?_eq_some_iff.mp hx).1
      refine sub_tail hl.isTup.typeIs slot_tuple_getitem.lookup (getItem_tuple hl.isTup (by omega) (by omega) (j := k.toNat) ?_ (by simpa using hx) (to_same rx)) (.inl (plain_sub hs))
      unfold seqIndex?
      have h1 : ¬ k < 0 := by omega
      simp only [h1, if_false, List.size_toArray, Bool.and_eq_true, decide_eq_true_eq]
      rw [if_pos ⟨hb.1, by omega⟩]
    · cases h
  · cases h

theorem to_listU {vs : List Value} {ds : List D} {s : Shared} {s₀ : Shared} (k : Kp s₀ s) (hm : MuIn mu s.heap) (r : RepAll mu s.heap vs ds) : To mu s₀ (.list ds) (.ref s.heap.objs.size) { s with heap := s.heap.push { cls := .type "list", data := .seq vs.toArray } } :=
  (to_list hm r).from k

theorem slice_ok {ds : List D} {v : Value} {value : Expr} {lo hi : Option Expr} {p : Pos} {s : Shared} {prog : Program} {w : World} {vl vu : Value} {l u : Option Int} {ds' : List D}
    (hm : MuIn mu s.heap) (rv : Rep mu s.heap v (.list ds)) (hlen : ds.length < 1000) (pl : IsPart vl l) (pu : IsPart vu u)
    (hp : ∀ vs : List Value, RepAll mu s.heap vs ds → RepAll mu s.heap (slicePick vs.toArray l u none).toList ds') :
    wpAny (model prog w) A (newFields "slice" [vl, vu, .none]) (fun i s₂ => wpAny (model prog w) A (subscriptTail value (.Slice lo hi none p) v i) (To mu s (.list ds')) Nope s₂) Nope s := by
  refine wpAny_newObj_type ?_
  cases rv with | list ha hl hr =>
  have e := hr.length
  refine sub_tail (Heap.IsList.typeIs (s := { s with heap := s.heap.push { cls := .type "slice", data := .fields #[vl, vu, .none] } }) (hl.push _)) list_getitem_lookup
    (wpAny_getItem_list_slice (hl.push _) (Heap.IsSliceOf.new ..) pl pu .none (by simp) ?_ (by rw [sizeLine_eq, List.size_toArray]; omega)) (.inr rfl)
  have k1 : Kp s { s with heap := s.heap.push { cls := .type "slice", data := .fields #[vl, vu, .none] } } := Kp.mk' (tk := s.toks) (hk_push _ _)
  have := to_list (s := { s with heap := s.heap.push { cls := .type "slice", data := .fields #[vl, vu, .none] } }) (hm.keep k1.hk) ((hp _ hr).keep k1.hk.but)
  simp only [Array.toArray_toList] at this
  exact this.from k1
end
end Mine

/-! M8 -/

namespace Mine

/-- what the case of a comprehension owes -/
noncomputable def CompCase (G : Gl) (j : Nat) (Φ : Str → List D → Option D) (n : Nat) : Prop :=
  ∀ (elt : Expr) (gens : List Comprehension) (scope : Scope) (pos : Pos) (sc : Names) (env : Env) (ρ : Rho) (mu : List Addr) (A : Around) (s : Shared) (d : D), AOk j A → Gd G s.heap → MuIn mu s.heap → EnvIs mu s.heap sc env ρ → ev Φ (n + 1) sc ρ (.ListComp elt gens scope pos) = some d →
    wpAny (model G.prog G.w) A (eval (.ListComp elt gens scope pos) env) (To mu s d) Nope s

section
variable {G : Gl} {j : Nat} {Φ : Str → List D → Option D} {n : Nat}

theorem call_ok (hB : BiOk G) (hΦ : PhiOk G j Φ) (IH : EvOk G j Φ n) {x : Str} {p pos : Pos} {args : List Expr} {sc : Names} {env : Env} {ρ : Rho} {mu : List Addr} {A : Around} {s : Shared} {d : D} (hA : AOk j A) (hG : Gd G s.heap) (hM : MuIn mu s.heap) (hE : EnvIs mu s.heap sc env ρ)
    (ok : okName x = true) (gx : sc.lookup x = some .globalImplicit) (hs : args.all noStar = true) {as : List D} (ha : evl (ev Φ n sc ρ) args = some as)
    (h : (match biOf x with | some b => callBI b as | none => Φ x as) = some d) :
    wpAny (model G.prog G.w) A (eval (.Call (.Name x p) args [] pos) env) (To mu s d) Nope s := by
  have hargs := evl_ok IH hA (pos := pos) hG hM hE hs ha
  refine Call_Name rfl ?_
  cases hb : biOf x with
  | some b =>
    rw [hb] at h
    obtain ⟨h1, h2, h3⟩ := hB x b hb
    refine bi_ok hE hG gx ok h1 h2 h3 ?_
    have fin : ∀ (vs : List Value) (s₁ : Shared), Kp s s₁ ∧ RepAll mu s₁.heap vs as → wpAny (model G.prog G.w) A (call (biVal b) vs) (To mu s d) Nope s₁ := fun vs s₁ h₁ =>
      nope (callBI_ok hA (hM.keep h₁.1.hk) h₁.2 h) fun v s₂ h₂ => h₂.from h₁.1
    have viaB : ∀ id : String, biVal b = .builtin id → wpAny (model G.prog G.w) A (callWith pos (biVal b) [] (backTo pos (starEach args env)) []) (To mu s d) Nope s := fun id e => by
      rw [e] at fin ⊢
      exact Calls.callWith_builtin (plain_any hs) (evalArgs_ok hs (nope hargs fun vs s₁ h₁ => fin vs s₁ h₁))
    have viaT : ∀ id : String, biVal b = .type id → wpAny (model G.prog G.w) A (callWith pos (biVal b) [] (backTo pos (starEach args env)) []) (To mu s d) Nope s := fun id e => by
      rw [e] at fin ⊢
      exact PyProof.Rows.callWith_type (plain_any hs) (evalArgs_ok hs (nope hargs fun vs s₁ h₁ => fin vs s₁ h₁))
    cases b with
    | len => exact viaB _ rfl
    | sorted => exact viaB _ rfl
    | min => exact viaB _ rfl
    | max => exact viaB _ rfl
    | abs => exact viaB _ rfl
    | sum => exact viaB _ rfl
    | int => exact viaT _ rfl
    | range => exact viaT _ rfl
  | none =>
    rw [hb] at h
    obtain ⟨a, h1, h2, hc⟩ := hΦ x as d h
    refine glob_ok hE hG gx ok h1 ?_
    refine callWith_of (P := fun h => G.K.In h) (by rw [plain_any hs]; rfl) (keeps_K h2) (evalArgs_ok hs (nope hargs fun vs s₁ h₁ => ?_))
    have hG₁ := hG.keep h₁.1.hk
    exact ⟨hG₁.X, nope (hc A mu s₁ vs hA hG₁ (hM.keep h₁.1.hk) h₁.2) fun v s₂ h₂ => h₂.from h₁.1⟩

theorem method_ok {M : Model} {A : Around} {E : Value → Shared → Prop} {s : Shared} {env : Env} {x nm : Str} {p ap pos : Pos} {a : Expr} {Q : Value → Shared → Prop} (hs : noStar a = true) (hp : (ap.endLine == pos.line) = true)
    (h : wpAny M A (eval (.Name x p) env) (fun ov s₁ => wpAny M A (getMethod ov nm (do return (← importBound (.Name x p) env).getD true)) (fun fx s₂ => wpAny M A (callWith pos fx.1 fx.2 [(false, eval a env)] []) Q E s₂) E s₁) E s) :
    wpAny M A (eval (.Call (.Attribute (.Name x p) nm ap) [a] [] pos) env) Q E s := by
  rw [arm_eval_Call]
  refine wpAny_bind (wpAny_mono h (fun ov s₁ h₁ => wpAny_bind (wpAny_standAt ?_)) fun _ _ x => x)
  unfold methodCall
  rw [starEach_cons hs]
  have e1 : methodCallForm ([a].length + ([] : List Keyword).length) (backTo pos ((false, eval a env) :: starEach [] env)) (backToKw pos (keywordEach [] env)) = true := rfl
  rw [e1]
  refine wpAny_bind (wpAny_holding (wpAny_mono h₁ (fun fx s₂ h₂ => ?_) fun _ _ x => x))
  have e2 : methodCallPos true (.Name x p) env ap pos = pure pos := by unfold methodCallPos; rw [hp]; rfl
  rw [e2]
  exact wpAny_bind (wpAny_pure h₂)

theorem index_ok (IH : EvOk G j Φ n) {x : Str} {p ap pos : Pos} {a : Expr} {sc : Names} {env : Env} {ρ : Rho} {mu : List Addr} {A : Around} {s : Shared} {d : D} (hA : AOk j A) (hG : Gd G s.heap) (hM : MuIn mu s.heap) (hE : EnvIs mu s.heap sc env ρ)
    (hs : noStar a = true) (hp : (ap.endLine == pos.line) = true) {ds : List D} {k : Int} (hx : ρ.lookup x = some (.tup ds)) (ha : ev Φ n sc ρ a = some (.int k)) (h : indexD ds k = some d) :
    wpAny (model G.prog G.w) A (eval (.Call (.Attribute (.Name x p) ("index" : Str) ap) [a] [] pos) env) (To mu s d) Nope s := by
  unfold indexD at h
  split at h
  · rename_i x' y z
    simp only [Option.map_eq_some_iff] at h
    obtain ⟨i, hi, rfl⟩ := h
    refine method_ok hs hp (name_ok hE hx fun v rv => ?_)
    cases rv with | tup hna hl hr =>
    cases hr with | cons r1 hr =>
    cases hr with | cons r2 hr =>
    cases hr with | cons r3 hr =>
    cases hr
    cases r1; cases r2; cases r3
    obtain ⟨nn, ho⟩ := hl
    refine getMethod_builtin ⟨_, ho, rfl⟩ PySem.F.plainAttrs_tuple PySem.F.slot_tuple_index PySem.F.type_tuple_index (fun a e => by cases e; exact ⟨_, ho, rfl⟩) ?_
    refine Calls.callWith_builtin rfl (Calls.evalArgs_plain (Calls.spliced_cons (nope (IH a sc env ρ mu A s _ hA hG hM hE ha) fun v s₁ h₁ => Calls.spliced_nil ?_)))
    obtain ⟨k₁, r₁⟩ := h₁
    cases r₁ with | int _ t =>
    refine call_meets PySem.F.slot_tuple_index ⟨_, k₁.hk _ _ ho, rfl⟩ PySem.F.entry_tuple_index (PySem.F.args_tuple_index_2 _ _) (tuple_index3 _ nn _ _ _ k _ _ _ t i hi) ⟨k₁.hk _ _ ho, ?_⟩
    exact To.from k₁ to_int
  · cases h
end
end Mine

/-! M9 -/

namespace Mine
section
variable {G : Gl} {j : Nat} {Φ : Str → List D → Option D} {n : Nat}

theorem notSet_marks {op : CmpOp} {r : Expr} (h : notSet r = true) : behindInMarks op r = false := by
  cases r <;> first | rfl | cases h

theorem ev_step (hB : BiOk G) (hΦ : PhiOk G j Φ) (IH : EvOk G j Φ n) (IT : IsTOk G j Φ n) (HC : CompCase G j Φ n) : EvOk G j Φ (n + 1) := by
  intro e sc env ρ mu A s d hA hG hM hE h
  cases e with
  | Constant c k pos =>
    cases c with
    | int i => (rw [ev_succ] at h; dsimp only [evB] at h); cases h; exact wpAny_Constant_int to_int
    | float x => (rw [ev_succ] at h; dsimp only [evB] at h); cases h; exact wpAny_Constant_float to_flt
    | bool b => (rw [ev_succ] at h; dsimp only [evB] at h); cases h; exact fun _ _ _ => to_bool
    | none => (rw [ev_succ] at h; dsimp only [evB] at h); cases h
    | complex => (rw [ev_succ] at h; dsimp only [evB] at h); cases h
    | str => (rw [ev_succ] at h; dsimp only [evB] at h); cases h
    | bytes => (rw [ev_succ] at h; dsimp only [evB] at h); cases h
    | ellipsis => (rw [ev_succ] at h; dsimp only [evB] at h); cases h
  | Name x pos => (rw [ev_succ] at h; dsimp only [evB] at h); exact name_ok hE h fun v rv => to_same rv
  | Tuple es k pos =>
    (rw [ev_succ] at h; dsimp only [evB] at h)
    split at h
    · rename_i hs
      rw [Bool.and_eq_true] at hs
      simp only [Option.map_eq_some_iff] at h
      obtain ⟨ds, hd, rfl⟩ := h
      refine Tuple_ (nope (evl_ok IH hA hG hM hE hs.1 hd) fun vs s₁ h₁ => ?_)
      refine wpAny_newObj_type ((to_tup (hM.keep h₁.1.hk) h₁.2).from h₁.1) ?_
      show vs.toArray.size ≤ sizeLine
      have e1 := h₁.2.length
      have e2 : ∀ {es : List Expr} {ds : List D}, evl (ev Φ n sc ρ) es = some ds → ds.length = es.length := by
        intro es
        induction es with
        | nil => intro ds h; simp [evl] at h; subst h; rfl
        | cons e r ih => intro ds h; simp only [evl, Option.bind_eq_some_iff, Option.map_eq_some_iff] at h; obtain ⟨d, _, dr, hr, rfl⟩ := h; simp [ih hr]
      have e3 := e2 hd
      have e4 := of_decide_eq_true hs.2
      rw [List.size_toArray, sizeLine_eq]; omega
    · cases h
  | List es pos =>
    (rw [ev_succ] at h; dsimp only [evB] at h)
    split at h
    · rename_i hs
      rw [Bool.and_eq_true] at hs
      simp only [Option.map_eq_some_iff] at h
      obtain ⟨ds, hd, rfl⟩ := h
      refine List_ (nope (evl_ok IH hA hG hM hE hs.1 hd) fun vs s₁ h₁ => ?_)
      refine wpAny_newList ((to_list (hM.keep h₁.1.hk) h₁.2).from h₁.1) ?_
      have e1 := h₁.2.length
      have e2 : ∀ {es : List Expr} {ds : List D}, evl (ev Φ n sc ρ) es = some ds → ds.length = es.length := by
        intro es
        induction es with
        | nil => intro ds h; simp [evl] at h; subst h; rfl
        | cons e r ih => intro ds h; simp only [evl, Option.bind_eq_some_iff, Option.map_eq_some_iff] at h; obtain ⟨d, _, dr, hr, rfl⟩ := h; simp [ih hr]
      have e3 := e2 hd
      have e4 := of_decide_eq_true hs.2
      rw [sizeLine_eq]; omega
    · cases h
  | BinOp l op r pos =>
    (rw [ev_succ] at h; dsimp only [evB] at h)
    simp only [Option.bind_eq_some_iff] at h
    obtain ⟨a, ha, b, hb, h⟩ := h
    refine wpAny_BinOp (nope (IH l sc env ρ mu A s a hA hG hM hE ha) fun va s₁ h₁ => ?_)
    refine nope (IH r sc env ρ mu A s₁ b hA (hG.keep h₁.1.hk) (hM.keep h₁.1.hk) (hE.keep h₁.1.hk) hb) fun vb s₂ h₂ => ?_
    exact nope (binop_ok hA ((hM.keep h₁.1.hk).keep h₂.1.hk) (h₁.2.keep h₂.1.hk.but) h₂.2 h) fun v s₃ h₃ => h₃.from (h₁.1.trans h₂.1)
  | Compare l ops rs pos =>
    (rw [ev_succ] at h; dsimp only [evB] at h)
    split at h
    · rename_i op r
      split at h
      · rename_i hns
        simp only [Option.bind_eq_some_iff, Option.map_eq_some_iff] at h
        obtain ⟨a, ha, b, hb, c, hc, rfl⟩ := h
        refine wpAny_Compare1 (nope (IH l sc env ρ mu A s a hA hG hM hE ha) fun va s₁ h₁ => ?_) (notSet_marks hns)
        refine nope (IH r sc env ρ mu A s₁ b hA (hG.keep h₁.1.hk) (hM.keep h₁.1.hk) (hE.keep h₁.1.hk) hb) fun vb s₂ h₂ => ?_
        exact cmpop_ok hA (h₁.2.keep h₂.1.hk.but) h₂.2 hc (To.from (h₁.1.trans h₂.1) to_bool)
      · cases h
    · cases h
  | BoolOp op xs pos =>
    (rw [ev_succ] at h; dsimp only [evB] at h)
    split at h
    · rename_i x y
      refine wpAny_And2 ?_
      split at h
      · rename_i hx
        split at h
        · rename_i b hy
          cases h
          refine nope (IH x sc env ρ mu A s _ hA hG hM hE hx) fun va s₁ h₁ => ?_
          obtain ⟨k, r⟩ := h₁
          cases r
          refine wpAny_truthy_bool ?_
          simp only [if_true]
          exact nope (IH y sc env ρ mu A s₁ _ hA (hG.keep k.hk) (hM.keep k.hk) (hE.keep k.hk) hy) fun v s₂ h₂ => h₂.from k
        · cases h
      · rename_i hx
        cases h
        refine nope (IH x sc env ρ mu A s _ hA hG hM hE hx) fun va s₁ h₁ => ?_
        obtain ⟨k, r⟩ := h₁
        cases r
        refine wpAny_truthy_bool ?_
        simp only [Bool.false_eq_true, if_false]
        exact To.from k to_bool
      · cases h
    · rename_i x y
      refine wpAny_Or2 ?_
      split at h
      · rename_i hx
        split at h
        · rename_i b hy
          cases h
          refine nope (IH x sc env ρ mu A s _ hA hG hM hE hx) fun va s₁ h₁ => ?_
          obtain ⟨k, r⟩ := h₁
          cases r
          refine wpAny_truthy_bool ?_
          simp only [Bool.false_eq_true, if_false]
          exact nope (IH y sc env ρ mu A s₁ _ hA (hG.keep k.hk) (hM.keep k.hk) (hE.keep k.hk) hy) fun v s₂ h₂ => h₂.from k
        · cases h
      · rename_i hx
        cases h
        refine nope (IH x sc env ρ mu A s _ hA hG hM hE hx) fun va s₁ h₁ => ?_
        obtain ⟨k, r⟩ := h₁
        cases r
        refine wpAny_truthy_bool ?_
        simp only [if_true]
        exact To.from k to_bool
      · cases h
    · cases h
  | UnaryOp op x pos =>
    (rw [ev_succ] at h; dsimp only [evB] at h)
    split at h
    · split at h
      · rename_i b hx
        cases h
        refine wpAny_UnaryOp (nope (IH x sc env ρ mu A s _ hA hG hM hE hx) fun va s₁ h₁ => ?_)
        obtain ⟨k, r⟩ := h₁
        cases r
        exact not_of (wpAny_truthy_bool (To.from k to_bool))
      · cases h
    · cases h
  | IfExp t a b pos =>
    (rw [ev_succ] at h; dsimp only [evB] at h)
    split at h
    · rename_i ht
      refine wpAny_IfExp (nope (IT t sc env ρ mu A s _ hA hG hM hE ht) fun r s₁ h₁ => ?_)
      obtain ⟨rfl, k⟩ := h₁
      simp only [if_true]
      exact nope (IH a sc env ρ mu A s₁ _ hA (hG.keep k.hk) (hM.keep k.hk) (hE.keep k.hk) h) fun v s₂ h₂ => h₂.from k
    · rename_i ht
      refine wpAny_IfExp (nope (IT t sc env ρ mu A s _ hA hG hM hE ht) fun r s₁ h₁ => ?_)
      obtain ⟨rfl, k⟩ := h₁
      simp only [Bool.false_eq_true, if_false]
      exact nope (IH b sc env ρ mu A s₁ _ hA (hG.keep k.hk) (hM.keep k.hk) (hE.keep k.hk) h) fun v s₂ h₂ => h₂.from k
    · cases h
  | Subscript v i pos =>
    by_cases hsl : notSlice i = true
    · have h' : (match ev Φ n sc ρ v, ev Φ n sc ρ i with | some d, some (.int k) => getD d k | _, _ => none) = some d := by
        cases i <;> first | ((rw [ev_succ] at h; dsimp only [evB] at h); exact h) | cases hsl
      split at h'
      · rename_i dv k hv hi
        refine Subscript_ (nope (IH v sc env ρ mu A s dv hA hG hM hE hv) fun va s₁ h₁ => ?_)
        refine nope (IH i sc env ρ mu A s₁ _ hA (hG.keep h₁.1.hk) (hM.keep h₁.1.hk) (hE.keep h₁.1.hk) hi) fun vb s₂ h₂ => ?_
        obtain ⟨k₂, r₂⟩ := h₂
        cases r₂
        exact nope (getD_ok (h₁.2.keep k₂.hk.but) h' hsl) fun v s₃ h₃ => h₃.from (h₁.1.trans k₂)
      · cases h'
    · cases i with
      | Slice lo hi st p =>
        (rw [ev_succ] at h; dsimp only [evB] at h)
        split at h
        · rename_i u
          split at h
          · rename_i ds k hv hu
            split at h
            · rename_i hb
              cases h
              refine Subscript_ (nope (IH v sc env ρ mu A s _ hA hG hM hE hv) fun va s₁ h₁ => ?_)
              rw [arm_eval_Slice]
              refine wpAny_bind (wpAny_pure ?_)
              refine wpAny_bind (wpAny_holding (nope (IH u sc env ρ mu A s₁ _ hA (hG.keep h₁.1.hk) (hM.keep h₁.1.hk) (hE.keep h₁.1.hk) hu) fun vb s₂ h₂ => ?_))
              obtain ⟨k₂, r₂⟩ := h₂
              cases r₂ with | int _ t =>
              refine wpAny_bind (wpAny_holding (wpAny_pure ?_))
              refine nope (slice_ok (u := some k) ((hM.keep h₁.1.hk).keep k₂.hk) (h₁.2.keep k₂.hk.but) hb.2.2 .none (.int k t) fun vs hr => ?_) fun v s₃ h₃ => nope h₃ fun v' s₄ h₄ => h₄.from (h₁.1.trans k₂)
              have ek : k = ((k.toNat : Nat) : Int) := by omega
              rw [ek, slicePick_upto', ← ek]
              simpa using hr.take k.toNat
            · cases h
          · cases h
        · rename_i l
          split at h
          · rename_i ds k hv hu
            split at h
            · rename_i hb
              cases h
              refine Subscript_ (nope (IH v sc env ρ mu A s _ hA hG hM hE hv) fun va s₁ h₁ => ?_)
              rw [arm_eval_Slice]
              refine wpAny_bind (nope (IH l sc env ρ mu A s₁ _ hA (hG.keep h₁.1.hk) (hM.keep h₁.1.hk) (hE.keep h₁.1.hk) hu) fun vb s₂ h₂ => ?_)
              obtain ⟨k₂, r₂⟩ := h₂
              cases r₂ with | int _ t =>
              refine wpAny_bind (wpAny_holding (wpAny_pure ?_))
              refine wpAny_bind (wpAny_holding (wpAny_pure ?_))
              refine nope (slice_ok (l := some k) ((hM.keep h₁.1.hk).keep k₂.hk) (h₁.2.keep k₂.hk.but) hb.2.2 (.int k t) .none fun vs hr => ?_) fun v s₃ h₃ => nope h₃ fun v' s₄ h₄ => h₄.from (h₁.1.trans k₂)
              have ek : k = ((k.toNat : Nat) : Int) := by omega
              rw [ek, slicePick_from', ← ek]
              simpa using hr.drop k.toNat
            · cases h
          · cases h
        · cases h
      | _ => exact absurd rfl hsl
  | Call f args kws cpos =>
    (rw [ev_succ] at h; dsimp only [evB] at h)
    split at h
    · split at h
      · rename_i x p
        split at h
        · rename_i hc
          simp only [Bool.and_eq_true, beq_iff_eq] at hc
          simp only [Option.bind_eq_some_iff] at h
          obtain ⟨as, ha, h⟩ := h
          exact call_ok hB hΦ IH hA hG hM hE hc.1.1 hc.1.2 hc.2 ha h
        · cases h
      · rename_i o nm ap
        split at h
        · rename_i x p a
          split at h
          · rename_i hc
            simp only [Bool.and_eq_true] at hc
            have hnm : nm = ("index" : Str) := beq_iff_eq.mp hc.1.1
            subst hnm
            split at h
            · rename_i ds k hx ha
              exact index_ok IH hA hG hM hE hc.1.2 hc.2 hx ha h
            · cases h
          · cases h
        · cases h
      · cases h
    · cases h
  | ListComp elt gens scope pos => exact HC elt gens scope pos sc env ρ mu A s d hA hG hM hE h
  | _ => (rw [ev_succ] at h; dsimp only [evB] at h); cases h

theorem ist_step (IH : EvOk G j Φ n) (IT : IsTOk G j Φ n) (IH1 : EvOk G j Φ (n + 1)) : IsTOk G j Φ (n + 1) := by
  intro e sc env ρ mu A s b hA hG hM hE h
  have other : (isTrue e env (eval e env) = (do let v ← eval e env; standAt e.pos; holding [v] (truthy v))) → wpAny (model G.prog G.w) A (isTrue e env (eval e env)) (fun r s' => r = b ∧ Kp s s') Nope s := fun eq => by
    rw [eq]
    refine wpAny_bind (nope (IH1 e sc env ρ mu A s _ hA hG hM hE h) fun v s₁ h₁ => ?_)
    obtain ⟨k, r⟩ := h₁
    cases r
    exact wpAny_bind (wpAny_standAt (wpAny_holding (wpAny_truthy_bool ⟨rfl, k⟩)))
  cases e with
  | UnaryOp op x pos =>
    (rw [ev_succ] at h; dsimp only [evB] at h)
    split at h
    · split at h
      · rename_i c hx
        cases h
        exact wpAny_isTrue_Not (nope (IT x sc env ρ mu A s _ hA hG hM hE hx) fun r s₁ h₁ => ⟨by rw [h₁.1], h₁.2⟩)
      · cases h
    · cases h
  | BoolOp op xs pos =>
    (rw [ev_succ] at h; dsimp only [evB] at h)
    rw [arm_isTrue_BoolOp]
    split at h
    · rename_i x y
      split at h
      · rename_i hx
        split at h
        · rename_i c hy
          cases h
          refine wpAny_bind (nope (IT x sc env ρ mu A s _ hA hG hM hE hx) fun r s₁ h₁ => ?_)
          obtain ⟨rfl, k⟩ := h₁
          refine wpAny_bind (nope (IT y sc env ρ mu A s₁ _ hA (hG.keep k.hk) (hM.keep k.hk) (hE.keep k.hk) hy) fun r s₂ h₂ => ?_)
          obtain ⟨rfl, k₂⟩ := h₂
          cases r <;> exact wpAny_pure ⟨rfl, k.trans k₂⟩
        · cases h
      · rename_i hx
        cases h
        refine wpAny_bind (nope (IT x sc env ρ mu A s _ hA hG hM hE hx) fun r s₁ h₁ => ?_)
        obtain ⟨rfl, k⟩ := h₁
        exact wpAny_pure ⟨rfl, k⟩
      · cases h
    · rename_i x y
      split at h
      · rename_i hx
        split at h
        · rename_i c hy
          cases h
          refine wpAny_bind (nope (IT x sc env ρ mu A s _ hA hG hM hE hx) fun r s₁ h₁ => ?_)
          obtain ⟨rfl, k⟩ := h₁
          refine wpAny_bind (nope (IT y sc env ρ mu A s₁ _ hA (hG.keep k.hk) (hM.keep k.hk) (hE.keep k.hk) hy) fun r s₂ h₂ => ?_)
          obtain ⟨rfl, k₂⟩ := h₂
          cases r <;> exact wpAny_pure ⟨rfl, k.trans k₂⟩
        · cases h
      · rename_i hx
        cases h
        refine wpAny_bind (nope (IT x sc env ρ mu A s _ hA hG hM hE hx) fun r s₁ h₁ => ?_)
        obtain ⟨rfl, k⟩ := h₁
        exact wpAny_pure ⟨rfl, k⟩
      · cases h
    · cases h
  | IfExp t x y pos =>
    (rw [ev_succ] at h; dsimp only [evB] at h)
    rw [arm_isTrue_IfExp]
    split at h
    · rename_i ht
      refine wpAny_bind (nope (IT t sc env ρ mu A s _ hA hG hM hE ht) fun r s₁ h₁ => ?_)
      obtain ⟨rfl, k⟩ := h₁
      exact nope (IT x sc env ρ mu A s₁ _ hA (hG.keep k.hk) (hM.keep k.hk) (hE.keep k.hk) h) fun r s₂ h₂ => ⟨h₂.1, k.trans h₂.2⟩
    · rename_i ht
      refine wpAny_bind (nope (IT t sc env ρ mu A s _ hA hG hM hE ht) fun r s₁ h₁ => ?_)
      obtain ⟨rfl, k⟩ := h₁
      exact nope (IT y sc env ρ mu A s₁ _ hA (hG.keep k.hk) (hM.keep k.hk) (hE.keep k.hk) h) fun r s₂ h₂ => ⟨h₂.1, k.trans h₂.2⟩
    · cases h
  | Compare l ops rs pos =>
    (rw [ev_succ] at h; dsimp only [evB] at h)
    split at h
    · rename_i op r
      split at h
      · rename_i hns
        simp only [Option.bind_eq_some_iff, Option.map_eq_some_iff] at h
        obtain ⟨a, ha, c, hb, q, hc, hq⟩ := h
        cases hq
        refine wpAny_isTrue_Compare1 (nope (IH l sc env ρ mu A s a hA hG hM hE ha) fun va s₁ h₁ => ?_) (notSet_marks hns)
        refine nope (IH r sc env ρ mu A s₁ c hA (hG.keep h₁.1.hk) (hM.keep h₁.1.hk) (hE.keep h₁.1.hk) hb) fun vb s₂ h₂ => ?_
        exact cmpop_ok hA (h₁.2.keep h₂.1.hk.but) h₂.2 hc (wpAny_truthy_bool ⟨rfl, h₁.1.trans h₂.1⟩)
      · cases h
    · cases h
  | Constant => exact other rfl
  | Name => exact other rfl
  | Subscript => exact other rfl
  | Call => exact other rfl
  | Tuple => exact other rfl
  | List => exact other rfl
  | BinOp => exact other rfl
  | ListComp => exact other rfl
  | _ => (rw [ev_succ] at h; dsimp only [evB] at h); cases h
end
end Mine

/-! M10 -/

namespace Mine

/-- a frame into which names may be stored: its own places are hidden ones -/
structure FrIs (mu : List Addr) (h : Heap) (sc : Names) (env : Env) (ρ : Rho) : Prop extends EnvIs mu h sc env ρ where
  lm : env.locals ∈ mu
  cm : ∀ x c, sc.lookup x = some .cell → env.cells.lookup x = some c → c ∈ mu
  ap : ∀ x y c, sc.lookup x = some .cell → InCell sc y → env.cells.lookup x = some c → env.cells.lookup y = some c → x = y
  kc : ∀ x, sc.lookup x = some .cell → env.kindOf x = some .cell

theorem FrIs.keep {mu : List Addr} {h h' : Heap} {sc : Names} {env : Env} {ρ : Rho} (x : FrIs mu h sc env ρ) (k : HK h h') : FrIs mu h' sc env ρ :=
  ⟨x.toEnvIs.keep k, x.lm, x.cm, x.ap, x.kc⟩

/-- which places of the frame a store may touch -/
noncomputable def Own (env : Env) (sc : Names) (a : Addr) : Prop := a = env.locals ∨ ∃ x, sc.lookup x = some .cell ∧ env.cells.lookup x = some a
noncomputable def HKO (env : Env) (sc : Names) (h h' : Heap) : Prop := ∀ b o, ¬ Own env sc b → h.get? b = some o → h'.get? b = some o
theorem HKO.trans {env : Env} {sc : Names} {a b c : Heap} (x : HKO env sc a b) (y : HKO env sc b c) : HKO env sc a c := fun q o n e => y q o n (x q o n e)
theorem HKO.ofSame {env : Env} {sc : Names} {h h' : Heap} {a : Addr} (ha : Own env sc a) (hs : Heap.SameBut a h h') : HKO env sc h h' := fun b o hb e => hs.extBut b o (fun q => hb (q ▸ ha)) e
theorem HKO.ofHK {env : Env} {sc : Names} {h h' : Heap} (k : HK h h') : HKO env sc h h' := fun b o _ e => k b o e

/-- the name holds the value -/
noncomputable def HV (sc : Names) (env : Env) (h : Heap) (x : Str) (v : Value) : Prop :=
  (sc.lookup x = some .local ∧ ∃ m, h.Ns env.locals m ∧ m x = some v) ∨ (InCell sc x ∧ ∃ c, env.cells.lookup x = some c ∧ h.IsCell c (some v))
theorem HV.keep {sc : Names} {env : Env} {h h' : Heap} {x : Str} {v : Value} (q : HV sc env h x v) (k : HK h h') : HV sc env h' x v :=
  q.imp (fun ⟨l, m, n, e⟩ => ⟨l, m, n.keeps k, e⟩) fun ⟨l, c, e, i⟩ => ⟨l, c, e, i.keeps k⟩
theorem ns_same {h : Heap} {L : Addr} {m m' : Str → Option Value} (a : h.Ns L m) (b : h.Ns L m') (x : Str) : m x = m' x := by
  obtain ⟨o, es, ep, e, hd, _, r⟩ := a
  obtain ⟨o', es', ep', e', hd', _, r'⟩ := b
  rw [e] at e'; cases e'
  rw [hd] at hd'; cases hd'
  rw [← r, ← r']
noncomputable def dropN (x : Str) (ρ : Rho) : Rho := ρ.filter fun p => !(p.1 == x)
theorem lookup_dropN {x y : Str} {ρ : Rho} {d : D} : (dropN x ρ).lookup y = some d → ρ.lookup y = some d ∧ y ≠ x := by
  unfold dropN
  induction ρ with
  | nil => intro h; cases h
  | cons q r ih =>
    intro h
    by_cases hp : (!(q.1 == x)) = true
    · rw [List.filter_cons_of_pos (p := fun q : Str × D => !(q.1 == x)) hp, List.lookup_cons] at h
      rw [List.lookup_cons]
      cases hb : y == q.1 with
      | true =>
        rw [hb] at h
        refine ⟨h, fun e => ?_⟩
        rw [e] at hb
        simp only [Bool.not_eq_true'] at hp
        rw [← beq_iff_eq.mp hb] at hp
        simp at hp
      | false => rw [hb] at h; exact ih h
    · rw [List.filter_cons_of_neg (p := fun q : Str × D => !(q.1 == x)) hp] at h
      have h2 := ih h
      refine ⟨?_, h2.2⟩
      rw [List.lookup_cons]
      cases hb : y == q.1 with
      | true =>
        have : (q.1 == x) = true := by simpa using hp
        exact absurd ((beq_iff_eq.mp hb).trans (beq_iff_eq.mp this)) h2.2
      | false => exact h2.1
theorem dropN_none (x : Str) (ρ : Rho) : (dropN x ρ).lookup x = none := by
  cases h : (dropN x ρ).lookup x with
  | none => rfl
  | some d => exact absurd rfl (lookup_dropN h).2

theorem ns_ne_cell {h : Heap} {L c : Addr} {m : Str → Option Value} {ov : Option Value} (n : h.Ns L m) (i : h.IsCell c ov) : c ≠ L := by
  rintro rfl
  obtain ⟨o, es, ep, e, hd, _⟩ := n
  obtain ⟨o', e', hd'⟩ := i
  rw [e] at e'; cases e'
  rw [hd] at hd'; cases hd'

theorem lookup_cons_of {ρ : Rho} {x y : Str} {d d' : D} (h : List.lookup y ((x, d) :: ρ) = some d') : (y = x ∧ d' = d) ∨ (y ≠ x ∧ ρ.lookup y = some d') := by
  rw [List.lookup_cons] at h
  cases hb : y == x with
  | true => rw [hb] at h; cases h; exact .inl ⟨beq_iff_eq.mp hb, rfl⟩
  | false => rw [hb] at h; exact .inr ⟨fun e => by rw [e] at hb; simp at hb, h⟩

section
variable {M : Model} {A : Around} {E : Value → Shared → Prop} {s : Shared} {mu : List Addr} {sc : Names} {env : Env} {ρ : Rho}

/-- a store into the frame, whatever the value -/
theorem store_raw {x : Str} {v : Value} {Q : Unit → Shared → Prop} (F : FrIs mu s.heap sc env ρ) (hs : slot sc x = true)
    (hq : ∀ h' tk a, a ∈ mu → Own env sc a → Heap.SameBut a s.heap h' → (∃ o, h'.get? a = some o) → FrIs mu h' sc env (dropN x ρ) → HV sc env h' x v → (∀ z u, z ≠ x → HV sc env s.heap z u → HV sc env h' z u) → Q () { s with heap := h', toks := tk }) :
    wpAny M A (storeName env x v) Q E s := by
  unfold slot at hs
  simp only [Bool.and_eq_true, Bool.or_eq_true, beq_iff_eq] at hs
  obtain ⟨ok, hl | hc⟩ := hs
  · obtain ⟨m, hn, hr⟩ := F.ns
    refine wpAny_storeName_local (F.lk x hl) hn (fun h' hn' hsb => ?_) (by rw [F.fn]; rfl)
    have kb : HKB mu s.heap h' := fun b o hb e => hsb.extBut b o (fun q => hb (by have q' : b = env.locals := q; rw [q']; exact F.lm)) e
    refine hq h' _ env.locals F.lm (.inl rfl) hsb (by obtain ⟨o, _, _, e, _⟩ := hn'; exact ⟨o, e⟩) ⟨⟨F.fn, F.gl, F.bu, F.gk, F.lk, fun y hy => ?_, ?_, fun y d' e c => ?_, fun y d' e => ?_⟩, F.lm, F.cm, F.ap, F.kc⟩ ?_ ?_
    · obtain ⟨a, c, ov, e, i⟩ := F.ck y hy
      exact ⟨a, c, ov, e, i.sameBut hsb (ns_ne_cell hn i)⟩
    · refine ⟨_, hn', fun y d' e l => ?_⟩
      obtain ⟨e, ne⟩ := lookup_dropN e
      obtain ⟨v', a, b⟩ := hr y d' e l
      exact ⟨v', by simpa [ne] using a, b.keep kb⟩
    · obtain ⟨e, ne⟩ := lookup_dropN e
      obtain ⟨c', v', a, b, r⟩ := F.cv y d' e c
      exact ⟨c', v', a, b.sameBut hsb (ns_ne_cell hn b), r.keep kb⟩
    · exact F.nm y d' (lookup_dropN e).1
    · exact .inl ⟨hl, _, hn', by simp⟩
    · intro z u hz q
      rcases q with ⟨l, m2, n2, e⟩ | ⟨l, c, e, i⟩
      · exact .inl ⟨l, _, hn', by rw [ns_same n2 hn z] at e; simpa [hz] using e⟩
      · exact .inr ⟨l, c, e, i.sameBut hsb (ns_ne_cell hn i)⟩
  · obtain ⟨_, c, ov, hcl, hci⟩ := F.ck x (.inl hc)
    obtain ⟨m, hn, hr⟩ := F.ns
    refine wpAny_storeName_cell F.fn (F.kc x hc) hcl hci fun h' hc' hsb => ?_
    have hcm := F.cm x c hc hcl
    have kb : HKB mu s.heap h' := fun b o hb e => hsb.extBut b o (fun q => hb (by have q' : b = c := q; rw [q']; exact hcm)) e
    refine hq h' s.toks c hcm (.inr ⟨x, hc, hcl⟩) hsb (by obtain ⟨o, e, _⟩ := hc'; exact ⟨o, e⟩) ⟨⟨F.fn, F.gl, F.bu, F.gk, F.lk, fun y hy => ?_, ?_, fun y d' e cy => ?_, fun y d' e => ?_⟩, F.lm, F.cm, F.ap, F.kc⟩ ?_ ?_
    · obtain ⟨a, c', ov', e, i⟩ := F.ck y hy
      by_cases hcc : c' = c
      · subst hcc; exact ⟨a, c', _, e, hc'⟩
      · exact ⟨a, c', ov', e, i.sameBut hsb hcc⟩
    · refine ⟨m, hn.sameBut hsb (Ne.symm (ns_ne_cell hn hci)), fun y d' e l => ?_⟩
      obtain ⟨e, ne⟩ := lookup_dropN e
      obtain ⟨v', a, b⟩ := hr y d' e l
      exact ⟨v', a, b.keep kb⟩
    · obtain ⟨e, ne⟩ := lookup_dropN e
      obtain ⟨c', v', a, b, r⟩ := F.cv y d' e cy
      have hcc : c' ≠ c := fun q => ne (F.ap x y c hc cy hcl (q ▸ a)).symm
      exact ⟨c', v', a, b.sameBut hsb hcc, r.keep kb⟩
    · exact F.nm y d' (lookup_dropN e).1
    · exact .inr ⟨.inl hc, c, hcl, hc'⟩
    · intro z u hz q
      rcases q with ⟨l, m2, n2, e⟩ | ⟨l, c2, e, i⟩
      · exact .inl ⟨l, m2, n2.sameBut hsb (Ne.symm (ns_ne_cell hn hci)), e⟩
      · exact .inr ⟨l, c2, e, i.sameBut hsb fun q => hz (F.ap x z c hc l hcl (q ▸ e)).symm⟩

/-- a name more -/
theorem FrIs.bind {h : Heap} {x : Str} {v : Value} {d : D} (F : FrIs mu h sc env (dropN x ρ)) (ok : okName x = true) (hv : HV sc env h x v) (rv : Rep mu h v d) : FrIs mu h sc env ((x, d) :: ρ) := by
  have oth : ∀ y d', y ≠ x → ρ.lookup y = some d' → (dropN x ρ).lookup y = some d' := by
    intro y d' ne
    unfold dropN
    induction ρ with
    | nil => intro h; cases h
    | cons q r ih =>
      intro e
      rw [List.lookup_cons] at e
      by_cases hp : (!(q.1 == x)) = true
      · rw [List.filter_cons_of_pos (p := fun q : Str × D => !(q.1 == x)) hp, List.lookup_cons]
        cases hb : y == q.1 with
        | true => rw [hb] at e; exact e
        | false =>
          rw [hb] at e
          clear F ih
          induction r with
          | nil => cases e
          | cons q2 r2 ih2 =>
            rw [List.lookup_cons] at e
            by_cases hp2 : (!(q2.1 == x)) = true
            · rw [List.filter_cons_of_pos (p := fun q : Str × D => !(q.1 == x)) hp2, List.lookup_cons]
              cases hb2 : y == q2.1 with
              | true => rw [hb2] at e; exact e
              | false => rw [hb2] at e; exact ih2 e
            · rw [List.filter_cons_of_neg (p := fun q : Str × D => !(q.1 == x)) hp2]
              cases hb2 : y == q2.1 with
              | true =>
                have : (q2.1 == x) = true := by simpa using hp2
                exact absurd ((beq_iff_eq.mp hb2).trans (beq_iff_eq.mp this)) ne
              | false => rw [hb2] at e; exact ih2 e
      · rw [List.filter_cons_of_neg (p := fun q : Str × D => !(q.1 == x)) hp]
        cases hb : y == q.1 with
        | true =>
          have : (q.1 == x) = true := by simpa using hp
          exact absurd ((beq_iff_eq.mp hb).trans (beq_iff_eq.mp this)) ne
        | false =>
          rw [hb] at e
          clear F ih
          induction r with
          | nil => cases e
          | cons q2 r2 ih2 =>
            rw [List.lookup_cons] at e
            by_cases hp2 : (!(q2.1 == x)) = true
            · rw [List.filter_cons_of_pos (p := fun q : Str × D => !(q.1 == x)) hp2, List.lookup_cons]
              cases hb2 : y == q2.1 with
              | true => rw [hb2] at e; exact e
              | false => rw [hb2] at e; exact ih2 e
            · rw [List.filter_cons_of_neg (p := fun q : Str × D => !(q.1 == x)) hp2]
              cases hb2 : y == q2.1 with
              | true =>
                have : (q2.1 == x) = true := by simpa using hp2
                exact absurd ((beq_iff_eq.mp hb2).trans (beq_iff_eq.mp this)) ne
              | false => rw [hb2] at e; exact ih2 e
  refine ⟨⟨F.fn, F.gl, F.bu, F.gk, F.lk, F.ck, ?_, fun y d' e c => ?_, fun y d' e => ?_⟩, F.lm, F.cm, F.ap, F.kc⟩
  · obtain ⟨m, hn, hr⟩ := F.ns
    refine ⟨m, hn, fun y d' e l => ?_⟩
    rcases lookup_cons_of e with ⟨rfl, rfl⟩ | ⟨ne, e⟩
    · rcases hv with ⟨_, m2, n2, e2⟩ | ⟨c, _⟩
      · exact ⟨v, by rw [ns_same hn n2]; exact e2, rv⟩
      · rcases c with c | c <;> rw [l] at c <;> cases c
    · exact hr y d' (oth y d' ne e) l
  · rcases lookup_cons_of e with ⟨rfl, rfl⟩ | ⟨ne, e⟩
    · rcases hv with ⟨l, _⟩ | ⟨_, c', e2, i⟩
      · rcases c with c | c <;> rw [l] at c <;> cases c
      · exact ⟨c', v, e2, i, rv⟩
    · exact F.cv y d' (oth y d' ne e) c
  · rcases lookup_cons_of e with ⟨rfl, rfl⟩ | ⟨ne, e⟩
    · exact ⟨ok, hv.elim (fun q => .inl q.1) fun q => .inr q.1⟩
    · exact F.nm y d' (oth y d' ne e)

theorem store_ok {x : Str} {v : Value} {d : D} {Q : Unit → Shared → Prop} (F : FrIs mu s.heap sc env ρ) (hs : slot sc x = true) (rv : Rep mu s.heap v d)
    (hq : ∀ h' tk a, a ∈ mu → Own env sc a → Heap.SameBut a s.heap h' → (∃ o, h'.get? a = some o) → FrIs mu h' sc env ((x, d) :: ρ) → (∀ z u, z ≠ x → HV sc env s.heap z u → HV sc env h' z u) → Q () { s with heap := h', toks := tk }) :
    wpAny M A (storeName env x v) Q E s := by
  refine store_raw F hs fun h' tk a ha ho hsb hx F' hv hz => hq h' tk a ha ho hsb hx (F'.bind ?_ hv (rv.keep fun b o hb e => hsb.extBut b o (fun q => hb (by have q' : b = a := q; rw [q']; exact ha)) e)) hz
  unfold slot at hs
  simp only [Bool.and_eq_true] at hs
  exact hs.1
end

/-- what a value must be to be assigned to a target as d -/
noncomputable def Fits (mu : List Addr) (h : Heap) (t : Expr) (v : Value) (d : D) : Prop :=
  match t with
  | .Tuple .. => ∃ ds T vs, d = .tup ds ∧ v = .ref T ∧ h.IsTuple T vs.toArray ∧ RepAll mu h vs ds
  | _ => Rep mu h v d
theorem fits_of {mu : List Addr} {h : Heap} {t : Expr} {v : Value} {d : D} {sc : Names} {ρ ρ' : Rho} (r : Rep mu h v d) (hb : bindT sc ρ t d = some ρ') : Fits mu h t v d := by
  rcases bindT_inv hb with ⟨x, p, rfl, hs, rfl⟩ | ⟨es, k, p, ds, rfl, rfl, _, h⟩
  · exact r
  · cases r with | tup ha hl hr =>
    exact ⟨_, _, _, rfl, rfl, hl.isTup, hr⟩

/-- the frame's places may change: the rest is kept, and they stand -/
structure Chg (mu : List Addr) (h h' : Heap) : Prop where
  kb : HKB mu h h'
  mi : MuIn mu h → MuIn mu h'
theorem Chg.refl (mu : List Addr) (h : Heap) : Chg mu h h := ⟨fun _ _ _ e => e, id⟩
theorem Chg.trans {mu : List Addr} {a b c : Heap} (x : Chg mu a b) (y : Chg mu b c) : Chg mu a c := ⟨x.kb.trans y.kb, fun m => y.mi (x.mi m)⟩
theorem Chg.ofHK {mu : List Addr} {a b : Heap} (k : HK a b) : Chg mu a b := ⟨k.but, fun m => m.keep k⟩
theorem Chg.ofSame {mu : List Addr} {h h' : Heap} {a : Addr} (ha : a ∈ mu) (hs : Heap.SameBut a h h') (ho : ∃ o, h'.get? a = some o) : Chg mu h h' :=
  ⟨fun b o hb e => hs.extBut b o (fun q => hb (q ▸ ha)) e, fun m b hb => by
    by_cases q : b = a
    · subst q; exact ho
    · obtain ⟨o, e⟩ := m b hb; exact ⟨o, hs.extBut b o q e⟩⟩

section
variable {prog : Program} {w : World} {A : Around} {E : Value → Shared → Prop} {mu : List Addr} {sc : Names} {env : Env}

theorem assignEach_names {sc : Names} (es : List Expr) : ∀ {ds : List D} {ρ ρ' : Rho}, bindTs sc ρ es ds = some ρ' → (assignEach es env).length = ds.length ∧ (assignEach es env).findIdx? (·.1) = none ∧ es.length = ds.length := by
  induction es with
  | nil => intro ds ρ ρ' h; rw [(bindTs_nil h).1]; exact ⟨rfl, rfl, rfl⟩
  | cons e es ih =>
    intro ds ρ ρ' h
    obtain ⟨x, p, d, ds', rfl, rfl, _, h⟩ := bindTs_cons h
    obtain ⟨a, b, c⟩ := ih h
    have e1 : assignEach (.Name x p :: es) env = (false, assign (.Name x p) env) :: assignEach es env := rfl
    refine ⟨by rw [e1, List.length_cons, List.length_cons, a], ?_, by rw [List.length_cons, List.length_cons, c]⟩
    rw [e1, List.findIdx?_cons, b]; rfl

theorem bindTs_some {sc : Names} (es : List Expr) : ∀ (ds : List D) (ρ ρ' : Rho), bindTs sc ρ es ds = some ρ' → ∀ x, (∃ d, ρ.lookup x = some d) → ∃ d, ρ'.lookup x = some d := by
  induction es with
  | nil => intro ds ρ ρ' h x hx; rw [(bindTs_nil h).2]; exact hx
  | cons e es ih =>
    intro ds ρ ρ' h x hx
    obtain ⟨y, p, d, ds', rfl, rfl, _, h⟩ := bindTs_cons h
    refine ih ds' _ ρ' h x ?_
    rw [List.lookup_cons]
    cases hb : x == y with
    | true => exact ⟨_, rfl⟩
    | false => exact hx

/-- the targets one after the other -/
theorem assigns_ok {Q : Unit → Shared → Prop} (es : List Expr) : ∀ (ds : List D) (vs : List Value) (ρ ρ' : Rho) (s : Shared), FrIs mu s.heap sc env ρ → bindTs sc ρ es ds = some ρ' → RepAll mu s.heap vs ds →
    (∀ h' tk, Chg mu s.heap h' → HKO env sc s.heap h' → FrIs mu h' sc env ρ' → (∀ z u, ρ'.lookup z = none → HV sc env s.heap z u → HV sc env h' z u) → Q () { s with heap := h', toks := tk }) →
    wpAny (model prog w) A (assignInOrder ((assignEach es env).map (·.2)) vs) Q E s := by
  induction es with
  | nil =>
    intro ds vs ρ ρ' s F h hr hq
    obtain ⟨rfl, rfl⟩ := bindTs_nil h
    rw [hr.nilv]
    exact wpAny_pure (hq s.heap s.toks (Chg.refl _ _) (fun _ _ _ e => e) F fun _ _ _ q => q)
  | cons e es ih =>
    intro ds vs ρ ρ' s F h hr hq
    obtain ⟨x, p, d0, ds', rfl, rfl, hs, h⟩ := bindTs_cons h
    obtain ⟨v, vs', rfl, hv, hr⟩ := hr.consv
    show wpAny _ _ (do holding _ (assign (.Name x p) env _); assignInOrder ((assignEach es env).map (·.2)) _) _ _ _
    refine wpAny_bind (wpAny_holding (wpAny_assign_Name (store_ok F hs hv fun h' tk a ha hw hsb ho F' hz => ?_)))
    have c1 : Chg mu s.heap h' := Chg.ofSame ha hsb ho
    refine ih _ _ _ _ _ F' h (hr.keep c1.kb) fun h'' tk' c2 o2 F'' hz2 => ?_
    exact hq h'' tk' (c1.trans c2) ((HKO.ofSame hw hsb).trans o2) F'' fun z u hn q => hz2 z u hn (hz z u (fun e => by
      obtain ⟨d2, hd2⟩ := bindTs_some es _ _ _ h x ⟨d0, by rw [List.lookup_cons, BEq.rfl]⟩
      rw [e, hd2] at hn; cases hn) q)

theorem assign_ok {t : Expr} {d : D} {v : Value} {ρ ρ' : Rho} {s : Shared} {Q : Unit → Shared → Prop} (hh : A.handled = none) (F : FrIs mu s.heap sc env ρ) (h : bindT sc ρ t d = some ρ') (hf : Fits mu s.heap t v d)
    (hq : ∀ h' tk, Chg mu s.heap h' → HKO env sc s.heap h' → FrIs mu h' sc env ρ' → (∀ z u, ρ'.lookup z = none → HV sc env s.heap z u → HV sc env h' z u) → Q () { s with heap := h', toks := tk }) :
    wpAny (model prog w) A (assign t env v) Q E s := by
  rcases bindT_inv h with ⟨x, p, rfl, hs, rfl⟩ | ⟨es, k, p, ds, rfl, rfl, _, h⟩
  · exact wpAny_assign_Name (store_ok F hs hf fun h' tk a ha hw hsb ho F' hz => hq h' tk (Chg.ofSame ha hsb ho) (HKO.ofSame hw hsb) F' fun z u hn q => hz z u (fun e => by rw [e, List.lookup_cons, BEq.rfl] at hn; cases hn) q)
  · obtain ⟨ds', T, vs, e1, rfl, hT, hr⟩ := hf
    cases e1
    obtain ⟨a, b, c⟩ := assignEach_names (env := env) es h
    refine wpAny_assign_Tuple hh hT (by rw [a, List.size_toArray, hr.length]) b fun h' he => ?_
    have k1 : HK s.heap h' := fun b o e => he b o (Nat.ne_of_lt (Heap.lt_size e)) e
    refine assigns_ok es _ _ _ _ { s with heap := h' } (F.keep k1) h (hr.keep k1.but) fun h'' tk c2 o2 F'' hz => ?_
    exact hq h'' tk ((Chg.ofHK k1).trans c2) ((HKO.ofHK k1).trans o2) F'' fun z u hn q => hz z u hn (q.keep k1)
end
end Mine

/-! M11 -/

namespace Mine

/-- an iterator that hands out ds to the target t; h the heap ahead of it -/
structure Turns (prog : Program) (w : World) (A : Around) (t : Expr) (mu : List Addr) (h : Heap) (ds : List D) (I : Addr) (fp wr : List Addr) (P Md : Nat → Value → Heap → Prop) (St : Nat → Heap → Prop) (s₂ : Shared) : Prop where
  K : KTurns prog w A t I fp wr ds.length P Md St
  self : ∀ i (s : Shared) (Q : Value → Shared → Prop) (E : Value → Shared → Prop), St i s.heap → Q (.ref I) s → wpAny (model prog w) A (pyIter (.ref I)) Q E s
  st : St 0 s₂.heap
  wn : ∀ b ∈ wr, h.get? b = none
  wi : ∀ i g, St i g → ∀ b ∈ wr, ∃ o, g.get? b = some o
  fm : ∀ b ∈ fp, b ∉ mu
  fi : ∀ b ∈ fp, ∃ o, s₂.heap.get? b = some o
  pv : ∀ nw : List Addr, (∀ b ∈ nw, h.get? b = none) → ∀ i v g, P i v g → HKB (nw ++ mu) h g → ∃ d, ds[i]? = some d ∧ ∀ sc ρ ρ', bindT sc ρ t d = some ρ' → Fits (nw ++ mu) g t v d

noncomputable def TurnsFor (prog : Program) (w : World) (A : Around) (t : Expr) (mu : List Addr) (s : Shared) (ds : List D) (it : Value) (s₂ : Shared) : Prop :=
  Kp s s₂ ∧ ∃ I fp wr P Md St, it = .ref I ∧ Turns prog w A t mu s.heap ds I fp wr P Md St s₂

section
variable {prog : Program} {w : World} {A : Around} {E : Value → Shared → Prop}

theorem letGo_other {t : Expr} {I : Addr} {v : Value} {s : Shared} {o : Obj} {n : String} {Q : Unit → Shared → Prop} (ho : s.heap.get? I = some o) (hc : o.cls = .type n)
    (hn : (["enumerate", "zip", "dict_itemiterator", "dict_reverseitemiterator", "odict_iterator", "itertools.zip_longest", "itertools.pairwise"] : List String).contains n = false) (h : Q () s) :
    wpAny (model prog w) A (letOwnedTupleGo t (.ref I) v) Q E s := by
  have key : wpAny (model prog w) A (match v with
      | .ref a => (do
        let o ← load I
        match o.cls, o.data with
        | .type n, .fields vs =>
          if ["enumerate", "zip", "dict_itemiterator", "dict_reverseitemiterator", "odict_iterator", "itertools.zip_longest", "itertools.pairwise"].contains n && vs[0]? == some (rawInt a) then do
            rule "for.unpacks-the-owned-tuple"
            updateField I 0 .none
        | _, _ => pure ())
      | _ => pure ()) Q E s := by
    cases v with
    | ref a =>
      refine wpAny_bind (wpAny_load ho ?_)
      rw [hc]
      cases hd : o.data with
      | fields vs =>
        dsimp only
        rw [hn]
        exact wpAny_pure h
      | _ => exact wpAny_pure h
    | _ => exact wpAny_pure h
  cases t <;> first | exact wpAny_pure h | (cases v <;> first | exact key | exact wpAny_pure h)

theorem iter_ok {t : Expr} {mu : List Addr} {s : Shared} {v : Value} {d : D} {ds : List D} (hh : A.handled = none) (hm : MuIn mu s.heap) (r : Rep mu s.heap v d) (hi : items d = some ds) (hlen : ds.length < 1000) :
    wpAny (model prog w) A (pyIter v) (TurnsFor prog w A t mu s ds) E s := by
  cases r with
  | none => simp [items] at hi
  | bool => simp [items] at hi
  | int => simp [items] at hi
  | flt => simp [items] at hi
  | @list a vs ds' ha hl hr =>
    simp only [items, Option.some.injEq] at hi
    subst hi
    have hlt : a < s.heap.objs.size := by obtain ⟨o, e, _⟩ := hl; exact Heap.lt_size e
    refine wpAny_pyIter_list hl ⟨Kp.mk' (tk := s.toks) (hk_push _ _), s.heap.objs.size, [s.heap.objs.size, a], [s.heap.objs.size], fun i v _ => vs.toArray[i]? = some v, fun i v h => vs.toArray[i]? = some v ∧ (h.IsListIter s.heap.objs.size a (i + 1) ∧ h.IsList a vs.toArray), fun i h => h.IsListIter s.heap.objs.size a i ∧ h.IsList a vs.toArray, rfl, ?_⟩
    have W := Walks.list (prog := prog) (w := w) hh s.heap.objs.size a (Nat.ne_of_lt hlt) vs.toArray
    refine ⟨?_, W.self, ⟨⟨_, Heap.get?_push_size _ rfl, rfl, rfl⟩, hl.push _⟩, fun b hb => ?_, fun i g st b hb => ?_, fun b hb => ?_, fun b hb => ?_, fun nw hnw i v g hP k => ?_⟩
    · have e : vs.toArray.size = ds'.length := by rw [List.size_toArray, hr.length]
      have := KTurns.ofWalks (target := t) W fun i v s Q E st hq => by
        obtain ⟨o, ho, hc, _⟩ := st.1
        exact letGo_other ho hc (by decide +kernel) hq
      rw [e] at this
      exact this
    · rw [List.mem_singleton.mp hb]; exact new_none _
    · rw [List.mem_singleton.mp hb]; obtain ⟨o, ho, _⟩ := st.1; exact ⟨o, ho⟩
    · rcases List.mem_cons.mp hb with rfl | hb
      · exact hm.new (new_none _)
      · rw [List.mem_singleton.mp hb]; exact ha
    · rcases List.mem_cons.mp hb with rfl | hb
      · exact ⟨_, Heap.get?_push_size _ rfl⟩
      · rw [List.mem_singleton.mp hb]; obtain ⟨o, e, _⟩ := hl; exact ⟨o, Heap.get?_push_of_some _ e⟩
    · obtain ⟨d, hd, rd⟩ := hr.get' (i := i) (v := v) (by simpa using hP)
      refine ⟨d, hd, fun sc ρ ρ' hb => fits_of ?_ hb⟩
      exact (rd.more hnw).keep k
  | @tup a vs ds' ha hl hr =>
    simp only [items, Option.some.injEq] at hi
    subst hi
    have hT : s.heap.IsTuple a vs.toArray := hl.isTup
    have hlt : a < s.heap.objs.size := by obtain ⟨o, e, _⟩ := hT; exact Heap.lt_size e
    refine wpAny_pyIter_tuple hT ⟨Kp.mk' (tk := s.toks) (hk_push _ _), s.heap.objs.size, [s.heap.objs.size, a], [s.heap.objs.size], fun i v _ => vs.toArray[i]? = some v, fun i v h => vs.toArray[i]? = some v ∧ (h.IsTupleIter s.heap.objs.size a (i + 1) ∧ h.IsTuple a vs.toArray), fun i h => h.IsTupleIter s.heap.objs.size a i ∧ h.IsTuple a vs.toArray, rfl, ?_⟩
    have W := Walks.tuple (prog := prog) (w := w) hh s.heap.objs.size a (Nat.ne_of_lt hlt) vs.toArray
    refine ⟨?_, W.self, ⟨⟨_, Heap.get?_push_size _ rfl, rfl, rfl⟩, hT.push _⟩, fun b hb => ?_, fun i g st b hb => ?_, fun b hb => ?_, fun b hb => ?_, fun nw hnw i v g hP k => ?_⟩
    · have e : vs.toArray.size = ds'.length := by rw [List.size_toArray, hr.length]
      have := KTurns.ofWalks (target := t) W fun i v s Q E st hq => by
        obtain ⟨o, ho, hc, _⟩ := st.1
        exact letGo_other ho hc (by decide +kernel) hq
      rw [e] at this
      exact this
    · rw [List.mem_singleton.mp hb]; exact new_none _
    · rw [List.mem_singleton.mp hb]; obtain ⟨o, ho, _⟩ := st.1; exact ⟨o, ho⟩
    · rcases List.mem_cons.mp hb with rfl | hb
      · exact hm.new (new_none _)
      · rw [List.mem_singleton.mp hb]; exact ha
    · rcases List.mem_cons.mp hb with rfl | hb
      · exact ⟨_, Heap.get?_push_size _ rfl⟩
      · rw [List.mem_singleton.mp hb]; obtain ⟨o, e, _⟩ := hT; exact ⟨o, Heap.get?_push_of_some _ e⟩
    · obtain ⟨d, hd, rd⟩ := hr.get' (i := i) (v := v) (by simpa using hP)
      refine ⟨d, hd, fun sc ρ ρ' hb => fits_of ?_ hb⟩
      exact (rd.more hnw).keep k
  | @rng a n t' u v ha hl =>
    simp only [items, Option.some.injEq] at hi
    subst hi
    have hn : n < 1000 := by simpa using hlen
    have hsz : Builtin.Range.rangeSize 0 (n : Int) 1 = (n : Int) := by rw [rangeSize_one]; split <;> omega
    refine wpAny_pyIter_range hl (small_one (by decide) (by decide) (by omega) (by omega)) ⟨Kp.mk' (tk := s.toks) (hk_push _ _), s.heap.objs.size, [s.heap.objs.size], [s.heap.objs.size], fun i v _ => i < n ∧ ∃ t, v = .int (0 + (i : Int) * 1) t, fun i v h => (i < n ∧ ∃ t, v = .int (0 + (i : Int) * 1) t) ∧ IsRangeIter h s.heap.objs.size (0 + ((i + 1 : Nat) : Int) * 1) ((n : Int) - ((i + 1 : Nat) : Int)) 1, fun i h => IsRangeIter h s.heap.objs.size (0 + (i : Nat) * 1) ((n : Int) - (i : Nat)) 1, rfl, ?_⟩
    have W := (Walks.range (prog := prog) (w := w) hh s.heap.objs.size 0 1 n).bound
    refine ⟨?_, W.self, ?_, fun b hb => ?_, fun i g st b hb => ?_, fun b hb => ?_, fun b hb => ?_, fun nw hnw i v g hP k => ?_⟩
    · have e : n = ((List.range n).map fun (i : Nat) => D.int (i : Int)).length := by simp
      have := KTurns.ofWalks (target := t) W fun i v s Q E st hq => letGo_other st rfl (by decide +kernel) hq
      rw [e] at this
      simpa using this
    · show IsRangeIter _ _ _ _ _
      rw [hsz]
      simpa using Heap.get?_push_size _ rfl
    · rw [List.mem_singleton.mp hb]; exact new_none _
    · rw [List.mem_singleton.mp hb]; exact ⟨_, st⟩
    · rw [List.mem_singleton.mp hb]; exact hm.new (new_none _)
    · rw [List.mem_singleton.mp hb]; exact ⟨_, Heap.get?_push_size _ rfl⟩
    · obtain ⟨hin, t'', rfl⟩ := hP
      refine ⟨.int (i : Int), by simp [hin], fun sc ρ ρ' hb => fits_of ?_ hb⟩
      have : (0 + (i : Int) * 1) = (i : Int) := by omega
      rw [this]; exact .int _ _

noncomputable def zipD (as bs : List D) : List D := (as.zip bs).map fun p => .tup [p.1, p.2]
theorem zip_ok {es : List Expr} {kk : Nat} {pos : Pos} {mu : List Addr} {s : Shared} {v1 v2 : Value} {as bs : List D} (hh : A.handled = none) (hm : MuIn mu s.heap) (r1 : Rep mu s.heap v1 (.list as)) (r2 : Rep mu s.heap v2 (.list bs)) :
    wpAny (model prog w) A (call (.type "zip") [v1, v2]) (fun z s₁ => wpAny (model prog w) A (pyIter z) (TurnsFor prog w A (.Tuple es kk pos) mu s (zipD as bs)) E s₁) E s := by
  cases r1 with | @list l1 xs _ ha1 hl1 hr1 =>
  cases r2 with | @list l2 ys _ ha2 hl2 hr2 =>
  have hlt1 : l1 < s.heap.objs.size := by obtain ⟨o, e, _⟩ := hl1; exact Heap.lt_size e
  have hlt2 : l2 < s.heap.objs.size := by obtain ⟨o, e, _⟩ := hl2; exact Heap.lt_size e
  have Dd : ZipApart (s.heap.objs.size + 4) (s.heap.objs.size + 2) (s.heap.objs.size + 3) s.heap.objs.size (s.heap.objs.size + 1) l1 l2 := ktu_apart _ _ _ hlt1 hlt2
  have nn : ∀ k : Nat, s.heap.get? (s.heap.objs.size + k) = none := fun k => by
    cases q : s.heap.get? (s.heap.objs.size + k) with
    | none => rfl
    | some o => exact absurd (Heap.lt_size q) (Nat.not_lt.mpr (Nat.le_add_right _ _))
  have nw : ∀ b ∈ [s.heap.objs.size + 4, s.heap.objs.size + 3, s.heap.objs.size, s.heap.objs.size + 1], s.heap.get? b = none := fun b hb => by
    simp only [List.mem_cons, List.not_mem_nil, or_false] at hb
    rcases hb with rfl | rfl | rfl | rfl
    · exact nn 4
    · exact nn 3
    · exact nn 0
    · exact nn 1
  refine call_zip_2 hl1 hl2 fun h' hz hTI hTO hi1 hi2 hsz hk => ?_
  have W := WalksT.zip2 (prog := prog) (w := w) hh _ _ _ _ _ _ _ Dd xs.toArray ys.toArray
  have e : min xs.toArray.size ys.toArray.size = (zipD as bs).length := by simp [zipD, hr1.length, hr2.length]
  have Kt := KTurns.ofWalksU (elts := es) (k := kk) (pos := pos) W.toU
  rw [e] at Kt
  refine wpAny_pyIter_zip hz ⟨Kp.mk' (tk := s.toks) hk, _, _, _, _, _, _, rfl, Kt, W.self, ?_, nw, ?_, ?_, ?_, ?_⟩
  · exact ⟨hz, hTI, ⟨_, _, hTO⟩, hi1, hi2, hl1.at fun o e => hk _ o e, hl2.at fun o e => hk _ o e⟩
  · rintro i g ⟨gz, gTI, ⟨a, b, gTO⟩, ⟨o1, g1, _⟩, ⟨o2, g2, _⟩, _⟩ c hc
    simp only [List.mem_cons, List.not_mem_nil, or_false] at hc
    rcases hc with rfl | rfl | rfl | rfl
    · exact ⟨_, gz⟩
    · exact ⟨_, gTO⟩
    · exact ⟨_, g1⟩
    · exact ⟨_, g2⟩
  · intro b hb
    simp only [List.mem_cons, List.not_mem_nil, or_false] at hb
    rcases hb with rfl | rfl | rfl | rfl | rfl | rfl | rfl
    · exact hm.new (nn 4)
    · exact hm.new (nn 2)
    · exact hm.new (nn 3)
    · exact hm.new (nn 0)
    · exact hm.new (nn 1)
    · exact ha1
    · exact ha2
  · intro b hb
    simp only [List.mem_cons, List.not_mem_nil, or_false] at hb
    rcases hb with rfl | rfl | rfl | rfl | rfl | rfl | rfl
    · exact ⟨_, hz⟩
    · exact ⟨_, hTI⟩
    · exact ⟨_, hTO⟩
    · obtain ⟨o, e, _⟩ := hi1; exact ⟨o, e⟩
    · obtain ⟨o, e, _⟩ := hi2; exact ⟨o, e⟩
    · obtain ⟨o, e, _⟩ := hl1; exact ⟨o, hk _ o e⟩
    · obtain ⟨o, e, _⟩ := hl2; exact ⟨o, hk _ o e⟩
  · rintro nw' hnw' i v g ⟨T, vals, rfl, ⟨x, y, hx, hy, rfl⟩, hT⟩ k
    obtain ⟨d1, hd1, q1⟩ := hr1.get' (i := i) (v := x) (by simpa using hx)
    obtain ⟨d2, hd2, q2⟩ := hr2.get' (i := i) (v := y) (by simpa using hy)
    refine ⟨.tup [d1, d2], ?_, fun sc ρ ρ' hb => ?_⟩
    · simp [zipD, List.getElem?_zip_eq_some, hd1, hd2]
    · exact ⟨_, T, [x, y], rfl, rfl, hT, .cons ((q1.more hnw').keep k) (.cons ((q2.more hnw').keep k) .nil)⟩
end
end Mine

/-! M12 -/

namespace Mine

/-! names of a block -/
theorem nodup_mem : ∀ {l : Names} {x : Str} {k : NameKind}, nodupN l = true → (x, k) ∈ l → l.lookup x = some k
  | (y, k') :: r, x, k, hn, hm => by
    simp only [nodupN, Bool.and_eq_true, Bool.not_eq_true'] at hn
    rw [List.lookup_cons]
    rcases List.mem_cons.mp hm with e | hm
    · cases e; simp
    · have : (x == y) = false := by
        cases hb : x == y with
        | false => rfl
        | true =>
          have e : x = y := beq_iff_eq.mp hb
          have : (r.any fun q => y == q.1) = true := List.any_eq_true.mpr ⟨(x, k), hm, by rw [e]; simp⟩
          rw [this] at hn; exact absurd hn.1 (by decide)
      rw [this]
      exact nodup_mem hn.2 hm
theorem mem_of_lookupN {α : Type} {l : List (Str × α)} {x : Str} {k : α} (h : l.lookup x = some k) : (x, k) ∈ l := mem_of_lookup h

theorem lookup_filter {ρ : Rho} {p : Str → Bool} {x : Str} {d : D} : (ρ.filter fun q => p q.1).lookup x = some d → ρ.lookup x = some d ∧ p x = true := by
  induction ρ with
  | nil => intro h; cases h
  | cons q r ih =>
    intro h
    by_cases hp : p q.1 = true
    · rw [List.filter_cons_of_pos (p := fun q : Str × D => p q.1) hp, List.lookup_cons] at h
      rw [List.lookup_cons]
      cases hb : x == q.1 with
      | true => rw [hb] at h; rw [beq_iff_eq.mp hb]; exact ⟨h, hp⟩
      | false => rw [hb] at h; exact ih h
    · rw [List.filter_cons_of_neg (p := fun q : Str × D => p q.1) hp] at h
      have h2 := ih h
      rw [List.lookup_cons]
      cases hb : x == q.1 with
      | true => rw [beq_iff_eq.mp hb] at h2; exact absurd h2.2 hp
      | false => exact h2

theorem lookup_map_kind (g : Str → NameKind → NameKind) : ∀ (l : Names) (x : Str), (l.map fun p => (p.1, g p.1 p.2)).lookup x = (l.lookup x).map (g x)
  | [], _ => rfl
  | (y, k) :: r, x => by
    rw [List.map_cons, List.lookup_cons, List.lookup_cons]
    cases hb : x == y with
    | true => rw [beq_iff_eq.mp hb]; rfl
    | false => exact lookup_map_kind g r x
theorem kind_relabel (scope : Scope) (env : Env) (x : Str) :
    (relabel scope env).names.lookup x = (scope.names.lookup x).map fun k => if (k == NameKind.free && env.scope.kind == .function && env.kindOf x == some .cell) = true then .cell else k := by
  have e : (relabel scope env).names = scope.names.map fun p => (p.1, (fun x k => if (k == NameKind.free && env.scope.kind == .function && env.kindOf x == some .cell) = true then NameKind.cell else k) p.1 p.2) := by
    unfold relabel
    dsimp only
    refine List.map_congr_left fun p _ => ?_
    obtain ⟨n, k⟩ := p
    dsimp only
    split <;> simp_all
  rw [e]
  exact lookup_map_kind (fun x k => if (k == NameKind.free && env.scope.kind == .function && env.kindOf x == some .cell) = true then NameKind.cell else k) scope.names x

/-! the closure -/
noncomputable def closL (env : Env) : Names → List (Str × Addr) → List (Str × Addr)
  | [], acc => acc
  | (x, k) :: r, acc => closL env r (if k == NameKind.free then (x, (env.cells.lookup x).getD 0) :: acc else acc)
theorem clos_loop {env : Env} (f : Str × NameKind → List (Str × Addr) → Sem (ForInStep (List (Str × Addr))))
    (hf : ∀ name kind cs, f (name, kind) cs = if kind == NameKind.free then (do let a ← cellOf env name; pure (ForInStep.yield ((name, a) :: cs))) else pure (ForInStep.yield cs)) :
    ∀ (l : Names) (acc : List (Str × Addr)), (∀ x, (x, NameKind.free) ∈ l → ∃ c, env.cells.lookup x = some c) → forIn l acc f = pure (closL env l acc) := by
  intro l
  induction l with
  | nil => intro acc _; rfl
  | cons p r ih =>
    intro acc hl
    obtain ⟨x, k⟩ := p
    rw [List.forIn_cons, hf]
    have hr := fun y hy => hl y (List.mem_cons_of_mem _ hy)
    by_cases hk : (k == NameKind.free) = true
    · have ek : k = .free := by cases k <;> first | rfl | cases hk
      obtain ⟨c, hc⟩ := hl x (by rw [ek]; exact List.mem_cons_self)
      have e : cellOf env x = pure c := by unfold cellOf; rw [hc]
      rw [if_pos hk, e, pure_bind, pure_bind]
      dsimp only
      rw [ih _ hr]
      simp [closL, hk, hc]
    · rw [if_neg hk, pure_bind]
      dsimp only
      rw [ih _ hr]
      simp [closL, hk]
theorem closureFor_eq {scope : Scope} {env : Env} (h : ∀ x, (x, NameKind.free) ∈ scope.names → ∃ c, env.cells.lookup x = some c) : closureFor scope env = pure (closL env scope.names []) := by
  unfold closureFor
  dsimp only
  rw [clos_loop _ (fun name kind cs => by cases hkc : kind == NameKind.free <;> simp [hkc]) scope.names [] h]
  rfl
theorem closL_spec {env : Env} : ∀ (l : Names) (acc : List (Str × Addr)) (x : Str), (closL env l acc).lookup x = if (x, NameKind.free) ∈ l then some ((env.cells.lookup x).getD 0) else acc.lookup x
  | [], acc, x => by simp [closL]
  | (y, k) :: r, acc, x => by
    rw [closL, closL_spec r _ x]
    by_cases hr : (x, NameKind.free) ∈ r
    · rw [if_pos hr, if_pos (List.mem_cons_of_mem _ hr)]
    · rw [if_neg hr]
      by_cases hk : k = .free
      · subst hk
        simp only [beq_self_eq_true, if_true, List.lookup_cons]
        cases hb : x == y with
        | true => rw [beq_iff_eq.mp hb, if_pos List.mem_cons_self]
        | false =>
          rw [if_neg]
          intro hm
          rcases List.mem_cons.mp hm with e | e
          · cases e; simp at hb
          · exact hr e
      · have hk' : (k == NameKind.free) = false := by cases k <;> first | rfl | exact absurd rfl hk
        rw [hk', if_neg (by decide), if_neg]
        intro hm
        rcases List.mem_cons.mp hm with e | e
        · cases e; exact hk rfl
        · exact hr e

/-! the cells -/
theorem cellsFrom_acc : ∀ (l : Names) (n : Nat) (acc : List (Str × Addr)), cellsFrom n l acc = cellsFrom n l [] ++ acc
  | [], _, acc => by simp [cellsFrom]
  | (x, k) :: r, n, acc => by
    unfold cellsFrom
    split
    · rw [cellsFrom_acc r (n + 1) ((x, n) :: acc), cellsFrom_acc r (n + 1) [(x, n)]]; simp
    · exact cellsFrom_acc r n acc
theorem cellsFrom_mem : ∀ (l : Names) (n : Nat) (x : Str) (c : Addr), (x, c) ∈ cellsFrom n l [] → (x, NameKind.cell) ∈ l
  | [], _, _, _, h => by simp [cellsFrom] at h
  | (y, k) :: r, n, x, c, h => by
    unfold cellsFrom at h
    split at h
    · rename_i hk
      rw [cellsFrom_acc] at h
      rcases List.mem_append.mp h with h | h
      · exact List.mem_cons_of_mem _ (cellsFrom_mem r _ x c h)
      · have e := List.mem_singleton.mp h
        cases e
        have ek : k = .cell := by cases k <;> first | rfl | cases hk
        rw [ek]; exact List.mem_cons_self
    · exact List.mem_cons_of_mem _ (cellsFrom_mem r _ x c h)
theorem lookup_append {α : Type} (a b : List (Str × α)) (x : Str) : (a ++ b).lookup x = (a.lookup x).or (b.lookup x) := by
  induction a with
  | nil => simp
  | cons p r ih =>
    obtain ⟨y, v⟩ := p
    rw [List.cons_append, List.lookup_cons, List.lookup_cons]
    cases hb : x == y with
    | true => rfl
    | false => exact ih

section
variable {M : Model} {A : Around} {E : Value → Shared → Prop} {s : Shared}
theorem newComp {scope : Scope} {g : Addr} {cl : List (Str × Addr)} {q : Str} {env : Env} {Q : Env → Shared → Prop}
    (h : ∀ h', HK s.heap h' → h'.Ns s.heap.objs.size (fun _ => none) → CellsOk h' (s.heap.objs.size + 1) (cellsFrom (s.heap.objs.size + 1) scope.names []) →
      Q { scope, locals := s.heap.objs.size, globals := g, cells := cellsFrom (s.heap.objs.size + 1) scope.names [] ++ cl, qual := q, func := none, code := env.code, frame := env.frame, builtins := env.builtins } { s with heap := h' }) :
    wpAny M A (newFunctionEnv scope g cl [] q none .none (some env)) Q E s := by
  simp only [newFunctionEnv, Option.isSome_some, if_true]
  refine wpAny_bind (wpAny_alloc ?_)
  refine wpAny_bind (wpAny_layCells _ (fun name kind cells => by cases hkc : kind == NameKind.cell <;> simp [hkc]) _ _ _ _ ?_)
  have ok := cellsFrom_ok scope.names (s.heap.push { cls := .type "dict", data := .dict #[] }) (s.heap.objs.size + 1) [] ⟨fun _ _ hm => (nomatch hm), List.Pairwise.nil⟩ (by rw [Heap.size_push]; exact Nat.le_refl _)
  rw [Heap.size_push] at ok
  rw [show ({ s with heap := s.heap.push { cls := .type "dict", data := .dict #[] } } : Shared).heap.objs.size = s.heap.objs.size + 1 from Heap.size_push .., cellsFrom_acc]
  refine wpAny_bind ?_
  rw [List.forIn_nil]
  refine wpAny_pure (wpAny_pure ?_)
  exact h _ (fun b o e => pushCells_keeps _ _ b o (Heap.get?_push_of_some _ e)) ((Heap.Ns.new s.heap (.type "dict")).keeps (pushCells_keeps _ _)) ok
end
end Mine

/-! M13 -/

namespace Mine

section
variable {prog : Program} {w : World} {A : Around} {s : Shared} {R : Result → Shared → Prop}
theorem compLoop_any {elt target iter : Expr} {ifs : List Expr} {scope : Scope} {pos : Pos} {it acc : Value} {env : Env} (I : Nat → Shared → Prop)
    (turn : ∀ n s, I n s → wpAny (model prog w) A (pyNext it) (fun r s₁ => match r with
      | none => R (.ok .next) s₁
      | some v => wpAny (model prog w) A (letOwnedTupleGo target it v) (fun _ s₁' => wpAny (model prog w) A (assign target env v) (fun _ s₂ =>
          wpAny (model prog w) A (forIn ifs true fun c r => if r = true then do let ok ← isTrue c env (eval c env); pure (ForInStep.yield ok) else pure (ForInStep.yield r)) (fun ok s₃ =>
            if ok = true then wpAny (model prog w) A (eval elt env) (fun x s₄ =>
              wpAny (model prog w) A (call (.builtin "list.append") [acc, x]) (fun _ s₅ => ∃ m, m < n ∧ I m s₅) (notedBy (model prog w) A env fun e s' => R (.error e) s') s₄) (notedBy (model prog w) A env fun e s' => R (.error e) s') s₃
            else ∃ m, m < n ∧ I m s₃) (notedBy (model prog w) A env fun e s' => R (.error e) s') s₂) (notedBy (model prog w) A env fun e s' => R (.error e) s') s₁') (notedBy (model prog w) A env fun e s' => R (.error e) s') s₁) (notedBy (model prog w) A env fun e s' => R (.error e) s') s)
    (n : Nat) (h : I n s) :
    codeAny (model prog w) A (.compLoop (.ListComp elt [⟨target, iter, ifs, 0⟩] scope pos) 0 it acc env) R s := by
  refine codeAny_loop rfl I (fun n s hI => ?_) n h
  show wpAny _ A ((compTurn (.ListComp elt [⟨target, iter, ifs, 0⟩] scope pos) 0 it acc env).onRaise (fun x => do noteFrame x env; theTreesLotGoes x)) _ _ s
  refine wpAny_noted ?_
  rw [compTurn_list]
  refine wpAny_bind (wpAny_standAt (wpAny_bind (wpAny_mono (turn n s hI) (fun r s₁ h₁ => ?_) fun _ _ h' => h')))
  cases r with
  | none => exact wpAny_pure h₁
  | some v =>
    refine wpAny_bind (wpAny_mono h₁ (fun _ s₁' h₁' => ?_) fun _ _ h' => h')
    refine wpAny_bind (wpAny_mono h₁' (fun _ s₂ h₂ => wpAny_bind (wpAny_mono h₂ (fun ok s₃ h₃ => ?_) fun _ _ h' => h')) fun _ _ h' => h')
    cases ok with
    | false => exact wpAny_pure ⟨rfl, h₃⟩
    | true =>
      exact wpAny_bind (wpAny_bind (wpAny_mono h₃ (fun x s₄ h₄ => wpAny_bind (wpAny_mono h₄ (fun _ s₅ h₅ => wpAny_pure (wpAny_pure ⟨rfl, h₅⟩)) fun _ _ h' => h')) fun _ _ h' => h'))
end

/-- the block of a comprehension -/
noncomputable def compEnv' (scope : Scope) (env : Env) (C : Addr) (cl : List (Str × Addr)) : Env :=
  { scope := relabel scope env, locals := C, globals := env.globals, cells := cellsFrom (C + 1) scope.names [] ++ cl, qual := env.qual, func := none, code := env.code, frame := env.frame, builtins := env.builtins }

/-- the addresses of its own cells -/
noncomputable def cellAddrs (scope : Scope) (C : Addr) : List Addr := (cellsFrom (C + 1) scope.names []).map (·.2)

theorem compOk_free {sc : Names} {scope : Scope} (h : compOk sc scope = true) {x : Str} (hx : (x, NameKind.free) ∈ scope.names) : InCell sc x := by
  unfold compOk at h
  simp only [Bool.and_eq_true] at h
  have := List.all_eq_true.mp h.2 _ hx
  simp only [Bool.or_eq_true, beq_iff_eq] at this
  exact this
theorem compOk_nodup {sc : Names} {scope : Scope} (h : compOk sc scope = true) : nodupN scope.names = true := by
  unfold compOk at h
  simp only [Bool.and_eq_true] at h
  exact h.1.2
theorem compOk_kind {sc : Names} {scope : Scope} (h : compOk sc scope = true) : scope.kind = .function := by
  unfold compOk at h
  simp only [Bool.and_eq_true, beq_iff_eq] at h
  exact h.1.1

theorem comp_cells {scope : Scope} {C : Addr} {cl : List (Str × Addr)} (hn : nodupN scope.names = true) {x : Str} (hx : scope.names.lookup x ≠ some .cell) : (cellsFrom (C + 1) scope.names [] ++ cl).lookup x = cl.lookup x := by
  rw [lookup_append]
  cases h : (cellsFrom (C + 1) scope.names []).lookup x with
  | none => rfl
  | some c => exact absurd (nodup_mem hn (cellsFrom_mem _ _ _ _ (mem_of_lookup h))) hx

/-- the frame of a comprehension as it opens -/
theorem comp_fr {mu : List Addr} {h h' : Heap} {sc : Names} {env : Env} {ρ : Rho} {scope : Scope} {C : Addr} {nw : List Addr} (E : EnvIs mu h sc env ρ) (ok : compOk sc scope = true) (k : HK h h') (hns : h'.Ns C (fun _ => none))
    (hc : CellsOk h' (C + 1) (cellsFrom (C + 1) scope.names [])) (hlo : ∀ b, C ≤ b → h.get? b = none) (hnw : ∀ b ∈ nw, h.get? b = none) (hC : C ∈ nw) (hcs : ∀ b ∈ cellAddrs scope C, b ∈ nw) :
    FrIs (nw ++ mu) h' scope.names (compEnv' scope env C (closL env scope.names [])) (ρ.filter fun p => scope.names.lookup p.1 == some .free) := by
  have hnd := compOk_nodup ok
  have kd : ∀ x, (compEnv' scope env C (closL env scope.names [])).kindOf x = (scope.names.lookup x).map fun k => if (k == NameKind.free && env.scope.kind == .function && env.kindOf x == some .cell) = true then .cell else k := fun x => kind_relabel scope env x
  have own : ∀ x, scope.names.lookup x = some .cell → ∃ c, (cellsFrom (C + 1) scope.names [] ++ closL env scope.names []).lookup x = some c ∧ (x, c) ∈ cellsFrom (C + 1) scope.names [] := fun x hx => by
    have := cellsFrom_some scope.names (C + 1) [] (x := x) (.inl hx)
    obtain ⟨c, hc⟩ := Option.isSome_iff_exists.mp this
    exact ⟨c, by rw [lookup_append, hc]; rfl, mem_of_lookup hc⟩
  have fre : ∀ x, scope.names.lookup x = some .free → (cellsFrom (C + 1) scope.names [] ++ closL env scope.names []).lookup x = some ((env.cells.lookup x).getD 0) := fun x hx => by
    rw [comp_cells hnd (by rw [hx]; decide), closL_spec, if_pos (mem_of_lookup hx)]
  have fout : ∀ x, scope.names.lookup x = some .free → InCell sc x := fun x hx => compOk_free ok (mem_of_lookup hx)
  refine ⟨⟨?_, E.gl, E.bu, fun x hx => ?_, fun x hx => ?_, fun x hx => ?_, ⟨_, hns, fun x d e l => ?_⟩, fun x d e c => ?_, fun x d e => ?_⟩, ?_, fun x c hx e => ?_, fun x y c hx hy e1 e2 => ?_, fun x hx => ?_⟩
  · show scope.kind = .function; exact compOk_kind ok
  · rw [kd, hx]; rfl
  · rw [kd, hx]; rfl
  · rcases hx with hx | hx
    · obtain ⟨c, e, m⟩ := own x hx
      exact ⟨.inl (by rw [kd, hx]; rfl), c, none, e, (hc.empty x c m).1⟩
    · obtain ⟨_, c, ov, e, i⟩ := E.ck x (fout x hx)
      refine ⟨?_, c, ov, ?_, i.keeps k⟩
      · rw [kd, hx]
        simp only [Option.map_some]
        split
        · exact .inl rfl
        · exact .inr rfl
      · show (cellsFrom (C + 1) scope.names [] ++ closL env scope.names []).lookup x = some c
        rw [fre x hx, e]; rfl
  · have := (lookup_filter (p := fun y => scope.names.lookup y == some .free) e).2
    rw [beq_iff_eq.mp this] at l; cases l
  · obtain ⟨e1, e2⟩ := lookup_filter (p := fun y => scope.names.lookup y == some .free) e
    have hf := beq_iff_eq.mp e2
    obtain ⟨c', v, a, b, r⟩ := E.cv x d e1 (fout x hf)
    refine ⟨c', v, ?_, b.keeps k, (r.more hnw).keep k.but⟩
    show (cellsFrom (C + 1) scope.names [] ++ closL env scope.names []).lookup x = some c'
    rw [fre x hf, a]; rfl
  · obtain ⟨e1, e2⟩ := lookup_filter (p := fun y => scope.names.lookup y == some .free) e
    exact ⟨(E.nm x d e1).1, .inr (.inr (beq_iff_eq.mp e2))⟩
  · exact List.mem_append_left _ hC
  · obtain ⟨c', e', m⟩ := own x hx
    have : c' = c := by
      have e2 : (cellsFrom (C + 1) scope.names [] ++ closL env scope.names []).lookup x = some c := e
      rw [e'] at e2; exact Option.some.inj e2
    subst this
    exact List.mem_append_left _ (hcs _ (List.mem_map.mpr ⟨_, m, rfl⟩))
  · obtain ⟨c', e', m⟩ := own x hx
    have ec : c' = c := by
      have e2 : (cellsFrom (C + 1) scope.names [] ++ closL env scope.names []).lookup x = some c := e1
      rw [e'] at e2; exact Option.some.inj e2
    subst ec
    rcases hy with hy | hy
    · obtain ⟨c2, e3, m2⟩ := own y hy
      have ec : c2 = c' := by
        have e4 : (cellsFrom (C + 1) scope.names [] ++ closL env scope.names []).lookup y = some c' := e2
        rw [e3] at e4; exact Option.some.inj e4
      subst ec
      exact name_of_addr hc.apart m m2
    · have e4 : (cellsFrom (C + 1) scope.names [] ++ closL env scope.names []).lookup y = some c' := e2
      obtain ⟨_, c3, ov, e5, i⟩ := E.ck y (fout y hy)
      rw [fre y hy, e5] at e4
      have : c3 = c' := Option.some.inj e4
      subst this
      have hge := (hc.empty x c3 m).2
      obtain ⟨o, ho, _⟩ := i
      rw [hlo c3 (Nat.le_of_succ_le hge)] at ho; cases ho
  · rw [kd, hx]; rfl

/-- what is bound later does not hide the outer names -/
theorem slot_off {sc : Names} {x y : Str} {d : D} {ρ : Rho} (hy : sc.lookup y = some .free) (hs : slot sc x = true) : List.lookup y ((x, d) :: ρ) = ρ.lookup y := by
  rw [List.lookup_cons]
  cases hb : y == x with
  | false => rfl
  | true =>
    rw [beq_iff_eq.mp hb] at hy
    unfold slot at hs
    rw [hy, Bool.and_eq_true] at hs
    exact absurd hs.2 (by decide)
theorem bindTs_free {sc : Names} {y : Str} {e : D} (hy : sc.lookup y = some .free) (es : List Expr) : ∀ (ds : List D) (ρ ρ' : Rho), bindTs sc ρ es ds = some ρ' → ρ.lookup y = some e → ρ'.lookup y = some e := by
  induction es with
  | nil => intro ds ρ ρ' h he; rw [(bindTs_nil h).2]; exact he
  | cons t es ih =>
    intro ds ρ ρ' h he
    obtain ⟨x, p, d, ds', rfl, rfl, hs, h⟩ := bindTs_cons h
    refine ih ds' _ ρ' h ?_
    rw [slot_off hy hs]; exact he
theorem bindT_free {sc : Names} {ρ ρ' : Rho} {t : Expr} {d e : D} {y : Str} (h : bindT sc ρ t d = some ρ') (hy : sc.lookup y = some .free) (he : ρ.lookup y = some e) : ρ'.lookup y = some e := by
  rcases bindT_inv h with ⟨x, p, rfl, hs, rfl⟩ | ⟨es, k, p, ds, rfl, rfl, _, h⟩
  · rw [slot_off hy hs]; exact he
  · exact bindTs_free hy _ _ _ _ h he
theorem FrIs.sub {mu : List Addr} {h : Heap} {sc : Names} {env : Env} {ρ ρ' : Rho} (F : FrIs mu h sc env ρ') (hs : ∀ y e, ρ.lookup y = some e → ρ'.lookup y = some e) : FrIs mu h sc env ρ :=
  ⟨⟨F.fn, F.gl, F.bu, F.gk, F.lk, F.ck, let ⟨m, n, r⟩ := F.ns; ⟨m, n, fun x d e l => r x d (hs x d e) l⟩, fun x d e c => F.cv x d (hs x d e) c, fun x d e => F.nm x d (hs x d e)⟩, F.lm, F.cm, F.ap, F.kc⟩
/-- a change off the frame's own places -/
theorem FrIs.chg {mu wr : List Addr} {h h' : Heap} {sc : Names} {env : Env} {ρ : Rho} (F : FrIs mu h sc env ρ) (k : HKB wr h h') (hw : ∀ b ∈ wr, b ∈ mu) (hL : env.locals ∉ wr) (hC : ∀ x c, InCell sc x → env.cells.lookup x = some c → c ∉ wr) : FrIs mu h' sc env ρ := by
  have kb : HKB mu h h' := k.mono hw
  refine ⟨⟨F.fn, F.gl, F.bu, F.gk, F.lk, fun x hx => ?_, ?_, fun x d e c => ?_, F.nm⟩, F.lm, F.cm, F.ap, F.kc⟩
  · obtain ⟨a, c, ov, e, o, ho, hd⟩ := F.ck x hx
    exact ⟨a, c, ov, e, o, k c o (hC x c hx e) ho, hd⟩
  · obtain ⟨m, ⟨o, es, ep, ho, r⟩, q⟩ := F.ns
    exact ⟨m, ⟨o, es, ep, k _ o hL ho, r⟩, fun x d e l => let ⟨v, a, b⟩ := q x d e l; ⟨v, a, b.keep kb⟩⟩
  · obtain ⟨c', v, a, ⟨o, ho, hd⟩, r⟩ := F.cv x d e c
    exact ⟨c', v, a, ⟨o, k c' o (hC x c' c a) ho, hd⟩, r.keep kb⟩
end Mine

/-! M14 -/

namespace Mine

/-- one turn of a comprehension, pure -/
noncomputable def compF (Φ : Str → List D → Option D) (n : Nat) (scope : Scope) (target : Expr) (ifs : List Expr) (elt : Expr) (ρ : Rho) (d : D) : Option (Option D) :=
  (bindT scope.names (ρ.filter fun p => scope.names.lookup p.1 == some .free) target d).bind fun ρ1 =>
    (tests (ev Φ n scope.names ρ1) ifs).bind fun ok => if ok then (ev Φ n scope.names ρ1 elt).map some else some none

section
variable {G : Gl} {j : Nat} {Φ : Str → List D → Option D} {n : Nat}

theorem tests_ok (IT : IsTOk G j Φ n) {sc : Names} {env : Env} {ρ : Rho} {mu : List Addr} {A : Around} (hA : AOk j A) (ifs : List Expr) : ∀ (s : Shared) (b : Bool), Gd G s.heap → MuIn mu s.heap → EnvIs mu s.heap sc env ρ → tests (ev Φ n sc ρ) ifs = some b →
    wpAny (model G.prog G.w) A (forIn ifs true fun c r => if r = true then do let ok ← isTrue c env (eval c env); pure (ForInStep.yield ok) else pure (ForInStep.yield r)) (fun r s' => r = b ∧ Kp s s') Nope s := by
  have fls : ∀ (l : List Expr) (s : Shared) (Q : Bool → Shared → Prop), Q false s → wpAny (model G.prog G.w) A (forIn l false fun c r => if r = true then do let ok ← isTrue c env (eval c env); pure (ForInStep.yield ok) else pure (ForInStep.yield r)) Q Nope s := by
    intro l
    induction l with
    | nil => intro s Q hq; rw [List.forIn_nil]; exact wpAny_pure hq
    | cons c r ih =>
      intro s Q hq
      rw [List.forIn_cons]
      simp only [Bool.false_eq_true, if_false]
      exact wpAny_bind (wpAny_pure (ih s Q hq))
  induction ifs with
  | nil =>
    intro s b hG hM hE h
    simp only [tests, Option.some.injEq] at h
    subst h
    rw [List.forIn_nil]
    exact wpAny_pure ⟨rfl, Kp.refl _⟩
  | cons c r ih =>
    intro s b hG hM hE h
    rw [List.forIn_cons]
    simp only [if_true]
    rw [tests] at h
    split at h
    · rename_i hc
      refine wpAny_bind (wpAny_bind (nope (IT c sc env ρ mu A s _ hA hG hM hE hc) fun q s₁ h₁ => ?_))
      obtain ⟨rfl, k⟩ := h₁
      refine wpAny_pure ?_
      exact nope (ih s₁ b (hG.keep k.hk) (hM.keep k.hk) (hE.keep k.hk) h) fun q s₂ h₂ => ⟨h₂.1, k.trans h₂.2⟩
    · rename_i hc
      cases h
      refine wpAny_bind (wpAny_bind (nope (IT c sc env ρ mu A s _ hA hG hM hE hc) fun q s₁ h₁ => ?_))
      obtain ⟨rfl, k⟩ := h₁
      refine wpAny_pure ?_
      exact fls r s₁ _ ⟨rfl, k⟩
    · cases h

theorem comp_block (IH : EvOk G j Φ n) (IT : IsTOk G j Φ n) {elt target iter : Expr} {ifs : List Expr} {scope : Scope} {pos : Pos} {sc : Names} {env : Env} {ρ : Rho} {mu : List Addr} {A : Around} {s₁ s₂ : Shared} {ds out : List D} {I : Addr} {fp wr : List Addr} {P Md : Nat → Value → Heap → Prop} {St : Nat → Heap → Prop}
    (hA : AOk j A) (hG : Gd G s₁.heap) (hM : MuIn mu s₁.heap) (hE : EnvIs mu s₁.heap sc env ρ) (k12 : Kp s₁ s₂)
    (T : Turns G.prog G.w A target mu s₁.heap ds I fp wr P Md St s₂) (ok : compOk sc scope = true) (hlen : ds.length < 1000)
    (hc : compL (compF Φ n scope target ifs elt ρ) ds = some out) {RR : Value → Addr → Result → Shared → Prop} {E : Value → Shared → Prop}
    (hRR : ∀ D C nw h' tk m' ys, (∀ b ∈ nw, s₁.heap.get? b = none) → D ∈ nw → C ∈ nw → D ≠ C → HK s₁.heap h' → h'.Ns C m' → (∃ e, h'.get? D = some { cls := .type "list", data := .seq ys.toArray e }) → RepAll (nw ++ mu) h' ys out → RR (.ref D) C (.ok .next) { s₂ with heap := h', toks := tk }) :
    wpAny (model G.prog G.w) A (newList []) (fun acc s₃ => wpAny (model G.prog G.w) A (newFunctionEnv scope env.globals (closL env scope.names []) [] env.qual none .none (some env)) (fun cenv s₄ =>
      codeAny (model G.prog G.w) A (.compStart (.ListComp elt [⟨target, iter, ifs, 0⟩] scope pos) 0 (.ref I) acc { cenv with scope := relabel scope env }) (RR acc cenv.locals) s₄) E s₃) E s₂ := by
  refine wpAny_newList (newComp fun h₄ k34 hns hcells => ?_)
  dsimp only at k34 hns hcells ⊢
  generalize hH3 : s₂.heap.push { cls := .type "list", dict := none, data := .seq ([] : List Value).toArray } = H3 at k34 hns hcells ⊢
  have hC : H3.objs.size = s₂.heap.objs.size + 1 := by rw [← hH3, Heap.size_push]
  have k24 : HK s₂.heap h₄ := fun b o e => k34 b o (hH3 ▸ Heap.get?_push_of_some _ e)
  have hD₄ : h₄.get? s₂.heap.objs.size = some { cls := .type "list", data := .seq ([] : List Value).toArray } := k34 _ _ (hH3 ▸ Heap.get?_push_size _ rfl)
  rw [hC] at hns hcells ⊢
  generalize hDD : s₂.heap.objs.size = D at *
  -- fresh places
  have fresh₂ : ∀ b, D ≤ b → s₂.heap.get? b = none := fun b hb => by
    cases e : s₂.heap.get? b with
    | none => rfl
    | some o => exact absurd (Heap.lt_size e) (by rw [hDD]; exact Nat.not_lt.mpr hb)
  have fresh₁ : ∀ b, D ≤ b → s₁.heap.get? b = none := fun b hb => by
    cases e : s₁.heap.get? b with
    | none => rfl
    | some o => have := k12.hk b o e; rw [fresh₂ b hb] at this; cases this
  have hcge : ∀ b ∈ cellAddrs scope (D + 1), D + 2 ≤ b := fun b hb => by
    obtain ⟨p, hp, rfl⟩ := List.mem_map.mp hb
    exact (hcells.empty p.1 p.2 hp).2
  have hnw : ∀ b ∈ D :: (D + 1) :: (cellAddrs scope (D + 1) ++ wr), s₁.heap.get? b = none := fun b hb => by
    rcases List.mem_cons.mp hb with rfl | hb
    · exact fresh₁ _ (Nat.le_refl _)
    · rcases List.mem_cons.mp hb with rfl | hb
      · exact fresh₁ _ (Nat.le_succ _)
      · rcases List.mem_append.mp hb with hb | hb
        · exact fresh₁ _ (Nat.le_trans (Nat.le_add_right D 2) (hcge b hb))
        · exact T.wn b hb
  have F₀ := comp_fr (nw := D :: (D + 1) :: (cellAddrs scope (D + 1) ++ wr)) hE ok (k12.hk.trans k24) hns hcells (fun b hb => fresh₁ b (Nat.le_of_succ_le hb)) hnw (.tail _ (.head _)) (fun b hb => .tail _ (.tail _ (List.mem_append_left _ hb)))
  generalize hnwe : (D :: (D + 1) :: (cellAddrs scope (D + 1) ++ wr)) = nw at *
  have hDn : D ∈ nw := by rw [← hnwe]; exact .head _
  have hCn : D + 1 ∈ nw := by rw [← hnwe]; exact .tail _ (.head _)
  have hwn : ∀ b ∈ wr, b ∈ nw := fun b hb => by rw [← hnwe]; exact .tail _ (.tail _ (List.mem_append_right _ hb))
  generalize hce : compEnv' scope env (D + 1) (closL env scope.names []) = cenv at *
  have ceL : cenv.locals = D + 1 := by rw [← hce]; rfl
  have ceC : cenv.cells = cellsFrom (D + 1 + 1) scope.names [] ++ closL env scope.names [] := by rw [← hce]; rfl
  have hown : ∀ b, Own cenv scope.names b → D < b := fun b hb => by
    rcases hb with rfl | ⟨x, hx, e⟩
    · rw [ceL]; exact Nat.lt_succ_self _
    · rw [ceC, lookup_append] at e
      cases q : (cellsFrom (D + 1 + 1) scope.names []).lookup x with
      | none =>
        have := cellsFrom_some scope.names (D + 1 + 1) [] (x := x) (.inl hx)
        rw [q] at this; cases this
      | some c =>
        rw [q] at e
        have e' : c = b := Option.some.inj e
        subst e'
        have := (hcells.empty x c (mem_of_lookup q)).2
        exact Nat.lt_of_lt_of_le (Nat.lt_succ_of_lt (Nat.lt_succ_self D)) this
  have wlt : ∀ b ∈ wr, b < D := fun b hb => by
    obtain ⟨o, e⟩ := T.fi b (T.K.sub b hb)
    rw [← hDD]; exact Heap.lt_size e
  have flt : ∀ b ∈ fp, b < D := fun b hb => by
    obtain ⟨o, e⟩ := T.fi b hb
    rw [← hDD]; exact Heap.lt_size e
  have hLw : cenv.locals ∉ wr := fun hm => by have := wlt _ hm; rw [ceL] at this; exact absurd this (Nat.not_lt.mpr (Nat.le_succ D))
  have hCw : ∀ x c, InCell scope.names x → cenv.cells.lookup x = some c → c ∉ wr := fun x c hx e hm => by
    have hlt := wlt c hm
    rcases hx with hx | hx
    · exact absurd (Nat.lt_trans hlt (hown c (.inr ⟨x, hx, e⟩))) (Nat.lt_irrefl _)
    · rw [ceC, comp_cells (compOk_nodup ok) (by rw [hx]; decide), closL_spec, if_pos (mem_of_lookup hx)] at e
      obtain ⟨_, c', ov, e', i⟩ := hE.ck x (compOk_free ok (mem_of_lookup hx))
      rw [e'] at e
      have e2 : c' = c := Option.some.inj e
      subst e2
      obtain ⟨o, ho, _⟩ := i
      rw [T.wn c' hm] at ho; cases ho
  have hmu₁ : MuIn (nw ++ mu) h₄ := fun b hb => by
    rcases List.mem_append.mp hb with hb | hb
    · rw [← hnwe] at hb
      rcases List.mem_cons.mp hb with rfl | hb
      · exact ⟨_, hD₄⟩
      · rcases List.mem_cons.mp hb with rfl | hb
        · obtain ⟨o, _, _, e, _⟩ := hns; exact ⟨o, e⟩
        · rcases List.mem_append.mp hb with hb | hb
          · obtain ⟨p, hp, rfl⟩ := List.mem_map.mp hb
            obtain ⟨o, e, _⟩ := (hcells.empty p.1 p.2 hp).1
            exact ⟨o, e⟩
          · obtain ⟨o, e⟩ := T.wi 0 _ T.st b hb; exact ⟨o, k24 b o e⟩
    · obtain ⟨o, e⟩ := hM b hb; exact ⟨o, k24 b o (k12.hk b o e)⟩
  have st₄ : St 0 h₄ := T.K.frame 0 _ _ T.st fun b _ o e => k24 b o e
  have loop : codeAny (model G.prog G.w) A (.compLoop (.ListComp elt [⟨target, iter, ifs, 0⟩] scope pos) 0 (.ref I) (.ref D) cenv) (RR (.ref D) (D + 1)) { s₂ with heap := h₄ } := by
    refine compLoop_any (fun k s' => ∃ h' tk i ys os e, s' = { s₂ with heap := h', toks := tk } ∧ i ≤ ds.length ∧ k = ds.length + 1 - i ∧ St i h' ∧ HK s₁.heap h' ∧ FrIs (nw ++ mu) h' scope.names cenv (ρ.filter fun p => scope.names.lookup p.1 == some .free) ∧
      MuIn (nw ++ mu) h' ∧ h'.get? D = some { cls := .type "list", data := .seq ys.toArray e } ∧ ys.length ≤ i ∧ RepAll (nw ++ mu) h' ys os ∧ ∃ rest, compL (compF Φ n scope target ifs elt ρ) (ds.drop i) = some rest ∧ out = os ++ rest) ?_ (ds.length + 1)
      ⟨h₄, s₂.toks, 0, [], [], _, rfl, Nat.zero_le _, rfl, st₄, k12.hk.trans k24, F₀, hmu₁, hD₄, Nat.zero_le _, .nil, out, by simpa using hc, rfl⟩
    rintro k s' ⟨h', tk, i, ys, os, e, rfl, hi, rfl, hst, k1, F, hm, hD, hyl, hr, rest, hrest, hout⟩
    by_cases hlt : i < ds.length
    · refine T.K.item i _ _ _ hlt hst fun v ha tka hMd ka => ?_
      refine T.K.go i v _ _ _ hMd fun hb hP hst' kb => ?_
      have kab : HKB wr h' hb := fun b o n e => kb b o n (ka b o n e)
      have k1b : HK s₁.heap hb := fun b o e => kab b o (fun hw => by rw [T.wn b hw] at e; cases e) (k1 b o e)
      have Fb := F.chg kab (fun b hb => List.mem_append_left _ (hwn b hb)) hLw hCw
      have hDw : D ∉ wr := fun hm => absurd (wlt _ hm) (Nat.lt_irrefl _)
      have hDb := kab D _ hDw hD
      have hmb : MuIn (nw ++ mu) hb := fun b hbm => by
        by_cases hw : b ∈ wr
        · exact T.wi (i + 1) hb hst' b hw
        · obtain ⟨o, e⟩ := hm b hbm; exact ⟨o, kab b o hw e⟩
      have hrb : RepAll (nw ++ mu) hb ys os := hr.keep (kab.mono fun b hb => List.mem_append_left _ (hwn b hb))
      obtain ⟨d, hd, hfit⟩ := T.pv nw hnw i v hb hP k1b.but
      have hdrop : ds.drop i = d :: ds.drop (i + 1) := by
        rw [List.drop_eq_getElem_cons hlt]
        rw [List.getElem?_eq_getElem hlt] at hd
        rw [Option.some.inj hd]
      rw [hdrop, compL] at hrest
      simp only [Option.bind_eq_some_iff, Option.map_eq_some_iff] at hrest
      obtain ⟨o, ho, rest', hrest', hcons⟩ := hrest
      unfold compF at ho
      simp only [Option.bind_eq_some_iff] at ho
      obtain ⟨ρ1, hρ1, okb, hokb, ho⟩ := ho
      refine assign_ok hA.hd Fb hρ1 (hfit _ _ _ hρ1) fun hc' tkc chg hko Fc _ => ?_
      have nown : ∀ b, b < D → ¬ Own cenv scope.names b := fun b hb ho => absurd (Nat.lt_trans hb (hown b ho)) (Nat.lt_irrefl _)
      have k1c : HK s₁.heap hc' := fun b o e => hko b o (nown b (by have := Heap.lt_size (k12.hk b o e); rw [hDD] at this; exact this)) (k1b b o e)
      have hDc := hko D _ (fun ho => absurd (hown D ho) (Nat.lt_irrefl _)) hDb
      have hst'' : St (i + 1) hc' := T.K.frame _ _ _ hst' fun b hbf o e => hko b o (nown b (flt b hbf)) e
      have hmc := chg.mi hmb
      have hrc := hrb.keep chg.kb
      have hGc : Gd G hc' := hG.keep k1c
      refine nope (tests_ok IT hA ifs { s₂ with heap := hc', toks := tkc } okb hGc hmc Fc.toEnvIs hokb) fun q s₃ h₃ => ?_
      obtain ⟨rfl, k3⟩ := h₃
      cases q with
      | false =>
        simp only [Bool.false_eq_true, if_false] at ho ⊢
        cases ho
        dsimp only at hcons
        subst hcons
        obtain ⟨h3, t3, rfl, kk3⟩ := k3
        refine ⟨ds.length + 1 - (i + 1), by omega, h3, t3, i + 1, ys, os, e, rfl, hlt, rfl, T.K.frame _ _ _ hst'' fun b _ o e => kk3 b o e, k1c.trans kk3, (Fc.keep kk3).sub fun y e hy => ?_, hmc.keep kk3, kk3 _ _ hDc, by omega, hrc.keep kk3.but, _, hrest', hout⟩
        have := (lookup_filter (p := fun z => scope.names.lookup z == some .free) hy).2
        exact bindT_free hρ1 (beq_iff_eq.mp this) hy
      | true =>
        simp only [if_true, Option.map_eq_some_iff] at ho ⊢
        obtain ⟨x, hx, rfl⟩ := ho
        dsimp only at hcons
        subst hcons
        have F3 := Fc.keep k3.hk
        refine nope (IH elt scope.names cenv ρ1 (nw ++ mu) A s₃ x hA (hGc.keep k3.hk) (hmc.keep k3.hk) F3.toEnvIs hx) fun v4 s₄ h₄' => ?_
        obtain ⟨k4, r4⟩ := h₄'
        have k34' := k3.trans k4
        obtain ⟨h4, t4, rfl, kk4⟩ := k34'
        have hD4 := kk4 _ _ hDc
        refine append_at hD4 (fun h5 hs5 hD5 => ?_) (by rw [List.size_toArray, sizeLine_eq]; omega)
        have c45 : Chg (nw ++ mu) h4 h5 := Chg.ofSame (List.mem_append_left _ hDn) hs5 ⟨_, hD5⟩
        have F4 := Fc.keep kk4
        refine ⟨ds.length + 1 - (i + 1), by omega, h5, t4, i + 1, ys ++ [v4], os ++ [x], e + 1, rfl, hlt, rfl, ?_, ?_, ?_, ?_, ?_, ?_, ?_, _, hrest', ?_⟩
        · refine T.K.frame _ _ _ hst'' fun b hbf o e => hs5.extBut b o (fun q => ?_) (kk4 b o e)
          exact absurd (q ▸ flt b hbf) (Nat.lt_irrefl _)
        · exact fun b o e => hs5.extBut b o (fun q => by rw [q, fresh₁ D (Nat.le_refl _)] at e; cases e) (k1c.trans kk4 b o e)
        · refine FrIs.sub (ρ' := ρ1) ?_ fun y e hy => ?_
          · refine F4.chg (wr := [D]) (fun b o hb e => hs5.extBut b o (fun q => hb (by rw [q]; exact .head _)) e) (fun b hb => by rw [List.mem_singleton.mp hb]; exact List.mem_append_left _ hDn) (fun hm => ?_) fun y c hy e hm => ?_
            · rw [ceL] at hm; exact absurd (List.mem_singleton.mp hm) (Nat.succ_ne_self D)
            · rw [List.mem_singleton.mp hm] at e
              obtain ⟨_, c', ov, e', o, ho, hd'⟩ := F4.ck y hy
              rw [e] at e'
              have : D = c' := Option.some.inj e'
              rw [← this, hD4] at ho
              cases ho; cases hd'
          · have := (lookup_filter (p := fun z => scope.names.lookup z == some .free) hy).2
            exact bindT_free hρ1 (beq_iff_eq.mp this) hy
        · exact c45.mi (hmc.keep kk4)
        · rw [hD5]; simp
        · simp; omega
        · exact (RepAll.append (hrc.keep kk4.but) (.cons r4 .nil)).keep c45.kb
        · rw [hout]; simp
    · have hin : i = ds.length := by omega
      subst hin
      have hrest0 : rest = [] := by rw [List.drop_length] at hrest; simp [compL] at hrest; exact hrest
      subst hrest0
      rw [List.append_nil] at hout
      subst hout
      refine T.K.done _ _ _ hst fun hd tkd kd => ?_
      have kdm : HKB (nw ++ mu) h' hd := HKB.mono (mu := wr) kd fun b hb => List.mem_append_left _ (hwn b hb)
      obtain ⟨m, hn', _⟩ := F.ns
      refine hRR D (D + 1) nw hd tkd m ys hnw hDn hCn (Nat.ne_of_lt (Nat.lt_succ_self D)) (fun b o e => kd b o (fun hw => by rw [T.wn b hw] at e; cases e) (k1 b o e)) ?_ ⟨e, kd D _ (fun hm => absurd (wlt _ hm) (Nat.lt_irrefl _)) hD⟩ (hr.keep kdm)
      rw [ceL] at hn' hLw
      exact hn'.at' fun o e => kd _ o hLw e
  have loop' := loop
  rw [← hce] at loop'
  exact codeAny_compStart_list loop' (T.self 0 _ _ _ st₄ loop')
end
end Mine

/-! M15 -/

namespace Mine

theorem notSet_folded {e : Expr} {env : Env} (h : notSet e = true) : ∀ x, foldedSetIterable e env x = pure x := by
  intro x
  cases e <;> first | rfl | cases h

/-- what a comprehension leaves -/
structure CompRes (mu : List Addr) (h : Heap) (h' : Heap) (D C : Addr) (out : List Mine.D) : Prop where
  hk : HK h h'
  dn : h.get? D = none
  cn : h.get? C = none
  ns : ∃ m, h'.Ns C m
  res : ∃ nw ys e, (∀ b ∈ nw, h.get? b = none) ∧ D ∈ nw ∧ C ∈ nw ∧ D ≠ C ∧ h'.get? D = some { cls := .type "list", data := .seq ys.toArray e } ∧ RepAll (nw ++ mu) h' ys out

theorem CompRes.rep {mu : List Addr} {h h' h'' : Heap} {D C : Addr} {out : List Mine.D} (x : CompRes mu h h' D C out) (hm : MuIn mu h) (hs : HKB [C] h' h'') : HK h h'' ∧ Rep mu h'' (.ref D) (.list out) := by
  obtain ⟨nw, ys, e, hn, hD, hC, hne, hd, hr⟩ := x.res
  refine ⟨fun b o eb => hs b o (fun hm => ?_) (x.hk b o eb), ?_⟩
  · rw [List.mem_singleton.mp hm, x.cn] at eb; cases eb
  · have kb : HKB (nw ++ mu) h' h'' := hs.mono fun q hq => by rw [List.mem_singleton.mp hq]; exact List.mem_append_left _ hC
    exact .list (hm.new x.dn) ⟨_, hs D _ (fun hm => hne (List.mem_singleton.mp hm)) hd, rfl, e, rfl⟩ ((hr.keep kb).weak fun b hb => List.mem_append_right _ hb)

section
variable {G : Gl} {j : Nat} {Φ : Str → List D → Option D} {n : Nat}

/-- a comprehension with or without a use -/
theorem comp_ok (IH : EvOk G j Φ n) (IT : IsTOk G j Φ n) {elt target iter : Expr} {ifs : List Expr} {scope : Scope} {pos cpos : Pos} {sc : Names} {env : Env} {ρ : Rho} {mu : List Addr} {A : Around} {s : Shared} {out : List D}
    (hA : AOk j A) (hG : Gd G s.heap) (hM : MuIn mu s.heap) (hE : EnvIs mu s.heap sc env ρ) (hns : notSet iter = true) (ok : compOk sc scope = true) {it : D} {ds : List D} (hit : ev Φ n sc ρ iter = some it) (hi : items it = some ds) (hlen : ds.length < 1000)
    (hc : compL (compF Φ n scope target ifs elt ρ) ds = some out) {use : Option (Value → Sem Unit)} {Q : Value → Shared → Prop} {E : Value → Shared → Prop}
    (hq : ∀ (s₁ s₂ : Shared) D C h' tk, Kp s s₁ → Kp s₁ s₂ → CompRes mu s₁.heap h' D C out → compPost (model G.prog G.w) A E use Q (.ref D) C (.ok .next) { s₂ with heap := h', toks := tk }) :
    wpAny (model G.prog G.w) A (comprehension (.ListComp elt [⟨target, iter, ifs, 0⟩] scope pos) scope env cpos (newList []) false (eval iter env) use) Q E s := by
  have hnd := compOk_nodup ok
  refine wpAny_comprehension_free rfl (notSet_folded hns) (closureFor_eq fun x hx => ?_) (compOk_kind ok) (fun x hx hl => ?_) (nope (IH iter sc env ρ mu A s it hA hG hM hE hit) fun v s₁ h₁ => ?_)
  · obtain ⟨_, c, _, e, _⟩ := hE.ck x (compOk_free ok hx)
    exact ⟨c, e⟩
  · obtain ⟨y, k⟩ := x
    have := nodup_mem hnd hx
    dsimp only at hl ⊢
    rw [hl] at this; exact this
  · obtain ⟨k₁, r₁⟩ := h₁
    refine wpAny_mono (iter_ok (E := E) (t := target) hA.hd (hM.keep k₁.hk) r₁ hi hlen) (fun itv s₂ h₂ => ?_) fun _ _ e => e
    obtain ⟨k₂, I, fp, wr, P, Md, St, rfl, T⟩ := h₂
    refine comp_block IH IT hA (hG.keep k₁.hk) (hM.keep k₁.hk) (hE.keep k₁.hk) k₂ T ok hlen hc (RR := compPost (model G.prog G.w) A E use Q) ?_
    intro D C nw h' tk m' ys hnw hD hC hne hk hn hd hr
    obtain ⟨e, hd⟩ := hd
    exact hq s₁ s₂ D C h' tk k₁ k₂ ⟨hk, hnw D hD, hnw C hC, ⟨m', hn⟩, nw, ys, e, hnw, hD, hC, hne, hd, hr⟩

theorem comp_unpack {Φ : Str → List D → Option D} {f : Names → Rho → Expr → Option D} {elt : Expr} {gens : List Comprehension} {scope : Scope} {pos : Pos} {sc : Names} {ρ : Rho} {d : D} (h : evB Φ f sc ρ (.ListComp elt gens scope pos) = some d) :
    ∃ target iter ifs it ds out, gens = [⟨target, iter, ifs, 0⟩] ∧ notSet iter = true ∧ compOk sc scope = true ∧ f sc ρ iter = some it ∧ items it = some ds ∧ ds.length < 1000 ∧ d = .list out ∧
      compL (fun d => (bindT scope.names (ρ.filter fun p => scope.names.lookup p.1 == some .free) target d).bind fun ρ1 => (tests (f scope.names ρ1) ifs).bind fun ok => if ok then (f scope.names ρ1 elt).map some else some none) ds = some out := by
  dsimp only [evB] at h
  split at h
  · rename_i target iter ifs asy
    split at h
    · rename_i hb
      simp only [Bool.and_eq_true, beq_iff_eq] at hb
      simp only [Option.bind_eq_some_iff] at h
      obtain ⟨it, hit, ds, hi, h⟩ := h
      split at h
      · rename_i hlen
        simp only [Option.map_eq_some_iff] at h
        obtain ⟨out, hc, rfl⟩ := h
        obtain ⟨⟨rfl, hns⟩, ok⟩ := hb
        exact ⟨target, iter, ifs, it, ds, out, rfl, hns, ok, hit, hi, hlen, rfl, hc⟩
      · cases h
    · cases h
  · cases h

theorem comp_case (IH : EvOk G j Φ n) (IT : IsTOk G j Φ n) : CompCase G j Φ n := by
  intro elt gens scope pos sc env ρ mu A s d hA hG hM hE h
  rw [ev_succ] at h
  obtain ⟨target, iter, ifs, it, ds, out, rfl, hns, ok, hit, hi, hlen, rfl, hc⟩ := comp_unpack h
  rw [eval_ListComp]
  refine comp_ok IH IT hA hG hM hE hns ok hit hi hlen hc (use := none) ?_
  intro s₁ s₂ D C h' tk k₁ k₂ R
  obtain ⟨m, hn⟩ := R.ns
  refine ⟨m, hn, fun h'' hs => ?_⟩
  obtain ⟨hk, r⟩ := R.rep (hM.keep k₁.hk) (h'' := h'') (fun b o hb e => hs.extBut b o (fun q => hb (by rw [q]; exact .head _)) e)
  obtain ⟨h2, t2, rfl, kk2⟩ := k₂
  exact To.from k₁ ⟨⟨h'', tk, rfl, hk⟩, r⟩

/-- the evaluator is sound -/
theorem ev_sound (hB : BiOk G) (hΦ : PhiOk G j Φ) : ∀ n, EvOk G j Φ n ∧ IsTOk G j Φ n
  | 0 => ⟨(fun e sc env ρ mu A s d _ _ _ _ h => nomatch (show (none : Option D) = some d from h)), (fun e sc env ρ mu A s d _ _ _ _ h => nomatch (show (none : Option D) = some (.bool d) from h))⟩
  | n + 1 => by
    obtain ⟨IH, IT⟩ := ev_sound hB hΦ n
    have h1 := ev_step hB hΦ IH IT (comp_case IH IT)
    exact ⟨h1, ist_step IH IT h1⟩
end
end Mine

/-! M16 -/

namespace Mine

/-! the pure run of statements -/
inductive Fl where
  | next
  | ret (d : D)
/-- a list that the frame alone holds: its name, whether it is still plain, its items -/
abbrev Owned := Option (Str × Bool × List D)
abbrev Sx := Rho × Owned
noncomputable def freeze (S : Sx) : Rho := match S.2 with
  | none => S.1
  | some (x, _, ds) => (x, .list ds) :: S.1
noncomputable def evF (f : Rho → Expr → Option D) (S : Sx) (e : Expr) : Option (D × Sx) :=
  match f S.1 e with
  | some d => some (d, S)
  | none => match S.2 with
    | none => none
    | some _ => (f (freeze S) e).map fun d => (d, (freeze S, none))
noncomputable def setN (x : Str) (d : D) (S : Sx) : Sx := ((x, d) :: S.1, match S.2 with
  | none => none
  | some (y, p, ds) => if x == y then none else some (y, p, ds))
noncomputable def exL (f : Sx → Stmt → Option (Fl × Sx)) : Sx → List Stmt → Option (Fl × Sx)
  | S, [] => some (.next, S)
  | S, st :: r => match f S st with
    | some (.next, S') => exL f S' r
    | some (.ret d, S') => some (.ret d, S')
    | none => none
noncomputable def forL (g : Sx → D → Option (Fl × Sx)) : Sx → List D → Option (Fl × Sx)
  | S, [] => some (.next, S)
  | S, d :: r => match g S d with
    | some (.next, S') => forL g S' r
    | some (.ret d, S') => some (.ret d, S')
    | none => none
/-- the target bound, the owned list's name left alone -/
noncomputable def bindS (sc : Names) (S : Sx) (t : Expr) (d : D) : Option Sx :=
  (bindT sc S.1 t d).bind fun ρ' => match S.2 with
    | none => some (ρ', none)
    | some (y, p, ds) => (match ρ'.lookup y with | none => some (ρ', some (y, p, ds)) | some _ => none)
noncomputable def isCall : Expr → Bool
  | .Call .. => true
  | _ => false
noncomputable def exB (f : Rho → Expr → Option D) (g : Sx → Stmt → Option (Fl × Sx)) (sc : Names) (S : Sx) (st : Stmt) : Option (Fl × Sx) :=
  match st with
  | .Assign ts v _ => (match ts with
    | [.Name x _] => if slot sc x then
        (match v with
        | .List es _ => if es.all noStar && decide (es.length < 1000) then (evl (f (freeze S)) es).map fun ds => (.next, (dropN x (freeze S), some (x, true, ds))) else none
        | v => (evF f S v).map fun r => (.next, setN x r.1 r.2)) else none
    | [.Tuple [.Name a pa, .Name b pb] k p] => (match v with
      | .Tuple [e1, e2] k2 p2 => if isCall e1 && noStar e2 && !(a == b) then (evF f S (.Tuple [e1, e2] k2 p2)).bind fun r => (bindS sc r.2 (.Tuple [.Name a pa, .Name b pb] k p) r.1).map fun S' => (.next, S') else none
      | _ => none)
    | [.Subscript (.Name x _) i _] => (match S.2 with
      | some (y, _, ds) => if x == y then
          (match f S.1 v, f S.1 i with
          | some d, some (.int k) => if 0 ≤ k ∧ k < ds.length ∧ ds.length < 1000 then some (.next, (S.1, some (y, false, ds.set k.toNat d))) else none
          | _, _ => none) else none
      | none => none)
    | _ => none)
  | .Expr e _ => (match e with
    | .Call (.Attribute (.Name x _) nm ap) [a] [] cp => (match S.2 with
      | some (y, true, ds) => if x == y && nm == ("append" : Str) && noStar a && ap.endLine == cp.line && decide (ds.length < 1000) then
          (f S.1 a).map fun d => (.next, (S.1, some (y, true, ds ++ [d]))) else none
      | _ => none)
    | _ => none)
  | .If t b o _ => (evF f S t).bind fun r => (match r.1 with
    | .bool true => exL g r.2 b
    | .bool false => exL g r.2 o
    | _ => none)
  | .Return e _ => (match e with
    | some e => (evF f S e).map fun r => (.ret r.1, r.2)
    | none => none)
  | .For t it b o _ => (match o with
    | [] => (match it with
      | .Call (.Name z _) [a1, a2] [] _ => if z == ("zip" : Str) then
          (if sc.lookup z == some .globalImplicit && noStar a1 && noStar a2 then
            (match t with
            | .Tuple .. => (match f S.1 a1, f S.1 a2 with
              | some (.list as), some (.list bs) => if (zipD as bs).length < 1000 then forL (fun S d => (bindS sc S t d).bind fun S' => exL g S' b) S (zipD as bs) else none
              | _, _ => none)
            | _ => none) else none)
        else (evF f S it).bind fun r => (items r.1).bind fun ds => if ds.length < 1000 then forL (fun S d => (bindS sc S t d).bind fun S' => exL g S' b) r.2 ds else none
      | it => if notSet it then (evF f S it).bind fun r => (items r.1).bind fun ds => if ds.length < 1000 then forL (fun S d => (bindS sc S t d).bind fun S' => exL g S' b) r.2 ds else none else none)
    | _ => none)
  | _ => none
noncomputable def ex (Φ : Str → List D → Option D) (m : Nat) (sc : Names) : Nat → Sx → Stmt → Option (Fl × Sx)
  | 0, _, _ => none
  | n + 1, S, st => exB (ev Φ m sc) (ex Φ m sc n) sc S st
theorem ex_succ (Φ : Str → List D → Option D) (m : Nat) (sc : Names) (n : Nat) (S : Sx) (st : Stmt) : ex Φ m sc (n + 1) S st = exB (ev Φ m sc) (ex Φ m sc n) sc S st := rfl

/-! what the frame is -/
noncomputable def OwnObj (pl : Bool) (h : Heap) (a : Addr) (vs : List Value) : Prop := match pl with
  | true => ∃ e, h.get? a = some { cls := .type "list", data := .seq vs.toArray e }
  | false => h.IsList a vs.toArray
theorem OwnObj.isList {pl : Bool} {h : Heap} {a : Addr} {vs : List Value} (x : OwnObj pl h a vs) : h.IsList a vs.toArray := by
  cases pl with
  | true => obtain ⟨e, x⟩ := x; exact ⟨_, x, rfl, e, rfl⟩
  | false => exact x
theorem OwnObj.at {pl : Bool} {h h' : Heap} {a : Addr} {vs : List Value} (x : OwnObj pl h a vs) (k : ∀ o, h.get? a = some o → h'.get? a = some o) : OwnObj pl h' a vs := by
  cases pl with
  | true => obtain ⟨e, x⟩ := x; exact ⟨e, k _ x⟩
  | false => obtain ⟨o, e, r⟩ := x; exact ⟨o, k o e, r⟩

structure OwnAt (h₀ : Heap) (mb : List Addr) (sc : Names) (env : Env) (ρ : Rho) (x : Str) (pl : Bool) (ds : List D) (a : Addr) (h : Heap) : Prop where
  new : h₀.get? a = none
  off : a ∉ mb
  nx : ρ.lookup x = none
  sl : slot sc x = true
  hv : HV sc env h x (.ref a)
  ob : ∃ vs, OwnObj pl h a vs ∧ RepAll (a :: mb) h vs ds
noncomputable def OwnIs (h₀ : Heap) (mb : List Addr) (sc : Names) (env : Env) (ρ : Rho) (own : Owned) (oa : Option Addr) (h : Heap) : Prop :=
  match own, oa with
  | none, none => True
  | some (x, pl, ds), some a => OwnAt h₀ mb sc env ρ x pl ds a h
  | _, _ => False
structure SI (h₀ : Heap) (mb : List Addr) (sc : Names) (env : Env) (S : Sx) (oa : Option Addr) (h : Heap) : Prop where
  hk : HK h₀ h
  fr : FrIs (oa.toList ++ mb) h sc env S.1
  mi : MuIn (oa.toList ++ mb) h
  ow : OwnIs h₀ mb sc env S.1 S.2 oa h
  bl : ∀ b, Own env sc b → h₀.get? b = none
  lm : env.locals ∈ mb
  cm : ∀ x c, sc.lookup x = some .cell → env.cells.lookup x = some c → c ∈ mb

noncomputable def Mods (env : Env) (sc : Names) (oa : Option Addr) (h h' : Heap) : Prop := ∀ b o, ¬ Own env sc b → oa ≠ some b → h.get? b = some o → h'.get? b = some o
noncomputable def NewOa (oa oa' : Option Addr) (h : Heap) : Prop := ∀ a, oa' = some a → oa = some a ∨ h.get? a = none
structure Step (h₀ : Heap) (mb : List Addr) (sc : Names) (env : Env) (oa : Option Addr) (h : Heap) (S' : Sx) (oa' : Option Addr) (h' : Heap) : Prop where
  si : SI h₀ mb sc env S' oa' h'
  md : Mods env sc oa h h'
  no : NewOa oa oa' h

theorem FrIs.remu {mu mu' : List Addr} {h : Heap} {sc : Names} {env : Env} {ρ : Rho} (F : FrIs mu h sc env ρ) (hs : ∀ b o, h.get? b = some o → b ∉ mu → b ∉ mu') (lm : env.locals ∈ mu') (cm : ∀ x c, sc.lookup x = some .cell → env.cells.lookup x = some c → c ∈ mu') : FrIs mu' h sc env ρ :=
  ⟨⟨F.fn, F.gl, F.bu, F.gk, F.lk, F.ck, let ⟨m, n, r⟩ := F.ns; ⟨m, n, fun x d e l => let ⟨v, a, b⟩ := r x d e l; ⟨v, a, b.mono hs (fun _ _ _ e => e)⟩⟩, fun x d e c => let ⟨c', v, a, b, r⟩ := F.cv x d e c; ⟨c', v, a, b, r.mono hs (fun _ _ _ e => e)⟩, F.nm⟩, lm, cm, F.ap, F.kc⟩

theorem not_own_list {mu : List Addr} {h : Heap} {sc : Names} {env : Env} {ρ : Rho} {a : Addr} {its : Array Value} (F : FrIs mu h sc env ρ) (hl : h.IsList a its) : ¬ Own env sc a := by
  obtain ⟨o, e, _, n, hd⟩ := hl
  rintro (rfl | ⟨x, hx, ec⟩)
  · obtain ⟨m, ⟨o', es, ep, e', hd', _⟩, _⟩ := F.ns
    rw [e] at e'; cases e'; rw [hd] at hd'; cases hd'
  · obtain ⟨_, c, ov, e2, o', e', hd'⟩ := F.ck x (.inl hx)
    rw [ec] at e2; cases e2
    rw [e] at e'; cases e'; rw [hd] at hd'; cases hd'

theorem OwnAt.keep {h₀ : Heap} {mb : List Addr} {sc : Names} {env : Env} {ρ : Rho} {x : Str} {pl : Bool} {ds : List D} {a : Addr} {h h' : Heap} (q : OwnAt h₀ mb sc env ρ x pl ds a h) (k : HK h h') : OwnAt h₀ mb sc env ρ x pl ds a h' :=
  ⟨q.new, q.off, q.nx, q.sl, q.hv.keep k, let ⟨vs, o, r⟩ := q.ob; ⟨vs, o.at fun o e => k _ o e, r.keep k.but⟩⟩
theorem OwnIs.keep {h₀ : Heap} {mb : List Addr} {sc : Names} {env : Env} {ρ : Rho} {own : Owned} {oa : Option Addr} {h h' : Heap} (q : OwnIs h₀ mb sc env ρ own oa h) (k : HK h h') : OwnIs h₀ mb sc env ρ own oa h' := by
  unfold OwnIs at q ⊢
  split at q
  · trivial
  · exact q.keep k
  · exact q.elim
theorem SI.keep {h₀ : Heap} {mb : List Addr} {sc : Names} {env : Env} {S : Sx} {oa : Option Addr} {h h' : Heap} (q : SI h₀ mb sc env S oa h) (k : HK h h') : SI h₀ mb sc env S oa h' :=
  ⟨q.hk.trans k, q.fr.keep k, q.mi.keep k, q.ow.keep k, q.bl, q.lm, q.cm⟩
theorem SI.step {h₀ : Heap} {mb : List Addr} {sc : Names} {env : Env} {S : Sx} {oa : Option Addr} {h h' : Heap} (q : SI h₀ mb sc env S oa h) (k : HK h h') : Step h₀ mb sc env oa h S oa h' :=
  ⟨q.keep k, fun b o _ _ e => k b o e, fun _ e => .inl e⟩

theorem Step.trans {h₀ : Heap} {mb : List Addr} {sc : Names} {env : Env} {oa oa1 oa2 : Option Addr} {h h1 h2 : Heap} {S1 S2 : Sx} (x : Step h₀ mb sc env oa h S1 oa1 h1) (y : Step h₀ mb sc env oa1 h1 S2 oa2 h2) : Step h₀ mb sc env oa h S2 oa2 h2 := by
  refine ⟨y.si, fun b o hb ho e => ?_, fun a ha => ?_⟩
  · refine y.md b o hb (fun q => ?_) (x.md b o hb ho e)
    rcases x.no b q with q | q
    · exact ho q
    · rw [q] at e; cases e
  · rcases y.no a ha with q | q
    · exact x.no a q
    · by_cases hoa : oa = some a
      · exact .inl hoa
      · refine .inr ?_
        cases e : h.get? a with
        | none => rfl
        | some o =>
          have hno : ¬ Own env sc a := by
            have ow := y.si.ow
            unfold OwnIs at ow
            split at ow
            · cases ha
            · cases ha
              obtain ⟨vs, ob, _⟩ := ow.ob
              exact not_own_list y.si.fr ob.isList
            · exact ow.elim
          rw [x.md a o hno hoa e] at q; cases q

/-- the owned list becomes a value -/
theorem SI.freeze {h₀ : Heap} {mb : List Addr} {sc : Names} {env : Env} {S : Sx} {oa : Option Addr} {h : Heap} (q : SI h₀ mb sc env S oa h) : Step h₀ mb sc env oa h (Mine.freeze S, none) none h := by
  refine ⟨?_, fun b o _ _ e => e, fun a e => nomatch e⟩
  obtain ⟨ρ, own⟩ := S
  have ow : OwnIs h₀ mb sc env ρ own oa h := q.ow
  cases own with
  | none =>
    cases oa with
    | none => exact ⟨q.hk, q.fr, q.mi, trivial, q.bl, q.lm, q.cm⟩
    | some a => exact ow.elim
  | some w =>
    obtain ⟨x, pl, ds⟩ := w
    cases oa with
    | none => exact ow.elim
    | some a =>
      have ow : OwnAt h₀ mb sc env ρ x pl ds a h := ow
      obtain ⟨vs, ob, r⟩ := ow.ob
      have F := (q.fr.remu (mu' := mb) (fun b _ _ n m => n (List.mem_append_right _ m)) q.lm q.cm)
      have F' : FrIs mb h sc env (dropN x ρ) := F.sub fun y e hy => (lookup_dropN hy).1
      have sl := ow.sl
      unfold slot at sl
      simp only [Bool.and_eq_true] at sl
      exact ⟨q.hk, F'.bind sl.1 ow.hv (.list ow.off ob.isList (r.weak fun b m => .tail _ m)), fun b m => q.mi b (List.mem_append_right _ m), trivial, q.bl, q.lm, q.cm⟩
end Mine

/-! M17 -/

namespace Mine

noncomputable def FlOk (mb : List Addr) (h' : Heap) (f : Flow) (fl : Fl) : Prop := match fl with
  | .next => f = .next
  | .ret d => ∃ v, f = .ret v ∧ Rep mb h' v d
noncomputable def ExTo (h₀ : Heap) (mb : List Addr) (sc : Names) (env : Env) (oa : Option Addr) (s : Shared) (r : Fl × Sx) (f : Flow) (s' : Shared) : Prop :=
  ∃ h' tk oa', s' = { s with heap := h', toks := tk } ∧ Step h₀ mb sc env oa s.heap r.2 oa' h' ∧ FlOk mb h' f r.1
noncomputable def EvTo (h₀ : Heap) (mb : List Addr) (sc : Names) (env : Env) (oa : Option Addr) (s : Shared) (r : D × Sx) (v : Value) (s' : Shared) : Prop :=
  ∃ h' tk oa', s' = { s with heap := h', toks := tk } ∧ Step h₀ mb sc env oa s.heap r.2 oa' h' ∧ Rep (oa'.toList ++ mb) h' v r.1
noncomputable def TsTo (h₀ : Heap) (mb : List Addr) (sc : Names) (env : Env) (oa : Option Addr) (s : Shared) (b : Bool) (S' : Sx) (v : Bool) (s' : Shared) : Prop :=
  ∃ h' tk oa', s' = { s with heap := h', toks := tk } ∧ Step h₀ mb sc env oa s.heap S' oa' h' ∧ v = b

noncomputable def ExOk (G : Gl) (j : Nat) (Φ : Str → List D → Option D) (m n : Nat) : Prop :=
  ∀ (st : Stmt) (sc : Names) (env : Env) (h₀ : Heap) (mb : List Addr) (S : Sx) (oa : Option Addr) (A : Around) (s : Shared) (r : Fl × Sx), AOk j A → Gd G h₀ → SI h₀ mb sc env S oa s.heap → ex Φ m sc n S st = some r →
    wpAny (model G.prog G.w) A (exec st env) (ExTo h₀ mb sc env oa s r) Nope s
noncomputable def ZipOk (G : Gl) : Prop := nsIn G.K mainGlobals ("zip" : Str) = some none ∧ bootBuiltins ("zip" : Str) = some (.type "zip")

theorem ExTo.from {h₀ : Heap} {mb : List Addr} {sc : Names} {env : Env} {oa oa1 : Option Addr} {s : Shared} {h1 : Heap} {tk : Nat} {S1 : Sx} {r : Fl × Sx} {f : Flow} {s' : Shared} (x : Step h₀ mb sc env oa s.heap S1 oa1 h1) (y : ExTo h₀ mb sc env oa1 { s with heap := h1, toks := tk } r f s') : ExTo h₀ mb sc env oa s r f s' := by
  obtain ⟨h', tk', oa', rfl, st, fl⟩ := y
  exact ⟨h', tk', oa', rfl, x.trans st, fl⟩
theorem EvTo.from {h₀ : Heap} {mb : List Addr} {sc : Names} {env : Env} {oa oa1 : Option Addr} {s : Shared} {h1 : Heap} {tk : Nat} {S1 : Sx} {r : D × Sx} {v : Value} {s' : Shared} (x : Step h₀ mb sc env oa s.heap S1 oa1 h1) (y : EvTo h₀ mb sc env oa1 { s with heap := h1, toks := tk } r v s') : EvTo h₀ mb sc env oa s r v s' := by
  obtain ⟨h', tk', oa', rfl, st, fl⟩ := y
  exact ⟨h', tk', oa', rfl, x.trans st, fl⟩

section
variable {G : Gl} {j : Nat} {Φ : Str → List D → Option D} {m n : Nat} {sc : Names} {env : Env} {h₀ : Heap} {mb : List Addr} {A : Around}

theorem evF_ok (IH : EvOk G j Φ m) (hA : AOk j A) (hG : Gd G h₀) {S : Sx} {oa : Option Addr} {s : Shared} {e : Expr} {r : D × Sx} (q : SI h₀ mb sc env S oa s.heap) (h : evF (ev Φ m sc) S e = some r) :
    wpAny (model G.prog G.w) A (eval e env) (EvTo h₀ mb sc env oa s r) Nope s := by
  unfold evF at h
  split at h
  · rename_i d hd
    cases h
    refine nope (IH e sc env S.1 _ A s d hA (hG.keep q.hk) q.mi q.fr.toEnvIs hd) fun v s' h' => ?_
    obtain ⟨⟨h2, t2, rfl, k⟩, r⟩ := h'
    exact ⟨h2, t2, oa, rfl, q.step k, r⟩
  · split at h
    · cases h
    · simp only [Option.map_eq_some_iff] at h
      obtain ⟨d, hd, rfl⟩ := h
      have st := q.freeze
      refine nope (IH e sc env _ _ A s d hA (hG.keep q.hk) st.si.mi st.si.fr.toEnvIs hd) fun v s' h' => ?_
      obtain ⟨⟨h2, t2, rfl, k⟩, r⟩ := h'
      exact ⟨h2, t2, none, rfl, st.trans (st.si.step k), r⟩
theorem tsF_ok (IT : IsTOk G j Φ m) (hA : AOk j A) (hG : Gd G h₀) {S : Sx} {oa : Option Addr} {s : Shared} {e : Expr} {b : Bool} {S' : Sx} (q : SI h₀ mb sc env S oa s.heap) (h : evF (ev Φ m sc) S e = some (.bool b, S')) :
    wpAny (model G.prog G.w) A (isTrue e env (eval e env)) (TsTo h₀ mb sc env oa s b S') Nope s := by
  unfold evF at h
  split at h
  · rename_i d hd
    cases h
    refine nope (IT e sc env S.1 _ A s b hA (hG.keep q.hk) q.mi q.fr.toEnvIs hd) fun v s' h' => ?_
    obtain ⟨rfl, h2, t2, rfl, k⟩ := h'
    exact ⟨h2, t2, oa, rfl, q.step k, rfl⟩
  · split at h
    · cases h
    · simp only [Option.map_eq_some_iff] at h
      obtain ⟨d, hd, e⟩ := h
      cases e
      have st := q.freeze
      refine nope (IT e sc env _ _ A s b hA (hG.keep q.hk) st.si.mi st.si.fr.toEnvIs hd) fun v s' h' => ?_
      obtain ⟨rfl, h2, t2, rfl, k⟩ := h'
      exact ⟨h2, t2, none, rfl, st.trans (st.si.step k), rfl⟩

/-- the owned list is untouched by a store into the frame -/
theorem own_store {ρ : Rho} {own : Owned} {oa : Option Addr} {h h' : Heap} {ρ' : Rho} (q : SI h₀ mb sc env (ρ, own) oa h) (ko : HKO env sc h h') (c : Chg (oa.toList ++ mb) h h') (F' : FrIs (oa.toList ++ mb) h' sc env ρ')
    (hz : ∀ z u, ρ'.lookup z = none → HV sc env h z u → HV sc env h' z u) (hn : ∀ x pl ds, own = some (x, pl, ds) → ρ'.lookup x = none) : Step h₀ mb sc env oa h (ρ', own) oa h' := by
  refine ⟨⟨fun b o e => ko b o (fun w => by rw [q.bl b w] at e; cases e) (q.hk b o e), F', c.mi q.mi, ?_, q.bl, q.lm, q.cm⟩, fun b o hb _ e => ko b o hb e, fun _ e => .inl e⟩
  have ow : OwnIs h₀ mb sc env ρ own oa h := q.ow
  cases own with
  | none =>
    cases oa with
    | none => trivial
    | some a => exact ow.elim
  | some w =>
    obtain ⟨x, pl, ds⟩ := w
    cases oa with
    | none => exact ow.elim
    | some a =>
      have ow : OwnAt h₀ mb sc env ρ x pl ds a h := ow
      obtain ⟨vs, ob, r⟩ := ow.ob
      have hx := hn x pl ds rfl
      have hno := not_own_list q.fr ob.isList
      exact ⟨ow.new, ow.off, hx, ow.sl, hz x _ hx ow.hv, vs, ob.at fun o e => ko a o hno e, r.keep c.kb⟩

theorem setN_ok {x : Str} {d : D} {v : Value} {S : Sx} {oa : Option Addr} {s : Shared} {Q : Unit → Shared → Prop} {E : Value → Shared → Prop} {M : Model} (q : SI h₀ mb sc env S oa s.heap) (hs : slot sc x = true) (rv : Rep (oa.toList ++ mb) s.heap v d)
    (hq : ∀ h' tk oa', Step h₀ mb sc env oa s.heap (setN x d S) oa' h' → Q () { s with heap := h', toks := tk }) : wpAny M A (storeName env x v) Q E s := by
  refine store_ok q.fr hs rv fun h' tk a ha hw hsb ho F' hz => ?_
  obtain ⟨ρ, own⟩ := S
  have ko := HKO.ofSame hw hsb
  have c := Chg.ofSame (mu := oa.toList ++ mb) ha hsb ho
  have hz' : ∀ z u, List.lookup z ((x, d) :: ρ) = none → HV sc env s.heap z u → HV sc env h' z u := fun z u hn p => hz z u (fun e => by rw [e] at hn; simp [List.lookup_cons] at hn) p
  by_cases hx : ∃ pl ds, own = some (x, pl, ds)
  · obtain ⟨pl, ds, rfl⟩ := hx
    have e : setN x d (ρ, some (x, pl, ds)) = ((x, d) :: ρ, none) := by simp [setN]
    refine hq h' tk none ?_
    rw [e]
    have ow : OwnIs h₀ mb sc env ρ (some (x, pl, ds)) oa s.heap := q.ow
    cases oa with
    | none => exact ow.elim
    | some a =>
      refine ⟨⟨fun b o e => ko b o (fun w => by rw [q.bl b w] at e; cases e) (q.hk b o e), F'.remu (fun b _ _ n m => n (List.mem_append_right _ m)) q.lm q.cm, fun b m => c.mi q.mi b (List.mem_append_right _ m), trivial, q.bl, q.lm, q.cm⟩, fun b o hb _ e => ko b o hb e, fun _ e => nomatch e⟩
  · have e : setN x d (ρ, own) = ((x, d) :: ρ, own) := by
      unfold setN
      cases own with
      | none => rfl
      | some w =>
        obtain ⟨y, pl, ds⟩ := w
        dsimp only
        rw [if_neg]
        intro hb
        exact hx ⟨pl, ds, by rw [beq_iff_eq.mp hb]⟩
    refine hq h' tk oa ?_
    rw [e]
    refine own_store q ko c F' hz' fun y pl ds e => ?_
    subst e
    have ow : OwnIs h₀ mb sc env ρ (some (y, pl, ds)) oa s.heap := q.ow
    cases oa with
    | none => exact ow.elim
    | some a =>
      have ow : OwnAt h₀ mb sc env ρ y pl ds a s.heap := ow
      rw [List.lookup_cons]
      cases hb : y == x with
      | true => exact absurd ⟨pl, ds, by rw [beq_iff_eq.mp hb]⟩ hx
      | false => exact ow.nx

theorem bindS_ok {t : Expr} {d : D} {v : Value} {S S' : Sx} {oa : Option Addr} {s : Shared} {Q : Unit → Shared → Prop} {E : Value → Shared → Prop} {prog : Program} {w : World} (hh : A.handled = none) (q : SI h₀ mb sc env S oa s.heap) (h : bindS sc S t d = some S') (hf : Fits (oa.toList ++ mb) s.heap t v d)
    (hq : ∀ h' tk, Step h₀ mb sc env oa s.heap S' oa h' → Q () { s with heap := h', toks := tk }) : wpAny (model prog w) A (assign t env v) Q E s := by
  obtain ⟨ρ, own⟩ := S
  unfold bindS at h
  simp only [Option.bind_eq_some_iff] at h
  obtain ⟨ρ', hρ, h⟩ := h
  refine assign_ok hh q.fr hρ hf fun h' tk c ko F' hz => hq h' tk ?_
  cases own with
  | none =>
    cases h
    exact own_store q ko c F' hz fun _ _ _ e => nomatch e
  | some w =>
    obtain ⟨y, pl, ds⟩ := w
    dsimp only at h
    split at h
    · rename_i hn
      cases h
      exact own_store q ko c F' hz fun _ _ _ e => by cases e; exact hn
    · cases h
end
end Mine

/-! M18 -/

namespace Mine

theorem Fits.weak {mu mu' : List Addr} {h : Heap} {t : Expr} {v : Value} {d : D} (x : Fits mu h t v d) (hs : ∀ b, b ∈ mu' → b ∈ mu) : Fits mu' h t v d := by
  cases t <;> first | exact Rep.weak x hs | (obtain ⟨ds, T, vs, a, b, c, e⟩ := x; exact ⟨ds, T, vs, a, b, c, e.weak hs⟩)

section
variable {sc : Names} {env : Env} {h₀ : Heap} {mb : List Addr}
/-- more hidden places -/
theorem SI.more {wr : List Addr} {S : Sx} {oa : Option Addr} {h h' : Heap} (q : SI h₀ mb sc env S oa h) (hw : ∀ b ∈ wr, h.get? b = none) (k : HK h h') (hi : ∀ b ∈ wr, ∃ o, h'.get? b = some o) : SI h₀ (wr ++ mb) sc env S oa h' := by
  have up : ∀ b o, h.get? b = some o → b ∉ oa.toList ++ mb → b ∉ oa.toList ++ (wr ++ mb) := fun b o e n m => by
    rcases List.mem_append.mp m with m | m
    · exact n (List.mem_append_left _ m)
    · rcases List.mem_append.mp m with m | m
      · rw [hw b m] at e; cases e
      · exact n (List.mem_append_right _ m)
  refine ⟨q.hk.trans k, ((q.fr.remu up (List.mem_append_right _ (List.mem_append_right _ q.lm)) fun x c hx e => List.mem_append_right _ (List.mem_append_right _ (q.cm x c hx e))).keep k), fun b m => ?_, ?_, q.bl, List.mem_append_right _ q.lm, fun x c hx e => List.mem_append_right _ (q.cm x c hx e)⟩
  · rcases List.mem_append.mp m with m | m
    · obtain ⟨o, e⟩ := q.mi b (List.mem_append_left _ m); exact ⟨o, k b o e⟩
    · rcases List.mem_append.mp m with m | m
      · exact hi b m
      · obtain ⟨o, e⟩ := q.mi b (List.mem_append_right _ m); exact ⟨o, k b o e⟩
  · obtain ⟨ρ, own⟩ := S
    have ow : OwnIs h₀ mb sc env ρ own oa h := q.ow
    cases own with
    | none =>
      cases oa with
      | none => trivial
      | some a => exact ow.elim
    | some w =>
      obtain ⟨x, pl, ds⟩ := w
      cases oa with
      | none => exact ow.elim
      | some a =>
        have ow : OwnAt h₀ mb sc env ρ x pl ds a h := ow
        obtain ⟨vs, ob, r⟩ := ow.ob
        refine ⟨ow.new, fun m => ?_, ow.nx, ow.sl, ow.hv.keep k, vs, ob.at fun o e => k a o e, ?_⟩
        · rcases List.mem_append.mp m with m | m
          · obtain ⟨o, e, _⟩ := ob.isList
            rw [hw a m] at e; cases e
          · exact ow.off m
        · exact (r.mono (mu' := a :: (wr ++ mb)) (fun b o e n m => by
            rcases List.mem_cons.mp m with rfl | m
            · exact n (.head _)
            · rcases List.mem_append.mp m with m | m
              · rw [hw b m] at e; cases e
              · exact n (.tail _ m)) (fun _ _ _ e => e)).keep k.but
/-- fewer hidden places -/
theorem SI.less {wr : List Addr} {S : Sx} {oa : Option Addr} {h : Heap} (q : SI h₀ (wr ++ mb) sc env S oa h) (lm : env.locals ∈ mb) (cm : ∀ x c, sc.lookup x = some .cell → env.cells.lookup x = some c → c ∈ mb) : SI h₀ mb sc env S oa h := by
  have sub : ∀ b, b ∈ oa.toList ++ mb → b ∈ oa.toList ++ (wr ++ mb) := fun b m => (List.mem_append.mp m).elim (fun m => List.mem_append_left _ m) fun m => List.mem_append_right _ (List.mem_append_right _ m)
  refine ⟨q.hk, q.fr.remu (fun b _ _ n m => n (sub b m)) (List.mem_append_right _ lm) fun x c hx e => List.mem_append_right _ (cm x c hx e), fun b m => q.mi b (sub b m), ?_, q.bl, lm, cm⟩
  obtain ⟨ρ, own⟩ := S
  have ow : OwnIs h₀ (wr ++ mb) sc env ρ own oa h := q.ow
  cases own with
  | none =>
    cases oa with
    | none => trivial
    | some a => exact ow.elim
  | some w =>
    obtain ⟨x, pl, ds⟩ := w
    cases oa with
    | none => exact ow.elim
    | some a =>
      have ow : OwnAt h₀ (wr ++ mb) sc env ρ x pl ds a h := ow
      obtain ⟨vs, ob, r⟩ := ow.ob
      exact ⟨ow.new, fun m => ow.off (List.mem_append_right _ m), ow.nx, ow.sl, ow.hv, vs, ob, r.weak fun b m => (List.mem_cons.mp m).elim (fun e => e ▸ .head _) fun m => .tail _ (List.mem_append_right _ m)⟩
/-- a change of the iterator's places -/
theorem SI.chg {wr : List Addr} {S : Sx} {oa : Option Addr} {h h' : Heap} (q : SI h₀ (wr ++ mb) sc env S oa h) (k : HKB wr h h') (hw : ∀ b ∈ wr, h₀.get? b = none) (hi : ∀ b ∈ wr, ∃ o, h'.get? b = some o) (hL : env.locals ∉ wr) (hC : ∀ x c, InCell sc x → env.cells.lookup x = some c → c ∉ wr) : SI h₀ (wr ++ mb) sc env S oa h' := by
  have sub : ∀ b ∈ wr, b ∈ oa.toList ++ (wr ++ mb) := fun b m => List.mem_append_right _ (List.mem_append_left _ m)
  refine ⟨fun b o e => k b o (fun m => by rw [hw b m] at e; cases e) (q.hk b o e), q.fr.chg k sub hL hC, fun b m => ?_, ?_, q.bl, q.lm, q.cm⟩
  · by_cases hb : b ∈ wr
    · exact hi b hb
    · obtain ⟨o, e⟩ := q.mi b m; exact ⟨o, k b o hb e⟩
  · obtain ⟨ρ, own⟩ := S
    have ow : OwnIs h₀ (wr ++ mb) sc env ρ own oa h := q.ow
    cases own with
    | none =>
      cases oa with
      | none => trivial
      | some a => exact ow.elim
    | some w =>
      obtain ⟨x, pl, ds⟩ := w
      cases oa with
      | none => exact ow.elim
      | some a =>
        have ow : OwnAt h₀ (wr ++ mb) sc env ρ x pl ds a h := ow
        obtain ⟨vs, ob, r⟩ := ow.ob
        refine ⟨ow.new, ow.off, ow.nx, ow.sl, ?_, vs, ob.at fun o e => k a o (fun m => ow.off (List.mem_append_left _ m)) e, r.keep (k.mono fun b m => .tail _ (List.mem_append_left _ m))⟩
        rcases ow.hv with ⟨l, mm, n, e⟩ | ⟨l, c, e, i⟩
        · exact .inl ⟨l, mm, n.at' fun o e => k _ o hL e, e⟩
        · obtain ⟨o, ho, hd⟩ := i
          exact .inr ⟨l, c, e, o, k c o (hC x c l e) ho, hd⟩
/-- the iterator at its end -/
theorem SI.done {wr : List Addr} {S : Sx} {oa : Option Addr} {h h' : Heap} (q : SI h₀ (wr ++ mb) sc env S oa h) (k : HKB wr h h') (hw : ∀ b ∈ wr, h₀.get? b = none) (hm : ∀ b ∈ mb, b ∉ wr) (lm : env.locals ∈ mb) (cm : ∀ x c, sc.lookup x = some .cell → env.cells.lookup x = some c → c ∈ mb)
    (hL : env.locals ∉ wr) (hC : ∀ x c, InCell sc x → env.cells.lookup x = some c → c ∉ wr) : SI h₀ mb sc env S oa h' := by
  have sub : ∀ b ∈ wr, b ∈ oa.toList ++ (wr ++ mb) := fun b m => List.mem_append_right _ (List.mem_append_left _ m)
  have sub2 : ∀ b, b ∈ oa.toList ++ mb → b ∈ oa.toList ++ (wr ++ mb) := fun b m => (List.mem_append.mp m).elim (fun m => List.mem_append_left _ m) fun m => List.mem_append_right _ (List.mem_append_right _ m)
  have hoa : ∀ a, oa = some a → a ∉ wr := by
    obtain ⟨ρ, own⟩ := S
    have ow : OwnIs h₀ (wr ++ mb) sc env ρ own oa h := q.ow
    intro a e
    rw [e] at ow
    cases own with
    | none => exact ow.elim
    | some w =>
      obtain ⟨x, pl, ds⟩ := w
      have ow : OwnAt h₀ (wr ++ mb) sc env ρ x pl ds a h := ow
      exact fun m => ow.off (List.mem_append_left _ m)
  refine ⟨fun b o e => k b o (fun m => by rw [hw b m] at e; cases e) (q.hk b o e), (q.fr.chg k sub hL hC).remu (fun b _ _ n m => n (sub2 b m)) (List.mem_append_right _ lm) fun x c hx e => List.mem_append_right _ (cm x c hx e), fun b m => ?_, ?_, q.bl, lm, cm⟩
  · obtain ⟨o, e⟩ := q.mi b (sub2 b m)
    refine ⟨o, k b o (fun hb => ?_) e⟩
    rcases List.mem_append.mp m with m | m
    · cases hx : oa with
      | none => rw [hx] at m; cases m
      | some a => rw [hx] at m; rw [List.mem_singleton.mp m] at hb; exact hoa a hx hb
    · exact hm b m hb
  · obtain ⟨ρ, own⟩ := S
    have ow : OwnIs h₀ (wr ++ mb) sc env ρ own oa h := q.ow
    cases own with
    | none =>
      cases oa with
      | none => trivial
      | some a => exact ow.elim
    | some w =>
      obtain ⟨x, pl, ds⟩ := w
      cases oa with
      | none => exact ow.elim
      | some a =>
        have ow : OwnAt h₀ (wr ++ mb) sc env ρ x pl ds a h := ow
        obtain ⟨vs, ob, r⟩ := ow.ob
        refine ⟨ow.new, fun m => ow.off (List.mem_append_right _ m), ow.nx, ow.sl, ?_, vs, ob.at fun o e => k a o (hoa a rfl) e, (r.keep (k.mono fun b m => .tail _ (List.mem_append_left _ m))).weak fun b m => (List.mem_cons.mp m).elim (fun e => e ▸ .head _) fun m => .tail _ (List.mem_append_right _ m)⟩
        rcases ow.hv with ⟨l, mm, n, e⟩ | ⟨l, c, e, i⟩
        · exact .inl ⟨l, mm, n.at' fun o e => k _ o hL e, e⟩
        · obtain ⟨o, ho, hd⟩ := i
          exact .inr ⟨l, c, e, o, k c o (hC x c l e) ho, hd⟩
end

section
variable {G : Gl} {j : Nat} {Φ : Str → List D → Option D} {m n : Nat}

theorem exL_ok (IX : ExOk G j Φ m n) {sc : Names} {env : Env} {h₀ : Heap} {mb : List Addr} {A : Around} (hA : AOk j A) (hG : Gd G h₀) (b : List Stmt) : ∀ (S : Sx) (oa : Option Addr) (s : Shared) (r : Fl × Sx), SI h₀ mb sc env S oa s.heap → exL (ex Φ m sc n) S b = some r →
    wpAny (model G.prog G.w) A (execs b env) (ExTo h₀ mb sc env oa s r) Nope s := by
  induction b with
  | nil =>
    intro S oa s r q h
    rw [exL] at h; cases h
    exact wpAny_execs_nil ⟨s.heap, s.toks, oa, rfl, q.step (HK.refl _), rfl⟩
  | cons st b ih =>
    intro S oa s r q h
    rw [exL] at h
    refine wpAny_execs_cons ?_
    split at h
    · rename_i S' hS
      refine nope (IX st sc env h₀ mb S oa A s _ hA hG q hS) fun f s' h' => ?_
      obtain ⟨h1, t1, oa1, rfl, st1, fl⟩ := h'
      have fl : f = .next := fl
      subst fl
      exact nope (ih S' oa1 _ r st1.si h) fun f s' h' => h'.from st1
    · rename_i d S' hS
      cases h
      refine nope (IX st sc env h₀ mb S oa A s _ hA hG q hS) fun f s' h' => ?_
      obtain ⟨h1, t1, oa1, rfl, st1, fl⟩ := h'
      obtain ⟨v, rfl, rv⟩ := fl
      exact ⟨h1, t1, oa1, rfl, st1, v, rfl, rv⟩
    · cases h

theorem for_ok (IX : ExOk G j Φ m n) {sc : Names} {env : Env} {h₀ : Heap} {mb : List Addr} {A : Around} (hA : AOk j A) (hG : Gd G h₀) {t : Expr} {body : List Stmt} {S : Sx} {oa : Option Addr} {s₁ s₂ : Shared} {ds : List D} {r : Fl × Sx} {I : Addr} {fp wr : List Addr} {P Md : Nat → Value → Heap → Prop} {St : Nat → Heap → Prop}
    (q : SI h₀ mb sc env S oa s₁.heap) (k12 : Kp s₁ s₂) (T : Turns G.prog G.w A t (oa.toList ++ mb) s₁.heap ds I fp wr P Md St s₂)
    (h : forL (fun S d => (bindS sc S t d).bind fun S' => exL (ex Φ m sc n) S' body) S ds = some r) {R : Result → Shared → Prop}
    (hR : ∀ f h' tk oa', Step h₀ mb sc env oa s₁.heap r.2 oa' h' → FlOk mb h' f r.1 → R (.ok f) { s₂ with heap := h', toks := tk }) :
    codeAny (model G.prog G.w) A (.forLoop t (.ref I) body [] env) R s₂ := by
  have w₀ : ∀ b ∈ wr, h₀.get? b = none := fun b hb => by
    cases e : h₀.get? b with
    | none => rfl
    | some o => have := q.hk b o e; rw [T.wn b hb] at this; cases this
  have hL : env.locals ∉ wr := fun hm => by
    obtain ⟨mm, ⟨o, _, _, e, _⟩, _⟩ := q.fr.ns
    rw [T.wn _ hm] at e; cases e
  have hC : ∀ x c, InCell sc x → env.cells.lookup x = some c → c ∉ wr := fun x c hx e hm => by
    obtain ⟨_, c', ov, e', o, ho, _⟩ := q.fr.ck x hx
    rw [e] at e'
    have : c = c' := Option.some.inj e'
    rw [← this, T.wn c hm] at ho; cases ho
  have ownmb : ∀ b, Own env sc b → b ∈ mb := fun b hb => hb.elim (fun e => e ▸ q.lm) fun ⟨x, hx, e⟩ => q.cm x b hx e
  have fown : ∀ b ∈ fp, ¬ Own env sc b := fun b hb ho => T.fm b hb (List.mem_append_right _ (ownmb b ho))
  have q₀ := q.more T.wn k12.hk (T.wi 0 _ T.st)
  have wown : ∀ b, Own env sc b → b ∉ wr := fun b ho hw => fown b (T.K.sub b hw) ho
  refine codeAny_forLoop_any (fun k s' => ∃ h' tk i S' oa', s' = { s₂ with heap := h', toks := tk } ∧ i ≤ ds.length ∧ k = ds.length + 1 - i ∧ St i h' ∧ SI h₀ (wr ++ mb) sc env S' oa' h' ∧ NewOa oa oa' s₂.heap ∧
    (∀ b o, ¬ Own env sc b → oa ≠ some b → b ∉ wr → s₂.heap.get? b = some o → h'.get? b = some o) ∧ forL (fun S d => (bindS sc S t d).bind fun S' => exL (ex Φ m sc n) S' body) S' (ds.drop i) = some r) ?_ (ds.length + 1)
    ⟨s₂.heap, s₂.toks, 0, S, oa, rfl, Nat.zero_le _, rfl, T.st, q₀, fun _ e => .inl e, fun _ _ _ _ _ e => e, by simpa using h⟩
  rintro k s' ⟨h', tk, i, S', oa', rfl, hi, rfl, hst, qi, no, md, hf⟩
  have fin : ∀ (hx : Heap) (S'' : Sx) (oa'' : Option Addr), SI h₀ (wr ++ mb) sc env S'' oa'' hx → NewOa oa oa'' s₂.heap → (∀ b o, ¬ Own env sc b → oa ≠ some b → b ∉ wr → s₂.heap.get? b = some o → hx.get? b = some o) → Step h₀ mb sc env oa s₁.heap S'' oa'' hx := fun hx S'' oa'' qx nx mx => by
    refine ⟨qx.less q.lm q.cm, fun b o hb ho e => mx b o hb ho (fun hw => by rw [T.wn b hw] at e; cases e) (k12.hk b o e), fun a ha => (nx a ha).imp id fun e => ?_⟩
    cases e2 : s₁.heap.get? a with
    | none => rfl
    | some o => have := k12.hk a o e2; rw [e] at this; cases this
  by_cases hlt : i < ds.length
  · refine T.K.item i _ _ _ hlt hst fun v ha tka hMd ka => ?_
    refine T.K.go i v _ _ _ hMd fun hb hP hst' kb => ?_
    have kab : HKB wr h' hb := fun b o n e => kb b o n (ka b o n e)
    have qb := qi.chg kab w₀ (T.wi (i + 1) hb hst') hL hC
    have mdb : ∀ b o, ¬ Own env sc b → oa ≠ some b → b ∉ wr → s₂.heap.get? b = some o → hb.get? b = some o := fun b o h1 h2 h3 e => kab b o h3 (md b o h1 h2 h3 e)
    -- the item
    have fit : ∃ d, ds[i]? = some d ∧ ∀ ρ ρ', bindT sc ρ t d = some ρ' → Fits (oa'.toList ++ (wr ++ mb)) hb t v d := by
      have go : ∀ nw : List Addr, (∀ b ∈ nw, s₁.heap.get? b = none) → (∀ b ∈ wr, b ∈ nw) → (∀ b ∈ oa'.toList, b ∈ nw ∨ b ∈ oa.toList) → ∃ d, ds[i]? = some d ∧ ∀ ρ ρ', bindT sc ρ t d = some ρ' → Fits (oa'.toList ++ (wr ++ mb)) hb t v d := fun nw h1 h2 h3 => by
        obtain ⟨d, hd, hfit⟩ := T.pv nw h1 i v hb hP fun b o hn e => by
          have hnn := fun hm => hn (List.mem_append_left _ hm)
          have hnm := fun hm => hn (List.mem_append_right nw hm)
          refine mdb b o (fun ho => hnm (List.mem_append_right _ (ownmb b ho))) (fun e' => hnm (List.mem_append_left _ (by rw [e']; exact .head _))) (fun hw => hnn (h2 b hw)) (k12.hk b o e)
        refine ⟨d, hd, fun ρ ρ' hb' => (hfit sc ρ ρ' hb').weak fun b hm => ?_⟩
        rcases List.mem_append.mp hm with hm | hm
        · rcases h3 b hm with hm | hm
          · exact List.mem_append_left _ hm
          · exact List.mem_append_right _ (List.mem_append_left _ hm)
        · rcases List.mem_append.mp hm with hm | hm
          · exact List.mem_append_left _ (h2 b hm)
          · exact List.mem_append_right _ (List.mem_append_right _ hm)
      cases hoa : oa' with
      | none => rw [hoa] at go; exact go wr T.wn (fun b hb => hb) fun b hb => nomatch hb
      | some a =>
        rw [hoa] at go
        rcases no a hoa with e | e
        · exact go wr T.wn (fun b hb => hb) fun b hb => .inr (by rw [List.mem_singleton.mp hb, e]; exact .head _)
        · refine go (a :: wr) (fun b hb => ?_) (fun b hb => .tail _ hb) fun b hb => .inl (by rw [List.mem_singleton.mp hb]; exact .head _)
          rcases List.mem_cons.mp hb with rfl | hb
          · cases e2 : s₁.heap.get? b with
            | none => rfl
            | some o => have := k12.hk b o e2; rw [e] at this; cases this
          · exact T.wn b hb
    obtain ⟨d, hd, hfit⟩ := fit
    have hdrop : ds.drop i = d :: ds.drop (i + 1) := by
      rw [List.drop_eq_getElem_cons hlt]
      rw [List.getElem?_eq_getElem hlt] at hd
      rw [Option.some.inj hd]
    rw [hdrop, forL] at hf
    -- the turn
    have turn : ∀ r', (bindS sc S' t d).bind (fun S' => exL (ex Φ m sc n) S' body) = some r' → ∀ (Q : Flow → Shared → Prop) (E : Value → Shared → Prop),
        (∀ f h'' tk'' oa'', Step h₀ (wr ++ mb) sc env oa' hb r'.2 oa'' h'' → FlOk (wr ++ mb) h'' f r'.1 → Q f { s₂ with heap := h'', toks := tk'' }) →
        wpAny (model G.prog G.w) A (assign t env v) (fun _ s₂' => wpAny (model G.prog G.w) A (execs body env) Q E s₂') E { s₂ with heap := hb, toks := tka } := fun r' hr' Q E hQ => by
      simp only [Option.bind_eq_some_iff] at hr'
      obtain ⟨S1, hS1, hx⟩ := hr'
      have hb0 : ∃ ρ', bindT sc S'.1 t d = some ρ' := by
        unfold bindS at hS1
        simp only [Option.bind_eq_some_iff] at hS1
        obtain ⟨ρ', e, _⟩ := hS1
        exact ⟨ρ', e⟩
      obtain ⟨ρ', hρ'⟩ := hb0
      refine bindS_ok (s := { s₂ with heap := hb, toks := tka }) hA.hd qb hS1 (hfit _ _ hρ') fun hc tkc st1 => ?_
      refine nope (exL_ok IX hA hG body S1 oa' { s₂ with heap := hc, toks := tkc } r' st1.si hx) fun f s3 h3 => ?_
      obtain ⟨h3, t3, oa3, rfl, st3, fl⟩ := h3
      exact hQ f h3 t3 oa3 (st1.trans st3) fl
    have after : ∀ (S'' : Sx) (oa'' : Option Addr) (h'' : Heap), Step h₀ (wr ++ mb) sc env oa' hb S'' oa'' h'' → NewOa oa oa'' s₂.heap ∧ (∀ b o, ¬ Own env sc b → oa ≠ some b → b ∉ wr → s₂.heap.get? b = some o → h''.get? b = some o) ∧ (∀ b ∈ fp, ∀ o, hb.get? b = some o → h''.get? b = some o) := fun S'' oa'' h'' st => by
      have noa : ∀ b o, oa ≠ some b → s₂.heap.get? b = some o → oa' ≠ some b := fun b o h1 e e' => by
        rcases no b e' with q | q
        · exact h1 q
        · rw [q] at e; cases e
      refine ⟨fun a ha => ?_, fun b o h1 h2 h3 e => st.md b o h1 (noa b o h2 e) (mdb b o h1 h2 h3 e), fun b hbf o e => ?_⟩
      · rcases st.no a ha with e | e
        · exact no a e
        · by_cases h2 : oa = some a
          · exact .inl h2
          · refine .inr ?_
            cases e2 : s₂.heap.get? a with
            | none => rfl
            | some o =>
              have hno : ¬ Own env sc a ∧ a ∉ wr := by
                obtain ⟨ρ3, own3⟩ := S''
                have ow : OwnIs h₀ (wr ++ mb) sc env ρ3 own3 oa'' h'' := st.si.ow
                rw [ha] at ow
                cases own3 with
                | none => exact ow.elim
                | some w =>
                  obtain ⟨x, pl, ds⟩ := w
                  have ow : OwnAt h₀ (wr ++ mb) sc env ρ3 x pl ds a h'' := ow
                  obtain ⟨vs, ob, _⟩ := ow.ob
                  exact ⟨not_own_list st.si.fr ob.isList, fun hm => ow.off (List.mem_append_left _ hm)⟩
              rw [mdb a o hno.1 h2 hno.2 e2] at e; cases e
      · obtain ⟨o2, e2⟩ := T.fi b hbf
        have hoa : oa ≠ some b := fun e' => T.fm b hbf (List.mem_append_left _ (by rw [e']; exact .head _))
        exact st.md b o (fown b hbf) (noa b o2 hoa e2) e
    cases hg : (bindS sc S' t d).bind (fun S' => exL (ex Φ m sc n) S' body) with
    | none => rw [hg] at hf; cases hf
    | some r' =>
      rw [hg] at hf
      obtain ⟨fl', S''⟩ := r'
      refine turn _ hg _ _ fun f h'' tk'' oa'' st fl => ?_
      obtain ⟨no2, md2, fr2⟩ := after S'' oa'' h'' st
      cases fl' with
      | next =>
        have fl : f = .next := fl
        subst fl
        dsimp only at hf ⊢
        exact ⟨ds.length + 1 - (i + 1), by omega, h'', tk'', i + 1, S'', oa'', rfl, hlt, rfl, T.K.frame _ _ _ hst' fr2, st.si, no2, md2, hf⟩
      | ret d' =>
        obtain ⟨v', rfl, rv⟩ := fl
        dsimp only at hf ⊢
        cases hf
        exact hR _ h'' tk'' oa'' (fin h'' S'' oa'' st.si no2 md2) ⟨v', rfl, rv.weak fun b hm => List.mem_append_right _ hm⟩
  · have hin : i = ds.length := by omega
    subst hin
    rw [List.drop_length, forL] at hf
    cases hf
    refine T.K.done _ _ _ hst fun hd tkd kd => ?_
    refine wpAny_execs_nil ?_
    refine hR _ hd tkd oa' ⟨?_, fun b o hb ho e => kd b o (fun hw => by rw [T.wn b hw] at e; cases e) ((fin h' _ _ qi no md).md b o hb ho e), (fin h' _ _ qi no md).no⟩ rfl
    refine qi.done kd w₀ (fun b hb hw => ?_) q.lm q.cm hL hC
    obtain ⟨o, e⟩ := q.mi b (List.mem_append_right _ hb)
    rw [T.wn b hw] at e; cases e
end
end Mine

/-! M19 -/

namespace Mine

section
variable {M : Model} {A : Around} {E : Value → Shared → Prop} {s : Shared} {mu : List Addr} {sc : Names} {env : Env} {ρ : Rho}
theorem name_hv {x : Str} {pos : Pos} {v : Value} {Q : Value → Shared → Prop} (F : FrIs mu s.heap sc env ρ) (hv : HV sc env s.heap x v) (ok : okName x = true) (hq : Q v s) : wpAny M A (eval (.Name x pos) env) Q E s := by
  unfold okName at ok
  simp only [Bool.and_eq_true, Bool.not_eq_true'] at ok
  refine wpAny_Name ?_ ok.1
  rcases hv with ⟨l, m, n, e⟩ | ⟨c, c', hc, hi⟩
  · exact wpAny_loadName_local F.fn (F.lk x l) n e hq
  · rcases (F.ck x c).1 with k | k
    · exact wpAny_loadName_cell F.fn k hc hi hq
    · exact wpAny_loadName_free F.fn k hc hi hq ok.2
end

theorem slot_ok {sc : Names} {x : Str} (h : slot sc x = true) : okName x = true := by
  unfold slot at h
  simp only [Bool.and_eq_true] at h
  exact h.1

theorem swaps_sub {v o i : Expr} {p : Pos} {l : Nat} {env : Env} : swapsWith v (some (.Subscript o i p)) l env = pure false := by cases v <;> rfl
theorem swaps_name {v : Expr} {x : Str} {p : Pos} {l : Nat} {env : Env} (h : ∀ elt gens scope pos, v ≠ .ListComp elt gens scope pos) (h2 : ∀ elt gens scope pos, v ≠ .SetComp elt gens scope pos) (h3 : ∀ a b gens scope pos, v ≠ .DictComp a b gens scope pos) : swapsWith v (some (.Name x p)) l env = pure false := by
  cases v <;> first | rfl | exact absurd rfl (h _ _ _ _) | exact absurd rfl (h2 _ _ _ _) | exact absurd rfl (h3 _ _ _ _ _)

theorem evF_cases {f : Rho → Expr → Option D} {S : Sx} {e : Expr} {r : D × Sx} (h : evF f S e = some r) : (r.2 = S ∧ f S.1 e = some r.1) ∨ (r.2 = (freeze S, none) ∧ f (freeze S) e = some r.1) := by
  unfold evF at h
  split at h
  · rename_i d hd; cases h; exact .inl ⟨rfl, hd⟩
  · split at h
    · cases h
    · simp only [Option.map_eq_some_iff] at h
      obtain ⟨d, hd, rfl⟩ := h
      exact .inr ⟨rfl, hd⟩

theorem SI.evF {h₀ : Heap} {mb : List Addr} {sc : Names} {env : Env} {S : Sx} {oa : Option Addr} {h : Heap} {f : Rho → Expr → Option D} {e : Expr} {r : D × Sx} (q : SI h₀ mb sc env S oa h) (hr : evF f S e = some r) :
    ∃ oa', Step h₀ mb sc env oa h r.2 oa' h ∧ f r.2.1 e = some r.1 := by
  rcases evF_cases hr with ⟨e1, e2⟩ | ⟨e1, e2⟩
  · exact ⟨oa, e1 ▸ q.step (HK.refl _), by rw [e1]; exact e2⟩
  · exact ⟨none, e1 ▸ q.freeze, by rw [e1]; exact e2⟩

section
variable {G : Gl} {j : Nat} {Φ : Str → List D → Option D} {m n : Nat} {sc : Names} {env : Env} {h₀ : Heap} {mb : List Addr} {A : Around}

/-- x = [..] -/
theorem display_ok (IH : EvOk G j Φ m) (hA : AOk j A) (hG : Gd G h₀) {S : Sx} {oa : Option Addr} {s : Shared} {x : Str} {p lp pos : Pos} {es : List Expr} {ds : List D} (q : SI h₀ mb sc env S oa s.heap) (hs : slot sc x = true) (hn : es.all noStar = true) (hl : es.length < 1000) (h : evl (ev Φ m sc (freeze S)) es = some ds) :
    wpAny (model G.prog G.w) A (exec (.Assign [.Name x p] (.List es lp) pos) env) (ExTo h₀ mb sc env oa s (.next, (dropN x (freeze S), some (x, true, ds)))) Nope s := by
  refine wpAny_Assign_Name ?_ rfl
  have st := q.freeze
  refine List_ (nope (evl_ok IH hA (hG.keep q.hk) st.si.mi st.si.fr.toEnvIs hn h) fun vs s₁ h₁ => ?_)
  obtain ⟨⟨h1, t1, rfl, k1⟩, r1⟩ := h₁
  have elen : ∀ {es : List Expr} {ds : List D}, evl (ev Φ m sc (freeze S)) es = some ds → ds.length = es.length := by
    intro es
    induction es with
    | nil => intro ds h; simp [evl] at h; subst h; rfl
    | cons e r ih => intro ds h; simp only [evl, Option.bind_eq_some_iff, Option.map_eq_some_iff] at h; obtain ⟨d, _, dr, hr, rfl⟩ := h; simp [ih hr]
  have e1 := r1.length
  have e3 := elen h
  refine wpAny_newList ?_ (by rw [sizeLine_eq]; omega)
  dsimp only
  generalize ha : h1.objs.size = a
  have hna : h1.get? a = none := by rw [← ha]; exact new_none _
  have q1 : SI h₀ mb sc env (freeze S, none) none h1 := st.si.keep k1
  have hnm : a ∉ mb := MuIn.new (mu := mb) q1.mi hna
  have kp : HK h1 (h1.push { cls := .type "list", data := .seq vs.toArray }) := hk_push _ _
  have hob : (h1.push { cls := .type "list", data := .seq vs.toArray }).get? a = some { cls := .type "list", data := .seq vs.toArray } := by rw [← ha]; exact Heap.get?_push_size _ rfl
  have up : ∀ b o, h1.get? b = some o → b ∉ mb → b ∉ a :: mb := fun b o e nb hm => by
    rcases List.mem_cons.mp hm with rfl | hm
    · rw [hna] at e; cases e
    · exact nb hm
  have F1 : FrIs (a :: mb) (h1.push { cls := .type "list", data := .seq vs.toArray }) sc env (freeze S) := (FrIs.remu (mu := mb) q1.fr up (.tail _ q.lm) fun y c hy e => .tail _ (q.cm y c hy e)).keep kp
  have R1 : RepAll (a :: mb) (h1.push { cls := .type "list", data := .seq vs.toArray }) vs ds := (RepAll.mono (mu := mb) up (fun _ _ _ e => e) r1).keep kp.but
  refine store_raw (s := { s with heap := h1.push { cls := .type "list", data := .seq vs.toArray }, toks := t1 }) F1 hs fun h' tk b hb hw hsb ho F' hv hz => ?_
  have hab : a ≠ b := fun e => by
    have := not_own_list F1 (a := a) (its := vs.toArray) ⟨_, hob, rfl, _, rfl⟩
    exact this (e ▸ hw)
  have c : Chg (a :: mb) (h1.push { cls := .type "list", data := .seq vs.toArray }) h' := Chg.ofSame hb hsb ho
  have ko := HKO.ofSame hw hsb
  refine ⟨h', tk, some a, rfl, ⟨⟨?_, F', ?_, ?_, q.bl, q.lm, q.cm⟩, ?_, ?_⟩, rfl⟩
  · exact fun b o e => ko b o (fun w => by rw [q.bl b w] at e; cases e) (kp b o (q1.hk b o e))
  · refine c.mi fun b hm => ?_
    rcases List.mem_cons.mp hm with rfl | hm
    · exact ⟨_, hob⟩
    · obtain ⟨o, e⟩ := q1.mi b hm; exact ⟨o, kp b o e⟩
  · refine ⟨?_, hnm, dropN_none _ _, hs, hv, vs, ⟨_, hsb.extBut _ _ hab hob⟩, R1.keep c.kb⟩
    cases e : h₀.get? a with
    | none => rfl
    | some o => have := q1.hk a o e; rw [hna] at this; cases this
  · exact fun b o hb _ e => ko b o hb (kp b o (k1 b o e))
  · intro a' e
    cases e
    refine .inr ?_
    cases e : s.heap.get? a with
    | none => rfl
    | some o => have := k1 a o e; rw [hna] at this; cases this

/-- x.append(e) -/
theorem append_ok (IH : EvOk G j Φ m) (hA : AOk j A) (hG : Gd G h₀) {ρ : Rho} {oa : Option Addr} {s : Shared} {x : Str} {p ap cp pos : Pos} {a : Expr} {ds : List D} {d : D} (q : SI h₀ mb sc env (ρ, some (x, true, ds)) oa s.heap) (hn : noStar a = true) (hp : (ap.endLine == cp.line) = true) (hl : ds.length < 1000) (h : ev Φ m sc ρ a = some d) :
    wpAny (model G.prog G.w) A (exec (.Expr (.Call (.Attribute (.Name x p) ("append" : Str) ap) [a] [] cp) pos) env) (ExTo h₀ mb sc env oa s (.next, (ρ, some (x, true, ds ++ [d])))) Nope s := by
  have ow : OwnIs h₀ mb sc env ρ (some (x, true, ds)) oa s.heap := q.ow
  cases oa with
  | none => exact ow.elim
  | some l =>
    have ow : OwnAt h₀ mb sc env ρ x true ds l s.heap := ow
    obtain ⟨vs, ⟨e, ob⟩, r⟩ := ow.ob
    refine wpAny_Expr ?_ (by unfold interactive; rw [q.fr.fn]; rfl) rfl
    refine method_ok hn hp (name_hv q.fr ow.hv (slot_ok ow.sl) ?_)
    refine Calls.getMethod_list_append ob rfl rfl ?_
    refine Calls.callWith_builtin rfl (Calls.evalArgs_plain (Calls.spliced_cons (nope (IH a sc env ρ _ A s d hA (hG.keep q.hk) q.mi q.fr.toEnvIs h) fun v s₁ h₁ => Calls.spliced_nil ?_)))
    obtain ⟨⟨h1, t1, rfl, k1⟩, r1⟩ := h₁
    have elen := r.length
    refine append_at (s := { s with heap := h1, toks := t1 }) (k1 _ _ ob) (fun h2 hs2 hD2 => ?_) (by rw [List.size_toArray, sizeLine_eq]; omega)
    have q1 := q.keep k1
    have hno := not_own_list q1.fr (a := l) (its := vs.toArray) ⟨_, k1 _ _ ob, rfl, _, rfl⟩
    have c : Chg (l :: mb) h1 h2 := Chg.ofSame (.head _) hs2 ⟨_, hD2⟩
    have kl : HKB [l] h1 h2 := fun b o hb e => hs2.extBut b o (fun e' => hb (by rw [e']; exact .head _)) e
    have hLl : env.locals ∉ [l] := fun hm => hno (.inl (List.mem_singleton.mp hm).symm)
    have hCl : ∀ y c, InCell sc y → env.cells.lookup y = some c → c ∉ [l] := fun y c hy e hm => by
      obtain ⟨_, c', ov, e', o, ho, hd⟩ := q1.fr.ck y hy
      rw [e] at e'
      have : c = c' := Option.some.inj e'
      rw [← this, List.mem_singleton.mp hm, k1 _ _ ob] at ho
      cases ho; cases hd
    have F2 : FrIs (l :: mb) h2 sc env ρ := FrIs.chg (mu := l :: mb) q1.fr kl (fun b hb => by rw [List.mem_singleton.mp hb]; exact .head _) hLl hCl
    refine ⟨h2, t1, some l, rfl, ⟨⟨fun b o e => hs2.extBut b o (fun e' => by rw [e', ow.new] at e; cases e) (q1.hk b o e), F2, c.mi q1.mi, ?_, q.bl, q.lm, q.cm⟩, ?_, fun _ e => .inl e⟩, rfl⟩
    · refine ⟨ow.new, ow.off, ow.nx, ow.sl, ?_, vs ++ [v], ⟨e + 1, by rw [hD2]; simp⟩, (RepAll.append (r.keep k1.but) (.cons r1 .nil)).keep c.kb⟩
      rcases ow.hv.keep k1 with ⟨l', mm, n', e'⟩ | ⟨l', c', e', i⟩
      · exact .inl ⟨l', mm, n'.at' fun o eo => kl _ o hLl eo, e'⟩
      · obtain ⟨o, ho, hd⟩ := i
        exact .inr ⟨l', c', e', o, kl c' o (hCl x c' l' e') ho, hd⟩
    · exact fun b o hb hoa e => hs2.extBut b o (fun e' => hoa (by rw [e'])) (k1 b o e)

/-- x[i] = e -/
theorem setitem_ok (IH : EvOk G j Φ m) (hA : AOk j A) (hG : Gd G h₀) {ρ : Rho} {pl : Bool} {oa : Option Addr} {s : Shared} {x : Str} {p sp pos : Pos} {i v : Expr} {ds : List D} {d : D} {k : Int} (q : SI h₀ mb sc env (ρ, some (x, pl, ds)) oa s.heap) (h0 : 0 ≤ k) (h1 : k < ds.length) (hl : ds.length < 1000) (hv : ev Φ m sc ρ v = some d) (hi : ev Φ m sc ρ i = some (.int k)) :
    wpAny (model G.prog G.w) A (exec (.Assign [.Subscript (.Name x p) i sp] v pos) env) (ExTo h₀ mb sc env oa s (.next, (ρ, some (x, false, ds.set k.toNat d)))) Nope s := by
  have ow : OwnIs h₀ mb sc env ρ (some (x, pl, ds)) oa s.heap := q.ow
  cases oa with
  | none => exact ow.elim
  | some l =>
    refine wpAny_Assign_Subscript ?_ swaps_sub
    refine nope (IH v sc env ρ _ A s d hA (hG.keep q.hk) q.mi q.fr.toEnvIs hv) fun vv s₁ h₁ => ?_
    obtain ⟨⟨g1, t1, rfl, k1⟩, r1⟩ := h₁
    have q1 := q.keep k1
    have ow1 : OwnAt h₀ mb sc env ρ x pl ds l g1 := q1.ow
    refine name_hv q1.fr ow1.hv (slot_ok ow1.sl) ?_
    refine nope (IH i sc env ρ _ A { s with heap := g1, toks := t1 } _ hA (hG.keep q1.hk) q1.mi q1.fr.toEnvIs hi) fun iv s₂ h₂ => ?_
    obtain ⟨⟨g2, t2, rfl, k2⟩, r2⟩ := h₂
    cases r2 with | int _ t =>
    have q2 := q1.keep k2
    have ow2 : OwnAt h₀ mb sc env ρ x pl ds l g2 := q2.ow
    obtain ⟨vs, ob, r⟩ := ow2.ob
    have elen := r.length
    refine wpAny_setItem_list (s := { s with heap := g2, toks := t2 }) ob.isList h0 (by omega) (by rw [List.size_toArray]; omega) fun g3 hl3 hs3 => ?_
    have hno := not_own_list q2.fr ob.isList
    have c : Chg (l :: mb) g2 g3 := Chg.ofSame (.head _) hs3 (by obtain ⟨o, e, _⟩ := hl3; exact ⟨o, e⟩)
    have kl : HKB [l] g2 g3 := fun b o hb e => hs3.extBut b o (fun e' => hb (by rw [e']; exact .head _)) e
    have hLl : env.locals ∉ [l] := fun hm => hno (.inl (List.mem_singleton.mp hm).symm)
    have hCl : ∀ y c, InCell sc y → env.cells.lookup y = some c → c ∉ [l] := fun y c hy e hm => by
      obtain ⟨_, c', ov, e', o, ho, hd⟩ := q2.fr.ck y hy
      rw [e] at e'
      have : c = c' := Option.some.inj e'
      obtain ⟨o', eo', _, nn, hd'⟩ := ob.isList
      rw [← this, List.mem_singleton.mp hm, eo'] at ho
      cases ho; rw [hd] at hd'; cases hd'
    have F3 : FrIs (l :: mb) g3 sc env ρ := FrIs.chg (mu := l :: mb) q2.fr kl (fun b hb => by rw [List.mem_singleton.mp hb]; exact .head _) hLl hCl
    have rset : ∀ (vs : List Value) (ds : List D) (kk : Nat), RepAll (l :: mb) g3 vs ds → RepAll (l :: mb) g3 (vs.set kk vv) (ds.set kk d) := by
      intro vs
      induction vs with
      | nil => intro ds kk r; cases r; simpa using RepAll.nil
      | cons u vs ih =>
        intro ds kk r
        cases r with | cons hu hr =>
        cases kk with
        | zero => simpa using RepAll.cons ((r1.keep k2.but).keep c.kb) hr
        | succ kk => simpa using RepAll.cons hu (ih _ kk hr)
    refine ⟨g3, t2, some l, rfl, ⟨⟨fun b o e => hs3.extBut b o (fun e' => by rw [e', ow2.new] at e; cases e) (q2.hk b o e), F3, c.mi q2.mi, ?_, q.bl, q.lm, q.cm⟩, ?_, fun _ e => .inl e⟩, rfl⟩
    · refine ⟨ow2.new, ow2.off, ow2.nx, ow2.sl, ?_, vs.set k.toNat vv, ?_, rset _ _ _ (r.keep c.kb)⟩
      · rcases ow2.hv with ⟨l', mm, n', e'⟩ | ⟨l', c', e', i⟩
        · exact .inl ⟨l', mm, n'.at' fun o eo => kl _ o hLl eo, e'⟩
        · obtain ⟨o, ho, hd⟩ := i
          exact .inr ⟨l', c', e', o, kl c' o (hCl x c' l' e') ho, hd⟩
      · show g3.IsList l (vs.set k.toNat vv).toArray
        have : vs.toArray.setIfInBounds k.toNat vv = (vs.set k.toNat vv).toArray := by simp
        rw [← this]; exact hl3
    · exact fun b o hb hoa e => hs3.extBut b o (fun e' => hoa (by rw [e'])) (k2 b o (k1 b o e))
end
end Mine

/-! M20 -/

namespace Mine
section
variable {G : Gl} {j : Nat} {Φ : Str → List D → Option D} {m n : Nat} {sc : Names} {env : Env} {h₀ : Heap} {mb : List Addr} {A : Around}

/-- x = e, by the plain road -/
theorem assign_plain (IH : EvOk G j Φ m) (hA : AOk j A) (hG : Gd G h₀) {S : Sx} {oa : Option Addr} {s : Shared} {x : Str} {p pos : Pos} {v : Expr} {r : D × Sx} (q : SI h₀ mb sc env S oa s.heap) (hs : slot sc x = true) (h : evF (ev Φ m sc) S v = some r)
    (hsw : swapsWith v (some (.Name x p)) pos.line env = pure false) :
    wpAny (model G.prog G.w) A (exec (.Assign [.Name x p] v pos) env) (ExTo h₀ mb sc env oa s (.next, setN x r.1 r.2)) Nope s := by
  refine wpAny_Assign_Name ?_ hsw
  refine nope (evF_ok IH hA hG q h) fun vv s₁ h₁ => ?_
  obtain ⟨h1, t1, oa1, rfl, st1, rv⟩ := h₁
  exact setN_ok (s := { s with heap := h1, toks := t1 }) st1.si hs rv fun h2 t2 oa2 st2 => ⟨h2, t2, oa2, rfl, st1.trans st2, rfl⟩

/-- x = [.. for ..], where the store goes ahead of the block's end -/
theorem assign_used (IH : EvOk G j Φ m) (IT : IsTOk G j Φ m) (hA : AOk j A) (hG : Gd G h₀) {S : Sx} {oa : Option Addr} {s : Shared} {x : Str} {p pos cpos : Pos} {elt : Expr} {gens : List Comprehension} {scope : Scope} {r : D × Sx} (q : SI h₀ mb sc env S oa s.heap) (hs : slot sc x = true)
    (h : evF (ev Φ (m + 1) sc) S (.ListComp elt gens scope cpos) = some r)
    (hsw : swapsWith (.ListComp elt gens scope cpos) (some (.Name x p)) pos.line env = pure true) :
    wpAny (model G.prog G.w) A (exec (.Assign [.Name x p] (.ListComp elt gens scope cpos) pos) env) (ExTo h₀ mb sc env oa s (.next, setN x r.1 r.2)) Nope s := by
  obtain ⟨oa0, st0, hev⟩ := q.evF h
  obtain ⟨d, S0⟩ := r
  dsimp only at st0 hev ⊢
  rw [ev_succ] at hev
  obtain ⟨target, iter, ifs, it, ds, out, rfl, hns, ok, hit, hi, hlen, rfl, hc⟩ := comp_unpack hev
  rw [exec_Assign_Name_used _ _ _ _ hsw]
  refine wpAny_bind (wpAny_standAt (wpAny_bind ?_))
  show wpAny _ A (do let _ ← comprehension (.ListComp elt [⟨target, iter, ifs, 0⟩] scope cpos) scope env _ (newList []) false (eval iter env) (some (assign (.Name x p) env))) _ _ s
  refine wpAny_bind (wpAny_mono (comp_ok (E := Nope) (Q := fun _ s' => ExTo h₀ mb sc env oa s (.next, setN x (.list out) S0) .next s') IH IT hA (hG.keep q.hk) st0.si.mi st0.si.fr.toEnvIs hns ok hit hi hlen hc (use := some (assign (.Name x p) env)) ?_) (fun _ s' hq => wpAny_pure (wpAny_pure hq)) fun _ _ e => e)
  intro s₁ s₂ D C h' tk k₁ k₂ R
  obtain ⟨h1, t1, rfl, kk1⟩ := k₁
  obtain ⟨h2, t2, rfl, kk2⟩ := k₂
  have q1 : SI h₀ mb sc env S0 oa0 h1 := st0.si.keep kk1
  have hCw : ∀ b ∈ [C], h1.get? b = none := fun b hb => by rw [List.mem_singleton.mp hb]; exact R.cn
  obtain ⟨mm, hn⟩ := R.ns
  have q2 : SI h₀ ([C] ++ mb) sc env S0 oa0 h' := q1.more hCw R.hk fun b hb => by
    rw [List.mem_singleton.mp hb]; obtain ⟨o, _, _, e, _⟩ := hn; exact ⟨o, e⟩
  have rD : Rep (oa0.toList ++ ([C] ++ mb)) h' (.ref D) (.list out) := by
    obtain ⟨nw, ys, e, hnw, hD, hC, hne, hd, hr⟩ := R.res
    refine .list (fun hm => ?_) ⟨_, hd, rfl, e, rfl⟩ (hr.weak fun b hm => ?_)
    · rcases List.mem_append.mp hm with hm | hm
      · obtain ⟨o, eo⟩ := q1.mi D (List.mem_append_left _ hm); rw [R.dn] at eo; cases eo
      · rcases List.mem_append.mp hm with hm | hm
        · exact hne (List.mem_singleton.mp hm)
        · obtain ⟨o, eo⟩ := q1.mi D (List.mem_append_right _ hm); rw [R.dn] at eo; cases eo
    · rcases List.mem_append.mp hm with hm | hm
      · exact List.mem_append_right _ (List.mem_append_left _ hm)
      · rcases List.mem_append.mp hm with hm | hm
        · rw [List.mem_singleton.mp hm]; exact List.mem_append_left _ hC
        · exact List.mem_append_right _ (List.mem_append_right _ hm)
  show wpAny _ A (assign (.Name x p) env (.ref D)) _ _ _
  refine wpAny_assign_Name (setN_ok (s := { s with heap := h', toks := tk }) q2 hs rD fun h3 t3 oa3 st3 => ?_)
  -- the block's own names stand yet
  have hCo : ¬ Own env sc C := fun ho => by
    rcases ho with e | ⟨y, hy, e⟩
    · obtain ⟨m2, ⟨o, _, _, eo, _⟩, _⟩ := q1.fr.ns
      rw [← e, R.cn] at eo; cases eo
    · obtain ⟨_, c', ov, e', o, eo, _⟩ := q1.fr.ck y (.inl hy)
      rw [e] at e'
      have : C = c' := Option.some.inj e'
      rw [← this, R.cn] at eo; cases eo
  have hoC : oa0 ≠ some C := fun e => by
    obtain ⟨o, eo⟩ := q1.mi C (List.mem_append_left _ (by rw [e]; exact .head _))
    rw [R.cn] at eo; cases eo
  refine ⟨mm, hn.at' fun o e => st3.md C o hCo hoC e, fun h4 hs4 => ?_⟩
  have kC : HKB [C] h3 h4 := fun b o hb e => hs4.extBut b o (fun e' => hb (by rw [e']; exact .head _)) e
  have w₀ : ∀ b ∈ [C], h₀.get? b = none := fun b hb => by
    rw [List.mem_singleton.mp hb]
    cases e : h₀.get? C with
    | none => rfl
    | some o => have := q1.hk C o e; rw [R.cn] at this; cases this
  have q4 : SI h₀ mb sc env (setN x (.list out) S0) oa3 h4 := by
    refine st3.si.done kC w₀ (fun b hb hm => ?_) q.lm q.cm (fun hm => hCo (.inl (List.mem_singleton.mp hm).symm)) fun y c hy e hm => ?_
    · obtain ⟨o, e⟩ := q1.mi b (List.mem_append_right _ hb)
      rw [List.mem_singleton.mp hm, R.cn] at e; cases e
    · obtain ⟨_, c', ov, e', o, eo, _⟩ := q1.fr.ck y hy
      rw [e] at e'
      have : c = c' := Option.some.inj e'
      rw [← this, List.mem_singleton.mp hm, R.cn] at eo; cases eo
  refine ⟨h4, t3, oa3, rfl, st0.trans ⟨q4, fun b o hb hoa e => ?_, fun a ha => ?_⟩, rfl⟩
  · exact kC b o (fun hm => by rw [List.mem_singleton.mp hm] at e; have := kk1 C o e; rw [R.cn] at this; cases this) (st3.md b o hb hoa (R.hk b o (kk1 b o e)))
  · refine (st3.no a ha).imp id fun e => ?_
    cases e2 : s.heap.get? a with
    | none => rfl
    | some o => have := R.hk a o (kk1 a o e2); rw [e] at this; cases this

/-- a, b = (call, e) -/
theorem swapped_two {a b : Str} {pa pb p p2 : Pos} {k k2 : Nat} {e1 e2 : Expr} (h1 : isCall e1 = true) : (swappedStores [.Tuple [.Name a pa, .Name b pb] k p] (.Tuple [e1, e2] k2 p2) env = pure none) ∨ (swappedStores [.Tuple [.Name a pa, .Name b pb] k p] (.Tuple [e1, e2] k2 p2) env = pure (some [a, b])) := by
  have hc : constantsAlone 8 e1 = false := by cases e1 <;> first | rfl | cases h1
  have hf : foldedForSure 8 e1 = false := by cases e1 <;> first | rfl | cases h1
  unfold swappedStores
  dsimp only
  split
  · exact .inl rfl
  · split
    · exact .inl rfl
    · split
      · exact .inl rfl
      · rename_i hnames
        have ha : (([e1, e2] : List Expr).all (foldedForSure 8)) = false := by simp [hf]
        have hb : (([e1, e2] : List Expr).all (constantsAlone 8)) = false := by simp [hc]
        rw [ha, hb]
        refine .inr ?_
        have : (([.Name a pa, .Name b pb] : List Expr).filterMap fun x => match x with | .Name id pos => if (env.kindOf id == some NameKind.local && pos.line == ((([.Name a pa, .Name b pb] : List Expr).head?.map (fun x => x.pos.line)).getD 0)) = true then some id else none | _ => none) = [a, b] := by
          simp only [Bool.or_eq_true, not_or] at hnames
          have hl := hnames.1
          simp only [List.filterMap_cons, List.filterMap_nil] at hl ⊢
          split at hl <;> split at hl <;> simp_all
        exact congrArg (fun l => (pure (some l) : Sem (Option (List Str)))) this
end
end Mine

/-! M21 -/

namespace Mine
section
variable {G : Gl} {j : Nat} {Φ : Str → List D → Option D} {m n : Nat} {sc : Names} {env : Env} {h₀ : Heap} {mb : List Addr} {A : Around}

theorem tuple_assign (IH : EvOk G j Φ m) (hA : AOk j A) (hG : Gd G h₀) {S S' : Sx} {oa : Option Addr} {s : Shared} {a b : Str} {pa pb p p2 pos : Pos} {k k2 : Nat} {e1 e2 : Expr} {r : D × Sx} (q : SI h₀ mb sc env S oa s.heap) (h1 : isCall e1 = true) (hab : (a == b) = false) (h : evF (ev Φ m sc) S (.Tuple [e1, e2] k2 p2) = some r)
    (hb : bindS sc r.2 (.Tuple [.Name a pa, .Name b pb] k p) r.1 = some S') :
    wpAny (model G.prog G.w) A (exec (.Assign [.Tuple [.Name a pa, .Name b pb] k p] (.Tuple [e1, e2] k2 p2) pos) env) (ExTo h₀ mb sc env oa s (.next, S')) Nope s := by
  have hb' := hb
  unfold bindS at hb'
  simp only [Option.bind_eq_some_iff] at hb'
  obtain ⟨ρ', hρ, hown⟩ := hb'
  rcases swapped_two (env := env) (k := k) (p := p) (k2 := k2) (p2 := p2) (pa := pa) (pb := pb) (a := a) (b := b) (e2 := e2) h1 with hw | hw
  · refine Assign_Tuple (nope (evF_ok IH hA hG q h) fun v s₁ h₁ => ?_) rfl hw
    obtain ⟨g1, t1, oa1, rfl, st1, rv⟩ := h₁
    exact bindS_ok (s := { s with heap := g1, toks := t1 }) hA.hd st1.si hb (fits_of rv hρ) fun h' tk st => ⟨h', tk, oa1, rfl, st1.trans st, rfl⟩
  · refine Assign_Tuple_swapped (nope (evF_ok IH hA hG q h) fun v s₁ h₁ => ?_) rfl hw
    obtain ⟨g1, t1, oa1, rfl, st1, rv⟩ := h₁
    obtain ⟨d, ρ, own⟩ := r
    dsimp only at rv hρ hown st1 ⊢
    rcases bindT_inv hρ with ⟨x, p, e, _, _⟩ | ⟨es, k, p, ds, e, rfl, _, hρ⟩
    · cases e
    cases e
    obtain ⟨_, _, d1, ds, e, rfl, hsa, hρ⟩ := bindTs_cons hρ
    cases e
    obtain ⟨_, _, d2, ds, e, rfl, hsb', hρ⟩ := bindTs_cons hρ
    cases e
    obtain ⟨rfl, rfl⟩ := bindTs_nil hρ
    cases rv with | @tup T _ _ ha hl hr =>
    obtain ⟨v1, vs, rfl, r1, hr⟩ := hr.consv
    obtain ⟨v2, vs, rfl, r2, hr⟩ := hr.consv
    obtain rfl := hr.nilv
    have hlt : g1.IsTuple T #[v1, v2] := hl.isTup
    show wpAny _ A (unpackItems (.ref T) (#[v1, v2] : Array Value).size none) _ _ _
    refine wpAny_unpackItems_tuple (items := #[v1, v2]) (s := { s with heap := g1, toks := t1 }) hA.hd hlt fun h' he => ?_
    have k1 : HK g1 h' := fun b o e => he b o (Nat.ne_of_lt (Heap.lt_size e)) e
    have q1 := st1.si.keep k1
    show wpAny _ A (assignInOrder [bindName env b, bindName env a] [v2, v1]) _ _ _
    refine wpAny_assignInOrder_more (wpAny_bindName (store_ok (s := { s with heap := h', toks := t1 }) q1.fr hsb' (r2.keep k1.but) fun h2 t2 c2 hc2 ho2 hs2 hx2 F2 hz2 => ?_))
    have ch2 := Chg.ofSame hc2 hs2 hx2
    refine wpAny_assignInOrder_more (wpAny_bindName (store_ok (s := { s with heap := h2, toks := t2 }) F2 hsa ((r1.keep k1.but).keep ch2.kb) fun h3 t3 c3 hc3 ho3 hs3 hx3 F3 hz3 => ?_))
    refine wpAny_assignInOrder_none ?_
    have ch3 := Chg.ofSame hc3 hs3 hx3
    have hne : a ≠ b := fun e => by rw [e] at hab; simp at hab
    have F' : FrIs (oa1.toList ++ mb) h3 sc env ((b, d2) :: (a, d1) :: ρ) := F3.sub fun y e hy => by
      rw [List.lookup_cons] at hy
      rw [List.lookup_cons, List.lookup_cons]
      rw [List.lookup_cons] at hy
      cases h1 : y == a with
      | true =>
        have : (y == b) = false := by rw [beq_iff_eq.mp h1]; exact hab
        rw [this, h1] at hy; exact hy
      | false => rw [h1] at hy; exact hy
    have st : Step h₀ mb sc env oa1 h' S' oa1 h3 := by
      have hS : S' = ((b, d2) :: (a, d1) :: ρ, own) ∧ ∀ x pl ds, own = some (x, pl, ds) → List.lookup x ((b, d2) :: (a, d1) :: ρ) = none := by
        cases own with
        | none => cases hown; exact ⟨rfl, fun _ _ _ e => nomatch e⟩
        | some w =>
          obtain ⟨y, pl, ds⟩ := w
          dsimp only at hown
          split at hown
          · rename_i hn
            cases hown; exact ⟨rfl, fun _ _ _ e => by cases e; exact hn⟩
          · cases hown
      rw [hS.1]
      refine own_store q1 ((HKO.ofSame ho2 hs2).trans (HKO.ofSame ho3 hs3)) (ch2.trans ch3) F' (fun z u hn p => ?_) hS.2
      have hzb : z ≠ b := fun e => by rw [e] at hn; simp [List.lookup_cons] at hn
      have hza : z ≠ a := fun e => by
        rw [e, List.lookup_cons, List.lookup_cons, hab] at hn; simp at hn
      exact hz3 z u hza (hz2 z u hzb p)
    exact ⟨h3, t3, oa1, rfl, st1.trans ((st1.si.step k1).trans st), rfl⟩

/-- x = e -/
theorem assign_name (hB : BiOk G) (hΦ : PhiOk G j Φ) (hA : AOk j A) (hG : Gd G h₀) {S : Sx} {oa : Option Addr} {s : Shared} {x : Str} {p pos : Pos} {v : Expr} {r : D × Sx} (q : SI h₀ mb sc env S oa s.heap) (hs : slot sc x = true) (h : evF (ev Φ (m + 1) sc) S v = some r) :
    wpAny (model G.prog G.w) A (exec (.Assign [.Name x p] v pos) env) (ExTo h₀ mb sc env oa s (.next, setN x r.1 r.2)) Nope s := by
  have I1 := ev_sound hB hΦ (m + 1)
  have I0 := ev_sound hB hΦ m
  have hn : ∀ {e : Expr}, (∀ ρ, ev Φ (m + 1) sc ρ e = none) → evF (ev Φ (m + 1) sc) S e = some r → False := fun hn h => by
    rcases evF_cases h with ⟨_, e2⟩ | ⟨_, e2⟩ <;> rw [hn] at e2 <;> cases e2
  cases v with
  | ListComp elt gens scope cpos =>
    have : ∃ c, swapsWith (.ListComp elt gens scope cpos) (some (.Name x p)) pos.line env = pure c := ⟨_, rfl⟩
    obtain ⟨c, hc⟩ := this
    cases c with
    | true => exact assign_used I0.1 I0.2 hA hG q hs h hc
    | false => exact assign_plain I1.1 hA hG q hs h hc
  | SetComp => exact (hn (fun ρ => rfl) h).elim
  | DictComp => exact (hn (fun ρ => rfl) h).elim
  | _ => exact assign_plain I1.1 hA hG q hs h rfl
end
end Mine

/-! M22 -/

namespace Mine
section
variable {G : Gl} {j : Nat} {Φ : Str → List D → Option D} {m n : Nat} {sc : Names} {env : Env} {h₀ : Heap} {mb : List Addr} {A : Around}

theorem for_iter (IH : EvOk G j Φ m) (IX : ExOk G j Φ m n) (hA : AOk j A) (hG : Gd G h₀) {t it : Expr} {body : List Stmt} {pos : Pos} {S : Sx} {oa : Option Addr} {s : Shared} {r : D × Sx} {ds : List D} {r' : Fl × Sx} (q : SI h₀ mb sc env S oa s.heap) (hns : notSet it = true)
    (h : evF (ev Φ m sc) S it = some r) (hi : items r.1 = some ds) (hl : ds.length < 1000) (hf : forL (fun S d => (bindS sc S t d).bind fun S' => exL (ex Φ m sc n) S' body) r.2 ds = some r') :
    wpAny (model G.prog G.w) A (exec (.For t it body [] pos) env) (ExTo h₀ mb sc env oa s r') Nope s := by
  refine wpAny_For (nope (evF_ok IH hA hG q h) fun v s₁ h₁ => ?_) (notSet_folded hns)
  obtain ⟨g1, t1, oa1, rfl, st1, rv⟩ := h₁
  refine nope (E := Nope) (iter_ok (t := t) hA.hd st1.si.mi rv hi hl) fun it s₂ h₂ => ?_
  obtain ⟨kp, I, fp, wr, P, Md, St, rfl, T⟩ := h₂
  obtain ⟨g2, t2, e2, k2⟩ := id kp
  refine for_ok IX hA hG st1.si kp T hf fun f h' tk oa' st fl => ?_
  exact ⟨h', tk, oa', by rw [e2], st1.trans st, fl⟩

theorem for_zip (hZ : ZipOk G) (IH : EvOk G j Φ m) (IX : ExOk G j Φ m n) (hA : AOk j A) (hG : Gd G h₀) {es : List Expr} {kk : Nat} {tp : Pos} {a1 a2 : Expr} {zp cp : Pos} {body : List Stmt} {pos : Pos} {S : Sx} {oa : Option Addr} {s : Shared} {as bs : List D} {r' : Fl × Sx} (q : SI h₀ mb sc env S oa s.heap)
    (gz : sc.lookup ("zip" : Str) = some .globalImplicit) (n1 : noStar a1 = true) (n2 : noStar a2 = true) (h1 : ev Φ m sc S.1 a1 = some (.list as)) (h2 : ev Φ m sc S.1 a2 = some (.list bs))
    (hf : forL (fun S d => (bindS sc S (.Tuple es kk tp) d).bind fun S' => exL (ex Φ m sc n) S' body) S (zipD as bs) = some r') :
    wpAny (model G.prog G.w) A (exec (.For (.Tuple es kk tp) (.Call (.Name ("zip" : Str) zp) [a1, a2] [] cp) body [] pos) env) (ExTo h₀ mb sc env oa s r') Nope s := by
  have hs : [a1, a2].all noStar = true := by simp [n1, n2]
  have ha : evl (ev Φ m sc S.1) [a1, a2] = some [.list as, .list bs] := by simp [evl, h1, h2]
  have hGs := hG.keep q.hk
  have hargs := evl_ok IH hA (pos := cp) hGs q.mi q.fr.toEnvIs hs ha
  refine wpAny_For ?_ (notSet_folded rfl)
  refine Call_Name rfl ?_
  refine bi_ok q.fr.toEnvIs hGs gz (by decide +kernel) hZ.1 hZ.2 (by decide +kernel) ?_
  refine PyProof.Rows.callWith_type (plain_any hs) (evalArgs_ok hs (nope hargs fun vs s₁ h₁ => ?_))
  obtain ⟨k1, r1⟩ := h₁
  cases r1 with | cons ra r1 =>
  cases r1 with | cons rb r1 =>
  cases r1 with | nil =>
  obtain ⟨g1, t1, rfl, kk1⟩ := k1
  have q1 := q.keep kk1
  refine nope (zip_ok (es := es) (kk := kk) (pos := tp) (E := Nope) hA.hd q1.mi ra rb) fun z s₂ h₂ => ?_
  refine nope h₂ fun it s₃ h₃ => ?_
  obtain ⟨kp, I, fp, wr, P, Md, St, rfl, T⟩ := h₃
  obtain ⟨g2, t2, e2, k2⟩ := id kp
  refine for_ok IX hA hG q1 kp T hf fun f h' tk oa' st fl => ?_
  exact ⟨h', tk, oa', by rw [e2], (q.step kk1).trans st, fl⟩

theorem ex_step (hB : BiOk G) (hZ : ZipOk G) (hΦ : PhiOk G j Φ) (IX : ExOk G j Φ (m + 1) n) : ExOk G j Φ (m + 1) (n + 1) := by
  intro st sc env h₀ mb S oa A s r hA hG q h
  have I1 := ev_sound hB hΦ (m + 1)
  rw [ex_succ] at h
  cases st with
  | Assign ts v pos =>
    dsimp only [exB] at h
    split at h
    · rename_i x p
      split at h
      · rename_i hs
        split at h
        · rename_i es lp
          split at h
          · rename_i hc
            simp only [Bool.and_eq_true, decide_eq_true_eq] at hc
            simp only [Option.map_eq_some_iff] at h
            obtain ⟨ds, hds, rfl⟩ := h
            exact display_ok I1.1 hA hG q hs hc.1 hc.2 hds
          · cases h
        · simp only [Option.map_eq_some_iff] at h
          obtain ⟨r1, hr1, rfl⟩ := h
          exact assign_name hB hΦ hA hG q hs hr1
      · cases h
    · rename_i a pa b pb k p
      split at h
      · rename_i e1 e2 k2 p2
        split at h
        · rename_i hc
          simp only [Bool.and_eq_true, Bool.not_eq_true'] at hc
          simp only [Option.bind_eq_some_iff, Option.map_eq_some_iff] at h
          obtain ⟨r1, hr1, S', hS', rfl⟩ := h
          exact tuple_assign I1.1 hA hG q hc.1.1 hc.2 hr1 hS'
        · cases h
      · cases h
    · rename_i x p i sp
      obtain ⟨ρ, own⟩ := S
      dsimp only at h
      split at h
      · rename_i y pl ds
        split at h
        · rename_i hxy
          have : x = y := beq_iff_eq.mp hxy
          subst this
          split at h
          · rename_i d k hd hk
            split at h
            · rename_i hb
              cases h
              exact setitem_ok I1.1 hA hG q hb.1 hb.2.1 hb.2.2 hd hk
            · cases h
          · cases h
        · cases h
      · cases h
    · cases h
  | Expr e pos =>
    dsimp only [exB] at h
    split at h
    · rename_i x p nm ap a cp
      obtain ⟨ρ, own⟩ := S
      dsimp only at h
      split at h
      · rename_i y ds
        split at h
        · rename_i hc
          simp only [Bool.and_eq_true, decide_eq_true_eq] at hc
          obtain ⟨⟨⟨⟨c1, c2⟩, c3⟩, c4⟩, c5⟩ := hc
          have : x = y := beq_iff_eq.mp c1
          subst this
          have : nm = ("append" : Str) := beq_iff_eq.mp c2
          subst this
          simp only [Option.map_eq_some_iff] at h
          obtain ⟨d, hd, rfl⟩ := h
          exact append_ok I1.1 hA hG q c3 c4 c5 hd
        · cases h
      · cases h
    · cases h
  | If t b o pos =>
    dsimp only [exB] at h
    simp only [Option.bind_eq_some_iff] at h
    obtain ⟨⟨d, S1⟩, hr1, h⟩ := h
    dsimp only at h
    split at h
    · refine wpAny_If (nope (tsF_ok I1.2 hA hG q hr1) fun c s₁ h₁ => ?_)
      obtain ⟨g1, t1, oa1, rfl, st1, rfl⟩ := h₁
      exact nope (exL_ok IX hA hG b S1 oa1 { s with heap := g1, toks := t1 } r st1.si h) fun f s' h' => h'.from st1
    · refine wpAny_If (nope (tsF_ok I1.2 hA hG q hr1) fun c s₁ h₁ => ?_)
      obtain ⟨g1, t1, oa1, rfl, st1, rfl⟩ := h₁
      exact nope (exL_ok IX hA hG o S1 oa1 { s with heap := g1, toks := t1 } r st1.si h) fun f s' h' => h'.from st1
    · cases h
  | Return e pos =>
    dsimp only [exB] at h
    split at h
    · simp only [Option.map_eq_some_iff] at h
      obtain ⟨r1, hr1, rfl⟩ := h
      refine wpAny_Return_some (nope (evF_ok I1.1 hA hG q hr1) fun v s₁ h₁ => ?_)
      obtain ⟨g1, t1, oa1, rfl, st1, rv⟩ := h₁
      exact ⟨g1, t1, oa1, rfl, st1, v, rfl, rv.weak fun b hm => List.mem_append_right _ hm⟩
    · cases h
  | For t it b o pos =>
    dsimp only [exB] at h
    split at h
    · split at h
      · rename_i z zp a1 a2 cp
        split at h
        · rename_i hz
          have : z = ("zip" : Str) := beq_iff_eq.mp hz
          subst this
          split at h
          · rename_i hc
            simp only [Bool.and_eq_true] at hc
            split at h
            · split at h
              · rename_i as bs e1 e2
                split at h
                · exact for_zip hZ I1.1 IX hA hG q (beq_iff_eq.mp hc.1.1) hc.1.2 hc.2 e1 e2 h
                · cases h
              · cases h
            · cases h
          · cases h
        · simp only [Option.bind_eq_some_iff] at h
          obtain ⟨r1, hr1, ds, hds, h⟩ := h
          split at h
          · rename_i hl
            exact for_iter I1.1 IX hA hG q rfl hr1 hds hl h
          · cases h
      · split at h
        · rename_i hns
          simp only [Option.bind_eq_some_iff] at h
          obtain ⟨r1, hr1, ds, hds, h⟩ := h
          split at h
          · rename_i hl
            exact for_iter I1.1 IX hA hG q hns hr1 hds hl h
          · cases h
        · cases h
    · cases h
  | _ => dsimp only [exB] at h; cases h

theorem ex_sound (hB : BiOk G) (hZ : ZipOk G) (hΦ : PhiOk G j Φ) : ∀ n, ExOk G j Φ (m + 1) n
  | 0 => fun st sc env h₀ mb S oa A s r hA hG q h => by cases h
  | n + 1 => ex_step hB hZ hΦ (ex_sound hB hZ hΦ n)
end
end Mine

/-! M23 -/

namespace Mine

noncomputable def mbOf (env : Env) (mu : List Addr) : List Addr := env.locals :: ((env.scope.names.filterMap fun p => if p.2 == NameKind.cell then env.cells.lookup p.1 else none) ++ mu)

theorem frame_si {mu : List Addr} {h h₁ : Heap} {env : Env} {ρ : Rho} {m cm : Str → Option Value} (hk : HK h h₁) (fn : env.scope.kind = .function) (gl : env.globals = mainGlobals) (bu : env.builtins = builtinsNs)
    (hnd : nodupN env.scope.names = true) (hnf : ∀ p ∈ env.scope.names, p.2 ≠ .free) (hL : h.get? env.locals = none) (hns : h₁.Ns env.locals m)
    (hcell : ∀ x, env.scope.names.lookup x = some .cell → ∃ c, env.cells.lookup x = some c ∧ h₁.IsCell c (cm x) ∧ h.get? c = none)
    (apart : ∀ x y c, env.cells.lookup x = some c → env.cells.lookup y = some c → x = y) (hM : MuIn mu h)
    (hρ : ∀ x d, ρ.lookup x = some d → okName x = true ∧ ((env.scope.names.lookup x = some .local ∧ ∃ v, m x = some v ∧ Rep mu h v d) ∨ (env.scope.names.lookup x = some .cell ∧ ∃ v, cm x = some v ∧ Rep mu h v d))) :
    SI h (mbOf env mu) env.scope.names env (ρ, none) none h₁ := by
  have nofree : ∀ x, env.scope.names.lookup x ≠ some .free := fun x e => hnf _ (mem_of_lookup e) rfl
  have inc : ∀ x, InCell env.scope.names x → env.scope.names.lookup x = some .cell := fun x hx => hx.elim id fun e => (nofree x e).elim
  have newc : ∀ b, b ∈ (env.scope.names.filterMap fun p => if p.2 == NameKind.cell then env.cells.lookup p.1 else none) → h.get? b = none ∧ ∃ o, h₁.get? b = some o := fun b hb => by
    obtain ⟨p, hp, e⟩ := List.mem_filterMap.mp hb
    split at e
    · rename_i hc
      obtain ⟨x, k⟩ := p
      have : k = .cell := beq_iff_eq.mp hc
      subst this
      obtain ⟨c, e1, ⟨o, e2, _⟩, e3⟩ := hcell x (nodup_mem hnd hp)
      have : c = b := Option.some.inj (e1.symm.trans e)
      subst this
      exact ⟨e3, o, e2⟩
    · cases e
  have cmem : ∀ x c, env.scope.names.lookup x = some .cell → env.cells.lookup x = some c → c ∈ mbOf env mu := fun x c hx e => by
    refine .tail _ (List.mem_append_left _ (List.mem_filterMap.mpr ⟨(x, .cell), mem_of_lookup hx, ?_⟩))
    exact e
  have up : ∀ b o, h.get? b = some o → b ∉ mu → b ∉ mbOf env mu := fun b o e n hm => by
    rcases List.mem_cons.mp hm with hm | hm
    · rw [hm, hL] at e; cases e
    · rcases List.mem_append.mp hm with hm | hm
      · rw [(newc b hm).1] at e; cases e
      · exact n hm
  have rep : ∀ {v : Value} {d : D}, Rep mu h v d → Rep (mbOf env mu) h₁ v d := fun r => (r.mono up (fun _ _ _ e => e)).keep hk.but
  refine ⟨hk, ⟨⟨fn, gl, bu, fun x e => e, fun x e => e, fun x hx => ?_, ⟨m, hns, fun x d e l => ?_⟩, fun x d e c => ?_, fun x d e => ?_⟩, .head _, cmem, fun x y c _ _ e1 e2 => apart x y c e1 e2, fun x e => e⟩, fun b hb => ?_, trivial, fun b hb => ?_, .head _, cmem⟩
  · obtain ⟨c, e1, e2, _⟩ := hcell x (inc x hx)
    exact ⟨.inl (inc x hx), c, _, e1, e2⟩
  · obtain ⟨_, ⟨_, v, e1, r⟩ | ⟨c, _⟩⟩ := hρ x d e
    · exact ⟨v, e1, rep r⟩
    · rw [l] at c; cases c
  · have c := inc x c
    obtain ⟨_, ⟨l, _⟩ | ⟨_, v, e1, r⟩⟩ := hρ x d e
    · rw [l] at c; cases c
    · obtain ⟨c', e2, e3, _⟩ := hcell x c
      rw [e1] at e3
      exact ⟨c', v, e2, e3, rep r⟩
  · obtain ⟨ok, ⟨l, _⟩ | ⟨c, _⟩⟩ := hρ x d e
    · exact ⟨ok, .inl l⟩
    · exact ⟨ok, .inr (.inl c)⟩
  · rcases List.mem_cons.mp hb with hm | hm
    · obtain ⟨o, _, _, e, _⟩ := hns
      exact ⟨o, hm ▸ e⟩
    · rcases List.mem_append.mp hm with hm | hm
      · exact (newc b hm).2
      · obtain ⟨o, e⟩ := hM b hm; exact ⟨o, hk b o e⟩
  · rcases hb with rfl | ⟨x, hx, e⟩
    · exact hL
    · obtain ⟨c, e1, _, e3⟩ := hcell x hx
      rw [e] at e1; cases e1; exact e3

theorem bindL_out {kd : Str → Option NameKind} {x : Str} : ∀ (ps : List Str) (vs : List Value) (m : Str → Option Value), x ∉ ps → bindL kd (ps.zip vs) m x = m x
  | [], _, _, _ => rfl
  | _ :: _, [], _, _ => rfl
  | p :: ps, v :: vs, m, h => by
    have hne : x ≠ p := fun e => h (by rw [e]; exact .head _)
    show bindL kd (ps.zip vs) _ x = m x
    rw [bindL_out ps vs _ fun q => h (.tail _ q)]
    split
    · simp [hne]
    · rfl
theorem bindC_out {kd : Str → Option NameKind} {x : Str} : ∀ (ps : List Str) (vs : List Value) (m : Str → Option Value), x ∉ ps → bindC kd (ps.zip vs) m x = m x
  | [], _, _, _ => rfl
  | _ :: _, [], _, _ => rfl
  | p :: ps, v :: vs, m, h => by
    have hne : x ≠ p := fun e => h (by rw [e]; exact .head _)
    show bindC kd (ps.zip vs) _ x = m x
    rw [bindC_out ps vs _ fun q => h (.tail _ q)]
    split
    · rfl
    · simp [hne]
theorem bind_in {kd : Str → Option NameKind} {x : Str} {mu : List Addr} {h : Heap} {d : D} : ∀ (ps : List Str) (vs : List Value) (as : List D) (m cm : Str → Option Value), ps.Nodup → RepAll mu h vs as → (ps.zip as).lookup x = some d →
    ∃ v, Rep mu h v d ∧ x ∈ ps ∧ (kd x = some .local → bindL kd (ps.zip vs) m x = some v) ∧ (kd x ≠ some .local → bindC kd (ps.zip vs) cm x = some v)
  | [], _, _, _, _, _, _, e => by simp at e
  | _ :: _, [], _, _, _, _, r, e => by cases r; simp at e
  | p :: ps, v :: vs, [], _, _, _, r, e => by cases r
  | p :: ps, v :: vs, a :: as, m, cm, hnd, r, e => by
    obtain ⟨h1, h2⟩ := List.nodup_cons.mp hnd
    cases r with | cons rv r =>
    rw [List.zip_cons_cons, List.lookup_cons] at e
    cases hb : x == p with
    | true =>
      rw [hb] at e
      have hx : x = p := beq_iff_eq.mp hb
      have hd : a = d := Option.some.inj e
      subst hx hd
      refine ⟨v, rv, .head _, fun hl => ?_, fun hl => ?_⟩
      · show bindL kd (ps.zip vs) _ x = _
        rw [bindL_out ps vs _ h1, if_pos hl]; simp
      · show bindC kd (ps.zip vs) _ x = _
        rw [bindC_out ps vs _ h1, if_neg hl]; simp
    | false =>
      rw [hb] at e
      obtain ⟨v', r', hm, k1, k2⟩ := bind_in ps vs as (if kd p = some .local then fun y => if y = p then some v else m y else m) (if kd p = some .local then cm else fun y => if y = p then some v else cm y) h2 r e
      exact ⟨v', r', .tail _ hm, k1, k2⟩

noncomputable def nodupS : List Str → Bool
  | [] => true
  | p :: r => !(r.contains p) && nodupS r
theorem nodupS_ok : ∀ {l : List Str}, nodupS l = true → l.Nodup
  | [], _ => List.nodup_nil
  | p :: r, h => by
    rw [nodupS, Bool.and_eq_true] at h
    refine List.nodup_cons.mpr ⟨fun hm => ?_, nodupS_ok h.2⟩
    have := h.1
    rw [List.contains_iff_mem.mpr hm] at this
    cases this
/-- what is asked of a function, by its spelling -/
noncomputable def fnOk (fd : FuncData) (ps : List Str) : Bool :=
  fd.closure.isEmpty && decide (fd.globals = mainGlobals) && decide (fd.builtins = builtinsNs) && fd.scope.kind == .function && !fd.scope.isCoroutine && !fd.scope.isGenerator && nodupN fd.scope.names && nodupS ps && ps.all (slot fd.scope.names) && fd.scope.names.all fun p => !(p.2 == NameKind.free)

noncomputable def runP (Φ : Str → List D → Option D) (m n : Nat) (sc : Names) (ps : List Str) (body : List Stmt) (as : List D) : Option D :=
  match exL (ex Φ m sc n) (ps.zip as, none) body with
  | some (.ret d, _) => some d
  | _ => none

theorem contract {G : Gl} {j : Nat} {Φ : Str → List D → Option D} {m n : Nat} (hB : BiOk G) (hZ : ZipOk G) (hΦ : PhiOk G j Φ) {f : Addr} {oc : Value} {od : Option Addr} {osl : Array (Option Value)} {fd : FuncData} {body : List Stmt} {ps : List Str} {as : List D} {d : D}
    (ho : G.K.lookup f = some ⟨oc, od, .func fd, osl⟩) (hb : fd.body = .stmts body) (hcd : codeIn G.K fd.code fd.qualname = true) (ok : fnOk fd ps = true)
    (hbind : ∀ vals : List Value, vals.length = ps.length → bindArgs fd ⟨vals, []⟩ = pure (ps.zip vals)) (hlen : as.length = ps.length) (hrun : runP Φ (m + 1) n fd.scope.names ps body as = some d) : Contract G (j + 1) f as d := by
  intro A mu s vs hA hG hM hR
  unfold fnOk at ok
  simp only [Bool.and_eq_true, decide_eq_true_eq, Bool.not_eq_true', List.isEmpty_iff] at ok
  obtain ⟨⟨⟨⟨⟨⟨⟨⟨⟨o1, o2⟩, o3⟩, o4⟩, o5⟩, o6⟩, o7⟩, o8⟩, o9⟩, o10⟩ := ok
  have o4 := beq_iff_eq.mp o4
  unfold runP at hrun
  split at hrun
  · rename_i d' S' hex
    cases hrun
    refine wpAny_call (codeAny_call_cells (fd := fd) (binds := ps.zip vs) (by have := hA.dp; omega) (hG.X _ _ ho) rfl hG.T.nolimit (codeRec_of hG.X hcd) hb (hbind vs (by rw [hR.length, hlen])) o1 (fun x hx => ?_) (fun s₁ X => ?_) o5 o6 o4)
    · have hm := (List.of_mem_zip (show (x.1, x.2) ∈ ps.zip vs from hx)).1
      have := List.all_eq_true.mp o9 _ hm
      unfold slot at this
      simp only [Bool.and_eq_true, Bool.or_eq_true, beq_iff_eq] at this
      exact this.2.imp id fun e => ⟨e, cellsFrom_some _ _ _ (.inl e)⟩
    · obtain ⟨h₁, tk, rfl, k₁⟩ := X.done
      have gone : ∀ c : Nat, s.heap.objs.size ≤ c → s.heap.get? c = none := fun c hc => by
        cases q : s.heap.get? c with
        | none => rfl
        | some o => exact absurd (Heap.lt_size q) (Nat.not_lt.mpr hc)
      have q : SI s.heap (mbOf (callEnvC fd s.heap.objs.size f) mu) fd.scope.names (callEnvC fd s.heap.objs.size f) (ps.zip as, none) none h₁ := by
        refine frame_si (env := callEnvC fd s.heap.objs.size f) (cm := bindC (callEnvC fd s.heap.objs.size f).kindOf (ps.zip vs) fun _ => none) k₁ o4 o2 o3 o7 (fun p hp e => ?_) (gone _ (Nat.le_refl _)) X.toInCall.ns (fun x hx => ?_) (fun x y c e1 e2 => name_of_addr X.apart (mem_of_lookup e1) (mem_of_lookup e2)) hM fun x d hx => ?_
        · have := List.all_eq_true.mp o10 p hp
          rw [e] at this; cases this
        · have hx' : fd.scope.names.lookup x = some .cell := hx
          obtain ⟨c, e⟩ := Option.isSome_iff_exists.mp (cellsFrom_some fd.scope.names (s.heap.objs.size + 1) [] (x := x) (.inl hx'))
          exact ⟨c, e, X.cell x c e, gone c (Nat.le_of_lt (X.above x c (mem_of_lookup e)))⟩
        · obtain ⟨v, r, hm, k1, k2⟩ := bind_in (kd := (callEnvC fd s.heap.objs.size f).kindOf) ps vs as (fun _ => none) (fun _ => none) (nodupS_ok o8) hR hx
          have := List.all_eq_true.mp o9 _ hm
          unfold slot at this
          simp only [Bool.and_eq_true, Bool.or_eq_true, beq_iff_eq] at this
          refine ⟨this.1, this.2.imp (fun e => ⟨e, v, k1 e, r⟩) fun e => ⟨e, v, k2 (fun e' => ?_), r⟩⟩
          exact nomatch (Option.some.inj (Eq.trans (Eq.symm e') e))
      refine nope (exL_ok (ex_sound hB hZ hΦ n) (hA.deeper (env := callEnvC fd s.heap.objs.size f)) hG body _ none { s with heap := h₁, toks := tk } _ q hex) fun fl s' h' => ?_
      obtain ⟨h2, t2, oa2, rfl, st, v, rfl, rv⟩ := h'
      exact ⟨⟨h2, t2, rfl, st.si.hk⟩, rv.weak fun b hm => .tail _ (List.mem_append_right _ hm)⟩
  · cases hrun
end Mine

/-! M24 -/

namespace Mine
noncomputable def fdAt (P : Params) (a : Addr) : FuncData := match (Mine.K P).lookup a with
  | some ⟨_, _, .func fd, _⟩ => fd
  | _ => default
noncomputable def bodyOf (fd : FuncData) : List Stmt := match fd.body with
  | .stmts b => b
  | _ => []
noncomputable def glo (w : World) (mg mb : Str → Option Value) : Gl := ⟨PySem.Challenge.rw_mq0103_01.row.prog, w, Mine.K w.params, Mine.vw, looseW Mine.vw [], mg, mb⟩
noncomputable def run (P : Params) (Φ : Str → List D → Option D) (a : Addr) (ps : List Str) (as : List D) : Option D := runP Φ 13 13 (fdAt P a).scope.names ps (bodyOf (fdAt P a)) as

noncomputable def tab : List (Str × Addr × List Str) :=
  [("median_low", 34, ["data"]), ("median_high", 41, ["data"]), ("rgb_to_hls", 48, ["r", "g", "b"]), ("_law_orders", 55, []), ("_law_colour", 62, ["number"]), ("_law_against", 67, ["row"]), ("_law_fewest", 72, ["row"]),
   ("_law_hue", 79, ["colour"]), ("_law_sixths", 84, ["row", "places"]), ("_law_told", 89, ["places"]), ("_law_half", 94, ["row", "places", "corner"]), ("law", 99, ["script"])]
noncomputable def phi (P : Params) : Nat → Str → List D → Option D
  | 0, _, _ => none
  | j + 1, f, as => match tab.lookup f with
    | some (a, ps) => if as.length = ps.length then run P (phi P j) a ps as else none
    | none => none

structure RowOk (P : Params) (f : Str) (a : Addr) (ps : List Str) : Prop where
  ns : nsIn (Mine.K P) mainGlobals f = some (some (.ref a))
  kp : keepIn (Mine.K P) (.ref a) = true
  lk : ∃ oc od osl, (Mine.K P).lookup a = some ⟨oc, od, .func (fdAt P a), osl⟩
  bd : (fdAt P a).body = .stmts (bodyOf (fdAt P a))
  cd : codeIn (Mine.K P) (fdAt P a).code (fdAt P a).qualname = true
  ok : fnOk (fdAt P a) ps = true
  bi : ∀ vals : List Value, vals.length = ps.length → bindArgs (fdAt P a) ⟨vals, []⟩ = pure (ps.zip vals)

theorem bind0 {fd : FuncData} (h : bindArgs fd ⟨[], []⟩ = pure []) : ∀ vals : List Value, vals.length = ([] : List Str).length → bindArgs fd ⟨vals, []⟩ = pure (([] : List Str).zip vals)
  | [], _ => h
theorem bind1 {fd : FuncData} {p : Str} (h : ∀ v, bindArgs fd ⟨[v], []⟩ = pure [(p, v)]) : ∀ vals : List Value, vals.length = [p].length → bindArgs fd ⟨vals, []⟩ = pure ([p].zip vals)
  | [v], _ => h v
theorem bind2 {fd : FuncData} {p q : Str} (h : ∀ v u, bindArgs fd ⟨[v, u], []⟩ = pure [(p, v), (q, u)]) : ∀ vals : List Value, vals.length = [p, q].length → bindArgs fd ⟨vals, []⟩ = pure ([p, q].zip vals)
  | [v, u], _ => h v u
theorem bind3 {fd : FuncData} {p q r : Str} (h : ∀ v u t, bindArgs fd ⟨[v, u, t], []⟩ = pure [(p, v), (q, u), (r, t)]) : ∀ vals : List Value, vals.length = [p, q, r].length → bindArgs fd ⟨vals, []⟩ = pure ([p, q, r].zip vals)
  | [v, u, t], _ => h v u t

theorem row_low (P : Params) : RowOk P "median_low" 34 ["data"] := ⟨by kernel_rfl, by kernel_rfl, ⟨_, _, _, rfl⟩, by kernel_rfl, by kernel_rfl, by kernel_rfl, bind1 fun v => by kernel_rfl⟩
theorem row_high (P : Params) : RowOk P "median_high" 41 ["data"] := ⟨by kernel_rfl, by kernel_rfl, ⟨_, _, _, rfl⟩, by kernel_rfl, by kernel_rfl, by kernel_rfl, bind1 fun v => by kernel_rfl⟩
theorem row_hls (P : Params) : RowOk P "rgb_to_hls" 48 ["r", "g", "b"] := ⟨by kernel_rfl, by kernel_rfl, ⟨_, _, _, rfl⟩, by kernel_rfl, by kernel_rfl, by kernel_rfl, bind3 fun v u t => by kernel_rfl⟩
theorem row_orders (P : Params) : RowOk P "_law_orders" 55 [] := ⟨by kernel_rfl, by kernel_rfl, ⟨_, _, _, rfl⟩, by kernel_rfl, by kernel_rfl, by kernel_rfl, bind0 (by kernel_rfl)⟩
theorem row_colour (P : Params) : RowOk P "_law_colour" 62 ["number"] := ⟨by kernel_rfl, by kernel_rfl, ⟨_, _, _, rfl⟩, by kernel_rfl, by kernel_rfl, by kernel_rfl, bind1 fun v => by kernel_rfl⟩
theorem row_against (P : Params) : RowOk P "_law_against" 67 ["row"] := ⟨by kernel_rfl, by kernel_rfl, ⟨_, _, _, rfl⟩, by kernel_rfl, by kernel_rfl, by kernel_rfl, bind1 fun v => by kernel_rfl⟩
theorem row_fewest (P : Params) : RowOk P "_law_fewest" 72 ["row"] := ⟨by kernel_rfl, by kernel_rfl, ⟨_, _, _, rfl⟩, by kernel_rfl, by kernel_rfl, by kernel_rfl, bind1 fun v => by kernel_rfl⟩
theorem row_hue (P : Params) : RowOk P "_law_hue" 79 ["colour"] := ⟨by kernel_rfl, by kernel_rfl, ⟨_, _, _, rfl⟩, by kernel_rfl, by kernel_rfl, by kernel_rfl, bind1 fun v => by kernel_rfl⟩
theorem row_sixths (P : Params) : RowOk P "_law_sixths" 84 ["row", "places"] := ⟨by kernel_rfl, by kernel_rfl, ⟨_, _, _, rfl⟩, by kernel_rfl, by kernel_rfl, by kernel_rfl, bind2 fun v u => by kernel_rfl⟩
theorem row_told (P : Params) : RowOk P "_law_told" 89 ["places"] := ⟨by kernel_rfl, by kernel_rfl, ⟨_, _, _, rfl⟩, by kernel_rfl, by kernel_rfl, by kernel_rfl, bind1 fun v => by kernel_rfl⟩
theorem row_half (P : Params) : RowOk P "_law_half" 94 ["row", "places", "corner"] := ⟨by kernel_rfl, by kernel_rfl, ⟨_, _, _, rfl⟩, by kernel_rfl, by kernel_rfl, by kernel_rfl, bind3 fun v u t => by kernel_rfl⟩
theorem row_law (P : Params) : RowOk P "law" 99 ["script"] := ⟨by kernel_rfl, by kernel_rfl, ⟨_, _, _, rfl⟩, by kernel_rfl, by kernel_rfl, by kernel_rfl, bind1 fun v => by kernel_rfl⟩

theorem rows_ok (P : Params) : ∀ p ∈ tab, RowOk P p.1 p.2.1 p.2.2 := by
  intro p hp
  simp only [tab, List.mem_cons, List.not_mem_nil, or_false] at hp
  rcases hp with rfl | rfl | rfl | rfl | rfl | rfl | rfl | rfl | rfl | rfl | rfl | rfl
  · exact row_low P
  · exact row_high P
  · exact row_hls P
  · exact row_orders P
  · exact row_colour P
  · exact row_against P
  · exact row_fewest P
  · exact row_hue P
  · exact row_sixths P
  · exact row_told P
  · exact row_half P
  · exact row_law P

theorem biOk (w : World) (mg mb : Str → Option Value) : BiOk (glo w mg mb) := by
  intro x b h
  unfold biOf at h
  repeat' (split at h)
  all_goals first
    | (rename_i hx; cases h; rw [beq_iff_eq.mp hx]; exact ⟨by kernel_rfl, by kernel_rfl, by decide +kernel⟩)
    | cases h
theorem zipOk (w : World) (mg mb : Str → Option Value) : ZipOk (glo w mg mb) := ⟨by kernel_rfl, by kernel_rfl⟩

theorem phiOk (w : World) (mg mb : Str → Option Value) : ∀ j, PhiOk (glo w mg mb) j (phi w.params j)
  | 0 => fun f as d h => by cases h
  | j + 1 => fun f as d h => by
    unfold phi at h
    split at h
    · rename_i a ps hl
      split at h
      · rename_i hlen
        have r := rows_ok w.params _ (mem_of_lookup hl)
        obtain ⟨oc, od, osl, lk⟩ := r.lk
        exact ⟨a, r.ns, r.kp, contract (m := 12) (n := 13) (biOk w mg mb) (zipOk w mg mb) (phiOk w mg mb j) lk r.bd r.cd r.ok r.bi hlen h⟩
      · cases h
    · cases h
end Mine

/-! M25 -/

namespace Mine
theorem rep_intsL {mu : List Addr} {h : Heap} : ∀ {vs : List Value} {ns : List Int}, IntsAre vs ns → RepAll mu h vs (ns.map D.int)
  | _, _, .nil => .nil
  | _, _, .cons n t r => .cons (.int n t) (rep_intsL r)

theorem law_run {w : World} {mg mb : Str → Option Value} {s₁ : Shared} {h₁ : Heap} {a L : Addr} {vs : List Value} {ns : List Int} {tk : Nat} {env : Env} {body : List Stmt} {m : Str → Option Value} {A : Around}
    (hp : run w.params (phi w.params 6) 99 ["script"] [.list (ns.map .int)] = some (.bool true))
    (hA : AOk 6 A) (KX : Frag.In (Mine.K w.params) s₁.heap) (T : TopRead Mine.vw (looseW Mine.vw []) mg mb s₁.heap) (hL : s₁.heap.IsList a vs.toArray) (hI : IntsAre vs ns)
    (F : Fr s₁.heap L h₁ m) (hm : m "script" = some (.ref a)) (hLn : s₁.heap.get? L = none) (eb : body = bodyOf (fdAt w.params 99)) (es : env.scope.names = (fdAt w.params 99).scope.names) (ek : env.scope.kind = .function) (el : env.locals = L) (eg : env.globals = mainGlobals) (ebu : env.builtins = builtinsNs) (ec : env.cells = []) :
    wpAny (model PySem.Challenge.rw_mq0103_01.row.prog w) A (execs body env) (fun f s' => f = .ret (.bool true) ∧ ∃ h' tk' m', s' = { s₁ with heap := h', toks := tk' } ∧ Fr s₁.heap L h' m') Nope { s₁ with heap := h₁, toks := tk } := by
  unfold run runP at hp
  split at hp
  · rename_i d' S' hex
    cases hp
    rw [← es, ← eb] at hex
    have ok := (row_law w.params).ok
    unfold fnOk at ok
    simp only [Bool.and_eq_true, decide_eq_true_eq, Bool.not_eq_true', List.isEmpty_iff] at ok
    obtain ⟨⟨⟨⟨⟨⟨⟨⟨⟨o1, o2⟩, o3⟩, o4⟩, o5⟩, o6⟩, o7⟩, o8⟩, o9⟩, o10⟩ := ok
    have q : SI s₁.heap (mbOf env []) env.scope.names env ([("script", .list (ns.map .int))], none) none h₁ := by
      refine frame_si (env := env) (m := m) (cm := fun _ => none) F.keep ek eg ebu (by rw [es]; exact o7) (fun p hp e => ?_) (by rw [el]; exact hLn) (by rw [el]; exact F.ns) (fun x hx => ?_) (fun x y c e1 e2 => ?_) (fun _ hb => nomatch hb) fun x d hx => ?_
      · rw [es] at hp
        have := List.all_eq_true.mp o10 p hp
        rw [e] at this; cases this
      · rw [es] at hx
        have nc : (fdAt w.params 99).scope.names.all (fun p => !(p.2 == NameKind.cell)) = true := by kernel_rfl
        exact absurd (List.all_eq_true.mp nc _ (mem_of_lookup hx)) (fun h => by cases h)
      · rw [ec] at e1; cases e1
      · rw [List.lookup_cons] at hx
        cases hb : x == ("script" : Str) with
        | false => rw [hb] at hx; cases hx
        | true =>
          rw [hb] at hx
          cases hx
          rw [beq_iff_eq.mp hb]
          refine ⟨by kernel_rfl, .inl ⟨by rw [es]; kernel_rfl, _, hm, .list (fun h => nomatch h) hL (rep_intsL hI)⟩⟩
    refine nope (exL_ok (ex_sound (biOk w mg mb) (zipOk w mg mb) (phiOk w mg mb 6) 13) hA ⟨KX, T⟩ body _ none { s₁ with heap := h₁, toks := tk } _ q hex) fun fl s' h' => ?_
    obtain ⟨h2, t2, oa2, rfl, st, v, rfl, rv⟩ := h'
    cases rv
    obtain ⟨m2, hn, _⟩ := st.si.fr.ns
    exact ⟨rfl, h2, t2, m2, rfl, by rw [← el]; exact hn, st.si.hk, F.above⟩
  · cases hp

theorem callerOk : AOk 7 callerA := ⟨rfl, by decide +kernel, by decide +kernel⟩
theorem law_holds (hp : ∀ (P : Params) (ns : List Int), ns.length ≤ 63 → run P (phi P 6) 99 ["script"] [.list (ns.map .int)] = some (.bool true)) : PySem.Challenge.rw_mq0103_01.Holds := Mine.hd (by rfl) (by rfl) (by rfl) (by
  generalize hq : Mine.vw = q
  k_go0
  subst hq
  rename_i w _ s₁ mg mb _ fa _ _ _ _ _ _ _ hg KX _ _ _ _ ns _ _ _ _ _ _ _ a vs _ hL _ _ _ hI _ hc _ _ h₁ F _ _ _ T _ _ _ _ _
  refine nope (law_run (mg := mg) (mb := mb) (hp w.params ns (by omega)) callerOk.deeper KX (topRead_of T) hL hI F rfl (new_none _) (by kernel_rfl) (by kernel_rfl) rfl rfl rfl rfl rfl) fun f s' h' => ?_
  obtain ⟨rfl, h', tk', m', rfl, F'⟩ := h'
  exact goodW_bool F' hg (by intro cls; rfl) (by first | wrow_post | decide) (by rfl))
end Mine

/-! FL1 -/

namespace Mine
open PySem.Float64

/-- the unit: one is 65536 of it -/
noncomputable def u : Nat := 2 ^ 1058
theorem u_pos : 0 < u := Nat.two_pow_pos _
theorem one_u : 2 ^ 1074 = 65536 * u := by unfold u; decide +kernel
theorem top_u : 2 * (2 ^ 53 * u) < (2 ^ 54 - 1) * 2 ^ 2045 := by unfold u; decide +kernel

theorem rep_u (a : Nat) (h : a < 2 ^ 53) : ∃ t, V t = a * u := by
  rcases Nat.eq_zero_or_pos a with rfl | hp
  · exact ⟨0, by rw [V_zero, Nat.zero_mul]⟩
  · have h1 : 2 ^ a.log2 ≤ a := Nat.log2_self_le (by omega)
    have h2 : a < 2 ^ (a.log2 + 1) := Nat.lt_log2_self
    have h3 : a.log2 < 53 := (Nat.log2_lt (by omega)).mpr h
    refine ⟨(1058 - (52 - a.log2)) * 2 ^ 52 + a * 2 ^ (52 - a.log2), ?_⟩
    have e : (2 : Nat) ^ 52 = 2 ^ a.log2 * 2 ^ (52 - a.log2) := by rw [← Nat.pow_add]; congr 1; omega
    have e2 : (2 : Nat) ^ 53 = 2 ^ (a.log2 + 1) * 2 ^ (52 - a.log2) := by rw [← Nat.pow_add]; congr 1; omega
    rw [V_at]
    · rw [Nat.mul_assoc, ← Nat.pow_add]
      unfold u
      congr 2
      omega
    · rw [e2]; exact Nat.mul_le_mul_right _ (Nat.le_of_lt h2)
    · left; rw [e]; exact Nat.mul_le_mul_right _ h1

theorem right_in {r : UInt64} {neg : Bool} {W D a b : Nat} (h : Right r neg W D) (hD : 0 < D) (hb : b < 2 ^ 53) (h1 : D * (a * u) ≤ W) (h2 : W ≤ D * (b * u)) :
    (∃ m e, decode r = .fin neg m e) ∧ ∃ v : Nat, val r = sgn neg v ∧ a * u ≤ v ∧ v ≤ b * u := by
  obtain ⟨t, rfl, hle, hov, hn⟩ := h
  have hab : a * u ≤ b * u := Nat.le_of_mul_le_mul_left (Nat.le_trans h1 h2) hD
  have ha : a ≤ b := Nat.le_of_mul_le_mul_right hab u_pos
  have hlt : t < infMag := by
    rcases Nat.lt_or_eq_of_le hle with h | h
    · exact h
    · exfalso
      have h3 := hov.mp h
      have h4 : 2 * W ≤ D * (2 * (2 ^ 53 * u)) := by
        have : D * (b * u) ≤ D * (2 ^ 53 * u) := Nat.mul_le_mul_left _ (Nat.mul_le_mul_right _ (Nat.le_of_lt hb))
        calc 2 * W ≤ 2 * (D * (2 ^ 53 * u)) := Nat.mul_le_mul_left _ (Nat.le_trans h2 this)
          _ = D * (2 * (2 ^ 53 * u)) := by ac_rfl
      have h5 : D * (2 * (2 ^ 53 * u)) < D * ((2 ^ 54 - 1) * 2 ^ 2045) := Nat.mul_lt_mul_of_pos_left top_u hD
      omega
  obtain ⟨m, e, hd, _⟩ := decode_pack neg hlt
  refine ⟨⟨m, e, hd⟩, V t, val_pack neg hlt, ?_, ?_⟩
  · obtain ⟨t', ht'⟩ := rep_u a (Nat.lt_of_le_of_lt ha hb)
    have := (hn hlt t').1
    rw [ht'] at this
    refine Nat.le_of_not_lt fun q => ?_
    have q2 : D * V t < D * (a * u) := Nat.mul_lt_mul_of_pos_left q hD
    unfold dist at this
    omega
  · obtain ⟨t', ht'⟩ := rep_u b hb
    have := (hn hlt t').1
    rw [ht'] at this
    refine Nat.le_of_not_lt fun q => ?_
    have q2 : D * (b * u) < D * V t := Nat.mul_lt_mul_of_pos_left q hD
    unfold dist at this
    omega

/-- the float lies between lo and hi, in 65536ths -/
structure Iv (x : UInt64) (lo hi : Int) : Prop where
  fin : isFinite x = true
  lo : lo * u ≤ val x
  hi : val x ≤ hi * u

theorem fin_dec {x : UInt64} {a : Bool} {m : Nat} {e : Int} (h : decode x = .fin a m e) : isFinite x = true := by unfold isFinite; rw [h]
theorem Iv.mono {x : UInt64} {lo hi lo' hi' : Int} (h : Iv x lo hi) (h1 : lo' ≤ lo) (h2 : hi ≤ hi') : Iv x lo' hi' :=
  ⟨h.fin, Int.le_trans (Int.mul_le_mul_of_nonneg_right h1 (Int.natCast_nonneg _)) h.lo, Int.le_trans h.hi (Int.mul_le_mul_of_nonneg_right h2 (Int.natCast_nonneg _))⟩
theorem toNat_u {a : Int} (h : 0 ≤ a) : ((a.toNat * u : Nat) : Int) = a * u := by rw [Int.natCast_mul, Int.toNat_of_nonneg h]

theorem pos_in {r : UInt64} {W D : Nat} {lo hi : Int} (h : Right r false W D) (hD : 0 < D) (hb : hi < 2 ^ 53) (h0 : 0 ≤ lo) (h1 : D * (lo * u) ≤ W) (h2 : W ≤ D * (hi * u)) : Iv r lo hi := by
  have hh : 0 ≤ hi := by
    refine Int.not_lt.mp fun q => ?_
    have a1 : (D : Int) * (hi * u) < 0 := Int.mul_neg_of_pos_of_neg (by omega) (Int.mul_neg_of_neg_of_pos q (by have := u_pos; omega))
    omega
  obtain ⟨⟨m, e, hd⟩, v, hv, a1, a2⟩ := right_in (a := lo.toNat) (b := hi.toNat) h hD (by omega) (by
    have : ((D * (lo.toNat * u) : Nat) : Int) ≤ (W : Int) := by rw [Int.natCast_mul, toNat_u h0]; exact h1
    exact Int.ofNat_le.mp this) (by
    have : (W : Int) ≤ ((D * (hi.toNat * u) : Nat) : Int) := by rw [Int.natCast_mul, toNat_u hh]; exact h2
    exact Int.ofNat_le.mp this)
  refine ⟨fin_dec hd, ?_, ?_⟩
  · rw [hv, ← toNat_u h0]; exact Int.ofNat_le.mpr a1
  · rw [hv, ← toNat_u hh]; exact Int.ofNat_le.mpr a2
theorem neg_in {r : UInt64} {W D : Nat} {lo hi : Int} (h : Right r true W D) (hD : 0 < D) (hb : -2 ^ 53 < lo) (h0 : hi ≤ 0) (h1 : W ≤ D * (-lo * u)) (h2 : D * (-hi * u) ≤ W) : Iv r lo hi := by
  have hh : 0 ≤ -lo := by
    refine Int.not_lt.mp fun q => ?_
    have a1 : (D : Int) * (-lo * u) < 0 := Int.mul_neg_of_pos_of_neg (by omega) (Int.mul_neg_of_neg_of_pos q (by have := u_pos; omega))
    omega
  have h0' : 0 ≤ -hi := by omega
  obtain ⟨⟨m, e, hd⟩, v, hv, a1, a2⟩ := right_in (a := (-hi).toNat) (b := (-lo).toNat) h hD (by omega) (by
    have : ((D * ((-hi).toNat * u) : Nat) : Int) ≤ (W : Int) := by rw [Int.natCast_mul, toNat_u h0']; exact h2
    exact Int.ofNat_le.mp this) (by
    have : (W : Int) ≤ ((D * ((-lo).toNat * u) : Nat) : Int) := by rw [Int.natCast_mul, toNat_u hh]; exact h1
    exact Int.ofNat_le.mp this)
  have b1 : -hi * (u : Int) ≤ v := by rw [← toNat_u h0']; exact Int.ofNat_le.mpr a1
  have b2 : (v : Int) ≤ -lo * (u : Int) := by rw [← toNat_u hh]; exact Int.ofNat_le.mpr a2
  rw [Int.neg_mul] at b1 b2
  have hv' : val r = -(v : Int) := hv
  exact ⟨fin_dec hd, by omega, by omega⟩

theorem zero_in {b : Bool} {lo hi : Int} (h1 : lo ≤ 0) (h2 : 0 ≤ hi) : Iv (zero b) lo hi := by
  have hv : val (zero b) = 0 := by cases b <;> decide +kernel
  have hf : isFinite (zero b) = true := by cases b <;> decide +kernel
  refine ⟨hf, ?_, ?_⟩
  · rw [hv]; exact Int.mul_nonpos_of_nonpos_of_nonneg h1 (Int.natCast_nonneg _)
  · rw [hv]; exact Int.mul_nonneg h2 (Int.natCast_nonneg _)

theorem sum_in {s : Int} {r : UInt64} {lo hi : Int} (h0 : s = 0 → ∃ b, r = zero b) (h1 : s ≠ 0 → Right r (decide (s < 0)) s.natAbs 1) (hlo : lo * u ≤ s) (hhi : s ≤ hi * u) (bl : -2 ^ 53 < lo) (bh : hi < 2 ^ 53) : Iv r lo hi := by
  have up : (0 : Int) < u := by have := u_pos; omega
  rcases Int.lt_trichotomy s 0 with h | h | h
  · have hr := h1 (by omega)
    rw [decide_eq_true h] at hr
    have hl0 : lo < 0 := by
      refine Int.not_le.mp fun q => ?_
      have := Int.mul_nonneg q (Int.le_of_lt up); omega
    by_cases hh : hi ≤ 0
    · exact neg_in hr (by decide) bl hh (by rw [Int.neg_mul]; omega) (by rw [Int.neg_mul]; omega)
    · exact (neg_in (hi := 0) hr (by decide) bl (by decide) (by rw [Int.neg_mul]; omega) (by omega)).mono (Int.le_refl _) (by omega)
  · obtain ⟨b, rfl⟩ := h0 h
    refine zero_in ?_ ?_
    · refine Int.not_lt.mp fun q => ?_
      have := Int.mul_pos q up; omega
    · refine Int.not_lt.mp fun q => ?_
      have := Int.mul_neg_of_neg_of_pos q up; omega
  · have hr := h1 (by omega)
    rw [decide_eq_false (by omega)] at hr
    by_cases hh : 0 ≤ lo
    · exact pos_in hr (by decide) bh hh (by omega) (by omega)
    · exact (pos_in (lo := 0) hr (by decide) bh (by decide) (by omega) (by omega)).mono (by omega) (Int.le_refl _)

theorem add_in {x y : UInt64} {a b c d : Int} (hx : Iv x a b) (hy : Iv y c d) (bl : -2 ^ 53 < a + c) (bh : b + d < 2 ^ 53) : Iv (add x y) (a + c) (b + d) := by
  obtain ⟨sa, m, e, hdx⟩ := fin_of hx.fin
  obtain ⟨sb, k, f, hdy⟩ := fin_of hy.fin
  have h := add_right hdx hdy
  refine sum_in (s := val x + val y) (fun q => ⟨_, h.1 q⟩) h.2 ?_ ?_ bl bh
  · have := hx.lo; have := hy.lo; rw [Int.add_mul]; omega
  · have := hx.hi; have := hy.hi; rw [Int.add_mul]; omega
theorem sub_in {x y : UInt64} {a b c d : Int} (hx : Iv x a b) (hy : Iv y c d) (bl : -2 ^ 53 < a - d) (bh : b - c < 2 ^ 53) : Iv (sub x y) (a - d) (b - c) := by
  obtain ⟨sa, m, e, hdx⟩ := fin_of hx.fin
  obtain ⟨sb, k, f, hdy⟩ := fin_of hy.fin
  have h := sub_right hdx hdy
  refine sum_in (s := val x - val y) (fun q => ⟨_, h.1 q⟩) h.2 ?_ ?_ bl bh
  · have := hx.lo; have := hy.hi; rw [Int.sub_mul]; omega
  · have := hx.hi; have := hy.lo; rw [Int.sub_mul]; omega
end Mine

/-! FL2 -/

namespace Mine
open PySem.Float64

theorem up : (0 : Int) < u := by have := u_pos; omega
theorem one_uZ : (2 : Int) ^ 1074 = 65536 * u := by
  have := congrArg (Int.ofNat) one_u
  simpa using this

theorem Iv.pos {x : UInt64} {a b : Int} (h : Iv x a b) (ha : 0 < a) : 0 < val x := Int.lt_of_lt_of_le (Int.mul_pos ha up) h.lo
theorem Iv.neg {x : UInt64} {a b : Int} (h : Iv x a b) (hb : b < 0) : val x < 0 := Int.lt_of_le_of_lt h.hi (Int.mul_neg_of_neg_of_pos hb up)
theorem dec_pos {x : UInt64} (hf : isFinite x = true) (h : 0 < val x) : ∃ m e, decode x = .fin false m e ∧ m ≠ 0 := by
  obtain ⟨a, m, e, hd⟩ := fin_of hf
  have hv := val_eq hd
  cases a with
  | true => rw [hv] at h; unfold sgn at h; simp only [if_true] at h; omega
  | false =>
    refine ⟨m, e, hd, fun q => ?_⟩
    rw [hv, q] at h; simp [sgn] at h
theorem dec_neg {x : UInt64} (hf : isFinite x = true) (h : val x < 0) : ∃ m e, decode x = .fin true m e ∧ m ≠ 0 := by
  obtain ⟨a, m, e, hd⟩ := fin_of hf
  have hv := val_eq hd
  cases a with
  | false => rw [hv] at h; unfold sgn at h; simp only [Bool.false_eq_true, if_false] at h; omega
  | true =>
    refine ⟨m, e, hd, fun q => ?_⟩
    rw [hv, q] at h; simp [sgn] at h
theorem nz_pos {x : UInt64} (hf : isFinite x = true) (h : 0 < val x) : isZero x = false := by
  obtain ⟨m, e, hd, hm⟩ := dec_pos hf h
  unfold isZero; rw [hd]
  cases m with
  | zero => exact absurd rfl hm
  | succ m => rfl
theorem nz_neg {x : UInt64} (hf : isFinite x = true) (h : val x < 0) : isZero x = false := by
  obtain ⟨m, e, hd, hm⟩ := dec_neg hf h
  unfold isZero; rw [hd]
  cases m with
  | zero => exact absurd rfl hm
  | succ m => rfl
theorem Iv.nz {x : UInt64} {a b : Int} (h : Iv x a b) (ha : 0 < a) : isZero x = false := nz_pos h.fin (h.pos ha)
theorem Iv.ok {x : UInt64} {a b : Int} (h : Iv x a b) (ha : 0 < a) : fltOk x = true := by
  unfold fltOk
  rw [h.fin, Bool.true_and]
  have hp := h.pos ha
  rw [bne_iff_ne]
  rintro rfl
  exact absurd hp (by decide +kernel)
theorem Iv.okN {x : UInt64} {a b : Int} (h : Iv x a b) (hb : b < 0) : fltOk x = true := by
  unfold fltOk
  rw [h.fin, Bool.true_and]
  have hp := h.neg hb
  rw [bne_iff_ne]
  rintro rfl
  exact absurd hp (by decide +kernel)
theorem Iv.ex {x : UInt64} {a : Int} (h : Iv x a a) : val x = a * u := Int.le_antisymm h.hi h.lo

theorem part_in {k : Int} (h0 : 0 ≤ k) (h1 : k ≤ 256) : Iv (intDiv k 256) (256 * k) (256 * k) := by
  have e : intDiv k 256 = ofFrac false k.toNat 256 := by
    unfold intDiv
    rw [decide_eq_false (by omega)]
    congr 1
    omega
  rw [e]
  have hw : k.toNat * 2 ^ 1074 * 1 = k.toNat * (256 * u) * 256 := by
    rw [one_u, show (65536 : Nat) = 256 * 256 from rfl]
    generalize u = U
    ac_rfl
  have hr : Right (ofFrac false k.toNat 256) false (k.toNat * (256 * u)) 1 := ofFrac_right (by decide) hw (by decide)
  have hW : ((k.toNat * (256 * u) : Nat) : Int) = 256 * k * u := by
    rw [Int.natCast_mul, Int.natCast_mul, Int.toNat_of_nonneg h0]
    generalize (u : Int) = U
    show k * (256 * U) = 256 * k * U
    ac_rfl
  exact pos_in hr (by decide) (by omega) (by omega) (by rw [hW]; omega) (by rw [hW]; omega)

theorem div_in {x y : UInt64} {a b c d lo hi : Int} (hx : Iv x a b) (hy : Iv y c d) (ha : 0 < a) (hc : 0 < c) (h0 : 0 ≤ lo) (hh : hi < 2 ^ 53) (h1 : d * lo ≤ 65536 * a) (h2 : 65536 * b ≤ c * hi) : Iv (div x y) lo hi := by
  obtain ⟨m, e, hdx, hm⟩ := dec_pos hx.fin (hx.pos ha)
  obtain ⟨k, f, hdy, hk⟩ := dec_pos hy.fin (hy.pos hc)
  have hr := div_right hdx hdy hk
  have px := hx.pos ha
  have py := hy.pos hc
  have ex : ((val x).natAbs : Int) = val x := by omega
  have ey : ((val y).natAbs : Int) = val y := by omega
  have hi0 : 0 ≤ hi := by
    refine Int.not_lt.mp fun q => ?_
    have : c * hi < 0 := Int.mul_neg_of_pos_of_neg hc q
    have hb : a ≤ b := by
      refine Int.not_lt.mp fun q2 => ?_
      have := Int.mul_lt_mul_of_pos_right q2 up
      have := hx.lo; have := hx.hi; omega
    omega
  have hW : (((val x).natAbs * 2 ^ 1074 : Nat) : Int) = val x * (65536 * u) := by
    rw [one_u, Int.natCast_mul, ex]; simp
  refine pos_in (W := (val x).natAbs * 2 ^ 1074) (D := (val y).natAbs) (by simpa using hr) (by omega) hh h0 ?_ ?_
  · rw [hW, ey]
    have s1 : val y * (lo * u) ≤ (d * u) * (lo * u) := Int.mul_le_mul_of_nonneg_right hy.hi (Int.mul_nonneg h0 (Int.le_of_lt up))
    have s2 : (d * u) * (lo * u) ≤ (a * u) * (65536 * u) := by
      have := Int.mul_le_mul_of_nonneg_right h1 (Int.mul_nonneg (Int.le_of_lt up) (Int.le_of_lt up))
      generalize (u : Int) = U at *
      have e1 : d * U * (lo * U) = d * lo * (U * U) := by ac_rfl
      have e2 : a * U * (65536 * U) = 65536 * a * (U * U) := by ac_rfl
      rw [e1, e2]; exact this
    have s3 : (a * u) * (65536 * u) ≤ val x * (65536 * u) := Int.mul_le_mul_of_nonneg_right hx.lo (Int.mul_nonneg (by decide) (Int.le_of_lt up))
    omega
  · rw [hW, ey]
    have s1 : val x * (65536 * u) ≤ (b * u) * (65536 * u) := Int.mul_le_mul_of_nonneg_right hx.hi (Int.mul_nonneg (by decide) (Int.le_of_lt up))
    have s2 : (b * u) * (65536 * u) ≤ (c * u) * (hi * u) := by
      have := Int.mul_le_mul_of_nonneg_right h2 (Int.mul_nonneg (Int.le_of_lt up) (Int.le_of_lt up))
      generalize (u : Int) = U at *
      have e1 : b * U * (65536 * U) = 65536 * b * (U * U) := by ac_rfl
      have e2 : c * U * (hi * U) = c * hi * (U * U) := by ac_rfl
      rw [e1, e2]; exact this
    have s3 : (c * u) * (hi * u) ≤ val y * (hi * u) := Int.mul_le_mul_of_nonneg_right hy.lo (Int.mul_nonneg hi0 (Int.le_of_lt up))
    omega
/-- a negative float over an exact positive one -/
theorem div_inN {x y : UInt64} {a b c lo hi : Int} (hx : Iv x a b) (hy : Iv y c c) (hb : b < 0) (hc : 0 < c) (h0 : hi ≤ 0) (hl : -2 ^ 53 < lo) (h1 : c * lo ≤ 65536 * a) (h2 : 65536 * b ≤ c * hi) : Iv (div x y) lo hi := by
  obtain ⟨m, e, hdx, hm⟩ := dec_neg hx.fin (hx.neg hb)
  obtain ⟨k, f, hdy, hk⟩ := dec_pos hy.fin (hy.pos hc)
  have hr := div_right hdx hdy hk
  have px := hx.neg hb
  have py := hy.pos hc
  have ex : ((val x).natAbs : Int) = -val x := by omega
  have ey : ((val y).natAbs : Int) = c * u := by rw [← hy.ex]; omega
  have hW : (((val x).natAbs * 2 ^ 1074 : Nat) : Int) = -val x * (65536 * u) := by
    rw [one_u, Int.natCast_mul, ex]; simp
  have cc : ∀ p q : Int, c * p ≤ 65536 * q → (c * u) * (p * u) ≤ (q * u) * (65536 * u) := fun p q h => by
    have := Int.mul_le_mul_of_nonneg_right h (Int.mul_nonneg (Int.le_of_lt up) (Int.le_of_lt up))
    generalize (u : Int) = U at *
    have e1 : c * U * (p * U) = c * p * (U * U) := by ac_rfl
    have e2 : q * U * (65536 * U) = 65536 * q * (U * U) := by ac_rfl
    rw [e1, e2]; exact this
  have cd : ∀ p q : Int, 65536 * q ≤ c * p → (q * u) * (65536 * u) ≤ (c * u) * (p * u) := fun p q h => by
    have := Int.mul_le_mul_of_nonneg_right h (Int.mul_nonneg (Int.le_of_lt up) (Int.le_of_lt up))
    generalize (u : Int) = U at *
    have e1 : c * U * (p * U) = c * p * (U * U) := by ac_rfl
    have e2 : q * U * (65536 * U) = 65536 * q * (U * U) := by ac_rfl
    rw [e1, e2]; exact this
  refine neg_in (W := (val x).natAbs * 2 ^ 1074) (D := (val y).natAbs) (by simpa using hr) (by omega) hl h0 ?_ ?_
  · rw [hW, ey]
    have s1 := cc lo a h1
    have s3 : (a * u) * (65536 * u) ≤ val x * (65536 * u) := Int.mul_le_mul_of_nonneg_right hx.lo (Int.mul_nonneg (by decide) (Int.le_of_lt up))
    rw [Int.neg_mul, Int.neg_mul, Int.mul_neg]; omega
  · rw [hW, ey]
    have s1 := cd hi b h2
    have s3 : val x * (65536 * u) ≤ (b * u) * (65536 * u) := Int.mul_le_mul_of_nonneg_right hx.hi (Int.mul_nonneg (by decide) (Int.le_of_lt up))
    rw [Int.neg_mul, Int.neg_mul, Int.mul_neg]; omega

theorem six_in : Iv (ofInt 6) 393216 393216 := by
  have hv : val (ofInt 6) = 6 * 2 ^ 1074 := by decide +kernel
  have hf : isFinite (ofInt 6) = true := by decide +kernel
  rw [one_uZ] at hv
  exact ⟨hf, by omega, by omega⟩
theorem mul6_in {x : UInt64} {a b : Int} (hx : Iv x a b) (ha : 0 < a) (hb : 6 * b < 2 ^ 53) : Iv (mul x (ofInt 6)) (6 * a) (6 * b) := by
  obtain ⟨m, e, hdx, hm⟩ := dec_pos hx.fin (hx.pos ha)
  obtain ⟨k, f, hdy, hk⟩ := dec_pos six_in.fin (six_in.pos (by decide))
  have hr := mul_right hdx hdy
  have px := hx.pos ha
  have ex : ((val x).natAbs : Int) = val x := by omega
  have ey : ((val (ofInt 6)).natAbs : Int) = 393216 * u := by rw [← six_in.ex]; have := six_in.pos (by decide); omega
  have hW : (((val x).natAbs * (val (ofInt 6)).natAbs : Nat) : Int) = val x * (393216 * u) := by rw [Int.natCast_mul, ex, ey]
  have hD : ((2 ^ 1074 : Nat) : Int) = 65536 * u := by rw [one_u]; simp
  refine pos_in (W := (val x).natAbs * (val (ofInt 6)).natAbs) (D := 2 ^ 1074) (by simpa using hr) (Nat.two_pow_pos _) hb (by omega) ?_ ?_
  · rw [hW, hD]
    have s3 : (a * u) * (393216 * u) ≤ val x * (393216 * u) := Int.mul_le_mul_of_nonneg_right hx.lo (Int.mul_nonneg (by decide) (Int.le_of_lt up))
    have e1 : 65536 * (u : Int) * (6 * a * u) = (a * u) * (393216 * u) := by
      generalize (u : Int) = U
      rw [show (393216 : Int) = 65536 * 6 from rfl]; ac_rfl
    rw [e1]; exact s3
  · rw [hW, hD]
    have s3 : val x * (393216 * u) ≤ (b * u) * (393216 * u) := Int.mul_le_mul_of_nonneg_right hx.hi (Int.mul_nonneg (by decide) (Int.le_of_lt up))
    have e1 : 65536 * (u : Int) * (6 * b * u) = (b * u) * (393216 * u) := by
      generalize (u : Int) = U
      rw [show (393216 : Int) = 65536 * 6 from rfl]; ac_rfl
    rw [e1]; exact s3

theorem one_in : Iv one 65536 65536 := by
  have hv : val one = 2 ^ 1074 := by decide +kernel
  have hf : isFinite one = true := by decide +kernel
  rw [one_uZ] at hv
  exact ⟨hf, by omega, by omega⟩
theorem dec_one : decode one = .fin false (2 ^ 52) (-52) := by kernel_rfl

/-- the rest by one -/
theorem fmod_right {x : UInt64} {a : Bool} {m : Nat} {e : Int} (hd : decode x = .fin a m e) (hlt : (val x).natAbs < 2 ^ 1074) : Right (fmod x one) a (val x).natAbs 1 := by
  have hg := decode_ge hd
  have hv := val_natAbs hd
  unfold fmod
  rw [hd, dec_one]
  have hne : ((2 ^ 52 : Nat) == 0) = false := by decide
  simp only [hne, Bool.false_eq_true, if_false, align]
  have hq : (sgn false (2 ^ 52 * 2 ^ (-52 - min e (-52)).toNat)).toNat = 2 ^ (-(min e (-52))).toNat := by
    show (((2 ^ 52 * 2 ^ (-52 - min e (-52)).toNat : Nat) : Int)).toNat = _
    rw [Int.toNat_natCast, ← Nat.pow_add]; congr 1; omega
  have hp : (sgn false (m * 2 ^ (e - min e (-52)).toNat)).toNat = m * 2 ^ (e - min e (-52)).toNat := by
    show (((m * 2 ^ (e - min e (-52)).toNat : Nat) : Int)).toNat = _
    rw [Int.toNat_natCast]
  rw [hq, hp]
  have hW : (val x).natAbs = m * 2 ^ (e - min e (-52)).toNat * 2 ^ (min e (-52) + 1074).toNat := by
    rw [hv, Nat.mul_assoc, ← Nat.pow_add]; congr 2; omega
  have hlt2 : m * 2 ^ (e - min e (-52)).toNat < 2 ^ (-(min e (-52))).toNat := by
    rw [hW, show (1074 : Nat) = (-(min e (-52))).toNat + (min e (-52) + 1074).toNat by omega, Nat.pow_add] at hlt
    exact Nat.lt_of_mul_lt_mul_right hlt
  rw [Nat.mod_eq_of_lt hlt2]
  have hb : ofBin a (m * 2 ^ (e - min e (-52)).toNat) (min e (-52)) = ofFrac a (shift (m * 2 ^ (e - min e (-52)).toNat) 1 (min e (-52))).1 (shift (m * 2 ^ (e - min e (-52)).toNat) 1 (min e (-52))).2 := rfl
  rw [hb]
  have hs := shift_one (m * 2 ^ (e - min e (-52)).toNat) (min e (-52)) 1074 (by omega)
  have hps : 0 < (shift (m * 2 ^ (e - min e (-52)).toNat) 1 (min e (-52))).2 := by
    have := shift_pos (m * 2 ^ (e - min e (-52)).toNat) 1 (-(-(min e (-52)))) (by decide)
    simpa using this
  refine ofFrac_right hps ?_ (by decide)
  rw [Nat.mul_one, hs, hW]
  rfl
theorem lt_zero {x : UInt64} (hf : isFinite x = true) : lt x (zero false) = decide (val x < 0) := by
  unfold lt
  have hz : val (zero false) = 0 := by decide +kernel
  have hzf : isFinite (zero false) = true := by decide +kernel
  rw [cmp_lt hf hzf, hz]
theorem natAbs_lt {x : UInt64} {a b : Int} (hx : Iv x a b) (h1 : -65536 < a) (h2 : b < 65536) : (val x).natAbs < 2 ^ 1074 := by
  rw [one_u]
  have s1 := Int.mul_lt_mul_of_pos_right h1 up
  have s2 := Int.mul_lt_mul_of_pos_right h2 up
  have := hx.lo; have := hx.hi
  omega
theorem mod1_in {x : UInt64} {a b : Int} (hx : Iv x a b) (ha : 0 < a) (hb : b < 65536) : Iv (divmod x one).snd a b := by
  obtain ⟨m, e, hd, hm⟩ := dec_pos hx.fin (hx.pos ha)
  have hr := fmod_right hd (natAbs_lt hx (by omega) hb)
  have ex : ((val x).natAbs : Int) = val x := by have := hx.pos ha; omega
  have hm1 : Iv (fmod x one) a b := pos_in hr (by decide) (by omega) (by omega) (by rw [ex]; have := hx.lo; omega) (by rw [ex]; have := hx.hi; omega)
  have hs : (divmod x one).snd = fmod x one := by
    unfold divmod
    simp only
    rw [hm1.nz ha]
    have h1 : lt one (zero false) = false := by decide +kernel
    have h2 : lt (fmod x one) (zero false) = false := by
      rw [lt_zero hm1.fin]; exact decide_eq_false (by have := hm1.pos ha; omega)
    rw [h1, h2]
    rfl
  rw [hs]; exact hm1
theorem mod1_inN {x : UInt64} {a b : Int} (hx : Iv x a b) (ha : -65536 < a) (hb : b < 0) : Iv (divmod x one).snd (a + 65536) (b + 65536) := by
  obtain ⟨m, e, hd, hm⟩ := dec_neg hx.fin (hx.neg hb)
  have hr := fmod_right hd (natAbs_lt hx ha (by omega))
  have ex : ((val x).natAbs : Int) = -val x := by have := hx.neg hb; omega
  have hm1 : Iv (fmod x one) a b := neg_in hr (by decide) (by omega) (by omega) (by rw [ex, Int.neg_mul]; have := hx.lo; omega) (by rw [ex, Int.neg_mul]; have := hx.hi; omega)
  have hs : (divmod x one).snd = add (fmod x one) one := by
    unfold divmod
    simp only
    rw [nz_neg hm1.fin (hm1.neg hb)]
    have h1 : lt one (zero false) = false := by decide +kernel
    have h2 : lt (fmod x one) (zero false) = true := by
      rw [lt_zero hm1.fin]; exact decide_eq_true (hm1.neg hb)
    rw [h1, h2]
    rfl
  rw [hs]; exact add_in hm1 one_in (by omega) (by omega)

theorem int_in {x : UInt64} {a b : Int} {p : Int} (hx : Iv x a b) (ha : 0 < a) (h1 : 65536 * p ≤ a) (h2 : b < 65536 * (p + 1)) : Flt.toInt truncOf x = p := by
  obtain ⟨m, e, hd, hm⟩ := dec_pos hx.fin (hx.pos ha)
  unfold Flt.toInt
  rw [hd]
  show floorOf false m e = p
  have hv := val_eq hd
  have hg := decode_ge hd
  have l1 : p * 2 ^ 1074 ≤ val x := by
    rw [one_uZ]
    have := Int.mul_le_mul_of_nonneg_right h1 (Int.le_of_lt up)
    have e1 : p * (65536 * (u : Int)) = 65536 * p * u := by generalize (u : Int) = U; ac_rfl
    have := hx.lo; omega
  have l2 : val x < (p + 1) * 2 ^ 1074 := by
    rw [one_uZ]
    have := Int.mul_lt_mul_of_pos_right h2 up
    have e1 : (p + 1) * (65536 * (u : Int)) = 65536 * (p + 1) * u := by generalize (u : Int) = U; ac_rfl
    have := hx.hi; omega
  have hvm : val x = (m : Int) * 2 ^ (e + 1074).toNat := by rw [hv]; unfold sgn; simp
  unfold floorOf sgn
  simp only [Bool.false_eq_true, if_false]
  split
  · rename_i he
    have e1 : (2 : Int) ^ (e + 1074).toNat = 2 ^ e.toNat * 2 ^ 1074 := by
      rw [← Int.pow_add]; congr 1; omega
    rw [hvm, e1, ← Int.mul_assoc] at l1 l2
    have pp : (0 : Int) < 2 ^ 1074 := by rw [one_uZ]; exact Int.mul_pos (by decide) up
    generalize (2 : Int) ^ 1074 = K at *
    have q1 : p ≤ (m : Int) * 2 ^ e.toNat := Int.le_of_mul_le_mul_right l1 pp
    have q2 : (m : Int) * 2 ^ e.toNat < p + 1 := Int.lt_of_mul_lt_mul_right l2 (Int.le_of_lt pp)
    omega
  · rename_i he
    have e1 : (2 : Int) ^ 1074 = 2 ^ (-e).toNat * 2 ^ (e + 1074).toNat := by
      rw [← Int.pow_add]; congr 1; omega
    rw [hvm, e1, ← Int.mul_assoc] at l1 l2
    have pp : (0 : Int) < 2 ^ (e + 1074).toNat := Int.pow_pos (by decide)
    have pq : (0 : Int) < 2 ^ (-e).toNat := Int.pow_pos (by decide)
    generalize (2 : Int) ^ (e + 1074).toNat = K at *
    have q1 : p * 2 ^ (-e).toNat ≤ (m : Int) := Int.le_of_mul_le_mul_right l1 pp
    have q2 : (m : Int) < (p + 1) * 2 ^ (-e).toNat := Int.lt_of_mul_lt_mul_right l2 (Int.le_of_lt pp)
    rw [Int.fdiv_eq_ediv_of_nonneg _ (Int.le_of_lt pq)]
    refine Int.le_antisymm ?_ ?_
    · exact Int.lt_add_one_iff.mp ((Int.ediv_lt_iff_lt_mul pq).mpr q2)
    · exact (Int.le_ediv_iff_mul_le pq).mpr q1
end Mine

/-! N1 -/

namespace Mine
theorem exL_next {f : Sx → Stmt → Option (Fl × Sx)} {S : Sx} {st : Stmt} {r : List Stmt} (S' : Sx) (h : f S st = some (.next, S')) : exL f S (st :: r) = exL f S' r := by
  rw [exL, h]
theorem exL_ret {f : Sx → Stmt → Option (Fl × Sx)} {S : Sx} {st : Stmt} {r : List Stmt} (d : D) (S' : Sx) (h : f S st = some (.ret d, S')) : exL f S (st :: r) = some (.ret d, S') := by
  rw [exL, h]
theorem exL_one {S : Sx} {f : Sx → Stmt → Option (Fl × Sx)} {st : Stmt} {r : Fl × Sx} (h : f S st = some r) : exL f S [st] = some r := by
  obtain ⟨fl, S1⟩ := r
  rw [exL, h]
  cases fl <;> rfl
section
variable {Φ : Str → List D → Option D} {m n : Nat} {sc : Names} {ρ : Rho} {S S' : Sx}
theorem ex_if {t : Expr} {b o : List Stmt} {pos : Pos} (c : Bool) (h : ev Φ m sc S.1 t = some (.bool c)) : ex Φ m sc (n + 1) S (.If t b o pos) = exL (ex Φ m sc n) S (if c then b else o) := by
  rw [ex_succ]
  dsimp only [exB]
  have hF : evF (ev Φ m sc) S t = some (.bool c, S) := by unfold evF; rw [h]
  rw [hF]
  cases c <;> rfl
theorem evF_one {e : Expr} {d : D} (h : ev Φ m sc S.1 e = some d) : evF (ev Φ m sc) S e = some (d, S) := by unfold evF; rw [h]
theorem ex_ret {e : Expr} {pos : Pos} {d : D} (h : evF (ev Φ m sc) S e = some (d, S')) : ex Φ m sc (n + 1) S (.Return (some e) pos) = some (.ret d, S') := by
  rw [ex_succ]
  dsimp only [exB]
  rw [h]; rfl
noncomputable def notList : Expr → Bool
  | .List .. => false
  | _ => true
theorem ex_asg {x : Str} {p pos : Pos} {v : Expr} {d : D} (hs : (slot sc x && notList v) = true) (h : ev Φ m sc S.1 v = some d) (hS : setN x d S = S') : ex Φ m sc (n + 1) S (.Assign [.Name x p] v pos) = some (.next, S') := by
  rw [Bool.and_eq_true] at hs
  rw [ex_succ]
  have hF : evF (ev Φ m sc) S v = some (d, S) := by unfold evF; rw [h]
  have e : exB (ev Φ m sc) (ex Φ m sc n) sc S (.Assign [.Name x p] v pos) = if slot sc x then (evF (ev Φ m sc) S v).map fun r => (.next, setN x r.1 r.2) else none := by
    cases v <;> first | rfl | cases hs.2
  rw [e, hs.1, hF, ← hS]
  rfl
theorem ev_item {v i : Expr} {pos : Pos} {d r : D} {k : Int} (hs : notSlice i = true) (h : ev Φ n sc ρ v = some d) (hi : ev Φ n sc ρ i = some (.int k)) (hg : getD d k = some r) : ev Φ (n + 1) sc ρ (.Subscript v i pos) = some r := by
  have e : ev Φ (n + 1) sc ρ (.Subscript v i pos) = (match ev Φ n sc ρ v, ev Φ n sc ρ i with | some d, some (.int k) => getD d k | _, _ => none) := by
    cases i <;> first | rfl | cases hs
  rw [e, h, hi]; exact hg
end
theorem getD_nat {es : List D} {k : Nat} {v : D} (h : es[k]? = some v) (hk : k < 1000) : getD (.list es) (k : Int) = some v := by
  unfold getD
  rw [if_pos (by omega)]
  simpa using h

theorem run_low (P : Params) (j : Nat) (ds es : List D) (h : callBI .sorted [.list ds] = some (.list es)) (he : 0 < es.length) (hl : es.length < 1000) : phi P (j + 1) "median_low" [.list ds] = es[(es.length - 1) / 2]? := by
  show run P (phi P j) 34 ["data"] [.list ds] = _
  unfold run runP
  have e1 : (fdAt P 34).scope.names = [(("data" : Str), NameKind.local), ("n", NameKind.local), ("sorted", NameKind.globalImplicit), ("len", NameKind.globalImplicit), ("StatisticsError", NameKind.globalImplicit)] := by kernel_rfl
  rw [e1]
  conv in bodyOf _ => whnf
  obtain ⟨v, hv⟩ : ∃ v, es[(es.length - 1) / 2]? = some v := ⟨_, List.getElem?_eq_getElem (by omega)⟩
  rw [hv]
  have e2 : ((es.length : Int) == 0) = false := by simp; exact fun e => by rw [e] at he; simp at he
  rw [exL_next ([(("data" : Str), .list es), (("data" : Str), .list ds)], none)]
  rw [exL_next ([(("n" : Str), .int es.length), (("data" : Str), .list es), (("data" : Str), .list ds)], none)]
  rw [exL_next ([(("n" : Str), .int es.length), (("data" : Str), .list es), (("data" : Str), .list ds)], none)]
  rw [exL_ret v ([(("n" : Str), .int es.length), (("data" : Str), .list es), (("data" : Str), .list ds)], none)]
  · refine (ex_if (((es.length : Nat) : Int).fmod 2 == 1) (by kernel_rfl)).trans ?_
    by_cases hp : es.length % 2 = 1
    · have e3 : (((es.length : Nat) : Int).fmod 2 == 1) = true := by
        rw [Int.fmod_eq_emod_of_nonneg _ (by decide)]; simp; omega
      have e4 : ((es.length : Nat) : Int).fdiv 2 = (((es.length - 1) / 2 : Nat) : Int) := by rw [Int.fdiv_eq_ediv_of_nonneg _ (by decide)]; omega
      rw [e3]
      exact exL_one (ex_ret (evF_one (ev_item (k := ((es.length : Nat) : Int).fdiv 2) (d := .list es) (by kernel_rfl) (by kernel_rfl) (by kernel_rfl) (by rw [e4]; exact getD_nat hv (by omega)))))
    · have e3 : (((es.length : Nat) : Int).fmod 2 == 1) = false := by
        rw [Int.fmod_eq_emod_of_nonneg _ (by decide)]; simp; omega
      have e4 : ((es.length : Nat) : Int).fdiv 2 - 1 = (((es.length - 1) / 2 : Nat) : Int) := by rw [Int.fdiv_eq_ediv_of_nonneg _ (by decide)]; omega
      rw [e3]
      exact exL_one (ex_ret (evF_one (ev_item (k := ((es.length : Nat) : Int).fdiv 2 - 1) (d := .list es) (by kernel_rfl) (by kernel_rfl) (by kernel_rfl) (by rw [e4]; exact getD_nat hv (by omega)))))
  · refine (ex_if ((es.length : Int) == 0) (by kernel_rfl)).trans ?_
    rw [e2]; rfl
  · refine ex_asg (d := .int es.length) (by kernel_rfl) ((show _ = callBI .len [.list es] from by kernel_rfl).trans ?_) (by kernel_rfl)
    show (if es.length < 1000 then some (D.int es.length) else none) = _
    rw [if_pos hl]
  · exact ex_asg (d := .list es) (by kernel_rfl) ((show _ = callBI .sorted [.list ds] from by kernel_rfl).trans h) (by kernel_rfl)

theorem run_high (P : Params) (j : Nat) (ds es : List D) (h : callBI .sorted [.list ds] = some (.list es)) (he : 0 < es.length) (hl : es.length < 1000) : phi P (j + 1) "median_high" [.list ds] = es[es.length / 2]? := by
  show run P (phi P j) 41 ["data"] [.list ds] = _
  unfold run runP
  have e1 : (fdAt P 41).scope.names = [(("data" : Str), NameKind.local), ("n", NameKind.local), ("sorted", NameKind.globalImplicit), ("len", NameKind.globalImplicit), ("StatisticsError", NameKind.globalImplicit)] := by kernel_rfl
  rw [e1]
  conv in bodyOf _ => whnf
  obtain ⟨v, hv⟩ : ∃ v, es[es.length / 2]? = some v := ⟨_, List.getElem?_eq_getElem (by omega)⟩
  rw [hv]
  have e2 : ((es.length : Int) == 0) = false := by simp; exact fun e => by rw [e] at he; simp at he
  rw [exL_next ([(("data" : Str), .list es), (("data" : Str), .list ds)], none)]
  rw [exL_next ([(("n" : Str), .int es.length), (("data" : Str), .list es), (("data" : Str), .list ds)], none)]
  rw [exL_next ([(("n" : Str), .int es.length), (("data" : Str), .list es), (("data" : Str), .list ds)], none)]
  rw [exL_ret v ([(("n" : Str), .int es.length), (("data" : Str), .list es), (("data" : Str), .list ds)], none)]
  · have e4 : ((es.length : Nat) : Int).fdiv 2 = ((es.length / 2 : Nat) : Int) := by rw [Int.fdiv_eq_ediv_of_nonneg _ (by decide)]; omega
    exact ex_ret (evF_one (ev_item (k := ((es.length : Nat) : Int).fdiv 2) (d := .list es) (by kernel_rfl) (by kernel_rfl) (by kernel_rfl) (by rw [e4]; exact getD_nat hv (by omega))))
  · refine (ex_if ((es.length : Int) == 0) (by kernel_rfl)).trans ?_
    rw [e2]; rfl
  · refine ex_asg (d := .int es.length) (by kernel_rfl) ((show _ = callBI .len [.list es] from by kernel_rfl).trans ?_) (by kernel_rfl)
    show (if es.length < 1000 then some (D.int es.length) else none) = _
    rw [if_pos hl]
  · exact ex_asg (d := .list es) (by kernel_rfl) ((show _ = callBI .sorted [.list ds] from by kernel_rfl).trans h) (by kernel_rfl)

theorem run_orders (P : Params) (j : Nat) : phi P (j + 1) "_law_orders" [] = some (.tup [.tup [.int 0, .int 1, .int 2], .tup [.int 1, .int 0, .int 2], .tup [.int 1, .int 2, .int 0], .tup [.int 2, .int 1, .int 0], .tup [.int 2, .int 0, .int 1], .tup [.int 0, .int 2, .int 1]]) := by kernel_rfl
end Mine

/-! N2 -/

namespace Mine
/-! stepping lemmas for the pure run -/
theorem compL_keep {α : Type} {f : D → Option (Option D)} {g : α → D} {h : α → D} {p : α → Bool} : ∀ l : List α, (∀ x ∈ l, f (g x) = some (if p x then some (h x) else none)) → compL f (l.map g) = some ((l.filter p).map h)
  | [], _ => rfl
  | x :: r, hf => by
    rw [List.map_cons, compL, hf x (.head _), compL_keep r fun y hy => hf y (.tail _ hy)]
    cases hp : p x <;> simp [hp]
theorem filter_tt {α : Type} (l : List α) : l.filter (fun _ => true) = l := by induction l <;> simp_all

section
variable {Φ : Str → List D → Option D} {m n : Nat} {sc : Names} {ρ : Rho} {S S' : Sx}
theorem comp_if {α : Type} {l : List α} {g h : α → D} {p : α → Bool} {ρ1 : α → Rho} {itd : D} {elt t it c : Expr} {scope : Scope} {pos : Pos}
    (hk : (notSet it && compOk sc scope) = true) (hit : ev Φ n sc ρ it = some itd) (hi : items itd = some (l.map g)) (hl : l.length < 1000)
    (hb : ∀ x ∈ l, bindT scope.names (ρ.filter fun p => scope.names.lookup p.1 == some .free) t (g x) = some (ρ1 x)) (hc : ∀ x ∈ l, ev Φ n scope.names (ρ1 x) c = some (.bool (p x))) (he : ∀ x ∈ l, p x = true → ev Φ n scope.names (ρ1 x) elt = some (h x)) :
    ev Φ (n + 1) sc ρ (.ListComp elt [⟨t, it, [c], 0⟩] scope pos) = some (.list ((l.filter p).map h)) := by
  rw [Bool.and_eq_true] at hk
  rw [ev_succ]
  dsimp only [evB]
  rw [hk.1, hk.2, hit]
  simp only [BEq.rfl, Bool.and_self, if_true, Option.bind_some, hi, List.length_map, hl]
  rw [compL_keep (h := h) (p := p) l]
  · rfl
  · intro x hx
    rw [hb x hx]
    simp only [Option.bind_some, tests, hc x hx]
    cases hp : p x with
    | true => simp [he x hx hp]
    | false => rfl
theorem comp_all {α : Type} {l : List α} {g h : α → D} {ρ1 : α → Rho} {itd : D} {elt t it : Expr} {scope : Scope} {pos : Pos}
    (hk : (notSet it && compOk sc scope) = true) (hit : ev Φ n sc ρ it = some itd) (hi : items itd = some (l.map g)) (hl : l.length < 1000)
    (hb : ∀ x ∈ l, bindT scope.names (ρ.filter fun p => scope.names.lookup p.1 == some .free) t (g x) = some (ρ1 x)) (he : ∀ x ∈ l, ev Φ n scope.names (ρ1 x) elt = some (h x)) :
    ev Φ (n + 1) sc ρ (.ListComp elt [⟨t, it, [], 0⟩] scope pos) = some (.list (l.map h)) := by
  rw [Bool.and_eq_true] at hk
  rw [ev_succ]
  dsimp only [evB]
  rw [hk.1, hk.2, hit]
  simp only [BEq.rfl, Bool.and_self, if_true, Option.bind_some, hi, List.length_map, hl]
  rw [compL_keep (h := h) (p := fun _ => true) l]
  · rw [filter_tt]; rfl
  · intro x hx
    rw [hb x hx]
    simp only [Option.bind_some, tests, he x hx]
    rfl
theorem comp_ifN {α : Type} {l : List α} {g h : α → D} {p : α → Bool} {itd : D} {elt it c : Expr} {y : Str} {tp : Pos} {scope : Scope} {pos : Pos}
    (hk : (notSet it && compOk sc scope && slot scope.names y) = true) (hit : ev Φ n sc ρ it = some itd) (hi : items itd = some (l.map g)) (hl : l.length < 1000)
    (hc : ∀ x ∈ l, ev Φ n scope.names ((y, g x) :: ρ.filter fun p => scope.names.lookup p.1 == some .free) c = some (.bool (p x)))
    (he : ∀ x ∈ l, p x = true → ev Φ n scope.names ((y, g x) :: ρ.filter fun p => scope.names.lookup p.1 == some .free) elt = some (h x)) :
    ev Φ (n + 1) sc ρ (.ListComp elt [⟨.Name y tp, it, [c], 0⟩] scope pos) = some (.list ((l.filter p).map h)) := by
  rw [Bool.and_eq_true] at hk
  refine comp_if (ρ1 := fun x => (y, g x) :: ρ.filter fun p => scope.names.lookup p.1 == some .free) hk.1 hit hi hl (fun x _ => ?_) hc he
  exact bindT_name hk.2
theorem comp_allN {α : Type} {l : List α} {g h : α → D} {itd : D} {elt it : Expr} {y : Str} {tp : Pos} {scope : Scope} {pos : Pos}
    (hk : (notSet it && compOk sc scope && slot scope.names y) = true) (hit : ev Φ n sc ρ it = some itd) (hi : items itd = some (l.map g)) (hl : l.length < 1000)
    (he : ∀ x ∈ l, ev Φ n scope.names ((y, g x) :: ρ.filter fun p => scope.names.lookup p.1 == some .free) elt = some (h x)) :
    ev Φ (n + 1) sc ρ (.ListComp elt [⟨.Name y tp, it, [], 0⟩] scope pos) = some (.list (l.map h)) := by
  rw [Bool.and_eq_true] at hk
  refine comp_all (ρ1 := fun x => (y, g x) :: ρ.filter fun p => scope.names.lookup p.1 == some .free) hk.1 hit hi hl (fun x _ => ?_) he
  exact bindT_name hk.2
theorem ex_append {x : Str} {p ap cp pos : Pos} {a : Expr} {d : D} {ds : List D} (hc : ((x == x) && noStar a && ap.endLine == cp.line) = true) (hl : ds.length < 1000) (h : ev Φ m sc ρ a = some d) :
    ex Φ m sc (n + 1) (ρ, some (x, true, ds)) (.Expr (.Call (.Attribute (.Name x p) ("append" : Str) ap) [a] [] cp) pos) = some (.next, (ρ, some (x, true, ds ++ [d]))) := by
  simp only [Bool.and_eq_true] at hc
  rw [ex_succ]
  simp [exB, hc.1.2, beq_iff_eq.mp hc.2, hl, h]
theorem ex_for {t it : Expr} {b : List Stmt} {pos : Pos} {itd : D} {ds : List D} (hz : (match it with | .Call (.Name z _) [_, _] [] _ => !(z == ("zip" : Str)) | it => notSet it) = true) (h : ev Φ m sc S.1 it = some itd) (hi : items itd = some ds) (hl : ds.length < 1000) :
    ex Φ m sc (n + 1) S (.For t it b [] pos) = forL (fun S d => (bindS sc S t d).bind fun S' => exL (ex Φ m sc n) S' b) S ds := by
  have hF : evF (ev Φ m sc) S it = some (itd, S) := by unfold evF; rw [h]
  rw [ex_succ]
  dsimp only [exB]
  split
  · rename_i z zp a1 a2 cp
    dsimp only at hz
    have hz' : (z == ("zip" : Str)) = false := by simpa using hz
    rw [hz', hF]
    simp [hi, hl]
  · rename_i hne
    have : notSet it = true := by
      split at hz
      · rename_i z zp a1 a2 cp
        exact absurd rfl (hne z zp a1 a2 cp)
      · exact hz
    rw [this, hF]
    simp [hi, hl]
theorem ex_zip {es : List Expr} {k : Nat} {tp zp cp pos : Pos} {a1 a2 : Expr} {b : List Stmt} {as bs : List D} (hz : (sc.lookup ("zip" : Str) == some .globalImplicit && noStar a1 && noStar a2) = true) (h1 : ev Φ m sc S.1 a1 = some (.list as)) (h2 : ev Φ m sc S.1 a2 = some (.list bs)) (hl : (zipD as bs).length < 1000) :
    ex Φ m sc (n + 1) S (.For (.Tuple es k tp) (.Call (.Name ("zip" : Str) zp) [a1, a2] [] cp) b [] pos) = forL (fun S d => (bindS sc S (.Tuple es k tp) d).bind fun S' => exL (ex Φ m sc n) S' b) S (zipD as bs) := by
  rw [ex_succ]
  dsimp only [exB]
  rw [hz, h1, h2]
  simp [hl]
theorem forL_next {g : Sx → D → Option (Fl × Sx)} {d : D} {r : List D} (S1 : Sx) (h : g S d = some (.next, S1)) : forL g S (d :: r) = forL g S1 r := by
  rw [forL, h]
theorem forL_ret {g : Sx → D → Option (Fl × Sx)} {d e : D} {r : List D} (S1 : Sx) (h : g S d = some (.ret e, S1)) : forL g S (d :: r) = some (.ret e, S1) := by
  rw [forL, h]
theorem ev_len {f : Str} {p pos : Pos} {a : Expr} {ds : List D} (hf : (okName f && sc.lookup f == some .globalImplicit && [a].all noStar && (match biOf f with | some .len => true | _ => false)) = true) (h : ev Φ n sc ρ a = some (.list ds)) (hl : ds.length < 1000) : ev Φ (n + 1) sc ρ (.Call (.Name f p) [a] [] pos) = some (.int ds.length) := by
  rw [Bool.and_eq_true] at hf
  rw [ev_succ]
  dsimp only [evB]
  rw [hf.1]
  have hb : biOf f = some .len := by
    have := hf.2
    split at this
    · assumption
    · cases this
  simp [evl, h, hb, cb_len, hl]
end

theorem bind_to {α β : Type} {o : Option α} {f : α → Option β} (a : α) (h : o = some a) : o.bind f = f a := by rw [h]; rfl
/-! colours -/
abbrev Col := UInt64 × UInt64 × UInt64
noncomputable def cD (c : Col) : D := .list [.flt c.1, .flt c.2.1, .flt c.2.2]
noncomputable def cAt (c : Col) : Nat → UInt64
  | 0 => c.1
  | 1 => c.2.1
  | _ => c.2.2
noncomputable def ltC (c : Col) (a b : Nat) : Bool := Float64.cmp (cAt c a) (cAt c b) == some .lt
noncomputable def bh (cs : List Col) (a b : Nat) : Int := ((cs.filter (fun c => ltC c a b)).length : Int)
noncomputable def bhRow (cs : List Col) (a : Nat) : D := .list [.int (bh cs a 0), .int (bh cs a 1), .int (bh cs a 2)]
noncomputable def ag (cs : List Col) : Nat → Int
  | 0 => bh cs 0 1 + bh cs 0 2 + bh cs 1 2
  | 1 => bh cs 1 0 + bh cs 1 2 + bh cs 0 2
  | 2 => bh cs 1 2 + bh cs 1 0 + bh cs 2 0
  | 3 => bh cs 2 1 + bh cs 2 0 + bh cs 1 0
  | 4 => bh cs 2 0 + bh cs 2 1 + bh cs 0 1
  | _ => bh cs 0 2 + bh cs 0 1 + bh cs 2 1
noncomputable def agL (cs : List Col) : List Int := [ag cs 0, ag cs 1, ag cs 2, ag cs 3, ag cs 4, ag cs 5]

theorem bh_eq (cs : List Col) (a b : Nat) : bh cs a b = (((cs.filter fun c => ltC c a b).map cD).length : Int) := by simp [bh]
theorem len_filter (cs : List Col) (p : Col → Bool) (hl : cs.length < 1000) : ((cs.filter p).map cD).length < 1000 := by
  rw [List.length_map]; exact Nat.lt_of_le_of_lt (List.length_filter_le _ _) hl
theorem run_against (P : Params) (j : Nat) (cs : List Col) (hl : cs.length < 1000) : phi P (j + 2) "_law_against" [.list (cs.map cD)] = some (.list ((agL cs).map .int)) := by
  show run P (phi P (j + 1)) 67 ["row"] [.list (cs.map cD)] = _
  unfold run runP
  have e1 : (fdAt P 67).scope.names = [(("row" : Str), NameKind.cell), ("behind", NameKind.cell), ("one", NameKind.cell), ("range", NameKind.globalImplicit), ("_law_orders", NameKind.globalImplicit)] := by kernel_rfl
  rw [e1]
  conv in bodyOf _ => whnf
  rw [exL_next ([(("row" : Str), .list (cs.map cD))], some ("behind", true, []))]
  rw [exL_next ([("one", .int 2), ("one", .int 1), ("one", .int 0), ("row", .list (cs.map cD))], some ("behind", true, [bhRow cs 0, bhRow cs 1, bhRow cs 2]))]
  rw [exL_ret (.list ((agL cs).map .int)) (freeze ([("one", .int 2), ("one", .int 1), ("one", .int 0), ("row", .list (cs.map cD))], some ("behind", true, [bhRow cs 0, bhRow cs 1, bhRow cs 2])), none)]
  · kernel_rfl
  · refine (ex_for (itd := .rng 3) (ds := [.int 0, .int 1, .int 2]) (by kernel_rfl) (by kernel_rfl) (by kernel_rfl) (by decide)).trans ?_
    rw [forL_next ([("one", .int 0), ("row", .list (cs.map cD))], some ("behind", true, [bhRow cs 0]))]
    rw [forL_next ([("one", .int 1), ("one", .int 0), ("row", .list (cs.map cD))], some ("behind", true, [bhRow cs 0, bhRow cs 1]))]
    rw [forL_next ([("one", .int 2), ("one", .int 1), ("one", .int 0), ("row", .list (cs.map cD))], some ("behind", true, [bhRow cs 0, bhRow cs 1, bhRow cs 2]))]
    · kernel_rfl
    · refine (bind_to (α := Sx) ([("one", .int 2), ("one", .int 1), ("one", .int 0), ("row", .list (cs.map cD))], some ("behind", true, [bhRow cs 0, bhRow cs 1])) (by kernel_rfl)).trans ?_
      rw [exL_next ([("one", .int 2), ("one", .int 1), ("one", .int 0), ("row", .list (cs.map cD))], some ("behind", true, [bhRow cs 0, bhRow cs 1, bhRow cs 2]))]
      · kernel_rfl
      · refine ex_append (by kernel_rfl) (by simp) ?_
        refine comp_allN (l := [0, 1, 2]) (g := fun k : Nat => .int k) (h := fun k => .int (bh cs 2 k)) (itd := .rng 3) (by kernel_rfl) (by kernel_rfl) (by kernel_rfl) (by decide) ?_
        intro x hx
        simp only [List.mem_cons, List.not_mem_nil, or_false] at hx
        rw [bh_eq]
        refine ev_len (by kernel_rfl) ?_ (len_filter cs _ hl)
        rcases hx with rfl | rfl | rfl
        · exact comp_ifN (l := cs) (g := cD) (itd := .list (cs.map cD)) (by kernel_rfl) (by kernel_rfl) (by kernel_rfl) hl (fun c _ => by kernel_rfl) (fun c _ _ => by kernel_rfl)
        · exact comp_ifN (l := cs) (g := cD) (itd := .list (cs.map cD)) (by kernel_rfl) (by kernel_rfl) (by kernel_rfl) hl (fun c _ => by kernel_rfl) (fun c _ _ => by kernel_rfl)
        · exact comp_ifN (l := cs) (g := cD) (itd := .list (cs.map cD)) (by kernel_rfl) (by kernel_rfl) (by kernel_rfl) hl (fun c _ => by kernel_rfl) (fun c _ _ => by kernel_rfl)
    · refine (bind_to (α := Sx) ([("one", .int 1), ("one", .int 0), ("row", .list (cs.map cD))], some ("behind", true, [bhRow cs 0])) (by kernel_rfl)).trans ?_
      rw [exL_next ([("one", .int 1), ("one", .int 0), ("row", .list (cs.map cD))], some ("behind", true, [bhRow cs 0, bhRow cs 1]))]
      · kernel_rfl
      · refine ex_append (by kernel_rfl) (by simp) ?_
        refine comp_allN (l := [0, 1, 2]) (g := fun k : Nat => .int k) (h := fun k => .int (bh cs 1 k)) (itd := .rng 3) (by kernel_rfl) (by kernel_rfl) (by kernel_rfl) (by decide) ?_
        intro x hx
        simp only [List.mem_cons, List.not_mem_nil, or_false] at hx
        rw [bh_eq]
        refine ev_len (by kernel_rfl) ?_ (len_filter cs _ hl)
        rcases hx with rfl | rfl | rfl
        · exact comp_ifN (l := cs) (g := cD) (itd := .list (cs.map cD)) (by kernel_rfl) (by kernel_rfl) (by kernel_rfl) hl (fun c _ => by kernel_rfl) (fun c _ _ => by kernel_rfl)
        · exact comp_ifN (l := cs) (g := cD) (itd := .list (cs.map cD)) (by kernel_rfl) (by kernel_rfl) (by kernel_rfl) hl (fun c _ => by kernel_rfl) (fun c _ _ => by kernel_rfl)
        · exact comp_ifN (l := cs) (g := cD) (itd := .list (cs.map cD)) (by kernel_rfl) (by kernel_rfl) (by kernel_rfl) hl (fun c _ => by kernel_rfl) (fun c _ _ => by kernel_rfl)
    · refine (bind_to (α := Sx) ([("one", .int 0), ("row", .list (cs.map cD))], some ("behind", true, [])) (by kernel_rfl)).trans ?_
      rw [exL_next ([("one", .int 0), ("row", .list (cs.map cD))], some ("behind", true, [bhRow cs 0]))]
      · kernel_rfl
      · refine ex_append (by kernel_rfl) (by simp) ?_
        refine comp_allN (l := [0, 1, 2]) (g := fun k : Nat => .int k) (h := fun k => .int (bh cs 0 k)) (itd := .rng 3) (by kernel_rfl) (by kernel_rfl) (by kernel_rfl) (by decide) ?_
        intro x hx
        simp only [List.mem_cons, List.not_mem_nil, or_false] at hx
        rw [bh_eq]
        refine ev_len (by kernel_rfl) ?_ (len_filter cs _ hl)
        rcases hx with rfl | rfl | rfl
        · exact comp_ifN (l := cs) (g := cD) (itd := .list (cs.map cD)) (by kernel_rfl) (by kernel_rfl) (by kernel_rfl) hl (fun c _ => by kernel_rfl) (fun c _ _ => by kernel_rfl)
        · exact comp_ifN (l := cs) (g := cD) (itd := .list (cs.map cD)) (by kernel_rfl) (by kernel_rfl) (by kernel_rfl) hl (fun c _ => by kernel_rfl) (fun c _ _ => by kernel_rfl)
        · exact comp_ifN (l := cs) (g := cD) (itd := .list (cs.map cD)) (by kernel_rfl) (by kernel_rfl) (by kernel_rfl) hl (fun c _ => by kernel_rfl) (fun c _ _ => by kernel_rfl)
  · kernel_rfl
end Mine

/-! N3 -/

namespace Mine
open PySem.Float64 (add sub mul div cmp isZero divmod)
noncomputable def c1 : UInt64 := 4607182418800017408
noncomputable def c2 : UInt64 := 4611686018427387904
noncomputable def c4 : UInt64 := 4616189618054758400
noncomputable def c6 : UInt64 := 4618441417868443648
noncomputable def cH : UInt64 := 4602678819172646912

theorem div_some {x y : UInt64} (h : isZero y = false) : binop .Div (.flt x) (.flt y) = some (.flt (div x y)) := if_pos (by rw [h]; exact Bool.false_ne_true)

theorem run_hls (P : Params) (j : Nat) (r g b hh : UInt64) (h1 : (cmp (min3 r g b) (max3 r g b) == some .eq) = false) (z1 : isZero (add (max3 r g b) (min3 r g b)) = false) (z2 : isZero (sub (sub c2 (max3 r g b)) (min3 r g b)) = false) (z3 : isZero (sub (max3 r g b) (min3 r g b)) = false)
    (hc : ((cmp r (max3 r g b) == some .eq) = true ∧ hh = sub (div (sub (max3 r g b) b) (sub (max3 r g b) (min3 r g b))) (div (sub (max3 r g b) g) (sub (max3 r g b) (min3 r g b)))) ∨
      ((cmp r (max3 r g b) == some .eq) = false ∧ (cmp g (max3 r g b) == some .eq) = true ∧ hh = sub (add c2 (div (sub (max3 r g b) r) (sub (max3 r g b) (min3 r g b)))) (div (sub (max3 r g b) b) (sub (max3 r g b) (min3 r g b)))) ∨
      ((cmp r (max3 r g b) == some .eq) = false ∧ (cmp g (max3 r g b) == some .eq) = false ∧ hh = sub (add c4 (div (sub (max3 r g b) g) (sub (max3 r g b) (min3 r g b)))) (div (sub (max3 r g b) r) (sub (max3 r g b) (min3 r g b))))) :
    ∃ l s, phi P (j + 1) "rgb_to_hls" [.flt r, .flt g, .flt b] = some (.tup [.flt (divmod (div hh c6) c1).snd, l, s]) := by
  generalize hM : max3 r g b = M at *
  generalize hm : min3 r g b = mn at *
  generalize hs : (if (cmp (div (add M mn) c2) cH == some .lt || cmp (div (add M mn) c2) cH == some .eq) then div (sub M mn) (add M mn) else div (sub M mn) (sub (sub c2 M) mn)) = s
  refine ⟨.flt (div (add M mn) c2), .flt s, ?_⟩
  show run P (phi P j) 48 ["r", "g", "b"] [.flt r, .flt g, .flt b] = _
  unfold run runP
  have e1 : (fdAt P 48).scope.names = [(("r" : Str), NameKind.local), ("g", NameKind.local), ("b", NameKind.local), ("maxc", NameKind.local), ("minc", NameKind.local), ("sumc", NameKind.local), ("rangec", NameKind.local), ("l", NameKind.local), ("s", NameKind.local), ("rc", NameKind.local), ("gc", NameKind.local), ("bc", NameKind.local), ("h", NameKind.local), ("max", NameKind.globalImplicit), ("min", NameKind.globalImplicit)] := by kernel_rfl
  rw [e1]
  conv in bodyOf _ => whnf
  rw [exL_next ([("maxc", .flt M), ("r", .flt r), ("g", .flt g), ("b", .flt b)], none)]
  rw [exL_next ([("minc", .flt mn), ("maxc", .flt M), ("r", .flt r), ("g", .flt g), ("b", .flt b)], none)]
  rw [exL_next ([("sumc", .flt (add M mn)), ("minc", .flt mn), ("maxc", .flt M), ("r", .flt r), ("g", .flt g), ("b", .flt b)], none)]
  rw [exL_next ([("rangec", .flt (sub M mn)), ("sumc", .flt (add M mn)), ("minc", .flt mn), ("maxc", .flt M), ("r", .flt r), ("g", .flt g), ("b", .flt b)], none)]
  rw [exL_next ([("l", .flt (div (add M mn) c2)), ("rangec", .flt (sub M mn)), ("sumc", .flt (add M mn)), ("minc", .flt mn), ("maxc", .flt M), ("r", .flt r), ("g", .flt g), ("b", .flt b)], none)]
  rw [exL_next ([("l", .flt (div (add M mn) c2)), ("rangec", .flt (sub M mn)), ("sumc", .flt (add M mn)), ("minc", .flt mn), ("maxc", .flt M), ("r", .flt r), ("g", .flt g), ("b", .flt b)], none)]
  rw [exL_next ([("s", .flt s), ("l", .flt (div (add M mn) c2)), ("rangec", .flt (sub M mn)), ("sumc", .flt (add M mn)), ("minc", .flt mn), ("maxc", .flt M), ("r", .flt r), ("g", .flt g), ("b", .flt b)], none)]
  rw [exL_next ([("rc", .flt (div (sub M r) (sub M mn))), ("s", .flt s), ("l", .flt (div (add M mn) c2)), ("rangec", .flt (sub M mn)), ("sumc", .flt (add M mn)), ("minc", .flt mn), ("maxc", .flt M), ("r", .flt r), ("g", .flt g), ("b", .flt b)], none)]
  rw [exL_next ([("gc", .flt (div (sub M g) (sub M mn))), ("rc", .flt (div (sub M r) (sub M mn))), ("s", .flt s), ("l", .flt (div (add M mn) c2)), ("rangec", .flt (sub M mn)), ("sumc", .flt (add M mn)), ("minc", .flt mn), ("maxc", .flt M), ("r", .flt r), ("g", .flt g), ("b", .flt b)], none)]
  rw [exL_next ([("bc", .flt (div (sub M b) (sub M mn))), ("gc", .flt (div (sub M g) (sub M mn))), ("rc", .flt (div (sub M r) (sub M mn))), ("s", .flt s), ("l", .flt (div (add M mn) c2)), ("rangec", .flt (sub M mn)), ("sumc", .flt (add M mn)), ("minc", .flt mn), ("maxc", .flt M), ("r", .flt r), ("g", .flt g), ("b", .flt b)], none)]
  rw [exL_next ([("h", .flt hh), ("bc", .flt (div (sub M b) (sub M mn))), ("gc", .flt (div (sub M g) (sub M mn))), ("rc", .flt (div (sub M r) (sub M mn))), ("s", .flt s), ("l", .flt (div (add M mn) c2)), ("rangec", .flt (sub M mn)), ("sumc", .flt (add M mn)), ("minc", .flt mn), ("maxc", .flt M), ("r", .flt r), ("g", .flt g), ("b", .flt b)], none)]
  rw [exL_next ([("h", .flt (divmod (div hh c6) c1).snd), ("h", .flt hh), ("bc", .flt (div (sub M b) (sub M mn))), ("gc", .flt (div (sub M g) (sub M mn))), ("rc", .flt (div (sub M r) (sub M mn))), ("s", .flt s), ("l", .flt (div (add M mn) c2)), ("rangec", .flt (sub M mn)), ("sumc", .flt (add M mn)), ("minc", .flt mn), ("maxc", .flt M), ("r", .flt r), ("g", .flt g), ("b", .flt b)], none)]
  rw [exL_ret (.tup [.flt (divmod (div hh c6) c1).snd, .flt (div (add M mn) c2), .flt s]) ([("h", .flt (divmod (div hh c6) c1).snd), ("h", .flt hh), ("bc", .flt (div (sub M b) (sub M mn))), ("gc", .flt (div (sub M g) (sub M mn))), ("rc", .flt (div (sub M r) (sub M mn))), ("s", .flt s), ("l", .flt (div (add M mn) c2)), ("rangec", .flt (sub M mn)), ("sumc", .flt (add M mn)), ("minc", .flt mn), ("maxc", .flt M), ("r", .flt r), ("g", .flt g), ("b", .flt b)], none)]
  · kernel_rfl
  · kernel_rfl
  · rcases hc with ⟨q1, rfl⟩ | ⟨q1, q2, rfl⟩ | ⟨q1, q2, rfl⟩
    · refine (ex_if (cmp r M == some .eq) (by kernel_rfl)).trans ?_
      rw [q1]
      exact exL_one (by kernel_rfl)
    · refine (ex_if (cmp r M == some .eq) (by kernel_rfl)).trans ?_
      rw [q1]
      refine exL_one ((ex_if (cmp g M == some .eq) (by kernel_rfl)).trans ?_)
      rw [q2]
      exact exL_one (by kernel_rfl)
    · refine (ex_if (cmp r M == some .eq) (by kernel_rfl)).trans ?_
      rw [q1]
      refine exL_one ((ex_if (cmp g M == some .eq) (by kernel_rfl)).trans ?_)
      rw [q2]
      exact exL_one (by kernel_rfl)
  · exact ex_asg (by kernel_rfl) ((show _ = binop .Div (.flt (sub M b)) (.flt (sub M mn)) from by kernel_rfl).trans (div_some z3)) (by kernel_rfl)
  · exact ex_asg (by kernel_rfl) ((show _ = binop .Div (.flt (sub M g)) (.flt (sub M mn)) from by kernel_rfl).trans (div_some z3)) (by kernel_rfl)
  · exact ex_asg (by kernel_rfl) ((show _ = binop .Div (.flt (sub M r)) (.flt (sub M mn)) from by kernel_rfl).trans (div_some z3)) (by kernel_rfl)
  · refine (ex_if (cmp (div (add M mn) c2) cH == some .lt || cmp (div (add M mn) c2) cH == some .eq) (by kernel_rfl)).trans ?_
    rw [← hs]
    by_cases q : (cmp (div (add M mn) c2) cH == some .lt || cmp (div (add M mn) c2) cH == some .eq) = true
    · rw [if_pos q, if_pos q]
      exact exL_one (ex_asg (by kernel_rfl) ((show _ = binop .Div (.flt (sub M mn)) (.flt (add M mn)) from by kernel_rfl).trans (div_some z1)) (by kernel_rfl))
    · rw [if_neg q, if_neg q]
      exact exL_one (ex_asg (by kernel_rfl) ((show _ = binop .Div (.flt (sub M mn)) (.flt (sub (sub c2 M) mn)) from by kernel_rfl).trans (div_some z2)) (by kernel_rfl))
  · refine (ex_if (cmp mn M == some .eq) (by kernel_rfl)).trans ?_
    rw [h1]; rfl
  · kernel_rfl
  · kernel_rfl
  · kernel_rfl
  · rw [← hm]; kernel_rfl
  · rw [← hM]; kernel_rfl
end Mine

/-! FL3 -/

namespace Mine
open PySem.Float64 (add sub mul div cmp isZero divmod val cmp_right)

theorem iv_of {x : UInt64} {k : Int} (hf : Float64.isFinite x = true) (hv : val x * 65536 = k * 2 ^ 1074) : Iv x k k := by
  rw [one_uZ] at hv
  have : val x = k * u := by
    have e : k * (65536 * (u : Int)) = k * u * 65536 := by generalize (u : Int) = U; ac_rfl
    rw [e] at hv
    omega
  exact ⟨hf, by omega, by omega⟩
theorem c1_in : Iv c1 65536 65536 := iv_of (by decide +kernel) (by decide +kernel)
theorem c2_in : Iv c2 131072 131072 := iv_of (by decide +kernel) (by decide +kernel)
theorem c4_in : Iv c4 262144 262144 := iv_of (by decide +kernel) (by decide +kernel)
theorem c6_in : Iv c6 393216 393216 := iv_of (by decide +kernel) (by decide +kernel)
theorem c1_one : c1 = Float64.one := by decide +kernel

/-- the float is k 256ths -/
noncomputable def Ex (x : UInt64) (k : Int) : Prop := Iv x (256 * k) (256 * k)
theorem Ex.val {x : UInt64} {k : Int} (h : Ex x k) : Float64.val x = 256 * k * u := Iv.ex h
theorem mulu_lt {a b : Int} : a * (u : Int) < b * u ↔ a < b := ⟨fun h => Int.lt_of_mul_lt_mul_right h (Int.le_of_lt up), fun h => Int.mul_lt_mul_of_pos_right h up⟩
theorem mulu_eq {a b : Int} : a * (u : Int) = b * u ↔ a = b := ⟨fun h => Int.eq_of_mul_eq_mul_right (Int.ne_of_gt up) h, fun h => by rw [h]⟩
theorem lt_ex {x y : UInt64} {a b : Int} (hx : Ex x a) (hy : Ex y b) : (cmp x y == some Ordering.lt) = decide (a < b) := by
  rw [cmp_lt hx.fin hy.fin, hx.val, hy.val]
  congr 1
  rw [mulu_lt]; exact propext ⟨fun h => by omega, fun h => by omega⟩
theorem fLt_ex {x y : UInt64} {a b : Int} (hx : Ex x a) (hy : Ex y b) : fLt x y = decide (a < b) := lt_ex hx hy
theorem eq_ex {x y : UInt64} {a b : Int} (hx : Ex x a) (hy : Ex y b) : (cmp x y == some Ordering.eq) = decide (a = b) := by
  rw [cmp_val hx.fin hy.fin, hx.val, hy.val]
  rcases Int.lt_trichotomy a b with h | h | h
  · rw [Int.compare_eq_lt.mpr (mulu_lt.mpr (by omega)), decide_eq_false (by omega)]; rfl
  · subst h; rw [Int.compare_eq_eq.mpr rfl, decide_eq_true rfl]; rfl
  · rw [Int.compare_eq_gt.mpr (mulu_lt.mpr (by omega)), decide_eq_false (by omega)]; rfl
theorem sub_ex {x y : UInt64} {a b : Int} (hx : Ex x a) (hy : Ex y b) (h1 : -1000 < a - b) (h2 : a - b < 1000) : Ex (sub x y) (a - b) := by
  have := sub_in hx hy (by omega) (by omega)
  exact this.mono (by omega) (by omega)
theorem add_ex {x y : UInt64} {a b : Int} (hx : Ex x a) (hy : Ex y b) (h1 : -1000 < a + b) (h2 : a + b < 1000) : Ex (add x y) (a + b) := by
  have := add_in hx hy (by omega) (by omega)
  exact this.mono (by omega) (by omega)
theorem c2_ex : Ex c2 512 := c2_in
theorem c1_ex : Ex c1 256 := c1_in
theorem ratio_one {x y : UInt64} {w : Int} (hx : Ex x w) (hy : Ex y w) (h : 0 < w) : Iv (div x y) 65536 65536 := div_in hx hy (by omega) (by omega) (by omega) (by omega) (by omega) (by omega)
theorem ratio_in {x y : UInt64} {e w : Int} (hx : Ex x e) (hy : Ex y w) (h : 0 < e) (h2 : e < w) (h3 : w ≤ 256) : Iv (div x y) 256 65280 := div_in hx hy (by omega) (by omega) (by omega) (by omega) (by omega) (by omega)

/-- six times the float lies inside the p-th step -/
noncomputable def HueAt (x : UInt64) (p : Int) : Prop := ∃ lo hi, Iv x lo hi ∧ 0 < lo ∧ hi < 1000000 ∧ 65536 * p < 6 * lo ∧ 6 * hi < 65536 * (p + 1)
theorem hue_pos {h : UInt64} {a b lo hi p : Int} (hx : Iv h a b) (ha : 0 < a) (h0 : 0 < lo) (h1 : 6 * lo ≤ a) (h2 : b ≤ 6 * hi) (hb : hi < 65536) (h3 : 65536 * p < 6 * lo) (h4 : 6 * hi < 65536 * (p + 1)) : HueAt (divmod (div h c6) c1).snd p := by
  have hd : Iv (div h c6) lo hi := div_in hx c6_in ha (by decide) (by omega) (by omega) (by omega) (by omega)
  rw [c1_one]
  exact ⟨lo, hi, mod1_in hd h0 hb, h0, by omega, h3, h4⟩
theorem hue_neg {h : UInt64} {a b lo hi p : Int} (hx : Iv h a b) (hb : b < 0) (h0 : hi < 0) (h1 : 6 * lo ≤ a) (h2 : b ≤ 6 * hi) (hl : -65536 < lo) (h3 : 65536 * p < 6 * (lo + 65536)) (h4 : 6 * (hi + 65536) < 65536 * (p + 1)) : HueAt (divmod (div h c6) c1).snd p := by
  have hd : Iv (div h c6) lo hi := div_inN hx c6_in hb (by decide) (by omega) (by omega) (by omega) (by omega)
  rw [c1_one]
  exact ⟨lo + 65536, hi + 65536, mod1_inN hd hl h0, by omega, by omega, h3, h4⟩

theorem hue0 (P : Params) (j : Nat) {r g b : UInt64} {R G B : Int} (hr : Ex r R) (hg : Ex g G) (hb : Ex b B) (h0 : 0 ≤ B) (h1 : B < G) (h2 : G < R) (h3 : R ≤ 256) :
    ∃ x l s, phi P (j + 1) "rgb_to_hls" [.flt r, .flt g, .flt b] = some (.tup [.flt x, l, s]) ∧ HueAt x 0 := by
  have eM : max3 r g b = r := by unfold max3; rw [fLt_ex hr hg]; simp only [decide_eq_true_eq]; split <;> first | (rw [fLt_ex hg hb]; simp only [decide_eq_true_eq]; split <;> first | rfl | omega) | (rw [fLt_ex hr hb]; simp only [decide_eq_true_eq]; split <;> first | rfl | omega)
  have em : min3 r g b = b := by unfold min3; rw [fLt_ex hg hr]; simp only [decide_eq_true_eq]; split <;> first | (rw [fLt_ex hb hg]; simp only [decide_eq_true_eq]; split <;> first | rfl | omega) | (rw [fLt_ex hb hr]; simp only [decide_eq_true_eq]; split <;> first | rfl | omega)
  have hw : Ex (sub r b) (R - B) := sub_ex hr hb (by omega) (by omega)
  have hf : Iv (div (sub r g) (sub r b)) 256 65280 := ratio_in (sub_ex hr hg (by omega) (by omega)) hw (by omega) (by omega) (by omega)
  have h1' : Iv (div (sub r b) (sub r b)) 65536 65536 := ratio_one hw hw (by omega)
  have hh := sub_in h1' hf (by decide) (by decide)
  obtain ⟨l, s, e⟩ := run_hls P j r g b (sub (div (sub r b) (sub r b)) (div (sub r g) (sub r b))) (by rw [eM, em, eq_ex hb hr]; exact decide_eq_false (by omega)) (by rw [eM, em]; exact Iv.nz (add_ex hr hb (by omega) (by omega)) (by omega)) (by rw [eM, em]; exact Iv.nz (sub_ex (sub_ex c2_ex hr (by omega) (by omega)) hb (by omega) (by omega)) (by omega)) (by rw [eM, em]; exact Iv.nz hw (by omega))
    (.inl ⟨by rw [eM, eq_ex hr hr]; simp, by rw [eM, em]⟩)
  exact ⟨_, l, s, e, hue_pos (lo := 42) (hi := 10880) hh (by decide) (by decide) (by decide) (by decide) (by decide) (by decide) (by decide)⟩

theorem hue1 (P : Params) (j : Nat) {r g b : UInt64} {R G B : Int} (hr : Ex r R) (hg : Ex g G) (hb : Ex b B) (h0 : 0 ≤ B) (h1 : B < R) (h2 : R < G) (h3 : G ≤ 256) :
    ∃ x l s, phi P (j + 1) "rgb_to_hls" [.flt r, .flt g, .flt b] = some (.tup [.flt x, l, s]) ∧ HueAt x 1 := by
  have eM : max3 r g b = g := by unfold max3; rw [fLt_ex hr hg]; simp only [decide_eq_true_eq]; split <;> first | (rw [fLt_ex hg hb]; simp only [decide_eq_true_eq]; split <;> first | rfl | omega) | (rw [fLt_ex hr hb]; simp only [decide_eq_true_eq]; split <;> first | rfl | omega)
  have em : min3 r g b = b := by unfold min3; rw [fLt_ex hg hr]; simp only [decide_eq_true_eq]; split <;> first | (rw [fLt_ex hb hg]; simp only [decide_eq_true_eq]; split <;> first | rfl | omega) | (rw [fLt_ex hb hr]; simp only [decide_eq_true_eq]; split <;> first | rfl | omega)
  have hw : Ex (sub g b) (G - B) := sub_ex hg hb (by omega) (by omega)
  have hf : Iv (div (sub g r) (sub g b)) 256 65280 := ratio_in (sub_ex hg hr (by omega) (by omega)) hw (by omega) (by omega) (by omega)
  have h1' : Iv (div (sub g b) (sub g b)) 65536 65536 := ratio_one hw hw (by omega)
  have hh := sub_in (add_in c2_in hf (by decide) (by decide)) h1' (by decide) (by decide)
  obtain ⟨l, s, e⟩ := run_hls P j r g b (sub (add c2 (div (sub g r) (sub g b))) (div (sub g b) (sub g b))) (by rw [eM, em, eq_ex hb hg]; exact decide_eq_false (by omega)) (by rw [eM, em]; exact Iv.nz (add_ex hg hb (by omega) (by omega)) (by omega)) (by rw [eM, em]; exact Iv.nz (sub_ex (sub_ex c2_ex hg (by omega) (by omega)) hb (by omega) (by omega)) (by omega)) (by rw [eM, em]; exact Iv.nz hw (by omega))
    (.inr (.inl ⟨by rw [eM, eq_ex hr hg]; exact decide_eq_false (by omega), by rw [eM, eq_ex hg hg]; simp, by rw [eM, em]⟩))
  exact ⟨_, l, s, e, hue_pos (lo := 10965) (hi := 21803) hh (by decide) (by decide) (by decide) (by decide) (by decide) (by decide) (by decide)⟩

theorem hue2 (P : Params) (j : Nat) {r g b : UInt64} {R G B : Int} (hr : Ex r R) (hg : Ex g G) (hb : Ex b B) (h0 : 0 ≤ R) (h1 : R < B) (h2 : B < G) (h3 : G ≤ 256) :
    ∃ x l s, phi P (j + 1) "rgb_to_hls" [.flt r, .flt g, .flt b] = some (.tup [.flt x, l, s]) ∧ HueAt x 2 := by
  have eM : max3 r g b = g := by unfold max3; rw [fLt_ex hr hg]; simp only [decide_eq_true_eq]; split <;> first | (rw [fLt_ex hg hb]; simp only [decide_eq_true_eq]; split <;> first | rfl | omega) | (rw [fLt_ex hr hb]; simp only [decide_eq_true_eq]; split <;> first | rfl | omega)
  have em : min3 r g b = r := by unfold min3; rw [fLt_ex hg hr]; simp only [decide_eq_true_eq]; split <;> first | (rw [fLt_ex hb hg]; simp only [decide_eq_true_eq]; split <;> first | rfl | omega) | (rw [fLt_ex hb hr]; simp only [decide_eq_true_eq]; split <;> first | rfl | omega)
  have hw : Ex (sub g r) (G - R) := sub_ex hg hr (by omega) (by omega)
  have hf : Iv (div (sub g b) (sub g r)) 256 65280 := ratio_in (sub_ex hg hb (by omega) (by omega)) hw (by omega) (by omega) (by omega)
  have h1' : Iv (div (sub g r) (sub g r)) 65536 65536 := ratio_one hw hw (by omega)
  have hh := sub_in (add_in c2_in h1' (by decide) (by decide)) hf (by decide) (by decide)
  obtain ⟨l, s, e⟩ := run_hls P j r g b (sub (add c2 (div (sub g r) (sub g r))) (div (sub g b) (sub g r))) (by rw [eM, em, eq_ex hr hg]; exact decide_eq_false (by omega)) (by rw [eM, em]; exact Iv.nz (add_ex hg hr (by omega) (by omega)) (by omega)) (by rw [eM, em]; exact Iv.nz (sub_ex (sub_ex c2_ex hg (by omega) (by omega)) hr (by omega) (by omega)) (by omega)) (by rw [eM, em]; exact Iv.nz hw (by omega))
    (.inr (.inl ⟨by rw [eM, eq_ex hr hg]; exact decide_eq_false (by omega), by rw [eM, eq_ex hg hg]; simp, by rw [eM, em]⟩))
  exact ⟨_, l, s, e, hue_pos (lo := 21888) (hi := 32726) hh (by decide) (by decide) (by decide) (by decide) (by decide) (by decide) (by decide)⟩

theorem hue3 (P : Params) (j : Nat) {r g b : UInt64} {R G B : Int} (hr : Ex r R) (hg : Ex g G) (hb : Ex b B) (h0 : 0 ≤ R) (h1 : R < G) (h2 : G < B) (h3 : B ≤ 256) :
    ∃ x l s, phi P (j + 1) "rgb_to_hls" [.flt r, .flt g, .flt b] = some (.tup [.flt x, l, s]) ∧ HueAt x 3 := by
  have eM : max3 r g b = b := by unfold max3; rw [fLt_ex hr hg]; simp only [decide_eq_true_eq]; split <;> first | (rw [fLt_ex hg hb]; simp only [decide_eq_true_eq]; split <;> first | rfl | omega) | (rw [fLt_ex hr hb]; simp only [decide_eq_true_eq]; split <;> first | rfl | omega)
  have em : min3 r g b = r := by unfold min3; rw [fLt_ex hg hr]; simp only [decide_eq_true_eq]; split <;> first | (rw [fLt_ex hb hg]; simp only [decide_eq_true_eq]; split <;> first | rfl | omega) | (rw [fLt_ex hb hr]; simp only [decide_eq_true_eq]; split <;> first | rfl | omega)
  have hw : Ex (sub b r) (B - R) := sub_ex hb hr (by omega) (by omega)
  have hf : Iv (div (sub b g) (sub b r)) 256 65280 := ratio_in (sub_ex hb hg (by omega) (by omega)) hw (by omega) (by omega) (by omega)
  have h1' : Iv (div (sub b r) (sub b r)) 65536 65536 := ratio_one hw hw (by omega)
  have hh := sub_in (add_in c4_in hf (by decide) (by decide)) h1' (by decide) (by decide)
  obtain ⟨l, s, e⟩ := run_hls P j r g b (sub (add c4 (div (sub b g) (sub b r))) (div (sub b r) (sub b r))) (by rw [eM, em, eq_ex hr hb]; exact decide_eq_false (by omega)) (by rw [eM, em]; exact Iv.nz (add_ex hb hr (by omega) (by omega)) (by omega)) (by rw [eM, em]; exact Iv.nz (sub_ex (sub_ex c2_ex hb (by omega) (by omega)) hr (by omega) (by omega)) (by omega)) (by rw [eM, em]; exact Iv.nz hw (by omega))
    (.inr (.inr ⟨by rw [eM, eq_ex hr hb]; exact decide_eq_false (by omega), by rw [eM, eq_ex hg hb]; exact decide_eq_false (by omega), by rw [eM, em]⟩))
  exact ⟨_, l, s, e, hue_pos (lo := 32810) (hi := 43648) hh (by decide) (by decide) (by decide) (by decide) (by decide) (by decide) (by decide)⟩

theorem hue4 (P : Params) (j : Nat) {r g b : UInt64} {R G B : Int} (hr : Ex r R) (hg : Ex g G) (hb : Ex b B) (h0 : 0 ≤ G) (h1 : G < R) (h2 : R < B) (h3 : B ≤ 256) :
    ∃ x l s, phi P (j + 1) "rgb_to_hls" [.flt r, .flt g, .flt b] = some (.tup [.flt x, l, s]) ∧ HueAt x 4 := by
  have eM : max3 r g b = b := by unfold max3; rw [fLt_ex hr hg]; simp only [decide_eq_true_eq]; split <;> first | (rw [fLt_ex hg hb]; simp only [decide_eq_true_eq]; split <;> first | rfl | omega) | (rw [fLt_ex hr hb]; simp only [decide_eq_true_eq]; split <;> first | rfl | omega)
  have em : min3 r g b = g := by unfold min3; rw [fLt_ex hg hr]; simp only [decide_eq_true_eq]; split <;> first | (rw [fLt_ex hb hg]; simp only [decide_eq_true_eq]; split <;> first | rfl | omega) | (rw [fLt_ex hb hr]; simp only [decide_eq_true_eq]; split <;> first | rfl | omega)
  have hw : Ex (sub b g) (B - G) := sub_ex hb hg (by omega) (by omega)
  have hf : Iv (div (sub b r) (sub b g)) 256 65280 := ratio_in (sub_ex hb hr (by omega) (by omega)) hw (by omega) (by omega) (by omega)
  have h1' : Iv (div (sub b g) (sub b g)) 65536 65536 := ratio_one hw hw (by omega)
  have hh := sub_in (add_in c4_in h1' (by decide) (by decide)) hf (by decide) (by decide)
  obtain ⟨l, s, e⟩ := run_hls P j r g b (sub (add c4 (div (sub b g) (sub b g))) (div (sub b r) (sub b g))) (by rw [eM, em, eq_ex hg hb]; exact decide_eq_false (by omega)) (by rw [eM, em]; exact Iv.nz (add_ex hb hg (by omega) (by omega)) (by omega)) (by rw [eM, em]; exact Iv.nz (sub_ex (sub_ex c2_ex hb (by omega) (by omega)) hg (by omega) (by omega)) (by omega)) (by rw [eM, em]; exact Iv.nz hw (by omega))
    (.inr (.inr ⟨by rw [eM, eq_ex hr hb]; exact decide_eq_false (by omega), by rw [eM, eq_ex hg hb]; exact decide_eq_false (by omega), by rw [eM, em]⟩))
  exact ⟨_, l, s, e, hue_pos (lo := 43733) (hi := 54571) hh (by decide) (by decide) (by decide) (by decide) (by decide) (by decide) (by decide)⟩

theorem hue5 (P : Params) (j : Nat) {r g b : UInt64} {R G B : Int} (hr : Ex r R) (hg : Ex g G) (hb : Ex b B) (h0 : 0 ≤ G) (h1 : G < B) (h2 : B < R) (h3 : R ≤ 256) :
    ∃ x l s, phi P (j + 1) "rgb_to_hls" [.flt r, .flt g, .flt b] = some (.tup [.flt x, l, s]) ∧ HueAt x 5 := by
  have eM : max3 r g b = r := by unfold max3; rw [fLt_ex hr hg]; simp only [decide_eq_true_eq]; split <;> first | (rw [fLt_ex hg hb]; simp only [decide_eq_true_eq]; split <;> first | rfl | omega) | (rw [fLt_ex hr hb]; simp only [decide_eq_true_eq]; split <;> first | rfl | omega)
  have em : min3 r g b = g := by unfold min3; rw [fLt_ex hg hr]; simp only [decide_eq_true_eq]; split <;> first | (rw [fLt_ex hb hg]; simp only [decide_eq_true_eq]; split <;> first | rfl | omega) | (rw [fLt_ex hb hr]; simp only [decide_eq_true_eq]; split <;> first | rfl | omega)
  have hw : Ex (sub r g) (R - G) := sub_ex hr hg (by omega) (by omega)
  have hf : Iv (div (sub r b) (sub r g)) 256 65280 := ratio_in (sub_ex hr hb (by omega) (by omega)) hw (by omega) (by omega) (by omega)
  have h1' : Iv (div (sub r g) (sub r g)) 65536 65536 := ratio_one hw hw (by omega)
  have hh := sub_in hf h1' (by decide) (by decide)
  obtain ⟨l, s, e⟩ := run_hls P j r g b (sub (div (sub r b) (sub r g)) (div (sub r g) (sub r g))) (by rw [eM, em, eq_ex hg hr]; exact decide_eq_false (by omega)) (by rw [eM, em]; exact Iv.nz (add_ex hr hg (by omega) (by omega)) (by omega)) (by rw [eM, em]; exact Iv.nz (sub_ex (sub_ex c2_ex hr (by omega) (by omega)) hg (by omega) (by omega)) (by omega)) (by rw [eM, em]; exact Iv.nz hw (by omega))
    (.inl ⟨by rw [eM, eq_ex hr hr]; simp, by rw [eM, em]⟩)
  exact ⟨_, l, s, e, hue_neg (lo := -10880) (hi := -42) hh (by decide) (by decide) (by decide) (by decide) (by decide) (by decide) (by decide)⟩
end Mine

/-! N4 -/

namespace Mine
section
variable {Φ : Str → List D → Option D} {m n : Nat} {sc : Names} {ρ : Rho} {S S' : Sx}
theorem ex_set {x : Str} {p sp pos : Pos} {i v : Expr} {d : D} {k : Int} {pl : Bool} {ds : List D} (hx : (x == x) = true) (hv : ev Φ m sc ρ v = some d) (hi : ev Φ m sc ρ i = some (.int k)) (hb : 0 ≤ k ∧ k < ds.length ∧ ds.length < 1000) :
    ex Φ m sc (n + 1) (ρ, some (x, pl, ds)) (.Assign [.Subscript (.Name x p) i sp] v pos) = some (.next, (ρ, some (x, false, ds.set k.toNat d))) := by
  rw [ex_succ]
  simp only [exB, hx, if_true, hv, hi]
  rw [if_pos hb]
end

theorem run_hue (P : Params) (j : Nat) (c : Col) {x : UInt64} {l s : D} (h : phi P (j + 1) "rgb_to_hls" [.flt c.1, .flt c.2.1, .flt c.2.2] = some (.tup [.flt x, l, s])) : phi P (j + 2) "_law_hue" [cD c] = some (.flt x) := by
  show run P (phi P (j + 1)) 79 ["colour"] [cD c] = _
  unfold run runP
  have e1 : (fdAt P 79).scope.names = [(("colour" : Str), NameKind.local), ("rgb_to_hls", NameKind.globalImplicit)] := by kernel_rfl
  rw [e1]
  conv in bodyOf _ => whnf
  rw [exL_ret (.flt x) ([("colour", cD c)], none)]
  refine ex_ret (evF_one (ev_item (d := .tup [.flt x, l, s]) (k := 0) (by kernel_rfl) ?_ (by kernel_rfl) (by kernel_rfl)))
  exact (show _ = phi P (j + 1) "rgb_to_hls" [.flt c.1, .flt c.2.1, .flt c.2.2] from by kernel_rfl).trans h

noncomputable def leastI (n : Int) : Int := (n.fdiv 6).fmod 64
noncomputable def middleI (n : Int) : Int := leastI n + (n.fdiv 384).fmod 64 + 1
noncomputable def mostI (n : Int) : Int := middleI n + (n.fdiv 24576).fmod 64 + 1
noncomputable def colOf (p : Nat) (a b c : UInt64) : Col := match p with
  | 0 => (a, b, c)
  | 1 => (b, a, c)
  | 2 => (c, a, b)
  | 3 => (c, b, a)
  | 4 => (b, c, a)
  | _ => (a, c, b)
theorem fm64 (n : Int) : 0 ≤ n.fmod 64 ∧ n.fmod 64 < 64 := by rw [Int.fmod_eq_emod_of_nonneg _ (by decide)]; omega
theorem least_b (n : Int) : 0 ≤ leastI n ∧ leastI n < middleI n ∧ middleI n < mostI n ∧ mostI n ≤ 191 := by
  unfold mostI middleI leastI
  have := fm64 (n.fdiv 6); have := fm64 (n.fdiv 384); have := fm64 (n.fdiv 24576); omega
theorem div_part {k : Int} (h : 0 ≤ k ∧ k ≤ 191) : binop .Div (.int k) (.int 256) = some (.flt (intDiv k 256)) := by
  have h2 : 0 < (256 : Int) ∧ k.natAbs < 2 ^ 62 := by omega
  exact if_pos h2
noncomputable def scColour : Names := [("number", NameKind.local), ("least", NameKind.local), ("middle", NameKind.local), ("most", NameKind.local), ("order", NameKind.local), ("parts", NameKind.local), ("part", NameKind.local), ("k", NameKind.local), ("_law_orders", NameKind.globalImplicit)]
noncomputable def partF (k : Int) : UInt64 := intDiv k 256

theorem run_colour0 (P : Params) (j : Nat) (n : Int) (hp : n.fmod 6 = 0) : phi P (j + 2) "_law_colour" [.int n] = some (cD (colOf 0 (partF (mostI n)) (partF (middleI n)) (partF (leastI n)))) := by
  show run P (phi P (j + 1)) 62 ["number"] [.int n] = _
  unfold run runP
  have e1 : (fdAt P 62).scope.names = scColour := by kernel_rfl
  rw [e1]
  conv in bodyOf _ => whnf
  have hb := least_b n
  rw [exL_next ([("least", .int (leastI n)), ("number", .int n)], none)]
  rw [exL_next ([("middle", .int (middleI n)), ("least", .int (leastI n)), ("number", .int n)], none)]
  rw [exL_next ([("most", .int (mostI n)), ("middle", .int (middleI n)), ("least", .int (leastI n)), ("number", .int n)], none)]
  rw [exL_next ([("order", .tup [.int 0, .int 1, .int 2]), ("most", .int (mostI n)), ("middle", .int (middleI n)), ("least", .int (leastI n)), ("number", .int n)], none)]
  rw [exL_next ([("order", .tup [.int 0, .int 1, .int 2]), ("most", .int (mostI n)), ("middle", .int (middleI n)), ("least", .int (leastI n)), ("number", .int n)], some ("parts", true, [.flt 0, .flt 0, .flt 0]))]
  rw [exL_next ([("k", .int 2), ("part", .int (leastI n)), ("k", .int 1), ("part", .int (middleI n)), ("k", .int 0), ("part", .int (mostI n)), ("order", .tup [.int 0, .int 1, .int 2]), ("most", .int (mostI n)), ("middle", .int (middleI n)), ("least", .int (leastI n)), ("number", .int n)], some ("parts", false, [.flt (partF (mostI n)), .flt (partF (middleI n)), .flt (partF (leastI n))]))]
  rw [exL_ret (cD (colOf 0 (partF (mostI n)) (partF (middleI n)) (partF (leastI n)))) (freeze ([("k", .int 2), ("part", .int (leastI n)), ("k", .int 1), ("part", .int (middleI n)), ("k", .int 0), ("part", .int (mostI n)), ("order", .tup [.int 0, .int 1, .int 2]), ("most", .int (mostI n)), ("middle", .int (middleI n)), ("least", .int (leastI n)), ("number", .int n)], some ("parts", false, [.flt (partF (mostI n)), .flt (partF (middleI n)), .flt (partF (leastI n))])), none)]
  · kernel_rfl
  · refine (ex_for (itd := .tup [.tup [.int (mostI n), .int 0], .tup [.int (middleI n), .int 1], .tup [.int (leastI n), .int 2]]) (ds := [.tup [.int (mostI n), .int 0], .tup [.int (middleI n), .int 1], .tup [.int (leastI n), .int 2]]) (by kernel_rfl) (by kernel_rfl) (by kernel_rfl) (by simp)).trans ?_
    rw [forL_next ([("k", .int 0), ("part", .int (mostI n)), ("order", .tup [.int 0, .int 1, .int 2]), ("most", .int (mostI n)), ("middle", .int (middleI n)), ("least", .int (leastI n)), ("number", .int n)], some ("parts", false, [.flt (partF (mostI n)), .flt 0, .flt 0]))]
    rw [forL_next ([("k", .int 1), ("part", .int (middleI n)), ("k", .int 0), ("part", .int (mostI n)), ("order", .tup [.int 0, .int 1, .int 2]), ("most", .int (mostI n)), ("middle", .int (middleI n)), ("least", .int (leastI n)), ("number", .int n)], some ("parts", false, [.flt (partF (mostI n)), .flt (partF (middleI n)), .flt 0]))]
    rw [forL_next ([("k", .int 2), ("part", .int (leastI n)), ("k", .int 1), ("part", .int (middleI n)), ("k", .int 0), ("part", .int (mostI n)), ("order", .tup [.int 0, .int 1, .int 2]), ("most", .int (mostI n)), ("middle", .int (middleI n)), ("least", .int (leastI n)), ("number", .int n)], some ("parts", false, [.flt (partF (mostI n)), .flt (partF (middleI n)), .flt (partF (leastI n))]))]
    · kernel_rfl
    · refine (bind_to (α := Sx) ([("k", .int 2), ("part", .int (leastI n)), ("k", .int 1), ("part", .int (middleI n)), ("k", .int 0), ("part", .int (mostI n)), ("order", .tup [.int 0, .int 1, .int 2]), ("most", .int (mostI n)), ("middle", .int (middleI n)), ("least", .int (leastI n)), ("number", .int n)], some ("parts", false, [.flt (partF (mostI n)), .flt (partF (middleI n)), .flt 0])) (by kernel_rfl)).trans ?_
      exact exL_one (ex_set (k := 2) (d := .flt (partF (leastI n))) (by kernel_rfl) ((show _ = binop .Div (.int (leastI n)) (.int 256) from by kernel_rfl).trans (div_part (by omega))) (by kernel_rfl) (by simp))
    · refine (bind_to (α := Sx) ([("k", .int 1), ("part", .int (middleI n)), ("k", .int 0), ("part", .int (mostI n)), ("order", .tup [.int 0, .int 1, .int 2]), ("most", .int (mostI n)), ("middle", .int (middleI n)), ("least", .int (leastI n)), ("number", .int n)], some ("parts", false, [.flt (partF (mostI n)), .flt 0, .flt 0])) (by kernel_rfl)).trans ?_
      exact exL_one (ex_set (k := 1) (d := .flt (partF (middleI n))) (by kernel_rfl) ((show _ = binop .Div (.int (middleI n)) (.int 256) from by kernel_rfl).trans (div_part (by omega))) (by kernel_rfl) (by simp))
    · refine (bind_to (α := Sx) ([("k", .int 0), ("part", .int (mostI n)), ("order", .tup [.int 0, .int 1, .int 2]), ("most", .int (mostI n)), ("middle", .int (middleI n)), ("least", .int (leastI n)), ("number", .int n)], some ("parts", true, [.flt 0, .flt 0, .flt 0])) (by kernel_rfl)).trans ?_
      exact exL_one (ex_set (k := 0) (d := .flt (partF (mostI n))) (by kernel_rfl) ((show _ = binop .Div (.int (mostI n)) (.int 256) from by kernel_rfl).trans (div_part (by omega))) (by kernel_rfl) (by simp))
  · kernel_rfl
  · refine ex_asg (d := .tup [.int 0, .int 1, .int 2]) (by kernel_rfl) (ev_item (k := 0) (by kernel_rfl) ((show _ = phi P (j + 1) "_law_orders" [] from by kernel_rfl).trans (run_orders P j)) ((show _ = some (.int (n.fmod 6)) from by kernel_rfl).trans (by rw [hp])) (by kernel_rfl)) (by kernel_rfl)
  · kernel_rfl
  · kernel_rfl
  · kernel_rfl

theorem run_colour1 (P : Params) (j : Nat) (n : Int) (hp : n.fmod 6 = 1) : phi P (j + 2) "_law_colour" [.int n] = some (cD (colOf 1 (partF (mostI n)) (partF (middleI n)) (partF (leastI n)))) := by
  show run P (phi P (j + 1)) 62 ["number"] [.int n] = _
  unfold run runP
  have e1 : (fdAt P 62).scope.names = scColour := by kernel_rfl
  rw [e1]
  conv in bodyOf _ => whnf
  have hb := least_b n
  rw [exL_next ([("least", .int (leastI n)), ("number", .int n)], none)]
  rw [exL_next ([("middle", .int (middleI n)), ("least", .int (leastI n)), ("number", .int n)], none)]
  rw [exL_next ([("most", .int (mostI n)), ("middle", .int (middleI n)), ("least", .int (leastI n)), ("number", .int n)], none)]
  rw [exL_next ([("order", .tup [.int 1, .int 0, .int 2]), ("most", .int (mostI n)), ("middle", .int (middleI n)), ("least", .int (leastI n)), ("number", .int n)], none)]
  rw [exL_next ([("order", .tup [.int 1, .int 0, .int 2]), ("most", .int (mostI n)), ("middle", .int (middleI n)), ("least", .int (leastI n)), ("number", .int n)], some ("parts", true, [.flt 0, .flt 0, .flt 0]))]
  rw [exL_next ([("k", .int 2), ("part", .int (leastI n)), ("k", .int 1), ("part", .int (middleI n)), ("k", .int 0), ("part", .int (mostI n)), ("order", .tup [.int 1, .int 0, .int 2]), ("most", .int (mostI n)), ("middle", .int (middleI n)), ("least", .int (leastI n)), ("number", .int n)], some ("parts", false, [.flt (partF (middleI n)), .flt (partF (mostI n)), .flt (partF (leastI n))]))]
  rw [exL_ret (cD (colOf 1 (partF (mostI n)) (partF (middleI n)) (partF (leastI n)))) (freeze ([("k", .int 2), ("part", .int (leastI n)), ("k", .int 1), ("part", .int (middleI n)), ("k", .int 0), ("part", .int (mostI n)), ("order", .tup [.int 1, .int 0, .int 2]), ("most", .int (mostI n)), ("middle", .int (middleI n)), ("least", .int (leastI n)), ("number", .int n)], some ("parts", false, [.flt (partF (middleI n)), .flt (partF (mostI n)), .flt (partF (leastI n))])), none)]
  · kernel_rfl
  · refine (ex_for (itd := .tup [.tup [.int (mostI n), .int 0], .tup [.int (middleI n), .int 1], .tup [.int (leastI n), .int 2]]) (ds := [.tup [.int (mostI n), .int 0], .tup [.int (middleI n), .int 1], .tup [.int (leastI n), .int 2]]) (by kernel_rfl) (by kernel_rfl) (by kernel_rfl) (by simp)).trans ?_
    rw [forL_next ([("k", .int 0), ("part", .int (mostI n)), ("order", .tup [.int 1, .int 0, .int 2]), ("most", .int (mostI n)), ("middle", .int (middleI n)), ("least", .int (leastI n)), ("number", .int n)], some ("parts", false, [.flt 0, .flt (partF (mostI n)), .flt 0]))]
    rw [forL_next ([("k", .int 1), ("part", .int (middleI n)), ("k", .int 0), ("part", .int (mostI n)), ("order", .tup [.int 1, .int 0, .int 2]), ("most", .int (mostI n)), ("middle", .int (middleI n)), ("least", .int (leastI n)), ("number", .int n)], some ("parts", false, [.flt (partF (middleI n)), .flt (partF (mostI n)), .flt 0]))]
    rw [forL_next ([("k", .int 2), ("part", .int (leastI n)), ("k", .int 1), ("part", .int (middleI n)), ("k", .int 0), ("part", .int (mostI n)), ("order", .tup [.int 1, .int 0, .int 2]), ("most", .int (mostI n)), ("middle", .int (middleI n)), ("least", .int (leastI n)), ("number", .int n)], some ("parts", false, [.flt (partF (middleI n)), .flt (partF (mostI n)), .flt (partF (leastI n))]))]
    · kernel_rfl
    · refine (bind_to (α := Sx) ([("k", .int 2), ("part", .int (leastI n)), ("k", .int 1), ("part", .int (middleI n)), ("k", .int 0), ("part", .int (mostI n)), ("order", .tup [.int 1, .int 0, .int 2]), ("most", .int (mostI n)), ("middle", .int (middleI n)), ("least", .int (leastI n)), ("number", .int n)], some ("parts", false, [.flt (partF (middleI n)), .flt (partF (mostI n)), .flt 0])) (by kernel_rfl)).trans ?_
      exact exL_one (ex_set (k := 2) (d := .flt (partF (leastI n))) (by kernel_rfl) ((show _ = binop .Div (.int (leastI n)) (.int 256) from by kernel_rfl).trans (div_part (by omega))) (by kernel_rfl) (by simp))
    · refine (bind_to (α := Sx) ([("k", .int 1), ("part", .int (middleI n)), ("k", .int 0), ("part", .int (mostI n)), ("order", .tup [.int 1, .int 0, .int 2]), ("most", .int (mostI n)), ("middle", .int (middleI n)), ("least", .int (leastI n)), ("number", .int n)], some ("parts", false, [.flt 0, .flt (partF (mostI n)), .flt 0])) (by kernel_rfl)).trans ?_
      exact exL_one (ex_set (k := 0) (d := .flt (partF (middleI n))) (by kernel_rfl) ((show _ = binop .Div (.int (middleI n)) (.int 256) from by kernel_rfl).trans (div_part (by omega))) (by kernel_rfl) (by simp))
    · refine (bind_to (α := Sx) ([("k", .int 0), ("part", .int (mostI n)), ("order", .tup [.int 1, .int 0, .int 2]), ("most", .int (mostI n)), ("middle", .int (middleI n)), ("least", .int (leastI n)), ("number", .int n)], some ("parts", true, [.flt 0, .flt 0, .flt 0])) (by kernel_rfl)).trans ?_
      exact exL_one (ex_set (k := 1) (d := .flt (partF (mostI n))) (by kernel_rfl) ((show _ = binop .Div (.int (mostI n)) (.int 256) from by kernel_rfl).trans (div_part (by omega))) (by kernel_rfl) (by simp))
  · kernel_rfl
  · refine ex_asg (d := .tup [.int 1, .int 0, .int 2]) (by kernel_rfl) (ev_item (k := 1) (by kernel_rfl) ((show _ = phi P (j + 1) "_law_orders" [] from by kernel_rfl).trans (run_orders P j)) ((show _ = some (.int (n.fmod 6)) from by kernel_rfl).trans (by rw [hp])) (by kernel_rfl)) (by kernel_rfl)
  · kernel_rfl
  · kernel_rfl
  · kernel_rfl

theorem run_colour2 (P : Params) (j : Nat) (n : Int) (hp : n.fmod 6 = 2) : phi P (j + 2) "_law_colour" [.int n] = some (cD (colOf 2 (partF (mostI n)) (partF (middleI n)) (partF (leastI n)))) := by
  show run P (phi P (j + 1)) 62 ["number"] [.int n] = _
  unfold run runP
  have e1 : (fdAt P 62).scope.names = scColour := by kernel_rfl
  rw [e1]
  conv in bodyOf _ => whnf
  have hb := least_b n
  rw [exL_next ([("least", .int (leastI n)), ("number", .int n)], none)]
  rw [exL_next ([("middle", .int (middleI n)), ("least", .int (leastI n)), ("number", .int n)], none)]
  rw [exL_next ([("most", .int (mostI n)), ("middle", .int (middleI n)), ("least", .int (leastI n)), ("number", .int n)], none)]
  rw [exL_next ([("order", .tup [.int 1, .int 2, .int 0]), ("most", .int (mostI n)), ("middle", .int (middleI n)), ("least", .int (leastI n)), ("number", .int n)], none)]
  rw [exL_next ([("order", .tup [.int 1, .int 2, .int 0]), ("most", .int (mostI n)), ("middle", .int (middleI n)), ("least", .int (leastI n)), ("number", .int n)], some ("parts", true, [.flt 0, .flt 0, .flt 0]))]
  rw [exL_next ([("k", .int 2), ("part", .int (leastI n)), ("k", .int 1), ("part", .int (middleI n)), ("k", .int 0), ("part", .int (mostI n)), ("order", .tup [.int 1, .int 2, .int 0]), ("most", .int (mostI n)), ("middle", .int (middleI n)), ("least", .int (leastI n)), ("number", .int n)], some ("parts", false, [.flt (partF (leastI n)), .flt (partF (mostI n)), .flt (partF (middleI n))]))]
  rw [exL_ret (cD (colOf 2 (partF (mostI n)) (partF (middleI n)) (partF (leastI n)))) (freeze ([("k", .int 2), ("part", .int (leastI n)), ("k", .int 1), ("part", .int (middleI n)), ("k", .int 0), ("part", .int (mostI n)), ("order", .tup [.int 1, .int 2, .int 0]), ("most", .int (mostI n)), ("middle", .int (middleI n)), ("least", .int (leastI n)), ("number", .int n)], some ("parts", false, [.flt (partF (leastI n)), .flt (partF (mostI n)), .flt (partF (middleI n))])), none)]
  · kernel_rfl
  · refine (ex_for (itd := .tup [.tup [.int (mostI n), .int 0], .tup [.int (middleI n), .int 1], .tup [.int (leastI n), .int 2]]) (ds := [.tup [.int (mostI n), .int 0], .tup [.int (middleI n), .int 1], .tup [.int (leastI n), .int 2]]) (by kernel_rfl) (by kernel_rfl) (by kernel_rfl) (by simp)).trans ?_
    rw [forL_next ([("k", .int 0), ("part", .int (mostI n)), ("order", .tup [.int 1, .int 2, .int 0]), ("most", .int (mostI n)), ("middle", .int (middleI n)), ("least", .int (leastI n)), ("number", .int n)], some ("parts", false, [.flt 0, .flt (partF (mostI n)), .flt 0]))]
    rw [forL_next ([("k", .int 1), ("part", .int (middleI n)), ("k", .int 0), ("part", .int (mostI n)), ("order", .tup [.int 1, .int 2, .int 0]), ("most", .int (mostI n)), ("middle", .int (middleI n)), ("least", .int (leastI n)), ("number", .int n)], some ("parts", false, [.flt 0, .flt (partF (mostI n)), .flt (partF (middleI n))]))]
    rw [forL_next ([("k", .int 2), ("part", .int (leastI n)), ("k", .int 1), ("part", .int (middleI n)), ("k", .int 0), ("part", .int (mostI n)), ("order", .tup [.int 1, .int 2, .int 0]), ("most", .int (mostI n)), ("middle", .int (middleI n)), ("least", .int (leastI n)), ("number", .int n)], some ("parts", false, [.flt (partF (leastI n)), .flt (partF (mostI n)), .flt (partF (middleI n))]))]
    · kernel_rfl
    · refine (bind_to (α := Sx) ([("k", .int 2), ("part", .int (leastI n)), ("k", .int 1), ("part", .int (middleI n)), ("k", .int 0), ("part", .int (mostI n)), ("order", .tup [.int 1, .int 2, .int 0]), ("most", .int (mostI n)), ("middle", .int (middleI n)), ("least", .int (leastI n)), ("number", .int n)], some ("parts", false, [.flt 0, .flt (partF (mostI n)), .flt (partF (middleI n))])) (by kernel_rfl)).trans ?_
      exact exL_one (ex_set (k := 0) (d := .flt (partF (leastI n))) (by kernel_rfl) ((show _ = binop .Div (.int (leastI n)) (.int 256) from by kernel_rfl).trans (div_part (by omega))) (by kernel_rfl) (by simp))
    · refine (bind_to (α := Sx) ([("k", .int 1), ("part", .int (middleI n)), ("k", .int 0), ("part", .int (mostI n)), ("order", .tup [.int 1, .int 2, .int 0]), ("most", .int (mostI n)), ("middle", .int (middleI n)), ("least", .int (leastI n)), ("number", .int n)], some ("parts", false, [.flt 0, .flt (partF (mostI n)), .flt 0])) (by kernel_rfl)).trans ?_
      exact exL_one (ex_set (k := 2) (d := .flt (partF (middleI n))) (by kernel_rfl) ((show _ = binop .Div (.int (middleI n)) (.int 256) from by kernel_rfl).trans (div_part (by omega))) (by kernel_rfl) (by simp))
    · refine (bind_to (α := Sx) ([("k", .int 0), ("part", .int (mostI n)), ("order", .tup [.int 1, .int 2, .int 0]), ("most", .int (mostI n)), ("middle", .int (middleI n)), ("least", .int (leastI n)), ("number", .int n)], some ("parts", true, [.flt 0, .flt 0, .flt 0])) (by kernel_rfl)).trans ?_
      exact exL_one (ex_set (k := 1) (d := .flt (partF (mostI n))) (by kernel_rfl) ((show _ = binop .Div (.int (mostI n)) (.int 256) from by kernel_rfl).trans (div_part (by omega))) (by kernel_rfl) (by simp))
  · kernel_rfl
  · refine ex_asg (d := .tup [.int 1, .int 2, .int 0]) (by kernel_rfl) (ev_item (k := 2) (by kernel_rfl) ((show _ = phi P (j + 1) "_law_orders" [] from by kernel_rfl).trans (run_orders P j)) ((show _ = some (.int (n.fmod 6)) from by kernel_rfl).trans (by rw [hp])) (by kernel_rfl)) (by kernel_rfl)
  · kernel_rfl
  · kernel_rfl
  · kernel_rfl

theorem run_colour3 (P : Params) (j : Nat) (n : Int) (hp : n.fmod 6 = 3) : phi P (j + 2) "_law_colour" [.int n] = some (cD (colOf 3 (partF (mostI n)) (partF (middleI n)) (partF (leastI n)))) := by
  show run P (phi P (j + 1)) 62 ["number"] [.int n] = _
  unfold run runP
  have e1 : (fdAt P 62).scope.names = scColour := by kernel_rfl
  rw [e1]
  conv in bodyOf _ => whnf
  have hb := least_b n
  rw [exL_next ([("least", .int (leastI n)), ("number", .int n)], none)]
  rw [exL_next ([("middle", .int (middleI n)), ("least", .int (leastI n)), ("number", .int n)], none)]
  rw [exL_next ([("most", .int (mostI n)), ("middle", .int (middleI n)), ("least", .int (leastI n)), ("number", .int n)], none)]
  rw [exL_next ([("order", .tup [.int 2, .int 1, .int 0]), ("most", .int (mostI n)), ("middle", .int (middleI n)), ("least", .int (leastI n)), ("number", .int n)], none)]
  rw [exL_next ([("order", .tup [.int 2, .int 1, .int 0]), ("most", .int (mostI n)), ("middle", .int (middleI n)), ("least", .int (leastI n)), ("number", .int n)], some ("parts", true, [.flt 0, .flt 0, .flt 0]))]
  rw [exL_next ([("k", .int 2), ("part", .int (leastI n)), ("k", .int 1), ("part", .int (middleI n)), ("k", .int 0), ("part", .int (mostI n)), ("order", .tup [.int 2, .int 1, .int 0]), ("most", .int (mostI n)), ("middle", .int (middleI n)), ("least", .int (leastI n)), ("number", .int n)], some ("parts", false, [.flt (partF (leastI n)), .flt (partF (middleI n)), .flt (partF (mostI n))]))]
  rw [exL_ret (cD (colOf 3 (partF (mostI n)) (partF (middleI n)) (partF (leastI n)))) (freeze ([("k", .int 2), ("part", .int (leastI n)), ("k", .int 1), ("part", .int (middleI n)), ("k", .int 0), ("part", .int (mostI n)), ("order", .tup [.int 2, .int 1, .int 0]), ("most", .int (mostI n)), ("middle", .int (middleI n)), ("least", .int (leastI n)), ("number", .int n)], some ("parts", false, [.flt (partF (leastI n)), .flt (partF (middleI n)), .flt (partF (mostI n))])), none)]
  · kernel_rfl
  · refine (ex_for (itd := .tup [.tup [.int (mostI n), .int 0], .tup [.int (middleI n), .int 1], .tup [.int (leastI n), .int 2]]) (ds := [.tup [.int (mostI n), .int 0], .tup [.int (middleI n), .int 1], .tup [.int (leastI n), .int 2]]) (by kernel_rfl) (by kernel_rfl) (by kernel_rfl) (by simp)).trans ?_
    rw [forL_next ([("k", .int 0), ("part", .int (mostI n)), ("order", .tup [.int 2, .int 1, .int 0]), ("most", .int (mostI n)), ("middle", .int (middleI n)), ("least", .int (leastI n)), ("number", .int n)], some ("parts", false, [.flt 0, .flt 0, .flt (partF (mostI n))]))]
    rw [forL_next ([("k", .int 1), ("part", .int (middleI n)), ("k", .int 0), ("part", .int (mostI n)), ("order", .tup [.int 2, .int 1, .int 0]), ("most", .int (mostI n)), ("middle", .int (middleI n)), ("least", .int (leastI n)), ("number", .int n)], some ("parts", false, [.flt 0, .flt (partF (middleI n)), .flt (partF (mostI n))]))]
    rw [forL_next ([("k", .int 2), ("part", .int (leastI n)), ("k", .int 1), ("part", .int (middleI n)), ("k", .int 0), ("part", .int (mostI n)), ("order", .tup [.int 2, .int 1, .int 0]), ("most", .int (mostI n)), ("middle", .int (middleI n)), ("least", .int (leastI n)), ("number", .int n)], some ("parts", false, [.flt (partF (leastI n)), .flt (partF (middleI n)), .flt (partF (mostI n))]))]
    · kernel_rfl
    · refine (bind_to (α := Sx) ([("k", .int 2), ("part", .int (leastI n)), ("k", .int 1), ("part", .int (middleI n)), ("k", .int 0), ("part", .int (mostI n)), ("order", .tup [.int 2, .int 1, .int 0]), ("most", .int (mostI n)), ("middle", .int (middleI n)), ("least", .int (leastI n)), ("number", .int n)], some ("parts", false, [.flt 0, .flt (partF (middleI n)), .flt (partF (mostI n))])) (by kernel_rfl)).trans ?_
      exact exL_one (ex_set (k := 0) (d := .flt (partF (leastI n))) (by kernel_rfl) ((show _ = binop .Div (.int (leastI n)) (.int 256) from by kernel_rfl).trans (div_part (by omega))) (by kernel_rfl) (by simp))
    · refine (bind_to (α := Sx) ([("k", .int 1), ("part", .int (middleI n)), ("k", .int 0), ("part", .int (mostI n)), ("order", .tup [.int 2, .int 1, .int 0]), ("most", .int (mostI n)), ("middle", .int (middleI n)), ("least", .int (leastI n)), ("number", .int n)], some ("parts", false, [.flt 0, .flt 0, .flt (partF (mostI n))])) (by kernel_rfl)).trans ?_
      exact exL_one (ex_set (k := 1) (d := .flt (partF (middleI n))) (by kernel_rfl) ((show _ = binop .Div (.int (middleI n)) (.int 256) from by kernel_rfl).trans (div_part (by omega))) (by kernel_rfl) (by simp))
    · refine (bind_to (α := Sx) ([("k", .int 0), ("part", .int (mostI n)), ("order", .tup [.int 2, .int 1, .int 0]), ("most", .int (mostI n)), ("middle", .int (middleI n)), ("least", .int (leastI n)), ("number", .int n)], some ("parts", true, [.flt 0, .flt 0, .flt 0])) (by kernel_rfl)).trans ?_
      exact exL_one (ex_set (k := 2) (d := .flt (partF (mostI n))) (by kernel_rfl) ((show _ = binop .Div (.int (mostI n)) (.int 256) from by kernel_rfl).trans (div_part (by omega))) (by kernel_rfl) (by simp))
  · kernel_rfl
  · refine ex_asg (d := .tup [.int 2, .int 1, .int 0]) (by kernel_rfl) (ev_item (k := 3) (by kernel_rfl) ((show _ = phi P (j + 1) "_law_orders" [] from by kernel_rfl).trans (run_orders P j)) ((show _ = some (.int (n.fmod 6)) from by kernel_rfl).trans (by rw [hp])) (by kernel_rfl)) (by kernel_rfl)
  · kernel_rfl
  · kernel_rfl
  · kernel_rfl

theorem run_colour4 (P : Params) (j : Nat) (n : Int) (hp : n.fmod 6 = 4) : phi P (j + 2) "_law_colour" [.int n] = some (cD (colOf 4 (partF (mostI n)) (partF (middleI n)) (partF (leastI n)))) := by
  show run P (phi P (j + 1)) 62 ["number"] [.int n] = _
  unfold run runP
  have e1 : (fdAt P 62).scope.names = scColour := by kernel_rfl
  rw [e1]
  conv in bodyOf _ => whnf
  have hb := least_b n
  rw [exL_next ([("least", .int (leastI n)), ("number", .int n)], none)]
  rw [exL_next ([("middle", .int (middleI n)), ("least", .int (leastI n)), ("number", .int n)], none)]
  rw [exL_next ([("most", .int (mostI n)), ("middle", .int (middleI n)), ("least", .int (leastI n)), ("number", .int n)], none)]
  rw [exL_next ([("order", .tup [.int 2, .int 0, .int 1]), ("most", .int (mostI n)), ("middle", .int (middleI n)), ("least", .int (leastI n)), ("number", .int n)], none)]
  rw [exL_next ([("order", .tup [.int 2, .int 0, .int 1]), ("most", .int (mostI n)), ("middle", .int (middleI n)), ("least", .int (leastI n)), ("number", .int n)], some ("parts", true, [.flt 0, .flt 0, .flt 0]))]
  rw [exL_next ([("k", .int 2), ("part", .int (leastI n)), ("k", .int 1), ("part", .int (middleI n)), ("k", .int 0), ("part", .int (mostI n)), ("order", .tup [.int 2, .int 0, .int 1]), ("most", .int (mostI n)), ("middle", .int (middleI n)), ("least", .int (leastI n)), ("number", .int n)], some ("parts", false, [.flt (partF (middleI n)), .flt (partF (leastI n)), .flt (partF (mostI n))]))]
  rw [exL_ret (cD (colOf 4 (partF (mostI n)) (partF (middleI n)) (partF (leastI n)))) (freeze ([("k", .int 2), ("part", .int (leastI n)), ("k", .int 1), ("part", .int (middleI n)), ("k", .int 0), ("part", .int (mostI n)), ("order", .tup [.int 2, .int 0, .int 1]), ("most", .int (mostI n)), ("middle", .int (middleI n)), ("least", .int (leastI n)), ("number", .int n)], some ("parts", false, [.flt (partF (middleI n)), .flt (partF (leastI n)), .flt (partF (mostI n))])), none)]
  · kernel_rfl
  · refine (ex_for (itd := .tup [.tup [.int (mostI n), .int 0], .tup [.int (middleI n), .int 1], .tup [.int (leastI n), .int 2]]) (ds := [.tup [.int (mostI n), .int 0], .tup [.int (middleI n), .int 1], .tup [.int (leastI n), .int 2]]) (by kernel_rfl) (by kernel_rfl) (by kernel_rfl) (by simp)).trans ?_
    rw [forL_next ([("k", .int 0), ("part", .int (mostI n)), ("order", .tup [.int 2, .int 0, .int 1]), ("most", .int (mostI n)), ("middle", .int (middleI n)), ("least", .int (leastI n)), ("number", .int n)], some ("parts", false, [.flt 0, .flt 0, .flt (partF (mostI n))]))]
    rw [forL_next ([("k", .int 1), ("part", .int (middleI n)), ("k", .int 0), ("part", .int (mostI n)), ("order", .tup [.int 2, .int 0, .int 1]), ("most", .int (mostI n)), ("middle", .int (middleI n)), ("least", .int (leastI n)), ("number", .int n)], some ("parts", false, [.flt (partF (middleI n)), .flt 0, .flt (partF (mostI n))]))]
    rw [forL_next ([("k", .int 2), ("part", .int (leastI n)), ("k", .int 1), ("part", .int (middleI n)), ("k", .int 0), ("part", .int (mostI n)), ("order", .tup [.int 2, .int 0, .int 1]), ("most", .int (mostI n)), ("middle", .int (middleI n)), ("least", .int (leastI n)), ("number", .int n)], some ("parts", false, [.flt (partF (middleI n)), .flt (partF (leastI n)), .flt (partF (mostI n))]))]
    · kernel_rfl
    · refine (bind_to (α := Sx) ([("k", .int 2), ("part", .int (leastI n)), ("k", .int 1), ("part", .int (middleI n)), ("k", .int 0), ("part", .int (mostI n)), ("order", .tup [.int 2, .int 0, .int 1]), ("most", .int (mostI n)), ("middle", .int (middleI n)), ("least", .int (leastI n)), ("number", .int n)], some ("parts", false, [.flt (partF (middleI n)), .flt 0, .flt (partF (mostI n))])) (by kernel_rfl)).trans ?_
      exact exL_one (ex_set (k := 1) (d := .flt (partF (leastI n))) (by kernel_rfl) ((show _ = binop .Div (.int (leastI n)) (.int 256) from by kernel_rfl).trans (div_part (by omega))) (by kernel_rfl) (by simp))
    · refine (bind_to (α := Sx) ([("k", .int 1), ("part", .int (middleI n)), ("k", .int 0), ("part", .int (mostI n)), ("order", .tup [.int 2, .int 0, .int 1]), ("most", .int (mostI n)), ("middle", .int (middleI n)), ("least", .int (leastI n)), ("number", .int n)], some ("parts", false, [.flt 0, .flt 0, .flt (partF (mostI n))])) (by kernel_rfl)).trans ?_
      exact exL_one (ex_set (k := 0) (d := .flt (partF (middleI n))) (by kernel_rfl) ((show _ = binop .Div (.int (middleI n)) (.int 256) from by kernel_rfl).trans (div_part (by omega))) (by kernel_rfl) (by simp))
    · refine (bind_to (α := Sx) ([("k", .int 0), ("part", .int (mostI n)), ("order", .tup [.int 2, .int 0, .int 1]), ("most", .int (mostI n)), ("middle", .int (middleI n)), ("least", .int (leastI n)), ("number", .int n)], some ("parts", true, [.flt 0, .flt 0, .flt 0])) (by kernel_rfl)).trans ?_
      exact exL_one (ex_set (k := 2) (d := .flt (partF (mostI n))) (by kernel_rfl) ((show _ = binop .Div (.int (mostI n)) (.int 256) from by kernel_rfl).trans (div_part (by omega))) (by kernel_rfl) (by simp))
  · kernel_rfl
  · refine ex_asg (d := .tup [.int 2, .int 0, .int 1]) (by kernel_rfl) (ev_item (k := 4) (by kernel_rfl) ((show _ = phi P (j + 1) "_law_orders" [] from by kernel_rfl).trans (run_orders P j)) ((show _ = some (.int (n.fmod 6)) from by kernel_rfl).trans (by rw [hp])) (by kernel_rfl)) (by kernel_rfl)
  · kernel_rfl
  · kernel_rfl
  · kernel_rfl

theorem run_colour5 (P : Params) (j : Nat) (n : Int) (hp : n.fmod 6 = 5) : phi P (j + 2) "_law_colour" [.int n] = some (cD (colOf 5 (partF (mostI n)) (partF (middleI n)) (partF (leastI n)))) := by
  show run P (phi P (j + 1)) 62 ["number"] [.int n] = _
  unfold run runP
  have e1 : (fdAt P 62).scope.names = scColour := by kernel_rfl
  rw [e1]
  conv in bodyOf _ => whnf
  have hb := least_b n
  rw [exL_next ([("least", .int (leastI n)), ("number", .int n)], none)]
  rw [exL_next ([("middle", .int (middleI n)), ("least", .int (leastI n)), ("number", .int n)], none)]
  rw [exL_next ([("most", .int (mostI n)), ("middle", .int (middleI n)), ("least", .int (leastI n)), ("number", .int n)], none)]
  rw [exL_next ([("order", .tup [.int 0, .int 2, .int 1]), ("most", .int (mostI n)), ("middle", .int (middleI n)), ("least", .int (leastI n)), ("number", .int n)], none)]
  rw [exL_next ([("order", .tup [.int 0, .int 2, .int 1]), ("most", .int (mostI n)), ("middle", .int (middleI n)), ("least", .int (leastI n)), ("number", .int n)], some ("parts", true, [.flt 0, .flt 0, .flt 0]))]
  rw [exL_next ([("k", .int 2), ("part", .int (leastI n)), ("k", .int 1), ("part", .int (middleI n)), ("k", .int 0), ("part", .int (mostI n)), ("order", .tup [.int 0, .int 2, .int 1]), ("most", .int (mostI n)), ("middle", .int (middleI n)), ("least", .int (leastI n)), ("number", .int n)], some ("parts", false, [.flt (partF (mostI n)), .flt (partF (leastI n)), .flt (partF (middleI n))]))]
  rw [exL_ret (cD (colOf 5 (partF (mostI n)) (partF (middleI n)) (partF (leastI n)))) (freeze ([("k", .int 2), ("part", .int (leastI n)), ("k", .int 1), ("part", .int (middleI n)), ("k", .int 0), ("part", .int (mostI n)), ("order", .tup [.int 0, .int 2, .int 1]), ("most", .int (mostI n)), ("middle", .int (middleI n)), ("least", .int (leastI n)), ("number", .int n)], some ("parts", false, [.flt (partF (mostI n)), .flt (partF (leastI n)), .flt (partF (middleI n))])), none)]
  · kernel_rfl
  · refine (ex_for (itd := .tup [.tup [.int (mostI n), .int 0], .tup [.int (middleI n), .int 1], .tup [.int (leastI n), .int 2]]) (ds := [.tup [.int (mostI n), .int 0], .tup [.int (middleI n), .int 1], .tup [.int (leastI n), .int 2]]) (by kernel_rfl) (by kernel_rfl) (by kernel_rfl) (by simp)).trans ?_
    rw [forL_next ([("k", .int 0), ("part", .int (mostI n)), ("order", .tup [.int 0, .int 2, .int 1]), ("most", .int (mostI n)), ("middle", .int (middleI n)), ("least", .int (leastI n)), ("number", .int n)], some ("parts", false, [.flt (partF (mostI n)), .flt 0, .flt 0]))]
    rw [forL_next ([("k", .int 1), ("part", .int (middleI n)), ("k", .int 0), ("part", .int (mostI n)), ("order", .tup [.int 0, .int 2, .int 1]), ("most", .int (mostI n)), ("middle", .int (middleI n)), ("least", .int (leastI n)), ("number", .int n)], some ("parts", false, [.flt (partF (mostI n)), .flt 0, .flt (partF (middleI n))]))]
    rw [forL_next ([("k", .int 2), ("part", .int (leastI n)), ("k", .int 1), ("part", .int (middleI n)), ("k", .int 0), ("part", .int (mostI n)), ("order", .tup [.int 0, .int 2, .int 1]), ("most", .int (mostI n)), ("middle", .int (middleI n)), ("least", .int (leastI n)), ("number", .int n)], some ("parts", false, [.flt (partF (mostI n)), .flt (partF (leastI n)), .flt (partF (middleI n))]))]
    · kernel_rfl
    · refine (bind_to (α := Sx) ([("k", .int 2), ("part", .int (leastI n)), ("k", .int 1), ("part", .int (middleI n)), ("k", .int 0), ("part", .int (mostI n)), ("order", .tup [.int 0, .int 2, .int 1]), ("most", .int (mostI n)), ("middle", .int (middleI n)), ("least", .int (leastI n)), ("number", .int n)], some ("parts", false, [.flt (partF (mostI n)), .flt 0, .flt (partF (middleI n))])) (by kernel_rfl)).trans ?_
      exact exL_one (ex_set (k := 1) (d := .flt (partF (leastI n))) (by kernel_rfl) ((show _ = binop .Div (.int (leastI n)) (.int 256) from by kernel_rfl).trans (div_part (by omega))) (by kernel_rfl) (by simp))
    · refine (bind_to (α := Sx) ([("k", .int 1), ("part", .int (middleI n)), ("k", .int 0), ("part", .int (mostI n)), ("order", .tup [.int 0, .int 2, .int 1]), ("most", .int (mostI n)), ("middle", .int (middleI n)), ("least", .int (leastI n)), ("number", .int n)], some ("parts", false, [.flt (partF (mostI n)), .flt 0, .flt 0])) (by kernel_rfl)).trans ?_
      exact exL_one (ex_set (k := 2) (d := .flt (partF (middleI n))) (by kernel_rfl) ((show _ = binop .Div (.int (middleI n)) (.int 256) from by kernel_rfl).trans (div_part (by omega))) (by kernel_rfl) (by simp))
    · refine (bind_to (α := Sx) ([("k", .int 0), ("part", .int (mostI n)), ("order", .tup [.int 0, .int 2, .int 1]), ("most", .int (mostI n)), ("middle", .int (middleI n)), ("least", .int (leastI n)), ("number", .int n)], some ("parts", true, [.flt 0, .flt 0, .flt 0])) (by kernel_rfl)).trans ?_
      exact exL_one (ex_set (k := 0) (d := .flt (partF (mostI n))) (by kernel_rfl) ((show _ = binop .Div (.int (mostI n)) (.int 256) from by kernel_rfl).trans (div_part (by omega))) (by kernel_rfl) (by simp))
  · kernel_rfl
  · refine ex_asg (d := .tup [.int 0, .int 2, .int 1]) (by kernel_rfl) (ev_item (k := 5) (by kernel_rfl) ((show _ = phi P (j + 1) "_law_orders" [] from by kernel_rfl).trans (run_orders P j)) ((show _ = some (.int (n.fmod 6)) from by kernel_rfl).trans (by rw [hp])) (by kernel_rfl)) (by kernel_rfl)
  · kernel_rfl
  · kernel_rfl
  · kernel_rfl
end Mine

/-! N5 -/

namespace Mine
mutual
theorem eqv_self : ∀ d : D, PyData.eqv (toPy d) (toPy d) = true
  | .none => rfl
  | .bool b => by simp [toPy, PyData.eqv]
  | .int n => by simp [toPy, PyData.eqv]
  | .flt _ => rfl
  | .list ds => by simp only [toPy, PyData.eqv]; exact eqv_selfs ds
  | .tup ds => by simp only [toPy, PyData.eqv]; exact eqv_selfs ds
  | .rng _ => rfl
theorem eqv_selfs : ∀ ds : List D, PyData.eqvAll (toPys ds) (toPys ds) = true
  | [] => by simp [toPys, PyData.eqvAll]
  | d :: r => by simp only [toPys, PyData.eqvAll, eqv_self d, eqv_selfs r, Bool.and_self]
end
theorem cmp_ne (a b : D) : cmpop .NotEq a b = if pyOk 8 a && pyOk 8 b then some (!PyData.eqv (toPy a) (toPy b)) else none := rfl
theorem ne_self {a : D} (h : pyOk 8 a = true) : cmpop .NotEq a a = some false := by rw [cmp_ne, h, eqv_self]; rfl
theorem ok_ints (k : Nat) (ns : List Int) : pysOk k (ns.map .int) = true := by
  induction ns with
  | nil => cases k <;> rfl
  | cons n r ih => cases k <;> simp [pysOk, pyOk, ih]
section
variable {Φ : Str → List D → Option D} {m n : Nat} {sc : Names} {ρ : Rho} {S S' : Sx}
theorem ev_ne {l r : Expr} {pos : Pos} {a b : D} {c : Bool} (hk : notSet r = true) (h1 : ev Φ n sc ρ l = some a) (h2 : ev Φ n sc ρ r = some b) (hc : cmpop .NotEq a b = some c) : ev Φ (n + 1) sc ρ (.Compare l [.NotEq] [r] pos) = some (.bool c) := by
  rw [ev_succ]
  simp only [evB, hk, if_true, h1, h2, Option.bind_some, hc, Option.map_some]
theorem ev_tup2 {a b : Expr} {k : Nat} {pos : Pos} {x y : D} (hk : ([a, b].all noStar) = true) (h1 : ev Φ n sc ρ a = some x) (h2 : ev Φ n sc ρ b = some y) : ev Φ (n + 1) sc ρ (.Tuple [a, b] k pos) = some (.tup [x, y]) := by
  rw [ev_succ]
  simp only [evB, hk, evl, h1, h2]
  rfl
theorem ev_list1 {a : Expr} {pos : Pos} {x : D} (hk : ([a].all noStar) = true) (h1 : ev Φ n sc ρ a = some x) : ev Φ (n + 1) sc ρ (.List [a] pos) = some (.list [x]) := by
  rw [ev_succ]
  simp only [evB, hk, evl, h1]
  rfl
theorem ev_call1 {f : Str} {p pos : Pos} {a : Expr} {x d : D} (hf : (okName f && sc.lookup f == some .globalImplicit && [a].all noStar && (biOf f).isNone) = true) (h : ev Φ n sc ρ a = some x) (hΦ : Φ f [x] = some d) : ev Φ (n + 1) sc ρ (.Call (.Name f p) [a] [] pos) = some d := by
  rw [Bool.and_eq_true] at hf
  rw [ev_succ]
  dsimp only [evB]
  rw [hf.1]
  have hb : biOf f = none := by simpa using hf.2
  simp [evl, h, hb, hΦ]
end

noncomputable def rk (p i : Nat) : Nat := match p, i with
  | 0, 0 => 0 | 0, 1 => 1 | 0, _ => 2
  | 1, 0 => 1 | 1, 1 => 0 | 1, _ => 2
  | 2, 0 => 2 | 2, 1 => 0 | 2, _ => 1
  | 3, 0 => 2 | 3, 1 => 1 | 3, _ => 0
  | 4, 0 => 1 | 4, 1 => 2 | 4, _ => 0
  | _, 0 => 0 | _, 1 => 2 | _, _ => 1
noncomputable def d6 (p k : Nat) : Int := if ((p : Int) - k).fmod 6 < ((k : Int) - p).fmod 6 then ((p : Int) - k).fmod 6 else ((k : Int) - p).fmod 6

/-- the colour has the place p -/
noncomputable def Good (c : Col) (p : Nat) : Prop := p < 6 ∧ ∃ a b d A M L, c = colOf p a b d ∧ Ex a A ∧ Ex b M ∧ Ex d L ∧ 0 ≤ L ∧ L < M ∧ M < A ∧ A ≤ 256
inductive Goods : List Col → List Nat → Prop
  | nil : Goods [] []
  | cons {c : Col} {p : Nat} {cs : List Col} {ps : List Nat} : Good c p → Goods cs ps → Goods (c :: cs) (p :: ps)
theorem Goods.len {cs : List Col} {ps : List Nat} (h : Goods cs ps) : cs.length = ps.length := by
  induction h with
  | nil => rfl
  | cons _ _ ih => simp [ih]
theorem six {p : Nat} (h : p < 6) : p = 0 ∨ p = 1 ∨ p = 2 ∨ p = 3 ∨ p = 4 ∨ p = 5 := by omega
theorem three {p : Nat} (h : p < 3) : p = 0 ∨ p = 1 ∨ p = 2 := by omega
theorem good_lt {c : Col} {p : Nat} (h : Good c p) {i k : Nat} (hi : i < 3) (hk : k < 3) : ltC c i k = decide (rk p k < rk p i) := by
  obtain ⟨hp, a, b, d, A, M, L, rfl, ha, hb, hd, h0, h1, h2, h3⟩ := h
  unfold ltC
  rcases six hp with rfl | rfl | rfl | rfl | rfl | rfl <;> rcases three hi with rfl | rfl | rfl <;> rcases three hk with rfl | rfl | rfl <;>
    (simp only [colOf, cAt, rk]; first | rw [lt_ex ha ha] | rw [lt_ex ha hb] | rw [lt_ex ha hd] | rw [lt_ex hb ha] | rw [lt_ex hb hb] | rw [lt_ex hb hd] | rw [lt_ex hd ha] | rw [lt_ex hd hb] | rw [lt_ex hd hd]) <;> simp <;> omega
theorem bh_cons (c : Col) (cs : List Col) (a b : Nat) : bh (c :: cs) a b = (if ltC c a b then 1 else 0) + bh cs a b := by
  unfold bh
  cases h : ltC c a b <;> simp [List.filter_cons, h] <;> omega
theorem bh_nil (a b : Nat) : bh [] a b = 0 := rfl
noncomputable def F (ps : List Nat) (k : Nat) : Int := (ps.map fun p => d6 p k).sum
theorem ag_cons {c : Col} {cs : List Col} {p : Nat} (h : Good c p) {k : Nat} (hk : k < 6) : ag (c :: cs) k = d6 p k + ag cs k := by
  have hp := h.1
  have l01 := good_lt h (i := 0) (k := 1) (by decide) (by decide)
  have l02 := good_lt h (i := 0) (k := 2) (by decide) (by decide)
  have l12 := good_lt h (i := 1) (k := 2) (by decide) (by decide)
  have l10 := good_lt h (i := 1) (k := 0) (by decide) (by decide)
  have l20 := good_lt h (i := 2) (k := 0) (by decide) (by decide)
  have l21 := good_lt h (i := 2) (k := 1) (by decide) (by decide)
  rcases six hp with rfl | rfl | rfl | rfl | rfl | rfl <;> simp only [rk] at l01 l02 l12 l10 l20 l21 <;>
  rcases six hk with rfl | rfl | rfl | rfl | rfl | rfl <;> simp only [ag, bh_cons, l01, l02, l12, l10, l20, l21] <;>
    (simp [d6]; try omega)
theorem ag_eq {cs : List Col} {ps : List Nat} (h : Goods cs ps) {k : Nat} (hk : k < 6) : ag cs k = F ps k := by
  induction h with
  | nil => rcases six hk with rfl | rfl | rfl | rfl | rfl | rfl <;> rfl
  | cons hg _ ih => rw [ag_cons hg hk, ih]; simp [F]

theorem run_hueG (P : Params) (j : Nat) {c : Col} {p : Nat} (h : Good c p) : ∃ x, phi P (j + 2) "_law_hue" [cD c] = some (.flt x) ∧ HueAt x p := by
  obtain ⟨hp, a, b, d, A, M, L, rfl, ha, hb, hd, h0, h1, h2, h3⟩ := h
  rcases six hp with rfl | rfl | rfl | rfl | rfl | rfl
  · obtain ⟨x, l, s, e, hx⟩ := hue0 P j ha hb hd h0 h1 h2 h3; exact ⟨x, run_hue P j _ e, hx⟩
  · obtain ⟨x, l, s, e, hx⟩ := hue1 P j hb ha hd h0 h1 h2 h3; exact ⟨x, run_hue P j _ e, hx⟩
  · obtain ⟨x, l, s, e, hx⟩ := hue2 P j hd ha hb h0 h1 h2 h3; exact ⟨x, run_hue P j _ e, hx⟩
  · obtain ⟨x, l, s, e, hx⟩ := hue3 P j hd hb ha h0 h1 h2 h3; exact ⟨x, run_hue P j _ e, hx⟩
  · obtain ⟨x, l, s, e, hx⟩ := hue4 P j hb hd ha h0 h1 h2 h3; exact ⟨x, run_hue P j _ e, hx⟩
  · obtain ⟨x, l, s, e, hx⟩ := hue5 P j ha hd hb h0 h1 h2 h3; exact ⟨x, run_hue P j _ e, hx⟩

/-- every number gives a colour of its place -/
theorem run_colourG (P : Params) (j : Nat) (n : Int) : ∃ c, phi P (j + 2) "_law_colour" [.int n] = some (cD c) ∧ Good c (n.fmod 6).toNat := by
  have hm : 0 ≤ n.fmod 6 ∧ n.fmod 6 < 6 := by rw [Int.fmod_eq_emod_of_nonneg _ (by decide)]; omega
  have hb := least_b n
  have good : ∀ p : Nat, p < 6 → Good (colOf p (partF (mostI n)) (partF (middleI n)) (partF (leastI n))) p := fun p hp =>
    ⟨hp, _, _, _, mostI n, middleI n, leastI n, rfl, part_in (by omega) (by omega), part_in (by omega) (by omega), part_in (by omega) (by omega), by omega, by omega, by omega, by omega⟩
  have : n.fmod 6 = 0 ∨ n.fmod 6 = 1 ∨ n.fmod 6 = 2 ∨ n.fmod 6 = 3 ∨ n.fmod 6 = 4 ∨ n.fmod 6 = 5 := by omega
  rcases this with h | h | h | h | h | h
  · exact ⟨_, run_colour0 P j n h, by rw [h]; exact good 0 (by decide)⟩
  · exact ⟨_, run_colour1 P j n h, by rw [h]; exact good 1 (by decide)⟩
  · exact ⟨_, run_colour2 P j n h, by rw [h]; exact good 2 (by decide)⟩
  · exact ⟨_, run_colour3 P j n h, by rw [h]; exact good 3 (by decide)⟩
  · exact ⟨_, run_colour4 P j n h, by rw [h]; exact good 4 (by decide)⟩
  · exact ⟨_, run_colour5 P j n h, by rw [h]; exact good 5 (by decide)⟩
end Mine

/-! N6 -/

namespace Mine
noncomputable def minA (cs : List Col) : Int := minL (ag cs 0) [ag cs 1, ag cs 2, ag cs 3, ag cs 4, ag cs 5]
noncomputable def kInts (p : Nat → Bool) : List D := (([0, 1, 2, 3, 4, 5] : List Nat).filter p).map fun k : Nat => .int (k : Int)

theorem run_fewest (P : Params) (j : Nat) (cs : List Col) (hl : cs.length < 1000) : phi P (j + 3) "_law_fewest" [.list (cs.map cD)] = some (.tup [.int (minA cs), .list (kInts fun k => ag cs k == minA cs)]) := by
  show run P (phi P (j + 2)) 72 ["row"] [.list (cs.map cD)] = _
  unfold run runP
  have e1 : (fdAt P 72).scope.names = [(("row" : Str), NameKind.local), ("against", NameKind.cell), ("_law_against", NameKind.globalImplicit), ("min", NameKind.globalImplicit), ("range", NameKind.globalImplicit)] := by kernel_rfl
  rw [e1]
  conv in bodyOf _ => whnf
  rw [exL_next ([("against", .list ((agL cs).map .int)), ("row", .list (cs.map cD))], none)]
  rw [exL_ret (.tup [.int (minA cs), .list (kInts fun k => ag cs k == minA cs)]) ([("against", .list ((agL cs).map .int)), ("row", .list (cs.map cD))], none)]
  · refine ex_ret (evF_one (ev_tup2 (by kernel_rfl) (by kernel_rfl) ?_))
    refine comp_ifN (l := [0, 1, 2, 3, 4, 5]) (g := fun k : Nat => .int k) (h := fun k : Nat => .int k) (p := fun k => ag cs k == minA cs) (itd := .rng 6) (by kernel_rfl) (by kernel_rfl) (by kernel_rfl) (by decide) ?_ ?_
    · intro x hx
      simp only [List.mem_cons, List.not_mem_nil, or_false] at hx
      rcases hx with rfl | rfl | rfl | rfl | rfl | rfl
      · kernel_rfl
      · kernel_rfl
      · kernel_rfl
      · kernel_rfl
      · kernel_rfl
      · kernel_rfl
    · intro x _ _; kernel_rfl
  · exact ex_asg (d := .list ((agL cs).map .int)) (by kernel_rfl) (ev_call1 (by kernel_rfl) (by kernel_rfl) (run_against P j cs hl)) (by kernel_rfl)

/-- a loop that goes through -/
theorem forL_all {g : Sx → D → Option (Fl × Sx)} {ok : Sx → Prop} : ∀ (ds : List D) (S : Sx), ok S → (∀ S d, d ∈ ds → ok S → ∃ S', g S d = some (.next, S') ∧ ok S') → ∃ S', forL g S ds = some (.next, S') ∧ ok S'
  | [], S, h, _ => ⟨S, rfl, h⟩
  | d :: r, S, h, hg => by
    obtain ⟨S1, e1, h1⟩ := hg S d (.head _) h
    obtain ⟨S2, e2, h2⟩ := forL_all r S1 h1 fun S d hd => hg S d (.tail _ hd)
    exact ⟨S2, by rw [forL_next S1 e1, e2], h2⟩

theorem via {A B : Option (Fl × Sx)} {ok : Sx → Prop} (h : A = B) (hB : ∃ S', B = some (.next, S') ∧ ok S') : ∃ S', A = some (.next, S') ∧ ok S' := by rw [h]; exact hB
noncomputable def d6L (p : Nat) : List Int := [d6 p 0, d6 p 1, d6 p 2, d6 p 3, d6 p 4, d6 p 5]
theorem agL_one {c : Col} {p : Nat} (h : Good c p) : agL [c] = d6L p := by
  have e : ∀ k, k < 6 → ag [c] k = d6 p k := fun k hk => by
    rw [ag_cons h hk]
    rcases six hk with rfl | rfl | rfl | rfl | rfl | rfl <;> simp [ag, bh_nil]
  unfold agL d6L
  rw [e 0 (by decide), e 1 (by decide), e 2 (by decide), e 3 (by decide), e 4 (by decide), e 5 (by decide)]
theorem mem_zip {cs : List Col} {ps : List Nat} (h : Goods cs ps) {d : D} (hd : d ∈ zipD (cs.map cD) (ps.map fun p : Nat => .int p)) : ∃ c p, Good c p ∧ d = .tup [cD c, .int (p : Nat)] := by
  induction h with
  | nil => simp [zipD] at hd
  | cons hg _ ih =>
    simp only [zipD, List.map_cons, List.zip_cons_cons, List.mem_cons] at hd
    rcases hd with rfl | hd
    · exact ⟨_, _, hg, rfl⟩
    · exact ih hd
theorem zip_len {cs : List Col} {ps : List Nat} (h : Goods cs ps) : (zipD (cs.map cD) (ps.map fun p : Nat => .int p)).length = cs.length := by
  simp [zipD, h.len]

theorem run_sixths (P : Params) (j : Nat) {cs : List Col} {ps : List Nat} (h : Goods cs ps) (hl : cs.length < 1000) : phi P (j + 3) "_law_sixths" [.list (cs.map cD), .list (ps.map fun p : Nat => .int p)] = some (.bool true) := by
  show run P (phi P (j + 2)) 84 ["row", "places"] [.list (cs.map cD), .list (ps.map fun p : Nat => .int p)] = _
  unfold run runP
  have e1 : (fdAt P 84).scope.names = [(("row" : Str), NameKind.local), ("places", NameKind.local), ("colour", NameKind.local), ("place", NameKind.cell), ("zip", NameKind.globalImplicit), ("_law_against", NameKind.globalImplicit), ("range", NameKind.globalImplicit)] := by kernel_rfl
  rw [e1]
  conv in bodyOf _ => whnf
  have loop : ∃ S' : Sx, ex (phi P (j + 2)) 13 [(("row" : Str), NameKind.local), ("places", NameKind.local), ("colour", NameKind.local), ("place", NameKind.cell), ("zip", NameKind.globalImplicit), ("_law_against", NameKind.globalImplicit), ("range", NameKind.globalImplicit)] 13 ([("row", .list (cs.map cD)), ("places", .list (ps.map fun p : Nat => .int p))], none) (bodyOf (fdAt P 84))[0]! = some (.next, S') ∧ S'.2 = none := by
    conv in bodyOf _ => whnf
    refine via (ex_zip (as := cs.map cD) (bs := ps.map fun p : Nat => .int p) (by kernel_rfl) (by kernel_rfl) (by kernel_rfl) (by rw [zip_len h]; exact hl)) ?_
    refine forL_all (ok := fun S => S.2 = none) _ _ rfl ?_
    rintro ⟨ρ, own⟩ d hd rfl
    obtain ⟨c, p, hg, rfl⟩ := mem_zip h hd
    refine ⟨(("place", .int p) :: ("colour", cD c) :: ρ, none), ?_, rfl⟩
    refine (bind_to (α := Sx) (("place", .int p) :: ("colour", cD c) :: ρ, none) (by kernel_rfl)).trans ?_
    refine exL_one ((ex_if false ?_).trans (by kernel_rfl))
    have hd6 : cmpop .NotEq (.list ((agL [c]).map .int)) (.list ((d6L p).map .int)) = some false := by
      rw [agL_one hg]; exact ne_self (by simp [pyOk, ok_ints])
    refine ev_ne (by kernel_rfl) (ev_call1 (by kernel_rfl) (x := .list [cD c]) (by kernel_rfl) (run_against P j [c] (by simp))) ?_ hd6
    refine comp_allN (l := [0, 1, 2, 3, 4, 5]) (g := fun k : Nat => .int k) (h := fun k : Nat => .int (d6 p k)) (itd := .rng 6) (by kernel_rfl) (by kernel_rfl) (by kernel_rfl) (by decide) ?_
    intro x hx
    kernel_rfl
  obtain ⟨⟨ρ', own⟩, e, h2⟩ := loop
  have h2 : own = none := h2
  subst h2
  rw [exL_next (ρ', none)]
  · kernel_rfl
  · exact e
end Mine

/-! N7 -/

namespace Mine
section
variable {Φ : Str → List D → Option D} {m n : Nat} {sc : Names} {ρ : Rho} {S S' : Sx}
theorem ev_and {x y : Expr} {pos : Pos} {a b : Bool} (h1 : ev Φ n sc ρ x = some (.bool a)) (h2 : ev Φ n sc ρ y = some (.bool b)) : ev Φ (n + 1) sc ρ (.BoolOp .And [x, y] pos) = some (.bool (a && b)) := by
  rw [ev_succ]
  simp only [evB, h1, h2]
  cases a <;> rfl
theorem ev_tup3 {a b c : Expr} {k : Nat} {pos : Pos} {x y z : D} (hk : ([a, b, c].all noStar) = true) (h1 : ev Φ n sc ρ a = some x) (h2 : ev Φ n sc ρ b = some y) (h3 : ev Φ n sc ρ c = some z) : ev Φ (n + 1) sc ρ (.Tuple [a, b, c] k pos) = some (.tup [x, y, z]) := by
  rw [ev_succ]
  simp only [evB, hk, evl, h1, h2, h3]
  rfl
theorem ev_sum {f : Str} {p pos : Pos} {a : Expr} {ns : List Int} (hf : (okName f && sc.lookup f == some .globalImplicit && [a].all noStar && (match biOf f with | some .sum => true | _ => false)) = true) (h : ev Φ n sc ρ a = some (.list (ns.map .int))) : ev Φ (n + 1) sc ρ (.Call (.Name f p) [a] [] pos) = some (.int ns.sum) := by
  rw [Bool.and_eq_true] at hf
  rw [ev_succ]
  dsimp only [evB]
  rw [hf.1]
  have hb : biOf f = some .sum := by
    have := hf.2
    split at this
    · assumption
    · cases this
  simp [evl, h, hb, cb_sum, ints?_map]
theorem ex_tup2 {a b : Str} {pa pb p p2 pos : Pos} {k k2 : Nat} {e1 e2 : Expr} {x y : D} (hk : (isCall e1 && noStar e2 && !(a == b)) = true) (hk2 : ([e1, e2].all noStar) = true) (h1 : ev Φ m sc S.1 e1 = some x) (h2 : ev Φ m sc S.1 e2 = some y) (hb : bindS sc S (.Tuple [.Name a pa, .Name b pb] k p) (.tup [x, y]) = some S') :
    ex Φ (m + 1) sc (n + 1) S (.Assign [.Tuple [.Name a pa, .Name b pb] k p] (.Tuple [e1, e2] k2 p2) pos) = some (.next, S') := by
  rw [ex_succ]
  have hF : evF (ev Φ (m + 1) sc) S (.Tuple [e1, e2] k2 p2) = some (.tup [x, y], S) := evF_one (ev_tup2 hk2 h1 h2)
  simp only [exB, hk, if_true, hF, Option.bind_some, hb, Option.map_some]
end

noncomputable def medL (ns : List Int) : Int := ((sortI ns)[(ns.length - 1) / 2]?).getD 0
noncomputable def medH (ns : List Int) : Int := ((sortI ns)[ns.length / 2]?).getD 0
theorem sortI_len (ns : List Int) : (sortI ns).length = ns.length := (isort_perm _ ns).length_eq
theorem sorted_I {ns : List Int} (h : ns.length < 64) : callBI .sorted [.list (ns.map .int)] = some (.list ((sortI ns).map .int)) := by
  rw [cb_sorted, if_pos (by rw [List.length_map]; exact h), sortD, ints?_map]
theorem run_lowI (P : Params) (j : Nat) {ns : List Int} (h0 : 0 < ns.length) (h : ns.length < 64) : phi P (j + 1) "median_low" [.list (ns.map .int)] = some (.int (medL ns)) := by
  have hl := sortI_len ns
  rw [run_low P j _ _ (sorted_I h) (by simp; omega) (by simp; omega)]
  unfold medL
  simp only [List.length_map, hl, List.getElem?_map]
  rw [List.getElem?_eq_getElem (by omega)]; rfl
theorem run_highI (P : Params) (j : Nat) {ns : List Int} (h0 : 0 < ns.length) (h : ns.length < 64) : phi P (j + 1) "median_high" [.list (ns.map .int)] = some (.int (medH ns)) := by
  have hl := sortI_len ns
  rw [run_high P j _ _ (sorted_I h) (by simp; omega) (by simp; omega)]
  unfold medH
  simp only [List.length_map, hl, List.getElem?_map]
  rw [List.getElem?_eq_getElem (by omega)]; rfl

noncomputable def absI (a : Int) : Int := if a < 0 then -a else a
noncomputable def lineAt (s p : Nat) : Int := ((p : Int) - s).fmod 6
noncomputable def line (ps : List Nat) (s : Nat) : List Int := ps.map (lineAt s)
noncomputable def Gs (ps : List Nat) (s : Nat) (x : Int) : Int := (ps.map fun p => absI (lineAt s p - x)).sum
noncomputable def lo (ps : List Nat) (s : Nat) : Int := medL (line ps s)
noncomputable def hi (ps : List Nat) (s : Nat) : Int := medH (line ps s)
noncomputable def cutD (ps : List Nat) (s : Nat) : D := .tup [.int (Gs ps s (lo ps s)), .int (s + lo ps s), .int (s + hi ps s)]
noncomputable def lineD (ps : List Nat) (s : Nat) : D := .list (ps.map fun p => .int (lineAt s p))
theorem lineD_eq (ps : List Nat) (s : Nat) : lineD ps s = .list ((line ps s).map .int) := by simp [lineD, line]
noncomputable def toldR (ps : List Nat) : Nat → Rho
  | 0 => [("places", .list (ps.map fun p : Nat => .int p))]
  | s + 1 => ("high", .int (hi ps s)) :: ("low", .int (lo ps s)) :: ("line", lineD ps s) :: ("start", .int s) :: toldR ps s
noncomputable def wayT (ps : List Nat) : Int := minL (Gs ps 0 (lo ps 0)) [Gs ps 1 (lo ps 1), Gs ps 2 (lo ps 2), Gs ps 3 (lo ps 3), Gs ps 4 (lo ps 4), Gs ps 5 (lo ps 5)]
noncomputable def inCut (ps : List Nat) (k s : Nat) : Bool := (Gs ps s (lo ps s) == wayT ps) && decide (((k : Int) - (s + lo ps s)).fmod 6 ≤ (s + hi ps s) - (s + lo ps s))
noncomputable def toldB (ps : List Nat) (k : Nat) : Bool := !(([0, 1, 2, 3, 4, 5] : List Nat).filter fun s => inCut ps k s).isEmpty
noncomputable def scTold : Names := [("places", .local), ("cuts", .cell), ("start", .cell), ("line", .local), ("low", .cell), ("high", .local), ("way", .cell), ("told", .local), ("range", .globalImplicit), ("median_low", .globalImplicit), ("median_high", .globalImplicit), ("sum", .globalImplicit), ("min", .globalImplicit)]
noncomputable def cutsD (ps : List Nat) : List D := [cutD ps 0, cutD ps 1, cutD ps 2, cutD ps 3, cutD ps 4, cutD ps 5]
theorem ok_cuts (ps : List Nat) : ∀ (l : List Nat) (k : Nat), pysOk (k + 1) (l.map (cutD ps)) = true
  | [], _ => rfl
  | x :: r, k => by simp only [List.map_cons, pysOk, ok_cuts ps r k, Bool.and_true]; rfl
theorem ne_nil (ps : List Nat) (l : List Nat) : cmpop .NotEq (.list (l.map (cutD ps))) (.list []) = some (!l.isEmpty) := by
  rw [cmp_ne, show pyOk 8 (.list (l.map (cutD ps))) = true from ok_cuts ps l 6]
  cases l <;> rfl

theorem run_told (P : Params) (j : Nat) (ps : List Nat) (h0 : 0 < ps.length) (hl : ps.length < 64) : phi P (j + 2) "_law_told" [.list (ps.map fun p : Nat => .int p)] = some (.tup [.int (wayT ps), .list (kInts (toldB ps))]) := by
  show run P (phi P (j + 1)) 89 ["places"] [.list (ps.map fun p : Nat => .int p)] = _
  unfold run runP
  have e1 : (fdAt P 89).scope.names = scTold := by kernel_rfl
  rw [e1]
  conv in bodyOf _ => whnf
  have ln : ∀ s, (line ps s).length = ps.length := fun s => by simp [line]
  have hlow : ∀ s, phi P (j + 1) "median_low" [lineD ps s] = some (.int (lo ps s)) := fun s => by rw [lineD_eq]; exact run_lowI P j (by rw [ln]; exact h0) (by rw [ln]; exact hl)
  have hhigh : ∀ s, phi P (j + 1) "median_high" [lineD ps s] = some (.int (hi ps s)) := fun s => by rw [lineD_eq]; exact run_highI P j (by rw [ln]; exact h0) (by rw [ln]; exact hl)
  have hsum : ∀ s, (ps.map fun p => D.int (absI (lineAt s p - lo ps s))) = (ps.map fun p => absI (lineAt s p - lo ps s)).map D.int := fun s => by simp
  rw [exL_next (toldR ps 0, some ("cuts", true, []))]
  rw [exL_next (toldR ps 6, some ("cuts", true, cutsD ps))]
  rw [exL_next (("way", .int (wayT ps)) :: freeze (toldR ps 6, some ("cuts", true, cutsD ps)), none)]
  rw [exL_next (("told", .list (kInts (toldB ps))) :: ("way", .int (wayT ps)) :: freeze (toldR ps 6, some ("cuts", true, cutsD ps)), none)]
  rw [exL_ret (.tup [.int (wayT ps), .list (kInts (toldB ps))]) (("told", .list (kInts (toldB ps))) :: ("way", .int (wayT ps)) :: freeze (toldR ps 6, some ("cuts", true, cutsD ps)), none)]
  · kernel_rfl
  · refine ex_asg (by kernel_rfl) ?_ rfl
    refine comp_ifN (l := [0, 1, 2, 3, 4, 5]) (g := fun k : Nat => .int k) (h := fun k : Nat => .int k) (p := toldB ps) (itd := .rng 6) (by kernel_rfl) (by kernel_rfl) (by kernel_rfl) (by decide) ?_ (fun x _ _ => by kernel_rfl)
    intro k hk
    refine ev_ne (by kernel_rfl) (a := .list ((([0, 1, 2, 3, 4, 5] : List Nat).filter fun s => inCut ps k s).map (cutD ps))) ?_ (by kernel_rfl) (ne_nil ps _)
    refine comp_ifN (l := [0, 1, 2, 3, 4, 5]) (g := cutD ps) (h := cutD ps) (itd := .list (cutsD ps)) (by kernel_rfl) (by kernel_rfl) (by kernel_rfl) (by decide) ?_ (fun x _ _ => by kernel_rfl)
    intro s hs
    exact ev_and (by kernel_rfl) (by kernel_rfl)
  · kernel_rfl
  · refine (ex_for (itd := .rng 6) (ds := [.int 0, .int 1, .int 2, .int 3, .int 4, .int 5]) (by kernel_rfl) (by kernel_rfl) (by kernel_rfl) (by decide)).trans ?_
    rw [forL_next (toldR ps 1, some ("cuts", true, [cutD ps 0]))]
    rw [forL_next (toldR ps 2, some ("cuts", true, [cutD ps 0, cutD ps 1]))]
    rw [forL_next (toldR ps 3, some ("cuts", true, [cutD ps 0, cutD ps 1, cutD ps 2]))]
    rw [forL_next (toldR ps 4, some ("cuts", true, [cutD ps 0, cutD ps 1, cutD ps 2, cutD ps 3]))]
    rw [forL_next (toldR ps 5, some ("cuts", true, [cutD ps 0, cutD ps 1, cutD ps 2, cutD ps 3, cutD ps 4]))]
    rw [forL_next (toldR ps 6, some ("cuts", true, [cutD ps 0, cutD ps 1, cutD ps 2, cutD ps 3, cutD ps 4, cutD ps 5]))]
    · kernel_rfl
    · refine (bind_to (α := Sx) (("start", .int 5) :: toldR ps 5, some ("cuts", true, [cutD ps 0, cutD ps 1, cutD ps 2, cutD ps 3, cutD ps 4])) (by kernel_rfl)).trans ?_
      rw [exL_next (("line", lineD ps 5) :: ("start", .int 5) :: toldR ps 5, some ("cuts", true, [cutD ps 0, cutD ps 1, cutD ps 2, cutD ps 3, cutD ps 4]))]
      rw [exL_next (toldR ps 6, some ("cuts", true, [cutD ps 0, cutD ps 1, cutD ps 2, cutD ps 3, cutD ps 4]))]
      rw [exL_next (toldR ps 6, some ("cuts", true, [cutD ps 0, cutD ps 1, cutD ps 2, cutD ps 3, cutD ps 4, cutD ps 5]))]
      · kernel_rfl
      · refine ex_append (by kernel_rfl) (by simp) ?_
        refine ev_tup3 (by kernel_rfl) ?_ (by kernel_rfl) (by kernel_rfl)
        refine ev_sum (ns := ps.map fun p => absI (lineAt 5 p - lo ps 5)) (by kernel_rfl) ?_
        rw [← hsum 5]
        exact comp_allN (l := ps) (g := fun p => .int (lineAt 5 p)) (itd := lineD ps 5) (by kernel_rfl) (by kernel_rfl) (by kernel_rfl) (by omega) (fun p _ => by kernel_rfl)
      · exact ex_tup2 (x := .int (lo ps 5)) (y := .int (hi ps 5)) (by kernel_rfl) (by kernel_rfl) (ev_call1 (by kernel_rfl) (by kernel_rfl) (hlow 5)) (ev_call1 (by kernel_rfl) (by kernel_rfl) (hhigh 5)) (by kernel_rfl)
      · exact ex_asg (d := lineD ps 5) (by kernel_rfl) (comp_allN (l := ps) (g := fun p : Nat => .int p) (itd := .list (ps.map fun p : Nat => .int p)) (by kernel_rfl) (by kernel_rfl) (by kernel_rfl) (by omega) (fun p _ => by kernel_rfl)) (by kernel_rfl)
    · refine (bind_to (α := Sx) (("start", .int 4) :: toldR ps 4, some ("cuts", true, [cutD ps 0, cutD ps 1, cutD ps 2, cutD ps 3])) (by kernel_rfl)).trans ?_
      rw [exL_next (("line", lineD ps 4) :: ("start", .int 4) :: toldR ps 4, some ("cuts", true, [cutD ps 0, cutD ps 1, cutD ps 2, cutD ps 3]))]
      rw [exL_next (toldR ps 5, some ("cuts", true, [cutD ps 0, cutD ps 1, cutD ps 2, cutD ps 3]))]
      rw [exL_next (toldR ps 5, some ("cuts", true, [cutD ps 0, cutD ps 1, cutD ps 2, cutD ps 3, cutD ps 4]))]
      · kernel_rfl
      · refine ex_append (by kernel_rfl) (by simp) ?_
        refine ev_tup3 (by kernel_rfl) ?_ (by kernel_rfl) (by kernel_rfl)
        refine ev_sum (ns := ps.map fun p => absI (lineAt 4 p - lo ps 4)) (by kernel_rfl) ?_
        rw [← hsum 4]
        exact comp_allN (l := ps) (g := fun p => .int (lineAt 4 p)) (itd := lineD ps 4) (by kernel_rfl) (by kernel_rfl) (by kernel_rfl) (by omega) (fun p _ => by kernel_rfl)
      · exact ex_tup2 (x := .int (lo ps 4)) (y := .int (hi ps 4)) (by kernel_rfl) (by kernel_rfl) (ev_call1 (by kernel_rfl) (by kernel_rfl) (hlow 4)) (ev_call1 (by kernel_rfl) (by kernel_rfl) (hhigh 4)) (by kernel_rfl)
      · exact ex_asg (d := lineD ps 4) (by kernel_rfl) (comp_allN (l := ps) (g := fun p : Nat => .int p) (itd := .list (ps.map fun p : Nat => .int p)) (by kernel_rfl) (by kernel_rfl) (by kernel_rfl) (by omega) (fun p _ => by kernel_rfl)) (by kernel_rfl)
    · refine (bind_to (α := Sx) (("start", .int 3) :: toldR ps 3, some ("cuts", true, [cutD ps 0, cutD ps 1, cutD ps 2])) (by kernel_rfl)).trans ?_
      rw [exL_next (("line", lineD ps 3) :: ("start", .int 3) :: toldR ps 3, some ("cuts", true, [cutD ps 0, cutD ps 1, cutD ps 2]))]
      rw [exL_next (toldR ps 4, some ("cuts", true, [cutD ps 0, cutD ps 1, cutD ps 2]))]
      rw [exL_next (toldR ps 4, some ("cuts", true, [cutD ps 0, cutD ps 1, cutD ps 2, cutD ps 3]))]
      · kernel_rfl
      · refine ex_append (by kernel_rfl) (by simp) ?_
        refine ev_tup3 (by kernel_rfl) ?_ (by kernel_rfl) (by kernel_rfl)
        refine ev_sum (ns := ps.map fun p => absI (lineAt 3 p - lo ps 3)) (by kernel_rfl) ?_
        rw [← hsum 3]
        exact comp_allN (l := ps) (g := fun p => .int (lineAt 3 p)) (itd := lineD ps 3) (by kernel_rfl) (by kernel_rfl) (by kernel_rfl) (by omega) (fun p _ => by kernel_rfl)
      · exact ex_tup2 (x := .int (lo ps 3)) (y := .int (hi ps 3)) (by kernel_rfl) (by kernel_rfl) (ev_call1 (by kernel_rfl) (by kernel_rfl) (hlow 3)) (ev_call1 (by kernel_rfl) (by kernel_rfl) (hhigh 3)) (by kernel_rfl)
      · exact ex_asg (d := lineD ps 3) (by kernel_rfl) (comp_allN (l := ps) (g := fun p : Nat => .int p) (itd := .list (ps.map fun p : Nat => .int p)) (by kernel_rfl) (by kernel_rfl) (by kernel_rfl) (by omega) (fun p _ => by kernel_rfl)) (by kernel_rfl)
    · refine (bind_to (α := Sx) (("start", .int 2) :: toldR ps 2, some ("cuts", true, [cutD ps 0, cutD ps 1])) (by kernel_rfl)).trans ?_
      rw [exL_next (("line", lineD ps 2) :: ("start", .int 2) :: toldR ps 2, some ("cuts", true, [cutD ps 0, cutD ps 1]))]
      rw [exL_next (toldR ps 3, some ("cuts", true, [cutD ps 0, cutD ps 1]))]
      rw [exL_next (toldR ps 3, some ("cuts", true, [cutD ps 0, cutD ps 1, cutD ps 2]))]
      · kernel_rfl
      · refine ex_append (by kernel_rfl) (by simp) ?_
        refine ev_tup3 (by kernel_rfl) ?_ (by kernel_rfl) (by kernel_rfl)
        refine ev_sum (ns := ps.map fun p => absI (lineAt 2 p - lo ps 2)) (by kernel_rfl) ?_
        rw [← hsum 2]
        exact comp_allN (l := ps) (g := fun p => .int (lineAt 2 p)) (itd := lineD ps 2) (by kernel_rfl) (by kernel_rfl) (by kernel_rfl) (by omega) (fun p _ => by kernel_rfl)
      · exact ex_tup2 (x := .int (lo ps 2)) (y := .int (hi ps 2)) (by kernel_rfl) (by kernel_rfl) (ev_call1 (by kernel_rfl) (by kernel_rfl) (hlow 2)) (ev_call1 (by kernel_rfl) (by kernel_rfl) (hhigh 2)) (by kernel_rfl)
      · exact ex_asg (d := lineD ps 2) (by kernel_rfl) (comp_allN (l := ps) (g := fun p : Nat => .int p) (itd := .list (ps.map fun p : Nat => .int p)) (by kernel_rfl) (by kernel_rfl) (by kernel_rfl) (by omega) (fun p _ => by kernel_rfl)) (by kernel_rfl)
    · refine (bind_to (α := Sx) (("start", .int 1) :: toldR ps 1, some ("cuts", true, [cutD ps 0])) (by kernel_rfl)).trans ?_
      rw [exL_next (("line", lineD ps 1) :: ("start", .int 1) :: toldR ps 1, some ("cuts", true, [cutD ps 0]))]
      rw [exL_next (toldR ps 2, some ("cuts", true, [cutD ps 0]))]
      rw [exL_next (toldR ps 2, some ("cuts", true, [cutD ps 0, cutD ps 1]))]
      · kernel_rfl
      · refine ex_append (by kernel_rfl) (by simp) ?_
        refine ev_tup3 (by kernel_rfl) ?_ (by kernel_rfl) (by kernel_rfl)
        refine ev_sum (ns := ps.map fun p => absI (lineAt 1 p - lo ps 1)) (by kernel_rfl) ?_
        rw [← hsum 1]
        exact comp_allN (l := ps) (g := fun p => .int (lineAt 1 p)) (itd := lineD ps 1) (by kernel_rfl) (by kernel_rfl) (by kernel_rfl) (by omega) (fun p _ => by kernel_rfl)
      · exact ex_tup2 (x := .int (lo ps 1)) (y := .int (hi ps 1)) (by kernel_rfl) (by kernel_rfl) (ev_call1 (by kernel_rfl) (by kernel_rfl) (hlow 1)) (ev_call1 (by kernel_rfl) (by kernel_rfl) (hhigh 1)) (by kernel_rfl)
      · exact ex_asg (d := lineD ps 1) (by kernel_rfl) (comp_allN (l := ps) (g := fun p : Nat => .int p) (itd := .list (ps.map fun p : Nat => .int p)) (by kernel_rfl) (by kernel_rfl) (by kernel_rfl) (by omega) (fun p _ => by kernel_rfl)) (by kernel_rfl)
    · refine (bind_to (α := Sx) (("start", .int 0) :: toldR ps 0, some ("cuts", true, [])) (by kernel_rfl)).trans ?_
      rw [exL_next (("line", lineD ps 0) :: ("start", .int 0) :: toldR ps 0, some ("cuts", true, []))]
      rw [exL_next (toldR ps 1, some ("cuts", true, []))]
      rw [exL_next (toldR ps 1, some ("cuts", true, [cutD ps 0]))]
      · kernel_rfl
      · refine ex_append (by kernel_rfl) (by simp) ?_
        refine ev_tup3 (by kernel_rfl) ?_ (by kernel_rfl) (by kernel_rfl)
        refine ev_sum (ns := ps.map fun p => absI (lineAt 0 p - lo ps 0)) (by kernel_rfl) ?_
        rw [← hsum 0]
        exact comp_allN (l := ps) (g := fun p => .int (lineAt 0 p)) (itd := lineD ps 0) (by kernel_rfl) (by kernel_rfl) (by kernel_rfl) (by omega) (fun p _ => by kernel_rfl)
      · exact ex_tup2 (x := .int (lo ps 0)) (y := .int (hi ps 0)) (by kernel_rfl) (by kernel_rfl) (ev_call1 (by kernel_rfl) (by kernel_rfl) (hlow 0)) (ev_call1 (by kernel_rfl) (by kernel_rfl) (hhigh 0)) (by kernel_rfl)
      · exact ex_asg (d := lineD ps 0) (by kernel_rfl) (comp_allN (l := ps) (g := fun p : Nat => .int p) (itd := .list (ps.map fun p : Nat => .int p)) (by kernel_rfl) (by kernel_rfl) (by kernel_rfl) (by omega) (fun p _ => by kernel_rfl)) (by kernel_rfl)
  · kernel_rfl
end Mine

/-! PL1 -/

namespace Mine
theorem idx_iff {α : Type} (q : α → Bool) : ∀ (l : List α), l.Pairwise (fun a b => q b = true → q a = true) → ∀ (i : Nat) (h : i < l.length), (q l[i] = true ↔ i < (l.filter q).length)
  | [], _, i, h => by simp at h
  | a :: r, hp, i, h => by
    obtain ⟨h1, h2⟩ := List.pairwise_cons.mp hp
    cases ha : q a with
    | true =>
      rw [List.filter_cons_of_pos ha]
      cases i with
      | zero => simp [ha]
      | succ i =>
        have := idx_iff q r h2 i (by simpa using h)
        simp only [List.getElem_cons_succ, List.length_cons]
        rw [this]; omega
    | false =>
      have none : ∀ b ∈ r, q b = false := fun b hb => by
        cases hq : q b with
        | false => rfl
        | true => rw [h1 b hb hq] at ha; cases ha
      have e : (a :: r).filter q = [] := by
        rw [List.filter_eq_nil_iff]
        intro b hb
        rcases List.mem_cons.mp hb with rfl | hb
        · rw [ha]; simp
        · rw [none b hb]; simp
      rw [e]
      cases i with
      | zero => simp [ha]
      | succ i =>
        have hi : i < r.length := by simpa using h
        have : q r[i] = false := none _ (List.getElem_mem hi)
        simp [this]
theorem filter_len {α : Type} (q : α → Bool) (l : List α) : (l.filter q).length ≤ l.length := List.length_filter_le _ _

noncomputable def cnt (ns : List Int) (x : Int) : Nat := (ns.filter fun e => decide (e ≤ x)).length
theorem cnt_sort (ns : List Int) (x : Int) : ((sortI ns).filter fun e => decide (e ≤ x)).length = cnt ns x := ((isort_perm _ ns).filter _).length_eq
theorem sortI_sorted (ns : List Int) : (sortI ns).Pairwise (· ≤ ·) := isort_sorted (fun x => x) ns
theorem medL_le {ns : List Int} (h0 : 0 < ns.length) (x : Int) : medL ns ≤ x ↔ ns.length ≤ 2 * cnt ns x := by
  have hl := sortI_len ns
  have hi : (ns.length - 1) / 2 < (sortI ns).length := by omega
  have := idx_iff (fun e => decide (e ≤ x)) (sortI ns) ((sortI_sorted ns).imp fun {a b} h hb => by simp only [decide_eq_true_eq] at hb ⊢; omega) ((ns.length - 1) / 2) hi
  rw [cnt_sort] at this
  unfold medL
  rw [List.getElem?_eq_getElem hi, Option.getD_some]
  simp only [decide_eq_true_eq] at this
  rw [this]
  have : cnt ns x ≤ ns.length := filter_len _ _
  omega
theorem medH_le {ns : List Int} (h0 : 0 < ns.length) (x : Int) : medH ns ≤ x ↔ ns.length < 2 * cnt ns x := by
  have hl := sortI_len ns
  have hi : ns.length / 2 < (sortI ns).length := by omega
  have := idx_iff (fun e => decide (e ≤ x)) (sortI ns) ((sortI_sorted ns).imp fun {a b} h hb => by simp only [decide_eq_true_eq] at hb ⊢; omega) (ns.length / 2) hi
  rw [cnt_sort] at this
  unfold medH
  rw [List.getElem?_eq_getElem hi, Option.getD_some]
  simp only [decide_eq_true_eq] at this
  rw [this]
  have : cnt ns x ≤ ns.length := filter_len _ _
  omega
theorem medL_mem {ns : List Int} (h0 : 0 < ns.length) : medL ns ∈ ns := by
  have hl := sortI_len ns
  have hi : (ns.length - 1) / 2 < (sortI ns).length := by omega
  unfold medL
  rw [List.getElem?_eq_getElem hi, Option.getD_some]
  exact (isort_perm _ ns).mem_iff.mp (List.getElem_mem hi)
theorem medH_mem {ns : List Int} (h0 : 0 < ns.length) : medH ns ∈ ns := by
  have hl := sortI_len ns
  have hi : ns.length / 2 < (sortI ns).length := by omega
  unfold medH
  rw [List.getElem?_eq_getElem hi, Option.getD_some]
  exact (isort_perm _ ns).mem_iff.mp (List.getElem_mem hi)

/-! the sum of the ways -/
noncomputable def G (ns : List Int) (x : Int) : Int := (ns.map fun e => absI (e - x)).sum
theorem G_step (ns : List Int) (x : Int) : G ns (x + 1) - G ns x = 2 * cnt ns x - ns.length := by
  induction ns with
  | nil => rfl
  | cons e r ih =>
    have e1 : ∀ y, G (e :: r) y = absI (e - y) + G r y := fun y => by simp [G]
    have e2 : cnt (e :: r) x = (if e ≤ x then 1 else 0) + cnt r x := by
      unfold cnt
      by_cases h : e ≤ x <;> simp [h] <;> omega
    rw [e1, e1, e2]
    unfold absI
    by_cases h : e ≤ x
    · rw [if_pos h, if_pos (by omega)]
      split <;> simp <;> omega
    · rw [if_neg h]
      split <;> split <;> simp <;> omega
theorem G_up {ns : List Int} (h0 : 0 < ns.length) (k : Nat) : G ns (medH ns) + k ≤ G ns (medH ns + k) := by
  induction k with
  | zero => simp
  | succ k ih =>
    have h1 := (medH_le h0 (medH ns + k)).mp (by omega)
    have h2 := G_step ns (medH ns + k)
    have : (medH ns + ((k + 1 : Nat) : Int)) = medH ns + k + 1 := by omega
    rw [this]; omega
theorem G_down {ns : List Int} (h0 : 0 < ns.length) (k : Nat) : G ns (medL ns) + k ≤ G ns (medL ns - k) := by
  induction k with
  | zero => simp
  | succ k ih =>
    have h1 := mt (medL_le h0 (medL ns - k - 1)).mpr (by omega)
    have h2 := G_step ns (medL ns - k - 1)
    have e : (medL ns - k - 1 + 1) = medL ns - k := by omega
    have e2 : (medL ns - ((k + 1 : Nat) : Int)) = medL ns - k - 1 := by omega
    rw [e] at h2
    rw [e2]; omega
theorem medLH {ns : List Int} (h0 : 0 < ns.length) : medL ns ≤ medH ns := by
  have := (medH_le h0 (medH ns)).mp (Int.le_refl _)
  exact (medL_le h0 _).mpr (by omega)
theorem G_mid {ns : List Int} (h0 : 0 < ns.length) (k : Nat) (hk : medL ns + k ≤ medH ns) : G ns (medL ns + k) = G ns (medL ns) := by
  induction k with
  | zero => simp
  | succ k ih =>
    have h1 := (medL_le h0 (medL ns + k)).mp (by omega)
    have h2 := mt (medH_le h0 (medL ns + k)).mpr (by omega)
    have h3 := G_step ns (medL ns + k)
    have h4 := ih (by omega)
    have : (medL ns + ((k + 1 : Nat) : Int)) = medL ns + k + 1 := by omega
    rw [this]; omega
/-- the medians, and they alone, have the least way -/
theorem G_min {ns : List Int} (h0 : 0 < ns.length) (x : Int) : G ns (medL ns) ≤ G ns x ∧ (G ns x = G ns (medL ns) ↔ medL ns ≤ x ∧ x ≤ medH ns) := by
  have hLH := medLH h0
  by_cases h1 : x < medL ns
  · have := G_down h0 (medL ns - x).toNat
    have e : medL ns - ((medL ns - x).toNat : Int) = x := by omega
    rw [e] at this
    constructor
    · omega
    · constructor <;> intro h <;> omega
  · by_cases h2 : x ≤ medH ns
    · have := G_mid h0 (x - medL ns).toNat (by omega)
      have e : medL ns + ((x - medL ns).toNat : Int) = x := by omega
      rw [e] at this
      rw [this]
      exact ⟨Int.le_refl _, by constructor <;> intro _ <;> omega⟩
    · have := G_up h0 (x - medH ns).toNat
      have e : medH ns + ((x - medH ns).toNat : Int) = x := by omega
      rw [e] at this
      have h3 := G_mid h0 (medH ns - medL ns).toNat (by omega)
      have e3 : medL ns + ((medH ns - medL ns).toNat : Int) = medH ns := by omega
      rw [e3] at h3
      constructor
      · omega
      · constructor <;> intro h <;> omega
end Mine

/-! PL2 -/

namespace Mine
theorem d6_mid : ∀ p, p < 6 → ∀ k, k < 6 → absI (lineAt ((k + 3) % 6) p - 3) = d6 p k := by decide +kernel
theorem d6_le : ∀ s, s < 6 → ∀ x : Nat, x < 6 → ∀ p, p < 6 → d6 p ((s + x) % 6) ≤ absI (lineAt s p - (x : Int)) := by decide +kernel
theorem line_b (s p : Nat) : 0 ≤ lineAt s p ∧ lineAt s p < 6 := by
  unfold lineAt; rw [Int.fmod_eq_emod_of_nonneg _ (by decide)]; omega
noncomputable def Six (ps : List Nat) : Prop := ∀ p ∈ ps, p < 6
theorem sum_eq {f g : Nat → Int} : ∀ {ps : List Nat}, (∀ p ∈ ps, f p = g p) → (ps.map f).sum = (ps.map g).sum
  | [], _ => rfl
  | p :: r, h => by simp [h p (.head _), sum_eq fun q hq => h q (.tail _ hq)]
theorem sum_le {f g : Nat → Int} : ∀ {ps : List Nat}, (∀ p ∈ ps, f p ≤ g p) → (ps.map f).sum ≤ (ps.map g).sum
  | [], _ => Int.le_refl _
  | p :: r, h => by
    have h1 := h p (.head _)
    have h2 := sum_le fun q hq => h q (.tail _ hq)
    simp only [List.map_cons, List.sum_cons]; omega
theorem Gs_G (ps : List Nat) (s : Nat) (x : Int) : Gs ps s x = G (line ps s) x := by simp [Gs, G, line, Function.comp_def]
theorem F_mid {ps : List Nat} (h : Six ps) {k : Nat} (hk : k < 6) : F ps k = Gs ps ((k + 3) % 6) 3 := sum_eq fun p hp => (d6_mid p (h p hp) k hk).symm
theorem F_le {ps : List Nat} (h : Six ps) {s x : Nat} (hs : s < 6) (hx : x < 6) : F ps ((s + x) % 6) ≤ Gs ps s (x : Int) := sum_le fun p hp => d6_le s hs x hx p (h p hp)
theorem lo_b {ps : List Nat} (h0 : 0 < ps.length) (s : Nat) : 0 ≤ lo ps s ∧ lo ps s < 6 := by
  have : lo ps s ∈ line ps s := medL_mem (by simp [line]; exact h0)
  obtain ⟨p, _, e⟩ := List.mem_map.mp this
  rw [← e]; exact line_b s p
theorem hi_b {ps : List Nat} (h0 : 0 < ps.length) (s : Nat) : 0 ≤ hi ps s ∧ hi ps s < 6 := by
  have : hi ps s ∈ line ps s := medH_mem (by simp [line]; exact h0)
  obtain ⟨p, _, e⟩ := List.mem_map.mp this
  rw [← e]; exact line_b s p
theorem Gs_min {ps : List Nat} (h0 : 0 < ps.length) (s : Nat) (x : Int) : Gs ps s (lo ps s) ≤ Gs ps s x ∧ (Gs ps s x = Gs ps s (lo ps s) ↔ lo ps s ≤ x ∧ x ≤ hi ps s) := by
  rw [Gs_G, Gs_G]; exact G_min (by simp [line]; exact h0) x

noncomputable def minF (ps : List Nat) : Int := minL (F ps 0) [F ps 1, F ps 2, F ps 3, F ps 4, F ps 5]
theorem minF_le (ps : List Nat) {k : Nat} (hk : k < 6) : minF ps ≤ F ps k := by
  refine (minL_spec _ _).2 _ ?_
  rcases six hk with rfl | rfl | rfl | rfl | rfl | rfl <;> simp
theorem minF_at (ps : List Nat) : ∃ k, k < 6 ∧ minF ps = F ps k := by
  have := (minL_spec [F ps 1, F ps 2, F ps 3, F ps 4, F ps 5] (F ps 0)).1
  simp only [List.mem_cons, List.not_mem_nil, or_false] at this
  rcases this with h | h | h | h | h | h
  · exact ⟨0, by decide, h⟩
  · exact ⟨1, by decide, h⟩
  · exact ⟨2, by decide, h⟩
  · exact ⟨3, by decide, h⟩
  · exact ⟨4, by decide, h⟩
  · exact ⟨5, by decide, h⟩
theorem wayT_le (ps : List Nat) {s : Nat} (hs : s < 6) : wayT ps ≤ Gs ps s (lo ps s) := by
  refine (minL_spec _ _).2 _ ?_
  rcases six hs with rfl | rfl | rfl | rfl | rfl | rfl <;> simp
theorem wayT_at (ps : List Nat) : ∃ s, s < 6 ∧ wayT ps = Gs ps s (lo ps s) := by
  have := (minL_spec [Gs ps 1 (lo ps 1), Gs ps 2 (lo ps 2), Gs ps 3 (lo ps 3), Gs ps 4 (lo ps 4), Gs ps 5 (lo ps 5)] (Gs ps 0 (lo ps 0))).1
  simp only [List.mem_cons, List.not_mem_nil, or_false] at this
  rcases this with h | h | h | h | h | h
  · exact ⟨0, by decide, h⟩
  · exact ⟨1, by decide, h⟩
  · exact ⟨2, by decide, h⟩
  · exact ⟨3, by decide, h⟩
  · exact ⟨4, by decide, h⟩
  · exact ⟨5, by decide, h⟩
theorem mod6 (k : Nat) : (k + 3) % 6 < 6 := Nat.mod_lt _ (by decide)
theorem F_le' {ps : List Nat} (h : Six ps) {s : Nat} {x : Int} (hs : s < 6) (h1 : 0 ≤ x) (h2 : x < 6) : F ps ((s + x.toNat) % 6) ≤ Gs ps s x := by
  have := F_le h hs (x := x.toNat) (by omega)
  rwa [show ((x.toNat : Nat) : Int) = x by omega] at this
theorem way_min {ps : List Nat} (h0 : 0 < ps.length) (h : Six ps) : wayT ps = minF ps := by
  refine Int.le_antisymm ?_ ?_
  · obtain ⟨k, hk, e⟩ := minF_at ps
    rw [e, F_mid h hk]
    exact Int.le_trans (wayT_le ps (mod6 k)) (Gs_min h0 _ 3).1
  · obtain ⟨s, hs, e⟩ := wayT_at ps
    have hb := lo_b h0 s
    rw [e]
    exact Int.le_trans (minF_le ps (Nat.mod_lt _ (by decide))) (F_le' h hs hb.1 hb.2)
theorem told_iff {ps : List Nat} (h0 : 0 < ps.length) (h : Six ps) {k : Nat} (hk : k < 6) : toldB ps k = (F ps k == minF ps) := by
  rw [Bool.eq_iff_iff, beq_iff_eq]
  have way := way_min h0 h
  have key : toldB ps k = true ↔ ∃ s, s < 6 ∧ inCut ps k s = true := by
    unfold toldB
    rw [Bool.not_eq_true', List.isEmpty_eq_false_iff_exists_mem]
    constructor
    · rintro ⟨s, hs⟩
      rw [List.mem_filter] at hs
      refine ⟨s, ?_, hs.2⟩
      have := hs.1
      simp only [List.mem_cons, List.not_mem_nil, or_false] at this
      omega
    · rintro ⟨s, hs, hc⟩
      refine ⟨s, List.mem_filter.mpr ⟨?_, hc⟩⟩
      simp only [List.mem_cons, List.not_mem_nil, or_false]
      omega
  rw [key]
  unfold inCut
  simp only [Bool.and_eq_true, beq_iff_eq, decide_eq_true_eq]
  constructor
  · rintro ⟨s, hs, e1, e2⟩
    have hlb := lo_b h0 s
    have hhb := hi_b h0 s
    rw [Int.fmod_eq_emod_of_nonneg _ (by decide)] at e2
    have hx0 : 0 ≤ ((k : Int) - (s + lo ps s)) % 6 := Int.emod_nonneg _ (by decide)
    generalize hr : ((k : Int) - (s + lo ps s)) % 6 = r at *
    have hm := ((Gs_min h0 s (lo ps s + r)).2).mpr ⟨by omega, by omega⟩
    have hF := F_le' h hs (x := lo ps s + r) (by omega) (by omega)
    have hk' : (s + (lo ps s + r).toNat) % 6 = k := by omega
    rw [hk', hm, e1, way] at hF
    have := minF_le ps hk
    omega
  · intro e
    refine ⟨(k + 3) % 6, mod6 k, ?_, ?_⟩
    · have h1 := (Gs_min h0 ((k + 3) % 6) 3).1
      rw [← F_mid h hk, e] at h1
      have h2 := wayT_le ps (mod6 k)
      rw [way] at h2 ⊢
      omega
    · have h1 := (Gs_min h0 ((k + 3) % 6) 3).1
      have h2 := wayT_le ps (mod6 k)
      have h3 := ((Gs_min h0 ((k + 3) % 6) 3).2).mp (by
        rw [← F_mid h hk, e] at h1 ⊢
        rw [way] at h2
        omega)
      have hb := lo_b h0 ((k + 3) % 6)
      rw [Int.fmod_eq_emod_of_nonneg _ (by decide)]
      omega
theorem kInts_eq {p q : Nat → Bool} (h : ∀ k, k < 6 → p k = q k) : kInts p = kInts q := by
  unfold kInts
  congr 1
  exact List.filter_congr fun k hk => h k (by simp only [List.mem_cons, List.not_mem_nil, or_false] at hk; omega)
theorem Goods.six {cs : List Col} {ps : List Nat} (h : Goods cs ps) : Six ps := by
  induction h with
  | nil => intro p hp; simp at hp
  | cons hg _ ih =>
    intro p hp
    rcases List.mem_cons.mp hp with rfl | hp
    · exact hg.1
    · exact ih p hp
theorem minA_F {cs : List Col} {ps : List Nat} (h : Goods cs ps) : minA cs = minF ps := by
  unfold minA minF
  rw [ag_eq h (k := 0) (by decide), ag_eq h (k := 1) (by decide), ag_eq h (k := 2) (by decide), ag_eq h (k := 3) (by decide), ag_eq h (k := 4) (by decide), ag_eq h (k := 5) (by decide)]
/-- what is told is what has the fewest against it -/
theorem told_fewest (P : Params) (j : Nat) {cs : List Col} {ps : List Nat} (h : Goods cs ps) (h0 : 0 < cs.length) (hl : cs.length < 64) :
    phi P (j + 3) "_law_fewest" [.list (cs.map cD)] = some (.tup [.int (minF ps), .list (kInts fun k => F ps k == minF ps)]) ∧ phi P (j + 2) "_law_told" [.list (ps.map fun p : Nat => .int p)] = some (.tup [.int (minF ps), .list (kInts fun k => F ps k == minF ps)]) := by
  have hlen := h.len
  constructor
  · rw [run_fewest P j cs (by omega), minA_F h, kInts_eq fun k hk => by rw [ag_eq h hk]]
  · rw [run_told P j ps (by omega) (by omega), way_min (by omega) h.six, kInts_eq fun k hk => told_iff (by omega) h.six hk]
end Mine

/-! N8 -/

namespace Mine
section
variable {Φ : Str → List D → Option D} {m n : Nat} {sc : Names} {ρ : Rho} {S S' : Sx}
theorem ev_name {x : Str} {p : Pos} {d : D} (h : ρ.lookup x = some d) : ev Φ (n + 1) sc ρ (.Name x p) = some d := h
theorem ev_bin {l r : Expr} {op : Operator} {pos : Pos} {a b d : D} (h1 : ev Φ n sc ρ l = some a) (h2 : ev Φ n sc ρ r = some b) (h : binop op a b = some d) : ev Φ (n + 1) sc ρ (.BinOp l op r pos) = some d := by
  rw [ev_succ]
  simp only [evB, h1, h2, Option.bind_some, h]
theorem ev_cmp {l r : Expr} {op : CmpOp} {pos : Pos} {a b : D} {c : Bool} (hk : notSet r = true) (h1 : ev Φ n sc ρ l = some a) (h2 : ev Φ n sc ρ r = some b) (hc : cmpop op a b = some c) : ev Φ (n + 1) sc ρ (.Compare l [op] [r] pos) = some (.bool c) := by
  rw [ev_succ]
  simp only [evB, hk, if_true, h1, h2, Option.bind_some, hc, Option.map_some]
theorem ev_ifx {t a b : Expr} {pos : Pos} {d : D} (c : Bool) (h : ev Φ n sc ρ t = some (.bool c)) (h1 : c = true → ev Φ n sc ρ a = some d) (h2 : c = false → ev Φ n sc ρ b = some d) : ev Φ (n + 1) sc ρ (.IfExp t a b pos) = some d := by
  rw [ev_succ]
  simp only [evB, h]
  cases c with
  | true => exact h1 rfl
  | false => exact h2 rfl
theorem ev_list2 {a b : Expr} {pos : Pos} {x y : D} (hk : ([a, b].all noStar) = true) (h1 : ev Φ n sc ρ a = some x) (h2 : ev Φ n sc ρ b = some y) : ev Φ (n + 1) sc ρ (.List [a, b] pos) = some (.list [x, y]) := by
  rw [ev_succ]
  simp only [evB, hk, evl, h1, h2]
  rfl
theorem ev_bi1 {f : Str} {p pos : Pos} {a : Expr} {x d : D} {b : BI} (hf : (okName f && sc.lookup f == some .globalImplicit && [a].all noStar) = true) (hb : biOf f = some b) (h : ev Φ n sc ρ a = some x) (hc : callBI b [x] = some d) : ev Φ (n + 1) sc ρ (.Call (.Name f p) [a] [] pos) = some d := by
  rw [ev_succ]
  dsimp only [evB]
  rw [hf]
  simp [evl, h, hb, hc]
theorem ev_bi1_none {f : Str} {p pos : Pos} {a : Expr} (h : ev Φ n sc ρ a = none) : ev Φ (n + 1) sc ρ (.Call (.Name f p) [a] [] pos) = none := by
  rw [ev_succ]
  dsimp only [evB]
  simp [evl, h]
theorem ev_bin_none {l r : Expr} {op : Operator} {pos : Pos} (h1 : ev Φ n sc ρ l = none) : ev Φ (n + 1) sc ρ (.BinOp l op r pos) = none := by
  rw [ev_succ]
  simp only [evB, h1, Option.bind_none]
theorem ev_tup2_none {a b : Expr} {k : Nat} {pos : Pos} (h1 : ev Φ n sc ρ a = none) : ev Φ (n + 1) sc ρ (.Tuple [a, b] k pos) = none := by
  rw [ev_succ]
  simp only [evB, evl, h1]
  split <;> rfl
theorem ev_name_none {x : Str} {p : Pos} (h : ρ.lookup x = none) : ev Φ (n + 1) sc ρ (.Name x p) = none := h
theorem bindS_own {y : Str} {pl : Bool} {ds : List D} {t : Expr} {d : D} {ρ' : Rho} (h : bindT sc ρ t d = some ρ') (hn : ρ'.lookup y = none) : bindS sc (ρ, some (y, pl, ds)) t d = some (ρ', some (y, pl, ds)) := by
  unfold bindS
  rw [h]
  simp [hn]
theorem ex_tup2F {a b : Str} {pa pb p p2 pos : Pos} {k k2 : Nat} {e1 e2 : Expr} {x y : D} {o : Str × Bool × List D} (hk : (isCall e1 && noStar e2 && !(a == b)) = true) (hk2 : ([e1, e2].all noStar) = true) (hn : ev Φ m sc ρ e1 = none) (h1 : ev Φ m sc (freeze (ρ, some o)) e1 = some x) (h2 : ev Φ m sc (freeze (ρ, some o)) e2 = some y)
    (hb : bindS sc (freeze (ρ, some o), none) (.Tuple [.Name a pa, .Name b pb] k p) (.tup [x, y]) = some S') :
    ex Φ (m + 1) sc (n + 1) (ρ, some o) (.Assign [.Tuple [.Name a pa, .Name b pb] k p] (.Tuple [e1, e2] k2 p2) pos) = some (.next, S') := by
  rw [ex_succ]
  have hF : evF (ev Φ (m + 1) sc) (ρ, some o) (.Tuple [e1, e2] k2 p2) = some (.tup [x, y], (freeze (ρ, some o), none)) := by
    unfold evF
    rw [ev_tup2_none hn]
    simp only [ev_tup2 hk2 h1 h2, Option.map_some]
  simp only [exB, hk, if_true, hF, Option.bind_some, hb, Option.map_some]
end
theorem lookup_dropN_ne {x y : Str} {ρ : Rho} (h : (y == x) = false) : (dropN x ρ).lookup y = ρ.lookup y := by
  unfold dropN
  induction ρ with
  | nil => rfl
  | cons q r ih =>
    by_cases hp : (!(q.1 == x)) = true
    · rw [List.filter_cons_of_pos (p := fun q : Str × D => !(q.1 == x)) hp, List.lookup_cons, List.lookup_cons, ih]
    · rw [List.filter_cons_of_neg (p := fun q : Str × D => !(q.1 == x)) hp, List.lookup_cons, ih]
      have hq : (q.1 == x) = true := by simpa using hp
      have : (y == q.1) = false := by rw [beq_iff_eq.mp hq]; exact h
      rw [this]
/-- a loop that fills a list -/
theorem forL_acc {α : Type} {body : Sx → D → Option (Fl × Sx)} {I : Rho → Prop} {nm : Str} {g out : α → D} : ∀ (l : List α) (ρ : Rho) (acc : List D), I ρ → acc.length + l.length < 1000 →
    (∀ x ∈ l, ∀ ρ acc, I ρ → acc.length < 1000 → ∃ ρ', body (ρ, some (nm, true, acc)) (g x) = some (.next, (ρ', some (nm, true, acc ++ [out x]))) ∧ I ρ') →
    ∃ ρ', forL body (ρ, some (nm, true, acc)) (l.map g) = some (.next, (ρ', some (nm, true, acc ++ l.map out))) ∧ I ρ'
  | [], ρ, acc, hI, _, _ => ⟨ρ, by simp [forL], hI⟩
  | x :: r, ρ, acc, hI, hl, hs => by
    simp only [List.length_cons] at hl
    obtain ⟨ρ1, e1, h1⟩ := hs x (.head _) ρ acc hI (by omega)
    obtain ⟨ρ2, e2, h2⟩ := forL_acc r ρ1 (acc ++ [out x]) h1 (by simp; omega) fun y hy => hs y (.tail _ hy)
    refine ⟨ρ2, ?_, h2⟩
    rw [List.map_cons, forL_next _ e1, e2]
    simp

noncomputable def negC (c : Col) : Col := (Float64.sub c1 c.1, Float64.sub c1 c.2.1, Float64.sub c1 c.2.2)
theorem good_neg {c : Col} {p : Nat} (h : Good c p) : Good (negC c) ((p + 3) % 6) := by
  obtain ⟨hp, a, b, d, A, M, L, rfl, ha, hb, hd, h0, h1, h2, h3⟩ := h
  refine ⟨mod6 p, Float64.sub c1 d, Float64.sub c1 b, Float64.sub c1 a, 256 - L, 256 - M, 256 - A, ?_, sub_ex c1_ex hd (by omega) (by omega), sub_ex c1_ex hb (by omega) (by omega), sub_ex c1_ex ha (by omega) (by omega), by omega, by omega, by omega, by omega⟩
  rcases six hp with rfl | rfl | rfl | rfl | rfl | rfl <;> rfl
noncomputable def isHere (cr p : Nat) : Bool := decide (((p : Int) - cr).fmod 6 < 3)
noncomputable def halfX (cr : Nat) (x : Col × Nat) : Col × Nat := if isHere cr x.2 then x else (negC x.1, (x.2 + 3) % 6)
theorem good_half {cr : Nat} {x : Col × Nat} (h : Good x.1 x.2) : Good (halfX cr x).1 (halfX cr x).2 := by
  unfold halfX
  split
  · exact h
  · exact good_neg h
noncomputable def hueOf (P : Params) (j : Nat) (c : Col) : UInt64 := match phi P (j + 2) "_law_hue" [cD c] with
  | some (.flt x) => x
  | _ => 0
theorem hueOf_ok (P : Params) (j : Nat) {c : Col} {p : Nat} (h : Good c p) : phi P (j + 2) "_law_hue" [cD c] = some (.flt (hueOf P j c)) ∧ HueAt (hueOf P j c) p := by
  obtain ⟨x, e, hx⟩ := run_hueG P j h
  have : hueOf P j c = x := by unfold hueOf; rw [e]
  rw [this]; exact ⟨e, hx⟩
/-- the place, from the corner on -/
noncomputable def ext (cr p : Nat) : Nat := if cr ≤ p then p else p + 6
noncomputable def hueS (P : Params) (j cr : Nat) (x : Col × Nat) : UInt64 := if cr ≤ x.2 then hueOf P j x.1 else Float64.add (hueOf P j x.1) c1
theorem hueS_ok (P : Params) (j cr : Nat) {x : Col × Nat} (h : Good x.1 x.2) : HueAt (hueS P j cr x) (ext cr x.2) := by
  obtain ⟨lo, hi, hx, h0, hb, h1, h2⟩ := (hueOf_ok P j h).2
  unfold hueS ext
  split
  · exact ⟨lo, hi, hx, h0, hb, h1, h2⟩
  · refine ⟨lo + 65536, hi + 65536, add_in hx c1_in (by omega) (by omega), by omega, ?_, by omega, by omega⟩
    have := h.1; omega
theorem hue_gt {x : UInt64} {p : Nat} (hx : HueAt x p) (hp : p < 6) (cr : Nat) : cmpop .Gt (.flt (Float64.mul x (Float64.ofInt 6))) (.int cr) = some (decide (cr ≤ p)) := by
  obtain ⟨lo, hi, hx, h0, hb, h1, h2⟩ := hx
  have hm := mul6_in hx h0 (by omega)
  obtain ⟨a, m, e, hd⟩ := fin_of hm.fin
  show some (Float64.cmpInt (Float64.mul x (Float64.ofInt 6)) cr == some Ordering.gt) = _
  rw [Float64.cmpInt_right hd, one_uZ]
  have e1 : (cr : Int) * (65536 * (u : Int)) = 65536 * cr * u := by generalize (u : Int) = U; ac_rfl
  rw [e1]
  congr 1
  by_cases h : cr ≤ p
  · rw [decide_eq_true h]
    have : 65536 * (cr : Int) * u < Float64.val (Float64.mul x (Float64.ofInt 6)) := by
      have := mulu_lt.mpr (show 65536 * (cr : Int) < 6 * lo by omega)
      have := hm.lo; omega
    rw [Int.compare_eq_gt.mpr this]; rfl
  · rw [decide_eq_false h]
    have : Float64.val (Float64.mul x (Float64.ofInt 6)) < 65536 * (cr : Int) * u := by
      have := mulu_lt.mpr (show 6 * hi < 65536 * (cr : Int) by omega)
      have := hm.hi; omega
    rw [Int.compare_eq_lt.mpr this]; rfl
end Mine

/-! N9 -/

namespace Mine
noncomputable def medLF (xs : List UInt64) : UInt64 := ((sortF xs)[(xs.length - 1) / 2]?).getD 0
noncomputable def medHF (xs : List UInt64) : UInt64 := ((sortF xs)[xs.length / 2]?).getD 0
theorem sortF_len (xs : List UInt64) : (sortF xs).length = xs.length := (isort_perm _ xs).length_eq
theorem sorted_F {xs : List UInt64} (h0 : 0 < xs.length) (h : xs.length < 64) (ok : ∀ x ∈ xs, fltOk x = true) : callBI .sorted [.list (xs.map .flt)] = some (.list ((sortF xs).map .flt)) := by
  cases xs with
  | nil => simp at h0
  | cons x r =>
    have hok : ((x :: r).all fltOk) = true := List.all_eq_true.mpr ok
    have hi : ints? ((x :: r).map .flt) = none := rfl
    rw [cb_sorted, if_pos (by rw [List.length_map]; exact h), sortD, hi, flts?_map]
    exact if_pos hok
theorem run_lowF (P : Params) (j : Nat) {xs : List UInt64} (h0 : 0 < xs.length) (h : xs.length < 64) (ok : ∀ x ∈ xs, fltOk x = true) : phi P (j + 1) "median_low" [.list (xs.map .flt)] = some (.flt (medLF xs)) := by
  have hl := sortF_len xs
  rw [run_low P j _ _ (sorted_F h0 h ok) (by simp; omega) (by simp; omega)]
  unfold medLF
  simp only [List.length_map, hl, List.getElem?_map]
  rw [List.getElem?_eq_getElem (by omega)]; rfl
theorem run_highF (P : Params) (j : Nat) {xs : List UInt64} (h0 : 0 < xs.length) (h : xs.length < 64) (ok : ∀ x ∈ xs, fltOk x = true) : phi P (j + 1) "median_high" [.list (xs.map .flt)] = some (.flt (medHF xs)) := by
  have hl := sortF_len xs
  rw [run_high P j _ _ (sorted_F h0 h ok) (by simp; omega) (by simp; omega)]
  unfold medHF
  simp only [List.length_map, hl, List.getElem?_map]
  rw [List.getElem?_eq_getElem (by omega)]; rfl

noncomputable def plF (v : UInt64) : Int := Flt.toInt Float64.truncOf (Float64.mul v (Float64.ofInt 6))
noncomputable def gt0 (v : UInt64) : Bool := Float64.cmpInt v 0 == some Ordering.gt
noncomputable def orderD (p : Nat) : D := match p with
  | 0 => .tup [.int 0, .int 1, .int 2]
  | 1 => .tup [.int 1, .int 0, .int 2]
  | 2 => .tup [.int 1, .int 2, .int 0]
  | 3 => .tup [.int 2, .int 1, .int 0]
  | 4 => .tup [.int 2, .int 0, .int 1]
  | _ => .tup [.int 0, .int 2, .int 1]
noncomputable def ordersD : D := .tup [orderD 0, orderD 1, orderD 2, orderD 3, orderD 4, orderD 5]
theorem getD_orders {k : Nat} (h : k < 6) : getD ordersD (k : Int) = some (orderD k) := by
  rcases six h with rfl | rfl | rfl | rfl | rfl | rfl <;> rfl
noncomputable def posP (p a b : Nat) : Bool := decide ((rk p a : Int) < (rk p b : Int))
noncomputable def gapX (a b : Nat) (x : Col × Nat) : UInt64 := Float64.sub (cAt x.1 a) (cAt x.1 b)
noncomputable def gaps (hp : List (Col × Nat)) (a b : Nat) : List UInt64 := hp.map (gapX a b)
noncomputable def hps (cr : Nat) (cs : List Col) (ps : List Nat) : List (Col × Nat) := (cs.zip ps).map (halfX cr)
theorem zipD_eq (cs : List Col) (ps : List Nat) : zipD (cs.map cD) (ps.map fun p : Nat => .int p) = (cs.zip ps).map fun x => .tup [cD x.1, .int (x.2 : Nat)] := by
  simp only [zipD, List.zip_map, List.map_map]; rfl
theorem goods_zip {cs : List Col} {ps : List Nat} (h : Goods cs ps) : ∀ x ∈ cs.zip ps, Good x.1 x.2 := by
  induction h with
  | nil => intro x hx; simp at hx
  | cons hg _ ih =>
    intro x hx
    rw [List.zip_cons_cons] at hx
    rcases List.mem_cons.mp hx with rfl | hx
    · exact hg
    · exact ih x hx
theorem goods_of : ∀ {l : List (Col × Nat)}, (∀ x ∈ l, Good x.1 x.2) → Goods (l.map (·.1)) (l.map (·.2))
  | [], _ => .nil
  | x :: r, h => .cons (h x (.head _)) (goods_of fun y hy => h y (.tail _ hy))
noncomputable def scHalf : Names := [("row", .local), ("places", .local), ("corner", .local), ("half", .local), ("colour", .local), ("place", .local), ("hues", .local), ("hue", .local), ("first", .cell), ("last", .cell), ("orders", .local), ("one", .cell), ("other", .cell), ("gaps", .local), ("ahead", .local), ("zip", .globalImplicit), ("_law_hue", .globalImplicit), ("int", .globalImplicit), ("median_low", .globalImplicit), ("median_high", .globalImplicit), ("_law_fewest", .globalImplicit), ("range", .globalImplicit), ("_law_orders", .globalImplicit), ("sorted", .globalImplicit)]

theorem via2 {A B : Option (Fl × Sx)} {Q : Rho → Prop} {f : Rho → Sx} (h : A = B) (hB : ∃ ρ' : Rho, B = some (.next, f ρ') ∧ Q ρ') : ∃ ρ' : Rho, A = some (.next, f ρ') ∧ Q ρ' := by rw [h]; exact hB
theorem run_half (P : Params) (j : Nat) {cs : List Col} {ps : List Nat} (hG : Goods cs ps) (h0 : 0 < cs.length) (hl : cs.length < 64) {cr : Nat} {first last : Int} {fo lao : Nat}
    (xok : ∀ x ∈ (hps cr cs ps).map (hueS P (j + 1) cr), fltOk x = true) (hgood : ∀ x ∈ hps cr cs ps, Good x.1 x.2)
    (f1 : plF (medLF ((hps cr cs ps).map (hueS P (j + 1) cr))) = first) (f2 : plF (medHF ((hps cr cs ps).map (hueS P (j + 1) cr))) = last)
    (n1 : Float64.isFinite (Float64.mul (medLF ((hps cr cs ps).map (hueS P (j + 1) cr))) (Float64.ofInt 6)) = true) (n2 : Float64.isFinite (Float64.mul (medHF ((hps cr cs ps).map (hueS P (j + 1) cr))) (Float64.ofInt 6)) = true)
    (hA : ∀ k, k < 6 → (F ((hps cr cs ps).map (·.2)) k == minF ((hps cr cs ps).map (·.2))) = decide (((k : Int) - first).fmod 6 ≤ last - first))
    (hfo : first.fmod 6 = (fo : Int)) (hlo : last.fmod 6 = (lao : Int)) (hf6 : fo < 6) (hl6 : lao < 6)
    (gok : ∀ a b, (a, b) = (0, 1) ∨ (a, b) = (1, 2) ∨ (a, b) = (2, 0) → ∀ x ∈ gaps (hps cr cs ps) a b, fltOk x = true)
    (hB : ∀ a b, (a, b) = (0, 1) ∨ (a, b) = (1, 2) ∨ (a, b) = (2, 0) → [gt0 (medLF (gaps (hps cr cs ps) a b)), gt0 (medHF (gaps (hps cr cs ps) a b))] = sortB [posP fo a b, posP lao a b]) :
    phi P (j + 4) "_law_half" [.list (cs.map cD), .list (ps.map fun p : Nat => .int p), .int cr] = some (.bool true) := by
  show run P (phi P (j + 3)) 94 ["row", "places", "corner"] [.list (cs.map cD), .list (ps.map fun p : Nat => .int p), .int cr] = _
  unfold run runP
  have e1 : (fdAt P 94).scope.names = scHalf := by kernel_rfl
  rw [e1]
  have hlen := hG.len
  have hzl : (cs.zip ps).length = cs.length := by simp [hlen]
  have hpl : (hps cr cs ps).length = cs.length := by simp [hps, hlen]
  generalize hhp : hps cr cs ps = hp at *
  let R0 : Rho := [("row", .list (cs.map cD)), ("places", .list (ps.map fun p : Nat => .int p)), ("corner", .int cr)]
  let halfV : D := .list (hp.map fun x => cD x.1)
  -- the first loop
  have loop1 : ∃ ρ' : Rho, ex (phi P (j + 3)) 13 scHalf 13 (R0, some ("half", true, [])) (bodyOf (fdAt P 94))[1]! = some (Fl.next, ((ρ', some (("half" : Str), true, hp.map fun x => cD x.1)) : Sx)) ∧ (ρ'.lookup ("corner" : Str) = some (.int cr) ∧ ρ'.lookup ("half" : Str) = none ∧ ρ'.lookup ("hues" : Str) = none) := by
    conv in bodyOf _ => whnf
    refine via2 (ex_zip (as := cs.map cD) (bs := ps.map fun p : Nat => .int p) (by kernel_rfl) (by kernel_rfl) (by kernel_rfl) (by rw [zipD_eq, List.length_map, hzl]; omega)) ?_
    rw [zipD_eq]
    have hout : (hp.map fun x => cD x.1) = [] ++ (cs.zip ps).map fun x => cD (halfX cr x).1 := by rw [← hhp]; simp [hps]
    rw [hout]
    refine forL_acc (I := fun ρ => ρ.lookup ("corner" : Str) = some (.int cr) ∧ ρ.lookup ("half" : Str) = none ∧ ρ.lookup ("hues" : Str) = none) (out := fun x => cD (halfX cr x).1) (cs.zip ps) _ [] ⟨by kernel_rfl, by kernel_rfl, by kernel_rfl⟩ (by simp; omega) ?_
    rintro ⟨c, p⟩ hx ρ acc ⟨i1, i2, i3⟩ hacc
    refine ⟨("place", .int p) :: ("colour", cD c) :: ρ, ?_, (by kernel_rfl : _ = List.lookup ("corner" : Str) ρ).trans i1, (by kernel_rfl : _ = List.lookup ("half" : Str) ρ).trans i2, (by kernel_rfl : _ = List.lookup ("hues" : Str) ρ).trans i3⟩
    refine (bind_to (α := Sx) (("place", .int p) :: ("colour", cD c) :: ρ, some ("half", true, acc)) (bindS_own (by kernel_rfl) ((by kernel_rfl : _ = List.lookup ("half" : Str) ρ).trans i2))).trans ?_
    refine exL_one (ex_append (by kernel_rfl) hacc ?_)
    refine ev_ifx (isHere cr p) (ev_cmp (a := .int (((p : Int) - cr).fmod 6)) (by kernel_rfl) (ev_bin (ev_bin (a := .int p) (b := .int cr) (by kernel_rfl) (ev_name ((by kernel_rfl : _ = List.lookup ("corner" : Str) ρ).trans i1)) rfl) (b := .int 6) (by kernel_rfl) (by kernel_rfl)) (b := .int 3) (by kernel_rfl) (by kernel_rfl)) (fun h => ?_) fun h => ?_
    · have : (halfX cr (c, p)).1 = c := by unfold halfX; rw [if_pos h]
      rw [this]; kernel_rfl
    · have : (halfX cr (c, p)).1 = negC c := by unfold halfX; rw [if_neg (by rw [h]; decide)]
      rw [this]; kernel_rfl
  obtain ⟨ρ2, el1, j1, j2, j3⟩ := loop1
  -- the second loop
  have loop2 : ∃ ρ' : Rho, ex (phi P (j + 3)) 13 scHalf 13 (dropN "hues" (freeze (ρ2, some ("half", true, hp.map fun x => cD x.1))), some ("hues", true, [])) (bodyOf (fdAt P 94))[3]! = some (Fl.next, ((ρ', some (("hues" : Str), true, hp.map fun x => D.flt (hueS P (j + 1) cr x))) : Sx)) ∧ (ρ'.lookup ("corner" : Str) = some (.int cr) ∧ ρ'.lookup ("half" : Str) = some halfV ∧ ρ'.lookup ("hues" : Str) = none) := by
    conv in bodyOf _ => whnf
    have k1 : List.lookup ("corner" : Str) (dropN "hues" (freeze (ρ2, some ("half", true, hp.map fun x => cD x.1)))) = some (.int cr) := (lookup_dropN_ne (by kernel_rfl)).trans ((by kernel_rfl : _ = List.lookup ("corner" : Str) ρ2).trans j1)
    have k2 : List.lookup ("half" : Str) (dropN "hues" (freeze (ρ2, some ("half", true, hp.map fun x => cD x.1)))) = some halfV := (lookup_dropN_ne (by kernel_rfl)).trans (by kernel_rfl)
    have k3 : List.lookup ("hues" : Str) (dropN "hues" (freeze (ρ2, some ("half", true, hp.map fun x => cD x.1)))) = none := dropN_none _ _
    refine via2 (ex_for (itd := halfV) (ds := hp.map fun x => cD x.1) (by kernel_rfl) (ev_name k2) (by kernel_rfl) (by simp; omega)) ?_
    have hout : (hp.map fun x => D.flt (hueS P (j + 1) cr x)) = [] ++ hp.map fun x => .flt (hueS P (j + 1) cr x) := by simp
    rw [hout]
    refine forL_acc (I := fun ρ => ρ.lookup ("corner" : Str) = some (.int cr) ∧ ρ.lookup ("half" : Str) = some halfV ∧ ρ.lookup ("hues" : Str) = none) (g := fun x => cD x.1) (out := fun x => .flt (hueS P (j + 1) cr x)) hp _ [] ⟨k1, k2, k3⟩ (by simp; omega) ?_
    rintro ⟨c, p⟩ hx ρ acc ⟨i1, i2, i3⟩ hacc
    have hg := hgood _ hx
    obtain ⟨eh, hh⟩ := hueOf_ok P (j + 1) hg
    refine ⟨("hue", .flt (hueOf P (j + 1) c)) :: ("colour", cD c) :: ρ, ?_, (by kernel_rfl : _ = List.lookup ("corner" : Str) ρ).trans i1, (by kernel_rfl : _ = List.lookup ("half" : Str) ρ).trans i2, (by kernel_rfl : _ = List.lookup ("hues" : Str) ρ).trans i3⟩
    refine (bind_to (α := Sx) (("colour", cD c) :: ρ, some ("hues", true, acc)) (bindS_own (by kernel_rfl) ((by kernel_rfl : _ = List.lookup ("hues" : Str) ρ).trans i3))).trans ?_
    rw [exL_next (("hue", .flt (hueOf P (j + 1) c)) :: ("colour", cD c) :: ρ, some ("hues", true, acc))]
    · refine exL_one (ex_append (by kernel_rfl) hacc ?_)
      refine ev_ifx (decide (cr ≤ p)) (ev_cmp (by kernel_rfl) (ev_bin (a := .flt (hueOf P (j + 1) c)) (b := .int 6) (by kernel_rfl) (by kernel_rfl) (by kernel_rfl)) (ev_name ((by kernel_rfl : _ = List.lookup ("corner" : Str) ρ).trans i1)) (hue_gt hh hg.1 cr)) (fun h => ?_) fun h => ?_
      · have h := of_decide_eq_true h
        have : hueS P (j + 1) cr (c, p) = hueOf P (j + 1) c := by unfold hueS; rw [if_pos h]
        rw [this]; kernel_rfl
      · have h := of_decide_eq_false h
        have : hueS P (j + 1) cr (c, p) = Float64.add (hueOf P (j + 1) c) c1 := by unfold hueS; rw [if_neg h]
        rw [this]; kernel_rfl
    · exact ex_asg (d := .flt (hueOf P (j + 1) c)) (by kernel_rfl) (ev_call1 (by kernel_rfl) (x := cD c) (by kernel_rfl) eh) (by kernel_rfl)
  obtain ⟨ρ4, el2, m1, m2, m3⟩ := loop2
  have hxs : (hp.map fun x => D.flt (hueS P (j + 1) cr x)) = (hp.map (hueS P (j + 1) cr)).map .flt := by simp
  have hgp : ∀ a b, (hp.map fun x => D.flt (gapX a b x)) = (gaps hp a b).map .flt := fun a b => by simp [gaps]
  rw [hxs] at el2
  generalize hxx : hp.map (hueS P (j + 1) cr) = xs at *
  have xl : xs.length = cs.length := by rw [← hxx]; simp [hpl]
  have gl : ∀ a b, (gaps hp a b).length = cs.length := fun a b => by simp [gaps, hpl]
  let R5 : Rho := ("last", .int last) :: ("first", .int first) :: ("hues", .list (xs.map .flt)) :: ρ4
  let R6 : Rho := ("orders", .tup [orderD fo, orderD lao]) :: R5
  have hfew : phi P (j + 3) "_law_fewest" [halfV] = some (.tup [.int (minF (hp.map (·.2))), .list (kInts fun k => F (hp.map (·.2)) k == minF (hp.map (·.2)))]) := by
    have := (told_fewest P j (goods_of hgood) (by simp; omega) (by simp; omega)).1
    rw [List.map_map] at this
    exact this
  conv in bodyOf _ => whnf
  rw [exL_next (R0, some ("half", true, []))]
  rw [exL_next (ρ2, some ("half", true, hp.map fun x => cD x.1))]
  rw [exL_next (dropN "hues" (freeze (ρ2, some ("half", true, hp.map fun x => cD x.1))), some ("hues", true, []))]
  rw [exL_next (ρ4, some ("hues", true, xs.map .flt))]
  rw [exL_next (R5, none)]
  rw [exL_next (R5, none)]
  rw [exL_next (R6, none)]
  rw [exL_next (("ahead", .list ((sortB [posP fo 2 0, posP lao 2 0]).map .bool)) :: ("gaps", .list (hp.map fun x => .flt (gapX 2 0 x))) :: ("other", .int 0) :: ("one", .int 2) :: ("ahead", .list ((sortB [posP fo 1 2, posP lao 1 2]).map .bool)) :: ("gaps", .list (hp.map fun x => .flt (gapX 1 2 x))) :: ("other", .int 2) :: ("one", .int 1) :: ("ahead", .list ((sortB [posP fo 0 1, posP lao 0 1]).map .bool)) :: ("gaps", .list (hp.map fun x => .flt (gapX 0 1 x))) :: ("other", .int 1) :: ("one", .int 0) :: R6, none)]
  rw [exL_ret (.bool true) (("ahead", .list ((sortB [posP fo 2 0, posP lao 2 0]).map .bool)) :: ("gaps", .list (hp.map fun x => .flt (gapX 2 0 x))) :: ("other", .int 0) :: ("one", .int 2) :: ("ahead", .list ((sortB [posP fo 1 2, posP lao 1 2]).map .bool)) :: ("gaps", .list (hp.map fun x => .flt (gapX 1 2 x))) :: ("other", .int 2) :: ("one", .int 1) :: ("ahead", .list ((sortB [posP fo 0 1, posP lao 0 1]).map .bool)) :: ("gaps", .list (hp.map fun x => .flt (gapX 0 1 x))) :: ("other", .int 1) :: ("one", .int 0) :: R6, none)]
  · kernel_rfl
  · refine (ex_for (itd := .tup [.tup [.int 0, .int 1], .tup [.int 1, .int 2], .tup [.int 2, .int 0]]) (ds := [.tup [.int 0, .int 1], .tup [.int 1, .int 2], .tup [.int 2, .int 0]]) (by kernel_rfl) (by kernel_rfl) (by kernel_rfl) (by decide)).trans ?_
    rw [forL_next (("ahead", .list ((sortB [posP fo 0 1, posP lao 0 1]).map .bool)) :: ("gaps", .list (hp.map fun x => .flt (gapX 0 1 x))) :: ("other", .int 1) :: ("one", .int 0) :: R6, none)]
    rw [forL_next (("ahead", .list ((sortB [posP fo 1 2, posP lao 1 2]).map .bool)) :: ("gaps", .list (hp.map fun x => .flt (gapX 1 2 x))) :: ("other", .int 2) :: ("one", .int 1) :: ("ahead", .list ((sortB [posP fo 0 1, posP lao 0 1]).map .bool)) :: ("gaps", .list (hp.map fun x => .flt (gapX 0 1 x))) :: ("other", .int 1) :: ("one", .int 0) :: R6, none)]
    rw [forL_next (("ahead", .list ((sortB [posP fo 2 0, posP lao 2 0]).map .bool)) :: ("gaps", .list (hp.map fun x => .flt (gapX 2 0 x))) :: ("other", .int 0) :: ("one", .int 2) :: ("ahead", .list ((sortB [posP fo 1 2, posP lao 1 2]).map .bool)) :: ("gaps", .list (hp.map fun x => .flt (gapX 1 2 x))) :: ("other", .int 2) :: ("one", .int 1) :: ("ahead", .list ((sortB [posP fo 0 1, posP lao 0 1]).map .bool)) :: ("gaps", .list (hp.map fun x => .flt (gapX 0 1 x))) :: ("other", .int 1) :: ("one", .int 0) :: R6, none)]
    · kernel_rfl
    · refine (bind_to (α := Sx) (("other", .int 0) :: ("one", .int 2) :: ("ahead", .list ((sortB [posP fo 1 2, posP lao 1 2]).map .bool)) :: ("gaps", .list (hp.map fun x => .flt (gapX 1 2 x))) :: ("other", .int 2) :: ("one", .int 1) :: ("ahead", .list ((sortB [posP fo 0 1, posP lao 0 1]).map .bool)) :: ("gaps", .list (hp.map fun x => .flt (gapX 0 1 x))) :: ("other", .int 1) :: ("one", .int 0) :: R6, none) (by kernel_rfl)).trans ?_
      rw [exL_next (("gaps", .list (hp.map fun x => .flt (gapX 2 0 x))) :: ("other", .int 0) :: ("one", .int 2) :: ("ahead", .list ((sortB [posP fo 1 2, posP lao 1 2]).map .bool)) :: ("gaps", .list (hp.map fun x => .flt (gapX 1 2 x))) :: ("other", .int 2) :: ("one", .int 1) :: ("ahead", .list ((sortB [posP fo 0 1, posP lao 0 1]).map .bool)) :: ("gaps", .list (hp.map fun x => .flt (gapX 0 1 x))) :: ("other", .int 1) :: ("one", .int 0) :: R6, none)]
      rw [exL_next (("ahead", .list ((sortB [posP fo 2 0, posP lao 2 0]).map .bool)) :: ("gaps", .list (hp.map fun x => .flt (gapX 2 0 x))) :: ("other", .int 0) :: ("one", .int 2) :: ("ahead", .list ((sortB [posP fo 1 2, posP lao 1 2]).map .bool)) :: ("gaps", .list (hp.map fun x => .flt (gapX 1 2 x))) :: ("other", .int 2) :: ("one", .int 1) :: ("ahead", .list ((sortB [posP fo 0 1, posP lao 0 1]).map .bool)) :: ("gaps", .list (hp.map fun x => .flt (gapX 0 1 x))) :: ("other", .int 1) :: ("one", .int 0) :: R6, none)]
      · refine exL_one ((ex_if false ?_).trans (by kernel_rfl))
        refine ev_ne (by kernel_rfl) (a := .list [.bool (gt0 (medLF (gaps hp 2 0))), .bool (gt0 (medHF (gaps hp 2 0)))]) (b := .list ((sortB [posP fo 2 0, posP lao 2 0]).map .bool)) (ev_list2 (by kernel_rfl) (ev_cmp (by kernel_rfl) (b := .int 0) (ev_call1 (by kernel_rfl) (x := .list ((gaps hp 2 0).map .flt)) (by rw [← hgp 2 0]; kernel_rfl) (run_lowF P (j + 2) (by rw [gl]; omega) (by rw [gl]; omega) (gok 2 0 (.inr (.inr rfl))))) (by kernel_rfl) (by kernel_rfl)) (ev_cmp (by kernel_rfl) (b := .int 0) (ev_call1 (by kernel_rfl) (x := .list ((gaps hp 2 0).map .flt)) (by rw [← hgp 2 0]; kernel_rfl) (run_highF P (j + 2) (by rw [gl]; omega) (by rw [gl]; omega) (gok 2 0 (.inr (.inr rfl))))) (by kernel_rfl) (by kernel_rfl))) (by kernel_rfl) ?_
        rw [← hB 2 0 (.inr (.inr rfl))]
        exact ne_self (by kernel_rfl)
      · refine ex_asg (d := .list ((sortB [posP fo 2 0, posP lao 2 0]).map .bool)) (by kernel_rfl) (ev_bi1 (b := .sorted) (x := .list [.bool (posP fo 2 0), .bool (posP lao 2 0)]) (by kernel_rfl) (by kernel_rfl) ?_ (by kernel_rfl)) (by kernel_rfl)
        refine comp_allN (l := [fo, lao]) (g := orderD) (h := fun p => .bool (posP p 2 0)) (itd := .tup [orderD fo, orderD lao]) (by kernel_rfl) (by kernel_rfl) (by kernel_rfl) (by simp) ?_
        intro p hp'
        have hp6 : p < 6 := by
          simp only [List.mem_cons, List.not_mem_nil, or_false] at hp'
          rcases hp' with rfl | rfl <;> assumption
        rcases six hp6 with rfl | rfl | rfl | rfl | rfl | rfl
        · kernel_rfl
        · kernel_rfl
        · kernel_rfl
        · kernel_rfl
        · kernel_rfl
        · kernel_rfl
      · exact ex_asg (d := .list (hp.map fun x => .flt (gapX 2 0 x))) (by kernel_rfl) (comp_allN (l := hp) (g := fun x => cD x.1) (itd := halfV) (by kernel_rfl) (ev_name ((by kernel_rfl : _ = List.lookup ("half" : Str) ρ4).trans m2)) (by kernel_rfl) (by omega) (fun x _ => by kernel_rfl)) (by kernel_rfl)
    · refine (bind_to (α := Sx) (("other", .int 2) :: ("one", .int 1) :: ("ahead", .list ((sortB [posP fo 0 1, posP lao 0 1]).map .bool)) :: ("gaps", .list (hp.map fun x => .flt (gapX 0 1 x))) :: ("other", .int 1) :: ("one", .int 0) :: R6, none) (by kernel_rfl)).trans ?_
      rw [exL_next (("gaps", .list (hp.map fun x => .flt (gapX 1 2 x))) :: ("other", .int 2) :: ("one", .int 1) :: ("ahead", .list ((sortB [posP fo 0 1, posP lao 0 1]).map .bool)) :: ("gaps", .list (hp.map fun x => .flt (gapX 0 1 x))) :: ("other", .int 1) :: ("one", .int 0) :: R6, none)]
      rw [exL_next (("ahead", .list ((sortB [posP fo 1 2, posP lao 1 2]).map .bool)) :: ("gaps", .list (hp.map fun x => .flt (gapX 1 2 x))) :: ("other", .int 2) :: ("one", .int 1) :: ("ahead", .list ((sortB [posP fo 0 1, posP lao 0 1]).map .bool)) :: ("gaps", .list (hp.map fun x => .flt (gapX 0 1 x))) :: ("other", .int 1) :: ("one", .int 0) :: R6, none)]
      · refine exL_one ((ex_if false ?_).trans (by kernel_rfl))
        refine ev_ne (by kernel_rfl) (a := .list [.bool (gt0 (medLF (gaps hp 1 2))), .bool (gt0 (medHF (gaps hp 1 2)))]) (b := .list ((sortB [posP fo 1 2, posP lao 1 2]).map .bool)) (ev_list2 (by kernel_rfl) (ev_cmp (by kernel_rfl) (b := .int 0) (ev_call1 (by kernel_rfl) (x := .list ((gaps hp 1 2).map .flt)) (by rw [← hgp 1 2]; kernel_rfl) (run_lowF P (j + 2) (by rw [gl]; omega) (by rw [gl]; omega) (gok 1 2 (.inr (.inl rfl))))) (by kernel_rfl) (by kernel_rfl)) (ev_cmp (by kernel_rfl) (b := .int 0) (ev_call1 (by kernel_rfl) (x := .list ((gaps hp 1 2).map .flt)) (by rw [← hgp 1 2]; kernel_rfl) (run_highF P (j + 2) (by rw [gl]; omega) (by rw [gl]; omega) (gok 1 2 (.inr (.inl rfl))))) (by kernel_rfl) (by kernel_rfl))) (by kernel_rfl) ?_
        rw [← hB 1 2 (.inr (.inl rfl))]
        exact ne_self (by kernel_rfl)
      · refine ex_asg (d := .list ((sortB [posP fo 1 2, posP lao 1 2]).map .bool)) (by kernel_rfl) (ev_bi1 (b := .sorted) (x := .list [.bool (posP fo 1 2), .bool (posP lao 1 2)]) (by kernel_rfl) (by kernel_rfl) ?_ (by kernel_rfl)) (by kernel_rfl)
        refine comp_allN (l := [fo, lao]) (g := orderD) (h := fun p => .bool (posP p 1 2)) (itd := .tup [orderD fo, orderD lao]) (by kernel_rfl) (by kernel_rfl) (by kernel_rfl) (by simp) ?_
        intro p hp'
        have hp6 : p < 6 := by
          simp only [List.mem_cons, List.not_mem_nil, or_false] at hp'
          rcases hp' with rfl | rfl <;> assumption
        rcases six hp6 with rfl | rfl | rfl | rfl | rfl | rfl
        · kernel_rfl
        · kernel_rfl
        · kernel_rfl
        · kernel_rfl
        · kernel_rfl
        · kernel_rfl
      · exact ex_asg (d := .list (hp.map fun x => .flt (gapX 1 2 x))) (by kernel_rfl) (comp_allN (l := hp) (g := fun x => cD x.1) (itd := halfV) (by kernel_rfl) (ev_name ((by kernel_rfl : _ = List.lookup ("half" : Str) ρ4).trans m2)) (by kernel_rfl) (by omega) (fun x _ => by kernel_rfl)) (by kernel_rfl)
    · refine (bind_to (α := Sx) (("other", .int 1) :: ("one", .int 0) :: R6, none) (by kernel_rfl)).trans ?_
      rw [exL_next (("gaps", .list (hp.map fun x => .flt (gapX 0 1 x))) :: ("other", .int 1) :: ("one", .int 0) :: R6, none)]
      rw [exL_next (("ahead", .list ((sortB [posP fo 0 1, posP lao 0 1]).map .bool)) :: ("gaps", .list (hp.map fun x => .flt (gapX 0 1 x))) :: ("other", .int 1) :: ("one", .int 0) :: R6, none)]
      · refine exL_one ((ex_if false ?_).trans (by kernel_rfl))
        refine ev_ne (by kernel_rfl) (a := .list [.bool (gt0 (medLF (gaps hp 0 1))), .bool (gt0 (medHF (gaps hp 0 1)))]) (b := .list ((sortB [posP fo 0 1, posP lao 0 1]).map .bool)) (ev_list2 (by kernel_rfl) (ev_cmp (by kernel_rfl) (b := .int 0) (ev_call1 (by kernel_rfl) (x := .list ((gaps hp 0 1).map .flt)) (by rw [← hgp 0 1]; kernel_rfl) (run_lowF P (j + 2) (by rw [gl]; omega) (by rw [gl]; omega) (gok 0 1 (.inl rfl)))) (by kernel_rfl) (by kernel_rfl)) (ev_cmp (by kernel_rfl) (b := .int 0) (ev_call1 (by kernel_rfl) (x := .list ((gaps hp 0 1).map .flt)) (by rw [← hgp 0 1]; kernel_rfl) (run_highF P (j + 2) (by rw [gl]; omega) (by rw [gl]; omega) (gok 0 1 (.inl rfl)))) (by kernel_rfl) (by kernel_rfl))) (by kernel_rfl) ?_
        rw [← hB 0 1 (.inl rfl)]
        exact ne_self (by kernel_rfl)
      · refine ex_asg (d := .list ((sortB [posP fo 0 1, posP lao 0 1]).map .bool)) (by kernel_rfl) (ev_bi1 (b := .sorted) (x := .list [.bool (posP fo 0 1), .bool (posP lao 0 1)]) (by kernel_rfl) (by kernel_rfl) ?_ (by kernel_rfl)) (by kernel_rfl)
        refine comp_allN (l := [fo, lao]) (g := orderD) (h := fun p => .bool (posP p 0 1)) (itd := .tup [orderD fo, orderD lao]) (by kernel_rfl) (by kernel_rfl) (by kernel_rfl) (by simp) ?_
        intro p hp'
        have hp6 : p < 6 := by
          simp only [List.mem_cons, List.not_mem_nil, or_false] at hp'
          rcases hp' with rfl | rfl <;> assumption
        rcases six hp6 with rfl | rfl | rfl | rfl | rfl | rfl
        · kernel_rfl
        · kernel_rfl
        · kernel_rfl
        · kernel_rfl
        · kernel_rfl
        · kernel_rfl
      · exact ex_asg (d := .list (hp.map fun x => .flt (gapX 0 1 x))) (by kernel_rfl) (comp_allN (l := hp) (g := fun x => cD x.1) (itd := halfV) (by kernel_rfl) (ev_name ((by kernel_rfl : _ = List.lookup ("half" : Str) ρ4).trans m2)) (by kernel_rfl) (by omega) (fun x _ => by kernel_rfl)) (by kernel_rfl)
  · refine ex_asg (d := .tup [orderD fo, orderD lao]) (by kernel_rfl) (ev_tup2 (by kernel_rfl) ?_ ?_) (by kernel_rfl)
    · exact ev_item (d := ordersD) (k := (fo : Int)) (by kernel_rfl) ((show _ = phi P (j + 3) "_law_orders" [] from by kernel_rfl).trans (run_orders P (j + 2))) ((show _ = some (.int (first.fmod 6)) from by kernel_rfl).trans (by rw [hfo])) (getD_orders hf6)
    · exact ev_item (d := ordersD) (k := (lao : Int)) (by kernel_rfl) ((show _ = phi P (j + 3) "_law_orders" [] from by kernel_rfl).trans (run_orders P (j + 2))) ((show _ = some (.int (last.fmod 6)) from by kernel_rfl).trans (by rw [hlo])) (getD_orders hl6)
  · refine (ex_if false ?_).trans (by kernel_rfl)
    refine ev_ne (by kernel_rfl) (a := .list (kInts fun k => F (hp.map (·.2)) k == minF (hp.map (·.2)))) (b := .list (kInts fun k => decide (((k : Int) - first).fmod 6 ≤ last - first))) ?_ ?_ ?_
    · exact ev_item (k := 1) (by kernel_rfl) (ev_call1 (by kernel_rfl) (x := halfV) (ev_name ((by kernel_rfl : _ = List.lookup ("half" : Str) ρ4).trans m2)) hfew) (by kernel_rfl) (by kernel_rfl)
    · exact comp_ifN (l := [0, 1, 2, 3, 4, 5]) (g := fun k : Nat => .int k) (h := fun k : Nat => .int k) (p := fun k => decide (((k : Int) - first).fmod 6 ≤ last - first)) (itd := .rng 6) (by kernel_rfl) (by kernel_rfl) (by kernel_rfl) (by decide) (fun x _ => by kernel_rfl) (fun x _ _ => by kernel_rfl)
    · rw [kInts_eq hA]
      exact ne_self (by
        have : ∀ l : List Nat, pysOk 7 (l.map fun k : Nat => D.int (k : Int)) = true := fun l => by
          have := ok_ints 7 (l.map fun k : Nat => (k : Int))
          rw [List.map_map] at this
          exact this
        exact this _)
  · refine ex_tup2F (x := .int first) (y := .int last) (by kernel_rfl) (by kernel_rfl) (ev_bi1_none (ev_bin_none (ev_bi1_none (ev_name_none m3)))) ?_ ?_ (by kernel_rfl)
    · refine ev_bi1 (x := .flt (Float64.mul (medLF xs) (Float64.ofInt 6))) (b := .int) (by kernel_rfl) (by kernel_rfl) (ev_bin (a := .flt (medLF xs)) (b := .int 6) (ev_call1 (by kernel_rfl) (x := .list (xs.map .flt)) (by kernel_rfl) (run_lowF P (j + 2) (by omega) (by omega) xok)) (by kernel_rfl) (by kernel_rfl)) ?_
      show (if Float64.isFinite (Float64.mul (medLF xs) (Float64.ofInt 6)) = true then some (D.int (plF (medLF xs))) else none) = _
      rw [if_pos n1, f1]
    · refine ev_bi1 (x := .flt (Float64.mul (medHF xs) (Float64.ofInt 6))) (b := .int) (by kernel_rfl) (by kernel_rfl) (ev_bin (a := .flt (medHF xs)) (b := .int 6) (ev_call1 (by kernel_rfl) (x := .list (xs.map .flt)) (by kernel_rfl) (run_highF P (j + 2) (by omega) (by omega) xok)) (by kernel_rfl) (by kernel_rfl)) ?_
      show (if Float64.isFinite (Float64.mul (medHF xs) (Float64.ofInt 6)) = true then some (D.int (plF (medHF xs))) else none) = _
      rw [if_pos n2, f2]
  · exact el2
  · kernel_rfl
  · exact el1
  · kernel_rfl
end Mine

/-! PL3 -/

namespace Mine
/-! medians of floats, by counts -/
section
variable {α : Type}
theorem sortF_q {hp : List α} {f : α → UInt64} {q : UInt64 → Bool} (hm : ∀ a ∈ hp, ∀ b ∈ hp, Float64.val (f a) ≤ Float64.val (f b) → q (f b) = true → q (f a) = true) :
    (sortF (hp.map f)).Pairwise (fun a b => q b = true → q a = true) ∧ ((sortF (hp.map f)).filter q).length = (hp.filter fun x => q (f x)).length := by
  constructor
  · refine (isort_sorted Float64.val (hp.map f)).imp_of_mem fun {a b} ha hb h => ?_
    obtain ⟨x, hx, rfl⟩ := List.mem_map.mp ((isort_perm _ _).mem_iff.mp ha)
    obtain ⟨y, hy, rfl⟩ := List.mem_map.mp ((isort_perm _ _).mem_iff.mp hb)
    exact hm x hx y hy h
  · have := ((isort_perm (fun x y => decide (Float64.val x ≤ Float64.val y)) (hp.map f)).filter q).length_eq
    unfold sortF
    rw [this, List.filter_map, List.length_map]; rfl
theorem medLF_q {hp : List α} {f : α → UInt64} {q : UInt64 → Bool} (h0 : 0 < hp.length) (hm : ∀ a ∈ hp, ∀ b ∈ hp, Float64.val (f a) ≤ Float64.val (f b) → q (f b) = true → q (f a) = true) :
    q (medLF (hp.map f)) = true ↔ hp.length ≤ 2 * (hp.filter fun x => q (f x)).length := by
  obtain ⟨h1, h2⟩ := sortF_q hm
  have hl : (sortF (hp.map f)).length = hp.length := by rw [sortF_len, List.length_map]
  have hi : (hp.length - 1) / 2 < (sortF (hp.map f)).length := by omega
  have := idx_iff q _ h1 ((hp.length - 1) / 2) hi
  unfold medLF
  rw [List.length_map, List.getElem?_eq_getElem hi, Option.getD_some, this, h2]
  have : (hp.filter fun x => q (f x)).length ≤ hp.length := filter_len _ _
  omega
theorem medHF_q {hp : List α} {f : α → UInt64} {q : UInt64 → Bool} (h0 : 0 < hp.length) (hm : ∀ a ∈ hp, ∀ b ∈ hp, Float64.val (f a) ≤ Float64.val (f b) → q (f b) = true → q (f a) = true) :
    q (medHF (hp.map f)) = true ↔ hp.length < 2 * (hp.filter fun x => q (f x)).length := by
  obtain ⟨h1, h2⟩ := sortF_q hm
  have hl : (sortF (hp.map f)).length = hp.length := by rw [sortF_len, List.length_map]
  have hi : hp.length / 2 < (sortF (hp.map f)).length := by omega
  have := idx_iff q _ h1 (hp.length / 2) hi
  unfold medHF
  rw [List.length_map, List.getElem?_eq_getElem hi, Option.getD_some, this, h2]
  have : (hp.filter fun x => q (f x)).length ≤ hp.length := filter_len _ _
  omega
theorem medLF_mem {hp : List α} {f : α → UInt64} (h0 : 0 < hp.length) : ∃ x ∈ hp, medLF (hp.map f) = f x := by
  have hl : (sortF (hp.map f)).length = hp.length := by rw [sortF_len, List.length_map]
  have hi : (hp.length - 1) / 2 < (sortF (hp.map f)).length := by omega
  unfold medLF
  rw [List.length_map, List.getElem?_eq_getElem hi, Option.getD_some]
  obtain ⟨x, hx, e⟩ := List.mem_map.mp ((isort_perm _ _).mem_iff.mp (List.getElem_mem hi))
  exact ⟨x, hx, e.symm⟩
theorem medHF_mem {hp : List α} {f : α → UInt64} (h0 : 0 < hp.length) : ∃ x ∈ hp, medHF (hp.map f) = f x := by
  have hl : (sortF (hp.map f)).length = hp.length := by rw [sortF_len, List.length_map]
  have hi : hp.length / 2 < (sortF (hp.map f)).length := by omega
  unfold medHF
  rw [List.length_map, List.getElem?_eq_getElem hi, Option.getD_some]
  obtain ⟨x, hx, e⟩ := List.mem_map.mp ((isort_perm _ _).mem_iff.mp (List.getElem_mem hi))
  exact ⟨x, hx, e.symm⟩
end

theorem plF_at {v : UInt64} {p : Int} (h : HueAt v p) : plF v = p ∧ Float64.isFinite (Float64.mul v (Float64.ofInt 6)) = true ∧ fltOk v = true := by
  obtain ⟨lo, hi, hx, h0, hb, h1, h2⟩ := h
  have hm := mul6_in hx h0 (by omega)
  exact ⟨int_in hm (by omega) (by omega) (by omega), hm.fin, hx.ok h0⟩
theorem hue_order {a b : UInt64} {p q : Int} (ha : HueAt a p) (hb : HueAt b q) (h : Float64.val a ≤ Float64.val b) : p ≤ q := by
  obtain ⟨lo, hi, hx, h0, _, h1, h2⟩ := ha
  obtain ⟨lo', hi', hx', h0', _, h1', h2'⟩ := hb
  refine Int.not_lt.mp fun hq => ?_
  have : hi' < lo := by omega
  have := mulu_lt.mpr this
  have := hx.lo; have := hx'.hi; omega

/-! counts in the window -/
theorem half_win : ∀ cr, cr < 6 → ∀ p, p < 6 → cr ≤ ext cr (if isHere cr p then p else (p + 3) % 6) ∧ ext cr (if isHere cr p then p else (p + 3) % 6) ≤ cr + 2 := by decide +kernel
theorem win {cr : Nat} (hc : cr < 6) {cs : List Col} {ps : List Nat} (hG : Goods cs ps) : ∀ x ∈ hps cr cs ps, Good x.1 x.2 ∧ cr ≤ ext cr x.2 ∧ ext cr x.2 ≤ cr + 2 := by
  intro x hx
  obtain ⟨y, hy, rfl⟩ := List.mem_map.mp hx
  have hg := goods_zip hG y hy
  refine ⟨good_half hg, ?_⟩
  have := half_win cr hc y.2 hg.1
  have e : (halfX cr y).2 = if isHere cr y.2 then y.2 else (y.2 + 3) % 6 := by unfold halfX; split <;> rfl
  rw [e]; exact this
noncomputable def nLe (cr : Nat) (hp : List (Col × Nat)) (y : Nat) : Nat := (hp.filter fun x => decide (ext cr x.2 ≤ y)).length
theorem nLe_cons (cr : Nat) (x : Col × Nat) (hp : List (Col × Nat)) (y : Nat) : nLe cr (x :: hp) y = (if ext cr x.2 ≤ y then 1 else 0) + nLe cr hp y := by
  unfold nLe
  by_cases h : ext cr x.2 ≤ y <;> simp [h] <;> omega
theorem nLe_mono (cr : Nat) {hp : List (Col × Nat)} : nLe cr hp cr ≤ nLe cr hp (cr + 1) ∧ nLe cr hp (cr + 1) ≤ hp.length := by
  induction hp with
  | nil => simp [nLe]
  | cons x r ih =>
    rw [nLe_cons, nLe_cons, List.length_cons]
    split <;> split <;> omega
theorem cnt_win {cr : Nat} {hp : List (Col × Nat)} (h : ∀ x ∈ hp, cr ≤ ext cr x.2 ∧ ext cr x.2 ≤ cr + 2) (r : Nat → Bool) :
    (hp.filter fun x => r (ext cr x.2)).length = (if r cr then nLe cr hp cr else 0) + (if r (cr + 1) then nLe cr hp (cr + 1) - nLe cr hp cr else 0) + (if r (cr + 2) then hp.length - nLe cr hp (cr + 1) else 0) := by
  induction hp with
  | nil => simp [nLe]
  | cons x l ih =>
    have ih := ih fun y hy => h y (.tail _ hy)
    have hx := h x (.head _)
    have hm := nLe_mono cr (hp := l)
    rw [nLe_cons, nLe_cons, List.length_cons]
    have hw : ext cr x.2 = cr ∨ ext cr x.2 = cr + 1 ∨ ext cr x.2 = cr + 2 := by omega
    have e : ((x :: l).filter fun x => r (ext cr x.2)).length = (if r (ext cr x.2) then 1 else 0) + (l.filter fun x => r (ext cr x.2)).length := by
      cases hr : r (ext cr x.2) <;> simp [hr] <;> omega
    rw [e, ih]
    rcases hw with q | q | q <;> rw [q]
    · rw [if_pos (show cr ≤ cr by omega), if_pos (show cr ≤ cr + 1 by omega)]
      cases r cr <;> cases r (cr + 1) <;> cases r (cr + 2) <;> simp <;> omega
    · rw [if_neg (show ¬ cr + 1 ≤ cr by omega), if_pos (show cr + 1 ≤ cr + 1 by omega)]
      cases r cr <;> cases r (cr + 1) <;> cases r (cr + 2) <;> simp <;> omega
    · rw [if_neg (show ¬ cr + 2 ≤ cr by omega), if_neg (show ¬ cr + 2 ≤ cr + 1 by omega)]
      cases r cr <;> cases r (cr + 1) <;> cases r (cr + 2) <;> simp <;> omega
theorem F_win {cr : Nat} {hp : List (Col × Nat)} (h : ∀ x ∈ hp, x.2 < 6 ∧ cr ≤ ext cr x.2 ∧ ext cr x.2 ≤ cr + 2) (k : Nat) :
    F (hp.map (·.2)) k = (nLe cr hp cr : Int) * d6 (cr % 6) k + ((nLe cr hp (cr + 1) : Int) - nLe cr hp cr) * d6 ((cr + 1) % 6) k + ((hp.length : Int) - nLe cr hp (cr + 1)) * d6 ((cr + 2) % 6) k := by
  induction hp with
  | nil => simp [F, nLe]
  | cons x l ih =>
    have ih := ih fun y hy => h y (.tail _ hy)
    have hx := h x (.head _)
    have e : F ((x :: l).map (·.2)) k = d6 x.2 k + F (l.map (·.2)) k := by simp [F]
    have hw : ext cr x.2 = cr ∨ ext cr x.2 = cr + 1 ∨ ext cr x.2 = cr + 2 := by omega
    have hp : x.2 = ext cr x.2 % 6 := by unfold ext; split <;> omega
    have hd : d6 x.2 k = d6 (ext cr x.2 % 6) k := congrArg (fun p => d6 p k) hp
    rw [e, ih, nLe_cons, nLe_cons, List.length_cons, hd]
    rcases hw with q | q | q <;> rw [q]
    · rw [if_pos (by omega), if_pos (by omega)]
      generalize d6 (cr % 6) k = D0
      generalize d6 ((cr + 1) % 6) k = D1
      generalize d6 ((cr + 2) % 6) k = D2
      simp only [Int.natCast_add, Int.add_mul, Int.sub_mul, Int.natCast_one, Int.one_mul]
      omega
    · rw [if_neg (by omega), if_pos (by omega)]
      generalize d6 (cr % 6) k = D0
      generalize d6 ((cr + 1) % 6) k = D1
      generalize d6 ((cr + 2) % 6) k = D2
      simp only [Int.natCast_add, Int.add_mul, Int.sub_mul, Int.natCast_one, Int.one_mul, Nat.zero_add]
      omega
    · rw [if_neg (by omega), if_neg (by omega)]
      generalize d6 (cr % 6) k = D0
      generalize d6 ((cr + 1) % 6) k = D1
      generalize d6 ((cr + 2) % 6) k = D2
      simp only [Int.natCast_add, Int.add_mul, Int.sub_mul, Int.natCast_one, Int.one_mul, Nat.zero_add]
      omega
theorem minF_iff (ps : List Nat) {k : Nat} (hk : k < 6) : (F ps k == minF ps) = true ↔ (F ps k ≤ F ps 0 ∧ F ps k ≤ F ps 1 ∧ F ps k ≤ F ps 2 ∧ F ps k ≤ F ps 3 ∧ F ps k ≤ F ps 4 ∧ F ps k ≤ F ps 5) := by
  rw [beq_iff_eq]
  constructor
  · intro e
    rw [e]
    exact ⟨minF_le ps (by decide), minF_le ps (by decide), minF_le ps (by decide), minF_le ps (by decide), minF_le ps (by decide), minF_le ps (by decide)⟩
  · rintro ⟨h0, h1, h2, h3, h4, h5⟩
    obtain ⟨j, hj, e⟩ := minF_at ps
    have := minF_le ps hk
    rcases six hj with rfl | rfl | rfl | rfl | rfl | rfl <;> omega

noncomputable def T (i r : Nat) : Int := match i, r with
  | 0, 0 => 0 | 0, 1 => 1 | 0, 2 => 2 | 0, 3 => 3 | 0, 4 => 2 | 0, _ => 1
  | 1, 0 => 1 | 1, 1 => 0 | 1, 2 => 1 | 1, 3 => 2 | 1, 4 => 3 | 1, _ => 2
  | _, 0 => 2 | _, 1 => 1 | _, 2 => 0 | _, 3 => 1 | _, 4 => 2 | _, _ => 3
theorem d6_T : ∀ cr, cr < 6 → ∀ r, r < 6 → d6 (cr % 6) ((cr + r) % 6) = T 0 r ∧ d6 ((cr + 1) % 6) ((cr + r) % 6) = T 1 r ∧ d6 ((cr + 2) % 6) ((cr + r) % 6) = T 2 r := by decide +kernel
noncomputable def fw (a ab n : Nat) (r : Nat) : Int := (a : Int) * T 0 r + ((ab : Int) - a) * T 1 r + ((n : Int) - ab) * T 2 r
theorem y0 {p q n : Int} (hn : 0 < n) (hpq : p ≤ q) (h1 : -n ≤ p) (h : 0 ≤ p) : 0 ≤ p + q ∧ 0 ≤ p + q + n ∧ 0 ≤ q + n := ⟨by omega, by omega, by omega⟩
theorem y1 {p q n : Int} (hn : 0 < n) (h1 : p ≤ 0) (h2 : 0 ≤ q) : p ≤ p + q ∧ p ≤ p + q + n ∧ p ≤ q + n ∧ p ≤ n := ⟨by omega, by omega, by omega, by omega⟩
theorem y2 {p q n : Int} (hn : 0 < n) (hpq : p ≤ q) (h1 : -n ≤ p) (h : q ≤ 0) : p + q ≤ 0 ∧ p + q ≤ p ∧ p + q ≤ p + q + n ∧ p + q ≤ q + n ∧ p + q ≤ n := ⟨by omega, by omega, by omega, by omega, by omega⟩
/-- the six ways, from the first on -/
noncomputable def yy (p q n : Int) : Nat → Int
  | 0 => 0 | 1 => p | 2 => p + q | 3 => p + q + n | 4 => q + n | _ => n
theorem core_Y {p q n : Int} {r : Nat} (hr : r < 6) (hn : 0 < n) (hpq : p ≤ q) (h1 : -n ≤ p) :
    (yy p q n r ≤ yy p q n 0 ∧ yy p q n r ≤ yy p q n 1 ∧ yy p q n r ≤ yy p q n 2 ∧ yy p q n r ≤ yy p q n 3 ∧ yy p q n r ≤ yy p q n 4 ∧ yy p q n r ≤ yy p q n 5) ↔ (r = 0 ∧ 0 ≤ p) ∨ (r = 1 ∧ p ≤ 0 ∧ 0 ≤ q) ∨ (r = 2 ∧ q ≤ 0) := by
  rcases six hr with rfl | rfl | rfl | rfl | rfl | rfl <;> simp only [yy]
  · refine ⟨fun h => .inl ⟨trivial, h.2.1⟩, fun h => ?_⟩
    rcases h with ⟨_, h⟩ | ⟨h, _⟩ | ⟨h, _⟩
    · have := y0 hn hpq h1 h
      exact ⟨Int.le_refl _, h, this.1, this.2.1, this.2.2, Int.le_of_lt hn⟩
    · cases h
    · cases h
  · refine ⟨fun h => .inr (.inl ⟨trivial, h.1, by have := h.2.2.1; clear h hr hn hpq h1; omega⟩), fun h => ?_⟩
    rcases h with ⟨h, _⟩ | ⟨_, h, h'⟩ | ⟨h, _⟩
    · cases h
    · have := y1 hn h h'
      exact ⟨h, Int.le_refl _, this.1, this.2.1, this.2.2.1, this.2.2.2⟩
    · cases h
  · refine ⟨fun h => .inr (.inr ⟨trivial, by have := h.2.1; clear h hr hn hpq h1; omega⟩), fun h => ?_⟩
    rcases h with ⟨h, _⟩ | ⟨h, _⟩ | ⟨_, h⟩
    · cases h
    · cases h
    · have := y2 hn hpq h1 h
      exact ⟨this.1, this.2.1, Int.le_refl _, this.2.2.1, this.2.2.2.1, this.2.2.2.2⟩
  · refine ⟨fun h => absurd h.2.2.1 (by clear h hr hpq h1; omega), fun h => ?_⟩
    rcases h with ⟨h, _⟩ | ⟨h, _⟩ | ⟨h, _⟩ <;> cases h
  · refine ⟨fun h => absurd h.2.1 (by clear h hr; omega), fun h => ?_⟩
    rcases h with ⟨h, _⟩ | ⟨h, _⟩ | ⟨h, _⟩ <;> cases h
  · refine ⟨fun h => absurd h.1 (by clear h hr hpq h1; omega), fun h => ?_⟩
    rcases h with ⟨h, _⟩ | ⟨h, _⟩ | ⟨h, _⟩ <;> cases h
theorem fw_yy (a ab n : Nat) (r : Nat) (hr : r < 6) : fw a ab n r = fw a ab n 0 + yy (2 * a - n) (2 * ab - n) n r := by
  rcases six hr with rfl | rfl | rfl | rfl | rfl | rfl <;> simp only [fw, T, yy] <;> omega
theorem core_T : ∀ f : Nat, f < 3 → ∀ l : Nat, l < 3 → ∀ r : Nat, r < 6 → f ≤ l → ((r = 0 ∧ f ≤ 0) ∨ (r = 1 ∧ ¬ l ≤ 0 ∧ f ≤ 1) ∨ (r = 2 ∧ ¬ l ≤ 1) ↔ ((r : Int) - (f : Int)) % 6 ≤ (l : Int) - (f : Int)) := by
  intro f hf l hl r hr hff
  rcases three hf with rfl | rfl | rfl <;> rcases three hl with rfl | rfl | rfl <;> rcases six hr with rfl | rfl | rfl | rfl | rfl | rfl <;> first | exact absurd hff (by decide) | exact iff_of_true (by decide) (by decide) | exact iff_of_false (by decide) (by decide)
theorem core_W {n a ab f l r : Nat} (hr : r < 6) (h0 : 0 < n) (h1 : a ≤ ab) (f1 : f ≤ 2) (l1 : l ≤ 2) (fa : f ≤ 0 ↔ n ≤ 2 * a) (fb : f ≤ 1 ↔ n ≤ 2 * ab) (la : l ≤ 0 ↔ n < 2 * a) (lb : l ≤ 1 ↔ n < 2 * ab) :
    (fw a ab n r ≤ fw a ab n 0 ∧ fw a ab n r ≤ fw a ab n 1 ∧ fw a ab n r ≤ fw a ab n 2 ∧ fw a ab n r ≤ fw a ab n 3 ∧ fw a ab n r ≤ fw a ab n 4 ∧ fw a ab n r ≤ fw a ab n 5) ↔ ((r : Int) - f) % 6 ≤ (l : Int) - f := by
  have le : ∀ j, j < 6 → (fw a ab n r ≤ fw a ab n j ↔ yy (2 * a - n) (2 * ab - n) n r ≤ yy (2 * a - n) (2 * ab - n) n j) := fun j hj => by
    rw [fw_yy a ab n r hr, fw_yy a ab n j hj]; exact Int.add_le_add_iff_left _
  rw [le 0 (by decide), le 1 (by decide), le 2 (by decide), le 3 (by decide), le 4 (by decide), le 5 (by decide), core_Y hr (by clear fa fb la lb le; omega) (by clear fa fb la lb le; omega) (by clear fa fb la lb le; omega)]
  clear le
  have e1 : (0 : Int) ≤ 2 * a - n ↔ f ≤ 0 := by rw [fa]; clear fa fb la lb; omega
  have e2 : (0 : Int) ≤ 2 * ab - n ↔ f ≤ 1 := by rw [fb]; clear fa fb la lb e1; omega
  have e3 : (2 : Int) * a - n ≤ 0 ↔ ¬ l ≤ 0 := by rw [la]; clear fa fb la lb e1 e2; omega
  have e4 : (2 : Int) * ab - n ≤ 0 ↔ ¬ l ≤ 1 := by rw [lb]; clear fa fb la lb e1 e2 e3; omega
  rw [e1, e2, e3, e4]
  have hfl : (f ≤ 0 → n ≤ 2 * ab) := fun h => by have := fa.mp h; clear fa fb la lb e1 e2 e3 e4; omega
  have hff : f ≤ l := by
    have q1 : l ≤ 0 → f ≤ 0 := fun h => fa.mpr (Nat.le_of_lt (la.mp h))
    have q2 : l ≤ 1 → f ≤ 1 := fun h => fb.mpr (Nat.le_of_lt (lb.mp h))
    clear fa fb la lb e1 e2 e3 e4 hfl
    omega
  clear fa fb la lb e1 e2 e3 e4 hfl h0 h1
  exact core_T f (by omega) l (by omega) r hr hff
/-- the plain core: which places have the least way -/
theorem core_A {cr k n a ab f l : Nat} (F' : Nat → Int) (hc : cr < 6) (hk : k < 6) (h0 : 0 < n) (h1 : a ≤ ab) (h2 : ab ≤ n)
    (e : ∀ j, F' j = (a : Int) * d6 (cr % 6) j + ((ab : Int) - a) * d6 ((cr + 1) % 6) j + ((n : Int) - ab) * d6 ((cr + 2) % 6) j)
    (f1 : cr ≤ f ∧ f ≤ cr + 2) (l1 : cr ≤ l ∧ l ≤ cr + 2) (fa : f ≤ cr ↔ n ≤ 2 * a) (fb : f ≤ cr + 1 ↔ n ≤ 2 * ab) (la : l ≤ cr ↔ n < 2 * a) (lb : l ≤ cr + 1 ↔ n < 2 * ab) :
    (F' k ≤ F' 0 ∧ F' k ≤ F' 1 ∧ F' k ≤ F' 2 ∧ F' k ≤ F' 3 ∧ F' k ≤ F' 4 ∧ F' k ≤ F' 5) ↔ ((k : Int) - f).fmod 6 ≤ (l : Int) - f := by
  have hr6 : (k + 6 - cr) % 6 < 6 := Nat.mod_lt _ (by decide)
  have fa' : f - cr ≤ 0 ↔ n ≤ 2 * a := by rw [← fa]; clear fa fb la lb; omega
  have fb' : f - cr ≤ 1 ↔ n ≤ 2 * ab := by rw [← fb]; clear fa fb la lb fa'; omega
  have la' : l - cr ≤ 0 ↔ n < 2 * a := by rw [← la]; clear fa fb la lb fa' fb'; omega
  have lb' : l - cr ≤ 1 ↔ n < 2 * ab := by rw [← lb]; clear fa fb la lb fa' fb' la'; omega
  have key := core_W (f := f - cr) (l := l - cr) hr6 h0 h1 (by clear fa fb la lb fa' fb' la' lb'; omega) (by clear fa fb la lb fa' fb' la' lb'; omega) fa' fb' la' lb'
  clear fa' fb' la' lb'
  have eF : ∀ r, r < 6 → F' ((cr + r) % 6) = fw a ab n r := fun r hr => by
    obtain ⟨t0, t1, t2⟩ := d6_T cr hc r hr
    rw [e, t0, t1, t2]; rfl
  have hkr : k = (cr + (k + 6 - cr) % 6) % 6 := by clear key fa fb la lb; omega
  have ek : F' k = fw a ab n ((k + 6 - cr) % 6) := by rw [← eF _ hr6, ← hkr]
  have all : (F' k ≤ F' 0 ∧ F' k ≤ F' 1 ∧ F' k ≤ F' 2 ∧ F' k ≤ F' 3 ∧ F' k ≤ F' 4 ∧ F' k ≤ F' 5) ↔ ∀ j, j < 6 → F' k ≤ F' j := by
    constructor
    · rintro ⟨g0, g1, g2, g3, g4, g5⟩ j hj
      rcases six hj with rfl | rfl | rfl | rfl | rfl | rfl <;> assumption
    · exact fun g => ⟨g 0 (by decide), g 1 (by decide), g 2 (by decide), g 3 (by decide), g 4 (by decide), g 5 (by decide)⟩
  have allW : (fw a ab n ((k + 6 - cr) % 6) ≤ fw a ab n 0 ∧ fw a ab n ((k + 6 - cr) % 6) ≤ fw a ab n 1 ∧ fw a ab n ((k + 6 - cr) % 6) ≤ fw a ab n 2 ∧ fw a ab n ((k + 6 - cr) % 6) ≤ fw a ab n 3 ∧ fw a ab n ((k + 6 - cr) % 6) ≤ fw a ab n 4 ∧ fw a ab n ((k + 6 - cr) % 6) ≤ fw a ab n 5) ↔ ∀ r, r < 6 → fw a ab n ((k + 6 - cr) % 6) ≤ fw a ab n r := by
    constructor
    · rintro ⟨g0, g1, g2, g3, g4, g5⟩ j hj
      rcases six hj with rfl | rfl | rfl | rfl | rfl | rfl <;> assumption
    · exact fun g => ⟨g 0 (by decide), g 1 (by decide), g 2 (by decide), g 3 (by decide), g 4 (by decide), g 5 (by decide)⟩
  have mid : (∀ j, j < 6 → F' k ≤ F' j) ↔ ∀ r, r < 6 → fw a ab n ((k + 6 - cr) % 6) ≤ fw a ab n r := by
    constructor
    · intro g r hr
      rw [← ek, ← eF r hr]
      exact g _ (Nat.mod_lt _ (by decide))
    · intro g j hj
      have hj' : j = (cr + (j + 6 - cr) % 6) % 6 := by clear key all allW fa fb la lb g; omega
      have hjr : (j + 6 - cr) % 6 < 6 := Nat.mod_lt _ (by decide)
      have := g _ hjr
      rw [← ek, ← eF _ hjr, ← hj'] at this
      exact this
  rw [all, mid, ← allW, key, Int.fmod_eq_emod_of_nonneg _ (by decide)]
  clear all mid allW key ek eF e fa fb la lb hkr hr6
  omega
end Mine

/-! PL4 -/

namespace Mine
theorem sort_inc {b c : Bool} (h : b = true → c = true) : sortB [b, c] = [b, c] := by
  cases b <;> cases c <;> first | rfl | exact absurd (h rfl) (by decide)
theorem sort_dec {b c : Bool} (h : c = true → b = true) : sortB [b, c] = [c, b] := by
  cases b <;> cases c <;> first | rfl | exact absurd (h rfl) (by decide)
theorem bool_eq {b c : Bool} {X : Prop} (h1 : b = false ↔ X) (h2 : c = false ↔ X) : b = c := by
  cases b <;> cases c
  · rfl
  · exact absurd (h2.mpr (h1.mp rfl)) (by decide)
  · exact absurd (h1.mpr (h2.mp rfl)) (by decide)
  · rfl
theorem bool_le {b c : Bool} {X Y : Prop} (h1 : b = false ↔ X) (h2 : c = false ↔ Y) (h : Y → X) : b = true → c = true := fun e => by
  cases hc : c with
  | true => rfl
  | false => rw [h1.mpr (h (h2.mp hc))] at e; cases e
/-- the bool at one of three steps -/
noncomputable def at3 (x : Nat) (p0 p1 p2 : Bool) (cr : Nat) : Bool := if x ≤ cr then p0 else if x ≤ cr + 1 then p1 else p2
theorem at3_fft (x cr : Nat) : at3 x false false true cr = false ↔ x ≤ cr + 1 := by
  unfold at3
  by_cases q : x ≤ cr
  · rw [if_pos q]; exact iff_of_true rfl (by omega)
  · rw [if_neg q]
    by_cases q2 : x ≤ cr + 1
    · rw [if_pos q2]; exact iff_of_true rfl q2
    · rw [if_neg q2]; exact iff_of_false (by decide) q2
theorem at3_ftt (x cr : Nat) : at3 x false true true cr = false ↔ x ≤ cr := by
  unfold at3
  by_cases q : x ≤ cr
  · rw [if_pos q]; exact iff_of_true rfl q
  · rw [if_neg q, ite_self]; exact iff_of_false (by decide) q
theorem at3_ttf (x cr : Nat) : at3 x true true false cr = false ↔ ¬ x ≤ cr + 1 := by
  unfold at3
  by_cases q : x ≤ cr
  · rw [if_pos q]; exact iff_of_false (by decide) (by omega)
  · rw [if_neg q]
    by_cases q2 : x ≤ cr + 1
    · rw [if_pos q2]; exact iff_of_false (by decide) (fun h => h q2)
    · rw [if_neg q2]; exact iff_of_true rfl q2
theorem at3_tff (x cr : Nat) : at3 x true false false cr = false ↔ ¬ x ≤ cr := by
  unfold at3
  by_cases q : x ≤ cr
  · rw [if_pos q]; exact iff_of_false (by decide) (fun h => h q)
  · rw [if_neg q, ite_self]; exact iff_of_true rfl q
theorem at3_same (x cr : Nat) (p : Bool) : at3 x p p p cr = p := by unfold at3; rw [ite_self, ite_self]
theorem zz1 {n ab : Nat} (h : ab ≤ n) : (n ≤ 2 * (n - ab) ↔ ¬ n < 2 * ab) := by omega
theorem zz2 {n ab : Nat} (h : ab ≤ n) : (n < 2 * (n - ab) ↔ ¬ n ≤ 2 * ab) := by omega
theorem zs1 {a ab : Nat} (h1 : a ≤ ab) : a + (ab - a) + 0 = ab := by omega
theorem zs2 {a ab n : Nat} (h1 : a ≤ ab) (h2 : ab ≤ n) : a + (ab - a) + (n - ab) = n := by omega
theorem zs3 {a ab n : Nat} (h1 : a ≤ ab) (h2 : ab ≤ n) : 0 + (ab - a) + (n - ab) = n - a := by omega
theorem core_P {cr n a ab f l Z : Nat} {gl gh p0 p1 p2 : Bool} (h0 : 0 < n) (h1 : a ≤ ab) (h2 : ab ≤ n) (hfl : f ≤ l)
    (eZ : Z = (if (!p0) = true then a else 0) + (if (!p1) = true then ab - a else 0) + (if (!p2) = true then n - ab else 0))
    (egl : gl = false ↔ n ≤ 2 * Z) (egh : gh = false ↔ n < 2 * Z)
    (fa : f ≤ cr ↔ n ≤ 2 * a) (fb : f ≤ cr + 1 ↔ n ≤ 2 * ab) (la : l ≤ cr ↔ n < 2 * a) (lb : l ≤ cr + 1 ↔ n < 2 * ab)
    (hm : ((p0 = true → p1 = true) ∧ (p1 = true → p2 = true)) ∨ ((p1 = true → p0 = true) ∧ (p2 = true → p1 = true))) :
    [gl, gh] = sortB [at3 f p0 p1 p2 cr, at3 l p0 p1 p2 cr] := by
  cases p0 <;> cases p1 <;> cases p2
  · -- none
    have e : Z = n := eZ.trans (zs2 h1 h2)
    rw [e] at egl egh
    rw [at3_same, at3_same, egl.mpr (by omega), egh.mpr (by omega)]; rfl
  · have e : Z = ab := eZ.trans (zs1 h1)
    rw [e] at egl egh
    have q1 := bool_eq (egl.trans fb.symm) (at3_fft f cr)
    have q2 := bool_eq (egh.trans lb.symm) (at3_fft l cr)
    rw [q1, q2, sort_inc (bool_le (at3_fft f cr) (at3_fft l cr) fun h => Nat.le_trans hfl h)]
  · exact absurd hm (by decide)
  · have e : Z = a := eZ
    rw [e] at egl egh
    have q1 := bool_eq (egl.trans fa.symm) (at3_ftt f cr)
    have q2 := bool_eq (egh.trans la.symm) (at3_ftt l cr)
    rw [q1, q2, sort_inc (bool_le (at3_ftt f cr) (at3_ftt l cr) fun h => Nat.le_trans hfl h)]
  · have e : Z = n - a := eZ.trans (zs3 h1 h2)
    rw [e] at egl egh
    have ha : a ≤ n := Nat.le_trans h1 h2
    have q1 := bool_eq (egl.trans ((zz1 ha).trans (not_congr la.symm))) (at3_tff l cr)
    have q2 := bool_eq (egh.trans ((zz2 ha).trans (not_congr fa.symm))) (at3_tff f cr)
    rw [q1, q2, sort_dec (bool_le (at3_tff l cr) (at3_tff f cr) fun h q => h (Nat.le_trans hfl q))]
  · exact absurd hm (by decide)
  · have e : Z = n - ab := eZ.trans (by simp)
    rw [e] at egl egh
    have q1 := bool_eq (egl.trans ((zz1 h2).trans (not_congr lb.symm))) (at3_ttf l cr)
    have q2 := bool_eq (egh.trans ((zz2 h2).trans (not_congr fb.symm))) (at3_ttf f cr)
    rw [q1, q2, sort_dec (bool_le (at3_ttf l cr) (at3_ttf f cr) fun h q => h (Nat.le_trans hfl q))]
  · have e : Z = 0 := eZ
    rw [e] at egl egh
    have g1 : gl = true := by
      cases hg : gl with
      | true => rfl
      | false => exact absurd (egl.mp hg) (by omega)
    have g2 : gh = true := by
      cases hg : gh with
      | true => rfl
      | false => exact absurd (egh.mp hg) (by omega)
    rw [at3_same, at3_same, g1, g2]; rfl
theorem pos_mono : ∀ cr, cr < 6 → ∀ i j, (i, j) = (0, 1) ∨ (i, j) = (1, 2) ∨ (i, j) = (2, 0) → ((posP (cr % 6) i j = true → posP ((cr + 1) % 6) i j = true) ∧ (posP ((cr + 1) % 6) i j = true → posP ((cr + 2) % 6) i j = true)) ∨ ((posP ((cr + 1) % 6) i j = true → posP (cr % 6) i j = true) ∧ (posP ((cr + 2) % 6) i j = true → posP ((cr + 1) % 6) i j = true)) := by
  intro cr hc i j hij
  rcases hij with e | e | e <;> cases e <;> rcases six hc with rfl | rfl | rfl | rfl | rfl | rfl <;> decide
theorem pos_at {cr i j x : Nat} (h : cr ≤ x ∧ x ≤ cr + 2) : posP (x % 6) i j = at3 x (posP (cr % 6) i j) (posP ((cr + 1) % 6) i j) (posP ((cr + 2) % 6) i j) cr := by
  unfold at3
  by_cases q : x ≤ cr
  · rw [if_pos q, show x = cr by omega]
  · rw [if_neg q]
    by_cases q2 : x ≤ cr + 1
    · rw [if_pos q2, show x = cr + 1 by omega]
    · rw [if_neg q2, show x = cr + 2 by omega]
theorem core_B {cr i j n a ab f l Z : Nat} {gl gh : Bool} (hc : cr < 6) (hij : (i, j) = (0, 1) ∨ (i, j) = (1, 2) ∨ (i, j) = (2, 0)) (h0 : 0 < n) (h1 : a ≤ ab) (h2 : ab ≤ n)
    (eZ : Z = (if (!posP (cr % 6) i j) = true then a else 0) + (if (!posP ((cr + 1) % 6) i j) = true then ab - a else 0) + (if (!posP ((cr + 2) % 6) i j) = true then n - ab else 0))
    (egl : gl = false ↔ n ≤ 2 * Z) (egh : gh = false ↔ n < 2 * Z)
    (f1 : cr ≤ f ∧ f ≤ cr + 2) (l1 : cr ≤ l ∧ l ≤ cr + 2) (fa : f ≤ cr ↔ n ≤ 2 * a) (fb : f ≤ cr + 1 ↔ n ≤ 2 * ab) (la : l ≤ cr ↔ n < 2 * a) (lb : l ≤ cr + 1 ↔ n < 2 * ab) :
    [gl, gh] = sortB [posP (f % 6) i j, posP (l % 6) i j] := by
  rw [pos_at f1, pos_at l1]
  have hfl : f ≤ l := by
    have q1 : l ≤ cr → f ≤ cr := fun h => fa.mpr (Nat.le_of_lt (la.mp h))
    have q2 : l ≤ cr + 1 → f ≤ cr + 1 := fun h => fb.mpr (Nat.le_of_lt (lb.mp h))
    clear fa fb la lb egl egh eZ hij
    omega
  exact core_P h0 h1 h2 hfl eZ egl egh fa fb la lb (pos_mono cr hc i j hij)
end Mine

/-! PL5 -/

namespace Mine
theorem gap_ok {c : Col} {p : Nat} (h : Good c p) {i j : Nat} (hij : (i, j) = (0, 1) ∨ (i, j) = (1, 2) ∨ (i, j) = (2, 0)) : ∃ g : Int, Ex (Float64.sub (cAt c i) (cAt c j)) g ∧ g ≠ 0 ∧ decide (0 < g) = posP p i j := by
  obtain ⟨hp, a, b, d, A, M, L, rfl, ha, hb, hd, h0, h1, h2, h3⟩ := h
  rcases hij with e | e | e <;> cases e <;> rcases six hp with rfl | rfl | rfl | rfl | rfl | rfl <;>
    simp only [colOf, cAt] <;>
    first
    | exact ⟨A - M, sub_ex ha hb (by omega) (by omega), by omega, by rw [show posP _ _ _ = true from by decide]; exact decide_eq_true (by omega)⟩
    | exact ⟨M - A, sub_ex hb ha (by omega) (by omega), by omega, by rw [show posP _ _ _ = false from by decide]; exact decide_eq_false (by omega)⟩
    | exact ⟨A - L, sub_ex ha hd (by omega) (by omega), by omega, by rw [show posP _ _ _ = true from by decide]; exact decide_eq_true (by omega)⟩
    | exact ⟨L - A, sub_ex hd ha (by omega) (by omega), by omega, by rw [show posP _ _ _ = false from by decide]; exact decide_eq_false (by omega)⟩
    | exact ⟨M - L, sub_ex hb hd (by omega) (by omega), by omega, by rw [show posP _ _ _ = true from by decide]; exact decide_eq_true (by omega)⟩
    | exact ⟨L - M, sub_ex hd hb (by omega) (by omega), by omega, by rw [show posP _ _ _ = false from by decide]; exact decide_eq_false (by omega)⟩
theorem gt0_val {v : UInt64} (hf : Float64.isFinite v = true) : gt0 v = decide (0 < Float64.val v) := by
  obtain ⟨a, m, e, hd⟩ := fin_of hf
  unfold gt0
  rw [Float64.cmpInt_right hd, Int.zero_mul]
  rcases Int.lt_trichotomy (Float64.val v) 0 with h | h | h
  · rw [Int.compare_eq_lt.mpr h, decide_eq_false (by omega)]; rfl
  · rw [h, decide_eq_false (by omega)]; rfl
  · rw [Int.compare_eq_gt.mpr h, decide_eq_true h]; rfl
theorem gt0_ex {v : UInt64} {g : Int} (h : Ex v g) : gt0 v = decide (0 < g) := by
  rw [gt0_val h.fin, h.val]
  congr 1
  have : (0 : Int) < 256 * g * u ↔ 0 < g := by
    have := mulu_lt (a := 0) (b := 256 * g)
    rw [Int.zero_mul] at this
    rw [this]; omega
  exact propext this

theorem half_true (P : Params) (j : Nat) {cs : List Col} {ps : List Nat} (hG : Goods cs ps) (h0 : 0 < cs.length) (hl : cs.length < 64) {cr : Nat} (hc : cr < 6) :
    phi P (j + 4) "_law_half" [.list (cs.map cD), .list (ps.map fun p : Nat => .int p), .int cr] = some (.bool true) := by
  have hw := win hc hG
  have hlen := hG.len
  have hpl : (hps cr cs ps).length = cs.length := by simp [hps, hlen]
  have hpos : 0 < (hps cr cs ps).length := by omega
  have hH : ∀ x ∈ hps cr cs ps, HueAt (hueS P (j + 1) cr x) (ext cr x.2) := fun x hx => hueS_ok P (j + 1) cr (hw x hx).1
  have hpf : ∀ x ∈ hps cr cs ps, plF (hueS P (j + 1) cr x) = (ext cr x.2 : Int) := fun x hx => (plF_at (hH x hx)).1
  obtain ⟨xf, hxf, ef⟩ := medLF_mem (f := hueS P (j + 1) cr) hpos
  obtain ⟨xl, hxl, el⟩ := medHF_mem (f := hueS P (j + 1) cr) hpos
  have hmono : ∀ y : Nat, ∀ a ∈ hps cr cs ps, ∀ b ∈ hps cr cs ps, Float64.val (hueS P (j + 1) cr a) ≤ Float64.val (hueS P (j + 1) cr b) → (fun v => decide (plF v ≤ (y : Int))) (hueS P (j + 1) cr b) = true → (fun v => decide (plF v ≤ (y : Int))) (hueS P (j + 1) cr a) = true := fun y a ha b hb hv => by
    have := hue_order (hH a ha) (hH b hb) hv
    simp only [decide_eq_true_eq, hpf a ha, hpf b hb]
    omega
  have hcount : ∀ y : Nat, ((hps cr cs ps).filter fun x => (fun v => decide (plF v ≤ (y : Int))) (hueS P (j + 1) cr x)).length = nLe cr (hps cr cs ps) y := fun y => by
    unfold nLe
    congr 1
    refine List.filter_congr fun x hx => ?_
    simp only [hpf x hx]
    congr 1
    exact propext ⟨fun h => by omega, fun h => by omega⟩
  have hf : ∀ y : Nat, ext cr xf.2 ≤ y ↔ (hps cr cs ps).length ≤ 2 * nLe cr (hps cr cs ps) y := fun y => by
    have := medLF_q (f := hueS P (j + 1) cr) (q := fun v => decide (plF v ≤ (y : Int))) hpos (hmono y)
    rw [hcount, ef] at this
    simp only [decide_eq_true_eq, hpf xf hxf] at this
    rw [← this]; omega
  have hll : ∀ y : Nat, ext cr xl.2 ≤ y ↔ (hps cr cs ps).length < 2 * nLe cr (hps cr cs ps) y := fun y => by
    have := medHF_q (f := hueS P (j + 1) cr) (q := fun v => decide (plF v ≤ (y : Int))) hpos (hmono y)
    rw [hcount, el] at this
    simp only [decide_eq_true_eq, hpf xl hxl] at this
    rw [← this]; omega
  have hm := nLe_mono cr (hp := hps cr cs ps)
  have hF := F_win (cr := cr) (hp := hps cr cs ps) fun x hx => ⟨(hw x hx).1.1, (hw x hx).2⟩
  have gx : ∀ a b, (a, b) = (0, 1) ∨ (a, b) = (1, 2) ∨ (a, b) = (2, 0) → ∀ x ∈ hps cr cs ps, gt0 (gapX a b x) = posP (ext cr x.2 % 6) a b ∧ fltOk (gapX a b x) = true := fun a b hab x hx => by
    obtain ⟨g, h1, h2, h3⟩ := gap_ok (hw x hx).1 hab
    have hp6 := (hw x hx).1.1
    have e : x.2 = ext cr x.2 % 6 := by unfold ext; split <;> omega
    refine ⟨?_, ?_⟩
    · show gt0 (Float64.sub (cAt x.1 a) (cAt x.1 b)) = _
      rw [gt0_ex h1, h3, ← e]
    · show fltOk (Float64.sub (cAt x.1 a) (cAt x.1 b)) = true
      rcases Int.lt_trichotomy g 0 with q | q | q
      · exact Iv.okN h1 (by omega)
      · exact absurd q h2
      · exact Iv.ok h1 (by omega)
  refine run_half P j hG h0 hl (first := (ext cr xf.2 : Int)) (last := (ext cr xl.2 : Int)) (fo := ext cr xf.2 % 6) (lao := ext cr xl.2 % 6) ?_ (fun x hx => (hw x hx).1) ?_ ?_ ?_ ?_ ?_ ?_ ?_ (Nat.mod_lt _ (by decide)) (Nat.mod_lt _ (by decide)) ?_ ?_
  · intro v hv
    obtain ⟨x, hx, rfl⟩ := List.mem_map.mp hv
    exact (plF_at (hH x hx)).2.2
  · rw [ef]; exact hpf xf hxf
  · rw [el]; exact hpf xl hxl
  · rw [ef]; exact (plF_at (hH xf hxf)).2.1
  · rw [el]; exact (plF_at (hH xl hxl)).2.1
  · intro k hk
    rw [Bool.eq_iff_iff, minF_iff _ hk, decide_eq_true_eq]
    exact core_A (F ((hps cr cs ps).map (·.2))) hc hk hpos hm.1 hm.2 hF (hw xf hxf).2 (hw xl hxl).2 (hf cr) (hf (cr + 1)) (hll cr) (hll (cr + 1))
  · rw [Int.fmod_eq_emod_of_nonneg _ (by decide)]; omega
  · rw [Int.fmod_eq_emod_of_nonneg _ (by decide)]; omega
  · intro a b hab v hv
    obtain ⟨x, hx, rfl⟩ := List.mem_map.mp hv
    exact (gx a b hab x hx).2
  · intro a b hab
    have hmg : ∀ x ∈ hps cr cs ps, ∀ y ∈ hps cr cs ps, Float64.val (gapX a b x) ≤ Float64.val (gapX a b y) → (fun v => !gt0 v) (gapX a b y) = true → (fun v => !gt0 v) (gapX a b x) = true := fun x hx y hy hv hq => by
      obtain ⟨g, h1, _, _⟩ := gap_ok (hw x hx).1 hab
      obtain ⟨g', h1', _, _⟩ := gap_ok (hw y hy).1 hab
      simp only [Bool.not_eq_true'] at hq ⊢
      have f1 : Float64.isFinite (gapX a b x) = true := h1.fin
      have f2 : Float64.isFinite (gapX a b y) = true := h1'.fin
      rw [gt0_val f2] at hq
      rw [gt0_val f1]
      have := of_decide_eq_false hq
      exact decide_eq_false (by omega)
    have hcg : ((hps cr cs ps).filter fun x => (fun v => !gt0 v) (gapX a b x)).length = ((hps cr cs ps).filter fun x => (fun w => !posP (w % 6) a b) (ext cr x.2)).length := by
      congr 1
      refine List.filter_congr fun x hx => ?_
      simp only [(gx a b hab x hx).1]
    have hcw := cnt_win (cr := cr) (hp := hps cr cs ps) (fun x hx => (hw x hx).2) (fun w => !posP (w % 6) a b)
    have q1 := medLF_q (f := gapX a b) (q := fun v => !gt0 v) hpos hmg
    have q2 := medHF_q (f := gapX a b) (q := fun v => !gt0 v) hpos hmg
    rw [hcg] at q1 q2
    exact core_B hc hab hpos hm.1 hm.2 hcw (by simpa [gaps] using q1) (by simpa [gaps] using q2) (hw xf hxf).2 (hw xl hxl).2 (hf cr) (hf (cr + 1)) (hll cr) (hll (cr + 1))
end Mine

/-! N10 -/

namespace Mine
section
variable {Φ : Str → List D → Option D} {m n : Nat} {sc : Names} {ρ : Rho} {S S' : Sx}
theorem ev_or {x y : Expr} {pos : Pos} {a b : Bool} (h1 : ev Φ n sc ρ x = some (.bool a)) (h2 : ev Φ n sc ρ y = some (.bool b)) : ev Φ (n + 1) sc ρ (.BoolOp .Or [x, y] pos) = some (.bool (a || b)) := by
  rw [ev_succ]
  simp only [evB, h1, h2]
  cases a <;> rfl
theorem ev_not {x : Expr} {pos : Pos} {a : Bool} (h1 : ev Φ n sc ρ x = some (.bool a)) : ev Φ (n + 1) sc ρ (.UnaryOp .Not x pos) = some (.bool (!a)) := by
  rw [ev_succ]
  simp only [evB, h1]
theorem ev_callA {f : Str} {p pos : Pos} {args : List Expr} {as : List D} {d : D} (hf : (okName f && sc.lookup f == some .globalImplicit && args.all noStar && (biOf f).isNone) = true) (h : evl (ev Φ n sc ρ) args = some as) (hΦ : Φ f as = some d) : ev Φ (n + 1) sc ρ (.Call (.Name f p) args [] pos) = some d := by
  rw [Bool.and_eq_true] at hf
  rw [ev_succ]
  dsimp only [evB]
  rw [hf.1]
  have hb : biOf f = none := by simpa using hf.2
  simp [h, hb, hΦ]
theorem ev_upto {v w : Expr} {p pos : Pos} {ds : List D} {k : Int} (h : ev Φ n sc ρ v = some (.list ds)) (hu : ev Φ n sc ρ w = some (.int k)) (hk : 0 ≤ k ∧ k < 1000 ∧ ds.length < 1000) : ev Φ (n + 1) sc ρ (.Subscript v (.Slice none (some w) none p) pos) = some (.list (ds.take k.toNat)) := by
  rw [ev_succ]
  simp only [evB, h, hu]
  rw [if_pos hk]
theorem ev_from {v w : Expr} {p pos : Pos} {ds : List D} {k : Int} (h : ev Φ n sc ρ v = some (.list ds)) (hu : ev Φ n sc ρ w = some (.int k)) (hk : 0 ≤ k ∧ k < 1000 ∧ ds.length < 1000) : ev Φ (n + 1) sc ρ (.Subscript v (.Slice (some w) none none p) pos) = some (.list (ds.drop k.toNat)) := by
  rw [ev_succ]
  simp only [evB, h, hu]
  rw [if_pos hk]
end

noncomputable def colN (P : Params) (n : Int) : Col := (run_colourG P 4 n).choose
noncomputable def plN (n : Int) : Nat := (n.fmod 6).toNat
theorem colN_ok (P : Params) (n : Int) : phi P 6 "_law_colour" [.int n] = some (cD (colN P n)) ∧ Good (colN P n) (plN n) := (run_colourG P 4 n).choose_spec
theorem goodsN (P : Params) : ∀ rs : List Int, Goods (rs.map (colN P)) (rs.map plN)
  | [] => .nil
  | n :: r => .cons (colN_ok P n).2 (goodsN P r)
noncomputable def rowD (P : Params) (rs : List Int) : D := .list (rs.map fun n => cD (colN P n))
noncomputable def plD (rs : List Int) : D := .list (rs.map fun n => .int (plN n))
theorem rowD_eq (P : Params) (rs : List Int) : rowD P rs = .list ((rs.map (colN P)).map cD) := by simp [rowD]
theorem plD_eq (rs : List Int) : plD rs = .list ((rs.map plN).map fun p : Nat => .int p) := by simp [plD]
theorem sixthsN (P : Params) {rs : List Int} (hl : rs.length < 64) : phi P 6 "_law_sixths" [rowD P rs, plD rs] = some (.bool true) := by
  rw [rowD_eq, plD_eq]; exact run_sixths P 3 (goodsN P rs) (by simp; omega)
theorem halfN (P : Params) {rs : List Int} (h0 : 0 < rs.length) (hl : rs.length < 64) {cr : Nat} (hc : cr < 6) : phi P 6 "_law_half" [rowD P rs, plD rs, .int cr] = some (.bool true) := by
  rw [rowD_eq, plD_eq]; exact half_true P 2 (goodsN P rs) (by simp; omega) (by simp; omega) hc
theorem toldN (P : Params) {rs : List Int} (h0 : 0 < rs.length) (hl : rs.length < 64) : ∃ d, phi P 6 "_law_told" [plD rs] = some d ∧ phi P 6 "_law_fewest" [rowD P rs] = some d ∧ cmpop .NotEq d d = some false := by
  have hA := (told_fewest P 3 (goodsN P rs) (by simp; omega) (by simp; omega)).1
  have hB := (told_fewest P 4 (goodsN P rs) (by simp; omega) (by simp; omega)).2
  rw [← rowD_eq] at hA
  rw [← plD_eq] at hB
  refine ⟨_, hB, hA, ne_self ?_⟩
  have ok : ∀ l : List Nat, pysOk 6 (l.map fun k : Nat => D.int (k : Int)) = true := fun l => by
    have := ok_ints 6 (l.map fun k : Nat => (k : Int))
    rw [List.map_map] at this
    exact this
  simp only [pyOk, pysOk, Bool.true_and, Bool.and_true]
  exact ok _
theorem placeN (P : Params) (n : Int) : ∃ x, phi P 6 "_law_hue" [cD (colN P n)] = some (.flt x) ∧ callBI .int [.flt (Float64.mul x (Float64.ofInt 6))] = some (.int (plN n)) := by
  obtain ⟨e, hh⟩ := hueOf_ok P 4 (colN_ok P n).2
  obtain ⟨h1, h2, _⟩ := plF_at hh
  refine ⟨_, e, ?_⟩
  show (if Float64.isFinite (Float64.mul (hueOf P 4 (colN P n)) (Float64.ofInt 6)) = true then some (D.int (plF (hueOf P 4 (colN P n)))) else none) = _
  rw [if_pos h2, h1]

noncomputable def scLaw : Names := [("script", .local), ("colours", .local), ("row", .local), ("corners", .local), ("places", .local), ("corner", .local), ("_law_sixths", .globalImplicit), ("_law_told", .globalImplicit), ("_law_fewest", .globalImplicit), ("_law_half", .globalImplicit)]

theorem law_true (P : Params) (ns : List Int) (hl : ns.length ≤ 63) : run P (phi P 6) 99 ["script"] [.list (ns.map .int)] = some (.bool true) := by
  unfold run runP
  have e1 : (fdAt P 99).scope.names = scLaw := by kernel_rfl
  rw [e1]
  conv in bodyOf _ => whnf
  have htk : (ns.take 6).length ≤ 6 := by rw [List.length_take]; omega
  have hsl : (ns.map D.int).take 6 = (ns.take 6).map D.int := by rw [List.map_take]
  generalize hts : ns.take 6 = ts at *
  let R0 : Rho := [("script", .list (ns.map .int))]
  let A0 : List Int := 0 :: 62 :: 24580 :: ts
  let A1 : List Int := 62 :: 24580 :: ts
  have a0 : 0 < A0.length := by simp [A0]
  have a0' : A0.length < 64 := by simp [A0]; omega
  have a1 : 0 < A1.length := by simp [A1]
  have a1' : A1.length < 64 := by simp [A1]; omega
  obtain ⟨d0, t0, w0, q0⟩ := toldN P a0 a0'
  obtain ⟨d1, t1, w1, q1⟩ := toldN P a1 a1'
  let R1 : Rho := ("colours", rowD P A0) :: R0
  rw [exL_next (R1, none)]
  rw [exL_next (("corner", .int 5) :: ("corner", .int 3) :: ("corner", .int 1) :: ("places", plD A1) :: ("corners", .tup [.int 1, .int 3, .int 5]) :: ("row", rowD P A1) :: ("corner", .int 4) :: ("corner", .int 2) :: ("corner", .int 0) :: ("places", plD A0) :: ("corners", .tup [.int 0, .int 2, .int 4]) :: ("row", rowD P A0) :: R1, none)]
  rw [exL_ret (.bool true) (("corner", .int 5) :: ("corner", .int 3) :: ("corner", .int 1) :: ("places", plD A1) :: ("corners", .tup [.int 1, .int 3, .int 5]) :: ("row", rowD P A1) :: ("corner", .int 4) :: ("corner", .int 2) :: ("corner", .int 0) :: ("places", plD A0) :: ("corners", .tup [.int 0, .int 2, .int 4]) :: ("row", rowD P A0) :: R1, none)]
  · kernel_rfl
  · refine (ex_for (itd := .tup [.tup [rowD P A0, .tup [.int 0, .int 2, .int 4]], .tup [rowD P A1, .tup [.int 1, .int 3, .int 5]]]) (ds := [.tup [rowD P A0, .tup [.int 0, .int 2, .int 4]], .tup [rowD P A1, .tup [.int 1, .int 3, .int 5]]]) (by kernel_rfl) ?_ (by kernel_rfl) (by simp)).trans ?_
    · refine ev_tup2 (by kernel_rfl) (by kernel_rfl) (ev_tup2 (by kernel_rfl) ?_ (by kernel_rfl))
      exact ev_from (ds := A0.map fun n => cD (colN P n)) (k := 1) (by kernel_rfl) (by kernel_rfl) ⟨by decide, by decide, by simp; omega⟩
    rw [forL_next (("corner", .int 4) :: ("corner", .int 2) :: ("corner", .int 0) :: ("places", plD A0) :: ("corners", .tup [.int 0, .int 2, .int 4]) :: ("row", rowD P A0) :: R1, none)]
    rw [forL_next (("corner", .int 5) :: ("corner", .int 3) :: ("corner", .int 1) :: ("places", plD A1) :: ("corners", .tup [.int 1, .int 3, .int 5]) :: ("row", rowD P A1) :: ("corner", .int 4) :: ("corner", .int 2) :: ("corner", .int 0) :: ("places", plD A0) :: ("corners", .tup [.int 0, .int 2, .int 4]) :: ("row", rowD P A0) :: R1, none)]
    · kernel_rfl
    · refine (bind_to (α := Sx) (("corners", .tup [.int 1, .int 3, .int 5]) :: ("row", rowD P A1) :: ("corner", .int 4) :: ("corner", .int 2) :: ("corner", .int 0) :: ("places", plD A0) :: ("corners", .tup [.int 0, .int 2, .int 4]) :: ("row", rowD P A0) :: R1, none) (by kernel_rfl)).trans ?_
      rw [exL_next (("places", plD A1) :: ("corners", .tup [.int 1, .int 3, .int 5]) :: ("row", rowD P A1) :: ("corner", .int 4) :: ("corner", .int 2) :: ("corner", .int 0) :: ("places", plD A0) :: ("corners", .tup [.int 0, .int 2, .int 4]) :: ("row", rowD P A0) :: R1, none)]
      rw [exL_next (("places", plD A1) :: ("corners", .tup [.int 1, .int 3, .int 5]) :: ("row", rowD P A1) :: ("corner", .int 4) :: ("corner", .int 2) :: ("corner", .int 0) :: ("places", plD A0) :: ("corners", .tup [.int 0, .int 2, .int 4]) :: ("row", rowD P A0) :: R1, none)]
      rw [exL_next (("corner", .int 5) :: ("corner", .int 3) :: ("corner", .int 1) :: ("places", plD A1) :: ("corners", .tup [.int 1, .int 3, .int 5]) :: ("row", rowD P A1) :: ("corner", .int 4) :: ("corner", .int 2) :: ("corner", .int 0) :: ("places", plD A0) :: ("corners", .tup [.int 0, .int 2, .int 4]) :: ("row", rowD P A0) :: R1, none)]
      · kernel_rfl
      · refine (ex_for (itd := .tup [.int 1, .int 3, .int 5]) (ds := [.int 1, .int 3, .int 5]) (by kernel_rfl) (by kernel_rfl) (by kernel_rfl) (by decide)).trans ?_
        rw [forL_next (("corner", .int 1) :: ("places", plD A1) :: ("corners", .tup [.int 1, .int 3, .int 5]) :: ("row", rowD P A1) :: ("corner", .int 4) :: ("corner", .int 2) :: ("corner", .int 0) :: ("places", plD A0) :: ("corners", .tup [.int 0, .int 2, .int 4]) :: ("row", rowD P A0) :: R1, none)]
        rw [forL_next (("corner", .int 3) :: ("corner", .int 1) :: ("places", plD A1) :: ("corners", .tup [.int 1, .int 3, .int 5]) :: ("row", rowD P A1) :: ("corner", .int 4) :: ("corner", .int 2) :: ("corner", .int 0) :: ("places", plD A0) :: ("corners", .tup [.int 0, .int 2, .int 4]) :: ("row", rowD P A0) :: R1, none)]
        rw [forL_next (("corner", .int 5) :: ("corner", .int 3) :: ("corner", .int 1) :: ("places", plD A1) :: ("corners", .tup [.int 1, .int 3, .int 5]) :: ("row", rowD P A1) :: ("corner", .int 4) :: ("corner", .int 2) :: ("corner", .int 0) :: ("places", plD A0) :: ("corners", .tup [.int 0, .int 2, .int 4]) :: ("row", rowD P A0) :: R1, none)]
        · kernel_rfl
        · refine (bind_to (α := Sx) (("corner", .int 5) :: ("corner", .int 3) :: ("corner", .int 1) :: ("places", plD A1) :: ("corners", .tup [.int 1, .int 3, .int 5]) :: ("row", rowD P A1) :: ("corner", .int 4) :: ("corner", .int 2) :: ("corner", .int 0) :: ("places", plD A0) :: ("corners", .tup [.int 0, .int 2, .int 4]) :: ("row", rowD P A0) :: R1, none) (by kernel_rfl)).trans ?_
          refine exL_one ((ex_if (!true) (ev_not (ev_callA (as := [rowD P A1, plD A1, .int 5]) (by kernel_rfl) (by kernel_rfl) (halfN P a1 a1' (cr := 5) (by decide))))).trans (by kernel_rfl))
        · refine (bind_to (α := Sx) (("corner", .int 3) :: ("corner", .int 1) :: ("places", plD A1) :: ("corners", .tup [.int 1, .int 3, .int 5]) :: ("row", rowD P A1) :: ("corner", .int 4) :: ("corner", .int 2) :: ("corner", .int 0) :: ("places", plD A0) :: ("corners", .tup [.int 0, .int 2, .int 4]) :: ("row", rowD P A0) :: R1, none) (by kernel_rfl)).trans ?_
          refine exL_one ((ex_if (!true) (ev_not (ev_callA (as := [rowD P A1, plD A1, .int 3]) (by kernel_rfl) (by kernel_rfl) (halfN P a1 a1' (cr := 3) (by decide))))).trans (by kernel_rfl))
        · refine (bind_to (α := Sx) (("corner", .int 1) :: ("places", plD A1) :: ("corners", .tup [.int 1, .int 3, .int 5]) :: ("row", rowD P A1) :: ("corner", .int 4) :: ("corner", .int 2) :: ("corner", .int 0) :: ("places", plD A0) :: ("corners", .tup [.int 0, .int 2, .int 4]) :: ("row", rowD P A0) :: R1, none) (by kernel_rfl)).trans ?_
          refine exL_one ((ex_if (!true) (ev_not (ev_callA (as := [rowD P A1, plD A1, .int 1]) (by kernel_rfl) (by kernel_rfl) (halfN P a1 a1' (cr := 1) (by decide))))).trans (by kernel_rfl))
      · refine (ex_if (!true || false) (ev_or (ev_not (ev_callA (as := [rowD P A1, plD A1]) (by kernel_rfl) (by kernel_rfl) (sixthsN P a1'))) (ev_ne (by kernel_rfl) (ev_callA (as := [plD A1]) (by kernel_rfl) (by kernel_rfl) t1) (ev_callA (as := [rowD P A1]) (by kernel_rfl) (by kernel_rfl) w1) q1))).trans (by kernel_rfl)
      · refine ex_asg (d := plD A1) (by kernel_rfl) ?_ (by kernel_rfl)
        refine comp_allN (l := A1) (g := fun n => cD (colN P n)) (itd := rowD P A1) (by kernel_rfl) (by kernel_rfl) (by kernel_rfl) (by omega) ?_
        intro n _
        obtain ⟨x, e, hx⟩ := placeN P n
        exact ev_bi1 (b := .int) (by kernel_rfl) (by kernel_rfl) (ev_bin (a := .flt x) (b := .int 6) (ev_call1 (by kernel_rfl) (x := cD (colN P n)) (by kernel_rfl) e) (by kernel_rfl) (by kernel_rfl)) hx
    · refine (bind_to (α := Sx) (("corners", .tup [.int 0, .int 2, .int 4]) :: ("row", rowD P A0) :: R1, none) (by kernel_rfl)).trans ?_
      rw [exL_next (("places", plD A0) :: ("corners", .tup [.int 0, .int 2, .int 4]) :: ("row", rowD P A0) :: R1, none)]
      rw [exL_next (("places", plD A0) :: ("corners", .tup [.int 0, .int 2, .int 4]) :: ("row", rowD P A0) :: R1, none)]
      rw [exL_next (("corner", .int 4) :: ("corner", .int 2) :: ("corner", .int 0) :: ("places", plD A0) :: ("corners", .tup [.int 0, .int 2, .int 4]) :: ("row", rowD P A0) :: R1, none)]
      · kernel_rfl
      · refine (ex_for (itd := .tup [.int 0, .int 2, .int 4]) (ds := [.int 0, .int 2, .int 4]) (by kernel_rfl) (by kernel_rfl) (by kernel_rfl) (by decide)).trans ?_
        rw [forL_next (("corner", .int 0) :: ("places", plD A0) :: ("corners", .tup [.int 0, .int 2, .int 4]) :: ("row", rowD P A0) :: R1, none)]
        rw [forL_next (("corner", .int 2) :: ("corner", .int 0) :: ("places", plD A0) :: ("corners", .tup [.int 0, .int 2, .int 4]) :: ("row", rowD P A0) :: R1, none)]
        rw [forL_next (("corner", .int 4) :: ("corner", .int 2) :: ("corner", .int 0) :: ("places", plD A0) :: ("corners", .tup [.int 0, .int 2, .int 4]) :: ("row", rowD P A0) :: R1, none)]
        · kernel_rfl
        · refine (bind_to (α := Sx) (("corner", .int 4) :: ("corner", .int 2) :: ("corner", .int 0) :: ("places", plD A0) :: ("corners", .tup [.int 0, .int 2, .int 4]) :: ("row", rowD P A0) :: R1, none) (by kernel_rfl)).trans ?_
          refine exL_one ((ex_if (!true) (ev_not (ev_callA (as := [rowD P A0, plD A0, .int 4]) (by kernel_rfl) (by kernel_rfl) (halfN P a0 a0' (cr := 4) (by decide))))).trans (by kernel_rfl))
        · refine (bind_to (α := Sx) (("corner", .int 2) :: ("corner", .int 0) :: ("places", plD A0) :: ("corners", .tup [.int 0, .int 2, .int 4]) :: ("row", rowD P A0) :: R1, none) (by kernel_rfl)).trans ?_
          refine exL_one ((ex_if (!true) (ev_not (ev_callA (as := [rowD P A0, plD A0, .int 2]) (by kernel_rfl) (by kernel_rfl) (halfN P a0 a0' (cr := 2) (by decide))))).trans (by kernel_rfl))
        · refine (bind_to (α := Sx) (("corner", .int 0) :: ("places", plD A0) :: ("corners", .tup [.int 0, .int 2, .int 4]) :: ("row", rowD P A0) :: R1, none) (by kernel_rfl)).trans ?_
          refine exL_one ((ex_if (!true) (ev_not (ev_callA (as := [rowD P A0, plD A0, .int 0]) (by kernel_rfl) (by kernel_rfl) (halfN P a0 a0' (cr := 0) (by decide))))).trans (by kernel_rfl))
      · refine (ex_if (!true || false) (ev_or (ev_not (ev_callA (as := [rowD P A0, plD A0]) (by kernel_rfl) (by kernel_rfl) (sixthsN P a0'))) (ev_ne (by kernel_rfl) (ev_callA (as := [plD A0]) (by kernel_rfl) (by kernel_rfl) t0) (ev_callA (as := [rowD P A0]) (by kernel_rfl) (by kernel_rfl) w0) q0))).trans (by kernel_rfl)
      · refine ex_asg (d := plD A0) (by kernel_rfl) ?_ (by kernel_rfl)
        refine comp_allN (l := A0) (g := fun n => cD (colN P n)) (itd := rowD P A0) (by kernel_rfl) (by kernel_rfl) (by kernel_rfl) (by omega) ?_
        intro n _
        obtain ⟨x, e, hx⟩ := placeN P n
        exact ev_bi1 (b := .int) (by kernel_rfl) (by kernel_rfl) (ev_bin (a := .flt x) (b := .int 6) (ev_call1 (by kernel_rfl) (x := cD (colN P n)) (by kernel_rfl) e) (by kernel_rfl) (by kernel_rfl)) hx
  · refine ex_asg (d := rowD P A0) (by kernel_rfl) ?_ (by kernel_rfl)
    refine comp_allN (l := A0) (g := fun n : Int => .int n) (itd := .list (A0.map .int)) (by kernel_rfl) ?_ (by kernel_rfl) (by omega) ?_
    · refine ev_bin (a := .list [.int 0, .int 62, .int 24580]) (b := .list (ts.map .int)) (by kernel_rfl) ?_ ?_
      · rw [← hsl]
        exact ev_upto (k := 6) (by kernel_rfl) (by kernel_rfl) ⟨by decide, by decide, by simp; omega⟩
      · have : ([.int 0, .int 62, .int 24580] : List D).length + (ts.map D.int).length < 1000 := by simp; omega
        exact if_pos this
    · intro n _
      exact ev_call1 (by kernel_rfl) (x := .int n) (by kernel_rfl) (colN_ok P n).1
end Mine

theorem PySem.Challenge.cw_mq0103_01_holds : PySem.Challenge.rw_mq0103_01.Holds :=
  Mine.law_holds fun P ns h => Mine.law_true P ns h
