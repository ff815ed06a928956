import PyProof.Rows.All
import Wide.All
import OpenK.AllK
import Wide.FinOn
import KE.KSortAsk
import PySem.Challenge.RW_oy0101_03
open PySem PySem.W PyProof.Rows
set_option Elab.async false
set_option linter.unusedVariables false
set_option linter.unusedSimpArgs false
set_option linter.deprecated false

/- HD3x -/
namespace Mine
set_option maxRecDepth 100000 in
theorem looks3 : looksOpen PySem.Challenge.rw_oy0101_03.row.prog = true := by kernel_rfl
set_option maxRecDepth 100000 in
theorem road3 : PySem.Challenge.rw_oy0101_03.wellSaid = true := by
  unfold OpenLaw.wellSaid OpenRow.wellSaid OpenRow.partSaid
  repeat' (with_reducible refine look_both ?_ ?_)
  · exact looks3
  all_goals kernel_rfl
def view3 : Program := { PySem.Challenge.pw_oy0101_03 with main := { PySem.Challenge.pw_oy0101_03.main with body := [1, 2, 3, 4, 5, 6, 7, 8, 9, 10, 11, 12, 13, 14, 15, 16, 17, 18, 19, 20, 21, 22, 23, 25, 28, 29, 31, 32, 33, 34, 35, 36, 37, 38, 39].filterMap fun i : Nat => PySem.Challenge.pw_oy0101_03.main.body[i]? } }
abbrev loose3 : List Str := [Str.ofString "_filemode_table", Str.ofString "_initial_missing", Str.ofString "reduce"]
abbrev read3 : List (Str × WData) := [(Str.ofString "_filemode_table", .tuple [
  .tuple [.tuple [.int 40960, .str ⟨#[108]⟩], .tuple [.int 49152, .str ⟨#[115]⟩], .tuple [.int 32768, .str ⟨#[45]⟩], .tuple [.int 24576, .str ⟨#[98]⟩], .tuple [.int 16384, .str ⟨#[100]⟩], .tuple [.int 8192, .str ⟨#[99]⟩], .tuple [.int 4096, .str ⟨#[112]⟩]],
  .tuple [.tuple [.int 256, .str ⟨#[114]⟩]], .tuple [.tuple [.int 128, .str ⟨#[119]⟩]], .tuple [.tuple [.int 2112, .str ⟨#[115]⟩], .tuple [.int 2048, .str ⟨#[83]⟩], .tuple [.int 64, .str ⟨#[120]⟩]],
  .tuple [.tuple [.int 32, .str ⟨#[114]⟩]], .tuple [.tuple [.int 16, .str ⟨#[119]⟩]], .tuple [.tuple [.int 1032, .str ⟨#[115]⟩], .tuple [.int 1024, .str ⟨#[83]⟩], .tuple [.int 8, .str ⟨#[120]⟩]],
  .tuple [.tuple [.int 4, .str ⟨#[114]⟩]], .tuple [.tuple [.int 2, .str ⟨#[119]⟩]], .tuple [.tuple [.int 513, .str ⟨#[116]⟩], .tuple [.int 512, .str ⟨#[84]⟩], .tuple [.int 1, .str ⟨#[120]⟩]]])]
local macro_rules | `(tactic| o_head $H) => do
  let (hw, hc) := (Lean.mkIdent `hw, Lean.mkIdent `hc)
  `(tactic| (refine PySem.W.holds_open (q := view3) (loose := loose3) (Xt := fun s => xlAt view3 read3 s && recOk (RowW.records (OpenRow.toRowW (OpenLaw.row PySem.Challenge.rw_oy0101_03))) s) (XP := XL view3 read3) (Yf := Hook.obs $H) (Ya := Hook.val $H) (YP := Hook.says $H) (N := 1822) (by intro w; kernel_rfl) (Hook.of $H) (Hook.keeps $H) (fun s e => xl_of s (Bool.and_eq_true_iff.mp e).1) XL.keeps (by rfl) (by rfl) (by rfl) (fun s e => recFacts_of (Bool.and_eq_true_iff.mp e).2) (by rfl) (by assumption) (by decide +kernel) ⟨rfl, rfl, rfl, rfl, rfl, by decide +kernel⟩ ?$hw ?$hc))
local macro_rules | `(tactic| o_law) => `(tactic| refine holds_law (l := PySem.Challenge.rw_oy0101_03) road3 fun said => ?_)
set_option maxRecDepth 100000 in
set_option maxHeartbeats 8000000 in
open_top hd3 for PySem.Challenge.rw_oy0101_03
end Mine


/- WA -/
namespace Mine
inductive D where
  | none
  | bool (b : Bool)
  | int (i : Int)
  | str (s : Str)
  | bytes (b : Array UInt8)
  | list (ds : List D)
  | tup (ds : List D)
  | rng (a b c : Int)
  | opq (v : Value)

abbrev AEnv := List (Str × D)

def put : AEnv → Str → D → AEnv
  | [], x, d => [(x, d)]
  | (y, e) :: r, x, d => if y == x then (x, d) :: r else (y, e) :: put r x d

theorem lookup_put (ρ : AEnv) (x y : Str) (d : D) : (put ρ x d).lookup y = if y == x then some d else ρ.lookup y := by
  induction ρ with
  | nil => simp only [put, List.lookup]; cases y == x <;> rfl
  | cons p r ih =>
    obtain ⟨z, e⟩ := p
    simp only [put]
    by_cases hzx : z = x
    · subst hzx
      simp only [beq_self_eq_true, if_true, List.lookup]
      cases y == z <;> simp
    · have hb : (z == x) = false := by simpa using hzx
      simp only [hb, Bool.false_eq_true, if_false, List.lookup]
      cases hyz : y == z with
      | true =>
        have e1 : y = z := by simpa using hyz
        subst e1
        simp [hb]
      | false => simpa using ih

inductive PL (h : Heap) (a : Addr) (items : Array Value) : Prop where
  | mk (o : Obj) (n : Nat) (e : h.get? a = some o) (r : o.cls = .type "list" ∧ (o.dict = none ∧ o.slots = #[]) ∧ o.data = .seq items n)
theorem PL.isList {h : Heap} {a : Addr} {items : Array Value} (x : PL h a items) : h.IsList a items := let ⟨o, n, e, c, _, d⟩ := x; ⟨o, e, c, n, d⟩
theorem PL.plain {h : Heap} {a : Addr} {items : Array Value} (x : PL h a items) : h.PlainList a items := by
  obtain ⟨⟨c, dd, dt, sl⟩, n, e, h1, ⟨h2, h3⟩, h4⟩ := x
  simp only at h1 h2 h3 h4
  subst h1 h2 h3 h4
  exact ⟨n, e⟩
theorem PL.of {h : Heap} {a : Addr} {items : Array Value} (x : h.PlainList a items) : PL h a items := let ⟨n, e⟩ := x; ⟨_, n, e, rfl, ⟨rfl, rfl⟩, rfl⟩

def RngOk (a b c : Int) : Prop := (-(2 ^ 40) ≤ a ∧ a ≤ 2 ^ 40) ∧ (-(2 ^ 40) ≤ b ∧ b ≤ 2 ^ 40) ∧ (c = 1 ∨ c = -1)

mutual
inductive Rep (X : List Addr) (h : Heap) : Value → D → Prop where
  | none : Rep X h .none .none
  | bool {b : Bool} : Rep X h (.bool b) (.bool b)
  | int {i : Int} {t : Tok} : Rep X h (.int i t) (.int i)
  | str {x : Str} {t : Tok} : Rep X h (.str x t) (.str x)
  | bytes {b : Array UInt8} {t : Tok} : Rep X h (.bytes b t) (.bytes b)
  | list {a : Addr} {vs : List Value} {ds : List D} : a ∉ X → PL h a vs.toArray → vs.length ≤ sizeLine → Reps X h vs ds → Rep X h (.ref a) (.list ds)
  | tup {a : Addr} {vs : List Value} {ds : List D} : h.IsTuple a vs.toArray → Reps X h vs ds → Rep X h (.ref a) (.tup ds)
  | rng {r : Addr} {a b c : Int} {t u v : Tok} : IsRange h r a b c t u v → RngOk a b c → Rep X h (.ref r) (.rng a b c)
  | opq {v : Value} : Rep X h v (.opq v)
inductive Reps (X : List Addr) (h : Heap) : List Value → List D → Prop where
  | nil : Reps X h [] []
  | cons {v : Value} {vs : List Value} {d : D} {ds : List D} : Rep X h v d → Reps X h vs ds → Reps X h (v :: vs) (d :: ds)
end

structure Gx where
  prog : Program
  w : World
  K : Frag
  b : Heap
  s0 : Shared
  mg : Str → Option Value
  mb : Str → Option Value
  tabs : List (Addr × Addr)

abbrev Gx.Tb (g : Gx) : List Addr := g.tabs.map (·.2)
abbrev Gx.M (g : Gx) : Model := model g.prog g.w

structure GOk (g : Gx) : Prop where
  kin : g.K.In g.b
  nolimit : g.b.NoLimit
  globals : g.b.Ns mainGlobals g.mg
  builtins : g.b.Ns builtinsNs g.mb
  mbIs : ∀ x : Str, x ≠ "__name__" → g.mb x = bootBuiltins x
  codes : ∀ q ∈ g.tabs, CodeHd g.b q.1 q.2
  notab : ∀ t ∈ g.Tb, g.b.get? t = none
  bmain : ∃ bm ob, g.mg "__builtins__" = some (.ref bm) ∧ bm ≠ builtinsNs ∧ g.b.get? bm = some ob ∧ ob.cls = .type "module" ∧ ob.dict = some builtinsNs ∧ ob.data = .plain

inductive CodeAt (h : Heap) (cc : Addr) (qn : Str) : Prop where
  | mk (o : Obj) (vs : Array Value) (t : Tok) (e : h.get? cc = some o) (r : o.cls = .type "code" ∧ o.data = .fields vs ∧ vs[1]? = some (.str qn t))
def TabsOK (g : Gx) (h : Heap) : Prop := ∀ q ∈ g.tabs, ∃ ps, h.get? q.2 = some (tabObj ps) ∧ TriplesOk ps.toList ∧
  ∀ pos c', codeAmong pos ps.toList = some c' → ∃ cc qn, c' = .ref cc ∧ CodeAt h cc qn ∧ cc ∉ g.Tb

def Keep (g : Gx) (h h' : Heap) : Prop := ∀ a o, a ∉ g.Tb → h.get? a = some o → h'.get? a = some o

structure Inv (g : Gx) (s : Shared) : Prop where
  same : ∃ h tk, s = { g.s0 with heap := h, toks := tk }
  stays : g.b.StaysIn s.heap
  tabs : TabsOK g s.heap

variable {g : Gx}

theorem Keep.refl (h : Heap) : Keep g h h := fun _ _ _ e => e
theorem Keep.trans {h h' h'' : Heap} (x : Keep g h h') (y : Keep g h' h'') : Keep g h h'' := fun a o ha e => y a o ha (x a o ha e)
theorem Keep.of {h h' : Heap} (x : ∀ b o, h.get? b = some o → h'.get? b = some o) : Keep g h h' := fun a o _ e => x a o e

theorem TabsOK.of_keeps {h h' : Heap} (x : TabsOK g h) (k : ∀ b o, h.get? b = some o → h'.get? b = some o) : TabsOK g h' := fun q hq => by
  obtain ⟨ps, e, t, c⟩ := x q hq
  refine ⟨ps, k _ _ e, t, fun pos c' hc => ?_⟩
  obtain ⟨cc, qn, rfl, r, n⟩ := c pos c' hc
  obtain ⟨o, vs, t, z1, z2⟩ := r
  exact ⟨cc, qn, rfl, ⟨o, vs, t, k _ _ z1, z2⟩, n⟩

theorem Inv.of_keeps {s : Shared} (x : Inv g s) {h' : Heap} {tk : Nat} (k : ∀ b o, s.heap.get? b = some o → h'.get? b = some o) : Inv g { s with heap := h', toks := tk } := by
  obtain ⟨⟨h, t, e⟩, st, tb⟩ := x
  exact ⟨⟨h', tk, by rw [e]⟩, fun b o q => k b o (st b o q), tb.of_keeps k⟩
theorem Inv.tok {s : Shared} (x : Inv g s) (tk : Nat) : Inv g { s with toks := tk } := x.of_keeps (h' := s.heap) (tk := tk) fun _ _ e => e

theorem tab_cls {h : Heap} (t : TabsOK g h) {a : Addr} {o : Obj} (e : h.get? a = some o) (hc : o.cls ≠ .none) : a ∉ g.Tb := fun hm => by
  obtain ⟨q, hq, rfl⟩ := List.mem_map.mp hm
  obtain ⟨ps, e', _⟩ := t q hq
  rw [e] at e'; cases e'; exact hc rfl

def SeqO (X : List Addr) (a : Addr) (o : Obj) : Prop := (∃ xs n, o.data = .seq xs n ∧ (o.cls = .type "list" → a ∉ X)) ∨ (∃ vs, o.data = .fields vs ∧ o.cls = .type "range")
def Kin (X Y : List Addr) (h h' : Heap) : Prop := ∀ a o, h.get? a = some o → SeqO X a o → h'.get? a = some o ∧ (o.cls = .type "list" → a ∉ Y)
theorem kin_list {X Y : List Addr} {h h' : Heap} (k : Kin X Y h h') {a : Addr} {vs : List Value} {ds : List D} (ha : a ∉ X) (hl : PL h a vs.toArray) (hz : vs.length ≤ sizeLine) (hr : Reps Y h' vs ds) : Rep Y h' (.ref a) (.list ds) := by
  obtain ⟨o, n, e, c, dn, q⟩ := hl
  have w := k _ _ e (.inl ⟨_, _, q, fun _ => ha⟩)
  exact .list (w.2 c) ⟨o, n, w.1, c, dn, q⟩ hz hr
theorem kin_tup {X Y : List Addr} {h h' : Heap} (k : Kin X Y h h') {a : Addr} {vs : List Value} {ds : List D} (hl : h.IsTuple a vs.toArray) (hr : Reps Y h' vs ds) : Rep Y h' (.ref a) (.tup ds) := by
  obtain ⟨o, e, c, n, q⟩ := hl
  exact .tup ⟨o, (k _ _ e (.inl ⟨_, _, q, fun z => by rw [c] at z; simp at z⟩)).1, c, n, q⟩ hr
theorem Rep.map {X Y : List Addr} {h h' : Heap} (k : Kin X Y h h') {v : Value} {d : D} (r : Rep X h v d) : Rep Y h' v d :=
  Rep.rec (motive_1 := fun v d _ => Rep Y h' v d) (motive_2 := fun vs ds _ => Reps Y h' vs ds) .none .bool .int .str .bytes (fun ha hl hz _ ih => kin_list k ha hl hz ih) (fun hl _ ih => kin_tup k hl ih) (fun e q => .rng (k _ _ e (.inr ⟨_, rfl, rfl⟩)).1 q) .opq .nil (fun _ _ a b => .cons a b) r
theorem Reps.map {X Y : List Addr} {h h' : Heap} (k : Kin X Y h h') : ∀ {vs : List Value} {ds : List D}, Reps X h vs ds → Reps Y h' vs ds
  | [], _, .nil => .nil
  | _ :: _, _, .cons a b => .cons (Rep.map k a) (Reps.map k b)
theorem SeqO.notab {X : List Addr} {a : Addr} {o : Obj} {h : Heap} (t : TabsOK g h) (e : h.get? a = some o) (q : SeqO X a o) : a ∉ g.Tb := fun m => by
  obtain ⟨p, hp, rfl⟩ := List.mem_map.mp m
  obtain ⟨ps, e', _⟩ := t p hp
  rw [e] at e'; cases e'
  rcases q with ⟨xs, n, e, _⟩ | ⟨vs, _, e⟩ <;> cases e
theorem SeqO.nin {X : List Addr} {a : Addr} {o : Obj} (q : SeqO X a o) (c : o.cls = .type "list") : a ∉ X := by
  rcases q with ⟨xs, n, _, z⟩ | ⟨vs, _, e⟩
  · exact z c
  · rw [e] at c; simp at c
theorem kin_keep {X : List Addr} {h h' : Heap} (t : TabsOK g h) (k : Keep g h h') : Kin X X h h' := fun a o e q => ⟨k a o (q.notab t e) e, q.nin⟩
theorem Rep.keep {X : List Addr} {h h' : Heap} (t : TabsOK g h) (k : Keep g h h') {v : Value} {d : D} (r : Rep X h v d) : Rep X h' v d := r.map (kin_keep t k)
theorem Reps.keep {X : List Addr} {h h' : Heap} (t : TabsOK g h) (k : Keep g h h') {vs : List Value} {ds : List D} (r : Reps X h vs ds) : Reps X h' vs ds := r.map (kin_keep t k)
theorem Rep.mono {X Y : List Addr} {h : Heap} (q : ∀ a ∈ Y, a ∈ X) {v : Value} {d : D} (r : Rep X h v d) : Rep Y h v d := r.map fun a o e z => ⟨e, fun c m => z.nin c (q a m)⟩
theorem Reps.mono {X Y : List Addr} {h : Heap} (q : ∀ a ∈ Y, a ∈ X) {vs : List Value} {ds : List D} (r : Reps X h vs ds) : Reps Y h vs ds := r.map fun a o e z => ⟨e, fun c m => z.nin c (q a m)⟩

theorem Reps.length {X : List Addr} {h : Heap} : ∀ {vs : List Value} {ds : List D}, Reps X h vs ds → vs.length = ds.length
  | _, _, .nil => rfl
  | _, _, .cons _ r => by simp [Reps.length r]
theorem Reps.get {X : List Addr} {h : Heap} : ∀ {vs : List Value} {ds : List D} (_ : Reps X h vs ds) (i : Nat) {v : Value}, vs[i]? = some v → ∃ d, ds[i]? = some d ∧ Rep X h v d
  | _, _, .nil, i, v, e => by simp at e
  | _, _, .cons a r, 0, v, e => by simp at e; subst e; exact ⟨_, by simp, a⟩
  | _, _, .cons a r, i + 1, v, e => by simp at e; obtain ⟨d, h1, h2⟩ := Reps.get r i e; exact ⟨d, by simpa using h1, h2⟩
theorem Reps.get' {X : List Addr} {h : Heap} {vs : List Value} {ds : List D} (r : Reps X h vs ds) (i : Nat) {d : D} (e : ds[i]? = some d) : ∃ v, vs[i]? = some v ∧ Rep X h v d := by
  have hi : i < vs.length := by rw [r.length]; exact (List.getElem?_eq_some_iff.mp e).1
  obtain ⟨d', h1, h2⟩ := r.get i (List.getElem?_eq_getElem hi)
  rw [e] at h1; cases h1
  exact ⟨_, List.getElem?_eq_getElem hi, h2⟩
theorem Reps.append {X : List Addr} {h : Heap} : ∀ {vs us : List Value} {ds es : List D}, Reps X h vs ds → Reps X h us es → Reps X h (vs ++ us) (ds ++ es)
  | _, _, _, _, .nil, r => r
  | _, _, _, _, .cons a q, r => .cons a (Reps.append q r)
theorem Reps.ints {X : List Addr} {h : Heap} : ∀ {vs : List Value} {ns : List Int}, Reps X h vs (ns.map .int) → IntsAre vs ns
  | [], [], _ => .nil
  | v :: vs, n :: ns, .cons a r => by
    cases a
    exact .cons _ _ (Reps.ints r)

structure AOk (ℓ : Nat) (A : Around) : Prop where
  handled : A.handled = none
  depth : A.depth + ℓ < recursionLimit
  units : A.units + 8 * ℓ + 100 ≤ cLine

structure FI where
  sc : Scope
  cd : Value
  oc : List Str := (sc.names.filter (·.2 == .cell)).map (·.1)

structure EnvOK (fi : FI) (env : Env) : Prop where
  kind : env.scope.kind = .function
  glob : env.globals = mainGlobals
  blt : env.builtins = builtinsNs
  code : env.code = fi.cd
  kinds : ∀ x, env.kindOf x = fi.sc.names.lookup x

def VarAt (h : Heap) (env : Env) (x : Str) (v : Value) : Prop :=
  (env.kindOf x = some .local ∧ ∃ m, h.Ns env.locals m ∧ m x = some v) ∨
  ((env.kindOf x = some .cell ∨ env.kindOf x = some .free) ∧ ∃ c, env.cells.lookup x = some c ∧ h.IsCell c (some v))

structure FrameR (X : List Addr) (h : Heap) (env : Env) (ρ : AEnv) : Prop where
  vars : ∀ x d, ρ.lookup x = some d → ∃ v, VarAt h env x v ∧ Rep X h v d
  cel : ∀ x, env.kindOf x = some .cell ∨ env.kindOf x = some .free → ∃ c v, env.cells.lookup x = some c ∧ h.IsCell c v

def XOk (g : Gx) (X : List Addr) (h : Heap) : Prop := ∀ a ∈ X, (∃ o, h.get? a = some o ∧ o.cls = .type "list" ∧ ∃ its k, o.data = .seq its k) ∧ a ∉ g.Tb ∧ g.b.get? a = none

structure Post (g : Gx) (X : List Addr) (s : Shared) (d : D) (v : Value) (s' : Shared) : Prop where
  inv : Inv g s'
  keep : Keep g s.heap s'.heap
  rep : Rep X s'.heap v d

def NoE : Value → Shared → Prop := fun _ _ => False

def Ev (g : Gx) (ℓ : Nat) (fi : FI) (ρ : AEnv) (e : Expr) (d : D) : Prop :=
  ∀ A X env s, AOk ℓ A → Inv g s → EnvOK fi env → XOk g X s.heap → FrameR X s.heap env ρ → wpAny g.M A (eval e env) (Post g X s d) NoE s

theorem Rep.opq' {X : List Addr} {h : Heap} {v w : Value} (r : Rep X h v (.opq w)) : v = w := by cases r; rfl
theorem Rep.int' {X : List Addr} {h : Heap} {v : Value} {i : Int} (r : Rep X h v (.int i)) : ∃ t, v = .int i t := by cases r; exact ⟨_, rfl⟩
theorem Rep.bool' {X : List Addr} {h : Heap} {v : Value} {b : Bool} (r : Rep X h v (.bool b)) : v = .bool b := by cases r; rfl
theorem Rep.str' {X : List Addr} {h : Heap} {v : Value} {x : Str} (r : Rep X h v (.str x)) : ∃ t, v = .str x t := by cases r; exact ⟨_, rfl⟩
theorem Rep.bytes' {X : List Addr} {h : Heap} {v : Value} {b : Array UInt8} (r : Rep X h v (.bytes b)) : ∃ t, v = .bytes b t := by cases r; exact ⟨_, rfl⟩
theorem Reps.nil' {X : List Addr} {h : Heap} {vs : List Value} (r : Reps X h vs []) : vs = [] := by cases r; rfl
theorem XOk.keep {X : List Addr} {h h' : Heap} (x : XOk g X h) (k : Keep g h h') : XOk g X h' := fun a ha => let ⟨⟨o, e, q⟩, n⟩ := x a ha; ⟨⟨o, k _ _ n.1 e, q⟩, n⟩

theorem IsCell.apart {h : Heap} (t : TabsOK g h) {c : Addr} {v : Option Value} (x : h.IsCell c v) : c ∉ g.Tb := fun hm => by
  obtain ⟨q, hq, rfl⟩ := List.mem_map.mp hm
  obtain ⟨ps, e', _⟩ := t q hq
  obtain ⟨o, e, d⟩ := x
  rw [e'] at e; cases e; cases d
theorem Ns.apart {h : Heap} (t : TabsOK g h) {c : Addr} {m : Str → Option Value} (x : h.Ns c m) : c ∉ g.Tb := fun hm => by
  obtain ⟨q, hq, rfl⟩ := List.mem_map.mp hm
  obtain ⟨ps, e', _⟩ := t q hq
  obtain ⟨o, es, ep, e, d, _⟩ := x
  rw [e'] at e; cases e; cases d

theorem VarAt.keep {h h' : Heap} (t : TabsOK g h) (k : Keep g h h') {env : Env} {x : Str} {v : Value} (a : VarAt h env x v) : VarAt h' env x v := by
  rcases a with ⟨hk, m, hn, hm⟩ | ⟨hk, c, hc, hv⟩
  · exact .inl ⟨hk, m, hn.at' fun o e => k _ _ (Ns.apart t hn) e, hm⟩
  · refine .inr ⟨hk, c, hc, ?_⟩
    obtain ⟨o, e, d⟩ := id hv
    exact ⟨o, k _ _ (IsCell.apart t hv) e, d⟩
theorem FrameR.keep {X : List Addr} {h h' : Heap} (t : TabsOK g h) (k : Keep g h h') {env : Env} {ρ : AEnv} (f : FrameR X h env ρ) : FrameR X h' env ρ := ⟨fun x d e =>
  let ⟨v, a, r⟩ := f.vars x d e; ⟨v, a.keep t k, r.keep t k⟩, fun x hx => by
  obtain ⟨c, v, hc, hv⟩ := f.cel x hx
  obtain ⟨o, e, d⟩ := id hv
  exact ⟨c, v, hc, o, k _ _ (IsCell.apart t hv) e, d⟩⟩

theorem wpE {α : Type} {M : Model} {A : Around} {t : Sem α} {Q : α → Shared → Prop} {E : Value → Shared → Prop} {s : Shared} (h : wpAny M A t Q NoE s) : wpAny M A t Q E s :=
  wpAny_mono h (fun _ _ q => q) fun _ _ q => q.elim
theorem wpQ {α : Type} {M : Model} {A : Around} {t : Sem α} {Q Q' : α → Shared → Prop} {E : Value → Shared → Prop} {s : Shared} (h : wpAny M A t Q NoE s) (q : ∀ a s', Q a s' → Q' a s') : wpAny M A t Q' E s :=
  wpAny_mono h q fun _ _ q => q.elim

theorem Ev.cast {ℓ : Nat} {fi : FI} {ρ : AEnv} {e : Expr} {d d' : D} (h : Ev g ℓ fi ρ e d) (q : d = d') : Ev g ℓ fi ρ e d' := q ▸ h

theorem Post.tok {X : List Addr} {s : Shared} {d : D} {v : Value} (i : Inv g s) (r : Rep X s.heap v d) (tk : Nat) : Post g X s d v { s with toks := tk } := ⟨i.tok tk, Keep.refl _, r⟩
theorem Post.same {X : List Addr} {s : Shared} {d : D} {v : Value} (i : Inv g s) (r : Rep X s.heap v d) : Post g X s d v s := ⟨i, Keep.refl _, r⟩
theorem Post.more {X : List Addr} {s s₁ s' : Shared} {d : D} {v : Value} (k : Keep g s.heap s₁.heap) (p : Post g X s₁ d v s') : Post g X s d v s' := ⟨p.1, k.trans p.2, p.3⟩
end Mine


/- WB -/
namespace Mine
variable {g : Gx} {ℓ : Nat} {fi : FI} {ρ : AEnv}

def Op2 (g : Gx) (t : Value → Value → Sem Value) (a b d : D) : Prop :=
  ∀ ℓ A X s va vb, AOk ℓ A → Inv g s → XOk g X s.heap → Rep X s.heap va a → Rep X s.heap vb b → wpAny g.M A (t va vb) (Post g X s d) NoE s

structure PostB (g : Gx) (s : Shared) (c : Bool) (b : Bool) (s' : Shared) : Prop where
  eq : b = c
  inv : Inv g s'
  keep : Keep g s.heap s'.heap
def Tst (g : Gx) (ℓ : Nat) (fi : FI) (ρ : AEnv) (e : Expr) (c : Bool) : Prop :=
  ∀ A X env s, AOk ℓ A → Inv g s → EnvOK fi env → XOk g X s.heap → FrameR X s.heap env ρ → wpAny g.M A (isTrue e env (eval e env)) (PostB g s c) NoE s
structure PostL (g : Gx) (X : List Addr) (s : Shared) (ds : List D) (vs : List Value) (s' : Shared) : Prop where
  inv : Inv g s'
  keep : Keep g s.heap s'.heap
  rep : Reps X s'.heap vs ds
def Evs (g : Gx) (ℓ : Nat) (fi : FI) (ρ : AEnv) (es : List Expr) (ds : List D) : Prop :=
  ∀ A X env s pos, AOk ℓ A → Inv g s → EnvOK fi env → XOk g X s.heap → FrameR X s.heap env ρ → wpAny g.M A (spliced (backTo pos (starEach es env))) (PostL g X s ds) NoE s

theorem Tst.cast {e : Expr} {c c' : Bool} (h : Tst g ℓ fi ρ e c) (q : c = c') : Tst g ℓ fi ρ e c' := q ▸ h

def okName (x : Str) : Bool := !(x == ("__debug__" : Str)) && !(x == ("__classdict__" : Str))

theorem Ev.var {x : Str} {pos : Pos} {d : D} (h : ρ.lookup x = some d) (hn : okName x = true := by decide) : Ev g ℓ fi ρ (.Name x pos) d := by
  intro A X env s hA hI hE hX hF
  simp only [okName, Bool.and_eq_true, Bool.not_eq_true'] at hn
  obtain ⟨v, hv, hr⟩ := hF.vars x d h
  refine wpAny_Name ?_ hn.1
  rcases hv with ⟨hk, m, hns, hm⟩ | ⟨hk, c, hc, hcell⟩
  · exact wpAny_loadName_local hE.kind hk hns hm (Post.same hI hr)
  · rcases hk with hk | hk
    · exact wpAny_loadName_cell hE.kind hk hc hcell (Post.same hI hr)
    · exact wpAny_loadName_free hE.kind hk hc hcell (Post.same hI hr) hn.2

theorem Ev.int {i : Int} {k : Nat} {pos : Pos} : Ev g ℓ fi ρ (.Constant (.int i) k pos) (.int i) := fun _ _ _ s _ hI _ _ _ => wpAny_Constant_int (Post.tok hI .int _)
theorem Ev.str {x : Str} {k : Nat} {pos : Pos} : Ev g ℓ fi ρ (.Constant (.str x) k pos) (.str x) := fun _ _ _ s _ hI _ _ _ => wpAny_Constant_str (Post.tok hI .str _)
theorem ev2 {A : Around} {X : List Addr} {env : Env} {s : Shared} {l r : Expr} {a b : D} {t : Value → Value → Sem Value} {d : D} (hl : Ev g ℓ fi ρ l a) (hr : Ev g ℓ fi ρ r b) (ht : Op2 g t a b d)
    (hA : AOk ℓ A) (hI : Inv g s) (hE : EnvOK fi env) (hX : XOk g X s.heap) (hF : FrameR X s.heap env ρ) :
    wpAny g.M A (eval l env) (fun va s₁ => wpAny g.M A (eval r env) (fun vb s₂ => wpAny g.M A (t va vb) (Post g X s d) NoE s₂) NoE s₁) NoE s := by
  refine wpQ (hl A X env s hA hI hE hX hF) fun va s₁ ⟨i1, k1, r1⟩ => ?_
  refine wpQ (hr A X env s₁ hA i1 hE (hX.keep k1) (hF.keep hI.tabs k1)) fun vb s₂ ⟨i2, k2, r2⟩ => ?_
  exact wpQ (ht ℓ A X s₂ va vb hA i2 ((hX.keep k1).keep k2) (r1.keep i1.tabs k2) r2) fun v s' p => p.more (k1.trans k2)

theorem Ev.bin {l r : Expr} {op : Operator} {pos : Pos} {a b d : D} (hl : Ev g ℓ fi ρ l a) (hr : Ev g ℓ fi ρ r b) (ht : Op2 g (binaryOp op) a b d) : Ev g ℓ fi ρ (.BinOp l op r pos) d :=
  fun _ _ _ _ hA hI hE hX hF => wpAny_BinOp (ev2 hl hr ht hA hI hE hX hF)
theorem Ev.cmp {l r : Expr} {op : CmpOp} {pos : Pos} {a b d : D} (hl : Ev g ℓ fi ρ l a) (hr : Ev g ℓ fi ρ r b) (ht : Op2 g (compareOp op) a b d)
    (hm : behindInMarks op r = false := by with_unfolding_all rfl) : Ev g ℓ fi ρ (.Compare l [op] [r] pos) d :=
  fun _ _ _ _ hA hI hE hX hF => wpAny_Compare1 (ev2 hl hr ht hA hI hE hX hF) hm

theorem Tst.cmp {l r : Expr} {op : CmpOp} {pos : Pos} {a b : D} {c : Bool} (hl : Ev g ℓ fi ρ l a) (hr : Ev g ℓ fi ρ r b) (ht : Op2 g (compareOp op) a b (.bool c))
    (hm : behindInMarks op r = false := by with_unfolding_all rfl) : Tst g ℓ fi ρ (.Compare l [op] [r] pos) c := by
  intro A X env s hA hI hE hX hF
  refine wpAny_isTrue_Compare1 ?_ hm
  refine wpQ (hl A X env s hA hI hE hX hF) fun va s₁ ⟨i1, k1, r1⟩ => ?_
  refine wpQ (hr A X env s₁ hA i1 hE (hX.keep k1) (hF.keep hI.tabs k1)) fun vb s₂ ⟨i2, k2, r2⟩ => ?_
  refine wpQ (ht ℓ A X s₂ va vb hA i2 ((hX.keep k1).keep k2) (r1.keep i1.tabs k2) r2) fun v s₃ ⟨i3, k3, r3⟩ => ?_
  obtain rfl := r3.bool'
  exact wpAny_truthy_bool ⟨rfl, i3, (k1.trans k2).trans k3⟩

theorem Tst.not {x : Expr} {pos : Pos} {c : Bool} (h : Tst g ℓ fi ρ x c) : Tst g ℓ fi ρ (.UnaryOp .Not x pos) (!c) := fun A X env s hA hI hE hX hF =>
  wpAny_isTrue_Not (wpQ (h A X env s hA hI hE hX hF) fun b s' ⟨e, r1, r2⟩ => ⟨by rw [e], r1, r2⟩)

def TstAll (g : Gx) (ℓ : Nat) (fi : FI) (ρ : AEnv) (op : BoolOp) (es : List Expr) (c : Bool) : Prop :=
  ∀ A X env s, AOk ℓ A → Inv g s → EnvOK fi env → XOk g X s.heap → FrameR X s.heap env ρ → wpAny g.M A (allTrue op es env) (PostB g s c) NoE s
theorem TstAll.and_nil : TstAll g ℓ fi ρ .And [] true := fun A X env s hA hI hE hX hF => wpAny_allTrue_And_nil ⟨rfl, hI, Keep.refl _⟩
theorem TstAll.or_nil : TstAll g ℓ fi ρ .Or [] false := fun A X env s hA hI hE hX hF => wpAny_allTrue_Or_nil ⟨rfl, hI, Keep.refl _⟩
theorem TstAll.and_cons {e : Expr} {es : List Expr} {c c' : Bool} (h : Tst g ℓ fi ρ e c) (h' : c = true → TstAll g ℓ fi ρ .And es c') : TstAll g ℓ fi ρ .And (e :: es) (c && c') := by
  intro A X env s hA hI hE hX hF
  refine wpAny_allTrue_And_cons (wpQ (h A X env s hA hI hE hX hF) fun b s₁ ⟨e, i, k⟩ => ?_)
  subst e
  cases b with
  | false => exact ⟨rfl, i, k⟩
  | true => exact wpQ (h' rfl A X env s₁ hA i hE (hX.keep k) (hF.keep hI.tabs k)) fun b s₂ ⟨e, i', k'⟩ => ⟨by simp [e], i', k.trans k'⟩
theorem TstAll.or_cons {e : Expr} {es : List Expr} {c c' : Bool} (h : Tst g ℓ fi ρ e c) (h' : c = false → TstAll g ℓ fi ρ .Or es c') : TstAll g ℓ fi ρ .Or (e :: es) (c || c') := by
  intro A X env s hA hI hE hX hF
  refine wpAny_allTrue_Or_cons (wpQ (h A X env s hA hI hE hX hF) fun b s₁ ⟨e, i, k⟩ => ?_)
  subst e
  cases b with
  | true => exact ⟨rfl, i, k⟩
  | false => exact wpQ (h' rfl A X env s₁ hA i hE (hX.keep k) (hF.keep hI.tabs k)) fun b s₂ ⟨e, i', k'⟩ => ⟨by simp [e], i', k.trans k'⟩
theorem Tst.boolop {op : BoolOp} {es : List Expr} {pos : Pos} {c : Bool} (h : TstAll g ℓ fi ρ op es c) : Tst g ℓ fi ρ (.BoolOp op es pos) c := fun A X env s hA hI hE hX hF => wpAny_isTrue_BoolOp (h A X env s hA hI hE hX hF)

def TrOK (g : Gx) (a : D) (c : Bool) : Prop := ∀ ℓ A X s va, AOk ℓ A → Inv g s → XOk g X s.heap → Rep X s.heap va a → wpAny g.M A (truthy va) (PostB g s c) NoE s
theorem TrOK.bool {b : Bool} : TrOK g (.bool b) b := fun _ _ _ _ _ _ hI _ hr => by cases hr; exact wpAny_truthy_bool ⟨rfl, hI, Keep.refl _⟩

theorem Tst.val {e : Expr} {a : D} {c : Bool} (h : Ev g ℓ fi ρ e a) (ht : TrOK g a c) (he : ∀ env whole, isTrue e env whole = (do let v ← whole; standAt e.pos; holding [v] (truthy v)) := by intro _ _; rfl) : Tst g ℓ fi ρ e c := by
  intro A X env s hA hI hE hX hF
  refine wpAny_isTrue_value ?_ (he _ _)
  refine wpQ (h A X env s hA hI hE hX hF) fun va s₁ ⟨i1, k1, r1⟩ => ?_
  exact wpQ (ht ℓ A X s₁ va hA i1 (hX.keep k1) r1) fun b s₂ ⟨e, i', k'⟩ => ⟨e, i', k1.trans k'⟩

theorem Ev.ifexp {t b o : Expr} {pos : Pos} {c : Bool} {d : D} (h : Tst g ℓ fi ρ t c) (h1 : c = true → Ev g ℓ fi ρ b d) (h2 : c = false → Ev g ℓ fi ρ o d) : Ev g ℓ fi ρ (.IfExp t b o pos) d := by
  intro A X env s hA hI hE hX hF
  refine wpAny_IfExp (wpQ (h A X env s hA hI hE hX hF) fun q s₁ ⟨e, i, k⟩ => ?_)
  subst e
  cases q with
  | true => exact wpQ (h1 rfl A X env s₁ hA i hE (hX.keep k) (hF.keep hI.tabs k)) fun v s' p => p.more k
  | false => exact wpQ (h2 rfl A X env s₁ hA i hE (hX.keep k) (hF.keep hI.tabs k)) fun v s' p => p.more k

theorem Evs.nil : Evs g ℓ fi ρ [] [] := fun A X env s pos hA hI hE hX hF => wpAny_items_nil ⟨hI, Keep.refl _, .nil⟩
theorem Evs.cons {e : Expr} {es : List Expr} {d : D} {ds : List D} (h : Ev g ℓ fi ρ e d) (h' : Evs g ℓ fi ρ es ds) (he : ∀ env, starEach (e :: es) env = (false, eval e env) :: starEach es env := by intro _; rfl) : Evs g ℓ fi ρ (e :: es) (d :: ds) := by
  intro A X env s pos hA hI hE hX hF
  refine wpAny_items_cons ?_ (he env)
  refine wpQ (h A X env s hA hI hE hX hF) fun va s₁ ⟨i1, k1, r1⟩ => ?_
  exact wpQ (h' A X env s₁ pos hA i1 hE (hX.keep k1) (hF.keep hI.tabs k1)) fun vs s₂ ⟨i2, k2, r2⟩ => ⟨i2, k1.trans k2, .cons (r1.keep i1.tabs k2) r2⟩

theorem push_keeps (h : Heap) (o : Obj) : ∀ b o', h.get? b = some o' → (h.push o).get? b = some o' := fun _ _ e => Heap.get?_push_of_some _ e
theorem fresh_none (h : Heap) : h.get? h.objs.size = none := by
  cases e : h.get? h.objs.size with
  | none => rfl
  | some o => exact absurd (Heap.lt_size e) (Nat.lt_irrefl _)
theorem XOk.fresh {X : List Addr} {h : Heap} (x : XOk g X h) {a : Addr} (e : h.get? a = none) : a ∉ X := fun m => by
  obtain ⟨⟨o, q, _⟩, _⟩ := x a m
  rw [e] at q; cases q

theorem Post.newList {X : List Addr} {s s₁ : Shared} {vs : List Value} {ds : List D} (hX : XOk g X s₁.heap) (i : Inv g s₁) (k : Keep g s.heap s₁.heap) (r : Reps X s₁.heap vs ds) (hz : vs.length ≤ sizeLine) :
    Post g X s (.list ds) (.ref s₁.heap.objs.size) { s₁ with heap := s₁.heap.push { cls := .type "list", data := .seq vs.toArray } } := by
  have kk := push_keeps s₁.heap { cls := .type "list", data := .seq vs.toArray }
  refine ⟨i.of_keeps (tk := s₁.toks) kk, k.trans (Keep.of kk), .list (hX.fresh (fresh_none _)) ⟨_, _, Heap.get?_push_size _ rfl, rfl, ⟨rfl, rfl⟩, rfl⟩ hz (r.keep i.tabs (Keep.of kk))⟩
theorem Post.newTuple {X : List Addr} {s s₁ : Shared} {vs : List Value} {ds : List D} (i : Inv g s₁) (k : Keep g s.heap s₁.heap) (r : Reps X s₁.heap vs ds) :
    Post g X s (.tup ds) (.ref s₁.heap.objs.size) { s₁ with heap := s₁.heap.push { cls := .type "tuple", data := .seq vs.toArray } } := by
  have kk := push_keeps s₁.heap { cls := .type "tuple", data := .seq vs.toArray }
  exact ⟨i.of_keeps (tk := s₁.toks) kk, k.trans (Keep.of kk), .tup ⟨_, Heap.get?_push_size _ rfl, rfl, _, rfl⟩ (r.keep i.tabs (Keep.of kk))⟩

theorem Ev.list {es : List Expr} {pos : Pos} {ds : List D} (h : Evs g ℓ fi ρ es ds) (hz : ds.length ≤ sizeLine := by decide) : Ev g ℓ fi ρ (.List es pos) (.list ds) := by
  intro A X env s hA hI hE hX hF
  refine wpAny_List (wpQ (h A X env s pos hA hI hE hX hF) fun vs s₁ ⟨i1, k1, r1⟩ => ?_)
  have hz' : vs.length ≤ sizeLine := by rw [r1.length]; exact hz
  exact ⟨hz', Post.newList (hX.keep k1) i1 k1 r1 hz'⟩
theorem Ev.tup {es : List Expr} {k : Nat} {pos : Pos} {ds : List D} (h : Evs g ℓ fi ρ es ds) (hz : ds.length ≤ sizeLine := by decide) : Ev g ℓ fi ρ (.Tuple es k pos) (.tup ds) := by
  intro A X env s hA hI hE hX hF
  refine wpAny_Tuple (wpQ (h A X env s pos hA hI hE hX hF) fun vs s₁ ⟨i1, k1, r1⟩ => ?_)
  exact ⟨by rw [r1.length]; exact hz, Post.newTuple i1 k1 r1⟩
end Mine


/- WC -/
namespace Mine
variable {g : Gx}

section pInts
variable {a b : Int}
theorem Op2.add : Op2 g (binaryOp .Add) (.int a) (.int b) (.int (a + b)) := fun _ _ _ s _ _ _ hI _ h1 h2 => by obtain ⟨_, rfl⟩ := h1.int'; obtain ⟨_, rfl⟩ := h2.int'; exact PyProof.Rows.add_int (Post.tok hI .int _)
theorem Op2.sub : Op2 g (binaryOp .Sub) (.int a) (.int b) (.int (a - b)) := fun _ _ _ s _ _ _ hI _ h1 h2 => by obtain ⟨_, rfl⟩ := h1.int'; obtain ⟨_, rfl⟩ := h2.int'; exact PyProof.Rows.sub_int' (Post.tok hI .int _)
theorem Op2.mul (hm : IntMulOk a b) : Op2 g (binaryOp .Mult) (.int a) (.int b) (.int (a * b)) := fun _ _ _ s _ _ _ hI _ h1 h2 => by obtain ⟨_, rfl⟩ := h1.int'; obtain ⟨_, rfl⟩ := h2.int'; exact PySem.AutoIntOps.mul_0 (Post.tok hI .int _) hm
theorem Op2.mulL (h1 : -(2 ^ 64) < a) (h2 : a < 2 ^ 64) : Op2 g (binaryOp .Mult) (.int a) (.int b) (.int (a * b)) := Op2.mul (.of_left (intBits_le_64 h1 h2))
theorem Op2.mulR (h1 : -(2 ^ 64) < b) (h2 : b < 2 ^ 64) : Op2 g (binaryOp .Mult) (.int a) (.int b) (.int (a * b)) := Op2.mul (.of_right (intBits_le_64 h1 h2))
theorem Op2.fdiv (h0 : 0 < b) (h1 : b < 1073741824) : Op2 g (binaryOp .FloorDiv) (.int a) (.int b) (.int (a / b)) := fun _ _ _ s _ _ _ hI _ q1 q2 => by
  obtain ⟨_, rfl⟩ := q1.int'; obtain ⟨_, rfl⟩ := q2.int'
  refine PyProof.Rows.floordiv_int (by lia) ?_ (.inl (PyProof.noPylong_small (by lia)))
  rw [Int.fdiv_eq_ediv_of_nonneg _ (by lia)]
  exact Post.tok hI .int _
theorem Op2.fmod (h0 : 0 < b) : Op2 g (binaryOp .Mod) (.int a) (.int b) (.int (a % b)) := fun _ _ _ s _ _ _ hI _ q1 q2 => by
  obtain ⟨_, rfl⟩ := q1.int'; obtain ⟨_, rfl⟩ := q2.int'
  refine PyProof.Rows.mod_int' (by lia) ?_
  rw [Int.fmod_eq_emod_of_nonneg _ (by lia)]
  exact Post.tok hI .int _
theorem Op2.pow (h0 : 0 ≤ b) (h1 : b ≤ 1000000) (ha : a.natAbs < 2 ^ 64) : Op2 g (binaryOp .Pow) (.int a) (.int b) (.int (a ^ b.toNat)) := fun _ _ _ s _ _ _ hI _ q1 q2 => by
  obtain ⟨_, rfl⟩ := q1.int'; obtain ⟨_, rfl⟩ := q2.int'; exact PyProof.Rows.pow_int_small h0 h1 ha (Post.tok hI .int _)
theorem Op2.and : Op2 g (binaryOp .BitAnd) (.int a) (.int b) (.int (Builtin.bitAnd a b)) := fun _ _ _ s _ _ _ hI _ h1 h2 => by obtain ⟨_, rfl⟩ := h1.int'; obtain ⟨_, rfl⟩ := h2.int'; exact PyProof.Rows.and_int (Post.tok hI .int _)
theorem Op2.eqI : Op2 g (compareOp .Eq) (.int a) (.int b) (.bool (a == b)) := fun _ _ _ s _ _ _ hI _ h1 h2 => by obtain ⟨_, rfl⟩ := h1.int'; obtain ⟨_, rfl⟩ := h2.int'; exact PyProof.Rows.eq_int (Post.same hI .bool)
theorem Op2.neI : Op2 g (compareOp .NotEq) (.int a) (.int b) (.bool (a != b)) := fun _ _ _ s _ _ _ hI _ h1 h2 => by obtain ⟨_, rfl⟩ := h1.int'; obtain ⟨_, rfl⟩ := h2.int'; exact PyProof.Rows.ne_int (Post.same hI .bool)
theorem Op2.ltI : Op2 g (compareOp .Lt) (.int a) (.int b) (.bool (decide (a < b))) := fun _ _ _ s _ _ _ hI _ h1 h2 => by obtain ⟨_, rfl⟩ := h1.int'; obtain ⟨_, rfl⟩ := h2.int'; exact PyProof.Rows.lt_int (Post.same hI .bool)
theorem Op2.geI : Op2 g (compareOp .GtE) (.int a) (.int b) (.bool (decide (b ≤ a))) := fun _ _ _ s _ _ _ hI _ h1 h2 => by obtain ⟨_, rfl⟩ := h1.int'; obtain ⟨_, rfl⟩ := h2.int'; exact PyProof.Rows.ge_int (Post.same hI .bool)
end pInts

theorem Op2.addS {x y : Str} (hz : x.length + y.length ≤ sizeLine) : Op2 g (binaryOp .Add) (.str x) (.str y) (.str (x ++ y)) := fun _ _ _ s _ _ _ hI _ h1 h2 => by
  obtain ⟨_, rfl⟩ := h1.str'; obtain ⟨_, rfl⟩ := h2.str'; exact PyProof.Rows.add_str (fun t' tk => Post.tok hI .str _) hz
theorem Op2.iaddS {x y : Str} (hz : x.length + y.length ≤ sizeLine) : Op2 g (inplaceOp .Add) (.str x) (.str y) (.str (x ++ y)) := fun _ _ _ s _ _ _ hI _ h1 h2 => by
  obtain ⟨_, rfl⟩ := h1.str'; obtain ⟨_, rfl⟩ := h2.str'; exact PyProof.Rows.iadd_str (fun t' tk => Post.tok hI .str _) hz
theorem Op2.iadd {a b : Int} : Op2 g (inplaceOp .Add) (.int a) (.int b) (.int (a + b)) := fun _ _ _ s _ _ _ hI _ h1 h2 => by obtain ⟨_, rfl⟩ := h1.int'; obtain ⟨_, rfl⟩ := h2.int'; exact PyProof.Rows.iadd_int (Post.tok hI .int _)
theorem Op2.addL {xs ys : List D} (hz : xs.length + ys.length ≤ sizeLine) : Op2 g (binaryOp .Add) (.list xs) (.list ys) (.list (xs ++ ys)) := by
  intro ℓ A X s va vb hA hI hX h1 h2
  obtain ⟨na, hl, z1, r1⟩ : ∃ l vs, va = .ref l ∧ l ∉ X ∧ s.heap.IsList l (vs : List Value).toArray ∧ Reps X s.heap vs xs := by
    cases h1 with | list a b c d => exact ⟨_, _, rfl, a, b.isList, d⟩
  obtain ⟨vs, rfl, na, hl, r1⟩ := (⟨hl, z1, r1⟩ : ∃ vs, va = .ref na ∧ na ∉ X ∧ s.heap.IsList na (vs : List Value).toArray ∧ Reps X s.heap vs xs)
  obtain ⟨b, ws, rfl, nb, hb, r2⟩ : ∃ l vs, vb = .ref l ∧ l ∉ X ∧ s.heap.IsList l (vs : List Value).toArray ∧ Reps X s.heap vs ys := by
    cases h2 with | list a b c d => exact ⟨_, _, rfl, a, b.isList, d⟩
  obtain ⟨⟨cls, dd, data, sl⟩, ho, hc, n, hd⟩ := id hl
  obtain ⟨⟨cls2, dd2, data2, sl2⟩, ho2, hc2, n2, hd2⟩ := id hb
  simp only at hc hd hc2 hd2
  subst hc hd hc2 hd2
  have hz' : vs.length + ws.length ≤ sizeLine := by rw [r1.length, r2.length]; exact hz
  have e : vs.toArray ++ ws.toArray = (vs ++ ws).toArray := by simp
  refine concat_meets ⟨_, ho, rfl⟩ ⟨_, ho2, rfl⟩ noFill_list_add seq_list_add PySem.F.slot_list_add PySem.F.entry_list_add (PySem.F.args_list_add_2 _ _) (list_addW _ _ vs.toArray ws.toArray n n2 dd dd2 sl sl2 (by simpa using hz')) ⟨ho, ho2, ?_⟩
  rw [e]
  exact Post.newList hX hI (Keep.refl _) (r1.append r2) (by rw [List.length_append]; exact hz')

theorem Reps.rep {X : List Addr} {h : Heap} {vs : List Value} {ds : List D} (r : Reps X h vs ds) : ∀ n : Nat, Reps X h (List.replicate n vs).flatten (List.replicate n ds).flatten
  | 0 => .nil
  | n + 1 => by rw [List.replicate_succ, List.replicate_succ, List.flatten_cons, List.flatten_cons]; exact r.append (Reps.rep r n)

theorem Op2.mulLst {xs : List D} {x : Int} (hlo : -(2 ^ 63 : Int) ≤ x) (hhi : x < 2 ^ 63) (hz : xs.length * x.toNat ≤ 2 ^ 24) : Op2 g (binaryOp .Mult) (.list xs) (.int x) (.list (List.replicate x.toNat xs).flatten) := by
  intro ℓ A X s va vb hA hI hX h1 h2
  obtain ⟨u, rfl⟩ := h2.int'
  obtain ⟨l, vs, rfl, na, hl, r1⟩ : ∃ l vs, va = .ref l ∧ l ∉ X ∧ s.heap.IsList l (vs : List Value).toArray ∧ Reps X s.heap vs xs := by
    cases h1 with | list a b c d => exact ⟨_, _, rfl, a, b.isList, d⟩
  obtain ⟨⟨cls, d, data, sl⟩, ho, hcl, k, hd⟩ := id hl
  simp only at hcl hd
  subst hcl hd
  have hsz' : vs.toArray.size * x.toNat ≤ 2 ^ 24 := by rw [List.size_toArray, r1.length]; exact hz
  refine wpAny_binaryOp_repeat_ref (T := "list") (U := "int") (by decide) ⟨_, ho, rfl⟩ (fun s' => typeIs_int s' x u) noFill_list_mul F.fills_int_mul F.slot_int_rmul repeat_list F.slot_int_index.lookup
    (call_meets F.slot_int_rmul (typeIs_int s x u) F.entry_int_rmul (F.args_int_rmul_2 _ _) (lm_int_rmul_list_any x u l vs.toArray k d sl)
      ⟨ho, rfl, ⟨_, ho, rfl⟩, call_meets F.slot_list_mul ⟨_, ho, rfl⟩ F.entry_list_mul (F.args_list_mul_2 _ _)
        (lm_list_mul_any l vs.toArray k d sl x u (by simp [Builtin.List.listFitsIndex]; lia) (by lia) (by simp [Builtin.List.listTooLong, sizeLine]; simpa using hsz'))
        ⟨ho, ?_⟩⟩)
  rw [listMul_foldl_if]
  refine Post.newList hX hI (Keep.refl _) (r1.rep _) ?_
  have e := (r1.rep x.toNat).length
  rw [e, List.length_flatten, List.map_replicate, List.sum_replicate_nat]
  have : sizeLine = 2 ^ 24 := rfl
  rw [this, Nat.mul_comm]; exact hz
end Mine


/- WD -/
namespace Mine
variable {g : Gx}

theorem cellsFrom_append : ∀ (names : List (Str × NameKind)) (n : Nat) (acc : List (Str × Addr)), cellsFrom n names acc = cellsFrom n names [] ++ acc
  | [], _, _ => rfl
  | (x, k) :: r, n, acc => by
    unfold cellsFrom
    split
    · rw [cellsFrom_append r (n + 1) ((x, n) :: acc), cellsFrom_append r (n + 1) [(x, n)]]; simp
    · exact cellsFrom_append r n acc

theorem cellsFrom_mem : ∀ (names : List (Str × NameKind)) (n : Nat) {x : Str} {c : Addr}, (x, c) ∈ cellsFrom n names [] → (x, NameKind.cell) ∈ names
  | [], _, _, _, h => by cases h
  | (y, k) :: r, n, x, c, h => by
    unfold cellsFrom at h
    split at h
    · rename_i hk
      rw [cellsFrom_append] at h
      rcases List.mem_append.mp h with h | h
      · exact .tail _ (cellsFrom_mem r _ h)
      · simp at h; obtain ⟨rfl, _⟩ := h
        have : k = .cell := by simpa using hk
        subst this; exact .head _
    · exact .tail _ (cellsFrom_mem r _ h)
theorem cellsFrom_has : ∀ (names : List (Str × NameKind)) (n : Nat) {x : Str}, (x, NameKind.cell) ∈ names → ∃ c, (cellsFrom n names []).lookup x = some c
  | [], _, _, h => by cases h
  | (y, k) :: r, n, x, h => by
    unfold cellsFrom
    have key : ∀ {l : List (Str × Addr)} {acc : List (Str × Addr)}, (∃ c, l.lookup x = some c) ∨ (∃ c, acc.lookup x = some c) → ∃ c, (l ++ acc).lookup x = some c := by
      intro l acc h
      induction l with
      | nil => rcases h with ⟨c, h⟩ | h
               · cases h
               · exact h
      | cons p l ih =>
        obtain ⟨z, d⟩ := p
        simp only [List.cons_append, List.lookup]
        cases hz : x == z with
        | true => exact ⟨d, rfl⟩
        | false =>
          refine ih ?_
          rcases h with ⟨c, h⟩ | h
          · simp only [List.lookup, hz] at h; exact .inl ⟨c, h⟩
          · exact .inr h
    split
    · rw [cellsFrom_append]
      rcases List.mem_cons.mp h with e | h
      · cases e; exact key (.inr ⟨n, by simp [List.lookup]⟩)
      · exact key (.inl (cellsFrom_has r _ h))
    · rename_i hk
      rcases List.mem_cons.mp h with e | h
      · cases e; simp at hk
      · exact cellsFrom_has r _ h

theorem lookup_mem_nodup {α : Type} : ∀ {l : List (Str × α)} {x : Str} {a : α}, (l.map (·.1)).Nodup → (x, a) ∈ l → l.lookup x = some a
  | (y, b) :: r, x, a, nd, h => by
    simp only [List.map_cons, List.nodup_cons] at nd
    rcases List.mem_cons.mp h with e | h
    · cases e; simp [List.lookup]
    · have : x ≠ y := fun e => nd.1 (by rw [← e]; exact List.mem_map.mpr ⟨_, h, rfl⟩)
      have hb : (x == y) = false := by simpa using this
      simp only [List.lookup, hb]
      exact lookup_mem_nodup nd.2 h
theorem lookup_append {α : Type} (x : Str) : ∀ (l acc : List (Str × α)), (l ++ acc).lookup x = (l.lookup x).or (acc.lookup x)
  | [], acc => by simp [List.lookup]
  | (y, b) :: r, acc => by
    simp only [List.cons_append, List.lookup]
    cases x == y with
    | true => rfl
    | false => exact lookup_append x r acc

structure Entered (s : Shared) (sc : Scope) (clos : List (Str × Addr)) (binds : List (Str × Value)) (env : Env) (s' : Shared) : Prop where
  same : ∃ h tk, s' = { s with heap := h, toks := tk }
  keep : ∀ b o, s.heap.get? b = some o → s'.heap.get? b = some o
  fresh : s.heap.get? env.locals = none
  loc : ∃ m, s'.heap.Ns env.locals m ∧ ∀ x v, binds.reverse.lookup x = some v → sc.names.lookup x = some .local → m x = some v
  cell : ∀ x, sc.names.lookup x = some .cell → ∃ c, env.cells.lookup x = some c ∧ s.heap.get? c = none ∧ s'.heap.IsCell c (binds.reverse.lookup x)
  free : ∀ x, sc.names.lookup x ≠ some .cell → env.cells.lookup x = clos.lookup x
  inj : ∀ x y c, sc.names.lookup x = some .cell → env.cells.lookup x = some c → env.cells.lookup y = some c → (∃ o, s.heap.get? c = some o) ∨ x = y

theorem bindL_lookup (kindOf : Str → Option NameKind) : ∀ (binds : List (Str × Value)) (m : Str → Option Value) (x : Str), kindOf x = some .local →
    bindL kindOf binds m x = (binds.reverse.lookup x).or (m x)
  | [], m, x, _ => by simp [bindL, List.lookup]
  | (n, v) :: r, m, x, hx => by
    unfold bindL
    rw [bindL_lookup kindOf r _ x hx, List.reverse_cons, lookup_append]
    by_cases hn : kindOf n = some .local
    · rw [if_pos hn]
      by_cases e : x = n
      · subst e; simp [List.lookup]
      · have hb : (x == n) = false := by simpa using e
        simp [List.lookup, hb, e]
    · rw [if_neg hn]
      have e : x ≠ n := fun e => hn (e ▸ hx)
      have hb : (x == n) = false := by simpa using e
      simp [List.lookup, hb]
theorem bindC_lookup (kindOf : Str → Option NameKind) : ∀ (binds : List (Str × Value)) (m : Str → Option Value) (x : Str), kindOf x ≠ some .local →
    bindC kindOf binds m x = (binds.reverse.lookup x).or (m x)
  | [], m, x, _ => by simp [bindC, List.lookup]
  | (n, v) :: r, m, x, hx => by
    unfold bindC
    rw [bindC_lookup kindOf r _ x hx, List.reverse_cons, lookup_append]
    by_cases hn : kindOf n = some .local
    · rw [if_pos hn]
      have e : x ≠ n := fun e => hx (e ▸ hn)
      have hb : (x == n) = false := by simpa using e
      simp [List.lookup, hb]
    · rw [if_neg hn]
      by_cases e : x = n
      · subst e; simp [List.lookup]
      · have hb : (x == n) = false := by simpa using e
        simp [List.lookup, hb, e]

theorem storeName_cells {env env' : Env} (h1 : env.scope = env'.scope) (h2 : env.locals = env'.locals) (h3 : env.globals = env'.globals) {n : Str} (h4 : env.kindOf n = some .local ∨ env.cells.lookup n = env'.cells.lookup n) (v : Value) :
    storeName env n v = storeName env' n v := by
  rcases h4 with h4 | h4
  · have h5 : env'.kindOf n = some .local := by unfold Env.kindOf at h4 ⊢; rw [← h1]; exact h4
    unfold storeName
    simp only [h4, h5]
    have e : (some NameKind.local == some NameKind.globalImplicit) = false := rfl
    simp only [e, Bool.false_and, Bool.false_eq_true, if_false]
    unfold localSet
    rw [h1, h2, h3]
  · unfold storeName cellOf Env.kindOf Env.blockKind localSet
    rw [h1, h2, h3, h4]

theorem enter {sc : Scope} {clos : List (Str × Addr)} {binds : List (Str × Value)} {qual : Str} {func : Option Addr} {code : Value} {around : Option Env} {globals builtins : Addr} {A : Around} {E : Value → Shared → Prop} {M : Model} {s : Shared} {Q : Env → Shared → Prop}
    (hk : sc.kind = .function) (hnd : (sc.names.map (·.1)).Nodup)
    (hkind : ∀ x ∈ binds, sc.names.lookup x.1 = some .local ∨ sc.names.lookup x.1 = some .cell)
    (hclos : ∀ x c, clos.lookup x = some c → ∃ o, s.heap.get? c = some o)
    (hQ : ∀ L cells s', Entered s sc clos binds (newEnv sc L globals cells qual func code around builtins) s' → Q (newEnv sc L globals cells qual func code around builtins) s') :
    wpAny M A (newFunctionEnv sc globals clos binds qual func code around builtins) Q E s := by
  simp only [newFunctionEnv]
  refine wpAny_bind (wpAny_alloc ?_)
  refine wpAny_bind (wpAny_layCells _ (fun name kind cells => by cases hkc : kind == NameKind.cell <;> simp [hkc]) _ _ _ _ ?_)
  generalize hT : (if around.isSome = true then "dict" else "frame") = T
  have ok := cellsFrom_ok sc.names (s.heap.push { cls := .type T, data := .dict #[] }) (s.heap.objs.size + 1) [] ⟨fun _ _ hm => (nomatch hm), List.Pairwise.nil⟩ (by rw [Heap.size_push]; exact Nat.le_refl _)
  rw [Heap.size_push] at ok
  rw [show ({ s with heap := s.heap.push { cls := .type T, data := .dict #[] } } : Shared).heap.objs.size = s.heap.objs.size + 1 from Heap.size_push ..]
  generalize hcs : cellsFrom (s.heap.objs.size + 1) sc.names [] = cs at ok
  rw [cellsFrom_append, hcs]
  have memc : ∀ x c, (x, c) ∈ cs → sc.names.lookup x = some .cell := fun x c hm => by
    rw [← hcs] at hm
    exact lookup_mem_nodup hnd (cellsFrom_mem _ _ hm)
  have hasc : ∀ x, sc.names.lookup x = some .cell → ∃ c, cs.lookup x = some c := fun x hx => by
    rw [← hcs]; exact cellsFrom_has _ _ (mem_of_lookup hx)
  have noc : ∀ x, sc.names.lookup x ≠ some .cell → cs.lookup x = none := fun x hx => by
    cases e : cs.lookup x with
    | none => rfl
    | some c => exact absurd (memc x c (mem_of_lookup e)) hx
  have env1 : (newEnv sc s.heap.objs.size globals (cs ++ clos) qual func code around builtins).scope = sc := by unfold newEnv; cases around <;> rfl
  have env2 : (newEnv sc s.heap.objs.size globals (cs ++ clos) qual func code around builtins).locals = s.heap.objs.size := by unfold newEnv; cases around <;> rfl
  have env3 : (newEnv sc s.heap.objs.size globals (cs ++ clos) qual func code around builtins).cells = cs ++ clos := by unfold newEnv; cases around <;> rfl
  refine wpAny_bind ?_
  show wpAny M A (forIn binds PUnit.unit fun x _ => do storeName (newEnv sc s.heap.objs.size globals (cs ++ clos) qual func code around builtins) x.1 x.2; pure (ForInStep.yield PUnit.unit))
    (fun _ s' => wpAny M A (pure (newEnv sc s.heap.objs.size globals (cs ++ clos) qual func code around builtins)) Q E s') E _
  have hQ' := hQ s.heap.objs.size (cs ++ clos)
  obtain ⟨env, hzenv⟩ : ∃ x, newEnv sc s.heap.objs.size globals (cs ++ clos) qual func code around builtins = x := ⟨_, rfl⟩
  rw [hzenv] at env1 env2 env3 hQ' ⊢
  have kof : ∀ x, env.kindOf x = sc.names.lookup x := fun x => by unfold Env.kindOf; rw [env1]
  have hl : ∀ x ∈ binds, storeName env x.1 x.2 = storeName { env with cells := cs } x.1 x.2 := by
    intro x hx
    refine storeName_cells (env := env) (env' := { env with cells := cs }) rfl rfl rfl ?_ _
    rcases hkind x hx with h | h
    · exact .inl (by rw [kof]; exact h)
    · right
      show env.cells.lookup x.1 = cs.lookup x.1
      rw [env3, lookup_append]
      obtain ⟨c, hc⟩ := hasc _ h; rw [hc]; rfl
  have key : ∀ (l : List (Str × Value)), (∀ x ∈ l, storeName env x.1 x.2 = storeName { env with cells := cs } x.1 x.2) →
      (forIn l PUnit.unit (fun x (_ : PUnit) => do storeName env x.1 x.2; pure (ForInStep.yield PUnit.unit)) : Sem PUnit) = forIn l PUnit.unit (fun x (_ : PUnit) => do storeName { env with cells := cs } x.1 x.2; pure (ForInStep.yield PUnit.unit)) := by
    intro l
    induction l with
    | nil => intro _; rfl
    | cons x r ih =>
      intro hx
      rw [List.forIn_cons, List.forIn_cons, hx x (.head _)]
      have := ih fun y hy => hx y (.tail _ hy)
      congr 1; funext q; cases q <;> first | rfl | (cases ‹PUnit›; exact this)
  rw [key binds hl]
  refine wpAny_bindParams (s₀ := s) (env := { env with cells := cs }) _ (fun _ _ _ => rfl) (by show env.scope.kind = _; rw [env1]; exact hk) binds (fun _ => none) (fun _ => none) _ _
    ⟨⟨⟨_, _, rfl⟩, ?_, fun b o e => pushCells_keeps _ _ b o (Heap.get?_push_of_some _ e), ?_⟩, ?_, ok.apart, ?_⟩ ?_ ?_
  · show (pushCells _ _).Ns env.locals _
    rw [env2]; exact (Heap.Ns.new s.heap (.type T)).keeps (pushCells_keeps _ _)
  · show _ ≤ env.locals; rw [env2]; exact Nat.le_refl _
  · intro n c hc; exact (ok.empty n c (mem_of_lookup hc)).1
  · intro n c hm; show env.locals < c; rw [env2]; exact (ok.empty n c hm).2
  · intro x hx
    have : ({ env with cells := cs } : Env).kindOf x.1 = sc.names.lookup x.1 := kof x.1
    rw [this]
    rcases hkind x hx with h | h
    · exact .inl h
    · obtain ⟨c, hc⟩ := hasc _ h
      exact .inr ⟨h, by show (cs.lookup x.1).isSome = true; rw [hc]; rfl⟩
  · intro s' x
    refine wpAny_pure (hQ' s' ?_)
    have none_of : ∀ c, s.heap.objs.size ≤ c → s.heap.get? c = none := fun c hc => by
      cases e : s.heap.get? c with
      | none => rfl
      | some o => exact absurd (Heap.lt_size e) (Nat.not_lt.mpr hc)
    refine ⟨x.toInCall.same, x.toInCall.keep, by rw [env2]; exact none_of _ (Nat.le_refl _), ⟨_, x.toInCall.ns, fun y v hy hyl => ?_⟩, fun y hy => ?_, fun y hy => ?_, fun y z c hy hc hz => ?_⟩
    · show bindL (Env.kindOf { env with cells := cs }) binds (fun _ => none) y = some v
      rw [bindL_lookup _ _ _ _ (by show env.kindOf y = _; rw [kof]; exact hyl), hy]; rfl
    · obtain ⟨c, hc⟩ := hasc y hy
      refine ⟨c, by rw [env3, lookup_append, hc]; rfl, none_of _ (Nat.le_trans (Nat.le_succ _) (ok.empty y c (mem_of_lookup hc)).2), ?_⟩
      have := x.cell y c hc
      rwa [bindC_lookup _ _ _ _ (by show env.kindOf y ≠ _; rw [kof, hy]; nofun), Option.or_none] at this
    · rw [env3, lookup_append, noc y hy]; rfl
    · rw [env3, lookup_append] at hc hz
      obtain ⟨c', hc'⟩ := hasc y hy
      rw [hc'] at hc; cases hc
      cases hz' : cs.lookup z with
      | some d =>
        rw [hz'] at hz; cases hz
        exact .inr (name_of_addr ok.apart (mem_of_lookup hc') (mem_of_lookup hz'))
      | none =>
        rw [hz'] at hz
        exact .inl (hclos z c (by simpa using hz))
end Mine


/- WE -/
namespace Mine
variable {g : Gx} {ℓ : Nat} {fi : FI}

def KeepR (X : List Addr) (h h' : Heap) : Prop := ∀ a o, h.get? a = some o → SeqO X a o → h'.get? a = some o

theorem KeepR.kin {X : List Addr} {h h' : Heap} (k : KeepR X h h') : Kin X X h h' := fun a o e q => ⟨k a o e q, q.nin⟩
theorem Rep.keepR {X : List Addr} {h h' : Heap} (k : KeepR X h h') {v : Value} {d : D} (r : Rep X h v d) : Rep X h' v d := r.map k.kin
theorem Reps.keepR {X : List Addr} {h h' : Heap} (k : KeepR X h h') {vs : List Value} {ds : List D} (r : Reps X h vs ds) : Reps X h' vs ds := r.map k.kin
theorem KeepR.of_ns {X : List Addr} {h h' : Heap} {L : Addr} {m : Str → Option Value} (hn : h.Ns L m) (hs : Heap.SameBut L h h') : KeepR X h h' := fun a o e q => by
  refine (hs.2 a ?_).trans e
  rintro rfl
  obtain ⟨o', es, ep, e', d, _⟩ := hn
  rw [e] at e'; cases e'
  rcases q with ⟨xs, n, q, _⟩ | ⟨vs, q, _⟩ <;> (rw [d] at q; cases q)
theorem KeepR.of_cell {X : List Addr} {h h' : Heap} {c : Addr} {v : Option Value} (hn : h.IsCell c v) (hs : Heap.SameBut c h h') : KeepR X h h' := fun a o e q => by
  refine (hs.2 a ?_).trans e
  rintro rfl
  obtain ⟨o', e', d⟩ := hn
  rw [e] at e'; cases e'
  rcases q with ⟨xs, n, q, _⟩ | ⟨vs, q, _⟩ <;> (rw [d] at q; cases q)
theorem KeepR.of_list {X : List Addr} {h h' : Heap} {a : Addr} {its : Array Value} (hn : h.IsList a its) (ha : a ∈ X) (hs : Heap.SameBut a h h') : KeepR X h h' := fun b o e q => by
  refine (hs.2 b ?_).trans e
  rintro rfl
  obtain ⟨o', e', c, n, d⟩ := hn
  rw [e] at e'; cases e'
  rcases q with ⟨xs, n, q, z⟩ | ⟨vs, q, _⟩
  · exact z c ha
  · rw [d] at q; cases q
inductive Fl where
  | next | brk | cont
  | ret (d : D)

structure St where
  ρ : AEnv
  ω : List Str := []

def St.put (σ : St) (x : Str) (d : D) : St := { σ with ρ := Mine.put σ.ρ x d }

def OwnA (fi : FI) (env : Env) (a : Addr) : Prop := a = env.locals ∨ ∃ x ∈ fi.oc, env.cells.lookup x = some a
def KeepX (g : Gx) (fi : FI) (env : Env) (O : List (Str × Addr)) (h h' : Heap) : Prop := ∀ a o, a ∉ g.Tb → ¬ OwnA fi env a → a ∉ O.map (·.2) → h.get? a = some o → h'.get? a = some o

def BaseIn (g : Gx) (h₀ : Heap) : Prop := ∀ a o, g.b.get? a = some o → ∃ o', h₀.get? a = some o'

inductive OwnIn (X : List Addr) (h₀ h : Heap) (O : List (Str × Addr)) (env : Env) (σ : St) (x : Str) (a : Addr) : Prop where
  | mk (n : h₀.get? a = none) (nx : a ∉ X) (va : VarAt h env x (.ref a)) (vs : List Value) (ds : List D) (l : σ.ρ.lookup x = some (.list ds)) (r : PL h a vs.toArray ∧ vs.length ≤ sizeLine ∧ Reps (X ++ O.map (·.2)) h vs ds)
structure FrX (g : Gx) (X : List Addr) (h₀ : Heap) (O : List (Str × Addr)) (fi : FI) (env : Env) (σ : St) (s : Shared) : Prop where
  inv : Inv g s
  bin : BaseIn g h₀
  eok : EnvOK fi env
  xok : XOk g X s.heap
  keep : Keep g h₀ s.heap
  lnew : h₀.get? env.locals = none
  lns : ∃ m, s.heap.Ns env.locals m
  cells : ∀ x ∈ fi.oc, fi.sc.names.lookup x = some .cell ∧ ∃ c v, env.cells.lookup x = some c ∧ s.heap.IsCell c v ∧ h₀.get? c = none
  inj : ∀ x y c, x ∈ fi.oc → env.cells.lookup x = some c → env.cells.lookup y = some c → x = y
  cel : ∀ x, env.kindOf x = some .cell ∨ env.kindOf x = some .free → ∃ c v, env.cells.lookup x = some c ∧ s.heap.IsCell c v
  names : O.map (·.1) = σ.ω
  nodup : (O.map (·.2)).Nodup
  own : ∀ x a, (x, a) ∈ O → OwnIn X h₀ s.heap O env σ x a
  rest : ∀ x d, σ.ρ.lookup x = some d → x ∉ σ.ω → ∃ v, VarAt s.heap env x v ∧ Rep (X ++ O.map (·.2)) s.heap v d

def FlR (X : List Addr) (h : Heap) : Flow → Fl → Prop
  | .next, .next => True
  | .brk, .brk => True
  | .cont, .cont => True
  | .ret v, .ret d => Rep X h v d
  | _, _ => False

def Alive (h h' : Heap) : Prop := ∀ a o, h.get? a = some o → ∃ o', h'.get? a = some o'
theorem Alive.of_keep {h h' : Heap} (t : TabsOK g h') (k : Keep g h h') : Alive h h' := fun a o e => by
  by_cases ha : a ∈ g.Tb
  · obtain ⟨q, hq, rfl⟩ := List.mem_map.mp ha
    obtain ⟨ps, e', _⟩ := t q hq
    exact ⟨_, e'⟩
  · exact ⟨o, k a o ha e⟩
theorem Alive.of_same {h h' : Heap} {L : Addr} {o' : Obj} (e' : h'.get? L = some o') (hs : Heap.SameBut L h h') : Alive h h' := fun a o e => by
  by_cases ha : a = L
  · subst ha; exact ⟨o', e'⟩
  · exact ⟨o, (hs.2 a ha).trans e⟩
theorem Alive.trans {h h' h'' : Heap} (x : Alive h h') (y : Alive h' h'') : Alive h h'' := fun a o e => let ⟨o', e'⟩ := x a o e; y a o' e'
theorem Alive.refl (h : Heap) : Alive h h := fun _ o e => ⟨o, e⟩
theorem on_trans {O O' O'' : List (Str × Addr)} {h h' : Heap} (al : Alive h h') (x : ∀ p ∈ O', p.2 ∈ O.map (·.2) ∨ h.get? p.2 = none) (y : ∀ p ∈ O'', p.2 ∈ O'.map (·.2) ∨ h'.get? p.2 = none) : ∀ p ∈ O'', p.2 ∈ O.map (·.2) ∨ h.get? p.2 = none := fun p hp => by
  rcases y p hp with q | q
  · obtain ⟨p', hp', e⟩ := List.mem_map.mp q
    rw [← e]; exact x p' hp'
  · exact .inr (by
      cases e : h.get? p.2 with
      | none => rfl
      | some o => obtain ⟨o', e'⟩ := al _ _ e; rw [q] at e'; cases e')
theorem flow_go {X : List Addr} {h : Heap} {J N : Prop} {Q : Fl → Prop} {R : Flow → Prop} {f : Flow} {fl : Fl} (again : J → N) (out : ∀ f' fl', FlR X h f' fl' → Q fl' → R f') (hq : match (generalizing := false) fl with
      | .next => J
      | .cont => J
      | .brk => Q .next
      | .ret d => Q (.ret d)) (hf : FlR X h f fl) : match (generalizing := false) f with
          | .next | .cont => N
          | .brk => R .next
          | .ret v => R (.ret v) := by
  cases f with
  | next => cases fl with | next => exact again hq | _ => exact hf.elim
  | cont => cases fl with | cont => exact again hq | _ => exact hf.elim
  | brk => cases fl with | brk => exact out .next .next trivial hq | _ => exact hf.elim
  | ret v => cases fl with | ret d => exact out (.ret v) (.ret d) hf hq | _ => exact hf.elim

inductive ExP (g : Gx) (X : List Addr) (h₀ : Heap) (O : List (Str × Addr)) (fi : FI) (env : Env) (s : Shared) (Q : St → Fl → Prop) (f : Flow) (s' : Shared) : Prop where
  | mk (σ' : St) (O' : List (Str × Addr)) (fl : Fl) (fr : FrX g X h₀ O' fi env σ' s') (keep : KeepX g fi env O s.heap s'.heap) (alive : Alive s.heap s'.heap) (onew : ∀ p ∈ O', p.2 ∈ O.map (·.2) ∨ s.heap.get? p.2 = none) (flr : FlR X s'.heap f fl) (q : Q σ' fl)

def Ex1 (g : Gx) (ℓ : Nat) (fi : FI) (σ : St) (st : Stmt) (Q : St → Fl → Prop) : Prop :=
  ∀ A X h₀ O env s, AOk ℓ A → FrX g X h₀ O fi env σ s → wpAny g.M A (exec st env) (ExP g X h₀ O fi env s Q) NoE s
def Ex (g : Gx) (ℓ : Nat) (fi : FI) (σ : St) (ss : List Stmt) (Q : St → Fl → Prop) : Prop :=
  ∀ A X h₀ O env s, AOk ℓ A → FrX g X h₀ O fi env σ s → wpAny g.M A (execs ss env) (ExP g X h₀ O fi env s Q) NoE s

theorem KeepX.refl {env : Env} {O : List (Str × Addr)} (h : Heap) : KeepX g fi env O h h := fun _ _ _ _ _ e => e
theorem KeepX.up {env : Env} {O : List (Str × Addr)} {h h' : Heap} (k : KeepX g fi env [] h h') : KeepX g fi env O h h' := fun a o h1 h2 _ e => k a o h1 h2 (fun h => nomatch h) e
theorem KeepX.of_keep {env : Env} {O : List (Str × Addr)} {h h' : Heap} (k : Keep g h h') : KeepX g fi env O h h' := fun a o h1 _ _ e => k a o h1 e
theorem KeepX.trans {env : Env} {O O' : List (Str × Addr)} {h h' h'' : Heap} (k : KeepX g fi env O h h') (k' : KeepX g fi env O' h' h'') (hn : ∀ p ∈ O', p.2 ∈ O.map (·.2) ∨ h.get? p.2 = none) : KeepX g fi env O h h'' :=
  fun a o h1 h2 h3 e => k' a o h1 h2 (fun hm => by
    obtain ⟨p, hp, rfl⟩ := List.mem_map.mp hm
    rcases hn p hp with q | q
    · exact h3 q
    · rw [e] at q; cases q) (k a o h1 h2 h3 e)

theorem Ex.mono {σ : St} {ss : List Stmt} {Q Q' : St → Fl → Prop} (h : Ex g ℓ fi σ ss Q) (q : ∀ σ fl, Q σ fl → Q' σ fl) : Ex g ℓ fi σ ss Q' := fun A X h₀ O env s hA hF =>
  wpQ (h A X h₀ O env s hA hF) fun f s' ⟨σ', O', fl, a, b, b', c, d, e⟩ => ⟨σ', O', fl, a, b, b', c, d, q _ _ e⟩
theorem Ex.nil {σ : St} {Q : St → Fl → Prop} (h : Q σ .next) : Ex g ℓ fi σ [] Q := fun A X h₀ O env s hA hF =>
  wpAny_execs_nil ⟨σ, O, .next, hF, .refl _, .refl _, fun p hp => .inl (List.mem_map.mpr ⟨p, hp, rfl⟩), trivial, h⟩

theorem ExP.trans {X : List Addr} {h₀ : Heap} {O O' : List (Str × Addr)} {env : Env} {s s' : Shared} {Q : St → Fl → Prop} {f : Flow} {s'' : Shared} (k : KeepX g fi env O s.heap s'.heap) (al : Alive s.heap s'.heap) (hn : ∀ p ∈ O', p.2 ∈ O.map (·.2) ∨ s.heap.get? p.2 = none)
    (h : ExP g X h₀ O' fi env s' Q f s'') : ExP g X h₀ O fi env s Q f s'' := by
  obtain ⟨σ', O'', fl, a, b, b', c, d, e⟩ := h
  refine ⟨σ', O'', fl, a, k.trans b hn, al.trans b', fun p hp => ?_, d, e⟩
  rcases c p hp with q | q
  · obtain ⟨p', hp', e'⟩ := List.mem_map.mp q
    rw [← e']; exact hn p' hp'
  · right
    cases e : s.heap.get? p.2 with
    | none => rfl
    | some o => obtain ⟨o', e'⟩ := al _ _ e; rw [q] at e'; cases e'

theorem Ex.cons {σ : St} {st : Stmt} {rest : List Stmt} {Q : St → Fl → Prop} (h : Ex1 g ℓ fi σ st fun σ' fl => match fl with | .next => Ex g ℓ fi σ' rest Q | fl => Q σ' fl) : Ex g ℓ fi σ (st :: rest) Q := by
  intro A X h₀ O env s hA hF
  refine wpAny_execs_cons (wpQ (h A X h₀ O env s hA hF) ?_)
  rintro f s' ⟨σ', O', fl, a, b, b', c, d, e⟩
  cases f with
  | next =>
    cases fl with
    | next => exact wpQ (e A X h₀ O' env s' hA a) fun f s'' p => p.trans b b' c
    | _ => exact d.elim
  | brk =>
    cases fl with
    | brk => exact ⟨σ', O', _, a, b, b', c, d, e⟩
    | _ => exact d.elim
  | cont =>
    cases fl with
    | cont => exact ⟨σ', O', _, a, b, b', c, d, e⟩
    | _ => exact d.elim
  | ret v =>
    cases fl with
    | ret => exact ⟨σ', O', _, a, b, b', c, d, e⟩
    | _ => exact d.elim
end Mine


/- WF -/
namespace Mine
variable {g : Gx} {ℓ : Nat} {fi : FI} {X : List Addr} {h₀ : Heap} {O : List (Str × Addr)} {env : Env} {σ : St} {s : Shared}

def St.fz (σ : St) : AEnv := σ.ρ.filter fun p => !σ.ω.contains p.1

theorem fz_lookup (σ : St) (x : Str) (d : D) (h : σ.fz.lookup x = some d) : σ.ρ.lookup x = some d ∧ x ∉ σ.ω := by
  unfold St.fz at h
  generalize σ.ρ = ρ at h ⊢
  induction ρ with
  | nil => cases h
  | cons p r ih =>
    obtain ⟨y, e⟩ := p
    rw [List.filter_cons] at h
    simp only [List.lookup]
    cases hx : x == y with
    | true =>
      have e1 : x = y := by simpa using hx
      subst e1
      split at h
      · rename_i hc
        simp only [List.lookup, beq_self_eq_true] at h
        exact ⟨h, by simpa using hc⟩
      · rename_i hc
        exfalso
        have key : ∀ {l : AEnv} {d : D}, (l.filter fun p => !σ.ω.contains p.1).lookup x = some d → (!σ.ω.contains x) = true := by
          intro l d hl
          have hm := mem_of_lookup hl
          exact (List.mem_filter.mp hm).2
        exact hc (key h)
    | false =>
      split at h
      · simp only [List.lookup, hx] at h; exact ih h
      · exact ih h

theorem FrX.strict (F : FrX g X h₀ O fi env σ s) : FrameR (X ++ O.map (·.2)) s.heap env σ.fz := ⟨fun x d h => by
  obtain ⟨h1, h2⟩ := fz_lookup σ x d h
  exact F.rest x d h1 h2, F.cel⟩
theorem FrX.full (F : FrX g X h₀ O fi env σ s) : FrameR X s.heap env σ.ρ := by
  refine ⟨fun x d h => ?_, F.cel⟩
  have hs : ∀ a ∈ X, a ∈ X ++ O.map (·.2) := fun a ha => List.mem_append_left _ ha
  by_cases hx : x ∈ σ.ω
  · rw [← F.names] at hx
    obtain ⟨⟨y, a⟩, hp, rfl⟩ := List.mem_map.mp hx
    obtain ⟨_, ha, hv, vs, ds, hl, hi, hz, hr⟩ := F.own y a hp
    simp only at h
    rw [hl] at h; cases h
    exact ⟨_, hv, .list ha hi hz (hr.mono hs)⟩
  · obtain ⟨v, hv, hr⟩ := F.rest x d h hx
    exact ⟨v, hv, hr.mono hs⟩
theorem FrX.xok' (F : FrX g X h₀ O fi env σ s) : XOk g (X ++ O.map (·.2)) s.heap := fun a ha => by
  rcases List.mem_append.mp ha with ha | ha
  · exact F.xok a ha
  · obtain ⟨⟨y, b⟩, hp, rfl⟩ := List.mem_map.mp ha
    obtain ⟨hn0, _, _, vs, ds, _, ⟨o, n, e, c, _, hdat⟩, _, _⟩ := F.own y b hp
    refine ⟨⟨o, e, c, _, _, hdat⟩, tab_cls F.inv.tabs e (by rw [c]; nofun), ?_⟩
    cases e' : g.b.get? b with
    | none => rfl
    | some o' => obtain ⟨o'', e''⟩ := F.bin _ _ e'; rw [hn0] at e''; cases e''

theorem FrX.step (F : FrX g X h₀ O fi env σ s) {s' : Shared} (i : Inv g s') (k : Keep g s.heap s'.heap) : FrX g X h₀ O fi env σ s' := by
  have t := F.inv.tabs
  refine ⟨i, F.bin, F.eok, F.xok.keep k, F.keep.trans k, F.lnew, ?_, fun x hx => ?_, F.inj, fun x hx => ?_, F.names, F.nodup, fun x a hp => ?_, fun x d h hx => ?_⟩
  · obtain ⟨m, hn⟩ := F.lns
    exact ⟨m, hn.at' fun o e => k _ _ (Ns.apart t hn) e⟩
  · obtain ⟨hk, c, v, hc, hv, hn⟩ := F.cells x hx
    obtain ⟨o, e, d⟩ := id hv
    exact ⟨hk, c, v, hc, ⟨o, k _ _ (IsCell.apart t hv) e, d⟩, hn⟩
  · obtain ⟨c, v, hc, hv⟩ := F.cel x hx
    obtain ⟨o, e, d⟩ := id hv
    exact ⟨c, v, hc, o, k _ _ (IsCell.apart t hv) e, d⟩
  · obtain ⟨h1, h2, h3, vs, ds, h4, ⟨o, n, e, c, q⟩, h6, h7⟩ := F.own x a hp
    exact ⟨h1, h2, h3.keep t k, vs, ds, h4, ⟨o, n, k _ _ (tab_cls t e (by rw [c]; nofun)) e, c, q⟩, h6, h7.keep t k⟩
  · obtain ⟨v, hv, hr⟩ := F.rest x d h hx
    exact ⟨v, hv.keep t k, hr.keep t k⟩

theorem Onew.refl {h : Heap} : ∀ p ∈ O, p.2 ∈ O.map (·.2) ∨ h.get? p.2 = none := fun p hp => .inl (List.mem_map.mpr ⟨p, hp, rfl⟩)

structure Turn (g : Gx) (fi : FI) (env : Env) (s : Shared) (a : Addr) (h' : Heap) : Prop where
  same : Heap.SameBut a s.heap h'
  own : OwnA fi env a
  alive : ∃ o, h'.get? a = some o

def NoCode (h : Heap) (a : Addr) : Prop := ∀ o, h.get? a = some o → ¬ (o.cls = .type "code" ∧ ∃ vs, o.data = .fields vs)
theorem inv_poke {s : Shared} (i : Inv g s) {a : Addr} {h' : Heap} {tk : Nat} (hs : ∀ b o, b ≠ a → s.heap.get? b = some o → h'.get? b = some o) (h1 : a ∉ g.Tb) (h2 : g.b.get? a = none) (h3 : NoCode s.heap a) : Inv g { s with heap := h', toks := tk } := by
  obtain ⟨⟨h, t, e⟩, st, tb⟩ := i
  refine ⟨⟨h', tk, by rw [e]⟩, fun b o q => hs b o (fun z => by rw [z, h2] at q; cases q) (st b o q), fun q hq => ?_⟩
  obtain ⟨ps, e1, e2, e3⟩ := tb q hq
  refine ⟨ps, hs q.2 _ (fun z => h1 (z ▸ List.mem_map.mpr ⟨q, hq, rfl⟩)) e1, e2, fun pos c' hc => ?_⟩
  obtain ⟨cc, qn, rfl, ⟨o1, vs1, t1, z2, z3, z4, z5⟩, hn⟩ := e3 pos c' hc
  exact ⟨cc, qn, rfl, ⟨o1, vs1, t1, hs _ _ (fun z => h3 o1 (z ▸ z2) ⟨z3, _, z4⟩) z2, z3, z4, z5⟩, hn⟩
theorem inv_same {s : Shared} (i : Inv g s) {a : Addr} {h' : Heap} {tk : Nat} (hs : Heap.SameBut a s.heap h') (h1 : a ∉ g.Tb) (h2 : g.b.get? a = none) (h3 : NoCode s.heap a) : Inv g { s with heap := h', toks := tk } :=
  inv_poke i (fun b o hb e => (hs.2 b hb).trans e) h1 h2 h3

theorem codeRec_ne_ns {h : Heap} {a : Addr} {m : Str → Option Value} (hn : h.Ns a m) : NoCode h a := by
  rintro o e ⟨_, vs, z⟩
  obtain ⟨o', es, ep, e', d, _⟩ := hn
  rw [e] at e'; cases e'; rw [d] at z; cases z
theorem codeRec_ne_cell {h : Heap} {a : Addr} {v : Option Value} (hn : h.IsCell a v) : NoCode h a := by
  rintro o e ⟨_, vs, z⟩
  obtain ⟨o', e', d⟩ := hn
  rw [e] at e'; cases e'; rw [d] at z; cases z
theorem codeRec_ne_list {h : Heap} {a : Addr} {its : Array Value} (hn : h.IsList a its) : NoCode h a := by
  rintro o e ⟨_, vs, z⟩
  obtain ⟨o', e', c, n, d⟩ := hn
  rw [e] at e'; cases e'; rw [d] at z; cases z

theorem VarAt.put_local {h h' : Heap} {x y : Str} {v w : Value} {m : Str → Option Value} (hn : h.Ns env.locals m) (hs : Heap.SameBut env.locals h h') (hn' : h'.Ns env.locals fun z => if z = x then some w else m z) (a : VarAt h env y v) (hy : y ≠ x) : VarAt h' env y v := by
  rcases a with ⟨hk, m', hn2, hm⟩ | ⟨hk, c, hc, hv⟩
  · refine .inl ⟨hk, _, hn', ?_⟩
    rw [if_neg hy]
    obtain ⟨o, es, ep, e, d, _, f⟩ := hn
    obtain ⟨o2, es2, ep2, e2, d2, _, f2⟩ := hn2
    rw [e] at e2; cases e2; rw [d] at d2; cases d2
    rw [← f, f2, hm]
  · refine .inr ⟨hk, c, hc, hv.sameBut hs ?_⟩
    rintro rfl
    obtain ⟨o, es, ep, e, d, _⟩ := hn
    obtain ⟨o2, e2, d2⟩ := hv
    rw [e] at e2; cases e2; rw [d] at d2; cases d2
theorem VarAt.put_cell {h h' : Heap} {y : Str} {v : Value} {c : Addr} {w : Option Value} (hn : h.IsCell c w) (hs : Heap.SameBut c h h') (a : VarAt h env y v) (hy : ∀ c', env.cells.lookup y = some c' → (env.kindOf y = some .cell ∨ env.kindOf y = some .free) → c' ≠ c) : VarAt h' env y v := by
  rcases a with ⟨hk, m', hn2, hm⟩ | ⟨hk, c', hc, hv⟩
  · refine .inl ⟨hk, m', hn2.sameBut hs ?_, hm⟩
    intro z
    obtain ⟨o, es, ep, e, d, _⟩ := hn2
    obtain ⟨o2, e2, d2⟩ := hn
    rw [z, e2] at e; cases e; rw [d] at d2; cases d2
  · exact .inr ⟨hk, c', hc, hv.sameBut hs (hy c' hc hk)⟩

def del (ρ : AEnv) (x : Str) : AEnv := ρ.filter fun p => !(p.1 == x)
theorem lookup_del (ρ : AEnv) (x y : Str) : (del ρ x).lookup y = if y == x then none else ρ.lookup y := by
  unfold del
  induction ρ with
  | nil => simp
  | cons p r ih =>
    obtain ⟨z, e⟩ := p
    rw [List.filter_cons]
    by_cases hz : z = x
    · subst hz
      simp only [beq_self_eq_true, Bool.not_true, Bool.false_eq_true, if_false, List.lookup]
      rw [ih]
      cases y == z <;> rfl
    · have hb : (z == x) = false := by simpa using hz
      simp only [hb, Bool.not_false, if_true, List.lookup]
      cases hy : y == z with
      | true =>
        have e1 : y = z := by simpa using hy
        subst e1
        simp [hb]
      | false => exact ih

theorem FrX.storeRaw (F : FrX g X h₀ O fi env σ s) {x : Str} {v : Value} (hx : x ∉ σ.ω) (hk : fi.sc.names.lookup x = some .local ∨ x ∈ fi.oc)
    {A : Around} {E : Value → Shared → Prop} {Q : Unit → Shared → Prop} (hQ : ∀ s', FrX g X h₀ O fi env { σ with ρ := del σ.ρ x } s' → VarAt s'.heap env x v → KeepR (X ++ O.map (·.2)) s.heap s'.heap → KeepX g fi env [] s.heap s'.heap → Alive s.heap s'.heap → Q () s') : wpAny g.M A (storeName env x v) Q E s := by
  have t := F.inv.tabs
  have nb : ∀ a, h₀.get? a = none → g.b.get? a = none := fun a ha => by
    cases e : g.b.get? a with
    | none => rfl
    | some o => obtain ⟨o', e'⟩ := F.bin _ _ e; rw [ha] at e'; cases e'
  have lk : ∀ y, (del σ.ρ x).lookup y = if y == x then none else σ.ρ.lookup y := fun y => lookup_del _ _ _
  rcases hk with hk | hk
  · obtain ⟨m, hn⟩ := F.lns
    refine wpAny_storeName_local ((F.eok.kinds _).trans hk) hn (fun h' hn' hs => ?_) (by rw [F.eok.kind]; rfl)
    have hL := Ns.apart t hn
    have kr : KeepR (X ++ O.map (·.2)) s.heap h' := .of_ns hn hs
    have i' : Inv g { s with heap := h', toks := s.toks + 1 } := inv_same F.inv hs hL (nb _ F.lnew) (codeRec_ne_ns hn)
    refine hQ _ ⟨i', F.bin, F.eok, fun a ha => ?_, fun a o h1 e => ?_, F.lnew, ⟨_, hn'⟩, fun y hy => ?_, F.inj, fun y hy => ?_, F.names, F.nodup, fun y a hp => ?_, fun y e he hy => ?_⟩ (.inl ⟨(F.eok.kinds _).trans hk, _, hn', by rw [if_pos rfl]⟩) kr (fun a o h1 h2 h3 e => (hs.2 a fun z => h2 (.inl z)).trans e) (by obtain ⟨o, _, _, e, _⟩ := id hn'; exact Alive.of_same e hs)
    · obtain ⟨⟨o, e, cc, its, k, qq⟩, n⟩ := F.xok a ha
      by_cases z : a = env.locals
      · obtain ⟨o', _, _, e', d', _⟩ := hn; rw [z, e'] at e; cases e; rw [d'] at qq; cases qq
      · exact ⟨⟨o, (hs.2 a z).trans e, cc, its, k, qq⟩, n⟩
    · exact (hs.2 a fun z => by rw [z, F.lnew] at e; cases e).trans (F.keep a o h1 e)
    · obtain ⟨hk', c, w, hc, hv, hn2⟩ := F.cells y hy
      refine ⟨hk', c, w, hc, hv.sameBut hs ?_, hn2⟩
      rintro rfl
      obtain ⟨o, es, ep, e, dd, _⟩ := hn
      obtain ⟨o2, e2, d2⟩ := hv
      rw [e] at e2; cases e2; rw [dd] at d2; cases d2
    · obtain ⟨c, w, hc, hv⟩ := F.cel y hy
      refine ⟨c, w, hc, hv.sameBut hs ?_⟩
      rintro rfl
      obtain ⟨o, es, ep, e, dd, _⟩ := hn
      obtain ⟨o2, e2, d2⟩ := hv
      rw [e] at e2; cases e2; rw [dd] at d2; cases d2
    · obtain ⟨h1, h2, h3, vs, ds, h4, h5, h6, h7⟩ := F.own y a hp
      have hyx : y ≠ x := fun z => hx (by rw [← F.names, ← z]; exact List.mem_map.mpr ⟨_, hp, rfl⟩)
      refine ⟨h1, h2, h3.put_local hn hs hn' hyx, vs, ds, ?_, ?_, h6, h7.keepR kr⟩
      · show (del σ.ρ x).lookup y = _
        rw [lk, if_neg (by simpa using hyx)]; exact h4
      · obtain ⟨o, n, e, c, dn, q⟩ := h5
        refine ⟨o, n, (hs.2 a ?_).trans e, c, dn, q⟩
        rintro rfl
        obtain ⟨o', es, ep, e', dd, _⟩ := hn
        rw [e] at e'; cases e'; rw [dd] at q; cases q
    · have he' : (del σ.ρ x).lookup y = some e := he
      rw [lk] at he'
      split at he'
      · cases he'
      · rename_i z
        obtain ⟨w, hw, hr'⟩ := F.rest y e he' hy
        exact ⟨w, hw.put_local hn hs hn' (by simpa using z), hr'.keepR kr⟩
  · obtain ⟨hkc, c, w, hc, hcell, hnew⟩ := F.cells x hk
    have hkx := (F.eok.kinds _).trans hkc
    refine wpAny_storeName_cell F.eok.kind hkx hc hcell fun h' hcell' hs => ?_
    have hL := IsCell.apart t hcell
    have kr : KeepR (X ++ O.map (·.2)) s.heap h' := .of_cell hcell hs
    have i' : Inv g { s with heap := h', toks := s.toks } := inv_same F.inv hs hL (nb _ hnew) (codeRec_ne_cell hcell)
    have hother : ∀ y, y ≠ x → ∀ c', env.cells.lookup y = some c' → (env.kindOf y = some .cell ∨ env.kindOf y = some .free) → c' ≠ c := fun y hy c' h1 _ z => hy (F.inj x y c hk hc (z ▸ h1)).symm
    refine hQ _ ⟨i', F.bin, F.eok, fun a ha => ?_, fun a o h1 e => ?_, F.lnew, ?_, fun y hy => ?_, F.inj, fun y hy => ?_, F.names, F.nodup, fun y a hp => ?_, fun y e he hy => ?_⟩ (.inr ⟨.inl hkx, c, hc, hcell'⟩) kr (fun a o h1 h2 h3 e => (hs.2 a fun z => h2 (.inr ⟨x, hk, z ▸ hc⟩)).trans e) (by obtain ⟨o, e, _⟩ := id hcell'; exact Alive.of_same e hs)
    · obtain ⟨⟨o, e, cc, its, k, qq⟩, n⟩ := F.xok a ha
      by_cases z : a = c
      · obtain ⟨o', e', d'⟩ := hcell; rw [z, e'] at e; cases e; rw [d'] at qq; cases qq
      · exact ⟨⟨o, (hs.2 a z).trans e, cc, its, k, qq⟩, n⟩
    · exact (hs.2 a fun z => by rw [z, hnew] at e; cases e).trans (F.keep a o h1 e)
    · obtain ⟨m, hn⟩ := F.lns
      refine ⟨m, hn.sameBut hs ?_⟩
      intro z
      obtain ⟨o, es, ep, e, dd, _⟩ := hn
      obtain ⟨o2, e2, d2⟩ := hcell
      rw [z, e2] at e; cases e; rw [dd] at d2; cases d2
    · obtain ⟨hkc', c', w', hc', hv', hn2⟩ := F.cells y hy
      by_cases z : y = x
      · subst z; rw [hc] at hc'; cases hc'; exact ⟨hkc', c, _, hc, hcell', hnew⟩
      · exact ⟨hkc', c', w', hc', hv'.sameBut hs (hother y z c' hc' (.inl ((F.eok.kinds _).trans hkc'))), hn2⟩
    · obtain ⟨c', w', hc', hv'⟩ := F.cel y hy
      by_cases z : y = x
      · subst z; rw [hc] at hc'; cases hc'; exact ⟨c, _, hc, hcell'⟩
      · exact ⟨c', w', hc', hv'.sameBut hs (hother y z c' hc' hy)⟩
    · obtain ⟨h1, h2, h3, vs, ds, h4, h5, h6, h7⟩ := F.own y a hp
      have hyx : y ≠ x := fun z => hx (by rw [← F.names, ← z]; exact List.mem_map.mpr ⟨_, hp, rfl⟩)
      refine ⟨h1, h2, h3.put_cell hcell hs (hother y hyx), vs, ds, ?_, ?_, h6, h7.keepR kr⟩
      · show (del σ.ρ x).lookup y = _
        rw [lk, if_neg (by simpa using hyx)]; exact h4
      · obtain ⟨o, n, e, cc, dn, q⟩ := h5
        refine ⟨o, n, (hs.2 a ?_).trans e, cc, dn, q⟩
        rintro rfl
        obtain ⟨o', e', dd⟩ := hcell
        rw [e] at e'; cases e'; rw [dd] at q; cases q
    · have he' : (del σ.ρ x).lookup y = some e := he
      rw [lk] at he'
      split at he'
      · cases he'
      · rename_i z
        have z' : y ≠ x := by simpa using z
        obtain ⟨w', hw, hr'⟩ := F.rest y e he' hy
        exact ⟨w', hw.put_cell hcell hs (hother y z'), hr'.keepR kr⟩
theorem FrX.store (F : FrX g X h₀ O fi env σ s) {x : Str} {v : Value} {d : D} (hx : x ∉ σ.ω) (hk : fi.sc.names.lookup x = some .local ∨ x ∈ fi.oc) (hr : Rep (X ++ O.map (·.2)) s.heap v d)
    {A : Around} {E : Value → Shared → Prop} {Q : Unit → Shared → Prop} (hQ : ∀ s', FrX g X h₀ O fi env (σ.put x d) s' → KeepX g fi env [] s.heap s'.heap → Alive s.heap s'.heap → Q () s') : wpAny g.M A (storeName env x v) Q E s := by
  refine F.storeRaw hx hk fun s' F' va kr k al => hQ s' ⟨F'.inv, F'.bin, F'.eok, F'.xok, F'.keep, F'.lnew, F'.lns, F'.cells, F'.inj, F'.cel, F'.names, F'.nodup, fun y a hp => ?_, fun y e he hy => ?_⟩ k al
  · obtain ⟨h1, h2, h3, vs, ds, h4, h5⟩ := F'.own y a hp
    have hyx : y ≠ x := fun z => hx (by rw [← F.names, ← z]; exact List.mem_map.mpr ⟨_, hp, rfl⟩)
    refine ⟨h1, h2, h3, vs, ds, ?_, h5⟩
    have hb : (y == x) = false := by simpa using hyx
    have h4' : (del σ.ρ x).lookup y = some (.list ds) := h4
    rw [lookup_del, hb] at h4'
    show (put σ.ρ x d).lookup y = _
    rw [lookup_put, hb]; exact h4'
  · have he' : (put σ.ρ x d).lookup y = some e := he
    rw [lookup_put] at he'
    split at he'
    · rename_i z
      have z' : y = x := by simpa using z
      cases he'
      exact ⟨v, z' ▸ va, hr.keepR kr⟩
    · rename_i z
      refine F'.rest y e ?_ hy
      show (del σ.ρ x).lookup y = _
      rw [lookup_del, if_neg z]; exact he'
end Mine


/- WG -/
namespace Mine
abbrev compTests (ifs : List Expr) (env : Env) : Sem Bool := forIn ifs true (fun c r => if r = true then do let ok ← isTrue c env (eval c env); pure (ForInStep.yield ok) else pure (ForInStep.yield r))

theorem turn_last {prog : Program} {w : World} {A : Around} {s : Shared} {elt target iter : Expr} {ifs : List Expr} {gens : List Comprehension} {scope : Scope} {pos : Pos} {k : Nat} {it acc : Value} {env : Env} {Q : Fin → Shared → Prop} {E : Value → Shared → Prop}
    (hg : gens[k]? = some ⟨target, iter, ifs, 0⟩) (hg' : gens[k + 1]? = none) (ht : ∀ v, letOwnedTupleGo target it v = pure ())
    (h : wpAny (model prog w) A (pyNext it) (fun r s₁ => match r with
      | none => Q (.done .next) s₁
      | some v => wpAny (model prog w) A (assign target env v) (fun _ s₂ => wpAny (model prog w) A (compTests ifs env) (fun ok s₃ =>
          if ok = true then wpAny (model prog w) A (eval elt env) (fun x s₄ => wpAny (model prog w) A (call (.builtin "list.append") [acc, x]) (fun _ s₅ => Q (.again (.compLoop (.ListComp elt gens scope pos) k it acc env)) s₅) E s₄) E s₃
          else Q (.again (.compLoop (.ListComp elt gens scope pos) k it acc env)) s₃) E s₂) E s₁) E s) :
    wpAny (model prog w) A (compTurn (.ListComp elt gens scope pos) k it acc env) Q E s := by
  unfold compTurn
  simp only [hg, hg']
  refine wpAny_bind (wpAny_standAt ?_)
  simp only [bne_self_eq_false, Bool.false_eq_true, if_false]
  refine wpAny_bind (wpAny_mono h (fun r s₁ h₁ => ?_) fun _ _ e => e)
  cases r with
  | none => exact wpAny_pure h₁
  | some v =>
    refine wpAny_bind (wpAny_of_eq (ht v) (wpAny_bind (wpAny_mono h₁ (fun _ s₂ h₂ => wpAny_bind (wpAny_mono h₂ (fun ok s₃ h₃ => ?_) fun _ _ e => e)) fun _ _ e => e)))
    cases ok with
    | false => exact wpAny_pure h₃
    | true =>
      simp only [if_true] at h₃ ⊢
      exact wpAny_bind (wpAny_bind (wpAny_mono h₃ (fun x s₄ h₄ => wpAny_bind (wpAny_mono h₄ (fun _ s₅ h₅ => wpAny_pure (wpAny_pure h₅)) fun _ _ e => e)) fun _ _ e => e))

theorem turn_inner {prog : Program} {w : World} {A : Around} {s : Shared} {elt target iter target' iter' : Expr} {ifs ifs' : List Expr} {gens : List Comprehension} {scope : Scope} {pos : Pos} {k : Nat} {it acc : Value} {env : Env} {Q : Fin → Shared → Prop} {E : Value → Shared → Prop}
    (hg : gens[k]? = some ⟨target, iter, ifs, 0⟩) (hg' : gens[k + 1]? = some ⟨target', iter', ifs', 0⟩) (ht : ∀ v, letOwnedTupleGo target it v = pure ()) (hs : ∀ x, foldedSetIterable iter' env x = pure x)
    (h : wpAny (model prog w) A (pyNext it) (fun r s₁ => match r with
      | none => Q (.done .next) s₁
      | some v => wpAny (model prog w) A (assign target env v) (fun _ s₂ => wpAny (model prog w) A (compTests ifs env) (fun ok s₃ =>
          if ok = true then wpAny (model prog w) A (eval iter' env) (fun x s₄ => wpAny (model prog w) A (pyIter x) (fun it' s₅ =>
            codeAny (model prog w) A (.compStart (.ListComp elt gens scope pos) (k + 1) it' acc env) (fun r s₆ => match r with | .ok _ => Q (.again (.compLoop (.ListComp elt gens scope pos) k it acc env)) s₆ | .error _ => False) s₅) E s₄) E s₃
          else Q (.again (.compLoop (.ListComp elt gens scope pos) k it acc env)) s₃) E s₂) E s₁) E s) :
    wpAny (model prog w) A (compTurn (.ListComp elt gens scope pos) k it acc env) Q E s := by
  unfold compTurn
  simp only [hg, hg']
  refine wpAny_bind (wpAny_standAt ?_)
  simp only [bne_self_eq_false, Bool.false_eq_true, if_false]
  refine wpAny_bind (wpAny_mono h (fun r s₁ h₁ => ?_) fun _ _ e => e)
  cases r with
  | none => exact wpAny_pure h₁
  | some v =>
    refine wpAny_bind (wpAny_of_eq (ht v) (wpAny_bind (wpAny_mono h₁ (fun _ s₂ h₂ => wpAny_bind (wpAny_mono h₂ (fun ok s₃ h₃ => ?_) fun _ _ e => e)) fun _ _ e => e)))
    cases ok with
    | false => exact wpAny_pure h₃
    | true =>
      simp only [if_true] at h₃ ⊢
      refine wpAny_bind (wpAny_mono h₃ (fun x s₄ h₄ => wpAny_bind (wpAny_standAt (wpAny_bind (wpAny_of_eq (hs x) (wpAny_bind (wpAny_holding (wpAny_mono h₄ (fun it' s₅ h₅ => ?_) fun _ _ e => e))))))) fun _ _ e => e)
      refine wpAny_bind (wpAny_runOwn (codeAny_mono h₅ fun r s₆ h₆ => ?_))
      cases r with
      | ok f => exact wpAny_pure h₆
      | error e => exact h₆.elim

variable {g : Gx} {ℓ : Nat} {fi : FI} {X : List Addr} {h₀ : Heap} {O : List (Str × Addr)} {env : Env} {σ : St} {s : Shared} {ρ : AEnv}

def rngInts (a b c : Int) : List Int := if c = 1 then (List.range (b - a).toNat).map (fun i : Nat => a + (i : Int)) else (List.range (a - b).toNat).map (fun i : Nat => a - (i : Int))
def iterD : D → Option (List D)
  | .list ds => some ds
  | .tup ds => some ds
  | .rng a b c => some ((rngInts a b c).map .int)
  | .bytes b => some ((KBw.bInts b).map .int)
  | _ => none

inductive IterO (h : Heap) (I : Addr) : Prop where
  | mk (o : Obj) (T : String) (vs : Array Value) (e : h.get? I = some o) (r : o.cls = .type T ∧ o.data = .fields vs ∧ T ≠ "range" ∧ T ≠ "code" ∧ ["enumerate", "zip", "dict_itemiterator", "dict_reverseitemiterator", "odict_iterator", "itertools.zip_longest", "itertools.pairwise"].contains T = false)
inductive Wk (g : Gx) (X : List Addr) (A : Around) (s : Shared) (I : Addr) (ax : List Addr) (items : List D) : Prop where
  | mk (P : Nat → Value → Prop) (St : Nat → Heap → Prop) (w : Walks g.prog g.w A I (I :: ax) [I] items.length P St) (st : St 0 s.heap) (io : ∀ i h, St i h → IterO h I) (rep : ∀ i v, i < items.length → P i v → ∃ d, items[i]? = some d ∧ Rep X s.heap v d)

theorem pyIter_go {A : Around} {v : Value} {d : D} {items : List D} (hh : A.handled = none) (i : Inv g s) (r : Rep X s.heap v d) (it : iterD d = some items) {Q : Value → Shared → Prop} {E : Value → Shared → Prop}
    (hQ : ∀ s' I ax, Inv g s' → (∀ b o, s.heap.get? b = some o → s'.heap.get? b = some o) → s.heap.get? I = none → (∃ o, s'.heap.get? I = some o) → (∀ a ∈ ax, v = .ref a ∧ ∃ xs, s.heap.IsList a xs ∨ s.heap.IsTuple a xs) → Wk g X A s' I ax items → Q (.ref I) s') :
    wpAny g.M A (pyIter v) Q E s := by
  cases r with
  | list ha hl hz hr =>
    rename_i a vs ds
    cases it
    have hl := hl.isList
    refine wpAny_pyIter_list hl ?_
    have kk := push_keeps s.heap { cls := .type "list_iterator", data := .fields #[.ref a, .int 0 0] }
    refine hQ _ s.heap.objs.size [a] (i.of_keeps (tk := s.toks) kk) kk (fresh_none _) ⟨_, Heap.get?_push_size _ rfl⟩ (fun b hb => by simp at hb; subst hb; exact ⟨rfl, _, .inl hl⟩) ?_
    have hne : a ≠ s.heap.objs.size := by
      obtain ⟨o, e, _⟩ := hl
      exact Nat.ne_of_lt (Heap.lt_size e)
    have W := Walks.list (prog := g.prog) (w := g.w) hh s.heap.objs.size a hne vs.toArray
    have hsz2 : vs.toArray.size = items.length := by rw [List.size_toArray, hr.length]
    rw [hsz2] at W
    refine ⟨_, _, W, ⟨⟨_, Heap.get?_push_size _ rfl, rfl, rfl⟩, hl.push _⟩, (fun i h st => by obtain ⟨⟨o, e, c, d⟩, _⟩ := st; exact ⟨o, _, _, e, c, d, by decide, by decide, by decide⟩), fun j v _ hv => ?_⟩
    have hr' := hr.keep i.tabs (Keep.of kk)
    exact hr'.get j (by simpa using hv)
  | tup hl hr =>
    rename_i a vs ds
    cases it
    refine wpAny_pyIter_tuple hl ?_
    have kk := push_keeps s.heap { cls := .type "tuple_iterator", data := .fields #[.ref a, .int 0 0] }
    refine hQ _ s.heap.objs.size [a] (i.of_keeps (tk := s.toks) kk) kk (fresh_none _) ⟨_, Heap.get?_push_size _ rfl⟩ (fun b hb => by simp at hb; subst hb; exact ⟨rfl, _, .inr hl⟩) ?_
    have hne : a ≠ s.heap.objs.size := by
      obtain ⟨o, e, _⟩ := hl
      exact Nat.ne_of_lt (Heap.lt_size e)
    have W := Walks.tuple (prog := g.prog) (w := g.w) hh s.heap.objs.size a hne vs.toArray
    have hsz2 : vs.toArray.size = items.length := by rw [List.size_toArray, hr.length]
    rw [hsz2] at W
    refine ⟨_, _, W, ⟨⟨_, Heap.get?_push_size _ rfl, rfl, rfl⟩, ?_⟩, (fun i h st => by obtain ⟨⟨o, e, c, d⟩, _⟩ := st; exact ⟨o, _, _, e, c, d, by decide, by decide, by decide⟩), fun j v _ hv => ?_⟩
    · obtain ⟨o, e, r⟩ := hl; exact ⟨o, kk _ _ e, r⟩
    · have hr' := hr.keep i.tabs (Keep.of kk)
      exact hr'.get j (by simpa using hv)
  | rng e q =>
    rename_i r a b c t u v
    cases it
    obtain ⟨⟨q1, q2⟩, ⟨q3, q4⟩, q5⟩ := q
    have e0 : c = -1 → Builtin.Range.rangeSize a b c = if a > b then a - b else 0 := by
      rintro rfl
      unfold Builtin.Range.rangeSize
      rw [if_neg (by lia), Int.neg_neg, Int.ediv_one]
      split <;> lia
    have hsz : Builtin.Range.rangeSize a b c = (((rngInts a b c).map D.int).length : Int) := by
      unfold rngInts
      rcases q5 with rfl | rfl
      · rw [rangeSize_one, if_pos rfl]; simp; split <;> lia
      · rw [e0 rfl]
        simp; split <;> lia
    have hsm : Builtin.Range.small a b c = true := by
      rcases q5 with rfl | rfl
      · exact small_one (by lia) (by lia) (by lia) (by lia)
      · unfold Builtin.Range.small
        rw [e0 rfl]
        simp only [Builtin.Range.rangeFitsLong, Bool.and_eq_true, Bool.or_eq_true, decide_eq_true_eq, beq_iff_eq]
        refine ⟨⟨⟨⟨?_, ?_⟩, ?_⟩, ?_⟩, ?_⟩
        · lia
        · lia
        · lia
        · split <;> lia
        · right; rw [if_neg (by lia)]; simp; lia
    refine wpAny_pyIter_range e hsm ?_
    rw [hsz]
    have kk := push_keeps s.heap { cls := .type "range_iterator", data := .fields #[rawInt a, rawInt (((rngInts a b c).map D.int).length : Int), rawInt c] }
    refine hQ _ s.heap.objs.size [] (i.of_keeps (tk := s.toks) kk) kk (fresh_none _) ⟨_, Heap.get?_push_size _ rfl⟩ (fun b hb => by cases hb) ?_
    refine ⟨_, _, Walks.range (prog := g.prog) (w := g.w) hh s.heap.objs.size a c _, ?_, (fun i h st => ⟨_, _, _, st, rfl, rfl, by decide, by decide, by decide⟩), ?_⟩
    · show IsRangeIter _ _ (a + ((0 : Nat) : Int) * c) _ c
      simp only [Int.natCast_zero, Int.zero_mul, Int.add_zero, Int.sub_zero]
      exact Heap.get?_push_size _ rfl
    · intro j v hj hv
      obtain ⟨tk, rfl⟩ := hv
      refine ⟨.int (a + (j : Int) * c), ?_, .int⟩
      unfold rngInts at hj ⊢
      rcases q5 with rfl | rfl
      · simp at hj ⊢; exact ⟨j, by rw [List.getElem?_range (by lia)], rfl⟩
      · simp at hj ⊢; exact ⟨j, by rw [List.getElem?_range (by lia)], by lia⟩
  | none => cases it
  | bool => cases it
  | int => cases it
  | str => cases it
  | opq => cases it
  | bytes =>
    rename_i b t
    cases it
    refine KBw.pyIter_bytes ?_
    have kk := push_keeps s.heap { cls := .type "bytes_iterator", data := .fields #[.bytes b t, .int 0 0] }
    refine hQ _ s.heap.objs.size [] (i.of_keeps (tk := s.toks) kk) kk (fresh_none _) ⟨_, Heap.get?_push_size _ rfl⟩ (fun b hb => by cases hb) ?_
    have W := KBw.walks (prog := g.prog) (w := g.w) hh s.heap.objs.size b t
    have hsz2 : b.size = ((KBw.bInts b).map D.int).length := by rw [List.length_map, KBw.ints_length]
    rw [hsz2] at W
    refine ⟨_, _, W, ⟨_, Heap.get?_push_size _ rfl, rfl, rfl⟩, (fun i h st => by obtain ⟨o, e, c, d⟩ := st; exact ⟨o, _, _, e, c, d, by decide, by decide, by decide⟩), fun j v _ hv => ?_⟩
    obtain ⟨c, u, hc, rfl⟩ := hv
    exact ⟨.int (c.toNat : Int), by rw [List.getElem?_map, KBw.ints_get hc]; rfl, .int⟩
end Mine


/- WH -/
namespace Mine
variable {g : Gx} {ℓ : Nat} {fi : FI} {X : List Addr} {h₀ : Heap} {O : List (Str × Addr)} {env : Env} {σ : St} {s : Shared} {ρ : AEnv}

theorem IterO.noSeq {h : Heap} {I : Addr} (x : IterO h I) {Y : List Addr} {o : Obj} (e : h.get? I = some o) (q : SeqO Y I o) : False := by
  obtain ⟨o', T, vs, e', c, d, n1, n2⟩ := x
  rw [e] at e'; cases e'
  rcases q with ⟨xs, n, q, _⟩ | ⟨vs', q, z⟩
  · rw [d] at q; cases q
  · rw [c] at z; exact n1 (by simpa using z)
theorem IterO.noNs {h : Heap} {I : Addr} (x : IterO h I) {m : Str → Option Value} (hn : h.Ns I m) : False := by
  obtain ⟨o', T, vs, e', c, d, n1, n2⟩ := x
  obtain ⟨o, es, ep, e, q, _⟩ := hn
  rw [e] at e'; cases e'; rw [d] at q; cases q
theorem IterO.noCell {h : Heap} {I : Addr} (x : IterO h I) {v : Option Value} (hn : h.IsCell I v) : False := by
  obtain ⟨o', T, vs, e', c, d, n1, n2⟩ := x
  obtain ⟨o, e, q⟩ := hn
  rw [e] at e'; cases e'; rw [d] at q; cases q
theorem IterO.noList {h : Heap} {I : Addr} (x : IterO h I) {xs : Array Value} (hn : h.IsList I xs) : False := by
  obtain ⟨o', T, vs, e', c, d, n1, n2⟩ := x
  obtain ⟨o, e, _, n, q⟩ := hn
  rw [e] at e'; cases e'; rw [d] at q; cases q
theorem IterO.noTab {h : Heap} {I : Addr} (x : IterO h I) (t : TabsOK g h) : I ∉ g.Tb := by
  obtain ⟨o', T, vs, e', c, d, n1, n2⟩ := x
  exact tab_cls t e' (by rw [c]; nofun)

theorem VarAt.poke {h h' : Heap} {a : Addr} (hio : IterO h a) (hs : ∀ b o, b ≠ a → h.get? b = some o → h'.get? b = some o) {x : Str} {v : Value} (q : VarAt h env x v) : VarAt h' env x v := by
  rcases q with ⟨hk, m, hn, hm⟩ | ⟨hk, c, hc, hv⟩
  · exact .inl ⟨hk, m, hn.at' fun o e => hs _ _ (fun z => hio.noNs (z ▸ hn)) e, hm⟩
  · refine .inr ⟨hk, c, hc, ?_⟩
    obtain ⟨o, e, d⟩ := id hv
    exact ⟨o, hs _ _ (fun z => hio.noCell (z ▸ hv)) e, d⟩

theorem FrX.poke (F : FrX g X h₀ O fi env σ s) {a : Addr} (hio : IterO s.heap a) (hn : h₀.get? a = none) (hX : a ∉ X) {h' : Heap} {tk : Nat} (hs : ∀ b o, b ≠ a → s.heap.get? b = some o → h'.get? b = some o) : FrX g X h₀ O fi env σ { s with heap := h', toks := tk } := by
  have t := F.inv.tabs
  have kr : ∀ Y, KeepR Y s.heap h' := fun Y b o e q => hs b o (fun z => by subst z; exact hio.noSeq e q) e
  have nb : g.b.get? a = none := by
    cases e : g.b.get? a with
    | none => rfl
    | some o => obtain ⟨o', e'⟩ := F.bin _ _ e; rw [hn] at e'; cases e'
  have nc : NoCode s.heap a := by
    rintro o e ⟨z, _⟩
    obtain ⟨o', T, vs, e', c, d, n1, n2⟩ := hio
    rw [e] at e'; cases e'; rw [c] at z; exact n2.1 (by simpa using z)
  refine ⟨inv_poke F.inv hs (hio.noTab t) nb nc, F.bin, F.eok, fun b hb => ?_, fun b o h1 e => ?_, F.lnew, ?_, fun x hx => ?_, F.inj, fun x hx => ?_, F.names, F.nodup, fun x b hp => ?_, fun x d h hx => ?_⟩
  · obtain ⟨⟨o, e, qq⟩, n⟩ := F.xok b hb
    exact ⟨⟨o, hs b o (fun z => hX (z ▸ hb)) e, qq⟩, n⟩
  · exact hs b o (fun z => by rw [z, hn] at e; cases e) (F.keep b o h1 e)
  · obtain ⟨m, hm⟩ := F.lns
    exact ⟨m, hm.at' fun o e => hs _ _ (fun z => hio.noNs (z ▸ hm)) e⟩
  · obtain ⟨hk, c, v, hc, hv, hn'⟩ := F.cells x hx
    obtain ⟨o, e, d⟩ := id hv
    exact ⟨hk, c, v, hc, ⟨o, hs _ _ (fun z => hio.noCell (z ▸ hv)) e, d⟩, hn'⟩
  · obtain ⟨c, v, hc, hv⟩ := F.cel x hx
    obtain ⟨o, e, d⟩ := id hv
    exact ⟨c, v, hc, o, hs _ _ (fun z => hio.noCell (z ▸ hv)) e, d⟩
  · obtain ⟨h1, h2, h3, vs, ds, h4, h5, h6, h7⟩ := F.own x b hp
    refine ⟨h1, h2, h3.poke hio hs, vs, ds, h4, ?_, h6, h7.keepR (kr _)⟩
    obtain ⟨o, n, e, r⟩ := id h5
    exact ⟨o, n, hs _ _ (fun z => hio.noList (z ▸ h5.isList)) e, r⟩
  · obtain ⟨v, hv, hr⟩ := F.rest x d h hx
    exact ⟨v, hv.poke hio hs, hr.keepR (kr _)⟩

theorem FrX.weaken {ρ ρ' : AEnv} (F : FrX g X h₀ [] fi env ⟨ρ, []⟩ s) (hw : ∀ x d, ρ'.lookup x = some d → ρ.lookup x = some d) : FrX g X h₀ [] fi env ⟨ρ', []⟩ s :=
  ⟨F.inv, F.bin, F.eok, F.xok, F.keep, F.lnew, F.lns, F.cells, F.inj, F.cel, F.names, F.nodup, (fun _ _ hp => nomatch hp), fun x d h hx => F.rest x d (hw x d h) hx⟩

structure CI (g : Gx) (X : List Addr) (H : Heap) (fi : FI) (cenv : Env) (Dd : Addr) (ρ : AEnv) (ds : List D) (s : Shared) : Prop where
  fr : FrX g X H [] fi cenv ⟨ρ, []⟩ s
  dnew : H.get? Dd = none
  dX : Dd ∈ X
  dn : ¬ OwnA fi cenv Dd
  acc : ∃ vs, PL s.heap Dd (vs : List Value).toArray ∧ Reps X s.heap vs ds

def KeepC (g : Gx) (fi : FI) (env : Env) (Dd : Addr) (I : List Addr) (h h' : Heap) : Prop := ∀ a o, a ∉ g.Tb → ¬ OwnA fi env a → a ≠ Dd → a ∉ I → h.get? a = some o → h'.get? a = some o
theorem KeepC.trans {Dd : Addr} {I : List Addr} {h h' h'' : Heap} (x : KeepC g fi env Dd I h h') (y : KeepC g fi env Dd I h' h'') : KeepC g fi env Dd I h h'' := fun a o h1 h2 h3 h4 e => y a o h1 h2 h3 h4 (x a o h1 h2 h3 h4 e)
theorem KeepC.of_keep {Dd : Addr} {I : List Addr} {h h' : Heap} (k : Keep g h h') : KeepC g fi env Dd I h h' := fun a o h1 _ _ _ e => k a o h1 e
theorem KeepC.refl {Dd : Addr} {I : List Addr} {h : Heap} : KeepC g fi env Dd I h h := fun _ _ _ _ _ _ e => e
theorem KeepC.more {Dd : Addr} {I J : List Addr} {h h' : Heap} (x : KeepC g fi env Dd I h h') (q : ∀ a o, a ∈ I → h.get? a = some o → a ∈ J) : KeepC g fi env Dd J h h' := fun a o h1 h2 h3 h4 e => x a o h1 h2 h3 (fun m => h4 (q a o m e)) e

variable {H : Heap} {Dd : Addr} {ds : List D}
theorem CI.step (C : CI g X H fi env Dd ρ ds s) {s' : Shared} (i : Inv g s') (k : Keep g s.heap s'.heap) : CI g X H fi env Dd ρ ds s' := by
  refine ⟨C.fr.step i k, C.dnew, C.dX, C.dn, ?_⟩
  obtain ⟨vs, ⟨o, n, e, c, q⟩, hr⟩ := C.acc
  exact ⟨vs, ⟨o, n, k _ _ (tab_cls C.fr.inv.tabs e (by rw [c]; nofun)) e, c, q⟩, hr.keep C.fr.inv.tabs k⟩
theorem CI.weaken {ρ' : AEnv} (C : CI g X H fi env Dd ρ ds s) (hw : ∀ x d, ρ'.lookup x = some d → ρ.lookup x = some d) : CI g X H fi env Dd ρ' ds s := ⟨C.fr.weaken hw, C.dnew, C.dX, C.dn, C.acc⟩
theorem CI.poke (C : CI g X H fi env Dd ρ ds s) {a : Addr} (hio : IterO s.heap a) (hn : H.get? a = none) (hX : a ∉ X) {h' : Heap} {tk : Nat} (hs : ∀ b o, b ≠ a → s.heap.get? b = some o → h'.get? b = some o) : CI g X H fi env Dd ρ ds { s with heap := h', toks := tk } := by
  refine ⟨C.fr.poke hio hn hX hs, C.dnew, C.dX, C.dn, ?_⟩
  obtain ⟨vs, hl, hr⟩ := C.acc
  obtain ⟨o, n, e, r⟩ := id hl
  exact ⟨vs, ⟨o, n, hs _ _ (fun z => hio.noList (z ▸ hl.isList)) e, r⟩, hr.keepR fun b o e q => hs b o (fun z => by subst z; exact hio.noSeq e q) e⟩

theorem CI.store (C : CI g X H fi env Dd ρ ds s) {x : Str} {v : Value} {d : D} (hk : fi.sc.names.lookup x = some .local ∨ x ∈ fi.oc) (hr : Rep X s.heap v d)
    {A : Around} {E : Value → Shared → Prop} {Q : Unit → Shared → Prop} (hQ : ∀ s', CI g X H fi env Dd (put ρ x d) ds s' → KeepC g fi env Dd [] s.heap s'.heap → Q () s') : wpAny g.M A (storeName env x v) Q E s := by
  refine C.fr.store (fun h => nomatch h) hk (by simpa using hr) fun s' F' k' _ => hQ s' ⟨F', C.dnew, C.dX, C.dn, ?_⟩ fun a o h1 h2 _ _ e => k' a o h1 h2 (fun h => nomatch h) e
  obtain ⟨vs, hl, hr⟩ := C.acc
  have kr : KeepR X s.heap s'.heap := fun b o e q => k' b o ?_ ?_ (fun h => nomatch h) e
  · obtain ⟨o, n, e, c, q⟩ := id hl
    exact ⟨vs, ⟨o, n, k' _ _ (tab_cls C.fr.inv.tabs e (by rw [c]; nofun)) C.dn (fun h => nomatch h) e, c, q⟩, hr.keepR kr⟩
  · intro hm
    obtain ⟨p, hp, rfl⟩ := List.mem_map.mp hm
    obtain ⟨ps, e', _⟩ := C.fr.inv.tabs p hp
    rw [e] at e'; cases e'
    rcases q with ⟨xs, n, q, _⟩ | ⟨vs, q, z⟩
    · cases q
    · simp at z
  · rintro (z | ⟨y, hy, hc⟩)
    · obtain ⟨m, o', es, ep, e', dd, _⟩ := C.fr.lns
      rw [← z, e] at e'; cases e'
      rcases q with ⟨xs, n, q, _⟩ | ⟨vs, q, _⟩ <;> (rw [dd] at q; cases q)
    · obtain ⟨_, c, w, hc', ⟨o', e', dd⟩, _⟩ := C.fr.cells y hy
      rw [hc] at hc'; cases hc'
      rw [e] at e'; cases e'
      rcases q with ⟨xs, n, q, _⟩ | ⟨vs, q, _⟩ <;> (rw [dd] at q; cases q)

theorem kin_fresh {X : List Addr} {a : Addr} {h : Heap} (e : h.get? a = none) : Kin X (a :: X) h h := fun b o e' z => ⟨e', fun c m => by
  rcases List.mem_cons.mp m with q | q
  · rw [q, e] at e'; cases e'
  · exact z.nin c q⟩
theorem Rep.fresh {a : Addr} {h : Heap} (e : h.get? a = Option.none) {v : Value} {d : D} (r : Rep X h v d) : Rep (a :: X) h v d := r.map (kin_fresh e)
theorem Reps.fresh {a : Addr} {h : Heap} (e : h.get? a = Option.none) {vs : List Value} {ds : List D} (r : Reps X h vs ds) : Reps (a :: X) h vs ds := r.map (kin_fresh e)

theorem IsList.noNs {h : Heap} {a : Addr} {xs : Array Value} (x : h.IsList a xs) {m : Str → Option Value} (hn : h.Ns a m) : False := by
  obtain ⟨o', e', c, n, d⟩ := x
  obtain ⟨o, es, ep, e, q, _⟩ := hn
  rw [e] at e'; cases e'; rw [d] at q; cases q
theorem IsList.noCell {h : Heap} {a : Addr} {xs : Array Value} (x : h.IsList a xs) {v : Option Value} (hn : h.IsCell a v) : False := by
  obtain ⟨o', e', c, n, d⟩ := x
  obtain ⟨o, e, q⟩ := hn
  rw [e] at e'; cases e'; rw [d] at q; cases q
theorem VarAt.pokeL {h h' : Heap} {a : Addr} {xs : Array Value} (hl : h.IsList a xs) (hs : Heap.SameBut a h h') {x : Str} {v : Value} (q : VarAt h env x v) : VarAt h' env x v := by
  rcases q with ⟨hk, m, hn, hm⟩ | ⟨hk, c, hc, hv⟩
  · exact .inl ⟨hk, m, hn.sameBut hs (fun z => IsList.noNs hl (z ▸ hn)), hm⟩
  · exact .inr ⟨hk, c, hc, hv.sameBut hs (fun z => IsList.noCell hl (z ▸ hv))⟩

theorem FrX.pokeL (F : FrX g X h₀ O fi env σ s) {a : Addr} {xs ys : Array Value} (hl : s.heap.IsList a xs) (hn : h₀.get? a = none) (hX : a ∈ X) (hO : a ∉ O.map (·.2)) {h' : Heap} {tk : Nat} (hs : Heap.SameBut a s.heap h') (hl' : h'.IsList a ys) : FrX g X h₀ O fi env σ { s with heap := h', toks := tk } := by
  have t := F.inv.tabs
  have kr : KeepR (X ++ O.map (·.2)) s.heap h' := .of_list hl (List.mem_append_left _ hX) hs
  have nb : g.b.get? a = none := by
    cases e : g.b.get? a with
    | none => rfl
    | some o => obtain ⟨o', e'⟩ := F.bin _ _ e; rw [hn] at e'; cases e'
  have nT : a ∉ g.Tb := by obtain ⟨o, e, c, _⟩ := hl; exact tab_cls t e (by rw [c]; nofun)
  refine ⟨inv_same F.inv hs nT nb (codeRec_ne_list hl), F.bin, F.eok, fun b hb => ?_, fun b o h1 e => ?_, F.lnew, ?_, fun x hx => ?_, F.inj, fun x hx => ?_, F.names, F.nodup, fun x b hp => ?_, fun x d h hx => ?_⟩
  · obtain ⟨⟨o, e, qq⟩, n⟩ := F.xok b hb
    by_cases z : b = a
    · obtain ⟨o', e', c', k, d'⟩ := hl'; exact ⟨⟨o', z ▸ e', c', _, k, d'⟩, n⟩
    · exact ⟨⟨o, (hs.2 b z).trans e, qq⟩, n⟩
  · exact (hs.2 b (fun z => by rw [z, hn] at e; cases e)).trans (F.keep b o h1 e)
  · obtain ⟨m, hm⟩ := F.lns
    exact ⟨m, hm.sameBut hs fun z => IsList.noNs hl (z ▸ hm)⟩
  · obtain ⟨hk, c, v, hc, hv, hn'⟩ := F.cells x hx
    exact ⟨hk, c, v, hc, hv.sameBut hs (fun z => IsList.noCell hl (z ▸ hv)), hn'⟩
  · obtain ⟨c, v, hc, hv⟩ := F.cel x hx
    exact ⟨c, v, hc, hv.sameBut hs (fun z => IsList.noCell hl (z ▸ hv))⟩
  · obtain ⟨h1, h2, h3, vs, ds, h4, h5, h6, h7⟩ := F.own x b hp
    refine ⟨h1, h2, h3.pokeL hl hs, vs, ds, h4, ?_, h6, h7.keepR kr⟩
    obtain ⟨o, n, e, r⟩ := id h5
    exact ⟨o, n, (hs.2 b fun z => hO (z ▸ List.mem_map.mpr ⟨_, hp, rfl⟩)).trans e, r⟩
  · obtain ⟨v, hv, hr⟩ := F.rest x d h hx
    exact ⟨v, hv.pokeL hl hs, hr.keepR kr⟩

theorem CI.push (C : CI g X H fi env Dd ρ ds s) {v : Value} {d : D} (hr : Rep X s.heap v d) (hz : ds.length ≤ sizeLine)
    {A : Around} {E : Value → Shared → Prop} {Q : Value → Shared → Prop} (hQ : ∀ v s', CI g X H fi env Dd ρ (ds ++ [d]) s' → KeepC g fi env Dd [] s.heap s'.heap → Q v s') : wpAny g.M A (call (.builtin "list.append") [.ref Dd, v]) Q E s := by
  obtain ⟨vs, hl, hrs⟩ := C.acc
  refine wpAny_list_append_plain hl.plain (fun h' hl' hs => ?_) (by rw [List.size_toArray, hrs.length]; exact hz)
  have F' := C.fr.pokeL (tk := s.toks) hl.isList C.dnew C.dX (fun h => nomatch h) hs hl'.isList
  have kr : KeepR X s.heap h' := .of_list hl.isList C.dX hs
  refine hQ _ _ ⟨F', C.dnew, C.dX, C.dn, vs ++ [v], by simpa using PL.of hl', (hrs.keepR kr).append (.cons (hr.keepR kr) .nil)⟩ fun a o _ _ h3 _ e => (hs.2 a h3).trans e

def Tsts (g : Gx) (ℓ : Nat) (fi : FI) : List Expr → AEnv → Bool → Prop
  | [], _, b => b = true
  | e :: es, ρ, b => ∃ b1, Tst g ℓ fi ρ e b1 ∧ (b1 = true → Tsts g ℓ fi es ρ b) ∧ (b1 = false → b = false)

theorem tests_ok {A : Around} (hA : AOk ℓ A) {E : Value → Shared → Prop} : ∀ (ifs : List Expr) {b : Bool} {s : Shared}, Tsts g ℓ fi ifs ρ b → CI g X H fi env Dd ρ ds s → ∀ {Q : Bool → Shared → Prop}, (∀ s', CI g X H fi env Dd ρ ds s' → Keep g s.heap s'.heap → Q b s') → wpAny g.M A (compTests ifs env) Q E s := by
  have skip : ∀ (ifs : List Expr) {s : Shared} {Q : Bool → Shared → Prop}, Q false s → wpAny g.M A (forIn ifs false (fun c r => if r = true then do let ok ← isTrue c env (eval c env); pure (ForInStep.yield ok) else pure (ForInStep.yield r))) Q E s := by
    intro ifs
    induction ifs with
    | nil => intro s Q h; rw [List.forIn_nil]; exact wpAny_pure h
    | cons e es ih => intro s Q h; rw [List.forIn_cons]; exact wpAny_bind (wpAny_pure (ih h))
  intro ifs
  induction ifs with
  | nil => intro b s hb C Q hQ; cases hb; unfold compTests; rw [List.forIn_nil]; exact wpAny_pure (hQ s C (Keep.refl _))
  | cons e es ih =>
    rintro b s ⟨b1, h1, h2, h3⟩ C Q hQ
    unfold compTests
    rw [List.forIn_cons]
    have hx := C.fr.xok
    refine wpAny_bind ?_
    show wpAny _ _ (do let ok ← isTrue e env (eval e env); pure (ForInStep.yield ok)) _ _ _
    refine wpAny_bind (wpQ (h1 A X env s hA C.fr.inv C.fr.eok hx C.fr.full) fun q s₁ ⟨hq, i, k⟩ => wpAny_pure ?_)
    subst hq
    cases q with
    | false =>
      have := h3 rfl
      subst this
      exact skip es (hQ s₁ (C.step i k) k)
    | true => exact ih (h2 rfl) (C.step i k) fun s' C' k' => hQ s' C' (k.trans k')

def Emit (g : Gx) (ℓ : Nat) (fi : FI) (elt : Expr) : List Comprehension → AEnv → List D → Prop
  | [], ρ, ds => ∃ d, ds = [d] ∧ Ev g ℓ fi ρ elt d
  | c :: gs, ρ, ds => ∃ x px dl items F, c.target = .Name x px ∧ c.is_async = 0 ∧ (fi.sc.names.lookup x = some .local ∨ x ∈ fi.oc) ∧ ρ.lookup x = none ∧ (∀ env v, foldedSetIterable c.iter env v = pure v) ∧
      Ev g ℓ fi ρ c.iter dl ∧ iterD dl = some items ∧ ds = items.flatMap F ∧ ∀ it ∈ items, ∃ b, Tsts g ℓ fi c.ifs (put ρ x it) b ∧ (b = true → Emit g ℓ fi elt gs (put ρ x it) (F it)) ∧ (b = false → F it = [])
end Mine


/- WI -/
namespace Mine
variable {g : Gx} {ℓ : Nat} {fi : FI} {X : List Addr} {h₀ : Heap} {O : List (Str × Addr)} {env : Env} {σ : St} {s : Shared} {ρ : AEnv} {H : Heap} {Dd : Addr} {ds : List D}

theorem inv_base (hI : Inv g s) {a : Addr} (h : s.heap.get? a = none) : g.b.get? a = none := by
  cases e : g.b.get? a with
  | none => rfl
  | some o => have := hI.stays _ _ e; rw [h] at this; cases this

theorem own_noSeq {fi : FI} {env : Env} {σ : St} (F : FrX g X h₀ O fi env σ s) {a : Addr} {o : Obj} {Y : List Addr} (e : s.heap.get? a = some o) (q : SeqO Y a o) : ¬ OwnA fi env a := by
  rintro (z | ⟨y, hy, hc⟩)
  · obtain ⟨m, o', es, ep, e', dd, _⟩ := F.lns
    rw [← z, e] at e'; cases e'
    rcases q with ⟨xs, n, q, _⟩ | ⟨vs, q, _⟩ <;> (rw [dd] at q; cases q)
  · obtain ⟨_, c, w, hc', ⟨o', e', dd⟩, _⟩ := F.cells y hy
    rw [hc] at hc'; cases hc'
    rw [e] at e'; cases e'
    rcases q with ⟨xs, n, q, _⟩ | ⟨vs, q, _⟩ <;> (rw [dd] at q; cases q)
theorem tab_noSeq {h : Heap} (t : TabsOK g h) {a : Addr} {o : Obj} {Y : List Addr} (e : h.get? a = some o) (q : SeqO Y a o) : a ∉ g.Tb := by
  intro hm
  obtain ⟨p, hp, rfl⟩ := List.mem_map.mp hm
  obtain ⟨ps, e', _⟩ := t p hp
  rw [e] at e'; cases e'
  rcases q with ⟨xs, n, q, _⟩ | ⟨vs, q, z⟩
  · cases q
  · simp at z
theorem own_noIter (F : FrX g X h₀ O fi env σ s) {a : Addr} (i : IterO s.heap a) : ¬ OwnA fi env a := by
  rintro (z | ⟨y, hy, hc⟩)
  · obtain ⟨m, hm⟩ := F.lns
    exact i.noNs (z ▸ hm)
  · obtain ⟨_, c, w, hc', hw, _⟩ := F.cells y hy
    rw [hc] at hc'; cases hc'
    exact i.noCell hw

theorem KeepC.keepR (C : CI g X H fi env Dd ρ ds s) {I : Addr} {J : List Addr} (i : IterO s.heap I) (hJ : ∀ a ∈ J, ∀ o, s.heap.get? a = some o → ¬ SeqO X a o) {h' : Heap} (k : KeepC g fi env Dd (I :: J) s.heap h') : KeepR X s.heap h' := fun a o e q => by
  refine k a o (tab_noSeq C.fr.inv.tabs e q) (own_noSeq C.fr e q) ?_ (fun m => ?_) e
  · rintro rfl
    obtain ⟨vs, ⟨o', n', e', c, dn, d⟩, _⟩ := C.acc
    rw [e] at e'; cases e'
    rcases q with ⟨xs, n, q, z⟩ | ⟨vs, q, _⟩
    · exact z c C.dX
    · rw [d] at q; cases q
  · rcases List.mem_cons.mp m with rfl | m
    · exact i.noSeq e q
    · exact hJ a m o e q

theorem start_list {elt : Expr} {gens : List Comprehension} {scope : Scope} {pos : Pos} {k : Nat} {it acc : Value} {c : Comprehension} {prog : Program} {w : World} {A : Around} {R : Result → Shared → Prop}
    (hg : gens[k]? = some c) (hc : c.is_async = 0) (h0 : codeAny (model prog w) A (.compLoop (.ListComp elt gens scope pos) k it acc env) R s)
    (h : ∀ {Q : Value → Shared → Prop} {E : Value → Shared → Prop}, Q it s → wpAny (model prog w) A (pyIter it) Q E s) :
    codeAny (model prog w) A (.compStart (.ListComp elt gens scope pos) k it acc env) R s := by
  refine codeAny_of_tree ?_
  show wpAny _ _ ((compStart (.ListComp elt gens scope pos) k it acc env).onRaise (fun x => do noteFrame x env; standAt theWindowsPlace)) _ _ s
  refine wpAny_notedAt ?_
  unfold compStart
  have e1 : (clausesOf (.ListComp elt gens scope pos))[k]? = some c := hg
  simp only [e1, Option.elim, hc, bne_self_eq_false, Bool.false_eq_true, if_false]
  show wpAny _ _ (ask >>= _) _ _ s
  refine wpAny_bind (wpAny_askSetting (wpAny_ite ?_))
  split
  · first
      | exact wpAny_bind (wpAny_pure (wpAny_pure (And.intro rfl h0)))
      | exact wpAny_pure (And.intro rfl h0)
  · refine wpAny_bind (wpAny_rule ?_)
    first
      | exact wpAny_bind (wpAny_standAt (wpAny_bind (h (wpAny_pure (And.intro rfl h0)))))
      | (show wpAny _ _ (standAt c.iter.pos >>= _) _ _ s; exact wpAny_bind (wpAny_standAt (wpAny_bind (h (wpAny_pure (And.intro rfl h0))))))

theorem put_keeps {x : Str} {d : D} (hx : ρ.lookup x = none) : ∀ y e, ρ.lookup y = some e → (put ρ x d).lookup y = some e := fun y e h => by
  rw [lookup_put]
  split
  · rename_i z
    have z' : y = x := by simpa using z
    rw [z', hx] at h; cases h
  · exact h

def bodyW (prog : Program) (w : World) (A : Around) (elt : Expr) (gens : List Comprehension) (scope : Scope) (pos : Pos) (k : Nat) (acc : Value) (env : Env) (Q : Shared → Prop) (E : Value → Shared → Prop) (s : Shared) : Prop :=
  match gens[k + 1]? with
  | none => wpAny (model prog w) A (eval elt env) (fun x s₄ => wpAny (model prog w) A (call (.builtin "list.append") [acc, x]) (fun _ s₅ => Q s₅) E s₄) E s
  | some g' => g'.is_async = 0 ∧ (∀ x, foldedSetIterable g'.iter env x = pure x) ∧ wpAny (model prog w) A (eval g'.iter env) (fun x s₄ => wpAny (model prog w) A (pyIter x) (fun it' s₅ =>
      codeAny (model prog w) A (.compStart (.ListComp elt gens scope pos) (k + 1) it' acc env) (fun r s₆ => match r with | .ok _ => Q s₆ | .error _ => False) s₅) E s₄) E s

inductive GI (g : Gx) (X : List Addr) (H : Heap) (fi : FI) (env : Env) (Dd : Addr) (ρ : AEnv) (s : Shared) (items : List D) (F : D → List D) (es : List D) (Z : List D → Heap → Prop) (St : Nat → Heap → Prop) (IJ : List Addr) (n : Nat) (s' : Shared) : Prop where
  | mk (i : Nat) (hi : i ≤ items.length) (hn : n = items.length + 1 - i) (C : CI g X H fi env Dd ρ (es ++ (items.take i).flatMap F) s') (z : Z (es ++ (items.take i).flatMap F) s'.heap) (st : St i s'.heap) (k : KeepC g fi env Dd IJ s.heap s'.heap)
theorem loop_gen {elt : Expr} {gens : List Comprehension} {scope : Scope} {pos : Pos} {k : Nat} {x : Str} {px : Pos} {iter : Expr} {ifs : List Expr} {ρ : AEnv} (hg : gens[k]? = some ⟨.Name x px, iter, ifs, 0⟩)
    {A : Around} {s : Shared} {I : Addr} {ax : List Addr} {items : List D} {F : D → List D} {es : List D} (hA : AOk ℓ A) (C : CI g X H fi env Dd ρ es s) (W : Wk g X A s I ax items) (hI : H.get? I = none) (hIX : I ∉ X)
    {J : List Addr} {Z : List D → Heap → Prop} (hZ : ∀ ds h h', Z ds h → KeepC g fi env Dd [I] h h' → Z ds h') (z0 : Z es s.heap) (hIJ : I ∉ J) (hJS : ∀ a ∈ J, ∀ o, s.heap.get? a = some o → ¬ SeqO X a o)
    (hax : ∀ a ∈ ax, a ∉ J ∧ a ∉ g.Tb ∧ ¬ OwnA fi env a ∧ a ≠ Dd ∧ a ≠ I ∧ ∃ o, s.heap.get? a = some o) (hk : fi.sc.names.lookup x = some .local ∨ x ∈ fi.oc) (hx : ρ.lookup x = none)
    {G : D → Prop} (hG : (∃ g', gens[k + 1]? = some g' ∧ (g'.is_async = 0 → (∀ x, foldedSetIterable g'.iter env x = pure x) → False)) → False)
    (hit : ∀ it ∈ items, ∃ b, Tsts g ℓ fi ifs (put ρ x it) b ∧ (b = true → G it) ∧ (b = false → F it = []))
    (hbody : ∀ (s₃ : Shared) (it : D) (es' : List D) (E : Value → Shared → Prop) (i : Nat), items[i]? = some it → es' = es ++ (items.take i).flatMap F → G it → CI g X H fi env Dd (put ρ x it) es' s₃ → Z es' s₃.heap → (es' ++ F it).length ≤ sizeLine →
      bodyW g.prog g.w A elt gens scope pos k (.ref Dd) env (fun s₅ => CI g X H fi env Dd (put ρ x it) (es' ++ F it) s₅ ∧ Z (es' ++ F it) s₅.heap ∧ KeepC g fi env Dd J s₃.heap s₅.heap) E s₃)
    (hz : (es ++ items.flatMap F).length ≤ sizeLine) :
    codeAny g.M A (.compLoop (.ListComp elt gens scope pos) k (.ref I) (.ref Dd) env) (fun r s' => r = .ok .next ∧ CI g X H fi env Dd ρ (es ++ items.flatMap F) s' ∧ Z (es ++ items.flatMap F) s'.heap ∧ KeepC g fi env Dd (I :: J) s.heap s'.heap) s := by
  obtain ⟨P, St, W, st0, hio, hP⟩ := W
  have iI : IterO s.heap I := hio 0 _ st0
  have hI1 : I ∉ g.Tb := iI.noTab C.fr.inv.tabs
  have hI2 : ¬ OwnA fi env I := own_noIter C.fr iI
  have hI3 : I ≠ Dd := by
    rintro rfl
    obtain ⟨vs, hl, _⟩ := C.acc
    exact iI.noList hl.isList
  refine codeAny_loop rfl (GI g X H fi env Dd ρ s items F es Z St (I :: J)) ?_ (items.length + 1)
    ⟨0, Nat.zero_le _, rfl, by simpa using C, by simpa using z0, st0, .refl⟩
  rintro n s' ⟨i, hi, rfl, C', z', st', K'⟩
  show wpAny _ _ ((compTurn (.ListComp elt gens scope pos) k (.ref I) (.ref Dd) env).onRaise (fun x => do noteFrame x env; theTreesLotGoes x)) _ _ s'
  refine wpAny_noted ?_
  have iI' : IterO s'.heap I := hio i _ st'
  have nextW : wpAny g.M A (pyNext (.ref I)) (fun r s₁ => match r with
      | none => (fun (r : Result) s' => r = .ok .next ∧ CI g X H fi env Dd ρ (es ++ items.flatMap F) s' ∧ Z (es ++ items.flatMap F) s'.heap ∧ KeepC g fi env Dd (I :: J) s.heap s'.heap) (.ok .next) s₁
      | some v => wpAny g.M A (assign (.Name x px) env v) (fun _ s₂ => wpAny g.M A (compTests ifs env) (fun ok s₃ =>
          if ok = true then bodyW g.prog g.w A elt gens scope pos k (.ref Dd) env (fun s₅ => ∃ m, m < items.length + 1 - i ∧ GI g X H fi env Dd ρ s items F es Z St (I :: J) m s₅) NoE s₃
          else ∃ m, m < items.length + 1 - i ∧ GI g X H fi env Dd ρ s items F es Z St (I :: J) m s₃) NoE s₂) NoE s₁) NoE s' := by
    by_cases hlt : i < items.length
    · refine W.item i _ _ _ hlt st' fun v h₁ tk₁ hPv st₁ k₁ => ?_
      have k₁' : ∀ b o, b ≠ I → s'.heap.get? b = some o → h₁.get? b = some o := fun b o hb e => k₁ b o (by simpa using hb) e
      have C₁ := C'.poke (tk := tk₁) iI' hI hIX k₁'
      obtain ⟨d, hd, hr⟩ := hP i v hlt hPv
      have hr₁ : Rep X h₁ v d := (hr.keepR (K'.keepR C iI hJS)).keepR fun b o e q => k₁' b o (fun z => by subst z; exact iI'.noSeq e q) e
      have hmem : d ∈ items := List.mem_of_getElem? hd
      obtain ⟨b, hb, hbt, hbf⟩ := hit d hmem
      have take_succ : (items.take (i + 1)).flatMap F = (items.take i).flatMap F ++ F d := by
        rw [List.take_add_one, hd]; simp
      have hlen : (es ++ (items.take i).flatMap F ++ F d).length ≤ sizeLine := by
        have e1 : es ++ (items.take i).flatMap F ++ F d = es ++ (items.take (i + 1)).flatMap F := by rw [take_succ, List.append_assoc]
        rw [e1]
        refine Nat.le_trans ?_ hz
        have e2 : items.flatMap F = (items.take (i + 1)).flatMap F ++ (items.drop (i + 1)).flatMap F := by rw [← List.flatMap_append, List.take_append_drop]
        rw [e2]; simp
      refine wpAny_assign_Name (C₁.store hk hr₁ fun s₂ C₂ k₂ => ?_)
      refine tests_ok hA ifs hb C₂ fun s₃ C₃ k₃ => ?_
      -- the frame of the walk, from h₁ on
      have fromH : ∀ {h'' : Heap}, KeepC g fi env Dd J h₁ h'' → St (i + 1) h'' := fun {h''} kk => W.frame _ _ _ st₁ fun b hb o e => by
        rcases List.mem_cons.mp hb with rfl | hb
        · exact kk _ o hI1 hI2 hI3 hIJ e
        · obtain ⟨a0, a1, a2, a3, a4, _⟩ := hax b hb
          exact kk b o a1 a2 a3 a0 e
      have all : ∀ {h'' : Heap}, KeepC g fi env Dd J h₁ h'' → KeepC g fi env Dd (I :: J) s.heap h'' := fun {h''} kk a o h1 h2 h3 h4 e =>
        kk a o h1 h2 h3 (fun m => h4 (.tail _ m)) (k₁' a o (fun z => h4 (z ▸ .head _)) (K' a o h1 h2 h3 h4 e))
      have kh3 : KeepC g fi env Dd J h₁ s₃.heap := (k₂.trans (.of_keep k₃)).more fun _ _ h => nomatch h
      have z₃ : Z (es ++ (items.take i).flatMap F) s₃.heap := hZ _ _ _ z' fun a o h1 h2 h3 h4 e => ((k₂.trans (.of_keep k₃)) a o h1 h2 h3 (fun h => nomatch h) (k₁' a o (by simpa using h4) e))
      cases b with
      | false =>
        simp only [Bool.false_eq_true, if_false]
        refine ⟨items.length + 1 - (i + 1), by lia, i + 1, hlt, rfl, ?_, ?_, fromH kh3, all kh3⟩
        · rw [take_succ, hbf rfl, List.append_nil]
          exact C₃.weaken (put_keeps hx)
        · rw [take_succ, hbf rfl, List.append_nil]
          exact z₃
      | true =>
        simp only [if_true]
        have hb5 := hbody s₃ d (es ++ (items.take i).flatMap F) NoE i hd rfl (hbt rfl) C₃ z₃ hlen
        unfold bodyW at hb5 ⊢
        have fin : ∀ s₅, CI g X H fi env Dd (put ρ x d) (es ++ (items.take i).flatMap F ++ F d) s₅ ∧ Z (es ++ (items.take i).flatMap F ++ F d) s₅.heap ∧ KeepC g fi env Dd J s₃.heap s₅.heap →
            ∃ m, m < items.length + 1 - i ∧ GI g X H fi env Dd ρ s items F es Z St (I :: J) m s₅ := by
          rintro s₅ ⟨C₅, z₅, k₅⟩
          have kh5 := kh3.trans k₅
          refine ⟨items.length + 1 - (i + 1), by lia, i + 1, hlt, rfl, ?_, ?_, fromH kh5, all kh5⟩
          · rw [take_succ, ← List.append_assoc]
            exact C₅.weaken (put_keeps hx)
          · rw [take_succ, ← List.append_assoc]
            exact z₅
        cases hgk : gens[k + 1]? with
        | none =>
          rw [hgk] at hb5
          exact wpAny_mono hb5 (fun v s₄ h₄ => wpAny_mono h₄ (fun _ s₅ h₅ => fin s₅ h₅) fun _ _ e => e) fun _ _ e => e
        | some g' =>
          rw [hgk] at hb5
          refine ⟨hb5.1, hb5.2.1, wpAny_mono hb5.2.2 (fun v s₄ h₄ => wpAny_mono h₄ (fun it' s₅ h₅ => codeAny_mono h₅ fun r s₆ h₆ => ?_) fun _ _ e => e) fun _ _ e => e⟩
          cases r with
          | ok f => exact fin s₆ h₆
          | error e => exact h₆
    · have hin : i = items.length := by lia
      subst hin
      refine W.done _ _ _ st' fun h₁ tk₁ k₁ => ?_
      have k₁' : ∀ b o, b ≠ I → s'.heap.get? b = some o → h₁.get? b = some o := fun b o hb e => k₁ b o (by simpa using hb) e
      have C₁ := C'.poke (tk := tk₁) iI' hI hIX k₁'
      rw [List.take_length] at C₁ z'
      exact ⟨rfl, C₁, hZ _ _ _ z' fun a o h1 h2 h3 h4 e => k₁' a o (by simpa using h4) e, fun a o h1 h2 h3 h4 e => k₁' a o (fun z => h4 (z ▸ .head _)) (K' a o h1 h2 h3 h4 e)⟩
  cases hgk : gens[k + 1]? with
  | none =>
    refine turn_last hg hgk (fun _ => rfl) (wpAny_mono nextW (fun r s₁ h₁ => ?_) fun _ _ e => e.elim)
    cases r with
    | none => exact h₁
    | some v =>
      refine wpAny_mono h₁ (fun _ s₂ h₂ => wpAny_mono h₂ (fun ok s₃ h₃ => ?_) fun _ _ e => e.elim) fun _ _ e => e.elim
      cases ok with
      | false => simp only [Bool.false_eq_true, if_false] at h₃ ⊢; exact And.intro (by first | rfl | trivial) h₃
      | true =>
        simp only [if_true] at h₃ ⊢
        unfold bodyW at h₃
        rw [hgk] at h₃
        exact wpAny_mono h₃ (fun v s₄ h₄ => wpAny_mono h₄ (fun _ s₅ h₅ => And.intro (by first | rfl | trivial) h₅) fun _ _ e => e.elim) fun _ _ e => e.elim
  | some g' =>
    obtain ⟨target', iter', ifs', asy⟩ := g'
    by_cases hq : asy = 0 ∧ ∀ x, foldedSetIterable iter' env x = pure x
    · obtain ⟨rfl, hs⟩ := hq
      refine turn_inner hg hgk (fun _ => rfl) hs (wpAny_mono nextW (fun r s₁ h₁ => ?_) fun _ _ e => e.elim)
      cases r with
      | none => exact h₁
      | some v =>
        refine wpAny_mono h₁ (fun _ s₂ h₂ => wpAny_mono h₂ (fun ok s₃ h₃ => ?_) fun _ _ e => e.elim) fun _ _ e => e.elim
        cases ok with
        | false => simp only [Bool.false_eq_true, if_false] at h₃ ⊢; exact And.intro (by first | rfl | trivial) h₃
        | true =>
          simp only [if_true] at h₃ ⊢
          unfold bodyW at h₃
          rw [hgk] at h₃
          refine wpAny_mono h₃.2.2 (fun v s₄ h₄ => wpAny_mono h₄ (fun it' s₅ h₅ => codeAny_mono h₅ fun r s₆ h₆ => ?_) fun _ _ e => e.elim) fun _ _ e => e.elim
          cases r with
          | ok f => exact And.intro (by first | rfl | trivial) h₆
          | error e => exact h₆
    · exact (hG ⟨_, hgk, fun h1 h2 => hq ⟨h1, h2⟩⟩).elim

theorem loop_ok {elt : Expr} {gens : List Comprehension} {scope : Scope} {pos : Pos} (gs : List Comprehension) (hgood : ∀ c ∈ gs, c.is_async = 0 ∧ ∀ env x, foldedSetIterable c.iter env x = pure x) : ∀ (k : Nat) (x : Str) (px : Pos) (iter : Expr) (ifs : List Expr) (ρ : AEnv), gens[k]? = some ⟨.Name x px, iter, ifs, 0⟩ → gens.drop (k + 1) = gs →
    ∀ {A : Around} {s : Shared} {I : Addr} {ax : List Addr} {items : List D} {F : D → List D} {es : List D}, AOk ℓ A → CI g X H fi env Dd ρ es s → Wk g X A s I ax items → H.get? I = none → I ∉ X →
      (∀ a ∈ ax, a ∉ g.Tb ∧ ¬ OwnA fi env a ∧ a ≠ Dd ∧ a ≠ I ∧ ∃ o, s.heap.get? a = some o) → (fi.sc.names.lookup x = some .local ∨ x ∈ fi.oc) → ρ.lookup x = none →
      (∀ it ∈ items, ∃ b, Tsts g ℓ fi ifs (put ρ x it) b ∧ (b = true → Emit g ℓ fi elt gs (put ρ x it) (F it)) ∧ (b = false → F it = [])) → (es ++ items.flatMap F).length ≤ sizeLine →
      codeAny g.M A (.compLoop (.ListComp elt gens scope pos) k (.ref I) (.ref Dd) env) (fun r s' => r = .ok .next ∧ CI g X H fi env Dd ρ (es ++ items.flatMap F) s' ∧ KeepC g fi env Dd [I] s.heap s'.heap) s := by
  induction gs with
  | nil =>
    intro k x px iter ifs ρ hg hdrop A s I ax items F es hA C W hI hIX hax hk hx hit hz
    have hgk : gens[k + 1]? = none := by
      rw [List.getElem?_eq_none_iff]
      have := congrArg List.length hdrop
      simp at this; omega
    refine codeAny_mono (loop_gen hg hA C W hI hIX (J := []) (Z := fun _ _ => True) (fun _ _ _ _ _ => trivial) trivial List.not_mem_nil (fun _ h => nomatch h) (fun a ha => ⟨List.not_mem_nil, hax a ha⟩) hk hx (G := fun it => Emit g ℓ fi elt [] (put ρ x it) (F it)) (fun ⟨g', h, _⟩ => by rw [hgk] at h; cases h) hit ?_ hz) fun r s' h => ⟨h.1, h.2.1, h.2.2.2⟩
    intro s₃ it es' E _ _ _ hG C₃ _ hlen
    unfold bodyW
    rw [hgk]
    obtain ⟨d, hd, hev⟩ := hG
    refine wpQ (hev A X env s₃ hA C₃.fr.inv C₃.fr.eok C₃.fr.xok C₃.fr.full) fun v s₄ ⟨i4, k4, r4⟩ => ?_
    rw [hd] at hlen ⊢
    exact (C₃.step i4 k4).push r4 (by simp at hlen; omega) fun v s₅ C₅ k₅ => ⟨C₅, trivial, (KeepC.of_keep k4).trans k₅⟩
  | cons c gs ih =>
    intro k x px iter ifs ρ hg hdrop A s I ax items F es hA C W hI hIX hax hk hx hit hz
    have hgk : gens[k + 1]? = some c := by
      have := congrArg (·[0]?) hdrop
      simpa using this
    have hdrop' : gens.drop (k + 1 + 1) = gs := by
      have := congrArg (List.drop 1) hdrop
      simpa [List.drop_drop, Nat.add_comm] using this
    have hc := hgood c (.head _)
    refine codeAny_mono (loop_gen hg hA C W hI hIX (J := []) (Z := fun _ _ => True) (fun _ _ _ _ _ => trivial) trivial List.not_mem_nil (fun _ h => nomatch h) (fun a ha => ⟨List.not_mem_nil, hax a ha⟩) hk hx (G := fun it => Emit g ℓ fi elt (c :: gs) (put ρ x it) (F it)) (fun ⟨g', h, q⟩ => by rw [hgk] at h; cases h; exact q hc.1 (hc.2 env)) hit ?_ hz) fun r s' h => ⟨h.1, h.2.1, h.2.2.2⟩
    intro s₃ it es' E _ _ _ hG C₃ _ hlen
    unfold bodyW
    rw [hgk]
    obtain ⟨x', px', dl, items', F', ht, ha, hk', hx', hs, hev, hitd, hds, hin⟩ := hG
    refine ⟨ha, hs env, wpQ (hev A X env s₃ hA C₃.fr.inv C₃.fr.eok C₃.fr.xok C₃.fr.full) fun v s₄ ⟨i4, k4, r4⟩ => ?_⟩
    have C₄ := C₃.step i4 k4
    refine pyIter_go hA.handled i4 r4 hitd fun s₅ I' ax' i5 k5 hI' hI'e hax' W' => ?_
    have C₅ := C₄.step i5 (Keep.of k5)
    have hI'H : H.get? I' = none := by
      cases e : H.get? I' with
      | none => rfl
      | some o =>
        by_cases hT : I' ∈ g.Tb
        · obtain ⟨q, hq, rfl⟩ := List.mem_map.mp hT
          obtain ⟨ps, e', _⟩ := i4.tabs q hq
          rw [hI'] at e'; cases e'
        · have := C₄.fr.keep _ _ hT e; rw [hI'] at this; cases this
    obtain ⟨target', iter', ifs', asy⟩ := c
    cases ht; cases ha
    have body := ih (fun c hc => hgood c (.tail _ hc)) (k + 1) x' px' iter' ifs' (put ρ x it) hgk hdrop' (A := A) (s := s₅) (I := I') (ax := ax') (items := items') (F := F') (es := es') hA C₅ W' hI'H (C₄.fr.xok.fresh hI') ?_ hk' hx' hin (by rw [hds] at hlen; exact hlen)
    · refine start_list hgk rfl (codeAny_mono body ?_) ?_
      · rintro r s₆ ⟨rfl, C₆, k₆⟩
        rw [hds]
        refine ⟨C₆, trivial, fun a o h1 h2 h3 h4 e => ?_⟩
        have e5 := k5 a o (k4 a o h1 e)
        refine k₆ a o h1 h2 h3 (fun m => ?_) e5
        simp at m
        subst m
        have := k4 _ _ h1 e
        rw [hI'] at this; cases this
      · intro Q E hq
        obtain ⟨P, St, W1, st0, _⟩ := W'
        exact W1.self 0 _ _ _ st0 hq
    · intro a ha
      obtain ⟨rfl, xs, hls⟩ := hax' a ha
      have ex : ∃ o n, s₄.heap.get? a = some o ∧ o.data = .seq xs n ∧ (o.cls = .type "list" ∨ o.cls = .type "tuple") := by
        rcases hls with ⟨o, e, c, n, d⟩ | ⟨o, e, c, n, d⟩
        · exact ⟨o, n, e, d, .inl c⟩
        · exact ⟨o, n, e, d, .inr c⟩
      obtain ⟨o, n, e, dd, cc⟩ := ex
      have q : SeqO [] a o := .inl ⟨_, _, dd, fun _ h => nomatch h⟩
      refine ⟨tab_noSeq i4.tabs e q, own_noSeq C₄.fr e q, ?_, ?_, o, k5 _ _ e⟩
      · rintro rfl
        cases r4 with
        | list na _ _ _ => exact na C₄.dX
        | tup hl _ =>
          obtain ⟨vs, ⟨o1, n1, e1, c1, _⟩, _⟩ := C₄.acc
          obtain ⟨o2, e2, c2, _⟩ := hl
          rw [e1] at e2; cases e2; rw [c1] at c2; simp at c2
        | rng hr _ =>
          obtain ⟨vs, ⟨o1, n1, e1, c1, _⟩, _⟩ := C₄.acc
          rw [hr] at e1; cases e1; simp at c1
        | opq => cases hitd
      · rintro rfl
        rw [hI'] at e; cases e
end Mine


/- WJ -/
namespace Mine
variable {g : Gx} {ℓ : Nat} {fi : FI} {X : List Addr} {h₀ : Heap} {O : List (Str × Addr)} {env : Env} {σ : St} {s : Shared} {ρ : AEnv} {H : Heap} {Dd : Addr} {ds : List D}

theorem closure_ok (env : Env) : ∀ (names : List (Str × NameKind)) (acc : List (Str × Addr)), (∀ x, (x, NameKind.free) ∈ names → ∃ c, env.cells.lookup x = some c) → (∀ x c, acc.lookup x = some c → env.cells.lookup x = some c) →
    ∃ cl, (forIn names acc (fun (p : Str × NameKind) (cs : List (Str × Addr)) => if p.2 == .free then (do let a ← cellOf env p.1; pure (ForInStep.yield ((p.1, a) :: cs))) else pure (ForInStep.yield cs)) : Sem _) = pure cl ∧
      (∀ x c, cl.lookup x = some c → env.cells.lookup x = some c ∧ ((x, NameKind.free) ∈ names ∨ acc.lookup x ≠ none)) ∧ (∀ x, ((x, NameKind.free) ∈ names ∨ acc.lookup x ≠ none) → cl.lookup x = env.cells.lookup x)
  | [], acc, _, hacc => ⟨acc, by rw [List.forIn_nil], (fun x c h => ⟨hacc x c h, .inr (by rw [h]; nofun)⟩), fun x hx => by
      rcases hx with h | h
      · cases h
      · cases e : acc.lookup x with
        | none => exact absurd e h
        | some c => exact (hacc x c e).symm⟩
  | (n, k) :: r, acc, hc, hacc => by
    rw [List.forIn_cons]
    by_cases hk : k = .free
    · subst hk
      obtain ⟨c, hcn⟩ := hc n (.head _)
      have e1 : cellOf env n = pure c := by unfold cellOf; rw [hcn]
      have hacc' : ∀ x c', ((n, c) :: acc).lookup x = some c' → env.cells.lookup x = some c' := fun x c' h => by
        simp only [List.lookup] at h
        cases hx : x == n with
        | true => rw [hx] at h; cases h; rw [show x = n by simpa using hx]; exact hcn
        | false => rw [hx] at h; exact hacc x c' h
      obtain ⟨cl, h1, h2, h3⟩ := closure_ok env r ((n, c) :: acc) (fun x hx => hc x (.tail _ hx)) hacc'
      refine ⟨cl, ?_, (fun x c' h => ⟨(h2 x c' h).1, ?_⟩), fun x hx => h3 x ?_⟩
      · simp only [beq_self_eq_true, if_true, e1]
        exact h1
      · rcases (h2 x c' h).2 with q | q
        · exact .inl (.tail _ q)
        · simp only [List.lookup] at q
          cases hx : x == n with
          | true => rw [show x = n by simpa using hx]; exact .inl (.head _)
          | false => rw [hx] at q; exact .inr q
      · simp only [List.lookup]
        rcases hx with hx | hx
        · rcases List.mem_cons.mp hx with e | hx
          · cases e; right; simp
          · exact .inl hx
        · right
          cases x == n <;> simp [hx]
    · have hb : (k == NameKind.free) = false := by simpa using hk
      obtain ⟨cl, h1, h2, h3⟩ := closure_ok env r acc (fun x hx => hc x (.tail _ hx)) hacc
      refine ⟨cl, ?_, (fun x c' h => ⟨(h2 x c' h).1, (h2 x c' h).2.imp (.tail _) id⟩), fun x hx => h3 x ?_⟩
      · simp only [hb, Bool.false_eq_true, if_false]
        exact h1
      · rcases hx with hx | hx
        · rcases List.mem_cons.mp hx with e | hx
          · cases e; exact absurd rfl hk
          · exact .inl hx
        · exact .inr hx

theorem closureFor_ok (scope : Scope) (env : Env) (hc : ∀ x, (x, NameKind.free) ∈ scope.names → ∃ c, env.cells.lookup x = some c) :
    ∃ cl, closureFor scope env = pure cl ∧ (∀ x c, cl.lookup x = some c → env.cells.lookup x = some c ∧ (x, NameKind.free) ∈ scope.names) ∧ ∀ x, (x, NameKind.free) ∈ scope.names → cl.lookup x = env.cells.lookup x := by
  obtain ⟨cl, h1, h2, h3⟩ := closure_ok env scope.names [] hc (fun x c h => by cases h)
  refine ⟨cl, ?_, (fun x c h => ⟨(h2 x c h).1, (h2 x c h).2.resolve_right (fun q => q rfl)⟩), fun x hx => h3 x (.inl hx)⟩
  unfold closureFor
  simp only
  exact congrArg (· >>= pure) h1

def FI.comp (fi : FI) (scope : Scope) : FI :=
  { sc := { scope with names := scope.names.map fun p => if p.2 == .free && fi.sc.names.lookup p.1 == some .cell then (p.1, .cell) else p }, cd := fi.cd, oc := (scope.names.filter (·.2 == .cell)).map (·.1) }

def capOf (scope : Scope) (ρ : AEnv) : AEnv := ρ.filter fun p => scope.names.lookup p.1 == some .free

def compOk (fi : FI) (scope : Scope) : Bool :=
  scope.kind == .function && decide (scope.names.map (·.1)).Nodup && scope.names.all fun p => p.2 != .free || fi.sc.names.lookup p.1 == some .cell || fi.sc.names.lookup p.1 == some .free

theorem relabel_eq (hE : EnvOK fi env) (scope : Scope) : relabel scope env = (fi.comp scope).sc := by
  unfold relabel FI.comp
  simp only [Scope.mk.injEq, true_and, and_true]
  refine List.map_congr_left fun p hp => ?_
  obtain ⟨n, k⟩ := p
  simp only [hE.kind, hE.kinds, beq_self_eq_true, Bool.and_true]

theorem comp_lookup (fi : FI) (scope : Scope) (x : Str) : (fi.comp scope).sc.names.lookup x = (scope.names.lookup x).map fun k => if k == .free && fi.sc.names.lookup x == some .cell then .cell else k := by
  show (scope.names.map _).lookup x = _
  induction scope.names with
  | nil => rfl
  | cons p r ih =>
    obtain ⟨n, k⟩ := p
    simp only [List.map_cons]
    by_cases hc : (k == NameKind.free && fi.sc.names.lookup n == some .cell) = true
    · rw [if_pos hc]
      simp only [List.lookup]
      cases hx : x == n with
      | true =>
        have e : x = n := by simpa using hx
        subst e
        simp only [Option.map_some]; rw [if_pos hc]
      | false => exact ih
    · rw [if_neg hc]
      simp only [List.lookup]
      cases hx : x == n with
      | true =>
        have e : x = n := by simpa using hx
        subst e
        simp only [Option.map_some]; rw [if_neg hc]
      | false => exact ih

theorem capOf_lookup {scope : Scope} {x : Str} {d : D} (h : (capOf scope ρ).lookup x = some d) : ρ.lookup x = some d ∧ scope.names.lookup x = some .free := by
  unfold capOf at h
  induction ρ with
  | nil => cases h
  | cons p r ih =>
    obtain ⟨y, e⟩ := p
    rw [List.filter_cons] at h
    simp only [List.lookup]
    cases hx : x == y with
    | true =>
      have e1 : x = y := by simpa using hx
      subst e1
      split at h
      · rename_i hc
        simp only [List.lookup, beq_self_eq_true] at h
        exact ⟨h, by simpa using hc⟩
      · rename_i hc
        exfalso
        have hm := mem_of_lookup h
        exact hc (List.mem_filter.mp hm).2
    | false =>
      split at h
      · simp only [List.lookup, hx] at h; exact ih h
      · exact ih h

structure CDone (g : Gx) (X : List Addr) (s : Shared) (ds : List D) (acc : Value) (C : Addr) (s' : Shared) : Prop where
  inv : Inv g s'
  keep : Keep g s.heap s'.heap
  cnew : s.heap.get? C = none
  cns : ∃ m, s'.heap.Ns C m
  acc : ∃ a vs, acc = .ref a ∧ s.heap.get? a = none ∧ a ∉ X ∧ PL s'.heap a (vs : List Value).toArray ∧ Reps (a :: X) s'.heap vs ds ∧ vs.length ≤ sizeLine

structure NewAcc (g : Gx) (A : Around) (newAcc : Sem Value) (Y : Addr → List Addr) (AccAt : Heap → Addr → Prop) : Prop where
  new : ∀ {s₂ : Shared} {Q : Value → Shared → Prop}, (∀ Dd h3, (∀ b o, s₂.heap.get? b = some o → h3.get? b = some o) → s₂.heap.get? Dd = none → (∃ o, h3.get? Dd = some o ∧ o.cls ≠ .none) → AccAt h3 Dd → Q (.ref Dd) { s₂ with heap := h3 }) → wpAny g.M A newAcc Q NoE s₂
  keep : ∀ {h h' : Heap} {Dd : Addr}, AccAt h Dd → (∀ b o, h.get? b = some o → h'.get? b = some o) → AccAt h' Dd
  y : ∀ Dd, Y Dd = [Dd] ∧ (∀ h, AccAt h Dd → ∃ o, h.get? Dd = some o ∧ o.cls = .type "list" ∧ ∃ its k, o.data = .seq its k) ∨ Y Dd = []
theorem comp_frame {A : Around} {e : Expr} {newAcc : Sem Value} {Y : Addr → List Addr} {AccAt : Heap → Addr → Prop} {x : Str} {scope : Scope} {dl : D} {items : List D} {v : Value} (hacc : NewAcc g A newAcc Y AccAt)
    (hstart : ∀ {I : Addr} {acc : Value} {cenv : Env} {s : Shared} {R : Result → Shared → Prop}, codeAny g.M A (.compLoop e 0 (.ref I) acc cenv) R s → (∀ {Q : Value → Shared → Prop} {E : Value → Shared → Prop}, Q (.ref I) s → wpAny g.M A (pyIter (.ref I)) Q E s) → codeAny g.M A (.compStart e 0 (.ref I) acc cenv) R s)
    (hA : AOk ℓ A) (hI : Inv g s) (hE : EnvOK fi env) (hX : XOk g X s.heap) (hF : FrameR X s.heap env ρ) (hok : compOk fi scope = true)
    (hk : scope.names.lookup x = some .local ∨ scope.names.lookup x = some .cell)
    (r1 : Rep X s.heap v dl) (hitd : iterD dl = some items)
    {cl : List (Str × Addr)} (hcl : ∀ x c, cl.lookup x = some c → env.cells.lookup x = some c ∧ (x, NameKind.free) ∈ scope.names) (hcl' : ∀ x, (x, NameKind.free) ∈ scope.names → cl.lookup x = env.cells.lookup x) {R : Addr → Value → Result → Shared → Prop}
    (hgo : ∀ cenv Dd I ax s₄, FrX g (Y Dd ++ X) s.heap [] (fi.comp scope) cenv ⟨capOf scope ρ, []⟩ s₄ → AccAt s₄.heap Dd → Dd ∉ g.Tb → ¬ OwnA (fi.comp scope) cenv Dd → Wk g (Y Dd ++ X) A s₄ I ax items → s.heap.get? I = none → I ∉ Y Dd ++ X → (∀ a ∈ ax, (∃ o, s.heap.get? a = some o ∧ SeqO X a o) ∧ a ∉ g.Tb ∧ ¬ OwnA (fi.comp scope) cenv a ∧ a ≠ Dd ∧ a ≠ I ∧ ∃ o, s₄.heap.get? a = some o) →
      ((fi.comp scope).sc.names.lookup x = some .local ∨ x ∈ (fi.comp scope).oc) → (capOf scope ρ).lookup x = none → s.heap.get? Dd = none → s.heap.get? cenv.locals = none → (∀ a, OwnA (fi.comp scope) cenv a → s.heap.get? a = none) →
      codeAny g.M A (.compLoop e 0 (.ref I) (.ref Dd) cenv) (R cenv.locals (.ref Dd)) s₄) :
    wpAny g.M A (pyIter v) (fun it s₂ => wpAny g.M A newAcc (fun acc s₃ =>
      wpAny g.M A (newFunctionEnv scope env.globals cl [] env.qual none .none (some env)) (fun cenv s₄ =>
        codeAny g.M A (.compStart e 0 it acc { cenv with scope := relabel scope env }) (R cenv.locals acc) s₄) NoE s₃) NoE s₂) NoE s := by
  simp only [compOk, Bool.and_eq_true, beq_iff_eq, decide_eq_true_eq] at hok
  obtain ⟨⟨ok1, ok2⟩, ok3⟩ := hok
  refine pyIter_go hA.handled hI r1 hitd fun s₂ I ax i2 k2 hIn hIe hax W => ?_
  have k12 : Keep g s.heap s₂.heap := Keep.of k2
  refine hacc.new fun Dd h3' kk3 hDn hDo acc3 => ?_
  obtain ⟨s₃, hs3⟩ : ∃ x, ({ s₂ with heap := h3' } : Shared) = x := ⟨_, rfl⟩
  rw [hs3]
  have h3 : s₃.heap = h3' := by rw [← hs3]
  rw [← h3] at kk3 hDo acc3
  have i3 : Inv g s₃ := by rw [← hs3]; exact i2.of_keeps (tk := s₂.toks) (h3 ▸ kk3)
  have noneBack : ∀ {a : Addr} {sa sb : Shared}, Inv g sb → Keep g sa.heap sb.heap → sb.heap.get? a = none → sa.heap.get? a = none := by
    intro a sa sb ib kb hn
    cases e : sa.heap.get? a with
    | none => rfl
    | some o =>
      by_cases hT : a ∈ g.Tb
      · obtain ⟨q, hq, rfl⟩ := List.mem_map.mp hT
        obtain ⟨ps, e', _⟩ := ib.tabs q hq
        rw [hn] at e'; cases e'
      · have := kb _ _ hT e; rw [hn] at this; cases this
  have hDs : s.heap.get? Dd = none := noneBack i2 k12 hDn
  have k13 : Keep g s.heap s₃.heap := k12.trans (Keep.of kk3)
  have kindFree : ∀ y, (y, NameKind.free) ∈ scope.names → env.kindOf y = some .cell ∨ env.kindOf y = some .free := by
    intro y hy
    have := List.all_eq_true.mp ok3 _ hy
    simp only [bne_self_eq_false, Bool.false_or, Bool.or_eq_true, beq_iff_eq] at this
    rw [hE.kinds]; exact this
  have hclos : ∀ y c, cl.lookup y = some c → ∃ o, s₃.heap.get? c = some o := by
    intro y c hc
    obtain ⟨h1, h2⟩ := hcl y c hc
    obtain ⟨c', v', hc', hv'⟩ := hF.cel y (kindFree y h2)
    rw [h1] at hc'; cases hc'
    obtain ⟨o, e, _⟩ := id hv'
    exact ⟨o, k13 _ _ (IsCell.apart hI.tabs hv') e⟩
  refine enter ok1 ok2 (fun _ h => nomatch h) hclos fun L cells s₄ Ent => ?_
  have e4 : ({ newEnv scope L env.globals cells env.qual none .none (some env) builtinsNs with scope := relabel scope env } : Env) = { scope := (fi.comp scope).sc, locals := L, globals := env.globals, cells := cells, qual := env.qual, func := none, code := env.code, frame := env.frame, builtins := env.builtins } := by
    rw [relabel_eq hE]; rfl
  rw [e4]
  obtain ⟨cenv, hcenv⟩ : ∃ x, ({ scope := (fi.comp scope).sc, locals := L, globals := env.globals, cells := cells, qual := env.qual, func := none, code := env.code, frame := env.frame, builtins := env.builtins } : Env) = x := ⟨_, rfl⟩
  rw [hcenv]
  have c1 : cenv.locals = L := by rw [← hcenv]
  have c2 : cenv.cells = cells := by rw [← hcenv]
  have c3 : ∀ y, cenv.kindOf y = (fi.comp scope).sc.names.lookup y := fun y => by rw [← hcenv]; rfl
  have c4 : (newEnv scope L env.globals cells env.qual none .none (some env) builtinsNs).locals = L := rfl
  have c5 : (newEnv scope L env.globals cells env.qual none .none (some env) builtinsNs).cells = cells := rfl
  rw [c4]
  have k34 := Ent.keep
  have fr0 : s₃.heap.get? L = none := c4 ▸ Ent.fresh
  have i4 : Inv g s₄ := by
    obtain ⟨h, tk, e⟩ := Ent.same
    have := i3.of_keeps (h' := s₄.heap) (tk := s₄.toks) k34
    have e' : s₄ = { s₃ with heap := s₄.heap, toks := s₄.toks } := by rw [e]
    rw [e']; exact this
  have k14 : Keep g s.heap s₄.heap := k13.trans (Keep.of k34)
  have hLs : s.heap.get? L = none := noneBack i3 k13 fr0
  obtain ⟨oD, eD, cD⟩ := hDo
  have hDT : Dd ∉ g.Tb := tab_cls i3.tabs eD cD
  have acc4 := hacc.keep acc3 k34
  have repY : ∀ {h : Heap} {v : Value} {d : D}, h.get? Dd = Option.none → Rep X h v d → Rep (Y Dd ++ X) h v d := fun hn r => by
    rcases hacc.y Dd with ⟨e, _⟩ | e
    · rw [e]; exact r.fresh hn
    · rw [e]; exact r
  have ocell : ∀ y, y ∈ (fi.comp scope).oc → scope.names.lookup y = some .cell := by
    intro y hy
    obtain ⟨⟨n, k⟩, hm, rfl⟩ := List.mem_map.mp hy
    obtain ⟨hm1, hm2⟩ := List.mem_filter.mp hm
    have : k = .cell := by simpa using hm2
    subst this
    exact lookup_mem_nodup ok2 hm1
  have cellOf : ∀ y, scope.names.lookup y = some .cell → ∃ c, cenv.cells.lookup y = some c ∧ s₃.heap.get? c = none ∧ s₄.heap.IsCell c none := by
    intro y hy
    obtain ⟨c, q1, q2, q3⟩ := Ent.cell y hy
    exact ⟨c, by rw [c2, ← c5]; exact q1, q2, q3⟩
  have freeOf : ∀ y, scope.names.lookup y = some .free → cenv.cells.lookup y = env.cells.lookup y := by
    intro y hy
    have := Ent.free y (by rw [hy]; nofun)
    rw [c2, ← c5, this]
    exact hcl' y (mem_of_lookup hy)
  have ownNew : ∀ a, OwnA (fi.comp scope) cenv a → s₃.heap.get? a = none := by
    rintro a (q | ⟨y, hy, hc⟩)
    · rw [q, c1]; exact fr0
    · obtain ⟨c, q1, q2, _⟩ := cellOf y (ocell y hy)
      rw [hc] at q1; cases q1; exact q2
  have FX : FrX g (Y Dd ++ X) s.heap [] (fi.comp scope) cenv ⟨capOf scope ρ, []⟩ s₄ := by
    refine ⟨i4, fun a o e => ⟨o, hI.stays a o e⟩, ⟨?_, ?_, ?_, ?_, c3⟩, fun a ha => ?_, k14, by rw [c1]; exact hLs, ?_, fun y hy => ?_, fun y z c hy hc hz => ?_, fun y hy => ?_, rfl, List.nodup_nil, (fun _ _ h => nomatch h), fun y d hd _ => ?_⟩
    · rw [← hcenv]; exact ok1
    · rw [← hcenv]; exact hE.glob
    · rw [← hcenv]; exact hE.blt
    · rw [← hcenv]; exact hE.code
    · rcases List.mem_append.mp ha with ha | ha
      · rcases hacc.y Dd with ⟨e, hl⟩ | e
        · rw [e] at ha
          rw [List.mem_singleton.mp ha]
          exact ⟨hl _ acc4, hDT, inv_base hI hDs⟩
        · rw [e] at ha; cases ha
      · exact hX.keep k14 a ha
    · obtain ⟨m, hm, _⟩ := Ent.loc
      exact ⟨m, by rw [c1, ← c4]; exact hm⟩
    · have hy' := ocell y hy
      obtain ⟨c, q1, q2, q3⟩ := cellOf y hy'
      refine ⟨?_, c, _, q1, q3, noneBack i3 k13 q2⟩
      rw [comp_lookup, hy']; rfl
    · have hy' := ocell y hy
      obtain ⟨c', q1, q2, q3⟩ := cellOf y hy'
      rw [hc] at q1; cases q1
      rcases Ent.inj y z c hy' (by rw [c5, ← c2]; exact hc) (by rw [c5, ← c2]; exact hz) with ⟨o, e⟩ | q
      · rw [q2] at e; cases e
      · exact q
    · rw [c3, comp_lookup] at hy
      cases hs : scope.names.lookup y with
      | none => rw [hs] at hy; simp at hy
      | some k =>
        cases k with
        | cell => obtain ⟨c, q1, q2, q3⟩ := cellOf y hs; exact ⟨c, _, q1, q3⟩
        | free =>
          obtain ⟨c, v', q1, q2⟩ := hF.cel y (kindFree y (mem_of_lookup hs))
          obtain ⟨o, e, dd⟩ := id q2
          exact ⟨c, v', by rw [freeOf y hs]; exact q1, o, k14 _ _ (IsCell.apart hI.tabs q2) e, dd⟩
        | «local» => rw [hs] at hy; simp at hy
        | globalExplicit => rw [hs] at hy; simp at hy
        | globalImplicit => rw [hs] at hy; simp at hy
    · obtain ⟨hd1, hd2⟩ := capOf_lookup hd
      obtain ⟨v', hv', hr'⟩ := hF.vars y d hd1
      have hkf := kindFree y (mem_of_lookup hd2)
      refine ⟨v', ?_, ?_⟩
      · rcases hv' with ⟨q, _⟩ | ⟨_, c, q1, q2⟩
        · rw [q] at hkf; simp at hkf
        · obtain ⟨o, e, dd⟩ := id q2
          refine .inr ⟨?_, c, by rw [freeOf y hd2]; exact q1, o, k14 _ _ (IsCell.apart hI.tabs q2) e, dd⟩
          rw [c3, comp_lookup, hd2]
          simp only [Option.map_some, beq_self_eq_true, Bool.true_and]
          split
          · exact .inl rfl
          · exact .inr rfl
      · have r2 : Rep X s₂.heap v' d := hr'.keep hI.tabs k12
        have r2' := repY hDn r2
        simpa using (r2'.keep i2.tabs (Keep.of kk3)).keep i3.tabs (Keep.of k34)
  have hDown : ¬ OwnA (fi.comp scope) cenv Dd := fun q => by
    have := ownNew _ q; rw [eD] at this; cases this
  obtain ⟨P, St, W1, st0, hio, hP⟩ := W
  skip
  have hIX : I ∉ Y Dd ++ X := by
    intro m
    rcases List.mem_append.mp m with m | m
    · rcases hacc.y Dd with ⟨e, _⟩ | e
      · rw [e] at m
        obtain ⟨o, q⟩ := hIe
        rw [List.mem_singleton.mp m, hDn] at q; cases q
      · rw [e] at m; cases m
    · exact hX.fresh hIn m
  have axIn : ∀ a ∈ ax, ∃ o, s.heap.get? a = some o ∧ SeqO X a o := by
    intro a ha
    obtain ⟨rfl, xs, hls⟩ := hax a ha
    cases r1 with
    | list na hl _ _ =>
      obtain ⟨o, n, e, c, _, d⟩ := hl
      exact ⟨o, e, .inl ⟨_, _, d, fun _ => na⟩⟩
    | tup hl _ =>
      obtain ⟨o, e, c, n, d⟩ := hl
      exact ⟨o, e, .inl ⟨_, _, d, fun h => by rw [c] at h; simp at h⟩⟩
    | rng hr _ =>
      rcases hls with ⟨o, e, c, n, d⟩ | ⟨o, e, c, n, d⟩ <;> (rw [hr] at e; cases e; simp at c)
    | opq => cases hitd
  have W4 : Wk g (Y Dd ++ X) A s₄ I ax items := by
    refine ⟨P, St, W1, W1.frame _ _ _ st0 (fun b _ o e => k34 _ _ (kk3 _ _ e)), hio, fun i v hi hv => ?_⟩
    obtain ⟨d, hd, hr⟩ := hP i v hi hv
    exact ⟨d, hd, ((repY hDn hr).keep i2.tabs (Keep.of kk3)).keep i3.tabs (Keep.of k34)⟩
  have hk' : (fi.comp scope).sc.names.lookup x = some .local ∨ x ∈ (fi.comp scope).oc := by
    rcases hk with hk | hk
    · left; rw [comp_lookup, hk]; rfl
    · right
      exact List.mem_map.mpr ⟨(x, .cell), List.mem_filter.mpr ⟨mem_of_lookup hk, rfl⟩, rfl⟩
  have hxn : (capOf scope ρ).lookup x = none := by
    cases e : (capOf scope ρ).lookup x with
    | none => rfl
    | some d =>
      have := (capOf_lookup e).2
      rcases hk with hk | hk <;> (rw [hk] at this; cases this)
  refine hstart (c1 ▸ hgo cenv Dd I ax s₄ FX acc4 hDT hDown W4 hIn hIX (fun a ha => ?_) hk' hxn hDs (by rw [c1]; exact hLs) fun a w => ?_) ?_
  · obtain ⟨o, e, q⟩ := axIn a ha
    have e3 := kk3 _ _ (k2 _ _ e)
    refine ⟨⟨o, e, q⟩, tab_noSeq hI.tabs e q, fun w => ?_, ?_, ?_, o, k34 _ _ e3⟩
    · have := ownNew _ w; rw [e3] at this; cases this
    · rintro rfl; have := k2 _ _ e; rw [hDn] at this; cases this
    · rintro rfl; rw [hIn] at e; cases e
  · exact noneBack i3 k13 (ownNew a w)
  · intro Q E hq
    exact W1.self 0 _ _ _ (W1.frame _ _ _ st0 (fun b _ o e => k34 _ _ (kk3 _ _ e))) hq
theorem Keep.none {h h' : Heap} (t : TabsOK g h') (k : Keep g h h') {a : Addr} (hn : h'.get? a = Option.none) : h.get? a = Option.none := by
  cases e : h.get? a with
  | none => rfl
  | some o =>
    by_cases hT : a ∈ g.Tb
    · obtain ⟨q, hq, rfl⟩ := List.mem_map.mp hT
      obtain ⟨ps, e', _⟩ := t q hq
      rw [hn] at e'; cases e'
    · have := k _ _ hT e; rw [hn] at this; cases this
theorem newList_acc {A : Around} : NewAcc g A (newList []) (fun Dd => [Dd]) (fun h Dd => PL h Dd ([] : List Value).toArray) where
  new := fun {s₂ Q} h => wpAny_newObj_type (h _ _ (push_keeps _ _) (fresh_none _) ⟨_, Heap.get?_push_size _ rfl, by nofun⟩ ⟨_, _, Heap.get?_push_size _ rfl, rfl, ⟨rfl, rfl⟩, rfl⟩)
  keep := fun ⟨o, n, e, r⟩ k => ⟨o, n, k _ _ e, r⟩
  y := fun Dd => .inl ⟨rfl, fun h ⟨o, n, e, c, _, d⟩ => ⟨o, e, c, _, _, d⟩⟩
theorem comp_core {A : Around} {elt iter : Expr} {x : Str} {px : Pos} {ifs : List Expr} {gs : List Comprehension} {scope : Scope} {pos : Pos} {dl : D} {items : List D} {F : D → List D}
    (hA : AOk ℓ A) (hI : Inv g s) (hE : EnvOK fi env) (hX : XOk g X s.heap) (hF : FrameR X s.heap env ρ) (hok : compOk fi scope = true)
    (hgood : ∀ c ∈ gs, c.is_async = 0 ∧ ∀ env x, foldedSetIterable c.iter env x = pure x)
    (hk : scope.names.lookup x = some .local ∨ scope.names.lookup x = some .cell)
    (hev : Ev g ℓ fi ρ iter dl) (hitd : iterD dl = some items)
    (hit : ∀ it ∈ items, ∃ b, Tsts g ℓ (fi.comp scope) ifs (put (capOf scope ρ) x it) b ∧ (b = true → Emit g ℓ (fi.comp scope) elt gs (put (capOf scope ρ) x it) (F it)) ∧ (b = false → F it = []))
    (hz : (items.flatMap F).length ≤ sizeLine) {cl : List (Str × Addr)} (hcl : ∀ x c, cl.lookup x = some c → env.cells.lookup x = some c ∧ (x, NameKind.free) ∈ scope.names) (hcl' : ∀ x, (x, NameKind.free) ∈ scope.names → cl.lookup x = env.cells.lookup x) :
    wpAny g.M A (eval iter env) (fun xv s₁ => wpAny g.M A (pyIter xv) (fun it s₂ => wpAny g.M A (newList []) (fun acc s₃ =>
      wpAny g.M A (newFunctionEnv scope env.globals cl [] env.qual none .none (some env)) (fun cenv s₄ =>
        codeAny g.M A (.compStart (.ListComp elt (⟨.Name x px, iter, ifs, 0⟩ :: gs) scope pos) 0 it acc { cenv with scope := relabel scope env }) (fun r s' => r = .ok .next ∧ CDone g X s (items.flatMap F) acc cenv.locals s') s₄) NoE s₃) NoE s₂) NoE s₁) NoE s := by
  refine wpQ (hev A X env s hA hI hE hX hF) fun v s₁ ⟨i1, k1, r1⟩ => ?_
  refine comp_frame (e := .ListComp elt (⟨.Name x px, iter, ifs, 0⟩ :: gs) scope pos) newList_acc (start_list rfl rfl) (R := fun C acc r s' => r = .ok .next ∧ CDone g X s (items.flatMap F) acc C s') hA i1 hE (hX.keep k1) (hF.keep hI.tabs k1) hok hk r1 hitd hcl hcl' fun cenv Dd I ax s₄ FX acc4 hDT hDn W4 hI' hIX hax hk' hxn hDs hLs _ => ?_
  have C4 : CI g (Dd :: X) s₁.heap (fi.comp scope) cenv Dd (capOf scope ρ) [] s₄ := ⟨FX, hDs, .head _, hDn, [], acc4, .nil⟩
  refine codeAny_mono (loop_ok gs hgood 0 x px iter ifs (capOf scope ρ) rfl rfl hA C4 W4 hI' hIX (fun a ha => (hax a ha).2) hk' hxn hit (by simpa using hz)) ?_
  rintro r s' ⟨rfl, C', _⟩
  obtain ⟨vs, hl', hr'⟩ := C'.acc
  have hD := k1.none i1.tabs hDs
  refine ⟨rfl, C'.fr.inv, k1.trans C'.fr.keep, k1.none i1.tabs hLs, C'.fr.lns, Dd, vs, rfl, hD, hX.fresh hD, hl', hr', ?_⟩
  rw [hr'.length]; simpa using hz
end Mine


/- WK -/
namespace Mine
variable {g : Gx} {ℓ : Nat} {fi : FI} {X : List Addr} {h₀ : Heap} {O : List (Str × Addr)} {env : Env} {σ : St} {s : Shared} {ρ : AEnv} {H : Heap} {Dd : Addr} {ds : List D}

structure CompOK (g : Gx) (ℓ : Nat) (fi : FI) (ρ : AEnv) (elt : Expr) (gens : List Comprehension) (scope : Scope) (ds : List D) : Prop where
  mk' :: 
  out : ∃ x px iter ifs gs dl items F, gens = ⟨.Name x px, iter, ifs, 0⟩ :: gs ∧ compOk fi scope = true ∧ (∀ c ∈ gs, c.is_async = 0 ∧ ∀ env x, foldedSetIterable c.iter env x = pure x) ∧ (∀ env x, foldedSetIterable iter env x = pure x) ∧
    (scope.names.lookup x = some .local ∨ scope.names.lookup x = some .cell) ∧ Ev g ℓ fi ρ iter dl ∧ iterD dl = some items ∧
    (∀ it ∈ items, ∃ b, Tsts g ℓ (fi.comp scope) ifs (put (capOf scope ρ) x it) b ∧ (b = true → Emit g ℓ (fi.comp scope) elt gs (put (capOf scope ρ) x it) (F it)) ∧ (b = false → F it = [])) ∧
    ds = items.flatMap F ∧ ds.length ≤ sizeLine

theorem CDone.post {acc : Value} {C : Addr} {s' : Shared} (c : CDone g X s ds acc C s') {h' : Heap} (hI : Inv g s) (hs : Heap.SameBut C s'.heap h') : Post g X s (.list ds) acc { s' with heap := h' } := by
  obtain ⟨m, hm⟩ := c.cns
  have t := c.inv.tabs
  obtain ⟨a, vs, rfl, han, haX, hl, hr, hz⟩ := c.acc
  refine ⟨inv_same (tk := s'.toks) c.inv hs (Ns.apart t hm) (inv_base hI c.cnew) (codeRec_ne_ns hm), fun b o h1 e => (hs.2 b fun z => by rw [z, c.cnew] at e; cases e).trans (c.keep b o h1 e), .list haX ?_ hz ?_⟩
  · obtain ⟨o, n, e, r⟩ := id hl
    exact ⟨o, n, (hs.2 a fun z => IsList.noNs hl.isList (z ▸ hm)).trans e, r⟩
  · exact (hr.keepR (KeepR.of_ns hm hs)).mono fun b hb => .tail _ hb

theorem comp_clos {scope : Scope} (hok : compOk fi scope = true) (hE : EnvOK fi env) (hF : FrameR X s.heap env ρ) :
    ∃ cl, closureFor scope env = pure cl ∧ (∀ x c, cl.lookup x = some c → env.cells.lookup x = some c ∧ (x, NameKind.free) ∈ scope.names) ∧ ∀ x, (x, NameKind.free) ∈ scope.names → cl.lookup x = env.cells.lookup x := by
  refine closureFor_ok scope env fun x hx => ?_
  simp only [compOk, Bool.and_eq_true] at hok
  have := List.all_eq_true.mp hok.2 _ hx
  simp only [bne_self_eq_false, Bool.false_or, Bool.or_eq_true, beq_iff_eq] at this
  obtain ⟨c, v, hc, _⟩ := hF.cel x (by rw [hE.kinds]; exact this)
  exact ⟨c, hc⟩
theorem comp_kind {scope : Scope} (hok : compOk fi scope = true) : scope.kind = .function ∧ (scope.names.map (·.1)).Nodup := by
  simp only [compOk, Bool.and_eq_true, beq_iff_eq, decide_eq_true_eq] at hok
  exact hok.1

theorem Ev.comp {elt : Expr} {gens : List Comprehension} {scope : Scope} {pos : Pos} {ds : List D} (h : CompOK g ℓ fi ρ elt gens scope ds) : Ev g ℓ fi ρ (.ListComp elt gens scope pos) (.list ds) := by
  intro A X env s hA hI hE hX hF
  obtain ⟨x, px, iter, ifs, gs, dl, items, F, rfl, hok, hgood, hs0, hk, hev, hitd, hit, rfl, hz⟩ := h.out
  obtain ⟨cl, hcl0, hcl, hcl'⟩ := comp_clos hok hE hF
  rw [eval_ListComp]
  refine wpAny_comprehension_free rfl (hs0 env) hcl0 (comp_kind hok).1 (fun y hy hl => hl ▸ lookup_mem_nodup (comp_kind hok).2 hy) ?_
  refine wpAny_mono (comp_core (pos := pos) hA hI hE hX hF hok hgood hk hev hitd hit hz hcl hcl') (fun xv s₁ h₁ => wpAny_mono h₁ (fun it s₂ h₂ => wpAny_mono h₂ (fun acc s₃ h₃ => wpAny_mono h₃ (fun cenv s₄ h₄ => codeAny_mono h₄ fun r s' hr => ?_) fun _ _ e => e) fun _ _ e => e) fun _ _ e => e) fun _ _ e => e
  obtain ⟨rfl, hd⟩ := hr
  obtain ⟨m, hm⟩ := hd.cns
  exact ⟨m, hm, fun h' hs => hd.post hI hs⟩
end Mine


/- WL -/
namespace Mine
variable {g : Gx} {ℓ : Nat} {fi : FI} {X : List Addr} {h₀ : Heap} {O : List (Str × Addr)} {env : Env} {σ : St} {s : Shared} {ρ : AEnv} {H : Heap} {Dd : Addr} {ds : List D}

theorem VarAt.pokeA {h h' : Heap} {a : Addr} (hL : a ≠ env.locals) (hc : ∀ c v, h.IsCell c v → c ≠ a) (hs : ∀ b o, b ≠ a → h.get? b = some o → h'.get? b = some o) {x : Str} {v : Value} (q : VarAt h env x v) : VarAt h' env x v := by
  rcases q with ⟨hk, m, hn, hm⟩ | ⟨hk, c, hcc, hv⟩
  · exact .inl ⟨hk, m, hn.at' fun o e => hs _ _ hL.symm e, hm⟩
  · refine .inr ⟨hk, c, hcc, ?_⟩
    obtain ⟨o, e, d⟩ := id hv
    exact ⟨o, hs _ _ (hc c _ hv) e, d⟩
theorem FrX.pokeA (F : FrX g X h₀ O fi env σ s) {a : Addr} (hL : a ≠ env.locals) (hc : ∀ c v, s.heap.IsCell c v → c ≠ a) (hq : ∀ Y o, s.heap.get? a = some o → ¬ SeqO Y a o) (hT : a ∉ g.Tb) (nc : NoCode s.heap a) (hn : h₀.get? a = none) (hX : a ∉ X) {h' : Heap} {tk : Nat} (hs : ∀ b o, b ≠ a → s.heap.get? b = some o → h'.get? b = some o) : FrX g X h₀ O fi env σ { s with heap := h', toks := tk } := by
  have t := F.inv.tabs
  have kr : ∀ Y, KeepR Y s.heap h' := fun Y b o e q => hs b o (fun z => by subst z; exact hq _ _ e q) e
  have nb : g.b.get? a = none := by
    cases e : g.b.get? a with
    | none => rfl
    | some o => obtain ⟨o', e'⟩ := F.bin _ _ e; rw [hn] at e'; cases e'
  refine ⟨inv_poke F.inv hs hT nb nc, F.bin, F.eok, fun b hb => ?_, fun b o h1 e => ?_, F.lnew, ?_, fun x hx => ?_, F.inj, fun x hx => ?_, F.names, F.nodup, fun x b hp => ?_, fun x d h hx => ?_⟩
  · obtain ⟨⟨o, e, qq⟩, n⟩ := F.xok b hb
    exact ⟨⟨o, hs b o (fun z => hX (z ▸ hb)) e, qq⟩, n⟩
  · exact hs b o (fun z => by rw [z, hn] at e; cases e) (F.keep b o h1 e)
  · obtain ⟨m, hm⟩ := F.lns
    exact ⟨m, hm.at' fun o e => hs _ _ hL.symm e⟩
  · obtain ⟨hk, c, v, hcc, hv, hn'⟩ := F.cells x hx
    obtain ⟨o, e, d⟩ := id hv
    exact ⟨hk, c, v, hcc, ⟨o, hs _ _ (hc c _ hv) e, d⟩, hn'⟩
  · obtain ⟨c, v, hcc, hv⟩ := F.cel x hx
    obtain ⟨o, e, d⟩ := id hv
    exact ⟨c, v, hcc, o, hs _ _ (hc c _ hv) e, d⟩
  · obtain ⟨h1, h2, h3, vs, ds, h4, h5, h6, h7⟩ := F.own x b hp
    refine ⟨h1, h2, h3.pokeA hL hc hs, vs, ds, h4, ?_, h6, h7.keepR (kr _)⟩
    obtain ⟨o, n, e, c, dn, d⟩ := id h5
    exact ⟨o, n, hs _ _ (fun z => by subst z; exact hq [] o e (.inl ⟨_, _, d, fun _ h => nomatch h⟩)) e, c, dn, d⟩
  · obtain ⟨v, hv, hr⟩ := F.rest x d h hx
    exact ⟨v, hv.pokeA hL hc hs, hr.keepR (kr _)⟩

def D.scalar : D → Bool
  | .none | .bool _ | .int _ | .str _ | .bytes _ | .opq _ => true
  | _ => false
theorem Rep.scalar {X Y : List Addr} {h : Heap} {v : Value} {d : D} (r : Rep X h v d) (hs : d.scalar = true) : Rep Y h v d := by
  cases r <;> first | exact .none | exact .bool | exact .int | exact .str | exact .bytes | exact .opq | cases hs

def EvS (g : Gx) (ℓ : Nat) (fi : FI) (σ : St) (e : Expr) (d : D) : Prop := Ev g ℓ fi σ.fz e d ∨ (Ev g ℓ fi σ.ρ e d ∧ d.scalar = true)
theorem EvS.strict {e : Expr} {d : D} (h : Ev g ℓ fi σ.fz e d) : EvS g ℓ fi σ e d := .inl h
theorem EvS.run {e : Expr} {d : D} (h : EvS g ℓ fi σ e d) {A : Around} (hA : AOk ℓ A) (F : FrX g X h₀ O fi env σ s) : wpAny g.M A (eval e env) (fun v s' => FrX g X h₀ O fi env σ s' ∧ Keep g s.heap s'.heap ∧ Rep (X ++ O.map (·.2)) s'.heap v d) NoE s := by
  rcases h with h | ⟨h, hs⟩
  · exact wpQ (h A _ env s hA F.inv F.eok F.xok' F.strict) fun v s' ⟨i, k, r⟩ => ⟨F.step i k, k, r⟩
  · exact wpQ (h A _ env s hA F.inv F.eok F.xok F.full) fun v s' ⟨i, k, r⟩ => ⟨F.step i k, k, r.scalar hs⟩

def okStore (fi : FI) (σ : St) (x : Str) : Prop := x ∉ σ.ω ∧ (fi.sc.names.lookup x = some .local ∨ x ∈ fi.oc)

theorem Ex1.assign {x : Str} {px pos : Pos} {value : Expr} {d : D} {Q : St → Fl → Prop} (h : EvS g ℓ fi σ value d) (ho : okStore fi σ x) (hq : Q (σ.put x d) .next)
    (hs : ∀ env, swapsWith value (some (.Name x px)) pos.line env = pure false := by intro _; rfl) : Ex1 g ℓ fi σ (.Assign [.Name x px] value pos) Q := by
  intro A X h₀ O env s hA F
  refine wpAny_Assign_Name (wpQ (h.run hA F) fun v s₁ ⟨F₁, k₁, r₁⟩ => ?_) (hs env)
  refine F₁.store ho.1 ho.2 r₁ fun s' F' k' al' => ?_
  exact ⟨_, O, .next, F', (KeepX.of_keep k₁).trans k'.up Onew.refl, (Alive.of_keep F₁.inv.tabs k₁).trans al', Onew.refl, trivial, hq⟩

theorem Ex1.ret {e : Expr} {pos : Pos} {d : D} {Q : St → Fl → Prop} (h : Ev g ℓ fi σ.ρ e d) (hq : Q σ (.ret d)) : Ex1 g ℓ fi σ (.Return (some e) pos) Q := by
  intro A X h₀ O env s hA F
  refine wpAny_Return_some (wpQ (h A X env s hA F.inv F.eok F.xok F.full) fun v s' ⟨i, k, r⟩ => ?_)
  exact ⟨σ, O, .ret d, F.step i k, .of_keep k, .of_keep i.tabs k, Onew.refl, r, hq⟩
theorem Ex1.brk {pos : Pos} {Q : St → Fl → Prop} (hq : Q σ .brk) : Ex1 g ℓ fi σ (.Break pos) Q := fun A X h₀ O env s hA F => wpAny_Break ⟨σ, O, .brk, F, .refl _, .refl _, Onew.refl, trivial, hq⟩

theorem Ex1.ifs {t : Expr} {b o : List Stmt} {pos : Pos} {c : Bool} {Q : St → Fl → Prop} (h : Tst g ℓ fi σ.ρ t c) (h1 : c = true → Ex g ℓ fi σ b Q) (h2 : c = false → Ex g ℓ fi σ o Q) : Ex1 g ℓ fi σ (.If t b o pos) Q := by
  intro A X h₀ O env s hA F
  refine wpAny_If (wpQ (h A X env s hA F.inv F.eok F.xok F.full) fun q s₁ ⟨e, i, k⟩ => ?_)
  subst e
  have al := Alive.of_keep i.tabs k
  cases q with
  | true => exact wpQ (h1 rfl A X h₀ O env s₁ hA (F.step i k)) fun f s' p => p.trans (.of_keep k) al Onew.refl
  | false => exact wpQ (h2 rfl A X h₀ O env s₁ hA (F.step i k)) fun f s' p => p.trans (.of_keep k) al Onew.refl

theorem Ex1.aug {x : Str} {px pos : Pos} {op : Operator} {value : Expr} {a b d : D} {Q : St → Fl → Prop} (hx : σ.ρ.lookup x = some a) (h : EvS g ℓ fi σ value b) (hs : a.scalar = true) (ht : Op2 g (inplaceOp op) a b d) (hds : d.scalar = true) (ho : okStore fi σ x) (hq : Q (σ.put x d) .next)
    (hn : okName x = true := by decide) : Ex1 g ℓ fi σ (.AugAssign (.Name x px) op value pos) Q := by
  intro A X h₀ O env s hA F
  refine wpAny_AugAssign_Name ?_
  simp only [okName, Bool.and_eq_true, Bool.not_eq_true'] at hn
  obtain ⟨v, hv, hr⟩ := F.full.vars x a hx
  have ld : ∀ {Q' : Value → Shared → Prop}, Q' v s → wpAny g.M A (loadName env x) Q' NoE s := by
    intro Q' hq'
    rcases hv with ⟨hk, m, hns, hm⟩ | ⟨hk, c, hc, hcell⟩
    · exact wpAny_loadName_local F.eok.kind hk hns hm hq'
    · rcases hk with hk | hk
      · exact wpAny_loadName_cell F.eok.kind hk hc hcell hq'
      · exact wpAny_loadName_free F.eok.kind hk hc hcell hq' hn.2
  refine ld (wpQ (h.run hA F) fun w s₁ ⟨F₁, k₁, r₁⟩ => ?_)
  refine wpQ (ht ℓ A _ s₁ v w hA F₁.inv F₁.xok' (hr.scalar hs |>.keep F.inv.tabs k₁) r₁) fun u s₂ ⟨i2, k2, r2⟩ => ?_
  refine (F₁.step i2 k2).store ho.1 ho.2 (r2.scalar hds) fun s' F' k' al' => ?_
  have k12 := k₁.trans k2
  exact ⟨_, O, .next, F', (KeepX.of_keep k12).trans k'.up Onew.refl, (Alive.of_keep i2.tabs k12).trans al', Onew.refl, trivial, hq⟩
end Mine


/- WM -/
namespace Mine
variable {g : Gx} {ℓ : Nat} {fi : FI} {X : List Addr} {h₀ : Heap} {O : List (Str × Addr)} {env : Env} {σ : St} {s : Shared} {ρ : AEnv} {H : Heap} {Dd : Addr} {ds : List D}

theorem own_alive (F : FrX g X h₀ O fi env σ s) {a : Addr} (h : OwnA fi env a) : ∃ o, s.heap.get? a = some o := by
  rcases h with rfl | ⟨y, hy, hc⟩
  · obtain ⟨m, o, _, _, e, _⟩ := F.lns; exact ⟨o, e⟩
  · obtain ⟨_, c, w, hc', ⟨o, e, _⟩, _⟩ := F.cells y hy
    rw [hc] at hc'; cases hc'; exact ⟨o, e⟩
theorem O_alive (F : FrX g X h₀ O fi env σ s) {a : Addr} (h : a ∈ O.map (·.2)) : ∃ o, s.heap.get? a = some o := by
  obtain ⟨⟨y, b⟩, hp, rfl⟩ := List.mem_map.mp h
  obtain ⟨_, _, _, vs, ds, _, ⟨o, n, e, _⟩, _⟩ := F.own y b hp
  exact ⟨o, e⟩

theorem Ex1.assignC {x : Str} {px pos vpos : Pos} {elt : Expr} {gens : List Comprehension} {scope : Scope} {ds : List D} {Q : St → Fl → Prop} (h : CompOK g ℓ fi σ.fz elt gens scope ds) (ho : okStore fi σ x) (hq : Q (σ.put x (.list ds)) .next) :
    Ex1 g ℓ fi σ (.Assign [.Name x px] (.ListComp elt gens scope vpos) pos) Q := by
  intro A X h₀ O env s hA F
  have hsw : swapsWith (.ListComp elt gens scope vpos) (some (.Name x px)) pos.line env = pure (env.blockKind == .function && env.kindOf x == some .local && px.line == (Expr.ListComp elt gens scope vpos).pos.line && !(scope.names.any fun (n, k) => n == x && (k == .local || k == .cell))) := rfl
  generalize (env.blockKind == .function && env.kindOf x == some .local && px.line == (Expr.ListComp elt gens scope vpos).pos.line && !(scope.names.any fun (n, k) => n == x && (k == .local || k == .cell))) = B at hsw
  cases B with
  | false =>
    refine wpAny_Assign_Name (wpQ ((EvS.strict (Ev.comp h)).run hA F) fun v s₁ ⟨F₁, k₁, r₁⟩ => ?_) hsw
    refine F₁.store ho.1 ho.2 r₁ fun s' F' k' al' => ?_
    exact ⟨_, O, .next, F', (KeepX.of_keep k₁).trans k'.up Onew.refl, (Alive.of_keep F₁.inv.tabs k₁).trans al', Onew.refl, trivial, hq⟩
  | true =>
    obtain ⟨x1, px1, iter, ifs, gs, dl, items, F1, rfl, hok, hgood, hs0, hk, hev, hitd, hit, rfl, hz⟩ := h.out
    obtain ⟨cl, hcl0, hcl, hcl'⟩ := comp_clos hok F.eok F.strict
    rw [exec_Assign_Name_used _ _ _ _ hsw]
    refine wpAny_bind (wpAny_standAt (wpAny_bind ?_))
    show wpAny _ A (do let _ ← comprehension (.ListComp elt (⟨.Name x1 px1, iter, ifs, 0⟩ :: gs) scope vpos) scope env _ (newList []) false (eval iter env) (some (PySem.assign (.Name x px) env))) _ _ s
    refine wpAny_bind (wpAny_mono (wpAny_comprehension_free (Q := fun _ s' => ExP g X h₀ O fi env s Q .next s') (use := some (PySem.assign (.Name x px) env)) rfl (hs0 env) hcl0 (comp_kind hok).1 (fun y hy hl => hl ▸ lookup_mem_nodup (comp_kind hok).2 hy) ?_) (fun _ s' hq => wpAny_pure (wpAny_pure hq)) fun _ _ e => e)
    refine wpAny_mono (comp_core (pos := vpos) hA F.inv F.eok F.xok' F.strict hok hgood hk hev hitd hit hz hcl hcl') (fun xv s₁ h₁ => wpAny_mono h₁ (fun it s₂ h₂ => wpAny_mono h₂ (fun acc s₃ h₃ => wpAny_mono h₃ (fun cenv s₄ h₄ => codeAny_mono h₄ fun r s' hr => ?_) fun _ _ e => e) fun _ _ e => e) fun _ _ e => e) fun _ _ e => e
    obtain ⟨rfl, hd⟩ := hr
    obtain ⟨m, hm⟩ := hd.cns
    obtain ⟨a, vs, rfl, han, haX, hl, hr, hz'⟩ := hd.acc
    have F' := F.step hd.inv hd.keep
    have hr' : Rep (X ++ O.map (·.2)) s'.heap (.ref a) (.list (items.flatMap F1)) := .list haX hl hz' (hr.mono fun b hb => .tail _ hb)
    have hCL : cenv.locals ≠ env.locals := fun z => by
      obtain ⟨o, e⟩ := own_alive F (.inl rfl); rw [← z, hd.cnew] at e; cases e
    refine wpAny_assign_Name (F'.store ho.1 ho.2 hr' fun s'' F'' k'' al'' => ?_)
    have hCT := Ns.apart hd.inv.tabs hm
    have hCO : ¬ OwnA fi env cenv.locals := fun w => by obtain ⟨o, e⟩ := own_alive F w; rw [hd.cnew] at e; cases e
    have hCo : cenv.locals ∉ O.map (·.2) := fun w => by obtain ⟨o, e⟩ := O_alive F w; rw [hd.cnew] at e; cases e
    have hm'' : s''.heap.Ns cenv.locals m := hm.at' fun o e => k'' _ _ hCT hCO (fun h => nomatch h) e
    refine ⟨m, hm'', fun h' hs => ?_⟩
    have hCh : h₀.get? cenv.locals = none := by
      cases e : h₀.get? cenv.locals with
      | none => rfl
      | some o =>
        by_cases hT : cenv.locals ∈ g.Tb
        · exact absurd hT hCT
        · have := F.keep _ _ hT e; rw [hd.cnew] at this; cases this
    have FF := F''.pokeA (a := cenv.locals) (tk := s''.toks) hCL (fun c v hcv z => by
        obtain ⟨o, es, ep, e, dd, _⟩ := hm''
        obtain ⟨o2, e2, d2⟩ := hcv
        rw [z, e] at e2; cases e2; rw [dd] at d2; cases d2)
      (fun Y o e q => by
        obtain ⟨o', es, ep, e', dd, _⟩ := hm''
        rw [e] at e'; cases e'
        rcases q with ⟨xs, n, q, _⟩ | ⟨vs, q, _⟩ <;> (rw [dd] at q; cases q))
      hCT (codeRec_ne_ns hm'') hCh (F.xok.fresh hd.cnew) (h' := h') fun b o hb e => (hs.2 b hb).trans e
    refine ⟨_, O, .next, FF, fun b o h1 h2 h3 e => (hs.2 b fun z => by rw [z, hd.cnew] at e; cases e).trans (k'' b o h1 h2 (fun h => nomatch h) (hd.keep b o h1 e)), fun b o e => ?_, Onew.refl, trivial, hq⟩
    obtain ⟨o', e'⟩ := ((Alive.of_keep hd.inv.tabs hd.keep).trans al'') b o e
    exact ⟨o', (hs.2 b fun z => by rw [z, hd.cnew] at e; cases e).trans e'⟩

theorem FrX.newL (F₁ : FrX g X h₀ O fi env σ s) {a : Addr} {s₂ : Shared} {xs : Array Value} (i2 : Inv g s₂) (kk : ∀ b o, s.heap.get? b = some o → s₂.heap.get? b = some o) (han : s.heap.get? a = none) (hl2 : PL s₂.heap a xs) : FrX g (a :: X) h₀ O fi env σ s₂ := by
  have F₂ := F₁.step i2 (Keep.of kk)
  have i1 := F₁.inv
  obtain ⟨oa, na, ea, ca, ra, data⟩ := id hl2
  have haT : a ∉ g.Tb := tab_cls i2.tabs ea (by rw [ca]; nofun)
  refine ⟨i2, F₂.bin, F₂.eok, fun b hb => ?_, F₂.keep, F₂.lnew, F₂.lns, F₂.cells, F₂.inj, F₂.cel, F₂.names, F₂.nodup, fun y b hp => ?_, fun y d hd hy => ?_⟩
  · rcases List.mem_cons.mp hb with rfl | hb
    · exact ⟨⟨oa, ea, ca, _, _, data⟩, haT, inv_base i1 han⟩
    · exact F₂.xok b hb
  · obtain ⟨q1, q2, q3, us, es', q4, q5, q6, q7⟩ := F₁.own y b hp
    refine ⟨q1, ?_, q3.keep i1.tabs (Keep.of kk), us, es', q4, ?_, q6, (q7.fresh han).keep i1.tabs (Keep.of kk)⟩
    · intro w
      rcases List.mem_cons.mp w with rfl | w
      · obtain ⟨o, n, e, _⟩ := q5; rw [han] at e; cases e
      · exact q2 w
    · obtain ⟨o, n, e, r⟩ := q5; exact ⟨o, n, kk _ _ e, r⟩
  · obtain ⟨v, q1, q2⟩ := F₁.rest y d hd hy
    exact ⟨v, q1.keep i1.tabs (Keep.of kk), (q2.fresh han).keep i1.tabs (Keep.of kk)⟩
theorem FrX.own1 {x : Str} {a : Addr} {s' : Shared} {vs : List Value} {ds : List D} (G' : FrX g (a :: X) h₀ O fi env { σ with ρ := del σ.ρ x } s') (hx : x ∉ σ.ω) (va : VarAt s'.heap env x (.ref a)) (hah : h₀.get? a = none) (haX : a ∉ X) (hao : a ∉ O.map (·.2)) (hla : PL s'.heap a vs.toArray) (hz : vs.length ≤ sizeLine)
    (hr : Reps ((a :: X) ++ O.map (·.2)) s'.heap vs ds) : FrX g X h₀ ((x, a) :: O) fi env ⟨put σ.ρ x (.list ds), x :: σ.ω⟩ s' := by
  have hmem : ∀ b, b ∈ X ++ a :: O.map (·.2) → b ∈ (a :: X) ++ O.map (·.2) := by intro b hb; simp at hb ⊢; rcases hb with h | h | h <;> simp [h]
  refine ⟨G'.inv, G'.bin, G'.eok, fun b hb => G'.xok b (.tail _ hb), G'.keep, G'.lnew, G'.lns, G'.cells, G'.inj, G'.cel, ?_, ?_, fun y b hp => ?_, fun y d hd hy => ?_⟩
  · simp only [List.map_cons]; rw [G'.names]
  · simp only [List.map_cons]; exact List.nodup_cons.mpr ⟨hao, G'.nodup⟩
  · rcases List.mem_cons.mp hp with e | hp
    · cases e
      refine ⟨hah, haX, va, vs, ds, ?_, hla, hz, hr.mono hmem⟩
      show (put σ.ρ x _).lookup x = _
      rw [lookup_put]; simp
    · obtain ⟨q1, q2, q3, us, es', q4, q5, q6, q7⟩ := G'.own y b hp
      have hyx : y ≠ x := fun z => hx (by have := G'.names; show x ∈ σ.ω; rw [← this, ← z]; exact List.mem_map.mpr ⟨_, hp, rfl⟩)
      have hb : (y == x) = false := by simpa using hyx
      refine ⟨q1, fun w => q2 (.tail _ w), q3, us, es', ?_, q5, q6, q7.mono hmem⟩
      show (put σ.ρ x _).lookup y = _
      have q4' : (del σ.ρ x).lookup y = _ := q4
      rw [lookup_del, hb] at q4'
      rw [lookup_put, hb]; exact q4'
  · have hd' : (put σ.ρ x (.list ds)).lookup y = some d := hd
    have hyx : y ≠ x := fun z => hy (by rw [z]; exact .head _)
    have hb : (y == x) = false := by simpa using hyx
    rw [lookup_put, hb] at hd'
    obtain ⟨v, q1, q2⟩ := G'.rest y d (by show (del σ.ρ x).lookup y = _; rw [lookup_del, hb]; exact hd') (fun w => hy (.tail _ w))
    exact ⟨v, q1, q2.mono hmem⟩
theorem Ex1.own {x : Str} {px pos lpos : Pos} {es : List Expr} {ds : List D} {Q : St → Fl → Prop} (h : Evs g ℓ fi σ.fz es ds) (ho : okStore fi σ x) (hq : Q ⟨put σ.ρ x (.list ds), x :: σ.ω⟩ .next) (hz : ds.length ≤ sizeLine := by decide) :
    Ex1 g ℓ fi σ (.Assign [.Name x px] (.List es lpos) pos) Q := by
  intro A X h₀ O env s hA F
  refine wpAny_Assign_Name (wpAny_List (wpQ (h A _ env s lpos hA F.inv F.eok F.xok' F.strict) fun vs s₁ ⟨i1, k1, r1⟩ => ?_)) rfl
  have hz' : vs.length ≤ sizeLine := by rw [r1.length]; exact hz
  refine ⟨hz', ?_⟩
  have F₁ := F.step i1 k1
  have han : s₁.heap.get? s₁.heap.objs.size = none := fresh_none _
  obtain ⟨s₂, hs2⟩ : ∃ x, ({ s₁ with heap := s₁.heap.push { cls := .type "list", data := .seq vs.toArray } } : Shared) = x := ⟨_, rfl⟩
  rw [hs2]
  have h2 : s₂.heap = s₁.heap.push { cls := .type "list", data := .seq vs.toArray } := by rw [← hs2]
  have kk : ∀ b o, s₁.heap.get? b = some o → s₂.heap.get? b = some o := by rw [h2]; exact push_keeps _ _
  have i2 : Inv g s₂ := by rw [← hs2]; exact i1.of_keeps (tk := s₁.toks) (push_keeps _ _)
  have hl2 : PL s₂.heap s₁.heap.objs.size vs.toArray := by rw [h2]; exact ⟨_, _, Heap.get?_push_size _ rfl, rfl, ⟨rfl, rfl⟩, rfl⟩
  obtain ⟨a, hza⟩ : ∃ x, s₁.heap.objs.size = x := ⟨_, rfl⟩
  rw [hza] at han hl2 ⊢
  have k12 : Keep g s.heap s₂.heap := k1.trans (Keep.of kk)
  obtain ⟨oa, na, ea, ca, ra, data⟩ := id hl2
  have haT : a ∉ g.Tb := tab_cls i2.tabs ea (by rw [ca]; nofun)
  refine (F₁.newL i2 kk han hl2).storeRaw ho.1 ho.2 fun s' G' va kr k' al' => ?_
  have haO : ¬ OwnA fi env a := fun w => by obtain ⟨o, e⟩ := own_alive F₁ w; rw [han] at e; cases e
  have hao : a ∉ O.map (·.2) := fun w => by obtain ⟨o, e⟩ := O_alive F₁ w; rw [han] at e; cases e
  have has : s.heap.get? a = none := k1.none i1.tabs han
  have FF := G'.own1 (vs := vs) (ds := ds) ho.1 va (F₁.keep.none i1.tabs han) (F₁.xok.fresh han) hao ⟨oa, na, k' _ _ haT haO (fun h => nomatch h) ea, ca, ra, data⟩ hz' (((r1.fresh han).keep i1.tabs (Keep.of kk)).keepR kr)
  refine ⟨_, _, .next, FF, (KeepX.of_keep k12).trans k'.up Onew.refl, (Alive.of_keep i2.tabs k12).trans al', fun p hp => ?_, trivial, hq⟩
  rcases List.mem_cons.mp hp with rfl | hp
  · exact .inr has
  · exact Onew.refl p hp
end Mine


/- WN -/
namespace Mine
variable {g : Gx} {ℓ : Nat} {fi : FI} {X : List Addr} {h₀ : Heap} {O : List (Str × Addr)} {env : Env} {σ : St} {s : Shared} {ρ : AEnv} {H : Heap} {Dd : Addr} {ds : List D}

theorem mem_snd_inj : ∀ {O : List (Str × Addr)}, (O.map (·.2)).Nodup → ∀ {x y : Str} {a : Addr}, (x, a) ∈ O → (y, a) ∈ O → x = y
  | (z, b) :: r, nd, x, y, a, h1, h2 => by
    simp only [List.map_cons, List.nodup_cons] at nd
    rcases List.mem_cons.mp h1 with e1 | h1 <;> rcases List.mem_cons.mp h2 with e2 | h2
    · rw [← e2] at e1; exact (Prod.mk.inj e1).1
    · cases e1; exact absurd (List.mem_map.mpr ⟨_, h2, rfl⟩) nd.1
    · cases e2; exact absurd (List.mem_map.mpr ⟨_, h1, rfl⟩) nd.1
    · exact mem_snd_inj nd.2 h1 h2

theorem FrX.pokeO (F : FrX g X h₀ O fi env σ s) {x : Str} {a : Addr} (hp0 : (x, a) ∈ O) {us vs' : List Value} {ds' : List D} (hl : PL s.heap a us.toArray) {h' : Heap} {tk : Nat} (hs : Heap.SameBut a s.heap h') (hl' : PL h' a vs'.toArray) (hz' : vs'.length ≤ sizeLine) (hr' : Reps (X ++ O.map (·.2)) s.heap vs' ds') :
    FrX g X h₀ O fi env (σ.put x (.list ds')) { s with heap := h', toks := tk } := by
  have t := F.inv.tabs
  have haO : a ∈ O.map (·.2) := List.mem_map.mpr ⟨_, hp0, rfl⟩
  have kr : KeepR (X ++ O.map (·.2)) s.heap h' := .of_list hl.isList (List.mem_append_right _ haO) hs
  obtain ⟨hn, haX, hva, _⟩ := F.own x a hp0
  have nb : g.b.get? a = none := by
    cases e : g.b.get? a with
    | none => rfl
    | some o => obtain ⟨o', e'⟩ := F.bin _ _ e; rw [hn] at e'; cases e'
  have nT : a ∉ g.Tb := by obtain ⟨o, n, e, c, _⟩ := hl; exact tab_cls t e (by rw [c]; nofun)
  have hlI := hl.isList
  refine ⟨inv_same F.inv hs nT nb (codeRec_ne_list hlI), F.bin, F.eok, fun b hb => ?_, fun b o h1 e => ?_, F.lnew, ?_, fun x hx => ?_, F.inj, fun x hx => ?_, F.names, F.nodup, fun y b hp => ?_, fun y d h hy => ?_⟩
  · obtain ⟨⟨o, e, qq⟩, n⟩ := F.xok b hb
    exact ⟨⟨o, (hs.2 b fun z => haX (z ▸ hb)).trans e, qq⟩, n⟩
  · exact (hs.2 b (fun z => by rw [z, hn] at e; cases e)).trans (F.keep b o h1 e)
  · obtain ⟨m, hm⟩ := F.lns
    exact ⟨m, hm.sameBut hs fun z => IsList.noNs hlI (z ▸ hm)⟩
  · obtain ⟨hk, c, v, hc, hv, hn'⟩ := F.cells x hx
    exact ⟨hk, c, v, hc, hv.sameBut hs (fun z => IsList.noCell hlI (z ▸ hv)), hn'⟩
  · obtain ⟨c, v, hc, hv⟩ := F.cel x hx
    exact ⟨c, v, hc, hv.sameBut hs (fun z => IsList.noCell hlI (z ▸ hv))⟩
  · obtain ⟨h1, h2, h3, vs, ds, h4, h5, h6, h7⟩ := F.own y b hp
    by_cases e : b = a
    · subst e
      have hyx := mem_snd_inj F.nodup hp hp0
      subst hyx
      refine ⟨h1, h2, h3.pokeL hlI hs, vs', ds', ?_, hl', hz', hr'.keepR kr⟩
      show (put σ.ρ y _).lookup y = _
      rw [lookup_put]; simp
    · have hyx : y ≠ x := by
        rintro rfl
        have v1 := h3
        have v2 := hva
        rcases v1 with ⟨q1, m1, q2, q3⟩ | ⟨q1, c1, q2, q3⟩ <;> rcases v2 with ⟨p1, m2, p2, p3⟩ | ⟨p1, c2, p2, p3⟩
        · obtain ⟨o, es, ep, e1, d1, _, f1⟩ := q2
          obtain ⟨o2, es2, ep2, e2, d2, _, f2⟩ := p2
          rw [e1] at e2; cases e2; rw [d1] at d2; cases d2
          rw [← f1] at q3; rw [← f2, q3] at p3; cases p3; exact e rfl
        · rw [q1] at p1; simp at p1
        · rw [p1] at q1; simp at q1
        · rw [q2] at p2; cases p2
          obtain ⟨o, e1, d1⟩ := q3
          obtain ⟨o2, e2, d2⟩ := p3
          rw [e1] at e2; cases e2; rw [d1] at d2; cases d2; exact e rfl
      refine ⟨h1, h2, h3.pokeL hlI hs, vs, ds, ?_, ?_, h6, h7.keepR kr⟩
      · show (put σ.ρ x _).lookup y = _
        rw [lookup_put, if_neg (by simpa using hyx)]; exact h4
      · obtain ⟨o, n, e', r⟩ := h5
        exact ⟨o, n, (hs.2 b e).trans e', r⟩
  · have h'' : (put σ.ρ x (.list ds')).lookup y = some d := h
    have hyx : y ≠ x := fun z => hy (by rw [z]; show x ∈ σ.ω; rw [← F.names]; exact List.mem_map.mpr ⟨_, hp0, rfl⟩)
    rw [lookup_put, if_neg (by simpa using hyx)] at h''
    obtain ⟨v, hv, hr⟩ := F.rest y d h'' hy
    exact ⟨v, hv.pokeL hlI hs, hr.keepR kr⟩

theorem evalVar {x : Str} {pos : Pos} {v : Value} {A : Around} {M : Model} {E : Value → Shared → Prop} {Q : Value → Shared → Prop} (hk : env.scope.kind = .function) (hv : VarAt s.heap env x v) (hn : okName x = true) (hq : Q v s) : wpAny M A (eval (.Name x pos) env) Q E s := by
  simp only [okName, Bool.and_eq_true, Bool.not_eq_true'] at hn
  refine wpAny_Name ?_ hn.1
  rcases hv with ⟨hk', m, hns, hm⟩ | ⟨hk', c, hc, hcell⟩
  · exact wpAny_loadName_local hk hk' hns hm hq
  · rcases hk' with hk' | hk'
    · exact wpAny_loadName_cell hk hk' hc hcell hq
    · exact wpAny_loadName_free hk hk' hc hcell hq hn.2

theorem noDict {h : Heap} {a : Addr} {xs : Array Value} (x : PL h a xs) : h.NoDictAt (.ref a) := by
  obtain ⟨n, e⟩ := x.plain
  exact ⟨_, e, rfl⟩

theorem callMeth {o elt : Expr} {apos pos : Pos} {name : Str} {id : String} {A : Around} {prog : Program} {w : World} {E : Value → Shared → Prop} {Q : Value → Shared → Prop} {a : Addr} {its : Array Value}
    (slot : Slot "list" name id) (hty : typeOf (.builtin id) = pure (.type "method_descriptor"))
    (hbase : attributeBase o name env (eval o env) = eval o env) (hline : (apos.endLine == pos.line) = true) (he : starEach [elt] env = [(false, eval elt env)])
    (h : wpAny (model prog w) A (eval o env) (fun ov s₁ => ∃ a its, ov = .ref a ∧ PL s₁.heap a its ∧
      wpAny (model prog w) A (eval elt env) (fun y s₂ => wpAny (model prog w) A (call (.builtin id) [.ref a, y]) Q E s₂) E s₁) E s) :
    wpAny (model prog w) A (eval (.Call (.Attribute o name apos) [elt] [] pos) env) Q E s := by
  rw [arm_eval_Call, hbase]
  refine wpAny_bind (wpAny_mono h (fun ov s₁ h₁ => ?_) fun _ _ e => e)
  obtain ⟨D, its, rfl, hpl, hcall⟩ := h₁
  refine wpAny_bind (wpAny_standAt ?_)
  have htrees : backTo pos (starEach [elt] env) = [(false, eval elt env)] := by rw [he]; rfl
  have fin : wpAny (model prog w) A (callWith pos (.builtin id) [.ref D] (backTo pos (starEach [elt] env)) []) Q E s₁ := by
    rw [htrees]
    exact Calls.callWith_builtin rfl (Calls.evalArgs_plain (Calls.spliced_cons (wpAny_mono hcall (fun y s₂ h₂ => Calls.spliced_nil h₂) fun _ _ e => e)))
  have hform : methodCallForm (([elt] : List Expr).length + ([] : List Keyword).length) (backTo pos (starEach [elt] env)) (backToKw pos (keywordEach [] env)) = true := by rw [htrees]; rfl
  have hpos : methodCallPos true o env apos pos = pure pos := by unfold methodCallPos; simp [hline]
  unfold methodCall
  rw [hform]
  refine wpAny_bind (wpAny_holding (getMethod_list_of slot hty hpl.isList (noDict hpl) ?_))
  exact wpAny_bind (wpAny_of_eq hpos fin)

theorem Ex1.append {x : Str} {p1 apos pos spos : Pos} {e : Expr} {d : D} {ds : List D} {Q : St → Fl → Prop} (hx : x ∈ σ.ω) (hl : σ.ρ.lookup x = some (.list ds)) (h : EvS g ℓ fi σ e d) (hz : ds.length + 1 ≤ sizeLine) (hq : Q (σ.put x (.list (ds ++ [d]))) .next)
    (hn : okName x = true := by decide) (hline : (apos.endLine == pos.line) = true := by decide) (he : ∀ env, starEach [e] env = [(false, eval e env)] := by intro _; rfl) :
    Ex1 g ℓ fi σ (.Expr (.Call (.Attribute (.Name x p1) "append" apos) [e] [] pos) spos) Q := by
  intro A X h₀ O env s hA F
  have hi : interactive env = false := by unfold interactive; rw [F.eok.kind]; rfl
  refine wpAny_Expr ?_ hi rfl
  rw [← F.names] at hx
  obtain ⟨⟨y, a⟩, hp, rfl⟩ := List.mem_map.mp hx
  obtain ⟨q1, q2, q3, us, es', q4, q5, q6, q7⟩ := F.own y a hp
  simp only at hl
  rw [hl] at q4; cases q4
  refine callMeth (a := a) (its := us.toArray) slot_list_append type_list_append rfl hline (he env) (evalVar F.eok.kind q3 hn ⟨a, _, rfl, q5, ?_⟩)
  refine wpQ (h.run hA F) fun v s₁ ⟨F₁, k₁, r₁⟩ => ?_
  obtain ⟨q1, q2, q3, us, es', q4, q5, q6, q7⟩ := F₁.own y a hp
  rw [hl] at q4; cases q4
  refine wpAny_list_append_plain q5.plain (fun h' hl' hs => ?_) (by rw [List.size_toArray]; exact q6)
  have F' := F₁.pokeO hp q5 (h' := h') (tk := s₁.toks) (vs' := us ++ [v]) (ds' := ds ++ [d]) hs (by simpa using PL.of hl') (by rw [List.length_append, q7.length]; exact hz) (q7.append (.cons r₁ .nil))
  have ka : KeepX g fi env O s₁.heap h' := fun b o h1 h2 h3 e => (hs.2 b fun z => h3 (z ▸ List.mem_map.mpr ⟨_, hp, rfl⟩)).trans e
  obtain ⟨o', n', e', _⟩ := PL.of hl'
  exact ⟨_, O, .next, F', (KeepX.of_keep k₁).trans ka Onew.refl, (Alive.of_keep F₁.inv.tabs k₁).trans (Alive.of_same e' hs), Onew.refl, trivial, hq⟩

def EvSL (g : Gx) (ℓ : Nat) (fi : FI) (σ : St) (e : Expr) (ds : List D) : Prop := Ev g ℓ fi σ.fz e (.list ds) ∨ (Ev g ℓ fi σ.ρ e (.list ds) ∧ ∀ d ∈ ds, d.scalar = true)
theorem Reps.scalar {X Y : List Addr} {h : Heap} : ∀ {vs : List Value} {ds : List D}, Reps X h vs ds → (∀ d ∈ ds, d.scalar = true) → Reps Y h vs ds
  | _, _, .nil, _ => .nil
  | _, _, .cons a b, hs => .cons (a.scalar (hs _ (.head _))) (Reps.scalar b fun d hd => hs d (.tail _ hd))

theorem Ex1.extend {x : Str} {p1 apos pos spos : Pos} {e : Expr} {ds es : List D} {Q : St → Fl → Prop} (hx : x ∈ σ.ω) (hl : σ.ρ.lookup x = some (.list ds)) (h : EvSL g ℓ fi σ e es) (hz : ds.length + es.length ≤ sizeLine) (hq : Q (σ.put x (.list (ds ++ es))) .next)
    (hn : okName x = true := by decide) (hline : (apos.endLine == pos.line) = true := by decide) (he : ∀ env, starEach [e] env = [(false, eval e env)] := by intro _; rfl) :
    Ex1 g ℓ fi σ (.Expr (.Call (.Attribute (.Name x p1) "extend" apos) [e] [] pos) spos) Q := by
  intro A X h₀ O env s hA F
  have hi : interactive env = false := by unfold interactive; rw [F.eok.kind]; rfl
  refine wpAny_Expr ?_ hi rfl
  rw [← F.names] at hx
  obtain ⟨⟨y, a⟩, hp, rfl⟩ := List.mem_map.mp hx
  obtain ⟨q1, q2, q3, us, es', q4, q5, q6, q7⟩ := F.own y a hp
  simp only at hl
  rw [hl] at q4; cases q4
  refine callMeth (a := a) (its := us.toArray) PySem.F.slot_list_extend PySem.F.type_list_extend rfl hline (he env) (evalVar F.eok.kind q3 hn ⟨a, _, rfl, q5, ?_⟩)
  have run : wpAny g.M A (eval e env) (fun v s' => FrX g X h₀ O fi env σ s' ∧ Keep g s.heap s'.heap ∧ ∃ b ws, v = .ref b ∧ PL s'.heap b (ws : List Value).toArray ∧ Reps (X ++ O.map (·.2)) s'.heap ws es) NoE s := by
    rcases h with h | ⟨h, hsc⟩
    · refine wpQ (h A _ env s hA F.inv F.eok F.xok' F.strict) fun v s' ⟨i, k, r⟩ => ⟨F.step i k, k, ?_⟩
      cases r with | list q1 q2 q3 q4 => exact ⟨_, _, rfl, q2, q4⟩
    · refine wpQ (h A _ env s hA F.inv F.eok F.xok F.full) fun v s' ⟨i, k, r⟩ => ⟨F.step i k, k, ?_⟩
      cases r with | list q1 q2 q3 q4 => exact ⟨_, _, rfl, q2, q4.scalar hsc⟩
  refine wpQ run fun v s₁ ⟨F₁, k₁, b, ws, hv, hlb, r₁⟩ => ?_
  subst hv
  obtain ⟨q1, q2, q3, us, es', q4, q5, q6, q7⟩ := F₁.own y a hp
  rw [hl] at q4; cases q4
  obtain ⟨n1, e1⟩ := q5.plain
  obtain ⟨n2, e2⟩ := hlb.plain
  have hsz : us.toArray.size + ws.toArray.size ≤ sizeLine := by rw [List.size_toArray, List.size_toArray, q7.length, r₁.length]; exact hz
  refine call_meets PySem.F.slot_list_extend ⟨_, e1, rfl⟩ PySem.F.entry_list_extend (PySem.F.args_list_extend_2 _ _) (AutoSeq1.list_extend_list_list_0 a us.toArray n1 b ws.toArray n2 (by
      simp only [Builtin.List.listTooLong, Bool.and_eq_true, decide_eq_true_eq, not_and]; intro _; exact Nat.not_lt.mpr hsz) (by rw [List.size_toArray]; exact q6) (Nat.le_succ_of_le hsz)) ⟨e1, e2, ?_⟩
  have hs : Heap.SameBut a s₁.heap (s₁.heap.update a (Obj.mapSeq fun x => x ++ ws.toArray)) := Heap.SameBut.update ..
  have em : Obj.mapSeq (fun x => x ++ ws.toArray) { cls := .type "list", data := .seq us.toArray n1 } = ({ cls := .type "list", data := .seq (us.toArray ++ ws.toArray) (if (us.toArray ++ ws.toArray).size == us.toArray.size then n1 else n1 + 1) } : Obj) := rfl
  have hl' : PL (s₁.heap.update a (Obj.mapSeq fun x => x ++ ws.toArray)) a (us ++ ws).toArray := by
    refine ⟨_, if (us.toArray ++ ws.toArray).size == us.toArray.size then n1 else n1 + 1, Heap.get?_update_self _ e1 (by rw [em]; rfl), rfl, ⟨rfl, rfl⟩, ?_⟩
    rw [em, List.append_toArray]
  have F' := F₁.pokeO hp q5 (h' := _) (tk := s₁.toks) (vs' := us ++ ws) (ds' := ds ++ es) hs hl' (by rw [List.length_append, q7.length, r₁.length]; exact hz) (q7.append r₁)
  have ka : KeepX g fi env O s₁.heap (s₁.heap.update a (Obj.mapSeq fun x => x ++ ws.toArray)) := fun b o h1 h2 h3 e => (hs.2 b fun z => h3 (z ▸ List.mem_map.mpr ⟨_, hp, rfl⟩)).trans e
  obtain ⟨o', n', e', _⟩ := hl'
  exact ⟨_, O, .next, F', (KeepX.of_keep k₁).trans ka Onew.refl, (Alive.of_keep F₁.inv.tabs k₁).trans (Alive.of_same e' hs), Onew.refl, trivial, hq⟩
end Mine


/- WO -/
namespace Mine
variable {g : Gx} {ℓ : Nat} {fi : FI} {X : List Addr} {h₀ : Heap} {O : List (Str × Addr)} {env : Env} {σ : St} {s : Shared} {ρ : AEnv} {H : Heap} {Dd : Addr} {ds : List D}

theorem Ex.freeze {σ : St} {x : Str} {ss : List Stmt} {Q : St → Fl → Prop} (h : Ex g ℓ fi { σ with ω := σ.ω.filter (fun y => !(y == x)) } ss Q) : Ex g ℓ fi σ ss Q := by
  intro A X h₀ O env s hA F
  have hsub : ∀ b, b ∈ X ++ (O.filter (fun p => !(p.1 == x))).map (·.2) → b ∈ X ++ O.map (·.2) := by
    intro b hb
    rcases List.mem_append.mp hb with hb | hb
    · exact List.mem_append_left _ hb
    · obtain ⟨p, hp, rfl⟩ := List.mem_map.mp hb
      exact List.mem_append_right _ (List.mem_map.mpr ⟨p, (List.mem_filter.mp hp).1, rfl⟩)
  have F' : FrX g X h₀ (O.filter (fun p => !(p.1 == x))) fi env { σ with ω := σ.ω.filter (fun y => !(y == x)) } s := by
    refine ⟨F.inv, F.bin, F.eok, F.xok, F.keep, F.lnew, F.lns, F.cells, F.inj, F.cel, ?_, ?_, fun y a hp => ?_, fun y d hd hy => ?_⟩
    · show _ = σ.ω.filter _
      rw [← F.names, List.filter_map]; rfl
    · exact List.Nodup.sublist (List.Sublist.map _ List.filter_sublist) F.nodup
    · obtain ⟨hp1, _⟩ := List.mem_filter.mp hp
      obtain ⟨q1, q2, q3, vs, ds, q4, q5, q6, q7⟩ := F.own y a hp1
      exact ⟨q1, q2, q3, vs, ds, q4, q5, q6, q7.mono hsub⟩
    · by_cases hyo : y ∈ σ.ω
      · have hyx : y = x := by
          by_cases e : y = x
          · exact e
          · exact absurd (List.mem_filter.mpr ⟨hyo, by simpa using e⟩) hy
        subst hyx
        rw [← F.names] at hyo
        obtain ⟨⟨z, a⟩, hp, rfl⟩ := List.mem_map.mp hyo
        obtain ⟨q1, q2, q3, vs, ds, q4, q5, q6, q7⟩ := F.own z a hp
        have hd' : σ.ρ.lookup z = some d := hd
        rw [q4] at hd'; cases hd'
        refine ⟨_, q3, .list (fun w => ?_) q5 q6 (q7.mono hsub)⟩
        rcases List.mem_append.mp w with w | w
        · exact q2 w
        · obtain ⟨⟨z', a'⟩, hp', e⟩ := List.mem_map.mp w
          obtain ⟨hp1, hp2⟩ := List.mem_filter.mp hp'
          cases e
          have := mem_snd_inj F.nodup hp1 hp
          subst this
          simp at hp2
      · obtain ⟨v, q1, q2⟩ := F.rest y d hd hyo
        exact ⟨v, q1, q2.mono hsub⟩
  refine wpQ (h A X h₀ _ env s hA F') fun f s' ⟨σ', O', fl, a, b, b', c, d, e⟩ => ⟨σ', O', fl, a, ?_, b', ?_, d, e⟩
  · intro a o h1 h2 h3 e
    exact b a o h1 h2 (fun w => h3 (by
      obtain ⟨p, hp, rfl⟩ := List.mem_map.mp w
      exact List.mem_map.mpr ⟨p, (List.mem_filter.mp hp).1, rfl⟩)) e
  · intro p hp
    rcases c p hp with q | q
    · left
      obtain ⟨p', hp', e⟩ := List.mem_map.mp q
      exact List.mem_map.mpr ⟨p', (List.mem_filter.mp hp').1, e⟩
    · exact .inr q

theorem forLoop' {prog : Program} {w : World} {A : Around} {R : Result → Shared → Prop} {target : Expr} {it : Value} {body orelse : List Stmt} (I : Nat → Shared → Prop)
    (turn : ∀ n s, I n s → wpAny (model prog w) A (pyNext it) (fun r s₁ => match r with
      | none => wpAny (model prog w) A (execs orelse env) (fun f s₃ => R (.ok f) s₃) (notedBy (model prog w) A env fun e s' => R (.error e) s') s₁
      | some v => wpAny (model prog w) A (letOwnedTupleGo target it v) (fun _ s₁' => wpAny (model prog w) A (assign target env v) (fun _ s₂ => wpAny (model prog w) A (execs body env) (fun f s₃ => match f with
          | .next | .cont => ∃ m, m < n ∧ I m s₃
          | .brk => R (.ok .next) s₃
          | .ret v => R (.ok (.ret v)) s₃) (notedBy (model prog w) A env fun e s' => R (.error e) s') s₂) (notedBy (model prog w) A env fun e s' => R (.error e) s') s₁') (notedBy (model prog w) A env fun e s' => R (.error e) s') s₁) (notedBy (model prog w) A env fun e s' => R (.error e) s') s)
    (n : Nat) (h : I n s) : codeAny (model prog w) A (.forLoop target it body orelse env) R s := by
  refine codeAny_loop' rfl I (fun n s hI => ?_) n h
  show wpAny _ _ ((forTurn target it body orelse env).onRaise (fun x => do noteFrame x env; theTreesLotGoes x)) _ _ s
  refine wpAny_noted ?_
  simp only [forTurn]
  refine wpAny_bind (wpAny_standAt (wpAny_bind (wpAny_onRaise (wpAny_mono (turn n s hI) (fun r s₁ h₁ => ?_) fun _ _ h' => wpAny_standAt h'))))
  cases r with
  | none => exact wpAny_pure (.inr ⟨rfl, codeAny_block h₁⟩)
  | some v =>
    refine wpAny_bind (wpAny_mono h₁ (fun _ s₁' h₁' => ?_) fun _ _ h' => h')
    refine wpAny_bind (wpAny_mono h₁' (fun _ s₂ h₂ => wpAny_bind (wpAny_mono h₂ (fun f s₃ h₃ => ?_) fun _ _ h' => h')) fun _ _ h' => h')
    cases f with
    | next => exact wpAny_pure (.inl ⟨rfl, h₃⟩)
    | cont => exact wpAny_pure (.inl ⟨rfl, h₃⟩)
    | brk => exact wpAny_pure h₃
    | ret v => exact wpAny_pure h₃

def AsgOK (g : Gx) (ℓ : Nat) (fi : FI) (target : Expr) (σ : St) (d : D) (σ' : St) : Prop :=
  ∀ A X h₀ O env s v, AOk ℓ A → FrX g X h₀ O fi env σ s → Rep (X ++ O.map (·.2)) s.heap v d → wpAny g.M A (PySem.assign target env v) (fun _ s' => FrX g X h₀ O fi env σ' s' ∧ KeepX g fi env O s.heap s'.heap ∧ Alive s.heap s'.heap) NoE s
theorem AsgOK.name {x : Str} {px : Pos} {d : D} (ho : okStore fi σ x) : AsgOK g ℓ fi (.Name x px) σ d (σ.put x d) := fun A X h₀ O env s v hA F r => wpAny_assign_Name (F.store ho.1 ho.2 r fun s' F' k' al' => ⟨F', k'.up, al'⟩)

theorem letGo_ok {target : Expr} {I : Addr} {v : Value} {A : Around} {M : Model} {E : Value → Shared → Prop} {Q : Unit → Shared → Prop} (hio : ∃ o T, s.heap.get? I = some o ∧ o.cls = .type T ∧ (["enumerate", "zip", "dict_itemiterator", "dict_reverseitemiterator", "odict_iterator", "itertools.zip_longest", "itertools.pairwise"].contains T) = false) (hq : Q () s) : wpAny M A (letOwnedTupleGo target (.ref I) v) Q E s := by
  obtain ⟨o, T, e, c, hT⟩ := hio
  unfold letOwnedTupleGo
  have key : wpAny M A (do
      let (.ref r, .ref a) := (Value.ref I, v) | return
      let o ← load r
      match o.cls, o.data with
      | .type n, .fields vs =>
        if ["enumerate", "zip", "dict_itemiterator", "dict_reverseitemiterator", "odict_iterator", "itertools.zip_longest", "itertools.pairwise"].contains n && vs[0]? == some (rawInt a) then
          rule "for.unpacks-the-owned-tuple"
          updateField r 0 .none
      | _, _ => pure () : Sem Unit) Q E s := by
    cases v with
    | ref a =>
      refine wpAny_bind (wpAny_load e ?_)
      rw [c]
      cases o.data with
      | fields vs => simp only [hT, Bool.false_and, Bool.false_eq_true, if_false]; exact wpAny_pure hq
      | _ => exact wpAny_pure hq
    | _ => exact wpAny_pure hq
  cases target <;> first | exact wpAny_pure hq | exact key

theorem kin_restrict {Y Z : List Addr} {h : Heap} (q : ∀ b ∈ Z, b ∈ Y ∨ h.get? b = none) : Kin Y Z h h := fun b o e z => ⟨e, fun c m => by
  rcases q b m with w | w
  · exact z.nin c w
  · rw [w] at e; cases e⟩
theorem Rep.restrict {Y Z : List Addr} {h : Heap} (q : ∀ b ∈ Z, b ∈ Y ∨ h.get? b = Option.none) {v : Value} {d : D} (r : Rep Y h v d) : Rep Z h v d := r.map (kin_restrict q)
theorem Reps.restrict {Y Z : List Addr} {h : Heap} (q : ∀ b ∈ Z, b ∈ Y ∨ h.get? b = Option.none) {vs : List Value} {ds : List D} (r : Reps Y h vs ds) : Reps Z h vs ds := r.map (kin_restrict q)
theorem Rep.carry {X : List Addr} {O O' : List (Str × Addr)} {h : Heap} {v : Value} {d : D} (r : Rep (X ++ O.map (·.2)) h v d) (on : ∀ p ∈ O', p.2 ∈ O.map (·.2) ∨ h.get? p.2 = Option.none) : Rep ((X ++ O.map (·.2)) ++ O'.map (·.2)) h v d := r.restrict fun b hb => by
  rcases List.mem_append.mp hb with hb | hb
  · exact .inl hb
  · obtain ⟨p, hp, rfl⟩ := List.mem_map.mp hb
    exact (on p hp).imp (List.mem_append_right _) id
theorem Rep.drop {X Y Z : List Addr} {h : Heap} {v : Value} {d : D} (r : Rep ((X ++ Y) ++ Z) h v d) : Rep (X ++ Z) h v d := r.mono fun b hb => by
  rcases List.mem_append.mp hb with hb | hb
  · exact List.mem_append_left _ (List.mem_append_left _ hb)
  · exact List.mem_append_right _ hb
theorem KeepX.keepR (F : FrX g X h₀ O fi env σ s) {I : Addr} (iI : IterO s.heap I) {Y : List Addr} (hY : ∀ a ∈ O.map (·.2), a ∈ Y) {h' : Heap} (k : ∀ a o, a ∉ g.Tb → ¬ OwnA fi env a → a ∉ O.map (·.2) → a ≠ I → s.heap.get? a = some o → h'.get? a = some o) : KeepR Y s.heap h' := fun a o e q => by
  refine k a o (tab_noSeq F.inv.tabs e q) (own_noSeq F e q) (fun w => ?_) (fun z => by subst z; exact iI.noSeq e q) e
  obtain ⟨⟨y, b⟩, hp, e'⟩ := List.mem_map.mp w
  obtain ⟨_, _, _, vs, ds, _, ⟨o1, n1, e1, c1, dn, d1⟩, _⟩ := F.own y b hp
  cases e'
  rw [e] at e1; cases e1
  rcases q with ⟨xs, n, q, z⟩ | ⟨vs, q, _⟩
  · exact z c1 (hY _ w)
  · rw [d1] at q; cases q

theorem get_none {h : Heap} {a : Addr} (f : ∀ o, h.get? a = some o → False) : h.get? a = none := by
  cases e : h.get? a with
  | none => rfl
  | some o => exact (f o e).elim
theorem iter_facts (F : FrX g X h₀ O fi env σ s) {s₁ : Shared} {I : Addr} (i1 : Inv g s₁) (k1 : Keep g s.heap s₁.heap) (hIn : s₁.heap.get? I = none) (hI1 : I ∉ g.Tb) : s.heap.get? I = none ∧ h₀.get? I = none ∧ I ∉ X := by
  have hI0 : s.heap.get? I = none := get_none fun o e => by
    obtain ⟨o', e'⟩ := Alive.of_keep i1.tabs k1 _ _ e; rw [hIn] at e'; cases e'
  exact ⟨hI0, get_none (fun o e => by have := F.keep _ _ hI1 e; rw [hI0] at this; cases this), F.xok.fresh hI0⟩

def KeepN (g : Gx) (fi : FI) (env : Env) (O : List (Str × Addr)) (N : Addr → Prop) (h h' : Heap) : Prop := ∀ a o, a ∉ g.Tb → ¬ OwnA fi env a → a ∉ O.map (·.2) → N a → h.get? a = some o → h'.get? a = some o
inductive LpI (g : Gx) (X : List Addr) (h₀ : Heap) (O : List (Str × Addr)) (fi : FI) (env : Env) (N : Addr → Prop) (s₂ : Shared) (len : Nat) (J : Nat → St → Prop) (S : Nat → Heap → Prop) (n : Nat) (s' : Shared) : Prop where
  | mk (i : Nat) (σ' : St) (O' : List (Str × Addr)) (hi : i ≤ len) (hn : n = len + 1 - i) (F : FrX g X h₀ O' fi env σ' s') (hJ : J i σ') (st : S i s'.heap) (k : KeepN g fi env O N s₂.heap s'.heap) (al : Alive s₂.heap s'.heap) (on : ∀ p ∈ O', p.2 ∈ O.map (·.2) ∨ s₂.heap.get? p.2 = none)
theorem Ex1.loop {target iter : Expr} {body orelse : List Stmt} {pos : Pos} {dl : D} {items : List D} {Q : St → Fl → Prop} (J : Nat → St → Prop) (T : D → St → St) (h : Ev g ℓ fi σ.fz iter dl) (hit : iterD dl = some items) (h0 : J 0 σ)
    (hstep : ∀ i σ', J i σ' → ∀ d, items[i]? = some d → AsgOK g ℓ fi target σ' d (T d σ') ∧ Ex g ℓ fi (T d σ') body fun σ'' fl => match fl with
      | .next => J (i + 1) σ''
      | .cont => J (i + 1) σ''
      | .brk => Q σ'' .next
      | .ret d => Q σ'' (.ret d))
    (hend : ∀ σ', J items.length σ' → Ex g ℓ fi σ' orelse Q) (hs : ∀ env x, foldedSetIterable iter env x = pure x := by intro _ _; rfl) : Ex1 g ℓ fi σ (.For target iter body orelse pos) Q := by
  intro A X h₀ O env s hA F
  refine wpAny_For ?_ (hs env)
  refine wpQ (h A _ env s hA F.inv F.eok F.xok' F.strict) fun v s₁ ⟨i1, k1, r1⟩ => ?_
  have F₁ := F.step i1 k1
  refine pyIter_go hA.handled i1 r1 hit fun s₂ I ax i2 k2 hIn hIe hax W => ?_
  have F₂ := F₁.step i2 (Keep.of k2)
  have k12 : Keep g s.heap s₂.heap := k1.trans (Keep.of k2)
  obtain ⟨P, St, W, st0, hio, hP⟩ := W
  have iI : IterO s₂.heap I := hio 0 _ st0
  have hI1 : I ∉ g.Tb := iI.noTab i2.tabs
  have hI2 : ¬ OwnA fi env I := own_noIter F₂ iI
  obtain ⟨hI0, hIh, hIX⟩ := iter_facts F i1 k1 hIn hI1
  have axF : ∀ a ∈ ax, (∃ o, s₂.heap.get? a = some o) ∧ a ∉ g.Tb ∧ ¬ OwnA fi env a ∧ a ∉ O.map (·.2) ∧ a ≠ I := by
    intro a ha
    obtain ⟨rfl, xs, hls⟩ := hax a ha
    have ex : ∃ o n, s₁.heap.get? a = some o ∧ o.data = .seq xs n ∧ (o.cls = .type "list" ∨ o.cls = .type "tuple") := by
      rcases hls with ⟨o, e, c, n, d⟩ | ⟨o, e, c, n, d⟩
      · exact ⟨o, n, e, d, .inl c⟩
      · exact ⟨o, n, e, d, .inr c⟩
    obtain ⟨o, n, e, dd, cc⟩ := ex
    have q : SeqO [] a o := .inl ⟨_, _, dd, fun _ h => nomatch h⟩
    refine ⟨⟨o, k2 _ _ e⟩, tab_noSeq i1.tabs e q, own_noSeq F₁ e q, fun w => ?_, fun z => by rw [z, hIn] at e; cases e⟩
    cases r1 with
    | list na _ _ _ => exact na (List.mem_append_right _ w)
    | tup hl _ =>
      obtain ⟨⟨y, b⟩, hp, e'⟩ := List.mem_map.mp w
      obtain ⟨_, _, _, vs, ds, _, ⟨o1, n1, e1, c1, _⟩, _⟩ := F₁.own y b hp
      obtain ⟨o2, e2, c2, _⟩ := hl
      cases e'
      rw [e1] at e2; cases e2; rw [c1] at c2; simp at c2
    | rng hr _ =>
      obtain ⟨⟨y, b⟩, hp, e'⟩ := List.mem_map.mp w
      obtain ⟨_, _, _, vs, ds, _, ⟨o1, n1, e1, c1, _⟩, _⟩ := F₁.own y b hp
      cases e'
      rw [hr] at e1; cases e1; simp at c1
    | opq => cases hit
  have IO : I ∉ O.map (·.2) := fun w => by obtain ⟨o, e⟩ := O_alive F w; rw [hI0] at e; cases e
  refine codeAny_mono (R := fun r s' => match r with | .ok f => ExP g X h₀ O fi env s Q f s' | .error _ => False) ?_ (fun r s' hr => by cases r with | ok f => exact hr | error e => exact hr.elim)
  refine forLoop' (LpI g X h₀ O fi env (· ≠ I) s₂ items.length J St) ?_ (items.length + 1)
    ⟨0, σ, O, Nat.zero_le _, rfl, F₂, h0, st0, (fun _ _ _ _ _ _ e => e), .refl _, Onew.refl⟩
  rintro n s' ⟨i, σ', O', hi, rfl, F', hJ, st', K', AL', ON'⟩
  have iI' : IterO s'.heap I := hio i _ st'
  have nO' : ∀ a, (∃ o, s₂.heap.get? a = some o) → a ∉ O.map (·.2) → a ∉ O'.map (·.2) := fun a ⟨o, e⟩ hno w => by
    obtain ⟨p, hp, rfl⟩ := List.mem_map.mp w
    rcases ON' p hp with q | q
    · exact hno q
    · rw [e] at q; cases q
  have k0 := Alive.of_keep i2.tabs k12
  by_cases hlt : i < items.length
  · refine W.item i _ _ _ hlt st' fun v h₁ tk₁ hPv st₁ kk₁ => ?_
    have kk₁' : ∀ b o, b ≠ I → s'.heap.get? b = some o → h₁.get? b = some o := fun b o hb e => kk₁ b o (by simpa using hb) e
    have F₃ := F'.poke (tk := tk₁) iI' hIh hIX kk₁'
    obtain ⟨d, hd, hr⟩ := hP i v hlt hPv
    have hr3 : Rep (X ++ O'.map (·.2)) h₁ v d := (((hr.carry ON').keepR (KeepX.keepR F₂ iI (fun a ha => List.mem_append_left _ (List.mem_append_right _ ha)) K')).keepR fun b o e q => kk₁' b o (fun z => iI'.noSeq (z ▸ e) (z ▸ q)) e).drop
    obtain ⟨hasg, hbody⟩ := hstep i σ' hJ d hd
    refine letGo_ok (by obtain ⟨o, T, vs, e, c, _, _, _, q⟩ := hio _ _ st₁; exact ⟨o, T, e, c, q⟩) ?_
    refine wpQ (hasg A X h₀ O' env _ v hA F₃ hr3) fun _ s₄ ⟨F₄, k4, al4⟩ => ?_
    have st4 : ∀ {h'' : Heap}, KeepX g fi env O' h₁ h'' → St (i + 1) h'' := fun {h''} kk => W.frame _ _ _ st₁ fun b hb o e => by
      rcases List.mem_cons.mp hb with rfl | hb
      · exact kk _ o hI1 hI2 (nO' _ (let ⟨o, T, vs, e, _⟩ := iI; ⟨o, e⟩) IO) e
      · obtain ⟨a1, a2, a3, a4, a5⟩ := axF b hb
        exact kk b o a2 a3 (nO' _ a1 a4) e
    have K4 : ∀ {h'' : Heap}, KeepX g fi env O' h₁ h'' → ∀ a o, a ∉ g.Tb → ¬ OwnA fi env a → a ∉ O.map (·.2) → a ≠ I → s₂.heap.get? a = some o → h''.get? a = some o := fun {h''} kk a o h1 h2 h3 z e =>
      kk a o h1 h2 (nO' _ ⟨o, e⟩ h3) (kk₁' a o z (K' a o h1 h2 h3 z e))
    have alI : Alive s'.heap h₁ := fun a o e => by
      by_cases z : a = I
      · obtain ⟨oI, TI, vI, eI, _⟩ := hio _ _ st₁; exact ⟨oI, z ▸ eI⟩
      · exact ⟨o, kk₁' a o z e⟩
    have toK : ∀ {h'' : Heap}, KeepN g fi env O (· ≠ I) s₂.heap h'' → KeepX g fi env O s.heap h'' := fun {h''} kk a o h1 h2 h3 e =>
      kk a o h1 h2 h3 (fun z => by rw [z, hI0] at e; cases e) (k12 a o h1 e)
    refine wpQ (hbody A X h₀ O' env s₄ hA F₄) ?_
    rintro f s₅ ⟨σ₅, O₅, fl, F₅, k5, al5, on5, hf, hQ⟩
    have kk5 : KeepX g fi env O' h₁ s₅.heap := k4.trans k5 Onew.refl
    have AL5 : Alive s₂.heap s₅.heap := AL'.trans (alI.trans (al4.trans al5))
    have ON5 := on_trans (AL'.trans (alI.trans al4)) ON' on5
    exact flow_go (J := J (i + 1) σ₅) (Q := Q σ₅) (fun hJ5 => ⟨items.length + 1 - (i + 1), by lia, i + 1, σ₅, O₅, hlt, rfl, F₅, hJ5, st4 kk5, K4 kk5, AL5, ON5⟩) (R := fun f' => ExP g X h₀ O fi env s Q f' s₅) (fun f' fl' hf' hq' => ⟨σ₅, O₅, fl', F₅, toK (K4 kk5), k0.trans AL5, on_trans k0 Onew.refl ON5, hf', hq'⟩) hQ hf
  · have hin : i = items.length := by lia
    subst hin
    refine W.done _ _ _ st' fun h₁ tk₁ kk₁ => ?_
    have kk₁' : ∀ b o, b ≠ I → s'.heap.get? b = some o → h₁.get? b = some o := fun b o hb e => kk₁ b o (by simpa using hb) e
    have F₃ := F'.poke (tk := tk₁) iI' hIh hIX kk₁'
    refine wpQ (hend σ' hJ A X h₀ O' env _ hA F₃) ?_
    rintro f s₅ ⟨σ₅, O₅, fl, F₅, k5, al5, on5, hf, hQ⟩
    have al1 : Alive s.heap h₁ := fun a o e => let ⟨o', e'⟩ := (k0.trans AL') a o e; ⟨o', kk₁' a o' (fun z => by rw [z, hI0] at e; cases e) e'⟩
    refine ⟨σ₅, O₅, fl, F₅, fun a o h1 h2 h3 e => ?_, al1.trans al5, on_trans al1 (on_trans k0 Onew.refl ON') on5, hf, hQ⟩
    have e2 := k12 a o h1 e
    have z : a ≠ I := fun z => by rw [z, hI0] at e; cases e
    exact k5 a o h1 h2 (nO' _ ⟨o, e2⟩ h3) (kk₁' a o z (K' a o h1 h2 h3 z e2))
inductive NextP (P : St → Prop) (σ : St) : Fl → Prop
  | mk (h : P σ) : NextP P σ .next
theorem Ex1.loopN {target iter : Expr} {body : List Stmt} {pos : Pos} {dl : D} {items : List D} {Q : St → Fl → Prop} (J : Nat → St → Prop) (T : D → St → St) (h : Ev g ℓ fi σ.fz iter dl) (hit : iterD dl = some items) (h0 : J 0 σ)
    (hstep : ∀ i σ', J i σ' → ∀ d, items[i]? = some d → AsgOK g ℓ fi target σ' d (T d σ') ∧ Ex g ℓ fi (T d σ') body (NextP (J (i + 1))))
    (hend : ∀ σ', J items.length σ' → Q σ' .next) (hs : ∀ env x, foldedSetIterable iter env x = pure x := by intro _ _; rfl) : Ex1 g ℓ fi σ (.For target iter body [] pos) Q :=
  Ex1.loop J T h hit h0 (fun i σ' hJ d hd => ⟨(hstep i σ' hJ d hd).1, fun A X h₀ O env s hA F => wpQ ((hstep i σ' hJ d hd).2 A X h₀ O env s hA F) fun f s' ⟨σ'', O', fl, a, b, c, d, e, q⟩ => by
    obtain ⟨q⟩ := q
    exact ⟨σ'', O', .next, a, b, c, d, e, q⟩⟩) (fun σ' hJ => Ex.nil (hend σ' hJ)) hs
end Mine


/- WP -/
namespace Mine
variable {g : Gx} {ℓ : Nat} {fi : FI} {X : List Addr} {h₀ : Heap} {O : List (Str × Addr)} {env : Env} {σ : St} {s : Shared} {ρ : AEnv} {H : Heap} {Dd : Addr} {ds : List D}

theorem draw_go {A : Around} {I : Addr} {ax : List Addr} {n : Nat} {P : Nat → Value → Prop} {St : Nat → Heap → Prop} {E : Value → Shared → Prop} (W : Walks g.prog g.w A I (I :: ax) [I] n P St) : ∀ (k i : Nat) (s : Shared) (Q : List Value → Shared → Prop), St i s.heap → i + k ≤ n →
    (∀ vs h' tk, vs.length = k → (∀ j v, vs[j]? = some v → P (i + j) v) → St (i + k) h' → (∀ b o, b ≠ I → s.heap.get? b = some o → h'.get? b = some o) → Q vs { s with heap := h', toks := tk }) → wpAny g.M A (draw (.ref I) k) Q E s
  | 0, i, s, Q, st, _, hQ => by
    unfold draw
    exact wpAny_pure (hQ [] s.heap s.toks rfl (fun j v h => by simp at h) st fun _ _ _ e => e)
  | k + 1, i, s, Q, st, hk, hQ => by
    unfold draw
    refine wpAny_bind (W.item i _ _ _ (by lia) st fun v h₁ tk₁ hP st₁ k₁ => ?_)
    refine wpAny_bind (wpAny_holding (draw_go W k (i + 1) _ _ st₁ (by lia) fun vs h₂ tk₂ hl hPs st₂ k₂ => wpAny_pure ?_))
    refine hQ (v :: vs) h₂ tk₂ (by simp [hl]) (fun j w hw => ?_) (by rw [show i + (k + 1) = i + 1 + k by lia]; exact st₂) fun b o hb e => k₂ b o hb (k₁ b o (by simpa using hb) e)
    cases j with
    | zero => simp at hw; subst hw; exact hP
    | succ j => simp at hw; rw [show i + (j + 1) = i + 1 + j by lia]; exact hPs j w hw

theorem unpackItems_go {A : Around} (hA : A.handled = none) (i : Inv g s) {v : Value} {d : D} {items : List D} (r : Rep X s.heap v d) (hd : d = .list items ∨ d = .tup items) {E : Value → Shared → Prop} {Q : List Value → Shared → Prop}
    (hQ : ∀ vs s', Inv g s' → (∀ b o, s.heap.get? b = some o → s'.heap.get? b = some o) → Reps X s'.heap vs items → Q vs s') : wpAny g.M A (unpackItems v items.length none) Q E s := by
  have hit : iterD d = some items := by rcases hd with rfl | rfl <;> rfl
  unfold unpackItems
  refine wpAny_bind ?_
  have hni : ∀ {Q' : Bool → Shared → Prop}, Q' false s → wpAny g.M A (notIterableAtAll v) Q' E s := by
    intro Q' hq
    unfold notIterableAtAll
    cases r with
    | list _ hl _ _ => exact wpAny_bind (wpAny_specialOf hl.isList.typeIs PySem.F.slot_list_iter.lookup (wpAny_pure hq))
    | tup hl _ => exact wpAny_bind (wpAny_specialOf hl.typeIs PySem.F.slot_tuple_iter.lookup (wpAny_pure hq))
    | none => rcases hd with h | h <;> cases h
    | bool => rcases hd with h | h <;> cases h
    | int => rcases hd with h | h <;> cases h
    | str => rcases hd with h | h <;> cases h
    | bytes => rcases hd with h | h <;> cases h
    | rng => rcases hd with h | h <;> cases h
    | opq => rcases hd with h | h <;> cases h
  refine hni ?_
  simp only [Bool.false_eq_true, if_false]
  refine wpAny_bind (wpAny_holding (pyIter_go hA i r hit fun s₂ I ax i2 k2 hIn hIe hax W => ?_))
  obtain ⟨P, St, W, st0, hio, hP⟩ := W
  refine wpAny_bind (wpAny_holding (draw_go W items.length 0 _ _ st0 (by lia) fun vs h₁ tk₁ hl hPs st₁ k₁ => ?_))
  rw [if_neg (by lia)]
  rw [Nat.zero_add] at st₁
  refine wpAny_bind (wpAny_holding (W.done _ _ _ st₁ fun h₂ tk₂ k₂ => ?_))
  simp only [Option.isSome_none, Bool.false_eq_true, if_false]
  have kk : ∀ b o, b ≠ I → s₂.heap.get? b = some o → h₂.get? b = some o := fun b o hb e => k₂ b o (by simpa using hb) (k₁ b o hb e)
  have kk0 : ∀ b o, s.heap.get? b = some o → h₂.get? b = some o := fun b o e => kk b o (fun z => by rw [z, hIn] at e; cases e) (k2 b o e)
  refine wpAny_pure (hQ vs _ (i.of_keeps (tk := tk₂) kk0 |> fun q => by
    obtain ⟨h, t, e⟩ := i2.same
    obtain ⟨h', t', e'⟩ := i.same
    have : ({ s₂ with heap := h₂, toks := tk₂ } : Shared) = { s with heap := h₂, toks := tk₂ } := by rw [e, e']
    rw [this]; exact q) kk0 ?_)
  have iI : IterO s₂.heap I := hio 0 _ st0
  have key : ∀ (us : List Value) (es : List D) (off : Nat), us.length = es.length → (∀ (j : Nat) (w : Value), us[j]? = some w → ∃ d, es[j]? = some d ∧ Rep X s₂.heap w d) → Reps X h₂ us es := by
    intro us
    induction us with
    | nil => intro es off hl' _; cases es with | nil => exact .nil | cons => simp at hl'
    | cons u us ih =>
      intro es off hl' hh
      cases es with
      | nil => simp at hl'
      | cons e es =>
        obtain ⟨d', h1, h2⟩ := hh 0 u (by simp)
        simp at h1; subst h1
        exact .cons (h2.keepR fun b o e' q => kk b o (fun z => by subst z; exact iI.noSeq e' q) e') (ih es off (by simpa using hl') fun j w hw => by simpa using hh (j + 1) w (by simpa using hw))
  exact key vs items 0 hl fun j w hw => hP j w (by rw [← hl]; exact (List.getElem?_eq_some_iff.mp hw).1) (by simpa using hPs j w hw)

def putAll : St → List Str → List D → St
  | σ, x :: xs, d :: ds => putAll (σ.put x d) xs ds
  | σ, _, _ => σ

theorem inOrder_go {A : Around} {E : Value → Shared → Prop} : ∀ (ts : List Expr) (xs : List Str) (vs : List Value) (ds : List D) (σ : St) (s : Shared) (Q : Unit → Shared → Prop), (ts.map fun t => match t with | .Name x _ => some x | _ => Option.none) = xs.map some → xs.length = ds.length → (∀ x ∈ xs, okStore fi σ x) →
    FrX g X h₀ O fi env σ s → Reps (X ++ O.map (·.2)) s.heap vs ds → (∀ s', FrX g X h₀ O fi env (putAll σ xs ds) s' → KeepX g fi env [] s.heap s'.heap → Alive s.heap s'.heap → Q () s') → wpAny g.M A (assignInOrder ((assignEach ts env).map (·.2)) vs) Q E s
  | [], xs, vs, ds, σ, s, Q, hx, hl, ho, F, r, hQ => by
    cases xs with
    | cons => simp at hx
    | nil =>
      cases ds with
      | cons => simp at hl
      | nil => cases r; exact wpAny_pure (hQ s F (.refl _) (.refl _))
  | t :: ts, xs, vs, ds, σ, s, Q, hx, hl, ho, F, r, hQ => by
    cases xs with
    | nil => simp at hx
    | cons x xs =>
      simp only [List.map_cons, List.cons.injEq] at hx
      obtain ⟨h1, h2⟩ := hx
      cases ds with
      | nil => simp at hl
      | cons d ds =>
        cases r with
        | cons r1 r2 =>
          rename_i v vs
          cases t with
          | Name y py =>
            simp only [Option.some.injEq] at h1
            subst h1
            show wpAny _ _ (do holding vs (PySem.assign (.Name y py) env v); assignInOrder ((assignEach ts env).map (·.2)) vs) _ _ _
            refine wpAny_bind (wpAny_holding (wpAny_assign_Name (F.store (ho y (.head _)).1 (ho y (.head _)).2 r1 fun s₁ F₁ k₁ al₁ => ?_)))
            have kr : KeepR (X ++ O.map (·.2)) s.heap s₁.heap := fun b o e q => k₁ b o (tab_noSeq F.inv.tabs e q) (own_noSeq F e q) (fun h => nomatch h) e
            exact inOrder_go ts xs vs ds (σ.put y d) s₁ Q h2 (by simpa using hl) (fun z hz => ho z (.tail _ hz)) F₁ (r2.keepR kr) fun s' F' k' al' => hQ s' F' (k₁.trans k' (fun _ h => nomatch h)) (al₁.trans al')
          | _ => simp at h1

theorem assignEach_len : ∀ (ts : List Expr) (env : Env), (ts.all fun t => match t with | .Name .. => true | _ => false) = true → (assignEach ts env).length = ts.length ∧ (assignEach ts env).findIdx? (·.1) = none
  | [], env, _ => ⟨rfl, rfl⟩
  | t :: ts, env, h => by
    simp only [List.all_cons, Bool.and_eq_true] at h
    obtain ⟨h1, h2⟩ := h
    obtain ⟨a, b⟩ := assignEach_len ts env h2
    cases t with
    | Name y py =>
      refine ⟨by show (assignEach ts env).length + 1 = _; rw [a]; rfl, ?_⟩
      show List.findIdx? (·.1) ((false, PySem.assign (.Name y py) env) :: assignEach ts env) = none
      rw [List.findIdx?_cons]; simp [b]
    | _ => simp at h1

theorem AsgOK.tup {ts : List Expr} {k : Nat} {pos : Pos} {xs : List Str} {d : D} {ds : List D} (hx : (ts.map fun t => match t with | .Name x _ => some x | _ => Option.none) = xs.map some) (hl : xs.length = ds.length) (ho : ∀ x ∈ xs, okStore fi σ x) (hd : d = .list ds ∨ d = .tup ds) :
    AsgOK g ℓ fi (.Tuple ts k pos) σ d (putAll σ xs ds) := by
  intro A X h₀ O env s v hA F r
  have hts : (ts.all fun t => match t with | .Name .. => true | _ => false) = true := by
    clear hl ho
    induction ts generalizing xs with
    | nil => rfl
    | cons t ts ih =>
      cases xs with
      | nil => simp at hx
      | cons x xs =>
        simp only [List.map_cons, List.cons.injEq] at hx
        rw [List.all_cons, ih hx.2, Bool.and_true]
        cases t <;> simp at hx ⊢
  obtain ⟨e1, e2⟩ := assignEach_len ts env hts
  rw [arm_assign_Tuple]
  refine wpAny_bind (wpAny_standAt ?_)
  unfold unpack
  have e3 : ts.length = ds.length := by rw [← hl]; have := congrArg List.length hx; simpa using this
  rw [e1, e2, e3]
  refine wpAny_bind (wpAny_holding (unpackItems_go hA.handled F.inv r hd fun vs s₁ i1 k1 r1 => ?_))
  have F₁ := F.step i1 (Keep.of k1)
  exact inOrder_go ts xs vs ds σ s₁ _ hx hl ho F₁ r1 fun s' F' k' al' => ⟨F', (KeepX.of_keep (Keep.of k1)).trans k'.up Onew.refl, (Alive.of_keep i1.tabs (Keep.of k1)).trans al'⟩
end Mine


/- WQ -/
namespace Mine
variable {g : Gx} {ℓ : Nat} {fi : FI} {X : List Addr} {h₀ : Heap} {O : List (Str × Addr)} {env : Env} {σ : St} {s : Shared} {ρ : AEnv} {H : Heap} {Dd : Addr} {ds : List D}

theorem nodup_rev {α : Type} {l : List α} (h : l.Nodup) : l.reverse.Nodup := List.pairwise_reverse.mpr (h.imp fun q => Ne.symm q)

theorem zip_reverse' {α β : Type} : ∀ (xs : List α) (ds : List β), xs.length = ds.length → (xs.zip ds).reverse = xs.reverse.zip ds.reverse
  | [], [], _ => rfl
  | x :: xs, d :: ds, h => by
    have hl : xs.length = ds.length := by simpa using h
    rw [List.zip_cons_cons, List.reverse_cons, List.reverse_cons, List.reverse_cons, List.zip_append (by simp [hl]), zip_reverse' xs ds hl]
    rfl

def swapR (fi : FI) (ts vs : List Expr) : Sem (Option (List Str)) := do
  if !(ts.length == 2 || ts.length == 3) || vs.length != ts.length then return none
  if vs.any fun | .Starred .. => true | _ => false then return none
  let line := (ts.head?.map (·.pos.line)).getD 0
  let names := ts.filterMap fun
    | .Name id pos => if fi.sc.names.lookup id == some .local && pos.line == line then some id else none
    | _ => none
  if names.length != ts.length || names.eraseDups.length != names.length then return none
  if vs.all (foldedForSure 8) then return none
  if vs.all (constantsAlone 8) then unsupported "assign.tuple-of-constant-expressions:order-of-the-stores"
  return some names

theorem swapped_eq (hE : EnvOK fi env) (ts vs : List Expr) (k k' : Nat) (p p' : Pos) : swappedStores [.Tuple ts k p] (.Tuple vs k' p') env = swapR fi ts vs := by
  unfold swappedStores swapR
  have hb : env.blockKind = .function := by unfold Env.blockKind; rw [hE.kind]; rfl
  simp only [hb, hE.kinds, bne_self_eq_false, Bool.or_false]
  rfl

theorem FrX.congr {ρ' : AEnv} (F : FrX g X h₀ O fi env σ s) (h : ∀ y, ρ'.lookup y = σ.ρ.lookup y) : FrX g X h₀ O fi env { σ with ρ := ρ' } s :=
  ⟨F.inv, F.bin, F.eok, F.xok, F.keep, F.lnew, F.lns, F.cells, F.inj, F.cel, F.names, F.nodup, (fun x a hp => by
    obtain ⟨q1, q2, q3, vs, ds, q4, q5⟩ := F.own x a hp
    exact ⟨q1, q2, q3, vs, ds, (h x).trans q4, q5⟩), fun x d hd hx => F.rest x d ((h x).symm.trans hd) hx⟩

theorem putAll_ω : ∀ (xs : List Str) (ds : List D) (σ : St), (putAll σ xs ds).ω = σ.ω
  | [], _, _ => rfl
  | _ :: _, [], _ => rfl
  | x :: xs, d :: ds, σ => putAll_ω xs ds (σ.put x d)
theorem putAll_lookup : ∀ (xs : List Str) (ds : List D) (σ : St) (y : Str), xs.length = ds.length → (putAll σ xs ds).ρ.lookup y = ((xs.zip ds).reverse.lookup y).or (σ.ρ.lookup y)
  | [], [], σ, y, _ => by simp [putAll]
  | x :: xs, d :: ds, σ, y, h => by
    show (putAll (σ.put x d) xs ds).ρ.lookup y = _
    rw [putAll_lookup xs ds _ y (by simpa using h), List.zip_cons_cons, List.reverse_cons, lookup_append]
    show _ = (((xs.zip ds).reverse.lookup y).or _).or _
    rw [Option.or_assoc]
    congr 1
    show (put σ.ρ x d).lookup y = _
    rw [lookup_put]
    simp only [List.lookup]
    cases y == x <;> simp
theorem zip_rev_lookup (xs : List Str) (ds : List D) (y : Str) (nd : xs.Nodup) (hl : xs.length = ds.length) : (xs.zip ds).reverse.lookup y = (xs.zip ds).lookup y := by
  have hm : ((xs.zip ds).map (·.1)) = xs := by rw [List.map_fst_zip (by lia)]
  cases e : (xs.zip ds).lookup y with
  | some d =>
    refine lookup_mem_nodup ?_ (List.mem_reverse.mpr (mem_of_lookup e))
    rw [List.map_reverse, hm]; exact nodup_rev nd
  | none =>
    cases e' : (xs.zip ds).reverse.lookup y with
    | none => rfl
    | some d =>
      have := lookup_mem_nodup (by rw [hm]; exact nd) (List.mem_reverse.mp (mem_of_lookup e'))
      rw [e] at this; cases this

theorem bindOrder_go {A : Around} {E : Value → Shared → Prop} : ∀ (xs : List Str) (vs : List Value) (ds : List D) (σ : St) (s : Shared) (Q : Unit → Shared → Prop), xs.length = ds.length → (∀ x ∈ xs, okStore fi σ x) →
    FrX g X h₀ O fi env σ s → Reps (X ++ O.map (·.2)) s.heap vs ds → (∀ s', FrX g X h₀ O fi env (putAll σ xs ds) s' → KeepX g fi env [] s.heap s'.heap → Alive s.heap s'.heap → Q () s') → wpAny g.M A (assignInOrder (xs.map fun n => bindName env n) vs) Q E s
  | [], vs, ds, σ, s, Q, hl, ho, F, r, hQ => by
    cases ds with
    | cons => simp at hl
    | nil => cases r; exact wpAny_pure (hQ s F (.refl _) (.refl _))
  | x :: xs, vs, ds, σ, s, Q, hl, ho, F, r, hQ => by
    cases ds with
    | nil => simp at hl
    | cons d ds =>
      cases r with
      | cons r1 r2 =>
        rename_i v vs
        show wpAny _ _ (do holding vs (bindName env x v); assignInOrder (xs.map fun n => bindName env n) vs) _ _ _
        refine wpAny_bind (wpAny_holding (wpAny_bindName (F.store (ho x (.head _)).1 (ho x (.head _)).2 r1 fun s₁ F₁ k₁ al₁ => ?_)))
        have kr : KeepR (X ++ O.map (·.2)) s.heap s₁.heap := fun b o e q => k₁ b o (tab_noSeq F.inv.tabs e q) (own_noSeq F e q) (fun h => nomatch h) e
        exact bindOrder_go xs vs ds (σ.put x d) s₁ Q (by simpa using hl) (fun z hz => ho z (.tail _ hz)) F₁ (r2.keepR kr) fun s' F' k' al' => hQ s' F' (k₁.trans k' (fun _ h => nomatch h)) (al₁.trans al')

theorem Reps.rev {X : List Addr} {h : Heap} : ∀ {vs : List Value} {ds : List D}, Reps X h vs ds → Reps X h vs.reverse ds.reverse
  | _, _, .nil => .nil
  | _, _, .cons a b => by rw [List.reverse_cons, List.reverse_cons]; exact (Reps.rev b).append (.cons a .nil)

theorem stores_tup {ts vs : List Expr} {k k' : Nat} {tpos vpos : Pos} {xs : List Str} {ds : List D} {A : Around} {v : Value} (hA : AOk ℓ A) (F₁ : FrX g X h₀ O fi env σ s) (r₁ : Rep (X ++ O.map (·.2)) s.heap v (.tup ds)) (hx : (ts.map fun t => match t with | .Name x _ => some x | _ => Option.none) = xs.map some) (hl : xs.length = ds.length) (ho : ∀ x ∈ xs, okStore fi σ x)
    (nd : xs.Nodup) (hst : swapR fi ts vs = pure none ∨ swapR fi ts vs = pure (some xs)) :
    wpAny g.M A (do assignStores env v (← swappedStores [.Tuple ts k tpos] (.Tuple vs k' vpos) env) ((assignEach [.Tuple ts k tpos] env).map (·.2))) (fun f s' => f = .next ∧ FrX g X h₀ O fi env (putAll σ xs ds) s' ∧ KeepX g fi env O s.heap s'.heap ∧ Alive s.heap s'.heap) NoE s := by
  rcases hst with hst | hst
  · refine wpAny_bind (wpAny_of_eq ((swapped_eq F₁.eok ts vs k k' tpos vpos).trans hst) ?_)
    show wpAny _ _ (do PySem.assign (.Tuple ts k tpos) env v; pure Flow.next) _ _ _
    refine wpAny_bind (wpQ (AsgOK.tup hx hl ho (.inr rfl) A X h₀ O env s v hA F₁ r₁) fun _ s₂ ⟨F₂, k2, al2⟩ => wpAny_pure ?_)
    exact ⟨rfl, F₂, k2, al2⟩
  refine wpAny_bind (wpAny_of_eq ((swapped_eq F₁.eok ts vs k k' tpos vpos).trans hst) ?_)
  show wpAny _ _ (do
    rule "assign.swapped-stores"
    let items ← unpackItems v xs.length none
    assignInOrder (xs.reverse.map fun n => bindName env n) items.reverse
    pure Flow.next) _ _ _
  refine wpAny_bind (wpAny_rule (wpAny_bind ?_))
  rw [hl]
  refine unpackItems_go hA.handled F₁.inv r₁ (.inr rfl) fun us s₂ i2 k2 r2 => ?_
  have F₂ := F₁.step i2 (Keep.of k2)
  refine wpAny_bind (bindOrder_go xs.reverse us.reverse ds.reverse σ s₂ _ (by simpa using hl) (fun x hx => ho x (List.mem_reverse.mp hx)) F₂ r2.rev fun s' F' k' al' => wpAny_pure ?_)
  have F'' : FrX g X h₀ O fi env (putAll σ xs ds) s' := by
    have := F'.congr (ρ' := (putAll σ xs ds).ρ) (fun y => by
      rw [putAll_lookup _ _ _ _ hl, putAll_lookup _ _ _ _ (by simpa using hl), zip_rev_lookup _ _ _ nd hl, zip_rev_lookup _ _ _ (nodup_rev nd) (by simpa using hl)]
      congr 1
      rw [← zip_reverse' _ _ hl]
      exact (zip_rev_lookup _ _ _ nd hl).symm)
    rwa [show ({ putAll σ xs.reverse ds.reverse with ρ := (putAll σ xs ds).ρ } : St) = putAll σ xs ds by
      have e1 := putAll_ω xs ds σ
      have e2 := putAll_ω xs.reverse ds.reverse σ
      cases h1 : putAll σ xs ds
      rw [h1] at e1
      simp only [e2, ← e1]] at this
  exact ⟨rfl, F'', (KeepX.of_keep (Keep.of k2)).trans k'.up Onew.refl, (Alive.of_keep i2.tabs (Keep.of k2)).trans al'⟩

theorem Ex1.unpackT {ts vs : List Expr} {k k' : Nat} {tpos vpos pos : Pos} {xs : List Str} {ds : List D} {Q : St → Fl → Prop} (h : EvS g ℓ fi σ (.Tuple vs k' vpos) (.tup ds)) (hx : (ts.map fun t => match t with | .Name x _ => some x | _ => Option.none) = xs.map some) (hl : xs.length = ds.length) (ho : ∀ x ∈ xs, okStore fi σ x) (hq : Q (putAll σ xs ds) .next)
    (nd : xs.Nodup) (hst : swapR fi ts vs = pure none ∨ swapR fi ts vs = pure (some xs)) : Ex1 g ℓ fi σ (.Assign [.Tuple ts k tpos] (.Tuple vs k' vpos) pos) Q := by
  intro A X h₀ O env s hA F
  rw [arm_exec_Assign]
  refine wpAny_bind (wpAny_standAt (wpAny_bind (wpAny_of_eq (a := false) rfl ?_)))
  simp only [Bool.false_eq_true, if_false]
  refine wpAny_bind (wpQ (h.run hA F) fun v s₁ ⟨F₁, k₁, r₁⟩ => ?_)
  refine wpQ (stores_tup hA F₁ r₁ hx hl ho nd hst) fun f s₂ ⟨e, F₂, k2, al2⟩ => ?_
  rw [e]
  exact ⟨_, O, .next, F₂, (KeepX.of_keep k₁).trans k2 Onew.refl, (Alive.of_keep F₁.inv.tabs k₁).trans al2, Onew.refl, trivial, hq⟩
end Mine


/- WR -/
namespace Mine
variable {g : Gx} {ℓ : Nat} {fi : FI} {X : List Addr} {h₀ : Heap} {O : List (Str × Addr)} {env : Env} {σ : St} {s : Shared} {ρ : AEnv} {H : Heap} {Dd : Addr} {ds : List D}

theorem zip_rev_lookup' {α : Type} (xs : List Str) (ds : List α) (y : Str) (nd : xs.Nodup) (hl : xs.length = ds.length) : (xs.zip ds).reverse.lookup y = (xs.zip ds).lookup y := by
  have hm : ((xs.zip ds).map (·.1)) = xs := by rw [List.map_fst_zip (by lia)]
  cases e : (xs.zip ds).lookup y with
  | some d =>
    refine lookup_mem_nodup ?_ (List.mem_reverse.mpr (mem_of_lookup e))
    rw [List.map_reverse, hm]; exact nodup_rev nd
  | none =>
    cases e' : (xs.zip ds).reverse.lookup y with
    | none => rfl
    | some d =>
      have := lookup_mem_nodup (by rw [hm]; exact nd) (List.mem_reverse.mp (mem_of_lookup e'))
      rw [e] at this; cases this
theorem zip_reps : ∀ {xs : List Str} {vs : List Value} {ds : List D} {h : Heap}, Reps X h vs ds → ∀ {y : Str} {d : D}, (xs.zip ds).lookup y = some d → ∃ v, (xs.zip vs).lookup y = some v ∧ Rep X h v d
  | [], _, _, _, _, y, d, h => by simp at h
  | x :: xs, _, _, _, .nil, y, d, h => by simp at h
  | x :: xs, _, _, _, .cons a r, y, d, h => by
    simp only [List.zip_cons_cons, List.lookup] at h ⊢
    cases hy : y == x with
    | true => rw [hy] at h; cases h; exact ⟨_, rfl, a⟩
    | false => rw [hy] at h; exact zip_reps r h

theorem AOk.deeper {A : Around} (h : AOk (ℓ + 1) A) (env : Env) : AOk ℓ (A.deeper env) := by
  refine ⟨h.handled, ?_, ?_⟩
  · have := h.depth; show A.depth + 1 + ℓ < _; lia
  · have := h.units; show A.units + 3 + 8 * ℓ + 100 ≤ _; lia
theorem enterFr {sc : Scope} {cd : Value} {clos : List (Str × Addr)} {xs : List Str} {vs : List Value} {ds : List D} {env : Env} {s s' : Shared} (Ent : Entered s sc clos (xs.zip vs) env s') (hI : Inv g s) (hX : XOk g X s.heap) (r : Reps X s.heap vs ds) (hl : xs.length = ds.length) (nd : xs.Nodup)
    (hnd : (sc.names.map (·.1)).Nodup) (hk : sc.kind = .function) (hxs : ∀ x ∈ xs, sc.names.lookup x = some .local ∨ sc.names.lookup x = some .cell)
    (e1 : env.scope = sc) (e2 : env.globals = mainGlobals) (e3 : env.builtins = builtinsNs) (e4 : env.code = cd)
    (hfree : ∀ x, sc.names.lookup x = some .free → ∃ c v, clos.lookup x = some c ∧ s.heap.IsCell c v) {ρc : AEnv} (hρ : ∀ x d, ρc.lookup x = some d → sc.names.lookup x = some .free ∧ ∃ c v, clos.lookup x = some c ∧ s.heap.IsCell c (some v) ∧ Rep X s.heap v d) :
    FrX g X s.heap [] ⟨sc, cd, (sc.names.filter (·.2 == .cell)).map (·.1)⟩ env ⟨xs.zip ds ++ ρc, []⟩ s' := by
  have i' : Inv g s' := by
    obtain ⟨h, tk, e⟩ := Ent.same
    have := hI.of_keeps (h' := s'.heap) (tk := s'.toks) Ent.keep
    have e' : s' = { s with heap := s'.heap, toks := s'.toks } := by rw [e]
    rw [e']; exact this
  have kof : ∀ x, env.kindOf x = sc.names.lookup x := fun x => by unfold Env.kindOf; rw [e1]
  have oc : ∀ y, y ∈ (sc.names.filter (·.2 == .cell)).map (·.1) → sc.names.lookup y = some .cell := by
    intro y hy
    obtain ⟨⟨n, k⟩, hm, rfl⟩ := List.mem_map.mp hy
    obtain ⟨hm1, hm2⟩ := List.mem_filter.mp hm
    have : k = .cell := by simpa using hm2
    subst this
    exact lookup_mem_nodup hnd hm1
  have hvl : xs.length = vs.length := by rw [r.length]; exact hl
  refine ⟨i', fun a o e => ⟨o, hI.stays a o e⟩, ⟨by rw [e1]; exact hk, e2, e3, e4, kof⟩, hX.keep (Keep.of Ent.keep), Keep.of Ent.keep, Ent.fresh, ?_, fun x hx => ?_, fun x y c hx hc hy => ?_, fun x hx => ?_, rfl, List.nodup_nil, (fun _ _ h => nomatch h), fun x d hd _ => ?_⟩
  · obtain ⟨m, hm, _⟩ := Ent.loc; exact ⟨m, hm⟩
  · have hx' := oc x hx
    obtain ⟨c, q1, q2, q3⟩ := Ent.cell x hx'
    exact ⟨hx', c, _, q1, q3, q2⟩
  · have hx' := oc x hx
    obtain ⟨c', q1, q2, q3⟩ := Ent.cell x hx'
    rw [hc] at q1; cases q1
    rcases Ent.inj x y c hx' hc hy with ⟨o, e⟩ | e
    · rw [q2] at e; cases e
    · exact e
  · rw [kof] at hx
    rcases hx with hx | hx
    · obtain ⟨c, q1, q2, q3⟩ := Ent.cell x hx; exact ⟨c, _, q1, q3⟩
    · obtain ⟨c, v, q1, q2⟩ := hfree x hx
      exact ⟨c, v, by rw [Ent.free x (by rw [hx]; nofun)]; exact q1, q2.keeps Ent.keep⟩
  · have hd' : (xs.zip ds ++ ρc).lookup x = some d := hd
    rw [lookup_append] at hd'
    cases hz : (xs.zip ds).lookup x with
    | some d' =>
      rw [hz] at hd'; cases hd'
      obtain ⟨v, hv, hr⟩ := zip_reps r hz
      have hv' : (xs.zip vs).reverse.lookup x = some v := by rw [zip_rev_lookup' _ _ _ nd hvl]; exact hv
      have hmem : x ∈ xs := (List.of_mem_zip (mem_of_lookup hv)).1
      refine ⟨v, ?_, by simpa using hr.keep hI.tabs (Keep.of Ent.keep)⟩
      rcases hxs x hmem with hk' | hk'
      · obtain ⟨m, hm, hm'⟩ := Ent.loc
        exact .inl ⟨(kof x).trans hk', m, hm, hm' x v hv' hk'⟩
      · obtain ⟨c, q1, q2, q3⟩ := Ent.cell x hk'
        rw [hv'] at q3
        exact .inr ⟨.inl ((kof x).trans hk'), c, q1, q3⟩
    | none =>
      rw [hz] at hd'
      obtain ⟨q0, c, v, q1, q2, q3⟩ := hρ x d hd'
      refine ⟨v, .inr ⟨.inr ((kof x).trans q0), c, ?_, q2.keeps Ent.keep⟩, by simpa using q3.keep hI.tabs (Keep.of Ent.keep)⟩
      rw [Ent.free x (by rw [q0]; nofun)]; exact q1

def CallOK (g : Gx) (ℓ : Nat) (f : Value) (ds : List D) (d : D) : Prop := ∀ A X s vs, AOk ℓ A → Inv g s → XOk g X s.heap → Reps X s.heap vs ds → wpAny g.M A (call f vs) (Post g X s d) NoE s

structure DefAt (g : Gx) (a : Addr) (xs : List Str) (body : List Stmt) (sc : Scope) (cd : Value) : Prop where
  out : ∃ oc od osl fd, g.K.lookup a = some ⟨oc, od, .func fd, osl⟩ ∧ fd.body = .stmts body ∧ fd.scope = sc ∧ fd.code = cd ∧ fd.closure = [] ∧ fd.globals = mainGlobals ∧ fd.builtins = builtinsNs ∧ codeIn g.K fd.code fd.qualname = true ∧
    (∀ s vs, g.b.StaysIn s.heap → vs.length = xs.length → BindsTo s fd ⟨vs, []⟩ (xs.zip vs))
  kind : sc.kind = .function
  gen : sc.isGenerator = false
  co : sc.isCoroutine = false
  nd : (sc.names.map (·.1)).Nodup
  xnd : xs.Nodup
  xk : ∀ x ∈ xs, sc.names.lookup x = some .local ∨ sc.names.lookup x = some .cell
  nofree : ∀ p ∈ sc.names, p.2 ≠ .free

theorem CallOK.def (hg : GOk g) {a : Addr} {xs : List Str} {body : List Stmt} {sc : Scope} {cd : Value} {ds : List D} {d : D} (hd : DefAt g a xs body sc cd) (hl : xs.length = ds.length) (h : Ex g ℓ ⟨sc, cd, (sc.names.filter (·.2 == .cell)).map (·.1)⟩ ⟨xs.zip ds ++ [], []⟩ body fun _ fl => fl = .ret d ∨ (fl = .next ∧ d = .none)) :
    CallOK g (ℓ + 1) (.ref a) ds d := by
  intro A X s vs hA hI hX r
  obtain ⟨oc, od, osl, fd, hK, hbody, rfl, rfl, hclo, hgl, hbl, hcode, hbind⟩ := hd.out
  have ho : s.heap.get? a = some ⟨oc, od, .func fd, osl⟩ := hI.stays _ _ (hg.kin _ _ hK)
  have hroom : A.depth < recursionLimit := by have := hA.depth; lia
  have hvl : vs.length = xs.length := by rw [r.length]; exact hl.symm
  refine wpAny_call (codeAny_mono (R := fun r s' => ∃ v, r = .ok (.ret v) ∧ Post g X s d v s') ?_ ?_)
  · refine codeAny_call_function hroom ho rfl hd.co hd.gen hbody ((codeRec_of hg.kin hcode).keeps hI.stays) (hbind s vs hI.stays hvl _ _ _ _ ?_)
    rw [hclo, hgl, hbl]
    refine enter hd.kind hd.nd (fun p hp => hd.xk _ (List.of_mem_zip hp).1) (fun x c h => by cases h) fun L cells s₂ Ent => ?_
    refine ⟨(hg.nolimit.keeps hI.stays).keeps Ent.keep, codeAny_func ?_⟩
    obtain ⟨env, hE⟩ : ∃ x, newEnv fd.scope L mainGlobals cells (fd.qualname ++ ".<locals>.") (some a) fd.code none builtinsNs = x := ⟨_, rfl⟩
    rw [hE] at Ent ⊢
    have FX := enterFr (g := g) (X := X) (cd := fd.code) (ρc := []) Ent hI hX r hl hd.xnd hd.nd hd.kind hd.xk (by rw [← hE]; rfl) (by rw [← hE]; rfl) (by rw [← hE]; rfl) (by rw [← hE]; rfl) (fun x hx => absurd rfl (hd.nofree _ (mem_of_lookup hx))) (fun x d h => by cases h)
    refine wpQ (h _ X s.heap [] env s₂ (hA.deeper env) FX) ?_
    rintro f s' ⟨σ', O', fl, F', _, _, _, hf, hq⟩
    have P : ∀ v, Rep X s'.heap v d → ∃ v', (Except.ok (Flow.ret v) : Result) = .ok (.ret v') ∧ Post g X s d v' s' := fun v hv => ⟨v, rfl, F'.inv, F'.keep, hv⟩
    rcases hq with rfl | ⟨rfl, rfl⟩
    · cases f with | ret v => exact P v hf | _ => exact hf.elim
    · cases f with | next => exact P .none .none | _ => exact hf.elim
  · rintro r s' ⟨v, rfl, hp⟩
    exact hp

def GlobV (g : Gx) (x : Str) (f : Value) : Prop := g.mg x = some f ∨ (g.mg x = none ∧ g.mb x = some f)

theorem mg_of (hg : GOk g) {x : Str} {r : Option Value} (h : nsIn g.K mainGlobals x = some r) : g.mg x = r := by
  unfold nsIn at h
  split at h
  · rename_i c dd es n sl ho
    obtain ⟨o, es', ep, e, d, hk, hf⟩ := hg.globals
    have := hg.kin _ _ ho
    rw [e] at this; cases this
    cases d
    rw [← hf x]
    unfold nsFind findBy
    rw [← Array.find?_toList]
    split at h
    · rename_i en he; cases h; rw [he]; rfl
    · rename_i he
      rw [he]
      split at h
      · cases h
      · cases h; rfl
  · cases h
theorem GlobV.top (hg : GOk g) {x : Str} {f : Value} (h : nsIn g.K mainGlobals x = some (some f)) : GlobV g x f := .inl (mg_of hg h)
theorem GlobV.blt (hg : GOk g) {x : Str} {f : Value} (h : nsIn g.K mainGlobals x = some none) (hb : bootBuiltins x = some f) (hx : x ≠ "__name__" := by decide) : GlobV g x f := .inr ⟨mg_of hg h, (hg.mbIs x hx).trans hb⟩

theorem evalGlob (hg : GOk g) {x : Str} {pos : Pos} {f : Value} {A : Around} {E : Value → Shared → Prop} {Q : Value → Shared → Prop} (hI : Inv g s) (hE : EnvOK fi env) (hk : fi.sc.names.lookup x = some .globalImplicit) (hv : GlobV g x f) (hn : okName x = true) (hq : Q f s) : wpAny g.M A (eval (.Name x pos) env) Q E s := by
  simp only [okName, Bool.and_eq_true, Bool.not_eq_true'] at hn
  refine Calls.Name_function_global hE.kind ((hE.kinds x).trans hk) ?_ hn.1
  have hgl : s.heap.Ns env.globals g.mg := by rw [hE.glob]; exact hg.globals.keeps hI.stays
  have hbl : s.heap.Ns env.builtins g.mb := by rw [hE.blt]; exact hg.builtins.keeps hI.stays
  rcases hv with hv | ⟨hm, hv⟩
  · exact Calls.loadGlobal_global hgl hv hq
  · exact Calls.loadGlobal_builtin hgl hm hbl hv hq

inductive Callee (g : Gx) : Value → Prop where
  | blt (id : String) : Callee g (.builtin id)
  | typ (n : String) : Callee g (.type n)
  | fn {a : Addr} {oc : Value} {od : Option Addr} {osl : Array (Option Value)} {fd : FuncData} : g.K.lookup a = some ⟨oc, od, .func fd, osl⟩ → Callee g (.ref a)

theorem Ev.call (hg : GOk g) {id : Str} {p pos : Pos} {e : Expr} {es : List Expr} {f : Value} {ds : List D} {d : D} (hk : fi.sc.names.lookup id = some .globalImplicit) (hv : GlobV g id f) (hf : Callee g f) (hev : Evs g ℓ fi ρ (e :: es) ds) (hc : CallOK g ℓ f ds d)
    (hn : okName id = true := by decide) (he : ∀ env, starEach (e :: es) env = (false, eval e env) :: starEach es env := by intro _; rfl) (hst : ∀ env, (starEach (e :: es) env).any (·.1) = false := by intro _; rfl) : Ev g ℓ fi ρ (.Call (.Name id p) (e :: es) [] pos) d := by
  intro A X env s hA hI hE hX hF
  refine wpAny_Call_NameR (evalGlob hg hI hE hk hv hn ?_)
  have hany : (backTo pos (starEach (e :: es) env)).any (·.1) = false := by
    unfold backTo
    rw [List.any_map]
    rw [← hst env]
    congr 1
  have hshape : backTo pos (starEach (e :: es) env) = (false, eval e env) :: backTo pos (starEach es env) := by rw [he]; rfl
  have args : ∀ {Q : Args → Shared → Prop}, (∀ vs s₁, Inv g s₁ → Keep g s.heap s₁.heap → Reps X s₁.heap vs ds → Q ⟨vs, []⟩ s₁) → wpAny g.M A (evalArgs f true (backTo pos (starEach (e :: es) env)) []) Q NoE s := by
    intro Q hQ
    have := hev A X env s pos hA hI hE hX hF
    rw [hshape] at this ⊢
    exact Calls.evalArgs_plain (wpQ this fun vs s₁ ⟨i, k, r⟩ => hQ vs s₁ i k r)
  cases hf with
  | blt id' => exact Calls.callWith_builtin hany (args fun vs s₁ i k r => wpQ (hc A X s₁ vs hA i (hX.keep k) r) fun v s' p => p.more k)
  | typ T => exact PySem.callWith_type hany (args fun vs s₁ i k r => wpQ (hc A X s₁ vs hA i (hX.keep k) r) fun v s' p => p.more k)
  | fn hK => exact Calls.callWith_function (args fun vs s₁ i k r => ⟨⟨i.stays _ _ (hg.kin _ _ hK), rfl⟩, wpQ (hc A X s₁ vs hA i (hX.keep k) r) fun v s' p => p.more k⟩)
end Mine


/- WS -/
namespace Mine
variable {g : Gx} {ℓ : Nat} {fi : FI} {X : List Addr} {h₀ : Heap} {O : List (Str × Addr)} {env : Env} {σ : St} {s : Shared} {ρ : AEnv} {H : Heap} {Dd : Addr} {ds : List D}

def D.seqT : D → Option String
  | .list _ => some "list"
  | .tup _ => some "tuple"
  | .str _ => some "str"
  | .bytes _ => some "bytes"
  | _ => Option.none

theorem Rep.ty {v : Value} {d : D} {T : String} (r : Rep X s.heap v d) (h : d.seqT = some T) : s.TypeIs v T := by
  cases r <;> cases h
  · exact typeIs_str _ _ _
  · exact typeIs_bytes _ _ _
  · rename_i hl _ _; exact hl.isList.typeIs
  · rename_i hl _; obtain ⟨o, e, c, _⟩ := hl; exact ⟨o, e, c⟩

theorem seqT_look {d : D} {T : String} (h : d.seqT = some T) : ∃ id, typeLookup (.type T) "__getitem__" = pure (some (.builtin id)) := by
  cases d <;> cases h
  · exact ⟨_, PyProof.Rows.slot_str_getitem.lookup⟩
  · exact ⟨_, FB.slot_bytes_getitem.lookup⟩
  · exact ⟨_, list_getitem_lookup⟩
  · exact ⟨_, PyProof.Rows.slot_tuple_getitem.lookup⟩

theorem subTail {value slice : Expr} {o i : Value} {T id : String} {prog : Program} {w : World} {A : Around} {E : Value → Shared → Prop} {Q : Value → Shared → Prop} (hT : s.TypeIs o T)
    (hl : typeLookup (.type T) "__getitem__" = pure (some (.builtin id))) (h : wpAny (model prog w) A (getItem o i) Q E s)
    (hs : ∃ vs, subscripted slice false o i = operate vs (getItem o i)) :
    wpAny (model prog w) A (subscriptTail value slice o i) Q E s := by
  unfold subscriptTail
  refine wpAny_bind ?_
  rw [getitemInPython_of_ne hT.not_modules]
  refine wpAny_bind (wpAny_specialOf hT hl ?_)
  have fin : wpAny (model prog w) A (subscripted slice false o i) (fun r s₃ => wpAny (model prog w) A (letTemporaryGo value o r >>= fun _ => pure r) Q E s₃) E s := by
    obtain ⟨vs, hs⟩ := hs
    rw [hs]
    exact wpAny_operating (wpAny_mono h (fun r s₃ h₃ => wpAny_bind (wpAny_letTemporaryGo (wpAny_pure h₃))) fun _ _ x => x)
  first
    | exact wpAny_pure (wpAny_bind fin)
    | exact wpAny_bind (wpAny_pure (wpAny_bind fin))
    | exact wpAny_bind fin

theorem Ev.sub {value slice : Expr} {pos : Pos} {a b d : D} (hv : Ev g ℓ fi ρ value a) (hi : Ev g ℓ fi ρ slice b) (ht : Op2 g getItem a b d) (hT : a.seqT.isSome = true := by rfl)
    (hs : ∀ o i, subscripted slice false o i = operate [o, i] (getItem o i) := by intro _ _; rfl) : Ev g ℓ fi ρ (.Subscript value slice pos) d := by
  intro A X env s hA hI hE hX hF
  obtain ⟨T, hT⟩ := Option.isSome_iff_exists.mp hT
  obtain ⟨id, hlk⟩ := seqT_look hT
  refine Subscript_ ?_
  refine wpQ (hv A X env s hA hI hE hX hF) fun va s₁ ⟨i1, k1, r1⟩ => ?_
  refine wpQ (hi A X env s₁ hA i1 hE (hX.keep k1) (hF.keep hI.tabs k1)) fun vb s₂ ⟨i2, k2, r2⟩ => ?_
  refine subTail ((r1.keep i1.tabs k2).ty hT) hlk ?_ ⟨_, hs _ _⟩
  exact wpQ (ht ℓ A X s₂ va vb hA i2 ((hX.keep k1).keep k2) (r1.keep i1.tabs k2) r2) fun v s' p => p.more (k1.trans k2)

def ixOk (i : Int) : Prop := -(2 ^ 63) ≤ i ∧ i < 2 ^ 63

theorem Op2.atL {ds : List D} {i : Int} {j : Nat} {d : D} (hj : seqIndex? i ds.length = some j) (hd : ds[j]? = some d) (hi : ixOk i) : Op2 g getItem (.list ds) (.int i) d := by
  intro ℓ A X s va vb hA hI hX h1 h2
  cases h2
  cases h1 with | list na hl hz r =>
  rename_i a vs
  obtain ⟨v, hv, hr⟩ := r.get' j hd
  have hlen := r.length
  unfold seqIndex? at hj
  by_cases hn : i < 0
  · simp only [hn, if_true] at hj
    split at hj
    · rename_i hc
      simp only [Bool.and_eq_true, decide_eq_true_eq] at hc
      cases hj
      refine wpAny_getItem_list_neg hl.isList hn (by simp; lia) hi.1 ?_ (Post.same hI hr)
      simpa [hlen] using hv
    · cases hj
  · simp only [hn, if_false] at hj
    split at hj
    · rename_i hc
      simp only [Bool.and_eq_true, decide_eq_true_eq] at hc
      cases hj
      refine wpAny_getItem_list hl.isList (by lia) hi.2 ?_ (Post.same hI hr)
      simpa using hv
    · cases hj
theorem Op2.atS {x : Str} {i : Int} {c : Nat} (hc : (seqIndex? i x.length).bind (x.cps[·]?) = some c) (hi : ixOk i) : Op2 g getItem (.str x) (.int i) (.str ⟨#[c]⟩) := by
  intro ℓ A X s va vb hA hI hX h1 h2
  cases h2; cases h1
  refine PyProof.Rows.getItem_str ?_ hc (Post.tok hI .str _)
  have := hi.1; have := hi.2
  simp only [Bool.or_eq_false_iff, decide_eq_false_iff_not]; lia
theorem Op2.atB {b : Array UInt8} {i : Int} (h0 : 0 ≤ i) (h1 : i < b.size) (hz : b.size ≤ 2 ^ 20) : Op2 g getItem (.bytes b) (.int i) (.int ((b.toList.getD i.toNat 0).toNat : Int)) := by
  intro ℓ A X s va vb hA hI hX r1 r2
  obtain ⟨t, rfl⟩ := r2.int'
  obtain ⟨u, rfl⟩ := r1.bytes'
  have e : b = b.toList.toArray := by simp
  rw [e]
  exact getItem_bytes (l := b.toList) (by rw [Array.length_toList]; lia) h0 (by rw [Array.length_toList]; exact h1) (Post.tok hI .int _)

def EvP (g : Gx) (ℓ : Nat) (fi : FI) (ρ : AEnv) (x : Option Expr) (k : Option Int) : Prop := match x, k with
  | none, none => True
  | some e, some i => Ev g ℓ fi ρ e (.int i)
  | some e, none => Ev g ℓ fi ρ e .none
  | _, _ => False

theorem EvP.run {x : Option Expr} {k : Option Int} (h : EvP g ℓ fi ρ x k) {A : Around} (hA : AOk ℓ A) (hI : Inv g s) (hE : EnvOK fi env) (hX : XOk g X s.heap) (hF : FrameR X s.heap env ρ) :
    wpAny g.M A (evalPart x env) (fun v s' => Inv g s' ∧ Keep g s.heap s'.heap ∧ IsPart v k) NoE s := by
  cases x with
  | none =>
    cases k with
    | none => rw [evalPart_none]; exact wpAny_pure ⟨hI, Keep.refl _, .none⟩
    | some i => exact h.elim
  | some e =>
    rw [evalPart_some]
    cases k with
    | none => exact wpQ (h A X env s hA hI hE hX hF) fun v s' ⟨i, k, r⟩ => ⟨i, k, by cases r; exact .none⟩
    | some i => exact wpQ (h A X env s hA hI hE hX hF) fun v s' ⟨i, k, r⟩ => ⟨i, k, by cases r; exact .int _ _⟩

def cut {α : Type} (l : List α) (lo hi st : Option Int) : List α :=
  (sliceRange (sliceBounds lo hi st l.length).1 (sliceBounds lo hi st l.length).2.1 (sliceBounds lo hi st l.length).2.2).filterMap (l[·]?)

theorem Reps.pick {vs : List Value} {ds : List D} {h : Heap} (r : Reps X h vs ds) : ∀ (ns : List Nat), Reps X h (ns.filterMap (vs[·]?)) (ns.filterMap (ds[·]?))
  | [] => .nil
  | n :: ns => by
    rw [List.filterMap_cons, List.filterMap_cons]
    cases e : ds[n]? with
    | some d =>
      obtain ⟨v, hv, hr⟩ := r.get' n e
      rw [hv]; exact .cons hr (Reps.pick r ns)
    | none =>
      have : vs[n]? = none := by
        rw [List.getElem?_eq_none_iff] at e ⊢
        rw [r.length]; exact e
      rw [this]; exact Reps.pick r ns
theorem Reps.cut {vs : List Value} {ds : List D} {h : Heap} (r : Reps X h vs ds) (lo hi st : Option Int) : Reps X h (slicePick vs.toArray lo hi st).toList (cut ds lo hi st) := by
  unfold slicePick Mine.cut
  rw [List.size_toArray, r.length]
  simpa using r.pick _

theorem Ev.slL {value : Expr} {lower upper step : Option Expr} {p pos : Pos} {ds : List D} {lo hi st : Option Int} (hv : Ev g ℓ fi ρ value (.list ds)) (h1 : EvP g ℓ fi ρ lower lo) (h2 : EvP g ℓ fi ρ upper hi) (h3 : EvP g ℓ fi ρ step st) (h0 : st ≠ some 0 := by decide) :
    Ev g ℓ fi ρ (.Subscript value (.Slice lower upper step p) pos) (.list (cut ds lo hi st)) := by
  intro A X env s hA hI hE hX hF
  refine Subscript_ ?_
  refine wpQ (hv A X env s hA hI hE hX hF) fun va s₁ ⟨i1, k1, r1⟩ => wpAny_Slice ?_
  refine wpQ (h1.run hA i1 hE (hX.keep k1) (hF.keep hI.tabs k1)) fun vl s₂ ⟨i2, k2, p2⟩ => ?_
  have k12 := k1.trans k2
  refine wpQ (h2.run hA i2 hE (hX.keep k12) (hF.keep hI.tabs k12)) fun vu s₃ ⟨i3, k3, p3⟩ => ?_
  have k13 := k12.trans k3
  refine wpQ (h3.run hA i3 hE (hX.keep k13) (hF.keep hI.tabs k13)) fun vst s₄ ⟨i4, k4, p4⟩ => ?_
  have k14 := k13.trans k4
  have kk := push_keeps s₄.heap { cls := .type "slice", data := .fields #[vl, vu, vst] }
  have i5 := i4.of_keeps (tk := s₄.toks) kk
  have k15 : Keep g s.heap _ := k14.trans (Keep.of kk)
  have r5 := r1.keep i1.tabs ((k2.trans (k3.trans k4)).trans (Keep.of kk))
  obtain ⟨a, vs, rfl, hl, hz, r⟩ : ∃ a vs, va = .ref a ∧ PL _ a (vs : List Value).toArray ∧ vs.length ≤ sizeLine ∧ Reps X _ vs ds := by
    cases r5 with | list na hl hz r => exact ⟨_, _, rfl, hl, hz, r⟩
  refine subTail (T := "list") hl.isList.typeIs list_getitem_lookup ?_ (by cases step <;> exact ⟨_, rfl⟩)
  refine wpAny_getItem_list_slice hl.isList (Heap.IsSliceOf.new ..) p2 p3 p4 h0 ?_ (by rw [List.size_toArray]; exact hz)
  have rc := r.cut lo hi st
  have := Post.newList (s := s) (s₁ := { s₄ with heap := s₄.heap.push { cls := .type "slice", data := .fields #[vl, vu, vst] } }) (hX.keep k15) i5 k15 rc (by
    have := slicePick_size_le vs.toArray lo hi st
    rw [Array.length_toList]; rw [List.size_toArray] at this; exact Nat.le_trans this hz)
  rw [Array.toArray_toList] at this
  exact this

theorem TrOK.bytes {b : Array UInt8} (hz : b.size ≤ 2 ^ 20) : TrOK g (.bytes b) ((b.size : Int) != 0) := fun _ _ _ s _ _ hI _ hr => by
  cases hr; exact truthy_bytes (by lia) ⟨rfl, hI.tok _, Keep.refl _⟩
end Mine


/- WT -/
namespace Mine
variable {g : Gx} {ℓ : Nat} {fi : FI} {X : List Addr} {h₀ : Heap} {O : List (Str × Addr)} {env : Env} {σ : St} {s : Shared} {ρ : AEnv} {H : Heap} {Dd : Addr} {ds : List D}

theorem Reps.one {vs : List Value} {d : D} {h : Heap} (r : Reps X h vs [d]) : ∃ v, vs = [v] ∧ Rep X h v d := by
  cases r with | cons a r => cases r; exact ⟨_, rfl, a⟩
theorem Reps.two {vs : List Value} {d d' : D} {h : Heap} (r : Reps X h vs [d, d']) : ∃ v v', vs = [v, v'] ∧ Rep X h v d ∧ Rep X h v' d' := by
  cases r with | cons a r => obtain ⟨v, rfl, b⟩ := r.one; exact ⟨_, _, rfl, a, b⟩
theorem Rep.list' {v : Value} {ds : List D} {h : Heap} (r : Rep X h v (.list ds)) : ∃ a vs, v = .ref a ∧ a ∉ X ∧ PL h a (vs : List Value).toArray ∧ vs.length ≤ sizeLine ∧ Reps X h vs ds := by
  cases r with | list na hl hz r => exact ⟨_, _, rfl, na, hl, hz, r⟩

theorem CallOK.lenL : CallOK g ℓ (.builtin "len") [.list ds] (.int ds.length) := by
  intro A X s vs hA hI hX r
  obtain ⟨v, rfl, r1⟩ := r.one
  obtain ⟨a, vs, rfl, na, hl, hz, r2⟩ := r1.list'
  have hz' : vs.length ≤ 16777216 := hz
  refine Calls.call_len_list hl.isList (by rw [List.size_toArray]; omega) ?_
  rw [List.size_toArray, r2.length]
  exact Post.tok hI .int _
theorem CallOK.lenB {b : Array UInt8} (hz : b.size ≤ 2 ^ 20) : CallOK g ℓ (.builtin "len") [.bytes b] (.int b.size) := by
  intro A X s vs hA hI hX r
  obtain ⟨v, rfl, r1⟩ := r.one
  obtain ⟨_, rfl⟩ := r1.bytes'
  exact len_bytes (by omega) (Post.tok hI .int _)

theorem small_range {a b c : Int} (t u v : Tok) {s₁ : Shared} (hX : True) (i : Inv g s) (hq : RngOk a b c) (tk : Nat) :
    Post g X s (.rng a b c) (.ref s.heap.objs.size) { s with heap := s.heap.push { cls := .type "range", data := .fields #[.int a t, .int b u, .int c v] }, toks := tk } := by
  have kk := push_keeps s.heap { cls := .type "range", data := .fields #[.int a t, .int b u, .int c v] }
  exact ⟨i.of_keeps (tk := tk) kk, Keep.of kk, .rng (Heap.get?_push_size _ rfl) hq⟩
theorem CallOK.range1 {n : Int} (hq : RngOk 0 n 1) : CallOK g ℓ (.type "range") [.int n] (.rng 0 n 1) := by
  intro A X s vs hA hI hX r
  obtain ⟨v, rfl, r1⟩ := r.one
  obtain ⟨_, rfl⟩ := r1.int'
  exact call_range_1 (small_range (s₁ := s) _ _ _ trivial hI hq _)
theorem CallOK.min2 {a b : Int} : CallOK g ℓ (.builtin "min") [.int a, .int b] (.int (if b < a then b else a)) := by
  intro A X s vs hA hI hX r
  obtain ⟨v, v', rfl, r1, r2⟩ := r.two
  obtain ⟨_, rfl⟩ := r1.int'
  obtain ⟨_, rfl⟩ := r2.int'
  refine min_two_ints hA.handled fun h' tk hk => ?_
  by_cases c : b < a
  · simp only [if_pos c]; exact ⟨hI.of_keeps hk, Keep.of hk, .int⟩
  · simp only [if_neg c]; exact ⟨hI.of_keeps hk, Keep.of hk, .int⟩
theorem CallOK.sum {d : D} {ns : List Int} (hit : iterD d = some (ns.map .int)) : CallOK g ℓ (.builtin "sum") [d] (.int ns.sum) := by
  intro A X s vs hA hI hX r
  obtain ⟨v, rfl, r1⟩ := r.one
  refine call_sum_walkAnyS ?_
  refine pyIter_go (A := A.in1) hA.handled hI r1 hit fun s' I ax i' k' hIn hIe hax W => ?_
  obtain ⟨P, St, W, st0, hio, hP⟩ := W
  have hfp : ∀ b ∈ I :: ax, b < s'.heap.objs.size := by
    intro b hb
    rcases List.mem_cons.mp hb with rfl | hb
    · obtain ⟨o, e⟩ := hIe; exact Heap.lt_size e
    · obtain ⟨_, xs, hx⟩ := hax b hb
      rcases hx with ⟨o, e, _⟩ | ⟨o, e, _⟩ <;> exact Heap.lt_size (k' _ _ e)
  have W' : Walks g.prog g.w A.in1 I (I :: ax) [I] (ns.map D.int).length (fun i v => P i v ∧ i < ns.length) St := by
    refine ⟨W.sub, W.frame, fun i s Q E hi st hQ => W.item i s Q E hi st fun v h' tk hp => hQ v h' tk ⟨hp, by simpa using hi⟩, W.done, W.self⟩
  refine ⟨I, I :: ax, [I], _, (ns.map D.int).length, _, _, fun i => ns.getD i 0, rfl, W'.toS, st0, hfp, ?_, ?_⟩
  · rintro i v ⟨hp, hi⟩
    obtain ⟨d, hd, hr⟩ := hP i v (by simpa using hi) hp
    rw [List.getElem?_map] at hd
    obtain ⟨n, hn, rfl⟩ := Option.map_eq_some_iff.mp hd
    cases hr
    rename_i t
    refine ⟨t, ?_⟩
    show Value.int n t = Value.int (ns.getD i 0) t
    rw [List.getD_eq_getElem?_getD, hn]; rfl
  · intro s'' t' hm
    rw [preSum_getD, List.length_map, List.take_of_length_le (Nat.le_refl _)]
    have e := Moved.eq_with hm
    have k'' : ∀ b o, s.heap.get? b = some o → s''.heap.get? b = some o := fun b o e =>
      hm.heap b o (by simp only [List.mem_singleton]; rintro rfl; rw [hIn] at e; cases e) (k' b o e)
    refine ⟨?_, Keep.of k'', .int⟩
    obtain ⟨h1, t1, e1⟩ := i'.same
    refine ⟨⟨s''.heap, s''.toks, by rw [e, e1]⟩, fun b o e => k'' b o (hI.stays b o e), hI.tabs.of_keeps k''⟩

theorem CallOK.bytes {ns : List Int} (hr : ∀ n ∈ ns, 0 ≤ n ∧ n < 256) : CallOK g ℓ (.type "bytes") [.list (ns.map .int)] (.bytes (byteArr ns)) := by
  intro A X s vs hA hI hX r
  obtain ⟨v, rfl, r1⟩ := r.one
  obtain ⟨a, vs, rfl, na, hl, hz, r2⟩ := r1.list'
  exact call_bytes_ints hl.isList r2.ints hr hz hA.handled fun h' t k hk => ⟨hI.of_keeps hk, Keep.of hk, .bytes⟩

section
variable {prog : Program} {w : World} {A : Around} {E : Value → Shared → Prop}
set_option maxRecDepth 100000
end
end Mine


/- WU -/
namespace Mine
variable {g : Gx} {ℓ : Nat} {fi : FI} {X : List Addr} {h₀ : Heap} {O : List (Str × Addr)} {env : Env} {σ : St} {s : Shared} {ρ : AEnv} {H : Heap} {Dd : Addr} {ds : List D}

mutual
def D.py : D → PyData
  | .none => .none
  | .bool b => .bool b
  | .int i => .int i
  | .str x => .str x
  | .list ds => .list (D.pys ds)
  | .tup ds => .tuple (D.pys ds)
  | .bytes _ => .none
  | .rng _ _ _ => .none
  | .opq _ => .none
def D.pys : List D → List PyData
  | [] => []
  | d :: ds => D.py d :: D.pys ds
end
def D.good : Nat → D → Bool
  | _, .int _ => true
  | _, .str x => PyData.strOk x
  | n + 1, .list ds => ds.all (D.good n)
  | n + 1, .tup ds => ds.all (D.good n)
  | _, _ => false

mutual
theorem Rep.reads {h : Heap} : ∀ {v : Value} {d : D} (n : Nat), Rep X h v d → d.good n = true → ∃ as, Reads h v d.py as
  | _, _, _, .none, q => by simp [D.good] at q
  | _, _, _, .bool, q => by simp [D.good] at q
  | _, _, _, .int, q => ⟨_, .int _ _⟩
  | _, _, _, .str, q => ⟨_, .str _ _⟩
  | _, _, _, .bytes, q => by simp [D.good] at q
  | _, _, 0, .list _ _ _ _, q => by simp [D.good] at q
  | _, _, n + 1, .list ha hl hz hr, q => by
    obtain ⟨o, m, e, c, _, d⟩ := hl
    obtain ⟨as, ra⟩ := Reps.reads n hr q
    exact ⟨_, .list e c d (by simpa using ra)⟩
  | _, _, 0, .tup _ _, q => by simp [D.good] at q
  | _, _, n + 1, .tup hl hr, q => by
    obtain ⟨o, e, c, m, d⟩ := hl
    obtain ⟨as, ra⟩ := Reps.reads n hr q
    exact ⟨_, .tuple e c d (by simpa using ra)⟩
  | _, _, _, .rng _ _, q => by simp [D.good] at q
  | _, _, _, .opq, q => by simp [D.good] at q
theorem Reps.reads {h : Heap} : ∀ {vs : List Value} {ds : List D} (n : Nat), Reps X h vs ds → ds.all (D.good n) = true → ∃ as, ReadsAll h vs (D.pys ds) as
  | _, _, _, .nil, _ => ⟨_, .nil⟩
  | _, _, n, .cons a r, q => by
    simp only [List.all_cons, Bool.and_eq_true] at q
    obtain ⟨as, ra⟩ := Rep.reads n a q.1
    obtain ⟨bs, rb⟩ := Reps.reads n r q.2
    exact ⟨_, .cons ra rb⟩
end

theorem good_int {n : Nat} {i : Int} : (D.int i).good n = true := by cases n <;> rfl
theorem good_str {n : Nat} {x : Str} (h : PyData.strOk x = true) : (D.str x).good n = true := by cases n <;> exact h

mutual
theorem good_lay : ∀ (d : D) (n : Nat), d.good n = true → d.py.canLay0 = true ∧ d.py.depth ≤ n
  | .none, _, q => by simp [D.good] at q
  | .bool _, _, q => by simp [D.good] at q
  | .int _, _, _ => by simp [D.py, PyData.canLay0, PyData.depth]
  | .str x, n, q => by
    have : PyData.strOk x = true := by cases n <;> simpa [D.good] using q
    simpa [D.py, PyData.canLay0, PyData.depth] using this
  | .bytes _, _, q => by simp [D.good] at q
  | .rng _ _ _, _, q => by simp [D.good] at q
  | .opq _, _, q => by simp [D.good] at q
  | .list ds, 0, q => by simp [D.good] at q
  | .tup ds, 0, q => by simp [D.good] at q
  | .list ds, n + 1, q => by
    obtain ⟨a, b⟩ := goods_lay ds n q
    simp only [D.py, PyData.canLay0, PyData.depth]
    exact ⟨a, by lia⟩
  | .tup ds, n + 1, q => by
    obtain ⟨a, b⟩ := goods_lay ds n q
    simp only [D.py, PyData.canLay0, PyData.depth]
    exact ⟨a, by lia⟩
theorem goods_lay : ∀ (ds : List D) (n : Nat), ds.all (D.good n) = true → PyData.canLayAll0 (D.pys ds) = true ∧ PyData.depthAll (D.pys ds) ≤ n
  | [], _, _ => by simp [D.pys, PyData.canLayAll0, PyData.depthAll]
  | d :: ds, n, q => by
    simp only [List.all_cons, Bool.and_eq_true] at q
    obtain ⟨a, b⟩ := good_lay d n q.1
    obtain ⟨a', b'⟩ := goods_lay ds n q.2
    simp only [D.pys, PyData.canLayAll0, PyData.depthAll, Bool.and_eq_true]
    exact ⟨⟨a, a'⟩, by lia⟩
end

mutual
theorem eqv_iff : ∀ (a b : D) (n m : Nat), a.good n = true → b.good m = true → (PyData.eqv a.py b.py = true ↔ a = b)
  | .none, _, _, _, q, _ => by simp [D.good] at q
  | .bool _, _, _, _, q, _ => by simp [D.good] at q
  | .bytes _, _, _, _, q, _ => by simp [D.good] at q
  | .rng _ _ _, _, _, _, q, _ => by simp [D.good] at q
  | .opq _, _, _, _, q, _ => by simp [D.good] at q
  | .int i, b, n, m, q, q' => by
    cases b <;> simp [D.py, PyData.eqv, D.good] at q' ⊢
  | .str i, b, n, m, q, q' => by
    cases b <;> simp [D.py, PyData.eqv, D.good] at q' ⊢
  | .list ds, b, 0, m, q, q' => by simp [D.good] at q
  | .tup ds, b, 0, m, q, q' => by simp [D.good] at q
  | .list ds, b, n + 1, m, q, q' => by
    cases b with
    | list es =>
      cases m with
      | zero => simp [D.good] at q'
      | succ m =>
        have := eqvs_iff ds es n m q q'
        simp only [D.py, PyData.eqv, D.list.injEq]; exact this
    | _ => simp [D.py, PyData.eqv, D.good] at q' ⊢
  | .tup ds, b, n + 1, m, q, q' => by
    cases b with
    | tup es =>
      cases m with
      | zero => simp [D.good] at q'
      | succ m =>
        have := eqvs_iff ds es n m q q'
        simp only [D.py, PyData.eqv, D.tup.injEq]; exact this
    | _ => simp [D.py, PyData.eqv, D.good] at q' ⊢
theorem eqvs_iff : ∀ (ds es : List D) (n m : Nat), ds.all (D.good n) = true → es.all (D.good m) = true → (PyData.eqvAll (D.pys ds) (D.pys es) = true ↔ ds = es)
  | [], [], _, _, _, _ => by simp [D.pys, PyData.eqvAll]
  | [], _ :: _, _, _, _, _ => by simp [D.pys, PyData.eqvAll]
  | _ :: _, [], _, _, _, _ => by simp [D.pys, PyData.eqvAll]
  | d :: ds, e :: es, n, m, q, q' => by
    simp only [List.all_cons, Bool.and_eq_true] at q q'
    simp only [D.pys, PyData.eqvAll, Bool.and_eq_true, List.cons.injEq]
    rw [eqv_iff d e n m q.1 q'.1, eqvs_iff ds es n m q.2 q'.2]
end

theorem shaped_of {d : D} (h : d.good 9 = true) : SeqAt.shaped d.py = true := by
  obtain ⟨a, b⟩ := good_lay d 9 h
  simp only [SeqAt.shaped, Bool.and_eq_true, decide_eq_true_eq]
  exact ⟨a, by lia⟩
theorem bool_eq_of {a c : Bool} {p : Prop} (h : a = true ↔ p) (h' : c = true ↔ p) : a = c := by
  cases a <;> cases c <;> simp_all

theorem Op2.eqD {a b : D} {c : Bool} (ha : a.good 9 = true) (hb : b.good 9 = true) (hc : c = true ↔ a = b) : Op2 g (compareOp .Eq) a b (.bool c) := by
  intro ℓ A X s va vb hA hI hX h1 h2
  obtain ⟨as, ra⟩ := h1.reads 9 ha
  obtain ⟨bs, rb⟩ := h2.reads 9 hb
  refine SeqAt.compareEq_shaped ra rb (shaped_of ha) (shaped_of hb) (by have := hA.units; lia) ?_
  rw [bool_eq_of (eqv_iff a b 9 9 ha hb) hc]
  exact Post.same hI .bool
theorem Op2.neD {a b : D} {c : Bool} (ha : a.good 9 = true) (hb : b.good 9 = true) (hc : c = true ↔ a ≠ b) : Op2 g (compareOp .NotEq) a b (.bool c) := by
  intro ℓ A X s va vb hA hI hX h1 h2
  obtain ⟨as, ra⟩ := h1.reads 9 ha
  obtain ⟨bs, rb⟩ := h2.reads 9 hb
  refine SeqAt.compareNe_shaped ra rb (shaped_of ha) (shaped_of hb) (by have := hA.units; lia) ?_
  rw [bool_eq_of (a := !PyData.eqv a.py b.py) (p := a ≠ b) (by rw [Bool.not_eq_true', ← Bool.not_eq_true, eqv_iff a b 9 9 ha hb]) hc]
  exact Post.same hI .bool

theorem Reps.mem' {h : Heap} : ∀ {vs : List Value} {ds : List D}, Reps X h vs ds → ∀ v ∈ vs, ∃ d ∈ ds, Rep X h v d
  | _, _, .nil, v, hv => nomatch hv
  | _, _, .cons a r, v, hv => by
    rcases List.mem_cons.mp hv with rfl | hv
    · exact ⟨_, .head _, a⟩
    · obtain ⟨d, hd, hr⟩ := Reps.mem' r v hv; exact ⟨d, .tail _ hd, hr⟩

theorem Ev.isBytes (hg : GOk g) {p p' pos : Pos} {e : Expr} {b : Array UInt8} (hk : fi.sc.names.lookup ("isinstance" : Str) = some .globalImplicit) (hk' : fi.sc.names.lookup ("bytes" : Str) = some .globalImplicit) (hv : GlobV g "isinstance" (.builtin "isinstance")) (hv' : GlobV g "bytes" (.type "bytes"))
    (h : Ev g ℓ fi ρ e (.bytes b)) (he : ∀ env, starEach [e, .Name "bytes" p'] env = [(false, eval e env), (false, eval (.Name "bytes" p') env)] := by intro _; rfl) : Ev g ℓ fi ρ (.Call (.Name "isinstance" p) [e, .Name "bytes" p'] [] pos) (.bool true) := by
  intro A X env s hA hI hE hX hF
  refine wpAny_Call_NameR (evalGlob hg hI hE hk hv (by decide) ?_)
  have hsh : backTo pos (starEach [e, .Name "bytes" p'] env) = [(false, eval e env), (false, eval (.Name "bytes" p') env)] := by rw [he]; rfl
  rw [hsh]
  refine Calls.callWith_builtin rfl (Calls.evalArgs_plain (Calls.spliced_cons ?_))
  refine wpQ (h A X env s hA hI hE hX hF) fun v s₁ ⟨i1, k1, r1⟩ => Calls.spliced_cons ?_
  refine evalGlob hg i1 hE hk' hv' (by decide) (Calls.spliced_nil ?_)
  obtain ⟨_, rfl⟩ := r1.bytes'
  exact call_isinstance_yes (Tx := "bytes") (typeIs_bytes _ _ _) rfl (by rw [isSubtype_type]; kernel_rfl) ⟨i1, k1, .bool⟩

theorem Reps.strs {h : Heap} : ∀ {vs : List Value} {ys : List Str}, Reps X h vs (ys.map .str) → StrsAre vs ys
  | [], [], _ => .nil
  | v :: vs, n :: ns, .cons a r => by
    cases a
    exact .cons _ _ (Reps.strs r)
theorem Op2.join {x : Str} {ys : List Str} (hok : (ys.map (·.length)).sum + ys.length * x.length ≤ 16777216) : Op2 g (fun a b => call (.builtin "str.join") [a, b]) (.str x) (.list (ys.map .str)) (.str (Txt.join x ys)) := by
  intro ℓ A X s va vb hA hI hX h1 h2
  cases h1
  obtain ⟨a, vs, rfl, na, hl, hz, r2⟩ := h2.list'
  exact join_list hl.isList (by simpa using r2.strs) hok fun t' k => Post.tok hI .str _

set_option maxRecDepth 100000 in
theorem Ev.methS {o elt : Expr} {apos pos : Pos} {name : Str} {id : String} {x : Str} {a d : D} (slot : Slot "str" name id) (hty : typeOf (.builtin id) = pure (.type "method_descriptor"))
    (h1 : Ev g ℓ fi ρ o (.str x)) (h2 : Ev g ℓ fi ρ elt a) (ht : Op2 g (fun a b => PySem.call (.builtin id) [a, b]) (.str x) a d)
    (hbase : ∀ env, attributeBase o name env (eval o env) = eval o env := by intro _; rfl) (hline : (apos.endLine == pos.line) = true := by decide) (he : ∀ env, starEach [elt] env = [(false, eval elt env)] := by intro _; rfl) : Ev g ℓ fi ρ (.Call (.Attribute o name apos) [elt] [] pos) d := by
  intro A X env s hA hI hE hX hF
  rw [arm_eval_Call, hbase]
  refine wpAny_bind (wpQ (h1 A X env s hA hI hE hX hF) fun va s₁ ⟨i1, k1, r1⟩ => ?_)
  obtain ⟨t, rfl⟩ : ∃ t, va = .str x t := by cases r1; exact ⟨_, rfl⟩
  refine wpAny_bind (wpAny_standAt ?_)
  have htrees : backTo pos (starEach [elt] env) = [(false, eval elt env)] := by rw [he]; rfl
  have fin : wpAny g.M A (callWith pos (.builtin id) [.str x t] (backTo pos (starEach [elt] env)) []) (Post g X s d) NoE s₁ := by
    rw [htrees]
    refine Calls.callWith_builtin rfl (Calls.evalArgs_plain (Calls.spliced_cons ?_))
    refine wpQ (h2 A X env s₁ hA i1 hE (hX.keep k1) (hF.keep hI.tabs k1)) fun vb s₂ ⟨i2, k2, r2⟩ => Calls.spliced_nil ?_
    exact wpQ (ht ℓ A X s₂ _ vb hA i2 ((hX.keep k1).keep k2) .str r2) fun v s' p => p.more (k1.trans k2)
  have hform : methodCallForm (([elt] : List Expr).length + ([] : List Keyword).length) (backTo pos (starEach [elt] env)) (backToKw pos (keywordEach [] env)) = true := by rw [htrees]; rfl
  have hpos : methodCallPos true o env apos pos = pure pos := by unfold methodCallPos; simp [hline]
  unfold methodCall
  rw [hform]
  refine wpAny_bind (wpAny_holding ?_)
  have hT : s₁.TypeIs (.str x t) "str" := typeIs_str _ _ _
  refine getMethod_builtin hT PySem.F.plainAttrs_str slot hty (fun _ e => nomatch e) ?_
  exact wpAny_bind (wpAny_of_eq hpos fin)
end Mine


/- WV -/
namespace Mine
variable {g : Gx} {ℓ : Nat} {fi : FI} {X : List Addr} {h₀ : Heap} {O : List (Str × Addr)} {env : Env} {σ : St} {s : Shared} {ρ : AEnv} {H : Heap} {Dd : Addr} {ds : List D}

def ExK (g : Gx) (ℓ : Nat) (fi : FI) (σ : St) (ss : List Stmt) (Q : St → Prop) : Prop :=
  ∀ A X h₀ O env s, AOk ℓ A → FrX g X h₀ O fi env σ s → wpAny g.M A (execs ss env) (fun f s' => ∃ σ', f = .next ∧ FrX g X h₀ O fi env σ' s' ∧ KeepX g fi env [] s.heap s'.heap ∧ Alive s.heap s'.heap ∧ Q σ') NoE s

theorem ExK.assign {x : Str} {px pos : Pos} {value : Expr} {d : D} {Q : St → Prop} (h : EvS g ℓ fi σ value d) (ho : okStore fi σ x) (hq : Q (σ.put x d))
    (hs : ∀ env, swapsWith value (some (.Name x px)) pos.line env = pure false := by intro _; rfl) : ExK g ℓ fi σ [.Assign [.Name x px] value pos] Q := by
  intro A X h₀ O env s hA F
  refine wpAny_execs_cons ?_
  refine wpAny_Assign_Name (wpQ (h.run hA F) fun v s₁ ⟨F₁, k₁, r₁⟩ => ?_) (hs env)
  refine F₁.store ho.1 ho.2 r₁ fun s' F' k' al' => ?_
  refine wpAny_execs_nil ?_
  exact ⟨_, rfl, F', (KeepX.of_keep k₁).trans k' (fun p hp => nomatch hp), (Alive.of_keep F₁.inv.tabs k₁).trans al', hq⟩

theorem loop_it {x : Str} {px : Pos} {body : List Stmt} {items : List D} {A : Around} {I : Addr} {ax : List Addr} {P : Nat → Value → Prop} {S : Nat → Heap → Prop} {R : Result → Shared → Prop} (J : Nat → St → Prop) (hA : AOk ℓ A) (F₂ : FrX g X h₀ O fi env σ s) (W : Walks g.prog g.w A I (I :: ax) [I] items.length P S) (st0 : S 0 s.heap)
    (hio : ∀ i h, S i h → IterO h I) (hP : ∀ i v, i < items.length → P i v → ∃ d, items[i]? = some d ∧ Rep (X ++ O.map (·.2)) s.heap v d) (hIh : h₀.get? I = none) (hIX : I ∉ X) (axF : ∀ a ∈ ax, a ∉ g.Tb ∧ ¬ OwnA fi env a) (h0 : J 0 σ)
    (hstep : ∀ i σ', J i σ' → ∀ d, items[i]? = some d → okStore fi σ' x ∧ ExK g ℓ fi (σ'.put x d) body (J (i + 1)))
    (hend : ∀ σ' s', J items.length σ' → FrX g X h₀ O fi env σ' s' → (∀ a o, a ∉ g.Tb → ¬ OwnA fi env a → a ≠ I → s.heap.get? a = some o → s'.heap.get? a = some o) → (∀ a o, a ≠ I → s.heap.get? a = some o → ∃ o', s'.heap.get? a = some o') → R (.ok .next) s') : codeAny g.M A (.forLoop (.Name x px) (.ref I) body [] env) R s := by
  have i2 := F₂.inv
  have iI : IterO s.heap I := hio 0 _ st0
  have hI1 : I ∉ g.Tb := iI.noTab i2.tabs
  have hI2 : ¬ OwnA fi env I := own_noIter F₂ iI
  refine forLoop' (fun n s' => ∃ i σ', i ≤ items.length ∧ n = items.length + 1 - i ∧ FrX g X h₀ O fi env σ' s' ∧ J i σ' ∧ S i s'.heap ∧ (∀ a o, a ∉ g.Tb → ¬ OwnA fi env a → a ≠ I → s.heap.get? a = some o → s'.heap.get? a = some o) ∧ Alive s.heap s'.heap) ?_ (items.length + 1)
    ⟨0, σ, Nat.zero_le _, rfl, F₂, h0, st0, (fun _ _ _ _ _ e => e), .refl _⟩
  rintro n s' ⟨i, σ', hi, rfl, F', hJ, st', K', AL'⟩
  have iI' : IterO s'.heap I := hio i _ st'
  by_cases hlt : i < items.length
  · refine W.item i _ _ _ hlt st' fun v h₁ tk₁ hPv st₁ kk₁ => ?_
    have kk₁' : ∀ b o, b ≠ I → s'.heap.get? b = some o → h₁.get? b = some o := fun b o hb e => kk₁ b o (by simpa using hb) e
    have F₃ := F'.poke (tk := tk₁) iI' hIh hIX kk₁'
    obtain ⟨d, hd, hr⟩ := hP i v hlt hPv
    have hr3 : Rep (X ++ O.map (·.2)) h₁ v d := hr.keepR fun a o e q => by
      have z : a ≠ I := fun z => by subst z; exact iI.noSeq e q
      exact kk₁' a o z (K' a o (tab_noSeq i2.tabs e q) (own_noSeq F₂ e q) z e)
    obtain ⟨hst, hbody⟩ := hstep i σ' hJ d hd
    refine letGo_ok (by obtain ⟨o, T, vs, e, c, _, _, _, q⟩ := hio _ _ st₁; exact ⟨o, T, e, c, q⟩) ?_
    refine wpAny_assign_Name (F₃.store hst.1 hst.2 hr3 fun s₄ F₄ k4 al4 => ?_)
    refine wpQ (hbody A X h₀ O env s₄ hA F₄) ?_
    rintro f s₅ ⟨σ₅, rfl, F₅, k5, al5, hJ5⟩
    have kk : KeepX g fi env [] h₁ s₅.heap := k4.trans k5 (fun p hp => nomatch hp)
    have kk' : ∀ a o, a ∉ g.Tb → ¬ OwnA fi env a → h₁.get? a = some o → s₅.heap.get? a = some o := fun a o h1 h2 e => kk a o h1 h2 (fun h => nomatch h) e
    have alI : Alive s'.heap h₁ := fun a o e => by
      by_cases z : a = I
      · obtain ⟨oI, TI, vI, eI, _⟩ := hio _ _ st₁; exact ⟨oI, z ▸ eI⟩
      · exact ⟨o, kk₁' a o z e⟩
    refine ⟨items.length + 1 - (i + 1), by lia, i + 1, σ₅, hlt, rfl, F₅, hJ5, ?_, fun a o h1 h2 z e => kk' a o h1 h2 (kk₁' a o z (K' a o h1 h2 z e)), AL'.trans (alI.trans (al4.trans al5))⟩
    refine W.frame _ _ _ st₁ fun b hb o e => ?_
    rcases List.mem_cons.mp hb with rfl | hb
    · exact kk' _ o hI1 hI2 e
    · obtain ⟨a2, a3⟩ := axF b hb
      exact kk' b o a2 a3 e
  · have hin : i = items.length := by lia
    subst hin
    refine W.done _ _ _ st' fun h₁ tk₁ kk₁ => ?_
    have kk₁' : ∀ b o, b ≠ I → s'.heap.get? b = some o → h₁.get? b = some o := fun b o hb e => kk₁ b o (by simpa using hb) e
    have F₃ := F'.poke (tk := tk₁) iI' hIh hIX kk₁'
    refine wpAny_execs_nil (hend σ' _ hJ F₃ (fun a o h1 h2 z e => kk₁' a o z (K' a o h1 h2 z e)) fun a o z e => ?_)
    obtain ⟨o', e'⟩ := AL' a o e
    exact ⟨o', kk₁' a o' z e'⟩
end Mine


/- WW -/
namespace Mine
variable {g : Gx} {ℓ : Nat} {fi : FI} {X : List Addr} {h₀ : Heap} {O : List (Str × Addr)} {env : Env} {σ : St} {s : Shared} {ρ : AEnv} {H : Heap} {Dd : Addr} {ds : List D}

def Gx.onto (g : Gx) (h : Heap) (X : List Addr) : Gx := { g with b := hideAll h (g.Tb ++ X) }

theorem onto_stays (hg : GOk g) (i : Inv g s) (hX : XOk g X s.heap) : ∀ a o, g.b.get? a = some o → (g.onto s.heap X).b.get? a = some o := fun a o e => by
  refine hideAll_get _ (i.stays a o e) fun m => ?_
  rcases List.mem_append.mp m with m | m
  · rw [hg.notab a m] at e; cases e
  · rw [(hX a m).2.2] at e; cases e
theorem GOk.onto (hg : GOk g) (i : Inv g s) (hX : XOk g X s.heap) : GOk (g.onto s.heap X) := by
  have st := onto_stays hg i hX
  refine ⟨fun a o e => st a o (hg.kin a o e), hg.nolimit.keeps st, hg.globals.keeps st, hg.builtins.keeps st, hg.mbIs, fun q hq => (hg.codes q hq).keeps st, fun t ht => hideAll_none _ (List.mem_append_left _ ht), ?_⟩
  obtain ⟨bm, ob, b1, b2, b3, b4⟩ := hg.bmain
  exact ⟨bm, ob, b1, b2, st _ _ b3, b4⟩
theorem Inv.onto (i : Inv g s) (X : List Addr) : Inv (g.onto s.heap X) s := ⟨i.same, fun a o e => of_hideAll _ e, i.tabs⟩
theorem XOk.onto (hX : XOk g X s.heap) : XOk (g.onto s.heap X) X s.heap := fun a ha => ⟨(hX a ha).1, (hX a ha).2.1, hideAll_none _ (List.mem_append_right _ ha)⟩
theorem Post.back {s₀ : Shared} {d : D} {v : Value} {s' : Shared} (st : ∀ a o, g.b.get? a = some o → (g.onto s.heap X).b.get? a = some o) (p : Post (g.onto s.heap X) X s₀ d v s') : Post g X s₀ d v s' :=
  ⟨⟨p.1.same, fun a o e => p.1.stays a o (st a o e), p.1.tabs⟩, p.2, p.3⟩

theorem kin_base (t : TabsOK g s.heap) (hX : XOk g X s.heap) : Kin X [] s.heap (g.onto s.heap X).b := fun a o e z => ⟨hideAll_get _ e fun m => by
  rcases List.mem_append.mp m with m | m
  · exact z.notab t e m
  · obtain ⟨⟨o', e', c', _⟩, _⟩ := hX _ m
    rw [e] at e'; cases e'
    exact z.nin c' m, fun _ h => nomatch h⟩
theorem Rep.base (t : TabsOK g s.heap) {v : Value} {d : D} (r : Rep X s.heap v d) (hX : XOk g X s.heap) : Rep [] (g.onto s.heap X).b v d := r.map (kin_base t hX)
theorem kin_lift (i : Inv g s) (hX : XOk g X s.heap) : Kin [] X g.b s.heap := fun a o e z => ⟨i.stays _ _ e, fun _ m => by rw [(hX _ m).2.2] at e; cases e⟩
theorem Rep.lift (i : Inv g s) (hX : XOk g X s.heap) {v : Value} {d : D} (r : Rep [] g.b v d) : Rep X s.heap v d := r.map (kin_lift i hX)
theorem Ev.globB (hg : GOk g) {x : Str} {pos : Pos} {v : Value} {d : D} (hk : fi.sc.names.lookup x = some .globalImplicit) (hv : GlobV g x v) (hr : Rep [] g.b v d) (hn : okName x = true := by decide) : Ev g ℓ fi ρ (.Name x pos) d :=
  fun A X env s hA hI hE hX hF => evalGlob hg hI hE hk hv hn (Post.same hI (hr.lift hI hX))

inductive FnH (X : List Addr) (h : Heap) (f : Value) (params : Arguments) (body : FuncBody) (sc : Scope) (ρc : AEnv) : Prop where
  | mk (a : Addr) (o : Obj) (fd : FuncData) (cc : Addr) (qn : Str) (ea : f = .ref a) (eo : h.get? a = some o) (ec : o.cls = .type "function") (ed : o.data = .func fd) (e1 : fd.params = params) (e2 : fd.body = body) (e3 : fd.scope = sc) (e4 : fd.globals = mainGlobals) (e5 : fd.builtins = builtinsNs) (e6 : fd.defaults = .none) (e7 : fd.kwdefaults = .none) (e8 : fd.code = .ref cc) (cd : CodeAt h cc qn)
    (cl : ∀ x c, fd.closure.lookup x = some c → ∃ v, h.IsCell c v) (fr : ∀ x, sc.names.lookup x = some .free → ∃ c, fd.closure.lookup x = some c)
    (va : ∀ x d, ρc.lookup x = some d → sc.names.lookup x = some .free ∧ ∃ c v, fd.closure.lookup x = some c ∧ h.IsCell c (some v) ∧ Rep X h v d)

theorem FnH.move {Y : List Addr} {h h' : Heap} {f : Value} {params : Arguments} {body : FuncBody} {sc : Scope} {ρc : AEnv} (k : ∀ a o, h.get? a = some o → o.cls ≠ .none → (∀ its n, o.data ≠ .seq its n) → h'.get? a = some o) (kc : ∀ c v, h.IsCell c v → h'.IsCell c v) (kr : ∀ x v d, ρc.lookup x = some d → Rep X h v d → Rep Y h' v d)
    (x : FnH X h f params body sc ρc) : FnH Y h' f params body sc ρc := by
  obtain ⟨a, o, fd, cc, qn, rfl, e, c, dd, p1, p2, p3, p4, p5, p6, p7, p8, ⟨oc, vs, t, z1, z2, z3, z4⟩, p10, p11, p12⟩ := x
  refine ⟨a, o, fd, cc, qn, rfl, k a o e (by rw [c]; nofun) (fun _ _ q => by rw [dd] at q; cases q), c, dd, p1, p2, p3, p4, p5, p6, p7, p8, ⟨oc, vs, t, k _ _ z1 (by rw [z2]; nofun) (fun _ _ q => by rw [z3] at q; cases q), z2, z3, z4⟩, fun x c hc => ?_, p11, fun x d hd => ?_⟩
  · obtain ⟨v, hv⟩ := p10 x c hc; exact ⟨v, kc _ _ hv⟩
  · obtain ⟨q0, c, v, q1, q2, q3⟩ := p12 x d hd; exact ⟨q0, c, v, q1, kc _ _ q2, kr _ _ _ hd q3⟩
theorem FnH.keep {h h' : Heap} {f : Value} {params : Arguments} {body : FuncBody} {sc : Scope} {ρc : AEnv} (t : TabsOK g h) (k : Keep g h h') (x : FnH X h f params body sc ρc) : FnH X h' f params body sc ρc :=
  x.move (fun a o e c _ => k a o (tab_cls t e c) e) (fun c v hv => by obtain ⟨o, e, d⟩ := id hv; exact ⟨o, k _ _ (IsCell.apart t hv) e, d⟩) fun _ _ _ _ r => r.keep t k
theorem FnH.base {f : Value} {params : Arguments} {body : FuncBody} {sc : Scope} {ρc : AEnv} (t : TabsOK g s.heap) (hX : XOk g X s.heap) (x : FnH X s.heap f params body sc ρc) : FnH [] (g.onto s.heap X).b f params body sc ρc := by
  have nX : ∀ a o, s.heap.get? a = some o → (∀ its n, o.data ≠ .seq its n) → a ∉ X := fun a o e hd m => by
    obtain ⟨⟨o', e', _, its, k, q⟩, _⟩ := hX a m
    rw [e] at e'; cases e'; exact hd _ _ q
  refine x.move (fun a o e c hd => hideAll_get _ e fun m => ?_) (fun c v hv => ?_) fun _ _ _ _ r => r.base t hX
  · rcases List.mem_append.mp m with m | m
    · exact tab_cls t e c m
    · exact nX a o e hd m
  · obtain ⟨o, e, d⟩ := id hv
    refine ⟨o, hideAll_get _ e fun m => ?_, d⟩
    rcases List.mem_append.mp m with m | m
    · exact IsCell.apart t hv m
    · exact nX c o e (fun _ _ q => by rw [d] at q; cases q) m

section
variable {prog : Program} {w : World} {A : Around} {R : Result → Shared → Prop}
theorem callFun {a : Addr} {args : Args} {o : Obj} {fd : FuncData} {cc : Addr} {qn : Str} (hroom : A.depth < recursionLimit) (ho : s.heap.get? a = some o) (hd' : o.data = .func fd) (hco : fd.scope.isCoroutine = false) (hgen : fd.scope.isGenerator = false) (hcode : fd.code = .ref cc) (hcd : CodeAt s.heap cc qn)
    (h : wpAny (model prog w) A.in1 (bindArgs fd args) (fun binds s₁ =>
      wpAny (model prog w) A.in1 (newFunctionEnv fd.scope fd.globals fd.closure binds (qn ++ ".<locals>.") (some a) fd.code none fd.builtins)
        (fun env s₂ => s₂.heap.NoLimit ∧ codeAny (model prog w) A (match fd.body with | .stmts b => .func b env | .expr e => .expr e env) R s₂) (fun e s' => R (.error e) s') s₁) (fun e s' => R (.error e) s') s) :
    codeAny (model prog w) A (.call (.ref a) args) R s := by
  refine codeAny_of_tree ?_
  show wpAny _ A.in1 (callAny (.ref a) args) _ _ s
  simp only [callAny]
  refine wpAny_bind (wpAny_load ho ?_)
  obtain ⟨oc, vs, tq, hoc, _, hdc, hq⟩ := hcd
  rw [hcode] at h
  simp only [hd', callFunction, hco, hgen, hcode]
  refine wpAny_bind (m := field (.ref cc) 1) (wpAny_field hoc hdc hq (wpAny_bind (wpAny_pure ?_)))
  exact wpAny_bind (wpAny_mono h (fun binds s₁ h₁ => wpAny_bind (wpAny_mono h₁ (fun env s₂ h₂ => wpAny_bind (wpAny_enterFrame h₂.1 hroom
    (wpAny_pure (And.intro (by cases fd.body <;> rfl) h₂.2)))) fun _ _ h' => h')) fun _ _ h' => h')
end

structure ScOk (sc : Scope) (xs : List Str) : Prop where
  kind : sc.kind = .function
  gen : sc.isGenerator = false
  co : sc.isCoroutine = false
  nd : (sc.names.map (·.1)).Nodup
  xnd : xs.Nodup
  xk : ∀ x ∈ xs, sc.names.lookup x = some .local ∨ sc.names.lookup x = some .cell

abbrev FI.fn (sc : Scope) (cd : Value) : FI := ⟨sc, cd, (sc.names.filter (·.2 == .cell)).map (·.1)⟩

def BodyOK (g : Gx) (ℓ : Nat) (sc : Scope) (cd : Value) (ρ : AEnv) (body : FuncBody) (d : D) : Prop := match body with
  | .stmts ss => Ex g ℓ (FI.fn sc cd) ⟨ρ, []⟩ ss fun _ fl => fl = .ret d ∨ (fl = .next ∧ d = .none)
  | .expr e => Ev g ℓ (FI.fn sc cd) ρ e d

theorem CallOK.fun (hg : GOk g) {f : Value} {params : Arguments} {body : FuncBody} {sc : Scope} {ρc : AEnv} {xs : List Str} {ds : List D} {d : D} (hf : FnH [] g.b f params body sc ρc) (hsc : ScOk sc xs) (hl : xs.length = ds.length)
    (hbind : ∀ (fd : FuncData) (vs : List Value), fd.params = params → fd.defaults = .none → fd.kwdefaults = .none → vs.length = xs.length → bindArgs fd ⟨vs, []⟩ = pure (xs.zip vs))
    (h : ∀ cd, BodyOK g ℓ sc cd (xs.zip ds ++ ρc) body d) : CallOK g (ℓ + 1) f ds d := by
  intro A X s vs hA hI hX r
  obtain ⟨a, o, fd, cc, qn, rfl, e, c, dd, p1, p2, rfl, p4, p5, p6, p7, p8, p9, p10, p11, p12⟩ := hf
  have hroom : A.depth < recursionLimit := by have := hA.depth; lia
  have hvl : vs.length = xs.length := by rw [r.length]; exact hl.symm
  have hcd : CodeAt s.heap cc qn := by obtain ⟨oc, ws, t, z1, z2⟩ := p9; exact ⟨oc, ws, t, hI.stays _ _ z1, z2⟩
  refine wpAny_call (codeAny_mono (R := fun r s' => ∃ v, r = .ok (.ret v) ∧ Post g X s d v s') ?_ ?_)
  · refine callFun hroom (hI.stays _ _ e) dd hsc.co hsc.gen p8 hcd ?_
    rw [hbind fd vs p1 p6 p7 hvl]
    refine wpAny_pure ?_
    rw [p4, p5]
    refine enter hsc.kind hsc.nd (fun p hp => hsc.xk _ (List.of_mem_zip hp).1) (fun x c hc => by obtain ⟨v, o, e, _⟩ := p10 x c hc; exact ⟨o, hI.stays _ _ e⟩) fun L cells s₂ Ent => ?_
    refine ⟨(hg.nolimit.keeps hI.stays).keeps Ent.keep, ?_⟩
    obtain ⟨env, hE⟩ : ∃ x, newEnv fd.scope L mainGlobals cells (qn ++ ".<locals>.") (some a) fd.code none builtinsNs = x := ⟨_, rfl⟩
    rw [hE] at Ent ⊢
    have stc : ∀ c v, g.b.IsCell c v → s.heap.IsCell c v := fun c v ⟨o, e, d⟩ => ⟨o, hI.stays _ _ e, d⟩
    have FX := enterFr (g := g) (X := X) (cd := fd.code) (ρc := ρc) Ent hI hX r hl hsc.xnd hsc.nd hsc.kind hsc.xk (by rw [← hE]; rfl) (by rw [← hE]; rfl) (by rw [← hE]; rfl) (by rw [← hE]; rfl)
      (fun x hx => by obtain ⟨c, hc⟩ := p11 x hx; obtain ⟨v, hv⟩ := p10 x c hc; exact ⟨c, v, hc, stc _ _ hv⟩)
      (fun x d hd => by obtain ⟨q0, c, v, q1, q2, q3⟩ := p12 x d hd; exact ⟨q0, c, v, q1, stc _ _ q2, q3.lift hI hX⟩)
    rw [p2]
    have P : ∀ {s' : Shared} {v : Value}, Inv g s' → Keep g s.heap s'.heap → Rep X s'.heap v d → ∃ v', (Except.ok (Flow.ret v) : Result) = .ok (.ret v') ∧ Post g X s d v' s' := fun {s' v} i k hv => ⟨v, rfl, i, k, hv⟩
    cases body with
    | stmts ss =>
      refine codeAny_func ?_
      refine wpQ (h fd.code _ X s.heap [] env s₂ (hA.deeper env) FX) ?_
      rintro f s' ⟨σ', O', fl, F', _, _, _, hf, hq⟩
      rcases hq with rfl | ⟨rfl, rfl⟩
      · cases f with | ret v => exact P F'.inv F'.keep hf | _ => exact hf.elim
      · cases f with | next => exact P F'.inv F'.keep .none | _ => exact hf.elim
    | expr ex =>
      refine kla_codeExpr ?_
      refine wpQ (h fd.code _ X env s₂ (hA.deeper env) FX.inv FX.eok FX.xok FX.full) fun v s' ⟨i, k, r⟩ => P i ((Keep.of Ent.keep).trans k) r
  · rintro r s' ⟨v, rfl, hp⟩
    exact hp
end Mine


/- WX -/
namespace Mine
variable {g : Gx} {ℓ : Nat} {fi : FI} {X : List Addr} {h₀ : Heap} {O : List (Str × Addr)} {env : Env} {σ : St} {s : Shared} {ρ : AEnv} {H : Heap} {Dd : Addr} {ds : List D}

theorem among_snoc {pos p : Pos} {c c' : Value} : ∀ (l : List Value), TriplesOk l → codeAmong p (l ++ [rawInt pos.line, rawInt pos.col, c]) = some c' → codeAmong p l = some c' ∨ c' = c := by
  intro l h
  fun_induction TriplesOk l with
  | case1 =>
    simp only [List.nil_append, codeAmong, rawInt]
    intro e
    split at e
    · cases e; exact .inr rfl
    · cases e
  | case2 a t b u x rest ih =>
    simp only [List.cons_append, codeAmong]
    intro e
    split at e
    · rename_i hc; rw [if_pos hc]; exact .inl e
    · rename_i hc; rw [if_neg hc]; exact ih h e
  | case3 l h1 h2 => exact h.elim

theorem inv_told (hg : GOk g) (hI : Inv g s) {c P : Addr} (hq : (c, P) ∈ g.tabs) {ps : Array Value} (hP : s.heap.get? P = some (tabObj ps)) (ht : TriplesOk ps.toList) (hcs : ∀ pos c', codeAmong pos ps.toList = some c' → ∃ cc qn, c' = .ref cc ∧ CodeAt s.heap cc qn ∧ cc ∉ g.Tb)
    {h' : Heap} {tk : Nat} {pos : Pos} {cc : Addr} {qn : Str} (hx : Heap.ExtBut P s.heap h') (hge : s.heap.objs.size ≤ cc) (hc : CodeAt h' cc qn) (hP' : h'.get? P = some (tabObj (ps ++ #[rawInt pos.line, rawInt pos.col, .ref cc]))) :
    Inv g { s with heap := h', toks := tk } ∧ Keep g s.heap h' := by
  have hPT : P ∈ g.Tb := List.mem_map.mpr ⟨_, hq, rfl⟩
  have ccT : cc ∉ g.Tb := fun hm => by
    obtain ⟨q, hq', rfl⟩ := List.mem_map.mp hm
    obtain ⟨ps', e', _⟩ := hI.tabs q hq'
    exact absurd (Heap.lt_size e') (Nat.not_lt.mpr hge)
  have kk : ∀ a o, a ∉ g.Tb → s.heap.get? a = some o → h'.get? a = some o := fun a o ha e => hx a o (fun z => ha (z ▸ hPT)) e
  refine ⟨⟨?_, fun a o e => kk a o (fun m => by rw [hg.notab a m] at e; cases e) (hI.stays a o e), fun q hq' => ?_⟩, kk⟩
  · obtain ⟨h1, t1, e1⟩ := hI.same
    exact ⟨h', tk, by rw [e1]⟩
  · have codeK : ∀ cc' qn', CodeAt s.heap cc' qn' → cc' ∉ g.Tb → CodeAt h' cc' qn' := fun cc' qn' ⟨o, vs, t, z1, z2⟩ hn => ⟨o, vs, t, kk _ _ hn z1, z2⟩
    by_cases hqP : q.2 = P
    · refine ⟨ps ++ #[rawInt pos.line, rawInt pos.col, .ref cc], by rw [hqP]; exact hP', ?_, fun pos' c' hc' => ?_⟩
      · rw [Array.toList_append]; exact TriplesOk_snoc _ _ _ _ ht
      · rw [Array.toList_append] at hc'
        rcases among_snoc _ ht hc' with z | rfl
        · obtain ⟨cc', qn', rfl, q1, q2⟩ := hcs _ _ z
          exact ⟨cc', qn', rfl, codeK _ _ q1 q2, q2⟩
        · exact ⟨cc, qn, rfl, hc, ccT⟩
    · obtain ⟨ps', e', t', c'⟩ := hI.tabs q hq'
      refine ⟨ps', hx _ _ hqP e', t', fun pos' c'' hc'' => ?_⟩
      obtain ⟨cc', qn', rfl, q1, q2⟩ := c' _ _ hc''
      exact ⟨cc', qn', rfl, codeK _ _ q1 q2, q2⟩

inductive Made (g : Gx) (s : Shared) (params : Arguments) (body : FuncBody) (scope : Scope) (clos : List (Str × Addr)) (v : Value) (s' : Shared) : Prop where
  | mk (a : Addr) (fd : FuncData) (cc : Addr) (qn : Str) (ev : v = .ref a) (inv : Inv g s') (keep : Keep g s.heap s'.heap) (en : s.heap.get? a = none) (ea : s'.heap.get? a = some { cls := .type "function", data := .func fd }) (e1 : fd.params = params) (e2 : fd.body = body) (e3 : fd.scope = scope) (e4 : fd.globals = mainGlobals) (e5 : fd.builtins = builtinsNs)
    (e6 : fd.defaults = .none) (e7 : fd.kwdefaults = .none) (e8 : fd.closure = clos) (e9 : fd.code = .ref cc) (cd : CodeAt s'.heap cc qn)

theorem mkFun (hg : GOk g) (hI : Inv g s) {name qual : Str} {params : Arguments} {body : FuncBody} {scope : Scope} {pos : Pos} {firstLine : Nat} {clos : List (Str × Addr)} {c P : Addr} {A : Around} {E : Value → Shared → Prop}
    (hcl : closureFor scope env = pure clos) (hge0 : env.globals = mainGlobals) (hcode : env.code = .ref c) (hq : (c, P) ∈ g.tabs) :
    wpAny g.M A (makeFunction name qual params body scope env [] [] [] pos firstLine) (Made g s params body scope clos) E s := by
  obtain ⟨ps, hP, ht, hcs⟩ := hI.tabs _ hq
  have hP : s.heap.get? P = some (tabObj ps) := hP
  have C : CodeHd s.heap c P := (hg.codes _ hq).keeps hI.stays
  have hgl : s.heap.Ns mainGlobals g.mg := hg.globals.keeps hI.stays
  have hPT : P ∈ g.Tb := List.mem_map.mpr ⟨_, hq, rfl⟩
  have hgP : mainGlobals ≠ P := fun e => Ns.apart hI.tabs hgl (e ▸ hPT)
  obtain ⟨bm, ob, hbm, hne0, hbo0, hcls, hdict, hdata⟩ := hg.bmain
  have hbo := hI.stays _ _ hbo0
  have hneP : bm ≠ P := fun e => tab_cls hI.tabs hbo (by rw [hcls]; nofun) (e ▸ hPT)
  rw [makeFunction_eq]
  simp only [List.zip_nil_right, List.filterMap_nil, List.isEmpty_nil, if_true, pure_bind]
  unfold makeTail
  rw [hcl, hge0]
  refine wpAny_bind (wpAny_pure ?_)
  -- the new state
  have fin : ∀ (h' : Heap) (tk : Nat) (cc : Addr) (qn : Str) (fd : FuncData), Inv g { s with heap := h', toks := tk } → Keep g s.heap h' → s.heap.objs.size ≤ h'.objs.size → CodeAt h' cc qn → fd.params = params → fd.body = body → fd.scope = scope → fd.globals = mainGlobals → fd.builtins = builtinsNs →
      fd.defaults = .none → fd.kwdefaults = .none → fd.closure = clos → fd.code = .ref cc → Made g s params body scope clos (.ref h'.objs.size) { s with heap := h'.push { cls := .type "function", data := .func fd }, toks := tk } := by
    intro h' tk cc qn fd i k hsz hc p1 p2 p3 p4 p5 p6 p7 p8 p9
    have kk := push_keeps h' { cls := .type "function", data := .func fd }
    obtain ⟨oc, ws, t, z1, z2⟩ := hc
    exact ⟨_, fd, cc, qn, rfl, i.of_keeps (tk := tk) kk, k.trans (Keep.of kk), Heap.get?_none_of_le hsz, Heap.get?_push_size _ rfl, p1, p2, p3, p4, p5, p6, p7, p8, p9, oc, ws, t, kk _ _ z1, z2⟩
  have tail : ∀ (ctv cdv : Value) (s₁ : Shared) (cc : Addr) (qn : Str), (∃ h' tk, s₁ = { s with heap := h', toks := tk }) → Inv g s₁ → Keep g s.heap s₁.heap → s.heap.objs.size ≤ s₁.heap.objs.size → CodeAt s₁.heap cc qn → cdv = .ref cc → s₁.heap.Ns mainGlobals g.mg → s₁.heap.get? bm = some ob →
      wpAny g.M A (do
        let b ← builtinsFor mainGlobals env.builtins
        let n ← nsGet mainGlobals "__name__"
        match body with
        | .stmts bb => do
          let d ← (match docOf bb with | some s => mkText s | none => pure .none)
          newObj (.type "function") (.func { name, qualname := qual, params, body, scope, globals := mainGlobals, closure := clos, defaults := .none, kwdefaults := .none, doc := d, pyModule := n.getD .none, annotations := none, code := cdv, closureTuple := ctv, builtins := b })
        | .expr _ => do
          let d ← pure .none
          newObj (.type "function") (.func { name, qualname := qual, params, body, scope, globals := mainGlobals, closure := clos, defaults := .none, kwdefaults := .none, doc := d, pyModule := n.getD .none, annotations := none, code := cdv, closureTuple := ctv, builtins := b })) (Made g s params body scope clos) E s₁ := by
    rintro ctv cdv s₁ cc qn ⟨h', tk, rfl⟩ i k hsz hc rfl hgl' hbo'
    refine wpAny_bind (wpAny_builtinsFor hgl' hbm hne0 hbo' hcls hdict hdata ?_)
    refine wpAny_bind (wpAny_nsGet hgl' ?_)
    cases body with
    | expr e => exact wpAny_bind (wpAny_pure (wpAny_newObj_type (fin h' tk cc qn _ i k hsz hc rfl rfl rfl rfl rfl rfl rfl rfl rfl) (by size_fits)))
    | stmts b =>
      cases hdoc : docOf b with
      | none => simp only [hdoc]; exact wpAny_bind (wpAny_pure (wpAny_newObj_type (fin h' tk cc qn _ i k hsz hc rfl rfl rfl rfl rfl rfl rfl rfl rfl) (by size_fits)))
      | some t => simp only [hdoc]; exact wpAny_bind (wpAny_mkText (wpAny_newObj_type (fin h' _ cc qn _ (i.tok _) k hsz hc rfl rfl rfl rfl rfl rfl rfl rfl rfl) (by size_fits)))
  have mid : ∀ (ctv : Value) (s₁ : Shared), (∃ h' tk, s₁ = { s with heap := h', toks := tk }) → (∀ b o, s.heap.get? b = some o → s₁.heap.get? b = some o) → s.heap.objs.size ≤ s₁.heap.objs.size →
      wpAny g.M A (functionCode env pos firstLine name qual params scope body >>= fun cdv => do
        let b ← builtinsFor mainGlobals env.builtins
        let n ← nsGet mainGlobals "__name__"
        match body with
        | .stmts bb => do
          let d ← (match docOf bb with | some s => mkText s | none => pure .none)
          newObj (.type "function") (.func { name, qualname := qual, params, body, scope, globals := mainGlobals, closure := clos, defaults := .none, kwdefaults := .none, doc := d, pyModule := n.getD .none, annotations := none, code := cdv, closureTuple := ctv, builtins := b })
        | .expr _ => do
          let d ← pure .none
          newObj (.type "function") (.func { name, qualname := qual, params, body, scope, globals := mainGlobals, closure := clos, defaults := .none, kwdefaults := .none, doc := d, pyModule := n.getD .none, annotations := none, code := cdv, closureTuple := ctv, builtins := b })) (Made g s params body scope clos) E s₁ := by
    rintro ctv s₁ ⟨h₁, tk₁, rfl⟩ kk hsz
    have i1 : Inv g { s with heap := h₁, toks := tk₁ } := hI.of_keeps kk
    have C1 := C.keeps kk
    have hP1 := kk _ _ hP
    have hcs1 : ∀ pos c', codeAmong pos ps.toList = some c' → ∃ cc qn, c' = .ref cc ∧ CodeAt h₁ cc qn ∧ cc ∉ g.Tb := fun p c' e => by
      obtain ⟨cc, qn, rfl, ⟨o, vs, t, z1, z2⟩, n⟩ := hcs p c' e
      exact ⟨cc, qn, rfl, ⟨o, vs, t, kk _ _ z1, z2⟩, n⟩
    cases hf : codeAmong pos ps.toList with
    | none =>
      refine wpAny_bind (wpAny_functionCodeX hcode (C1.code hP1 ht) (C1.tab hP1) hf fun c' h' tk hx hge hlt _ hrec htb htb' => ?_)
      have hc' : CodeAt h' c' qual := by
        obtain ⟨c2, o, vs, t, e2, z1, z2, z3⟩ := hrec
        cases e2
        obtain ⟨P', _, _, ⟨o', vs', y1, y2, y3, _⟩, _⟩ := htb'
        rw [z1] at y1; cases y1
        exact ⟨o, vs, t, z1, y2, z2, z3⟩
      obtain ⟨i2, k2⟩ := inv_told hg i1 hq hP1 ht hcs1 (tk := tk) hx hge hc' htb.2
      exact tail ctv _ _ c' qual ⟨h', tk, rfl⟩ i2 ((Keep.of kk).trans k2) (Nat.le_trans hsz (Nat.le_trans hge (Nat.le_of_lt hlt))) hc' rfl ((hgl.keeps kk).extBut hx hgP) (hx _ _ hneP (kk _ _ hbo))
    | some cv =>
      obtain ⟨cc, qn, rfl, hc, _⟩ := hcs1 _ _ hf
      refine wpAny_bind (wpAny_functionCode_hit hcode (C1.code hP1 ht) hf ?_)
      exact tail ctv _ _ cc qn ⟨h₁, tk₁, rfl⟩ i1 (Keep.of kk) hsz hc rfl (hgl.keeps kk) (kk _ _ hbo)
  cases clos with
  | nil =>
    simp only [List.isEmpty_nil, if_true]
    exact wpAny_bind (wpAny_pure (mid .none s ⟨s.heap, s.toks, rfl⟩ (fun _ _ e => e) (Nat.le_refl _)))
  | cons q r =>
    simp only [List.isEmpty_cons, Bool.false_eq_true, if_false]
    refine wpAny_bind (wpAny_newTextTuple ?_)
    have hsz : ∀ oT : Obj, s.heap.objs.size ≤ (s.heap.push oT).objs.size := fun oT => by rw [Heap.size_push]; lia
    exact mid _ _ ⟨_, _, rfl⟩ (fun b o e => Heap.get?_push_of_some _ e) (hsz _)
end Mine


/- WY -/
namespace Mine
variable {g : Gx} {ℓ : Nat} {fi : FI} {X : List Addr} {h₀ : Heap} {O : List (Str × Addr)} {env : Env} {σ : St} {s : Shared} {ρ : AEnv} {H : Heap} {Dd : Addr} {ds : List D}

theorem lookup_capOf (scope : Scope) (ρ : AEnv) (x : Str) (d : D) (h : (capOf scope ρ).lookup x = some d) : scope.names.lookup x = some .free ∧ ρ.lookup x = some d := by
  unfold capOf at h
  induction ρ with
  | nil => simp at h
  | cons p r ih =>
    obtain ⟨y, e⟩ := p
    rw [List.filter_cons] at h
    by_cases hy : (scope.names.lookup y == some NameKind.free) = true
    · rw [if_pos hy] at h
      simp only [List.lookup] at h ⊢
      cases hxy : x == y with
      | true =>
        rw [hxy] at h
        have : x = y := by simpa using hxy
        subst this
        exact ⟨by simpa using hy, h⟩
      | false => rw [hxy] at h; exact ih h
    · rw [if_neg hy] at h
      obtain ⟨h1, h2⟩ := ih h
      refine ⟨h1, ?_⟩
      simp only [List.lookup]
      cases hxy : x == y with
      | true =>
        have : x = y := by simpa using hxy
        subst this
        rw [h1] at hy; simp at hy
      | false => exact h2

theorem capOf_of {scope : Scope} {ρ : AEnv} {x : Str} {d : D} (h : scope.names.lookup x = some .free) (hd : ρ.lookup x = some d) : (capOf scope ρ).lookup x = some d := by
  unfold capOf
  induction ρ with
  | nil => simp at hd
  | cons p r ih =>
    obtain ⟨y, e⟩ := p
    rw [List.filter_cons]
    simp only [List.lookup] at hd
    cases hxy : x == y with
    | true =>
      rw [hxy] at hd
      have : x = y := by simpa using hxy
      subst this
      rw [if_pos (by simp [h])]
      simp only [List.lookup, hxy]; exact hd
    | false =>
      rw [hxy] at hd
      split
      · simp only [List.lookup, hxy]; exact ih hd
      · exact ih hd

def capOk (fi : FI) (scope : Scope) : Bool := scope.names.all fun p => p.2 != .free || fi.sc.names.lookup p.1 == some .cell || fi.sc.names.lookup p.1 == some .free

theorem clos_of {scope : Scope} (hok : capOk fi scope = true) (hE : EnvOK fi env) (hc : ∀ x, env.kindOf x = some .cell ∨ env.kindOf x = some .free → ∃ c v, env.cells.lookup x = some c ∧ s.heap.IsCell c v) :
    ∃ cl, closureFor scope env = pure cl ∧ (∀ x c, cl.lookup x = some c → env.cells.lookup x = some c ∧ (x, NameKind.free) ∈ scope.names) ∧ ∀ x, (x, NameKind.free) ∈ scope.names → cl.lookup x = env.cells.lookup x := by
  refine closureFor_ok scope env fun x hx => ?_
  have := List.all_eq_true.mp hok _ hx
  simp only [bne_self_eq_false, Bool.false_or, Bool.or_eq_true, beq_iff_eq] at this
  obtain ⟨c, v, hc, _⟩ := hc x (by rw [hE.kinds]; exact this)
  exact ⟨c, hc⟩

theorem Made.fnH {scope : Scope} {params : Arguments} {body : FuncBody} {clos : List (Str × Addr)} {v : Value} {s' s'' : Shared} (hok : capOk fi scope = true) (hE : EnvOK fi env) (m : Made g s params body scope clos v s')
    (hcl : ∀ x c, clos.lookup x = some c → env.cells.lookup x = some c ∧ (x, NameKind.free) ∈ scope.names) (hcl' : ∀ x, (x, NameKind.free) ∈ scope.names → clos.lookup x = env.cells.lookup x)
    (hF : FrameR X s''.heap env ρ) (hk : ∀ a o, s'.heap.get? a = some o → o.cls ≠ .none → ((s.heap.get? a = none ∧ ∃ fd, o.data = .func fd) ∨ ∃ vs, o.data = .fields vs) → s''.heap.get? a = some o) : FnH X s''.heap v params body scope (capOf scope ρ) := by
  obtain ⟨a, fd, cc, qn, rfl, i, k, hn, e, p1, p2, rfl, p4, p5, p6, p7, rfl, p9, p10⟩ := m
  have kf : ∀ x, (x, NameKind.free) ∈ fd.scope.names → env.kindOf x = some .cell ∨ env.kindOf x = some .free := fun x hx => by
    have := List.all_eq_true.mp hok _ hx
    simp only [bne_self_eq_false, Bool.false_or, Bool.or_eq_true, beq_iff_eq] at this
    rw [hE.kinds]; exact this
  obtain ⟨oc, ws, t, z1, z2, z3⟩ := id p10
  refine ⟨a, _, fd, cc, qn, rfl, hk a _ e (by nofun) (.inl ⟨hn, _, rfl⟩), rfl, rfl, p1, p2, rfl, p4, p5, p6, p7, p9, ⟨oc, ws, t, hk cc _ z1 (by rw [z2]; nofun) (.inr ⟨_, z3.1⟩), z2, z3⟩, fun x c hc => ?_, fun x hx => ?_, fun x d hd => ?_⟩
  · obtain ⟨q1, q2⟩ := hcl x c hc
    obtain ⟨c', v', q3, q4⟩ := hF.cel x (kf x q2)
    rw [q1] at q3; cases q3
    exact ⟨v', q4⟩
  · have hm := mem_of_lookup hx
    obtain ⟨c', v', q3, q4⟩ := hF.cel x (kf x hm)
    exact ⟨c', by rw [hcl' x hm]; exact q3⟩
  · obtain ⟨q1, q2⟩ := lookup_capOf _ _ _ _ hd
    have hm := mem_of_lookup q1
    obtain ⟨w, hw, hr⟩ := hF.vars x d q2
    refine ⟨q1, ?_⟩
    rcases hw with ⟨hl, _⟩ | ⟨_, c, hc, hv⟩
    · rcases kf x hm with h | h <;> (rw [hl] at h; cases h)
    · exact ⟨c, w, by rw [hcl' x hm]; exact hc, hv, hr⟩

def EvF (g : Gx) (ℓ : Nat) (fi : FI) (ρ : AEnv) (e : Expr) (params : Arguments) (body : FuncBody) (sc : Scope) (ρc : AEnv) : Prop :=
  ∀ A X env s, AOk ℓ A → Inv g s → EnvOK fi env → XOk g X s.heap → FrameR X s.heap env ρ → wpAny g.M A (eval e env) (fun v s' => Inv g s' ∧ Keep g s.heap s'.heap ∧ FnH X s'.heap v params body sc ρc) NoE s

theorem EvF.lam (hg : GOk g) {params : Arguments} {body : Expr} {scope : Scope} {pos : Pos} {c P : Addr} (hcd : fi.cd = .ref c) (hq : (c, P) ∈ g.tabs) (hok : capOk fi scope = true) (hdef : ∀ env, defaultsOf params env = ([], []) := by intro _; rfl) :
    EvF g ℓ fi ρ (.Lambda params body scope pos) params (.expr body) scope (capOf scope ρ) := by
  intro A X env s hA hI hE hX hF
  obtain ⟨cl, h1, h2, h3⟩ := clos_of (s := s) hok hE hF.cel
  refine kla_eval (hdef env) ?_
  refine wpAny_mono (mkFun hg hI h1 hE.glob (hE.code.trans hcd) hq) (fun v s' m => ?_) fun _ _ e => e
  have i' : Inv g s' := by obtain ⟨a, fd, cc, qn, rfl, i, k, _⟩ := id m; exact i
  have k' : Keep g s.heap s'.heap := by obtain ⟨a, fd, cc, qn, rfl, i, k, _⟩ := id m; exact k
  exact ⟨i', k', m.fnH hok hE h2 h3 (hF.keep hI.tabs k') fun _ _ e _ _ => e⟩

theorem Ev.callV (hg : GOk g) {x : Str} {p pos : Pos} {e : Expr} {es : List Expr} {f : Value} {ds : List D} {d : D} (hx : ρ.lookup x = some (.opq f)) (hf : ∃ a o fd, f = .ref a ∧ g.b.get? a = some o ∧ o.data = .func fd) (hev : Evs g ℓ fi ρ (e :: es) ds) (hc : CallOK g ℓ f ds d)
    (hn : okName x = true := by decide) (he : ∀ env, starEach (e :: es) env = (false, eval e env) :: starEach es env := by intro _; rfl) : Ev g ℓ fi ρ (.Call (.Name x p) (e :: es) [] pos) d := by
  intro A X env s hA hI hE hX hF
  obtain ⟨a, o, fd, rfl, ho, hd⟩ := hf
  refine wpAny_Call_NameR (wpQ (Ev.var hx hn A X env s hA hI hE hX hF) fun v s₁ ⟨i1, k1, r1⟩ => ?_)
  obtain rfl := r1.opq'
  have hshape : backTo pos (starEach (e :: es) env) = (false, eval e env) :: backTo pos (starEach es env) := by rw [he]; rfl
  refine Calls.callWith_function (o := o) (fd := fd) ?_
  have := hev A X env s₁ pos hA i1 hE (hX.keep k1) (hF.keep hI.tabs k1)
  rw [hshape] at this ⊢
  refine Calls.evalArgs_plain (wpQ this fun vs s₂ ⟨i2, k2, r2⟩ => ⟨⟨i2.stays _ _ ho, ?_⟩, wpQ (hc A X s₂ vs hA i2 ((hX.keep k1).keep k2) r2) fun v s' p => p.more (k1.trans k2)⟩)
  exact hd
end Mine


/- WZ -/
namespace Mine
variable {g : Gx} {ℓ : Nat} {fi : FI} {X : List Addr} {h₀ : Heap} {O : List (Str × Addr)} {env : Env} {σ : St} {s : Shared} {ρ : AEnv} {H : Heap} {Dd : Addr} {ds : List D}

theorem entry_iter' : entryFor table "iter" = some Builtin.«iter» := entryFor_of_fast (by kernel_rfl)
theorem args_iter' (a : Value) : argsOk "iter" ⟨[a], []⟩ := by unfold argsOk; kernel_rfl
theorem call_iter {x : Value} {prog : Program} {w : World} {A : Around} {E : Value → Shared → Prop} {Q : Value → Shared → Prop} (h : wpAny (model prog w) A.in1 (pyIter x) Q E s) : wpAny (model prog w) A (call (.builtin "iter") [x]) Q E s := by
  refine PySem.Calls.call_function_entry (by decide +kernel) (by decide +kernel) entry_iter' (args_iter' _) ?_
  unfold Builtin.«iter»
  refine wpAny_bind (m := someArgs "iter" 1 2 _) (wpAny_of_eq (a := [x]) (by first | rfl | kernel_rfl!) ?_)
  show wpAny _ _ (pyIter x >>= _) _ _ _
  exact wpAny_bind (wpAny_mono h (fun v s' hq => wpAny_pure ⟨_, rfl, hq⟩) fun _ _ e => e)

def D.data : D → Bool
  | .opq _ => false
  | .tup _ => false
  | _ => true

theorem Op2.isNot {d : D} {m : Addr} (hm : ∃ om, g.b.get? m = some om ∧ om.cls = .type "object") (hd : d.data = true) : Op2 g (compareOp .Is) d (.opq (.ref m)) (.bool false) := by
  intro ℓ A X s va vb hA hI hX h1 h2
  cases h2
  obtain ⟨om, em, cm⟩ := hm
  have em' := hI.stays _ _ em
  cases h1 with
  | none => exact wpAny_is_other rfl (by nofun) (Post.same hI .bool)
  | bool => exact wpAny_is_other rfl (by nofun) (Post.same hI .bool)
  | int => exact wpAny_is_other rfl (by nofun) (Post.same hI .bool)
  | str => exact wpAny_is_other rfl (by nofun) (Post.same hI .bool)
  | bytes => exact wpAny_is_other rfl (by nofun) (Post.same hI .bool)
  | list na hl hz r =>
    obtain ⟨o, n, e, c, _⟩ := hl
    exact wpAny_is_ref_other (fun z => by rw [z, em'] at e; cases e; rw [cm] at c; simp at c) e em' (by rw [c]; simp) (Post.same hI .bool)
  | tup => cases hd
  | rng e q => exact wpAny_is_ref_other (fun z => by have e' : s.heap.get? _ = some _ := e; rw [z, em'] at e'; cases e'; simp at cm) e em' (by simp) (Post.same hI .bool)
  | opq => cases hd

theorem lookup_put_ne {σ : St} {x y : Str} {d : D} (h : (y == x) = false) : (σ.put x d).ρ.lookup y = σ.ρ.lookup y := by
  show (put σ.ρ x d).lookup y = _
  rw [lookup_put, h]; rfl
theorem lookup_put_eq {σ : St} {x : Str} {d : D} : (σ.put x d).ρ.lookup x = some d := by
  show (put σ.ρ x d).lookup x = _
  rw [lookup_put]; simp

theorem fz_nil {σ : St} (h : σ.ω = []) : σ.fz = σ.ρ := by
  unfold St.fz
  rw [h]
  simp

structure RedFi (fi : FI) : Prop where
  it : fi.sc.names.lookup ("it" : Str) = some .local
  value : fi.sc.names.lookup ("value" : Str) = some .local
  element : fi.sc.names.lookup ("element" : Str) = some .local
  iter : fi.sc.names.lookup ("iter" : Str) = some .globalImplicit
  miss : fi.sc.names.lookup ("_initial_missing" : Str) = some .globalImplicit

theorem Ex.reduce (hg : GOk g) {p1 p2 p3 p4 p5 p6 p7 p8 p9 p10 p11 p12 p13 p14 p15 p16 p17 p18 p19 p20 p21 p22 p23 : Pos} {tb : List Stmt} {f : Value} {dseq init : D} {items : List D} {accs : Nat → D} {m : Addr} (hfi : RedFi fi)
    (hv1 : GlobV g "iter" (.builtin "iter")) (hv2 : GlobV g "_initial_missing" (.ref m)) (hm : ∃ om, g.b.get? m = some om ∧ om.cls = .type "object") (hf : ∃ a o fd, f = .ref a ∧ g.b.get? a = some o ∧ o.data = .func fd) (hit : iterD dseq = some items) (h0 : accs 0 = init) (hdat : init.data = true)
    (hc : ∀ i d, items[i]? = some d → CallOK g ℓ f [accs i, d] (accs (i + 1))) :
    Ex g ℓ fi ⟨([("function", .opq f), ("sequence", dseq), ("initial", init)] : AEnv), []⟩ [.Assign [.Name "it" p1] (.Call (.Name "iter" p2) [.Name "sequence" p3] [] p4) p5, .If (.Compare (.Name "initial" p6) [.Is] [.Name "_initial_missing" p7] p8) tb [.Assign [.Name "value" p9] (.Name "initial" p10) p11] p12,
      .For (.Name "element" p13) (.Name "it" p14) [.Assign [.Name "value" p15] (.Call (.Name "function" p16) [.Name "value" p17, .Name "element" p18] [] p19) p20] [] p21, .Return (some (.Name "value" p22)) p23] fun _ fl => fl = .ret (accs items.length) := by
  intro A X h₀ O env s hA F
  obtain rfl : O = [] := by
    have := F.names
    cases O with
    | nil => rfl
    | cons p r => simp at this
  have seqv : (⟨([("function", .opq f), ("sequence", dseq), ("initial", init)] : AEnv), []⟩ : St).ρ.lookup ("sequence" : Str) = some dseq := by rfl
  refine wpAny_execs_cons (wpAny_Assign_Name ?_ rfl)
  refine wpAny_Call_NameR (evalGlob hg F.inv F.eok hfi.iter hv1 (by decide) ?_)
  refine Calls.callWith_builtin rfl (Calls.evalArgs_plain (Calls.spliced_cons ?_))
  refine wpQ (Ev.var (ℓ := ℓ) seqv (by decide) A _ env s hA F.inv F.eok F.xok' F.strict) fun v s₁ ⟨i1, k1, r1⟩ => Calls.spliced_nil ?_
  have F₁ := F.step i1 k1
  refine call_iter (pyIter_go (A := A.in1) hA.handled i1 r1 hit fun s₂ I ax i2 k2 hIn hIe hax W => ?_)
  have F₂ := F₁.step i2 (Keep.of k2)
  obtain ⟨P, S, W, st0, hio, hP⟩ := W
  have iI : IterO s₂.heap I := hio 0 _ st0
  have hI1 : I ∉ g.Tb := iI.noTab i2.tabs
  have hI2 : ¬ OwnA fi env I := own_noIter F₂ iI
  have hIh : h₀.get? I = none := by
    cases e : h₀.get? I with
    | none => rfl
    | some o =>
      have := F₁.keep _ _ hI1 e; rw [hIn] at this; cases this
  have hIX : I ∉ X := F₁.xok.fresh hIn
  have axF : ∀ a ∈ ax, a ∉ g.Tb ∧ ¬ OwnA fi env a := by
    intro a ha
    obtain ⟨rfl, xs, hls⟩ := hax a ha
    have ex : ∃ o n, s₁.heap.get? a = some o ∧ o.data = .seq xs n := by
      rcases hls with ⟨o, e, c, n, d⟩ | ⟨o, e, c, n, d⟩
      · exact ⟨o, n, e, d⟩
      · exact ⟨o, n, e, d⟩
    obtain ⟨o, n, e, dd⟩ := ex
    have q : SeqO [] a o := .inl ⟨_, _, dd, fun _ h => nomatch h⟩
    exact ⟨tab_noSeq i1.tabs e q, own_noSeq F₁ e q⟩
  refine F₂.store (x := "it") (d := .opq (.ref I)) (fun h => nomatch h) (.inl hfi.it) .opq fun s₃ F₃ k3 al3 => ?_
  have e1 : Ex1 g ℓ fi ((⟨([("function", .opq f), ("sequence", dseq), ("initial", init)] : AEnv), []⟩ : St).put "it" (.opq (.ref I))) (.If (.Compare (.Name "initial" p6) [.Is] [.Name "_initial_missing" p7] p8) tb [.Assign [.Name "value" p9] (.Name "initial" p10) p11] p12)
      (fun σ' fl => fl = .next ∧ σ' = ((⟨([("function", .opq f), ("sequence", dseq), ("initial", init)] : AEnv), []⟩ : St).put "it" (.opq (.ref I))).put "value" init) := by
    refine Ex1.ifs (c := false) (Tst.cmp (Ev.var (d := init) rfl) (Ev.globB hg hfi.miss hv2 .opq) (Op2.isNot hm hdat)) (fun h => nomatch h) fun _ => ?_
    refine Ex.cons (Ex1.assign (.inl (Ev.var (d := init) rfl)) ⟨(fun h => nomatch h), .inl hfi.value⟩ (Ex.nil ⟨rfl, rfl⟩))
  refine wpAny_execs_cons (wpQ (e1 A X h₀ [] env s₃ hA F₃) ?_)
  rintro f4 s₄ ⟨σ₄, O₄, fl4, F₄, k4, al4, on4, hfl4, rfl, rfl⟩
  have hf4 : f4 = .next := by cases f4 <;> first | rfl | exact hfl4.elim
  subst hf4
  obtain rfl : O₄ = [] := by
    have := F₄.names
    cases O₄ with
    | nil => rfl
    | cons p r => simp [St.put] at this
  have kk : ∀ a o, a ∉ g.Tb → ¬ OwnA fi env a → s₂.heap.get? a = some o → s₄.heap.get? a = some o := fun a o h1 h2 e => k4 a o h1 h2 (fun h => nomatch h) (k3 a o h1 h2 (fun h => nomatch h) e)
  have st4 : S 0 s₄.heap := W.frame _ _ _ st0 fun b hb o e => by
    rcases List.mem_cons.mp hb with rfl | hb
    · exact kk _ o hI1 hI2 e
    · obtain ⟨a2, a3⟩ := axF b hb
      exact kk b o a2 a3 e
  refine wpAny_execs_cons (wpAny_For ?_)
  refine wpQ (Ev.var (ℓ := ℓ) (d := .opq (.ref I)) rfl (by decide) A _ env s₄ hA F₄.inv F₄.eok F₄.xok' F₄.strict) fun v s₅ ⟨i5, k5, r5⟩ => ?_
  obtain rfl := r5.opq'
  have F₅ := F₄.step i5 k5
  have st5 : S 0 s₅.heap := W.frame _ _ _ st4 fun b hb o e => by
    rcases List.mem_cons.mp hb with rfl | hb
    · exact k5 _ o hI1 e
    · exact k5 b o (axF b hb).1 e
  have W' : Walks g.prog g.w A I (I :: ax) [I] items.length P S :=
    ⟨W.sub, W.frame, fun i s Q E hi st hQ => wpAny_of_in1 (W.item i s Q E hi st hQ), fun s Q E st hQ => wpAny_of_in1 (W.done s Q E st hQ), fun i s Q E st hQ => wpAny_of_in1 (W.self i s Q E st hQ)⟩
  refine W'.self _ _ _ _ st5 ?_
  refine loop_it (ℓ := ℓ) (fun i σ' => σ'.ω = [] ∧ σ'.ρ.lookup ("function" : Str) = some (.opq f) ∧ σ'.ρ.lookup ("value" : Str) = some (accs i)) hA F₅ W' st5 hio (fun i v hi hp => ?_) hIh hIX axF ⟨rfl, rfl, by rw [h0]; rfl⟩ ?_ ?_
  · obtain ⟨d, hd, hr⟩ := hP i v hi hp
    refine ⟨d, hd, ?_⟩
    have r4 : Rep (X ++ ([] : List (Str × Addr)).map (·.2)) s₄.heap v d := hr.keepR fun a o e q => kk a o (tab_noSeq i2.tabs e q) (own_noSeq F₂ e q) e
    exact r4.keep F₄.inv.tabs k5
  · rintro i σ' ⟨w1, w2, w3⟩ d hd
    refine ⟨⟨by rw [w1]; exact (fun h => nomatch h), .inl hfi.element⟩, ?_⟩
    have fz := fz_nil (σ := σ'.put ("element" : Str) d) w1
    refine ExK.assign (d := accs (i + 1)) (.inl (Ev.callV hg (f := f) (ds := [accs i, d]) ?_ hf (Evs.cons (Ev.var (d := accs i) ?_) (Evs.cons (Ev.var (d := d) ?_) Evs.nil)) (hc i d hd))) ⟨?_, .inl hfi.value⟩ ⟨w1, ?_, lookup_put_eq⟩
    · rw [fz, lookup_put_ne (by decide)]; exact w2
    · rw [fz, lookup_put_ne (by decide)]; exact w3
    · rw [fz]; exact lookup_put_eq
    · show _ ∉ σ'.ω
      rw [w1]; exact fun h => nomatch h
    · rw [lookup_put_ne (by decide), lookup_put_ne (by decide)]; exact w2
  · rintro σ' s' ⟨w1, w2, w3⟩ F' K' AL'
    refine wpAny_execs_cons (wpQ (Ex1.ret (ℓ := ℓ) (Q := fun σ fl => fl = .ret (accs items.length)) (Ev.var w3) rfl A X h₀ [] env s' hA F') ?_)
    rintro f' s'' ⟨σ'', O'', fl, q1, q2, q3, q4, q5, rfl⟩
    cases f' with
    | ret v =>
      have hIs : ∀ a o, s.heap.get? a = some o → a ≠ I := fun a o e z => by
        obtain ⟨o', e'⟩ := Alive.of_keep i1.tabs k1 _ _ e; rw [z, hIn] at e'; cases e'
      have al : ∀ a o, s.heap.get? a = some o → ∃ o', s'.heap.get? a = some o' := fun a o e => by
        obtain ⟨o1, e1⟩ := Alive.of_keep i1.tabs k1 _ _ e
        obtain ⟨o2, e2⟩ := (al3.trans al4) a o1 (k2 _ _ e1)
        obtain ⟨o3, e3⟩ := Alive.of_keep i5.tabs k5 _ _ e2
        exact AL' a o3 (hIs a o e) e3
      refine ⟨σ'', O'', _, q1, fun a o h1 h2 h3 e => ?_, fun a o e => ?_, fun p hp => .inr ?_, q5, rfl⟩
      · exact q2 a o h1 h2 h3 (K' a o h1 h2 (hIs a o e) (k5 a o h1 (kk a o h1 h2 (k2 a o (k1 a o h1 e)))))
      · obtain ⟨o', e'⟩ := al a o e; exact q3 a o' e'
      · rcases q4 p hp with z | z
        · exact nomatch z
        · cases e : s.heap.get? p.2 with
          | none => rfl
          | some o => obtain ⟨o', e'⟩ := al _ _ e; rw [z] at e'; cases e'
    | _ => exact q5.elim
end Mine


/- XA -/
namespace Mine
variable {g : Gx} {ℓ : Nat} {fi : FI} {X : List Addr} {h₀ : Heap} {O : List (Str × Addr)} {env : Env} {σ : St} {s : Shared} {ρ : AEnv} {H : Heap} {Dd : Addr} {ds : List D}

theorem own_data (F : FrX g X h₀ O fi env σ s) {a : Addr} {o : Obj} (h : OwnA fi env a) (e : s.heap.get? a = some o) : ¬ ((∃ fd, o.data = .func fd) ∨ ∃ vs, o.data = .fields vs) := by
  rcases h with rfl | ⟨y, hy, hc⟩
  · obtain ⟨m, o', _, _, e', d', _⟩ := F.lns
    rw [e] at e'; cases e'
    rintro (⟨_, q⟩ | ⟨_, q⟩) <;> (rw [d'] at q; cases q)
  · obtain ⟨_, c, w, hc', ⟨o', e', d'⟩, _⟩ := F.cells y hy
    rw [hc] at hc'; cases hc'
    rw [e] at e'; cases e'
    rintro (⟨_, q⟩ | ⟨_, q⟩) <;> (rw [d'] at q; cases q)

theorem callMaker (hg : GOk g) {am : Addr} {xs : List Str} {nm : Str} {params : Arguments} {fbody : List Stmt} {fsc sc : Scope} {pos p p' : Pos} {c P : Addr} {ds : List D} (hd : DefAt g am xs [.FunctionDef nm params fbody [] none [] fsc none nm pos, .Return (some (.Name nm p)) p'] sc (.ref c)) (hq : (c, P) ∈ g.tabs)
    (hl : xs.length = ds.length) (hok : capOk ⟨sc, .ref c, (sc.names.filter (·.2 == .cell)).map (·.1)⟩ fsc = true) (hnm : sc.names.lookup nm = some .local) (hnf : fsc.names.lookup nm ≠ some .free) (hdef : ∀ env, defaultsOf params env = ([], [])) (hann : ∀ env, annTrees params none env = []) (hn : okName nm = true) {A : Around} {vs : List Value} (hA : AOk (ℓ + 1) A) (hI : Inv g s) (hX : XOk g X s.heap) (r : Reps X s.heap vs ds) :
    wpAny g.M A (call (.ref am) vs) (fun v s' => Inv g s' ∧ Keep g s.heap s'.heap ∧ FnH X s'.heap v params (.stmts fbody) fsc (capOf fsc (xs.zip ds ++ []))) NoE s := by
  obtain ⟨oc, od, osl, fd, hK, hbody, rfl, hcd, hclo, hgl, hbl, hcode, hbind⟩ := hd.out
  have ho : s.heap.get? am = some ⟨oc, od, .func fd, osl⟩ := hI.stays _ _ (hg.kin _ _ hK)
  have hroom : A.depth < recursionLimit := by have := hA.depth; lia
  have hvl : vs.length = xs.length := by rw [r.length]; exact hl.symm
  refine wpAny_call (codeAny_mono (R := fun r s' => ∃ v, r = .ok (.ret v) ∧ Inv g s' ∧ Keep g s.heap s'.heap ∧ FnH X s'.heap v params (.stmts fbody) fsc (capOf fsc (xs.zip ds ++ []))) ?_ ?_)
  · refine codeAny_call_function hroom ho rfl hd.co hd.gen hbody ((codeRec_of hg.kin hcode).keeps hI.stays) (hbind s vs hI.stays hvl _ _ _ _ ?_)
    rw [hclo, hgl, hbl]
    refine enter hd.kind hd.nd (fun p hp => hd.xk _ (List.of_mem_zip hp).1) (fun x c h => by cases h) fun L cells s₂ Ent => ?_
    refine ⟨(hg.nolimit.keeps hI.stays).keeps Ent.keep, codeAny_func ?_⟩
    obtain ⟨env, hE⟩ : ∃ x, newEnv fd.scope L mainGlobals cells (fd.qualname ++ ".<locals>.") (some am) fd.code none builtinsNs = x := ⟨_, rfl⟩
    rw [hE] at Ent ⊢
    have FX := enterFr (g := g) (X := X) (cd := .ref c) (ρc := []) Ent hI hX r hl hd.xnd hd.nd hd.kind hd.xk (by rw [← hE]; rfl) (by rw [← hE]; rfl) (by rw [← hE]; rfl) (by rw [← hE]; exact hcd) (fun x hx => absurd rfl (hd.nofree _ (mem_of_lookup hx))) (fun x d h => by cases h)
    have hA' := hA.deeper env
    obtain ⟨cl, h1, h2, h3⟩ := clos_of (s := s₂) hok FX.eok FX.cel
    refine wpAny_execs_cons ?_
    rw [exec_def, hdef, hann]
    refine wpAny_bind (wpAny_standAt (wpAny_bind (wpAny_holding ?_)))
    refine wpAny_bind (wpAny_pure (wpAny_bind (wpAny_holding (wpAny_pure (wpAny_holding (wpAny_bind (wpAny_pure ?_)))))))
    refine wpAny_mono (mkFun hg FX.inv h1 FX.eok.glob FX.eok.code hq) (fun v s₃ m => ?_) fun _ _ e => e
    have i3 : Inv g s₃ := by obtain ⟨a, fd, cc, qn, rfl, i, k, _⟩ := id m; exact i
    have k3 : Keep g s₂.heap s₃.heap := by obtain ⟨a, fd, cc, qn, rfl, i, k, _⟩ := id m; exact k
    have F₃ := FX.step i3 k3
    refine wpAny_bind (wpAny_standAt (wpAny_bind (wpAny_bindName ?_)))
    refine F₃.store (d := .opq v) (fun h => nomatch h) (.inl hnm) .opq fun s₄ F₄ k4 al4 => ?_
    refine wpAny_pure ?_
    refine wpAny_execs_cons (wpAny_Return_some ?_)
    have hv4 : ((⟨xs.zip ds ++ [], []⟩ : St).put nm (.opq v)).ρ.lookup nm = some (.opq v) := lookup_put_eq
    refine wpQ (Ev.var (ℓ := ℓ) hv4 hn _ X env s₄ hA' F₄.inv F₄.eok F₄.xok F₄.full) fun v' s₅ ⟨i5, k5, r5⟩ => ?_
    obtain rfl := r5.opq'.symm
    have F₅ := F₄.step i5 k5
    refine ⟨v, rfl, i5, F₅.keep, ?_⟩
    have fn := m.fnH (X := X) (s'' := s₅) (ρ := ((⟨xs.zip ds ++ [], []⟩ : St).put nm (.opq v)).ρ) hok FX.eok h2 h3 F₅.full (fun a o e hc hd'' => have hd' : (∃ fd, o.data = .func fd) ∨ ∃ vs, o.data = .fields vs := hd''.imp (·.2) id; k5 a o (tab_cls F₄.inv.tabs (k4 a o (tab_cls i3.tabs e hc) (fun w => own_data F₃ w e hd') (fun h => nomatch h) e) hc) (k4 a o (tab_cls i3.tabs e hc) (fun w => own_data F₃ w e hd') (fun h => nomatch h) e))
    obtain ⟨a, o, fd', cc, qn, p0, p1, p2, p3, p4, p5, p6, p7, p8, p9, p10, p11, p12, p13, p14, p15⟩ := fn
    refine ⟨a, o, fd', cc, qn, p0, p1, p2, p3, p4, p5, p6, p7, p8, p9, p10, p11, p12, p13, p14, fun x d hd => ?_⟩
    refine p15 x d ?_
    obtain ⟨q1, q2⟩ := lookup_capOf _ _ _ _ hd
    refine capOf_of q1 ?_
    rw [lookup_put_ne]
    · exact q2
    · cases hb : x == nm with
      | false => rfl
      | true => exact absurd (by rw [← eq_of_beq hb]; exact q1) hnf
  · rintro r s' ⟨v, rfl, hp⟩
    exact hp
end Mine


/- XB -/
namespace Mine
variable {g : Gx} {ℓ : Nat} {fi : FI} {X : List Addr} {h₀ : Heap} {O : List (Str × Addr)} {env : Env} {σ : St} {s : Shared} {ρ : AEnv} {H : Heap} {Dd : Addr} {ds : List D}

theorem EvF.maker (hg : GOk g) {id nm : Str} {p0 pos0 : Pos} {e : Expr} {es : List Expr} {am : Addr} {xs : List Str} {params : Arguments} {fbody : List Stmt} {fsc sc : Scope} {pos p p' : Pos} {c P : Addr} {ds : List D} {oc : Value} {od : Option Addr} {osl : Array (Option Value)} {fd : FuncData} (hk : fi.sc.names.lookup id = some .globalImplicit) (hv : GlobV g id (.ref am)) (hK : g.K.lookup am = some ⟨oc, od, .func fd, osl⟩)
    (hd : DefAt g am xs [.FunctionDef nm params fbody [] none [] fsc none nm pos, .Return (some (.Name nm p)) p'] sc (.ref c)) (hq : (c, P) ∈ g.tabs) (hev : Evs g (ℓ + 1) fi ρ (e :: es) ds) (hl : xs.length = ds.length) (hok : capOk ⟨sc, .ref c, (sc.names.filter (·.2 == .cell)).map (·.1)⟩ fsc = true) (hnm : sc.names.lookup nm = some .local) (hnf : fsc.names.lookup nm ≠ some .free)
    (hdef : ∀ env, defaultsOf params env = ([], []) := by intro _; rfl) (hann : ∀ env, annTrees params none env = [] := by intro _; rfl) (hn : okName nm = true := by decide) (hn' : okName id = true := by decide)
    (he : ∀ env, starEach (e :: es) env = (false, eval e env) :: starEach es env := by intro _; rfl) : EvF g (ℓ + 1) fi ρ (.Call (.Name id p0) (e :: es) [] pos0) params (.stmts fbody) fsc (capOf fsc (xs.zip ds ++ [])) := by
  intro A X env s hA hI hE hX hF
  refine wpAny_Call_NameR (evalGlob hg hI hE hk hv hn' ?_)
  have hshape : backTo pos0 (starEach (e :: es) env) = (false, eval e env) :: backTo pos0 (starEach es env) := by rw [he]; rfl
  have := hev A X env s pos0 hA hI hE hX hF
  rw [hshape] at this ⊢
  refine Calls.callWith_function (o := ⟨oc, od, .func fd, osl⟩) (fd := fd) (Calls.evalArgs_plain (wpQ this fun vs s₁ ⟨i1, k1, r1⟩ => ⟨⟨i1.stays _ _ (hg.kin _ _ hK), rfl⟩, ?_⟩))
  exact wpQ (callMaker hg hd hq hl hok hnm hnf hdef hann hn hA i1 (hX.keep k1) r1) fun v s' ⟨i2, k2, f2⟩ => ⟨i2, k1.trans k2, f2⟩

theorem Ev.callF (hg : GOk g) {id : Str} {p pos : Pos} {e1 e2 e3 : Expr} {ar : Addr} {params : Arguments} {body : FuncBody} {sc : Scope} {ρc : AEnv} {d2 d3 res : D} {oc : Value} {od : Option Addr} {osl : Array (Option Value)} {fd : FuncData} (hk : fi.sc.names.lookup id = some .globalImplicit) (hv : GlobV g id (.ref ar)) (hK : g.K.lookup ar = some ⟨oc, od, .func fd, osl⟩)
    (h1 : EvF g ℓ fi ρ e1 params body sc ρc) (h2 : Ev g ℓ fi ρ e2 d2) (h3 : Ev g ℓ fi ρ e3 d3)
    (hc : ∀ g' : Gx, GOk g' → g'.K = g.K → g'.tabs = g.tabs → ∀ f, FnH [] g'.b f params body sc ρc → CallOK g' ℓ (.ref ar) [.opq f, d2, d3] res)
    (hn : okName id = true := by decide) (he : ∀ env, starEach [e1, e2, e3] env = [(false, eval e1 env), (false, eval e2 env), (false, eval e3 env)] := by intro _; rfl) : Ev g ℓ fi ρ (.Call (.Name id p) [e1, e2, e3] [] pos) res := by
  intro A X env s hA hI hE hX hF
  refine wpAny_Call_NameR (evalGlob hg hI hE hk hv hn ?_)
  have hsh : backTo pos (starEach [e1, e2, e3] env) = [(false, eval e1 env), (false, eval e2 env), (false, eval e3 env)] := by rw [he]; rfl
  rw [hsh]
  refine Calls.callWith_function (o := ⟨oc, od, .func fd, osl⟩) (fd := fd) (Calls.evalArgs_plain (Calls.spliced_cons ?_))
  refine wpQ (h1 A X env s hA hI hE hX hF) fun v1 s₁ ⟨i1, k1, f1⟩ => Calls.spliced_cons ?_
  refine wpQ (h2 A X env s₁ hA i1 hE (hX.keep k1) (hF.keep hI.tabs k1)) fun v2 s₂ ⟨i2, k2, r2⟩ => Calls.spliced_cons ?_
  have k12 := k1.trans k2
  refine wpQ (h3 A X env s₂ hA i2 hE (hX.keep k12) (hF.keep hI.tabs k12)) fun v3 s₃ ⟨i3, k3, r3⟩ => Calls.spliced_nil ?_
  have k13 := k12.trans k3
  have hX3 := hX.keep k13
  refine ⟨⟨i3.stays _ _ (hg.kin _ _ hK), rfl⟩, ?_⟩
  have hg' : GOk (g.onto s₃.heap X) := hg.onto i3 hX3
  have f3 : FnH [] (g.onto s₃.heap X).b v1 params body sc ρc := ((f1.keep i1.tabs k2).keep i2.tabs k3).base i3.tabs hX3
  have := hc (g.onto s₃.heap X) hg' rfl rfl v1 f3 A X s₃ [v1, v2, v3] hA (i3.onto X) hX3.onto (.cons .opq (.cons (r2.keep i2.tabs k3) (.cons r3 .nil)))
  exact wpQ this fun v s' p => (p.back (onto_stays hg i3 hX3)).more k13
end Mine


/- XC -/
namespace Mine
set_option maxRecDepth 100000
open PySem.Builtin.ObjectAttr (ownDictForStores storeInDict newKeyGuard)
variable {g : Gx} {ℓ : Nat} {fi : FI} {X : List Addr} {h₀ : Heap} {O : List (Str × Addr)} {env : Env} {σ : St} {s : Shared} {ρ : AEnv} {H : Heap} {Dd : Addr} {ds : List D}

theorem store_function : StoreFacts "function" [.type "function", .type "object"] "object.__setattr__" "object" where
  mro := by kernel_rfl
  slot := .of (owner := "object") (n := "__setattr__") (by rw [typeLookup_type, builtinLookup_eq_fast]; kernel_rfl) (by decide +kernel) (by decide +kernel) (by decide +kernel)
    (by first | exact .inl (by decide +kernel) | exact .inr (by decide +kernel)) (by rw [isSubtype_type]; kernel_rfl)
  entry := PySem.F.entry_object_sa
  kind := by decide +kernel
  split := by decide +kernel
  hasOwner := by decide +kernel
  args := fun a b c => by unfold argsOk; kernel_rfl
  passes := fun self => by kernel_rfl
theorem no_read : typeLookup (.type "function") "read" = pure none := by rw [typeLookup_type, builtinLookup_eq_fast]; kernel_rfl

theorem setattr_fn {prog : Program} {w : World} {A : Around} {E : Value → Shared → Prop} {x : Addr} {fd : FuncData} {v : Value} {Q : Unit → Shared → Prop} (hx : s.heap.get? x = some { cls := .type "function", data := .func fd })
    (hQ : ∀ h' tk dd, h'.get? x = some { cls := .type "function", dict := some dd, data := .func fd } → s.heap.get? dd = none → h'.Ns dd (fun y => if y = ("read" : Str) then some v else none) → (∀ b o, b ≠ x → s.heap.get? b = some o → h'.get? b = some o) → Q () { s with heap := h', toks := tk }) :
    wpAny (model prog w) A (setAttr (.ref x) "read" v) Q E s := by
  have hT : s.TypeIs (.ref x) "function" := ⟨_, hx, rfl⟩
  unfold setAttr
  refine wpAny_bind (wpAny_mkText ?_)
  refine wpAny_bind (wpAny_callSpecial?_slot (name := Str.ofString "__setattr__") (T := "function") ⟨_, hx, rfl⟩ store_function.slot ?_)
  refine wpAny_call_entry store_function.slot (T := "function") ⟨_, hx, rfl⟩ store_function.entry ?_ (store_function.args _ _ _)
  rw [osa_eq, refuse_eq]
  have hT' : ∀ tk, ({ s with toks := tk } : Shared).TypeIs (.ref x) "function" := fun _ => ⟨_, hx, rfl⟩
  refine wpAny_bind (wpAny_bind (wpAny_typeOf (hT' _) ?_))
  rw [store_function.mro]
  refine wpAny_bind (wpAny_pure ?_)
  rw [store_function.passes]
  refine wpAny_pure (wpAny_bind (wpAny_typeOf (hT' _) ?_))
  rw [no_read]
  refine wpAny_bind (wpAny_pure (wpAny_bind (wpAny_pure ?_)))
  refine wpAny_bind (wpAny_pure ?_)
  rw [if_neg (by decide)]
  show wpAny _ _ (instanceDict x true >>= _) _ _ _
  unfold instanceDict
  refine wpAny_bind (wpAny_bind (wpAny_loadPart hx ?_))
  have hhd : typeHasDict (.type "function") = true := by decide +kernel
  simp only [hhd, Bool.not_true, Bool.or_false, Bool.false_eq_true, if_false]
  refine wpAny_bind (wpAny_alloc ?_)
  have hxs : x ≠ s.heap.objs.size := Nat.ne_of_lt (Heap.lt_size hx)
  have hx₁ : (s.heap.push { cls := .type "dict", data := .dict #[] }).get? x = some { cls := .type "function", data := .func fd } := Heap.get?_push_of_some _ hx
  refine wpAny_bind (wpAny_update hx₁ ?_)
  have hmade : ∀ d, dictMade (.type "function") x d = pure (some d) := fun d => by
    unfold dictMade
    have : finalisedInACycleAlone "function" = false := by decide +kernel
    simp only [this, Bool.false_eq_true, if_false]
  rw [hmade]
  refine wpAny_pure ?_
  have hgd : ((s.heap.push { cls := .type "dict", data := .dict #[] }).update x fun o => { cls := o.cls, dict := some s.heap.objs.size, data := o.data, slots := o.slots }).get? s.heap.objs.size
      = some { cls := .type "dict", data := .dict #[] } :=
    (Heap.get?_update_ne _ _ _ _ hxs.symm).trans (Heap.get?_push_at rfl rfl)
  have hnd : ((s.heap.push { cls := .type "dict", data := .dict #[] }).update x fun o => { cls := o.cls, dict := some s.heap.objs.size, data := o.data, slots := o.slots }).Ns s.heap.objs.size (fun _ => none) :=
    ⟨_, #[], _, hgd, rfl, fun e he => absurd he (by simp), fun _ => rfl⟩
  show wpAny _ _ (storeInDict s.heap.objs.size (.str "read" _) "read" v) _ _ _
  unfold storeInDict newKeyGuard
  refine wpAny_bind (wpAny_pure (wpAny_bind (wpAny_nsSet1 (Heap.Ns1.of_empty hnd) fun h' hn' hs => ?_)))
  obtain ⟨oD, esD, epD, hoD, hdD, hcD⟩ := hn'.count (Within.cons _ v Within.nil)
  refine wpAny_bind (wpAny_lookBehind hoD (by rw [hdD]; exact pastItsLine_dict (Nat.le_trans hcD (by rw [List.length_cons, List.length_nil, sizeLine_eq]; lia))) ?_)
  refine wpAny_pure ⟨_, rfl, wpAny_pure ?_⟩
  refine hQ h' _ s.heap.objs.size ((hs.2 x hxs).trans (Heap.get?_update_self _ hx₁ rfl)) (fresh_none _) ?_ fun b o hb e => (hs.2 b (Nat.ne_of_lt (Heap.lt_size e))).trans ((Heap.get?_update_ne _ _ _ _ hb).trans (Heap.get?_push_of_some _ e))
  exact hn'.ns

theorem slot_getattribute_fn : Slot "function" "__getattribute__" "object.__getattribute__" :=
  .of (owner := "object") (n := "__getattribute__") (by rw [typeLookup_type, builtinLookup_eq_fast]; kernel_rfl) (by decide +kernel) (by decide +kernel) (by decide +kernel)
    (by first | exact .inl (by decide +kernel) | exact .inr (by decide +kernel)) (by rw [isSubtype_type]; kernel_rfl)
theorem no_getattr_fn : typeLookup (.type "function") "__getattr__" = pure none := by rw [typeLookup_type, builtinLookup_eq_fast]; kernel_rfl
theorem entry_oga : entryFor table "object.__getattribute__" = some Builtin.«object.__getattribute__» := entryFor_of_tree (by kernel_rfl)
theorem args_oga (a b : Value) : argsOk "object.__getattribute__" ⟨[a, b], []⟩ := by unfold argsOk; kernel_rfl

theorem getMethod_fn {prog : Program} {w : World} {A : Around} {E : Value → Shared → Prop} {x dd rd : Addr} {fd : FuncData} {m : Str → Option Value} {pl : Sem Bool} {Q : Value × List Value → Shared → Prop} (hx : s.heap.get? x = some { cls := .type "function", dict := some dd, data := .func fd })
    (hns : s.heap.Ns dd m) (hm : m "read" = some (.ref rd)) (hQ : ∀ tk, Q (.ref rd, []) { s with toks := tk }) : wpAny (model prog w) A (getMethod (.ref x) "read" pl) Q E s := by
  have hT : ∀ tk, ({ s with toks := tk } : Shared).TypeIs (.ref x) "function" := fun _ => ⟨_, hx, rfl⟩
  have hT0 : s.TypeIs (.ref x) "function" := ⟨_, hx, rfl⟩
  unfold getMethod
  refine wpAny_bind (wpAny_specialOf hT0 slot_getattribute_fn.lookup ?_)
  have hcan : (Manifest.canonical "object.__getattribute__" != "object.__getattribute__") = false := by decide +kernel
  show wpAny _ _ (if (Manifest.canonical "object.__getattribute__" != "object.__getattribute__") = true then _ else _) _ _ _
  rw [if_neg (by rw [hcan]; exact Bool.false_ne_true)]
  refine wpAny_bind (wpAny_specialOf hT0 no_getattr_fn ?_)
  rw [if_neg (show ¬ ((none : Option Value).isSome = true) from Bool.false_ne_true)]
  refine wpAny_bind (wpAny_specialOf hT0 no_read ?_)
  refine wpAny_bind ?_
  unfold getAttr
  refine wpAny_bind (wpAny_mkText ?_)
  unfold getAttrBy
  refine wpAny_holding (wpAny_bind (wpAny_typeOf (hT _) ?_))
  rw [slot_getattribute_fn.lookup]
  refine wpAny_bind (wpAny_pure ?_)
  show wpAny _ _ (getAttrByItsOwn (.ref x) (.str "read" _) (.type "function") (.builtin "object.__getattribute__") true false) _ _ _
  unfold getAttrByItsOwn hookBefore callGetattribute boundAndCalled
  refine wpAny_bind (wpAny_pure (wpAny_bind (wpAny_attempt (wpAny_holding ?_))))
  simp only [Bool.false_and, Bool.false_eq_true, if_false]
  rw [slot_getattribute_fn.bind]
  refine wpAny_bind (wpAny_pure ?_)
  refine wpAny_call_entry slot_getattribute_fn (hT _) entry_oga ?_ (args_oga _ _)
  show wpAny _ _ (Builtin.«object.__getattribute__» ⟨[.ref x, .str "read" _], []⟩) _ _ _
  unfold Builtin.«object.__getattribute__»
  refine wpAny_bind (wpAny_of_eq (show slotArgs "__getattribute__" 1 ⟨[Value.ref x, Value.str (Str.ofString "read") s.toks], []⟩ = pure (.ref x, [.str "read" s.toks]) from by first | rfl | kernel_rfl!) ?_)
  refine wpAny_bind (wpAny_of_eq (a := ("read" : Str)) (by rfl) ?_)
  refine wpAny_bind (wpAny_typeOf (hT _) ?_)
  unfold Builtin.ObjectAttr.find
  refine wpAny_bind (wpAny_bind (wpAny_of_eq no_read ?_))
  refine wpAny_bind (wpAny_of_eq (a := (none : Option Value)) (by rfl) ?_)
  refine wpAny_bind (wpAny_of_eq (a := (none : Option (Value × Value))) (by rfl) ?_)
  show wpAny _ _ (Builtin.ObjectAttr.ownThenClass (.ref x) "read" none none) _ _ _
  unfold Builtin.ObjectAttr.ownThenClass
  refine wpAny_bind ?_
  unfold Builtin.ObjectAttr.inOwnDict Builtin.ObjectAttr.ownDict
  refine wpAny_bind (wpAny_bind (wpAny_loadPart hx ?_))
  show wpAny _ _ (instanceDict x false) _ _ _
  unfold instanceDict
  refine wpAny_bind (wpAny_loadPart hx (wpAny_pure ?_))
  show wpAny _ _ (nsGet dd "read") _ _ _
  refine wpAny_nsGet hns ?_
  rw [hm]
  refine wpAny_bind (wpAny_rule (wpAny_pure (wpAny_pure ⟨_, rfl, ?_⟩)))
  exact wpAny_pure (wpAny_pure (hQ _))
end Mine


/- XD -/
namespace Mine
variable {g : Gx} {ℓ : Nat} {fi : FI} {X : List Addr} {h₀ : Heap} {O : List (Str × Addr)} {env : Env} {σ : St} {s : Shared} {ρ : AEnv} {H : Heap} {Dd : Addr} {ds : List D}

theorem hide_none {h : Heap} {l : List Addr} {a : Addr} (e : h.get? a = none) : (hideAll h l).get? a = none := by
  cases q : (hideAll h l).get? a with
  | none => rfl
  | some o => rw [of_hideAll _ q] at e; cases e

theorem FrX.hide (F : FrX g X h₀ O fi env σ s) {p : Addr} (hp : g.b.get? p = none) : FrX g X (hideAll h₀ [p]) O fi env σ s := by
  refine ⟨F.inv, fun a o e => ?_, F.eok, F.xok, fun a o h1 e => F.keep a o h1 (of_hideAll _ e), hide_none F.lnew, F.lns, fun x hx => ?_, F.inj, F.cel, F.names, F.nodup, fun x a hm => ?_, F.rest⟩
  · obtain ⟨o', e'⟩ := F.bin a o e
    exact ⟨o', hideAll_get _ e' (fun m => by rw [List.mem_singleton.mp m, hp] at e; cases e)⟩
  · obtain ⟨q1, c, v, q2, q3, q4⟩ := F.cells x hx
    exact ⟨q1, c, v, q2, q3, hide_none q4⟩
  · obtain ⟨q1, qa, qb, qc, qd, qe, q⟩ := F.own x a hm
    exact ⟨hide_none q1, qa, qb, qc, qd, qe, q⟩

theorem FrX.adopt {ρ : AEnv} (F : FrX g X h₀ [] fi env ⟨ρ, []⟩ s) {p : Addr} {x : Str} {vs : List Value} {ds : List D} (hp : p ∈ X) (hv : VarAt s.heap env x (.ref p)) (hl : PL s.heap p vs.toArray) (hz : vs.length ≤ sizeLine) (hr : Reps X s.heap vs ds) :
    FrX g (X.filter (· ≠ p)) (hideAll h₀ [p]) [(x, p)] fi env ⟨put ρ x (.list ds), [x]⟩ s := by
  have F' := F.hide (F.xok p hp).2.2
  have sub : ∀ b, b ∈ X.filter (· ≠ p) ++ [(x, p)].map (·.2) → b ∈ X := by
    intro b hb
    rcases List.mem_append.mp hb with hb | hb
    · exact (List.mem_filter.mp hb).1
    · rw [List.map_cons, List.map_nil, List.mem_singleton] at hb; rw [hb]; exact hp
  refine ⟨F'.inv, F'.bin, F'.eok, fun a ha => F'.xok a (List.mem_filter.mp ha).1, F'.keep, F'.lnew, F'.lns, F'.cells, F'.inj, F'.cel, rfl, by simp, fun y a hm => ?_, fun y d hd hy => ?_⟩
  · rw [List.mem_singleton] at hm
    cases hm
    refine ⟨hideAll_none _ (.head _), fun m => by simpa using (List.mem_filter.mp m).2, hv, vs, ds, ?_, hl, hz, hr.mono sub⟩
    show (put ρ x (.list ds)).lookup x = _
    rw [lookup_put]; simp
  · have hyx : y ≠ x := fun z => hy (by rw [z]; exact .head _)
    have hd' : (put ρ x (.list ds)).lookup y = some d := hd
    rw [lookup_put, if_neg (by simpa using hyx)] at hd'
    obtain ⟨v, q1, q2⟩ := F'.rest y d hd' (fun h => nomatch h)
    refine ⟨v, q1, q2.mono fun b hb => ?_⟩
    rw [List.map_nil, List.append_nil]
    exact sub b hb

def KeepP (g : Gx) (p : Addr) (h h' : Heap) : Prop := ∀ a o, a ∉ g.Tb → a ≠ p → h.get? a = some o → h'.get? a = some o

theorem KeepP.repKR {p : Addr} {Y : List Addr} {h h' : Heap} (t : TabsOK g h) (hl : h.IsList p vs) (hp : p ∈ Y) (k : KeepP g p h h') : KeepR Y h h' := fun a o e q => by
  refine k a o (tab_noSeq t e q) ?_ e
  rintro rfl
  obtain ⟨o', e', c', n', d'⟩ := hl
  rw [e] at e'; cases e'
  rcases q with ⟨xs, n, _, z⟩ | ⟨ws, q, _⟩
  · exact z c' hp
  · rw [d'] at q; cases q

theorem FrX.stepP (F : FrX g X h₀ O fi env σ s) {p : Addr} {xs ys : Array Value} (hp : p ∈ X) (hn : h₀.get? p = none) (hO : p ∉ O.map (·.2)) (hl : s.heap.IsList p xs) {s' : Shared} (i : Inv g s') (k : KeepP g p s.heap s'.heap) (hl' : s'.heap.IsList p ys) : FrX g X h₀ O fi env σ s' := by
  have t := F.inv.tabs
  have kr : KeepR (X ++ O.map (·.2)) s.heap s'.heap := k.repKR t hl (List.mem_append_left _ hp)
  have kc : ∀ c v, s.heap.IsCell c v → s'.heap.IsCell c v := fun c v hv => by
    obtain ⟨o, e, d⟩ := id hv
    exact ⟨o, k _ _ (IsCell.apart t hv) (fun z => by subst z; exact IsList.noCell hl hv) e, d⟩
  have kn : ∀ c m, s.heap.Ns c m → s'.heap.Ns c m := fun c m hm => hm.at' fun o e => k _ _ (Ns.apart t hm) (fun z => by subst z; exact IsList.noNs hl hm) e
  have kv : ∀ x v, VarAt s.heap env x v → VarAt s'.heap env x v := fun x v hv => by
    rcases hv with ⟨hk, m, hm, e⟩ | ⟨hk, c, hc, hv⟩
    · exact .inl ⟨hk, m, kn _ _ hm, e⟩
    · exact .inr ⟨hk, c, hc, kc _ _ hv⟩
  refine ⟨i, F.bin, F.eok, fun a ha => ?_, fun a o h1 e => k a o h1 (fun z => by rw [z, hn] at e; cases e) (F.keep a o h1 e), F.lnew, ?_, fun x hx => ?_, F.inj, fun x hx => ?_, F.names, F.nodup, fun x a hm => ?_, fun x d hd hx => ?_⟩
  · obtain ⟨⟨o, e, q⟩, n1, n2⟩ := F.xok a ha
    by_cases z : a = p
    · subst z
      obtain ⟨o', e', c', n', d'⟩ := hl'
      exact ⟨⟨o', e', c', _, _, d'⟩, n1, n2⟩
    · exact ⟨⟨o, k a o n1 z e, q⟩, n1, n2⟩
  · obtain ⟨m, hm⟩ := F.lns; exact ⟨m, kn _ _ hm⟩
  · obtain ⟨q1, c, v, q2, q3, q4⟩ := F.cells x hx; exact ⟨q1, c, v, q2, kc _ _ q3, q4⟩
  · obtain ⟨c, v, q2, q3⟩ := F.cel x hx; exact ⟨c, v, q2, kc _ _ q3⟩
  · obtain ⟨q1, q2, q3, vs, ds, q4, q5, q6, q7⟩ := F.own x a hm
    refine ⟨q1, q2, kv _ _ q3, vs, ds, q4, ?_, q6, q7.keepR kr⟩
    obtain ⟨o, n, e, c, r⟩ := id q5
    exact ⟨o, n, k a o (tab_cls t e (by rw [c]; nofun)) (fun z => hO (z ▸ List.mem_map.mpr ⟨_, hm, rfl⟩)) e, c, r⟩
  · obtain ⟨v, q1, q2⟩ := F.rest x d hd hx
    exact ⟨v, kv _ _ q1, q2.keepR kr⟩
end Mine


/- XE -/
namespace Mine
variable {g : Gx} {ℓ : Nat} {fi : FI} {X : List Addr} {h₀ : Heap} {O : List (Str × Addr)} {env : Env} {σ : St} {s : Shared} {ρ : AEnv} {H : Heap} {Dd : Addr} {ds : List D}

theorem setItem_PL {prog : Program} {w : World} {A : Around} {E : Value → Shared → Prop} {l : Addr} {items : Array Value} {k : Int} {t : Tok} {v : Value} {Q : Unit → Shared → Prop} (hpl : PL s.heap l items)
    (h0 : 0 ≤ k) (hfit : k < 2 ^ 63) (hn : k < items.size)
    (hQ : ∀ h', PL h' l (items.setIfInBounds k.toNat v) → Heap.SameBut l s.heap h' → Q () { s with heap := h' }) :
    wpAny (model prog w) A (setItem (.ref l) (.int k t) v) Q E s := by
  have hl := hpl.isList
  obtain ⟨o, ne, ho, hc, hdn, hd⟩ := id hpl
  unfold setItem
  try with_reducible refine wpAny_holding ?_
  first | refine wpAny_bind (wpAny_pure ?_) | skip
  refine wpAny_bind (wpAny_sequenceKey hl.typeIs (by decide) ?_)
  refine wpAny_bind (wpAny_callSpecial?_slot (name := Str.ofString "__setitem__") hl.typeIs slot_list_setitem
    (wpAny_call_entry slot_list_setitem hl.typeIs entry_list_setitem ?_ (args_list_setitem _ _ _)))
  show wpAny _ _ (Builtin.List.listSubscript? (.int k t) >>= _) _ _ s
  refine wpAny_bind (wpAny_listSubscript_int (fitsIndex_of h0 hfit) ?_)
  clear hfit
  obtain ⟨j, rfl⟩ := Int.eq_ofNat_of_zero_le h0
  have hj : j < items.size := by lia
  have hx' : items[j]? = some items[j] := Array.getElem?_eq_getElem hj
  show wpAny _ _ ((seqItemAt l j >>= fun r => pure (r.map (j, ·))) >>= _) _ _ s
  refine wpAny_bind (wpAny_bind (wpAny_seqItemAt ho hd (wpAny_pure ?_)))
  rw [hx']
  show wpAny _ _ (setSeqItemAt l j v >>= _) _ _ s
  obtain ⟨n', hd'⟩ := Obj.data_mapSeq hd (·.setIfInBounds j v)
  have hfin : PL (s.heap.update l (Obj.mapSeq (·.setIfInBounds j v))) l (items.setIfInBounds j v) := by
    refine ⟨_, n', Heap.get?_update_self _ ho (Obj.isFreed_of_seq hd'), (Obj.cls_mapSeq ..).trans hc, ?_, hd'⟩
    obtain ⟨oc, od, odt, osl⟩ := o
    cases odt <;> exact hdn
  refine wpAny_bind (wpAny_setSeqItemAt ho hd ?_)
  first
    | exact wpAny_bind (wpAny_pure (wpAny_pure ⟨.none, rfl, wpAny_pure (hQ _ hfin (Heap.SameBut.update ..))⟩))
    | exact wpAny_pure ⟨.none, rfl, wpAny_pure (hQ _ hfin (Heap.SameBut.update ..))⟩

theorem Reps.set {h : Heap} {v : Value} {d : D} (a : Rep X h v d) : ∀ {vs : List Value} {ds : List D} (i : Nat), Reps X h vs ds → Reps X h (vs.set i v) (ds.set i d)
  | _, _, _, .nil => .nil
  | _, _, 0, .cons _ r => .cons a r
  | _, _, i + 1, .cons b r => .cons b (Reps.set a i r)

theorem Ex1.setItem {x : Str} {p1 p2 p3 pos : Pos} {kd : Nat} {value : Expr} {k : Nat} {d : D} {ds : List D} {Q : St → Fl → Prop} (hx : x ∈ σ.ω) (hl : σ.ρ.lookup x = some (.list ds)) (h : EvS g ℓ fi σ value d) (hk : k < ds.length) (hk' : k < 1000) (hq : Q (σ.put x (.list (ds.set k d))) .next)
    (hn : okName x = true := by decide) (hs : ∀ env, swapsWith value (some (.Subscript (.Name x p1) (.Constant (.int (k : Int)) kd p2) p3)) pos.line env = pure false := by intro _; rfl) :
    Ex1 g ℓ fi σ (.Assign [.Subscript (.Name x p1) (.Constant (.int (k : Int)) kd p2) p3] value pos) Q := by
  intro A X h₀ O env s hA F
  rw [← F.names] at hx
  obtain ⟨⟨y, a⟩, hp, rfl⟩ := List.mem_map.mp hx
  refine wpAny_Assign_Subscript (wpQ (h.run hA F) fun v s₁ ⟨F₁, k₁, r₁⟩ => ?_) (hs env)
  obtain ⟨q1, q2, q3, us, es', q4, q5, q6, q7⟩ := F₁.own y a hp
  simp only at hl
  rw [hl] at q4; cases q4
  refine evalVar F₁.eok.kind q3 hn (wpAny_Constant_int ?_)
  have q5' : PL ({ s₁ with toks := s₁.toks + 1 } : Shared).heap a us.toArray := q5
  refine setItem_PL q5' (by lia) (by lia) (by rw [List.size_toArray, q7.length]; lia) fun h' hl' hs' => ?_
  have e : us.toArray.setIfInBounds (k : Int).toNat v = (us.set k v).toArray := by simp
  rw [e] at hl'
  have F' := F₁.pokeO hp q5 (h' := h') (tk := s₁.toks + 1) (vs' := us.set k v) (ds' := ds.set k d) hs' hl' (by rw [List.length_set]; exact q6) (Reps.set r₁ k q7)
  have ka : KeepX g fi env O s₁.heap h' := fun b o h1 h2 h3 e => (hs'.2 b fun z => h3 (z ▸ List.mem_map.mpr ⟨_, hp, rfl⟩)).trans e
  obtain ⟨o', n', e', _⟩ := id hl'
  exact ⟨_, O, .next, F', (KeepX.of_keep k₁).trans ka Onew.refl, (Alive.of_keep F₁.inv.tabs k₁).trans (Alive.of_same e' hs'), Onew.refl, trivial, hq⟩

theorem Ev.slB {value : Expr} {lower upper : Option Expr} {p pos : Pos} {b : Array UInt8} {lo hi : Option Int} (hv : Ev g ℓ fi ρ value (.bytes b)) (h1 : EvP g ℓ fi ρ lower lo) (h2 : EvP g ℓ fi ρ upper hi) (hz : b.size ≤ 2 ^ 20) :
    Ev g ℓ fi ρ (.Subscript value (.Slice lower upper Option.none p) pos) (.bytes (KBy.picked b lo hi)) := by
  intro A X env s hA hI hE hX hF
  refine Subscript_ ?_
  refine wpQ (hv A X env s hA hI hE hX hF) fun va s₁ ⟨i1, k1, r1⟩ => wpAny_Slice ?_
  refine wpQ (h1.run hA i1 hE (hX.keep k1) (hF.keep hI.tabs k1)) fun vl s₂ ⟨i2, k2, p2⟩ => ?_
  have k12 := k1.trans k2
  refine wpQ (h2.run hA i2 hE (hX.keep k12) (hF.keep hI.tabs k12)) fun vu s₃ ⟨i3, k3, p3⟩ => ?_
  have k13 := k12.trans k3
  rw [evalPart_none]
  refine wpAny_pure ?_
  have kk := push_keeps s₃.heap { cls := .type "slice", data := .fields #[vl, vu, .none] }
  obtain ⟨t, rfl⟩ : ∃ t, va = .bytes b t := by cases r1; exact ⟨_, rfl⟩
  refine subTail (T := "bytes") (typeIs_bytes _ _ _) FB.slot_bytes_getitem.lookup ?_ ⟨_, rfl⟩
  refine getItem_meets (typeIs_bytes _ _ _) (by decide) FB.slot_bytes_getitem FB.entry_bytes_getitem (FB.args_bytes_getitem_2 _ _) (KBc.meets_slice2 b t _ p2 p3) ⟨Heap.IsSliceOf.new _ _ _ _, ?_, fun t' tk => ?_⟩
  · have := KBc.size_picked_le b lo hi
    rw [sizeLine_eq]; lia
  · exact ⟨i3.of_keeps (tk := tk) kk, k13.trans (Keep.of kk), .bytes⟩
end Mine


/- XF -/
namespace Mine
variable {g : Gx} {ℓ : Nat} {fi : FI} {X : List Addr} {h₀ : Heap} {O : List (Str × Addr)} {env : Env} {σ : St} {s : Shared} {ρ : AEnv} {H : Heap} {Dd : Addr} {ds : List D}

def newPos (b : Array UInt8) (pos n : Int) : Int := if pos + n < (b.size : Int) then pos + n else b.size

structure ReadFi (fi : FI) : Prop where
  first : fi.sc.names.lookup ("first" : Str) = some .local
  min : fi.sc.names.lookup ("min" : Str) = some .globalImplicit
  len : fi.sc.names.lookup ("len" : Str) = some .globalImplicit

theorem Ex.read (hg : GOk g) {p1 p2 p3 p4 p5 p6 p7 p8 p9 p10 p11 p12 p13 p14 p15 p16 p17 p18 p19 p20 p21 p22 p23 p24 p25 : Pos} {k1 k2 k3 : Nat} {b : Array UInt8} {pos n : Int} (hfi : ReadFi fi) (hv1 : GlobV g "min" (.builtin "min")) (hv2 : GlobV g "len" (.builtin "len")) (hb : b.size ≤ 2 ^ 20) (hω : σ.ω = [("place" : Str)])
    (l1 : σ.ρ.lookup ("place" : Str) = some (.list [.int pos])) (l2 : σ.ρ.lookup ("octets" : Str) = some (.bytes b)) (l3 : σ.ρ.lookup ("count" : Str) = some (.int n)) :
    Ex g ℓ fi σ [.Assign [.Name "first" p1] (.Subscript (.Name "place" p2) (.Constant (.int 0) k1 p3) p4) p5,
      .Assign [.Subscript (.Name "place" p6) (.Constant (.int 0) k2 p7) p8] (.Call (.Name "min" p9) [.Call (.Name "len" p10) [.Name "octets" p11] [] p12, .BinOp (.Name "first" p13) .Add (.Name "count" p14) p15] [] p16) p17,
      .Return (some (.Subscript (.Name "octets" p18) (.Slice (some (.Name "first" p19)) (some (.Subscript (.Name "place" p20) (.Constant (.int 0) k3 p21) p22)) none p23) p24)) p25]
      fun σ' fl => fl = .ret (.bytes (KBy.picked b (some pos) (some (newPos b pos n)))) ∧ σ'.ω = [("place" : Str)] ∧ σ'.ρ.lookup ("place" : Str) = some (.list [.int (newPos b pos n)]) := by
  have okf : okStore fi σ "first" := ⟨by rw [hω]; decide, .inl hfi.first⟩
  have ix0 : ixOk 0 := ⟨by decide, by decide⟩
  refine Ex.cons (Ex1.assign (.inr ⟨Ev.sub (Ev.var l1) Ev.int (Op2.atL (j := 0) (d := .int pos) (by rfl) (by rfl) ix0), rfl⟩) okf ?_)
  have m1 : (σ.put "first" (.int pos)).ρ.lookup ("place" : Str) = some (.list [.int pos]) := by rw [lookup_put_ne (by decide)]; exact l1
  have m2 : (σ.put "first" (.int pos)).ρ.lookup ("octets" : Str) = some (.bytes b) := by rw [lookup_put_ne (by decide)]; exact l2
  have m3 : (σ.put "first" (.int pos)).ρ.lookup ("count" : Str) = some (.int n) := by rw [lookup_put_ne (by decide)]; exact l3
  have m4 : (σ.put "first" (.int pos)).ρ.lookup ("first" : Str) = some (.int pos) := lookup_put_eq
  refine Ex.cons (Ex1.setItem (k := 0) (d := .int (newPos b pos n)) (by show _ ∈ σ.ω; rw [hω]; exact .head _) m1 (.inr ⟨?_, rfl⟩) (Nat.zero_lt_one) (by decide) ?_)
  · refine Ev.call hg hfi.min hv1 (.blt _) (Evs.cons (Ev.call hg hfi.len hv2 (.blt _) (Evs.cons (Ev.var m2) Evs.nil) (CallOK.lenB hb)) (Evs.cons (Ev.bin (Ev.var m4) (Ev.var m3) Op2.add) Evs.nil)) ?_
    exact CallOK.min2
  · refine Ex.cons (Ex1.ret (Ev.slB (lo := some pos) (hi := some (newPos b pos n)) (b := b) (Ev.var ?_) (Ev.var ?_) ?_ hb) ⟨rfl, hω, lookup_put_eq⟩)
    · rw [lookup_put_ne (by decide)]; exact m2
    · rw [lookup_put_ne (by decide)]; exact m4
    · exact Ev.sub (Ev.var lookup_put_eq) Ev.int (Op2.atL (j := 0) (d := .int (newPos b pos n)) (by rfl) (by rfl) ix0)

inductive ReadBody : List Stmt → Prop where
  | mk (p1 p2 p3 p4 p5 p6 p7 p8 p9 p10 p11 p12 p13 p14 p15 p16 p17 p18 p19 p20 p21 p22 p23 p24 p25 : Pos) (k1 k2 k3 : Nat) : ReadBody [.Assign [.Name "first" p1] (.Subscript (.Name "place" p2) (.Constant (.int 0) k1 p3) p4) p5,
      .Assign [.Subscript (.Name "place" p6) (.Constant (.int 0) k2 p7) p8] (.Call (.Name "min" p9) [.Call (.Name "len" p10) [.Name "octets" p11] [] p12, .BinOp (.Name "first" p13) .Add (.Name "count" p14) p15] [] p16) p17,
      .Return (some (.Subscript (.Name "octets" p18) (.Slice (some (.Name "first" p19)) (some (.Subscript (.Name "place" p20) (.Constant (.int 0) k3 p21) p22)) none p23) p24)) p25]
inductive ReadFn (X : List Addr) (h : Heap) (rd p : Addr) (b : Array UInt8) : Prop where
  | mk (params : Arguments) (body : List Stmt) (sc : Scope) (ρc : AEnv) (fn : FnH X h (.ref rd) params (.stmts body) sc ρc) (so : ScOk sc ["count"]) (l1 : ρc.lookup ("octets" : Str) = some (.bytes b)) (l2 : ρc.lookup ("place" : Str) = some (.opq (.ref p))) (sl : ∀ x d, ρc.lookup x = some d → d.scalar = true) (rf : ReadFi ⟨sc, .none, []⟩)
      (bd : ∀ (fd : FuncData) (v : Value), fd.params = params → fd.defaults = .none → fd.kwdefaults = .none → bindArgs fd ⟨[v], []⟩ = pure [(("count" : Str), v)]) (rb : ReadBody body)

theorem callRead (hg : GOk g) {rd p : Addr} {b : Array UInt8} {pos n : Int} {t t' : Tok} (hf : ReadFn X s.heap rd p b) (hv1 : GlobV g "min" (.builtin "min")) (hv2 : GlobV g "len" (.builtin "len")) (hb : b.size ≤ 2 ^ 20) (hp : p ∈ X) (hl : PL s.heap p #[.int pos t]) {A : Around} (hA : AOk (ℓ + 1) A) (hI : Inv g s) (hX : XOk g X s.heap) :
    wpAny g.M A (call (.ref rd) [.int n t']) (fun v s' => Inv g s' ∧ KeepP g p s.heap s'.heap ∧ (∃ t, PL s'.heap p #[.int (newPos b pos n) t]) ∧ ∃ t, v = .bytes (KBy.picked b (some pos) (some (newPos b pos n))) t) NoE s := by
  obtain ⟨params, body, sc, ρc, ⟨a, o, fd, cc, qn, ea, e, c, dd, q1, q2, rfl, q4, q5, q6, q7, q8, q9, q10, q11, q12⟩, hsc, lo, lp, lc, hfi, hbind, ⟨p1, p2, p3, p4, p5, p6, p7, p8, p9, p10, p11, p12, p13, p14, p15, p16, p17, p18, p19, p20, p21, p22, p23, p24, p25, k1, k2, k3⟩⟩ := hf
  cases ea
  have hroom : A.depth < recursionLimit := by have := hA.depth; lia
  refine wpAny_call (codeAny_mono (R := fun r s' => ∃ v, r = .ok (.ret v) ∧ Inv g s' ∧ KeepP g p s.heap s'.heap ∧ (∃ t, PL s'.heap p #[.int (newPos b pos n) t]) ∧ ∃ t, v = .bytes (KBy.picked b (some pos) (some (newPos b pos n))) t) ?_ ?_)
  · refine callFun hroom e dd hsc.co hsc.gen q8 q9 ?_
    rw [hbind fd _ q1 q6 q7]
    refine wpAny_pure ?_
    rw [q4, q5]
    have hz : ([("count", Value.int n t')] : List (Str × Value)) = (["count"] : List Str).zip [.int n t'] := rfl
    rw [hz]
    refine enter hsc.kind hsc.nd (fun p hp => hsc.xk _ (List.of_mem_zip hp).1) (fun x c hc => by obtain ⟨v, o, e, _⟩ := q10 x c hc; exact ⟨o, e⟩) fun L cells s₂ Ent => ?_
    refine ⟨(hg.nolimit.keeps hI.stays).keeps Ent.keep, ?_⟩
    obtain ⟨env, hE⟩ : ∃ x, newEnv fd.scope L mainGlobals cells (qn ++ ".<locals>.") (some rd) fd.code none builtinsNs = x := ⟨_, rfl⟩
    rw [hE] at Ent ⊢
    have FX := enterFr (g := g) (X := X) (cd := fd.code) (ρc := ρc) (ds := [.int n]) Ent hI hX (.cons .int .nil) rfl hsc.xnd hsc.nd hsc.kind hsc.xk (by rw [← hE]; rfl) (by rw [← hE]; rfl) (by rw [← hE]; rfl) (by rw [← hE]; rfl)
      (fun x hx => by obtain ⟨c, hc⟩ := q11 x hx; obtain ⟨v, hv⟩ := q10 x c hc; exact ⟨c, v, hc, hv⟩) q12
    have lk : ∀ y d, ρc.lookup y = some d → (y == ("count" : Str)) = false → ((["count"] : List Str).zip [D.int n] ++ ρc).lookup y = some d := by
      intro y d h1 h2
      show List.lookup y (("count", D.int n) :: ρc) = _
      rw [List.lookup_cons, h2]; exact h1
    obtain ⟨v0, hv0, hr0⟩ := FX.rest ("place" : Str) _ (lk _ _ lp (by decide)) (fun h => nomatch h)
    obtain rfl := hr0.opq'
    have hl2 : PL s₂.heap p ([.int pos t] : List Value).toArray := by obtain ⟨o, k, e, r⟩ := id hl; exact ⟨o, k, Ent.keep _ _ e, r⟩
    have FA := FX.adopt (x := ("place" : Str)) (vs := [.int pos t]) (ds := [.int pos]) hp hv0 hl2 (by show 1 ≤ _; decide) (.cons .int .nil)
    rw [q2]
    refine codeAny_func ?_
    have hfi' : ReadFi ⟨fd.scope, fd.code, (fd.scope.names.filter (·.2 == .cell)).map (·.1)⟩ := ⟨hfi.first, hfi.min, hfi.len⟩
    refine wpQ (Ex.read (ℓ := ℓ) (b := b) (pos := pos) (n := n) hg hfi' hv1 hv2 hb rfl ?_ ?_ ?_ _ _ _ _ env s₂ (hA.deeper env) FA) ?_
    · show (put _ _ _).lookup _ = _
      rw [lookup_put]; simp
    · show (put _ _ _).lookup _ = _
      rw [lookup_put, if_neg (by decide)]; exact lk _ _ lo (by decide)
    · show (put _ _ _).lookup _ = _
      rw [lookup_put, if_neg (by decide)]; rfl
    · rintro f s' ⟨σ', O', fl, F', kx, _, _, hf, rfl, hω, hpl⟩
      cases f with
      | ret v =>
        have kp : KeepP g p s.heap s'.heap := fun a o h1 h2 e => F'.keep a o h1 (hideAll_get _ e (by simpa using h2))
        refine ⟨v, rfl, F'.inv, kp, ?_, ?_⟩
        · have hnames := F'.names
          rw [hω] at hnames
          obtain ⟨⟨y, a'⟩, hmem, rfl⟩ : ∃ q ∈ O', q.1 = ("place" : Str) := by
            have : ("place" : Str) ∈ O'.map (·.1) := by rw [hnames]; exact .head _
            obtain ⟨q, hq, e⟩ := List.mem_map.mp this
            exact ⟨q, hq, e⟩
          obtain ⟨_, _, hv', us, es, l', pl', _, rs'⟩ := F'.own _ a' hmem
          rw [hpl] at l'; cases l'
          obtain ⟨u, rfl, ru⟩ := rs'.one
          have : a' = p := by
            obtain ⟨kf, cp, vp, c1, c2, c3⟩ := q12 _ _ lp
            cases c3
            have c2' : s'.heap.IsCell cp (some (.ref p)) := by
              obtain ⟨oc, ec, dc⟩ := id c2
              exact ⟨oc, kp _ _ (IsCell.apart hI.tabs c2) (fun z => IsList.noCell hl.isList (z ▸ c2)) ec, dc⟩
            rcases hv' with ⟨hk, _⟩ | ⟨hk, cc', hc', hvc⟩
            · rw [F'.eok.kinds] at hk
              have : fd.scope.names.lookup ("place" : Str) = some .local := hk
              rw [kf] at this; cases this
            · have hcl : env.cells.lookup ("place" : Str) = some cp := (Ent.free _ (by rw [kf]; nofun)).trans c1
              rw [hcl] at hc'; cases hc'
              obtain ⟨o1, e1, d1⟩ := c2'
              obtain ⟨o2, e2, d2⟩ := hvc
              rw [e1] at e2; cases e2
              rw [d1] at d2; cases d2; rfl
          subst this
          obtain ⟨_, rfl⟩ := ru.int'
          exact ⟨_, pl'⟩
        · have hf' : Rep _ s'.heap v (.bytes _) := hf
          cases hf'; exact ⟨_, rfl⟩
      | _ => exact hf.elim
  · rintro r s' ⟨v, rfl, h⟩
    exact h
end Mine


/- XG -/
namespace Mine
variable {g : Gx} {ℓ : Nat} {fi : FI} {X : List Addr} {h₀ : Heap} {O : List (Str × Addr)} {env : Env} {σ : St} {s : Shared} {ρ : AEnv} {H : Heap} {Dd : Addr} {ds : List D} {st p : Addr} {b : Array UInt8} {pos pos' : Int}

inductive StreamH (X : List Addr) (h : Heap) (st p : Addr) (b : Array UInt8) : Prop where
  | mk (dd : Addr) (fd : FuncData) (m : Str → Option Value) (rd : Addr) (e : h.get? st = some { cls := .type "function", dict := some dd, data := .func fd }) (n : h.Ns dd m) (hm : m "read" = some (.ref rd)) (rf : ReadFn X h rd p b)

theorem StreamH.lift {Y : List Addr} {h h' : Heap} (x : StreamH X h st p b) (k : ∀ a o, h.get? a = some o → h'.get? a = some o) : StreamH Y h' st p b := by
  obtain ⟨dd, fd, m, rd, e, n, hm, params, body, sc, ρc, f, r1, r2, r3, r4, r5, r6, r7⟩ := x
  refine ⟨dd, fd, m, rd, k _ _ e, n.keeps k, hm, params, body, sc, ρc, f.move (fun a o e _ _ => k a o e) (fun c v ⟨o, e, d⟩ => ⟨o, k _ _ e, d⟩) (fun x v d hd r => ?_), r1, r2, r3, r4, r5, r6, r7⟩
  have := r4 x d hd
  cases r <;> first | exact .none | exact .bool | exact .int | exact .str | exact .bytes | exact .opq | cases this

def Snap (g : Gx) (fi : FI) (env : Env) (O : List (Str × Addr)) (p : Addr) (hz h : Heap) : Prop := ∀ a o, hz.get? a = some o → h.get? a = some o ∧ a ∉ g.Tb ∧ a ≠ p ∧ ¬ OwnA fi env a ∧ a ∉ O.map (·.2)

structure SF (g : Gx) (X : List Addr) (h₀ : Heap) (O : List (Str × Addr)) (fi : FI) (env : Env) (σ : St) (s : Shared) (st p : Addr) (b : Array UInt8) (pos : Int) : Prop where
  fr : FrX g X h₀ O fi env σ s
  px : p ∈ X
  pn : h₀.get? p = none
  pO : p ∉ O.map (·.2)
  pl : ∃ t, PL s.heap p #[.int pos t]
  sn : ∃ hz, Snap g fi env O p hz s.heap ∧ StreamH [] hz st p b

theorem SF.strm (S : SF g X h₀ O fi env σ s st p b pos) : StreamH X s.heap st p b := by
  obtain ⟨hz, h1, h2⟩ := S.sn
  exact h2.lift fun a o e => (h1 a o e).1
theorem SF.stepP (S : SF g X h₀ O fi env σ s st p b pos) {s' : Shared} (i : Inv g s') (k : KeepP g p s.heap s'.heap) {t : Tok} (hl : PL s'.heap p #[.int pos' t]) : SF g X h₀ O fi env σ s' st p b pos' := by
  obtain ⟨t0, hl0⟩ := S.pl
  refine ⟨S.fr.stepP S.px S.pn S.pO hl0.isList i k hl.isList, S.px, S.pn, S.pO, ⟨t, hl⟩, ?_⟩
  obtain ⟨hz, h1, h2⟩ := S.sn
  exact ⟨hz, fun a o e => let ⟨q1, q2, q3, q4⟩ := h1 a o e; ⟨k a o q2 q3 q1, q2, q3, q4⟩, h2⟩
theorem SF.step (S : SF g X h₀ O fi env σ s st p b pos) {s' : Shared} (i : Inv g s') (k : Keep g s.heap s'.heap) : SF g X h₀ O fi env σ s' st p b pos := by
  obtain ⟨t0, o, n, e, c, r⟩ := S.pl
  exact S.stepP i (fun a o h1 _ e => k a o h1 e) (t := t0) ⟨o, n, k _ _ (S.fr.xok p S.px).2.1 e, c, r⟩
theorem SF.stepX (S : SF g X h₀ O fi env σ s st p b pos) {s' : Shared} {σ' : St} {O' : List (Str × Addr)} (F' : FrX g X h₀ O' fi env σ' s') (k : KeepX g fi env O s.heap s'.heap) (hn : ∀ q ∈ O', q.2 ∈ O.map (·.2) ∨ s.heap.get? q.2 = none) : SF g X h₀ O' fi env σ' s' st p b pos := by
  obtain ⟨t0, o, n, e, c, r⟩ := S.pl
  have nO : ∀ a, (∃ o, s.heap.get? a = some o) → a ∉ O.map (·.2) → a ∉ O'.map (·.2) := fun a ⟨o, e⟩ hno w => by
    obtain ⟨q, hq, rfl⟩ := List.mem_map.mp w
    rcases hn q hq with z | z
    · exact hno z
    · rw [e] at z; cases z
  have pT := (S.fr.xok p S.px).2.1
  have pOwn : ¬ OwnA fi env p := own_noSeq S.fr e (.inl ⟨_, _, r.2, fun _ h => nomatch h⟩ : SeqO [] p o)
  refine ⟨F', S.px, S.pn, nO p ⟨o, e⟩ S.pO, ⟨t0, o, n, k p o pT pOwn S.pO e, c, r⟩, ?_⟩
  obtain ⟨hz, h1, h2⟩ := S.sn
  exact ⟨hz, fun a o e => let ⟨q1, q2, q3, q4, q5⟩ := h1 a o e; ⟨k a o q2 q4 q5 q1, q2, q3, q4, nO a ⟨o, q1⟩ q5⟩, h2⟩

def EvR (g : Gx) (ℓ : Nat) (fi : FI) (σ : St) (st p : Addr) (b : Array UInt8) (pos : Int) (e : Expr) (pos' : Int) (d : D) : Prop :=
  ∀ A X h₀ O env s, AOk ℓ A → SF g X h₀ O fi env σ s st p b pos → wpAny g.M A (eval e env) (fun v s' => SF g X h₀ O fi env σ s' st p b pos' ∧ KeepP g p s.heap s'.heap ∧ Rep (X ++ O.map (·.2)) s'.heap v d) NoE s

theorem EvR.read (hg : GOk g) {f : Str} {p1 apos cpos : Pos} {e : Expr} {n : Int} (hf : σ.ρ.lookup f = some (.opq (.ref st))) (he : Ev g (ℓ + 1) fi σ.ρ e (.int n)) (hv1 : GlobV g "min" (.builtin "min")) (hv2 : GlobV g "len" (.builtin "len")) (hb : b.size ≤ 2 ^ 20)
    (hn : okName f = true := by decide) (hline : (apos.endLine == cpos.line) = true := by decide) (hst : ∀ env, starEach [e] env = [(false, eval e env)] := by intro _; rfl) :
    EvR g (ℓ + 1) fi σ st p b pos (.Call (.Attribute (.Name f p1) "read" apos) [e] [] cpos) (newPos b pos n) (.bytes (KBy.picked b (some pos) (some (newPos b pos n)))) := by
  intro A X h₀ O env s hA S
  have hbase : attributeBase (.Name f p1) "read" env (eval (.Name f p1) env) = eval (.Name f p1) env := rfl
  rw [arm_eval_Call, hbase]
  refine wpAny_bind (wpQ (Ev.var (ℓ := ℓ) hf hn A X env s ⟨hA.handled, by have := hA.depth; lia, by have := hA.units; lia⟩ S.fr.inv S.fr.eok S.fr.xok S.fr.full) fun v s₁ ⟨i1, k1, r1⟩ => ?_)
  obtain rfl := r1.opq'
  have S₁ := S.step i1 k1
  refine wpAny_bind (wpAny_standAt ?_)
  have htrees : backTo cpos (starEach [e] env) = [(false, eval e env)] := by rw [hst]; rfl
  have hform : methodCallForm (([e] : List Expr).length + ([] : List Keyword).length) (backTo cpos (starEach [e] env)) (backToKw cpos (keywordEach [] env)) = true := by rw [htrees]; rfl
  have hpos : methodCallPos true (.Name f p1) env apos cpos = pure cpos := by unfold methodCallPos; simp [hline]
  obtain ⟨dd, fd, m, rd, e1, n1, m1, hrf⟩ := S₁.strm
  unfold methodCall
  rw [hform]
  refine wpAny_bind (wpAny_holding (getMethod_fn e1 n1 m1 fun tk => ?_))
  refine wpAny_bind (wpAny_of_eq hpos ?_)
  show wpAny _ _ (callWith cpos (.ref rd) [] (backTo cpos (starEach [e] env)) []) _ _ _
  rw [htrees]
  have S₂ : SF g X h₀ O fi env σ { s₁ with toks := tk } st p b pos := S₁.step (i1.tok tk) (Keep.refl _)
  obtain ⟨params, body, sc, ρc, hfn, _⟩ := id hrf
  obtain ⟨a, o, fd', _, _, ea, eo, _, edd, _⟩ := hfn
  cases ea
  refine Calls.callWith_function (o := o) (fd := fd') (Calls.evalArgs_plain (Calls.spliced_cons ?_))
  refine wpQ (he A X env _ hA S₂.fr.inv S₂.fr.eok S₂.fr.xok S₂.fr.full) fun v2 s₂ ⟨i2, k2, r2⟩ => Calls.spliced_nil ?_
  obtain ⟨_, rfl⟩ := r2.int'
  have S₃ := S₂.step i2 k2
  have hoT : rd ∉ g.Tb := by
    obtain ⟨hz, h1, h2⟩ := S₁.sn
    exact fun hm => tab_cls i1.tabs eo (by
      obtain ⟨_, _, _, _, hfn', _⟩ := hrf
      obtain ⟨a', o', _, _, _, ea', eo', ec', _⟩ := hfn'
      cases ea'
      rw [eo] at eo'; cases eo'
      rw [ec']; nofun) hm
  refine ⟨⟨k2 _ _ hoT eo, edd⟩, ?_⟩
  obtain ⟨t3, hl3⟩ := S₃.pl
  obtain ⟨dd3, fd3, m3, rd3, e3, n3, m3', hrf3⟩ := S₃.strm
  have hrd : rd3 = rd := by
    have stT : st ∉ g.Tb := tab_cls i1.tabs e1 (by nofun)
    have := k2 _ _ stT e1
    rw [e3] at this
    injection this with this
    injection this with _ hdd
    injection hdd with hdd
    subst hdd
    have n1' : s₂.heap.Ns dd3 m := n1.at' fun o e => k2 _ _ (Ns.apart i1.tabs n1) e
    have hmm : m3 "read" = m "read" := by
      obtain ⟨o5, es5, ep5, z1, z2, _, z3⟩ := n3
      obtain ⟨o6, es6, ep6, y1, y2, _, y3⟩ := n1'
      rw [z1] at y1; cases y1
      rw [z2] at y2; cases y2
      exact (z3 _).symm.trans (y3 _)
    rw [hmm, m1] at m3'; cases m3'; rfl
  subst hrd
  refine wpQ (callRead (ℓ := ℓ) (n := n) hg hrf3 hv1 hv2 hb S₃.px hl3 hA S₃.fr.inv S₃.fr.xok) fun v3 s₃ ⟨i4, k4, ⟨t4, hl4⟩, t5, hv⟩ => ?_
  subst hv
  exact ⟨S₃.stepP i4 k4 hl4, fun a o h1 h2 e => k4 a o h1 h2 (k2 a o h1 (k1 a o h1 e)), .bytes⟩
end Mine


/- XH -/
namespace Mine
variable {g : Gx} {ℓ : Nat} {fi : FI} {X : List Addr} {h₀ : Heap} {O : List (Str × Addr)} {env : Env} {σ : St} {s : Shared} {ρ : AEnv} {H : Heap} {Dd : Addr} {ds : List D} {st p : Addr} {b : Array UInt8} {pos pos' : Int}

theorem StreamH.move {Y : List Addr} {h h' : Heap} (x : StreamH X h st p b) (k : ∀ a o, h.get? a = some o → o.cls ≠ .none → (∀ its n, o.data ≠ .seq its n) → h'.get? a = some o) (kc : ∀ c v, h.IsCell c v → h'.IsCell c v) (kn : ∀ c m, h.Ns c m → h'.Ns c m) : StreamH Y h' st p b := by
  obtain ⟨dd, fd, m, rd, e, n, hm, params, body, sc, ρc, f, r1, r2, r3, r4, r5, r6, r7⟩ := x
  refine ⟨dd, fd, m, rd, k _ _ e (by nofun) (by nofun), kn _ _ n, hm, params, body, sc, ρc, f.move k kc (fun x v d hd r => ?_), r1, r2, r3, r4, r5, r6, r7⟩
  have := r4 x d hd
  cases r <;> first | exact .none | exact .bool | exact .int | exact .str | exact .bytes | exact .opq | cases this

theorem StreamH.apart {xs : Array Value} (x : StreamH X s.heap st p b) (t : TabsOK g s.heap) (hl : s.heap.IsList p xs) {l : List Addr} (hl' : ∀ a ∈ l, a ∈ g.Tb ∨ a = p) : StreamH [] (hideAll s.heap l) st p b := by
  have np : ∀ a o, s.heap.get? a = some o → (∀ its n, o.data ≠ .seq its n) → a ≠ p := fun a o e hd z => by
    obtain ⟨o', e', _, n, d'⟩ := hl
    rw [z, e'] at e; cases e; exact hd _ _ d'
  refine x.move (fun a o e c hd => hideAll_get _ e fun m => ?_) (fun c v hv => ?_) (fun c m hm => ?_)
  · rcases hl' a m with z | z
    · exact tab_cls t e c z
    · exact np a o e hd z
  · obtain ⟨o, e, d⟩ := id hv
    refine ⟨o, hideAll_get _ e fun m => ?_, d⟩
    rcases hl' c m with z | z
    · exact IsCell.apart t hv z
    · exact np c o e (fun _ _ q => by rw [d] at q; cases q) z
  · refine hm.at' fun o e => hideAll_get _ e fun m' => ?_
    rcases hl' c m' with z | z
    · exact Ns.apart t hm z
    · exact IsList.noNs hl (z ▸ hm)

def CallR (g : Gx) (ℓ : Nat) (f : Value) (st p : Addr) (b : Array UInt8) (pos pos' : Int) (d : D) : Prop := ∀ A X s t, AOk ℓ A → Inv g s → XOk g X s.heap → p ∈ X → PL s.heap p #[.int pos t] → StreamH X s.heap st p b →
  wpAny g.M A (call f [.ref st]) (fun v s' => Inv g s' ∧ KeepP g p s.heap s'.heap ∧ (∃ t, PL s'.heap p #[.int pos' t]) ∧ Rep X s'.heap v d) NoE s

def ExR (g : Gx) (ℓ : Nat) (fi : FI) (σ : St) (st p : Addr) (b : Array UInt8) (pos : Int) (ss : List Stmt) (Q : St → Int → Fl → Prop) : Prop :=
  ∀ A X h₀ O env s, AOk ℓ A → SF g X h₀ O fi env σ s st p b pos → wpAny g.M A (execs ss env) (fun f s' => ∃ σ' O' fl pos', SF g X h₀ O' fi env σ' s' st p b pos' ∧ FlR X s'.heap f fl ∧ Q σ' pos' fl) NoE s

theorem ExR.of {ss : List Stmt} {Q : St → Int → Fl → Prop} (h : Ex g ℓ fi σ ss fun σ' fl => Q σ' pos fl) : ExR g ℓ fi σ st p b pos ss Q := by
  intro A X h₀ O env s hA S
  refine wpQ (h A X h₀ O env s hA S.fr) ?_
  rintro f s' ⟨σ', O', fl, F', k, al, on, hf, hq⟩
  exact ⟨σ', O', fl, pos, S.stepX F' k on, hf, hq⟩
theorem ExR.lift {s1 : Stmt} {rest : List Stmt} {Q : St → Int → Fl → Prop} (h : Ex1 g ℓ fi σ s1 fun σ' fl => match fl with | .next => ExR g ℓ fi σ' st p b pos rest Q | fl => Q σ' pos fl) : ExR g ℓ fi σ st p b pos (s1 :: rest) Q := by
  intro A X h₀ O env s hA S
  refine wpAny_execs_cons (wpQ (h A X h₀ O env s hA S.fr) ?_)
  rintro f s' ⟨σ', O', fl, F', k, al, on, hf, hq⟩
  have S' := S.stepX F' k on
  cases f with
  | next => cases fl with | next => exact hq A X h₀ O' env s' hA S' | _ => exact hf.elim
  | brk => cases fl with | brk => exact ⟨σ', O', _, pos, S', hf, hq⟩ | _ => exact hf.elim
  | cont => cases fl with | cont => exact ⟨σ', O', _, pos, S', hf, hq⟩ | _ => exact hf.elim
  | ret v => cases fl with | ret => exact ⟨σ', O', _, pos, S', hf, hq⟩ | _ => exact hf.elim
theorem ExR.assign {x : Str} {px apos : Pos} {value : Expr} {d : D} {rest : List Stmt} {Q : St → Int → Fl → Prop} (h : EvR g ℓ fi σ st p b pos value pos' d) (ho : okStore fi σ x) (hr : ExR g ℓ fi (σ.put x d) st p b pos' rest Q)
    (hs : ∀ env, swapsWith value (some (.Name x px)) apos.line env = pure false := by intro _; rfl) : ExR g ℓ fi σ st p b pos (.Assign [.Name x px] value apos :: rest) Q := by
  intro A X h₀ O env s hA S
  refine wpAny_execs_cons (wpAny_Assign_Name (wpQ (h A X h₀ O env s hA S) fun v s₁ ⟨S₁, _, r₁⟩ => ?_) (hs env))
  refine S₁.fr.store ho.1 ho.2 r₁ fun s' F' k' al' => ?_
  exact hr A X h₀ O env s' hA (S₁.stepX F' k'.up Onew.refl)

theorem CallR.def (hg : GOk g) {a : Addr} {x : Str} {body : List Stmt} {sc : Scope} {cd : Value} {d : D} (hd : DefAt g a [x] body sc cd) (h : ExR g ℓ ⟨sc, cd, (sc.names.filter (·.2 == .cell)).map (·.1)⟩ ⟨[(x, .opq (.ref st))], []⟩ st p b pos body fun _ q fl => q = pos' ∧ fl = .ret d) :
    CallR g (ℓ + 1) (.ref a) st p b pos pos' d := by
  intro A X s t hA hI hX hp hpl hst
  obtain ⟨oc, od, osl, fd, hK, hbody, rfl, rfl, hclo, hgl, hbl, hcode, hbind⟩ := hd.out
  have ho : s.heap.get? a = some ⟨oc, od, .func fd, osl⟩ := hI.stays _ _ (hg.kin _ _ hK)
  have hroom : A.depth < recursionLimit := by have := hA.depth; lia
  refine wpAny_call (codeAny_mono (R := fun r s' => ∃ v, r = .ok (.ret v) ∧ Inv g s' ∧ KeepP g p s.heap s'.heap ∧ (∃ t, PL s'.heap p #[.int pos' t]) ∧ Rep X s'.heap v d) ?_ ?_)
  · refine codeAny_call_function hroom ho rfl hd.co hd.gen hbody ((codeRec_of hg.kin hcode).keeps hI.stays) (hbind s [.ref st] hI.stays rfl _ _ _ _ ?_)
    rw [hclo, hgl, hbl]
    refine enter hd.kind hd.nd (fun p hp => hd.xk _ (List.of_mem_zip hp).1) (fun x c h => by cases h) fun L cells s₂ Ent => ?_
    refine ⟨(hg.nolimit.keeps hI.stays).keeps Ent.keep, codeAny_func ?_⟩
    obtain ⟨env, hE⟩ : ∃ x, newEnv fd.scope L mainGlobals cells (fd.qualname ++ ".<locals>.") (some a) fd.code none builtinsNs = x := ⟨_, rfl⟩
    rw [hE] at Ent ⊢
    have FX := enterFr (g := g) (X := X) (cd := fd.code) (ρc := []) (ds := [.opq (.ref st)]) Ent hI hX (.cons .opq .nil) rfl hd.xnd hd.nd hd.kind hd.xk (by rw [← hE]; rfl) (by rw [← hE]; rfl) (by rw [← hE]; rfl) (by rw [← hE]; rfl) (fun x hx => absurd rfl (hd.nofree _ (mem_of_lookup hx))) (fun x d h => by cases h)
    have FH := FX.hide (hX p hp).2.2
    have hpl2 : PL s₂.heap p #[.int pos t] := by obtain ⟨o, k, e, r⟩ := id hpl; exact ⟨o, k, Ent.keep _ _ e, r⟩
    have S : SF g X (hideAll s.heap [p]) [] ⟨fd.scope, fd.code, (fd.scope.names.filter (·.2 == .cell)).map (·.1)⟩ env ⟨[(x, .opq (.ref st))], []⟩ s₂ st p b pos := by
      refine ⟨FH, hp, hideAll_none _ (.head _), (fun h => nomatch h), ⟨t, hpl2⟩, hideAll s.heap (p :: g.Tb), fun c o e => ⟨Ent.keep _ _ (of_hideAll _ e), fun m => ?_, fun z => ?_, ?_, (fun h => nomatch h)⟩, hst.apart hI.tabs hpl.isList fun a ha => ?_⟩
      · rw [hideAll_none _ (List.mem_cons_of_mem _ m)] at e; cases e
      · rw [hideAll_none _ (by rw [z]; exact .head _)] at e; cases e
      · have e' := of_hideAll _ e
        rintro (z | ⟨y, hy, hc⟩)
        · rw [z, FX.lnew] at e'; cases e'
        · obtain ⟨_, c', v, q2, q3, q4⟩ := FX.cells y hy
          rw [hc] at q2; cases q2
          rw [q4] at e'; cases e'
      · rcases List.mem_cons.mp ha with z | z
        · exact .inr z
        · exact .inl z
    refine wpQ (h _ X _ [] env s₂ (hA.deeper env) S) ?_
    rintro f s' ⟨σ', O', fl, q, S', hf, rfl, rfl⟩
    cases f with
    | ret v => exact ⟨v, rfl, S'.fr.inv, fun a o h1 h2 e => S'.fr.keep a o h1 (hideAll_get _ e (by simpa using h2)), S'.pl, hf⟩
    | _ => exact hf.elim
  · rintro r s' ⟨v, rfl, h⟩
    exact h

theorem EvR.call (hg : GOk g) {id f : Str} {p1 p2 cpos : Pos} {a : Addr} {oc : Value} {od : Option Addr} {osl : Array (Option Value)} {fd : FuncData} {d : D} (hk : fi.sc.names.lookup id = some .globalImplicit) (hv : GlobV g id (.ref a)) (hK : g.K.lookup a = some ⟨oc, od, .func fd, osl⟩) (hf : σ.ρ.lookup f = some (.opq (.ref st))) (hc : CallR g ℓ (.ref a) st p b pos pos' d) (hds : d.scalar = true)
    (hn : okName f = true := by decide) (hn' : okName id = true := by decide) : EvR g ℓ fi σ st p b pos (.Call (.Name id p1) [.Name f p2] [] cpos) pos' d := by
  intro A X h₀ O env s hA S
  refine wpAny_Call_NameR (evalGlob hg S.fr.inv S.fr.eok hk hv hn' ?_)
  refine Calls.callWith_function (o := ⟨oc, od, .func fd, osl⟩) (fd := fd) (Calls.evalArgs_plain (Calls.spliced_cons ?_))
  refine wpQ (Ev.var (ℓ := ℓ) hf hn A X env s hA S.fr.inv S.fr.eok S.fr.xok S.fr.full) fun v s₁ ⟨i1, k1, r1⟩ => Calls.spliced_nil ?_
  obtain rfl := r1.opq'
  have S₁ := S.step i1 k1
  refine ⟨⟨i1.stays _ _ (hg.kin _ _ hK), rfl⟩, ?_⟩
  obtain ⟨t1, hl1⟩ := S₁.pl
  refine wpQ (hc A X s₁ t1 hA i1 S₁.fr.xok S₁.px hl1 S₁.strm) fun v s₂ ⟨i2, k2, ⟨t2, hl2⟩, r2⟩ => ⟨S₁.stepP i2 k2 hl2, fun a o h1 h2 e => k2 a o h1 h2 (k1 a o h1 e), r2.scalar hds⟩
end Mine


/- XI -/
namespace Mine
variable {g : Gx} {ℓ : Nat} {fi : FI} {X : List Addr} {h₀ : Heap} {O : List (Str × Addr)} {env : Env} {σ : St} {s : Shared} {ρ : AEnv} {H : Heap} {Dd : Addr} {ds : List D} {st p : Addr} {b : Array UInt8} {pos pos' : Int}

theorem picked_nat {i j : Nat} (hj : j ≤ b.size) (hij : i ≤ j) : KBy.picked b (some (i : Int)) (some (j : Int)) = ((b.toList.drop i).take (j - i)).toArray := by
  rw [KBc.picked_eq]
  show ((b.toList.drop (clipAt b.size i)).take (clipAt b.size j - clipAt b.size i)).toArray = _
  rw [clipAt_nat, clipAt_nat, Nat.min_eq_left hj, Nat.min_eq_left (Nat.le_trans hij hj)]
theorem newPos_nat {i n : Nat} (h : i + n ≤ b.size) : newPos b (i : Int) (n : Int) = ((i + n : Nat) : Int) := by
  unfold newPos
  split <;> lia

theorem Ex1.assert {t : Expr} {apos : Pos} {Q : St → Fl → Prop} (h : Tst g ℓ fi σ.ρ t true) (hq : Q σ .next) : Ex1 g ℓ fi σ (.Assert t none apos) Q := by
  intro A X h₀ O env s hA F
  refine wpAny_Assert hA.handled (wpQ (h A X env s hA F.inv F.eok F.xok F.full) fun q s₁ ⟨e, i, k⟩ => ?_)
  subst e
  exact ⟨σ, O, .next, F.step i k, .of_keep k, .of_keep i.tabs k, Onew.refl, trivial, hq⟩

structure RdFi (fi : FI) : Prop where
  data : fi.sc.names.lookup ("data" : Str) = some .local

theorem ExR.uint1 (hg : GOk g) {p1 p2 p3 p4 p5 p6 p7 p8 p9 p10 p11 p12 : Pos} {k1 k2 : Nat} {tail : List Stmt} {i : Nat} {u : UInt8} (hfi : RdFi fi) (hv1 : GlobV g "min" (.builtin "min")) (hv2 : GlobV g "len" (.builtin "len")) (hb : b.size ≤ 2 ^ 20) (hi : b[i]? = some u) (hω : σ.ω = []) (hf : σ.ρ.lookup ("f" : Str) = some (.opq (.ref st))) (hl : (p2.endLine == p4.line) = true) :
    ExR g (ℓ + 1) fi σ st p b (i : Int) (.Assign [.Name "data" p5] (.Call (.Attribute (.Name "f" p1) "read" p2) [.Constant (.int 1) k1 p3] [] p4) p6 :: .If (.Name "data" p7) [.Return (some (.Subscript (.Name "data" p8) (.Constant (.int 0) k2 p9) p10)) p11] [] p12 :: tail)
      fun _ q fl => q = ((i + 1 : Nat) : Int) ∧ fl = .ret (.int (u.toNat : Int)) := by
  have hsz : i < b.size := by
    cases Nat.lt_or_ge i b.size with
    | inl h => exact h
    | inr h => rw [Array.getElem?_eq_none h] at hi; cases hi
  have e1 : newPos b (i : Int) 1 = ((i + 1 : Nat) : Int) := newPos_nat (n := 1) (by lia)
  have e2 : KBy.picked b (some (i : Int)) (some ((i + 1 : Nat) : Int)) = #[u] := by
    rw [picked_nat (by lia) (by lia)]
    have : i + 1 - i = 1 := by lia
    rw [this]
    have hi' : b.toList[i]? = some u := by simpa using hi
    obtain ⟨h1, h2⟩ := List.getElem?_eq_some_iff.mp hi'
    rw [List.drop_eq_getElem_cons h1, h2]; rfl
  have rd := EvR.read (ℓ := ℓ) (fi := fi) (σ := σ) (st := st) (p := p) (b := b) (pos := (i : Int)) (p1 := p1) (apos := p2) (cpos := p4) (e := .Constant (.int 1) k1 p3) hg hf Ev.int hv1 hv2 hb (by decide) hl
  rw [e1, e2] at rd
  refine ExR.assign rd ⟨by rw [hω]; exact (fun h => nomatch h), .inl hfi.data⟩ ?_
  refine ExR.lift (Ex1.ifs (c := true) (Tst.val (Ev.var lookup_put_eq) (TrOK.bytes (b := #[u]) (by simp))) (fun _ => ?_) fun h => nomatch h)
  refine Ex.cons (Ex1.ret (d := .int (u.toNat : Int)) (Ev.sub (Ev.var lookup_put_eq) Ev.int (Op2.atB (b := #[u]) (by decide) (by simp) (by simp))) ⟨rfl, rfl⟩)

structure RdFi2 (fi : FI) : Prop where
  data : fi.sc.names.lookup ("data" : Str) = some .local
  n : fi.sc.names.lookup ("n" : Str) = some .local
  uint1 : fi.sc.names.lookup ("read_uint1" : Str) = some .globalImplicit
  len : fi.sc.names.lookup ("len" : Str) = some .globalImplicit

def cutB (b : Array UInt8) (i n : Nat) : Array UInt8 := ((b.toList.drop i).take n).toArray
theorem cutB_size {i n : Nat} (h : i + n ≤ b.size) : (cutB b i n).size = n := by
  unfold cutB
  rw [List.size_toArray, List.length_take, List.length_drop, Array.length_toList]; lia

theorem ExR.bytes1 (hg : GOk g) {p1 p2 p3 p4 p5 p6 p7 p8 p9 p10 p11 p12 p13 p14 p15 p16 p17 p18 p19 p20 p21 p22 p23 : Pos} {k1 : Nat} {tail : List Stmt} {i n : Nat} {a1 : Addr} {oc : Value} {od : Option Addr} {osl : Array (Option Value)} {fd : FuncData} (hfi : RdFi2 fi) (hv1 : GlobV g "min" (.builtin "min")) (hv2 : GlobV g "len" (.builtin "len")) (hv3 : GlobV g "read_uint1" (.ref a1)) (hK : g.K.lookup a1 = some ⟨oc, od, .func fd, osl⟩) (hb : b.size ≤ 2 ^ 20) (hn : i + 1 + n ≤ b.size) (hω : σ.ω = []) (hf : σ.ρ.lookup ("f" : Str) = some (.opq (.ref st))) (hl : (p12.endLine == p14.line) = true)
    (hc : CallR g (ℓ + 1) (.ref a1) st p b (i : Int) ((i + 1 : Nat) : Int) (.int (n : Int))) :
    ExR g (ℓ + 1) fi σ st p b (i : Int) (.Assign [.Name "n" p1] (.Call (.Name "read_uint1" p2) [.Name "f" p3] [] p4) p5 :: .Assert (.Compare (.Name "n" p6) [.GtE] [.Constant (.int 0) k1 p7] p8) none p9 ::
      .Assign [.Name "data" p10] (.Call (.Attribute (.Name "f" p11) "read" p12) [.Name "n" p13] [] p14) p15 :: .If (.Compare (.Call (.Name "len" p16) [.Name "data" p17] [] p18) [.Eq] [.Name "n" p19] p20) [.Return (some (.Name "data" p21)) p22] [] p23 :: tail)
      fun _ q fl => q = ((i + 1 + n : Nat) : Int) ∧ fl = .ret (.bytes (cutB b (i + 1) n)) := by
  have e1 : newPos b ((i + 1 : Nat) : Int) (n : Int) = ((i + 1 + n : Nat) : Int) := newPos_nat hn
  have e2 : KBy.picked b (some ((i + 1 : Nat) : Int)) (some ((i + 1 + n : Nat) : Int)) = cutB b (i + 1) n := by
    rw [picked_nat hn (by lia)]
    have : i + 1 + n - (i + 1) = n := by lia
    rw [this]; rfl
  refine ExR.assign (EvR.call hg hfi.uint1 hv3 hK hf hc rfl) ⟨by rw [hω]; exact (fun h => nomatch h), .inl hfi.n⟩ ?_
  refine ExR.lift (Ex1.assert (Tst.cast (Tst.cmp (Ev.var lookup_put_eq) Ev.int Op2.geI) (by simp)) ?_)
  have hf' : (σ.put "n" (.int (n : Int))).ρ.lookup ("f" : Str) = some (.opq (.ref st)) := by rw [lookup_put_ne (by decide)]; exact hf
  have rd := EvR.read (ℓ := ℓ) (fi := fi) (σ := σ.put "n" (.int (n : Int))) (st := st) (p := p) (b := b) (pos := ((i + 1 : Nat) : Int)) (n := (n : Int)) (p1 := p11) (apos := p12) (cpos := p14) (e := .Name "n" p13) hg hf' (Ev.var lookup_put_eq) hv1 hv2 hb (by decide) hl
  rw [e1, e2] at rd
  refine ExR.assign rd ⟨by show _ ∉ σ.ω; rw [hω]; exact (fun h => nomatch h), .inl hfi.data⟩ ?_
  have hsz := cutB_size hn
  refine ExR.lift (Ex1.ifs (c := true) (Tst.cast (Tst.cmp (Ev.call hg hfi.len hv2 (.blt _) (Evs.cons (Ev.var lookup_put_eq) Evs.nil) (CallOK.lenB (by rw [hsz]; lia))) (Ev.var (d := .int (n : Int)) ?_) Op2.eqI) (by rw [hsz]; simp)) (fun _ => ?_) fun h => nomatch h)
  · rw [lookup_put_ne (by decide)]; exact lookup_put_eq
  · exact Ex.cons (Ex1.ret (Ev.var lookup_put_eq) ⟨rfl, rfl⟩)
end Mine


/- XJ -/
namespace Mine
variable {g : Gx} {ℓ : Nat} {fi : FI} {X : List Addr} {h₀ : Heap} {O : List (Str × Addr)} {env : Env} {σ : St} {s : Shared} {ρ : AEnv} {H : Heap} {Dd : Addr} {ds : List D} {st p : Addr} {b : Array UInt8} {pos pos' : Int}

theorem exec_Assign_Attribute (o : Expr) (attr : Str) (pos' : Pos) (value : Expr) (pos : Pos) (hs : swapsWith value (some (.Attribute o attr pos')) pos.line env = pure false) : exec (.Assign [.Attribute o attr pos'] value pos) env =
    (do standAt pos; let v ← eval value env; PySem.assign (.Attribute o attr pos') env v; pure .next) := by
  have e : exec (.Assign [.Attribute o attr pos'] value pos) env = (do
      standAt pos
      if ← swapsWith value (some (.Attribute o attr pos')) pos.line env then
        evalThenUse value env (PySem.assign (.Attribute o attr pos') env)
        return .next
      let v ← eval value env
      PySem.assign (.Attribute o attr pos') env v
      pure .next) := rfl
  rw [e, hs]; rfl

inductive Streamed (g : Gx) (s : Shared) (b : Array UInt8) (v : Value) (s' : Shared) : Prop where
  | mk (st p : Addr) (ev : v = .ref st) (inv : Inv g s') (keep : Keep g s.heap s'.heap) (pn : s.heap.get? p = none) (pl : ∃ t, PL s'.heap p #[.int 0 t])
      (str : ∀ L : List Addr, (∀ a ∈ L, ∃ o, s.heap.get? a = some o ∧ ∀ vs, o.data ≠ .fields vs) → StreamH [] (hideAll s'.heap (g.Tb ++ p :: L)) st p b)

theorem Rep.scalarH {X Y : List Addr} {h h' : Heap} {v : Value} {d : D} (r : Rep X h v d) (hs : d.scalar = true) : Rep Y h' v d := by
  cases r <;> first | exact .none | exact .bool | exact .int | exact .str | exact .bytes | exact .opq | cases hs
theorem callStream (hg : GOk g) {am : Addr} {rparams lparams : Arguments} {rbody : List Stmt} {lbody : Expr} {rsc lsc sc : Scope} {q1 q2 q3 q4 q5 q6 q7 q8 q9 q10 q11 q12 q13 q14 : Pos} {kz : Nat} {c P : Addr} {t : Tok}
    (hd : DefAt g am ["octets"] [.Assign [.Name "place" q1] (.List [.Constant (.int 0) kz q2] q3) q4, .Assign [.Name "stream" q5] (.Lambda lparams lbody lsc q6) q7, .FunctionDef "read" rparams rbody [] none [] rsc none "read" q8, .Assign [.Attribute (.Name "stream" q9) "read" q10] (.Name "read" q11) q12, .Return (some (.Name "stream" q13)) q14] sc (.ref c)) (hq : (c, P) ∈ g.tabs)
    (n1 : sc.names.lookup ("octets" : Str) = some .cell) (n2 : sc.names.lookup ("place" : Str) = some .cell) (n3 : sc.names.lookup ("stream" : Str) = some .local) (n4 : sc.names.lookup ("read" : Str) = some .local)
    (hokl : capOk ⟨sc, .ref c, (sc.names.filter (·.2 == .cell)).map (·.1)⟩ lsc = true) (hokr : capOk ⟨sc, .ref c, (sc.names.filter (·.2 == .cell)).map (·.1)⟩ rsc = true) (hdl : ∀ env, defaultsOf lparams env = ([], [])) (hdr : ∀ env, defaultsOf rparams env = ([], [])) (hann : ∀ env, annTrees rparams none env = [])
    (hf1 : rsc.names.lookup ("octets" : Str) = some .free) (hf2 : rsc.names.lookup ("place" : Str) = some .free)
    (hread : ∀ h rd p, FnH [] h (.ref rd) rparams (.stmts rbody) rsc (capOf rsc [(("octets" : Str), .bytes b), ("place", .opq (.ref p))]) → ReadFn [] h rd p b)
    {A : Around} (hA : AOk (ℓ + 1) A) (hI : Inv g s) (hX : XOk g X s.heap) :
    wpAny g.M A (call (.ref am) [.bytes b t]) (Streamed g s b) NoE s := by
  obtain ⟨oc, od, osl, fd, hK, hbody, rfl, hcd, hclo, hgl, hbl, hcode, hbind⟩ := hd.out
  have ho : s.heap.get? am = some ⟨oc, od, .func fd, osl⟩ := hI.stays _ _ (hg.kin _ _ hK)
  have hroom : A.depth < recursionLimit := by have := hA.depth; lia
  refine wpAny_call (codeAny_mono (R := fun r s' => ∃ v, r = .ok (.ret v) ∧ Streamed g s b v s') ?_ ?_)
  · refine codeAny_call_function hroom ho rfl hd.co hd.gen hbody ((codeRec_of hg.kin hcode).keeps hI.stays) (hbind s [.bytes b t] hI.stays rfl _ _ _ _ ?_)
    rw [hclo, hgl, hbl]
    refine enter hd.kind hd.nd (fun p hp => hd.xk _ (List.of_mem_zip hp).1) (fun x c h => by cases h) fun L cells s₁ Ent => ?_
    refine ⟨(hg.nolimit.keeps hI.stays).keeps Ent.keep, codeAny_func ?_⟩
    obtain ⟨env, hE⟩ : ∃ x, newEnv fd.scope L mainGlobals cells (fd.qualname ++ ".<locals>.") (some am) fd.code none builtinsNs = x := ⟨_, rfl⟩
    rw [hE] at Ent ⊢
    have FX := enterFr (g := g) (X := X) (cd := .ref c) (ρc := []) (ds := [.bytes b]) Ent hI hX (.cons .bytes .nil) rfl hd.xnd hd.nd hd.kind hd.xk (by rw [← hE]; rfl) (by rw [← hE]; rfl) (by rw [← hE]; rfl) (by rw [← hE]; exact hcd) (fun x hx => absurd rfl (hd.nofree _ (mem_of_lookup hx))) (fun x d h => by cases h)
    have hA' := hA.deeper env
    clear Ent hE hbind hroom ho hcode
    -- place = [0]
    refine wpAny_execs_cons (wpAny_Assign_Name (wpAny_List (wpQ (Evs.cons (Ev.int (ℓ := ℓ) (i := 0) (k := kz) (pos := q2)) Evs.nil (fun _ => rfl) _ X env s₁ q3 hA' FX.inv FX.eok FX.xok FX.full) fun vs s₂ ⟨i2, k2, r2⟩ => ?_)) rfl)
    obtain ⟨v0, rfl, r0⟩ := r2.one
    obtain ⟨t0, rfl⟩ : ∃ t0, v0 = .int 0 t0 := by cases r0; exact ⟨_, rfl⟩
    refine ⟨by show 1 ≤ _; decide, ?_⟩
    have F₂ := FX.step i2 k2
    have kk := push_keeps s₂.heap { cls := .type "list", data := .seq ([.int 0 t0] : List Value).toArray }
    have i3 := i2.of_keeps (tk := s₂.toks) kk
    have F₃ := F₂.step i3 (Keep.of kk)
    have hpn : s₂.heap.get? s₂.heap.objs.size = none := fresh_none _
    have hpl : PL (s₂.heap.push { cls := .type "list", data := .seq ([.int 0 t0] : List Value).toArray }) s₂.heap.objs.size #[.int 0 t0] := ⟨_, _, Heap.get?_push_size _ rfl, rfl, ⟨rfl, rfl⟩, rfl⟩
    obtain ⟨p, hzp⟩ : ∃ x, s₂.heap.objs.size = x := ⟨_, rfl⟩
    rw [hzp] at hpn hpl ⊢
    have oc1 : ("octets" : Str) ∈ (fd.scope.names.filter (·.2 == .cell)).map (·.1) := List.mem_map.mpr ⟨_, List.mem_filter.mpr ⟨mem_of_lookup n1, rfl⟩, rfl⟩
    have oc2 : ("place" : Str) ∈ (fd.scope.names.filter (·.2 == .cell)).map (·.1) := List.mem_map.mpr ⟨_, List.mem_filter.mpr ⟨mem_of_lookup n2, rfl⟩, rfl⟩
    refine F₃.store (x := "place") (d := .opq (.ref p)) (fun h => nomatch h) (.inr oc2) .opq fun s₄ F₄ k4 al4 => ?_
    -- stream = lambda
    refine wpAny_execs_cons (wpAny_Assign_Name ?_ rfl)
    obtain ⟨cl1, hc1, _, _⟩ := clos_of (s := s₄) hokl F₄.eok F₄.cel
    refine kla_eval (hdl env) (wpAny_mono (mkFun hg F₄.inv hc1 F₄.eok.glob F₄.eok.code hq) (fun v5 s₅ m5 => ?_) fun _ _ e => e)
    obtain ⟨st, fd5, cc5, qn5, rfl, i5, k5, hst0, hst5, _⟩ := m5
    have F₅ := F₄.step i5 k5
    refine F₅.store (x := "stream") (d := .opq (.ref st)) (fun h => nomatch h) (.inl n3) .opq fun s₆ F₆ k6 al6 => ?_
    -- def read
    refine wpAny_execs_cons ?_
    rw [exec_def, hdr, hann]
    refine wpAny_bind (wpAny_standAt (wpAny_bind (wpAny_holding ?_)))
    refine wpAny_bind (wpAny_pure (wpAny_bind (wpAny_holding (wpAny_pure (wpAny_holding (wpAny_bind (wpAny_pure ?_)))))))
    obtain ⟨cl2, hc2, hc2a, hc2b⟩ := clos_of (s := s₆) hokr F₆.eok F₆.cel
    refine wpAny_mono (mkFun hg F₆.inv hc2 F₆.eok.glob F₆.eok.code hq) (fun v7 s₇ m7 => ?_) fun _ _ e => e
    obtain ⟨rd, fd7, cc7, qn7, ev7, i7, k7, hrd0, hrd7, _⟩ := id m7
    subst ev7
    have F₇ := F₆.step i7 k7
    refine wpAny_bind (wpAny_standAt (wpAny_bind (wpAny_bindName ?_)))
    refine F₇.store (x := "read") (d := .opq (.ref rd)) (fun h => nomatch h) (.inl n4) .opq fun s₈ F₈ k8 al8 => wpAny_pure ?_
    -- stream.read = read
    refine wpAny_execs_cons ?_
    rw [exec_Assign_Attribute _ _ _ _ _ rfl]
    refine wpAny_bind (wpAny_standAt (wpAny_bind ?_))
    refine wpQ (Ev.var (ℓ := ℓ) (x := "read") (d := .opq (.ref rd)) lookup_put_eq (by decide) _ X env s₈ hA' F₈.inv F₈.eok F₈.xok F₈.full) fun v9 s₉ ⟨i9, k9, r9⟩ => ?_
    obtain rfl := r9.opq'
    have F₉ := F₈.step i9 k9
    rw [arm_assign_Attribute]
    refine wpAny_bind (wpAny_bind (wpAny_holding ?_))
    refine wpQ (Ev.var (ℓ := ℓ) (x := "stream") (d := .opq (.ref st)) (by rw [lookup_put_ne (by decide)]; exact lookup_put_eq) (by decide) _ X env s₉ hA' F₉.inv F₉.eok F₉.xok F₉.full) fun v10 s₁₀ ⟨i10, k10, r10⟩ => ?_
    obtain rfl := r10.opq'
    have F₁₀ := F₉.step i10 k10
    -- things that stay
    have k56 : ∀ a o, s₅.heap.get? a = some o → o.cls ≠ .none → ((∃ fd, o.data = .func fd) ∨ ∃ vs, o.data = .fields vs) → s₆.heap.get? a = some o := fun a o e hc hd => k6 a o (tab_cls i5.tabs e hc) (fun w => own_data F₅ w e hd) (fun h => nomatch h) e
    have k67 : ∀ a o, s₆.heap.get? a = some o → o.cls ≠ .none → s₇.heap.get? a = some o := fun a o e hc => k7 a o (tab_cls F₆.inv.tabs e hc) e
    have k78 : ∀ a o, s₇.heap.get? a = some o → o.cls ≠ .none → ((∃ fd, o.data = .func fd) ∨ ∃ vs, o.data = .fields vs) → s₈.heap.get? a = some o := fun a o e hc hd => k8 a o (tab_cls i7.tabs e hc) (fun w => own_data F₇ w e hd) (fun h => nomatch h) e
    have k8a : ∀ a o, s₈.heap.get? a = some o → o.cls ≠ .none → s₁₀.heap.get? a = some o := fun a o e hc => by
      have e9 := k9 a o (tab_cls F₈.inv.tabs e hc) e
      exact k10 a o (tab_cls i9.tabs e9 hc) e9
    have hst10 : s₁₀.heap.get? st = some { cls := .type "function", data := .func fd5 } := k8a _ _ (k78 _ _ (k67 _ _ (k56 _ _ hst5 (by nofun) (.inl ⟨_, rfl⟩)) (by nofun)) (by nofun) (.inl ⟨_, rfl⟩)) (by nofun)
    refine wpAny_bind (wpAny_standAt (wpAny_bind (wpAny_holding (setattr_fn hst10 fun h' tk dd e1 e2 e3 e4 => wpAny_release ?_))))
    refine wpAny_pure ?_
    have stT : st ∉ g.Tb := tab_cls i10.tabs hst10 (by nofun)
    have sth : s.heap.get? st = none := by
      cases e : s.heap.get? st with
      | none => rfl
      | some o => have := F₄.keep _ _ stT e; rw [hst0] at this; cases this
    have F₁₁ : FrX g X s.heap [] ⟨fd.scope, .ref c, (fd.scope.names.filter (·.2 == .cell)).map (·.1)⟩ env _ { s₁₀ with heap := h', toks := tk } := F₁₀.pokeA (a := st) (fun z => by
        obtain ⟨m, o', _, _, e', d', _⟩ := F₁₀.lns
        rw [← z, hst10] at e'; cases e'; cases d') (fun c v ⟨o', e', d'⟩ z => by rw [z, hst10] at e'; cases e'; cases d') (fun Y o e q => by rw [hst10] at e; cases e; rcases q with ⟨_, _, q, _⟩ | ⟨_, q, _⟩ <;> cases q) stT (fun o e q => by rw [hst10] at e; cases e; obtain ⟨_, _, q⟩ := q; cases q) sth (hX.fresh sth) e4
    -- return
    refine wpAny_execs_cons (wpAny_Return_some ?_)
    refine wpQ (Ev.var (ℓ := ℓ) (x := "stream") (d := .opq (.ref st)) (by rw [lookup_put_ne (by decide)]; exact lookup_put_eq) (by decide) _ X env _ hA' F₁₁.inv F₁₁.eok F₁₁.xok F₁₁.full) fun v12 s₁₂ ⟨i12, k12, r12⟩ => ?_
    obtain rfl := r12.opq'
    have F₁₂ := F₁₁.step i12 k12
    have hpl0 := hpl
    obtain ⟨op, np, ep, cp, dp, datp⟩ := hpl0
    have qp : SeqO [] p op := .inl ⟨_, _, datp, fun _ h => nomatch h⟩
    have pT : p ∉ g.Tb := tab_cls i3.tabs ep (by rw [cp]; nofun)
    have p4 := k4 p op pT (own_noSeq F₃ ep qp) (fun h => nomatch h) ep
    have p5 := k5 p op pT p4
    have p6 := k6 p op pT (own_noSeq F₅ p5 qp) (fun h => nomatch h) p5
    have p7 := k7 p op pT p6
    have p8 := k8 p op pT (own_noSeq F₇ p7 qp) (fun h => nomatch h) p7
    have p10 := k10 p op pT (k9 p op pT p8)
    have pst : p ≠ st := fun z => by rw [z, hst10] at p10; cases p10; cases datp
    have p12 := k12 p op pT (e4 p op pst p10)
    have hps : s.heap.get? p = none := by
      cases e : s.heap.get? p with
      | none => rfl
      | some o => have := F₂.keep _ _ pT e; rw [hpn] at this; cases this
    refine ⟨.ref st, rfl, st, p, rfl, i12, F₁₂.keep, hps, ⟨t0, op, np, p12, cp, dp, datp⟩, fun Ls hL => ?_⟩
    have hid : ∀ a o, s₁₂.heap.get? a = some o → a ∉ g.Tb → a ≠ p → a ∉ Ls → (hideAll s₁₂.heap (g.Tb ++ p :: Ls)).get? a = some o := fun a o e h1 h2 h3 => hideAll_get _ e fun m => by
      rcases List.mem_append.mp m with m | m
      · exact h1 m
      · rcases List.mem_cons.mp m with m | m
        · exact h2 m
        · exact h3 m
    have nL : ∀ a, s.heap.get? a = none → a ∉ Ls := fun a e m => by obtain ⟨o, e', _⟩ := hL a m; rw [e] at e'; cases e'
    have hcellz : ∀ x, x ∈ (fd.scope.names.filter (·.2 == .cell)).map (·.1) → ∃ c v, env.cells.lookup x = some c ∧ s₁₂.heap.IsCell c v ∧ (hideAll s₁₂.heap (g.Tb ++ p :: Ls)).IsCell c v := fun x hx => by
      obtain ⟨_, c', v, q2, q3, q4⟩ := F₁₂.cells x hx
      obtain ⟨o, e, d⟩ := id q3
      exact ⟨c', v, q2, q3, o, hid _ _ e (IsCell.apart i12.tabs q3) (fun z => by rw [z, p12] at e; cases e; rw [datp] at d; cases d) (nL _ q4), d⟩
    have FR : FrameR [] (hideAll s₁₂.heap (g.Tb ++ p :: Ls)) env [(("octets" : Str), .bytes b), ("place", .opq (.ref p))] := by
      refine ⟨fun x d hx => ?_, fun x hx => ?_⟩
      · have hxx : x ∈ (fd.scope.names.filter (·.2 == .cell)).map (·.1) ∧ (((((((⟨(["octets"] : List Str).zip [D.bytes b] ++ [], []⟩ : St).put "place" (.opq (.ref p))).put "stream" (.opq (.ref st))).put "read" (.opq (.ref rd)))).ρ.lookup x = some d) ∧ d.scalar = true) := by
          by_cases z1 : x = ("octets" : Str)
          · subst z1
            cases hx
            refine ⟨oc1, ?_, rfl⟩
            rw [lookup_put_ne (by decide), lookup_put_ne (by decide), lookup_put_ne (by decide)]; rfl
          · rw [List.lookup_cons, show (x == ("octets" : Str)) = false from by simpa using z1] at hx
            by_cases z2 : x = ("place" : Str)
            · subst z2
              cases hx
              refine ⟨oc2, ?_, rfl⟩
              rw [lookup_put_ne (by decide), lookup_put_ne (by decide)]; exact lookup_put_eq
            · rw [List.lookup_cons, show (x == ("place" : Str)) = false from by simpa using z2] at hx
              cases hx
        obtain ⟨hxo, hxl, hxs⟩ := hxx
        obtain ⟨v, hv, hr⟩ := F₁₂.rest x d hxl (fun h => nomatch h)
        obtain ⟨c', w, q2, q3, q5⟩ := hcellz x hxo
        obtain ⟨kc, _⟩ := F₁₂.cells x hxo
        refine ⟨v, .inr ⟨.inl ((F₁₂.eok.kinds x).trans kc), c', q2, ?_⟩, ?_⟩
        · rcases hv with ⟨hk, _⟩ | ⟨hk, c'', hc'', hvc⟩
          · rw [F₁₂.eok.kinds, kc] at hk; cases hk
          · rw [q2] at hc''; cases hc''
            obtain ⟨o1, e1, d1⟩ := q3
            obtain ⟨o2, e2, d2⟩ := hvc
            rw [e1] at e2; cases e2
            rw [d1] at d2; cases d2
            exact q5
        · exact hr.scalarH hxs
      · rw [F₁₂.eok.kinds] at hx
        rcases hx with hx | hx
        · obtain ⟨c', w, q2, q3, q5⟩ := hcellz x (List.mem_map.mpr ⟨_, List.mem_filter.mpr ⟨mem_of_lookup hx, rfl⟩, rfl⟩)
          exact ⟨c', w, q2, q5⟩
        · exact absurd rfl (hd.nofree _ (mem_of_lookup hx))
    have ddT : dd ∉ g.Tb := Ns.apart F₁₁.inv.tabs e3
    have dds : s.heap.get? dd = none := by
      cases e : s.heap.get? dd with
      | none => rfl
      | some o => have := F₁₀.keep _ _ ddT e; rw [e2] at this; cases this
    refine ⟨dd, fd5, (fun y => if y = ("read" : Str) then some (.ref rd) else none), rd, hid _ _ (k12 _ _ stT e1) stT pst.symm (nL _ sth), ?_, by simp, ?_⟩
    · refine e3.at' fun o e => hid _ _ (k12 _ _ ddT e) ddT (fun z => ?_) (nL _ dds)
      rw [← z, e2] at p10; cases p10
    · refine hread _ rd p ?_
      refine m7.fnH (X := []) (s'' := { s₁₂ with heap := hideAll s₁₂.heap (g.Tb ++ p :: Ls) }) hokr F₆.eok hc2a hc2b FR fun a o e hc hdat => ?_
      have hdat' : (∃ fd, o.data = .func fd) ∨ ∃ vs, o.data = .fields vs := hdat.imp (·.2) id
      have aT : a ∉ g.Tb := tab_cls i7.tabs e hc
      have ea := k8a _ _ (k78 _ _ e hc hdat') hc
      have ast : a ≠ st := fun z => by
        rcases hdat with ⟨hn6, _⟩ | ⟨vs, hv⟩
        · have := k56 _ _ hst5 (by nofun) (.inl ⟨_, rfl⟩)
          rw [← z, hn6] at this; cases this
        · rw [z, hst10] at ea; cases ea; cases hv
      have e12 := k12 a o aT (e4 a o ast ea)
      refine hid a o e12 aT (fun z => ?_) fun m => ?_
      · rw [z, p12] at e12; cases e12
        rcases hdat' with ⟨_, q⟩ | ⟨_, q⟩ <;> (rw [datp] at q; cases q)
      · obtain ⟨o', e', hnf⟩ := hL a m
        rcases hdat with ⟨hn6, _⟩ | ⟨vs, hv⟩
        · have := F₆.keep _ _ aT e'; rw [hn6] at this; cases this
        · have := F₁₂.keep _ _ aT e'; rw [e12] at this; cases this; exact hnf _ hv
  · rintro r s' ⟨v, rfl, h⟩
    exact h
end Mine


/- XK -/
namespace Mine
variable {g : Gx} {ℓ : Nat} {fi : FI} {X : List Addr} {h₀ : Heap} {O : List (Str × Addr)} {env : Env} {σ : St} {s : Shared} {ρ : AEnv} {H : Heap} {Dd : Addr} {ds : List D} {st p : Addr} {b : Array UInt8} {pos pos' : Int}

def ExW (g : Gx) (ℓ : Nat) (fi : FI) (σ : St) (ss : List Stmt) (Q : Fl → Prop) : Prop :=
  ∀ A X h₀ O env s, AOk ℓ A → FrX g X h₀ O fi env σ s → wpAny g.M A (execs ss env) (fun f s' => ∃ fl, Inv g s' ∧ Keep g h₀ s'.heap ∧ FlR X s'.heap f fl ∧ Q fl) NoE s

theorem ExW.cons {s1 : Stmt} {rest : List Stmt} {Q : Fl → Prop} (h : Ex1 g ℓ fi σ s1 fun σ' fl => match fl with | .next => ExW g ℓ fi σ' rest Q | fl => Q fl) : ExW g ℓ fi σ (s1 :: rest) Q := by
  intro A X h₀ O env s hA F
  refine wpAny_execs_cons (wpQ (h A X h₀ O env s hA F) ?_)
  rintro f s' ⟨σ', O', fl, F', k, al, on, hf, hq⟩
  cases f with
  | next => cases fl with | next => exact hq A X h₀ O' env s' hA F' | _ => exact hf.elim
  | brk => cases fl with | brk => exact ⟨_, F'.inv, F'.keep, hf, hq⟩ | _ => exact hf.elim
  | cont => cases fl with | cont => exact ⟨_, F'.inv, F'.keep, hf, hq⟩ | _ => exact hf.elim
  | ret v => cases fl with | ret => exact ⟨_, F'.inv, F'.keep, hf, hq⟩ | _ => exact hf.elim

theorem CallOK.defW (hg : GOk g) {a : Addr} {xs : List Str} {body : List Stmt} {sc : Scope} {cd : Value} {ds : List D} {d : D} (hd : DefAt g a xs body sc cd) (hl : xs.length = ds.length) (h : ExW g ℓ ⟨sc, cd, (sc.names.filter (·.2 == .cell)).map (·.1)⟩ ⟨xs.zip ds ++ [], []⟩ body fun fl => fl = .ret d) :
    CallOK g (ℓ + 1) (.ref a) ds d := by
  intro A X s vs hA hI hX r
  obtain ⟨oc, od, osl, fd, hK, hbody, rfl, rfl, hclo, hgl, hbl, hcode, hbind⟩ := hd.out
  have ho : s.heap.get? a = some ⟨oc, od, .func fd, osl⟩ := hI.stays _ _ (hg.kin _ _ hK)
  have hroom : A.depth < recursionLimit := by have := hA.depth; lia
  have hvl : vs.length = xs.length := by rw [r.length]; exact hl.symm
  refine wpAny_call (codeAny_mono (R := fun r s' => ∃ v, r = .ok (.ret v) ∧ Post g X s d v s') ?_ ?_)
  · refine codeAny_call_function hroom ho rfl hd.co hd.gen hbody ((codeRec_of hg.kin hcode).keeps hI.stays) (hbind s vs hI.stays hvl _ _ _ _ ?_)
    rw [hclo, hgl, hbl]
    refine enter hd.kind hd.nd (fun p hp => hd.xk _ (List.of_mem_zip hp).1) (fun x c h => by cases h) fun L cells s₂ Ent => ?_
    refine ⟨(hg.nolimit.keeps hI.stays).keeps Ent.keep, codeAny_func ?_⟩
    obtain ⟨env, hE⟩ : ∃ x, newEnv fd.scope L mainGlobals cells (fd.qualname ++ ".<locals>.") (some a) fd.code none builtinsNs = x := ⟨_, rfl⟩
    rw [hE] at Ent ⊢
    have FX := enterFr (g := g) (X := X) (cd := fd.code) (ρc := []) Ent hI hX r hl hd.xnd hd.nd hd.kind hd.xk (by rw [← hE]; rfl) (by rw [← hE]; rfl) (by rw [← hE]; rfl) (by rw [← hE]; rfl) (fun x hx => absurd rfl (hd.nofree _ (mem_of_lookup hx))) (fun x d h => by cases h)
    refine wpQ (h _ X s.heap [] env s₂ (hA.deeper env) FX) ?_
    rintro f s' ⟨fl, i', k', hf, rfl⟩
    cases f with | ret v => exact ⟨v, rfl, i', k', hf⟩ | _ => exact hf.elim
  · rintro r s' ⟨v, rfl, hp⟩
    exact hp

theorem FrX.setApart (F : FrX g X h₀ O fi env σ s) {s' : Shared} (i : Inv g s') (k : Keep g s.heap s'.heap) (hp : s.heap.get? p = none) {xs : Array Value} (hl : PL s'.heap p xs) : FrX g (p :: X) h₀ O fi env σ s' := by
  have F' := F.step i k
  obtain ⟨op, np, ep, cp, dp, datp⟩ := id hl
  have pT : p ∉ g.Tb := tab_cls i.tabs ep (by rw [cp]; nofun)
  have hmem : ∀ c, c ∈ p :: X ++ O.map (·.2) → c ∈ X ++ O.map (·.2) ∨ s.heap.get? c = none := by
    intro c hc
    rcases List.mem_append.mp hc with hc | hc
    · rcases List.mem_cons.mp hc with z | hc
      · exact .inr (z ▸ hp)
      · exact .inl (List.mem_append_left _ hc)
    · exact .inl (List.mem_append_right _ hc)
  refine ⟨i, F'.bin, F'.eok, fun c hc => ?_, F'.keep, F'.lnew, F'.lns, F'.cells, F'.inj, F'.cel, F'.names, F'.nodup, fun x a hm => ?_, fun x d hd hx => ?_⟩
  · rcases List.mem_cons.mp hc with z | hc
    · subst z; exact ⟨⟨op, ep, cp, _, _, datp⟩, pT, inv_base F.inv hp⟩
    · exact F'.xok c hc
  · obtain ⟨q1, q2, q3, vs, ds, q4, q5, q6, q7⟩ := F.own x a hm
    obtain ⟨r1, r2, r3, _⟩ := F'.own x a hm
    refine ⟨q1, fun m => ?_, r3, vs, ds, q4, ?_, q6, (q7.restrict hmem).keep F.inv.tabs k⟩
    · rcases List.mem_cons.mp m with z | m
      · obtain ⟨o, n, e, _⟩ := q5; rw [z, hp] at e; cases e
      · exact q2 m
    · obtain ⟨o, n, e, c, r⟩ := q5
      exact ⟨o, n, k _ _ (tab_cls F.inv.tabs e (by rw [c]; nofun)) e, c, r⟩
  · obtain ⟨v, q1, q2⟩ := F.rest x d hd hx
    exact ⟨v, q1.keep F.inv.tabs k, (q2.restrict hmem).keep F.inv.tabs k⟩
end Mine


/- XL -/
namespace Mine
variable {g : Gx} {ℓ : Nat} {fi : FI} {X : List Addr} {h₀ : Heap} {O : List (Str × Addr)} {env : Env} {σ : St} {s : Shared} {ρ : AEnv} {H : Heap} {Dd : Addr} {ds : List D} {st p : Addr} {b : Array UInt8} {pos pos' : Int}

theorem FlR.mono {Y : List Addr} {h : Heap} {f : Flow} {fl : Fl} (q : ∀ a ∈ Y, a ∈ X) (x : FlR X h f fl) : FlR Y h f fl := by
  cases f <;> cases fl <;> first | exact x | exact Rep.mono q x | exact x.elim

theorem ExW.stream (hg : GOk g) {x id : Str} {p1 p2 cpos apos : Pos} {e : Expr} {am : Addr} {oc : Value} {od : Option Addr} {osl : Array (Option Value)} {fd : FuncData} {rest : List Stmt} {Q : Fl → Prop} (hk : fi.sc.names.lookup id = some .globalImplicit) (hv : GlobV g id (.ref am)) (hK : g.K.lookup am = some ⟨oc, od, .func fd, osl⟩)
    (he : Ev g ℓ fi σ.ρ e (.bytes b)) (hcs : ∀ A X s t, AOk ℓ A → Inv g s → XOk g X s.heap → wpAny g.M A (call (.ref am) [.bytes b t]) (Streamed g s b) NoE s) (ho : okStore fi σ x)
    (hr : ∀ st p, ExR g ℓ fi (σ.put x (.opq (.ref st))) st p b 0 rest fun _ _ fl => Q fl) (hn : okName id = true := by decide) (hst : ∀ env, starEach [e] env = [(false, eval e env)] := by intro _; rfl)
    (hs : ∀ env, swapsWith (.Call (.Name id p1) [e] [] cpos) (some (.Name x p2)) apos.line env = pure false := by intro _; rfl) :
    ExW g ℓ fi σ (.Assign [.Name x p2] (.Call (.Name id p1) [e] [] cpos) apos :: rest) Q := by
  intro A X h₀ O env s hA F
  refine wpAny_execs_cons (wpAny_Assign_Name ?_ (hs env))
  refine wpAny_Call_NameR (evalGlob hg F.inv F.eok hk hv hn ?_)
  have hsh : backTo cpos (starEach [e] env) = [(false, eval e env)] := by rw [hst]; rfl
  rw [hsh]
  refine Calls.callWith_function (o := ⟨oc, od, .func fd, osl⟩) (fd := fd) (Calls.evalArgs_plain (Calls.spliced_cons ?_))
  refine wpQ (he A X env s hA F.inv F.eok F.xok F.full) fun v s₁ ⟨i1, k1, r1⟩ => Calls.spliced_nil ?_
  obtain ⟨t, rfl⟩ : ∃ t, v = .bytes b t := by cases r1; exact ⟨_, rfl⟩
  have F₁ := F.step i1 k1
  refine ⟨⟨i1.stays _ _ (hg.kin _ _ hK), rfl⟩, ?_⟩
  refine wpQ (hcs A X s₁ t hA i1 F₁.xok) ?_
  rintro v s₂ ⟨st, p, rfl, i2, k2, hp, ⟨t0, hpl⟩, hS⟩
  have F₂ := F₁.setApart i2 k2 hp hpl
  have pO : p ∉ O.map (·.2) := fun w => by obtain ⟨o, e⟩ := O_alive F₁ w; rw [hp] at e; cases e
  have hph : h₀.get? p = none := by
    obtain ⟨o, n, e, c, _⟩ := hpl
    cases e' : h₀.get? p with
    | none => rfl
    | some o' => have := F₁.keep _ _ (tab_cls i2.tabs e (by rw [c]; nofun)) e'; rw [hp] at this; cases this
  have S₂ : SF g (p :: X) h₀ O fi env σ s₂ st p b 0 := by
    refine ⟨F₂, .head _, hph, pO, ⟨t0, hpl⟩, hideAll s₂.heap (g.Tb ++ p :: (env.locals :: fi.oc.filterMap (env.cells.lookup ·) ++ O.map (·.2))), fun a o e => ?_, hS _ fun a ha => ?_⟩
    · have nm : a ∉ g.Tb ++ p :: (env.locals :: fi.oc.filterMap (env.cells.lookup ·) ++ O.map (·.2)) := fun m => by rw [hideAll_none _ m] at e; cases e
      refine ⟨of_hideAll _ e, fun m => nm (List.mem_append_left _ m), fun z => nm (List.mem_append_right _ (z ▸ .head _)), ?_, fun m => nm (List.mem_append_right _ (.tail _ (List.mem_append_right _ m)))⟩
      rintro (z | ⟨y, hy, hc⟩)
      · exact nm (List.mem_append_right _ (.tail _ (List.mem_append_left _ (z ▸ .head _))))
      · exact nm (List.mem_append_right _ (.tail _ (List.mem_append_left _ (.tail _ (List.mem_filterMap.mpr ⟨y, hy, hc⟩)))))
    · rcases List.mem_append.mp ha with ha | ha
      · rcases List.mem_cons.mp ha with rfl | ha
        · obtain ⟨m, o, _, _, e, d, _⟩ := F₁.lns
          exact ⟨o, e, fun vs q => by rw [d] at q; cases q⟩
        · obtain ⟨y, hy, hc⟩ := List.mem_filterMap.mp ha
          obtain ⟨_, c', w, hc', ⟨o, e, d⟩, _⟩ := F₁.cells y hy
          rw [hc] at hc'; cases hc'
          exact ⟨o, e, fun vs q => by rw [d] at q; cases q⟩
      · obtain ⟨⟨y, a'⟩, hm, rfl⟩ := List.mem_map.mp ha
        obtain ⟨_, _, _, vs, ds, _, ⟨o, n, e, c, _, d⟩, _⟩ := F₁.own y a' hm
        exact ⟨o, e, fun vs q => by rw [d] at q; cases q⟩
  refine S₂.fr.store ho.1 ho.2 (d := .opq (.ref st)) .opq fun s₃ F₃ k3 al3 => ?_
  have S₃ := S₂.stepX F₃ k3.up Onew.refl
  refine wpQ (hr st p A _ h₀ O env s₃ hA S₃) ?_
  rintro f s' ⟨σ', O', fl, pos', S', hf, hq⟩
  exact ⟨fl, S'.fr.inv, S'.fr.keep, hf.mono fun a ha => .tail _ ha, hq⟩
end Mine


/- XR -/
namespace Mine
variable {g : Gx} {ℓ : Nat} {fi : FI} {X : List Addr} {h₀ : Heap} {O : List (Str × Addr)} {env : Env} {σ : St} {s : Shared} {ρ : AEnv} {H : Heap} {Dd : Addr} {ds : List D} {st p : Addr} {b : Array UInt8} {pos pos' : Int}

theorem EvR.tup2 {e1 e2 : Expr} {k : Nat} {vpos : Pos} {pos1 pos2 : Int} {d1 d2 : D} (h1 : EvR g ℓ fi σ st p b pos e1 pos1 d1) (h2 : EvR g ℓ fi σ st p b pos1 e2 pos2 d2)
    (he1 : ∀ env, starEach [e1, e2] env = (false, eval e1 env) :: starEach [e2] env := by intro _; rfl) (he2 : ∀ env, starEach [e2] env = (false, eval e2 env) :: starEach [] env := by intro _; rfl) : EvR g ℓ fi σ st p b pos (.Tuple [e1, e2] k vpos) pos2 (.tup [d1, d2]) := by
  intro A X h₀ O env s hA S
  refine wpAny_Tuple (wpAny_items_cons (wpQ (h1 A X h₀ O env s hA S) fun v1 s₁ ⟨S₁, k₁, r₁⟩ => ?_) (he1 env))
  refine wpAny_items_cons (wpQ (h2 A X h₀ O env s₁ hA S₁) fun v2 s₂ ⟨S₂, k₂, r₂⟩ => ?_) (he2 env)
  obtain ⟨t1, hl1⟩ := S₁.pl
  have r₁' := r₁.keepR (k₂.repKR S₁.fr.inv.tabs hl1.isList (List.mem_append_left _ S₁.px))
  refine wpQ (Evs.nil (ℓ := ℓ) A (X ++ O.map (·.2)) env s₂ _ hA S₂.fr.inv S₂.fr.eok S₂.fr.xok' S₂.fr.strict) fun vs s₃ ⟨i3, k3, r3⟩ => ?_
  obtain rfl := r3.nil'
  have q := Post.newTuple (s := s₂) i3 k3 (.cons (r₁'.keep S₂.fr.inv.tabs k3) (.cons (r₂.keep S₂.fr.inv.tabs k3) .nil))
  exact ⟨Nat.le_of_ble_eq_true rfl, S₂.step q.inv q.keep, fun a o h1 h2 e => q.keep a o h1 (k₂ a o h1 h2 (k₁ a o h1 h2 e)), q.rep⟩

theorem ExR.unpackT {ts vs : List Expr} {k k' : Nat} {tpos vpos apos : Pos} {xs : List Str} {ds : List D} {rest : List Stmt} {Q : St → Int → Fl → Prop} (h : EvR g ℓ fi σ st p b pos (.Tuple vs k' vpos) pos' (.tup ds)) (hx : (ts.map fun t => match t with | .Name x _ => some x | _ => Option.none) = xs.map some) (hl : xs.length = ds.length) (ho : ∀ x ∈ xs, okStore fi σ x)
    (nd : xs.Nodup) (hst : swapR fi ts vs = pure none ∨ swapR fi ts vs = pure (some xs)) (hr : ExR g ℓ fi (putAll σ xs ds) st p b pos' rest Q) : ExR g ℓ fi σ st p b pos (.Assign [.Tuple ts k tpos] (.Tuple vs k' vpos) apos :: rest) Q := by
  intro A X h₀ O env s hA S
  refine wpAny_execs_cons ?_
  rw [arm_exec_Assign]
  refine wpAny_bind (wpAny_standAt (wpAny_bind (wpAny_of_eq (a := false) rfl ?_)))
  simp only [Bool.false_eq_true, if_false]
  refine wpAny_bind (wpQ (h A X h₀ O env s hA S) fun v s₁ ⟨S₁, k₁, r₁⟩ => ?_)
  refine wpQ (stores_tup hA S₁.fr r₁ hx hl ho nd hst) fun f s₂ ⟨e, F₂, k2, al2⟩ => ?_
  rw [e]
  exact hr A X h₀ O env s₂ hA (S₁.stepX F₂ k2 Onew.refl)
end Mine


/- XW -/
namespace Mine
variable {g : Gx} {ℓ : Nat} {fi : FI} {X : List Addr} {h₀ : Heap} {O : List (Str × Addr)} {env : Env} {σ : St} {s : Shared} {ρ : AEnv} {H : Heap} {Dd : Addr} {ds : List D}
theorem FrX.sub {ρ' : AEnv} (F : FrX g X h₀ O fi env σ s) (h1 : ∀ z ∈ σ.ω, ρ'.lookup z = σ.ρ.lookup z) (h2 : ∀ z d, ρ'.lookup z = some d → σ.ρ.lookup z = some d) : FrX g X h₀ O fi env { σ with ρ := ρ' } s := by
  refine ⟨F.inv, F.bin, F.eok, F.xok, F.keep, F.lnew, F.lns, F.cells, F.inj, F.cel, F.names, F.nodup, fun y b hp => ?_, fun y d hd hy => F.rest y d (h2 y d hd) hy⟩
  obtain ⟨q1, q2, q3, us, es', q4, q5⟩ := F.own y b hp
  exact ⟨q1, q2, q3, us, es', (h1 y (by rw [← F.names]; exact List.mem_map.mpr ⟨_, hp, rfl⟩)).trans q4, q5⟩
theorem Ex1.unpackOwn {x y : Str} {px py lpos tpos vpos pos : Pos} {k k' : Nat} {e1 : Expr} {d1 : D} {Q : St → Fl → Prop} (h : Ev g ℓ fi σ.fz e1 d1) (ho : okStore fi σ x) (hoy : okStore fi σ y) (hne : x ≠ y) (hst : swapR fi [.Name x px, .Name y py] [e1, .List [] lpos] = pure none ∨ swapR fi [.Name x px, .Name y py] [e1, .List [] lpos] = pure (some [x, y]))
    (hq : Q ⟨put (put σ.ρ x d1) y (.list []), y :: σ.ω⟩ .next) (he1 : ∀ env, starEach [e1, .List [] lpos] env = (false, eval e1 env) :: starEach [.List [] lpos] env := by intro _; rfl) :
    Ex1 g ℓ fi σ (.Assign [.Tuple [.Name x px, .Name y py] k tpos] (.Tuple [e1, .List [] lpos] k' vpos) pos) Q := by
  intro A X h₀ O env s hA F
  rw [arm_exec_Assign]
  refine wpAny_bind (wpAny_standAt (wpAny_bind (wpAny_of_eq (a := false) rfl ?_)))
  simp only [Bool.false_eq_true, if_false]
  refine wpAny_bind (wpAny_Tuple (wpAny_items_cons (wpQ (h A (X ++ O.map (·.2)) env s hA F.inv F.eok F.xok' F.strict) fun v1 s₁ ⟨i1, k1, r1⟩ => ?_) (he1 env)))
  have F₁ := F.step i1 k1
  refine wpAny_items_cons (wpAny_List (wpQ (Evs.nil (ℓ := ℓ) A (X ++ O.map (·.2)) env s₁ lpos hA i1 F₁.eok F₁.xok' F₁.strict) fun vs s₂ ⟨i2, k2, r2⟩ => ?_)) rfl
  obtain rfl := r2.nil'
  refine ⟨Nat.zero_le _, ?_⟩
  have F₂ := F₁.step i2 k2
  have han : s₂.heap.get? s₂.heap.objs.size = none := fresh_none _
  obtain ⟨s₃, hs3⟩ : ∃ x, ({ s₂ with heap := s₂.heap.push { cls := .type "list", data := .seq ([] : List Value).toArray } } : Shared) = x := ⟨_, rfl⟩
  rw [hs3]
  have h3 : s₃.heap = s₂.heap.push { cls := .type "list", data := .seq ([] : List Value).toArray } := by rw [← hs3]
  have kk : ∀ b o, s₂.heap.get? b = some o → s₃.heap.get? b = some o := by rw [h3]; exact push_keeps _ _
  have i3 : Inv g s₃ := by rw [← hs3]; exact i2.of_keeps (tk := s₂.toks) (push_keeps _ _)
  have hl3 : PL s₃.heap s₂.heap.objs.size ([] : List Value).toArray := by rw [h3]; exact ⟨_, _, Heap.get?_push_size _ rfl, rfl, ⟨rfl, rfl⟩, rfl⟩
  obtain ⟨a, hza⟩ : ∃ x, s₂.heap.objs.size = x := ⟨_, rfl⟩
  rw [hza] at han hl3 ⊢
  have F₃ := F₂.newL i3 kk han hl3
  obtain ⟨oa, na, ea, ca, ra, data⟩ := id hl3
  have haT : a ∉ g.Tb := tab_cls i3.tabs ea (by rw [ca]; nofun)
  have haO : ¬ OwnA fi env a := fun w => by obtain ⟨o, e⟩ := own_alive F₂ w; rw [han] at e; cases e
  have hao : a ∉ O.map (·.2) := fun w => by obtain ⟨o, e⟩ := O_alive F₂ w; rw [han] at e; cases e
  refine wpQ (Evs.nil (ℓ := ℓ) A ((a :: X) ++ O.map (·.2)) env s₃ _ hA i3 F₃.eok F₃.xok' F₃.strict) fun vs s₄ ⟨i4, k4, r4⟩ => ?_
  obtain rfl := r4.nil'
  have k13 : Keep g s₁.heap s₃.heap := k2.trans (Keep.of kk)
  have r1' : Rep ((a :: X) ++ O.map (·.2)) s₃.heap v1 d1 := ((r1.keep i1.tabs k2).fresh han).keep i2.tabs (Keep.of kk)
  have q := Post.newTuple (s := s₃) (X := (a :: X) ++ O.map (·.2)) (ds := [d1, .opq (.ref a)]) i4 k4 (.cons (r1'.keep i3.tabs k4) (.cons .opq .nil))
  refine ⟨Nat.le_of_ble_eq_true rfl, ?_⟩
  have F₅ := F₃.step q.inv q.keep
  have k15 := k1.trans (k13.trans q.keep)
  refine wpQ (stores_tup (xs := [x, y]) (X := a :: X) hA F₅ q.rep rfl rfl (fun z hz => ?_) (by simpa using hne) hst) fun f s₆ ⟨e, F₆, k6, al6⟩ => ?_
  · simp only [List.mem_cons, List.not_mem_nil, or_false] at hz
    rcases hz with rfl | rfl
    · exact ho
    · exact hoy
  rw [e]
  have hlk : ∀ z, (put (put σ.ρ x d1) y (.opq (.ref a))).lookup z = if z == y then some (.opq (.ref a)) else (put σ.ρ x d1).lookup z := fun z => lookup_put _ _ _ _
  obtain ⟨v, va, rv⟩ := F₆.rest y (.opq (.ref a)) (by show (put (put σ.ρ x d1) y _).lookup y = _; rw [hlk]; simp) hoy.1
  obtain rfl := rv.opq'
  have G : FrX g (a :: X) h₀ O fi env { (σ.put x d1) with ρ := del (σ.put x d1).ρ y } s₆ := by
    refine F₆.sub (fun z hz => ?_) fun z d hz => ?_
    · have hzy : (z == y) = false := by rw [beq_eq_false_iff_ne]; rintro rfl; exact hoy.1 hz
      show (del (put σ.ρ x d1) y).lookup z = (put (put σ.ρ x d1) y _).lookup z
      rw [lookup_del, hlk, hzy]; rfl
    · have hz' : (del (put σ.ρ x d1) y).lookup z = some d := hz
      rw [lookup_del] at hz'
      show (put (put σ.ρ x d1) y _).lookup z = some d
      rw [hlk]
      split at hz'
      · cases hz'
      · rename_i c
        rw [if_neg c]; exact hz'
  have FF := G.own1 (σ := σ.put x d1) (vs := []) (ds := []) hoy.1 va (F₂.keep.none i2.tabs han) (F₂.xok.fresh han) hao ⟨oa, na, k6 a oa haT haO hao (q.keep a oa haT ea), ca, ra, data⟩ (Nat.zero_le _) .nil
  refine ⟨_, _, .next, FF, (KeepX.of_keep k15).trans k6 Onew.refl, (Alive.of_keep q.inv.tabs k15).trans al6, fun p hp => ?_, trivial, hq⟩
  rcases List.mem_cons.mp hp with rfl | hp
  · exact .inr ((k1.trans k2).none i2.tabs han)
  · exact Onew.refl p hp
end Mine


/- XM -/
namespace Mine
set_option maxRecDepth 100000
variable {g : Gx} {ℓ : Nat} {fi : FI} {X : List Addr} {h₀ : Heap} {O : List (Str × Addr)} {env : Env} {σ : St} {s : Shared} {ρ : AEnv} {H : Heap} {Dd : Addr} {ds : List D}
section
variable {prog : Program} {w : World} {A : Around} {E : Value → Shared → Prop}

theorem nextOf_tuple_item {it l : Addr} {i : Nat} {items : Array Value} {x : Value} {Q : Value → Shared → Prop} (hit : s.heap.IsTupleIter it l i)
    (hl : s.heap.IsTuple l items) (hx : items[i]? = some x)
    (hQ : ∀ h', h'.IsTupleIter it l (i + 1) → Heap.SameBut it s.heap h' → Q x { s with heap := h' }) :
    wpAny (model prog w) A (Builtin.SmallTypes.nextOf (.ref it)) Q E s := by
  obtain ⟨o, ho, hc, hd⟩ := id hit
  obtain ⟨ol, hol, _, nl, hdl⟩ := hl
  unfold Builtin.SmallTypes.nextOf
  refine wpAny_bind (wpAny_callSpecial?_slot (name := Str.ofString "__next__") hit.typeIs slot_tupleiter_next
    (wpAny_call_entry slot_tupleiter_next hit.typeIs entry_tupleiter_next ?_ (args_tupleiter_next _)))
  show wpAny _ _ (field (.ref it) 0 >>= _) _ _ s
  refine wpAny_bind (wpAny_field ho hd (x := .ref l) rfl ?_)
  show wpAny _ _ (if (Value.ref l == Value.none) = true then _ else _) _ _ s
  rw [if_neg (show ¬ ((Value.ref l == Value.none) = true) from Bool.false_ne_true)]
  show wpAny _ _ (field (.ref it) 1 >>= _) _ _ s
  refine wpAny_bind (wpAny_field ho hd (x := .int i 0) rfl ?_)
  show wpAny _ _ (seqItems? (.ref l) >>= _) _ _ s
  refine wpAny_bind (wpAny_seqItems hol hdl ?_)
  simp only [Int.toNat_natCast, hx]
  refine wpAny_bind (wpAny_setField ho hd (by simp) (wpAny_pure ⟨x, rfl, wpAny_pure (hQ _ ?_ (Heap.SameBut.update ..))⟩))
  exact ⟨_, Heap.get?_update_self _ ho (Obj.isFreed_of_fields (Obj.data_mapFields hd _)), (Obj.cls_mapFields ..).trans hc, by
    rw [Obj.data_mapFields hd]; simp [rawInt]⟩

theorem nextOf_tuple_end {it l : Addr} {i : Nat} {items : Array Value} {Q : Value → Shared → Prop} (hh : A.handled = none)
    (hit : s.heap.IsTupleIter it l i) (hl : s.heap.IsTuple l items) (hx : items[i]? = none)
    (hE : ∀ h' e, Heap.ExtBut it s.heap h' → (∃ o, h'.get? e = some o ∧ o.cls = .type "StopIteration") → E (.ref e) { s with heap := h' }) :
    wpAny (model prog w) A (Builtin.SmallTypes.nextOf (.ref it)) Q E s := by
  obtain ⟨o, ho, hc, hd⟩ := id hit
  obtain ⟨ol, hol, _, nl, hdl⟩ := hl
  unfold Builtin.SmallTypes.nextOf
  refine wpAny_bind (wpAny_callSpecial?_slot (name := Str.ofString "__next__") hit.typeIs slot_tupleiter_next
    (wpAny_call_entry slot_tupleiter_next hit.typeIs entry_tupleiter_next ?_ (args_tupleiter_next _)))
  show wpAny _ _ (field (.ref it) 0 >>= _) _ _ s
  refine wpAny_bind (wpAny_field ho hd (x := .ref l) rfl ?_)
  show wpAny _ _ (if (Value.ref l == Value.none) = true then _ else _) _ _ s
  rw [if_neg (show ¬ ((Value.ref l == Value.none) = true) from Bool.false_ne_true)]
  show wpAny _ _ (field (.ref it) 1 >>= _) _ _ s
  refine wpAny_bind (wpAny_field ho hd (x := .int i 0) rfl ?_)
  show wpAny _ _ (seqItems? (.ref l) >>= _) _ _ s
  refine wpAny_bind (wpAny_seqItems hol hdl ?_)
  simp only [Int.toNat_natCast, hx]
  refine wpAny_bind (wpAny_rule (wpAny_bind (wpAny_setField ho hd (by simp) ?_)))
  show wpAny _ _ (newExc (.type "StopIteration") [] >>= _) _ _ _
  refine wpAny_bind ?_
  simp only [newExc, newTuple]
  refine wpAny_bind (wpAny_newObj_type ?_ (by size_fits))
  refine wpAny_bind (m := firstArgMember _ _) (wpAny_of_eq (a := Value.none) (by first | rfl | (simp only [firstArgMember]; rfl)) ?_)
  refine wpAny_newObj_type ?_ (by size_fits)
  simp only [raiseNew]
  refine wpAny_bind (wpAny_handled ?_)
  first | rw [show A.in1.handled = none from hh] | rw [hh]
  refine wpAny_bind (wpAny_pure (wpAny_throw ?_))
  exact hE _ _ (((Heap.SameBut.update ..).extBut.push _).push _) ⟨_, Heap.get?_push_size _ rfl, rfl⟩
end
end Mine


/- XN -/
namespace Mine
set_option maxRecDepth 100000
variable {g : Gx} {ℓ : Nat} {fi : FI} {X : List Addr} {h₀ : Heap} {O : List (Str × Addr)} {env : Env} {σ : St} {s : Shared} {ρ : AEnv} {H : Heap} {Dd : Addr} {ds : List D}
section
variable {prog : Program} {w : World} {A : Around} {E : Value → Shared → Prop}

theorem enumT_next_item {e it l : Addr} {i : Nat} {items : Array Value} {x old : Value} {Q : Value → Shared → Prop}
    (he : IsEnum s.heap e it i old) (hit : s.heap.IsTupleIter it l i) (hl : s.heap.IsTuple l items) (hx : items[i]? = some x) (hne : e ≠ it)
    (hQ : ∀ h', IsEnumOut h' e it ((i : Int) + 1) x s.heap.objs.size → h'.IsTupleIter it l (i + 1) →
      h'.get? s.heap.objs.size = some { cls := .type "tuple", data := .seq #[.int i s.toks, x] } → h'.objs.size = s.heap.objs.size + 1 →
      (∀ b o, b ≠ e → b ≠ it → s.heap.get? b = some o → h'.get? b = some o) → Q (.ref s.heap.objs.size) { s with heap := h', toks := s.toks + 1 }) :
    wpAny (model prog w) A (Builtin.«enumerate.__next__» ⟨[.ref e], []⟩) (fun fin s' => ∃ v, fin = .done (.ret v) ∧ Q v s') E s := by
  obtain ⟨hp, g, d, tk, os⟩ := s
  show wpAny _ _ (field (.ref e) 2 >>= _) _ _ _
  refine wpAny_bind (wpAny_field he rfl (x := .ref it) rfl ?_)
  refine wpAny_bind (nextOf_tuple_item hit hl hx fun h₁ hit₁ hs₁ => ?_)
  replace hs₁ : Heap.SameBut it hp h₁ := hs₁
  have he₁ : IsEnum h₁ e it i old := (hs₁.2 e hne).trans he
  show wpAny _ _ (field (.ref e) 3 >>= _) _ _ ⟨h₁, g, d, tk, os⟩
  refine wpAny_bind (wpAny_field he₁ rfl (x := rawInt i) rfl ?_)
  show wpAny _ _ (field (.ref e) 4 >>= _) _ _ ⟨h₁, g, d, tk, os⟩
  refine wpAny_bind (wpAny_field he₁ rfl (x := .none) rfl ?_)
  show wpAny _ _ (mkInt i >>= _) _ _ ⟨h₁, g, d, tk, os⟩
  refine wpAny_bind (wpAny_mkInt ?_)
  show wpAny _ _ (setField (.ref e) 3 (rawInt ((i : Int) + 1)) >>= _) _ _ ⟨h₁, g, d, tk + 1, os⟩
  refine wpAny_bind (wpAny_setField_rec he₁ (by simp) fun h₂ he₂ hs₂ => ?_)
  replace hs₂ : Heap.SameBut e h₁ h₂ := hs₂
  replace he₂ : IsEnum h₂ e it ((i : Int) + 1) old := he₂
  show wpAny _ _ (setField (.ref e) 4 .none >>= _) _ _ ⟨h₂, g, d, tk + 1, os⟩
  refine wpAny_bind (wpAny_setField_rec he₂ (by simp) fun h₃ he₃ hs₃ => ?_)
  replace hs₃ : Heap.SameBut e h₂ h₃ := hs₃
  replace he₃ : IsEnum h₃ e it ((i : Int) + 1) old := he₃
  show wpAny _ _ (newTuple [.int i tk, x] >>= _) _ _ ⟨h₃, g, d, tk + 1, os⟩
  refine wpAny_bind (wpAny_newTuple ?_)
  have he₄ : IsEnum (h₃.push { cls := .type "tuple", data := .seq #[.int i tk, x] }) e it ((i : Int) + 1) old := Heap.get?_push_of_some _ he₃
  generalize hh₄ : h₃.push { cls := .type "tuple", data := .seq #[.int i tk, x] } = h₄ at he₄
  have hsz : h₃.objs.size = hp.objs.size := by rw [hs₃.1, hs₂.1, hs₁.1]
  have hel : e < hp.objs.size := Heap.lt_size he
  have ht₄ : h₄.get? hp.objs.size = some { cls := .type "tuple", data := .seq #[.int i tk, x] } := by rw [← hh₄, ← hsz]; exact Heap.get?_push_size _ rfl
  have hz₄ : h₄.objs.size = hp.objs.size + 1 := by rw [← hh₄, Heap.size_push, hsz]
  have hk₄ : ∀ b o, b ≠ e → b ≠ it → hp.get? b = some o → h₄.get? b = some o := fun b o hbe hbi hb => by
    rw [← hh₄]; exact Heap.get?_push_of_some _ (hs₃.extBut b o hbe (hs₂.extBut b o hbe (hs₁.extBut b o hbi hb)))
  have hit₄ : h₄.IsTupleIter it l (i + 1) := by
    rw [← hh₄]; obtain ⟨o, ho, r⟩ := (hit₁.extBut hs₂.extBut (Ne.symm hne)).extBut hs₃.extBut (Ne.symm hne); exact ⟨o, Heap.get?_push_of_some _ ho, r⟩
  show wpAny _ _ (Builtin.SmallTypes.ownedTupleIsFree (.ref e) >>= _) _ _ ⟨h₄, g, d, tk + 1, os⟩
  rw [hsz]
  clear hh₄ he₃ hs₃ he₂ hs₂ he₁ hs₁ hit₁ hsz h₃ h₂ h₁
  refine wpAny_bind ?_
  · unfold Builtin.SmallTypes.ownedTupleIsFree
    refine wpAny_bind (wpAny_field he₄ rfl (x := .none) rfl (wpAny_pure ?_))
    simp only [if_true]
    refine wpAny_bind (wpAny_rule ?_)
    refine wpAny_bind (wpAny_field he₄ rfl (x := old) rfl ?_)
    refine wpAny_bind (wpAny_setField_rec he₄ (by simp) fun h₅ he₅ hs₅ => ?_)
    replace hs₅ : Heap.SameBut e h₄ h₅ := hs₅
    replace he₅ : IsEnum h₅ e it ((i : Int) + 1) x := he₅
    show wpAny _ _ (Builtin.SmallTypes.ownedTupleHandOut (.ref e) (.ref hp.objs.size) >>= _) _ _ ⟨h₅, g, d, tk + 1, os⟩
    refine wpAny_bind ?_
    · unfold Builtin.SmallTypes.ownedTupleHandOut
      refine wpAny_bind (wpAny_setField_rec he₅ (by simp) fun h₆ he₆ hs₆ => ?_)
      replace hs₆ : Heap.SameBut e h₅ h₆ := hs₆
      replace he₆ : IsEnumOut h₆ e it ((i : Int) + 1) x hp.objs.size := he₆
      refine wpAny_setField_rec he₆ (by simp) fun h₇ he₇ hs₇ => ?_
      replace hs₇ : Heap.SameBut e h₆ h₇ := hs₇
      replace he₇ : IsEnumOut h₇ e it ((i : Int) + 1) x hp.objs.size := he₇
      refine wpAny_bind (wpAny_letGo (wpAny_pure ⟨_, rfl, hQ h₇ he₇ ?_ ?_ ?_ ?_⟩))
      · exact ((hit₄.extBut hs₅.extBut (Ne.symm hne)).extBut hs₆.extBut (Ne.symm hne)).extBut hs₇.extBut (Ne.symm hne)
      · exact hs₇.extBut _ _ (Nat.ne_of_gt hel) (hs₆.extBut _ _ (Nat.ne_of_gt hel) (hs₅.extBut _ _ (Nat.ne_of_gt hel) ht₄))
      · rw [hs₇.1, hs₆.1, hs₅.1, hz₄]
      · exact fun b o hbe hbi hb => hs₇.extBut b o hbe (hs₆.extBut b o hbe (hs₅.extBut b o hbe (hk₄ b o hbe hbi hb)))

theorem pyNext_enumT_item {e it l : Addr} {i : Nat} {items : Array Value} {x old : Value} {Q : Option Value → Shared → Prop}
    (he : IsEnum s.heap e it i old) (hit : s.heap.IsTupleIter it l i) (hl : s.heap.IsTuple l items) (hx : items[i]? = some x) (hne : e ≠ it)
    (hQ : ∀ h', IsEnumOut h' e it ((i : Int) + 1) x s.heap.objs.size → h'.IsTupleIter it l (i + 1) →
      h'.get? s.heap.objs.size = some { cls := .type "tuple", data := .seq #[.int i s.toks, x] } → h'.objs.size = s.heap.objs.size + 1 →
      (∀ b o, b ≠ e → b ≠ it → s.heap.get? b = some o → h'.get? b = some o) → Q (some (.ref s.heap.objs.size)) { s with heap := h', toks := s.toks + 1 }) :
    wpAny (model prog w) A (pyNext (.ref e)) Q E s := by
  have hT : s.TypeIs (.ref e) "enumerate" := ⟨_, he, rfl⟩
  unfold pyNext
  exact wpAny_bind (wpAny_attempt (wpAny_callSpecial?_slot (name := Str.ofString "__next__") hT PySem.F.slot_enumerate_next
    (wpAny_call_entry PySem.F.slot_enumerate_next hT PySem.F.entry_enumerate_next
      (enumT_next_item he hit hl hx hne fun h' a b c d k => wpAny_pure (hQ h' a b c d k)) (PySem.F.args_enumerate_next_1 _))))

theorem pyNext_enumT_end {e it l : Addr} {i : Nat} {items : Array Value} {old : Value} {Q : Option Value → Shared → Prop} (hh : A.handled = none)
    (he : IsEnum s.heap e it i old) (hit : s.heap.IsTupleIter it l i) (hl : s.heap.IsTuple l items) (hx : items[i]? = none)
    (hQ : ∀ h', Heap.ExtBut it s.heap h' → Q none { s with heap := h' }) : wpAny (model prog w) A (pyNext (.ref e)) Q E s := by
  have hT : s.TypeIs (.ref e) "enumerate" := ⟨_, he, rfl⟩
  unfold pyNext
  refine wpAny_bind (wpAny_attempt (wpAny_callSpecial?_slot (name := Str.ofString "__next__") hT PySem.F.slot_enumerate_next
    (wpAny_call_entry PySem.F.slot_enumerate_next hT PySem.F.entry_enumerate_next ?_ (PySem.F.args_enumerate_next_1 _))))
  show wpAny _ _ (field (.ref e) 2 >>= _) _ _ _
  refine wpAny_bind (wpAny_field he rfl (x := .ref it) rfl ?_)
  refine wpAny_bind (nextOf_tuple_end hh hit hl hx fun h' x he' hx' => ?_)
  obtain ⟨o, ho, hc⟩ := hx'
  refine wpAny_bind (wpAny_isInstance (T := "StopIteration") (b := true) ⟨o, ho, hc⟩ isSubtype_stop ?_)
  exact wpAny_pure (hQ _ he')
end
end Mine


/- XO -/
namespace Mine
set_option maxRecDepth 100000
open AutoSeq1 (wpAny_loadPart')

theorem meets_enumerate_newT (l : Addr) (items : Array Value) (n : Nat) (dct : Option Addr) (sl : Array (Option Value)) :
    Meets (Builtin.«enumerate.__new__» ⟨[.type "enumerate", .ref l], []⟩) (fun _ R s => s.heap.get? l = some { cls := .type "tuple", dict := dct, data := .seq items n, slots := sl } ∧
      R (.ok (.ret (.ref (s.heap.push { cls := .type "tuple_iterator", data := .fields #[.ref l, .int 0 0] }).objs.size)))
        { s with heap := (s.heap.push { cls := .type "tuple_iterator", data := .fields #[.ref l, .int 0 0] }).push { cls := .type "enumerate", data := .fields #[.none, .bool false, .ref s.heap.objs.size, rawInt 0, .none, .none] } }) :=
  .of_wp fun prog w A R s h => by
    obtain ⟨hp, g, d, tk, os⟩ := s; obtain ⟨hl, h⟩ := h
    have hsub := sub_enumerate
    have hL : Heap.IsTuple (Shared.heap ⟨hp, g, d, tk, os⟩) l items := ⟨_, hl, rfl, n, rfl⟩
    wp_walk using wpAny_loadPart' hl
    refine wpAny_stack_any fun st => wpAny_pure ?_
    split
    · rename_i c _ _ _ _ _
      cases (c == Value.type "enumerate")
      · wp_walk using wpAny_loadPart' hl, wpAny_pyIter_tuple hL
        exact ⟨_, rfl, h⟩
      · wp_walk using wpAny_loadPart' hl, wpAny_pyIter_tuple hL
        exact ⟨_, rfl, h⟩
    · wp_walk using wpAny_loadPart' hl, wpAny_pyIter_tuple hL
      exact ⟨_, rfl, h⟩

section
variable {prog : Program} {w : World} {A : Around} {E : Value → Shared → Prop} {s : Shared}
theorem call_enumerate_tuple {l : Addr} {items : Array Value} {Q : Value → Shared → Prop} (hL : s.heap.IsTuple l items)
    (h : ∀ h', IsEnum h' (s.heap.objs.size + 1) s.heap.objs.size 0 .none → h'.IsTupleIter s.heap.objs.size l 0 → h'.objs.size = s.heap.objs.size + 2 →
      (∀ b o, s.heap.get? b = some o → h'.get? b = some o) → Q (.ref (s.heap.objs.size + 1)) { s with heap := h' }) :
    wpAny (model prog w) A (call (.type "enumerate") [.ref l]) Q E s := by
  obtain ⟨⟨c, dct, dt, sl⟩, hl, hc, n, hd⟩ := hL
  replace hc : c = .type "tuple" := hc
  replace hd : dt = .seq items n := hd
  subst hc hd
  refine callType_new F.called_enumerate (by decide) (F.typeCall_enumerate_1 _) (F.newCall_enumerate_1 _) (fun obj => F.args_object_init_2 obj _) F.entry_enumerate_new
    (meets_enumerate_newT l items n dct sl) ⟨hl, ?_⟩
  have hz : (s.heap.push { cls := .type "tuple_iterator", data := .fields #[.ref l, .int 0 0] }).objs.size = s.heap.objs.size + 1 := Heap.size_push ..
  show _ ∧ _
  rw [hz]
  have he : IsEnum ((s.heap.push { cls := .type "tuple_iterator", data := .fields #[.ref l, .int 0 0] }).push
      { cls := .type "enumerate", data := .fields #[.none, .bool false, .ref s.heap.objs.size, rawInt 0, .none, .none] }) (s.heap.objs.size + 1) s.heap.objs.size 0 .none := by
    have := Heap.get?_push_size (s.heap.push { cls := .type "tuple_iterator", data := .fields #[.ref l, .int 0 0] })
      (o := { cls := .type "enumerate", data := .fields #[.none, .bool false, .ref s.heap.objs.size, rawInt 0, .none, .none] }) rfl
    rw [hz] at this; exact this
  refine ⟨⟨_, he, rfl⟩, h _ he ⟨_, Heap.get?_push_of_some _ (Heap.get?_push_size _ rfl), rfl, rfl⟩ (by rw [Heap.size_push, hz]) fun b o x => Heap.get?_push_of_some _ (Heap.get?_push_of_some _ x)⟩
end
end Mine


/- XP -/
namespace Mine
set_option maxRecDepth 100000
variable {g : Gx} {ℓ : Nat} {fi : FI} {X : List Addr} {h₀ : Heap} {O : List (Str × Addr)} {env : Env} {σ : St} {s : Shared} {ρ : AEnv} {H : Heap} {Dd : Addr} {ds : List D}

inductive ItO (h : Heap) (I : Addr) : Prop where
  | mk (o : Obj) (T : String) (vs : Array Value) (e : h.get? I = some o) (r : o.cls = .type T ∧ o.data = .fields vs ∧ T ≠ "range" ∧ T ≠ "code")
theorem ItO.noSeq {h : Heap} {I : Addr} (x : ItO h I) {Y : List Addr} {o : Obj} (e : h.get? I = some o) (q : SeqO Y I o) : False := by
  obtain ⟨o', T, vs, e', c, d, n1, n2⟩ := x
  rw [e] at e'; cases e'
  rcases q with ⟨xs, n, q, _⟩ | ⟨vs', q, z⟩
  · rw [d] at q; cases q
  · rw [c] at z; exact n1 (by simpa using z)
theorem ItO.noNs {h : Heap} {I : Addr} (x : ItO h I) {m : Str → Option Value} (hn : h.Ns I m) : False := by
  obtain ⟨o', T, vs, e', c, d, n1, n2⟩ := x
  obtain ⟨o, es, ep, e, q, _⟩ := hn
  rw [e] at e'; cases e'; rw [d] at q; cases q
theorem ItO.noCell {h : Heap} {I : Addr} (x : ItO h I) {v : Option Value} (hn : h.IsCell I v) : False := by
  obtain ⟨o', T, vs, e', c, d, n1, n2⟩ := x
  obtain ⟨o, e, q⟩ := hn
  rw [e] at e'; cases e'; rw [d] at q; cases q
theorem ItO.noList {h : Heap} {I : Addr} (x : ItO h I) {xs : Array Value} (hn : h.IsList I xs) : False := by
  obtain ⟨o', T, vs, e', c, d, n1, n2⟩ := x
  obtain ⟨o, e, _, n, q⟩ := hn
  rw [e] at e'; cases e'; rw [d] at q; cases q
theorem ItO.noTab {h : Heap} {I : Addr} (x : ItO h I) (t : TabsOK g h) : I ∉ g.Tb := by
  obtain ⟨o', T, vs, e', c, d, n1, n2⟩ := x
  exact tab_cls t e' (by rw [c]; nofun)
theorem ItO.noCode {h : Heap} {I : Addr} (x : ItO h I) : NoCode h I := by
  rintro o e ⟨z, _⟩
  obtain ⟨o', T, vs, e', c, d, n1, n2⟩ := x
  rw [e] at e'; cases e'; rw [c] at z; exact n2 (by simpa using z)
theorem own_noIt (F : FrX g X h₀ O fi env σ s) {a : Addr} (i : ItO s.heap a) : ¬ OwnA fi env a := by
  rintro (z | ⟨y, hy, hc⟩)
  · obtain ⟨m, hm⟩ := F.lns
    exact i.noNs (z ▸ hm)
  · obtain ⟨_, c, w, hc', hw, _⟩ := F.cells y hy
    rw [hc] at hc'; cases hc'
    exact i.noCell hw

theorem VarAt.pokeS {h h' : Heap} {P : List Addr} (hio : ∀ a ∈ P, ItO h a) (hs : ∀ b o, b ∉ P → h.get? b = some o → h'.get? b = some o) {x : Str} {v : Value} (q : VarAt h env x v) : VarAt h' env x v := by
  rcases q with ⟨hk, m, hn, hm⟩ | ⟨hk, c, hc, hv⟩
  · exact .inl ⟨hk, m, hn.at' fun o e => hs _ _ (fun z => (hio _ z).noNs hn) e, hm⟩
  · refine .inr ⟨hk, c, hc, ?_⟩
    obtain ⟨o, e, d⟩ := id hv
    exact ⟨o, hs _ _ (fun z => (hio _ z).noCell hv) e, d⟩

theorem inv_pokeS {s : Shared} (i : Inv g s) {P : List Addr} {h' : Heap} {tk : Nat} (hs : ∀ b o, b ∉ P → s.heap.get? b = some o → h'.get? b = some o) (hio : ∀ a ∈ P, ItO s.heap a) (h2 : ∀ a ∈ P, g.b.get? a = none) : Inv g { s with heap := h', toks := tk } := by
  have tt := i.tabs
  obtain ⟨⟨h, t, e⟩, st, tb⟩ := i
  refine ⟨⟨h', tk, by rw [e]⟩, fun b o q => hs b o (fun z => by rw [h2 _ z] at q; cases q) (st b o q), fun q hq => ?_⟩
  obtain ⟨ps, e1, e2, e3⟩ := tb q hq
  refine ⟨ps, hs q.2 _ (fun z => (hio _ z).noTab tt (List.mem_map.mpr ⟨q, hq, rfl⟩)) e1, e2, fun pos c' hc => ?_⟩
  obtain ⟨cc, qn, rfl, ⟨o1, vs1, t1, z2, z3, z4, z5⟩, hn⟩ := e3 pos c' hc
  exact ⟨cc, qn, rfl, ⟨o1, vs1, t1, hs _ _ (fun z => (hio _ z).noCode o1 z2 ⟨z3, _, z4⟩) z2, z3, z4, z5⟩, hn⟩

theorem FrX.pokeS (F : FrX g X h₀ O fi env σ s) {P : List Addr} (hio : ∀ a ∈ P, ItO s.heap a) (hn : ∀ a ∈ P, h₀.get? a = none) (hX : ∀ a ∈ P, a ∉ X) {h' : Heap} {tk : Nat} (hs : ∀ b o, b ∉ P → s.heap.get? b = some o → h'.get? b = some o) : FrX g X h₀ O fi env σ { s with heap := h', toks := tk } := by
  have t := F.inv.tabs
  have kr : ∀ Y, KeepR Y s.heap h' := fun Y b o e q => hs b o (fun z => (hio _ z).noSeq e q) e
  have nb : ∀ a ∈ P, g.b.get? a = none := fun a ha => by
    cases e : g.b.get? a with
    | none => rfl
    | some o => obtain ⟨o', e'⟩ := F.bin _ _ e; rw [hn a ha] at e'; cases e'
  refine ⟨inv_pokeS F.inv hs hio nb, F.bin, F.eok, fun b hb => ?_, fun b o h1 e => ?_, F.lnew, ?_, fun x hx => ?_, F.inj, fun x hx => ?_, F.names, F.nodup, fun x b hp => ?_, fun x d h hx => ?_⟩
  · obtain ⟨⟨o, e, qq⟩, n⟩ := F.xok b hb
    exact ⟨⟨o, hs b o (fun z => hX _ z hb) e, qq⟩, n⟩
  · exact hs b o (fun z => by rw [hn _ z] at e; cases e) (F.keep b o h1 e)
  · obtain ⟨m, hm⟩ := F.lns
    exact ⟨m, hm.at' fun o e => hs _ _ (fun z => (hio _ z).noNs hm) e⟩
  · obtain ⟨hk, c, v, hc, hv, hn'⟩ := F.cells x hx
    obtain ⟨o, e, d⟩ := id hv
    exact ⟨hk, c, v, hc, ⟨o, hs _ _ (fun z => (hio _ z).noCell hv) e, d⟩, hn'⟩
  · obtain ⟨c, v, hc, hv⟩ := F.cel x hx
    obtain ⟨o, e, d⟩ := id hv
    exact ⟨c, v, hc, o, hs _ _ (fun z => (hio _ z).noCell hv) e, d⟩
  · obtain ⟨h1, h2, h3, vs, ds, h4, h5, h6, h7⟩ := F.own x b hp
    refine ⟨h1, h2, h3.pokeS hio hs, vs, ds, h4, ?_, h6, h7.keepR (kr _)⟩
    obtain ⟨o, n, e, r⟩ := id h5
    exact ⟨o, n, hs _ _ (fun z => (hio _ z).noList h5.isList) e, r⟩
  · obtain ⟨v, hv, hr⟩ := F.rest x d h hx
    exact ⟨v, hv.pokeS hio hs, hr.keepR (kr _)⟩

theorem KeepX.keepRS (F : FrX g X h₀ O fi env σ s) {P : List Addr} (iI : ∀ a ∈ P, ItO s.heap a) {Y : List Addr} (hY : ∀ a ∈ O.map (·.2), a ∈ Y) {h' : Heap} (k : ∀ a o, a ∉ g.Tb → ¬ OwnA fi env a → a ∉ O.map (·.2) → a ∉ P → s.heap.get? a = some o → h'.get? a = some o) : KeepR Y s.heap h' := fun a o e q => by
  refine k a o (tab_noSeq F.inv.tabs e q) (own_noSeq F e q) (fun w => ?_) (fun z => (iI _ z).noSeq e q) e
  obtain ⟨⟨y, b⟩, hp, e'⟩ := List.mem_map.mp w
  obtain ⟨_, _, _, vs, ds, _, ⟨o1, n1, e1, c1, dn, d1⟩, _⟩ := F.own y b hp
  cases e'
  rw [e] at e1; cases e1
  rcases q with ⟨xs, n, q, z⟩ | ⟨vs, q, _⟩
  · exact z c1 (hY _ w)
  · rw [d1] at q; cases q

theorem IsEnum.itO {h : Heap} {e it : Addr} {i : Int} {old : Value} (x : IsEnum h e it i old) : ItO h e := ⟨_, _, _, x, rfl, rfl, by decide, by decide⟩
theorem IsTupleIter.itO {h : Heap} {it l : Addr} {i : Nat} (x : h.IsTupleIter it l i) : ItO h it := let ⟨o, a, b, c⟩ := x; ⟨o, _, _, a, b, c, by decide, by decide⟩

inductive EnS (h : Heap) (e it l : Addr) (vs : Array Value) (i : Nat) : Prop where
  | mk (old : Value) (a : IsEnum h e it ((i : Nat) : Int) old) (b : h.IsTupleIter it l i) (c : h.IsTuple l vs)
theorem Ex1.loopE (hg : GOk g) {xi xv : Str} {kt : Nat} {q1 q2 q3 q4 q5 pos : Pos} {te : Expr} {body orelse : List Stmt} {items : List D} {Q : St → Fl → Prop} (J : Nat → St → Prop) (hk : fi.sc.names.lookup ("enumerate" : Str) = some .globalImplicit) (hv : GlobV g "enumerate" (.type "enumerate")) (h : Ev g ℓ fi σ.fz te (.tup items)) (h0 : J 0 σ)
    (hstep : ∀ i σ', J i σ' → ∀ d, items[i]? = some d → okStore fi σ' xi ∧ okStore fi σ' xv ∧ Ex g ℓ fi ((σ'.put xi (.int (i : Int))).put xv d) body fun σ'' fl => match fl with
      | .next => J (i + 1) σ''
      | .cont => J (i + 1) σ''
      | .brk => Q σ'' .next
      | .ret d => Q σ'' (.ret d))
    (hend : ∀ σ', J items.length σ' → Ex g ℓ fi σ' orelse Q) (hst : ∀ env, starEach [te] env = [(false, eval te env)] := by intro _; rfl) :
    Ex1 g ℓ fi σ (.For (.Tuple [.Name xi q1, .Name xv q2] kt q3) (.Call (.Name "enumerate" q4) [te] [] q5) body orelse pos) Q := by
  intro A X h₀ O env s hA F
  refine wpAny_For ?_ (fun _ => rfl)
  refine wpAny_Call_NameR (evalGlob hg F.inv F.eok hk hv (by decide) ?_)
  have hev : Evs g ℓ fi σ.fz [te] [.tup items] := Evs.cons h Evs.nil hst
  have hany : (backTo q5 (starEach [te] env)).any (·.1) = false := by rw [hst]; rfl
  have hshape : backTo q5 (starEach [te] env) = (false, eval te env) :: backTo q5 (starEach [] env) := by rw [hst]; rfl
  refine PySem.callWith_type hany ?_
  have := hev A _ env s q5 hA F.inv F.eok F.xok' F.strict
  rw [hshape] at this ⊢
  refine Calls.evalArgs_plain (wpQ this fun vs0 s₁ ⟨i1, k1, r1⟩ => ?_)
  obtain ⟨v, rfl, r1v⟩ := r1.one
  have F₁ := F.step i1 k1
  cases r1v with
  | @tup l vs _ hl hrs =>
  refine call_enumerate_tuple hl fun h₂ he₂ hit₂ hsz₂ k2 => ?_
  obtain ⟨e, hE'⟩ : ∃ x, s₁.heap.objs.size + 1 = x := ⟨_, rfl⟩
  rw [hE'] at he₂ ⊢
  obtain ⟨it, hI'⟩ : ∃ x, s₁.heap.objs.size = x := ⟨_, rfl⟩
  rw [hI'] at he₂ hit₂
  have hen : s₁.heap.get? e = none := by
    cases z : s₁.heap.get? e with
    | none => rfl
    | some o => exact absurd (Heap.lt_size z) (by rw [← hE']; exact Nat.not_lt.mpr (Nat.le_succ _))
  have hin : s₁.heap.get? it = none := by rw [← hI']; exact fresh_none _
  have hei : e ≠ it := by rw [← hE', ← hI']; exact Nat.succ_ne_self _
  obtain ⟨s₂, hs₂'⟩ : ∃ x, ({ s₁ with heap := h₂ } : Shared) = x := ⟨_, rfl⟩
  rw [hs₂']
  have hh₂ : s₂.heap = h₂ := by rw [← hs₂']
  have i2 : Inv g s₂ := by rw [← hs₂']; exact i1.of_keeps (tk := s₁.toks) k2
  have k2' : Keep g s₁.heap s₂.heap := by rw [hh₂]; exact Keep.of k2
  have F₂ := F₁.step i2 k2'
  have k12 : Keep g s.heap s₂.heap := k1.trans k2'
  refine wpAny_pyIter_enum (by rw [hh₂]; exact he₂) ?_
  rw [← hh₂] at he₂ hit₂
  have hl₂ : s₂.heap.IsTuple l vs.toArray := by rw [hh₂]; obtain ⟨o, a, b⟩ := hl; exact ⟨o, k2 _ _ a, b⟩
  have hrs₂ : Reps (X ++ O.map (·.2)) s₂.heap vs items := hrs.keep i1.tabs k2'
  have hle : l ≠ e := fun z => by obtain ⟨o, a, _⟩ := hl; rw [z, hen] at a; cases a
  have hli : l ≠ it := fun z => by obtain ⟨o, a, _⟩ := hl; rw [z, hin] at a; cases a
  -- the two iterators
  have io : ∀ {h : Heap} {i : Int} {j : Nat} {old : Value}, IsEnum h e it i old → h.IsTupleIter it l j → ∀ a ∈ [e, it], ItO h a := fun {h i j old} a b c hc => by
    rcases List.mem_cons.mp hc with rfl | hc
    · exact IsEnum.itO a
    · rw [List.mem_singleton.mp hc]; exact IsTupleIter.itO b
  have io₂ := io he₂ hit₂
  have none1 : ∀ a ∈ [e, it], s₁.heap.get? a = none := fun c hc => by
    rcases List.mem_cons.mp hc with rfl | hc
    · exact hen
    · rw [List.mem_singleton.mp hc]; exact hin
  have none0 : ∀ a ∈ [e, it], s.heap.get? a = none := fun c hc => by
    cases z : s.heap.get? c with
    | none => rfl
    | some o => obtain ⟨o', z'⟩ := Alive.of_keep i1.tabs k1 _ _ z; rw [none1 c hc] at z'; cases z'
  have noTb : ∀ a ∈ [e, it], a ∉ g.Tb := fun a ha => (io₂ a ha).noTab i2.tabs
  have noOw : ∀ a ∈ [e, it], ¬ OwnA fi env a := fun a ha => own_noIt F₂ (io₂ a ha)
  have noh : ∀ a ∈ [e, it], h₀.get? a = none := fun a ha => by
    cases z : h₀.get? a with
    | none => rfl
    | some o => have := F.keep _ _ (noTb a ha) z; rw [none0 a ha] at this; cases this
  have noX : ∀ a ∈ [e, it], a ∉ X := fun a ha => F.xok.fresh (none0 a ha)
  have noO : ∀ a ∈ [e, it], a ∉ O.map (·.2) := fun a ha w => by obtain ⟨o, z⟩ := O_alive F w; rw [none0 a ha] at z; cases z
  have me : e ∈ [e, it] := List.mem_cons_self ..
  have mi : it ∈ [e, it] := List.mem_cons_of_mem _ (List.mem_singleton.mpr rfl)
  -- the tuple
  have lseq : ∃ o, s₂.heap.get? l = some o ∧ SeqO [] l o := by obtain ⟨o, a, b, n, c⟩ := hl₂; exact ⟨o, a, .inl ⟨_, _, c, fun _ h => nomatch h⟩⟩
  have lT : l ∉ g.Tb := by obtain ⟨o, a, b⟩ := lseq; exact tab_noSeq i2.tabs a b
  have lOw : ¬ OwnA fi env l := by obtain ⟨o, a, b⟩ := lseq; exact own_noSeq F₂ a b
  have lO : l ∉ O.map (·.2) := fun w => by
    obtain ⟨⟨y, b⟩, hp, e'⟩ := List.mem_map.mp w
    obtain ⟨_, _, _, vs, ds, _, ⟨o1, n1, e1, c1, _⟩, _⟩ := F₂.own y b hp
    obtain ⟨o2, e2, c2, _⟩ := hl₂
    cases e'
    rw [e1] at e2; cases e2; rw [c1] at c2; simp at c2
  refine codeAny_mono (R := fun r s' => match r with | .ok f => ExP g X h₀ O fi env s Q f s' | .error _ => False) ?_ (fun r s' hr => by cases r with | ok f => exact hr | error e => exact hr.elim)
  refine forLoop' (LpI g X h₀ O fi env (· ∉ [e, it]) s₂ items.length J fun i h => EnS h e it l vs.toArray i) ?_ (items.length + 1)
    ⟨0, σ, O, Nat.zero_le _, rfl, F₂, h0, ⟨.none, he₂, hit₂, hl₂⟩, (fun _ _ _ _ _ _ e => e), .refl _, Onew.refl⟩
  rintro n s' ⟨i, σ', O', hi, rfl, F', hJ, ⟨old, he', hit', hl'⟩, K', AL', ON'⟩
  have io' := io he' hit'
  have nO' : ∀ a, (∃ o, s₂.heap.get? a = some o) → a ∉ O.map (·.2) → a ∉ O'.map (·.2) := fun a ⟨o, e⟩ hno w => by
    obtain ⟨p, hp, rfl⟩ := List.mem_map.mp w
    rcases ON' p hp with q | q
    · exact hno q
    · rw [e] at q; cases q
  have k0 := Alive.of_keep i2.tabs k12
  have nP : ∀ {a : Addr} {o : Obj}, s.heap.get? a = some o → a ∉ [e, it] := fun {a o} z w => by rw [none0 a w] at z; cases z
  by_cases hlt : i < items.length
  · have hvl : i < vs.length := by rw [hrs.length]; exact hlt
    have hx : vs.toArray[i]? = some vs[i] := by simp [hvl]
    obtain ⟨d, hd, hr⟩ := hrs₂.get i (v := vs[i]) (List.getElem?_eq_getElem hvl)
    refine pyNext_enumT_item he' hit' hl' hx hei fun h₁ heo hit₁ hT₁ hsz₁ kk₁ => ?_
    refine wpAny_letOwnedTupleGo_enum heo fun h₃ he₃ hs₃ => ?_
    replace hs₃ : Heap.SameBut e h₁ h₃ := hs₃
    have kk₁' : ∀ b o, b ∉ [e, it] → s'.heap.get? b = some o → h₃.get? b = some o := fun b o hb z =>
      (hs₃.2 b fun w => hb (by rw [w]; exact me)).trans (kk₁ b o (fun w => hb (by rw [w]; exact me)) (fun w => hb (by rw [w]; exact mi)) z)
    have F₃ : FrX g X h₀ O' fi env σ' { s' with heap := h₃, toks := s'.toks + 1 } := F'.pokeS io' noh noX kk₁'
    have hTe : s'.heap.objs.size ≠ e := Nat.ne_of_gt (Heap.lt_size he')
    have hT₃ : h₃.IsTuple s'.heap.objs.size #[.int i s'.toks, vs[i]] := ⟨_, (hs₃.2 _ hTe).trans hT₁, rfl, _, rfl⟩
    have hit₃ : h₃.IsTupleIter it l (i + 1) := hit₁.extBut hs₃.extBut (Ne.symm hei)
    have hl₃ : h₃.IsTuple l vs.toArray := by obtain ⟨o, a, b⟩ := hl'; exact ⟨o, kk₁' l o (by simp [hle, hli]) a, b⟩
    have hr3 : Rep (X ++ O'.map (·.2)) h₃ vs[i] d := (((hr.carry ON').keepR (KeepX.keepRS F₂ io₂ (fun a ha => List.mem_append_left _ (List.mem_append_right _ ha)) K')).keepR fun b o e q => kk₁' b o (fun z => (io' _ z).noSeq e q) e).drop
    have hrT : Rep (X ++ O'.map (·.2)) h₃ (.ref s'.heap.objs.size) (.tup [.int (i : Int), d]) := .tup (vs := [_, _]) hT₃ (.cons .int (.cons hr3 .nil))
    obtain ⟨ho1, ho2, hbody⟩ := hstep i σ' hJ d hd
    have hasg : AsgOK g ℓ fi (.Tuple [.Name xi q1, .Name xv q2] kt q3) σ' (.tup [.int (i : Int), d]) ((σ'.put xi (.int (i : Int))).put xv d) :=
      AsgOK.tup (xs := [xi, xv]) (ds := [.int (i : Int), d]) rfl rfl (by simp [ho1, ho2]) (.inr rfl)
    refine wpQ (hasg A X h₀ O' env _ _ hA F₃ hrT) fun _ s₄ ⟨F₄, k4, al4⟩ => ?_
    have hIe : ∀ a ∈ [e, it], ∃ o, s₂.heap.get? a = some o := fun a ha => let ⟨o, T, vs, e, _⟩ := io₂ a ha; ⟨o, e⟩
    have st4 : ∀ {h'' : Heap}, KeepX g fi env O' h₃ h'' → EnS h'' e it l vs.toArray (i + 1) := fun {h''} kk => by
      refine ⟨vs[i], ?_, ?_, ?_⟩
      · have : ((i + 1 : Nat) : Int) = (i : Int) + 1 := by push_cast; rfl
        rw [this]; exact kk e _ (noTb _ me) (noOw _ me) (nO' _ (hIe _ me) (noO _ me)) he₃
      · exact hit₃.at fun o z => kk it o (noTb _ mi) (noOw _ mi) (nO' _ (hIe _ mi) (noO _ mi)) z
      · obtain ⟨o, a, b⟩ := hl₃
        exact ⟨o, kk l o lT lOw (nO' _ (let ⟨o, a, _⟩ := hl₂; ⟨o, a⟩) lO) a, b⟩
    have K4 : ∀ {h'' : Heap}, KeepX g fi env O' h₃ h'' → ∀ a o, a ∉ g.Tb → ¬ OwnA fi env a → a ∉ O.map (·.2) → a ∉ [e, it] → s₂.heap.get? a = some o → h''.get? a = some o := fun {h''} kk a o h1 h2 h3 z e =>
      kk a o h1 h2 (nO' _ ⟨o, e⟩ h3) (kk₁' a o z (K' a o h1 h2 h3 z e))
    have alI : Alive s'.heap h₃ := fun a o z => by
      by_cases w : a ∈ [e, it]
      · rcases List.mem_cons.mp w with rfl | w
        · exact ⟨_, he₃⟩
        · rw [List.mem_singleton.mp w]; obtain ⟨o, a, _⟩ := hit₃; exact ⟨o, a⟩
      · exact ⟨o, kk₁' a o w z⟩
    have toK : ∀ {h'' : Heap}, KeepN g fi env O (· ∉ [e, it]) s₂.heap h'' → KeepX g fi env O s.heap h'' := fun {h''} kk a o h1 h2 h3 z =>
      kk a o h1 h2 h3 (nP z) (k12 a o h1 z)
    refine wpQ (hbody A X h₀ O' env s₄ hA F₄) ?_
    rintro f s₅ ⟨σ₅, O₅, fl, F₅, k5, al5, on5, hf, hQ⟩
    have kk5 : KeepX g fi env O' h₃ s₅.heap := k4.trans k5 Onew.refl
    have AL5 : Alive s₂.heap s₅.heap := AL'.trans (alI.trans (al4.trans al5))
    have ON5 := on_trans (AL'.trans (alI.trans al4)) ON' on5
    exact flow_go (J := J (i + 1) σ₅) (Q := Q σ₅) (fun hJ5 => ⟨items.length + 1 - (i + 1), by lia, i + 1, σ₅, O₅, hlt, rfl, F₅, hJ5, st4 kk5, K4 kk5, AL5, ON5⟩) (R := fun f' => ExP g X h₀ O fi env s Q f' s₅) (fun f' fl' hf' hq' => ⟨σ₅, O₅, fl', F₅, toK (K4 kk5), k0.trans AL5, on_trans k0 Onew.refl ON5, hf', hq'⟩) hQ hf
  · have hin' : i = items.length := by lia
    subst hin'
    refine pyNext_enumT_end hA.handled he' hit' hl' (by simp [hrs.length]) fun h₁ ex₁ => ?_
    have kk₁' : ∀ b o, b ∉ [e, it] → s'.heap.get? b = some o → h₁.get? b = some o := fun b o hb z => ex₁ b o (fun w => hb (by rw [w]; exact mi)) z
    have F₃ : FrX g X h₀ O' fi env σ' { s' with heap := h₁, toks := s'.toks } := F'.pokeS io' noh noX kk₁'
    refine wpQ (hend σ' hJ A X h₀ O' env _ hA F₃) ?_
    rintro f s₅ ⟨σ₅, O₅, fl, F₅, k5, al5, on5, hf, hQ⟩
    have al1 : Alive s.heap h₁ := fun a o z => let ⟨o', e'⟩ := (k0.trans AL') a o z; ⟨o', kk₁' a o' (nP z) e'⟩
    refine ⟨σ₅, O₅, fl, F₅, fun a o h1 h2 h3 z => ?_, al1.trans al5, on_trans al1 (on_trans k0 Onew.refl ON') on5, hf, hQ⟩
    have e2 := k12 a o h1 z
    exact k5 a o h1 h2 (nO' _ ⟨o, e2⟩ h3) (kk₁' a o (nP z) (K' a o h1 h2 h3 (nP z) e2))
end Mine


/- HA -/
namespace Mine
abbrev headG (prog : Program) (w : World) (K : Frag) (s₁ : Shared) (mg mb : Str → Option Value) (tabs : List (Addr × Addr)) : Gx :=
  { prog, w, K, b := ghostOf s₁.heap tabs, s0 := s₁, mg, mb, tabs }

theorem codeAll_get {h : Heap} : ∀ {tabs : List (Addr × Addr)}, CodeAll tabs h → ∀ q ∈ tabs, CodeHd h q.1 q.2
  | _ :: _, k, _, .head _ => k.1
  | _ :: _, k, q, .tail _ hq => codeAll_get k.2 q hq
theorem intsReps {X : List Addr} {h : Heap} : ∀ {vs : List Value} {ns : List Int}, IntsAre vs ns → Reps X h vs (ns.map .int)
  | _, _, .nil => .nil
  | _, _, .cons n t r => .cons .int (intsReps r)
section
variable {prog : Program} {w : World} {K : Frag} {s₁ : Shared} {mg mb : Str → Option Value} {tabs : List (Addr × Addr)} {p : Program} {loose : List Str} {mean : ExcName → Option Value}
theorem headGOk (T : Top p loose mean mg mb s₁.heap) (KX : K.In s₁.heap) (hT : TabsAt tabs s₁.heap) (hK : noTabs K = true) : GOk (headG prog w K s₁ mg mb tabs) where
  kin := ghost_K hT KX hK
  nolimit := let ⟨mc, a, r⟩ := T.nolimit; ⟨mc, ghost_ns hT a, r⟩
  globals := ghost_ns hT T.g
  builtins := ghost_ns hT T.b
  mbIs := T.builtins
  codes := fun q hq => codeAll_get (ghost_code hT) q hq
  notab := fun t ht => hideAll_none _ ht
  bmain := let ⟨bm, ob, a1, a2, a3, a4, r⟩ := T.bmain; ⟨bm, ob, a1, a2, ghost_get hT a3 (fun q => by rw [q] at a4; cases a4), a4, r⟩
theorem headInv (hT : TabsAt tabs s₁.heap) : Inv (headG prog w K s₁ mg mb tabs) s₁ where
  same := ⟨s₁.heap, s₁.toks, rfl⟩
  stays := fun a o e => of_hideAll _ e
  tabs := fun q hq => ⟨#[], (hT q hq).2, by trivial, fun pos c' e => by cases e⟩
theorem callerOk : AOk 20 callerA := ⟨rfl, by decide, by decide⟩

theorem law_end {cw : ClaimW} {cl : Str → Option Addr} {args : List WData} {fa a : Addr} {vs : List Value} {ns : List Int} {P : Params} {pn : List Str} {pm : ExcName → Option Value} (T : Top p pn pm mg mb s₁.heap) (KX : K.In s₁.heap) (hK : noTabs K = true) (hmg : mg "law" = some (.ref fa)) (hT : TabsAt tabs s₁.heap) (hgens : s₁.gens = #[])
    (hw : Well P s₁.heap (.ref a) (ofPy (PyData.list (ns.map PyData.int)))) (hL : s₁.heap.IsList a vs.toArray) (hI : IntsAre vs ns) (hn : ns.length ≤ 63)
    (hr : ∀ a x, cw.raises a x = false) (hp : cw.post args (.bool true) args = true)
    (hc : ∀ g : Gx, GOk g → g.K = K → g.tabs = tabs → g.mg "law" = some (.ref fa) → CallOK g 20 (.ref fa) [.list (ns.map .int)] (.bool true)) :
    wpAny (model prog w) callerA (PySem.call (.ref fa) [.ref a] []) (fun v s' => GoodWG cw cl mean args s₁ (.ok (.ret v)) s') (fun e s' => GoodWG cw cl mean args s₁ (.error e) s') s₁ := by
  have hPL : PL s₁.heap a vs.toArray := by
    obtain ⟨o, e, c, n, d⟩ := hL
    cases hw with
    | list e' _ => rw [e] at e'; cases e'; exact ⟨_, _, e, rfl, ⟨rfl, rfl⟩, d⟩
  have hR : Rep [] s₁.heap (.ref a) (.list (ns.map .int)) := by
    refine .list (fun h => nomatch h) hPL (by rw [hI.length]; have : (63 : Nat) ≤ sizeLine := by decide
                                              lia) ?_
    exact intsReps hI
  refine wpAny_mono (wpE ((hc (headG prog w K s₁ mg mb tabs) (headGOk T KX hT hK) rfl rfl hmg) callerA [] s₁ [.ref a] callerOk (headInv hT) (fun _ h => nomatch h) (.cons hR .nil))) ?_ (fun _ _ h => h)
  rintro v s' ⟨i, k, r⟩
  cases r
  obtain ⟨h', tk, rfl⟩ := i.same
  have keep : ∀ b o, b ∉ tabs.map (·.2) → s₁.heap.get? b = some o → h'.get? b = some o := fun b o hb e => k b o hb e
  have grown : ∀ b o, b ∈ tabs.map (·.2) → s₁.heap.get? b = some o → isCodeTable s₁.heap b ∧ o = tabObj #[] ∧ ∃ ps, h'.get? b = some (tabObj ps) := fun b o hb e => by
    obtain ⟨q, hq, rfl⟩ := List.mem_map.mp hb
    have e2 := (hT q hq).2
    rw [e] at e2
    obtain ⟨ps, hps, _⟩ := i.tabs q hq
    exact ⟨((hT q hq).1.tab (hT q hq).2).isCodeTable, Option.some.inj e2, ps, hps⟩
  refine ⟨.inl ⟨_, .bool true, [], rfl, fun _ => hr _ _, .bool .., hp, fun _ => ⟨List.nodup_nil, fun _ h => nomatch h⟩⟩, ⟨fun b o e => ?_, fun b o e => ?_⟩, rfl, .of_eq hgens⟩
  · by_cases hb : b ∈ tabs.map (·.2)
    · obtain ⟨ht, rfl, ps, hP⟩ := grown b o hb e
      exact .inr (.inl ⟨ht, rfl, #[], ps, rfl, by rw [Array.empty_append]; exact hP⟩)
    · exact .inl (keep b o hb e)
  · by_cases hb : b ∈ tabs.map (·.2)
    · obtain ⟨_, _, ps, hP⟩ := grown b o hb e
      exact ⟨_, hP⟩
    · exact ⟨o, keep b o hb e⟩
end
end Mine


/- LA -/
namespace Mine
variable {g : Gx} {ℓ : Nat} {fi : FI} {σ : St} {ρ : AEnv}

def scFit (sc : Scope) (xs : List Str) : Bool :=
  sc.kind == .function && (sc.isGenerator == false && (sc.isCoroutine == false && (decide (sc.names.map (·.1)).Nodup && (decide xs.Nodup && (xs.all (fun x => sc.names.lookup x == some .local || sc.names.lookup x == some .cell) && sc.names.all fun p => p.2 != .free)))))
theorem mkDef {K : Frag} {a : Addr} {xs : List Str} {body : List Stmt} {sc : Scope} {cd oc df kd dc pm ct : Value} {nm qn : Str} {pr : Arguments} {an od : Option Addr} {osl : Array (Option Value)} (hK : g.K = K) (e : K.lookup a = some ⟨oc, od, .func ⟨nm, qn, pr, .stmts body, sc, mainGlobals, [], df, kd, dc, pm, an, cd, ct, builtinsNs⟩, osl⟩) (h4 : codeIn K cd qn = true)
    (hbind : ∀ (s : Shared) (vs : List Value), K.In g.b → g.b.StaysIn s.heap → vs.length = xs.length → BindsTo s ⟨nm, qn, pr, .stmts body, sc, mainGlobals, [], df, kd, dc, pm, an, cd, ct, builtinsNs⟩ ⟨vs, []⟩ (xs.zip vs)) (hg : GOk g) (h : scFit sc xs = true) : DefAt g a xs body sc cd := by
  simp only [scFit, Bool.and_eq_true, beq_iff_eq, decide_eq_true_eq, List.all_eq_true, Bool.or_eq_true, bne_iff_ne] at h
  obtain ⟨a1, a2, a3, a4, a5, a6, a7⟩ := h
  subst hK
  exact ⟨⟨oc, od, osl, _, e, rfl, rfl, rfl, rfl, rfl, rfl, h4, fun s vs => hbind s vs hg.kin⟩, a1, a2, a3, a4, a5, a6, a7⟩
theorem bind1 {fd : FuncData} {x : Str} (h : ∀ v, bindArgs fd ⟨[v], []⟩ = pure ([x].zip [v])) {K : Frag} {b : Heap} (s : Shared) (vs : List Value) (_ : K.In b) (_ : b.StaysIn s.heap) (hl : vs.length = [x].length) : BindsTo s fd ⟨vs, []⟩ ([x].zip vs) := by
  match vs, hl with
  | [v], _ => exact BindsTo.of_eq (h v)
theorem bind2 {fd : FuncData} {x y : Str} (h : ∀ v u, bindArgs fd ⟨[v, u], []⟩ = pure ([x, y].zip [v, u])) {K : Frag} {b : Heap} (s : Shared) (vs : List Value) (_ : K.In b) (_ : b.StaysIn s.heap) (hl : vs.length = [x, y].length) : BindsTo s fd ⟨vs, []⟩ ([x, y].zip vs) := by
  match vs, hl with
  | [v, u], _ => exact BindsTo.of_eq (h v u)
theorem bindF2 {params : Arguments} {x y : Str} (h : ∀ (fd : FuncData) (v u : Value), bindArgs { fd with params := params, defaults := .none, kwdefaults := .none } ⟨[v, u], []⟩ = pure ([x, y].zip [v, u])) (fd : FuncData) (vs : List Value) (h1 : fd.params = params) (h2 : fd.defaults = .none) (h3 : fd.kwdefaults = .none) (hl : vs.length = [x, y].length) : bindArgs fd ⟨vs, []⟩ = pure ([x, y].zip vs) := by
  have e : fd = { fd with params := params, defaults := .none, kwdefaults := .none } := by cases fd; cases h1; cases h2; cases h3; rfl
  match vs, hl with
  | [v, u], _ => rw [e]; exact h fd v u
theorem nm2 {Q : Str → Prop} {x y : Str} (hx : Q x) (hy : Q y) : ∀ z ∈ [x, y], Q z := fun z hz => by
  rcases List.mem_cons.mp hz with rfl | hz
  · exact hx
  · rw [List.mem_singleton.mp hz]; exact hy
theorem bind3d {fd : FuncData} {x y z : Str} {T : Addr} {o : Obj} {items : Array Value} {n : Nat} {K : Frag} {k : Value → Value → Value → Option (Array Value) → Sem (List (Str × Value))} (hd : fd.defaults = .ref T) (ho : K.lookup T = some o) (hs : o.data = .seq items n)
    (h₁ : ∀ v u t, bindArgs fd ⟨[v, u, t], []⟩ = seqItems? fd.defaults >>= k v u t) (h₂ : ∀ v u t, k v u t (some items) = pure ([x, y, z].zip [v, u, t])) {b : Heap} (s : Shared) (vs : List Value) (hk : K.In b) (st : b.StaysIn s.heap) (hl : vs.length = [x, y, z].length) : BindsTo s fd ⟨vs, []⟩ ([x, y, z].zip vs) := by
  match vs, hl with
  | [v, u, t], _ => exact binds_K (fun a o e => st a o (hk a o e)) hd ho hs (h₁ v u t) (h₂ v u t)
end Mine


/- LB -/
namespace Mine
variable {g : Gx} {ℓ : Nat} {fi : FI} {σ : St} {ρ : AEnv}

def repKs (f : Value → Option D) : List Value → Option (List D)
  | [] => some []
  | v :: vs => match f v, repKs f vs with
    | some d, some ds => some (d :: ds)
    | _, _ => none
def repK (K : Frag) : Nat → Value → Option D
  | _, .int i _ => some (.int i)
  | _, .str x _ => some (.str x)
  | n + 1, .ref a => match K.lookup a with
    | some ⟨.type T, _, .seq xs _, _⟩ => if T = "tuple" then (repKs (repK K n) xs.toList).map .tup else none
    | _ => none
  | _, _ => none
theorem repKs_ok {f : Value → Option D} {b : Heap} (hf : ∀ v d, f v = some d → Rep [] b v d) : ∀ {vs : List Value} {ds : List D}, repKs f vs = some ds → Reps [] b vs ds
  | [], ds, h => by cases h; exact .nil
  | v :: vs, ds, h => by
    unfold repKs at h
    split at h
    · rename_i d ds' h1 h2; cases h; exact .cons (hf _ _ h1) (repKs_ok hf h2)
    · cases h
theorem repK_ok {K : Frag} {b : Heap} (hk : K.In b) : ∀ (n : Nat) (v : Value) (d : D), repK K n v = some d → Rep [] b v d
  | n, v, d, h => by
    unfold repK at h
    split at h
    · cases h; exact .int
    · cases h; exact .str
    · rename_i n' a
      split at h
      · rename_i T dd xs m sl e
        split at h
        · rename_i hT
          cases e2 : repKs (repK K n') xs.toList with
          | none => rw [e2] at h; cases h
          | some ds =>
            rw [e2] at h; cases h
            refine .tup (vs := xs.toList) ⟨_, hk _ _ e, by rw [hT], m, by simp⟩ (repKs_ok (fun v d => repK_ok hk n' v d) e2)
        · cases h
      · cases h
    · cases h

theorem fz_of {x : Str} {d : D} (h : σ.ρ.lookup x = some d) (hx : σ.ω.contains x = false) : σ.fz.lookup x = some d := by
  unfold St.fz
  have : ∀ l : AEnv, l.lookup x = some d → (l.filter fun p => !σ.ω.contains p.1).lookup x = some d := by
    intro l
    induction l with
    | nil => intro h; cases h
    | cons p r ih =>
      intro h
      rw [List.lookup_cons] at h
      rw [List.filter_cons]
      cases hb : x == p.1 with
      | true =>
        rw [hb] at h
        have := eq_of_beq hb; subst this
        rw [hx]; simp only [Bool.not_false, if_true]; rw [List.lookup_cons, hb]; exact h
      | false =>
        rw [hb] at h
        split
        · rw [List.lookup_cons, hb]; exact ih h
        · exact ih h
  exact this _ h
theorem St.put_ω {x : Str} {d : D} : (σ.put x d).ω = σ.ω := rfl

def fmTab : List (List (Int × Str)) := [[(40960, "l"), (49152, "s"), (32768, "-"), (24576, "b"), (16384, "d"), (8192, "c"), (4096, "p")], [(256, "r")], [(128, "w")], [(2112, "s"), (2048, "S"), (64, "x")], [(32, "r")], [(16, "w")], [(1032, "s"), (1024, "S"), (8, "x")], [(4, "r")], [(2, "w")], [(513, "t"), (512, "T"), (1, "x")]]
def fmRow (t : List (Int × Str)) : List D := t.map fun p => .tup [.int p.1, .str p.2]
def fmD : List D := fmTab.map fun t => .tup (fmRow t)
def fmHit (i : Nat) (m : Int) (b : Int) : Bool := if i = 0 then Builtin.bitAnd m 61440 == b else Builtin.bitAnd m b == b
def fmChar (i : Nat) (m : Int) (t : List (Int × Str)) : Str := match t.find? (fun p => fmHit i m p.1) with | some p => p.2 | none => (if i = 0 then ("?" : Str) else ("-" : Str))
def fmChars (m : Int) : List Str := fmTab.mapIdx fun i t => fmChar i m t
def fmode (m : Int) : Str := Txt.join "" (fmChars m)
theorem fmChar_hit {i : Nat} {m : Int} {t : List (Int × Str)} {j : Nat} {p : Int × Str} (h0 : ∀ q ∈ t.take j, fmHit i m q.1 = false) (hj : t[j]? = some p) (hp : fmHit i m p.1 = true) : fmChar i m t = p.2 := by
  have : t.find? (fun p => fmHit i m p.1) = some p := by
    rw [List.find?_eq_some_iff_getElem]
    obtain ⟨hlt, rfl⟩ := List.getElem?_eq_some_iff.mp hj
    refine ⟨hp, j, hlt, rfl, fun k hk => ?_⟩
    rw [h0 _ (List.mem_take_iff_getElem.mpr ⟨k, by lia, rfl⟩)]; rfl
  unfold fmChar; rw [this]
theorem fmChar_miss {i : Nat} {m : Int} {t : List (Int × Str)} (h0 : ∀ q ∈ t, fmHit i m q.1 = false) : fmChar i m t = (if i = 0 then ("?" : Str) else ("-" : Str)) := by
  have : t.find? (fun p => fmHit i m p.1) = none := by
    rw [List.find?_eq_none]; intro x hx; rw [h0 x hx]; decide
  unfold fmChar; rw [this]
theorem fmChars_len (m : Int) : (fmChars m).length = 10 := by simp [fmChars, fmTab]
theorem fmChars_take {m : Int} {i : Nat} {t : List (Int × Str)} (h : fmTab[i]? = some t) : ((fmChars m).take i).map D.str ++ [.str (fmChar i m t)] = ((fmChars m).take (i + 1)).map D.str := by
  have : (fmChars m)[i]? = some (fmChar i m t) := by unfold fmChars; rw [List.getElem?_mapIdx, h]; rfl
  rw [List.take_add_one, this]; simp
theorem fmChar_one {i : Nat} {m : Int} {t : List (Int × Str)} (h : fmTab[i]? = some t) : (fmChar i m t).length = 1 := by
  have hall : ∀ p ∈ t, p.2.length = 1 := by
    have hm := List.mem_of_getElem? h
    have : ∀ t ∈ fmTab, ∀ p ∈ t, p.2.length = 1 := by decide
    exact this t hm
  unfold fmChar
  split
  · rename_i p hp; exact hall p (List.mem_of_find?_eq_some hp)
  · split <;> rfl
theorem fmChars_sum (m : Int) : ((fmChars m).map (·.length)).sum = 10 := by
  have : (fmChars m).map (·.length) = List.replicate 10 1 := by
    refine List.ext_getElem (by simp [fmChars_len]) fun i h1 h2 => ?_
    simp only [List.getElem_map, List.getElem_replicate]
    simp only [List.length_map] at h1
    unfold fmChars
    rw [List.getElem_mapIdx]
    exact fmChar_one (List.getElem?_eq_getElem _)
  rw [this]; rfl
theorem small_le {n : Nat} (h : n ≤ 1000) : n ≤ sizeLine := Nat.le_trans h (by decide)
end Mine


/- LC -/
namespace Mine
variable {g : Gx} {ℓ : Nat} {fi : FI} {σ : St} {ρ : AEnv}

theorem put_ne {x y : Str} {d : D} (h : (y == x) = false) : (put ρ x d).lookup y = ρ.lookup y := by rw [lookup_put, h]; rfl
theorem put_eq {x : Str} {d : D} : (put ρ x d).lookup x = some d := by rw [lookup_put]; simp
theorem look_ne {x y : Str} {d e : D} (h : (y == x) = false) (q : σ.ρ.lookup y = some e) : (σ.put x d).ρ.lookup y = some e := (lookup_put_ne h).trans q
theorem put_look_ne {x y : Str} {d e : D} (h : (y == x) = false) (q : ρ.lookup y = some e) : (put ρ x d).lookup y = some e := (put_ne h).trans q
theorem nin_of {w : List Str} {x : Str} (hw : σ.ω = w) (hx : w.contains x = false) : x ∉ σ.ω := fun h => by rw [hw, ← List.contains_iff_mem, hx] at h; cases h
theorem fz_in {w : List Str} {x : Str} {d : D} (h : σ.ρ.lookup x = some d) (hw : σ.ω = w) (hx : w.contains x = false) : σ.fz.lookup x = some d := fz_of h (by rw [hw]; exact hx)

def chr (x : Str) (i : Nat) : Str := ⟨#[x.cps.getD i 0]⟩
theorem chr_len (x : Str) (i : Nat) : (chr x i).length = 1 := rfl
theorem Op2.atS' {x : Str} {i : Int} {j : Nat} (hi : i = (j : Int)) (h : j < x.length) (hz : j < 1000) : Op2 g getItem (.str x) (.int i) (.str (chr x j)) := by
  subst hi
  refine Op2.atS (c := x.cps.getD j 0) ?_ ⟨by lia, by lia⟩
  have : seqIndex? (j : Int) x.length = some j := by
    unfold seqIndex?
    have h1 : ¬ ((j : Int) < 0) := by lia
    simp only [h1, if_false]
    have h2 : (0 ≤ (j : Int) ∧ (j : Int) < x.length) := ⟨by lia, by lia⟩
    simp [h2.1, h2.2]
  rw [this]
  simp only [Option.bind_some]
  have hsz : j < x.cps.size := h
  rw [Array.getElem?_eq_getElem hsz]
  simp [Array.getD, hsz]
theorem Op2.atLN {ds : List D} {i : Int} {j : Nat} {d : D} (hi : i = (j : Int)) (hd : ds[j]? = some d) (hz : j < 1000000) : Op2 g getItem (.list ds) (.int i) d := by
  subst hi
  have hl := (List.getElem?_eq_some_iff.mp hd).1
  refine Op2.atL (j := j) ?_ hd ⟨by lia, by lia⟩
  unfold seqIndex?
  have h1 : ¬ ((j : Int) < 0) := by lia
  simp only [h1, if_false]
  have h2 : (0 ≤ (j : Int) ∧ (j : Int) < ds.length) := ⟨by lia, by lia⟩
  simp [h2.1, h2.2]

/- bits -/
theorem nbit (X K : Nat) : ((X : Int) / (2 : Int) ^ K % 2) = ((X.testBit K).toNat : Int) := by
  rw [Nat.testBit_eq_decide_div_mod_eq]
  have e : ((X : Int) / (2 : Int) ^ K % 2) = ((X / 2 ^ K % 2 : Nat) : Int) := by push_cast; rfl
  rw [e]
  rcases Nat.mod_two_eq_zero_or_one (X / 2 ^ K) with h | h <;> rw [h] <;> rfl
theorem pow_small {K : Nat} (h : K < 30) : (0 : Int) < 2 ^ K ∧ (2 : Int) ^ K < 1073741824 := by
  constructor
  · exact Int.pow_pos (by decide)
  · have : (2 : Nat) ^ K < 2 ^ 30 := Nat.pow_lt_pow_right (by decide) h
    have h2 : ((2 ^ K : Nat) : Int) < ((2 ^ 30 : Nat) : Int) := by exact_mod_cast this
    simpa using h2
theorem Op2.pow2 {K : Nat} (h : K < 1000) : Op2 g (binaryOp .Pow) (.int 2) (.int (K : Int)) (.int ((2 : Int) ^ K)) := by
  have := Op2.pow (g := g) (a := 2) (b := (K : Int)) (by lia) (by lia) (by decide)
  simpa using this
theorem Op2.div2 {X : Int} {K : Nat} (h : K < 30) : Op2 g (binaryOp .FloorDiv) (.int X) (.int ((2 : Int) ^ K)) (.int (X / 2 ^ K)) := Op2.fdiv (pow_small h).1 (pow_small h).2
section
variable {x e : Expr} {k1 k2 k3 : Nat} {p1 p2 p3 p4 p5 p6 p7 : Pos} {X K : Nat} {I : Int}
theorem Ev.bit (hx : Ev g ℓ fi ρ x (.int (X : Int))) (he : Ev g ℓ fi ρ e (.int I)) (hI : I = (K : Int)) (h : K < 30) :
    Ev g ℓ fi ρ (.BinOp (.BinOp x .FloorDiv (.BinOp (.Constant (.int 2) k1 p1) .Pow e p2) p3) .Mod (.Constant (.int 2) k2 p4) p5) (.int ((X.testBit K).toNat : Int)) := by
  subst hI
  rw [← nbit]
  exact Ev.bin (Ev.bin hx (Ev.bin Ev.int he (Op2.pow2 (by lia))) (Op2.div2 h)) Ev.int (Op2.fmod (by decide))
end

/- comprehensions of one for -/
section
variable {elt iter t : Expr} {x : Str} {px : Pos} {scope : Scope} {dl : D} {items : List D}
theorem CompOK.map {f : D → D} (hok : compOk fi scope = true) (hk : scope.names.lookup x = some .local ∨ scope.names.lookup x = some .cell) (hev : Ev g ℓ fi ρ iter dl) (hit : iterD dl = some items)
    (h : ∀ d ∈ items, Ev g ℓ (fi.comp scope) (put (capOf scope ρ) x d) elt (f d)) (hz : items.length ≤ sizeLine) (hs : ∀ env x, foldedSetIterable iter env x = pure x := by intro _ _; rfl) :
    CompOK g ℓ fi ρ elt [⟨.Name x px, iter, [], 0⟩] scope (items.map f) := by
  refine ⟨⟨x, px, iter, [], [], dl, items, fun d => [f d], rfl, hok, (fun _ h => nomatch h), hs, hk, hev, hit, fun it hi => ⟨true, rfl, fun _ => ⟨f it, rfl, h it hi⟩, nofun⟩, ?_, by simpa using hz⟩⟩
  rw [List.map_eq_flatMap]
theorem CompOK.filter {f : D → D} {b : D → Bool} (hok : compOk fi scope = true) (hk : scope.names.lookup x = some .local ∨ scope.names.lookup x = some .cell) (hev : Ev g ℓ fi ρ iter dl) (hit : iterD dl = some items)
    (ht : ∀ d ∈ items, Tst g ℓ (fi.comp scope) (put (capOf scope ρ) x d) t (b d))
    (h : ∀ d ∈ items, b d = true → Ev g ℓ (fi.comp scope) (put (capOf scope ρ) x d) elt (f d)) (hz : items.length ≤ sizeLine) (hs : ∀ env x, foldedSetIterable iter env x = pure x := by intro _ _; rfl) :
    CompOK g ℓ fi ρ elt [⟨.Name x px, iter, [t], 0⟩] scope ((items.filter b).map f) := by
  refine ⟨⟨x, px, iter, [t], [], dl, items, fun d => if b d = true then [f d] else [], rfl, hok, (fun _ h => nomatch h), hs, hk, hev, hit, fun it hi => ⟨b it, ⟨b it, ht it hi, fun e => e.symm ▸ rfl, fun e => e⟩, fun e => ⟨f it, if_pos e, h it hi e⟩, fun e => if_neg (by rw [e]; decide)⟩, ?_, ?_⟩⟩
  · have : ∀ l : List D, (l.filter b).map f = l.flatMap fun d => if b d = true then [f d] else [] := by
      intro l
      induction l with
      | nil => rfl
      | cons a r ih =>
        rw [List.flatMap_cons, List.filter_cons, ← ih]
        split
        · rw [List.map_cons]; rfl
        · rfl
    exact this items
  · rw [List.length_map]; exact Nat.le_trans (List.length_filter_le _ _) hz
theorem CompOK.mapI {L : List Int} {f : Int → D} (hok : compOk fi scope = true) (hk : scope.names.lookup x = some .local ∨ scope.names.lookup x = some .cell) (hev : Ev g ℓ fi ρ iter dl) (hit : iterD dl = some (L.map .int))
    (h : ∀ i ∈ L, Ev g ℓ (fi.comp scope) (put (capOf scope ρ) x (.int i)) elt (f i)) (hz : L.length ≤ sizeLine) (hs : ∀ env x, foldedSetIterable iter env x = pure x := by intro _ _; rfl) :
    CompOK g ℓ fi ρ elt [⟨.Name x px, iter, [], 0⟩] scope (L.map f) := by
  have := CompOK.map (g := g) (ℓ := ℓ) (fi := fi) (ρ := ρ) (px := px) (elt := elt) (f := fun d => match d with | .int i => f i | _ => .none) hok hk hev hit (fun d hd => by
    obtain ⟨i, hi, rfl⟩ := List.mem_map.mp hd; exact h i hi) (by simpa using hz) hs
  rw [List.map_map] at this; exact this
theorem CompOK.filterI {L : List Int} {f : Int → D} {b : Int → Bool} (hok : compOk fi scope = true) (hk : scope.names.lookup x = some .local ∨ scope.names.lookup x = some .cell) (hev : Ev g ℓ fi ρ iter dl) (hit : iterD dl = some (L.map .int))
    (ht : ∀ i ∈ L, Tst g ℓ (fi.comp scope) (put (capOf scope ρ) x (.int i)) t (b i))
    (h : ∀ i ∈ L, b i = true → Ev g ℓ (fi.comp scope) (put (capOf scope ρ) x (.int i)) elt (f i)) (hz : L.length ≤ sizeLine) (hs : ∀ env x, foldedSetIterable iter env x = pure x := by intro _ _; rfl) :
    CompOK g ℓ fi ρ elt [⟨.Name x px, iter, [t], 0⟩] scope ((L.filter b).map f) := by
  have := CompOK.filter (g := g) (ℓ := ℓ) (fi := fi) (ρ := ρ) (px := px) (elt := elt) (t := t) (f := fun d => match d with | .int i => f i | _ => .none) (b := fun d => match d with | .int i => b i | _ => false) hok hk hev hit (fun d hd => by
    obtain ⟨i, hi, rfl⟩ := List.mem_map.mp hd; exact ht i hi) (fun d hd e => by
    obtain ⟨i, hi, rfl⟩ := List.mem_map.mp hd; exact h i hi e) (by simpa using hz) hs
  rw [List.filter_map, List.map_map] at this; exact this
end
theorem rng_up (n : Nat) : rngInts 0 (n : Int) 1 = (List.range n).map (fun i : Nat => (i : Int)) := by
  unfold rngInts; rw [if_pos rfl]; simp
theorem and_nat (x y : Nat) : Builtin.bitAnd (x : Int) (y : Int) = ((x &&& y : Nat) : Int) := by
  unfold Builtin.bitAnd
  simp
abbrev natD (l : List Nat) : List D := l.map fun x : Nat => D.int (x : Int)
def lsTri (n : Nat) (top : Nat) (s : Str) : Str :=
  s ++ (chr "-r" (n.testBit top).toNat ++ chr "-w" (n.testBit (top - 1)).toNat) ++ chr (if top = 2 then "-xTt" else "-xSs") ((n.testBit (top - 2)).toNat + 2 * (n.testBit (9 + top / 3)).toNat)
def lsUp (n : Nat) : Nat → Str
  | 0 => chr "?pc?d?b?-?l?s???" (n / 4096 % 16)
  | i + 1 => lsTri n ([8, 5, 2].getD i 0) (lsUp n i)
def listing (n : Nat) : Str := lsUp n 3
theorem lsUp_len (n : Nat) : ∀ i, (lsUp n i).length = 1 + 3 * i
  | 0 => rfl
  | i + 1 => by
    unfold lsUp lsTri
    rw [Str.length_append, Str.length_append, Str.length_append, lsUp_len n i, chr_len, chr_len, chr_len]; lia
theorem Ev.lst {es : List Expr} {pos : Pos} {ds : List D} (h : Evs g ℓ fi ρ es ds) (hz : ds.length ≤ 1000 := by exact Nat.le_of_ble_eq_true rfl) : Ev g ℓ fi ρ (.List es pos) (.list ds) := Ev.list h (small_le hz)
/- bytes -/
def bytesN (l : List Nat) : Array UInt8 := (l.map Nat.toUInt8).toArray
theorem byteArr_nat (l : List Nat) : byteArr (l.map fun x : Nat => (x : Int)) = bytesN l := by
  unfold byteArr bytesN; rw [List.map_map]; congr 1
theorem bytesN_size (l : List Nat) : (bytesN l).size = l.length := by simp [bytesN]
theorem bytesN_get (l : List Nat) (i : Nat) : (bytesN l)[i]? = (l[i]?).map Nat.toUInt8 := by simp [bytesN]
theorem cutB_bytesN (l : List Nat) (i n : Nat) : cutB (bytesN l) i n = bytesN ((l.drop i).take n) := by
  unfold cutB bytesN; simp [List.map_drop, List.map_take]
theorem CallOK.bytesN {l : List Nat} (h : ∀ x ∈ l, x < 256) : CallOK g ℓ (.type "bytes") [.list (natD l)] (.bytes (bytesN l)) := by
  have := CallOK.bytes (g := g) (ℓ := ℓ) (ns := l.map fun x : Nat => (x : Int)) (fun n hn => by
    obtain ⟨x, hx, rfl⟩ := List.mem_map.mp hn
    have := h x hx; lia)
  rw [byteArr_nat, List.map_map] at this; exact this
theorem cut_map {α β : Type} (f : α → β) (l : List α) (lo hi st : Option Int) : cut (l.map f) lo hi st = (cut l lo hi st).map f := by
  unfold cut
  rw [List.length_map, List.map_filterMap]
  congr 1; funext i; rw [List.getElem?_map]
def cellOf (base : List Int) (step : Int) (ns : List Int) (k : Nat) : Int := base.getD k 0 + (cut ns (some (k : Int)) (some 60) (some step)).sum
theorem CallOK.lenN {l : List Nat} : CallOK g ℓ (.builtin "len") [.list (natD l)] (.int (l.length : Int)) := by
  have := CallOK.lenL (g := g) (ℓ := ℓ) (ds := natD l)
  rw [List.length_map] at this; exact this
theorem CallOK.rangeN {n : Nat} (h : n ≤ 1000) : CallOK g ℓ (.type "range") [.int (n : Int)] (.rng 0 (n : Int) 1) := CallOK.range1 ⟨⟨by decide, by decide⟩, ⟨by lia, by lia⟩, .inl rfl⟩
theorem iter_range (n : Nat) : iterD (.rng 0 (n : Int) 1) = some (((List.range n).map (fun i : Nat => (i : Int))).map .int) := by
  simp only [iterD, rng_up]
theorem iter_rangeN (n : Nat) : iterD (.rng 0 (n : Int) 1) = some (natD (List.range n)) := by
  rw [iter_range, List.map_map]; rfl
theorem CallOK.sumN {l : List Nat} : CallOK g ℓ (.builtin "sum") [.list (natD l)] (.int (l.sum : Int)) := by
  have := CallOK.sum (g := g) (ℓ := ℓ) (d := .list (natD l)) (ns := l.map fun x : Nat => (x : Int)) (by rw [List.map_map]; rfl)
  have e : (l.map fun x : Nat => (x : Int)).sum = (l.sum : Int) := by
    induction l with
    | nil => rfl
    | cons a r ih => 
      rw [List.map_cons, List.sum_cons, List.sum_cons, ih (by
        exact CallOK.sum (g := g) (ℓ := ℓ) (d := .list (natD r)) (ns := r.map fun x : Nat => (x : Int)) (by rw [List.map_map]; rfl))]
      push_cast; rfl
  rw [e] at this; exact this
theorem Ev.tp {es : List Expr} {k : Nat} {pos : Pos} {ds : List D} (h : Evs g ℓ fi ρ es ds) (hz : ds.length ≤ 1000 := by exact Nat.le_of_ble_eq_true rfl) : Ev g ℓ fi ρ (.Tuple es k pos) (.tup ds) := Ev.tup h (small_le hz)
theorem natD_ints (l : List Nat) : natD l = (l.map fun x : Nat => (x : Int)).map .int := by
  rw [natD, List.map_map]; rfl
theorem look_app {l : AEnv} {x : Str} (h : l.lookup x = none) : (l ++ ρ).lookup x = ρ.lookup x := by rw [lookup_append, h]; rfl
end Mine


/- LR -/
namespace Mine
set_option maxRecDepth 100000
variable {g : Gx} {ℓ : Nat} {fi : FI} {σ : St} {ρ : AEnv}

theorem Ev.and2 {x y : Expr} {pos : Pos} {c c' : Bool} (hx : Ev g ℓ fi ρ x (.bool c)) (hy : c = true → Ev g ℓ fi ρ y (.bool c')) : Ev g ℓ fi ρ (.BoolOp .And [x, y] pos) (.bool (c && c')) := by
  intro A X env s hA hI hE hX hF
  refine wpAny_And2 (wpQ (hx A X env s hA hI hE hX hF) fun v s₁ ⟨i1, k1, r1⟩ => ?_)
  refine wpQ (TrOK.bool ℓ A X s₁ v hA i1 (hX.keep k1) r1) fun t s₂ ⟨e, i2, k2⟩ => ?_
  subst e
  cases t with
  | false => exact ⟨i2, k1.trans k2, r1.keep i1.tabs k2⟩
  | true => exact wpQ (hy rfl A X env s₂ hA i2 hE (hX.keep (k1.trans k2)) (hF.keep hI.tabs (k1.trans k2))) fun _ _ q => q.more (k1.trans k2)

theorem strOk_append {x y : Str} (h : PyData.strOk x = true) (h' : PyData.strOk y = true) : PyData.strOk (x ++ y) = true := by
  have e : (x ++ y).cps = x.cps ++ y.cps := rfl
  simp only [PyData.strOk, e, Array.all_append, Bool.and_eq_true]
  exact ⟨h, h'⟩
theorem strOk_chr {x : Str} {i : Nat} (h : PyData.strOk x = true) : PyData.strOk (chr x i) = true := by
  have e : (chr x i).cps = #[x.cps.getD i 0] := rfl
  unfold PyData.strOk at h ⊢
  rw [e]
  simp only [Array.all_eq_true] at h
  rw [show (#[x.cps.getD i 0].all fun a => decide (a < 1114112)) = decide (x.cps.getD i 0 < 1114112) by simp]
  simp only [Array.getD_eq_getD_getElem?]
  by_cases c : i < x.cps.size
  · simpa [Array.getElem?_eq_getElem c] using h i c
  · simp [Array.getElem?_eq_none (Nat.le_of_not_lt c)]
theorem strOk_listing (n : Nat) : PyData.strOk (listing n) = true := by
  have h : ∀ i, PyData.strOk (lsUp n i) = true := by
    intro i
    induction i with
    | zero => exact strOk_chr (by kernel_rfl)
    | succ i ih =>
      refine strOk_append (strOk_append ih (strOk_append (strOk_chr (by kernel_rfl)) (strOk_chr (by kernel_rfl)))) (strOk_chr ?_)
      split <;> kernel_rfl
  exact h 3

/- comprehensions over naturals -/
section
variable {elt iter t : Expr} {x : Str} {px : Pos} {scope : Scope} {dl : D}
theorem CompOK.natM {l : List Nat} {f : Nat → D} (hok : compOk fi scope = true) (hk : scope.names.lookup x = some .local ∨ scope.names.lookup x = some .cell) (hev : Ev g ℓ fi ρ iter dl) (hit : iterD dl = some (natD l))
    (h : ∀ i ∈ l, Ev g ℓ (fi.comp scope) (put (capOf scope ρ) x (.int (i : Int))) elt (f i)) (hz : l.length ≤ 1000) (hs : ∀ env x, foldedSetIterable iter env x = pure x := by intro _ _; rfl) :
    CompOK g ℓ fi ρ elt [⟨.Name x px, iter, [], 0⟩] scope (l.map f) := by
  have := CompOK.mapI (g := g) (ℓ := ℓ) (fi := fi) (ρ := ρ) (elt := elt) (px := px) (L := l.map fun x : Nat => (x : Int)) (f := fun k => f k.toNat) hok hk hev (hit.trans (congrArg some (natD_ints l))) (fun i hi => ?_) (by rw [List.length_map]; exact small_le hz) hs
  · rw [List.map_map] at this; exact this
  · obtain ⟨j, hj, rfl⟩ := List.mem_map.mp hi
    exact h j hj
theorem CompOK.natF {l : List Nat} {f : Nat → D} {b : Nat → Bool} (hok : compOk fi scope = true) (hk : scope.names.lookup x = some .local ∨ scope.names.lookup x = some .cell) (hev : Ev g ℓ fi ρ iter dl) (hit : iterD dl = some (natD l))
    (ht : ∀ i ∈ l, Tst g ℓ (fi.comp scope) (put (capOf scope ρ) x (.int (i : Int))) t (b i))
    (h : ∀ i ∈ l, Ev g ℓ (fi.comp scope) (put (capOf scope ρ) x (.int (i : Int))) elt (f i)) (hz : l.length ≤ 1000) (hs : ∀ env x, foldedSetIterable iter env x = pure x := by intro _ _; rfl) :
    CompOK g ℓ fi ρ elt [⟨.Name x px, iter, [t], 0⟩] scope ((l.filter b).map f) := by
  have := CompOK.filterI (g := g) (ℓ := ℓ) (fi := fi) (ρ := ρ) (elt := elt) (px := px) (t := t) (L := l.map fun x : Nat => (x : Int)) (f := fun k => f k.toNat) (b := fun k => b k.toNat) hok hk hev (hit.trans (congrArg some (natD_ints l))) (fun i hi => ?_) (fun i hi _ => ?_) (by rw [List.length_map]; exact small_le hz) hs
  · rw [List.filter_map, List.map_map] at this; exact this
  · obtain ⟨j, hj, rfl⟩ := List.mem_map.mp hi
    exact ht j hj
  · obtain ⟨j, hj, rfl⟩ := List.mem_map.mp hi
    exact h j hj
end
theorem capOf_none {scope : Scope} {x : Str} (h : scope.names.lookup x = some .local) : (capOf scope ρ).lookup x = none := by
  cases e : (capOf scope ρ).lookup x with
  | none => rfl
  | some d => have := (capOf_lookup e).2; rw [h] at this; cases this
/- a row of written numbers -/
def cInts : List Expr → Option (List Int)
  | [] => some []
  | .Constant (.int i) _ _ :: es => (cInts es).map (i :: ·)
  | _ => none
theorem Evs.ints : ∀ {es : List Expr} {is : List Int}, cInts es = some is → Evs g ℓ fi ρ es (is.map .int)
  | [], is, h => by cases h; exact Evs.nil
  | e :: es, is, h => by
    unfold cInts at h
    split at h
    · rename_i h'; cases h'
    · rename_i i k p es' h'
      cases h'
      obtain ⟨js, hj, rfl⟩ := Option.map_eq_some_iff.mp h
      exact Evs.cons Ev.int (Evs.ints hj)
    · cases h
theorem ExW.ints {x : Str} {px lpos pos : Pos} {es : List Expr} {is : List Int} {rest : List Stmt} {Q : Fl → Prop} (h : cInts es = some is) (hz : is.length ≤ 1000) (ho : okStore fi σ x) (hr : ExW g ℓ fi (σ.put x (.list (is.map .int))) rest Q) :
    ExW g ℓ fi σ (.Assign [.Name x px] (.List es lpos) pos :: rest) Q :=
  ExW.cons (Ex1.assign (EvS.strict (Ev.list (Evs.ints h) (by rw [List.length_map]; exact small_le hz))) ho hr)
end Mine


/- LS -/
namespace Mine
set_option maxRecDepth 100000
variable {g : Gx} {ℓ : Nat} {fi : FI} {σ : St} {ρ : AEnv}

/- what a list holds -/
theorem good_eq {d d' : D} {n m : Nat} (h : d.good n = true) (h' : d'.good m = true) (e : d.py = d'.py) : d = d' :=
  (eqv_iff d d' n m h h').mp (e ▸ SeqAt.eqv_refl _ (good_lay d n h).1)
open Classical in
noncomputable def isD (X : List Addr) (h : Heap) (d : D) (v : Value) : Bool := decide (Rep X h v d)
theorem isD_iff {X : List Addr} {h : Heap} {v : Value} {d d' : D} (r : Rep X h v d) (hd : d.good 8 = true) (hd' : d'.good 8 = true) : isD X h d' v = true ↔ d = d' := by
  unfold isD
  refine Iff.trans (@decide_eq_true_iff _ (_)) ⟨fun r' => ?_, fun e => e ▸ r⟩
  obtain ⟨as, ra⟩ := r.reads 8 hd
  obtain ⟨bs, rb⟩ := r'.reads 8 hd'
  exact good_eq hd hd' (SeqAt.Reads.unique _ _ _ _ _ (good_lay d 8 hd).1 ra rb)
theorem eqAt_D {X : List Addr} {s : Shared} {A : Around} {y x : Value} {d d' : D} (r : Rep X s.heap y d) (r' : Rep X s.heap x d') (hd : d.good 8 = true) (hd' : d'.good 8 = true) (hu : A.units + 20 < cLine) : SeqAt.EqAt A s y x (isD X s.heap d' y) := by
  obtain ⟨as, ra⟩ := r.reads 8 hd
  obtain ⟨bs, rb⟩ := r'.reads 8 hd'
  have l1 := good_lay d 8 hd
  have l2 := good_lay d' 8 hd'
  rw [← bool_eq_of (eqv_iff d d' 8 8 hd hd') (isD_iff r hd hd')]
  exact SeqAt.eqAt_reads _ _ _ _ _ _ _ _ ra rb l1.1 l2.1 (by lia)
theorem Reps.any {X : List Addr} {h : Heap} {d' : D} (hd' : d'.good 8 = true) : ∀ {vs : List Value} {ds : List D}, Reps X h vs ds → ds.all (D.good 8) = true → (vs.any (isD X h d') = true ↔ d' ∈ ds)
  | _, _, .nil, _ => by simp
  | _, _, .cons a r, q => by
    simp only [List.all_cons, Bool.and_eq_true] at q
    rw [List.any_cons, Bool.or_eq_true, Reps.any hd' r q.2, isD_iff a q.1 hd', List.mem_cons]
    exact ⟨fun h => h.imp Eq.symm id, fun h => h.imp Eq.symm id⟩
theorem in_room {A : Around} (h : AOk ℓ A) : A.in1.units + 20 < cLine := by
  have := h.units
  show A.units + 1 + 20 < cLine
  lia
theorem Op2.inD {ds : List D} {d : D} {c : Bool} (hd : d.good 8 = true) (hds : ds.all (D.good 8) = true) (hc : c = true ↔ d ∈ ds) : Op2 g (compareOp .In) d (.list ds) (.bool c) := by
  intro ℓ A X s va vb hA hI hX h1 h2
  obtain ⟨a, vs, rfl, na, hl, hz, r2⟩ := h2.list'
  refine SeqAt.in_listAt (isD X s.heap d) hl.isList (fun y hy => ?_) ?_
  · obtain ⟨d', hd', r'⟩ := r2.mem' y (by simpa using hy)
    exact eqAt_D r' h1 (List.all_eq_true.mp hds d' hd') hd (in_room hA)
  · rw [show vs.toArray.any (isD X s.heap d) = c from bool_eq_of (by rw [List.any_toArray]; exact r2.any hd hds) hc]
    exact Post.same hI .bool
theorem Op2.notInD {ds : List D} {d : D} {c : Bool} (hd : d.good 8 = true) (hds : ds.all (D.good 8) = true) (hc : c = true ↔ d ∉ ds) : Op2 g (compareOp .NotIn) d (.list ds) (.bool c) := by
  intro ℓ A X s va vb hA hI hX h1 h2
  obtain ⟨a, vs, rfl, na, hl, hz, r2⟩ := h2.list'
  refine SeqAt.notIn_listAt (isD X s.heap d) hl.isList (fun y hy => ?_) ?_
  · obtain ⟨d', hd', r'⟩ := r2.mem' y (by simpa using hy)
    exact eqAt_D r' h1 (List.all_eq_true.mp hds d' hd') hd (in_room hA)
  · rw [show (!vs.toArray.any (isD X s.heap d)) = c from bool_eq_of (p := d ∉ ds) (by rw [List.any_toArray, Bool.not_eq_true', ← Bool.not_eq_true, r2.any hd hds]) hc]
    exact Post.same hI .bool
theorem Op2.indexD {ds : List D} {d : D} {j : Nat} (hd : d.good 8 = true) (hds : ds.all (D.good 8) = true) (hj : ds[j]? = some d) (hno : ∀ m, m < j → ds[m]? ≠ some d) (hz : j < 1000) : Op2 g (fun a b => PySem.call (.builtin "list.index") [a, b]) (.list ds) d (.int (j : Int)) := by
  intro ℓ A X s va vb hA hI hX h1 h2
  obtain ⟨a, vs, rfl, na, hl, hz', r2⟩ := h1.list'
  have hlen := r2.length
  obtain ⟨hj1, hj2⟩ := List.getElem?_eq_some_iff.mp hj
  obtain ⟨⟨cls, dd, data, sl⟩, ho, hc, n, he⟩ := id hl.isList
  simp only at hc he
  subst hc he
  have at' : ∀ m (hm : m < vs.length), ∃ d', ds[m]? = some d' ∧ Rep X s.heap vs[m] d' := fun m hm => r2.get m (List.getElem?_eq_getElem hm)
  refine call_meets PySem.F.slot_list_index ⟨_, ho, rfl⟩ PySem.F.entry_list_index (PySem.F.args_list_index_2 _ _)
    (SeqAt.list_indexAt a vs.toArray n dd sl vb (isD X s.heap d) j (by simpa [hlen] using hj1) (by lia) ?_ ?_) ⟨ho, fun y hy => ?_, Post.tok hI .int _⟩
  · obtain ⟨d', e, r'⟩ := at' j (by lia)
    rw [hj] at e; cases e
    exact (isD_iff r' hd hd).mpr rfl
  · intro m hm hlt
    have hm' : m < vs.length := by simpa using hm
    obtain ⟨d', e, r'⟩ := at' m hm'
    have hg := List.all_eq_true.mp hds d' (List.mem_of_getElem? e)
    rw [← Bool.not_eq_true]
    intro q
    have := (isD_iff r' hg hd).mp (by simpa using q)
    exact hno m hlt (this ▸ e)
  · obtain ⟨d', hd', r'⟩ := r2.mem' y (by simpa using hy)
    exact eqAt_D r' h2 (List.all_eq_true.mp hds d' hd') hd (in_room hA)
theorem Ev.methL {o elt : Expr} {apos pos : Pos} {name : Str} {id : String} {ds : List D} {a d : D} (slot : Slot "list" name id) (hty : typeOf (.builtin id) = pure (.type "method_descriptor"))
    (h1 : Ev g ℓ fi ρ o (.list ds)) (h2 : Ev g ℓ fi ρ elt a) (ht : Op2 g (fun a b => PySem.call (.builtin id) [a, b]) (.list ds) a d)
    (hbase : ∀ env, attributeBase o name env (eval o env) = eval o env := by intro _; rfl) (hline : (apos.endLine == pos.line) = true := by decide) (he : ∀ env, starEach [elt] env = [(false, eval elt env)] := by intro _; rfl) : Ev g ℓ fi ρ (.Call (.Attribute o name apos) [elt] [] pos) d := by
  intro A X env s hA hI hE hX hF
  refine callMeth (a := 0) (its := #[]) slot hty (hbase env) hline (he env) (wpQ (h1 A X env s hA hI hE hX hF) fun va s₁ ⟨i1, k1, r1⟩ => ?_)
  obtain ⟨a1, vs, rfl, na, hl, hz, r2⟩ := r1.list'
  refine ⟨a1, _, rfl, hl, wpQ (h2 A X env s₁ hA i1 hE (hX.keep k1) (hF.keep hI.tabs k1)) fun vb s₂ ⟨i2, k2, r3⟩ => ?_⟩
  exact wpQ (ht ℓ A X s₂ _ vb hA i2 ((hX.keep k1).keep k2) (r1.keep i1.tabs k2) r3) fun v s' p => p.more (k1.trans k2)
theorem goods_nat (n : Nat) (l : List Nat) : (natD l).all (D.good n) = true := by
  rw [natD, List.all_map, List.all_eq_true]
  intro x _; exact good_int
end Mine


/- LT -/
namespace Mine
set_option maxRecDepth 100000
variable {g : Gx} {ℓ : Nat} {fi : FI} {σ : St} {ρ : AEnv}
/- numbers, rows of numbers, rows of rows -/
theorem natD_get {l : List Nat} {i : Nat} {d : D} (h : (natD l)[i]? = some d) : ∃ x : Nat, l[i]? = some x ∧ d = .int (x : Int) := by
  rw [natD, List.getElem?_map] at h
  obtain ⟨x, hx, e⟩ := Option.map_eq_some_iff.mp h
  exact ⟨x, hx, e.symm⟩
theorem natD_at {l : List Nat} {i : Nat} (h : i < l.length) : (natD l)[i]? = some (.int (l.getD i 0 : Int)) := by
  rw [natD, List.getElem?_map, List.getElem?_eq_getElem h, List.getD_eq_getElem?_getD, List.getElem?_eq_getElem h]; rfl
abbrev rowD (l : List Nat) : D := .list (natD l)
abbrev rowsD (L : List (List Nat)) : List D := L.map rowD
abbrev cubeD (C : List (List (List Nat))) : List D := C.map fun L => D.list (rowsD L)
theorem rowsD_at {L : List (List Nat)} {i : Nat} (h : i < L.length) : (rowsD L)[i]? = some (rowD (L.getD i [])) := by
  rw [rowsD, List.getElem?_map, List.getElem?_eq_getElem h, List.getD_eq_getElem?_getD, List.getElem?_eq_getElem h]; rfl
def natOf : D → Nat
  | .int i => i.toNat
  | _ => 0
def rowOf : D → List Nat
  | .list ds => ds.map natOf
  | _ => []
def rowsOf : D → List (List Nat)
  | .list ds => ds.map rowOf
  | _ => []
theorem rowOf_rowD (l : List Nat) : rowOf (rowD l) = l := by
  show (natD l).map natOf = l
  rw [natD, List.map_map]
  exact (List.map_congr_left fun x _ => Int.toNat_natCast x).trans (List.map_id _)
theorem rowsOf_rowsD (L : List (List Nat)) : rowsOf (.list (rowsD L)) = L := by
  show (rowsD L).map rowOf = L
  rw [rowsD, List.map_map]
  exact (List.map_congr_left fun x _ => rowOf_rowD x).trans (List.map_id _)
section
variable {elt iter t : Expr} {x : Str} {px : Pos} {scope : Scope} {dl : D}
theorem CompOK.codM {α : Type} {l : List α} (en : α → D) (dec : D → α) (hd : ∀ a, dec (en a) = a) {f : α → D} (hok : compOk fi scope = true) (hk : scope.names.lookup x = some .local ∨ scope.names.lookup x = some .cell) (hev : Ev g ℓ fi ρ iter dl) (hit : iterD dl = some (l.map en))
    (h : ∀ a ∈ l, Ev g ℓ (fi.comp scope) (put (capOf scope ρ) x (en a)) elt (f a)) (hz : l.length ≤ 1000) (hs : ∀ env x, foldedSetIterable iter env x = pure x := by intro _ _; rfl) :
    CompOK g ℓ fi ρ elt [⟨.Name x px, iter, [], 0⟩] scope (l.map f) := by
  have := CompOK.map (g := g) (ℓ := ℓ) (fi := fi) (ρ := ρ) (elt := elt) (px := px) (f := fun d => f (dec d)) hok hk hev hit (fun d hd' => ?_) (by rw [List.length_map]; exact small_le hz) hs
  · rw [List.map_map] at this
    rwa [show (fun d => f (dec d)) ∘ en = f from funext fun a => congrArg f (hd a)] at this
  · obtain ⟨a, ha, rfl⟩ := List.mem_map.mp hd'
    rw [hd]; exact h a ha
theorem CompOK.codF {α : Type} {l : List α} (en : α → D) (dec : D → α) (hd : ∀ a, dec (en a) = a) {f : α → D} {b : α → Bool} (hok : compOk fi scope = true) (hk : scope.names.lookup x = some .local ∨ scope.names.lookup x = some .cell) (hev : Ev g ℓ fi ρ iter dl) (hit : iterD dl = some (l.map en))
    (ht : ∀ a ∈ l, Tst g ℓ (fi.comp scope) (put (capOf scope ρ) x (en a)) t (b a)) (h : ∀ a ∈ l, Ev g ℓ (fi.comp scope) (put (capOf scope ρ) x (en a)) elt (f a)) (hz : l.length ≤ 1000) (hs : ∀ env x, foldedSetIterable iter env x = pure x := by intro _ _; rfl) :
    CompOK g ℓ fi ρ elt [⟨.Name x px, iter, [t], 0⟩] scope ((l.filter b).map f) := by
  have := CompOK.filter (g := g) (ℓ := ℓ) (fi := fi) (ρ := ρ) (elt := elt) (px := px) (t := t) (f := fun d => f (dec d)) (b := fun d => b (dec d)) hok hk hev hit (fun d hd' => ?_) (fun d hd' _ => ?_) (by rw [List.length_map]; exact small_le hz) hs
  · rw [List.filter_map, List.map_map] at this
    rwa [show (fun d => f (dec d)) ∘ en = f from funext fun a => congrArg f (hd a), show (fun d => b (dec d)) ∘ en = b from funext fun a => congrArg b (hd a)] at this
  · obtain ⟨a, ha, rfl⟩ := List.mem_map.mp hd'
    rw [hd]; exact ht a ha
  · obtain ⟨a, ha, rfl⟩ := List.mem_map.mp hd'
    rw [hd]; exact h a ha
end
theorem goods_rows (n : Nat) (L : List (List Nat)) : (rowsD L).all (D.good (n + 1)) = true := by
  rw [rowsD, List.all_map, List.all_eq_true]
  intro l _; exact goods_nat n l
theorem good_row (l : List Nat) : (rowD l).good 9 = true := goods_nat 8 l
theorem rowD_inj {l m : List Nat} : rowD l = rowD m ↔ l = m :=
  ⟨fun h => by rw [← rowOf_rowD l, h, rowOf_rowD], fun h => h ▸ rfl⟩
theorem rowsD_inj {L M : List (List Nat)} : D.list (rowsD L) = D.list (rowsD M) ↔ L = M :=
  ⟨fun h => by rw [← rowsOf_rowsD L, h, rowsOf_rowsD], fun h => h ▸ rfl⟩
theorem Evs.nats : ∀ {es : List Expr} {l : List Nat}, cInts es = some (l.map fun x : Nat => (x : Int)) → Evs g ℓ fi ρ es (natD l) := fun h => by
  rw [natD_ints]; exact Evs.ints h
def cRows : List Expr → Option (List (List Int))
  | [] => some []
  | .List es _ :: r => match cInts es, cRows r with
    | some a, some b => some (a :: b)
    | _, _ => none
  | _ => none
theorem Evs.rows0 : ∀ {es : List Expr} {L : List (List Int)}, cRows es = some L → (∀ l ∈ L, l.length ≤ 1000) → Evs g ℓ fi ρ es (L.map fun l => .list (l.map .int))
  | [], L, h, _ => by cases h; exact Evs.nil
  | e :: es, L, h, hz => by
    unfold cRows at h
    split at h
    · rename_i h'; cases h'
    · rename_i es1 p r h'
      cases h'
      split at h
      · rename_i a b h1 h2
        cases h
        exact Evs.cons (Ev.list (Evs.ints h1) (by rw [List.length_map]; exact small_le (hz a (.head _)))) (Evs.rows0 h2 fun l hl => hz l (.tail _ hl))
      · cases h
    · cases h
theorem Ev.rows {es : List Expr} {L : List (List Nat)} {pos : Pos} (h : cRows es = some (L.map fun l => l.map fun x : Nat => (x : Int))) (hz : L.length ≤ 1000) (hl : ∀ l ∈ L, l.length ≤ 1000) : Ev g ℓ fi ρ (.List es pos) (.list (rowsD L)) := by
  have := Evs.rows0 (g := g) (ℓ := ℓ) (fi := fi) (ρ := ρ) h fun l hl' => by
    obtain ⟨m, hm, rfl⟩ := List.mem_map.mp hl'
    rw [List.length_map]; exact hl m hm
  rw [List.map_map] at this
  have e : rowsD L = L.map ((fun l : List Int => D.list (l.map .int)) ∘ fun l : List Nat => l.map fun x : Nat => (x : Int)) := List.map_congr_left fun l _ => by
    show rowD l = D.list _
    rw [rowD, natD_ints]
  rw [e]
  exact Ev.list this (by rw [List.length_map]; exact small_le hz)
theorem Op2.byteN {l : List Nat} {i : Int} {j : Nat} (h : ∀ x ∈ l, x < 256) (hi : i = (j : Int)) (hj : j < l.length) (hz : l.length ≤ 1000) : Op2 g getItem (.bytes (bytesN l)) (.int i) (.int (l.getD j 0 : Int)) := by
  subst hi
  have hsz := bytesN_size l
  have := Op2.atB (g := g) (b := bytesN l) (i := (j : Int)) (by lia) (by lia) (by lia)
  have e : (((bytesN l).toList.getD (j : Int).toNat 0).toNat : Int) = (l.getD j 0 : Int) := by
    rw [Int.toNat_natCast, List.getD_eq_getElem?_getD, List.getD_eq_getElem?_getD, List.getElem?_eq_getElem hj]
    show (((l.map Nat.toUInt8)[j]?.getD 0).toNat : Int) = _
    rw [List.getElem?_map, List.getElem?_eq_getElem hj]
    have := h l[j] (List.getElem_mem hj)
    simp; lia
  rwa [e] at this
end Mine


/- XS -/
namespace Mine
/- sets of small numbers -/
inductive Ents : List (Int × Value) → List Nat → Prop where
  | nil : Ents [] []
  | cons {n : Nat} {t : Tok} {l : List (Int × Value)} {ns : List Nat} : Ents l ns → Ents (((n : Int), .int (n : Int) t) :: l) (n :: ns)
theorem Ents.len : ∀ {l : List (Int × Value)} {ns : List Nat}, Ents l ns → l.length = ns.length
  | _, _, .nil => rfl
  | _, _, .cons h => congrArg (· + 1) h.len
theorem Ents.app : ∀ {l m : List (Int × Value)} {ns ms : List Nat}, Ents l ns → Ents m ms → Ents (l ++ m) (ns ++ ms)
  | _, _, _, _, .nil, h => h
  | _, _, _, _, .cons a, h => .cons (a.app h)
theorem Ents.take : ∀ {l : List (Int × Value)} {ns : List Nat} (k : Nat), Ents l ns → Ents (l.take k) (ns.take k)
  | _, _, 0, _ => .nil
  | _, _, _ + 1, .nil => .nil
  | _, _, k + 1, .cons a => .cons (a.take k)
theorem Ents.drop : ∀ {l : List (Int × Value)} {ns : List Nat} (k : Nat), Ents l ns → Ents (l.drop k) (ns.drop k)
  | _, _, 0, h => h
  | _, _, _ + 1, .nil => .nil
  | _, _, k + 1, .cons a => a.drop k
theorem Ents.has : ∀ {l : List (Int × Value)} {ns : List Nat}, Ents l ns → ∀ n : Nat, (∃ e ∈ l, Value.isInt (n : Int) e.2 = true) ↔ n ∈ ns
  | _, _, .nil, n => by simp
  | _, _, .cons (n := k) (t := t) h, n => by
    have ih := h.has n
    rw [List.mem_cons, ← ih]
    constructor
    · rintro ⟨e, he, q⟩
      rcases List.mem_cons.mp he with rfl | he
      · left
        obtain ⟨t', e'⟩ := Value.isInt_shape q
        injection e' with e' _
        exact (Int.ofNat.inj e').symm
      · exact .inr ⟨e, he, q⟩
    · rintro (rfl | ⟨e, he, q⟩)
      · exact ⟨_, .head _, by simp [Value.isInt]⟩
      · exact ⟨e, .tail _ he, q⟩
def tbl (led : Bool) (pl : List Nat) : SetTable := ⟨7, pl.toArray, #[], 0, led, 0, true⟩
def okPl (pl : List Nat) : Bool := match pl with
  | [] => true
  | [a] => decide (a < 8)
  | [a, b] => decide (a < b) && decide (b < 8)
  | [a, b, c] => decide (a < b) && (decide (b < c) && decide (c < 8))
  | _ => false
def layIn (led : Bool) (pl : List Nat) (n : Nat) : Bool := match (tbl led pl).freeSlot (n : Int) with
  | some (j, false) => (((tbl led pl).put j).1 == tbl led ((tbl led pl).put j).1.place.toList) && (okPl ((tbl led pl).put j).1.place.toList && (((tbl led pl).put j).1.place.toList.length == pl.length + 1 && decide (((tbl led pl).put j).2 ≤ pl.length)))
  | _ => false
def pls2 : List (List Nat) := [] :: (List.range 8).map (fun a => [a]) ++ (List.range 8).flatMap fun b => (List.range b).map fun a => [a, b]
set_option maxRecDepth 100000 in
theorem layIn_all : ∀ pl ∈ pls2, ∀ n ∈ List.range 24, layIn true pl n = true ∧ layIn false pl n = true := by decide +kernel
theorem pls2_mem {pl : List Nat} (h : okPl pl = true) (hl : pl.length ≤ 2) : pl ∈ pls2 := by
  match pl, h, hl with
  | [], _, _ => exact List.mem_append_left _ (.head _)
  | [a], h, _ =>
    have h : a < 8 := by simpa [okPl] using h
    exact List.mem_append_left _ (.tail _ (List.mem_map.mpr ⟨a, List.mem_range.mpr h, rfl⟩))
  | [a, b], h, _ =>
    have h : a < b ∧ b < 8 := by simpa [okPl] using h
    exact List.mem_append_right _ (List.mem_flatMap.mpr ⟨b, List.mem_range.mpr h.2, List.mem_map.mpr ⟨a, List.mem_range.mpr h.1, rfl⟩⟩)
  | _ :: _ :: _ :: _, _, hl => simp at hl
theorem okPl_len {pl : List Nat} (h : okPl pl = true) : pl.length ≤ 3 := by
  match pl, h with
  | [], _ => decide
  | [_], _ => exact Nat.le_of_ble_eq_true rfl
  | [_, _], _ => exact Nat.le_of_ble_eq_true rfl
  | [_, _, _], _ => exact Nat.le_of_ble_eq_true rfl
  | _ :: _ :: _ :: _ :: _, h => simp [okPl] at h
theorem tbl_fits {led : Bool} {pl : List Nat} {n : Nat} (h : pl.length = n) (hn : n ≤ 7) : (tbl led pl).fits n = true := by
  simp [SetTable.fits, tbl, SetTable.fill, h, hn]
theorem lay_small {led : Bool} {pl : List Nat} {n : Nat} (hp : okPl pl = true) (hl : pl.length ≤ 2) (hn : n < 24) {es : Array (Int × Value)} (hes : es.size = pl.length) (x : Value) :
    ∃ pl' p, layNew (tbl led pl) es (n : Int) x = (SetTable.insertAt es p ((n : Int), x), tbl led pl', false, false) ∧ okPl pl' = true ∧ pl'.length = pl.length + 1 ∧ p ≤ pl.length := by
  have hb : layIn led pl n = true := by
    have := layIn_all pl (pls2_mem hp hl) n (List.mem_range.mpr hn)
    cases led
    · exact this.2
    · exact this.1
  unfold layIn at hb
  unfold layNew
  cases hf : (tbl led pl).freeSlot (n : Int) with
  | none => rw [hf] at hb; cases hb
  | some q =>
    obtain ⟨j, wd⟩ := q
    rw [hf] at hb
    cases wd with
    | true => cases hb
    | false =>
      simp only [Bool.and_eq_true, beq_iff_eq, decide_eq_true_eq] at hb
      obtain ⟨h1, h2, h3, h4⟩ := hb
      obtain ⟨t', p, hput⟩ : ∃ t' p, (tbl led pl).put j = (t', p) := ⟨_, _, rfl⟩
      rw [hput] at h1 h2 h3 h4
      dsimp only at h1 h2 h3 h4 ⊢
      rw [hput]
      dsimp only
      have hsz : (SetTable.insertAt es p ((n : Int), x)).size = pl.length + 1 := by
        have hpp : p ≤ es.size := by rw [hes]; exact h4
        simp [SetTable.insertAt, hes]; lia
      have hfit : (tbl led t'.place.toList).fits (SetTable.insertAt es p ((n : Int), x)).size = true := by
        rw [hsz]; exact tbl_fits h3 (by lia)
      refine ⟨t'.place.toList, p, ?_, h2, h3, h4⟩
      rw [← h1] at hfit
      unfold SetTable.orStandIn
      rw [if_pos hfit, hfit, ← h1]; rfl
theorem insert_list {es : Array (Int × Value)} {p : Nat} {x : Int × Value} (h : p ≤ es.size) : (SetTable.insertAt es p x).toList = es.toList.take p ++ x :: es.toList.drop p := by
  simp [SetTable.insertAt, List.take_of_length_le]
structure SetI (led : Bool) (h : Heap) (a : Addr) (ns : List Nat) : Prop where
  mk' ::
  out : ∃ o es ep pl, h.get? a = some o ∧ o.ExactSet ∧ o.data = .set es ep (tbl led pl) ∧ Ents es.toList ns ∧ okPl pl = true ∧ pl.length = ns.length
  nd : ns.Nodup
  lt : ∀ n ∈ ns, n < 24
section
variable {prog : Program} {w : World} {A : Around} {E : Value → Shared → Prop} {s : Shared}
abbrev ledOf (w : World) : Bool := !(w.params.followText "set-order")
theorem setI_new {Q : Value → Shared → Prop} (h : ∀ h' a, h'.objs.size = s.heap.objs.size + 1 → a = s.heap.objs.size → (∀ b o, s.heap.get? b = some o → h'.get? b = some o) → SetI (ledOf w) h' a [] → Q (.ref a) { s with heap := h' }) : wpAny (model prog w) A (newSet (.type "set")) Q E s := by
  unfold newSet setsByText
  refine wpAny_bind (wpAny_bind (wpAny_askSetting (wpAny_pure ?_)))
  dsimp only
  simp only [newObj]
  refine wpAny_bind (wpAny_alloc (wpAny_pure (h _ _ (by rw [Heap.size_push]) rfl (push_keeps _ _) ⟨⟨_, #[], 0, [], Heap.get?_push_size _ rfl, ⟨rfl, rfl, rfl⟩, rfl, .nil, rfl, rfl⟩, List.nodup_nil, fun _ h => nomatch h⟩)))
theorem hash_small {n : Nat} (h : n < 24) : hashInt (n : Int) = (n : Int) := by
  have : ∀ n ∈ List.range 24, hashInt (n : Int) = (n : Int) := by decide +kernel
  exact this n (List.mem_range.mpr h)
theorem Ents.elems : ∀ {l : List (Int × Value)} {ns : List Nat}, Ents l ns → (∀ n ∈ ns, n < 24) → ElemsOf (intKind prog w) l
  | _, _, .nil, _ => fun e he => by cases he
  | _, _, .cons (n := n) h, hl => fun e he => by
    rcases List.mem_cons.mp he with rfl | he
    · exact ⟨⟨(n : Int), by simp [intKind, Value.isInt], (hash_small (hl n (.head _))).symm⟩, rfl⟩
    · exact h.elems (fun m hm => hl m (.tail _ hm)) e he
theorem setI_add {led : Bool} {a : Addr} {ns : List Nat} {n : Nat} {t : Tok} (hS : SetI led s.heap a ns) (hn : n < 24) (hl : ns.length ≤ 2) {Q : Value → Shared → Prop}
    (h : ∀ h' ns', Heap.SameBut a s.heap h' → SetI led h' a ns' → (∀ x, x ∈ ns' ↔ x = n ∨ x ∈ ns) → ns'.length ≤ ns.length + 1 → Q .none { s with heap := h', toks := s.toks + 1 }) : wpAny (model prog w) A (call (.builtin "set.add") [.ref a, .int (n : Int) t]) Q E s := by
  obtain ⟨⟨o, es, ep, pl, ho, hex, hd, hen, hpl, hplen⟩, nd, hlt⟩ := id hS
  have hty : s.TypeIs (.ref a) "set" := ⟨o, ho, hex.1⟩
  have hesz : es.size = ns.length := by rw [← Array.length_toList]; exact hen.len
  have hf : (tbl led pl).fits es.size = true := by rw [hesz]; exact tbl_fits hplen (by lia)
  have hel := hen.elems (prog := prog) (w := w) hlt
  have hkey : (intKind prog w).is (n : Int) (.int (n : Int) t) = true := by simp [intKind, Value.isInt]
  refine wpAny_call_entry PySem.F.slot_set_add hty PySem.F.entry_set_add ?_ (PySem.F.args_set_add_2 _ _)
  unfold Builtin.«set.add» Builtin.Frozenset.oneOther
  simp only [List.isEmpty_nil, bind_assoc]
  unfold Builtin.Frozenset.addrOf setAdd
  refine wpAny_bind (wpAny_pure ?_)
  try dsimp only
  refine wpAny_bind (wpAny_pure ?_)
  try dsimp only
  refine wpAny_bind ?_
  refine wpAny_holding ?_
  refine wpAny_bind ((intKind prog w).pyHash hkey ?_)
  unfold setAddHashed setAddHashedIn
  refine wpAny_holding (wpAny_bind (wpAny_setState_of (s := { s with toks := s.toks + 1 }) ho hd hf ?_))
  dsimp only
  rw [byScan_of rfl (show es.size < scanBound by rw [hesz]; show ns.length < 4096; lia) hel]
  simp only [↓reduceIte]
  unfold setAddByScan
  refine wpAny_bind ?_
  refine wpAny_bind (wpAny_rule ?_)
  refine wpAny_bind (wpAny_setScan_of (knd := intKind prog w) hkey ho hd hf hel ?_)
  have hex' := hen.has n
  cases hr : List.findIdx? (fun e => (intKind prog w).is (n : Int) e.2) es.toList with
  | some j =>
    dsimp only
    obtain ⟨hj, hpj, _⟩ := List.findIdx?_eq_some_iff_getElem.mp hr
    have hin : n ∈ ns := hex'.mp ⟨es.toList[j], List.getElem_mem hj, hpj⟩
    refine wpAny_pure (wpAny_pure ?_)
    show wpAny _ _ (ret Value.none) _ _ _
    exact wpAny_pure ⟨_, rfl, h s.heap ns (Heap.SameBut.refl a s.heap) hS (fun x => ⟨.inr, fun q => q.elim (fun e => e ▸ hin) id⟩) (by lia)⟩
  | none =>
    dsimp only
    have hout : n ∉ ns := fun q => by
      obtain ⟨e, he, hp⟩ := hex'.mpr q
      have := List.findIdx?_eq_none_iff.mp hr e he
      rw [show (intKind prog w).is (n : Int) e.2 = true from hp] at this; cases this
    obtain ⟨pl', p, hlay, hpl', hlen', hple⟩ := lay_small (led := led) hpl (by lia) hn (by lia : es.size = pl.length) (.int (n : Int) t)
    have hh : (intKind prog w).hash (n : Int) = (n : Int) := hash_small hn
    rw [hh, hlay]
    dsimp only
    have hil := insert_list (x := ((n : Int), .int (n : Int) t)) (show p ≤ es.size by lia)
    have hsz' : (SetTable.insertAt es p ((n : Int), .int (n : Int) t)).size = es.size + 1 := by
      rw [← Array.length_toList, hil]; simp; lia
    have hen' : Ents (SetTable.insertAt es p ((n : Int), .int (n : Int) t)).toList (ns.take p ++ n :: ns.drop p) := by
      rw [hil]; exact (hen.take p).app (.cons (hen.drop p))
    have hgw : ∀ (b : Bool) {s₁ : Shared} {Q' : Unit → Shared → Prop}, Q' () s₁ → wpAny (model prog w) A (match b with | true => rule "set.scan.the-table-gave-way" | false => pure ()) Q' NoE s₁ :=
      fun b s₁ Q' hq => by cases b <;> first | exact wpAny_pure hq | exact wpAny_rule hq
    have hfull : (tbl led pl').tooFull = false := by
      have := okPl_len hpl'
      simp [SetTable.tooFull, SetTable.fill, tbl]; lia
    have hend : ∀ h', Heap.SameBut a s.heap h' → h'.get? a = some { o with data := .set (SetTable.insertAt es p ((n : Int), .int (n : Int) t)) (ep + 1) (tbl led pl') } → SetI led h' a (ns.take p ++ n :: ns.drop p) := fun h' _ e => by
      refine ⟨⟨_, _, _, pl', e, hex, rfl, hen', hpl', ?_⟩, ?_, fun x hx => ?_⟩
      · rw [hlen', hplen, List.length_append, List.length_cons, List.length_take, List.length_drop]; lia
      · refine (List.perm_middle.nodup_iff).mpr ?_
        rw [List.take_append_drop]
        exact List.nodup_cons.mpr ⟨hout, nd⟩
      · have := (List.perm_middle (a := n) (l₁ := ns.take p) (l₂ := ns.drop p)).mem_iff.mp hx
        rw [List.take_append_drop] at this
        rcases List.mem_cons.mp this with rfl | q
        · exact hn
        · exact hlt x q
    have hg : (s.heap.update a (Obj.putSet (SetTable.insertAt es p ((n : Int), .int (n : Int) t)) (tbl led pl'))).get? a = some { o with data := .set (SetTable.insertAt es p ((n : Int), .int (n : Int) t)) (ep + 1) (tbl led pl') } := by
      have := Heap.get?_update_self (Obj.putSet (SetTable.insertAt es p ((n : Int), .int (n : Int) t)) (tbl led pl')) ho (by rw [putSet_of _ _ hd]; rfl)
      rw [putSet_of _ _ hd] at this; exact this
    have hsb := Heap.SameBut.update s.heap a (Obj.putSet (SetTable.insertAt es p ((n : Int), .int (n : Int) t)) (tbl led pl'))
    refine wpAny_bind (wpAny_pure ?_)
    have hpn : (tbl led pl').plain = true := rfl
    simp only [hpn, if_true, hashByValue_scannable 8 (show (Value.int (n : Int) t).scannable = true from rfl)]
    refine wpAny_bind (wpAny_pure ?_)
    simp only [plainKind, if_true]
    refine wpAny_bind (wpAny_storeSet_of (s := { s with toks := s.toks + 1 }) ho hd ?_ (by rw [sizeLine_eq, hsz']; lia))
    simp only [hfull, Bool.and_false, Bool.false_eq_true, if_false]
    refine wpAny_pure (wpAny_pure ?_)
    show wpAny _ _ (ret Value.none) _ _ _
    refine wpAny_pure ⟨_, rfl, h _ _ hsb (hend _ hsb hg) (fun x => ?_) ?_⟩
    · have := (List.perm_middle (a := n) (l₁ := ns.take p) (l₂ := ns.drop p)).mem_iff (a := x)
      rw [this, List.take_append_drop, List.mem_cons]
    · rw [List.length_append, List.length_cons, List.length_take, List.length_drop]; lia
end
end Mine


/- XT -/
namespace Mine
set_option maxRecDepth 100000
theorem slot_seti_next : Slot "set_iterator" "__next__" "set_iterator.__next__" :=
  .of (owner := "set_iterator") (n := "__next__") (by rw [typeLookup_type, builtinLookup_eq_fast]; kernel_rfl) (by decide +kernel) (by decide +kernel) (by decide +kernel)
    (by first | exact .inl (by decide +kernel) | exact .inr (by decide +kernel)) (by rw [isSubtype_type]; kernel_rfl)
theorem slot_seti_iter : Slot "set_iterator" "__iter__" "set_iterator.__iter__" :=
  .of (owner := "set_iterator") (n := "__iter__") (by rw [typeLookup_type, builtinLookup_eq_fast]; kernel_rfl) (by decide +kernel) (by decide +kernel) (by decide +kernel)
    (by first | exact .inl (by decide +kernel) | exact .inr (by decide +kernel)) (by rw [isSubtype_type]; kernel_rfl)
theorem entry_seti_next : entryFor table "set_iterator.__next__" = some Builtin.«set_iterator.__next__» := entryFor_of_tree (by kernel_rfl)
theorem args_seti_next (a : Value) : argsOk "set_iterator.__next__" ⟨[a], []⟩ := by unfold argsOk; kernel_rfl
theorem args_seti_iter (a : Value) : argsOk "set_iterator.__iter__" ⟨[a], []⟩ := by unfold argsOk; kernel_rfl
theorem entry_seti_iter : entryFor table "set_iterator.__iter__" = some Builtin.«dict_keyiterator.__iter__» :=
  entryFor_alias (id' := "dict_keyiterator.__iter__") (by kernel_rfl) rfl (by decide +kernel) (by kernel_rfl)
theorem entry_set_iter : entryFor table "set.__iter__" = some Builtin.«frozenset.__iter__» :=
  entryFor_alias (id' := "frozenset.__iter__") (by kernel_rfl) rfl (by decide +kernel) (by kernel_rfl)
section
variable {prog : Program} {w : World} {A : Around} {E : Value → Shared → Prop} {s : Shared}
def IsSetIt (h : Heap) (it a : Addr) (sl i n ep : Nat) : Prop := ∃ o, h.get? it = some o ∧ o.cls = .type "set_iterator" ∧ o.data = .fields #[.int (sl : Int) 0, .int (i : Int) 0, .ref a, .int (n : Int) 0, .int (ep : Int) 0]
theorem IsSetIt.typeIs {it a : Addr} {sl i n ep : Nat} (x : IsSetIt s.heap it a sl i n ep) : s.TypeIs (.ref it) "set_iterator" := let ⟨o, ho, hc, _⟩ := x; ⟨o, ho, hc⟩
theorem IsSetIt.at' {h h' : Heap} {it a : Addr} {sl i n ep : Nat} (x : IsSetIt h it a sl i n ep) (e : ∀ o, h.get? it = some o → h'.get? it = some o) : IsSetIt h' it a sl i n ep := let ⟨o, ho, r⟩ := x; ⟨o, e _ ho, r⟩
structure SetW (led : Bool) (h : Heap) (a : Addr) (es : Array (Int × Value)) (ep : Nat) (pl ns : List Nat) : Prop where
  mk' ::
  out : ∃ o, h.get? a = some o ∧ o.ExactSet ∧ o.data = .set es ep (tbl led pl)
  en : Ents es.toList ns
  okp : okPl pl = true
  le : pl.length = ns.length
theorem SetW.at' {led : Bool} {h h' : Heap} {a : Addr} {es : Array (Int × Value)} {ep : Nat} {pl ns : List Nat} (x : SetW led h a es ep pl ns) (e : ∀ o, h.get? a = some o → h'.get? a = some o) : SetW led h' a es ep pl ns :=
  ⟨let ⟨o, ho, r⟩ := x.out; ⟨o, e _ ho, r⟩, x.en, x.okp, x.le⟩
theorem SetW.size {led : Bool} {h : Heap} {a : Addr} {es : Array (Int × Value)} {ep : Nat} {pl ns : List Nat} (x : SetW led h a es ep pl ns) : es.size = ns.length := by rw [← Array.length_toList]; exact x.en.len
theorem SetW.fits {led : Bool} {h : Heap} {a : Addr} {es : Array (Int × Value)} {ep : Nat} {pl ns : List Nat} (x : SetW led h a es ep pl ns) : (tbl led pl).fits es.size = true := by
  rw [x.size]; exact tbl_fits x.le (by have := okPl_len x.okp; have := x.le; lia)
theorem pyIter_set {led : Bool} {a : Addr} {es : Array (Int × Value)} {ep : Nat} {pl ns : List Nat} {Q : Value → Shared → Prop} (hS : SetW led s.heap a es ep pl ns)
    (hQ : Q (.ref s.heap.objs.size) { s with heap := s.heap.push { cls := .type "set_iterator", data := .fields #[.int ((0 : Nat) : Int) 0, .int ((0 : Nat) : Int) 0, .ref a, .int (ns.length : Int) 0, .int (ep : Int) 0] } }) :
    wpAny (model prog w) A (pyIter (.ref a)) Q E s := by
  obtain ⟨o, ho, hex, hd⟩ := hS.out
  have hT : s.TypeIs (.ref a) "set" := ⟨o, ho, hex.1⟩
  refine wpAny_pyIter_slot hT PySem.F.slot_set_iter (wpAny_call_entry PySem.F.slot_set_iter hT entry_set_iter ?_ (PySem.F.args_set_iter_1 _))
  unfold Builtin.«frozenset.__iter__»
  have hf := hS.fits
  unfold Builtin.Frozenset.slot0 slotArgs
  simp only [List.isEmpty_nil, Bool.not_true, Bool.false_eq_true, ↓reduceIte, bind_assoc, List.length_nil, bne_self_eq_false]
  unfold Builtin.Frozenset.addrOf Builtin.Frozenset.sizeOf
  refine wpAny_bind (wpAny_pure ?_)
  try dsimp only
  refine wpAny_bind (wpAny_pure ?_)
  refine wpAny_bind (wpAny_bind (wpAny_setEntries_of ho hd hf (wpAny_pure ?_)))
  unfold setDrawn
  refine wpAny_bind (wpAny_bind (wpAny_setState_of ho hd hf ?_))
  unfold setsByText
  refine wpAny_bind (wpAny_bind (wpAny_askSetting (wpAny_pure ?_)))
  refine wpAny_pure ?_
  refine wpAny_ite_split (fun h => Bool.noConfusion (show false = true from (Bool.and_eq_true_iff.mp h).2)) fun _ => ?_
  refine wpAny_bind (wpAny_pure ?_)
  refine wpAny_bind (wpAny_setEpoch_of ho hd hf ?_)
  simp only [newFields]
  refine wpAny_bind (wpAny_newObj_type (wpAny_pure ⟨_, rfl, "set_iterator", _, ⟨_, Heap.get?_push_size _ rfl, rfl⟩, slot_seti_next.lookup, ?_⟩))
  have hsz := hS.size
  simpa [rawInt, hsz] using hQ
theorem pyIter_seti {it a : Addr} {sl i n ep : Nat} {Q : Value → Shared → Prop} (hit : IsSetIt s.heap it a sl i n ep) (h : Q (.ref it) s) : wpAny (model prog w) A (pyIter (.ref it)) Q E s := by
  refine wpAny_pyIter_slot hit.typeIs slot_seti_iter (wpAny_call_entry slot_seti_iter hit.typeIs entry_seti_iter ?_ (args_seti_iter _))
  show wpAny _ _ (ret (.ref it)) _ _ s
  exact wpAny_pure ⟨_, rfl, "set_iterator", _, hit.typeIs, slot_seti_next.lookup, h⟩
def ordEs (w : World) (a : Addr) (ep : Nat) (es : Array (Int × Value)) : Array (Int × Value) := if w.params.followText "set-order" then pickOrder (w.params.setOrder a ep) es else es
def slotAt (w : World) (pl : List Nat) (i : Nat) : Nat := if w.params.followText "set-order" then 0 else if i = 0 then 0 else pl.getD (i - 1) 0 + 1
theorem erase_perm : ∀ {l : List (Int × Value)} {j : Nat} (h : j < l.length), (l[j] :: l.eraseIdx j).Perm l
  | a :: l, 0, _ => .refl _
  | a :: l, j + 1, h => (List.Perm.swap _ _ _).trans ((erase_perm (l := l) (j := j) (by simpa using h)).cons a)
theorem pick_go (next : Nat → Nat) : ∀ (fuel k : Nat) (left : List (Int × Value)) (out : Array (Int × Value)), left.length ≤ fuel → (pickOrder.go next fuel k left out).toList.Perm (out.toList ++ left)
  | 0, k, left, out, h => by
    rw [show left = [] from List.length_eq_zero_iff.mp (by lia), List.append_nil]
    exact .refl _
  | fuel + 1, k, left, out, h => by
    unfold pickOrder.go
    cases left with
    | nil => simp
    | cons a l =>
      have hlt : next k % (a :: l).length < (a :: l).length := Nat.mod_lt _ (by simp)
      generalize next k % (a :: l).length = j at hlt
      generalize a :: l = left at hlt h
      rw [List.getElem?_eq_getElem hlt]
      dsimp only
      have hl : (left.eraseIdx j).length = left.length - 1 := by rw [List.length_eraseIdx, if_pos hlt]
      refine (pick_go next fuel (k + 1) _ _ (by lia)).trans ?_
      rw [Array.toList_push, List.append_assoc]
      exact (List.Perm.refl _).append (erase_perm hlt)
theorem ord_perm (w : World) (a : Addr) (ep : Nat) (es : Array (Int × Value)) : (ordEs w a ep es).toList.Perm es.toList := by
  unfold ordEs
  split
  · unfold pickOrder
    have := pick_go (w.params.setOrder a ep) es.size 0 es.toList #[] (by simp)
    simpa using this
  · exact .refl _
def pls3 : List (List Nat) := pls2 ++ (List.range 8).flatMap fun c => (List.range c).flatMap fun b => (List.range b).map fun a => [a, b, c]
theorem pls3_mem {pl : List Nat} (h : okPl pl = true) : pl ∈ pls3 := by
  match pl, h with
  | [], h => exact List.mem_append_left _ (pls2_mem h (by decide))
  | [a], h => exact List.mem_append_left _ (pls2_mem h (Nat.le_of_ble_eq_true rfl))
  | [a, b], h => exact List.mem_append_left _ (pls2_mem h (Nat.le_of_ble_eq_true rfl))
  | [a, b, c], h =>
    have h : a < b ∧ b < c ∧ c < 8 := by simpa [okPl] using h
    exact List.mem_append_right _ (List.mem_flatMap.mpr ⟨c, List.mem_range.mpr h.2.2, List.mem_flatMap.mpr ⟨b, List.mem_range.mpr h.2.1, List.mem_map.mpr ⟨a, List.mem_range.mpr h.1, rfl⟩⟩⟩)
  | _ :: _ :: _ :: _ :: _, h => simp [okPl] at h
theorem below_all : ∀ pl ∈ pls3, ∀ i ∈ List.range 4, i ≤ pl.length → SetTable.below pl.toArray (if i = 0 then 0 else pl.getD (i - 1) 0 + 1) = i := by decide +kernel
theorem setNext_at {a : Addr} {es : Array (Int × Value)} {ep i : Nat} {pl ns : List Nat} (hS : SetW (ledOf w) s.heap a es ep pl ns) (hi : i ≤ ns.length) {Q : Option (Value × Nat) → Shared → Prop}
    (hQ : Q (((ordEs w a ep es)[i]?).map fun e => (e.2, slotAt w pl (i + 1))) s) : wpAny (model prog w) A (setNext a (slotAt w pl i) i ep) Q E s := by
  obtain ⟨oS, hoS, hexS, hdS⟩ := hS.out
  have hf := hS.fits
  have hsz := hS.size
  have hle := hS.le
  have h3 := okPl_len hS.okp
  unfold setNext
  refine wpAny_bind (wpAny_setState_of hoS hdS hf ?_)
  dsimp only
  unfold setsByText
  refine wpAny_bind (wpAny_bind (wpAny_askSetting (wpAny_pure ?_)))
  dsimp only
  unfold ordEs slotAt at hQ
  unfold slotAt
  cases hb : w.params.followText "set-order" with
  | true =>
    rw [hb] at hQ
    simp only [if_true] at hQ ⊢
    rw [if_pos (show (model prog w).w.params.followText "set-order" = true from hb)]
    refine wpAny_ite_split (fun h => absurd h (by simp)) fun _ => ?_
    unfold setWalk
    refine wpAny_bind (wpAny_bind (wpAny_setState_of hoS hdS hf ?_))
    dsimp only
    unfold setsByText
    refine wpAny_bind (wpAny_bind (wpAny_askSetting (wpAny_pure ?_)))
    dsimp only
    rw [if_pos (show (model prog w).w.params.followText "set-order" = true from hb)]
    refine wpAny_bind (wpAny_askSetting (wpAny_pure ?_))
    exact wpAny_pure hQ
  | false =>
    rw [hb] at hQ
    simp only [Bool.false_eq_true, if_false] at hQ ⊢
    rw [if_neg (fun h => by rw [show (model prog w).w.params.followText "set-order" = false from hb] at h; cases h)]
    refine wpAny_ite_split (fun h => Bool.noConfusion (show false = true from h)) fun _ => ?_
    refine wpAny_bind (wpAny_ite_split (fun h => ?_) fun _ => wpAny_pure ?_)
    · have : (tbl (ledOf w) pl).led = true := by show ledOf w = true; rw [ledOf, hb]; rfl
      rw [this] at h; simp at h
    have hbl : SetTable.below (tbl (ledOf w) pl).place (if i = 0 then 0 else pl.getD (i - 1) 0 + 1) = i := below_all pl (pls3_mem hS.okp) i (List.mem_range.mpr (by lia)) (by lia)
    rw [hbl]
    refine wpAny_pure ?_
    have hpl : (tbl (ledOf w) pl).place[i]? = pl[i]? := by simp [tbl]
    rw [hpl]
    by_cases c : i < pl.length
    · have c' : i < es.size := by lia
      rw [Array.getElem?_eq_getElem c'] at hQ ⊢
      rw [List.getElem?_eq_getElem c]
      rw [Option.map_some, if_neg (by lia), Nat.add_sub_cancel, List.getD_eq_getElem?_getD, List.getElem?_eq_getElem c] at hQ
      exact hQ
    · have c' : ¬ i < es.size := by lia
      rw [Array.getElem?_eq_none (by lia)] at hQ ⊢
      exact hQ
theorem next_seti {a it : Addr} {es : Array (Int × Value)} {ep i : Nat} {pl ns : List Nat} (hh : A.handled = none) (hne : a ≠ it) (hS : SetW (ledOf w) s.heap a es ep pl ns) (hit : IsSetIt s.heap it a (slotAt w pl i) i ns.length ep) (hi : i < ns.length) {Q : Option Value → Shared → Prop}
    (hQ : ∀ x h', (ordEs w a ep es)[i]? = some x → IsSetIt h' it a (slotAt w pl (i + 1)) (i + 1) ns.length ep → (∀ b o, b ≠ it → s.heap.get? b = some o → h'.get? b = some o) → Q (some x.2) { s with heap := h' }) : wpAny (model prog w) A (pyNext (.ref it)) Q E s := by
  obtain ⟨o, ho, hc, hd⟩ := id hit
  obtain ⟨oS, hoS, hexS, hdS⟩ := hS.out
  have hf := hS.fits
  have hsz := hS.size
  unfold pyNext
  refine wpAny_bind (wpAny_attempt (wpAny_callSpecial?_slot (name := Str.ofString "__next__") hit.typeIs slot_seti_next
    (wpAny_call_entry slot_seti_next hit.typeIs entry_seti_next ?_ (args_seti_next _))))
  unfold Builtin.«set_iterator.__next__» slotArgs
  simp only [List.isEmpty_nil, Bool.not_true, Bool.false_eq_true, ↓reduceIte, bind_assoc, List.length_nil, bne_self_eq_false]
  refine wpAny_bind (wpAny_pure ?_)
  refine wpAny_bind (wpAny_fieldsOf ho hd ?_)
  dsimp only
  refine wpAny_bind (wpAny_setEntries_of hoS hdS hf ?_)
  rw [if_neg (by rw [hsz]; simp)]
  simp only [Int.toNat_natCast]
  refine wpAny_bind (setNext_at (A := A.in1) hS (by lia) ?_)
  have hi' : i < (ordEs w a ep es).size := by rw [← Array.length_toList, (ord_perm w a ep es).length_eq, Array.length_toList, hsz]; exact hi
  rw [Array.getElem?_eq_getElem hi', Option.map_some]
  dsimp only
  refine wpAny_bind (wpAny_setField ho hd (by simp) ?_)
  have ho2 := Heap.get?_update_self (Obj.mapFields (·.setIfInBounds 0 (rawInt ((slotAt w pl (i + 1) : Nat) : Int)))) ho (Obj.isFreed_of_fields (Obj.data_mapFields hd _))
  have hd2 := Obj.data_mapFields hd (·.setIfInBounds 0 (rawInt ((slotAt w pl (i + 1) : Nat) : Int)))
  refine wpAny_bind (wpAny_setField ho2 hd2 (by simp) ?_)
  have ho3 := Heap.get?_update_self (Obj.mapFields (·.setIfInBounds 1 (rawInt ((i : Int) + 1)))) ho2 (Obj.isFreed_of_fields (Obj.data_mapFields hd2 _))
  have hd3 := Obj.data_mapFields hd2 (·.setIfInBounds 1 (rawInt ((i : Int) + 1)))
  refine wpAny_pure ⟨_, rfl, wpAny_pure (hQ _ _ (Array.getElem?_eq_getElem hi') ⟨_, ho3, (Obj.cls_mapFields ..).trans ((Obj.cls_mapFields ..).trans hc), hd3.trans (by simp [rawInt])⟩ fun b o' hb e => ?_)⟩
  rw [Heap.get?_update_ne _ _ _ _ hb, Heap.get?_update_ne _ _ _ _ hb]; exact e
theorem next_end {a it : Addr} {es : Array (Int × Value)} {ep : Nat} {pl ns : List Nat} (hh : A.handled = none) (hS : SetW (ledOf w) s.heap a es ep pl ns) (hit : IsSetIt s.heap it a (slotAt w pl ns.length) ns.length ns.length ep) {Q : Option Value → Shared → Prop}
    (hQ : ∀ h', Heap.ExtBut it s.heap h' → Q none { s with heap := h' }) : wpAny (model prog w) A (pyNext (.ref it)) Q E s := by
  obtain ⟨o, ho, hc, hd⟩ := id hit
  obtain ⟨oS, hoS, hexS, hdS⟩ := hS.out
  have hf := hS.fits
  have hsz := hS.size
  unfold pyNext
  refine wpAny_bind (wpAny_attempt (wpAny_callSpecial?_slot (name := Str.ofString "__next__") hit.typeIs slot_seti_next
    (wpAny_call_entry slot_seti_next hit.typeIs entry_seti_next ?_ (args_seti_next _))))
  unfold Builtin.«set_iterator.__next__» slotArgs
  simp only [List.isEmpty_nil, Bool.not_true, Bool.false_eq_true, ↓reduceIte, bind_assoc, List.length_nil, bne_self_eq_false]
  refine wpAny_bind (wpAny_pure ?_)
  refine wpAny_bind (wpAny_fieldsOf ho hd ?_)
  dsimp only
  refine wpAny_bind (wpAny_setEntries_of hoS hdS hf ?_)
  rw [if_neg (by rw [hsz]; simp)]
  simp only [Int.toNat_natCast]
  refine wpAny_bind (setNext_at (A := A.in1) hS (by lia) ?_)
  have hi' : (ordEs w a ep es).size = ns.length := by rw [← hsz, ← Array.length_toList, (ord_perm w a ep es).length_eq, Array.length_toList]
  rw [Array.getElem?_eq_none (by lia), Option.map_none]
  dsimp only
  refine wpAny_bind (wpAny_setField ho hd (by simp) ?_)
  show wpAny _ _ (newExc (.type "StopIteration") [] >>= _) _ _ _
  refine wpAny_bind ?_
  simp only [newExc, newTuple]
  refine wpAny_bind (wpAny_newObj_type ?_ (by size_fits))
  refine wpAny_bind (m := firstArgMember _ _) (wpAny_of_eq (a := Value.none) (by first | rfl | (simp only [firstArgMember]; rfl)) ?_)
  refine wpAny_newObj_type ?_ (by size_fits)
  simp only [raiseNew]
  refine wpAny_bind (wpAny_handled ?_)
  rw [show A.in1.handled = none from hh]
  refine wpAny_bind (wpAny_pure (wpAny_throw ?_))
  refine wpAny_bind (wpAny_isInstance (T := "StopIteration") (b := true) ⟨_, Heap.get?_push_size _ rfl, rfl⟩ isSubtype_stop ?_)
  exact wpAny_pure (hQ _ (((Heap.SameBut.update ..).extBut.push _).push _))
theorem walk_set (hh : A.handled = none) {I a : Addr} (hne : a ≠ I) {es : Array (Int × Value)} {ep : Nat} {pl ns : List Nat} :
    Walks prog w A I [I, a] [I] ns.length (fun i v => ∃ x, (ordEs w a ep es)[i]? = some x ∧ v = x.2) (fun i h => IsSetIt h I a (slotAt w pl i) i ns.length ep ∧ SetW (ledOf w) h a es ep pl ns) where
  sub := fun b hb => by simp at hb; simp [hb]
  frame := fun _ _ _ st hk => ⟨st.1.at' fun o e => hk I (by simp) o e, st.2.at' fun o e => hk a (by simp) o e⟩
  item := fun i s Q E hi st hQ => next_seti hh hne st.2 st.1 hi fun x h' hx hit' hk => hQ x.2 h' s.toks ⟨x, hx, rfl⟩ ⟨hit', st.2.at' fun o e => hk a o hne e⟩ fun b o hb e => hk b o (fun z => hb (by simp [z])) e
  done := fun s Q E st hQ => next_end hh st.2 st.1 fun h' he' => hQ h' s.toks fun b o hb e => he' b o (fun h => hb (by simp [h])) e
  self := fun _ _ _ _ st hQ => pyIter_seti st.1 hQ
theorem hint_set {r : Addr} {Q : Bool → Shared → Prop} (hT : s.TypeIs (.ref r) "set") (h : Q false s) : wpAny (model prog w) A (Builtin.List.listLengthHint (.ref r)) Q E s := by
  unfold Builtin.List.listLengthHint
  refine wpAny_bind (wpAny_specialOf hT PySem.F.slot_set_len.lookup ?_)
  generalize hid : ("set.__len__" : String) = id0
  wp_delta
  rw [show splitId id0 = some ("set", "__len__") from by subst hid; decide +kernel]
  subst hid
  refine wpAny_bind (wpAny_isInstance (T := "set") (b := true) hT (by rw [isSubtype_type]; kernel_rfl) ?_)
  refine wpAny_ite_split (fun hab => absurd hab (by decide)) (fun _ => ?_)
  refine wpAny_ite_split (fun _ => ?_) (fun hab => absurd (by decide +kernel) hab)
  refine wpAny_bind (wpAny_typeOf hT ?_)
  exact wpAny_pure h
theorem src_set {a : Addr} {es : Array (Int × Value)} {ep : Nat} {pl ns : List Nat} : KdlSrc prog w "set" a a ns.length (fun i v => ∃ x, (ordEs w a ep es)[i]? = some x ∧ v = x.2) (fun h => SetW (ledOf w) h a es ep pl ns) where
  type := fun _ hm => let ⟨o, ho, hex, _⟩ := hm.out; ⟨o, ho, hex.1⟩
  there := fun _ hm => let ⟨o, ho, _⟩ := hm.out; ⟨Heap.lt_size ho, Heap.lt_size ho⟩
  keep := fun _ _ hm hk => hm.at' fun o e => hk a (.inl rfl) o e
  notList := by decide
  notTuple := by decide
  hint := fun _ _ _ _ hm hq => let ⟨o, ho, hex, _⟩ := hm.out; hint_set ⟨o, ho, hex.1⟩ hq
  iter := fun _ _ hh hm => ⟨_, _, (fun _ _ hq => pyIter_set hm hq), walk_set hh (by obtain ⟨o, ho, _⟩ := hm.out; exact Nat.ne_of_lt (Heap.lt_size ho)) (es := es) (ep := ep) (pl := pl),
    ⟨⟨_, Heap.get?_push_size _ rfl, rfl, by unfold slotAt; simp⟩, hm.at' fun o e => push_keeps _ _ _ _ e⟩⟩
end
end Mine


/- XU -/
namespace Mine
set_option maxRecDepth 100000
theorem Ents.fsts : ∀ {l : List (Int × Value)} {ns : List Nat}, Ents l ns → l.map (·.1) = ns.map fun n : Nat => (n : Int)
  | _, _, .nil => rfl
  | _, _, .cons h => congrArg (_ :: ·) h.fsts
theorem Ents.each : ∀ {l : List (Int × Value)} {ns : List Nat}, Ents l ns → ∀ e ∈ l, ∃ t, e.2 = .int e.1 t
  | _, _, .nil, e, he => by cases he
  | _, _, .cons (t := t) h, e, he => by
    rcases List.mem_cons.mp he with rfl | he
    · exact ⟨t, rfl⟩
    · exact h.each e he
theorem ints_of : ∀ {l : List (Int × Value)}, (∀ e ∈ l, ∃ t, e.2 = .int e.1 t) → IntsAre (l.map (·.2)) (l.map (·.1))
  | [], _ => .nil
  | e :: l, h => by
    obtain ⟨t, ht⟩ := h e (.head _)
    rw [List.map_cons, List.map_cons, ht]
    exact .cons _ _ (ints_of fun x hx => h x (.tail _ hx))
section
variable {prog : Program} {w : World} {A : Around} {E : Value → Shared → Prop} {s : Shared}
theorem sorted_set {a : Addr} {ns : List Nat} (hh : A.handled = none) (hS : SetI (ledOf w) s.heap a ns) (hn : ns.length ≤ 3) {Q : Value → Shared → Prop}
    (hQ : ∀ (h' : Heap) (tk : Nat) (L : Addr) (vs : List Value) (ms : List Nat), (∀ b o, s.heap.get? b = some o → h'.get? b = some o) → s.heap.get? L = none → PL h' L vs.toArray → IntsAre vs (ms.map fun n : Nat => (n : Int)) → ms.Perm ns → ms.Pairwise (· ≤ ·) → Q (.ref L) { s with heap := h', toks := tk }) :
    wpAny (model prog w) A (call (.builtin "sorted") [.ref a]) Q E s := by
  obtain ⟨o, es, ep, pl, ho, hex, hd, hen, hpl, hle⟩ := hS.out
  have hW : SetW (ledOf w) s.heap a es ep pl ns := ⟨⟨o, ho, hex, hd⟩, hen, hpl, hle⟩
  refine Calls.call_function_entry kind_sorted plain_sorted entry_sorted (args_sorted1 _) ?_
  unfold Builtin.«sorted»
  refine wpAny_bind (m := checkCount "sorted" 1 1 _) (wpAny_pure ?_)
  refine wpAny_bind (kdu_collect (A := A.in1) src_set hh hW (by rw [sizeLine_eq]; lia) fun h' tk acc hk hacc => ?_)
  have hperm := ord_perm w a ep es
  have hsz : (ordEs w a ep es).toList.length = ns.length := by rw [hperm.length_eq]; exact hen.len
  have hvals : acc.toList = (ordEs w a ep es).toList.map (·.2) := by
    refine List.ext_getElem? fun i => ?_
    rw [List.getElem?_map, Array.getElem?_toList, Array.getElem?_toList]
    by_cases c : i < acc.size
    · obtain ⟨x, hx, e⟩ := hacc.2 i acc[i] (Array.getElem?_eq_getElem c)
      rw [Array.getElem?_eq_getElem c, hx, e]; rfl
    · rw [Array.getElem?_eq_none (by lia), Array.getElem?_eq_none]
      · rfl
      · rw [← Array.length_toList, hsz]; have := hacc.1; lia
  have hI : IntsAre acc.toList ((ordEs w a ep es).toList.map (·.1)) := by
    rw [hvals]; exact ints_of fun e he => hen.each e (hperm.mem_iff.mp he)
  have hfst : ((ordEs w a ep es).toList.map (·.1)).Perm (ns.map fun n : Nat => (n : Int)) := by
    rw [← hen.fsts]; exact hperm.map _
  have hal : acc.toList.length = ns.length := by rw [hvals, List.length_map, hsz]
  refine wpAny_bind (wpAny_newList ?_ (by rw [hal, sizeLine_eq]; lia))
  have hoL : (h'.push (seqObj "list" acc.toList.toArray 0)).get? h'.objs.size = some (seqObj "list" acc.toList.toArray 0) := Heap.get?_push_size _ rfl
  refine wpAny_bind (wpAny_holding (wpAny_call_entry slot_list_sort ⟨_, hoL, rfl⟩ entry_list_sort (list_sort_tree hoL hI (by lia) fun out ns' a1 a2 a3 => ⟨_, rfl, ?_⟩) (args_list_sort _)))
  have hmem : ∀ x ∈ ns', 0 ≤ x := fun x hx => by
    obtain ⟨n, _, rfl⟩ := List.mem_map.mp ((a2.trans hfst).mem_iff.mp hx)
    exact Int.natCast_nonneg n
  have hback : (ns'.map Int.toNat).map (fun n : Nat => (n : Int)) = ns' := by
    rw [List.map_map]
    exact (List.map_congr_left fun x hx => Int.toNat_of_nonneg (hmem x hx)).trans (List.map_id _)
  obtain ⟨e, he⟩ := sortedHeap_at (out := out) hoL
  refine wpAny_pure ⟨_, rfl, hQ _ _ _ out.toList (ns'.map Int.toNat) (fun b o' q => ?_) ?_ ⟨_, e, he, rfl, ⟨rfl, rfl⟩, rfl⟩ (by rw [hback]; exact a1) ?_ ?_⟩
  · have hb := Heap.lt_size (hk b o' q)
    rw [sortedHeap_old (Nat.ne_of_lt hb) (by rw [Heap.size_push]; lia), Heap.get?_push_ne _ _ _ (Nat.ne_of_lt hb)]
    exact hk b o' q
  · cases q : s.heap.get? h'.objs.size with
    | none => rfl
    | some o' => exact absurd (Heap.lt_size (hk _ _ q)) (Nat.lt_irrefl _)
  · have := (a2.trans hfst).map Int.toNat
    rw [List.map_map] at this
    rwa [show (Int.toNat ∘ fun n : Nat => (n : Int)) = id from funext fun n => Int.toNat_natCast n, List.map_id] at this
  · rw [List.pairwise_map]
    exact a3.imp fun h => by lia
end
end Mine


/- XV -/
namespace Mine
variable {g : Gx} {ℓ : Nat} {fi : FI} {X : List Addr} {h₀ : Heap} {O : List (Str × Addr)} {env : Env} {σ : St} {s : Shared} {ρ : AEnv} {H : Heap} {Dd : Addr} {ds : List D}
theorem turn_set {prog : Program} {w : World} {A : Around} {s : Shared} {elt target iter : Expr} {scope : Scope} {pos : Pos} {it acc : Value} {env : Env} {Q : Fin → Shared → Prop} {E : Value → Shared → Prop}
    (ht : ∀ v, letOwnedTupleGo target it v = pure ())
    (h : wpAny (model prog w) A (pyNext it) (fun r s₁ => match r with
      | none => Q (.done .next) s₁
      | some v => wpAny (model prog w) A (assign target env v) (fun _ s₂ => wpAny (model prog w) A (eval elt env) (fun x s₄ => wpAny (model prog w) A (call (.builtin "set.add") [acc, x]) (fun _ s₅ => Q (.again (.compLoop (.SetComp elt [⟨target, iter, [], 0⟩] scope pos) 0 it acc env)) s₅) E s₄) E s₂) E s₁) E s) :
    wpAny (model prog w) A (compTurn (.SetComp elt [⟨target, iter, [], 0⟩] scope pos) 0 it acc env) Q E s := by
  unfold compTurn
  dsimp only
  refine wpAny_bind (wpAny_standAt ?_)
  simp only [bne_self_eq_false, Bool.false_eq_true, if_false]
  refine wpAny_bind (wpAny_mono h (fun r s₁ h₁ => ?_) fun _ _ e => e)
  cases r with
  | none => exact wpAny_pure h₁
  | some v =>
    refine wpAny_bind (wpAny_of_eq (ht v) (wpAny_bind (wpAny_mono h₁ (fun _ s₂ h₂ => ?_) fun _ _ e => e)))
    refine wpAny_bind (wpAny_pure ?_)
    simp only [if_true]
    exact wpAny_bind (wpAny_bind (wpAny_mono h₂ (fun x s₄ h₄ => wpAny_bind (wpAny_standAt (wpAny_bind (wpAny_mono h₄ (fun _ s₅ h₅ => wpAny_pure (wpAny_pure h₅)) fun _ _ e => e)))) fun _ _ e => e))
theorem start_set {elt : Expr} {c : Comprehension} {scope : Scope} {pos : Pos} {it acc : Value} {prog : Program} {w : World} {A : Around} {R : Result → Shared → Prop}
    (hc : c.is_async = 0) (h0 : codeAny (model prog w) A (.compLoop (.SetComp elt [c] scope pos) 0 it acc env) R s)
    (h : ∀ {Q : Value → Shared → Prop} {E : Value → Shared → Prop}, Q it s → wpAny (model prog w) A (pyIter it) Q E s) :
    codeAny (model prog w) A (.compStart (.SetComp elt [c] scope pos) 0 it acc env) R s := by
  refine codeAny_of_tree ?_
  show wpAny _ _ ((compStart (.SetComp elt [c] scope pos) 0 it acc env).onRaise (fun x => do noteFrame x env; standAt theWindowsPlace)) _ _ s
  refine wpAny_notedAt ?_
  unfold compStart
  have e1 : (clausesOf (.SetComp elt [c] scope pos))[0]? = some c := rfl
  simp only [e1, Option.elim, hc, bne_self_eq_false, Bool.false_eq_true, if_false]
  show wpAny _ _ (ask >>= _) _ _ s
  refine wpAny_bind (wpAny_askSetting (wpAny_ite ?_))
  split
  · first
      | exact wpAny_bind (wpAny_pure (wpAny_pure (And.intro rfl h0)))
      | exact wpAny_pure (And.intro rfl h0)
  · refine wpAny_bind (wpAny_rule ?_)
    first
      | exact wpAny_bind (wpAny_standAt (wpAny_bind (h (wpAny_pure (And.intro rfl h0)))))
      | (show wpAny _ _ (standAt c.iter.pos >>= _) _ _ s; exact wpAny_bind (wpAny_standAt (wpAny_bind (h (wpAny_pure (And.intro rfl h0))))))
theorem SetI.keep {led : Bool} {h h' : Heap} {a : Addr} {ns : List Nat} (x : SetI led h a ns) (e : ∀ o, h.get? a = some o → h'.get? a = some o) : SetI led h' a ns :=
  ⟨let ⟨o, es, ep, pl, ho, r⟩ := x.out; ⟨o, es, ep, pl, e o ho, r⟩, x.nd, x.lt⟩
theorem SetI.obj {led : Bool} {h : Heap} {a : Addr} {ns : List Nat} (x : SetI led h a ns) : ∃ o es ep t, h.get? a = some o ∧ o.cls = .type "set" ∧ o.data = .set es ep t := let ⟨o, es, ep, pl, ho, hex, hd, _⟩ := x.out; ⟨o, es, ep, _, ho, hex.1, hd⟩
inductive SI (g : Gx) (X : List Addr) (H : Heap) (fi : FI) (env : Env) (ρ : AEnv) (led : Bool) (Dd : Addr) (f : Nat → Nat) (s : Shared) (items : List D) (St : Nat → Heap → Prop) (I : Addr) (n : Nat) (s' : Shared) : Prop where
  | mk (i : Nat) (hi : i ≤ items.length) (hn : n = items.length + 1 - i) (F : FrX g X H [] fi env ⟨ρ, []⟩ s') (ns : List Nat) (S : SetI led s'.heap Dd ns) (hl : ns.length ≤ i) (hm : ∀ y, y ∈ ns ↔ ∃ j, j < i ∧ f j = y) (st : St i s'.heap) (k : KeepC g fi env Dd [I] s.heap s'.heap)
theorem loop_set {led : Bool} {elt iter : Expr} {scope : Scope} {pos : Pos} {x : Str} {px : Pos} {A : Around} {I : Addr} {ax : List Addr} {items : List D} {f : Nat → Nat} (hA : AOk ℓ A) (F : FrX g X H [] fi env ⟨ρ, []⟩ s) (S0 : SetI led s.heap Dd []) (W : Wk g X A s I ax items) (hI : H.get? I = none) (hIX : I ∉ X)
    (hD : H.get? Dd = none) (hDX : Dd ∉ X) (hDT : Dd ∉ g.Tb) (hDO : ¬ OwnA fi env Dd) (hax : ∀ a ∈ ax, a ∉ g.Tb ∧ ¬ OwnA fi env a ∧ a ≠ Dd ∧ a ≠ I) (hk : fi.sc.names.lookup x = some .local ∨ x ∈ fi.oc) (hx : ρ.lookup x = none)
    (hlen : items.length ≤ 3) (hf : ∀ i, f i < 24) (hel : ∀ i d, items[i]? = some d → Ev g ℓ fi (put ρ x d) elt (.int (f i : Int))) :
    codeAny g.M A (.compLoop (.SetComp elt [⟨.Name x px, iter, [], 0⟩] scope pos) 0 (.ref I) (.ref Dd) env) (fun r s' => r = .ok .next ∧ FrX g X H [] fi env ⟨ρ, []⟩ s' ∧ ∃ ns, SetI led s'.heap Dd ns ∧ ns.length ≤ 3 ∧ ∀ y, y ∈ ns ↔ ∃ i, i < items.length ∧ f i = y) s := by
  obtain ⟨P, St, W, st0, hio, hP⟩ := W
  have iI : IterO s.heap I := hio 0 _ st0
  have hI1 : I ∉ g.Tb := iI.noTab F.inv.tabs
  have hI2 : ¬ OwnA fi env I := own_noIter F iI
  have hI3 : I ≠ Dd := by
    rintro rfl
    obtain ⟨o, es, ep, t, e, c, d⟩ := S0.obj
    obtain ⟨o', T, vs, e', c', d', _⟩ := iI
    rw [e] at e'; cases e'; rw [d] at d'; cases d'
  refine codeAny_loop rfl (SI g X H fi env ρ led Dd f s items St I) ?_ (items.length + 1)
    ⟨0, Nat.zero_le _, rfl, F, [], S0, Nat.le_refl _, fun y => ⟨(fun h => nomatch h), fun ⟨j, h, _⟩ => by lia⟩, st0, .refl⟩
  rintro n s' ⟨i, hi, rfl, F', ns, S', hl', hm', st', K'⟩
  show wpAny _ _ ((compTurn (.SetComp elt [⟨.Name x px, iter, [], 0⟩] scope pos) 0 (.ref I) (.ref Dd) env).onRaise (fun x => do noteFrame x env; theTreesLotGoes x)) _ _ s'
  refine wpAny_noted ?_
  have iI' : IterO s'.heap I := hio i _ st'
  refine turn_set (fun _ => rfl) ?_
  by_cases hlt : i < items.length
  · refine W.item i _ _ _ hlt st' fun v h₁ tk₁ hPv st₁ k₁ => ?_
    have k₁' : ∀ b o, b ≠ I → s'.heap.get? b = some o → h₁.get? b = some o := fun b o hb e => k₁ b o (by simpa using hb) e
    have F₁ := F'.poke (tk := tk₁) iI' hI hIX k₁'
    obtain ⟨d, hd, hr⟩ := hP i v hlt hPv
    have kr : KeepR X s.heap s'.heap := fun a o e q => by
      refine K' a o (tab_noSeq F.inv.tabs e q) (own_noSeq F e q) ?_ (fun m => ?_) e
      · rintro rfl
        obtain ⟨o', es, ep, t, e', c', d'⟩ := S0.obj
        rw [e] at e'; cases e'
        rcases q with ⟨_, _, q, _⟩ | ⟨_, q, _⟩ <;> (rw [d'] at q; cases q)
      · rw [List.mem_singleton.mp m] at e q; exact iI.noSeq e q
    have hr₁ : Rep X h₁ v d := (hr.keepR kr).keepR fun b o e q => k₁' b o (fun z => by subst z; exact iI'.noSeq e q) e
    refine wpAny_assign_Name (F₁.store (fun h => nomatch h) hk (by simpa using hr₁) fun s₂ F₂ k₂ al₂ => ?_)
    refine wpQ (hel i d hd A X env s₂ hA F₂.inv F₂.eok F₂.xok F₂.full) fun u s₃ ⟨i₃, k₃, r₃⟩ => ?_
    obtain ⟨tk, rfl⟩ := r₃.int'
    have F₃ := F₂.step i₃ k₃
    have S₃ : SetI led s₃.heap Dd ns := S'.keep fun o e => k₃ Dd o hDT (k₂ Dd o hDT hDO (fun h => nomatch h) (k₁' Dd o hI3.symm e))
    refine setI_add S₃ (hf i) (by lia) fun h' ns' hsb hS'' hmem hlen' => ?_
    obtain ⟨oS, es, ep, t, eS, cS, dS⟩ := S₃.obj
    have F₄ := F₃.pokeA (a := Dd) (tk := s₃.toks + 1) (fun z => hDO (.inl z)) (fun c w hcw z => by
        obtain ⟨o2, e2, d2⟩ := hcw
        rw [z, eS] at e2; cases e2; rw [dS] at d2; cases d2)
      (fun Y o e q => by
        rw [eS] at e; cases e
        rcases q with ⟨_, _, q, _⟩ | ⟨_, q, _⟩ <;> (rw [dS] at q; cases q))
      hDT (fun o e ⟨_, vs, q⟩ => by rw [eS] at e; cases e; rw [dS] at q; cases q) hD hDX (h' := h') fun b o hb e => (hsb.2 b hb).trans e
    have kAll : KeepC g fi env Dd [] h₁ h' := fun a o h1 h2 h3 _ e => (hsb.2 a h3).trans (k₃ a o h1 (k₂ a o h1 h2 (fun h => nomatch h) e))
    refine ⟨rfl, items.length + 1 - (i + 1), by lia, i + 1, hlt, rfl, F₄.weaken (put_keeps hx), ns', hS'', by lia, fun y => ?_, W.frame _ _ _ st₁ fun b hb o e => ?_, fun a o h1 h2 h3 h4 e => kAll a o h1 h2 h3 (fun h => nomatch h) (k₁' a o (by simpa using h4) (K' a o h1 h2 h3 h4 e))⟩
    · rw [hmem, hm']
      constructor
      · rintro (rfl | ⟨j, hj, e⟩)
        · exact ⟨i, by lia, rfl⟩
        · exact ⟨j, by lia, e⟩
      · rintro ⟨j, hj, e⟩
        by_cases c : j = i
        · left; rw [← e, c]
        · exact .inr ⟨j, by lia, e⟩
    · rcases List.mem_cons.mp hb with rfl | hb
      · exact kAll _ o hI1 hI2 hI3 (fun h => nomatch h) e
      · obtain ⟨a1, a2, a3, a4⟩ := hax b hb
        exact kAll b o a1 a2 a3 (fun h => nomatch h) e
  · have hin : i = items.length := by lia
    subst hin
    refine W.done _ _ _ st' fun h₁ tk₁ k₁ => ?_
    have k₁' : ∀ b o, b ≠ I → s'.heap.get? b = some o → h₁.get? b = some o := fun b o hb e => k₁ b o (by simpa using hb) e
    exact ⟨rfl, F'.poke (tk := tk₁) iI' hI hIX k₁', ns, S'.keep fun o e => k₁' Dd o hI3.symm e, by lia, hm'⟩
end Mine


/- LU -/
namespace Mine
variable {g : Gx} {ℓ : Nat} {fi : FI} {X : List Addr} {env : Env} {σ : St} {s : Shared} {ρ : AEnv}
theorem newSet_acc {A : Around} : NewAcc g A (newSet (.type "set")) (fun _ => []) (fun h Dd => SetI (ledOf g.w) h Dd []) where
  new := fun {s₂ Q} h => setI_new fun h' a hz ha hk hS => h a h' hk (ha ▸ fresh_none _) (let ⟨o, _, _, _, e, c, _⟩ := hS.obj; ⟨o, e, by rw [c]; nofun⟩) hS
  keep := fun x k => x.keep fun o e => k _ o e
  y := fun _ => .inr rfl
def fewOf (n : Nat) (f : Nat → Nat) : List Nat := (List.range 24).filter fun y => (List.range n).any fun i => f i == y
theorem few_eq {n : Nat} {f : Nat → Nat} (hf : ∀ i, f i < 24) {ns ms : List Nat} (nd : ns.Nodup) (hm : ∀ y, y ∈ ns ↔ ∃ i, i < n ∧ f i = y) (hp : ms.Perm ns) (hs : ms.Pairwise (· ≤ ·)) : ms = fewOf n f := by
  have h1 : ms.Pairwise (· < ·) := by
    have := (List.nodup_iff_pairwise_ne.mp (hp.nodup_iff.mpr nd))
    exact (hs.and this).imp fun h => by lia
  have h2 : (fewOf n f).Pairwise (· < ·) := (List.pairwise_lt_range).filter _
  have hmem : ∀ y, y ∈ ms ↔ y ∈ fewOf n f := fun y => by
    rw [hp.mem_iff, hm, fewOf, List.mem_filter, List.any_eq_true]
    constructor
    · rintro ⟨i, hi, rfl⟩
      exact ⟨List.mem_range.mpr (hf i), i, List.mem_range.mpr hi, by simp⟩
    · rintro ⟨_, i, hi, e⟩
      exact ⟨i, List.mem_range.mp hi, by simpa using e⟩
  have hperm : ms.Perm (fewOf n f) := (List.perm_ext_iff_of_nodup (List.nodup_iff_pairwise_ne.mpr (h1.imp fun h => by lia)) (List.nodup_iff_pairwise_ne.mpr (h2.imp fun h => by lia))).mpr hmem
  exact hperm.eq_of_pairwise (le := (· < ·)) (fun a b _ _ h h' => by lia) h1 h2
theorem Ev.sortedSet (hg : GOk g) {p pos spos px : Pos} {elt iter : Expr} {scope : Scope} {x : Str} {dl : D} {items : List D} {f : Nat → Nat} (hk : fi.sc.names.lookup ("sorted" : Str) = some .globalImplicit) (hv : GlobV g "sorted" (.builtin "sorted")) (hok : compOk fi scope = true)
    (hkx : scope.names.lookup x = some .local ∨ scope.names.lookup x = some .cell) (hev : Ev g ℓ fi ρ iter dl) (hit : iterD dl = some items) (hlen : items.length ≤ 3) (hf : ∀ i, f i < 24)
    (hel : ∀ i d, items[i]? = some d → Ev g ℓ (fi.comp scope) (put (capOf scope ρ) x d) elt (.int (f i : Int))) (hs0 : ∀ env x, foldedSetIterable iter env x = pure x := by intro _ _; rfl) :
    Ev g ℓ fi ρ (.Call (.Name "sorted" p) [.SetComp elt [⟨.Name x px, iter, [], 0⟩] scope spos] [] pos) (rowD (fewOf items.length f)) := by
  intro A X env s hA hI hE hX hF
  refine wpAny_Call_NameR (evalGlob hg hI hE hk hv (by decide) ?_)
  obtain ⟨cl, hcl0, hcl, hcl'⟩ := comp_clos hok hE hF
  show wpAny _ _ (callWith pos (.builtin "sorted") [] [(false, eval (.SetComp elt [⟨.Name x px, iter, [], 0⟩] scope spos) env)] []) _ _ _
  refine Calls.callWith_builtin rfl (Calls.evalArgs_plain (Calls.spliced_cons ?_))
  rw [arm_eval_SetComp]
  refine wpAny_comprehension_free (e := .SetComp elt [⟨.Name x px, iter, [], 0⟩] scope spos) (use := Option.none) rfl (hs0 env) hcl0 (comp_kind hok).1 (fun y hy hl => hl ▸ lookup_mem_nodup (comp_kind hok).2 hy) ?_
  refine wpQ (hev A X env s hA hI hE hX hF) fun v s₁ ⟨i1, k1, r1⟩ => ?_
  refine comp_frame (e := .SetComp elt [⟨.Name x px, iter, [], 0⟩] scope spos) newSet_acc (start_set rfl) (R := fun C acc => compPost g.M A NoE Option.none _ acc C) hA i1 hE (hX.keep k1) (hF.keep hI.tabs k1) hok hkx r1 hit hcl hcl' fun cenv Dd I ax s₄ FX acc4 hDT hDO W4 hI' hIX hax hk' hxn hDs hLs hOw => ?_
  refine codeAny_mono (loop_set hA FX acc4 W4 hI' hIX hDs ((hX.keep k1).fresh hDs) hDT hDO (fun a ha => ⟨(hax a ha).2.1, (hax a ha).2.2.1, (hax a ha).2.2.2.1, (hax a ha).2.2.2.2.1⟩) hk' hxn hlen hf hel) ?_
  rintro r s' ⟨rfl, F', ns, S', hn3, hmem⟩
  obtain ⟨m, hm⟩ := F'.lns
  refine ⟨m, hm, fun h' hs => ?_⟩
  have t := F'.inv.tabs
  have hCs : s.heap.get? cenv.locals = Option.none := k1.none i1.tabs hLs
  have i' : Inv g { s' with heap := h' } := inv_same (tk := s'.toks) F'.inv hs (Ns.apart t hm) (inv_base hI hCs) (codeRec_ne_ns hm)
  have kk : Keep g s.heap h' := fun b o h1 e => (hs.2 b fun z => by rw [z, hCs] at e; cases e).trans (F'.keep b o h1 (k1 b o h1 e))
  have S'' : SetI (ledOf g.w) h' Dd ns := S'.keep fun o e => (hs.2 Dd fun z => by
    obtain ⟨oS, _, _, _, eS, cS, dS⟩ := S'.obj
    obtain ⟨o2, es, ep, e2, d2, _⟩ := hm
    rw [z] at eS; rw [eS] at e2; cases e2; rw [dS] at d2; cases d2).trans e
  refine Calls.spliced_nil ?_
  refine sorted_set (s := { s' with heap := h' }) hA.handled S'' hn3 fun h2 tk L vs ms hk2 hL hpl hints hp hsrt => ?_
  have e := few_eq hf S''.nd hmem hp hsrt
  subst e
  have i2 := i'.of_keeps (tk := tk) hk2
  have hLs2 : s.heap.get? L = Option.none := kk.none i'.tabs hL
  refine ⟨i2, kk.trans (Keep.of hk2), .list (hX.fresh hLs2) hpl ?_ ?_⟩
  · rw [hints.length, List.length_map]
    refine small_le (Nat.le_trans (List.length_filter_le _ _) ?_)
    rw [List.length_range]; decide
  · rw [natD_ints]; exact intsReps hints
end Mine


/- LV -/
namespace Mine
set_option maxRecDepth 100000
variable {g : Gx} {ℓ : Nat} {fi : FI} {σ : St} {ρ : AEnv}
def ltL : List Int → List Int → Bool
  | a :: as, b :: bs => if a == b then ltL as bs else decide (a < b)
  | _, _ => false
theorem IntsAre.at' : ∀ {vs : List Value} {ns : List Int} (i : Nat), IntsAre vs ns → ∀ (h : i < ns.length), ∃ t, vs[i]? = some (.int ns[i] t)
  | _, _, _, .nil, h => by simp at h
  | _, _, 0, .cons _ _ _, _ => ⟨_, rfl⟩
  | _, _, i + 1, .cons _ _ r, h => by
    obtain ⟨t, e⟩ := IntsAre.at' i r (by simpa using h)
    exact ⟨t, by simpa using e⟩
theorem lt_loop (l b : Addr) (xs ys : Array Value) (n n2 : Nat) (as bs : List Int) (hx : IntsAre xs.toList as) (hy : IntsAre ys.toList bs) (hl : as.length = bs.length) (k : Nat) :
    ∀ i : Nat, as.length - i = k → Meets (Builtin.«list.__eq__.loop» ⟨[.ref l, .ref b, rawInt i, rawInt 0], []⟩)
      (fun _ R s => s.heap.get? l = some { cls := .type "list", dict := none, data := .seq xs n, slots := #[] } ∧ s.heap.get? b = some { cls := .type "list", dict := none, data := .seq ys n2, slots := #[] } ∧
        R (.ok (.ret (.bool (ltL (as.drop i) (bs.drop i))))) s) := by
  have lx : xs.size = as.length := by rw [← Array.length_toList]; exact hx.length
  have ly : ys.size = bs.length := by rw [← Array.length_toList]; exact hy.length
  induction k with
  | zero =>
    intro i hk prog w A R s h
    obtain ⟨hp, g, d, tk, os⟩ := s; obtain ⟨hl1, hb, h⟩ := h
    wp_walk using AutoSeq1.wpAny_loadPart' hl1, AutoSeq1.wpAny_loadPart' hb
    have hi1 : xs[((i : Nat) : Int).toNat]? = none := by simp; lia
    have hi2 : ys[((i : Nat) : Int).toNat]? = none := by simp; lia
    have hd : as.drop i = [] := by simp; lia
    rw [hd] at h
    rw [hi1, hi2]
    wp_walk using AutoSeq1.wpAny_loadPart' hl1, AutoSeq1.wpAny_loadPart' hb
    show R (.ok (.ret (.bool (decide (xs.size < ys.size))))) _
    rw [lx, ly, hl]
    simpa [ltL] using h
  | succ k ih =>
    intro i hk prog w A R s h
    obtain ⟨hp, g, d, tk, os⟩ := s; obtain ⟨hl1, hb, h⟩ := h
    wp_walk using AutoSeq1.wpAny_loadPart' hl1, AutoSeq1.wpAny_loadPart' hb
    have hlt : i < as.length := by lia
    have hlt2 : i < bs.length := by lia
    obtain ⟨t1, e1⟩ := IntsAre.at' i hx hlt
    obtain ⟨t2, e2⟩ := IntsAre.at' i hy hlt2
    have hi1 : xs[((i : Nat) : Int).toNat]? = some (.int as[i] t1) := by simpa using e1
    have hi2 : ys[((i : Nat) : Int).toNat]? = some (.int bs[i] t2) := by simpa using e2
    have hd : as.drop i = as[i] :: as.drop (i + 1) := List.drop_eq_getElem_cons hlt
    have hd2 : bs.drop i = bs[i] :: bs.drop (i + 1) := List.drop_eq_getElem_cons hlt2
    have hc : ((i : Int) + 1) = ((i + 1 : Nat) : Int) := by push_cast; rfl
    rw [hd, hd2, ltL] at h
    rw [hi1, hi2]
    refine wpAny_bind (wpAny_eqBool_int ?_)
    cases hb' : (as[i] == bs[i]) with
    | true =>
      rw [hb', if_pos rfl] at h
      wp_walk
      rw [hc]
      exact ⟨plainId_quiet MeetsSeq3.plain_eq_loop _, codeAny_builtin MeetsSeq3.entry_eq_loop (by
        rw [Around.under_plainId MeetsSeq3.plain_eq_loop _]
        exact ih (i + 1) (by lia) prog w A R _ ⟨hl1, hb, h⟩)⟩
    | false =>
      rw [hb', if_neg (by decide)] at h
      wp_walk using AutoSeq1.wpAny_loadPart' hl1, AutoSeq1.wpAny_loadPart' hb
      rw [hi1, hi2]
      exact wpAny_bind (wpAny_lt_int (wpAny_pure h))
theorem list_lt (l b : Addr) (xs ys : Array Value) (n n2 : Nat) (as bs : List Int) (hx : IntsAre xs.toList as) (hy : IntsAre ys.toList bs) (hl : as.length = bs.length) :
    Meets (Builtin.«list.__lt__» ⟨[.ref l, .ref b], []⟩)
      (fun _ R s => s.heap.get? l = some { cls := .type "list", dict := none, data := .seq xs n, slots := #[] } ∧ s.heap.get? b = some { cls := .type "list", dict := none, data := .seq ys n2, slots := #[] } ∧
        R (.ok (.ret (.bool (ltL as bs)))) s) := by
  intro prog w A R s h
  obtain ⟨hp, g, d, tk, os⟩ := s; obtain ⟨hl1, hb, h⟩ := h
  have f3 := AutoSeq1.sub_list_list
  wp_walk using AutoSeq1.wpAny_loadPart' hl1, AutoSeq1.wpAny_loadPart' hb
  exact ⟨plainId_quiet MeetsSeq3.plain_eq_loop _, codeAny_builtin MeetsSeq3.entry_eq_loop (by
    rw [Around.under_plainId MeetsSeq3.plain_eq_loop _]
    exact lt_loop l b xs ys n n2 as bs hx hy hl _ 0 rfl prog w A R _ ⟨hl1, hb, by simpa using h⟩)⟩
section
variable {prog : Program} {w : World} {A : Around} {E : Value → Shared → Prop} {s : Shared}
inductive RowAt (h : Heap) (v : Value) (as : List Int) : Prop where
  | mk (l : Addr) (xs : Array Value) (n : Nat) (e : v = .ref l) (o : h.get? l = some { cls := .type "list", dict := none, data := .seq xs n, slots := #[] }) (i : IntsAre xs.toList as)
theorem key_lt {v u : Value} {as bs : List Int} (hu : A.units < cLine) (hv : RowAt s.heap v as) (hw : RowAt s.heap u bs) (hl : as.length = bs.length) {C : Bool → Shared → Prop} (h : C (ltL as bs) s) : wpAny (model prog w) A (keyLt' oneType' v u) C E s := by
  obtain ⟨l, xs, n, rfl, ho, hi⟩ := hv
  obtain ⟨b, ys, n2, rfl, ho2, hi2⟩ := hw
  rw [keyLt'_oneType, oneLt'_eq]
  simp only [if_true]
  refine wpAny_bind (wpAny_cRoomFor hu ?_)
  refine wpAny_bind (wpAny_callSpecialIfBound?_slot (T := "list") ⟨_, ho, rfl⟩ PySem.F.slot_list_lt (call_meets PySem.F.slot_list_lt ⟨_, ho, rfl⟩ PySem.F.entry_list_lt (PySem.F.args_list_lt_2 _ _) (list_lt l b xs ys n n2 as bs hi hi2 hl) ⟨ho, ho2, ?_⟩))
  exact wpAny_truthy_bool h
end
end Mine


/- LX -/
namespace Mine
set_option maxRecDepth 100000
variable {g : Gx} {ℓ : Nat} {fi : FI} {ρ : AEnv}
def runT {α : Type} (n : Nat) (o : Nat → Nat → Bool) : KasT α → Option α
  | .ret a => some a
  | .ask i j k => if i < n ∧ j < n then runT n o (k (o i j)) else none
theorem runT_ok {α : Type} {n : Nat} {o : Nat → Nat → Bool} {cmp : Nat → Nat → (Bool → Shared → Prop) → Shared → Prop} {s : Shared} (hc : ∀ i j, i < n → j < n → ∀ C : Bool → Shared → Prop, C (o i j) s → cmp i j C s) {Q : α → Shared → Prop} : ∀ (t : KasT α) {a : α}, runT n o t = some a → Q a s → t.kasWp cmp Q s
  | .ret a, b, e, h => by cases e; exact h
  | .ask i j k, b, e, h => by
    rw [runT] at e
    split at e
    · rename_i c
      exact hc i j c.1 c.2 _ (runT_ok hc (k (o i j)) e h)
    · cases e
def ltN : List Nat → List Nat → Bool
  | a :: as, b :: bs => if a == b then ltN as bs else decide (a < b)
  | _, _ => false
theorem ltL_nat : ∀ as bs : List Nat, ltL (as.map fun x : Nat => (x : Int)) (bs.map fun x : Nat => (x : Int)) = ltN as bs
  | [], _ => by rw [List.map_nil, ltL, ltN] <;> simp
  | _ :: _, [] => by rw [List.map_nil, ltL, ltN] <;> simp
  | a :: as, b :: bs => by
    rw [List.map_cons, List.map_cons, ltL, ltN, ltL_nat as bs]
    have e1 : ((a : Int) == (b : Int)) = (a == b) := by rw [Bool.eq_iff_iff, beq_iff_eq, beq_iff_eq]; lia
    have e2 : decide ((a : Int) < (b : Int)) = decide (a < b) := by rw [decide_eq_decide]; lia
    rw [e1, e2]
def sortP (L : List (List Nat)) : Option (List Nat) := if L.length < 2 then some (List.range L.length) else (runT L.length (fun i j => ltN (L.getD i []) (L.getD j [])) (kas_sort L.length)).map fun p => p.toList
def sortL (L : List (List Nat)) : Option (List (List Nat)) := (sortP L).bind fun p => if p.all (· < L.length) then some (p.map fun i => L.getD i []) else none
theorem looks_list {v : Value} {as : List Int} {M : Model} {h : Heap} (hv : RowAt h v as) : Looks M h (typeOf v) (.type "list") := by
  obtain ⟨l, xs, n, rfl, ho, _⟩ := hv
  exact fun A Q E s k q => wpAny_typeOf (T := "list") ⟨_, k _ _ ho, rfl⟩ q
section
variable {prog : Program} {w : World} {A : Around} {E : Value → Shared → Prop} {s : Shared}
theorem rows_sort {a : Addr} {vs : List Value} {L : List (List Nat)} {p : List Nat} {n : Nat} {P : Fin → Shared → Prop} (ho : s.heap.get? a = some (seqObj "list" vs.toArray n)) (hu : A.units < cLine) (hl : vs.length = L.length) (h64 : vs.length < 64)
    (hr : ∀ i, i < vs.length → ∀ h', (∀ b o, b ≠ a → s.heap.get? b = some o → h'.get? b = some o) → RowAt h' (vs.getD i .none) ((L.getD i []).map fun x : Nat => (x : Int))) (h3 : ∀ l ∈ L, l.length = 3) (hp : sortP L = some p)
    (h : P (.done (.ret .none)) { s with heap := sortedHeap s.heap a vs (p.map fun i => vs.getD i .none).toArray }) :
    wpAny (model prog w) A (Builtin.«list.sort» ⟨[.ref a], []⟩) P E s := by
  rw [list_sort_plain]
  have ha : a < s.heap.objs.size := Heap.lt_size ho
  refine wpAny_bind (listItems_at ho rfl ?_)
  refine wpAny_bind (listUpdate_at ho rfl ?_ (by rw [List.size_toArray, sizeLine_eq]; lia) (Nat.zero_le _))
  obtain ⟨e1, ho1⟩ : ∃ e1, (s.heap.update a (Obj.mapSeq fun _ => #[])).get? a = some (seqObj "list" #[] e1) := ⟨_, get?_update_seq ho (fun _ => #[])⟩
  refine wpAny_bind (seqEpoch_at ho1 rfl ?_)
  refine wpAny_bind (wpAny_newTuple ?_ (by show vs.length ≤ _; rw [sizeLine_eq]; lia))
  refine wpAny_bind (wpAny_newList ?_ (Nat.zero_le _))
  refine wpAny_holding ?_
  have ho6 : (((s.heap.update a (Obj.mapSeq fun _ => #[])).push (seqObj "tuple" vs.toArray 0)).push (seqObj "list" #[] 0)).get? a = some (seqObj "list" #[] e1) := by
    rw [Heap.get?_push_ne _ _ _ (by rw [size_push', Heap.size_update]; exact Nat.ne_of_lt (Nat.lt_succ_of_lt ha)), Heap.get?_push_ne _ _ _ (by rw [Heap.size_update]; exact Nat.ne_of_lt ha)]
    exact ho1
  have hkeep : ∀ b o, b ≠ a → s.heap.get? b = some o → (((s.heap.update a (Obj.mapSeq fun _ => #[])).push (seqObj "tuple" vs.toArray 0)).push (seqObj "list" #[] 0)).get? b = some o := fun b o hb q =>
    Heap.get?_push_of_some _ (Heap.get?_push_of_some _ ((Heap.get?_update_ne _ _ _ _ hb).trans q))
  have hrow := fun i hi => hr i hi _ hkeep
  show wpAny (model prog w) A _ P E { s with heap := ((s.heap.update a (Obj.mapSeq fun _ => #[])).push (seqObj "tuple" vs.toArray 0)).push (seqObj "list" #[] 0) }
  dsimp only
  have hsz : vs.toArray.size = vs.length := by simp
  by_cases h2 : vs.toArray.size < 2
  · rw [if_pos h2, if_pos h2]
    refine wpAny_bind (wpAny_pure ?_)
    rw [StateT.run_pure]
    refine wpAny_bind (wpAny_pure ?_)
    dsimp only
    refine wpAny_bind (seqEpoch_at ho6 rfl ?_)
    refine wpAny_bind (listUpdate_at ho6 rfl ?_ (hsz2 := by rw [Array.size_map]; show (pairsOf vs).size ≤ _; rw [pairsOf_size, sizeLine_eq]; lia))
    simp only [bne_self_eq_false, Bool.false_eq_true, if_false]
    have hp' : p = List.range vs.length := by
      rw [sortP, if_pos (by lia)] at hp; cases hp; rw [hl]
    have e : (vs.toArray.zip vs.toArray).map (·.2) = (p.map fun i => vs.getD i .none).toArray := by
      apply Array.toList_inj.mp
      rw [hp']
      refine List.ext_getElem? fun i => ?_
      by_cases c : i < vs.length
      · simp [c]
      · simp [c]
    refine wpAny_pure ?_
    show P _ { s with heap := sortedHeap s.heap a vs ((vs.toArray.zip vs.toArray).map (·.2)) }
    rw [e]; exact h
  · rw [if_neg h2, if_neg h2]
    have h2' : 2 ≤ vs.length := by lia
    refine wpAny_bind (kas_kind h2' (T := .type "list") (fun v hv => ?_) (by decide) (by decide) ?_)
    · obtain ⟨i, hi, rfl⟩ := List.mem_iff_getElem.mp hv
      have := looks_list (M := model prog w) (hrow i hi)
      rwa [show vs.getD i Value.none = vs[i] by simp [hi]] at this
    have est : SortSt.mk' oneType' (vs.toArray.zip vs.toArray) #[] 7 none = kas_st oneType' (pairsOf vs) (List.toArray (List.range vs.length)) := by
      have e := kas_range (pairsOf vs)
      rw [pairsOf_size] at e
      show SortSt.mk' oneType' (pairsOf vs) #[] 7 none = SortSt.mk' oneType' ((List.toArray (List.range vs.length)).map (kas_item (pairsOf vs))) #[] 7 none
      rw [e]
    obtain ⟨q, hq, rfl⟩ : ∃ q : Array Nat, runT vs.length (fun i j => ltN (L.getD i []) (L.getD j [])) (kas_sort vs.length) = some q ∧ q.toList = p := by
      rw [sortP, if_neg (by lia), ← hl] at hp
      obtain ⟨q, e1, e2⟩ := Option.map_eq_some_iff.mp hp
      exact ⟨q, e1, e2⟩
    have h3' : ∀ i, i < vs.length → (L.getD i []).length = 3 := fun i hi => h3 _ (by
      rw [List.getD_eq_getElem?_getD, List.getElem?_eq_getElem (by lia)]; exact List.getElem_mem _)
    have run := kas_runs (prog := prog) (w := w) (A := A) (E := E) (κ := oneType') (it := pairsOf vs) (s := { s with heap := ((s.heap.update a (Obj.mapSeq fun _ => #[])).push (seqObj "tuple" vs.toArray 0)).push (seqObj "list" #[] 0) }) (n := vs.length) (G := fun p s' => p = q ∧ s' = { s with heap := ((s.heap.update a (Obj.mapSeq fun _ => #[])).push (seqObj "tuple" vs.toArray 0)).push (seqObj "list" #[] 0) })
      (Q := fun _ st' s' => q.size = vs.length ∧ arrOf st' = q.map (kas_item (pairsOf vs)) ∧ failedOf st' = none ∧ s' = { s with heap := ((s.heap.update a (Obj.mapSeq fun _ => #[])).push (seqObj "tuple" vs.toArray 0)).push (seqObj "list" #[] 0) })
      h2' h64 (fun p' st' s' a1 a2 a3 a4 => ⟨a4.1 ▸ a1, a4.1 ▸ a2, a3, a4.2⟩) (by
        rw [← kas_ask_eq]
        refine runT_ok (fun i j hi hj C hC => ?_) _ hq ⟨rfl, rfl⟩
        refine key_lt hu (hrow i hi) (hrow j hj) (by rw [List.length_map, List.length_map, h3' i hi, h3' j hj]) ?_
        rw [ltL_nat]; exact hC)
    rw [← est] at run
    refine wpAny_bind (wpAny_mono run ?_ fun _ _ e => e)
    rintro ⟨⟨⟩, st'⟩ s' ⟨hp', har, hf, rfl⟩
    dsimp only
    have hout : (arrOf st').map (·.2) = (q.toList.map fun i => vs.getD i Value.none).toArray := by
      apply Array.toList_inj.mp
      rw [har, Array.map_map, Array.toList_map]
      exact List.map_congr_left fun i _ => by show (kas_item (pairsOf vs) i).2 = _; rw [kas_item_eq]
    rw [hout]
    refine wpAny_bind (seqEpoch_at ho6 rfl ?_)
    refine wpAny_bind (listUpdate_at ho6 rfl ?_ (Nat.zero_le _) (by rw [List.size_toArray, List.length_map, Array.length_toList, hp', sizeLine_eq]; lia))
    rw [hf]
    simp only [bne_self_eq_false, Bool.false_eq_true, if_false]
    exact wpAny_pure h
end
theorem intD_nat (l : List Nat) : natD l = (l.map fun x : Nat => (x : Int)).map .int := by rw [natD, List.map_map]; rfl
theorem CallOK.sortedRows {L M : List (List Nat)} (h3 : ∀ l ∈ L, l.length = 3) (hz : L.length < 64) (hs : sortL L = some M) (hm : M.length ≤ 1000) : CallOK g ℓ (.builtin "sorted") [.list (rowsD L)] (.list (rowsD M)) := by
  intro A X s vs hA hI hX r
  obtain ⟨v, rfl, r1⟩ := r.one
  obtain ⟨a, vs, rfl, na, hl, hz', r2⟩ := r1.list'
  have hlen : vs.length = L.length := by rw [r2.length, List.length_map]
  have h64 : vs.length < 64 := by lia
  obtain ⟨p, hp, hM⟩ := Option.bind_eq_some_iff.mp hs
  split at hM
  case isFalse => cases hM
  rename_i hall
  cases hM
  have hall : ∀ i ∈ p, i < vs.length := fun i hi => by rw [hlen]; exact of_decide_eq_true (List.all_eq_true.mp hall i hi)
  have hrep : ∀ i, i < vs.length → Rep X s.heap (vs.getD i .none) (rowD (L.getD i [])) := fun i hi => by
    obtain ⟨d, e, r'⟩ := r2.get i (List.getElem?_eq_getElem hi)
    rw [rowsD_at (by lia)] at e; cases e
    rw [List.getD_eq_getElem?_getD, List.getElem?_eq_getElem hi]; exact r'
  refine Calls.call_function_entry kind_sorted plain_sorted entry_sorted (args_sorted1 _) ?_
  unfold Builtin.«sorted»
  refine wpAny_bind (m := checkCount "sorted" 1 1 _) (wpAny_pure ?_)
  refine wpAny_bind (collect_list hl.isList ?_ (by rw [sizeLine_eq]; lia))
  refine wpAny_bind (wpAny_newList ?_ (by rw [sizeLine_eq]; lia))
  have hsz : ((s.heap.push (seqObj "list" #[] 0)).update s.heap.objs.size (Obj.mapSeq (· ++ vs.toArray))).objs.size = s.heap.objs.size + 1 := by
    rw [Heap.size_update, size_push']
  have hoL : (((s.heap.push (seqObj "list" #[] 0)).update s.heap.objs.size (Obj.mapSeq (· ++ vs.toArray))).push (seqObj "list" vs.toArray 0)).get? (s.heap.objs.size + 1) = some (seqObj "list" vs.toArray 0) := by
    rw [← hsz]; exact Heap.get?_push_size _ rfl
  have keep : ∀ b o, s.heap.get? b = some o → (((s.heap.push (seqObj "list" #[] 0)).update s.heap.objs.size (Obj.mapSeq (· ++ vs.toArray))).push (seqObj "list" vs.toArray 0)).get? b = some o := fun b o q => by
    have hlt : b < s.heap.objs.size := Heap.lt_size q
    rw [Heap.get?_push_ne _ _ _ (by rw [hsz]; exact Nat.ne_of_lt (Nat.lt_succ_of_lt hlt)), Heap.get?_update_ne _ _ _ _ (Nat.ne_of_lt hlt), Heap.get?_push_ne _ _ _ (Nat.ne_of_lt hlt)]
    exact q
  show wpAny _ _ _ _ _ { s with heap := ((s.heap.push (seqObj "list" #[] 0)).update s.heap.objs.size (Obj.mapSeq (· ++ vs.toArray))).push (seqObj "list" vs.toArray 0) }
  rw [hsz]
  obtain ⟨h1, hzh1⟩ : ∃ x, ((s.heap.push (seqObj "list" #[] 0)).update s.heap.objs.size (Obj.mapSeq (· ++ vs.toArray))).push (seqObj "list" vs.toArray 0) = x := ⟨_, rfl⟩
  rw [hzh1] at hoL keep ⊢
  have hnew : ∀ b o, s.heap.get? b = some o → b < s.heap.objs.size := fun b o q => Heap.lt_size q
  refine wpAny_bind (wpAny_holding (wpAny_call_entry slot_list_sort ⟨_, hoL, rfl⟩ entry_list_sort (rows_sort (L := L) (p := p) (s := { s with heap := h1 }) hoL (by have := hA.units; show A.units + 1 + 1 < cLine; lia) hlen h64 (fun i hi h' k => ?_) h3 hp ⟨_, rfl, ?_⟩) (args_list_sort _)))
  · have r' := hrep i hi
    generalize vs.getD i Value.none = v at r'
    obtain ⟨l, xs, rfl, _, pl, _, rr⟩ := r'.list'
    obtain ⟨⟨c, dd, dt, sl⟩, n, e, e1, ⟨e2, e3⟩, e4⟩ := pl
    simp only at e1 e2 e3 e4
    subst e1 e2 e3 e4
    rw [intD_nat] at rr
    exact ⟨l, xs.toArray, n, rfl, k _ _ (Nat.ne_of_lt (Nat.lt_succ_of_lt (hnew _ _ e))) (keep _ _ e), rr.ints⟩
  · obtain ⟨e, he⟩ := sortedHeap_at (vs := vs) (out := (p.map fun i => vs.getD i .none).toArray) hoL
    have hk : ∀ b o, s.heap.get? b = some o → (sortedHeap h1 (s.heap.objs.size + 1) vs (p.map fun i => vs.getD i .none).toArray).get? b = some o := fun b o q => by
      rw [sortedHeap_old (Nat.ne_of_lt (Nat.lt_succ_of_lt (hnew _ _ q))) (Heap.lt_size (keep _ _ q))]
      exact keep b o q
    refine wpAny_pure ⟨_, rfl, ⟨hI.of_keeps hk, Keep.of hk, .list ?_ ⟨_, e, he, rfl, ⟨rfl, rfl⟩, rfl⟩ ?_ ?_⟩⟩
    · refine hX.fresh ?_
      cases q : s.heap.get? (s.heap.objs.size + 1) with
      | none => rfl
      | some o' => exact absurd (hnew _ _ q) (by lia)
    · rw [List.length_map] at hm ⊢; exact small_le hm
    · rw [rowsD, List.map_map]
      have kin : Kin X X s.heap (sortedHeap h1 (s.heap.objs.size + 1) vs (p.map fun i => vs.getD i .none).toArray) := fun b o q z => ⟨hk b o q, z.nin⟩
      have go : ∀ q : List Nat, (∀ i ∈ q, i < vs.length) → Reps X (sortedHeap h1 (s.heap.objs.size + 1) vs (p.map fun i => vs.getD i .none).toArray) (q.map fun i => vs.getD i .none) (q.map (rowD ∘ fun i => L.getD i [])) := fun q => by
        induction q with
        | nil => exact fun _ => .nil
        | cons i q ih => exact fun hq => .cons ((hrep i (hq i (.head _))).map kin) (ih fun j hj => hq j (.tail _ hj))
      exact go p hall
end Mine


/- P1 -/
namespace Mine
set_option maxRecDepth 100000
theorem bit_tab (n i : Nat) : n &&& 2 ^ i = (n.testBit i).toNat * 2 ^ i := by
  refine Nat.eq_of_testBit_eq fun j => ?_
  rw [Nat.testBit_and, Nat.testBit_two_pow]
  cases h : n.testBit i with
  | true =>
    simp only [Bool.toNat_true, Nat.one_mul, Nat.testBit_two_pow]
    by_cases e : i = j
    · subst e; simp [h]
    · simp [e]
  | false =>
    simp only [Bool.toNat_false, Nat.zero_mul, Nat.zero_testBit]
    by_cases e : i = j
    · subst e; simp [h]
    · simp [e]
theorem top_tab (n : Nat) : n &&& 61440 = n / 4096 % 16 * 4096 := by
  have h1 : (n &&& 61440) / 2 ^ 12 = n / 2 ^ 12 &&& 61440 / 2 ^ 12 := Nat.and_div_two_pow ..
  have h2 : (n &&& 61440) % 2 ^ 12 = n % 2 ^ 12 &&& 61440 % 2 ^ 12 := Nat.and_mod_two_pow
  have h3 : n / 2 ^ 12 &&& 15 = n / 2 ^ 12 % 16 := Nat.and_two_pow_sub_one_eq_mod _ 4
  have h4 : 61440 / 2 ^ 12 = 15 := rfl
  have h5 : 61440 % 2 ^ 12 = 0 := rfl
  rw [h4, h3] at h1
  rw [h5, Nat.and_zero] at h2
  lia
theorem kind_tab (n k : Nat) (h : n &&& 61440 = k * 4096) (hk : k < 16) : fmChar 0 (n : Int) [(40960, "l"), (49152, "s"), (32768, "-"), (24576, "b"), (16384, "d"), (8192, "c"), (4096, "p")] = chr "?pc?d?b?-?l?s???" k := by
  have e := and_nat n 61440
  have e' : Builtin.bitAnd (n : Int) 61440 = ((k * 4096 : Nat) : Int) := by rw [← h]; exact e
  unfold fmChar fmHit
  simp only [if_true, e']
  clear e e' h
  have key : ∀ k < 16, (match List.find? (fun p : Int × Str => ((k * 4096 : Nat) : Int) == p.1) [(40960, "l"), (49152, "s"), (32768, "-"), (24576, "b"), (16384, "d"), (8192, "c"), (4096, "p")] with | some p => p.2 | none => ("?" : Str)) = chr "?pc?d?b?-?l?s???" k := by decide +kernel
  exact key k hk
theorem one_tab (n i : Nat) (j : Nat) (hj : j ≠ 0) (b : Int) (hb : b = ((2 ^ i : Nat) : Int)) (c : Str) : fmChar j (n : Int) [(b, c)] = if n.testBit i then c else "-" := by
  have e := and_nat n (2 ^ i)
  rw [bit_tab, ← hb] at e
  have hp : 0 < 2 ^ i := Nat.two_pow_pos i
  unfold fmChar fmHit
  simp only [if_neg hj, e, List.find?]
  cases n.testBit i with
  | true => simp [hb]
  | false =>
    have hz : ∀ (x y : Nat), x ≠ y → ((x : Int) == (y : Int)) = false := fun x y h => by rw [beq_eq_false_iff_ne]; lia
    simp only [Bool.toNat_false, Nat.zero_mul, hb, hz 0 (2 ^ i) (by lia)]; simp
theorem three_tab (n i i' : Nat) (j : Nat) (hj : j ≠ 0) (b b1 b2 : Int) (hb : b = ((2 ^ i ||| 2 ^ i' : Nat) : Int)) (hb1 : b1 = ((2 ^ i' : Nat) : Int)) (hb2 : b2 = ((2 ^ i : Nat) : Int)) (hx : 2 ^ i ≠ 2 ^ i ||| 2 ^ i') (hy : 2 ^ i' ≠ 2 ^ i ||| 2 ^ i') (c c1 c2 : Str) : fmChar j (n : Int) [(b, c), (b1, c1), (b2, c2)] =
    if n.testBit i' then (if n.testBit i then c else c1) else (if n.testBit i then c2 else "-") := by
  have e1 := and_nat n (2 ^ i')
  have e2 := and_nat n (2 ^ i)
  have e0 := and_nat n (2 ^ i ||| 2 ^ i')
  rw [Nat.and_or_distrib_left] at e0
  rw [bit_tab, ← hb1] at e1
  rw [bit_tab, ← hb2] at e2
  rw [bit_tab, bit_tab, ← hb] at e0
  have hp : 0 < 2 ^ i := Nat.two_pow_pos i
  have hp' : 0 < 2 ^ i' := Nat.two_pow_pos i'
  have hq : 2 ^ i ≤ 2 ^ i ||| 2 ^ i' := Nat.left_le_or
  unfold fmChar fmHit
  simp only [if_neg hj, e0, e1, e2, List.find?]
  have hz : ∀ (x y : Nat), x ≠ y → ((x : Int) == (y : Int)) = false := fun x y h => by rw [beq_eq_false_iff_ne]; lia
  subst hb hb1 hb2
  cases h1 : n.testBit i <;> cases h2 : n.testBit i' <;> simp only [Bool.toNat_false, Bool.toNat_true, Nat.zero_mul, Nat.one_mul, Nat.zero_or, Nat.or_zero, if_true]
  · rw [hz 0 (2 ^ i ||| 2 ^ i') (by lia), hz 0 (2 ^ i') (by lia), hz 0 (2 ^ i) (by lia)]; simp
  · rw [hz (2 ^ i') (2 ^ i ||| 2 ^ i') hy]; simp
  · rw [hz (2 ^ i) (2 ^ i ||| 2 ^ i') hx, hz 0 (2 ^ i') (by lia)]; simp
  · rw [show (((2 ^ i ||| 2 ^ i' : Nat) : Int) == ((2 ^ i ||| 2 ^ i' : Nat) : Int)) = true from beq_self_eq_true _]
theorem str_ext {x y : Str} (h : x.cps = y.cps) : x = y := by cases x; cases y; cases h; rfl
theorem app_cps (x y : Str) : (x ++ y).cps = x.cps ++ y.cps := rfl
theorem glue10 (a0 a1 a2 a3 a4 a5 a6 a7 a8 a9 : Str) : Txt.join "" [a0, a1, a2, a3, a4, a5, a6, a7, a8, a9] = (((a0 ++ (a1 ++ a2) ++ a3) ++ (a4 ++ a5) ++ a6) ++ (a7 ++ a8) ++ a9) := by
  have e : (Str.ofString "").cps = #[] := by decide
  refine str_ext ?_
  show List.foldl _ _ _ = _
  simp only [List.drop, List.foldl, List.headD, e, Array.append_empty, app_cps, Array.append_assoc]
theorem fmode_all (n : Nat) : fmode (n : Int) = listing n := by
  have hc : fmChars (n : Int) = [chr "?pc?d?b?-?l?s???" (n / 4096 % 16), if n.testBit 8 then "r" else "-", if n.testBit 7 then "w" else "-", if n.testBit 11 then (if n.testBit 6 then "s" else "S") else (if n.testBit 6 then "x" else "-"),
      if n.testBit 5 then "r" else "-", if n.testBit 4 then "w" else "-", if n.testBit 10 then (if n.testBit 3 then "s" else "S") else (if n.testBit 3 then "x" else "-"),
      if n.testBit 2 then "r" else "-", if n.testBit 1 then "w" else "-", if n.testBit 9 then (if n.testBit 0 then "t" else "T") else (if n.testBit 0 then "x" else "-")] := by
    have hk := top_tab n
    rw [← kind_tab n (n / 4096 % 16) hk (by lia), ← one_tab n 8 1 (by decide) 256 rfl, ← one_tab n 7 2 (by decide) 128 rfl, ← three_tab n 6 11 3 (by decide) 2112 2048 64 rfl rfl rfl (by decide) (by decide),
      ← one_tab n 5 4 (by decide) 32 rfl, ← one_tab n 4 5 (by decide) 16 rfl, ← three_tab n 3 10 6 (by decide) 1032 1024 8 rfl rfl rfl (by decide) (by decide), ← one_tab n 2 7 (by decide) 4 rfl, ← one_tab n 1 8 (by decide) 2 rfl, ← three_tab n 0 9 9 (by decide) 513 512 1 rfl rfl rfl (by decide) (by decide)]
    rfl
  have e2 : ∀ b : Bool, (if b then ("r" : Str) else "-") = chr "-r" b.toNat := by decide
  have e3 : ∀ b : Bool, (if b then ("w" : Str) else "-") = chr "-w" b.toNat := by decide
  have e4 : ∀ b c : Bool, (if b then (if c then ("s" : Str) else "S") else (if c then ("x" : Str) else "-")) = chr "-xSs" (c.toNat + 2 * b.toNat) := by decide
  have e5 : ∀ b c : Bool, (if b then (if c then ("t" : Str) else "T") else (if c then ("x" : Str) else "-")) = chr "-xTt" (c.toNat + 2 * b.toNat) := by decide
  unfold fmode
  rw [hc]
  simp only [e2, e3, e4, e5, glue10]
  rfl
end Mine


namespace Mine
set_option maxRecDepth 100000
set_option linter.unusedVariables false

/- L3A -/
variable {g : Gx} {ℓ : Nat} {fi : FI} {σ : St} {ρ : AEnv} {P : Params}
local macro_rules | `(tactic| walk_at "lk") => `(tactic| first | assumption | exact rfl | exact lookup_put_eq | exact put_eq | (refine look_ne (by rfl) ?_; walk_at "lk") | (refine put_look_ne (by rfl) ?_; walk_at "lk") | exact capOf_of rfl (by walk_at "lk"))
local macro_rules | `(tactic| walk_at "nin") => `(tactic| first | exact List.not_mem_nil | exact nin_of (by first | assumption | rfl) (by rfl))
local macro_rules | `(tactic| walk_at "st") => `(tactic| first | exact ⟨by walk_at "nin", .inl rfl⟩ | exact ⟨by walk_at "nin", .inr (by decide +kernel)⟩)
local macro_rules | `(tactic| walk_at "nil") => `(tactic| repeat refine Ex.nil ?_)
local macro_rules | `(tactic| walk_at "fz") => `(tactic| exact fz_in (by walk_at "lk") (by first | assumption | rfl) (by rfl))

theorem gS (hg : GOk g) (hK : g.K = hd3.heap_1 P) {x : Str} {v : Value} (h : nsIn (hd3.heap_1 P) mainGlobals x = some (some v)) : GlobV g x v := GlobV.top hg (by rw [hK]; exact h)
theorem gB (hg : GOk g) (hK : g.K = hd3.heap_1 P) {x : Str} {v : Value} (h : nsIn (hd3.heap_1 P) mainGlobals x = some none) (hb : bootBuiltins x = some v) (hx : x ≠ "__name__" := by decide) : GlobV g x v := GlobV.blt hg (by rw [hK]; exact h) hb hx
theorem fnK (hK : g.K = hd3.heap_1 P) {a : Addr} {oc : Value} {od : Option Addr} {osl : Array (Option Value)} {fd : FuncData} (h : (hd3.heap_1 P).lookup a = some ⟨oc, od, .func fd, osl⟩) : g.K.lookup a = some ⟨oc, od, .func fd, osl⟩ := hK ▸ h

theorem ok_S_IMODE (hg : GOk g) (hK : g.K = hd3.heap_1 P) {m : Int} : CallOK g (ℓ + 1) (.ref 21) [.int m] (.int (Builtin.bitAnd m 4095)) := by
  refine CallOK.def hg (mkDef (xs := ["mode"]) hK rfl (by kernel_rfl) (bind1 fun v => rfl) hg (by decide +kernel)) rfl ?_
  exact Ex.cons (Ex1.ret (Ev.bin (Ev.var rfl) Ev.int Op2.and) (.inl rfl))
theorem ok_S_IFMT (hg : GOk g) (hK : g.K = hd3.heap_1 P) {m : Int} : CallOK g (ℓ + 1) (.ref 28) [.int m] (.int (Builtin.bitAnd m 61440)) := by
  refine CallOK.def hg (mkDef (xs := ["mode"]) hK rfl (by kernel_rfl) (bind1 fun v => rfl) hg (by decide +kernel)) rfl ?_
  exact Ex.cons (Ex1.ret (Ev.bin (Ev.var rfl) Ev.int Op2.and) (.inl rfl))

structure FmI (m : Int) (i : Nat) (σ : St) : Prop where
  w : σ.ω = [("perm" : Str)]
  mode : σ.ρ.lookup ("mode" : Str) = some (.int m)
  perm : σ.ρ.lookup ("perm" : Str) = some (.list (((fmChars m).take i).map .str))
structure FmJ (m : Int) (i : Nat) (t : List (Int × Str)) (j : Nat) (σ : St) : Prop extends FmI m i σ where
  ix : σ.ρ.lookup ("index" : Str) = some (.int i)
  no : ∀ q ∈ t.take j, fmHit i m q.1 = false

theorem ok_filemode (hg : GOk g) (hK : g.K = hd3.heap_1 P) {m : Int} : CallOK g (ℓ + 2) (.ref 68) [.int m] (.str (fmode m)) := by
  refine CallOK.def hg (mkDef (xs := ["mode"]) hK rfl (by kernel_rfl) (bind1 fun v => rfl) hg (by decide +kernel)) rfl ?_
  refine Ex.cons (Ex1.own Evs.nil (by walk_at "st") ?_)
  refine Ex.cons (Ex1.loopE hg (items := fmD) (FmI m) rfl (gB hg hK (by kernel_rfl) rfl) (Ev.globB hg rfl (gS hg hK (v := .ref 61) (by kernel_rfl)) (repK_ok (hK ▸ hg.kin) 5 _ _ (by kernel_rfl))) ⟨rfl, rfl, rfl⟩ ?_ ?_)
  · intro i σ' hσ d hd
    have hw := hσ.w
    have hm := hσ.mode
    have hp := hσ.perm
    obtain ⟨t, ht, rfl⟩ : ∃ t, fmTab[i]? = some t ∧ d = .tup (fmRow t) := by
      rw [fmD, List.getElem?_map] at hd
      cases e : fmTab[i]? with
      | none => rw [e] at hd; cases hd
      | some t => rw [e] at hd; cases hd; exact ⟨t, rfl, rfl⟩
    have hi : i < 10 := by
      have := (List.getElem?_eq_some_iff.mp ht).1; simpa [fmTab] using this
    refine ⟨by walk_at "st", by walk_at "st", ?_⟩
    refine Ex.cons (Ex1.loop (FmJ m i t) (fun d σ => match d with | .tup ds => putAll σ ["bit", "char"] ds | _ => σ) (Ev.var (by walk_at "fz")) rfl ⟨⟨hw, by walk_at "lk", by walk_at "lk"⟩, by walk_at "lk", by simp⟩ ?_ ?_)
    · intro j σ'' hσ d hd
      obtain ⟨⟨hw, hm, hp⟩, hix, hno⟩ := hσ
      obtain ⟨p, hp', rfl⟩ : ∃ p, t[j]? = some p ∧ d = .tup [.int p.1, .str p.2] := by
        rw [fmRow, List.getElem?_map] at hd
        cases e : t[j]? with
        | none => rw [e] at hd; cases hd
        | some t => rw [e] at hd; cases hd; exact ⟨t, rfl, rfl⟩
      refine ⟨AsgOK.tup rfl rfl (by intro x hx; simp only [List.mem_cons, List.not_mem_nil, or_false] at hx; rcases hx with rfl | rfl <;> walk_at "st") (.inr rfl), ?_⟩
      have hlen : (((fmChars m).take i).map D.str).length ≤ 10 := by simp only [List.length_map, List.length_take]; lia
      have hpush : ∀ σ3 : St, σ3.ω = [("perm" : Str)] → σ3.ρ.lookup ("mode" : Str) = some (.int m) → fmHit i m p.1 = true → FmI m (i + 1) (σ3.put "perm" (.list (((fmChars m).take i).map D.str ++ [.str p.2]))) := fun σ3 h1 h2 h3 =>
        ⟨h1, by walk_at "lk", by rw [← fmChars_take ht, ← fmChar_hit hno hp' h3]; walk_at "lk"⟩
      have hnext : ∀ σ3 : St, FmI m i σ3 → σ3.ρ.lookup ("index" : Str) = some (.int i) → fmHit i m p.1 = false → FmJ m i t (j + 1) σ3 := fun σ3 h1 h2 h3 => ⟨h1, h2, fun q hq => by
        rw [List.take_add_one, hp'] at hq
        rcases List.mem_append.mp hq with hq | hq
        · exact hno q hq
        · simp only [Option.toList_some, List.mem_singleton] at hq; subst hq; exact h3⟩
      refine Ex.cons (Ex1.ifs (Tst.cmp (Ev.var (by walk_at "lk")) Ev.int Op2.eqI) (fun c => ?_) fun c => ?_)
      · have hi0 : i = 0 := by simpa using c
        refine Ex.cons (Ex1.ifs (Tst.cmp (Ev.call hg rfl (gS hg hK (by kernel_rfl)) (.fn (fnK hK rfl)) (Evs.cons (Ev.var (by walk_at "lk")) Evs.nil) ((ok_S_IFMT hg hK))) (Ev.var (by walk_at "lk")) Op2.eqI) (fun c => ?_) fun c => ?_)
        · refine Ex.cons (Ex1.append (by rw [putAll_ω, hw]; decide) (by walk_at "lk") (EvS.strict (Ev.var (by walk_at "fz"))) (small_le (by lia)) ?_)
          refine Ex.cons (Ex1.brk ?_); walk_at "nil"; exact (hpush _ (by rw [putAll_ω, hw]) (by walk_at "lk") (by rw [fmHit, if_pos hi0]; exact c))
        · walk_at "nil"; exact (hnext _ ⟨by rw [putAll_ω, hw], by walk_at "lk", by walk_at "lk"⟩ (by walk_at "lk") (by rw [fmHit, if_pos hi0]; exact c))
      · have hi0 : i ≠ 0 := by simpa using c
        refine Ex.cons (Ex1.ifs (Tst.cmp (Ev.bin (Ev.var (by walk_at "lk")) (Ev.var (by walk_at "lk")) Op2.and) (Ev.var (by walk_at "lk")) Op2.eqI) (fun c => ?_) fun c => ?_)
        · refine Ex.cons (Ex1.append (by rw [putAll_ω, hw]; decide) (by walk_at "lk") (EvS.strict (Ev.var (by walk_at "fz"))) (small_le (by lia)) ?_)
          refine Ex.cons (Ex1.brk ?_); walk_at "nil"; exact (hpush _ (by rw [putAll_ω, hw]) (by walk_at "lk") (by rw [fmHit, if_neg hi0]; exact c))
        · walk_at "nil"; exact (hnext _ ⟨by rw [putAll_ω, hw], by walk_at "lk", by walk_at "lk"⟩ (by walk_at "lk") (by rw [fmHit, if_neg hi0]; exact c))
    · rintro σ3 ⟨⟨hw, hm, hp⟩, hix, hno⟩
      have hno' : ∀ q ∈ t, fmHit i m q.1 = false := fun q hq => hno q (by rw [fmRow, List.length_map, List.take_length]; exact hq)
      have hch := fmChar_miss hno'
      have hlen : (((fmChars m).take i).map D.str).length ≤ 10 := by simp only [List.length_map, List.length_take]; lia
      refine Ex.cons (Ex1.ifs (Tst.cmp (Ev.var (by walk_at "lk")) Ev.int Op2.eqI) (fun c => ?_) fun c => ?_)
      · have hi0 : i = 0 := by simpa using c
        refine Ex.cons (Ex1.append (by rw [hw]; decide) (by walk_at "lk") (EvS.strict Ev.str) (small_le (by lia)) ?_)
        walk_at "nil"; exact ⟨hw, by walk_at "lk", by rw [← fmChars_take ht, hch, if_pos hi0]; walk_at "lk"⟩
      · have hi0 : i ≠ 0 := by simpa using c
        refine Ex.cons (Ex1.append (by rw [hw]; decide) (by walk_at "lk") (EvS.strict Ev.str) (small_le (by lia)) ?_)
        walk_at "nil"; exact ⟨hw, by walk_at "lk", by rw [← fmChars_take ht, hch, if_neg hi0]; walk_at "lk"⟩
  · rintro σ3 ⟨hw, hm, hp⟩
    have hp' : σ3.ρ.lookup ("perm" : Str) = some (.list ((fmChars m).map .str)) := by rw [hp]; rfl
    refine Ex.nil (Ex.cons (Ex1.ret (d := .str (fmode m)) ?_ (.inl rfl)))
    apply Ev.methS F.slot_str_join F.type_str_join
    · exact Ev.str
    · exact Ev.var hp'
    · exact Op2.join (by rw [fmChars_sum, fmChars_len]; decide)

structure LsI (n : Nat) (i : Nat) (σ : St) : Prop where
  w : σ.ω = []
  num : σ.ρ.lookup ("number" : Str) = some (.int (n : Int))
  shown : σ.ρ.lookup ("shown" : Str) = some (.str (lsUp n i))

theorem bit2 (b : Bool) : b.toNat < 2 := by cases b <;> decide

theorem ok_listing (hg : GOk g) (hK : g.K = hd3.heap_1 P) {n : Nat} (hn : n < 65536) : CallOK g (ℓ + 1) (.ref 136) [.int (n : Int)] (.str (listing n)) := by
  refine CallOK.def hg (mkDef (xs := ["number"]) hK rfl (by kernel_rfl) (bind1 fun v => rfl) hg (by decide +kernel)) rfl ?_
  refine Ex.cons (Ex1.assign (EvS.strict (Ev.sub Ev.str (Ev.bin (Ev.var rfl) Ev.int (Op2.fdiv (by decide) (by decide))) (Op2.atS' (j := n / 4096 % 16) (by lia) (by show _ < 16; lia) (by lia)))) (by walk_at "st") ?_)
  refine Ex.cons (Ex1.loop (items := [.int 8, .int 5, .int 2]) (LsI n) (fun d σ => σ.put "top" d) (Ev.list (Evs.cons Ev.int (Evs.cons Ev.int (Evs.cons Ev.int Evs.nil)))) rfl ⟨rfl, rfl, rfl⟩ ?_ ?_)
  · rintro i σ' ⟨hw, hnum, hsh⟩ d hd
    have hlen := lsUp_len n i
    have hi : i < 3 := (List.getElem?_eq_some_iff.mp hd).1
    obtain ⟨t, ht, ht1, ht2, rfl⟩ : ∃ t : Nat, [8, 5, 2].getD i 0 = t ∧ 2 ≤ t ∧ t ≤ 8 ∧ d = .int (t : Int) := by
      match i, hi with
      | 0, _ => cases hd; exact ⟨8, rfl, by lia, by lia, rfl⟩
      | 1, _ => cases hd; exact ⟨5, rfl, by lia, by lia, rfl⟩
      | 2, _ => cases hd; exact ⟨2, rfl, by lia, by lia, rfl⟩
    refine ⟨AsgOK.name (by walk_at "st"), ?_⟩
    have b1 := bit2 (n.testBit t)
    have b2 := bit2 (n.testBit (t - 1))
    have b3 := bit2 (n.testBit (t - 2))
    have b4 := bit2 (n.testBit (9 + t / 3))
    refine Ex.cons (Ex1.aug (a := .str (lsUp n i)) (by walk_at "lk") (EvS.strict (Ev.bin (Ev.sub Ev.str (Ev.bit (X := n) (K := t) (Ev.var (by walk_at "fz")) (Ev.var (by walk_at "fz")) rfl (by lia)) (Op2.atS' rfl (by exact b1) (by lia)))
      (Ev.sub Ev.str (Ev.bit (X := n) (K := t - 1) (Ev.var (by walk_at "fz")) (Ev.bin (Ev.var (by walk_at "fz")) Ev.int Op2.sub) (by lia) (by lia)) (Op2.atS' rfl (by exact b2) (by lia))) (Op2.addS (by rw [chr_len, chr_len]; decide)))) rfl (Op2.iaddS (by rw [Str.length_append, chr_len, chr_len, hlen]; exact small_le (by lia))) rfl (by walk_at "st") ?_)
    refine Ex.cons (Ex1.assign (EvS.strict (d := .int (((n.testBit (t - 2)).toNat + 2 * (n.testBit (9 + t / 3)).toNat : Nat) : Int)) (Ev.cast (Ev.bin (Ev.bit (X := n) (K := t - 2) (Ev.var (by walk_at "fz")) (Ev.bin (Ev.var (by walk_at "fz")) Ev.int Op2.sub) (by lia) (by lia)) (Ev.bin Ev.int (Ev.bit (X := n) (K := 9 + t / 3) (Ev.var (by walk_at "fz")) (Ev.bin Ev.int (Ev.bin (Ev.var (by walk_at "fz")) Ev.int (Op2.fdiv (by decide) (by decide))) Op2.add) (by lia) (by lia)) (Op2.mulL (by decide) (by decide))) Op2.add) (by push_cast; rfl))) (by walk_at "st") ?_)
    refine Ex.cons (Ex1.aug (a := .str (lsUp n i ++ (chr "-r" (n.testBit t).toNat ++ chr "-w" (n.testBit (t - 1)).toNat))) (by walk_at "lk") (EvS.strict (d := .str (chr (if t = 2 then "-xTt" else "-xSs") ((n.testBit (t - 2)).toNat + 2 * (n.testBit (9 + t / 3)).toNat))) (Ev.sub (a := .str (if t = 2 then "-xTt" else "-xSs")) (Ev.ifexp (Tst.cmp (Ev.var (by walk_at "fz")) Ev.int Op2.eqI) (fun c => Ev.cast Ev.str ?_) (fun c => Ev.cast Ev.str ?_)) (Ev.var (by walk_at "fz")) (Op2.atS' rfl ?_ ?_))) rfl (Op2.iaddS ?_) rfl (by walk_at "st") ?_)
    · simp at c; rw [if_pos (by lia)]
    · simp at c; rw [if_neg (by lia)]
    · split <;> show _ < 4 <;> lia
    · lia
    · rw [Str.length_append, Str.length_append, chr_len, chr_len, chr_len, hlen]; exact small_le (by lia)
    · walk_at "nil"
      refine ⟨hw, by walk_at "lk", ?_⟩
      refine lookup_put_eq.trans ?_
      rw [lsUp, ht]; rfl
  · rintro σ' ⟨hw, hnum, hsh⟩
    exact Ex.nil (Ex.cons (Ex1.ret (Ev.var (by walk_at "lk")) (.inl rfl)))

theorem fn_obj {f : Value} {params : Arguments} {body : FuncBody} {sc : Scope} {ρc : AEnv} {h : Heap} (hf : FnH [] h f params body sc ρc) : ∃ a o fd, f = .ref a ∧ h.get? a = some o ∧ o.data = .func fd := by
  obtain ⟨a, o, fd, cc, qn, h1, h2, h3, h4, _⟩ := hf
  exact ⟨a, o, fd, h1, h2, h4⟩

theorem ok_reduce (hg : GOk g) (hK : g.K = hd3.heap_1 P) {f : Value} {dseq init : D} {items : List D} {accs : Nat → D} (hf : ∃ a o fd, f = .ref a ∧ g.b.get? a = some o ∧ o.data = .func fd) (hit : iterD dseq = some items) (h0 : accs 0 = init) (hdat : init.data = true)
    (hc : ∀ i d, items[i]? = some d → CallOK g ℓ f [accs i, d] (accs (i + 1))) : CallOK g (ℓ + 1) (.ref 77) [.opq f, dseq, init] (accs items.length) := by
  refine CallOK.def hg (mkDef (xs := ["function", "sequence", "initial"]) hK rfl (by kernel_rfl) (bind3d rfl rfl rfl (fun _ _ _ => rfl) (fun _ _ _ => rfl)) hg (by decide +kernel)) rfl ?_
  refine (Ex.reduce hg (m := 69) (accs := accs) (items := items) ⟨rfl, rfl, rfl, rfl, rfl⟩ (gB hg hK (by kernel_rfl) rfl) (gS hg hK (by kernel_rfl)) ⟨_, hg.kin _ _ (by rw [hK]; exact rfl), rfl⟩ hf hit h0 hdat hc).mono fun _ fl h => .inl h

theorem ok_fold (hg : GOk g) (hK : g.K = hd3.heap_1 P) {f : Value} {dseq : D} {α β : Type} {l : List β} {en : β → D} {enc : α → D} {stp : α → β → α} {a0 : α} (hf : ∃ a o fd, f = .ref a ∧ g.b.get? a = some o ∧ o.data = .func fd) (hit : iterD dseq = some (l.map en)) (hdat : (enc a0).data = true)
    (hc : ∀ i x, l[i]? = some x → CallOK g ℓ f [enc ((l.take i).foldl stp a0), en x] (enc (stp ((l.take i).foldl stp a0) x))) : CallOK g (ℓ + 1) (.ref 77) [.opq f, dseq, enc a0] (enc (l.foldl stp a0)) := by
  have := ok_reduce (ℓ := ℓ) hg hK (accs := fun i => enc ((l.take i).foldl stp a0)) hf hit rfl hdat (fun i d hd => by
    rw [List.getElem?_map] at hd
    cases e : l[i]? with
    | none => rw [e] at hd; cases hd
    | some x =>
      rw [e] at hd; cases hd
      have := hc i x e
      rw [List.take_add_one, e, Option.toList_some, List.foldl_append]
      exact this)
  rw [List.length_map, List.take_length] at this
  exact this

section
variable {st p : Addr} {b : Array UInt8} {pos : Int}
theorem ok_uint1 (hg : GOk g) (hK : g.K = hd3.heap_1 P) {i : Nat} {u : UInt8} (hb : b.size ≤ 2 ^ 20) (hi : b[i]? = some u) : CallR g (ℓ + 2) (.ref 84) st p b (i : Int) ((i + 1 : Nat) : Int) (.int (u.toNat : Int)) := by
  refine CallR.def hg (mkDef (xs := ["f"]) hK rfl (by kernel_rfl) (bind1 fun _ => rfl) hg (by decide +kernel)) ?_
  exact ExR.uint1 hg ⟨rfl⟩ (gB hg hK (by kernel_rfl) rfl) (gB hg hK (by kernel_rfl) rfl) hb hi rfl rfl (by decide)
theorem ok_bytes1 (hg : GOk g) (hK : g.K = hd3.heap_1 P) {i n : Nat} (hb : b.size ≤ 2 ^ 20) (hi : b[i]? = some n.toUInt8) (hn : n < 256) (hz : i + 1 + n ≤ b.size) : CallR g (ℓ + 3) (.ref 91) st p b (i : Int) ((i + 1 + n : Nat) : Int) (.bytes (cutB b (i + 1) n)) := by
  refine CallR.def hg (mkDef (xs := ["f"]) hK rfl (by kernel_rfl) (bind1 fun _ => rfl) hg (by decide +kernel)) ?_
  refine ExR.bytes1 hg (a1 := 84) ⟨rfl, rfl, rfl, rfl⟩ (gB hg hK (by kernel_rfl) rfl) (gB hg hK (by kernel_rfl) rfl) (gS hg hK (by kernel_rfl)) (fnK hK rfl) hb hz rfl rfl (by decide) ?_
  have := ok_uint1 (ℓ := ℓ) (st := st) (p := p) hg hK hb hi
  have e : ((n.toUInt8.toNat : Nat) : Int) = (n : Int) := by
    rw [Nat.toUInt8, UInt8.toNat_ofNat']; congr 1; lia
  rw [e] at this; exact this
end
theorem ok_stream (hg : GOk g) (hK : g.K = hd3.heap_1 P) (ht : g.tabs = [(118, 114), (111, 107), (97, 93), (145, 143)]) {b : Array UInt8} {A : Around} {X : List Addr} {s : Shared} {t : Tok} (hA : AOk (ℓ + 1) A) (hI : Inv g s) (hX : XOk g X s.heap) :
    wpAny g.M A (PySem.call (.ref 98) [.bytes b t]) (Streamed g s b) NoE s := by
  refine callStream hg (c := 97) (P := 93) (mkDef (xs := ["octets"]) hK rfl (by kernel_rfl) (bind1 fun _ => rfl) hg (by decide +kernel)) (by rw [ht]; decide) rfl rfl rfl rfl (by decide) (by decide) (fun _ => rfl) (fun _ => rfl) (fun _ => rfl) rfl rfl ?_ hA hI hX
  intro h rd p hf
  refine ⟨_, _, _, _, hf, ⟨rfl, rfl, rfl, by decide +kernel, by decide, fun x hx => ?_⟩, rfl, rfl, fun x d hx => ?_, ⟨rfl, rfl, rfl⟩, fun fd v h1 h2 h3 => ?_, .mk _ _ _ _ _ _ _ _ _ _ _ _ _ _ _ _ _ _ _ _ _ _ _ _ _ _ _ _⟩
  · rw [List.mem_singleton] at hx; subst hx; exact .inl rfl
  · have h2 := (capOf_lookup hx).1
    rw [List.lookup_cons] at h2
    split at h2
    · cases h2; rfl
    · rw [List.lookup_cons] at h2
      split at h2
      · cases h2; rfl
      · cases h2
  · cases fd; cases h1; cases h2; cases h3; rfl

/- L3B -/
local macro_rules | `(tactic| walk_at "cf") => `(tactic| exact put_look_ne (by rfl) (capOf_of rfl (by walk_at "fz")))
local macro_rules | `(tactic| walk_at "cl") => `(tactic| exact put_look_ne (by rfl) (capOf_of rfl (by walk_at "lk")))

def netN (b : List Nat) : List (List Nat) := [[0, b.getD 0 0, b.getD 1 0], [b.getD 0 0, 0, b.getD 2 0], [b.getD 1 0, b.getD 2 0, 0]]
theorem ok_net (hg : GOk g) (hK : g.K = hd3.heap_1 P) {d : D} {b : List Nat} (hT : d.seqT.isSome = true) (h : ∀ (i : Int) (j : Nat), i = (j : Int) → j < 3 → Op2 g getItem d (.int i) (.int (b.getD j 0 : Int))) : CallOK g (ℓ + 1) (.ref 105) [d] (.list (rowsD (netN b))) := by
  refine CallOK.def hg (mkDef (xs := ["across"]) hK rfl (by kernel_rfl) (bind1 fun _ => rfl) hg (by decide +kernel)) rfl ?_
  have h0 := h 0 0 rfl (by decide)
  have h1 := h 1 1 rfl (by decide)
  have h2 := h 2 2 rfl (by decide)
  refine Ex.cons (Ex1.ret (d := .list (rowsD (netN b))) (Ev.lst (Evs.cons (Ev.lst (Evs.cons Ev.int (Evs.cons (Ev.sub (Ev.var rfl) Ev.int h0 hT) (Evs.cons (Ev.sub (Ev.var rfl) Ev.int h1 hT) Evs.nil)))) (Evs.cons (Ev.lst (Evs.cons (Ev.sub (Ev.var rfl) Ev.int h0 hT) (Evs.cons Ev.int (Evs.cons (Ev.sub (Ev.var rfl) Ev.int h2 hT) Evs.nil)))) (Evs.cons (Ev.lst (Evs.cons (Ev.sub (Ev.var rfl) Ev.int h1 hT) (Evs.cons (Ev.sub (Ev.var rfl) Ev.int h2 hT) (Evs.cons Ev.int Evs.nil)))) Evs.nil)))) (.inl rfl))
abbrev netAt (N : List (List Nat)) (k j : Nat) : Nat := (N.getD k []).getD j 0
structure NetOk (N : List (List Nat)) : Prop where
  l : N.length = 3
  r : ∀ k, k < 3 → (N.getD k []).length = 3
theorem netN_ok (b : List Nat) : NetOk (netN b) := ⟨rfl, fun k hk => by
  match k, hk with
  | 0, _ => rfl
  | 1, _ => rfl
  | 2, _ => rfl⟩
theorem NetOk.at1 {N : List (List Nat)} (h : NetOk N) {k : Nat} (hk : k < 3) : (rowsD N)[k]? = some (rowD (N.getD k [])) := rowsD_at (by rw [h.l]; exact hk)
theorem NetOk.at2 {N : List (List Nat)} (h : NetOk N) {k j : Nat} (hk : k < 3) (hj : j < 3) : (natD (N.getD k []))[j]? = some (.int (netAt N k j : Int)) := natD_at (by rw [h.r k hk]; exact hj)
theorem Ev.netAt {N : List (List Nat)} {e1 e2 e3 : Expr} {p1 p2 : Pos} {k j : Nat} (h : NetOk N) (h1 : Ev g ℓ fi ρ e1 (.list (rowsD N))) (h2 : Ev g ℓ fi ρ e2 (.int (k : Int))) (h3 : Ev g ℓ fi ρ e3 (.int (j : Int))) (hk : k < 3) (hj : j < 3)
    (hs2 : ∀ o i, subscripted e2 false o i = operate [o, i] (getItem o i) := by intro _ _; rfl) (hs3 : ∀ o i, subscripted e3 false o i = operate [o, i] (getItem o i) := by intro _ _; rfl) : Ev g ℓ fi ρ (.Subscript (.Subscript e1 e2 p1) e3 p2) (.int (Mine.netAt N k j : Int)) :=
  Ev.sub (a := rowD (N.getD k [])) (Ev.sub h1 h2 (Op2.atLN rfl (h.at1 hk) (by lia)) rfl hs2) h3 (Op2.atLN rfl (h.at2 hk hj) (by lia)) rfl hs3
def needsN (N : List (List Nat)) : List (List (List Nat)) := [[0, 1], [0, 2], [1, 2], [0, 1, 2]].map fun some => some.map fun k => [k, (some.map fun j => netAt N k j).sum]
theorem ok_needs (hg : GOk g) (hK : g.K = hd3.heap_1 P) {N : List (List Nat)} (hN : NetOk N) : CallOK g (ℓ + 1) (.ref 124) [.list (rowsD N)] (.list (cubeD (needsN N))) := by
  refine CallOK.def hg (mkDef (xs := ["net"]) hK rfl (by kernel_rfl) (bind1 fun _ => rfl) hg (by decide +kernel)) rfl ?_
  have hdec : cubeD (needsN N) = ([[0, 1], [0, 2], [1, 2], [0, 1, 2]] : List (List Nat)).map fun some => D.list (rowsD (some.map fun k => [k, (some.map fun j => netAt N k j).sum])) := by rw [cubeD, needsN, List.map_map]; rfl
  with_reducible refine Ex.cons (Ex1.ret (d := .list (cubeD (needsN N))) ?_ (.inl ?_))
  · rw [hdec]
    with_reducible refine Ev.comp ?_
    with_reducible refine CompOK.codM (l := [[0, 1], [0, 2], [1, 2], [0, 1, 2]]) rowD rowOf rowOf_rowD (f := fun some => D.list (rowsD (some.map fun k => [k, (some.map fun j => netAt N k j).sum]))) (dl := .list (rowsD [[0, 1], [0, 2], [1, 2], [0, 1, 2]])) ?_ ?_ ?_ ?_ ?_ ?_ (hs := ?_)
    · rfl
    · exact .inr rfl
    · with_reducible refine Ev.rows ?_ ?_ ?_
      · rfl
      · decide
      · decide
    · rfl
    rotate_left
    · decide
    · intro _ _; rfl
    intro some hs
    have hlt : (∀ k ∈ some, k < 3) ∧ some.length ≤ 3 := by
      simp only [List.mem_cons, List.not_mem_nil, or_false] at hs
      rcases hs with rfl | rfl | rfl | rfl <;> decide
    refine Ev.cast (Ev.comp (CompOK.natM (l := some) (f := fun k => rowD [k, (some.map fun j => netAt N k j).sum]) rfl (.inr rfl) (Ev.var put_eq) rfl (fun k hk => ?_) (by lia))) (by rw [rowsD, List.map_map]; rfl)
    have hk3 := hlt.1 k hk
    refine Ev.lst (Evs.cons (Ev.var put_eq) (Evs.cons (Ev.call hg rfl (gB hg hK (by kernel_rfl) rfl) (.blt _) (Evs.cons (Ev.cast (d' := rowD (some.map fun j => netAt N k j)) (Ev.comp (CompOK.natM (l := some) (f := fun j => .int (netAt N k j : Int)) rfl (.inl rfl) (Ev.var ((put_ne (by rfl)).trans (capOf_of rfl put_eq))) rfl (fun j hj => ?_) (by lia))) (by rw [rowD, natD, List.map_map]; rfl)) Evs.nil) CallOK.sumN) Evs.nil))
    exact Ev.netAt hN (Ev.var ((put_ne (by rfl)).trans (capOf_of rfl ((put_ne (by rfl)).trans (capOf_of rfl ((put_ne (by rfl)).trans (capOf_of rfl rfl))))))) (Ev.var ((put_ne (by rfl)).trans (capOf_of rfl put_eq))) (Ev.var put_eq) hk3 (hlt.1 j hj)
  · rfl
def stuck (heap : List Nat) (some : List (List Nat)) : Bool := (some.filter fun need => decide (need.getD 1 0 ≤ heap.getD (need.getD 0 0) 0)) == []
def greenN (C : List (List (List Nat))) (heap : List Nat) : List Nat := C.flatMap fun some => if stuck heap some then some.map fun need => need.getD 0 0 else []
structure GrI (C : List (List (List Nat))) (heap : List Nat) (i : Nat) (σ : St) : Prop where
  w : σ.ω = [("green" : Str)]
  he : σ.ρ.lookup ("heap" : Str) = some (rowD heap)
  gr : σ.ρ.lookup ("green" : Str) = some (rowD (greenN (C.take i) heap))
theorem greenN_succ {C : List (List (List Nat))} {heap : List Nat} {i : Nat} {some : List (List Nat)} (h : C[i]? = .some some) : greenN (C.take (i + 1)) heap = greenN (C.take i) heap ++ (if stuck heap some then some.map fun need => need.getD 0 0 else []) := by
  rw [greenN, List.take_add_one, h, List.flatMap_append]; simp [greenN]
theorem greenN_len {C : List (List (List Nat))} {heap : List Nat} (h : ∀ some ∈ C, some.length ≤ 3) : (greenN C heap).length ≤ 3 * C.length := by
  induction C with
  | nil => simp [greenN]
  | cons a l ih =>
    have h1 := h a (.head _)
    have h2 := ih fun b hb => h b (.tail _ hb)
    have : greenN (a :: l) heap = (if stuck heap a then a.map fun need => need.getD 0 0 else []) ++ greenN l heap := by simp [greenN]
    rw [this, List.length_append, List.length_cons]
    split
    · rw [List.length_map]; lia
    · simp; lia
theorem ok_green (hg : GOk g) (hK : g.K = hd3.heap_1 P) {C : List (List (List Nat))} {heap : List Nat} (hC : C.length ≤ 10) (hh : heap.length = 3) (h3 : ∀ some ∈ C, some.length ≤ 3 ∧ ∀ need ∈ some, need.length = 2 ∧ need.getD 0 0 < 3) : CallOK g (ℓ + 1) (.ref 129) [.list (cubeD C), rowD heap] (rowD (greenN C heap)) := by
  refine CallOK.def hg (mkDef (xs := ["needs", "heap"]) hK rfl (by kernel_rfl) (bind2 fun _ _ => rfl) hg (by decide +kernel)) rfl ?_
  refine Ex.cons (Ex1.own Evs.nil (by walk_at "st") ?_)
  refine Ex.cons (Ex1.loop (items := cubeD C) (GrI C heap) (fun d σ => σ.put "some" d) (Ev.var rfl) rfl ⟨rfl, rfl, rfl⟩ ?_ ?_)
  · rintro i σ' ⟨hw, hhe, hgr⟩ d hd
    obtain ⟨some, hso, rfl⟩ : ∃ L, C[i]? = .some L ∧ D.list (rowsD L) = d := by
      rw [cubeD, List.getElem?_map] at hd
      exact Option.map_eq_some_iff.mp hd
    obtain ⟨hl3, hne⟩ := h3 some (List.mem_of_getElem? hso)
    have hi : i < C.length := (List.getElem?_eq_some_iff.mp hso).1
    have hgl := greenN_len (C := C.take i) (heap := heap) fun b hb => (h3 b (List.mem_of_mem_take hb)).1
    have hsucc := greenN_succ (heap := heap) hso
    rw [List.length_take] at hgl
    refine ⟨AsgOK.name (by walk_at "st"), ?_⟩
    have at0 : ∀ need ∈ some, (natD need)[0]? = .some (.int (need.getD 0 0 : Int)) := fun need hn => natD_at (by rw [(hne need hn).1]; decide)
    have at1 : ∀ need ∈ some, (natD need)[1]? = .some (.int (need.getD 1 0 : Int)) := fun need hn => natD_at (by rw [(hne need hn).1]; decide)
    refine Ex.cons (Ex1.ifs (c := stuck heap some) (Tst.cmp (Ev.comp (CompOK.codF (l := some) rowD rowOf rowOf_rowD (f := rowD) (b := fun need => decide (need.getD 1 0 ≤ heap.getD (need.getD 0 0) 0)) rfl (.inl rfl) (Ev.var (by walk_at "lk")) rfl (fun need hn => ?_) (fun need hn => Ev.var put_eq) (by lia))) (Ev.lst Evs.nil) (Op2.eqD (goods_rows 7 _) rfl ?_)) (fun c => ?_) (fun c => ?_))
    · refine Tst.cast (Tst.cmp (Ev.sub (Ev.var (by walk_at "cl")) (Ev.sub (a := rowD need) (Ev.var put_eq) Ev.int (Op2.atLN (j := 0) rfl (at0 need hn) (by decide))) (Op2.atLN rfl (natD_at (by rw [hh]; exact (hne need hn).2)) (by have := (hne need hn).2; lia))) (Ev.sub (a := rowD need) (Ev.var put_eq) Ev.int (Op2.atLN (j := 1) rfl (at1 need hn) (by decide))) Op2.geI) ?_
      rw [decide_eq_decide]; lia
    · rw [stuck, beq_iff_eq]
      exact (rowsD_inj (M := [])).symm
    · refine Ex.cons (Ex1.extend (es := natD (some.map fun need => need.getD 0 0)) (by show ("green" : Str) ∈ σ'.ω; rw [hw]; exact .head _) (by walk_at "lk") (.inr ⟨Ev.cast (Ev.comp (CompOK.codM (l := some) rowD rowOf rowOf_rowD (f := fun need => .int (need.getD 0 0 : Int)) rfl (.inl rfl) (Ev.var (by walk_at "lk")) rfl (fun need hn => Ev.sub (a := rowD need) (Ev.var put_eq) Ev.int (Op2.atLN (j := 0) rfl (at0 need hn) (by decide))) (by lia))) (by rw [natD, List.map_map]; rfl), fun d hd => ?_⟩) (small_le (by simp; lia)) ?_)
      · obtain ⟨y, _, rfl⟩ := List.mem_map.mp hd; rfl
      · walk_at "nil"
        refine ⟨by simp only [St.put_ω]; exact hw, by walk_at "lk", ?_⟩
        rw [hsucc, if_pos c]
        refine lookup_put_eq.trans ?_
        simp [rowD, natD]
    · walk_at "nil"
      refine ⟨by simp only [St.put_ω]; exact hw, by walk_at "lk", ?_⟩
      rw [hsucc, if_neg (by rw [c]; simp), List.append_nil]
      walk_at "lk"
  · rintro σ' ⟨hw, hhe, hgr⟩
    have e : (cubeD C).length = C.length := List.length_map ..
    rw [e, List.take_length] at hgr
    exact Ex.nil (Ex.cons (Ex1.ret (Ev.var hgr) (.inl rfl)))

/- L3C -/
def greens (mode : Nat) : List Nat := (List.range 3).filter fun j => !mode.testBit (11 - j)
def burnN (N : List (List Nat)) (t mode k : Nat) : Nat :=
  if k ∈ greens mode ∧ (((greens mode).map fun j => netAt N k j).sum : Int) ≤ ((mode : Int) / 8 ^ (2 - k) - t) % 8 then mode + 2 ^ (11 - k) else mode
theorem greens_lt {mode j : Nat} (h : j ∈ greens mode) : j < 3 := List.mem_range.mp (List.mem_filter.mp h).1
theorem greens_len (mode : Nat) : (greens mode).length ≤ 3 := by
  have := List.length_filter_le (fun j => !mode.testBit (11 - j)) (List.range 3)
  rwa [List.length_range] at this
theorem ev_burn (hg : GOk g) (hK : g.K = hd3.heap_1 P) (ht : g.tabs = [(118, 114), (111, 107), (97, 93), (145, 143)]) {p0 pos0 : Pos} {e1 e2 : Expr} {N : List (List Nat)} {t : Nat} (hN : NetOk N) (hk : fi.sc.names.lookup ("_law_burn" : Str) = some .globalImplicit) (h1 : Ev g (ℓ + 1) fi ρ e1 (.list (rowsD N))) (h2 : Ev g (ℓ + 1) fi ρ e2 (.int (t : Int)))
    (hse1 : ∀ env, starEach [e1, e2] env = (false, eval e1 env) :: starEach [e2] env) (hse2 : ∀ env, starEach [e2] env = (false, eval e2 env) :: starEach [] env) : ∃ params fbody fsc, EvF g (ℓ + 1) fi ρ (.Call (.Name "_law_burn" p0) [e1, e2] [] pos0) params (.stmts fbody) fsc (capOf fsc [(("net" : Str), .list (rowsD N)), ("turn", .int (t : Int))]) ∧
      ∀ (ℓ' : Nat) (g' : Gx) (f : Value), GOk g' → g'.K = hd3.heap_1 P → FnH [] g'.b f params (.stmts fbody) fsc (capOf fsc [(("net" : Str), .list (rowsD N)), ("turn", .int (t : Int))]) → ∀ mode k : Nat, k < 3 → CallOK g' (ℓ' + 3) f [.int (mode : Int), .int (k : Int)] (.int (burnN N t mode k : Int)) := by
  refine ⟨_, _, _, EvF.maker (c := 111) (P := 107) (xs := ["net", "turn"]) hg hk (gS hg hK (v := .ref 112) (by kernel_rfl)) (fnK hK rfl) (mkDef hK rfl (by kernel_rfl) (bind2 fun _ _ => rfl) hg (by decide +kernel)) (by rw [ht]; decide) (Evs.cons h1 (Evs.cons h2 Evs.nil hse2) hse1) rfl (by decide) rfl (by decide) (he := hse1), ?_⟩
  intro ℓ' g' f hg' hK' hf mode k hk3
  refine CallOK.fun hg' (xs := ["mode", "k"]) hf ⟨rfl, rfl, rfl, by decide +kernel, by decide, nm2 (.inr rfl) (.inr rfl)⟩ rfl (bindF2 fun _ _ _ => rfl) fun cd => ?_
  · have hgl := greens_len mode
    refine Ex.cons (Ex1.assignC (ds := natD (greens mode)) (CompOK.natF (l := List.range 3) (f := fun j => .int (j : Int)) (b := fun j => !mode.testBit (11 - j)) rfl (.inl rfl) (Ev.call hg' rfl (gB hg' hK' (by kernel_rfl) rfl) (.typ _) (Evs.cons Ev.int Evs.nil) (CallOK.rangeN (n := 3) (by lia))) (iter_rangeN 3) (fun j hj => ?_) (fun j hj => Ev.var put_eq) (by decide)) (by walk_at "st") ?_)
    · have hj := List.mem_range.mp hj
      refine Tst.cast (Tst.cmp (Ev.bit (X := mode) (K := 11 - j) (Ev.var (by walk_at "cf")) (Ev.bin Ev.int (Ev.var put_eq) Op2.sub) (by lia) (by lia)) Ev.int Op2.eqI) ?_
      cases mode.testBit (11 - j) <;> rfl
    refine Ex.cons (Ex1.ifs (c := decide (k ∈ greens mode ∧ (((greens mode).map fun j => netAt N k j).sum : Int) ≤ ((mode : Int) / 8 ^ (2 - k) - t) % 8)) (Tst.cast (Tst.boolop (TstAll.and_cons (c := decide (k ∈ greens mode)) (c' := decide ((((greens mode).map fun j => netAt N k j).sum : Int) ≤ ((mode : Int) / 8 ^ (2 - k) - t) % 8) && true) (Tst.cmp (Ev.var (by walk_at "lk")) (Ev.var (d := rowD (greens mode)) (by walk_at "lk")) (Op2.inD good_int (goods_nat 8 _) ?_)) (fun _ => TstAll.and_cons (Tst.cast (Tst.cmp (Ev.bin (Ev.bin (Ev.bin (Ev.var (by walk_at "lk")) (Ev.bin Ev.int (Ev.bin Ev.int (Ev.var (by walk_at "lk")) Op2.sub) (Op2.pow (by lia) (by lia) (by decide))) (Op2.fdiv ?_ ?_)) (Ev.var (d := .int (t : Int)) (by walk_at "lk")) Op2.sub) Ev.int (Op2.fmod (by decide))) (Ev.call hg' rfl (gB hg' hK' (by kernel_rfl) rfl) (.blt _) (Evs.cons (Ev.cast (d' := rowD ((greens mode).map fun j => netAt N k j)) (Ev.comp (CompOK.natM (l := greens mode) (f := fun j => .int (netAt N k j : Int)) rfl (.inl rfl) (Ev.var (by walk_at "lk")) rfl (fun j hj => ?_) (by lia))) (by rw [rowD, natD, List.map_map]; rfl)) Evs.nil) CallOK.sumN) Op2.geI) ?_) (fun _ => TstAll.and_nil)))) ?_) (fun c => ?_) (fun c => ?_))
    · exact (decide_eq_true_iff).trans ⟨fun h => List.mem_map.mpr ⟨k, h, rfl⟩, fun h => by
        obtain ⟨y, hy, e⟩ := List.mem_map.mp h
        injection e with e
        rwa [← Int.ofNat.inj e]⟩
    · have : ((2 : Int) - (k : Int)).toNat = 2 - k := by lia
      rw [this]
      match k, hk3 with
      | 0, _ => decide
      | 1, _ => decide
      | 2, _ => decide
    · have : ((2 : Int) - (k : Int)).toNat = 2 - k := by lia
      rw [this]
      match k, hk3 with
      | 0, _ => decide
      | 1, _ => decide
      | 2, _ => decide
    · exact Ev.netAt hN (Ev.var (by walk_at "cl")) (Ev.var (by walk_at "cl")) (Ev.var put_eq) hk3 (greens_lt hj)
    · have : ((2 : Int) - (k : Int)).toNat = 2 - k := by lia
      rw [this]
    · rw [Bool.and_true, Bool.decide_and]
    · have hp : ((11 : Int) - (k : Int)) = ((11 - k : Nat) : Int) := by lia
      rw [burnN, if_pos (of_decide_eq_true c)]
      exact Ex.cons (Ex1.ret (Ev.cast (Ev.bin (Ev.var (by walk_at "lk")) (Ev.bin Ev.int (Ev.cast (Ev.bin Ev.int (Ev.var (by walk_at "lk")) Op2.sub) (congrArg D.int hp)) (Op2.pow2 (by lia))) Op2.add) (by push_cast; rfl)) (.inl rfl))
    · rw [burnN, if_neg (of_decide_eq_false c)]
      exact Ex.nil (Ex.cons (Ex1.ret (Ev.var (by walk_at "lk")) (.inl rfl)))

def fallN (down : List Nat) (N : List (List Nat)) (heap : List Nat) (k : Nat) : List Nat :=
  if heap.getD k 0 < down.getD k 0 + (N.getD k []).sum then heap else (List.range 3).map fun j => if j = k then heap.getD j 0 - (down.getD k 0 + (N.getD k []).sum) else heap.getD j 0 + netAt N k j
theorem ev_fall (hg : GOk g) (hK : g.K = hd3.heap_1 P) (ht : g.tabs = [(118, 114), (111, 107), (97, 93), (145, 143)]) {p0 pos0 : Pos} {e1 e2 : Expr} {N : List (List Nat)} {down : List Nat} (hN : NetOk N) (hdl : down.length = 3) (hdb : ∀ x ∈ down, x < 256) (hk : fi.sc.names.lookup ("_law_fall" : Str) = some .globalImplicit) (h1 : Ev g (ℓ + 1) fi ρ e1 (.bytes (bytesN down))) (h2 : Ev g (ℓ + 1) fi ρ e2 (.list (rowsD N)))
    (hse1 : ∀ env, starEach [e1, e2] env = (false, eval e1 env) :: starEach [e2] env) (hse2 : ∀ env, starEach [e2] env = (false, eval e2 env) :: starEach [] env) : ∃ params fbody fsc, EvF g (ℓ + 1) fi ρ (.Call (.Name "_law_fall" p0) [e1, e2] [] pos0) params (.stmts fbody) fsc (capOf fsc [(("down" : Str), .bytes (bytesN down)), ("net", .list (rowsD N))]) ∧
      ∀ (ℓ' : Nat) (g' : Gx) (f : Value), GOk g' → g'.K = hd3.heap_1 P → FnH [] g'.b f params (.stmts fbody) fsc (capOf fsc [(("down" : Str), .bytes (bytesN down)), ("net", .list (rowsD N))]) → ∀ (heap : List Nat) (k : Nat), heap.length = 3 → k < 3 → CallOK g' (ℓ' + 3) f [rowD heap, .int (k : Int)] (rowD (fallN down N heap k)) := by
  refine ⟨_, _, _, EvF.maker (c := 118) (P := 114) (xs := ["down", "net"]) hg hk (gS hg hK (v := .ref 119) (by kernel_rfl)) (fnK hK rfl) (mkDef hK rfl (by kernel_rfl) (bind2 fun _ _ => rfl) hg (by decide +kernel)) (by rw [ht]; decide) (Evs.cons h1 (Evs.cons h2 Evs.nil hse2) hse1) rfl (by decide) rfl (by decide) (he := hse1), ?_⟩
  intro ℓ' g' f hg' hK' hf heap k hhl hk3
  refine CallOK.fun hg' (xs := ["heap", "k"]) hf ⟨rfl, rfl, rfl, by decide +kernel, by decide, nm2 (.inr rfl) (.inr rfl)⟩ rfl (bindF2 fun _ _ _ => rfl) fun cd => ?_
  · have ath : ∀ j, j < 3 → (natD heap)[j]? = some (.int (heap.getD j 0 : Int)) := fun j hj => natD_at (by rw [hhl]; exact hj)
    refine Ex.cons (Ex1.assign (d := .int ((down.getD k 0 + (N.getD k []).sum : Nat) : Int)) (EvS.strict (Ev.cast (Ev.bin (Ev.sub (Ev.var (d := .bytes (bytesN down)) (by walk_at "fz")) (Ev.var (by walk_at "fz")) (Op2.byteN hdb rfl (by lia) (by lia))) (Ev.call hg' rfl (gB hg' hK' (by kernel_rfl) rfl) (.blt _) (Evs.cons (Ev.sub (Ev.var (d := .list (rowsD N)) (by walk_at "fz")) (Ev.var (by walk_at "fz")) (Op2.atLN rfl (hN.at1 hk3) (by lia))) Evs.nil) CallOK.sumN) Op2.add) (by push_cast; rfl))) ⟨by walk_at "nin", .inr (by show ("most" : Str) ∈ [("heap" : Str), "k", "most"]; decide)⟩ ?_)
    obtain ⟨most, hm⟩ : ∃ x, down.getD k 0 + (N.getD k []).sum = x := ⟨_, rfl⟩
    rw [hm]
    refine Ex.cons (Ex1.ifs (c := decide (heap.getD k 0 < most)) (Tst.cast (Tst.cmp (Ev.sub (Ev.var (d := rowD heap) (by walk_at "lk")) (Ev.var (by walk_at "lk")) (Op2.atLN rfl (ath k hk3) (by lia))) (Ev.var (by walk_at "lk")) Op2.ltI) (by rw [decide_eq_decide]; lia)) (fun c => ?_) (fun c => ?_))
    · rw [fallN, hm, if_pos (of_decide_eq_true c)]
      exact Ex.cons (Ex1.ret (Ev.var (by walk_at "lk")) (.inl rfl))
    · have c := of_decide_eq_false c
      rw [fallN, hm, if_neg c]
      refine Ex.nil (Ex.cons (Ex1.ret (Ev.cast (Ev.comp (CompOK.natM (l := List.range 3) (f := fun j => .int ((if j = k then heap.getD j 0 - most else heap.getD j 0 + netAt N k j : Nat) : Int)) rfl (.inl rfl) (Ev.call hg' rfl (gB hg' hK' (by kernel_rfl) rfl) (.typ _) (Evs.cons Ev.int Evs.nil) (CallOK.rangeN (n := 3) (by lia))) (iter_rangeN 3) (fun j hj => ?_) (by decide))) (by rw [rowD, natD, List.map_map]; rfl)) (.inl rfl)))
      have hj := List.mem_range.mp hj
      refine Ev.ifexp (c := decide (j = k)) (Tst.cast (Tst.cmp (Ev.var put_eq) (Ev.var (by walk_at "cl")) Op2.eqI) (by rw [Bool.eq_iff_iff, beq_iff_eq, decide_eq_true_iff]; lia)) (fun e => ?_) (fun e => ?_)
      · have e := of_decide_eq_true e
        rw [if_pos e]
        exact Ev.cast (Ev.bin (Ev.sub (Ev.var (d := rowD heap) (by walk_at "cl")) (Ev.var put_eq) (Op2.atLN rfl (ath j hj) (by lia))) (Ev.var (by walk_at "cl")) Op2.sub) (by subst e; congr 1; lia)
      · rw [if_neg (of_decide_eq_false e)]
        exact Ev.cast (Ev.bin (Ev.sub (Ev.var (d := rowD heap) (by walk_at "cl")) (Ev.var put_eq) (Op2.atLN rfl (ath j hj) (by lia))) (Ev.netAt hN (Ev.var (by walk_at "cl")) (Ev.var (by walk_at "cl")) (Ev.var put_eq) hk3 hj) Op2.add) (by push_cast; rfl)

/- L3D -/
def roadsN (down : List Nat) (N : List (List Nat)) : List (List Nat) := ((List.range 3).map fun k => [k, 3, down.getD k 0]) ++ [[0, 1, netAt N 0 1], [0, 2, netAt N 0 2], [1, 2, netAt N 1 2]]
def markN (marks road : List Nat) : List Nat := marks.map fun m => if m = marks.getD (road.getD 1 0) 0 then marks.getD (road.getD 0 0) 0 else m
def marks3 (R : List (List Nat)) (i j k : Nat) : List Nat := [R.getD i [], R.getD j [], R.getD k []].foldl markN [0, 1, 2, 3]
def triB (R : List (List Nat)) (i j k : Nat) : Bool := marks3 R i j k == List.replicate 4 ((marks3 R i j k).getD 0 0)
def triN (R : List (List Nat)) (i j k : Nat) : Nat := if triB R i j k then (R.getD i []).getD 2 0 * (R.getD j []).getD 2 0 * (R.getD k []).getD 2 0 else 0
def cK (R : List (List Nat)) (i j n : Nat) : Nat := ((List.range n).map (triN R i j)).sum
def cJ (R : List (List Nat)) (i n : Nat) : Nat := ((List.range n).map fun j => cK R i j j).sum
def cI (R : List (List Nat)) (n : Nat) : Nat := ((List.range n).map fun i => cJ R i i).sum
theorem sum_succ (f : Nat → Nat) (n : Nat) : ((List.range (n + 1)).map f).sum = ((List.range n).map f).sum + f n := by simp [List.range_succ]
structure RdOk (R : List (List Nat)) : Prop where
  l : R.length = 6
  r : ∀ i, i < 6 → (R.getD i []).length = 3 ∧ (R.getD i []).getD 0 0 < 4 ∧ (R.getD i []).getD 1 0 < 4 ∧ (R.getD i []).getD 2 0 < 1000
theorem RdOk.at2 {R : List (List Nat)} (h : RdOk R) {i m : Nat} (hi : i < 6) (hm : m < 3) : (natD (R.getD i []))[m]? = some (.int ((R.getD i []).getD m 0 : Int)) := natD_at (by rw [(h.r i hi).1]; exact hm)
theorem markN_len (marks road : List Nat) : (markN marks road).length = marks.length := by simp [markN]
structure TrI (R : List (List Nat)) (c : Nat) (σ : St) : Prop where
  w : σ.ω = []
  ro : σ.ρ.lookup ("roads" : Str) = some (.list (rowsD R))
  co : σ.ρ.lookup ("count" : Str) = some (.int (c : Int))
structure TrJ (R : List (List Nat)) (c i : Nat) (σ : St) : Prop extends TrI R c σ where
  hi : σ.ρ.lookup ("i" : Str) = some (.int (i : Int))
structure TrK (R : List (List Nat)) (c i j : Nat) (σ : St) : Prop extends TrJ R c i σ where
  hj : σ.ρ.lookup ("j" : Str) = some (.int (j : Int))
structure TrM (R : List (List Nat)) (c i j k : Nat) (marks : List Nat) (σ : St) : Prop extends TrK R c i j σ where
  hk : σ.ρ.lookup ("k" : Str) = some (.int (k : Int))
  ma : σ.ρ.lookup ("marks" : Str) = some (rowD marks)
theorem range_get {n i : Nat} {d : D} (h : (natD (List.range n))[i]? = some d) : i < n ∧ d = .int (i : Int) := by
  obtain ⟨x, hx, rfl⟩ := natD_get h
  obtain ⟨h1, h2⟩ := List.getElem?_eq_some_iff.mp hx
  simp at h1 h2
  exact ⟨h1, by rw [h2]⟩
theorem range_len (n : Nat) : (natD (List.range n)).length = n := by rw [natD, List.length_map, List.length_range]
theorem fold_len (l : List (List Nat)) : ∀ m : List Nat, (l.foldl markN m).length = m.length := by
  induction l with
  | nil => intro m; rfl
  | cons a l ih => intro m; rw [List.foldl_cons, ih, markN_len]
set_option maxHeartbeats 2000000 in
theorem ok_trees (hg : GOk g) (hK : g.K = hd3.heap_1 P) {N : List (List Nat)} {down : List Nat} (hN : NetOk N) (hdl : down.length = 3) (hR : RdOk (roadsN down N)) : CallOK g (ℓ + 1) (.ref 141) [rowD down, .list (rowsD N)] (.int (cI (roadsN down N) 6 : Int)) := by
  refine CallOK.def hg (mkDef (xs := ["down", "net"]) hK rfl (by kernel_rfl) (bind2 fun _ _ => rfl) hg (by decide +kernel)) rfl ?_
  refine Ex.cons (Ex1.assign (d := .list (rowsD (roadsN down N))) (EvS.strict (Ev.cast (Ev.bin (Ev.comp (CompOK.natM (l := List.range 3) (f := fun k => rowD [k, 3, down.getD k 0]) rfl (.inl rfl) (Ev.call hg rfl (gB hg hK (by kernel_rfl) rfl) (.typ _) (Evs.cons Ev.int Evs.nil) (CallOK.rangeN (n := 3) (by lia))) (iter_rangeN 3) (fun k hk => ?_) (by decide))) (Ev.comp (ds := rowsD [[0, 1, netAt N 0 1], [0, 2, netAt N 0 2], [1, 2, netAt N 1 2]]) ⟨⟨_, _, _, _, _, _, _, fun d => match d with | .int k => (List.range k.toNat).map fun j : Nat => rowD [j, k.toNat, netAt N j k.toNat] | _ => [], rfl, rfl, ?_, fun _ _ => rfl, .inl rfl, Ev.call hg rfl (gB hg hK (by kernel_rfl) rfl) (.typ _) (Evs.cons Ev.int Evs.nil) (CallOK.rangeN (n := 3) (by lia)), iter_rangeN 3, ?_, rfl, small_le (by simp)⟩⟩) (Op2.addL (small_le (by simp)))) ?_)) (by walk_at "st") ?_)
  · have hk := List.mem_range.mp hk
    exact Ev.lst (Evs.cons (Ev.var put_eq) (Evs.cons Ev.int (Evs.cons (Ev.sub (a := rowD down) (Ev.var (by walk_at "cl")) (Ev.var put_eq) (Op2.atLN rfl (natD_at (by lia)) (by lia))) Evs.nil)))
  · intro c hc
    rw [List.mem_singleton.mp hc]; exact ⟨rfl, fun _ _ => rfl⟩
  · intro it hit
    obtain ⟨k, hk, rfl⟩ := List.mem_map.mp hit
    have hk := List.mem_range.mp hk
    refine ⟨true, rfl, fun _ => ⟨_, _, _, natD (List.range k), fun d => match d with | .int j => [rowD [j.toNat, k, netAt N j.toNat k]] | _ => [], rfl, rfl, .inl rfl, (put_ne (by rfl)).trans (capOf_none rfl), fun _ _ => rfl, Ev.call hg rfl (gB hg hK (by kernel_rfl) rfl) (.typ _) (Evs.cons (Ev.var put_eq) Evs.nil) (CallOK.rangeN (n := k) (by lia)), iter_rangeN k, ?_, fun it hit => ?_⟩, fun h => by cases h⟩
    · show (List.range ((k : Int)).toNat).map (fun j : Nat => rowD [j, ((k : Int)).toNat, netAt N j ((k : Int)).toNat]) = (natD (List.range k)).flatMap _
      rw [Int.toNat_natCast, natD, List.flatMap_map]
      show _ = (List.range k).flatMap fun j : Nat => [rowD [((j : Int)).toNat, k, netAt N ((j : Int)).toNat k]]
      simp only [Int.toNat_natCast]
      induction (List.range k) with
      | nil => rfl
      | cons a l ih => rw [List.map_cons, List.flatMap_cons, ih]; rfl
    · obtain ⟨j, hj, rfl⟩ := List.mem_map.mp hit
      have hj := List.mem_range.mp hj
      exact ⟨true, rfl, fun _ => ⟨_, rfl, Ev.lst (Evs.cons (Ev.var put_eq) (Evs.cons (Ev.var ((put_ne (by rfl)).trans put_eq)) (Evs.cons (Ev.netAt hN (Ev.var ((put_ne (by rfl)).trans (by walk_at "cl"))) (Ev.var put_eq) (Ev.var ((put_ne (by rfl)).trans put_eq)) (by lia) hk) Evs.nil)))⟩, fun h => by cases h⟩
  · rfl
  obtain ⟨R, hRR⟩ : ∃ R, roadsN down N = R := ⟨_, rfl⟩
  rw [hRR] at hR ⊢
  clear hRR
  have atR : ∀ {i}, i < 6 → (rowsD R)[i]? = some (rowD (R.getD i [])) := fun hi => rowsD_at (by rw [hR.l]; exact hi)
  refine Ex.cons (Ex1.assign (d := .int ((0 : Nat) : Int)) (EvS.strict Ev.int) (by walk_at "st") ?_)
  refine Ex.cons (Ex1.loopN (items := natD (List.range 6)) (fun i σ => TrI R (cI R i) σ) (fun d σ => σ.put "i" d) (Ev.call hg rfl (gB hg hK (by kernel_rfl) rfl) (.typ _) (Evs.cons Ev.int Evs.nil) (CallOK.rangeN (n := 6) (by lia))) (iter_rangeN 6) ⟨rfl, rfl, rfl⟩ ?_ ?_)
  · rintro i σ₁ ⟨hw, hro, hco⟩ d hd
    obtain ⟨hi, rfl⟩ := range_get hd
    refine ⟨AsgOK.name (by walk_at "st"), ?_⟩
    refine Ex.cons (Ex1.loopN (items := natD (List.range i)) (fun j σ => TrJ R (cI R i + cJ R i j) i σ) (fun d σ => σ.put "j" d) (Ev.call hg rfl (gB hg hK (by kernel_rfl) rfl) (.typ _) (Evs.cons (Ev.var (by walk_at "fz")) Evs.nil) (CallOK.rangeN (n := i) (by lia))) (iter_rangeN i) ⟨⟨hw, by walk_at "lk", by walk_at "lk"⟩, by walk_at "lk"⟩ ?_ ?_)
    · rintro j σ₂ ⟨⟨hw, hro, hco⟩, hhi⟩ d hd
      obtain ⟨hj, rfl⟩ := range_get hd
      refine ⟨AsgOK.name (by walk_at "st"), ?_⟩
      refine Ex.cons (Ex1.loopN (items := natD (List.range j)) (fun k σ => TrK R (cI R i + cJ R i j + cK R i j k) i j σ) (fun d σ => σ.put "k" d) (Ev.call hg rfl (gB hg hK (by kernel_rfl) rfl) (.typ _) (Evs.cons (Ev.var (by walk_at "fz")) Evs.nil) (CallOK.rangeN (n := j) (by lia))) (iter_rangeN j) ⟨⟨⟨hw, by walk_at "lk", by walk_at "lk"⟩, by walk_at "lk"⟩, by walk_at "lk"⟩ ?_ ?_)
      · rintro k σ₃ ⟨⟨⟨hw, hro, hco⟩, hhi⟩, hhj⟩ d hd
        obtain ⟨hk, rfl⟩ := range_get hd
        refine ⟨AsgOK.name (by walk_at "st"), ?_⟩
        have hcs : cK R i j (k + 1) = cK R i j k + triN R i j k := sum_succ _ _
        obtain ⟨c, hc⟩ : ∃ c, cI R i + cJ R i j + cK R i j k = c := ⟨_, rfl⟩
        rw [hc] at hco
        have hI6 := atR hi
        have hJ6 := atR (show j < 6 by lia)
        have hK6 := atR (show k < 6 by lia)
        refine Ex.cons (Ex1.assign (d := rowD [0, 1, 2, 3]) (EvS.strict (Ev.lst (Evs.nats (l := [0, 1, 2, 3]) rfl))) (by walk_at "st") ?_)
        refine Ex.cons (Ex1.loopN (items := [R.getD i [], R.getD j [], R.getD k []].map rowD) (fun m σ => TrM R c i j k (([R.getD i [], R.getD j [], R.getD k []].take m).foldl markN [0, 1, 2, 3]) σ) (fun d σ => σ.put "road" d)
          (Ev.lst (Evs.cons (Ev.sub (Ev.var (d := .list (rowsD R)) (by walk_at "fz")) (Ev.var (by walk_at "fz")) (Op2.atLN rfl hI6 (by lia))) (Evs.cons (Ev.sub (Ev.var (d := .list (rowsD R)) (by walk_at "fz")) (Ev.var (by walk_at "fz")) (Op2.atLN rfl hJ6 (by lia))) (Evs.cons (Ev.sub (Ev.var (d := .list (rowsD R)) (by walk_at "fz")) (Ev.var (by walk_at "fz")) (Op2.atLN rfl hK6 (by lia))) Evs.nil)))) rfl ⟨⟨⟨⟨hw, by walk_at "lk", by walk_at "lk"⟩, by walk_at "lk"⟩, by walk_at "lk"⟩, by walk_at "lk", by walk_at "lk"⟩ ?_ ?_)
        · rintro m σ₄ ⟨⟨⟨⟨hw, hro, hco⟩, hhi⟩, hhj⟩, hhk, hma⟩ d hd
          obtain ⟨road, hrd, rfl⟩ : ∃ road, [R.getD i [], R.getD j [], R.getD k []][m]? = some road ∧ rowD road = d := by
            rw [List.getElem?_map] at hd
            exact Option.map_eq_some_iff.mp hd
          refine ⟨AsgOK.name (by walk_at "st"), ?_⟩
          have hroad : road.length = 3 ∧ road.getD 0 0 < 4 ∧ road.getD 1 0 < 4 := by
            have := List.mem_of_getElem? hrd
            simp only [List.mem_cons, List.not_mem_nil, or_false] at this
            rcases this with rfl | rfl | rfl
            · exact ⟨(hR.r i hi).1, (hR.r i hi).2.1, (hR.r i hi).2.2.1⟩
            · exact ⟨(hR.r j (by lia)).1, (hR.r j (by lia)).2.1, (hR.r j (by lia)).2.2.1⟩
            · exact ⟨(hR.r k (by lia)).1, (hR.r k (by lia)).2.1, (hR.r k (by lia)).2.2.1⟩
          have htk : ([R.getD i [], R.getD j [], R.getD k []].take (m + 1)).foldl markN [0, 1, 2, 3] = markN (([R.getD i [], R.getD j [], R.getD k []].take m).foldl markN [0, 1, 2, 3]) road := by
            rw [List.take_add_one, hrd, List.foldl_append]; rfl
          have hml := fold_len ([R.getD i [], R.getD j [], R.getD k []].take m) [0, 1, 2, 3]
          obtain ⟨marks, hmk⟩ : ∃ l, ([R.getD i [], R.getD j [], R.getD k []].take m).foldl markN [0, 1, 2, 3] = l := ⟨_, rfl⟩
          rw [hmk] at hma htk hml
          have hml : marks.length = 4 := hml
          have atM : ∀ x, x < 4 → (natD marks)[x]? = some (.int (marks.getD x 0 : Int)) := fun x hx => natD_at (by rw [hml]; exact hx)
          have r0 : (natD road)[0]? = some (.int (road.getD 0 0 : Int)) := natD_at (by rw [hroad.1]; decide)
          have r1 : (natD road)[1]? = some (.int (road.getD 1 0 : Int)) := natD_at (by rw [hroad.1]; decide)
          refine Ex.cons (Ex1.assignC (ds := natD (markN marks road)) (by
            have e : natD (markN marks road) = marks.map fun m => D.int ((if m = marks.getD (road.getD 1 0) 0 then marks.getD (road.getD 0 0) 0 else m : Nat) : Int) := by rw [markN, natD, List.map_map]; rfl
            rw [e]
            refine CompOK.natM (l := marks) rfl (.inl rfl) (Ev.var (d := rowD marks) (by walk_at "fz")) rfl (fun x hx => ?_) (by lia)
            refine Ev.ifexp (c := decide (x = marks.getD (road.getD 1 0) 0)) (Tst.cast (Tst.cmp (Ev.var put_eq) (Ev.sub (Ev.var (d := rowD marks) (by walk_at "cf")) (Ev.sub (Ev.var (d := rowD road) (by walk_at "cf")) Ev.int (Op2.atLN (j := 1) rfl r1 (by decide))) (Op2.atLN rfl (atM _ hroad.2.2) (by lia))) Op2.eqI) (by rw [Bool.eq_iff_iff, beq_iff_eq, decide_eq_true_iff]; lia)) (fun q => ?_) (fun q => ?_)
            · rw [if_pos (of_decide_eq_true q)]
              exact Ev.sub (Ev.var (d := rowD marks) (by walk_at "cf")) (Ev.sub (Ev.var (d := rowD road) (by walk_at "cf")) Ev.int (Op2.atLN (j := 0) rfl r0 (by decide))) (Op2.atLN rfl (atM _ hroad.2.1) (by lia))
            · rw [if_neg (of_decide_eq_false q)]
              exact Ev.var put_eq) (by walk_at "st") ?_)
          walk_at "nil"
          exact .mk ⟨⟨⟨⟨hw, by walk_at "lk", by walk_at "lk"⟩, by walk_at "lk"⟩, by walk_at "lk"⟩, by walk_at "lk", by rw [htk]; walk_at "lk"⟩
        · rintro σ₄ ⟨⟨⟨⟨hw, hro, hco⟩, hhi⟩, hhj⟩, hhk, hma⟩
          show Ex _ _ _ _ _ _
          have hma : σ₄.ρ.lookup ("marks" : Str) = some (rowD (marks3 R i j k)) := hma
          have hml : (marks3 R i j k).length = 4 := fold_len _ _
          have m0 : (natD (marks3 R i j k))[0]? = some (.int ((marks3 R i j k).getD 0 0 : Int)) := natD_at (by rw [hml]; decide)
          have hfin : ∀ {σ : St}, TrK R (c + triN R i j k) i j σ → TrK R (cI R i + cJ R i j + cK R i j (k + 1)) i j σ := by
            intro σ h; rw [hcs, ← Nat.add_assoc, hc]; exact h
          refine Ex.cons (Ex1.ifs (c := triB R i j k) (Tst.cmp (Ev.var (by walk_at "lk")) (Ev.cast (d' := rowD (List.replicate 4 ((marks3 R i j k).getD 0 0))) (Ev.bin (Ev.lst (Evs.cons (Ev.sub (Ev.var (d := rowD (marks3 R i j k)) (by walk_at "lk")) Ev.int (Op2.atLN (j := 0) rfl m0 (by decide))) Evs.nil)) Ev.int (Op2.mulLst (by decide) (by decide) (by simp))) (by simp [rowD, natD])) (Op2.eqD (good_row _) (good_row _) ?_)) (fun q => ?_) (fun q => ?_))
          · rw [triB, beq_iff_eq]; exact rowD_inj.symm
          · have b1 := (hR.r i hi).2.2.2
            have b2 := (hR.r j (by lia)).2.2.2
            have b3 := (hR.r k (by lia)).2.2.2
            have b12 : (R.getD i []).getD 2 0 * (R.getD j []).getD 2 0 < 1000 * 1000 := Nat.mul_lt_mul_of_lt_of_le b1 (Nat.le_of_lt b2) (by decide)
            refine Ex.cons (Ex1.aug (a := .int (c : Int)) (d := .int ((c + triN R i j k : Nat) : Int)) (by walk_at "lk") (EvS.strict (d := .int (((R.getD i []).getD 2 0 * (R.getD j []).getD 2 0 * (R.getD k []).getD 2 0 : Nat) : Int)) (Ev.cast (Ev.bin (Ev.bin
              (Ev.sub (Ev.sub (a := .list (rowsD R)) (Ev.var (by walk_at "fz")) (Ev.var (by walk_at "fz")) (Op2.atLN rfl hI6 (by lia))) Ev.int (Op2.atLN (j := 2) rfl (hR.at2 hi (by decide)) (by decide)))
              (Ev.sub (Ev.sub (a := .list (rowsD R)) (Ev.var (by walk_at "fz")) (Ev.var (by walk_at "fz")) (Op2.atLN rfl hJ6 (by lia))) Ev.int (Op2.atLN (j := 2) rfl (hR.at2 (show j < 6 by lia) (by decide)) (by decide))) (Op2.mulL (by lia) (by lia)))
              (Ev.sub (Ev.sub (a := .list (rowsD R)) (Ev.var (by walk_at "fz")) (Ev.var (by walk_at "fz")) (Op2.atLN rfl hK6 (by lia))) Ev.int (Op2.atLN (j := 2) rfl (hR.at2 (show k < 6 by lia) (by decide)) (by decide))) (Op2.mulL (by exact_mod_cast (by lia : -(2 ^ 64) < (((R.getD i []).getD 2 0 * (R.getD j []).getD 2 0 : Nat) : Int))) (by exact_mod_cast (by lia : (((R.getD i []).getD 2 0 * (R.getD j []).getD 2 0 : Nat) : Int) < 2 ^ 64)))) (by push_cast; rfl))) rfl ?_ rfl (by walk_at "st") ?_)
            · have e : ((c + triN R i j k : Nat) : Int) = (c : Int) + (((R.getD i []).getD 2 0 * (R.getD j []).getD 2 0 * (R.getD k []).getD 2 0 : Nat) : Int) := by rw [triN, if_pos q]; push_cast; rfl
              rw [e]; exact Op2.iadd
            · walk_at "nil"
              exact .mk (hfin ⟨⟨⟨hw, by walk_at "lk", by walk_at "lk"⟩, by walk_at "lk"⟩, by walk_at "lk"⟩)
          · walk_at "nil"
            refine .mk (hfin ⟨⟨⟨hw, hro, ?_⟩, hhi⟩, hhj⟩)
            rw [triN, q]; exact hco
      · rintro σ₃ ⟨⟨⟨hw, hro, hco⟩, hhi⟩, hhj⟩
        rw [range_len] at hco
        walk_at "nil"
        refine .mk ⟨⟨hw, hro, ?_⟩, hhi⟩
        rw [show cJ R i (j + 1) = cJ R i j + cK R i j j from sum_succ _ _, ← Nat.add_assoc]; exact hco
    · rintro σ₂ ⟨⟨hw, hro, hco⟩, hhi⟩
      rw [range_len] at hco
      walk_at "nil"
      refine .mk ⟨hw, hro, ?_⟩
      rw [show cI R (i + 1) = cI R i + cJ R i i from sum_succ _ _]; exact hco
  · rintro σ₁ ⟨hw, hro, hco⟩
    rw [range_len] at hco
    exact Ex.cons (Ex1.ret (Ev.var hco) (.inl rfl))

/- L3M -/
/- the finite worlds -/
def groundN (c : Nat) : List Nat := (List.range 3).map fun k => if k = c then 2 else 1
def bondsN (r : Nat) : List Nat := [r % 2, r / 2 % 2, r / 4 % 2]
def mostN (G : List Nat) (N : List (List Nat)) : List Nat := (List.range 3).map fun k => G.getD k 0 + (N.getD k []).sum
def heapsN (m : List Nat) : List (List Nat) := (List.range (m.getD 0 0)).flatMap fun a => (List.range (m.getD 1 0)).flatMap fun b => (List.range (m.getD 2 0)).map fun c => [a, b, c]
def grM (M : Nat) : List Nat := (List.range 3).filter fun j => !M.testBit (2 - j)
def burnM (N : List (List Nat)) (heap : List Nat) (M k : Nat) : Nat := if k ∈ grM M ∧ ((grM M).map fun j => netAt N k j).sum ≤ heap.getD k 0 then M + 2 ^ (2 - k) else M
def rounds : List Nat := [0, 1, 2, 0, 1, 2, 0]
def marksN (N : List (List Nat)) (heap : List Nat) : Nat := rounds.foldl (burnM N heap) 0
def burntN (G : List Nat) (N : List (List Nat)) : List (List Nat) := (heapsN (mostN G N)).filter fun h => marksN N h == 7
def upN (k : Nat) (heap : List Nat) : List Nat := (List.range 3).map fun j => if j = k then heap.getD j 0 + 1 else heap.getD j 0
def cameN (G : List Nat) (N B : List (List Nat)) (k : Nat) : List (List Nat) := (B.map (upN k)).map fun heap => rounds.foldl (fallN G N) heap
def rowN (G : List Nat) (N B : List (List Nat)) (k : Nat) : List Nat := (cameN G N B k).map fun heap => B.idxOf heap
def movesN (G : List Nat) (N B : List (List Nat)) : List (List Nat) := (List.range 3).map (rowN G N B)
def stuckM (N : List (List Nat)) (heap : List Nat) : Nat := (((List.range 3).filter fun k => !(greenN (needsN N) heap).contains k).map fun k => 2 ^ (11 - k)).sum
/- who is reached -/
def nextN (rows : List (List Nat)) (R : List Nat) (x : Nat) : List Nat := (fewOf 3 fun i => (rows.getD i []).getD (R.getD x 0) 0).filter fun y => !R.contains y
def reachN (rows : List (List Nat)) (start : Nat) : Nat → List Nat
  | 0 => [start]
  | x + 1 => if x < (reachN rows start x).length then reachN rows start x ++ nextN rows (reachN rows start x) x else reachN rows start x
def itR (row : List Nat) : Nat → Nat → Nat
  | 0, s => s
  | k + 1, s => itR row k (row.getD s 0)
structure RowsOk (n : Nat) (rows : List (List Nat)) : Prop where
  l : rows.length = 3
  m : n ≤ 24
  e : ∀ i, i < 3 → ∀ x, x < n → (rows.getD i []).getD x 0 < n
theorem nodup_le : ∀ (l m : List Nat), l.Nodup → (∀ y ∈ l, y ∈ m) → l.length ≤ m.length
  | [], _, _, _ => Nat.zero_le _
  | a :: l, m, nd, h => by
    obtain ⟨h1, h2⟩ := List.nodup_cons.mp nd
    have ha := h a (.head _)
    have := nodup_le l (m.erase a) h2 fun y hy => (List.mem_erase_of_ne (fun e : y = a => h1 (e ▸ hy))).mpr (h y (.tail _ hy))
    rw [List.length_erase_of_mem ha] at this
    have := List.length_pos_of_mem ha
    rw [List.length_cons]; lia
structure ReI (n : Nat) (rows : List (List Nat)) (s x : Nat) (R : List Nat) : Prop where
  nd : R.Nodup
  lt : ∀ y ∈ R, y < n
  st : s ∈ R
  cl : ∀ i, i < x → i < R.length → ∀ j, j < 3 → (rows.getD j []).getD (R.getD i 0) 0 ∈ R
theorem getD_lt {R : List Nat} {n x : Nat} (lt : ∀ y ∈ R, y < n) (h : x < R.length) : R.getD x 0 < n := by
  rw [List.getD_eq_getElem?_getD, List.getElem?_eq_getElem h]; exact lt _ (List.getElem_mem _)
theorem getD_app {R S : List Nat} {x : Nat} (h : x < R.length) : (R ++ S).getD x 0 = R.getD x 0 := by
  rw [List.getD_eq_getElem?_getD, List.getD_eq_getElem?_getD, List.getElem?_append_left h]
theorem mem_next {rows : List (List Nat)} {R : List Nat} {x y : Nat} : y ∈ nextN rows R x ↔ y < 24 ∧ (∃ i, i < 3 ∧ (rows.getD i []).getD (R.getD x 0) 0 = y) ∧ y ∉ R := by
  rw [nextN, List.mem_filter, fewOf, List.mem_filter, List.any_eq_true, List.mem_range]
  constructor
  · rintro ⟨⟨h1, i, h2, h3⟩, h4⟩
    exact ⟨h1, ⟨i, List.mem_range.mp h2, by simpa using h3⟩, by simpa using h4⟩
  · rintro ⟨h1, ⟨i, h2, h3⟩, h4⟩
    exact ⟨⟨h1, i, List.mem_range.mpr h2, by simpa using h3⟩, by simpa using h4⟩
theorem next_nodup (rows : List (List Nat)) (R : List Nat) (x : Nat) : (nextN rows R x).Nodup := (List.nodup_range.filter _).filter _
theorem reach_ok {n : Nat} {rows : List (List Nat)} (h : RowsOk n rows) {s : Nat} (hs : s < n) : ∀ x, ReI n rows s x (reachN rows s x)
  | 0 => ⟨by simp [reachN], by intro y hy; rw [List.mem_singleton.mp hy]; exact hs, .head _, fun i hi => absurd hi (Nat.not_lt_zero _)⟩
  | x + 1 => by
    have I := reach_ok h hs x
    rw [reachN]
    generalize reachN rows s x = R at I
    split
    · rename_i hx
      refine ⟨?_, fun y hy => ?_, List.mem_append_left _ I.st, fun i hi hiR j hj => ?_⟩
      · exact List.nodup_append.mpr ⟨I.nd, next_nodup _ _ _, fun a ha b hb e => (mem_next.mp hb).2.2 (e ▸ ha)⟩
      · rcases List.mem_append.mp hy with hy | hy
        · exact I.lt y hy
        · obtain ⟨_, ⟨i, hi, rfl⟩, _⟩ := mem_next.mp hy
          exact h.e i hi _ (getD_lt I.lt hx)
      · have hiR : i < R.length := by lia
        rw [getD_app hiR]
        by_cases c : i < x
        · exact List.mem_append_left _ (I.cl i c hiR j hj)
        · have : i = x := by lia
          subst this
          by_cases q : (rows.getD j []).getD (R.getD i 0) 0 ∈ R
          · exact List.mem_append_left _ q
          · exact List.mem_append_right _ (mem_next.mpr ⟨Nat.lt_of_lt_of_le (h.e j hj _ (getD_lt I.lt hx)) h.m, ⟨j, hj, rfl⟩, q⟩)
    · exact ⟨I.nd, I.lt, I.st, fun i hi hiR j hj => I.cl i (by lia) hiR j hj⟩
theorem reach_in {n : Nat} {rows : List (List Nat)} (h : RowsOk n rows) {s : Nat} (hs : s < n) {C : Nat → Prop} (c0 : C s) (cl : ∀ j, j < 3 → ∀ x, x < n → C x → C ((rows.getD j []).getD x 0)) : ∀ x, ∀ y ∈ reachN rows s x, C y
  | 0, y, hy => by rw [List.mem_singleton.mp hy]; exact c0
  | x + 1, y, hy => by
    have I := reach_ok h hs x
    have ih := reach_in h hs c0 cl x
    rw [reachN] at hy
    split at hy
    · rename_i hx
      rcases List.mem_append.mp hy with hy | hy
      · exact ih y hy
      · obtain ⟨_, ⟨i, hi, rfl⟩, _⟩ := mem_next.mp hy
        refine cl i hi _ (getD_lt I.lt hx) (ih _ ?_)
        rw [List.getD_eq_getElem?_getD, List.getElem?_eq_getElem hx]; exact List.getElem_mem _
    · exact ih y hy
theorem itR_in {n : Nat} {row : List Nat} {C : Nat → Prop} (e : ∀ x, x < n → row.getD x 0 < n) (cl : ∀ x, x < n → C x → C (row.getD x 0)) : ∀ k s, s < n → C s → C (itR row k s)
  | 0, _, _, h => h
  | k + 1, s, hs, h => itR_in e cl k _ (e s hs) (cl s hs h)
theorem reach_all {n : Nat} {rows : List (List Nat)} (h : RowsOk n rows) (h0 : (reachN rows 0 n).length = n) (hc : ∀ j, j < 3 → ∀ s, s < n → itR (rows.getD j []) n s = s) {s : Nat} (hs : s < n) : (reachN rows s n).length = n := by
  have I := reach_ok h hs n
  have I0 := reach_ok h (s := 0) (by lia) n
  have hle : (reachN rows s n).length ≤ n := by
    have := nodup_le _ (List.range n) I.nd fun y hy => List.mem_range.mpr (I.lt y hy)
    rwa [List.length_range] at this
  have hcl : ∀ j, j < 3 → ∀ x, x < n → x ∈ reachN rows s n → (rows.getD j []).getD x 0 ∈ reachN rows s n := fun j hj x _ hx => by
    obtain ⟨i, hi, rfl⟩ := List.mem_iff_getElem.mp hx
    have := I.cl i (by lia) hi j hj
    rwa [List.getD_eq_getElem?_getD (l := reachN rows s n), List.getElem?_eq_getElem hi] at this
  have hback : ∀ j, j < 3 → ∀ x, x < n → x ∉ reachN rows s n → (rows.getD j []).getD x 0 ∉ reachN rows s n := fun j hj x hx hn hm => by
    refine hn ?_
    obtain ⟨m, rfl⟩ : ∃ m, n = m + 1 := ⟨n - 1, by lia⟩
    have e := hc j hj x hx
    rw [itR] at e
    rw [← e]
    exact itR_in (n := m + 1) (C := (· ∈ reachN rows s (m + 1))) (h.e j hj) (hcl j hj) m _ (h.e j hj x hx) hm
  have hall : ∀ y, y < n → y ∈ reachN rows 0 n := fun y hy => Classical.byContradiction fun c => by
    have := nodup_le (y :: reachN rows 0 n) (List.range n) (List.nodup_cons.mpr ⟨c, I0.nd⟩) fun z hz => by
      rcases List.mem_cons.mp hz with rfl | hz
      · exact List.mem_range.mpr hy
      · exact List.mem_range.mpr (I0.lt z hz)
    rw [List.length_range, List.length_cons] at this; lia
  have hz : 0 ∈ reachN rows s n := Classical.byContradiction fun c =>
    reach_in h (s := 0) (by lia) (C := (· ∉ reachN rows s n)) c hback n s (hall s hs) I.st
  have := nodup_le _ (reachN rows s n) I0.nd fun y hy => reach_in h (s := 0) (by lia) (C := (· ∈ reachN rows s n)) hz hcl n y hy
  lia
/- what is tried, world by world -/
def chkA (G : List Nat) (N : List (List Nat)) : Bool := (heapsN (mostN G N)).all fun h => 512 * marksN N h == stuckM N h && decide (marksN N h < 8)
def chkB (G : List Nat) (N B : List (List Nat)) : Bool := B.length == cI (roadsN G N) 6 && decide (1 ≤ B.length) && decide (B.length ≤ 24) && (List.range 3).all fun k => decide ((mostN G N).getD k 0 ≤ 4)
def chkC (G : List Nat) (N B : List (List Nat)) : Bool := (List.range 3).all fun k => sortL (cameN G N B k) == some B
def chkD (G : List Nat) (N B : List (List Nat)) : Bool := (List.range 3).all fun k => (cameN G N B k).all fun h => B.contains h
def chkE (n : Nat) (rows : List (List Nat)) : Bool := (reachN rows 0 n).length == n && rows.all fun row => (List.range n).all fun s => itR row n s == s
def each8 (G : List Nat) (f : List (List Nat) → Bool) : Bool := (List.range 8).all fun r => f (netN (bondsN r))
theorem tA : (List.range 4).all (fun c => each8 (groundN c) fun N => chkA (groundN c) N) = true := by decide +kernel
theorem tB : (List.range 4).all (fun c => each8 (groundN c) fun N => chkB (groundN c) N (burntN (groundN c) N)) = true := by decide +kernel
theorem tC0 : each8 (groundN 0) (fun N => chkC (groundN 0) N (burntN (groundN 0) N)) = true := by decide +kernel
theorem tC1 : each8 (groundN 1) (fun N => chkC (groundN 1) N (burntN (groundN 1) N)) = true := by decide +kernel
theorem tC2 : each8 (groundN 2) (fun N => chkC (groundN 2) N (burntN (groundN 2) N)) = true := by decide +kernel
theorem tC3 : each8 (groundN 3) (fun N => chkC (groundN 3) N (burntN (groundN 3) N)) = true := by decide +kernel
theorem tD : (List.range 4).all (fun c => each8 (groundN c) fun N => chkD (groundN c) N (burntN (groundN c) N)) = true := by decide +kernel
theorem tE0 : each8 (groundN 0) (fun N => chkE (burntN (groundN 0) N).length (movesN (groundN 0) N (burntN (groundN 0) N))) = true := by decide +kernel
theorem tE1 : each8 (groundN 1) (fun N => chkE (burntN (groundN 1) N).length (movesN (groundN 1) N (burntN (groundN 1) N))) = true := by decide +kernel
theorem tE2 : each8 (groundN 2) (fun N => chkE (burntN (groundN 2) N).length (movesN (groundN 2) N (burntN (groundN 2) N))) = true := by decide +kernel
theorem tE3 : each8 (groundN 3) (fun N => chkE (burntN (groundN 3) N).length (movesN (groundN 3) N (burntN (groundN 3) N))) = true := by decide +kernel

/- L3N -/
theorem each8_at {G : List Nat} {f : List (List Nat) → Bool} (h : each8 G f = true) {r : Nat} (hr : r < 8) : f (netN (bondsN r)) = true := List.all_eq_true.mp h r (List.mem_range.mpr hr)
theorem all4_at {f : Nat → Bool} (h : (List.range 4).all f = true) {c : Nat} (hc : c < 4) : f c = true := List.all_eq_true.mp h c (List.mem_range.mpr hc)
structure World3 (G : List Nat) (N B : List (List Nat)) : Prop where
  gl : G.length = 3
  gb : ∀ x ∈ G, x < 3
  net : NetOk N
  rd : RdOk (roadsN G N)
  mo : ∀ k, k < 3 → (mostN G N).getD k 0 ≤ 4
  gr : ∀ h ∈ heapsN (mostN G N), 512 * marksN N h = stuckM N h ∧ marksN N h < 8
  bu : B = (heapsN (mostN G N)).filter fun h => marksN N h == 7
  tr : B.length = cI (roadsN G N) 6
  n1 : 1 ≤ B.length
  n24 : B.length ≤ 24
  so : ∀ k, k < 3 → sortL (cameN G N B k) = some B
  ca : ∀ k, k < 3 → ∀ h ∈ cameN G N B k, h ∈ B
  ro : RowsOk B.length (movesN G N B)
  rl : ∀ j, j < 3 → ((movesN G N B).getD j []).length = B.length
  re : ∀ s, s < B.length → (reachN (movesN G N B) s B.length).length = B.length
  cy : ∀ j, j < 3 → ∀ s, s < B.length → itR ((movesN G N B).getD j []) B.length s = s
theorem moves_at {G : List Nat} {N B : List (List Nat)} {j : Nat} (hj : j < 3) : (movesN G N B).getD j [] = rowN G N B j := by
  rw [movesN, List.getD_eq_getElem?_getD, List.getElem?_map, List.getElem?_range hj]; rfl
theorem rowN_len {G : List Nat} {N B : List (List Nat)} {j : Nat} : (rowN G N B j).length = B.length := by simp [rowN, cameN]
theorem road_ok {G : List Nat} {N : List (List Nat)} (hg : ∀ k, k < 3 → G.getD k 0 < 1000) (hn : ∀ k j, k < 3 → j < 3 → netAt N k j < 1000) : RdOk (roadsN G N) := by
  refine ⟨by simp [roadsN], fun i hi => ?_⟩
  have e : roadsN G N = [[0, 3, G.getD 0 0], [1, 3, G.getD 1 0], [2, 3, G.getD 2 0], [0, 1, netAt N 0 1], [0, 2, netAt N 0 2], [1, 2, netAt N 1 2]] := rfl
  rw [e]
  match i, hi with
  | 0, _ => exact ⟨rfl, (by decide : 0 < 4), (by decide : 3 < 4), hg 0 (by decide)⟩
  | 1, _ => exact ⟨rfl, (by decide : 1 < 4), (by decide : 3 < 4), hg 1 (by decide)⟩
  | 2, _ => exact ⟨rfl, (by decide : 2 < 4), (by decide : 3 < 4), hg 2 (by decide)⟩
  | 3, _ => exact ⟨rfl, (by decide : 0 < 4), (by decide : 1 < 4), hn 0 1 (by decide) (by decide)⟩
  | 4, _ => exact ⟨rfl, (by decide : 0 < 4), (by decide : 2 < 4), hn 0 2 (by decide) (by decide)⟩
  | 5, _ => exact ⟨rfl, (by decide : 1 < 4), (by decide : 2 < 4), hn 1 2 (by decide) (by decide)⟩
theorem ground_lt (c : Nat) : ∀ x ∈ groundN c, x < 3 := by
  intro x hx
  obtain ⟨k, _, rfl⟩ := List.mem_map.mp hx
  split <;> decide
theorem getD_bound {l : List Nat} {b : Nat} (h : ∀ x ∈ l, x < b) (hb : 0 < b) (i : Nat) : l.getD i 0 < b := by
  rw [List.getD_eq_getElem?_getD]
  by_cases c : i < l.length
  · rw [List.getElem?_eq_getElem c]; exact h _ (List.getElem_mem _)
  · rw [List.getElem?_eq_none (by lia)]; exact hb
theorem bonds_lt (r : Nat) : ∀ x ∈ bondsN r, x < 2 := by
  intro x hx
  simp only [bondsN, List.mem_cons, List.not_mem_nil, or_false] at hx
  rcases hx with rfl | rfl | rfl <;> lia
theorem net_lt {b : List Nat} (h : ∀ x ∈ b, x < 2) : ∀ k j, k < 3 → j < 3 → netAt (netN b) k j < 2 := by
  intro k j hk hj
  have hb := getD_bound h (by decide)
  match k, hk, j, hj with
  | 0, _, 0, _ => exact Nat.zero_lt_two
  | 0, _, 1, _ => exact hb 0
  | 0, _, 2, _ => exact hb 1
  | 1, _, 0, _ => exact hb 0
  | 1, _, 1, _ => exact Nat.zero_lt_two
  | 1, _, 2, _ => exact hb 2
  | 2, _, 0, _ => exact hb 1
  | 2, _, 1, _ => exact hb 2
  | 2, _, 2, _ => exact Nat.zero_lt_two
theorem tCs {c r : Nat} (hc : c < 4) (hr : r < 8) : chkC (groundN c) (netN (bondsN r)) (burntN (groundN c) (netN (bondsN r))) = true := by
  match c, hc with
  | 0, _ => exact each8_at tC0 hr
  | 1, _ => exact each8_at tC1 hr
  | 2, _ => exact each8_at tC2 hr
  | 3, _ => exact each8_at tC3 hr
theorem tEs {c r : Nat} (hc : c < 4) (hr : r < 8) : chkE (burntN (groundN c) (netN (bondsN r))).length (movesN (groundN c) (netN (bondsN r)) (burntN (groundN c) (netN (bondsN r)))) = true := by
  match c, hc with
  | 0, _ => exact each8_at tE0 hr
  | 1, _ => exact each8_at tE1 hr
  | 2, _ => exact each8_at tE2 hr
  | 3, _ => exact each8_at tE3 hr
theorem idx_lt {B : List (List Nat)} {h : List Nat} (hm : h ∈ B) : B.idxOf h < B.length := List.idxOf_lt_length_of_mem hm
theorem world3 {c r : Nat} (hc : c < 4) (hr : r < 8) : World3 (groundN c) (netN (bondsN r)) (burntN (groundN c) (netN (bondsN r))) := by
  have a := each8_at (all4_at tA hc) hr
  have b := each8_at (all4_at tB hc) hr
  have c1 := tCs hc hr
  have d := each8_at (all4_at tD hc) hr
  have e := tEs hc hr
  have hg := ground_lt c
  have hN := netN_ok (bondsN r)
  have hnl := net_lt (bonds_lt r)
  have hB : burntN (groundN c) (netN (bondsN r)) = (heapsN (mostN (groundN c) (netN (bondsN r)))).filter fun h => marksN (netN (bondsN r)) h == 7 := rfl
  have hgl : (groundN c).length = 3 := rfl
  generalize groundN c = G at *
  generalize netN (bondsN r) = N at *
  generalize burntN G N = B at *
  simp only [chkB, Bool.and_eq_true, beq_iff_eq, decide_eq_true_eq, List.all_eq_true, List.mem_range] at b
  simp only [chkC, List.all_eq_true, List.mem_range, beq_iff_eq] at c1
  simp only [chkD, List.all_eq_true, List.mem_range, List.contains_iff_mem] at d
  simp only [chkE, Bool.and_eq_true, beq_iff_eq, List.all_eq_true, List.mem_range] at e
  have hrow : ∀ j, j < 3 → (movesN G N B).getD j [] ∈ movesN G N B := fun j hj => by
    rw [List.getD_eq_getElem?_getD, List.getElem?_eq_getElem (by simpa [movesN] using hj)]; exact List.getElem_mem _
  have hcy := fun j hj s hs => e.2 _ (hrow j hj) s hs
  have hro : RowsOk B.length (movesN G N B) := ⟨by simp [movesN], b.1.2, fun i hi x hx => by
    rw [moves_at hi]
    refine getD_lt (fun y hy => ?_) (by rw [rowN_len]; exact hx)
    obtain ⟨h, hh, rfl⟩ := List.mem_map.mp hy
    exact idx_lt (d i hi h hh)⟩
  refine ⟨hgl, hg, hN, road_ok (fun k _ => Nat.lt_trans (getD_bound hg (by decide) k) (by decide)) (fun k j hk hj => Nat.lt_trans (hnl k j hk hj) (by decide)), b.2, fun h hh => ?_, hB, b.1.1.1, b.1.1.2, b.1.2, c1, d, hro, fun j hj => by rw [moves_at hj, rowN_len], fun s hs => reach_all hro e.1 hcy hs, hcy⟩
  have := List.all_eq_true.mp a h hh
  simpa using this

/- L3O -/
def digN (t : Nat) (heap : List Nat) : Nat := ((List.range 3).map fun k => 8 ^ (2 - k) * ((heap.getD k 0 + t) % 8)).sum
theorem digN_eq (t : Nat) (heap : List Nat) : digN t heap = 64 * ((heap.getD 0 0 + t) % 8) + (8 * ((heap.getD 1 0 + t) % 8) + (heap.getD 2 0 + t) % 8) := by
  show 8 ^ 2 * _ + (8 ^ 1 * _ + (8 ^ 0 * _ + 0)) = _
  lia
theorem begun_eq (t kd : Nat) {heap : List Nat} (h : heap.length = 3) : heap.foldl (fun n x => 8 * n + (x + t) % 8) (8 * kd) = 4096 * kd + digN t heap := by
  match heap, h with
  | [a, b, c], _ =>
    rw [digN_eq]
    show 8 * (8 * (8 * (8 * kd) + (a + t) % 8) + (b + t) % 8) + (c + t) % 8 = 4096 * kd + (64 * ((a + t) % 8) + (8 * ((b + t) % 8) + (c + t) % 8))
    lia
theorem bit_up {kd M d j : Nat} (hd : d < 512) (hj : j < 3) : (4096 * kd + 512 * M + d).testBit (11 - j) = M.testBit (2 - j) := by
  have e : (4096 * kd + 512 * M + d) / 2 ^ 9 = M + 2 ^ 3 * kd := by
    rw [show 4096 * kd + 512 * M + d = 2 ^ 9 * (M + 2 ^ 3 * kd) + d by lia, Nat.mul_add_div (by decide), Nat.div_eq_of_lt hd, Nat.add_zero]
  rw [show 11 - j = 9 + (2 - j) by lia, Nat.add_comm 9, ← Nat.testBit_div_two_pow, e]
  have := Nat.testBit_mod_two_pow (M + 2 ^ 3 * kd) 3 (2 - j)
  have h2 := Nat.testBit_mod_two_pow M 3 (2 - j)
  rw [Nat.add_mul_mod_self_left] at this
  have h3 : decide (2 - j < 3) = true := decide_eq_true (by lia)
  rw [h3, Bool.true_and] at this h2
  exact this.symm.trans h2
theorem greens_up {kd M d : Nat} (hd : d < 512) : greens (4096 * kd + 512 * M + d) = grM M := by
  refine List.filter_congr fun j hj => ?_
  rw [bit_up hd (List.mem_range.mp hj)]
theorem chip_core {q a h t : Nat} (ha : a = (h + t) % 8) (h8 : h < 8) : (((8 * q + a : Nat) : Int) - t) % 8 = h := by lia
theorem div_core {X m q r : Nat} (e : X = m * q + r) (hr : r < m) : (X : Int) / (m : Int) = (q : Int) := by
  rw [e, ← Int.natCast_ediv, Nat.mul_add_div (Nat.zero_lt_of_lt hr), Nat.div_eq_of_lt hr, Nat.add_zero]
theorem chip_sum (kd M a b c : Nat) : 4096 * kd + 512 * M + (64 * a + (8 * b + c)) = 64 * (8 * (8 * kd + M) + a) + (8 * b + c) ∧ 4096 * kd + 512 * M + (64 * a + (8 * b + c)) = 8 * (8 * (8 * (8 * kd + M) + a) + b) + c := by lia
theorem chip_at {t kd M k : Nat} {heap : List Nat} (hk : k < 3) (h8 : heap.getD k 0 < 8) : (((4096 * kd + 512 * M + digN t heap : Nat) : Int) / 8 ^ (2 - k) - t) % 8 = (heap.getD k 0 : Int) := by
  rw [digN_eq]
  have m8 : ∀ x, x % 8 < 8 := fun x => Nat.mod_lt _ (by decide)
  obtain ⟨s1, s2⟩ := chip_sum kd M ((heap.getD 0 0 + t) % 8) ((heap.getD 1 0 + t) % 8) ((heap.getD 2 0 + t) % 8)
  match k, hk with
  | 0, _ =>
    show (_ / ((64 : Nat) : Int) - _ : Int) % 8 = _
    rw [div_core s1 (Nat.lt_of_lt_of_le (Nat.add_lt_add_left (m8 _) _) (Nat.add_le_add_right (Nat.mul_le_mul_left 8 (Nat.le_of_lt_succ (m8 _))) 8))]
    exact chip_core rfl h8
  | 1, _ =>
    show (_ / ((8 : Nat) : Int) - _ : Int) % 8 = _
    rw [div_core s2 (m8 _)]
    exact chip_core rfl h8
  | 2, _ =>
    show (_ / (1 : Int) - _ : Int) % 8 = _
    rw [Int.ediv_one, s2]
    exact chip_core rfl h8
theorem dig_lt (t : Nat) (heap : List Nat) : digN t heap < 512 := by rw [digN_eq]; lia
theorem burn_up {N : List (List Nat)} {t kd M k : Nat} {heap : List Nat} (hk : k < 3) (h8 : heap.getD k 0 < 8) : burnN N t (4096 * kd + 512 * M + digN t heap) k = 4096 * kd + 512 * burnM N heap M k + digN t heap := by
  unfold burnN burnM
  rw [greens_up (dig_lt t heap), chip_at hk h8]
  have e : ((((grM M).map fun j => netAt N k j).sum : Nat) : Int) ≤ (heap.getD k 0 : Int) ↔ ((grM M).map fun j => netAt N k j).sum ≤ heap.getD k 0 := by exact_mod_cast Iff.rfl
  by_cases c : k ∈ grM M ∧ ((grM M).map fun j => netAt N k j).sum ≤ heap.getD k 0
  · rw [if_pos ⟨c.1, e.mpr c.2⟩, if_pos c]
    have : 2 ^ (11 - k) = 512 * 2 ^ (2 - k) := by
      match k, hk with
      | 0, _ => rfl
      | 1, _ => rfl
      | 2, _ => rfl
    rw [this]; lia
  · rw [if_neg (fun q => c ⟨q.1, e.mp q.2⟩), if_neg c]
theorem burns_up {N : List (List Nat)} {t kd : Nat} {heap : List Nat} (h8 : ∀ k, k < 3 → heap.getD k 0 < 8) : ∀ (ks : List Nat), (∀ k ∈ ks, k < 3) → ∀ M, ks.foldl (burnN N t) (4096 * kd + 512 * M + digN t heap) = 4096 * kd + 512 * ks.foldl (burnM N heap) M + digN t heap
  | [], _, _ => rfl
  | k :: ks, h, M => by
    rw [List.foldl_cons, List.foldl_cons, burn_up (h k (.head _)) (h8 k (h k (.head _)))]
    exact burns_up h8 ks (fun j hj => h j (.tail _ hj)) _
theorem rounds_lt : ∀ k ∈ rounds, k < 3 := by decide
theorem mode_eq {N : List (List Nat)} {t kd : Nat} {heap : List Nat} (hl : heap.length = 3) (h8 : ∀ k, k < 3 → heap.getD k 0 < 8) : rounds.foldl (burnN N t) (heap.foldl (fun n x => 8 * n + (x + t) % 8) (8 * kd)) = 4096 * kd + 512 * marksN N heap + digN t heap := by
  rw [begun_eq t kd hl]
  exact burns_up h8 rounds rounds_lt 0
theorem mode_low {kd M d : Nat} (hM : M < 8) (hd : d < 512) : (4096 * kd + 512 * M + d) &&& 4095 = 512 * M + d := by
  rw [Nat.and_two_pow_sub_one_eq_mod _ 12]; lia
theorem heaps_mem {m h : List Nat} (hh : h ∈ heapsN m) : ∃ a b c, h = [a, b, c] ∧ a < m.getD 0 0 ∧ b < m.getD 1 0 ∧ c < m.getD 2 0 := by
  obtain ⟨a, ha, hh⟩ := List.mem_flatMap.mp hh
  obtain ⟨b, hb, hh⟩ := List.mem_flatMap.mp hh
  obtain ⟨c, hc, rfl⟩ := List.mem_map.mp hh
  exact ⟨a, b, c, rfl, List.mem_range.mp ha, List.mem_range.mp hb, List.mem_range.mp hc⟩
theorem heaps_ok {m h : List Nat} (hm : ∀ k, k < 3 → m.getD k 0 ≤ 4) (hh : h ∈ heapsN m) : h.length = 3 ∧ ∀ k, k < 3 → h.getD k 0 < 8 := by
  obtain ⟨a, b, c, rfl, ha, hb, hc⟩ := heaps_mem hh
  refine ⟨rfl, fun k hk => ?_⟩
  have h0 := hm 0 (by decide)
  have h1 := hm 1 (by decide)
  have h2 := hm 2 (by decide)
  match k, hk with
  | 0, _ => show a < 8; lia
  | 1, _ => show b < 8; lia
  | 2, _ => show c < 8; lia
theorem heaps_len {m : List Nat} (hm : ∀ k, k < 3 → m.getD k 0 ≤ 4) : (heapsN m).length ≤ 64 := by
  have h0 := hm 0 (by decide)
  have h1 := hm 1 (by decide)
  have h2 := hm 2 (by decide)
  have e : (heapsN m).length = m.getD 0 0 * (m.getD 1 0 * m.getD 2 0) := by simp [heapsN, List.length_flatMap, List.map_const', List.sum_replicate_nat]
  rw [e]
  exact Nat.mul_le_mul h0 (Nat.mul_le_mul h1 h2)
theorem fall_len {G heap : List Nat} {N : List (List Nat)} {k : Nat} (h : heap.length = 3) : (fallN G N heap k).length = 3 := by
  unfold fallN; split
  · exact h
  · rfl
theorem falls_len {G : List Nat} {N : List (List Nat)} : ∀ (ks heap : List Nat), heap.length = 3 → (ks.foldl (fallN G N) heap).length = 3
  | [], _, h => h
  | _ :: ks, _, h => falls_len ks _ (fall_len h)
theorem itR_fold {α : Type} (row : List Nat) : ∀ (l : List α) (s : Nat), l.foldl (fun x _ => row.getD x 0) s = itR row l.length s
  | [], _ => rfl
  | _ :: l, s => itR_fold row l _

/- L3E -/
theorem ev_burned (hg : GOk g) (hK : g.K = hd3.heap_1 P) (ht : g.tabs = [(118, 114), (111, 107), (97, 93), (145, 143)]) {p p0 pos pos0 : Pos} {e1 e2 e3 e4 : Expr} {N : List (List Nat)} {t m : Nat} (hN : NetOk N) (hk : fi.sc.names.lookup ("_law_burn" : Str) = some .globalImplicit) (hk2 : fi.sc.names.lookup ("reduce" : Str) = some .globalImplicit)
    (h1 : Ev g (ℓ + 4) fi ρ e1 (.list (rowsD N))) (h2 : Ev g (ℓ + 4) fi ρ e2 (.int (t : Int))) (h3 : Ev g (ℓ + 4) fi ρ e3 (rowD rounds)) (h4 : Ev g (ℓ + 4) fi ρ e4 (.int (m : Int)))
    (hse1 : ∀ env, starEach [e1, e2] env = (false, eval e1 env) :: starEach [e2] env := by intro _; rfl) (hse2 : ∀ env, starEach [e2] env = (false, eval e2 env) :: starEach [] env := by intro _; rfl)
    (hse3 : ∀ env, starEach [.Call (.Name "_law_burn" p0) [e1, e2] [] pos0, e3, e4] env = [(false, eval (.Call (.Name "_law_burn" p0) [e1, e2] [] pos0) env), (false, eval e3 env), (false, eval e4 env)] := by intro _; rfl) :
    Ev g (ℓ + 4) fi ρ (.Call (.Name "reduce" p) [.Call (.Name "_law_burn" p0) [e1, e2] [] pos0, e3, e4] [] pos) (.int ((rounds.foldl (burnN N t) m : Nat) : Int)) := by
  obtain ⟨params, fbody, fsc, hmk, hstep⟩ := ev_burn (ℓ := ℓ + 3) (p0 := p0) (pos0 := pos0) hg hK ht hN hk h1 h2 hse1 hse2
  refine Ev.callF hg hk2 (gS hg hK (v := .ref 77) (by kernel_rfl)) (fnK hK rfl) hmk h3 h4 ?_ (he := hse3)
  intro g' hg' hK' ht' f hf
  exact ok_fold (ℓ := ℓ + 3) hg' (hK'.trans hK) (dseq := rowD rounds) (l := rounds) (en := fun x : Nat => .int (x : Int)) (enc := fun n : Nat => .int (n : Int)) (a0 := m) (fn_obj hf) rfl rfl fun i x hx => hstep ℓ g' f hg' (hK'.trans hK) hf _ x (rounds_lt x (List.mem_of_getElem? hx))
theorem ev_fallen (hg : GOk g) (hK : g.K = hd3.heap_1 P) (ht : g.tabs = [(118, 114), (111, 107), (97, 93), (145, 143)]) {p p0 pos pos0 : Pos} {e1 e2 e3 e4 : Expr} {N : List (List Nat)} {down heap : List Nat} (hN : NetOk N) (hdl : down.length = 3) (hdb : ∀ x ∈ down, x < 256) (hhl : heap.length = 3) (hk : fi.sc.names.lookup ("_law_fall" : Str) = some .globalImplicit) (hk2 : fi.sc.names.lookup ("reduce" : Str) = some .globalImplicit)
    (h1 : Ev g (ℓ + 4) fi ρ e1 (.bytes (bytesN down))) (h2 : Ev g (ℓ + 4) fi ρ e2 (.list (rowsD N))) (h3 : Ev g (ℓ + 4) fi ρ e3 (rowD rounds)) (h4 : Ev g (ℓ + 4) fi ρ e4 (rowD heap))
    (hse1 : ∀ env, starEach [e1, e2] env = (false, eval e1 env) :: starEach [e2] env := by intro _; rfl) (hse2 : ∀ env, starEach [e2] env = (false, eval e2 env) :: starEach [] env := by intro _; rfl)
    (hse3 : ∀ env, starEach [.Call (.Name "_law_fall" p0) [e1, e2] [] pos0, e3, e4] env = [(false, eval (.Call (.Name "_law_fall" p0) [e1, e2] [] pos0) env), (false, eval e3 env), (false, eval e4 env)] := by intro _; rfl) :
    Ev g (ℓ + 4) fi ρ (.Call (.Name "reduce" p) [.Call (.Name "_law_fall" p0) [e1, e2] [] pos0, e3, e4] [] pos) (rowD (rounds.foldl (fallN down N) heap)) := by
  obtain ⟨params, fbody, fsc, hmk, hstep⟩ := ev_fall (ℓ := ℓ + 3) (p0 := p0) (pos0 := pos0) hg hK ht hN hdl hdb hk h1 h2 hse1 hse2
  refine Ev.callF hg hk2 (gS hg hK (v := .ref 77) (by kernel_rfl)) (fnK hK rfl) hmk h3 h4 ?_ (he := hse3)
  intro g' hg' hK' ht' f hf
  exact ok_fold (ℓ := ℓ + 3) hg' (hK'.trans hK) (dseq := rowD rounds) (l := rounds) (en := fun x : Nat => .int (x : Int)) (enc := rowD) (a0 := heap) (fn_obj hf) rfl rfl fun i x hx => hstep ℓ g' f hg' (hK'.trans hK) hf _ x (falls_len _ _ hhl) (rounds_lt x (List.mem_of_getElem? hx))
theorem heaps_flat (m : List Nat) : rowsD (heapsN m) = (natD (List.range (m.getD 0 0))).flatMap fun d => (natD (List.range (m.getD 1 0))).flatMap fun e => (natD (List.range (m.getD 2 0))).flatMap fun c => [.list [d, e, c]] := by
  simp only [rowsD, heapsN, natD, List.map_flatMap, List.map_map, List.flatMap_map]
  refine congrArg (List.flatMap · _) (funext fun a => congrArg (List.flatMap · _) (funext fun b => ?_))
  rw [List.map_eq_flatMap]
  rfl
theorem needs_ok (N : List (List Nat)) : (needsN N).length ≤ 10 ∧ ∀ some ∈ needsN N, some.length ≤ 3 ∧ ∀ need ∈ some, need.length = 2 ∧ need.getD 0 0 < 3 := by
  refine ⟨by simp [needsN], fun some hs => ?_⟩
  obtain ⟨l, hl, rfl⟩ := List.mem_map.mp hs
  have : l.length ≤ 3 ∧ ∀ k ∈ l, k < 3 := by
    clear hs; revert l; decide
  refine ⟨by rw [List.length_map]; exact this.1, fun need hn => ?_⟩
  obtain ⟨k, hk, rfl⟩ := List.mem_map.mp hn
  exact ⟨rfl, this.2 k hk⟩
theorem bonds_of {a b c r : Nat} (h : r = a % 2 + 2 * (b % 2) + 4 * (c % 2)) : bondsN r = [a % 2, b % 2, c % 2] ∧ r < 8 := by
  refine ⟨?_, by lia⟩
  have h1 : r % 2 = a % 2 := by lia
  have h2 : r / 2 % 2 = b % 2 := by lia
  have h3 : r / 4 % 2 = c % 2 := by lia
  rw [bondsN, h1, h2, h3]

/- L3F -/
structure L3I (C : List D) (G : List Nat) (N : List (List Nat)) (kd t : Nat) (B : List (List Nat)) (σ : St) : Prop where
  w : σ.ω = [("burnt" : Str)]
  ce : σ.ρ.lookup ("cells" : Str) = some (.list C)
  gr : σ.ρ.lookup ("ground" : Str) = some (rowD G)
  dn : σ.ρ.lookup ("down" : Str) = some (.bytes (bytesN G))
  nt : σ.ρ.lookup ("net" : Str) = some (.list (rowsD N))
  ow : σ.ρ.lookup ("own" : Str) = some (.list (rowsD N))
  ne : σ.ρ.lookup ("needs" : Str) = some (.list (cubeD (needsN N)))
  ki : σ.ρ.lookup ("kind" : Str) = some (.int (kd : Int))
  tu : σ.ρ.lookup ("turn" : Str) = some (.int (t : Int))
  bu : σ.ρ.lookup ("burnt" : Str) = some (.list (rowsD B))
structure L3Q (C : List D) (G : List Nat) (N B : List (List Nat)) (kd t : Nat) (a4 a5 a6 : Int) (σ : St) : Prop where
  W : World3 G N B
  k : kd < 16
  c4 : C[4]? = some (.int a4)
  c5 : C[5]? = some (.int a5)
  c6 : C[6]? = some (.int a6)
  k4 : a4 % 16 = (kd : Int)
  t5 : ∀ h : Nat, ((h : Int) + a5) % 8 = (((h + t) % 8 : Nat) : Int)
  I : L3I C G N kd t [] σ
  mo : σ.ρ.lookup ("most" : Str) = some (rowD (mostN G N))
structure L3J (C : List D) (G : List Nat) (N B M : List (List Nat)) (σ : St) : Prop where
  w : σ.ω = [("moves" : Str)]
  ce : σ.ρ.lookup ("cells" : Str) = some (.list C)
  dn : σ.ρ.lookup ("down" : Str) = some (.bytes (bytesN G))
  nt : σ.ρ.lookup ("net" : Str) = some (.list (rowsD N))
  bu : σ.ρ.lookup ("burnt" : Str) = some (.list (rowsD B))
  mo : σ.ρ.lookup ("moves" : Str) = some (.list (rowsD M))
structure L3R (s : Nat) (B M : List (List Nat)) (R : List Nat) (σ : St) : Prop where
  w : σ.ω = [("reached" : Str)]
  bu : σ.ρ.lookup ("burnt" : Str) = some (.list (rowsD B))
  mo : σ.ρ.lookup ("moves" : Str) = some (.list (rowsD M))
  st : σ.ρ.lookup ("start" : Str) = some (.int (s : Int))
  re : σ.ρ.lookup ("reached" : Str) = some (rowD R)
structure L3S (s : Nat) (B M : List (List Nat)) (σ : St) : Prop where
  ro : RowsOk B.length M
  re : ∀ s, s < B.length → (reachN M s B.length).length = B.length
  cy : ∀ j, j < 3 → ∀ s, s < B.length → itR (M.getD j []) B.length s = s
  rl : ∀ j, j < 3 → (M.getD j []).length = B.length
  sn : s < B.length
  I : L3R s B M (reachN M s 0) σ
theorem rowsD_snoc (L : List (List Nat)) (l : List Nat) : rowsD (L ++ [l]) = rowsD L ++ [rowD l] := by rw [rowsD, List.map_append]; rfl
theorem octs_cut {G bs : List Nat} {kd t : Nat} (h : G.length = 3) (h' : bs.length = 3) : (3 :: (G ++ 3 :: (bs ++ [kd, t])))[0]? = some 3 ∧ (3 :: (G ++ 3 :: (bs ++ [kd, t])))[4]? = some 3 ∧ (3 :: (G ++ 3 :: (bs ++ [kd, t])))[8]? = some kd ∧ (3 :: (G ++ 3 :: (bs ++ [kd, t])))[9]? = some t ∧
    ((3 :: (G ++ 3 :: (bs ++ [kd, t]))).drop 1).take 3 = G ∧ ((3 :: (G ++ 3 :: (bs ++ [kd, t]))).drop 5).take 3 = bs := by
  match G, h, bs, h' with
  | [_, _, _], _, [_, _, _], _ => exact ⟨rfl, rfl, rfl, rfl, rfl, rfl⟩
theorem map3 {M : List (List Nat)} {f : List Nat → D} {d : D} (h : M.length = 3) (hf : ∀ j, j < 3 → f (M.getD j []) = d) : M.map f = [d, d, d] := by
  match M, h, hf with
  | [m0, m1, m2], _, hf => rw [List.map_cons, List.map_cons, List.map_cons, List.map_nil, show f m0 = d from hf 0 (by decide), show f m1 = d from hf 1 (by decide), show f m2 = d from hf 2 (by decide)]
theorem pow8_small (k : Nat) : (8 : Int) ^ (2 - k) < 2 ^ 64 ∧ -(2 ^ 64) < (8 : Int) ^ (2 - k) := by
  have : ∀ e, e < 3 → (8 : Int) ^ e < 2 ^ 64 ∧ -(2 ^ 64) < (8 : Int) ^ e := by decide
  exact this _ (by lia)
theorem fewOf_len (n : Nat) (f : Nat → Nat) : (fewOf n f).length ≤ 24 := Nat.le_trans (List.length_filter_le _ _) (by rw [List.length_range]; decide)
set_option maxHeartbeats 4000000 in
theorem ok_law (hg : GOk g) (hK : g.K = hd3.heap_1 P) (ht : g.tabs = [(118, 114), (111, 107), (97, 93), (145, 143)]) {ns : List Int} (hn : ns.length ≤ 63) : CallOK g 20 (.ref 146) [.list (ns.map .int)] (.bool true) := by
  refine CallOK.defW hg (mkDef (xs := ["script"]) hK rfl (by kernel_rfl) (bind1 fun _ => rfl) hg (by decide +kernel)) rfl ?_
  with_reducible refine ExW.ints (is := [3, 1, 1, 0, 8, 2, 5]) ?_ ?_ ?_ ?_
  · rfl
  · decide
  · walk_at "st"
  obtain ⟨cs, hcs⟩ : ∃ cs : List Int, cs = (List.range 7).map fun k => cellOf [3, 1, 1, 0, 8, 2, 5] 7 ns k := ⟨_, rfl⟩
  have hlen : cs.length = 7 := by rw [hcs]; rfl
  refine ExW.cons (Ex1.assignC (ds := cs.map .int) (by
    rw [hcs, List.map_map]
    refine CompOK.natM (l := List.range 7) rfl (.inl rfl) (Ev.call hg rfl (gB hg hK (by kernel_rfl) rfl) (.typ _) (Evs.cons Ev.int Evs.nil) (CallOK.rangeN (n := 7) (by lia))) (iter_rangeN 7) (fun k hk => ?_) (by decide)
    have hk := List.mem_range.mp hk
    have hb : ([3, 1, 1, 0, 8, 2, 5].map D.int)[k]? = some (D.int ([3, 1, 1, 0, 8, 2, 5].getD k 0)) := by
      rw [List.getElem?_map, List.getElem?_eq_getElem (by simpa using hk), List.getD_eq_getElem?_getD, List.getElem?_eq_getElem (by simpa using hk)]; rfl
    have hs := cut_map D.int ns (some k) (some 60) (some 7)
    exact Ev.bin (Ev.sub (Ev.var (by walk_at "lk")) (Ev.var (by walk_at "lk")) (Op2.atLN rfl hb (by lia))) (Ev.call hg rfl (gB hg hK (by kernel_rfl) rfl) (.blt _) (Evs.cons (Ev.slL (lo := some k) (hi := some 60) (st := some 7) (Ev.var (by walk_at "lk")) (Ev.var (by walk_at "lk")) Ev.int Ev.int) Evs.nil) (CallOK.sum (ns := cut ns (some k) (some 60) (some 7)) (by rw [hs]; rfl))) Op2.add) (by walk_at "st") ?_)
  obtain ⟨a0, a1, a2, a3, a4, a5, a6, rfl⟩ : ∃ a0 a1 a2 a3 a4 a5 a6 : Int, cs = [a0, a1, a2, a3, a4, a5, a6] := by
    exact ⟨_, _, _, _, _, _, _, hcs.trans rfl⟩
  clear hlen hcs
  obtain ⟨c, hc⟩ : ∃ c : Nat, c = (a0 % 4).toNat := ⟨_, rfl⟩
  have hc4 : c < 4 := by lia
  obtain ⟨r, hr⟩ : ∃ r : Nat, r = (a1 % 2).toNat % 2 + 2 * ((a2 % 2).toNat % 2) + 4 * ((a3 % 2).toNat % 2) := ⟨_, rfl⟩
  obtain ⟨hbs, hr8⟩ := bonds_of hr
  obtain ⟨kd, hkd⟩ : ∃ m : Nat, m = (a4 % 16).toNat := ⟨_, rfl⟩
  have hkd16 : kd < 16 := by lia
  obtain ⟨t, htu⟩ : ∃ m : Nat, m = (a5 % 8).toNat := ⟨_, rfl⟩
  have ht8 : t < 8 := by lia
  have W := world3 hc4 hr8
  refine ExW.cons (Ex1.assignC (ds := natD (groundN c)) (by
    have e : natD (groundN c) = (List.range 3).map fun k => D.int ((if k = c then 2 else 1 : Nat) : Int) := by rw [groundN, natD, List.map_map]; rfl
    rw [e]
    refine CompOK.natM (l := List.range 3) rfl (.inl rfl) (Ev.call hg rfl (gB hg hK (by kernel_rfl) rfl) (.typ _) (Evs.cons Ev.int Evs.nil) (CallOK.rangeN (n := 3) (by lia))) (iter_rangeN 3) (fun k hk => ?_) (by decide)
    refine Ev.ifexp (c := decide (k = c)) (Tst.cast (Tst.cmp (Ev.var put_eq) (Ev.bin (Ev.sub (Ev.var (by walk_at "lk")) Ev.int (Op2.atLN (j := 0) rfl rfl (by decide))) Ev.int (Op2.fmod (by decide))) Op2.eqI) ?_) (fun q => ?_) (fun q => ?_)
    · rw [Bool.eq_iff_iff, beq_iff_eq, decide_eq_true_iff]; lia
    · rw [if_pos (of_decide_eq_true q)]; exact Ev.int
    · rw [if_neg (of_decide_eq_false q)]; exact Ev.int) (by walk_at "st") ?_)
  refine ExW.cons (Ex1.assignC (ds := natD (bondsN r)) (by
    have e : natD (bondsN r) = [a1, a2, a3].map fun x : Int => D.int (x % 2) := by
      have h1 : (((a1 % 2).toNat % 2 : Nat) : Int) = a1 % 2 := by lia
      have h2 : (((a2 % 2).toNat % 2 : Nat) : Int) = a2 % 2 := by lia
      have h3 : (((a3 % 2).toNat % 2 : Nat) : Int) = a3 % 2 := by lia
      rw [hbs]
      simp only [natD, List.map_cons, List.map_nil, h1, h2, h3]
    rw [e]
    refine CompOK.mapI (L := [a1, a2, a3]) rfl (.inl rfl) (Ev.slL (lo := some 1) (hi := some 4) (st := none) (Ev.var rfl) Ev.int Ev.int trivial) rfl (fun x hx => ?_) (small_le (by simp))
    exact Ev.bin (Ev.var put_eq) Ev.int (Op2.fmod (by decide))) (by walk_at "st") ?_)
  clear hc hr
  have hG2 := ground_lt c
  have hbl2 := bonds_lt r
  have hbl : (bondsN r).length = 3 := rfl
  generalize groundN c = G at *
  generalize bondsN r = bs at *
  have hGl := W.gl
  have hB0 : ∀ x ∈ 3 :: (G ++ 3 :: (bs ++ [kd, t])), x < 256 := by
    intro x hx
    simp only [List.mem_cons, List.mem_append, List.not_mem_nil, or_false] at hx
    rcases hx with rfl | hx | rfl | hx | rfl | rfl
    · decide
    · exact Nat.lt_trans (hG2 x hx) (by decide)
    · decide
    · exact Nat.lt_trans (hbl2 x hx) (by decide)
    · lia
    · lia
  refine ExW.stream hg rfl (gS hg hK (v := .ref 98) (by kernel_rfl)) (fnK hK rfl) (b := bytesN (3 :: (G ++ 3 :: (bs ++ [kd, t])))) (Ev.call hg rfl (gB hg hK (by kernel_rfl) rfl) (.typ _) (Evs.cons (Ev.cast (d' := .list (natD (3 :: (G ++ 3 :: (bs ++ [kd, t]))))) (Ev.bin (Ev.bin (Ev.bin (Ev.bin (Ev.lst (Evs.cons Ev.int Evs.nil)) (Ev.var rfl) (Op2.addL (small_le (by simp; lia)))) (Ev.lst (Evs.cons Ev.int Evs.nil)) (Op2.addL (small_le (by simp; lia)))) (Ev.var rfl) (Op2.addL (small_le (by simp; lia)))) (Ev.lst (Evs.cons (Ev.cast (d' := .int (kd : Int)) (Ev.bin (Ev.sub (Ev.var rfl) Ev.int (Op2.atLN (j := 4) rfl rfl (by decide))) Ev.int (Op2.fmod (by decide))) (by congr 1; lia)) (Evs.cons (Ev.cast (d' := .int (t : Int)) (Ev.bin (Ev.sub (Ev.var rfl) Ev.int (Op2.atLN (j := 5) rfl rfl (by decide))) Ev.int (Op2.fmod (by decide))) (by congr 1; lia)) Evs.nil))) (Op2.addL (small_le (by simp; lia)))) (by simp [natD])) Evs.nil) (CallOK.bytesN hB0)) (fun A X s t hA hI hX => ok_stream hg hK ht hA hI hX) (by walk_at "st") ?_
  intro st p
  obtain ⟨O, hO⟩ : ∃ O : List Nat, O = 3 :: (G ++ 3 :: (bs ++ [kd, t])) := ⟨_, rfl⟩
  rw [← hO]
  have hOl : O.length = 10 := by rw [hO]; simp; lia
  have hO0 : O[0]? = some 3 ∧ O[4]? = some 3 ∧ O[8]? = some kd ∧ O[9]? = some t ∧ (O.drop 1).take 3 = G ∧ (O.drop 5).take 3 = bs := by
    rw [hO]
    exact octs_cut hGl hbl
  obtain ⟨o0, o4, o8, o9, oG, ob⟩ := hO0
  clear hO hB0
  have hsz : (bytesN O).size = 10 := by rw [bytesN_size, hOl]
  have r1 : CallR g 19 (.ref 91) st p (bytesN O) 0 ((4 : Nat) : Int) (.bytes (bytesN G)) := by
    have := ok_bytes1 (ℓ := 16) (st := st) (p := p) (b := bytesN O) (i := 0) (n := 3) hg hK (by rw [hsz]; lia) (by rw [bytesN_get, o0]; rfl) (by lia) (by rw [hsz]; lia)
    rw [cutB_bytesN, oG] at this
    exact this
  have r2 : CallR g 19 (.ref 91) st p (bytesN O) ((4 : Nat) : Int) ((8 : Nat) : Int) (.bytes (bytesN bs)) := by
    have := ok_bytes1 (ℓ := 16) (st := st) (p := p) (b := bytesN O) (i := 4) (n := 3) hg hK (by rw [hsz]; lia) (by rw [bytesN_get, o4]; rfl) (by lia) (by rw [hsz]; lia)
    rw [cutB_bytesN, ob] at this
    exact this
  have r3 : CallR g 19 (.ref 84) st p (bytesN O) ((8 : Nat) : Int) ((9 : Nat) : Int) (.int (kd : Int)) := by
    have := ok_uint1 (ℓ := 17) (st := st) (p := p) (b := bytesN O) (i := 8) (u := kd.toUInt8) hg hK (by rw [hsz]; lia) (by rw [bytesN_get, o8]; rfl)
    rw [show kd.toUInt8.toNat = kd by simp; lia] at this
    exact this
  have r4 : CallR g 19 (.ref 84) st p (bytesN O) ((9 : Nat) : Int) ((10 : Nat) : Int) (.int (t : Int)) := by
    have := ok_uint1 (ℓ := 17) (st := st) (p := p) (b := bytesN O) (i := 9) (u := t.toUInt8) hg hK (by rw [hsz]; lia) (by rw [bytesN_get, o9]; rfl)
    rw [show t.toUInt8.toNat = t by simp; lia] at this
    exact this
  refine ExR.unpackT (xs := ["down", "across"]) (ds := [.bytes (bytesN G), .bytes (bytesN bs)]) (EvR.tup2 (EvR.call hg rfl (gS hg hK (by kernel_rfl)) (fnK hK rfl) rfl r1 rfl) (EvR.call hg rfl (gS hg hK (by kernel_rfl)) (fnK hK rfl) rfl r2 rfl)) rfl rfl (nm2 (by walk_at "st") (by walk_at "st")) (by decide) (.inl rfl) ?_
  refine ExR.lift (Ex1.ifs (c := false) (Tst.cast (Tst.boolop (TstAll.or_cons (Tst.not (Tst.val (Ev.isBytes hg rfl rfl (gB hg hK (by kernel_rfl) rfl) (gB hg hK (by kernel_rfl) rfl) (Ev.var rfl)) TrOK.bool)) (fun _ => TstAll.or_cons (Tst.not (Tst.val (Ev.isBytes hg rfl rfl (gB hg hK (by kernel_rfl) rfl) (gB hg hK (by kernel_rfl) rfl) (Ev.var rfl)) TrOK.bool)) (fun _ => TstAll.or_nil)))) rfl) (fun c => by cases c) fun _ => Ex.nil ?_)
  refine ExR.unpackT (xs := ["kind", "turn"]) (ds := [.int (kd : Int), .int (t : Int)]) (EvR.tup2 (EvR.call hg rfl (gS hg hK (by kernel_rfl)) (fnK hK rfl) rfl r3 rfl) (EvR.call hg rfl (gS hg hK (by kernel_rfl)) (fnK hK rfl) rfl r4 rfl)) rfl rfl (nm2 (by walk_at "st") (by walk_at "st")) (by decide) (.inl rfl) ?_
  refine ExR.of ?_
  clear r1 r2 r3 r4 hsz o0 o4 o8 o9 oG ob hOl
  generalize hσ : putAll _ _ _ = σ₁
  have hw : σ₁.ω = [] := by rw [← hσ]; rfl
  have hce : σ₁.ρ.lookup ("cells" : Str) = some (.list ([a0, a1, a2, a3, a4, a5, a6].map .int)) := by rw [← hσ]; rfl
  have hgr : σ₁.ρ.lookup ("ground" : Str) = some (rowD G) := by rw [← hσ]; rfl
  have hbo : σ₁.ρ.lookup ("bonds" : Str) = some (rowD bs) := by rw [← hσ]; rfl
  have hdn : σ₁.ρ.lookup ("down" : Str) = some (.bytes (bytesN G)) := by rw [← hσ]; rfl
  have hac : σ₁.ρ.lookup ("across" : Str) = some (.bytes (bytesN bs)) := by rw [← hσ]; rfl
  have hki : σ₁.ρ.lookup ("kind" : Str) = some (.int (kd : Int)) := by rw [← hσ]; rfl
  have htn : σ₁.ρ.lookup ("turn" : Str) = some (.int (t : Int)) := by rw [← hσ]; rfl
  clear hσ
  have hC4 : ([a0, a1, a2, a3, a4, a5, a6].map D.int)[4]? = some (.int a4) := rfl
  have hC5 : ([a0, a1, a2, a3, a4, a5, a6].map D.int)[5]? = some (.int a5) := rfl
  have hC6 : ([a0, a1, a2, a3, a4, a5, a6].map D.int)[6]? = some (.int a6) := rfl
  generalize [a0, a1, a2, a3, a4, a5, a6].map D.int = C at *
  have hb256 : ∀ x ∈ bs, x < 256 := fun x hx => Nat.lt_trans (hbl2 x hx) (by decide)
  have hG256 : ∀ x ∈ G, x < 256 := fun x hx => Nat.lt_trans (hG2 x hx) (by decide)
  have hn1 := ok_net (ℓ := 18) hg hK (d := .bytes (bytesN bs)) (b := bs) rfl fun i j hi hj => Op2.byteN hb256 hi (by lia) (by lia)
  have hn2 := ok_net (ℓ := 18) hg hK (d := rowD bs) (b := bs) rfl fun i j hi hj => Op2.atLN hi (natD_at (by lia)) (by lia)
  generalize hB : burntN G (netN bs) = B at W
  generalize netN bs = N at *
  refine Ex.cons (Ex1.unpackT (xs := ["net", "own"]) (ds := [.list (rowsD N), .list (rowsD N)]) (EvS.strict (Ev.tp (Evs.cons (Ev.call hg rfl (gS hg hK (by kernel_rfl)) (.fn (fnK hK rfl)) (Evs.cons (Ev.var (by walk_at "fz")) Evs.nil) hn1) (Evs.cons (Ev.call hg rfl (gS hg hK (by kernel_rfl)) (.fn (fnK hK rfl)) (Evs.cons (Ev.var (by walk_at "fz")) Evs.nil) hn2) Evs.nil)))) rfl rfl (nm2 (by walk_at "st") (by walk_at "st")) ?_ (by decide) (.inl rfl))
  clear hn1 hn2
  have hNk := W.net
  dsimp only [putAll]
  refine Ex.cons (Ex1.assignC (ds := natD (mostN G N)) (by
    have e : natD (mostN G N) = (List.range 3).map fun k => D.int ((G.getD k 0 + (N.getD k []).sum : Nat) : Int) := by rw [mostN, natD, List.map_map]; rfl
    rw [e]
    refine CompOK.natM (l := List.range 3) rfl (.inl rfl) (Ev.call hg rfl (gB hg hK (by kernel_rfl) rfl) (.typ _) (Evs.cons Ev.int Evs.nil) (CallOK.rangeN (n := 3) (by lia))) (iter_rangeN 3) (fun k hk => ?_) (by decide)
    have hk := List.mem_range.mp hk
    exact Ev.cast (Ev.bin (Ev.sub (a := rowD G) (Ev.var (by walk_at "cf")) (Ev.var put_eq) (Op2.atLN rfl (natD_at (by lia)) (by lia))) (Ev.call hg rfl (gB hg hK (by kernel_rfl) rfl) (.blt _) (Evs.cons (Ev.sub (a := .list (rowsD N)) (Ev.var (by walk_at "cf")) (Ev.var put_eq) (Op2.atLN rfl (hNk.at1 hk) (by lia))) Evs.nil) CallOK.sumN) Op2.add) (by push_cast; rfl)) (by walk_at "st") ?_)
  refine Ex.cons (Ex1.unpackOwn (d1 := .list (cubeD (needsN N))) (Ev.call hg rfl (gS hg hK (by kernel_rfl)) (.fn (fnK hK rfl)) (Evs.cons (Ev.var (by walk_at "fz")) Evs.nil) (ok_needs (ℓ := 18) hg hK hNk)) (by walk_at "st") (by walk_at "st") (by decide) (.inl rfl) ?_)
  have hI0 : L3I C G N kd t [] ⟨put (put (((σ₁.put "net" (.list (rowsD N))).put "own" (.list (rowsD N))).put "most" (rowD (mostN G N))).ρ "needs" (.list (cubeD (needsN N)))) "burnt" (.list []), "burnt" :: (((σ₁.put "net" (.list (rowsD N))).put "own" (.list (rowsD N))).put "most" (rowD (mostN G N))).ω⟩ :=
    ⟨by simp only [St.put_ω, hw], by walk_at "lk", by walk_at "lk", by walk_at "lk", by walk_at "lk", by walk_at "lk", by walk_at "lk", by walk_at "lk", by walk_at "lk", by walk_at "lk"⟩
  have hmo : (put (put (((σ₁.put "net" (.list (rowsD N))).put "own" (.list (rowsD N))).put "most" (rowD (mostN G N))).ρ "needs" (.list (cubeD (needsN N)))) "burnt" (.list [])).lookup ("most" : Str) = some (rowD (mostN G N)) := by walk_at "lk"
  refine (fun (h : ∀ (C : List D) (G : List Nat) (N B : List (List Nat)) (kd t : Nat) (a4 a5 a6 : Int) (σ₂ : St), L3Q C G N B kd t a4 a5 a6 σ₂ → Ex g 19 _ σ₂ _ _) => h _ _ _ _ _ _ _ _ _ _ ⟨W, hkd16, hC4, hC5, hC6, by lia, fun h => by lia, hI0, hmo⟩) ?_
  clear hI0 hmo hw hce hgr hbo hdn hac hki htn hNk
  clear hB W hC4 hC5 hC6 hb256 hG256 hG2 hbl2 hbl hGl hbs
  clear hc4 hr8 hkd hkd16 htu ht8
  clear σ₁
  rintro C G N B kd t a4 a5 a6 σ₂ ⟨W, hkd16, hC4, hC5, hC6, hk4, ht5, hI0, hmo⟩
  have hNk := W.net
  have hGl := W.gl
  have hG256 : ∀ x ∈ G, x < 256 := fun x hx => Nat.lt_trans (W.gb x hx) (by decide)
  have hw := hI0.w
  have hml : (mostN G N).length = 3 := by simp [mostN]
  have hmb : ∀ k, (mostN G N).getD k 0 ≤ 1000 := fun k => by
    by_cases h : k < 3
    · exact Nat.le_trans (W.mo k h) (by decide)
    · rw [List.getD_eq_getElem?_getD, List.getElem?_eq_none (by lia)]; exact Nat.zero_le _
  have hm0 : (natD (mostN G N))[0]? = some (.int ((mostN G N).getD 0 0 : Int)) := natD_at (by lia)
  have hm1 : (natD (mostN G N))[1]? = some (.int ((mostN G N).getD 1 0 : Int)) := natD_at (by lia)
  have hm2 : (natD (mostN G N))[2]? = some (.int ((mostN G N).getD 2 0 : Int)) := natD_at (by lia)
  have hHl := heaps_len W.mo
  refine Ex.cons (Ex1.loopN (dl := .list (rowsD (heapsN (mostN G N)))) (items := rowsD (heapsN (mostN G N))) (fun i σ => L3I C G N kd t (((heapsN (mostN G N)).take i).filter fun h => marksN N h == 7) σ) (fun d σ => σ.put "heap" d) (Ev.comp (ds := rowsD (heapsN (mostN G N))) ⟨⟨_, _, _, _, _, _, natD (List.range ((mostN G N).getD 0 0)), fun d => (natD (List.range ((mostN G N).getD 1 0))).flatMap fun e => (natD (List.range ((mostN G N).getD 2 0))).flatMap fun c => [.list [d, e, c]], rfl, rfl, ?_, fun _ _ => rfl, .inl rfl,
    Ev.call hg rfl (gB hg hK (by kernel_rfl) rfl) (.typ _) (Evs.cons (Ev.sub (a := rowD (mostN G N)) (Ev.var (by walk_at "fz")) Ev.int (Op2.atLN (j := 0) rfl hm0 (by decide))) Evs.nil) (CallOK.rangeN (hmb 0)), iter_rangeN _,
    fun d hd => ⟨true, rfl, fun _ => ⟨_, _, _, natD (List.range ((mostN G N).getD 1 0)), fun e => (natD (List.range ((mostN G N).getD 2 0))).flatMap fun c => [.list [d, e, c]], rfl, rfl, .inl rfl, (put_ne (by rfl)).trans (capOf_none rfl), fun _ _ => rfl,
      Ev.call hg rfl (gB hg hK (by kernel_rfl) rfl) (.typ _) (Evs.cons (Ev.sub (a := rowD (mostN G N)) (Ev.var (by walk_at "cf")) Ev.int (Op2.atLN (j := 1) rfl hm1 (by decide))) Evs.nil) (CallOK.rangeN (hmb 1)), iter_rangeN _, rfl,
      fun e he => ⟨true, rfl, fun _ => ⟨_, _, _, natD (List.range ((mostN G N).getD 2 0)), fun c => [.list [d, e, c]], rfl, rfl, .inl rfl, (put_ne (by rfl)).trans ((put_ne (by rfl)).trans (capOf_none rfl)), fun _ _ => rfl,
        Ev.call hg rfl (gB hg hK (by kernel_rfl) rfl) (.typ _) (Evs.cons (Ev.sub (a := rowD (mostN G N)) (Ev.var ((put_ne (by rfl)).trans (by walk_at "cf"))) Ev.int (Op2.atLN (j := 2) rfl hm2 (by decide))) Evs.nil) (CallOK.rangeN (hmb 2)), iter_rangeN _, rfl,
        fun c hc => ⟨true, rfl, fun _ => ⟨_, rfl, Ev.lst (Evs.cons (Ev.var ((put_ne (by rfl)).trans ((put_ne (by rfl)).trans put_eq))) (Evs.cons (Ev.var ((put_ne (by rfl)).trans put_eq)) (Evs.cons (Ev.var put_eq) Evs.nil)))⟩, fun h => by cases h⟩⟩, fun h => by cases h⟩⟩, fun h => by cases h⟩, heaps_flat _, small_le (by rw [List.length_map]; lia)⟩⟩) rfl hI0 ?_ ?_)
  · intro x hx
    simp only [List.mem_cons, List.not_mem_nil, or_false] at hx
    rcases hx with rfl | rfl <;> exact ⟨rfl, fun _ _ => rfl⟩
  · clear hw hmo hI0 hm0 hm1 hm2 hmb hml σ₂
    rintro i σ' ⟨hw, hce, hgr, hdn, hnt, how, hne, hki, htn, hbu⟩ d hd
    obtain ⟨heap, hh, rfl⟩ : ∃ heap, (heapsN (mostN G N))[i]? = some heap ∧ rowD heap = d := by
      rw [List.getElem?_map] at hd
      exact Option.map_eq_some_iff.mp hd
    have hmem := List.mem_of_getElem? hh
    obtain ⟨hhl, h8⟩ := heaps_ok W.mo hmem
    obtain ⟨hstk, hmk8⟩ := W.gr heap hmem
    have hdl := dig_lt t heap
    obtain ⟨md, hmd⟩ : ∃ md, 4096 * kd + 512 * marksN N heap + digN t heap = md := ⟨_, rfl⟩
    have hmode := mode_eq (N := N) (t := t) (kd := kd) hhl h8
    have hlow := mode_low (kd := kd) hmk8 hdl
    rw [hmd] at hmode hlow
    have hand := and_nat md 4095
    rw [hlow] at hand
    have hfm := fmode_all md
    have hls := ok_listing (ℓ := 18) hg hK (n := md) (by lia)
    have hgl : (D.str (listing md)).good 9 = true := good_str (strOk_listing _)
    obtain ⟨txt, htx⟩ : ∃ x, listing md = x := ⟨_, rfl⟩
    rw [htx] at hfm hls hgl
    have hsucc : (((heapsN (mostN G N)).take (i + 1)).filter fun h => marksN N h == 7) = (((heapsN (mostN G N)).take i).filter fun h => marksN N h == 7) ++ if marksN N heap == 7 then [heap] else [] := by
      rw [List.take_add_one, hh, List.filter_append, Option.toList_some, List.filter_cons, List.filter_nil]
    have hbl : (((heapsN (mostN G N)).take i).filter fun h => marksN N h == 7).length ≤ 64 := Nat.le_trans (List.length_filter_le _ _) (by rw [List.length_take]; lia)
    obtain ⟨L, hL⟩ : ∃ L, (((heapsN (mostN G N)).take i).filter fun h => marksN N h == 7) = L := ⟨_, rfl⟩
    rw [hL] at hbu hsucc hbl
    have hat : ∀ k, k < 3 → (natD heap)[k]? = some (.int (heap.getD k 0 : Int)) := fun k hk => natD_at (by lia)
    refine ⟨AsgOK.name (by walk_at "st"), ?_⟩
    refine Ex.cons (Ex1.assign (d := .int ((heap.foldl (fun n x => 8 * n + (x + t) % 8) (8 * kd) : Nat) : Int)) (EvS.strict (Ev.callF (d2 := rowD heap) (d3 := .int ((8 * kd : Nat) : Int)) hg rfl (gS hg hK (v := .ref 77) (by kernel_rfl)) (fnK hK rfl) (EvF.lam hg (c := 145) (P := 143) rfl (by rw [ht]; decide) (by decide)) (Ev.var (by walk_at "fz")) (Ev.cast (Ev.bin Ev.int (Ev.var (by walk_at "fz")) (Op2.mulL (by decide) (by decide))) (by push_cast; rfl)) ?_)) (by walk_at "st") ?_)
    · intro g' hg' hK' ht' f hf
      refine ok_fold (ℓ := 18) hg' (hK'.trans hK) (l := heap) (en := fun x : Nat => .int (x : Int)) (enc := fun n : Nat => .int (n : Int)) (a0 := 8 * kd) (fn_obj hf) rfl rfl fun i x hx => ?_
      refine CallOK.fun hg' (xs := ["number", "chips"]) hf ⟨rfl, rfl, rfl, by decide +kernel, by decide, nm2 (.inl rfl) (.inl rfl)⟩ rfl (bindF2 fun _ _ _ => rfl) fun cd => ?_
      · exact Ev.cast (Ev.bin (Ev.bin Ev.int (Ev.var rfl) (Op2.mulL (by decide) (by decide))) (Ev.bin (Ev.bin (Ev.var rfl) (Ev.var ((look_app rfl).trans (capOf_of rfl (by walk_at "fz")))) Op2.add) Ev.int (Op2.fmod (by decide))) Op2.add) (by push_cast; rfl)
    refine Ex.cons (Ex1.assign (d := .int (md : Int)) (EvS.strict (Ev.cast (ev_burned (ℓ := 15) (N := N) (t := t) hg hK ht hNk rfl rfl (Ev.var (by walk_at "fz")) (Ev.var (by walk_at "fz")) (Ev.lst (Evs.nats (l := rounds) rfl)) (Ev.var (by walk_at "fz"))) (by rw [hmode]))) (by walk_at "st") ?_)
    refine Ex.cons (Ex1.assign (d := .int (digN t heap : Int)) (EvS.strict (Ev.call hg rfl (gB hg hK (by kernel_rfl) rfl) (.blt _) (Evs.cons (Ev.cast (d' := .list (natD ((List.range 3).map fun k => 8 ^ (2 - k) * ((heap.getD k 0 + t) % 8)))) (Ev.comp (CompOK.natM (l := List.range 3) (f := fun k => .int ((8 ^ (2 - k) * ((heap.getD k 0 + t) % 8) : Nat) : Int)) rfl (.inl rfl) (Ev.call hg rfl (gB hg hK (by kernel_rfl) rfl) (.typ _) (Evs.cons Ev.int Evs.nil) (CallOK.rangeN (n := 3) (by lia))) (iter_rangeN 3) (fun k hk => ?_) (by decide))) (by rw [natD, List.map_map]; rfl)) Evs.nil) CallOK.sumN)) (by walk_at "st") ?_)
    · have hk := List.mem_range.mp hk
      have hp : ((2 : Int) - (k : Int)).toNat = 2 - k := by lia
      have hpb := pow8_small k
      refine Ev.cast (Ev.bin (Ev.bin Ev.int (Ev.bin Ev.int (Ev.var put_eq) Op2.sub) (Op2.pow (by lia) (by lia) (by decide))) (Ev.bin (Ev.bin (Ev.sub (a := rowD heap) (Ev.var (by walk_at "cf")) (Ev.var put_eq) (Op2.atLN rfl (hat k hk) (by lia))) (Ev.sub (a := .list C) (Ev.var (by walk_at "cf")) Ev.int (Op2.atLN (j := 5) rfl hC5 (by decide))) Op2.add) Ev.int (Op2.fmod (by decide))) (Op2.mulL (by rw [hp]; exact hpb.2) (by rw [hp]; exact hpb.1))) ?_
      rw [hp]
      rw [ht5]; push_cast; rfl
    refine Ex.cons (Ex1.assign (d := rowD (greenN (needsN N) heap)) (EvS.strict (Ev.call hg rfl (gS hg hK (by kernel_rfl)) (.fn (fnK hK rfl)) (Evs.cons (Ev.var (by walk_at "fz")) (Evs.cons (Ev.var (by walk_at "fz")) Evs.nil)) (ok_green (ℓ := 18) hg hK (needs_ok N).1 hhl (needs_ok N).2))) (by walk_at "st") ?_)
    refine Ex.cons (Ex1.assign (d := .int (md : Int)) (EvS.strict (Ev.cast (Ev.bin (Ev.bin (Ev.bin (Ev.bin (Ev.sub (a := .list C) (Ev.var (by walk_at "fz")) Ev.int (Op2.atLN (j := 4) rfl hC4 (by decide))) Ev.int (Op2.fmod (by decide))) Ev.int (Op2.mulR (by decide) (by decide))) (Ev.var (by walk_at "fz")) Op2.add) (Ev.call hg rfl (gB hg hK (by kernel_rfl) rfl) (.blt _) (Evs.cons (Ev.cast (d' := .list (natD (((List.range 3).filter fun k => !(greenN (needsN N) heap).contains k).map fun k => 2 ^ (11 - k)))) (Ev.comp (CompOK.natF (l := List.range 3) (f := fun k => .int ((2 ^ (11 - k) : Nat) : Int)) (b := fun k => !(greenN (needsN N) heap).contains k) rfl (.inl rfl) (Ev.call hg rfl (gB hg hK (by kernel_rfl) rfl) (.typ _) (Evs.cons Ev.int Evs.nil) (CallOK.rangeN (n := 3) (by lia))) (iter_rangeN 3) (fun k hk => ?_) (fun k hk => ?_) (by decide))) (by rw [natD, List.map_map]; rfl)) Evs.nil) CallOK.sumN) Op2.add) ?_)) (by walk_at "st") ?_)
    · refine Tst.cmp (Ev.var put_eq) (Ev.var (by walk_at "cf")) (Op2.notInD good_int (goods_nat 8 _) ?_)
      rw [Bool.not_eq_true', ← Bool.not_eq_true, List.contains_iff_mem, natD, List.mem_map]
      refine not_congr ⟨fun h => ⟨k, h, rfl⟩, ?_⟩
      rintro ⟨x, hx, e⟩
      rw [D.int.injEq, Int.ofNat_inj] at e
      rw [← e]; exact hx
    · have hk := List.mem_range.mp hk
      have hp : ((11 : Int) - (k : Int)) = ((11 - k : Nat) : Int) := by lia
      exact Ev.cast (Ev.bin Ev.int (Ev.cast (Ev.bin Ev.int (Ev.var put_eq) Op2.sub) (congrArg D.int hp)) (Op2.pow2 (by lia))) (by push_cast; rfl)
    · have e : (((List.range 3).filter fun k => !(greenN (needsN N) heap).contains k).map fun k => 2 ^ (11 - k)).sum = 512 * marksN N heap := hstk.symm
      rw [e]
      rw [hk4, ← hmd]; congr 1; push_cast; lia
    refine Ex.cons (Ex1.ifs (c := false) (Tst.cast (Tst.boolop (TstAll.or_cons (c := false) (Tst.cast (Tst.cmp (Ev.var (by walk_at "lk")) (Ev.var (by walk_at "lk")) Op2.neI) (by simp)) (fun _ => TstAll.or_cons (c := false) (Tst.cmp (Ev.cast (Ev.call hg rfl (gS hg hK (by kernel_rfl)) (.fn (fnK hK rfl)) (Evs.cons (Ev.var (by walk_at "lk")) Evs.nil) (ok_filemode (ℓ := 17) hg hK)) (by rw [hfm])) (Ev.call hg rfl (gS hg hK (by kernel_rfl)) (.fn (fnK hK rfl)) (Evs.cons (Ev.var (by walk_at "lk")) Evs.nil) hls) (Op2.neD hgl hgl (by simp))) (fun _ => TstAll.or_nil)))) rfl) (fun c => by cases c) fun _ => Ex.nil ?_)
    refine Ex.cons (Ex1.ifs (c := marksN N heap == 7) (Tst.cast (Tst.cmp (Ev.call hg rfl (gS hg hK (by kernel_rfl)) (.fn (fnK hK rfl)) (Evs.cons (Ev.var (by walk_at "lk")) Evs.nil) (ok_S_IMODE (ℓ := 18) hg hK)) (Ev.bin Ev.int (Ev.var (by walk_at "lk")) Op2.add) Op2.eqI) ?_) (fun q => ?_) (fun q => ?_))
    · rw [show (4095 : Int) = ((4095 : Nat) : Int) from rfl, hand, Bool.eq_iff_iff, beq_iff_eq, beq_iff_eq]; push_cast; lia
    · rw [q, if_pos rfl] at hsucc
      refine Ex.cons (Ex1.append (by show ("burnt" : Str) ∈ σ'.ω; rw [hw]; exact .head _) (by walk_at "lk") (EvS.strict (Ev.var (d := rowD heap) (by walk_at "fz"))) (small_le (by rw [List.length_map]; lia)) ?_)
      walk_at "nil"
      exact .mk ⟨hw, by walk_at "lk", by walk_at "lk", by walk_at "lk", by walk_at "lk", by walk_at "lk", by walk_at "lk", by walk_at "lk", by walk_at "lk", by rw [hsucc, rowsD_snoc]; exact lookup_put_eq⟩
    · rw [q, if_neg (by decide), List.append_nil] at hsucc
      walk_at "nil"
      exact .mk ⟨hw, by walk_at "lk", by walk_at "lk", by walk_at "lk", by walk_at "lk", by walk_at "lk", by walk_at "lk", by walk_at "lk", by walk_at "lk", by rw [hsucc]; walk_at "lk"⟩
  clear hw hmo hI0 hm0 hm1 hm2 hmb hml σ₂ hHl
  rintro σ₂ ⟨hw, hce, hgr, hdn, hnt, how, hne, hki, htn, hbu⟩
  rw [List.length_map, List.take_length, ← W.bu] at hbu
  clear hne hki htn
  show Ex _ _ _ _ _ _
  have hBn : B.length ≤ 24 := W.n24
  refine Ex.cons (Ex1.ifs (c := false) (Tst.cast (Tst.cmp (Ev.call hg rfl (gB hg hK (by kernel_rfl) rfl) (.blt _) (Evs.cons (Ev.var hbu) Evs.nil) CallOK.lenL) (Ev.call hg rfl (gS hg hK (by kernel_rfl)) (.fn (fnK hK rfl)) (Evs.cons (Ev.var hgr) (Evs.cons (Ev.var how) Evs.nil)) (ok_trees (ℓ := 18) hg hK hNk hGl W.rd)) Op2.neI) (by rw [List.length_map, W.tr]; simp)) (fun c => by cases c) fun _ => Ex.nil ?_)
  clear hgr how
  refine Ex.cons (Ex1.own Evs.nil (by walk_at "st") ?_)
  refine Ex.freeze (x := "burnt") ?_
  have hlB : ∀ h ∈ B, h.length = 3 := fun h hh => by
    rw [W.bu] at hh
    exact (heaps_ok W.mo (List.mem_filter.mp hh).1).1
  refine Ex.cons (Ex1.loopN (items := natD (List.range 3)) (fun k σ => L3J C G N B ((List.range k).map (rowN G N B)) σ) (fun d σ => σ.put "k" d) (Ev.call hg rfl (gB hg hK (by kernel_rfl) rfl) (.typ _) (Evs.cons Ev.int Evs.nil) (CallOK.rangeN (n := 3) (by lia))) (iter_rangeN 3) ⟨by simp only [hw]; decide, by walk_at "lk", by walk_at "lk", by walk_at "lk", by walk_at "lk", by walk_at "lk"⟩ ?_ ?_)
  · clear hw hce hdn hnt hbu σ₂
    rintro k σ' ⟨hw, hce, hdn, hnt, hbu, hmo⟩ d hd
    obtain ⟨hk, rfl⟩ := range_get hd
    refine ⟨AsgOK.name (by walk_at "st"), ?_⟩
    refine Ex.cons (Ex1.assignC (ds := rowsD (B.map (upN k))) (by
      have e : rowsD (B.map (upN k)) = B.map fun h => rowD (upN k h) := by rw [rowsD, List.map_map]; rfl
      rw [e]
      refine CompOK.codM (l := B) rowD rowOf rowOf_rowD (f := fun h => rowD (upN k h)) rfl (.inr rfl) (Ev.var (d := .list (rowsD B)) (by walk_at "fz")) rfl (fun heap hm => ?_) (by lia)
      refine Ev.cast (Ev.comp (CompOK.natM (l := List.range 3) (f := fun j => .int ((if j = k then heap.getD j 0 + 1 else heap.getD j 0 : Nat) : Int)) rfl (.inl rfl) (Ev.call hg rfl (gB hg hK (by kernel_rfl) rfl) (.typ _) (Evs.cons Ev.int Evs.nil) (CallOK.rangeN (n := 3) (by lia))) (iter_rangeN 3) (fun j hj => ?_) (by decide))) (by rw [rowD, upN, natD, List.map_map]; rfl)
      have hj := List.mem_range.mp hj
      have hat : (natD heap)[j]? = some (.int (heap.getD j 0 : Int)) := natD_at (by rw [hlB heap hm]; exact hj)
      refine Ev.ifexp (c := decide (j = k)) (Tst.cast (Tst.cmp (Ev.var put_eq) (Ev.var ((put_ne (by rfl)).trans (capOf_of rfl (by walk_at "cf")))) Op2.eqI) (by rw [Bool.eq_iff_iff, beq_iff_eq, decide_eq_true_iff]; lia)) (fun e => ?_) (fun e => ?_)
      · rw [if_pos (of_decide_eq_true e)]
        exact Ev.cast (Ev.bin (Ev.sub (a := rowD heap) (Ev.var (by walk_at "cl")) (Ev.var put_eq) (Op2.atLN rfl hat (by lia))) Ev.int Op2.add) (by push_cast; rfl)
      · rw [if_neg (of_decide_eq_false e)]
        exact Ev.sub (a := rowD heap) (Ev.var (by walk_at "cl")) (Ev.var put_eq) (Op2.atLN rfl hat (by lia))) (by walk_at "st") ?_)
    have hc3 : ∀ h ∈ cameN G N B k, h.length = 3 := fun h hh => by
      obtain ⟨a, ha, rfl⟩ := List.mem_map.mp hh
      obtain ⟨b, hb, rfl⟩ := List.mem_map.mp ha
      exact falls_len _ _ (by simp [upN])
    have hcl : (cameN G N B k).length = B.length := by simp [cameN]
    refine Ex.cons (Ex1.assignC (ds := rowsD (cameN G N B k)) (by
      have e : rowsD (cameN G N B k) = (B.map (upN k)).map fun h => rowD (rounds.foldl (fallN G N) h) := by rw [rowsD, cameN, List.map_map]; rfl
      rw [e]
      refine CompOK.codM (l := B.map (upN k)) rowD rowOf rowOf_rowD (f := fun h => rowD (rounds.foldl (fallN G N) h)) rfl (.inl rfl) (Ev.var (by walk_at "fz")) rfl (fun heap hm => ?_) (by rw [List.length_map]; lia)
      have hl3 : heap.length = 3 := by
        obtain ⟨b, hb, rfl⟩ := List.mem_map.mp hm
        simp [upN]
      exact ev_fallen (ℓ := 15) (N := N) (down := G) hg hK ht hNk hGl hG256 hl3 rfl rfl (Ev.var (by walk_at "cf")) (Ev.var (by walk_at "cf")) (Ev.lst (Evs.nats (l := rounds) rfl)) (Ev.var put_eq)) (by walk_at "st") ?_)
    have hgB : (D.list (rowsD B)).good 9 = true := goods_rows 7 _
    have hsrt : CallOK g 19 (.builtin "sorted") [.list (rowsD (cameN G N B k))] (.list (rowsD B)) := CallOK.sortedRows hc3 (by lia) (W.so k hk) (by lia)
    refine Ex.cons (Ex1.ifs (c := false) (Tst.cmp (Ev.call hg rfl (gB hg hK (by kernel_rfl) rfl) (.blt _) (Evs.cons (Ev.var (by walk_at "lk")) Evs.nil) hsrt) (Ev.var (by walk_at "lk")) (Op2.neD hgB hgB (by simp))) (fun c => by cases c) fun _ => Ex.nil ?_)
    refine Ex.cons (Ex1.append (by show ("moves" : Str) ∈ σ'.ω; rw [hw]; exact .head _) (by walk_at "lk") (d := rowD (rowN G N B k)) (EvS.strict (Ev.cast (Ev.comp (CompOK.codM (l := cameN G N B k) rowD rowOf rowOf_rowD (f := fun h => .int (B.idxOf h : Int)) rfl (.inl rfl) (Ev.var (by walk_at "fz")) rfl (fun h hm => ?_) (by lia))) (by rw [rowD, rowN, natD, List.map_map]; rfl))) (small_le (by simp; lia)) ?_)
    · have hB' := W.ca k hk h hm
      have hgh : (rowD h).good 8 = true := goods_nat 7 h
      have hgs : (rowsD B).all (D.good 8) = true := goods_rows 7 B
      apply Ev.methL PySem.F.slot_list_index PySem.F.type_list_index (Ev.var (by walk_at "cf")) (Ev.var put_eq) (Op2.indexD hgh hgs ?_ ?_ ?_)
      · rw [List.getElem?_map, List.getElem?_eq_getElem (idx_lt hB'), List.getElem_idxOf]; rfl
      · intro m hm' e
        rw [List.getElem?_map] at e
        obtain ⟨x, hx, e⟩ := Option.map_eq_some_iff.mp e
        have e := rowD_inj.mp e
        subst e
        obtain ⟨hmB, hx⟩ := List.getElem?_eq_some_iff.mp hx
        have := List.not_of_lt_findIdx (p := (· == x)) (xs := B) hm'
        simp [hx] at this
      · have := idx_lt hB'; lia
    walk_at "nil"
    exact .mk ⟨hw, by walk_at "lk", by walk_at "lk", by walk_at "lk", by walk_at "lk", by rw [List.range_succ, List.map_append, List.map_singleton, rowsD_snoc]; exact lookup_put_eq⟩
  clear hw hce hdn hnt hbu σ₂
  rintro σ₂ ⟨hw, hce, hdn, hnt, hbu, hmo'⟩
  clear hdn hnt
  show Ex _ _ _ _ _ _
  have hmo : σ₂.ρ.lookup ("moves" : Str) = some (.list (rowsD (movesN G N B))) := by rw [range_len] at hmo'; exact hmo'
  clear hmo'
  have hro := W.ro
  have hre := W.re
  have hcy := W.cy
  have hrl := W.rl
  obtain ⟨M, hM⟩ : ∃ M, movesN G N B = M := ⟨_, rfl⟩
  rw [hM] at hmo hro hre hcy hrl
  have hn1 := W.n1
  clear W hlB
  obtain ⟨s, hs⟩ : ∃ s : Nat, s = (a6 % (B.length : Int)).toNat := ⟨_, rfl⟩
  have hs0 := Int.emod_nonneg a6 (show (B.length : Int) ≠ 0 by lia)
  have hs1 := Int.emod_lt_of_pos a6 (show (0 : Int) < (B.length : Int) by lia)
  have hsn : s < B.length := by lia
  have hse : a6 % (B.length : Int) = (s : Int) := by lia
  clear hs hs0 hs1
  refine Ex.cons (Ex1.assign (d := .int (s : Int)) (EvS.strict (Ev.cast (Ev.bin (Ev.sub (a := .list C) (Ev.var (by walk_at "fz")) Ev.int (Op2.atLN (j := 6) rfl hC6 (by decide))) (Ev.call hg rfl (gB hg hK (by kernel_rfl) rfl) (.blt _) (Evs.cons (Ev.var (by walk_at "fz")) Evs.nil) CallOK.lenL) (Op2.fmod (by rw [List.length_map]; lia))) (by rw [List.length_map, hse]))) (by walk_at "st") ?_)
  refine Ex.freeze (x := "moves") ?_
  have hw1 : ((σ₂.put "start" (.int (s : Int))).ω.filter fun y => !(y == ("moves" : Str))) = [] := by rw [St.put_ω, hw]; rfl
  refine Ex.cons (Ex1.own (ds := natD [s]) (Evs.cons (Ev.var (by refine fz_of (by walk_at "lk") ?_; show List.contains ((σ₂.put "start" (.int (s : Int))).ω.filter fun y => !(y == ("moves" : Str))) _ = false; rw [hw1]; rfl)) Evs.nil) ⟨by show _ ∉ ((σ₂.put "start" (.int (s : Int))).ω.filter fun y => !(y == ("moves" : Str))); rw [hw1]; exact List.not_mem_nil, .inr (by decide +kernel)⟩ ?_ (small_le (by simp)))
  have hi0 : L3R s B M (reachN M s 0) ⟨put (σ₂.put "start" (.int (s : Int))).ρ "reached" (.list (natD [s])), "reached" :: ((σ₂.put "start" (.int (s : Int))).ω.filter fun y => !(y == ("moves" : Str)))⟩ := ⟨by rw [hw1], by walk_at "lk", by walk_at "lk", by walk_at "lk", by walk_at "lk"⟩
  refine (fun (h : ∀ (s : Nat) (B M : List (List Nat)) (σ₃ : St), B.length ≤ 24 → L3S s B M σ₃ → Ex g 19 _ σ₃ _ _) => h _ _ _ _ hBn ⟨hro, hre, hcy, hrl, hsn, hi0⟩) ?_
  clear hi0 hw1 hw hce hbu hmo hro hre hcy hrl hsn hse hM hn1
  clear σ₂
  clear hBn hC4 hC5 hC6 hk4 ht5 hkd16 hNk hGl hG256
  rintro s B M σ₃ hBn ⟨hro, hre, hcy, hrl, hsn, hi0⟩
  have hfr : ∀ x, x ≤ B.length → ReI B.length M s x (reachN M s x) := fun x _ => reach_ok hro hsn x
  have hw := hi0.w
  have hbu := hi0.bu
  refine Ex.cons (Ex1.loopN (items := natD (List.range B.length)) (fun x σ => L3R s B M (reachN M s x) σ) (fun d σ => σ.put "x" d) (Ev.call hg rfl (gB hg hK (by kernel_rfl) rfl) (.typ _) (Evs.cons (Ev.cast (Ev.call hg rfl (gB hg hK (by kernel_rfl) rfl) (.blt _) (Evs.cons (Ev.var (by walk_at "fz")) Evs.nil) CallOK.lenL) (by rw [List.length_map])) Evs.nil) (CallOK.rangeN (n := B.length) (by lia))) (iter_rangeN _) hi0 ?_ ?_)
  · clear hw hbu hi0 σ₃
    rintro x σ' ⟨hw, hbu, hmo, hst, hre'⟩ d hd
    obtain ⟨hx, rfl⟩ := range_get hd
    refine ⟨AsgOK.name (by walk_at "st"), ?_⟩
    have I := hfr x (by lia)
    have hnext : reachN M s (x + 1) = if x < (reachN M s x).length then reachN M s x ++ nextN M (reachN M s x) x else reachN M s x := by rw [reachN]
    obtain ⟨R, hR⟩ : ∃ R, reachN M s x = R := ⟨_, rfl⟩
    rw [hR] at hre' I hnext
    have hRl : R.length ≤ 24 := Nat.le_trans (nodup_le R (List.range B.length) I.nd fun y hy => List.mem_range.mpr (I.lt y hy)) (by rw [List.length_range]; lia)
    refine Ex.cons (Ex1.ifs (c := decide (x < R.length)) (Tst.cast (Tst.cmp (Ev.var (by walk_at "lk")) (Ev.call hg rfl (gB hg hK (by kernel_rfl) rfl) (.blt _) (Evs.cons (Ev.var (by walk_at "lk")) Evs.nil) CallOK.lenN) Op2.ltI) (by rw [decide_eq_decide]; lia)) (fun q => ?_) (fun q => ?_))
    · have q := of_decide_eq_true q
      rw [if_pos q] at hnext
      have hgx := getD_lt I.lt q
      have hf24 : ∀ i, (M.getD i []).getD (R.getD x 0) 0 < 24 := fun i => by
        by_cases h : i < 3
        · exact Nat.lt_of_lt_of_le (hro.e i h _ hgx) hBn
        · rw [List.getD_eq_getElem?_getD (l := M), List.getElem?_eq_none (by rw [hro.l]; lia)]; simp
      have hfl := fewOf_len 3 fun i => (M.getD i []).getD (R.getD x 0) 0
      refine Ex.cons (Ex1.extend (es := natD (nextN M R x)) (by show ("reached" : Str) ∈ σ'.ω; rw [hw]; exact .head _) (by walk_at "lk") (.inr ⟨Ev.cast (Ev.comp (CompOK.natF (l := fewOf 3 fun i => (M.getD i []).getD (R.getD x 0) 0) (f := fun y => .int (y : Int)) (b := fun y => !R.contains y) rfl (.inl rfl) (Ev.cast (Ev.sortedSet (dl := .list (rowsD M)) (items := rowsD M) (f := fun i => (M.getD i []).getD (R.getD x 0) 0) hg rfl (gB hg hK (by kernel_rfl) rfl) rfl (.inl rfl) (Ev.var (by walk_at "lk")) rfl (by rw [List.length_map, hro.l]; decide) hf24 (fun i d hd => ?_)) (by rw [List.length_map, hro.l])) rfl (fun y hy => ?_) (fun y hy => Ev.var put_eq) (by lia))) rfl, fun d hd => ?_⟩) ?_ ?_)
      · rw [List.getElem?_map] at hd
        obtain ⟨row, hrow, rfl⟩ := Option.map_eq_some_iff.mp hd
        have hi : i < 3 := by rw [← hro.l]; exact (List.getElem?_eq_some_iff.mp hrow).1
        have hri : M.getD i [] = row := by rw [List.getD_eq_getElem?_getD, hrow]; rfl
        have hrlen := hrl i hi
        rw [hri] at hrlen
        show Ev g 19 _ _ _ (.int (((M.getD i []).getD (R.getD x 0) 0 : Nat) : Int))
        rw [hri]
        exact Ev.sub (a := rowD row) (Ev.var put_eq) (Ev.sub (a := rowD R) (Ev.var (by walk_at "cl")) (Ev.var (by walk_at "cl")) (Op2.atLN rfl (natD_at q) (by lia))) (Op2.atLN rfl (natD_at (by rw [hrlen]; exact hgx)) (by lia))
      · refine Tst.cmp (Ev.var put_eq) (Ev.var (by walk_at "cl")) (Op2.notInD good_int (goods_nat 8 _) ?_)
        rw [Bool.not_eq_true', ← Bool.not_eq_true, List.contains_iff_mem, natD, List.mem_map]
        refine not_congr ⟨fun h => ⟨y, h, rfl⟩, ?_⟩
        rintro ⟨x, hx, e⟩
        rw [D.int.injEq, Int.ofNat_inj] at e
        rw [← e]; exact hx
      · obtain ⟨y, _, rfl⟩ := List.mem_map.mp hd; rfl
      · have : (nextN M R x).length ≤ 24 := Nat.le_trans (List.length_filter_le _ _) hfl
        exact small_le (by simp only [natD, List.length_map]; lia)
      · walk_at "nil"
        exact .mk ⟨hw, by walk_at "lk", by walk_at "lk", by walk_at "lk", by rw [hnext]; exact lookup_put_eq.trans (congrArg (fun l => some (D.list l)) List.map_append.symm)⟩
    · have q := of_decide_eq_false q
      rw [if_neg q] at hnext
      walk_at "nil"
      exact .mk ⟨hw, by walk_at "lk", by walk_at "lk", by walk_at "lk", by rw [hnext]; walk_at "lk"⟩
  clear hw hbu hi0 σ₃
  rintro σ₃ ⟨hw, hbu, hmo, hst, hre'⟩
  rw [range_len] at hre'
  show Ex _ _ _ _ _ _
  have hlast := hre s hsn
  have hM3 : M.map (fun row => D.int ((B.foldl (fun x _ => row.getD x 0) s : Nat) : Int)) = (List.replicate 3 [D.int (s : Int)]).flatten := by
    rw [map3 hro.l (f := fun row => D.int ((B.foldl (fun x _ => row.getD x 0) s : Nat) : Int)) fun j hj => by rw [itR_fold, hcy j hj s hsn]]; rfl
  refine Ex.cons (Ex1.ret (d := .bool true) (Ev.cast (Ev.and2 (c := true) (c' := true) (Ev.cast (Ev.cmp (Ev.call hg rfl (gB hg hK (by kernel_rfl) rfl) (.blt _) (Evs.cons (Ev.var hre') Evs.nil) CallOK.lenN) (Ev.call hg rfl (gB hg hK (by kernel_rfl) rfl) (.blt _) (Evs.cons (Ev.var hbu) Evs.nil) CallOK.lenL) Op2.eqI) (by rw [List.length_map, hlast]; simp)) fun _ => Ev.cmp (Ev.comp (CompOK.codM (l := M) rowD rowOf rowOf_rowD (f := fun row => .int ((B.foldl (fun x _ => row.getD x 0) s : Nat) : Int)) rfl (.inr rfl) (Ev.var hmo) rfl (fun row hrow => ?_) (by rw [hro.l]; decide))) (Ev.bin (Ev.lst (Evs.cons (Ev.var hst) Evs.nil)) Ev.int (Op2.mulLst (by decide) (by decide) (by simp))) ?_) rfl) rfl)
  · obtain ⟨i, hi, e⟩ := List.mem_iff_getElem.mp hrow
    have hi3 : i < 3 := by rw [← hro.l]; exact hi
    have hri : M.getD i [] = row := by rw [List.getD_eq_getElem?_getD, List.getElem?_eq_getElem hi, e]; rfl
    have hrlen := hrl i hi3
    have hrx := hro.e i hi3
    rw [hri] at hrlen hrx
    refine Ev.callF (d2 := .list (rowsD B)) (d3 := .int (s : Int)) hg rfl (gS hg hK (v := .ref 77) (by kernel_rfl)) (fnK hK rfl) (EvF.lam hg (c := 145) (P := 143) rfl (by rw [ht]; decide) (by decide)) (Ev.var (by walk_at "cl")) (Ev.var (by walk_at "cl")) ?_
    intro g' hg' hK' ht' f hf
    refine ok_fold (ℓ := 18) hg' (hK'.trans hK) (l := B) (en := rowD) (enc := fun n : Nat => .int (n : Int)) (stp := fun x _ => row.getD x 0) (a0 := s) (fn_obj hf) rfl rfl fun i x hx => ?_
    have hlt : (B.take i).foldl (fun x _ => row.getD x 0) s < B.length := by
      rw [itR_fold]; exact itR_in (C := (· < B.length)) hrx (fun x hx _ => hrx x hx) _ _ hsn hsn
    generalize (B.take i).foldl (fun x _ => row.getD x 0) s = y at hlt
    refine CallOK.fun hg' (xs := ["x", "heap"]) hf ⟨rfl, rfl, rfl, by decide +kernel, by decide, nm2 (.inl rfl) (.inl rfl)⟩ rfl (bindF2 fun _ _ _ => rfl) fun cd => ?_
    · exact Ev.sub (a := rowD row) (Ev.var ((look_app rfl).trans (capOf_of rfl (by walk_at "lk")))) (Ev.var rfl) (Op2.atLN rfl (natD_at (by rw [hrlen]; exact hlt)) (by lia))
  · rw [hM3]
    refine Op2.eqD ?_ ?_ (by simp)
    · show ((List.replicate 3 [D.int (s : Int)]).flatten).all (D.good 8) = true
      simp [D.good]
    · show ((List.replicate ((3 : Int)).toNat [D.int (s : Int)]).flatten).all (D.good 8) = true
      simp [D.good]

end Mine


/- FIN3 -/
set_option maxRecDepth 100000 in
set_option maxHeartbeats 8000000 in
theorem PySem.Challenge.cw_oy0101_03_holds : PySem.Challenge.rw_oy0101_03.Holds := by
  refine Mine.hd3 ?_
  k_fill
  intro w s₀ s₁ mg mb G Y fa o pm cd doc dV kV ho hd hcd hD hmg hg args vals as hpre hlay hrd hwl hlo
  have KX := km_in_of Y
  km_tabs Y
  refine Ground.open G ?_
  intro T B D TE TW
  clear G Y
  km_lay T hmg ho hd cd
  wrow_args hpre hlay hrd hwl hlo
  all_goals (first | refine callC_kw ?_ | skip)
  clear hcd hD hd
  refine Mine.law_end (P := w.params) T KX (by kernel_rfl) hmg hT9 hg (by assumption) (by assumption) (by assumption) (by omega) (fun _ _ => rfl) (by with_unfolding_all rfl) ?_
  intro g hG hK htabs hl
  have hfa : fa = 146 := by
    have := Mine.mg_of hG (x := "law") (r := some (.ref 146)) (by rw [hK]; kernel_rfl)
    rw [hl] at this; cases this; rfl
  subst hfa
  exact Mine.ok_law hG hK htabs (by omega)
