import PyProof.Rows.All
import Wide.All
import OpenK.AllK
import Wide.FinOn
import KE.KSortTup
import PyProof.WalksEnum
import PySem.Challenge.RW_pd0140_01
set_option Elab.async false
section
open PySem PySem.W PyProof.Rows
set_option autoImplicit false
set_option maxRecDepth 100000
namespace Mine
/-- the text's rows that bind a def or a class -/
abbrev keptRows : List Nat := [0, 2, 3, 5, 7, 9, 10, 12, 14, 16, 17, 18, 19, 20, 21, 23, 25, 26, 27, 28, 29, 30, 31]
def qv : Program := view PySem.Challenge.pw_pd0140_01 keptRows
/-- the def at a row of the text -/
def fdAt (i : Nat) : DefRec := match PySem.Challenge.pw_pd0140_01.main.body[i]? with
  | some (.FunctionDef n p b _ _ _ s _ _ pos) => ⟨n, p, b, s, pos⟩
  | _ => ⟨⟨#[]⟩, ⟨[], [], none, [], [], none, []⟩, [], ⟨.function, [], false, false, []⟩, ⟨0, 0, 0, 0⟩⟩
theorem def_law : defOf qv "law" = some (fdAt 31, []) := by kernel_rfl!
set_option maxHeartbeats 8000000 in
theorem head (walk : WalkO qv [] (XL qv []) (fun _ _ => True) PySem.Challenge.rw_pd0140_01.row.toRowW (fdAt 31) [] fun f vs => PySem.call f vs) : PySem.Challenge.rw_pd0140_01.Holds := by
  w_on
  o_law
  have left : LeftO PySem.Challenge.pw_pd0140_01 qv [] (fun s => xlAt qv [] s && recOk [] s) (fun _ => ()) (fun _ => ()) 2600 := by
    intro w
    have h : Option.map (fun s => (Fast.tw4187177175401517315 (view Fast.tw7228528562349199711 keptRows) [] (Fast.tw5923862056798008813 Fast.tw7228528562349199711.main.body) (fun s => xlAt (view Fast.tw7228528562349199711 keptRows) [] s && recOk [] s) true s, ())) (openEnds Fast.tw14364793385576792824 Fast.tw7228528562349199711 w 2600) =
      some (openGood (view Fast.tw7228528562349199711 keptRows) [], ()) := by kernel_rfl!
    rw [← Fast.te4187177175401517315, ← Fast.te7228528562349199711, ← Fast.te5923862056798008813, ← Fast.te14364793385576792824] at h
    exact h
  refine holds_open (q := qv) (loose := []) (XP := XL qv []) (YP := fun _ _ => True) left (fun _ _ _ => trivial) (fun _ _ _ _ _ => trivial) (fun s e => xl_of s (Bool.and_eq_true_iff.mp e).1) XL.keeps def_law (by kernel_rfl!) (by kernel_rfl!) (fun s e => recFacts_of (R := []) (Bool.and_eq_true_iff.mp e).2) (by rfl) (by assumption) (by decide +kernel) ⟨rfl, rfl, rfl, rfl, rfl, by decide +kernel⟩ ?hw walk
  w_witness2
end Mine
end

section
open PySem PySem.W PyProof.Rows PySem.Calls
set_option autoImplicit false
set_option maxRecDepth 100000
namespace Mine
theorem def_strcoll : defOf qv "_strcoll" = some (fdAt 2, []) := by kernel_rfl!
theorem def_strxfrm : defOf qv "_strxfrm" = some (fdAt 3, []) := by kernel_rfl!
theorem def_fspath : defOf qv "fspath" = some (fdAt 12, []) := by kernel_rfl!
theorem def_getsep : defOf qv "_get_sep" = some (fdAt 16, []) := by kernel_rfl!
theorem def_join : defOf qv "join" = some (fdAt 17, []) := by kernel_rfl!
theorem def_split : defOf qv "split" = some (fdAt 18, []) := by kernel_rfl!
theorem def_splitroot : defOf qv "splitroot" = some (fdAt 19, []) := by kernel_rfl!
theorem def_normpath : defOf qv "normpath" = some (fdAt 20, []) := by kernel_rfl!
theorem def_common : defOf qv "commonpath" = some (fdAt 21, []) := by kernel_rfl!
theorem def_three : defOf qv "three_way_cmp" = some (fdAt 23, []) := by kernel_rfl!
theorem def_case : defOf qv "_law_case" = some (fdAt 25, []) := by kernel_rfl!
theorem def_names : defOf qv "_law_names" = some (fdAt 26, []) := by kernel_rfl!
theorem def_signs : defOf qv "_law_signs" = some (fdAt 27, []) := by kernel_rfl!
theorem def_rows : defOf qv "_law_rows" = some (fdAt 28, []) := by kernel_rfl!
theorem def_turned : defOf qv "_law_turned" = some (fdAt 29, []) := by kernel_rfl!
theorem def_lawsorted : defOf qv "_law_sorted" = some (fdAt 30, []) := by kernel_rfl!
/-- a world, and where the text's defs stand -/
structure Wd where
  wo : World
  bk : Str → Addr
def IsDef (x : Str) : Prop := ∃ d, defOf qv x = some (d, [])
def bltNames : List Str := ["len", "range", "str", "bytes", "type", "isinstance", "issubclass", "ord", "sum", "min", "max", "sorted", "enumerate", "map", "tuple"]
theorem blt_is (x : Str) (h : bltNames.contains x = true) : x ∈ bltNames := by simpa using h
/-- a def stands there -/
def FnAt (h : Heap) (a : Addr) (d : DefRec) : Prop :=
  ∃ o pm cd doc dV kV, h.get? a = some o ∧ o.data = .func { docDef d.name d.params d.body d.scope pm cd doc with defaults := dV, kwdefaults := kV } ∧ h.CodeRec cd d.name ∧ (d.params.defaults = [] → dV = Value.none) ∧ kV = Value.none
theorem FnAt.keep {h h' : Heap} {a : Addr} {d : DefRec} (x : FnAt h a d) (k : ∀ b o, h.get? b = some o → h'.get? b = some o) : FnAt h' a d :=
  let ⟨o, pm, cd, doc, dV, kV, e, ed, ec, e1, e2⟩ := x; ⟨o, pm, cd, doc, dV, kV, k a o e, ed, ec.keeps k, e1, e2⟩
theorem FnAt.looks {M : Model} {h : Heap} {a : Addr} {d : DefRec} (x : FnAt h a d) : ∃ k, (k = Keeper.frame ∨ k = Keeper.machine ∨ k = Keeper.boundFrame) ∧ Looks M h (keeperOf (.ref a)) k := by
  obtain ⟨⟨oc, od, dat, sl⟩, pm, cd, doc, dV, kV, e, ed, _⟩ := x
  simp only at ed
  subst ed
  exact ⟨.frame, .inl rfl, (Looks.ld (part := none) e).andThen .now⟩
/-- no name of the text stands before the built-in ones -/
theorem blt_free : (bltNames.all fun x => !startupNames.contains x && !(looseW qv []).contains x && !((recsOf qv).map (·.name)).contains x && !((litsOf qv).map (·.1)).contains x && !((clssOf qv (looseW qv [])).map (·.name)).contains x) = true := by k_qdec
end Mine
end

section
open PySem PySem.W PyProof.Rows
set_option autoImplicit false
namespace Mine

abbrev Keep (h h' : Heap) : Prop := ∀ b o, h.get? b = some o → h'.get? b = some o
theorem Keep.refl (h : Heap) : Keep h h := fun _ _ e => e
theorem Keep.trans {h₁ h₂ h₃ : Heap} (a : Keep h₁ h₂) (b : Keep h₂ h₃) : Keep h₁ h₃ := fun x o e => b x o (a x o e)
theorem Keep.push (h : Heap) (o : Obj) : Keep h (h.push o) := fun _ _ e => Heap.get?_push_of_some o e

theorem isList_keep {h h' : Heap} {a : Addr} {xs : Array Value} (k : Keep h h') (x : h.IsList a xs) : h'.IsList a xs :=
  let ⟨o, ho, r⟩ := x; ⟨o, k a o ho, r⟩
theorem isTup_keep {h h' : Heap} {a : Addr} {xs : Array Value} (k : Keep h h') (x : IsTup h a xs) : IsTup h' a xs :=
  let ⟨o, ho, r⟩ := x; ⟨o, k a o ho, r⟩

/-- plain data, and the names of built-in classes -/
inductive Dt where
  | none
  | bool (b : Bool)
  | int (i : Int)
  | str (s : Str)
  | list (xs : List Dt)
  | tuple (xs : List Dt)
  | ty (n : String)

-- Rep h H v d: the value v bears the datum d; nothing of H is met on the way
mutual
inductive Rep (h : Heap) (H : Addr → Prop) : Value → Dt → Prop
  | none : Rep h H .none .none
  | bool (b : Bool) : Rep h H (.bool b) (.bool b)
  | int (i : Int) (t : Tok) : Rep h H (.int i t) (.int i)
  | str (x : Str) (t : Tok) : Rep h H (.str x t) (.str x)
  | ty (n : String) : Rep h H (.type n) (.ty n)
  | list {a : Addr} {vs : List Value} {xs : List Dt} : h.IsList a vs.toArray → ¬ H a → Reps h H vs xs → Rep h H (.ref a) (.list xs)
  | tuple {a : Addr} {vs : List Value} {xs : List Dt} : IsTup h a vs.toArray → ¬ H a → Reps h H vs xs → Rep h H (.ref a) (.tuple xs)
inductive Reps (h : Heap) (H : Addr → Prop) : List Value → List Dt → Prop
  | nil : Reps h H [] []
  | cons {v : Value} {d : Dt} {vs : List Value} {ds : List Dt} : Rep h H v d → Reps h H vs ds → Reps h H (v :: vs) (d :: ds)
end

mutual
theorem Rep.keep {h h' : Heap} {H : Addr → Prop} (k : Keep h h') : ∀ {v : Value} {d : Dt}, Rep h H v d → Rep h' H v d
  | _, _, .none => .none
  | _, _, .bool b => .bool b
  | _, _, .int i t => .int i t
  | _, _, .str x t => .str x t
  | _, _, .ty n => .ty n
  | _, _, .list l n r => .list (isList_keep k l) n (Reps.keep k r)
  | _, _, .tuple l n r => .tuple (isTup_keep k l) n (Reps.keep k r)
theorem Reps.keep {h h' : Heap} {H : Addr → Prop} (k : Keep h h') : ∀ {v : List Value} {d : List Dt}, Reps h H v d → Reps h' H v d
  | _, _, .nil => .nil
  | _, _, .cons a b => .cons (Rep.keep k a) (Reps.keep k b)
end

/-- the object at a is no list and no tuple -/
def NotSeq (h : Heap) (a : Addr) : Prop := ∀ o, h.get? a = some o → ∀ xs n, o.data ≠ .seq xs n

theorem NotSeq.ns {h : Heap} {a : Addr} {m : Str → Option Value} (x : h.Ns a m) : NotSeq h a := fun o e xs n q => by
  obtain ⟨o', es, ep, ho, hd, _⟩ := x
  rw [ho] at e; cases e; rw [hd] at q; cases q
theorem NotSeq.cell {h : Heap} {a : Addr} {v : Option Value} (x : h.IsCell a v) : NotSeq h a := fun o e xs n q => by
  obtain ⟨o', ho, hd⟩ := x
  rw [ho] at e; cases e; rw [hd] at q; cases q
theorem NotSeq.fields {h : Heap} {a : Addr} {o : Obj} {vs : Array Value} (ho : h.get? a = some o) (hd : o.data = .fields vs) : NotSeq h a := fun o' e xs n q => by
  rw [ho] at e; cases e; rw [hd] at q; cases q

theorem isList_same {h h' : Heap} {a b : Addr} {xs : Array Value} (sb : Heap.SameBut a h h') (n : b ≠ a) (x : h.IsList b xs) : h'.IsList b xs :=
  let ⟨o, ho, r⟩ := x; ⟨o, (sb.2 b n).trans ho, r⟩
theorem isTup_same {h h' : Heap} {a b : Addr} {xs : Array Value} (sb : Heap.SameBut a h h') (n : b ≠ a) (x : IsTup h b xs) : IsTup h' b xs :=
  let ⟨o, ho, r⟩ := x; ⟨o, (sb.2 b n).trans ho, r⟩

mutual
theorem Rep.same {h h' : Heap} {H : Addr → Prop} {a : Addr} (sb : Heap.SameBut a h h') (ha : H a ∨ NotSeq h a) : ∀ {v : Value} {d : Dt}, Rep h H v d → Rep h' H v d
  | _, _, .none => .none
  | _, _, .bool b => .bool b
  | _, _, .int i t => .int i t
  | _, _, .str x t => .str x t
  | _, _, .ty n => .ty n
  | _, _, .list l n r => .list (isList_same sb (fun e => by
      subst e
      rcases ha with ha | ha
      · exact n ha
      · obtain ⟨o, ho, _, n', hd⟩ := l; exact ha o ho _ _ hd) l) n (Reps.same sb ha r)
  | _, _, .tuple l n r => .tuple (isTup_same sb (fun e => by
      subst e
      rcases ha with ha | ha
      · exact n ha
      · obtain ⟨o, ho, _, n', hd⟩ := l; exact ha o ho _ _ hd) l) n (Reps.same sb ha r)
theorem Reps.same {h h' : Heap} {H : Addr → Prop} {a : Addr} (sb : Heap.SameBut a h h') (ha : H a ∨ NotSeq h a) : ∀ {v : List Value} {d : List Dt}, Reps h H v d → Reps h' H v d
  | _, _, .nil => .nil
  | _, _, .cons x y => .cons (Rep.same sb ha x) (Reps.same sb ha y)
end

mutual
theorem Rep.hide {h : Heap} {H H' : Addr → Prop} (k : ∀ b, H' b → H b ∨ h.get? b = none) : ∀ {v : Value} {d : Dt}, Rep h H v d → Rep h H' v d
  | _, _, .none => .none
  | _, _, .bool b => .bool b
  | _, _, .int i t => .int i t
  | _, _, .str x t => .str x t
  | _, _, .ty n => .ty n
  | _, _, .list l n r => .list l (fun e => by
      rcases k _ e with e | e
      · exact n e
      · obtain ⟨o, ho, _⟩ := l; rw [e] at ho; cases ho) (Reps.hide k r)
  | _, _, .tuple l n r => .tuple l (fun e => by
      rcases k _ e with e | e
      · exact n e
      · obtain ⟨o, ho, _⟩ := l; rw [e] at ho; cases ho) (Reps.hide k r)
theorem Reps.hide {h : Heap} {H H' : Addr → Prop} (k : ∀ b, H' b → H b ∨ h.get? b = none) : ∀ {v : List Value} {d : List Dt}, Reps h H v d → Reps h H' v d
  | _, _, .nil => .nil
  | _, _, .cons x y => .cons (Rep.hide k x) (Reps.hide k y)
end

theorem Reps.length {h : Heap} {H : Addr → Prop} : ∀ {vs : List Value} {ds : List Dt}, Reps h H vs ds → vs.length = ds.length
  | _, _, .nil => rfl
  | _, _, .cons _ r => by simp [Reps.length r]
theorem Reps.append {h : Heap} {H : Addr → Prop} : ∀ {vs us : List Value} {ds es : List Dt}, Reps h H vs ds → Reps h H us es → Reps h H (vs ++ us) (ds ++ es)
  | _, _, _, _, .nil, r => r
  | _, _, _, _, .cons a b, r => .cons a (Reps.append b r)
theorem Reps.get {h : Heap} {H : Addr → Prop} : ∀ {vs : List Value} {ds : List Dt} {i : Nat} {d : Dt}, Reps h H vs ds → ds[i]? = some d → ∃ v, vs[i]? = some v ∧ Rep h H v d
  | _, _, 0, _, .cons a _, e => by simp at e; subst e; exact ⟨_, rfl, a⟩
  | _, _, i + 1, _, .cons _ r, e => by
    have := Reps.get (i := i) r (by simpa using e)
    simpa using this
theorem Reps.getV {h : Heap} {H : Addr → Prop} : ∀ {vs : List Value} {ds : List Dt} {i : Nat} {v : Value}, Reps h H vs ds → vs[i]? = some v → ∃ d, ds[i]? = some d ∧ Rep h H v d
  | _, _, 0, _, .cons a _, e => by simp at e; subst e; exact ⟨_, rfl, a⟩
  | _, _, i + 1, _, .cons _ r, e => by
    have := Reps.getV (i := i) r (by simpa using e)
    simpa using this
theorem Reps.take {h : Heap} {H : Addr → Prop} : ∀ {vs : List Value} {ds : List Dt} (n : Nat), Reps h H vs ds → Reps h H (vs.take n) (ds.take n)
  | _, _, 0, _ => by simpa using Reps.nil
  | _, _, _ + 1, .nil => .nil
  | _, _, n + 1, .cons a r => .cons a (Reps.take n r)
theorem Reps.drop {h : Heap} {H : Addr → Prop} : ∀ {vs : List Value} {ds : List Dt} (n : Nat), Reps h H vs ds → Reps h H (vs.drop n) (ds.drop n)
  | _, _, 0, r => r
  | _, _, _ + 1, .nil => .nil
  | _, _, n + 1, .cons _ r => Reps.drop n r

/-- what stands of the text: its objects, the two tables of names, no limit of the recursion set -/
structure Gr (w : Wd) (h : Heap) : Prop where
  fn : ∀ x d, defOf qv x = some (d, []) → FnAt h (w.bk x) d
  g : ∃ mg, h.Ns mainGlobals mg ∧ (∀ x, IsDef x → mg x = some (.ref (w.bk x))) ∧ ∀ x ∈ bltNames, mg x = Option.none
  b : ∃ mb, h.Ns builtinsNs mb ∧ ∀ x : Str, x ≠ "__name__" → mb x = bootBuiltins x
  lim : h.NoLimit
theorem Gr.keep {w : Wd} {h h' : Heap} (G : Gr w h) (k : Keep h h') : Gr w h' :=
  ⟨fun x d e => (G.fn x d e).keep k, let ⟨m, a, b⟩ := G.g; ⟨m, a.keeps k, b⟩, let ⟨m, a, b⟩ := G.b; ⟨m, a.keeps k, b⟩, G.lim.keeps k⟩

abbrev Ds := List (Str × Dt)
abbrev Own := List (Str × Addr × List Dt)
def Hid (H : Addr → Prop) (own : Own) : Addr → Prop := fun b => H b ∨ ∃ e ∈ own, e.2.1 = b

/-- what a frame's names hold -/
structure Rd (w : Wd) (H : Addr → Prop) (env : Env) (ρ κ : Ds) (own : Own) (h : Heap) : Prop where
  gr : Gr w h
  low : ∀ b, H b → ∃ o, h.get? b = some o
  loc : ∃ m, h.Ns env.locals m ∧ (∀ x d, ρ.lookup x = some d → ∃ v, m x = some v ∧ Rep h (Hid H own) v d) ∧ ∀ e ∈ own, m e.1 = some (.ref e.2.1)
  cel : ∀ x c, env.cells.lookup x = some c → ∃ o, h.IsCell c o ∧ ∀ d, κ.lookup x = some d → ∃ v, o = some v ∧ Rep h (Hid H own) v d
  has : ∀ e ∈ own, ∃ vs n, h.get? e.2.1 = some (seqObj "list" (List.toArray vs) n) ∧ Reps h (Hid H own) vs e.2.2

theorem Rd.keep {w : Wd} {H : Addr → Prop} {env : Env} {ρ κ : Ds} {own : Own} {h h' : Heap} (R : Rd w H env ρ κ own h) (k : Keep h h') : Rd w H env ρ κ own h' where
  gr := R.gr.keep k
  low := fun b hb => let ⟨o, e⟩ := R.low b hb; ⟨o, k b o e⟩
  loc := let ⟨m, a, b, c⟩ := R.loc; ⟨m, a.keeps k, fun x d e => let ⟨v, p, q⟩ := b x d e; ⟨v, p, q.keep k⟩, c⟩
  cel := fun x c e => let ⟨o, a, b⟩ := R.cel x c e; ⟨o, a.keeps k, fun d e => let ⟨v, p, q⟩ := b d e; ⟨v, p, q.keep k⟩⟩
  has := fun e he => let ⟨vs, n, a, b⟩ := R.has e he; ⟨vs, n, k _ _ a, b.keep k⟩

/-- the ground of a step on values: the text stands, what is hidden is there -/
structure Gd (w : Wd) (H : Addr → Prop) (h : Heap) : Prop where
  gr : Gr w h
  low : ∀ b, H b → ∃ o, h.get? b = some o
theorem Gd.keep {w : Wd} {H : Addr → Prop} {h h' : Heap} (G : Gd w H h) (k : Keep h h') : Gd w H h' :=
  ⟨G.gr.keep k, fun b hb => let ⟨o, e⟩ := G.low b hb; ⟨o, k b o e⟩⟩
theorem Gd.fresh {w : Wd} {H : Addr → Prop} {h : Heap} (G : Gd w H h) : ¬ H h.objs.size := fun e => by
  obtain ⟨o, ho⟩ := G.low _ e
  exact absurd (Heap.lt_size ho) (Nat.lt_irrefl _)
theorem Gd.notAt {w : Wd} {H : Addr → Prop} {h : Heap} (G : Gd w H h) {a : Addr} (e : h.get? a = none) : ¬ H a := fun ha => by
  obtain ⟨o, ho⟩ := G.low _ ha
  rw [e] at ho; cases ho
theorem Rd.gd {w : Wd} {H : Addr → Prop} {env : Env} {ρ κ : Ds} {own : Own} {h : Heap} (R : Rd w H env ρ κ own h) : Gd w (Hid H own) h :=
  ⟨R.gr, fun b hb => by
    rcases hb with hb | ⟨e, he, rfl⟩
    · exact R.low b hb
    · obtain ⟨_, _, a, _⟩ := R.has e he; exact ⟨_, a⟩⟩

structure Grow (s s' : Shared) : Prop where
  keep : Keep s.heap s'.heap
  gens : s'.gens = s.gens
  os : s'.os = s.os
theorem Grow.refl (s : Shared) : Grow s s := ⟨Keep.refl _, rfl, rfl⟩
theorem Grow.trans {s₁ s₂ s₃ : Shared} (a : Grow s₁ s₂) (b : Grow s₂ s₃) : Grow s₁ s₃ := ⟨a.keep.trans b.keep, b.gens.trans a.gens, b.os.trans a.os⟩
theorem Grow.toks {s : Shared} (t : Nat) : Grow s { s with toks := t } := ⟨Keep.refl _, rfl, rfl⟩

abbrev No : Value → Shared → Prop := fun _ _ => False

/-- room for n calls within one another -/
structure Room (A : Around) (n : Nat) : Prop where
  handled : A.handled = none
  depth : A.depth + n < recursionLimit
  units : A.units + 40 * n < cLine

section
variable (prog : Program) (w : Wd) (A : Around) (env : Env) (ρ κ : Ds) (own : Own)
def Ev (e : Expr) (d : Dt) : Prop :=
  ∀ H s, Rd w H env ρ κ own s.heap → wpAny (model prog w.wo) A (eval e env) (fun v s' => Grow s s' ∧ Rep s'.heap (Hid H own) v d) No s
def Tst (e : Expr) (b : Bool) : Prop :=
  ∀ H s, Rd w H env ρ κ own s.heap → wpAny (model prog w.wo) A (isTrue e env (eval e env)) (fun b' s' => Grow s s' ∧ b' = b) No s
/-- a step on values: whatever bears ds, gives something that bears d -/
def Op1 (t : Value → Sem Value) (d₁ d : Dt) : Prop :=
  ∀ H s v, Gd w H s.heap → Rep s.heap H v d₁ → wpAny (model prog w.wo) A (t v) (fun v s' => Grow s s' ∧ Rep s'.heap H v d) No s
def Op2 (t : Value → Value → Sem Value) (d₁ d₂ d : Dt) : Prop :=
  ∀ H s v u, Gd w H s.heap → Rep s.heap H v d₁ → Rep s.heap H u d₂ → wpAny (model prog w.wo) A (t v u) (fun v s' => Grow s s' ∧ Rep s'.heap H v d) No s
def OpN (t : List Value → Sem Value) (ds : List Dt) (d : Dt) : Prop :=
  ∀ H s vs, Gd w H s.heap → Reps s.heap H vs ds → wpAny (model prog w.wo) A (t vs) (fun v s' => Grow s s' ∧ Rep s'.heap H v d) No s
/-- the truth of what bears d -/
def Tr (d : Dt) (b : Bool) : Prop :=
  ∀ H s v, Gd w H s.heap → Rep s.heap H v d → wpAny (model prog w.wo) A (truthy v) (fun b' s' => Grow s s' ∧ b' = b) No s
end

end Mine
end

section
open PySem PySem.W PyProof.Rows PySem.Calls
set_option autoImplicit false
set_option linter.unusedVariables false
namespace Mine

section
variable {prog : Program} {w : Wd} {A : Around} {env : Env} {ρ κ : Ds} {own : Own}

theorem wpN {α : Type} {M : Model} {A : Around} {t : Sem α} {Q Q' : α → Shared → Prop} {s : Shared} (h : wpAny M A t Q No s) (hQ : ∀ a s', Q a s' → Q' a s') : wpAny M A t Q' No s :=
  wpAny_mono h hQ fun _ _ e => e

theorem Ev.loc {x : Str} {pos : Pos} {d : Dt} (hv : ρ.lookup x = some d) (hk : env.scope.kind = .function := by kernel_rfl!) (hl : env.kindOf x = some .local := by kernel_rfl!)
    (hd : (x == ("__debug__" : Str)) = false := by decide +kernel) : Ev prog w A env ρ κ own (.Name x pos) d := fun H s R => by
  obtain ⟨m, hn, hm, _⟩ := R.loc
  obtain ⟨v, hv, hr⟩ := hm x d hv
  exact wpAny_Name (wpAny_loadName_local hk hl hn hv ⟨.refl s, hr⟩) hd
theorem Ev.cell {x : Str} {pos : Pos} {d : Dt} (hv : κ.lookup x = some d) (c : Addr) (hc : env.cells.lookup x = some c) (hk : env.scope.kind = .function := by kernel_rfl!) (hl : env.kindOf x = some .cell := by kernel_rfl!)
    (hd : (x == ("__debug__" : Str)) = false := by decide +kernel) : Ev prog w A env ρ κ own (.Name x pos) d := fun H s R => by
  obtain ⟨o, ho, hm⟩ := R.cel x c hc
  obtain ⟨v, rfl, hr⟩ := hm d hv
  exact wpAny_Name (wpAny_loadName_cell hk hl hc ho ⟨.refl s, hr⟩) hd
theorem Ev.free {x : Str} {pos : Pos} {d : Dt} (hv : κ.lookup x = some d) (c : Addr) (hc : env.cells.lookup x = some c) (hk : env.scope.kind = .function := by kernel_rfl!) (hl : env.kindOf x = some .free := by kernel_rfl!)
    (hd : (x == ("__debug__" : Str)) = false := by decide +kernel) (hn : (x == ("__classdict__" : Str)) = false := by decide +kernel) : Ev prog w A env ρ κ own (.Name x pos) d := fun H s R => by
  obtain ⟨o, ho, hm⟩ := R.cel x c hc
  obtain ⟨v, rfl, hr⟩ := hm d hv
  exact wpAny_Name (wpAny_loadName_free hk hl hc ho ⟨.refl s, hr⟩ hn) hd

theorem Ev.int {i : Int} {k : Nat} {pos : Pos} : Ev prog w A env ρ κ own (.Constant (.int i) k pos) (.int i) := fun _ _ _ => wpAny_Constant_int ⟨.toks _, .int _ _⟩
theorem Ev.str {x : Str} {k : Nat} {pos : Pos} : Ev prog w A env ρ κ own (.Constant (.str x) k pos) (.str x) := fun _ _ _ => Constant_str ⟨.toks _, .str _ _⟩
theorem Ev.bool {b : Bool} {k : Nat} {pos : Pos} : Ev prog w A env ρ κ own (.Constant (.bool b) k pos) (.bool b) := fun _ s _ => Constant_bool ⟨.refl s, .bool _⟩
theorem Ev.none {k : Nat} {pos : Pos} : Ev prog w A env ρ κ own (.Constant .none k pos) .none := fun _ s _ => Constant_none ⟨.refl s, .none⟩

theorem Ev.bin {l r : Expr} {op : Operator} {pos : Pos} {d₁ d₂ d : Dt} (h₁ : Ev prog w A env ρ κ own l d₁) (h₂ : Ev prog w A env ρ κ own r d₂) (ho : Op2 prog w A (binaryOp op) d₁ d₂ d) :
    Ev prog w A env ρ κ own (.BinOp l op r pos) d := fun H s R =>
  wpAny_BinOp (wpN (h₁ H s R) fun v s₁ ⟨g₁, r₁⟩ => wpN (h₂ H s₁ (R.keep g₁.keep)) fun u s₂ ⟨g₂, r₂⟩ =>
    wpN (ho _ s₂ v u ((R.keep g₁.keep).keep g₂.keep).gd (r₁.keep g₂.keep) r₂) fun _ s₃ ⟨g₃, r₃⟩ => ⟨(g₁.trans g₂).trans g₃, r₃⟩)
theorem Ev.un {x : Expr} {op : UnaryOp} {pos : Pos} {d₁ d : Dt} (h₁ : Ev prog w A env ρ κ own x d₁) (ho : Op1 prog w A (unaryOp op) d₁ d) :
    Ev prog w A env ρ κ own (.UnaryOp op x pos) d := fun H s R =>
  UnaryOp_ (wpN (h₁ H s R) fun v s₁ ⟨g₁, r₁⟩ => wpN (ho _ s₁ v (R.keep g₁.keep).gd r₁) fun _ s₃ ⟨g₃, r₃⟩ => ⟨g₁.trans g₃, r₃⟩)
theorem Ev.cmp {l r : Expr} {op : CmpOp} {pos : Pos} {d₁ d₂ d : Dt} (h₁ : Ev prog w A env ρ κ own l d₁) (h₂ : Ev prog w A env ρ κ own r d₂) (ho : Op2 prog w A (compareOp op) d₁ d₂ d)
    (hm : behindInMarks op r = false := by with_unfolding_all rfl) : Ev prog w A env ρ κ own (.Compare l [op] [r] pos) d := fun H s R =>
  wpAny_Compare1 (wpN (h₁ H s R) fun v s₁ ⟨g₁, r₁⟩ => wpN (h₂ H s₁ (R.keep g₁.keep)) fun u s₂ ⟨g₂, r₂⟩ =>
    wpN (ho _ s₂ v u ((R.keep g₁.keep).keep g₂.keep).gd (r₁.keep g₂.keep) r₂) fun _ s₃ ⟨g₃, r₃⟩ => ⟨(g₁.trans g₂).trans g₃, r₃⟩) hm
theorem Tst.cmp {l r : Expr} {op : CmpOp} {pos : Pos} {d₁ d₂ : Dt} {b : Bool} (h₁ : Ev prog w A env ρ κ own l d₁) (h₂ : Ev prog w A env ρ κ own r d₂) (ho : Op2 prog w A (compareOp op) d₁ d₂ (.bool b))
    (hm : behindInMarks op r = false := by with_unfolding_all rfl) : Tst prog w A env ρ κ own (.Compare l [op] [r] pos) b := fun H s R =>
  wpAny_isTrue_Compare1 (wpN (h₁ H s R) fun v s₁ ⟨g₁, r₁⟩ => wpN (h₂ H s₁ (R.keep g₁.keep)) fun u s₂ ⟨g₂, r₂⟩ =>
    wpN (ho _ s₂ v u ((R.keep g₁.keep).keep g₂.keep).gd (r₁.keep g₂.keep) r₂) fun c s₃ ⟨g₃, r₃⟩ => by
      cases r₃; exact wpAny_truthy_bool ⟨(g₁.trans g₂).trans g₃, rfl⟩) hm
theorem Tst.not {x : Expr} {pos : Pos} {b : Bool} (h : Tst prog w A env ρ κ own x b) : Tst prog w A env ρ κ own (.UnaryOp .Not x pos) (!b) := fun H s R =>
  isTrue_not (wpN (h H s R) fun c s₁ ⟨g, e⟩ => ⟨g, by rw [e]⟩)
theorem Tst.plain {e : Expr} {d : Dt} {b : Bool} (h : Ev prog w A env ρ κ own e d) (ht : Tr prog w A d b)
    (he : ∀ whole, isTrue e env whole = (do let v ← whole; standAt e.pos; holding [v] (truthy v)) := by intro _; rfl) : Tst prog w A env ρ κ own e b := fun H s R =>
  isTrue_plain (wpN (h H s R) fun v s₁ ⟨g, r⟩ => wpN (ht _ s₁ v (R.keep g.keep).gd r) fun _ s₂ ⟨g₂, e₂⟩ => ⟨g.trans g₂, e₂⟩) (he _)
theorem Tst.and_nil {pos : Pos} : Tst prog w A env ρ κ own (.BoolOp .And [] pos) true := fun _ s _ => isTrue_and_nil ⟨.refl s, rfl⟩
theorem Tst.or_nil {pos : Pos} : Tst prog w A env ρ κ own (.BoolOp .Or [] pos) false := fun _ s _ => isTrue_or_nil ⟨.refl s, rfl⟩
theorem Tst.and_cons {x : Expr} {rest : List Expr} {pos : Pos} {b c : Bool} (h : Tst prog w A env ρ κ own x b) (hr : b = true → Tst prog w A env ρ κ own (.BoolOp .And rest pos) c) :
    Tst prog w A env ρ κ own (.BoolOp .And (x :: rest) pos) (b && c) := fun H s R =>
  isTrue_and (wpN (h H s R) fun b' s₁ ⟨g, e⟩ => by
    subst e
    cases b' with
    | false => exact ⟨g, rfl⟩
    | true => exact wpN (hr rfl H s₁ (R.keep g.keep)) fun _ s₂ ⟨g₂, e₂⟩ => ⟨g.trans g₂, e₂⟩)
theorem Tst.or_cons {x : Expr} {rest : List Expr} {pos : Pos} {b c : Bool} (h : Tst prog w A env ρ κ own x b) (hr : b = false → Tst prog w A env ρ κ own (.BoolOp .Or rest pos) c) :
    Tst prog w A env ρ κ own (.BoolOp .Or (x :: rest) pos) (b || c) := fun H s R =>
  isTrue_or (wpN (h H s R) fun b' s₁ ⟨g, e⟩ => by
    subst e
    cases b' with
    | true => exact ⟨g, rfl⟩
    | false => exact wpN (hr rfl H s₁ (R.keep g.keep)) fun _ s₂ ⟨g₂, e₂⟩ => ⟨g.trans g₂, e₂⟩)
theorem Ev.ifx {t x y : Expr} {pos : Pos} {b : Bool} {d : Dt} (h : Tst prog w A env ρ κ own t b) (h₁ : b = true → Ev prog w A env ρ κ own x d) (h₂ : b = false → Ev prog w A env ρ κ own y d) :
    Ev prog w A env ρ κ own (.IfExp t x y pos) d := fun H s R =>
  IfExp_ (wpN (h H s R) fun b' s₁ ⟨g, e⟩ => by
    subst e
    cases b' with
    | true => exact wpN (h₁ rfl H s₁ (R.keep g.keep)) fun _ s₂ ⟨g₂, e₂⟩ => ⟨g.trans g₂, e₂⟩
    | false => exact wpN (h₂ rfl H s₁ (R.keep g.keep)) fun _ s₂ ⟨g₂, e₂⟩ => ⟨g.trans g₂, e₂⟩)
/-- x and y, a value -/
theorem Ev.and2 {x y : Expr} {pos : Pos} {d₁ d : Dt} {b : Bool} (h : Ev prog w A env ρ κ own x d₁) (ht : Tr prog w A d₁ b) (h₁ : b = true → Ev prog w A env ρ κ own y d) (h₂ : b = false → d = d₁) :
    Ev prog w A env ρ κ own (.BoolOp .And [x, y] pos) d := fun H s R =>
  BoolOp_and (wpN (h H s R) fun v s₁ ⟨g, r⟩ => wpN (ht _ s₁ v (R.keep g.keep).gd r) fun b' s₂ ⟨g₂, e₂⟩ => by
    subst e₂
    cases b' with
    | true => exact BoolOp_one (wpN (h₁ rfl H s₂ ((R.keep g.keep).keep g₂.keep)) fun _ s₃ ⟨g₃, e₃⟩ => ⟨(g.trans g₂).trans g₃, e₃⟩)
    | false => exact ⟨g.trans g₂, h₂ rfl ▸ r.keep g₂.keep⟩)
theorem Ev.or2 {x y : Expr} {pos : Pos} {d₁ d : Dt} {b : Bool} (h : Ev prog w A env ρ κ own x d₁) (ht : Tr prog w A d₁ b) (h₁ : b = false → Ev prog w A env ρ κ own y d) (h₂ : b = true → d = d₁) :
    Ev prog w A env ρ κ own (.BoolOp .Or [x, y] pos) d := fun H s R =>
  BoolOp_or (wpN (h H s R) fun v s₁ ⟨g, r⟩ => wpN (ht _ s₁ v (R.keep g.keep).gd r) fun b' s₂ ⟨g₂, e₂⟩ => by
    subst e₂
    cases b' with
    | false => exact BoolOp_one (wpN (h₁ rfl H s₂ ((R.keep g.keep).keep g₂.keep)) fun _ s₃ ⟨g₃, e₃⟩ => ⟨(g.trans g₂).trans g₃, e₃⟩)
    | true => exact ⟨g.trans g₂, h₂ rfl ▸ r.keep g₂.keep⟩)

/-- a row of plain (not starred) expressions -/
def plainE : Expr → Bool
  | .Starred .. => false
  | _ => true
theorem starEach_plain {e : Expr} {r : List Expr} {env : Env} (h : plainE e = true) : starEach (e :: r) env = (false, eval e env) :: starEach r env := by
  cases e <;> first | rfl | cases h
variable (prog w A env ρ κ own) in
inductive Evs : List Expr → List Dt → Prop
  | nil : Evs [] []
  | cons {e : Expr} {r : List Expr} {d : Dt} {ds : List Dt} : Ev prog w A env ρ κ own e d → Evs r ds → plainE e = true → Evs (e :: r) (d :: ds)
theorem Evs.one {e : Expr} {d : Dt} (h : Ev prog w A env ρ κ own e d) (hp : plainE e = true := by rfl) : Evs prog w A env ρ κ own [e] [d] := .cons h .nil hp
theorem Evs.two {e₁ e₂ : Expr} {d₁ d₂ : Dt} (h₁ : Ev prog w A env ρ κ own e₁ d₁) (h₂ : Ev prog w A env ρ κ own e₂ d₂) (hp₁ : plainE e₁ = true := by rfl) (hp₂ : plainE e₂ = true := by rfl) : Evs prog w A env ρ κ own [e₁, e₂] [d₁, d₂] :=
  .cons h₁ (.cons h₂ .nil hp₂) hp₁
theorem Evs.three {e₁ e₂ e₃ : Expr} {d₁ d₂ d₃ : Dt} (h₁ : Ev prog w A env ρ κ own e₁ d₁) (h₂ : Ev prog w A env ρ κ own e₂ d₂) (h₃ : Ev prog w A env ρ κ own e₃ d₃) (hp₁ : plainE e₁ = true := by rfl) (hp₂ : plainE e₂ = true := by rfl)
    (hp₃ : plainE e₃ = true := by rfl) : Evs prog w A env ρ κ own [e₁, e₂, e₃] [d₁, d₂, d₃] := .cons h₁ (.cons h₂ (.cons h₃ .nil hp₃) hp₂) hp₁
theorem Evs.strs : ∀ {es : List Expr} {xs : List Str}, es.map (fun e => match e with | .Constant (.str x) _ _ => some x | _ => none) = xs.map some → Evs prog w A env ρ κ own es (xs.map .str)
  | [], [], _ => .nil
  | .Constant (.str x) _ _ :: es, y :: xs, h => by
    simp only [List.map_cons, List.cons.injEq, Option.some.injEq] at h
    obtain ⟨rfl, h⟩ := h
    exact .cons .str (Evs.strs h) rfl
  | [], _ :: _, h => by simp at h
  | e :: es, [], h => by simp at h
  | e :: es, y :: xs, h => by
    simp only [List.map_cons, List.cons.injEq] at h
    obtain ⟨h₁, h₂⟩ := h
    split at h₁
    · cases h₁; exact .cons .str (Evs.strs h₂) rfl
    · cases h₁
theorem Evs.any {es : List Expr} {ds : List Dt} {pos : Pos} (h : Evs prog w A env ρ κ own es ds) : (backTo pos (starEach es env)).any (·.1) = false := by
  induction h with
  | nil => rfl
  | cons _ _ hp ih => rw [starEach_plain hp]; exact ih
theorem Evs.spl {es : List Expr} {ds : List Dt} {pos : Pos} (h : Evs prog w A env ρ κ own es ds) : ∀ H s, Rd w H env ρ κ own s.heap →
    wpAny (model prog w.wo) A (spliced (backTo pos (starEach es env))) (fun vs s' => Grow s s' ∧ Reps s'.heap (Hid H own) vs ds) No s := by
  induction h with
  | nil => exact fun H s R => args_nil ⟨.refl s, .nil⟩
  | cons h₁ _ hp ih => exact fun H s R => args_cons (wpN (h₁ H s R) fun v s₁ ⟨g₁, r₁⟩ => wpN (ih H s₁ (R.keep g₁.keep)) fun vs s₂ ⟨g₂, r₂⟩ => ⟨g₁.trans g₂, .cons (r₁.keep g₂.keep) r₂⟩) (starEach_plain hp)
theorem Evs.args {f : Value} {es : List Expr} {ds : List Dt} {pos : Pos} (h : Evs prog w A env ρ κ own es ds) : ∀ H s, Rd w H env ρ κ own s.heap →
    wpAny (model prog w.wo) A (evalArgs f true (backTo pos (starEach es env)) []) (fun a s' => a.kw = [] ∧ Grow s s' ∧ Reps s'.heap (Hid H own) a.pos ds) No s := by
  intro H s R
  cases h with
  | nil => exact evalArgs_nil3 ⟨rfl, .refl s, .nil⟩
  | cons h₁ h₂ hp =>
    have := Evs.spl (pos := pos) (.cons h₁ h₂ hp) H s R
    rw [starEach_plain hp] at this ⊢
    exact evalArgs_plain (wpN this fun vs s' ⟨g, r⟩ => ⟨rfl, g, r⟩)

theorem Grow.alloc (s : Shared) (o : Obj) : Grow s { s with heap := s.heap.push o } := ⟨Keep.push _ _, rfl, rfl⟩
theorem newList_rep {s : Shared} {H : Addr → Prop} {vs : List Value} {ds : List Dt} (G : Gd w H s.heap) (r : Reps s.heap H vs ds) (hz : ds.length ≤ sizeLine) :
    wpAny (model prog w.wo) A (newList vs) (fun v s' => Grow s s' ∧ Rep s'.heap H v (.list ds)) No s :=
  wpAny_newObj_type ⟨.alloc s _, .list ⟨_, Heap.get?_push_size _ rfl, rfl, 0, rfl⟩ G.fresh (r.keep (Keep.push _ _))⟩ (by show vs.toArray.size ≤ sizeLine; rw [List.size_toArray, r.length]; exact hz)
theorem newTuple_rep {s : Shared} {H : Addr → Prop} {vs : List Value} {ds : List Dt} (G : Gd w H s.heap) (r : Reps s.heap H vs ds) (hz : ds.length ≤ sizeLine) :
    wpAny (model prog w.wo) A (newTuple vs) (fun v s' => Grow s s' ∧ Rep s'.heap H v (.tuple ds)) No s :=
  wpAny_newObj_type ⟨.alloc s _, .tuple ⟨_, Heap.get?_push_size _ rfl, rfl, 0, rfl⟩ G.fresh (r.keep (Keep.push _ _))⟩ (by show vs.toArray.size ≤ sizeLine; rw [List.size_toArray, r.length]; exact hz)
theorem Ev.list {es : List Expr} {pos : Pos} {ds : List Dt} (h : Evs prog w A env ρ κ own es ds) (hz : ds.length ≤ sizeLine := by exact Nat.le_of_ble_eq_true rfl) : Ev prog w A env ρ κ own (.List es pos) (.list ds) := fun H s R =>
  List_ (wpN (h.spl H s R) fun vs s₁ ⟨g, r⟩ => wpN (newList_rep (R.keep g.keep).gd r hz) fun v s₂ ⟨g₂, r₂⟩ => ⟨g.trans g₂, r₂⟩)
theorem Ev.tuple {es : List Expr} {k : Nat} {pos : Pos} {ds : List Dt} (h : Evs prog w A env ρ κ own es ds) (hz : ds.length ≤ sizeLine := by exact Nat.le_of_ble_eq_true rfl) : Ev prog w A env ρ κ own (.Tuple es k pos) (.tuple ds) := fun H s R =>
  Tuple_ (wpN (h.spl H s R) fun vs s₁ ⟨g, r⟩ => wpN (newTuple_rep (R.keep g.keep).gd r hz) fun v s₂ ⟨g₂, r₂⟩ => ⟨g.trans g₂, r₂⟩)

/-- value[slice], the place no slice -/
theorem Ev.sub {x i : Expr} {pos : Pos} {d₁ d₂ d : Dt} (h₁ : Ev prog w A env ρ κ own x d₁) (h₂ : Ev prog w A env ρ κ own i d₂) (ho : Op2 prog w A (subscriptTail x i) d₁ d₂ d) :
    Ev prog w A env ρ κ own (.Subscript x i pos) d := fun H s R =>
  Subscript_ (wpN (h₁ H s R) fun v s₁ ⟨g₁, r₁⟩ => wpN (h₂ H s₁ (R.keep g₁.keep)) fun u s₂ ⟨g₂, r₂⟩ =>
    wpN (ho _ s₂ v u ((R.keep g₁.keep).keep g₂.keep).gd (r₁.keep g₂.keep) r₂) fun _ s₃ ⟨g₃, r₃⟩ => ⟨(g₁.trans g₂).trans g₃, r₃⟩)

/-- a name of the text's top -/
theorem nameG {x : Str} {pos : Pos} {Q : Value → Shared → Prop} {s : Shared} (G : Gr w s.heap) (e : IsDef x) (h : Q (.ref (w.bk x)) s)
    (hg : env.globals = mainGlobals := by kernel_rfl!) (hk : env.scope.kind = .function := by kernel_rfl!) (hx : env.kindOf x = some .globalImplicit := by kernel_rfl!) (hd : (x == ("__debug__" : Str)) = false := by decide +kernel) :
    wpAny (model prog w.wo) A (eval (.Name x pos) env) Q No s := by
  obtain ⟨mg, g, gd, _⟩ := G.g
  exact Name_function_global hk hx (loadGlobal_global (env := env) (hg ▸ g) (gd x e) h) hd
theorem nameB {x : Str} {pos : Pos} {v : Value} {Q : Value → Shared → Prop} {s : Shared} (G : Gr w s.heap) (e : x ∈ bltNames) (hv : bootBuiltins x = some v) (hn : x ≠ "__name__") (h : Q v s)
    (hg : env.globals = mainGlobals := by kernel_rfl!) (hb : env.builtins = builtinsNs := by kernel_rfl!) (hk : env.scope.kind = .function := by kernel_rfl!) (hx : env.kindOf x = some .globalImplicit := by kernel_rfl!) (hd : (x == ("__debug__" : Str)) = false := by decide +kernel) :
    wpAny (model prog w.wo) A (eval (.Name x pos) env) Q No s := by
  obtain ⟨mg, g, _, gn⟩ := G.g
  obtain ⟨mb, b, hbb⟩ := G.b
  exact Name_function_global hk hx (loadGlobal_builtin (env := env) (hg ▸ g) (gn x e) (hb ▸ b) ((hbb x hn).trans hv) h) hd

/-- a call by a name of the text's top: its contract -/
theorem Ev.callG {x : Str} {np pos : Pos} {es : List Expr} {ds : List Dt} {d : Dt} (h : Evs prog w A env ρ κ own es ds) (hf : OpN prog w A (fun vs => call (.ref (w.bk x)) vs) ds d)
    (e : IsDef x) (hk : IsDef x)
    (hg : env.globals = mainGlobals := by kernel_rfl!) (hkf : env.scope.kind = .function := by kernel_rfl!) (hx : env.kindOf x = some .globalImplicit := by kernel_rfl!) (hd : (x == ("__debug__" : Str)) = false := by decide +kernel) :
    Ev prog w A env ρ κ own (.Call (.Name x np) es [] pos) d := fun H s R =>
  Call_ (nameG R.gr e (callWith_of (P := fun h => Gr w h) (by rw [h.any]; rfl) (fun h G => let ⟨d, hd⟩ := hk; (G.fn x d hd).looks) (wpN (h.args H s R) fun a s₁ ⟨ek, g, r⟩ => ⟨(R.keep g.keep).gr, by
    rw [ek]
    exact wpN (hf _ s₁ _ (R.keep g.keep).gd r) fun v s₂ ⟨g₂, r₂⟩ => ⟨g.trans g₂, r₂⟩⟩)) hg hkf hx hd) rfl
/-- a call of a built-in function by its name -/
theorem Ev.callB {x : Str} {np pos : Pos} {id : String} {es : List Expr} {ds : List Dt} {d : Dt} (h : Evs prog w A env ρ κ own es ds) (hf : OpN prog w A (fun vs => call (.builtin id) vs) ds d)
    (e : x ∈ bltNames) (hv : bootBuiltins x = some (.builtin id)) (hn : x ≠ "__name__")
    (hg : env.globals = mainGlobals := by kernel_rfl!) (hb : env.builtins = builtinsNs := by kernel_rfl!) (hkf : env.scope.kind = .function := by kernel_rfl!) (hx : env.kindOf x = some .globalImplicit := by kernel_rfl!) (hd : (x == ("__debug__" : Str)) = false := by decide +kernel) :
    Ev prog w A env ρ κ own (.Call (.Name x np) es [] pos) d := fun H s R =>
  Call_ (nameB R.gr e hv hn (callWith_builtin h.any (wpN (h.args H s R) fun a s₁ ⟨ek, g, r⟩ => by
    rw [ek]
    exact wpN (hf _ s₁ _ (R.keep g.keep).gd r) fun v s₂ ⟨g₂, r₂⟩ => ⟨g.trans g₂, r₂⟩)) hg hb hkf hx hd) rfl
end

end Mine
end

section
open PySem PySem.W PyProof.Rows PySem.Calls
set_option autoImplicit false
set_option linter.unusedVariables false
namespace Mine

/-- a frame that may be written: what it holds; the heap h₀ stands. fr: the names whose cells are its own -/
structure Wr (w : Wd) (h₀ : Heap) (H : Addr → Prop) (env : Env) (fr : Str → Bool) (ρ κ : Ds) (own : Own) (h : Heap) : Prop where
  rd : Rd w H env ρ κ own h
  gr₀ : Gr w h₀
  keep : Keep h₀ h
  newL : h₀.get? env.locals = none
  newC : ∀ x c, env.cells.lookup x = some c → c ≠ env.locals ∧ (fr x = true → h₀.get? c = none)
  apart : ∀ x y c, fr x = true → env.cells.lookup x = some c → env.cells.lookup y = some c → x = y
  newO : ∀ e ∈ own, h₀.get? e.2.1 = none
  apartO : own.Pairwise fun x y => x.2.1 ≠ y.2.1
  lowO : ∀ e ∈ own, ¬ H e.2.1

theorem Wr.grow {w : Wd} {h₀ : Heap} {H : Addr → Prop} {env : Env} {fr : Str → Bool} {ρ κ : Ds} {own : Own} {h h' : Heap} (W : Wr w h₀ H env fr ρ κ own h) (k : Keep h h') : Wr w h₀ H env fr ρ κ own h' :=
  ⟨W.rd.keep k, W.gr₀, W.keep.trans k, W.newL, W.newC, W.apart, W.newO, W.apartO, W.lowO⟩

abbrev allF : Str → Bool := fun _ => true

inductive Out where
  | next (ρ κ : Ds) (own : Own)
  | brk (ρ κ : Ds) (own : Own)
  | cont (ρ κ : Ds) (own : Own)
  | ret (d : Dt)

def OutOk (w : Wd) (h₀ : Heap) (H : Addr → Prop) (env : Env) : Flow → Heap → Out → Prop
  | .next, h, .next ρ κ own => Wr w h₀ H env allF ρ κ own h
  | .brk, h, .brk ρ κ own => Wr w h₀ H env allF ρ κ own h
  | .cont, h, .cont ρ κ own => Wr w h₀ H env allF ρ κ own h
  | .ret v, h, .ret d => Keep h₀ h ∧ Rep h H v d
  | _, _, _ => False

section
variable (prog : Program) (w : Wd) (A : Around) (env : Env) (ρ κ : Ds) (own : Own)
def Exs (ss : List Stmt) (O : Out → Prop) : Prop :=
  ∀ h₀ H s, Wr w h₀ H env allF ρ κ own s.heap → wpAny (model prog w.wo) A (execs ss env) (fun f s' => s'.gens = s.gens ∧ s'.os = s.os ∧ ∃ o, O o ∧ OutOk w h₀ H env f s'.heap o) No s
def Ex (st : Stmt) (O : Out → Prop) : Prop :=
  ∀ h₀ H s, Wr w h₀ H env allF ρ κ own s.heap → wpAny (model prog w.wo) A (exec st env) (fun f s' => s'.gens = s.gens ∧ s'.os = s.os ∧ ∃ o, O o ∧ OutOk w h₀ H env f s'.heap o) No s
end
/-- what comes behind a block: the rest, where the block ends plainly -/
def After (prog : Program) (w : Wd) (A : Around) (env : Env) (rest : List Stmt) (O : Out → Prop) : Out → Prop
  | .next ρ κ own => Exs prog w A env ρ κ own rest O
  | o => O o

section
variable {prog : Program} {w : Wd} {A : Around} {env : Env} {fr : Str → Bool} {ρ κ : Ds} {own : Own} {O : Out → Prop}

theorem Exs.nil (h : O (.next ρ κ own)) : Exs prog w A env ρ κ own [] O := fun h₀ H s W => wpAny_execs_nil ⟨rfl, rfl, _, h, W⟩
theorem Exs.mono {ss : List Stmt} {O' : Out → Prop} (h : Exs prog w A env ρ κ own ss O) (k : ∀ o, O o → O' o) : Exs prog w A env ρ κ own ss O' := fun h₀ H s W =>
  wpN (h h₀ H s W) fun f s' ⟨a, b, o, c, e⟩ => ⟨a, b, o, k o c, e⟩
theorem Exs.cons {st : Stmt} {rest : List Stmt} (h : Ex prog w A env ρ κ own st (After prog w A env rest O)) : Exs prog w A env ρ κ own (st :: rest) O := fun h₀ H s W =>
  wpAny_execs_cons (wpN (h h₀ H s W) fun f s' ⟨a, b, o, c, e⟩ => by
    cases f with
    | next => cases o with
      | next ρ' κ' own' => exact wpN (c h₀ H s' e) fun f s'' ⟨a', b', r⟩ => ⟨a'.trans a, b'.trans b, r⟩
      | brk | cont | ret => exact e.elim
    | brk => cases o with
      | brk ρ' κ' own' => exact ⟨a, b, _, c, e⟩
      | next | cont | ret => exact e.elim
    | cont => cases o with
      | cont ρ' κ' own' => exact ⟨a, b, _, c, e⟩
      | next | brk | ret => exact e.elim
    | ret v => cases o with
      | ret d => exact ⟨a, b, _, c, e⟩
      | next | brk | cont => exact e.elim)
theorem Exs.ret {e : Expr} {pos : Pos} {rest : List Stmt} {d : Dt} (h : Ev prog w A env ρ κ own e d) (ho : O (.ret d)) : Exs prog w A env ρ κ own (.Return (some e) pos :: rest) O :=
  .cons fun h₀ H s W => wpAny_Return_some (wpN (h H s W.rd) fun v s' ⟨g, r⟩ => ⟨g.gens, g.os, .ret d, ho, W.keep.trans g.keep, r.hide fun b hb => .inl (.inl hb)⟩)
theorem Exs.brk {pos : Pos} {rest : List Stmt} (ho : O (.brk ρ κ own)) : Exs prog w A env ρ κ own (.Break pos :: rest) O :=
  .cons fun h₀ H s W => wpAny_Break ⟨rfl, rfl, .brk ρ κ own, ho, W⟩
theorem Exs.cont {pos : Pos} {rest : List Stmt} (ho : O (.cont ρ κ own)) : Exs prog w A env ρ κ own (.Continue pos :: rest) O :=
  .cons fun h₀ H s W => wpAny_Continue ⟨rfl, rfl, .cont ρ κ own, ho, W⟩
theorem Exs.iff {t : Expr} {body orelse rest : List Stmt} {pos : Pos} {b : Bool} (h : Tst prog w A env ρ κ own t b) (h₁ : b = true → Exs prog w A env ρ κ own body (After prog w A env rest O))
    (h₂ : b = false → Exs prog w A env ρ κ own orelse (After prog w A env rest O)) : Exs prog w A env ρ κ own (.If t body orelse pos :: rest) O :=
  .cons fun h₀ H s W => wpAny_If (wpN (h H s W.rd) fun b' s₁ ⟨g, e⟩ => by
    subst e
    cases b' with
    | true => exact wpN (h₁ rfl h₀ H s₁ (W.grow g.keep)) fun f s₂ ⟨a, b, r⟩ => ⟨a.trans g.gens, b.trans g.os, r⟩
    | false => exact wpN (h₂ rfl h₀ H s₁ (W.grow g.keep)) fun f s₂ ⟨a, b, r⟩ => ⟨a.trans g.gens, b.trans g.os, r⟩)
/-- behind a block that falls through -/
theorem Exs.fall {rest : List Stmt} (h : Exs prog w A env ρ κ own rest O) : Exs prog w A env ρ κ own [] (After prog w A env rest O) := .nil h

theorem lookup_cons_same {x y : Str} {d e : Dt} {ρ : Ds} : List.lookup y ((x, d) :: ρ) = some e → (y = x ∧ e = d) ∨ (y ≠ x ∧ ρ.lookup y = some e) := by
  intro h
  rw [List.lookup_cons] at h
  by_cases q : y = x
  · subst q; simp at h; exact .inl ⟨rfl, h.symm⟩
  · have : (y == x) = false := by simpa using q
    rw [this] at h; exact .inr ⟨q, h⟩

/-- the frame behind a store into a local name -/
theorem Wr.setL {h₀ h h' : Heap} {H : Addr → Prop} {x : Str} {v : Value} {d : Dt} {m : Str → Option Value} (W : Wr w h₀ H env fr ρ κ own h) (hx : (own.any fun e => e.1 == x) = false)
    (r : Rep h (Hid H own) v d) (hn : h.Ns env.locals m) (hn' : h'.Ns env.locals (fun y => if y = x then some v else m y)) (sb : Heap.SameBut env.locals h h') : Wr w h₀ H env fr ((x, d) :: ρ) κ own h' := by
  have ns := NotSeq.ns hn
  have k₀ : Keep h₀ h' := fun b o e => (sb.2 b (fun q => by rw [q, W.newL] at e; cases e)).trans (W.keep b o e)
  obtain ⟨m', p, q, o⟩ := W.rd.loc
  have em : m' = m := by
    obtain ⟨o1, es1, ep1, ho1, hd1, _, hf1⟩ := p
    obtain ⟨o2, es2, ep2, ho2, hd2, _, hf2⟩ := hn
    rw [ho1] at ho2; cases ho2; rw [hd1] at hd2; cases hd2
    funext y; rw [← hf1 y, ← hf2 y]
  subst em
  refine ⟨⟨W.gr₀.keep k₀, fun b hb => ?_, ⟨_, hn', fun y e hy => ?_, fun e he => ?_⟩, fun y c e => ?_, fun e he => ?_⟩, W.gr₀, k₀, W.newL, W.newC, W.apart, W.newO, W.apartO, W.lowO⟩
  · by_cases q : b = env.locals
    · subst q; obtain ⟨o, _, _, ho, _⟩ := hn'; exact ⟨o, ho⟩
    · obtain ⟨o, e⟩ := W.rd.low b hb; exact ⟨o, (sb.2 b q).trans e⟩
  · rcases lookup_cons_same hy with ⟨rfl, rfl⟩ | ⟨hne, hy⟩
    · exact ⟨v, if_pos rfl, r.same sb (.inr ns)⟩
    · obtain ⟨u, a, b⟩ := q y e hy
      exact ⟨u, (if_neg hne).trans a, b.same sb (.inr ns)⟩
  · have hne : e.1 ≠ x := fun q => by
      have : (own.any fun e => e.1 == x) = true := List.any_eq_true.mpr ⟨e, he, by simpa using q⟩
      rw [hx] at this; cases this
    exact (if_neg hne).trans (o e he)
  · obtain ⟨z, a, b⟩ := W.rd.cel y c e
    exact ⟨z, a.sameBut sb (W.newC y c e).1, fun d e => let ⟨v, i, j⟩ := b d e; ⟨v, i, j.same sb (.inr ns)⟩⟩
  · obtain ⟨vs, n, a, b⟩ := W.rd.has e he
    exact ⟨vs, n, (sb.2 _ fun z => by rw [z] at a; exact ns _ a _ _ rfl).trans a, b.same sb (.inr ns)⟩
/-- the frame behind a store into a cell -/
theorem Wr.setC {h₀ h h' : Heap} {H : Addr → Prop} {x : Str} {c : Addr} {v : Value} {v₀ : Option Value} {d : Dt} (W : Wr w h₀ H env fr ρ κ own h) (hc : env.cells.lookup x = some c) (hfr : fr x = true)
    (r : Rep h (Hid H own) v d) (hn : h.IsCell c v₀) (hn' : h'.IsCell c (some v)) (sb : Heap.SameBut c h h') : Wr w h₀ H env fr ρ ((x, d) :: κ) own h' := by
  have ns := NotSeq.cell hn
  have k₀ : Keep h₀ h' := fun b o e => (sb.2 b (fun q => by rw [q, (W.newC x c hc).2 hfr] at e; cases e)).trans (W.keep b o e)
  obtain ⟨m', p, q, o⟩ := W.rd.loc
  refine ⟨⟨W.gr₀.keep k₀, fun b hb => ?_, ⟨m', p.sameBut sb (W.newC x c hc).1.symm, fun y e hy => ?_, o⟩, fun y c' e => ?_, fun e he => ?_⟩, W.gr₀, k₀, W.newL, W.newC, W.apart, W.newO, W.apartO, W.lowO⟩
  · by_cases q : b = c
    · subst q; obtain ⟨o, ho, _⟩ := hn'; exact ⟨o, ho⟩
    · obtain ⟨o, e⟩ := W.rd.low b hb; exact ⟨o, (sb.2 b q).trans e⟩
  · obtain ⟨u, a, b⟩ := q y e hy
    exact ⟨u, a, b.same sb (.inr ns)⟩
  · by_cases hy : y = x
    · subst hy
      rw [hc] at e; cases e
      refine ⟨some v, hn', fun d' e' => ?_⟩
      rcases lookup_cons_same e' with ⟨_, rfl⟩ | ⟨hne, _⟩
      · exact ⟨v, rfl, r.same sb (.inr ns)⟩
      · exact absurd rfl hne
    · obtain ⟨z, a, b⟩ := W.rd.cel y c' e
      refine ⟨z, a.sameBut sb fun q => hy (W.apart x y c hfr hc (q ▸ e)).symm, fun d' e' => ?_⟩
      rcases lookup_cons_same e' with ⟨h1, _⟩ | ⟨_, e'⟩
      · exact absurd h1 hy
      · obtain ⟨u, i, j⟩ := b d' e'; exact ⟨u, i, j.same sb (.inr ns)⟩
  · obtain ⟨vs, n, a, b⟩ := W.rd.has e he
    exact ⟨vs, n, (sb.2 _ fun z => by rw [z] at a; exact ns _ a _ _ rfl).trans a, b.same sb (.inr ns)⟩

/-- a store into a name -/
theorem Wr.storeL {h₀ : Heap} {H : Addr → Prop} {s : Shared} {x : Str} {v : Value} {d : Dt} (W : Wr w h₀ H env fr ρ κ own s.heap) (r : Rep s.heap (Hid H own) v d)
    (hk : env.scope.kind = .function) (hl : env.kindOf x = some .local) (hx : (own.any fun e => e.1 == x) = false) :
    wpAny (model prog w.wo) A (storeName env x v) (fun _ s' => s'.gens = s.gens ∧ s'.os = s.os ∧ Wr w h₀ H env fr ((x, d) :: ρ) κ own s'.heap) No s := by
  obtain ⟨m, hn, _⟩ := W.rd.loc
  exact wpAny_storeName_local hl hn (fun h' hn' sb => ⟨rfl, rfl, W.setL hx r hn hn' sb⟩) (by rw [hk]; rfl)
theorem Wr.storeC {h₀ : Heap} {H : Addr → Prop} {s : Shared} {x : Str} {c : Addr} {v : Value} {d : Dt} (W : Wr w h₀ H env fr ρ κ own s.heap) (r : Rep s.heap (Hid H own) v d)
    (hk : env.scope.kind = .function) (hl : env.kindOf x = some .cell) (hc : env.cells.lookup x = some c) (hfr : fr x = true) :
    wpAny (model prog w.wo) A (storeName env x v) (fun _ s' => s'.gens = s.gens ∧ s'.os = s.os ∧ Wr w h₀ H env fr ρ ((x, d) :: κ) own s'.heap) No s := by
  obtain ⟨o, ho, _⟩ := W.rd.cel x c hc
  exact wpAny_storeName_cell hk hl hc ho fun h' hn' sb => ⟨rfl, rfl, W.setC hc hfr r ho hn' sb⟩

theorem Exs.setL {x : Str} {px pos : Pos} {e : Expr} {rest : List Stmt} {d : Dt} (h : Ev prog w A env ρ κ own e d) (hr : Exs prog w A env ((x, d) :: ρ) κ own rest O)
    (hs : swapsWith e (some (.Name x px)) pos.line env = pure false := by rfl)
    (hk : env.scope.kind = .function := by kernel_rfl!) (hl : env.kindOf x = some .local := by kernel_rfl!) (hx : (own.any fun e => e.1 == x) = false := by kernel_rfl!) :
    Exs prog w A env ρ κ own (.Assign [.Name x px] e pos :: rest) O :=
  .cons fun h₀ H s W => wpAny_Assign_Name (wpN (h H s W.rd) fun v s₁ ⟨g, r⟩ => wpN ((W.grow g.keep).storeL r hk hl hx) fun _ s₂ ⟨a, b, W'⟩ => ⟨a.trans g.gens, b.trans g.os, .next ((x, d) :: ρ) κ own, hr, W'⟩) hs
theorem Exs.setC {x : Str} {px pos : Pos} {e : Expr} {rest : List Stmt} {d : Dt} (h : Ev prog w A env ρ κ own e d) (hr : Exs prog w A env ρ ((x, d) :: κ) own rest O) (c : Addr) (hc : env.cells.lookup x = some c)
    (hs : swapsWith e (some (.Name x px)) pos.line env = pure false := by rfl)
    (hk : env.scope.kind = .function := by kernel_rfl!) (hl : env.kindOf x = some .cell := by kernel_rfl!) :
    Exs prog w A env ρ κ own (.Assign [.Name x px] e pos :: rest) O :=
  .cons fun h₀ H s W => wpAny_Assign_Name (wpN (h H s W.rd) fun v s₁ ⟨g, r⟩ => wpN ((W.grow g.keep).storeC r hk hl hc rfl) fun _ s₂ ⟨a, b, W'⟩ => ⟨a.trans g.gens, b.trans g.os, .next ρ ((x, d) :: κ) own, hr, W'⟩) hs
theorem Exs.augL {x : Str} {px pos : Pos} {op : Operator} {e : Expr} {rest : List Stmt} {d₁ d₂ d : Dt} (hv : ρ.lookup x = some d₁) (h : Ev prog w A env ρ κ own e d₂) (ho : Op2 prog w A (inplaceOp op) d₁ d₂ d)
    (hr : Exs prog w A env ((x, d) :: ρ) κ own rest O)
    (hk : env.scope.kind = .function := by kernel_rfl!) (hl : env.kindOf x = some .local := by kernel_rfl!) (hx : (own.any fun e => e.1 == x) = false := by kernel_rfl!) :
    Exs prog w A env ρ κ own (.AugAssign (.Name x px) op e pos :: rest) O :=
  .cons fun h₀ H s W => wpAny_AugAssign_Name (by
    obtain ⟨m, hn, hm, _⟩ := W.rd.loc
    obtain ⟨v, hv, hr₀⟩ := hm x d₁ hv
    refine wpAny_loadName_local hk hl hn hv ?_
    exact wpN (h H s W.rd) fun u s₁ ⟨g, r⟩ => wpN (ho _ s₁ v u (W.grow g.keep).rd.gd (hr₀.keep g.keep) r) fun z s₂ ⟨g₂, r₂⟩ =>
      wpN (((W.grow g.keep).grow g₂.keep).storeL r₂ hk hl hx) fun _ s₃ ⟨a, b, W'⟩ => ⟨a.trans (g₂.gens.trans g.gens), b.trans (g₂.os.trans g.os), .next ((x, d) :: ρ) κ own, hr, W'⟩)

/-- less may be known -/
def SubL : Ds → Ds → Prop
  | [], _ => True
  | (x, d) :: r, ρ => ρ.lookup x = some d ∧ SubL r ρ
def Sub (ρ' ρ : Ds) : Prop := ∀ x d, ρ'.lookup x = some d → ρ.lookup x = some d
theorem Sub.refl (ρ : Ds) : Sub ρ ρ := fun _ _ e => e
theorem Sub.nil (ρ : Ds) : Sub [] ρ := fun _ _ e => by cases e
theorem Sub.of : ∀ {ρ' ρ : Ds}, SubL ρ' ρ → Sub ρ' ρ
  | [], ρ, _, x, d, q => by cases q
  | (y, e) :: r, ρ, ⟨h, t⟩, x, d, q => by
    rcases lookup_cons_same q with ⟨rfl, rfl⟩ | ⟨_, q⟩
    · exact h
    · exact Sub.of t x d q
theorem Sub.fresh {ρ : Ds} {x : Str} {d : Dt} (h : ρ.lookup x = none) : Sub ρ ((x, d) :: ρ) := fun y e q => by
  rw [List.lookup_cons]
  by_cases hy : y = x
  · subst hy; rw [h] at q; cases q
  · have : (y == x) = false := by simpa using hy
    rw [this]; exact q
theorem Wr.less {h₀ h : Heap} {H : Addr → Prop} {ρ' κ' : Ds} (W : Wr w h₀ H env fr ρ κ own h) (a : Sub ρ' ρ) (b : Sub κ' κ) : Wr w h₀ H env fr ρ' κ' own h :=
  ⟨⟨W.rd.gr, W.rd.low, let ⟨m, p, q, r⟩ := W.rd.loc; ⟨m, p, fun x d e => q x d (a x d e), r⟩, fun x c e => let ⟨o, p, q⟩ := W.rd.cel x c e; ⟨o, p, fun d e => q d (b x d e)⟩, W.rd.has⟩,
    W.gr₀, W.keep, W.newL, W.newC, W.apart, W.newO, W.apartO, W.lowO⟩
theorem Exs.less {ss : List Stmt} {ρ' κ' : Ds} (h : Exs prog w A env ρ' κ' own ss O) (a : Sub ρ' ρ) (b : Sub κ' κ) : Exs prog w A env ρ κ own ss O := fun h₀ H s W => h h₀ H s (W.less a b)
end

end Mine
end

section
open PySem PySem.W PyProof.Rows PySem.Calls
set_option autoImplicit false
set_option linter.unusedVariables false
namespace Mine

/-- the parameters' data: those in locals, those in cells -/
def locD (kindOf : Str → Option NameKind) : Ds → Ds → Ds
  | [], ρ => ρ
  | (n, d) :: r, ρ => locD kindOf r (if kindOf n = some .local then (n, d) :: ρ else ρ)
def celD (kindOf : Str → Option NameKind) : Ds → Ds → Ds
  | [], ρ => ρ
  | (n, d) :: r, ρ => celD kindOf r (if kindOf n = some .local then ρ else (n, d) :: ρ)

inductive Binds (h : Heap) (H : Addr → Prop) : List (Str × Value) → Ds → Prop
  | nil : Binds h H [] []
  | cons {n : Str} {v : Value} {d : Dt} {vs : List (Str × Value)} {ds : Ds} : Rep h H v d → Binds h H vs ds → Binds h H ((n, v) :: vs) ((n, d) :: ds)
theorem Binds.keep {h h' : Heap} {H : Addr → Prop} {vs : List (Str × Value)} {ds : Ds} (k : Keep h h') (b : Binds h H vs ds) : Binds h' H vs ds := by
  induction b with
  | nil => exact .nil
  | cons r _ ih => exact .cons (r.keep k) ih

theorem bindL_rep {h : Heap} {H : Addr → Prop} {kindOf : Str → Option NameKind} {binds : List (Str × Value)} {ds : Ds} (b : Binds h H binds ds) : ∀ (m : Str → Option Value) (ρ : Ds),
    (∀ x d, ρ.lookup x = some d → ∃ v, m x = some v ∧ Rep h H v d) → ∀ x d, (locD kindOf ds ρ).lookup x = some d → ∃ v, bindL kindOf binds m x = some v ∧ Rep h H v d := by
  induction b with
  | nil => exact fun m ρ k => k
  | @cons n v d vs ds r _ ih =>
    intro m ρ k
    unfold locD bindL
    refine ih _ _ fun x e hx => ?_
    split at hx
    · rename_i hk
      rw [if_pos hk]
      rcases lookup_cons_same hx with ⟨rfl, rfl⟩ | ⟨hne, hx⟩
      · exact ⟨v, if_pos rfl, r⟩
      · obtain ⟨u, a, c⟩ := k x e hx; exact ⟨u, (if_neg hne).trans a, c⟩
    · rename_i hk
      rw [if_neg hk]
      exact k x e hx
theorem bindC_rep {h : Heap} {H : Addr → Prop} {kindOf : Str → Option NameKind} {binds : List (Str × Value)} {ds : Ds} (b : Binds h H binds ds) : ∀ (m : Str → Option Value) (ρ : Ds),
    (∀ x d, ρ.lookup x = some d → ∃ v, m x = some v ∧ Rep h H v d) → ∀ x d, (celD kindOf ds ρ).lookup x = some d → ∃ v, bindC kindOf binds m x = some v ∧ Rep h H v d := by
  induction b with
  | nil => exact fun m ρ k => k
  | @cons n v d vs ds r _ ih =>
    intro m ρ k
    unfold celD bindC
    refine ih _ _ fun x e hx => ?_
    split at hx
    · rename_i hk
      rw [if_pos hk]
      exact k x e hx
    · rename_i hk
      rw [if_neg hk]
      rcases lookup_cons_same hx with ⟨rfl, rfl⟩ | ⟨hne, hx⟩
      · exact ⟨v, if_pos rfl, r⟩
      · obtain ⟨u, a, c⟩ := k x e hx; exact ⟨u, (if_neg hne).trans a, c⟩

theorem Room.deeper {A : Around} {n : Nat} (R : Room A (n + 1)) (env : Env) : Room (A.deeper env) n :=
  ⟨R.handled, by have := R.depth; show A.depth + 1 + n < _; omega, by have := R.units; show A.units + 3 + 40 * n < _; omega⟩
theorem Room.less {A : Around} {n m : Nat} (R : Room A n) (h : m ≤ n) : Room A m := ⟨R.handled, by have := R.depth; omega, by have := R.units; omega⟩

section
variable {prog : Program} {w : Wd} {A : Around}

/-- the frame of a call, behind the binding of its arguments -/
theorem callEnv_ok {H : Addr → Prop} {s s₁ : Shared} {fd : FuncData} {L f : Addr} {binds : List (Str × Value)} {ds : Ds} (G : Gd w H s.heap) (b : Binds s.heap H binds ds)
    (x : InCallC s (callEnvC fd L f).locals (bindL (callEnvC fd L f).kindOf binds fun _ => none) (callEnvC fd L f).cells (bindC (callEnvC fd L f).kindOf binds fun _ => none) s₁) (hL : s.heap.get? L = none) (hz : s.heap.objs.size ≤ L) :
    Wr w s.heap H (callEnvC fd L f) allF (locD (callEnvC fd L f).kindOf ds []) (celD (callEnvC fd L f).kindOf ds []) [] s₁.heap := by
  have k := x.toInCall.keep
  have fr : ∀ a, s.heap.objs.size ≤ a → s.heap.get? a = none := fun a ha => by
    cases q : s.heap.get? a with
    | none => rfl
    | some o => exact absurd (Heap.lt_size q) (Nat.not_lt.mpr ha)
  have hH : ∀ a, Hid H [] a → H a ∨ s₁.heap.get? a = none := fun a ha => by
    rcases ha with ha | ⟨_, he, _⟩
    · exact .inl ha
    · cases he
  have b' := b.keep k
  have r1 := bindL_rep (kindOf := (callEnvC fd L f).kindOf) b' (fun _ => none) [] (fun x d e => by cases e)
  have r2 := bindC_rep (kindOf := (callEnvC fd L f).kindOf) b' (fun _ => none) [] (fun x d e => by cases e)
  refine ⟨⟨G.gr.keep k, fun b hb => let ⟨o, e⟩ := G.low b hb; ⟨o, k b o e⟩, ⟨_, x.toInCall.ns, fun y d e => ?_, (fun e he => by cases he)⟩, fun y c e => ?_, (fun e he => by cases he)⟩,
    G.gr, k, hL, fun y c e => ?_, fun y z c _ e e' => name_of_addr x.apart (mem_of_lookup e) (mem_of_lookup e'), (fun e he => by cases he), List.Pairwise.nil, (fun e he => by cases he)⟩
  · obtain ⟨v, p, q⟩ := r1 y d e; exact ⟨v, p, q.hide hH⟩
  · refine ⟨_, x.cell y c e, fun d hd => ?_⟩
    obtain ⟨v, p, q⟩ := r2 y d hd; exact ⟨v, p, q.hide hH⟩
  · have hLc : L < c := x.above y c (mem_of_lookup e)
    exact ⟨fun q => Nat.lt_irrefl L ((show c = L from q) ▸ hLc), fun _ => fr c (Nat.le_trans hz (Nat.le_of_lt hLc))⟩

/-- the contract of a def of the text, out of its body's walk -/
theorem fn_of {f : Addr} {fo : Obj} {fd : FuncData} {body : List Stmt} {ds : Ds} {d : Dt} {n : Nat} {H : Addr → Prop} {s : Shared} {vs : List Value} (G : Gd w H s.heap) (r : Reps s.heap H vs (ds.map (·.2))) (hR : Room A (n + 1))
    (ho : s.heap.get? f = some fo) (hdata : fo.data = .func fd) (hcode : s.heap.CodeRec fd.code fd.qualname) (hbody : fd.body = .stmts body) (hclo : fd.closure = [])
    (hbind : ∀ vs, vs.length = ds.length → bindArgs fd ⟨vs, []⟩ = pure ((ds.map (·.1)).zip vs))
    (hkind : ∀ n, ∀ x ∈ ds, fd.scope.names.lookup x.1 = some .local ∨ (fd.scope.names.lookup x.1 = some .cell ∧ ((cellsFrom n fd.scope.names []).lookup x.1).isSome = true))
    (hco : fd.scope.isCoroutine = false) (hgen : fd.scope.isGenerator = false) (hk : fd.scope.kind = .function)
    (h : ∀ L A', Room A' n → Exs prog w A' (callEnvC fd L f) (locD (callEnvC fd L f).kindOf ds []) (celD (callEnvC fd L f).kindOf ds []) [] body (· = .ret d)) :
    wpAny (model prog w.wo) A (call (.ref f) vs) (fun v s' => Grow s s' ∧ Rep s'.heap H v d) No s := by
  have hl : vs.length = ds.length := by rw [r.length, List.length_map]
  have hb : Binds s.heap H ((ds.map (·.1)).zip vs) ds := by
    clear hbind hkind h
    induction ds generalizing vs with
    | nil => cases r; exact .nil
    | cons p ps ih =>
      obtain ⟨n, d⟩ := p
      cases r with
      | cons r₁ r₂ => exact .cons r₁ (ih r₂ (by simpa using hl))
  have hz : s.heap.get? s.heap.objs.size = none := by
    cases q : s.heap.get? s.heap.objs.size with
    | none => rfl
    | some o => exact absurd (Heap.lt_size q) (Nat.lt_irrefl _)
  refine wpAny_call (codeAny_call_cells (Nat.lt_of_le_of_lt (Nat.le_add_right _ _) hR.depth) ho hdata G.gr.lim hcode hbody (hbind vs hl) hclo (fun x hx => ?_) (fun s₁ x => ?_) hco hgen hk)
  · obtain ⟨n, v⟩ := x
    have hm := (List.of_mem_zip hx).1
    obtain ⟨y, hy, rfl⟩ := List.mem_map.mp hm
    exact hkind _ y hy
  · have W := callEnv_ok (fd := fd) (f := f) (L := s.heap.objs.size) G hb x hz (Nat.le_refl _)
    refine wpAny_mono (h _ _ (hR.deeper _) s.heap H s₁ W) (fun fl s₂ ⟨a, b, o, eo, ok⟩ => ?_) fun _ _ e => e.elim
    subst eo
    obtain ⟨h₁, t₁, rfl, _⟩ := x.done
    cases fl with
    | ret v => exact ⟨⟨ok.1, a, b⟩, ok.2⟩
    | next | brk | cont => exact ok.elim
end

end Mine

namespace Mine
section
variable {prog : Program} {w : Wd} {A : Around}
theorem fnC {x name : Str} {params : Arguments} {body : List Stmt} {scope : Scope} {dpos : Pos} {ds : Ds} {d : Dt} {n : Nat} (hR : Room A (n + 1))
    (hdef : defOf qv x = some (⟨name, params, body, scope, dpos⟩, [])) (hdf : params.defaults = [])
    (hbind : ∀ {pm cd doc : Value} (vs : List Value), vs.length = ds.length → bindArgs (docDef name params body scope pm cd doc) ⟨vs, []⟩ = pure ((ds.map (·.1)).zip vs))
    (hkind : (ds.all fun y => scope.names.lookup y.1 == some .local || scope.names.lookup y.1 == some .cell) = true)
    {ρ κ : Ds} (hρ : locD (fun x => scope.names.lookup x) ds [] = ρ) (hκ : celD (fun x => scope.names.lookup x) ds [] = κ)
    (hco : scope.isCoroutine = false) (hgen : scope.isGenerator = false) (hk : scope.kind = .function)
    (h : ∀ {cdv : Value} L A', Room A' n → Exs prog w A' (envOfC name scope L (w.bk x) cdv) ρ κ [] body (· = .ret d)) :
    OpN prog w A (fun vs => call (.ref (w.bk x)) vs) (ds.map (·.2)) d := fun H s vs G r => by
  obtain ⟨o, pm, cd, doc, dV, kV, e, ed, ec, e1, e2⟩ := G.gr.fn x _ hdef
  obtain rfl := e1 hdf
  subst e2
  refine fn_of G r hR e ed ec rfl rfl (fun vs hl => hbind vs hl) (fun n x hx => ?_) hco hgen hk fun L A' R => ?_
  · have := List.all_eq_true.mp hkind x hx
    rcases Bool.or_eq_true_iff.mp this with q | q
    · exact .inl (show scope.names.lookup x.1 = some .local by simpa using q)
    · have q' : scope.names.lookup x.1 = some .cell := by simpa using q
      exact .inr ⟨q', cellsFrom_some _ _ _ (.inl q')⟩
  · subst hρ hκ
    exact h L A' R
end
end Mine
end

section
open PySem PySem.W PyProof.Rows PySem.Calls
set_option autoImplicit false
set_option linter.unusedVariables false
set_option maxRecDepth 100000
namespace Mine

section
variable {prog : Program} {w : Wd} {A : Around}

theorem Grow.heapToks {s : Shared} {h : Heap} (t : Nat) (k : Keep s.heap h) : Grow s { s with heap := h, toks := t } := ⟨k, rfl, rfl⟩

-- texts
theorem Op.lt_str {x y : Str} : Op2 prog w A (compareOp .Lt) (.str x) (.str y) (.bool (decide (x.cps.toList < y.cps.toList))) := fun H s v u G r₁ r₂ => by
  cases r₁; cases r₂; exact P.lt_str ⟨.refl s, .bool _⟩
theorem Op.gt_str {x y : Str} : Op2 prog w A (compareOp .Gt) (.str x) (.str y) (.bool (decide (y.cps.toList < x.cps.toList))) := fun H s v u G r₁ r₂ => by
  cases r₁; cases r₂; exact P.gt_str ⟨.refl s, .bool _⟩
theorem Op.eq_str {x y : Str} : Op2 prog w A (compareOp .Eq) (.str x) (.str y) (.bool (decide (x = y))) := fun H s v u G r₁ r₂ => by
  cases r₁; cases r₂
  refine P.eq_str ⟨.refl s, ?_⟩
  have : (x.cps.toList == y.cps.toList) = decide (x = y) := by
    rw [Bool.eq_iff_iff, beq_iff_eq, decide_eq_true_iff]
    constructor
    · intro h; cases x; cases y; congr; exact Array.toList_inj.mp h
    · rintro rfl; rfl
  rw [this]; exact .bool _
theorem Op.ne_str {x y : Str} : Op2 prog w A (compareOp .NotEq) (.str x) (.str y) (.bool (decide (x ≠ y))) := fun H s v u G r₁ r₂ => by
  cases r₁; cases r₂
  refine P.ne_str ⟨.refl s, ?_⟩
  have : (x.cps.toList != y.cps.toList) = decide (x ≠ y) := by
    rw [Bool.eq_iff_iff, bne_iff_ne, decide_eq_true_iff]
    constructor
    · rintro h rfl; exact h rfl
    · intro h q; apply h; cases x; cases y; congr; exact Array.toList_inj.mp q
  rw [this]; exact .bool _
theorem add_str_post {x y : Str} {t u : Tok} {s : Shared} {H : Addr → Prop} (hz : (x ++ y).length ≤ sizeLine) :
    (if x.length == 0 then Made.val (.str y u) else if y.length == 0 then Made.val (.str x t) else Made.str (x ++ y)).post (fun v s' => Grow s s' ∧ Rep s'.heap H v (.str (x ++ y))) s := by
  split
  · rename_i h; rw [Str.append_left_empty h]; exact ⟨.refl s, .str _ _⟩
  · split
    · rename_i h; rw [Str.append_right_empty h]; exact ⟨.refl s, .str _ _⟩
    · exact ⟨hz, .toks _, .str _ _⟩
theorem Op.add_str {x y : Str} (hz : (x ++ y).length ≤ sizeLine) : Op2 prog w A (binaryOp .Add) (.str x) (.str y) (.str (x ++ y)) := fun H s v u G r₁ r₂ => by
  cases r₁; cases r₂; exact P.add_str (add_str_post hz)
theorem Op.iadd_str {x y : Str} (hz : (x ++ y).length ≤ sizeLine) : Op2 prog w A (inplaceOp .Add) (.str x) (.str y) (.str (x ++ y)) := fun H s v u G r₁ r₂ => by
  cases r₁; cases r₂; exact P.iadd_str (add_str_post hz)
theorem Op.mul_str {x : Str} {n : Int} (hok : MulOk x n) : Op2 prog w A (binaryOp .Mult) (.str x) (.int n) (.str (Txt.mul x n)) := fun H s v u G r₁ r₂ => by
  cases r₁; cases r₂; exact SB.mul hok fun t' k => ⟨.toks _, .str _ _⟩
theorem Tr.str {x : Str} (hfit : ¬ (x.length : Int) ≥ 2 ^ 63) : Tr prog w A (.str x) (decide (x.length ≠ 0)) := fun H s v G r => by
  cases r
  refine P.truthy_str hfit ⟨.toks _, ?_⟩
  rw [Bool.eq_iff_iff, bne_iff_ne, decide_eq_true_iff]; omega
theorem Tr.bool {b : Bool} : Tr prog w A (.bool b) b := fun H s v G r => by cases r; exact wpAny_truthy_bool ⟨.refl s, rfl⟩
theorem Tr.list {ds : List Dt} (hfit : (ds.length : Int) < 2 ^ 63) : Tr prog w A (.list ds) (decide (ds.length ≠ 0)) := fun H s v G r => by
  cases r with
  | list l n r' =>
    have hl := r'.length
    refine wpAny_truthy_list l (by rw [List.size_toArray, hl]; exact hfit) ?_
    refine ⟨⟨Keep.refl _, rfl, rfl⟩, ?_⟩
    cases r' with
    | nil => rfl
    | cons => simp

-- ints
theorem Op.sub_bool {a b : Bool} : Op2 prog w A (binaryOp .Sub) (.bool a) (.bool b) (.int (b2i a - b2i b)) := fun H s v u G r₁ r₂ => by
  cases r₁; cases r₂; exact PyProof.Rows.sub_bool ⟨.toks _, .int _ _⟩
theorem Op.add_int {a b : Int} : Op2 prog w A (binaryOp .Add) (.int a) (.int b) (.int (a + b)) := fun H s v u G r₁ r₂ => by
  cases r₁; cases r₂; exact wpAny_add_int ⟨.toks _, .int _ _⟩
theorem Op.mod_int {a b : Int} (hb : b ≠ 0) : Op2 prog w A (binaryOp .Mod) (.int a) (.int b) (.int (a.fmod b)) := fun H s v u G r₁ r₂ => by
  cases r₁; cases r₂; exact mod_int' hb ⟨.toks _, .int _ _⟩
theorem Op.div_int {a b : Int} (hb : b ≠ 0) (hp : b.natAbs < 1073741824) : Op2 prog w A (binaryOp .FloorDiv) (.int a) (.int b) (.int (a.fdiv b)) := fun H s v u G r₁ r₂ => by
  cases r₁; cases r₂; exact floordiv_int hb ⟨.toks _, .int _ _⟩ (Or.inl (PyProof.noPylong_small hp))
theorem Op.lt_int {a b : Int} : Op2 prog w A (compareOp .Lt) (.int a) (.int b) (.bool (decide (a < b))) := fun H s v u G r₁ r₂ => by
  cases r₁; cases r₂; exact wpAny_lt_int ⟨.refl s, .bool _⟩
theorem Op.gt_int {a b : Int} : Op2 prog w A (compareOp .Gt) (.int a) (.int b) (.bool (decide (a > b))) := fun H s v u G r₁ r₂ => by
  cases r₁; cases r₂; exact P.gt_int ⟨.refl s, .bool _⟩
theorem Op.ge_int {a b : Int} : Op2 prog w A (compareOp .GtE) (.int a) (.int b) (.bool (decide (a ≥ b))) := fun H s v u G r₁ r₂ => by
  cases r₁; cases r₂; exact P.ge_int ⟨.refl s, .bool _⟩
theorem Op.eq_int {a b : Int} : Op2 prog w A (compareOp .Eq) (.int a) (.int b) (.bool (a == b)) := fun H s v u G r₁ r₂ => by
  cases r₁; cases r₂; exact wpAny_eq_int ⟨.refl s, .bool _⟩
theorem Op.ne_int {a b : Int} : Op2 prog w A (compareOp .NotEq) (.int a) (.int b) (.bool (a != b)) := fun H s v u G r₁ r₂ => by
  cases r₁; cases r₂; exact P.ne_int ⟨.refl s, .bool _⟩

-- places
theorem seqIndex_pos {k : Int} {n : Nat} (h0 : 0 ≤ k) (h : k < n) : seqIndex? k n = some k.toNat := by
  unfold seqIndex?
  simp only [show ¬ k < 0 by omega, if_false]
  rw [if_pos (by simp; omega)]
theorem Op.item {x i : Expr} {ds : List Dt} {k : Int} {d : Dt} (h0 : 0 ≤ k) (hfit : k < 2 ^ 63) (hd : ds[k.toNat]? = some d)
    (hs : ∀ a u, subscripted i false (.ref a) (.int k u) = operate [.ref a, .int k u] (getItem (.ref a) (.int k u)) := by intro _ _; with_unfolding_all rfl) :
    Op2 prog w A (subscriptTail x i) (.list ds) (.int k) d := fun H s v u G r₁ r₂ => by
  cases r₂
  cases r₁ with
  | list l n r' =>
    obtain ⟨v, hv, hr⟩ := r'.get hd
    exact tail_any l.typeIs slot_list_getitem.lookup (wpAny_getItem_list l h0 hfit (by simpa using hv) ⟨.refl s, hr⟩) (hs _ _)
theorem Op.itemT {x i : Expr} {ds : List Dt} {k : Int} {d : Dt} (h0 : 0 ≤ k) (hfit : k < 2 ^ 63) (hd : ds[k.toNat]? = some d)
    (hs : ∀ a u, subscripted i false (.ref a) (.int k u) = operate [.ref a, .int k u] (getItem (.ref a) (.int k u)) := by intro _ _; with_unfolding_all rfl) :
    Op2 prog w A (subscriptTail x i) (.tuple ds) (.int k) d := fun H s v u G r₁ r₂ => by
  cases r₂
  cases r₁ with
  | tuple l n r' =>
    obtain ⟨v, hv, hr⟩ := r'.get hd
    have hlt : k.toNat < ds.length := by
      have := List.getElem?_eq_some_iff.mp hd
      exact this.1
    refine item_tupleT l (by omega) hfit (j := k.toNat) ?_ hv ⟨.refl s, hr⟩ (hs _ _)
    rw [r'.length]
    exact seqIndex_pos h0 (by omega)
theorem Op.sign {x i : Expr} {y : Str} {k : Int} {c : Nat} (h0 : 0 ≤ k) (hfit : k < 2 ^ 63) (hd : y.cps[k.toNat]? = some c)
    (hs : ∀ t u, subscripted i false (.str y t) (.int k u) = operate [.str y t, .int k u] (getItem (.str y t) (.int k u)) := by intro _ _; with_unfolding_all rfl) :
    Op2 prog w A (subscriptTail x i) (.str y) (.int k) (.str ⟨#[c]⟩) := fun H s v u G r₁ r₂ => by
  cases r₂; cases r₁
  rename_i t u
  have hlt : k.toNat < y.cps.size := by
    have := Array.getElem?_eq_some_iff.mp hd
    exact this.1
  refine tail_any (typeIs_str _ _ _) F.slot_str_getitem.lookup (P.getItem_str (c := c) ?_ ?_ ⟨.toks _, .str _ _⟩) (hs _ _)
  · simp; omega
  · rw [seqIndex_pos (n := y.length) h0 (by have : (y.length : Int) = y.cps.size := rfl; omega)]
    exact hd
end

end Mine
end

section
open PySem PySem.W PyProof.Rows PySem.Calls PySem.Builtin PySem.Builtin.Str
set_option autoImplicit false
set_option linter.unusedVariables false
set_option maxRecDepth 100000
namespace Mine

section
variable {prog : Program} {w : Wd} {A : Around} {env : Env} {ρ κ : Ds} {own : Own}

/-- a part of a slice -/
def EvPart (prog : Program) (w : Wd) (A : Around) (env : Env) (ρ κ : Ds) (own : Own) : Option Expr → Option Int → Prop
  | none, none => True
  | some e, some i => Ev prog w A env ρ κ own e (.int i)
  | _, _ => False
theorem EvPart.go {x : Option Expr} {i : Option Int} (h : EvPart prog w A env ρ κ own x i) (H : Addr → Prop) (s : Shared) (R : Rd w H env ρ κ own s.heap) :
    wpAny (model prog w.wo) A (evalPart x env) (fun v s' => Grow s s' ∧ ∃ p : Option (Int × Tok), v = partValue p ∧ p.map (·.1) = i) No s := by
  cases x with
  | none => cases i with
    | none => exact wpAny_pure ⟨.refl s, none, rfl, rfl⟩
    | some => exact h.elim
  | some e => cases i with
    | none => exact h.elim
    | some i =>
      refine wpN (h H s R) fun v s' ⟨g, r⟩ => ?_
      cases r with
      | int i t => exact ⟨g, some (i, t), rfl, rfl⟩

theorem Ev.slice {x : Expr} {lo hi st : Option Expr} {p pos : Pos} {a b c : Option Int} {d d' : Dt} (h : Ev prog w A env ρ κ own x d) (hlo : EvPart prog w A env ρ κ own lo a) (hhi : EvPart prog w A env ρ κ own hi b) (hst : EvPart prog w A env ρ κ own st c)
    (ho : ∀ H s v sl (l u t : Option (Int × Tok)), Gd w H s.heap → Rep s.heap H v d → s.heap.get? sl = some { cls := .type "slice", data := .fields #[partValue l, partValue u, partValue t] } → l.map (·.1) = a → u.map (·.1) = b → t.map (·.1) = c →
      wpAny (model prog w.wo) A (subscriptTail x (.Slice lo hi st p) v (.ref sl)) (fun v s' => Grow s s' ∧ Rep s'.heap H v d') No s) :
    Ev prog w A env ρ κ own (.Subscript x (.Slice lo hi st p) pos) d' := fun H s R =>
  Subscript_ (wpN (h H s R) fun v s₁ ⟨g₁, r₁⟩ => wpAny_Slice (wpN (hlo.go H s₁ (R.keep g₁.keep)) fun vl s₂ ⟨g₂, l, el, ea⟩ => wpN (hhi.go H s₂ ((R.keep g₁.keep).keep g₂.keep)) fun vu s₃ ⟨g₃, u, eu, eb⟩ =>
    wpN (hst.go H s₃ (((R.keep g₁.keep).keep g₂.keep).keep g₃.keep)) fun vt s₄ ⟨g₄, t, et, ec⟩ => by
      subst el eu et
      have k := (g₂.keep.trans g₃.keep).trans g₄.keep
      have kp := Keep.push s₄.heap { cls := .type "slice", data := .fields #[partValue l, partValue u, partValue t] }
      exact wpN (ho _ _ v _ l u t (((R.keep g₁.keep).keep k).keep kp).gd ((r₁.keep k).keep kp) (Heap.get?_push_size _ rfl) ea eb ec) fun v' s₅ ⟨g₅, r₅⟩ =>
        ⟨((((g₁.trans g₂).trans g₃).trans g₄).trans (.alloc _ _)).trans g₅, r₅⟩))

theorem Ev.sliceS {x : Expr} {lo hi : Option Expr} {p pos : Pos} {a b : Option Int} {y : Str} (h : Ev prog w A env ρ κ own x (.str y)) (hlo : EvPart prog w A env ρ κ own lo a) (hhi : EvPart prog w A env ρ κ own hi b) (hz : y.length ≤ sizeLine) :
    Ev prog w A env ρ κ own (.Subscript x (.Slice lo hi Option.none p) pos) (.str (Txt.slice y a b)) :=
  Ev.slice (st := Option.none) (c := Option.none) h hlo hhi trivial fun H s v sl l u t G r hs ea eb ec => by
    cases r with
    | str y tk =>
      have et : t = Option.none := by cases t with | none => rfl | some => cases ec
      subst et ea eb
      refine tail_any (typeIs_str _ _ _) F.slot_str_getitem.lookup (wpAny_getItem_str_slice (l := l) (u := u) (st := Option.none) ⟨_, hs, rfl, rfl⟩ rfl ?_) rfl
      exact post_val_or_str ⟨Nat.le_trans (Txt.slice_le y _ _) hz, fun t' k => ⟨.toks _, .str _ _⟩⟩

theorem Reps.pick {h : Heap} {H : Addr → Prop} {vs : List Value} {ds : List Dt} (r : Reps h H vs ds) : ∀ (idx : List Nat), Reps h H (idx.filterMap (vs.toArray[·]?)) (idx.filterMap (ds[·]?))
  | [] => .nil
  | i :: idx => by
    simp only [List.filterMap_cons, List.getElem?_toArray]
    cases hd : ds[i]? with
    | none =>
      have : vs[i]? = none := by
        rw [List.getElem?_eq_none_iff] at hd ⊢
        rw [r.length]; exact hd
      simp only [this]
      simpa using r.pick idx
    | some d =>
      obtain ⟨v, hv, hr⟩ := r.get hd
      simp only [hv]
      exact .cons hr (by simpa using r.pick idx)
def pickD (ds : List Dt) (lo hi st : Option Int) : List Dt :=
  (sliceRange (sliceBounds lo hi st ds.length).1 (sliceBounds lo hi st ds.length).2.1 (sliceBounds lo hi st ds.length).2.2).filterMap (ds[·]?)
theorem Ev.sliceL {x : Expr} {lo hi st : Option Expr} {p pos : Pos} {a b c : Option Int} {ds : List Dt} (h : Ev prog w A env ρ κ own x (.list ds)) (hlo : EvPart prog w A env ρ κ own lo a) (hhi : EvPart prog w A env ρ κ own hi b) (hst : EvPart prog w A env ρ κ own st c)
    (hz : ds.length ≤ sizeLine) (h0 : c ≠ some 0) (hs' : ∀ o i, ∃ ops, subscripted (.Slice lo hi st p) false o i = operate ops (getItem o i) := by exact fun _ _ => ⟨_, rfl⟩) :
    Ev prog w A env ρ κ own (.Subscript x (.Slice lo hi st p) pos) (.list (pickD ds a b c)) :=
  Ev.slice h hlo hhi hst fun H s v sl l u t G r hs ea eb ec => by
    cases r with
    | @list ad vs _ hl n r =>
      have hlen := r.length
      have part : ∀ q : Option (Int × Tok), IsPart (partValue q) (q.map (·.1)) := fun q => by
        cases q with
        | none => exact .none
        | some q => exact .int _ _
      obtain ⟨ops, hops⟩ := hs' (.ref ad) (.ref sl)
      refine tail_any hl.typeIs slot_list_getitem.lookup (wpAny_getItem_list_slice hl ⟨_, hs, rfl, rfl⟩ (ea ▸ part l) (eb ▸ part u) (ec ▸ part t) h0 ?_ (by rw [List.size_toArray, hlen]; exact hz)) hops
      refine ⟨.alloc _ _, .list (vs := (sliceRange (sliceBounds a b c vs.toArray.size).1 (sliceBounds a b c vs.toArray.size).2.1 (sliceBounds a b c vs.toArray.size).2.2).filterMap (vs.toArray[·]?)) ⟨_, Heap.get?_push_size _ rfl, rfl, 0, rfl⟩ G.fresh ?_⟩
      refine Reps.keep (Keep.push _ _) ?_
      have := r.pick (sliceRange (sliceBounds a b c vs.toArray.size).1 (sliceBounds a b c vs.toArray.size).2.1 (sliceBounds a b c vs.toArray.size).2.2)
      rw [show vs.toArray.size = ds.length by rw [List.size_toArray, hlen]] at this ⊢
      exact this

theorem Evs.few {es : List Expr} {ds : List Dt} {pos : Pos} (h : Evs prog w A env ρ κ own es ds) : (backTo pos (starEach es env)).all (fun x => !x.1) = true := by
  induction h with
  | nil => rfl
  | cons _ _ hp ih => rw [starEach_plain hp]; exact ih
/-- a method of a text -/
theorem Ev.meth {o : Expr} {name : Str} {apos pos : Pos} {es : List Expr} {ds : List Dt} {x : Str} {d : Dt} {id : String} (h : Ev prog w A env ρ κ own o (.str x)) (hs : Evs prog w A env ρ κ own es ds)
    (hf : ∀ t, OpN prog w A (fun vs => call (.builtin id) (.str x t :: vs)) ds d) (slot : Slot "str" name id) (ty : typeOf (.builtin id) = pure (.type "method_descriptor"))
    (hbase : attributeBase o name env (eval o env) = eval o env := by rfl) (hline : (apos.endLine == pos.line) = true := by rfl) (hlen : es.length < 30 := by decide) :
    Ev prog w A env ρ κ own (.Call (.Attribute o name apos) es [] pos) d := fun H s R =>
  wpAny_Call_method_lateS hbase (by rw [hs.few]; simpa [keywordEach, backToKw] using hlen) hline (wpN (h H s R) fun v s₁ ⟨g₁, r₁⟩ => by
    cases r₁ with
    | str x t =>
      refine ⟨"str", id, F.plainAttrs_str, slot, ty, typeIs_str _ _ _, (fun _ e => nomatch e), callWith_builtin hs.any (wpN (hs.args H s₁ (R.keep g₁.keep)) fun a s₂ ⟨ek, g₂, r₂⟩ => ?_)⟩
      rw [ek]
      exact wpN (hf t _ s₂ _ ((R.keep g₁.keep).keep g₂.keep).gd r₂) fun v s₃ ⟨g₃, r₃⟩ => ⟨(g₁.trans g₂).trans g₃, r₃⟩)

theorem OpN.one {f : List Value → Sem Value} {d₁ d : Dt} (h : ∀ H s v, Gd w H s.heap → Rep s.heap H v d₁ → wpAny (model prog w.wo) A (f [v]) (fun v s' => Grow s s' ∧ Rep s'.heap H v d) No s) : OpN prog w A f [d₁] d := fun H s vs G r => by
  cases r with
  | cons r₁ r₂ => cases r₂; exact h H s _ G r₁
theorem OpN.two {f : List Value → Sem Value} {d₁ d₂ d : Dt} (h : ∀ H s v u, Gd w H s.heap → Rep s.heap H v d₁ → Rep s.heap H u d₂ → wpAny (model prog w.wo) A (f [v, u]) (fun v s' => Grow s s' ∧ Rep s'.heap H v d) No s) : OpN prog w A f [d₁, d₂] d := fun H s vs G r => by
  cases r with
  | cons r₁ r₂ => cases r₂ with
    | cons r₂ r₃ => cases r₃; exact h H s _ _ G r₁ r₂

theorem Ev.startswith {o e : Expr} {apos pos : Pos} {x y : Str} (h : Ev prog w A env ρ κ own o (.str x)) (he : Ev prog w A env ρ κ own e (.str y)) (hp : plainE e = true := by rfl)
    (hbase : attributeBase o "startswith" env (eval o env) = eval o env := by rfl) (hline : (apos.endLine == pos.line) = true := by rfl) :
    Ev prog w A env ρ κ own (.Call (.Attribute o "startswith" apos) [e] [] pos) (.bool (Txt.startswith x y)) :=
  .meth h (.one he hp) (fun t => .one fun H s v G r => by cases r; exact SC.startswith ⟨.refl s, .bool _⟩) F.slot_str_startswith F.type_str_startswith hbase hline (Nat.le_of_ble_eq_true rfl)
theorem Ev.endswith {o e : Expr} {apos pos : Pos} {x y : Str} (h : Ev prog w A env ρ κ own o (.str x)) (he : Ev prog w A env ρ κ own e (.str y)) (hp : plainE e = true := by rfl)
    (hbase : attributeBase o "endswith" env (eval o env) = eval o env := by rfl) (hline : (apos.endLine == pos.line) = true := by rfl) :
    Ev prog w A env ρ κ own (.Call (.Attribute o "endswith" apos) [e] [] pos) (.bool (Txt.endswith x y)) :=
  .meth h (.one he hp) (fun t => .one fun H s v G r => by cases r; exact SC.endswith ⟨.refl s, .bool _⟩) F.slot_str_endswith F.type_str_endswith hbase hline (Nat.le_of_ble_eq_true rfl)
theorem Ev.rfind {o e : Expr} {apos pos : Pos} {x y : Str} (h : Ev prog w A env ρ κ own o (.str x)) (he : Ev prog w A env ρ κ own e (.str y)) (hp : plainE e = true := by rfl)
    (hbase : attributeBase o "rfind" env (eval o env) = eval o env := by rfl) (hline : (apos.endLine == pos.line) = true := by rfl) :
    Ev prog w A env ρ κ own (.Call (.Attribute o "rfind" apos) [e] [] pos) (.int (Txt.rfind x y)) :=
  .meth h (.one he hp) (fun t => .one fun H s v G r => by cases r; exact SC.rfind ⟨.toks _, .int _ _⟩) F.slot_str_rfind F.type_str_rfind hbase hline (Nat.le_of_ble_eq_true rfl)
theorem Ev.rstrip {o e : Expr} {apos pos : Pos} {x y : Str} (h : Ev prog w A env ρ κ own o (.str x)) (he : Ev prog w A env ρ κ own e (.str y)) (hz : x.length ≤ sizeLine) (hp : plainE e = true := by rfl)
    (hbase : attributeBase o "rstrip" env (eval o env) = eval o env := by rfl) (hline : (apos.endLine == pos.line) = true := by rfl) :
    Ev prog w A env ρ κ own (.Call (.Attribute o "rstrip" apos) [e] [] pos) (.str (Txt.rstripChars x y)) :=
  .meth h (.one he hp) (fun t => .one fun H s v G r => by cases r; exact SC.rstripChars (fun t' k => ⟨.toks _, .str _ _⟩) hz) F.slot_str_rstrip F.type_str_rstrip hbase hline (Nat.le_of_ble_eq_true rfl)

theorem Reps.strs {h : Heap} {H : Addr → Prop} : ∀ {vs : List Value} {xs : List Str}, Reps h H vs (xs.map .str) → ∃ l : List (Str × Tok), vs = strValues l ∧ l.map (·.1) = xs
  | [], [], _ => ⟨[], rfl, rfl⟩
  | [], _ :: _, r => by cases r
  | _ :: _, [], r => by cases r
  | v :: vs, x :: xs, r => by
    cases r with
    | cons a b =>
      obtain ⟨l, e₁, e₂⟩ := Reps.strs b
      cases a with
      | str x t => exact ⟨(x, t) :: l, by rw [e₁]; rfl, by rw [List.map_cons, e₂]⟩
theorem reps_strValues {h : Heap} {H : Addr → Prop} : ∀ (l : List (Str × Tok)), Reps h H (strValues l) ((l.map (·.1)).map .str)
  | [] => .nil
  | (x, t) :: l => .cons (.str x t) (reps_strValues l)
theorem Ev.join {o e : Expr} {apos pos : Pos} {x : Str} {xs : List Str} (h : Ev prog w A env ρ κ own o (.str x)) (he : Ev prog w A env ρ κ own e (.list (xs.map .str))) (hok : JoinOk x xs = true) (hp : plainE e = true := by rfl)
    (hbase : attributeBase o "join" env (eval o env) = eval o env := by rfl) (hline : (apos.endLine == pos.line) = true := by rfl) :
    Ev prog w A env ρ κ own (.Call (.Attribute o "join" apos) [e] [] pos) (.str (Txt.join x xs)) :=
  .meth h (.one he hp) (fun t => .one fun H s v G r => by
    cases r with
    | list hl n r =>
      obtain ⟨l, rfl, ht⟩ := r.strs
      exact SC.join hl ht hok fun t' k => ⟨.toks _, .str _ _⟩) F.slot_str_join F.type_str_join hbase hline (Nat.le_of_ble_eq_true rfl)
theorem split_rep {x y : Str} {t u : Tok} {s : Shared} {H : Addr → Prop} (G : Gd w H s.heap) (hy : (y.length == 0) = false) (hz : x.length ≤ sizeLine) (hz2 : (partsBetween x (occurrences x y 0 x.length (x.length + 1)) y.length).length ≤ sizeLine) :
    wpAny (model prog w.wo) A (call (.builtin "str.split") [.str x t, .str y u]) (fun v s' => Grow s s' ∧ Rep s'.heap H v (.list ((Txt.split x y).map .str))) No s := by
  have one : ∀ {a : Value} {s' : Shared}, a = .ref s.heap.objs.size → s' = { s with heap := s.heap.push { cls := .type "list", data := .seq #[.str x t] } } → Txt.split x y = [x] → Grow s s' ∧ Rep s'.heap H a (.list ((Txt.split x y).map .str)) := by
    rintro _ _ rfl rfl e
    rw [e]
    exact ⟨.alloc _ _, .list (vs := [.str x t]) ⟨_, Heap.get?_push_size _ rfl, rfl, 0, rfl⟩ G.fresh (.cons (.str _ _) .nil)⟩
  cases h1 : (decide (x.length < y.length) || decide (strKind x < strKind y))
  · cases hf : (occurrences x y 0 x.length (x.length + 1)).isEmpty
    · refine call_meets F.slot_str_split (typeIs_str _ _ _) F.entry_str_split (F.args_str_split_2 _ _) (meets_str_split_sep x y t u h1 hy hf hz hz2) ?_
      refine ⟨⟨Keep.push _ _, rfl, rfl⟩, ?_⟩
      refine .list (vs := strsFrom s.toks (partsBetween x (occurrences x y 0 x.length (x.length + 1)) y.length)) ⟨_, Heap.get?_push_size _ rfl, rfl, 0, rfl⟩ G.fresh ?_
      rw [strsFrom_eq]
      have := reps_strValues (h := s.heap.push { cls := .type "list", data := .seq (strsFrom s.toks (partsBetween x (occurrences x y 0 x.length (x.length + 1)) y.length)).toArray }) (H := H) (numbered s.toks (partsBetween x (occurrences x y 0 x.length (x.length + 1)) y.length))
      rw [numbered_texts] at this
      rw [show Txt.split x y = _ from ((if_neg (ne_true_of_eq_false h1)).trans (if_neg (ne_true_of_eq_false hf)))]
      rw [strsFrom_eq] at this
      exact this
    · exact call_meets F.slot_str_split (typeIs_str _ _ _) F.entry_str_split (F.args_str_split_2 _ _) (meets_str_split_not_found x y t u h1 hy hf) (one rfl rfl ((if_neg (ne_true_of_eq_false h1)).trans (if_pos hf)))
  · exact call_meets F.slot_str_split (typeIs_str _ _ _) F.entry_str_split (F.args_str_split_2 _ _) (meets_str_split_cannot_occur x y t u h1) (one rfl rfl (if_pos h1))
theorem Ev.split {o e : Expr} {apos pos : Pos} {x y : Str} (h : Ev prog w A env ρ κ own o (.str x)) (he : Ev prog w A env ρ κ own e (.str y)) (hy : (y.length == 0) = false) (hz : x.length ≤ sizeLine)
    (hz2 : (partsBetween x (occurrences x y 0 x.length (x.length + 1)) y.length).length ≤ sizeLine) (hp : plainE e = true := by rfl)
    (hbase : attributeBase o "split" env (eval o env) = eval o env := by rfl) (hline : (apos.endLine == pos.line) = true := by rfl) :
    Ev prog w A env ρ κ own (.Call (.Attribute o "split" apos) [e] [] pos) (.list ((Txt.split x y).map .str)) :=
  .meth h (.one he hp) (fun t => .one fun H s v G r => by cases r; exact split_rep G hy hz hz2) F.slot_str_split F.type_str_split hbase hline (Nat.le_of_ble_eq_true rfl)

-- len, ord
theorem Op.len_str {x : Str} (hfit : ¬ (x.length : Int) ≥ 2 ^ 63) : OpN prog w A (fun vs => call (.builtin "len") vs) [.str x] (.int x.length) := .one fun H s v G r => by
  cases r; exact P.len_str hfit ⟨.toks _, .int _ _⟩
theorem Op.len_list {ds : List Dt} (hfit : (ds.length : Int) < 2 ^ 63) : OpN prog w A (fun vs => call (.builtin "len") vs) [.list ds] (.int ds.length) := .one fun H s v G r => by
  cases r with
  | list hl n r =>
    have := r.length
    refine call_len_list hl (by rw [List.size_toArray, this]; exact hfit) ?_
    rw [List.size_toArray, this]
    exact ⟨.toks _, .int _ _⟩
theorem Op.ord {c : Nat} : OpN prog w A (fun vs => call (.builtin "ord") vs) [.str ⟨#[c]⟩] (.int c) := .one fun H s v G r => by
  cases r; exact P.ord_of_char ⟨.toks _, .int _ _⟩
end

end Mine
end

section
open PySem PySem.W PyProof.Rows PySem.Calls
set_option autoImplicit false
set_option linter.unusedVariables false
set_option maxRecDepth 100000
namespace Mine

open Classical in
/-- the heap without what P tells -/
noncomputable def hideP (h : Heap) (P : Addr → Prop) : Heap := { h with objs := h.objs.mapIdx fun i o => if P i then { o with data := .freed } else o }
open Classical in
theorem hideP_get (h : Heap) (P : Addr → Prop) (a : Addr) : (hideP h P).get? a = if P a then none else h.get? a := by
  unfold hideP Heap.get?
  simp only [Array.getElem?_mapIdx]
  cases e : h.objs[a]? with
  | none => simp
  | some o =>
    simp only [Option.map_some]
    by_cases q : P a
    · simp [q]
    · simp [q]
theorem hideP_some {h : Heap} {P : Addr → Prop} {a : Addr} {o : Obj} (e : (hideP h P).get? a = some o) : ¬ P a ∧ h.get? a = some o := by
  rw [hideP_get] at e
  split at e
  · cases e
  · rename_i q; exact ⟨q, e⟩
theorem hideP_of {h : Heap} {P : Addr → Prop} {a : Addr} {o : Obj} (n : ¬ P a) (e : h.get? a = some o) : (hideP h P).get? a = some o := by
  rw [hideP_get, if_neg n]; exact e
theorem hideP_none {h : Heap} {P : Addr → Prop} {a : Addr} (n : P a) : (hideP h P).get? a = none := by
  rw [hideP_get, if_pos n]

/-- what a frame may write -/
def Mayb (env : Env) (fr : Str → Bool) (own : Own) (a : Addr) : Prop := a = env.locals ∨ (∃ x, fr x = true ∧ env.cells.lookup x = some a) ∨ ∃ e ∈ own, e.2.1 = a

section
variable {prog : Program} {w : Wd} {A : Around} {env : Env} {fr : Str → Bool} {ρ κ : Ds} {own : Own} {O : Out → Prop}

theorem Wr.maybe {h₀ h : Heap} {H : Addr → Prop} (W : Wr w h₀ H env fr ρ κ own h) {a : Addr} (m : Mayb env fr own a) : h₀.get? a = none := by
  rcases m with rfl | ⟨x, hx, hc⟩ | ⟨e, he, rfl⟩
  · exact W.newL
  · exact (W.newC x a hc).2 hx
  · exact W.newO e he
/-- all that the frame does not write may stand in the base -/
theorem Wr.base {h₀ h : Heap} {H : Addr → Prop} (W : Wr w h₀ H env fr ρ κ own h) : Wr w (hideP h (Mayb env fr own)) H env fr ρ κ own h ∧ Keep h₀ (hideP h (Mayb env fr own)) := by
  have k : Keep h₀ (hideP h (Mayb env fr own)) := fun b o e => hideP_of (fun m => by rw [W.maybe m] at e; cases e) (W.keep b o e)
  exact ⟨⟨W.rd, W.gr₀.keep k, fun b o e => (hideP_some e).2, hideP_none (.inl rfl), fun x c e => ⟨(W.newC x c e).1, fun hx => hideP_none (.inr (.inl ⟨x, hx, e⟩))⟩, W.apart, fun e he => hideP_none (.inr (.inr ⟨e, he, rfl⟩)), W.apartO, W.lowO⟩, k⟩
theorem keep_none {h₀ h₁ : Heap} (k : Keep h₀ h₁) {a : Addr} (e : h₁.get? a = none) : h₀.get? a = none := by
  cases q : h₀.get? a with
  | none => rfl
  | some o => rw [k a o q] at e; cases e
theorem Wr.back {h₀ h₁ h : Heap} {H : Addr → Prop} (W : Wr w h₁ H env fr ρ κ own h) (k : Keep h₀ h₁) (g : Gr w h₀) : Wr w h₀ H env fr ρ κ own h :=
  ⟨W.rd, g, k.trans W.keep, keep_none k W.newL, fun x c e => ⟨(W.newC x c e).1, fun hx => keep_none k ((W.newC x c e).2 hx)⟩, W.apart, fun e he => keep_none k (W.newO e he), W.apartO, W.lowO⟩

/-- binding a target to what bears d -/
def Asg (prog : Program) (w : Wd) (A : Around) (env : Env) (fr : Str → Bool) (ρ κ : Ds) (own : Own) (t : Expr) (d : Dt) (ρ' κ' : Ds) : Prop :=
  ∀ h₀ H s v, Wr w h₀ H env fr ρ κ own s.heap → Rep s.heap (Hid H own) v d → wpAny (model prog w.wo) A (assign t env v) (fun _ s' => s'.gens = s.gens ∧ s'.os = s.os ∧ Wr w h₀ H env fr ρ' κ' own s'.heap) No s
theorem Asg.loc {x : Str} {px : Pos} {d : Dt} (hk : env.scope.kind = .function := by kernel_rfl!) (hl : env.kindOf x = some .local := by kernel_rfl!) (hx : (own.any fun e => e.1 == x) = false := by kernel_rfl!) :
    Asg prog w A env fr ρ κ own (.Name x px) d ((x, d) :: ρ) κ := fun h₀ H s v W r => wpAny_assign_Name (W.storeL r hk hl hx)
theorem Asg.cell {x : Str} {px : Pos} {d : Dt} (c : Addr) (hc : env.cells.lookup x = some c) (hfr : fr x = true) (hk : env.scope.kind = .function := by kernel_rfl!) (hl : env.kindOf x = some .cell := by kernel_rfl!) :
    Asg prog w A env fr ρ κ own (.Name x px) d ρ ((x, d) :: κ) := fun h₀ H s v W r => wpAny_assign_Name (W.storeC r hk hl hc hfr)

/-- what an iteration walks through -/
structure SrcOk (prog : Program) (w : Wd) (A : Around) (H : Addr → Prop) (h₁ h₂ : Heap) (it : Value) (ds : List Dt) : Prop where
  go : ∃ I fp wr P St, it = .ref I ∧ Walks prog w.wo A I fp wr ds.length P St ∧ St 0 h₂ ∧ (∀ b ∈ wr, h₁.get? b = none) ∧ (∀ b ∈ fp, b ∈ wr ∨ ((∃ o xs n, h₁.get? b = some o ∧ o.data = .seq xs n) ∧ ¬ H b)) ∧ (∀ b ∈ fp, b < h₂.objs.size) ∧
    (∀ i d v h, Keep h₁ h → ds[i]? = some d → P i v → Rep h H v d) ∧
    (∀ i t v (s : Shared) (Q : Unit → Shared → Prop), St i s.heap → Q () s → wpAny (model prog w.wo) A (letOwnedTupleGo t it v) Q No s) ∧ (∀ i h b, St i h → b ∈ wr → ∃ o, h.get? b = some o)
def EvIt (prog : Program) (w : Wd) (A : Around) (env : Env) (ρ κ : Ds) (own : Own) (e : Expr) (ds : List Dt) : Prop :=
  ∀ H s, Rd w H env ρ κ own s.heap → wpAny (model prog w.wo) A (eval e env) (fun x s₁ => Grow s s₁ ∧ wpAny (model prog w.wo) A (pyIter x) (fun it s₂ => Grow s₁ s₂ ∧ SrcOk prog w A (Hid H own) s₁.heap s₂.heap it ds) No s₁) No s

theorem letOwned_plain {t : Expr} {I : Addr} {v : Value} {o : Obj} {T : String} {s : Shared} {Q : Unit → Shared → Prop} (ho : s.heap.get? I = some o) (hc : o.cls = .type T)
    (hT : (["enumerate", "zip", "dict_itemiterator", "dict_reverseitemiterator", "odict_iterator", "itertools.zip_longest", "itertools.pairwise"].contains T) = false) (h : Q () s) :
    wpAny (model prog w.wo) A (letOwnedTupleGo t (.ref I) v) Q No s := by
  unfold letOwnedTupleGo
  have key : ∀ a : Addr, wpAny (model prog w.wo) A (do
    let o ← load I
    match o.cls, o.data with
    | .type n, .fields vs =>
      if ["enumerate", "zip", "dict_itemiterator", "dict_reverseitemiterator", "odict_iterator", "itertools.zip_longest", "itertools.pairwise"].contains n && vs[0]? == some (rawInt a) then
        rule "for.unpacks-the-owned-tuple"
        updateField I 0 .none
    | _, _ => pure ()) Q No s := fun a => by
    refine wpAny_bind (wpAny_load ho ?_)
    rw [hc]
    cases o.data <;> first | exact wpAny_pure h | (simp only [hT, Bool.false_and, Bool.false_eq_true, if_false]; exact wpAny_pure h)
  split
  · cases v <;> first | exact wpAny_pure h | exact key _
  · cases v <;> first | exact wpAny_pure h | exact key _
  · exact wpAny_pure h

theorem EvIt.list {e : Expr} {ds : List Dt} (hh : A.handled = none) (h : Ev prog w A env ρ κ own e (.list ds)) : EvIt prog w A env ρ κ own e ds := fun H s R =>
  wpN (h H s R) fun x s₁ ⟨g, r⟩ => ⟨g, by
    cases r with
    | @list l vs _ hl n r =>
      refine wpAny_pyIter_list hl ⟨.alloc _ _, ⟨s₁.heap.objs.size, [s₁.heap.objs.size, l], [s₁.heap.objs.size], (fun i v => vs.toArray[i]? = some v), (fun i h => h.IsListIter s₁.heap.objs.size l i ∧ h.IsList l vs.toArray), rfl, ?_⟩⟩
      have hne : l ≠ s₁.heap.objs.size := fun q => by
        obtain ⟨o, ho, _⟩ := hl; exact Nat.lt_irrefl _ (q ▸ Heap.lt_size ho)
      have hz : vs.toArray.size = ds.length := by rw [List.size_toArray, r.length]
      have hnone : s₁.heap.get? s₁.heap.objs.size = none := by
        cases q : s₁.heap.get? s₁.heap.objs.size with
        | none => rfl
        | some o => exact absurd (Heap.lt_size q) (Nat.lt_irrefl _)
      refine ⟨hz ▸ Walks.list hh s₁.heap.objs.size l hne vs.toArray, ⟨⟨_, Heap.get?_push_size _ rfl, rfl, rfl⟩, hl.push _⟩, fun b hb => ?_, fun b hb => ?_, fun b hb => ?_, fun i d v h' k hd hp => ?_, fun i t v s Q st hq => ?_, fun i h' b st hb => ?_⟩
      · simp at hb; subst hb; exact hnone
      · simp at hb
        rcases hb with rfl | rfl
        · exact .inl (by simp)
        · obtain ⟨o, ho, _, n', hd⟩ := hl
          exact .inr ⟨⟨o, _, n', ho, hd⟩, n⟩
      · simp at hb
        rw [Heap.size_push]
        rcases hb with rfl | rfl
        · exact Nat.lt_succ_self _
        · obtain ⟨o, ho, _⟩ := hl; exact Nat.lt_succ_of_lt (Heap.lt_size ho)
      · obtain ⟨v', hv', hr⟩ := r.get hd
        have : v = v' := by
          have hp' : vs[i]? = some v := by simpa using hp
          rw [hv'] at hp'; exact (Option.some.inj hp').symm
        subst this
        exact hr.keep k
      · obtain ⟨o, ho, hc, _⟩ := st.1
        exact letOwned_plain ho hc (by decide) hq
      · simp at hb; subst hb
        obtain ⟨o, ho, _⟩ := st.1; exact ⟨o, ho⟩⟩
end

end Mine
end

section
open PySem PySem.W PyProof.Rows PySem.Calls
set_option autoImplicit false
set_option linter.unusedVariables false
set_option maxRecDepth 100000
namespace Mine

mutual
theorem Rep.thru {h h' : Heap} {H P : Addr → Prop} (k : ∀ b o, ¬ P b → h.get? b = some o → h'.get? b = some o) (hp : ∀ b, P b → H b) : ∀ {v : Value} {d : Dt}, Rep h H v d → Rep h' H v d
  | _, _, .none => .none
  | _, _, .bool b => .bool b
  | _, _, .int i t => .int i t
  | _, _, .str x t => .str x t
  | _, _, .ty n => .ty n
  | _, _, .list l n r => .list (let ⟨o, ho, q⟩ := l; ⟨o, k _ o (fun e => n (hp _ e)) ho, q⟩) n (Reps.thru k hp r)
  | _, _, .tuple l n r => .tuple (let ⟨o, ho, q⟩ := l; ⟨o, k _ o (fun e => n (hp _ e)) ho, q⟩) n (Reps.thru k hp r)
theorem Reps.thru {h h' : Heap} {H P : Addr → Prop} (k : ∀ b o, ¬ P b → h.get? b = some o → h'.get? b = some o) (hp : ∀ b, P b → H b) : ∀ {v : List Value} {d : List Dt}, Reps h H v d → Reps h' H v d
  | _, _, .nil => .nil
  | _, _, .cons x y => .cons (Rep.thru k hp x) (Reps.thru k hp y)
end

section
variable {prog : Program} {w : Wd} {A : Around} {env : Env} {fr : Str → Bool} {ρ κ : Ds} {own : Own} {O : Out → Prop}

theorem isCell_at {h h' : Heap} {c : Addr} {v : Option Value} (x : h.IsCell c v) (k : ∀ o, h.get? c = some o → h'.get? c = some o) : h'.IsCell c v := let ⟨o, ho, hd⟩ := x; ⟨o, k o ho, hd⟩

/-- a change at places of P, all hidden, none the frame's own -/
theorem Wr.thru {h₀ h h' : Heap} {H H' P : Addr → Prop} (W : Wr w h₀ H env fr ρ κ own h) (k : ∀ b o, ¬ P b → h.get? b = some o → h'.get? b = some o) (hp : ∀ b, P b → H b) (h0 : ∀ b, P b → h₀.get? b = none) (hL : ¬ P env.locals)
    (hC : ∀ x c, env.cells.lookup x = some c → ¬ P c) (hO : ∀ e ∈ own, ¬ P e.2.1) (hH : ∀ b, H' b → H b) (low : ∀ b, H' b → P b → ∃ o, h'.get? b = some o) : Wr w h₀ H' env fr ρ κ own h' := by
  have k₀ : Keep h₀ h' := fun b o e => k b o (fun q => by rw [h0 b q] at e; cases e) (W.keep b o e)
  have hp' : ∀ b, P b → Hid H own b := fun b q => .inl (hp b q)
  have hh : ∀ b, Hid H' own b → Hid H own b ∨ h'.get? b = none := fun b q => .inl (q.elim (fun q => .inl (hH b q)) .inr)
  refine ⟨⟨W.gr₀.keep k₀, fun b hb => ?_, ?_, fun x c e => ?_, fun e he => ?_⟩, W.gr₀, k₀, W.newL, W.newC, W.apart, W.newO, W.apartO, fun e he q => W.lowO e he (hH _ q)⟩
  · by_cases q : P b
    · exact low b hb q
    · obtain ⟨o, e⟩ := W.rd.low b (hH b hb); exact ⟨o, k b o q e⟩
  · obtain ⟨m, p, q, r⟩ := W.rd.loc
    exact ⟨m, p.at' fun o e => k _ o hL e, fun x d e => let ⟨v, i, j⟩ := q x d e; ⟨v, i, (j.thru k hp').hide hh⟩, r⟩
  · obtain ⟨o, p, q⟩ := W.rd.cel x c e
    exact ⟨o, isCell_at p fun o e' => k _ o (hC x c e) e', fun d e => let ⟨v, i, j⟩ := q d e; ⟨v, i, (j.thru k hp').hide hh⟩⟩
  · obtain ⟨vs, n, p, q⟩ := W.rd.has e he
    exact ⟨vs, n, k _ _ (hO e he) p, (q.thru k hp').hide hh⟩
/-- a comprehension's frame, and the list that it fills -/
structure CI (w : Wd) (h₀ : Heap) (H : Addr → Prop) (D : Addr) (env : Env) (fr : Str → Bool) (ρ κ : Ds) (ds : List Dt) (h : Heap) : Prop where
  wr : Wr w h₀ H env fr ρ κ [] h
  hD : H D
  newD : h₀.get? D = none
  acc : ∃ vs, h.PlainList D (List.toArray vs) ∧ Reps h (Hid H []) vs ds
theorem CI.grow {h₀ h h' : Heap} {H : Addr → Prop} {D : Addr} {ds : List Dt} (c : CI w h₀ H D env fr ρ κ ds h) (k : Keep h h') : CI w h₀ H D env fr ρ κ ds h' :=
  ⟨c.wr.grow k, c.hD, c.newD, let ⟨vs, a, b⟩ := c.acc; ⟨vs, a.at fun o e => k _ o e, b.keep k⟩⟩
theorem CI.less {h₀ h : Heap} {H : Addr → Prop} {D : Addr} {ds : List Dt} {ρ' κ' : Ds} (c : CI w h₀ H D env fr ρ κ ds h) (a : Sub ρ' ρ) (b : Sub κ' κ) : CI w h₀ H D env fr ρ' κ' ds h := ⟨c.wr.less a b, c.hD, c.newD, c.acc⟩
theorem CI.notL {h₀ h : Heap} {H : Addr → Prop} {D : Addr} {ds : List Dt} (c : CI w h₀ H D env fr ρ κ ds h) : D ≠ env.locals := fun q => by
  obtain ⟨m, p, _⟩ := c.wr.rd.loc
  obtain ⟨vs, ⟨n, a⟩, _⟩ := c.acc
  exact NotSeq.ns p _ (q ▸ a) _ _ rfl
theorem CI.notC {h₀ h : Heap} {H : Addr → Prop} {D : Addr} {ds : List Dt} (c : CI w h₀ H D env fr ρ κ ds h) {x : Str} {a : Addr} (e : env.cells.lookup x = some a) : a ≠ D := fun q => by
  obtain ⟨o, p, _⟩ := c.wr.rd.cel x a e
  obtain ⟨vs, ⟨n, b⟩, _⟩ := c.acc
  exact NotSeq.cell p _ (q ▸ b) _ _ rfl
theorem CI.append {h₀ h h' : Heap} {H : Addr → Prop} {D : Addr} {ds : List Dt} {v : Value} {d : Dt} {vs : List Value} (c : CI w h₀ H D env fr ρ κ ds h) (sb : Heap.SameBut D h h') (hp : h'.PlainList D (vs.toArray.push v))
    (hr : Reps h (Hid H []) vs ds) (r : Rep h (Hid H []) v d) : CI w h₀ H D env fr ρ κ (ds ++ [d]) h' := by
  have k : ∀ b o, ¬ (b = D) → h.get? b = some o → h'.get? b = some o := fun b o q e => (sb.2 b q).trans e
  have hD : ∀ b, b = D → Hid H [] b := fun b q => .inl (q ▸ c.hD)
  refine ⟨c.wr.thru (P := fun b => b = D) k (fun b q => q ▸ c.hD) (fun b q => q ▸ c.newD) (fun q => c.notL q.symm) (fun x a e => c.notC e) (fun e he => nomatch he) (fun _ q => q) (fun b _ q => ?_), c.hD, c.newD, vs ++ [v], ?_, (hr.thru k hD).append (.cons (r.thru k hD) .nil)⟩
  · obtain ⟨n, e⟩ := hp; exact ⟨_, q ▸ e⟩
  · simpa using hp
/-- an act of a comprehension: it may add to its list -/
def Act (prog : Program) (w : Wd) (A : Around) (env : Env) (fr : Str → Bool) (ρ κ : Ds) (t : Value → Sem Unit) (out : List Dt) (k : Nat) : Prop :=
  ∀ h₀ H D ds s, CI w h₀ H D env fr ρ κ ds s.heap → ds.length + k ≤ sizeLine → wpAny (model prog w.wo) A (t (.ref D)) (fun _ s' => s'.gens = s.gens ∧ s'.os = s.os ∧ CI w h₀ H D env fr ρ κ (ds ++ out) s'.heap) No s
theorem Act.emit {elt : Expr} {d : Dt} {k : Nat} (h : Ev prog w A env ρ κ [] elt d) :
    Act prog w A env fr ρ κ (fun acc => do let _ ← call (.builtin "list.append") [acc, ← eval elt env]) [d] k := fun h₀ H D ds s c hz => by
  refine wpAny_bind (wpN (h H s c.wr.rd) fun v s₁ ⟨g, r⟩ => ?_)
  have c' := c.grow g.keep
  obtain ⟨vs, hp, hr⟩ := c'.acc
  refine wpAny_bind (wpAny_list_append_plain hp (fun h' hp' sb => wpAny_pure ⟨g.gens, g.os, c'.append sb hp' hr r⟩) ?_)
  rw [List.size_toArray, hr.length]; omega

/-- the test of a comprehension -/
abbrev testsT (ifs : List Expr) (env : Env) : Sem Bool := forIn ifs true fun c r => if r = true then do let ok ← isTrue c env (eval c env); pure (ForInStep.yield ok) else pure (ForInStep.yield r)
def TstC (prog : Program) (w : Wd) (A : Around) (env : Env) (ρ κ : Ds) (ifs : List Expr) (b : Bool) : Prop :=
  ∀ H s, Rd w H env ρ κ [] s.heap → wpAny (model prog w.wo) A (testsT ifs env) (fun b' s' => Grow s s' ∧ b' = b) No s
theorem TstC.nil : TstC prog w A env ρ κ [] true := fun H s R => wpAny_tests_nil ⟨.refl s, rfl⟩
theorem TstC.one {c : Expr} {b : Bool} (h : Tst prog w A env ρ κ [] c b) : TstC prog w A env ρ κ [c] b := fun H s R => wpAny_tests_one (h H s R)

mutual
theorem Rep.base {h : Heap} {H P : Addr → Prop} (hn : ∀ a, P a → H a ∨ NotSeq h a) : ∀ {v : Value} {d : Dt}, Rep h H v d → Rep (hideP h P) H v d
  | _, _, .none => .none
  | _, _, .bool b => .bool b
  | _, _, .int i t => .int i t
  | _, _, .str x t => .str x t
  | _, _, .ty n => .ty n
  | _, _, .list l n r => .list (by
      obtain ⟨o, ho, hc, m, hd⟩ := l
      exact ⟨o, hideP_of (fun q => (hn _ q).elim n fun z => z o ho _ _ hd) ho, hc, m, hd⟩) n (Reps.base hn r)
  | _, _, .tuple l n r => .tuple (by
      obtain ⟨o, ho, hc, m, hd⟩ := l
      exact ⟨o, hideP_of (fun q => (hn _ q).elim n fun z => z o ho _ _ hd) ho, hc, m, hd⟩) n (Reps.base hn r)
theorem Reps.base {h : Heap} {H P : Addr → Prop} (hn : ∀ a, P a → H a ∨ NotSeq h a) : ∀ {v : List Value} {d : List Dt}, Reps h H v d → Reps (hideP h P) H v d
  | _, _, .nil => .nil
  | _, _, .cons x y => .cons (Rep.base hn x) (Reps.base hn y)
end
theorem Wr.notSeq {h₀ h : Heap} {H : Addr → Prop} (W : Wr w h₀ H env fr ρ κ own h) (a : Addr) (m : Mayb env fr own a) : Hid H own a ∨ NotSeq h a := by
  rcases m with rfl | ⟨x, _, hc⟩ | ⟨e, he, rfl⟩
  · obtain ⟨m, p, _⟩ := W.rd.loc; exact .inr (.ns p)
  · obtain ⟨o, p, _⟩ := W.rd.cel x a hc; exact .inr (.cell p)
  · exact .inl (.inr ⟨e, he, rfl⟩)
theorem CI.base {h₀ h : Heap} {H : Addr → Prop} {D : Addr} {ds : List Dt} (c : CI w h₀ H D env fr ρ κ ds h) : CI w (hideP h fun a => Mayb env fr [] a ∨ a = D) H D env fr ρ κ ds h ∧ Keep h₀ (hideP h fun a => Mayb env fr [] a ∨ a = D) := by
  have k : Keep h₀ (hideP h fun a => Mayb env fr [] a ∨ a = D) := fun b o e => hideP_of (fun m => by
    rcases m with m | rfl
    · rw [c.wr.maybe m] at e; cases e
    · rw [c.newD] at e; cases e) (c.wr.keep b o e)
  exact ⟨⟨⟨c.wr.rd, c.wr.gr₀.keep k, fun b o e => (hideP_some e).2, hideP_none (.inl (.inl rfl)), fun x a e => ⟨(c.wr.newC x a e).1, fun hx => hideP_none (.inl (.inr (.inl ⟨x, hx, e⟩)))⟩, c.wr.apart, (fun e he => nomatch he), List.Pairwise.nil, (fun e he => nomatch he)⟩,
    c.hD, hideP_none (.inr rfl), c.acc⟩, k⟩
theorem CI.back {h₀ h₁ h : Heap} {H : Addr → Prop} {D : Addr} {ds : List Dt} (c : CI w h₁ H D env fr ρ κ ds h) (k : Keep h₀ h₁) (g : Gr w h₀) : CI w h₀ H D env fr ρ κ ds h := ⟨c.wr.back k g, c.hD, keep_none k c.newD, c.acc⟩
theorem CI.thru {h₀ h h' : Heap} {H H' P : Addr → Prop} {D : Addr} {ds : List Dt} (c : CI w h₀ H D env fr ρ κ ds h) (k : ∀ b o, ¬ P b → h.get? b = some o → h'.get? b = some o) (hp : ∀ b, P b → H b) (h0 : ∀ b, P b → h₀.get? b = none) (hL : ¬ P env.locals)
    (hC : ∀ x c, env.cells.lookup x = some c → ¬ P c) (hH : ∀ b, H' b → H b) (low : ∀ b, H' b → P b → ∃ o, h'.get? b = some o) (hD : H' D) (hPD : ¬ P D) : CI w h₀ H' D env fr ρ κ ds h' :=
  ⟨c.wr.thru k hp h0 hL hC (fun e he => nomatch he) hH low, hD, c.newD, let ⟨vs, a, b⟩ := c.acc; ⟨vs, a.at fun o e => k _ o hPD e, (b.thru k fun b q => .inl (hp b q)).hide fun b q => .inl (q.elim (fun q => .inl (hH b q)) .inr)⟩⟩

/-- the walk of one clause -/
theorem comp_loop {elt : Expr} {gens : List Comprehension} {scope : Scope} {pos : Pos} {depth : Nat} {target iter : Expr} {ifs : List Expr} {act : Value → Sem Unit} {D : Addr} {h₀ h₁ : Heap} {H H₀ : Addr → Prop} {s : Shared} {ds : List Dt} {outs : List (List Dt)} {R : Result → Shared → Prop} {ds₀ : List Dt}
    {I : Addr} {fp wr : List Addr} {P : Nat → Value → Prop} {St : Nat → Heap → Prop} (k : Nat)
    (hturn : ∀ it acc, compTurn (.ListComp elt gens scope pos) depth it acc env = (do
      standAt iter.pos
      match ← pyNext it with
      | none => pure (.done .next)
      | some v =>
        letOwnedTupleGo target it v
        assign target env v
        let ok ← testsT ifs env
        if ok = true then act acc
        again (.compLoop (.ListComp elt gens scope pos) depth it acc env)))
    (W : Walks prog w.wo A I fp wr ds.length P St) (hwr : ∀ b ∈ wr, H b ∧ h₀.get? b = none ∧ b ≠ D ∧ b ≠ env.locals ∧ ∀ x, env.cells.lookup x ≠ some b)
    (hfp : ∀ b ∈ fp, ¬ Mayb env fr [] b ∧ b ≠ D)
    (hP : ∀ i d v h, Keep h₁ h → ds[i]? = some d → P i v → Rep h (Hid H []) v d) (hlot : ∀ i t v (s : Shared) (Q : Unit → Shared → Prop), St i s.heap → Q () s → wpAny (model prog w.wo) A (letOwnedTupleGo t (.ref I) v) Q No s)
    (hlive : ∀ i h b, St i h → b ∈ wr → ∃ o, h.get? b = some o)
    (hlen : outs.length = ds.length) (hz : ds₀.length + outs.flatten.length + k ≤ sizeLine)
    (turn : ∀ (i : Nat) d o, ds[i]? = some d → outs[i]? = some o → ∃ ρ' κ' b, Asg prog w A env fr ρ κ [] target d ρ' κ' ∧ Sub ρ ρ' ∧ Sub κ κ' ∧ TstC prog w A env ρ' κ' ifs b ∧ (b = true → Act prog w A env fr ρ' κ' act o k) ∧ (b = false → o = []))
    (hst : St 0 s.heap) (h10 : Keep h₁ h₀) (ci : CI w h₀ H D env fr ρ κ ds₀ s.heap) (hH₀ : ∀ b, H₀ b → H b ∧ b ∉ wr) (hD₀ : H₀ D)
    (done : ∀ s', s'.gens = s.gens → s'.os = s.os → CI w h₀ H₀ D env fr ρ κ (ds₀ ++ outs.flatten) s'.heap → R (.ok .next) s') :
    codeAny (model prog w.wo) A (.compLoop (.ListComp elt gens scope pos) depth (.ref I) (.ref D) env) R s := by
  refine codeAny_loop rfl (fun n s' => ∃ i, i ≤ ds.length ∧ n = ds.length + 1 - i ∧ s'.gens = s.gens ∧ s'.os = s.os ∧ St i s'.heap ∧ CI w h₀ H D env fr ρ κ (ds₀ ++ (outs.take i).flatten) s'.heap) (fun n s' ⟨i, hi, hn, eg, eo, st, c⟩ => ?_) (ds.length + 1)
    ⟨0, Nat.zero_le _, rfl, rfl, rfl, hst, by simpa using ci⟩
  show wpAny _ A ((compTurn (.ListComp elt gens scope pos) depth (.ref I) (.ref D) env).onRaise (fun x => do noteFrame x env; theTreesLotGoes x)) _ _ s'
  rw [hturn]
  refine wpAny_noted (wpAny_mono (Q := fun fin s' => match fin with | .done f => R (.ok f) s' | .again c' => c' = .compLoop (.ListComp elt gens scope pos) depth (.ref I) (.ref D) env ∧ ∃ m, m < n ∧ ∃ i, i ≤ ds.length ∧ m = ds.length + 1 - i ∧ s'.gens = s.gens ∧ s'.os = s.os ∧ St i s'.heap ∧ CI w h₀ H D env fr ρ κ (ds₀ ++ (outs.take i).flatten) s'.heap) (E := No) ?_ (fun _ _ q => q) fun _ _ q => q.elim)
  have hkp : ∀ {h' : Heap}, (∀ b o, b ∉ wr → s'.heap.get? b = some o → h'.get? b = some o) → ∀ b o, ¬ (b ∈ wr) → s'.heap.get? b = some o → h'.get? b = some o := fun q => q
  refine wpAny_bind (wpAny_standAt (wpAny_bind ?_))
  rcases Nat.lt_or_ge i ds.length with hlt | hge
  · have hd : ds[i]? = some ds[i] := List.getElem?_eq_getElem hlt
    have ho : outs[i]? = some (outs[i]'(by omega)) := List.getElem?_eq_getElem (by omega)
    obtain ⟨ρ', κ', b, hasg, sρ, sκ, htst, hact, hno⟩ := turn i _ _ hd ho
    refine W.item i s' _ _ hlt st fun v h' tk hPv st' kk => ?_
    dsimp only
    have c₁ : CI w h₀ H D env fr ρ κ (ds₀ ++ (outs.take i).flatten) h' := c.thru (P := (· ∈ wr)) kk (fun b q => (hwr b q).1) (fun b q => (hwr b q).2.1) (fun q => (hwr _ q).2.2.2.1 rfl) (fun x a e q => (hwr _ q).2.2.2.2 x e) (fun _ q => q) (fun b _ q => hlive _ _ b st' q) c.hD (fun q => (hwr _ q).2.2.1 rfl)
    have rv : Rep h' (Hid H []) v ds[i] := hP i _ v h' (h10.trans c₁.wr.keep) hd hPv
    refine wpAny_bind (hlot _ _ _ { s' with heap := h', toks := tk } _ st' ?_)
    obtain ⟨wb, kb⟩ := c₁.wr.base
    refine wpAny_bind (wpN (hasg _ H { s' with heap := h', toks := tk } v wb rv) fun _ s₂ ⟨g2, o2, w2⟩ => ?_)
    have st₂ : St (i + 1) s₂.heap := W.frame _ _ _ st' fun b hb o e => w2.keep b o (hideP_of (hfp b hb).1 e)
    have c₂ : CI w h₀ H D env fr ρ' κ' (ds₀ ++ (outs.take i).flatten) s₂.heap := by
      refine ⟨w2.back kb c.wr.gr₀, c.hD, c.newD, ?_⟩
      obtain ⟨vs, a, r⟩ := c₁.acc
      refine ⟨vs, a.at fun o e => w2.keep _ o (hideP_of (fun m => ?_) e), (r.base c₁.wr.notSeq).keep w2.keep⟩
      obtain ⟨n', e'⟩ := a
      rcases c₁.wr.notSeq D m with _ | z
      · rcases m with q | ⟨x, _, hc⟩ | ⟨_, he, _⟩
        · exact c₁.notL q
        · exact c₁.notC hc rfl
        · cases he
      · exact z _ e' _ _ rfl
    refine wpAny_bind (wpN (htst H s₂ c₂.wr.rd) fun b' s₃ ⟨g₃, eb⟩ => ?_)
    subst eb
    have c₃ := c₂.grow g₃.keep
    have st₃ : St (i + 1) s₃.heap := W.frame _ _ _ st₂ fun b _ o e => g₃.keep b o e
    have eg₃ : s₃.gens = s.gens := g₃.gens.trans (g2.trans eg)
    have eo₃ : s₃.os = s.os := g₃.os.trans (o2.trans eo)
    have etake : ∀ o', outs[i]? = some o' → (outs.take (i + 1)).flatten = (outs.take i).flatten ++ o' := fun o' e => by
      rw [List.take_add_one, e]; simp
    cases b' with
    | false =>
      simp only [Bool.false_eq_true, if_false]
      refine wpAny_pure ⟨rfl, ds.length + 1 - (i + 1), by omega, i + 1, hlt, rfl, eg₃, eo₃, st₃, ?_⟩
      rw [etake _ ho, hno rfl, List.append_nil]
      exact c₃.less sρ sκ
    | true =>
      simp only [if_true]
      obtain ⟨cb, kb'⟩ := c₃.base
      have hsz : (ds₀ ++ (outs.take i).flatten).length + k ≤ sizeLine := by
        have : (outs.take i).flatten.length ≤ outs.flatten.length := by
          conv => rhs; rw [← List.take_append_drop i outs]
          rw [List.flatten_append, List.length_append]; omega
        rw [List.length_append]; omega
      refine wpAny_bind (wpN (hact rfl _ H D _ s₃ cb hsz) fun _ s₄ ⟨g4, o4, c4⟩ => ?_)
      refine wpAny_pure ⟨rfl, ds.length + 1 - (i + 1), by omega, i + 1, hlt, rfl, g4.trans eg₃, o4.trans eo₃, ?_, ?_⟩
      · exact W.frame _ _ _ st₃ fun b hb o e => c4.wr.keep b o (hideP_of (fun m => m.elim (hfp b hb).1 (hfp b hb).2) e)
      · rw [etake _ ho, ← List.append_assoc]
        exact (c4.back kb' c.wr.gr₀).less sρ sκ
  · have hie : i = ds.length := by omega
    subst hie
    refine W.done s' _ _ st fun h' tk kk => ?_
    dsimp only
    refine wpAny_pure (done _ eg eo ?_)
    have c₁ : CI w h₀ H₀ D env fr ρ κ (ds₀ ++ (outs.take ds.length).flatten) h' := c.thru (P := (· ∈ wr)) kk (fun b q => (hwr b q).1) (fun b q => (hwr b q).2.1) (fun q => (hwr _ q).2.2.2.1 rfl) (fun x a e q => (hwr _ q).2.2.2.2 x e) (fun _ q => (hH₀ _ q).1) (fun b q q' => absurd q' (hH₀ _ q).2) hD₀ (fun q => (hwr _ q).2.2.1 rfl)
    rwa [List.take_of_length_le (by omega)] at c₁
end

end Mine
end

section
open PySem PySem.W PyProof.Rows PySem.Calls
set_option autoImplicit false
set_option linter.unusedVariables false
set_option maxRecDepth 100000
namespace Mine

/-- the closure's cells are the frame's -/
def SubC : List (Str × Addr) → List (Str × Addr) → Prop
  | [], _ => True
  | (x, c) :: r, cs => cs.lookup x = some c ∧ SubC r cs
theorem SubC.lookup : ∀ {cl cs : List (Str × Addr)}, SubC cl cs → ∀ x c, cl.lookup x = some c → cs.lookup x = some c
  | (y, e) :: r, cs, ⟨h, t⟩, x, c, q => by
    rw [List.lookup_cons] at q
    by_cases hy : x = y
    · subst hy; simp at q; subst q; exact h
    · have : (x == y) = false := by simpa using hy
      rw [this] at q; exact SubC.lookup t x c q

section
variable {prog : Program} {w : Wd} {A : Around} {env : Env} {ρ κ : Ds} {own : Own}

/-- the frame of a comprehension: no cell of its own -/
theorem newEnv0 {scope : Scope} {cl : List (Str × Addr)} {s : Shared} {Q : Env → Shared → Prop} (h0 : ∀ n acc, cellsFrom n scope.names acc = acc) (hp : ∀ h, pushCells h scope.names = h)
    (h : Q { scope := scope, locals := s.heap.objs.size, globals := env.globals, cells := cl, qual := env.qual, func := none, code := env.code, frame := env.frame, builtins := env.builtins } { s with heap := s.heap.push { cls := .type "dict", data := .dict #[] } }) :
    wpAny (model prog w.wo) A (newFunctionEnv scope env.globals cl [] env.qual none .none (some env)) Q No s := by
  simp only [newFunctionEnv, Option.isSome_some, if_true]
  refine wpAny_bind (wpAny_alloc ?_)
  refine wpAny_bind (wpAny_layCells _ (fun name kind cells => by cases hkc : kind == NameKind.cell <;> simp) _ _ _ _ ?_)
  rw [h0, hp]
  exact wpAny_bind (wpAny_pure (wpAny_pure h))
/-- one cell of its own -/
theorem newEnv1 {scope : Scope} {cl : List (Str × Addr)} {x : Str} {s : Shared} {Q : Env → Shared → Prop} (h0 : ∀ n acc, cellsFrom n scope.names acc = (x, n) :: acc) (hp : ∀ h, pushCells h scope.names = h.push { cls := .type "cell", data := .cell none })
    (h : Q { scope := scope, locals := s.heap.objs.size, globals := env.globals, cells := (x, s.heap.objs.size + 1) :: cl, qual := env.qual, func := none, code := env.code, frame := env.frame, builtins := env.builtins }
      { s with heap := (s.heap.push { cls := .type "dict", data := .dict #[] }).push { cls := .type "cell", data := .cell none } }) :
    wpAny (model prog w.wo) A (newFunctionEnv scope env.globals cl [] env.qual none .none (some env)) Q No s := by
  simp only [newFunctionEnv, Option.isSome_some, if_true]
  refine wpAny_bind (wpAny_alloc ?_)
  refine wpAny_bind (wpAny_layCells _ (fun name kind cells => by cases hkc : kind == NameKind.cell <;> simp) _ _ _ _ ?_)
  rw [h0, hp]
  rw [show ({ s with heap := s.heap.push { cls := .type "dict", data := .dict #[] } } : Shared).heap.objs.size = s.heap.objs.size + 1 from Heap.size_push ..]
  exact wpAny_bind (wpAny_pure (wpAny_pure h))

theorem get_none_of_ge {h : Heap} {a : Addr} (q : h.objs.size ≤ a) : h.get? a = none := by
  cases e : h.get? a with
  | none => rfl
  | some o => exact absurd (Heap.lt_size e) (Nat.not_lt.mpr q)

/-- the start of a comprehension's walk: its list, its frame laid; a frame of kind fr -/
structure Laid0 (w : Wd) (h₁ : Heap) (H : Addr → Prop) (wr fp : List Addr) (D : Addr) (cenv : Env) (fr : Str → Bool) (κ : Ds) (h : Heap) : Prop where
  ci : CI w h₁ (fun b => H b ∨ b ∈ wr ∨ b = D) D cenv fr [] κ [] h
  hwr : ∀ b ∈ wr, h₁.get? b = none ∧ b ≠ D ∧ b ≠ cenv.locals ∧ ∀ x, cenv.cells.lookup x ≠ some b
  hfp : ∀ b ∈ fp, ¬ Mayb cenv fr [] b ∧ b ≠ D
  notH : ¬ H D

theorem cenv_locals {scope : Scope} {cs : List (Str × Addr)} {C : Addr} : (compEnvC scope cs C env).locals = C := rfl

/-- what holds when the list and the frame (no own cell) are laid behind the iterator -/
theorem laid_start0 {scope : Scope} {cl : List (Str × Addr)} {H : Addr → Prop} {h₁ h₂ : Heap} {wr fp : List Addr} (R : Rd w H env ρ κ own h₁) (k : Keep h₁ h₂) (hsub : SubC cl env.cells)
    (hwr : ∀ b ∈ wr, h₁.get? b = none) (hwl : ∀ b ∈ wr, ∃ o, h₂.get? b = some o) (hfp : ∀ b ∈ fp, b < h₂.objs.size) :
    Laid0 w h₁ (Hid H own) wr fp h₂.objs.size (compEnvC scope cl (h₂.objs.size + 1) env) (fun _ => false) κ ((h₂.push { cls := .type "list", data := .seq ([] : List Value).toArray }).push { cls := .type "dict", data := .dict #[] }) := by
  have kp : Keep h₂ ((h₂.push { cls := .type "list", data := .seq ([] : List Value).toArray }).push { cls := .type "dict", data := .dict #[] }) := (Keep.push _ _).trans (Keep.push _ _)
  have s1 : (h₂.push { cls := .type "list", data := .seq ([] : List Value).toArray }).objs.size = h₂.objs.size + 1 := Heap.size_push ..
  have n₁ : ∀ a, h₂.objs.size ≤ a → h₁.get? a = none := fun a ha => keep_none k (get_none_of_ge ha)
  have hidden : ∀ b, Hid (fun b => Hid H own b ∨ b ∈ wr ∨ b = h₂.objs.size) [] b → Hid H own b ∨ h₁.get? b = none := fun b q => by
    rcases q with (q | q | q) | ⟨_, q, _⟩
    · exact .inl q
    · exact .inr (hwr b q)
    · exact .inr (q ▸ n₁ _ (Nat.le_refl _))
    · cases q
  have mv : ∀ {v : Value} {d : Dt}, Rep h₁ (Hid H own) v d → Rep ((h₂.push { cls := .type "list", data := .seq ([] : List Value).toArray }).push { cls := .type "dict", data := .dict #[] }) (Hid (fun b => Hid H own b ∨ b ∈ wr ∨ b = h₂.objs.size) []) v d :=
    fun r => ((r.hide hidden).keep k).keep kp
  have hns : ((h₂.push { cls := .type "list", data := .seq ([] : List Value).toArray }).push { cls := .type "dict", data := .dict #[] }).Ns (h₂.objs.size + 1) fun _ => none := s1 ▸ Heap.Ns.new _ _
  have cellk : ∀ x c, cl.lookup x = some c → ∃ o, h₁.IsCell c o ∧ ∀ d, κ.lookup x = some d → ∃ v, o = some v ∧ Rep h₁ (Hid H own) v d := fun x c e => R.cel x c (hsub.lookup x c e)
  have clt : ∀ x c, cl.lookup x = some c → c < h₂.objs.size := fun x c e => by obtain ⟨o, p, _⟩ := cellk x c e; exact (p.keeps k).lt
  have hlow : ∀ b, Hid H own b ∨ b ∈ wr ∨ b = h₂.objs.size → ∃ o, ((h₂.push { cls := .type "list", data := .seq ([] : List Value).toArray }).push { cls := .type "dict", data := .dict #[] }).get? b = some o := fun b q => by
    rcases q with q | q | q
    · obtain ⟨o, e⟩ := R.gd.low b q; exact ⟨o, kp _ _ (k _ _ e)⟩
    · obtain ⟨o, e⟩ := hwl b q; exact ⟨o, kp _ _ e⟩
    · exact ⟨_, q ▸ Keep.push _ _ _ _ (Heap.get?_push_size _ rfl)⟩
  refine ⟨⟨⟨⟨R.gr.keep (k.trans kp), hlow, ⟨_, hns, (fun x d e => by cases e), (fun e he => by cases he)⟩, fun x c e => ?_, (fun e he => by cases he)⟩, R.gr, k.trans kp, n₁ _ (Nat.le_succ _), fun x c e => ⟨fun q => ?_, fun q => by cases q⟩, (fun x y c q => by cases q), (fun e he => by cases he), List.Pairwise.nil, (fun e he => by cases he)⟩,
    .inr (.inr rfl), n₁ _ (Nat.le_refl _), [], ⟨0, Keep.push _ _ _ _ (Heap.get?_push_size _ rfl)⟩, .nil⟩, fun b hb => ⟨hwr b hb, fun q => ?_, fun q => ?_, fun x e => ?_⟩, fun b hb => ⟨fun m => ?_, fun q => ?_⟩, fun q => ?_⟩
  · obtain ⟨o, p, q⟩ := cellk x c e
    exact ⟨o, (p.keeps k).keeps kp, fun d e => let ⟨v, i, j⟩ := q d e; ⟨v, i, mv j⟩⟩
  · have q' : c = h₂.objs.size + 1 := q
    have := clt x c e
    exact absurd this (by rw [q']; exact Nat.not_lt.mpr (Nat.le_succ _))
  · obtain ⟨o, e⟩ := hwl b hb; exact Nat.lt_irrefl _ (q ▸ Heap.lt_size e)
  · obtain ⟨o, e⟩ := hwl b hb
    have q' : b = h₂.objs.size + 1 := q
    exact absurd (Heap.lt_size e) (by rw [q']; exact Nat.not_lt.mpr (Nat.le_succ _))
  · obtain ⟨o, p, _⟩ := cellk x b e
    obtain ⟨o', ho', _⟩ := p
    rw [hwr b hb] at ho'; cases ho'
  · rcases m with q | ⟨_, q, _⟩ | ⟨_, q, _⟩
    · have q' : b = h₂.objs.size + 1 := q
      exact absurd (hfp b hb) (by rw [q']; exact Nat.not_lt.mpr (Nat.le_succ _))
    · cases q
    · cases q
  · exact absurd (hfp b hb) (by rw [q]; exact Nat.lt_irrefl _)
  · obtain ⟨o, e⟩ := R.gd.low _ q
    rw [n₁ _ (Nat.le_refl _)] at e; cases e
/-- the same with one own cell, the target's -/
theorem laid_start1 {scope : Scope} {cl : List (Str × Addr)} {x₀ : Str} {H : Addr → Prop} {h₁ h₂ : Heap} {wr fp : List Addr} (R : Rd w H env ρ κ own h₁) (k : Keep h₁ h₂) (hsub : SubC cl env.cells) (hκ : κ.lookup x₀ = none)
    (hwr : ∀ b ∈ wr, h₁.get? b = none) (hwl : ∀ b ∈ wr, ∃ o, h₂.get? b = some o) (hfp : ∀ b ∈ fp, b < h₂.objs.size) :
    Laid0 w h₁ (Hid H own) wr fp h₂.objs.size (compEnvC scope ((x₀, h₂.objs.size + 1 + 1) :: cl) (h₂.objs.size + 1) env) (fun x => x == x₀) κ
      (((h₂.push { cls := .type "list", data := .seq ([] : List Value).toArray }).push { cls := .type "dict", data := .dict #[] }).push { cls := .type "cell", data := .cell none }) := by
  generalize hb : ((h₂.push { cls := .type "list", data := .seq ([] : List Value).toArray }).push { cls := .type "dict", data := .dict #[] }).push { cls := .type "cell", data := .cell none } = hB
  have kp : Keep h₂ hB := hb ▸ ((Keep.push _ _).trans (Keep.push _ _)).trans (Keep.push _ _)
  have s1 : (h₂.push { cls := .type "list", data := .seq ([] : List Value).toArray }).objs.size = h₂.objs.size + 1 := Heap.size_push ..
  have s2 : ((h₂.push { cls := .type "list", data := .seq ([] : List Value).toArray }).push { cls := .type "dict", data := .dict #[] }).objs.size = h₂.objs.size + 1 + 1 := by rw [Heap.size_push, s1]
  have n₁ : ∀ a, h₂.objs.size ≤ a → h₁.get? a = none := fun a ha => keep_none k (get_none_of_ge ha)
  have hidden : ∀ b, Hid (fun b => Hid H own b ∨ b ∈ wr ∨ b = h₂.objs.size) [] b → Hid H own b ∨ h₁.get? b = none := fun b q => by
    rcases q with (q | q | q) | ⟨_, q, _⟩
    · exact .inl q
    · exact .inr (hwr b q)
    · exact .inr (q ▸ n₁ _ (Nat.le_refl _))
    · cases q
  have mv : ∀ {v : Value} {d : Dt}, Rep h₁ (Hid H own) v d → Rep hB (Hid (fun b => Hid H own b ∨ b ∈ wr ∨ b = h₂.objs.size) []) v d := fun r => ((r.hide hidden).keep k).keep kp
  have hns : hB.Ns (h₂.objs.size + 1) fun _ => none := by
    rw [← hb]; exact (s1 ▸ Heap.Ns.new _ _ : Heap.Ns _ (h₂.objs.size + 1) _).push _
  have hcell : hB.IsCell (h₂.objs.size + 1 + 1) none := by
    rw [← hb, ← s2]; exact ⟨_, Heap.get?_push_size _ rfl, rfl⟩
  have hDl : hB.get? h₂.objs.size = some { cls := .type "list", data := .seq ([] : List Value).toArray } := by
    rw [← hb]; exact Keep.push _ _ _ _ (Keep.push _ _ _ _ (Heap.get?_push_size _ rfl))
  have cellk : ∀ x c, cl.lookup x = some c → ∃ o, h₁.IsCell c o ∧ ∀ d, κ.lookup x = some d → ∃ v, o = some v ∧ Rep h₁ (Hid H own) v d := fun x c e => R.cel x c (hsub.lookup x c e)
  have clt : ∀ x c, cl.lookup x = some c → c < h₂.objs.size := fun x c e => by obtain ⟨o, p, _⟩ := cellk x c e; exact (p.keeps k).lt
  have lk : ∀ x c, List.lookup x ((x₀, h₂.objs.size + 1 + 1) :: cl) = some c → (x = x₀ ∧ c = h₂.objs.size + 1 + 1) ∨ (x ≠ x₀ ∧ cl.lookup x = some c) := fun x c e => by
    rw [List.lookup_cons] at e
    by_cases q : x = x₀
    · subst q; simp at e; exact .inl ⟨rfl, e.symm⟩
    · have : (x == x₀) = false := by simpa using q
      rw [this] at e; exact .inr ⟨q, e⟩
  have hlow : ∀ b, Hid H own b ∨ b ∈ wr ∨ b = h₂.objs.size → ∃ o, hB.get? b = some o := fun b q => by
    rcases q with q | q | q
    · obtain ⟨o, e⟩ := R.gd.low b q; exact ⟨o, kp _ _ (k _ _ e)⟩
    · obtain ⟨o, e⟩ := hwl b q; exact ⟨o, kp _ _ e⟩
    · exact ⟨_, q ▸ hDl⟩
  refine ⟨⟨⟨⟨R.gr.keep (k.trans kp), hlow, ⟨_, hns, (fun x d e => by cases e), (fun e he => by cases he)⟩, fun x c e => ?_, (fun e he => by cases he)⟩, R.gr, k.trans kp, n₁ _ (Nat.le_succ _), fun x c e => ⟨fun q => ?_, fun q => ?_⟩, fun x y c q e e' => ?_, (fun e he => by cases he), List.Pairwise.nil, (fun e he => by cases he)⟩,
    .inr (.inr rfl), n₁ _ (Nat.le_refl _), [], ⟨0, hDl⟩, .nil⟩, fun b hb => ⟨hwr b hb, fun q => ?_, fun q => ?_, fun x e => ?_⟩, fun b hb => ⟨fun m => ?_, fun q => ?_⟩, fun q => ?_⟩
  · rcases lk x c e with ⟨rfl, rfl⟩ | ⟨_, e⟩
    · exact ⟨none, hcell, fun d e => by rw [hκ] at e; cases e⟩
    · obtain ⟨o, p, q⟩ := cellk x c e
      exact ⟨o, (p.keeps k).keeps kp, fun d e => let ⟨v, i, j⟩ := q d e; ⟨v, i, mv j⟩⟩
  · have q' : c = h₂.objs.size + 1 := q
    rcases lk x c e with ⟨rfl, rfl⟩ | ⟨_, e⟩
    · exact absurd q' (Nat.succ_ne_self _)
    · have := clt x c e
      exact absurd this (by rw [q']; exact Nat.not_lt.mpr (Nat.le_succ _))
  · rcases lk x c e with ⟨rfl, rfl⟩ | ⟨ne, e⟩
    · exact n₁ _ (Nat.le_trans (Nat.le_succ _) (Nat.le_succ _))
    · exact absurd (by simpa using q) ne
  · have q' : x = x₀ := by simpa using q
    subst q'
    rcases lk x c e with ⟨_, rfl⟩ | ⟨ne, _⟩
    · rcases lk y _ e' with ⟨rfl, _⟩ | ⟨_, e'⟩
      · rfl
      · exact absurd (clt y _ e') (Nat.not_lt.mpr (Nat.le_trans (Nat.le_succ _) (Nat.le_succ _)))
    · exact absurd rfl ne
  · obtain ⟨o, e⟩ := hwl b hb; exact Nat.lt_irrefl _ (q ▸ Heap.lt_size e)
  · obtain ⟨o, e⟩ := hwl b hb
    have q' : b = h₂.objs.size + 1 := q
    exact absurd (Heap.lt_size e) (by rw [q']; exact Nat.not_lt.mpr (Nat.le_succ _))
  · rcases lk x b e with ⟨rfl, rfl⟩ | ⟨_, e⟩
    · obtain ⟨o, e⟩ := hwl _ hb
      exact absurd (Heap.lt_size e) (Nat.not_lt.mpr (Nat.le_trans (Nat.le_succ _) (Nat.le_succ _)))
    · obtain ⟨o, p, _⟩ := cellk x b e
      obtain ⟨o', ho', _⟩ := p
      rw [hwr b hb] at ho'; cases ho'
  · have hlt := hfp b hb
    rcases m with q | ⟨x, q, e⟩ | ⟨_, q, _⟩
    · have q' : b = h₂.objs.size + 1 := q
      exact absurd hlt (by rw [q']; exact Nat.not_lt.mpr (Nat.le_succ _))
    · have q' : x = x₀ := by simpa using q
      rcases lk x b e with ⟨_, q⟩ | ⟨ne, _⟩
      · exact absurd hlt (by rw [q]; exact Nat.not_lt.mpr (Nat.le_trans (Nat.le_succ _) (Nat.le_succ _)))
      · exact absurd q' ne
    · cases q
  · exact absurd (hfp b hb) (by rw [q]; exact Nat.lt_irrefl _)
  · obtain ⟨o, e⟩ := R.gd.low _ q
    rw [n₁ _ (Nat.le_refl _)] at e; cases e
end

end Mine
end

section
open PySem PySem.W PyProof.Rows PySem.Calls
set_option autoImplicit false
set_option linter.unusedVariables false
set_option maxRecDepth 100000
namespace Mine

section
variable {prog : Program} {w : Wd} {A : Around} {env : Env} {ρ κ : Ds} {own : Own}

/-- how a comprehension lays its frame -/
structure Lays (prog : Program) (w : Wd) (A : Around) (env : Env) (ρ κ : Ds) (own : Own) (scope : Scope) (cl : List (Str × Addr)) (cs : Addr → List (Str × Addr)) (fr : Str → Bool) (lay : Heap → Heap) : Prop where
  new : ∀ (s : Shared) (Q : Env → Shared → Prop), Q { scope := scope, locals := s.heap.objs.size, globals := env.globals, cells := cs s.heap.objs.size, qual := env.qual, func := none, code := env.code, frame := env.frame, builtins := env.builtins } { s with heap := lay s.heap } →
    wpAny (model prog w.wo) A (newFunctionEnv scope env.globals cl [] env.qual none .none (some env)) Q No s
  laid : ∀ (H : Addr → Prop) (h₁ h₂ : Heap) (wr fp : List Addr), Rd w H env ρ κ own h₁ → Keep h₁ h₂ → (∀ b ∈ wr, h₁.get? b = none) → (∀ b ∈ wr, ∃ o, h₂.get? b = some o) → (∀ b ∈ fp, b < h₂.objs.size) →
    Laid0 w h₁ (Hid H own) wr fp h₂.objs.size (compEnvC scope (cs (h₂.objs.size + 1)) (h₂.objs.size + 1) env) fr κ (lay (h₂.push { cls := .type "list", data := .seq ([] : List Value).toArray }))
  grow : ∀ h, Keep h (lay h)
theorem Lays.zero {scope : Scope} {cl : List (Str × Addr)} (hsub : SubC cl env.cells) (h0 : ∀ n acc, cellsFrom n scope.names acc = acc) (hp : ∀ h, pushCells h scope.names = h) :
    Lays prog w A env ρ κ own scope cl (fun _ => cl) (fun _ => false) (fun h => h.push { cls := .type "dict", data := .dict #[] }) :=
  ⟨fun s Q h => newEnv0 h0 hp h, fun H h₁ h₂ wr fp R k a b c => laid_start0 R k hsub a b c, fun h => Keep.push _ _⟩
theorem Lays.one {scope : Scope} {cl : List (Str × Addr)} {x : Str} (hsub : SubC cl env.cells) (hκ : κ.lookup x = none) (h0 : ∀ n acc, cellsFrom n scope.names acc = (x, n) :: acc) (hp : ∀ h, pushCells h scope.names = h.push { cls := .type "cell", data := .cell none }) :
    Lays prog w A env ρ κ own scope cl (fun C => (x, C + 1) :: cl) (fun y => y == x) (fun h => (h.push { cls := .type "dict", data := .dict #[] }).push { cls := .type "cell", data := .cell none }) :=
  ⟨fun s Q h => newEnv1 h0 hp h, fun H h₁ h₂ wr fp R k a b c => laid_start1 R k hsub hκ a b c, fun h => (Keep.push _ _).trans (Keep.push _ _)⟩

theorem comp_core {elt target iter : Expr} {ifs : List Expr} {gs : List Comprehension} {scope : Scope} {pos pos' : Pos} {cl : List (Str × Addr)} {cs : Addr → List (Str × Addr)} {fr : Str → Bool} {lay : Heap → Heap} {act : Env → Value → Sem Unit} {ds : List Dt} {outs : List (List Dt)} {use : Option (Value → Sem Unit)}
    {Q : Value → Shared → Prop} {H : Addr → Prop} {s : Shared} (k : Nat) (hit : EvIt prog w A env ρ κ own iter ds) (L : Lays prog w A env ρ κ own scope cl cs fr lay)
    (hs : ∀ x, foldedSetIterable iter env x = pure x) (hclos : closureFor scope env = pure cl) (hkind : scope.kind = .function) (hnames : ∀ x ∈ scope.names, x.2 = .local → scope.names.lookup x.1 = some .local)
    (hturn : ∀ env it acc, compTurn (.ListComp elt (⟨target, iter, ifs, 0⟩ :: gs) scope pos) 0 it acc env = (do
      standAt iter.pos
      match ← pyNext it with
      | none => pure (.done .next)
      | some v =>
        letOwnedTupleGo target it v
        assign target env v
        let ok ← testsT ifs env
        if ok = true then act env acc
        again (.compLoop (.ListComp elt (⟨target, iter, ifs, 0⟩ :: gs) scope pos) 0 it acc env)))
    (hlen : outs.length = ds.length) (hz : outs.flatten.length + k ≤ sizeLine)
    (turn : ∀ C (i : Nat) d o, ds[i]? = some d → outs[i]? = some o → ∃ ρ' κ' b, Asg prog w A (compEnvC scope (cs C) C env) fr [] κ [] target d ρ' κ' ∧ Sub κ κ' ∧ TstC prog w A (compEnvC scope (cs C) C env) ρ' κ' ifs b ∧
      (b = true → Act prog w A (compEnvC scope (cs C) C env) fr ρ' κ' (act (compEnvC scope (cs C) C env)) o k) ∧ (b = false → o = []))
    (R : Rd w H env ρ κ own s.heap)
    (fin : ∀ s₁ s' acc C m, Grow s s₁ → Grow s₁ s' → Rep s'.heap (Hid H own) acc (.list outs.flatten) → s'.heap.Ns C m → s₁.heap.get? C = none → (∀ a, acc = .ref a → a ≠ C) → compPost (model prog w.wo) A No use Q acc C (.ok .next) s') :
    wpAny (model prog w.wo) A (comprehension (.ListComp elt (⟨target, iter, ifs, 0⟩ :: gs) scope pos) scope env pos' (newList []) false (eval iter env) use) Q No s := by
  refine wpAny_comprehension_free (g := ⟨target, iter, ifs, 0⟩) (gs := gs) rfl hs hclos hkind hnames ?_
  refine wpN (hit H s R) fun x s₁ ⟨g₁, hx⟩ => wpN hx fun it s₂ ⟨g₂, src⟩ => ?_
  obtain ⟨I, fp, wr, P, St, rfl, W, st, hwr, hfp, hfz, hP, hlot, hlive⟩ := src.go
  have R₁ := R.keep g₁.keep
  refine wpAny_newObj_type ?_
  refine L.new _ _ ?_
  have Z := L.laid H s₁.heap s₂.heap wr fp R₁ g₂.keep hwr (fun b hb => hlive 0 _ b st hb) hfz
  have s1 : (s₂.heap.push { cls := .type "list", data := .seq ([] : List Value).toArray }).objs.size = s₂.heap.objs.size + 1 := Heap.size_push ..
  show codeAny (model prog w.wo) A (.compStart (.ListComp elt (⟨target, iter, ifs, 0⟩ :: gs) scope pos) 0 (.ref I) (.ref s₂.heap.objs.size)
    (compEnvC scope (cs (s₂.heap.push { cls := .type "list", data := .seq ([] : List Value).toArray }).objs.size) (s₂.heap.push { cls := .type "list", data := .seq ([] : List Value).toArray }).objs.size env))
    (compPost (model prog w.wo) A No use Q (.ref s₂.heap.objs.size) (s₂.heap.push { cls := .type "list", data := .seq ([] : List Value).toArray }).objs.size) { s₂ with heap := lay (s₂.heap.push { cls := .type "list", data := .seq ([] : List Value).toArray }) }
  rw [s1]
  generalize hh : lay (s₂.heap.push { cls := .type "list", data := .seq ([] : List Value).toArray }) = hB at Z ⊢
  have kB2 : Keep s₂.heap hB := hh ▸ (Keep.push _ _).trans (L.grow _)
  have kB : Keep s₁.heap hB := Z.ci.wr.keep
  have stB : St 0 hB := W.frame _ _ _ st fun b hb o e => kB2 b o e
  have key : codeAny (model prog w.wo) A (.compLoop (.ListComp elt (⟨target, iter, ifs, 0⟩ :: gs) scope pos) 0 (.ref I) (.ref s₂.heap.objs.size) (compEnvC scope (cs (s₂.heap.objs.size + 1)) (s₂.heap.objs.size + 1) env))
      (compPost (model prog w.wo) A No use Q (.ref s₂.heap.objs.size) (s₂.heap.objs.size + 1)) { s₂ with heap := hB } := by
    refine comp_loop (h₁ := s₁.heap) (H₀ := fun b => Hid H own b ∨ b = s₂.heap.objs.size) (act := act (compEnvC scope (cs (s₂.heap.objs.size + 1)) (s₂.heap.objs.size + 1) env)) k (hturn _) W
      (fun b hb => ⟨.inr (.inl hb), (Z.hwr b hb).1, (Z.hwr b hb).2.1, (Z.hwr b hb).2.2.1, (Z.hwr b hb).2.2.2⟩) Z.hfp (fun i d v h kh hd hp => ?_) hlot hlive hlen (by simpa using hz)
      (fun i d o hd ho => ?_) stB (Keep.refl _) Z.ci (fun b q => ?_) (.inr rfl) fun s' eg eo c => ?_
    · refine ((hP i d v s₁.heap (Keep.refl _) hd hp).hide fun b q => ?_).keep kh
      rcases q with (q | q | q) | ⟨_, q, _⟩
      · exact .inl q
      · exact .inr (hwr b q)
      · exact .inr (q ▸ keep_none g₂.keep (get_none_of_ge (Nat.le_refl _)))
      · cases q
    · obtain ⟨ρ', κ', b, h1, h2, h3, h4, h5⟩ := turn (s₂.heap.objs.size + 1) i d o hd ho
      exact ⟨ρ', κ', b, h1, .nil _, h2, h3, h4, h5⟩
    · rcases q with q | q
      · refine ⟨.inl q, fun hb => ?_⟩
        obtain ⟨o, e⟩ := R₁.gd.low b q
        rw [hwr b hb] at e; cases e
      · exact ⟨.inr (.inr q), fun hb => (Z.hwr b hb).2.1 q⟩
    · obtain ⟨m, hn, _⟩ := c.wr.rd.loc
      obtain ⟨vs, hp, hr⟩ := c.acc
      rw [List.nil_append] at hr
      refine fin s₁ s' _ (s₂.heap.objs.size + 1) m g₁ ⟨c.wr.keep, eg.trans g₂.gens, eo.trans g₂.os⟩ (.list hp.isList Z.notH (hr.hide fun b q => .inl (.inl (.inl q)))) hn c.wr.newL fun a e => ?_
      cases e
      exact Nat.ne_of_lt (Nat.lt_succ_self _)
  exact codeAny_compStart_list key (W.self 0 _ _ _ stB key)
end

end Mine
end

section
open PySem PySem.W PyProof.Rows PySem.Calls
set_option autoImplicit false
set_option linter.unusedVariables false
set_option maxRecDepth 100000
namespace Mine

section
variable {prog : Program} {w : Wd} {A : Around} {env : Env} {ρ κ : Ds} {own : Own}

theorem flatten_toList : ∀ (es : List (Option Dt)), (es.map Option.toList).flatten = es.filterMap id
  | [] => rfl
  | none :: es => by simpa using flatten_toList es
  | some e :: es => by simpa using flatten_toList es

/-- what is asked of a comprehension of one clause -/
structure Comp1 (prog : Program) (w : Wd) (A : Around) (env : Env) (ρ κ : Ds) (own : Own) (elt target iter : Expr) (ifs : List Expr) (scope : Scope) (es : List (Option Dt)) : Prop where
  go : ∃ cl cs fr lay ds, ∃ ρs κs : Dt → Ds, EvIt prog w A env ρ κ own iter ds ∧ Lays prog w A env ρ κ own scope cl cs fr lay ∧ (∀ x, foldedSetIterable iter env x = pure x) ∧ closureFor scope env = pure cl ∧ scope.kind = .function ∧
    (∀ x ∈ scope.names, x.2 = .local → scope.names.lookup x.1 = some .local) ∧ es.length = ds.length ∧
    (∀ C (i : Nat) d, ds[i]? = some d → Asg prog w A (compEnvC scope (cs C) C env) fr [] κ [] target d (ρs d) (κs d)) ∧ (∀ d, Sub κ (κs d)) ∧
    (∀ C (i : Nat) d e, ds[i]? = some d → es[i]? = some e → TstC prog w A (compEnvC scope (cs C) C env) (ρs d) (κs d) ifs e.isSome ∧ (∀ y, e = some y → Ev prog w A (compEnvC scope (cs C) C env) (ρs d) (κs d) [] elt y))
theorem Comp1.core {elt target iter : Expr} {ifs : List Expr} {scope : Scope} {pos pos' : Pos} {es : List (Option Dt)} {use : Option (Value → Sem Unit)} {Q : Value → Shared → Prop} {H : Addr → Prop} {s : Shared}
    (c : Comp1 prog w A env ρ κ own elt target iter ifs scope es) (hz : es.length + 1 ≤ sizeLine) (R : Rd w H env ρ κ own s.heap)
    (fin : ∀ s₁ s' acc C m, Grow s s₁ → Grow s₁ s' → Rep s'.heap (Hid H own) acc (.list (es.filterMap id)) → s'.heap.Ns C m → s₁.heap.get? C = none → (∀ a, acc = .ref a → a ≠ C) → compPost (model prog w.wo) A No use Q acc C (.ok .next) s') :
    wpAny (model prog w.wo) A (comprehension (.ListComp elt [⟨target, iter, ifs, 0⟩] scope pos) scope env pos' (newList []) false (eval iter env) use) Q No s := by
  obtain ⟨cl, cs, fr, lay, ds, ρs, κs, hit, L, hs, hclos, hkind, hnames, hlen, hasg, hsub, helt⟩ := c.go
  refine comp_core (act := fun env acc => do let _ ← call (.builtin "list.append") [acc, ← eval elt env]) (outs := es.map Option.toList) 1 hit L hs hclos hkind hnames (fun env it acc => rfl) (by rw [List.length_map]; exact hlen) ?_ (fun C i d o hd ho => ?_) R ?_
  · rw [flatten_toList]
    have := List.length_filterMap_le id es
    omega
  · rw [List.getElem?_map, Option.map_eq_some_iff] at ho
    obtain ⟨e, he, rfl⟩ := ho
    obtain ⟨h1, h2⟩ := helt C i d e hd he
    refine ⟨_, _, _, hasg C i d hd, hsub d, h1, fun q => ?_, fun q => ?_⟩
    · cases e with
      | none => cases q
      | some y => exact Act.emit (h2 y rfl)
    · cases e with
      | none => rfl
      | some y => cases q
  · rw [flatten_toList]; exact fin

theorem Ev.comp {elt target iter : Expr} {ifs : List Expr} {scope : Scope} {pos : Pos} {es : List (Option Dt)} (c : Comp1 prog w A env ρ κ own elt target iter ifs scope es) (hz : es.length + 1 ≤ sizeLine) :
    Ev prog w A env ρ κ own (.ListComp elt [⟨target, iter, ifs, 0⟩] scope pos) (.list (es.filterMap id)) := fun H s R => by
  rw [eval_ListComp]
  refine c.core hz R fun s₁ s' acc C m g₁ g₂ r hn hC hacc => ⟨m, hn, fun h' sb => ?_⟩
  have ns := NotSeq.ns hn
  refine ⟨g₁.trans ⟨fun b o e => (sb.2 b fun q => by rw [q, hC] at e; cases e).trans (g₂.keep b o e), g₂.gens, g₂.os⟩, r.same sb (.inr ns)⟩

/-- a change at one place that is none of the frame's -/
theorem Wr.other {fr : Str → Bool} {h₀ h h' : Heap} {H : Addr → Prop} {C : Addr} (W : Wr w h₀ H env fr ρ κ own h) (sb : Heap.SameBut C h h') (ns : NotSeq h C) (h0 : h₀.get? C = none) (hL : env.locals ≠ C) (hC : ∀ x c, env.cells.lookup x = some c → c ≠ C)
    (low : ∀ b, H b → b ≠ C) : Wr w h₀ H env fr ρ κ own h' := by
  have k₀ : Keep h₀ h' := fun b o e => (sb.2 b fun q => by rw [q, h0] at e; cases e).trans (W.keep b o e)
  refine ⟨⟨W.gr₀.keep k₀, fun b hb => ?_, ?_, fun x c e => ?_, fun e he => ?_⟩, W.gr₀, k₀, W.newL, W.newC, W.apart, W.newO, W.apartO, W.lowO⟩
  · obtain ⟨o, e⟩ := W.rd.low b hb; exact ⟨o, (sb.2 b (low b hb)).trans e⟩
  · obtain ⟨m, p, q, r⟩ := W.rd.loc
    exact ⟨m, p.sameBut sb hL, fun x d e => let ⟨v, i, j⟩ := q x d e; ⟨v, i, j.same sb (.inr ns)⟩, r⟩
  · obtain ⟨o, p, q⟩ := W.rd.cel x c e
    exact ⟨o, p.sameBut sb (hC x c e), fun d e => let ⟨v, i, j⟩ := q d e; ⟨v, i, j.same sb (.inr ns)⟩⟩
  · obtain ⟨vs, n, p, q⟩ := W.rd.has e he
    exact ⟨vs, n, (sb.2 _ fun z => by rw [z] at p; exact ns _ p _ _ rfl).trans p, q.same sb (.inr ns)⟩

/-- y = [.. for ..], y a local name of the row's own line -/
theorem Exs.compL {O : Out → Prop} {elt target iter : Expr} {ifs : List Expr} {scope : Scope} {pos py spos : Pos} {y : Str} {rest : List Stmt} {es : List (Option Dt)} (c : Comp1 prog w A env ρ κ own elt target iter ifs scope es) (hz : es.length + 1 ≤ sizeLine)
    (hr : Exs prog w A env ((y, .list (es.filterMap id)) :: ρ) κ own rest O)
    (hsw : swapsWith (.ListComp elt [⟨target, iter, ifs, 0⟩] scope pos) (some (.Name y py)) spos.line env = pure true := by rfl)
    (hk : env.scope.kind = .function := by kernel_rfl!) (hl : env.kindOf y = some .local := by kernel_rfl!) (hx : (own.any fun e => e.1 == y) = false := by kernel_rfl!) :
    Exs prog w A env ρ κ own (.Assign [.Name y py] (.ListComp elt [⟨target, iter, ifs, 0⟩] scope pos) spos :: rest) O :=
  .cons fun h₀ H s W => by
    rw [exec_Assign_Name_used _ _ _ _ hsw]
    refine wpAny_bind (wpAny_standAt (wpAny_bind ?_))
    show wpAny _ _ (comprehension (.ListComp elt [⟨target, iter, ifs, 0⟩] scope pos) scope env iter.pos (newList []) false (eval iter env) (some (assign (.Name y py) env)) >>= fun _ => pure ()) _ _ s
    refine wpAny_bind (c.core hz W.rd fun s₁ s' acc C m g₁ g₂ r hn hC hacc => ?_)
    have W₁ := W.grow g₁.keep
    have W' := W₁.grow g₂.keep
    have c0 : h₀.get? C = none := keep_none W₁.keep hC
    have live : ∀ {a : Addr} {o : Obj}, s₁.heap.get? a = some o → a ≠ C := fun e q => by rw [q, hC] at e; cases e
    have hL : env.locals ≠ C := by obtain ⟨_, ⟨_, _, _, e, _⟩, _⟩ := W₁.rd.loc; exact live e
    have hCc : ∀ x c, env.cells.lookup x = some c → c ≠ C := fun x c e => by obtain ⟨_, ⟨_, e', _⟩, _⟩ := W₁.rd.cel x c e; exact live e'
    have hCm : ¬ Mayb env allF own C := fun q => by
      rcases q with q | ⟨x, _, e⟩ | ⟨e, he, q⟩
      · exact hL q.symm
      · exact hCc x C e rfl
      · obtain ⟨_, _, e', _⟩ := W₁.rd.has e he; exact live e' q
    obtain ⟨wb, kb⟩ := W'.base
    refine wpAny_assign_Name (wpN (wb.storeL r hk hl hx) fun _ s₂ ⟨a, b, W₂⟩ => ?_)
    have hn₂ : s₂.heap.Ns C m := hn.at' fun o e => W₂.keep _ o (hideP_of hCm e)
    refine ⟨m, hn₂, fun h' sb => wpAny_pure (wpAny_pure ⟨a.trans (g₂.gens.trans g₁.gens), b.trans (g₂.os.trans g₁.os), .next ((y, .list (es.filterMap id)) :: ρ) κ own, hr, ?_⟩)⟩
    exact (W₂.back kb W.gr₀).other sb (.ns hn₂) c0 hL hCc fun b hb => by obtain ⟨o, e⟩ := W₁.rd.low b hb; exact live e

/-- a map: no test, the target a local name -/
theorem Comp1.map {elt iter : Expr} {x : Str} {px : Pos} {scope : Scope} {ds es : List Dt} (hit : EvIt prog w A env ρ κ own iter ds) (hlen : es.length = ds.length) (cl : List (Str × Addr)) (hclos : closureFor scope env = pure cl) (hsub : SubC cl env.cells)
    (helt : ∀ C (i : Nat) d e, ds[i]? = some d → es[i]? = some e → Ev prog w A (compEnvC scope cl C env) [(x, d)] κ [] elt e)
    (h0 : ∀ n acc, cellsFrom n scope.names acc = acc := by exact fun _ _ => rfl) (hp : ∀ h, pushCells h scope.names = h := by exact fun _ => rfl)
    (hs : ∀ x, foldedSetIterable iter env x = pure x := by intro _; rfl) (hkind : scope.kind = .function := by kernel_rfl!) (hnames : ∀ x ∈ scope.names, x.2 = .local → scope.names.lookup x.1 = some .local := by decide)
    (hk : ∀ C, (compEnvC scope cl C env).scope.kind = .function := by intro _; kernel_rfl!) (hl : ∀ C, (compEnvC scope cl C env).kindOf x = some .local := by intro _; kernel_rfl!) :
    Comp1 prog w A env ρ κ own elt (.Name x px) iter [] scope (es.map some) :=
  ⟨cl, fun _ => cl, _, _, ds, fun d => [(x, d)], fun _ => κ, hit, .zero hsub h0 hp, hs, hclos, hkind, hnames, by rw [List.length_map]; exact hlen, fun C i d hd => Asg.loc (hk C) (hl C) rfl, fun d => .refl _, fun C i d e hd he => by
    rw [List.getElem?_map, Option.map_eq_some_iff] at he
    obtain ⟨y, hy, rfl⟩ := he
    exact ⟨.nil, fun z q => by cases q; exact helt C i d _ hd hy⟩⟩
/-- a map: the target a cell of its own -/
theorem Comp1.mapC {elt iter : Expr} {x : Str} {px : Pos} {scope : Scope} {ds es : List Dt} (hit : EvIt prog w A env ρ κ own iter ds) (hlen : es.length = ds.length) (cl : List (Str × Addr)) (hclos : closureFor scope env = pure cl) (hsub : SubC cl env.cells)
    (helt : ∀ C (i : Nat) d e, ds[i]? = some d → es[i]? = some e → Ev prog w A (compEnvC scope ((x, C + 1) :: cl) C env) [] ((x, d) :: κ) [] elt e) (hκ : κ.lookup x = none)
    (h0 : ∀ n acc, cellsFrom n scope.names acc = (x, n) :: acc := by exact fun _ _ => rfl) (hp : ∀ h, pushCells h scope.names = h.push { cls := .type "cell", data := .cell none } := by exact fun _ => rfl)
    (hs : ∀ x, foldedSetIterable iter env x = pure x := by intro _; rfl) (hkind : scope.kind = .function := by kernel_rfl!) (hnames : ∀ x ∈ scope.names, x.2 = .local → scope.names.lookup x.1 = some .local := by decide)
    (hk : ∀ C, (compEnvC scope ((x, C + 1) :: cl) C env).scope.kind = .function := by intro _; kernel_rfl!) (hl : ∀ C, (compEnvC scope ((x, C + 1) :: cl) C env).kindOf x = some .cell := by intro _; kernel_rfl!) :
    Comp1 prog w A env ρ κ own elt (.Name x px) iter [] scope (es.map some) :=
  ⟨cl, fun C => (x, C + 1) :: cl, _, _, ds, fun d => [], fun d => (x, d) :: κ, hit, .one hsub hκ h0 hp, hs, hclos, hkind, hnames, by rw [List.length_map]; exact hlen,
    fun C i d hd => Asg.cell (C + 1) (by rw [show (compEnvC scope ((x, C + 1) :: cl) C env).cells = (x, C + 1) :: cl from rfl, List.lookup_cons]; simp) (by simp) (hk C) (hl C), fun d => .fresh hκ, fun C i d e hd he => by
    rw [List.getElem?_map, Option.map_eq_some_iff] at he
    obtain ⟨y, hy, rfl⟩ := he
    exact ⟨.nil, fun z q => by cases q; exact helt C i d _ hd hy⟩⟩
/-- a filter and a map: one test -/
theorem Comp1.filter {elt iter t : Expr} {x : Str} {px : Pos} {scope : Scope} {ds : List Dt} {es : List (Option Dt)} (hit : EvIt prog w A env ρ κ own iter ds) (hlen : es.length = ds.length) (cl : List (Str × Addr)) (hclos : closureFor scope env = pure cl) (hsub : SubC cl env.cells)
    (helt : ∀ C (i : Nat) d e, ds[i]? = some d → es[i]? = some e → Tst prog w A (compEnvC scope cl C env) [(x, d)] κ [] t e.isSome ∧ ∀ y, e = some y → Ev prog w A (compEnvC scope cl C env) [(x, d)] κ [] elt y)
    (h0 : ∀ n acc, cellsFrom n scope.names acc = acc := by exact fun _ _ => rfl) (hp : ∀ h, pushCells h scope.names = h := by exact fun _ => rfl)
    (hs : ∀ x, foldedSetIterable iter env x = pure x := by intro _; rfl) (hkind : scope.kind = .function := by kernel_rfl!) (hnames : ∀ x ∈ scope.names, x.2 = .local → scope.names.lookup x.1 = some .local := by decide)
    (hk : ∀ C, (compEnvC scope cl C env).scope.kind = .function := by intro _; kernel_rfl!) (hl : ∀ C, (compEnvC scope cl C env).kindOf x = some .local := by intro _; kernel_rfl!) :
    Comp1 prog w A env ρ κ own elt (.Name x px) iter [t] scope es :=
  ⟨cl, fun _ => cl, _, _, ds, fun d => [(x, d)], fun _ => κ, hit, .zero hsub h0 hp, hs, hclos, hkind, hnames, hlen, fun C i d hd => Asg.loc (hk C) (hl C) rfl, fun d => .refl _, fun C i d e hd he =>
    ⟨.one (helt C i d e hd he).1, (helt C i d e hd he).2⟩⟩
theorem filterMap_some (es : List Dt) : (es.map some).filterMap id = es := by
  induction es with
  | nil => rfl
  | cons e es ih => simpa using ih
theorem Ev.compM {elt target iter : Expr} {ifs : List Expr} {scope : Scope} {pos : Pos} {es : List Dt} (c : Comp1 prog w A env ρ κ own elt target iter ifs scope (es.map some)) (hz : es.length + 1 ≤ sizeLine) :
    Ev prog w A env ρ κ own (.ListComp elt [⟨target, iter, ifs, 0⟩] scope pos) (.list es) := by
  have := Ev.comp (pos := pos) c (by rw [List.length_map]; exact hz)
  rwa [filterMap_some] at this
theorem Exs.compM {O : Out → Prop} {elt target iter : Expr} {ifs : List Expr} {scope : Scope} {pos py spos : Pos} {y : Str} {rest : List Stmt} {es : List Dt} (c : Comp1 prog w A env ρ κ own elt target iter ifs scope (es.map some)) (hz : es.length + 1 ≤ sizeLine)
    (hr : Exs prog w A env ((y, .list es) :: ρ) κ own rest O)
    (hsw : swapsWith (.ListComp elt [⟨target, iter, ifs, 0⟩] scope pos) (some (.Name y py)) spos.line env = pure true := by rfl)
    (hk : env.scope.kind = .function := by kernel_rfl!) (hl : env.kindOf y = some .local := by kernel_rfl!) (hx : (own.any fun e => e.1 == y) = false := by kernel_rfl!) :
    Exs prog w A env ρ κ own (.Assign [.Name y py] (.ListComp elt [⟨target, iter, ifs, 0⟩] scope pos) spos :: rest) O :=
  .compL c (by rw [List.length_map]; exact hz) (by rw [filterMap_some]; exact hr) hsw hk hl hx
end

end Mine
end

section
open PySem PySem.W PyProof.Rows PySem.Calls
set_option autoImplicit false
set_option linter.unusedVariables false
set_option maxRecDepth 100000
namespace Mine

section
variable {prog : Program} {w : Wd} {A : Around} {env : Env} {fr : Str → Bool} {ρ κ : Ds} {own : Own} {O : Out → Prop}

theorem Wr.hideTo {h₀ h₁ h₂ : Heap} {H H' : Addr → Prop} (W : Wr w h₀ H env fr ρ κ own h₁) (k : Keep h₁ h₂) (hh : ∀ b, H' b → H b ∨ h₁.get? b = none) (low : ∀ b, H' b → ∃ o, h₂.get? b = some o) : Wr w h₀ H' env fr ρ κ own h₂ := by
  have hh' : ∀ b, Hid H' own b → Hid H own b ∨ h₁.get? b = none := fun b q => q.elim (fun q => (hh b q).imp .inl id) fun q => .inl (.inr q)
  refine ⟨⟨W.rd.gr.keep k, low, ?_, fun x c e => ?_, fun e he => ?_⟩, W.gr₀, W.keep.trans k, W.newL, W.newC, W.apart, W.newO, W.apartO, fun e he q => (hh _ q).elim (W.lowO e he) fun z => by obtain ⟨_, _, p, _⟩ := W.rd.has e he; rw [z] at p; cases p⟩
  · obtain ⟨m, p, q, r⟩ := W.rd.loc
    exact ⟨m, p.keeps k, fun x d e => let ⟨v, i, j⟩ := q x d e; ⟨v, i, (j.hide hh').keep k⟩, r⟩
  · obtain ⟨o, p, q⟩ := W.rd.cel x c e
    exact ⟨o, p.keeps k, fun d e => let ⟨v, i, j⟩ := q d e; ⟨v, i, (j.hide hh').keep k⟩⟩
  · obtain ⟨vs, n, p, q⟩ := W.rd.has e he
    exact ⟨vs, n, k _ _ p, (q.hide hh').keep k⟩

/-- what a turn of a loop must come to -/
def Turn (prog : Program) (w : Wd) (A : Around) (env : Env) (rest : List Stmt) (O : Out → Prop) (B : Prop) (ρ' κ' : Ds) (own' : Own) : Out → Prop
  | .next ρ κ own => B ∧ Sub ρ' ρ ∧ Sub κ' κ ∧ own = own'
  | .cont ρ κ own => B ∧ Sub ρ' ρ ∧ Sub κ' κ ∧ own = own'
  | .brk ρ κ own => Exs prog w A env ρ κ own rest O
  | .ret d => O (.ret d)

theorem Exs.loop {target iter : Expr} {body rest : List Stmt} {pos : Pos} {ds : List Dt} (hit : EvIt prog w A env ρ κ own iter ds) (B : Nat → Prop) (ρs κs : Nat → Ds) (owns : Nat → Own)
    (hB : B 0) (hρ : Sub (ρs 0) ρ) (hκ : Sub (κs 0) κ) (ho : owns 0 = own) (hadr : ∀ i, (owns i).map (·.2.1) = own.map (·.2.1))
    (turn : ∀ i d, ds[i]? = some d → B i → ∃ ρ' κ', Asg prog w A env allF (ρs i) (κs i) (owns i) target d ρ' κ' ∧ Exs prog w A env ρ' κ' (owns i) body (Turn prog w A env rest O (B (i + 1)) (ρs (i + 1)) (κs (i + 1)) (owns (i + 1))))
    (fin : B ds.length → Exs prog w A env (ρs ds.length) (κs ds.length) (owns ds.length) rest O)
    (hs : ∀ x, foldedSetIterable iter env x = pure x := by intro _; rfl) : Exs prog w A env ρ κ own (.For target iter body [] pos :: rest) O :=
  .cons fun h₀ H s W => by
    refine wpAny_For (wpN (hit H s W.rd) fun x s₁ ⟨g₁, hx⟩ => wpN hx fun it s₂ ⟨g₂, src⟩ => ?_) hs
    obtain ⟨I, fp, wr, P, St, rfl, Wk, st, hwr, hfp, hfz, hP, hlot, hlive⟩ := src.go
    have W₀ := W.grow g₁.keep
    obtain ⟨W₁, kb₀⟩ := W₀.base
    have ns₁ := W₀.notSeq
    -- the iterator's places are none of the frame's
    have live : ∀ {a : Addr} {o : Obj}, s₁.heap.get? a = some o → ∀ b ∈ wr, a ≠ b := fun e b hb q => by rw [q, hwr b hb] at e; cases e
    have hL : ∀ b ∈ wr, env.locals ≠ b := by obtain ⟨_, ⟨_, _, _, e, _⟩, _⟩ := W₁.rd.loc; exact live e
    have hC : ∀ x c, env.cells.lookup x = some c → ∀ b ∈ wr, c ≠ b := fun x c e => by obtain ⟨_, ⟨_, e', _⟩, _⟩ := W₁.rd.cel x c e; exact live e'
    have hO' : ∀ a ∈ own.map (·.2.1), ∀ b ∈ wr, a ≠ b := fun a ha => by
      obtain ⟨e, he, rfl⟩ := List.mem_map.mp ha
      obtain ⟨_, _, e', _⟩ := W₁.rd.has e he; exact live e'
    have hOi : ∀ i, ∀ e ∈ owns i, ∀ b ∈ wr, e.2.1 ≠ b := fun i e he => hO' _ (hadr i ▸ List.mem_map_of_mem he)
    have hM : ∀ i, ∀ b ∈ fp, ¬ Mayb env allF (owns i) b := fun i b hb m => by
      rcases hfp b hb with q | ⟨⟨o, xs, n, e, hd⟩, hn⟩
      · rcases m with m | ⟨x, _, m⟩ | ⟨e, he, m⟩
        · exact hL b q m.symm
        · exact hC x b m b q rfl
        · exact hOi i e he b q m
      · rcases m with m | ⟨x, _, m⟩ | ⟨e', he, m⟩
        · obtain ⟨_, p, _⟩ := W₁.rd.loc; exact NotSeq.ns p _ (m ▸ e) _ _ hd
        · obtain ⟨_, p, _⟩ := W₁.rd.cel x b m; exact NotSeq.cell p _ e _ _ hd
        · have : b ∈ own.map (·.2.1) := hadr i ▸ m ▸ List.mem_map_of_mem he
          obtain ⟨e'', he'', q⟩ := List.mem_map.mp this
          exact hn (.inr ⟨e'', he'', q⟩)
    generalize hb₀e : hideP s₁.heap (Mayb env allF own) = hb₀ at W₁ kb₀
    have h0wr : ∀ b ∈ wr, hb₀.get? b = none := fun b hb => keep_none W₁.keep (hwr b hb)
    have hHwr : ∀ b, H b → b ∉ wr := fun b hb q => by obtain ⟨o, e⟩ := W₁.rd.low b hb; exact live e b q rfl
    have W₂ : Wr w hb₀ (fun b => H b ∨ b ∈ wr) env allF (ρs 0) (κs 0) (owns 0) s₂.heap := by
      rw [ho]
      refine (W₁.hideTo g₂.keep (fun b q => q.imp id (hwr b)) fun b q => ?_).less hρ hκ
      rcases q with q | q
      · obtain ⟨o, e⟩ := W₁.rd.low b q; exact ⟨o, g₂.keep _ _ e⟩
      · exact hlive 0 _ b st q
    have hback : ∀ {f : Flow} {s' : Shared} {o : Out}, OutOk w hb₀ (fun b => H b ∨ b ∈ wr) env f s'.heap o → OutOk w h₀ H env f s'.heap o := fun {f s' o} ok => by
      cases f <;> cases o <;> first | exact ok.elim | exact (Wr.hideTo ok (Keep.refl _) (fun b q => .inl (.inl q)) (fun b q => ok.rd.low b (.inl q))).back kb₀ W.gr₀ | exact ⟨kb₀.trans ok.1, ok.2.hide fun b q => .inl (.inl q)⟩
    refine codeAny_loop' rfl (fun n s' => ∃ i, i ≤ ds.length ∧ n = ds.length + 1 - i ∧ B i ∧ s'.gens = s.gens ∧ s'.os = s.os ∧ St i s'.heap ∧ Wr w hb₀ (fun b => H b ∨ b ∈ wr) env allF (ρs i) (κs i) (owns i) s'.heap) (fun n s' ⟨i, hi, hn, b, eg, eo, st', W'⟩ => ?_) (ds.length + 1)
      ⟨0, Nat.zero_le _, rfl, hB, g₂.gens.trans g₁.gens, g₂.os.trans g₁.os, st, W₂⟩
    show wpAny _ _ ((forTurn target (.ref I) body [] env).onRaise (fun x => do noteFrame x env; theTreesLotGoes x)) _ _ s'
    refine wpAny_noted (wpAny_mono (Q := fun fin s'' => match fin with
      | .done f => s''.gens = s.gens ∧ s''.os = s.os ∧ ∃ o, After prog w A env rest O o ∧ OutOk w h₀ H env f s''.heap o
      | .again c' => (c' = .forLoop target (.ref I) body [] env ∧ ∃ m, m < n ∧ ∃ i, i ≤ ds.length ∧ m = ds.length + 1 - i ∧ B i ∧ s''.gens = s.gens ∧ s''.os = s.os ∧ St i s''.heap ∧ Wr w hb₀ (fun b => H b ∨ b ∈ wr) env allF (ρs i) (κs i) (owns i) s''.heap) ∨
          (c' = .block [] env ∧ s''.gens = s.gens ∧ s''.os = s.os ∧ ∃ o, After prog w A env rest O o ∧ OutOk w h₀ H env .next s''.heap o)) (E := No) ?_ (fun fin s'' q => ?_) fun _ _ q => q.elim)
    · unfold forTurn
      refine wpAny_bind (wpAny_standAt (wpAny_bind (wpAny_onRaise ?_)))
      rcases Nat.lt_or_ge i ds.length with hlt | hge
      · have hd : ds[i]? = some ds[i] := List.getElem?_eq_getElem hlt
        obtain ⟨ρ', κ', hasg, hbody⟩ := turn i _ hd b
        refine Wk.item i s' _ _ hlt st' fun v h' tk hPv st₁ kk => ?_
        dsimp only
        have W₃ : Wr w hb₀ (fun b => H b ∨ b ∈ wr) env allF (ρs i) (κs i) (owns i) h' := W'.thru (P := (· ∈ wr)) kk (fun b q => .inr q) h0wr (fun q => hL _ q rfl) (fun x c e q => hC x c e _ q rfl) (fun e he q => hOi i e he _ q rfl) (fun _ q => q) (fun b _ q => hlive _ _ b st₁ q)
        have rv : Rep h' (Hid (fun b => H b ∨ b ∈ wr) (owns i)) v ds[i] := by
          have r₁ := (hP i _ v s₁.heap (Keep.refl _) hd hPv).base ns₁
          rw [hb₀e] at r₁
          refine (r₁.hide fun b q => ?_).keep W₃.keep
          rcases q with (q | q) | ⟨e, he, q⟩
          · exact .inl (.inl q)
          · exact .inr (h0wr b q)
          · have : b ∈ own.map (·.2.1) := hadr i ▸ q ▸ List.mem_map_of_mem he
            obtain ⟨e'', he'', q⟩ := List.mem_map.mp this
            exact .inl (.inr ⟨e'', he'', q⟩)
        refine wpAny_bind (hlot _ _ _ { s' with heap := h', toks := tk } _ st₁ ?_)
        obtain ⟨wb, kb⟩ := W₃.base
        refine wpAny_bind (wpN (hasg _ _ { s' with heap := h', toks := tk } v wb rv) fun _ s₃ ⟨g3, o3, w3⟩ => ?_)
        have st₃ : St (i + 1) s₃.heap := Wk.frame _ _ _ st₁ fun b hb o e => w3.keep b o (hideP_of (hM i b hb) e)
        have W₄ := w3.back kb W₁.gr₀
        obtain ⟨wb', kb'⟩ := W₄.base
        refine wpAny_bind (wpN (hbody _ _ s₃ wb') fun f s₄ ⟨g4, o4, o, to, ok⟩ => ?_)
        have eg₄ : s₄.gens = s.gens := g4.trans (g3.trans eg)
        have eo₄ : s₄.os = s.os := o4.trans (o3.trans eo)
        have stK : Keep (hideP s₃.heap (Mayb env allF (owns i))) s₄.heap → St (i + 1) s₄.heap := fun kx => Wk.frame _ _ _ st₃ fun b hb o e => kx b o (hideP_of (hM i b hb) e)
        cases f with
        | next => cases o with
          | next ρ₁ κ₁ own₁ =>
            obtain ⟨b', s1, s2, rfl⟩ := to
            exact wpAny_pure (.inl ⟨rfl, ds.length + 1 - (i + 1), by omega, i + 1, hlt, rfl, b', eg₄, eo₄, stK ok.keep, (ok.back kb' W₁.gr₀).less s1 s2⟩)
          | brk | cont | ret => exact ok.elim
        | cont => cases o with
          | cont ρ₁ κ₁ own₁ =>
            obtain ⟨b', s1, s2, rfl⟩ := to
            exact wpAny_pure (.inl ⟨rfl, ds.length + 1 - (i + 1), by omega, i + 1, hlt, rfl, b', eg₄, eo₄, stK ok.keep, (ok.back kb' W₁.gr₀).less s1 s2⟩)
          | brk | next | ret => exact ok.elim
        | brk => cases o with
          | brk ρ₁ κ₁ own₁ => exact wpAny_pure ⟨eg₄, eo₄, .next ρ₁ κ₁ own₁, to, hback (f := .next) (o := .next ρ₁ κ₁ own₁) (ok.back kb' W₁.gr₀)⟩
          | cont | next | ret => exact ok.elim
        | ret v => cases o with
          | ret d => exact wpAny_pure ⟨eg₄, eo₄, .ret d, to, (kb₀.trans kb').trans ok.1, ok.2.hide fun b q => .inl (.inl q)⟩
          | cont | next | brk => exact ok.elim
      · have hie : i = ds.length := by omega
        subst hie
        refine Wk.done s' _ _ st' fun h' tk kk => ?_
        dsimp only
        refine wpAny_pure (.inr ⟨rfl, eg, eo, .next _ _ _, fin b, ?_⟩)
        exact (W'.thru (P := (· ∈ wr)) kk (fun b q => .inr q) h0wr (fun q => hL _ q rfl) (fun x c e q => hC x c e _ q rfl) (fun e he q => hOi _ e he _ q rfl) (fun _ q => .inl q) (fun b q q' => absurd q' (hHwr b q))).back kb₀ W.gr₀
    · cases fin with
      | done f => exact q
      | again c' =>
        rcases q with q | ⟨rfl, q⟩
        · exact .inl q
        · refine .inr ⟨rfl, codeAny_block ?_⟩
          exact wpAny_execs_nil q
end

end Mine
end

section
open PySem PySem.W PyProof.Rows PySem.Calls
set_option autoImplicit false
set_option linter.unusedVariables false
set_option maxRecDepth 100000
namespace Mine

section
variable {prog : Program} {w : Wd} {A : Around} {env : Env} {fr : Str → Bool} {ρ κ : Ds} {own : Own} {O : Out → Prop}

/-- a call of a built-in class by its name -/
theorem Ev.callT {x : Str} {np pos : Pos} {T : String} {es : List Expr} {ds : List Dt} {d : Dt} (h : Evs prog w A env ρ κ own es ds) (hf : OpN prog w A (fun vs => call (.type T) vs) ds d)
    (e : x ∈ bltNames) (hv : bootBuiltins x = some (.type T)) (hn : x ≠ "__name__")
    (hg : env.globals = mainGlobals := by kernel_rfl!) (hb : env.builtins = builtinsNs := by kernel_rfl!) (hkf : env.scope.kind = .function := by kernel_rfl!) (hx : env.kindOf x = some .globalImplicit := by kernel_rfl!) (hd : (x == ("__debug__" : Str)) = false := by decide +kernel) :
    Ev prog w A env ρ κ own (.Call (.Name x np) es [] pos) d := fun H s R =>
  Call_ (nameB R.gr e hv hn (PyProof.Rows.callWith_type h.any (wpN (h.args H s R) fun a s₁ ⟨ek, g, r⟩ => by
    rw [ek]
    exact wpN (hf _ s₁ _ (R.keep g.keep).gd r) fun v s₂ ⟨g₂, r₂⟩ => ⟨g.trans g₂, r₂⟩)) hg hb hkf hx hd) rfl

/-- range(n) -/
theorem EvIt.range {np pos : Pos} {e : Expr} {n : Nat} (hh : A.handled = none) (h : Ev prog w A env ρ κ own e (.int n)) (hn : n < 2 ^ 20) (e0 : ("range" : Str) ∈ bltNames) (hp : plainE e = true := by rfl)
    (hg : env.globals = mainGlobals := by kernel_rfl!) (hb : env.builtins = builtinsNs := by kernel_rfl!) (hkf : env.scope.kind = .function := by kernel_rfl!) (hx : env.kindOf "range" = some .globalImplicit := by kernel_rfl!) :
    EvIt prog w A env ρ κ own (.Call (.Name "range" np) [e] [] pos) ((List.range n).map fun (i : Nat) => .int i) := fun H s R =>
  Call_ (nameB R.gr e0 (v := .type "range") (by decide +kernel) (by decide +kernel) (PyProof.Rows.callWith_type (Evs.any (.one h hp)) (wpN (Evs.args (.one h hp) H s R) fun a s₁ ⟨ek, g, r⟩ => by
    rw [ek]
    generalize a.pos = vs at r
    cases r with
    | cons r₁ r₂ =>
      cases r₂
      cases r₁ with
      | int _ t =>
        refine call_range_1 ⟨g.trans ⟨Keep.push _ _, rfl, rfl⟩, ?_⟩
        refine wpAny_pyIter_range (IsRange.new _ _ _ _ _ _ _) (small_one (by omega) (by omega) (by omega) (by omega)) ⟨⟨Keep.push _ _, rfl, rfl⟩, ?_⟩
        generalize hh₁ : s₁.heap.push { cls := .type "range", data := .fields #[.int 0 s₁.toks, .int n t, .int 1 (s₁.toks + 1)] } = h₁
        have hz : Builtin.Range.rangeSize 0 (n : Int) 1 = n := by rw [rangeSize_one]; split <;> omega
        rw [hz]
        have hl : ((List.range n).map fun (i : Nat) => Dt.int i).length = n := by simp
        refine ⟨h₁.objs.size, [h₁.objs.size], [h₁.objs.size], (fun i v => ∃ t, v = .int ((0 : Int) + (i : Int)) t), (fun i h => IsRangeIter h h₁.objs.size ((0 : Int) + (i : Nat) * 1) ((n : Int) - (i : Nat)) 1), rfl, hl.symm ▸ LCg.range_walks hh 0 n, ?_, fun b hb => ?_, fun b hb => .inl hb, fun b hb => ?_, fun i d v h' k hd hp => ?_, fun i t v s Q st hq => ?_, fun i h' b st hb => ?_⟩
        · have := Heap.get?_push_size h₁ (o := { cls := .type "range_iterator", data := .fields #[rawInt 0, rawInt n, rawInt 1] }) rfl
          simpa using this
        · simp at hb; subst hb; exact get_none_of_ge (Nat.le_refl _)
        · simp at hb; subst hb; show _ < (Heap.push _ _).objs.size; rw [Heap.size_push]; exact Nat.lt_succ_self _
        · obtain ⟨t', rfl⟩ := hp
          rw [List.getElem?_map, Option.map_eq_some_iff] at hd
          obtain ⟨j, hj, rfl⟩ := hd
          have := List.getElem?_eq_some_iff.mp hj
          obtain ⟨_, e⟩ := this
          simp at e; subst e
          simp only [Int.zero_add]
          exact .int _ _
        · exact letOwned_plain (show s.heap.get? h₁.objs.size = some _ from st) rfl (by decide) hq
        · simp at hb; subst hb; exact ⟨_, st⟩)) hg hb hkf hx (by decide +kernel)) rfl

/-- binding a row of targets -/
inductive Asgs (prog : Program) (w : Wd) (A : Around) (env : Env) (fr : Str → Bool) (own : Own) : List Expr → List Dt → Ds → Ds → Ds → Ds → Prop
  | nil {ρ κ : Ds} : Asgs prog w A env fr own [] [] ρ κ ρ κ
  | cons {t : Expr} {ts : List Expr} {d : Dt} {ds : List Dt} {ρ κ ρ₁ κ₁ ρ₂ κ₂ : Ds} : Asg prog w A env fr ρ κ own t d ρ₁ κ₁ → Asgs prog w A env fr own ts ds ρ₁ κ₁ ρ₂ κ₂ → plainE t = true → Asgs prog w A env fr own (t :: ts) (d :: ds) ρ κ ρ₂ κ₂
theorem assignEach_plain {t : Expr} {r : List Expr} (h : plainE t = true) : assignEach (t :: r) env = (false, assign t env) :: assignEach r env := by
  cases t <;> first | rfl | cases h
theorem Asgs.each {ts : List Expr} {ds : List Dt} {ρ κ ρ' κ' : Ds} (h : Asgs prog w A env fr own ts ds ρ κ ρ' κ') : (assignEach ts env).length = ds.length ∧ (assignEach ts env).findIdx? (·.1) = none := by
  induction h with
  | nil => exact ⟨rfl, rfl⟩
  | cons _ _ hp ih =>
    rw [assignEach_plain hp]
    refine ⟨by simp [ih.1], ?_⟩
    rw [List.findIdx?_cons]
    simp [ih.2]
theorem Asgs.go {ts : List Expr} {ds : List Dt} {ρ κ ρ' κ' : Ds} (h : Asgs prog w A env fr own ts ds ρ κ ρ' κ') : ∀ h₀ H s vs, Wr w h₀ H env fr ρ κ own s.heap → Reps s.heap (Hid H own) vs ds →
    wpAny (model prog w.wo) A (assignInOrder ((assignEach ts env).map (·.2)) vs) (fun _ s' => s'.gens = s.gens ∧ s'.os = s.os ∧ Wr w h₀ H env fr ρ' κ' own s'.heap) No s := by
  induction h with
  | nil =>
    intro h₀ H s vs W r
    cases r
    exact wpAny_pure ⟨rfl, rfl, W⟩
  | @cons t ts d ds ρ κ ρ₁ κ₁ ρ₂ κ₂ ha _ hp ih =>
    intro h₀ H s vs W r
    cases r with
    | cons r₁ r₂ =>
      rw [assignEach_plain hp]
      obtain ⟨wb, kb⟩ := W.base
      refine wpAny_bind (wpAny_holding (wpN (ha _ H s _ wb r₁) fun _ s₁ ⟨g, o, w1⟩ => ?_))
      exact wpN (ih h₀ H s₁ _ (w1.back kb W.gr₀) ((r₂.base W.notSeq).keep w1.keep)) fun _ s₂ ⟨g', o', w2⟩ => ⟨g'.trans g, o'.trans o, w2⟩
/-- a tuple of targets, of a tuple -/
theorem Asg.tup {ts : List Expr} {k : Nat} {pos : Pos} {ds : List Dt} {ρ' κ' : Ds} (hh : A.handled = none) (h : Asgs prog w A env fr own ts ds ρ κ ρ' κ') : Asg prog w A env fr ρ κ own (.Tuple ts k pos) (.tuple ds) ρ' κ' := fun h₀ H s v W r => by
  cases r with
  | @tuple a vs _ ht n r =>
    have hz : vs.toArray.size = ds.length := by rw [List.size_toArray, r.length]
    refine assign_Tuple_tuple hh ht (by rw [hz]; exact h.each.1) h.each.2 fun h' he => ?_
    have k' : Keep s.heap h' := fun b o e => he b o (Nat.ne_of_lt (Heap.lt_size e)) e
    exact h.go h₀ H { s with heap := h' } vs (W.grow k') (r.keep k')
theorem Exs.unpack {ts : List Expr} {k : Nat} {tp pos : Pos} {e : Expr} {rest : List Stmt} {ds : List Dt} {ρ' κ' : Ds} (h : Ev prog w A env ρ κ own e (.tuple ds)) (hh : A.handled = none) (ha : Asgs prog w A env allF own ts ds ρ κ ρ' κ')
    (hr : Exs prog w A env ρ' κ' own rest O) (hs : swapsWithSole [.Tuple ts k tp] e pos.line env = pure false := by rfl) (hw : swappedStores [.Tuple ts k tp] e env = pure none := by rfl) :
    Exs prog w A env ρ κ own (.Assign [.Tuple ts k tp] e pos :: rest) O :=
  .cons fun h₀ H s W => Assign_Tuple (wpN (h H s W.rd) fun v s₁ ⟨g, r⟩ => wpN (Asg.tup hh ha h₀ H s₁ v (W.grow g.keep) r) fun _ s₂ ⟨a, b, W'⟩ => ⟨a.trans g.gens, b.trans g.os, .next ρ' κ' own, hr, W'⟩) hs hw
/-- two names, two values written side by side -/
theorem Exs.unpackS {ts : List Expr} {k : Nat} {tp pos : Pos} {e : Expr} {rest : List Stmt} {x₁ x₂ : Str} {d₁ d₂ : Dt} (h : Ev prog w A env ρ κ own e (.tuple [d₁, d₂])) (hh : A.handled = none)
    (hr : Exs prog w A env ((x₁, d₁) :: (x₂, d₂) :: ρ) κ own rest O) (hw : swappedStores [.Tuple ts k tp] e env = pure (some [x₁, x₂])) (hs : swapsWithSole [.Tuple ts k tp] e pos.line env = pure false := by rfl)
    (hk : env.scope.kind = .function := by kernel_rfl!) (hl₁ : env.kindOf x₁ = some .local := by kernel_rfl!) (hl₂ : env.kindOf x₂ = some .local := by kernel_rfl!) (hx₁ : (own.any fun e => e.1 == x₁) = false := by kernel_rfl!) (hx₂ : (own.any fun e => e.1 == x₂) = false := by kernel_rfl!) :
    Exs prog w A env ρ κ own (.Assign [.Tuple ts k tp] e pos :: rest) O :=
  .cons fun h₀ H s W => Assign_Tuple_swapped (names := [x₁, x₂]) (wpN (h H s W.rd) fun v s₁ ⟨g, r⟩ => by
    cases r with
    | @tuple a vs _ ht n r =>
      have hz : vs.toArray.size = 2 := by rw [List.size_toArray, r.length]; rfl
      show wpAny _ _ (unpackItems (.ref a) 2 none) _ _ _
      rw [← hz]
      refine unpackItems_tuple hh ht fun h' he => ?_
      have k' : Keep s₁.heap h' := fun b o e => he b o (Nat.ne_of_lt (Heap.lt_size e)) e
      cases r with
      | @cons v₁ _ _ _ r₁ r₂ => cases r₂ with
        | @cons v₂ _ _ _ r₂ r₃ =>
          cases r₃
          have W' := (W.grow g.keep).grow k'
          show wpAny _ _ (do holding [v₁] (bindName env x₂ v₂); holding [] (bindName env x₁ v₁); pure ()) _ _ _
          refine wpAny_bind (wpAny_holding (wpAny_bindName ?_))
          obtain ⟨wb, kb⟩ := W'.base
          refine wpN (wb.storeL (s := { s₁ with heap := h' }) (r₂.keep k') hk hl₂ hx₂) fun _ s₂ ⟨a2, b2, w2⟩ => wpAny_bind (wpAny_holding (wpAny_bindName ?_))
          refine wpN ((w2.back kb W.gr₀).storeL (((r₁.keep k').base W'.notSeq).keep w2.keep) hk hl₁ hx₁) fun _ s₃ ⟨a3, b3, w3⟩ => wpAny_pure ⟨a3.trans (a2.trans g.gens), b3.trans (b2.trans g.os), .next _ κ own, hr, w3⟩) hs hw

/-- a try whose body does not raise -/
theorem Exs.try_ {body rest : List Stmt} {hs : List ExceptHandler} {pos : Pos} (h : Exs prog w A env ρ κ own body (After prog w A env rest O)) : Exs prog w A env ρ κ own (.Try body hs [] [] pos :: rest) O :=
  .cons fun h₀ H s W => by
    show wpAny _ _ (do standAt pos; tryStmt false (execs body env) hs (execs [] env) [] env) _ _ _
    refine wpAny_bind (wpAny_standAt ?_)
    unfold tryStmt
    simp only [List.isEmpty_nil, if_true]
    refine wpAny_bind (wpAny_attempt (wpAny_mono (h h₀ H s W) (fun f s' q => ?_) fun _ _ e => e.elim))
    cases f <;> exact wpAny_pure q
end

end Mine
end

section
open PySem PySem.W PyProof.Rows PySem.Calls
set_option autoImplicit false
set_option linter.unusedVariables false
set_option maxRecDepth 100000
namespace Mine

section
variable {prog : Program} {w : Wd} {A : Around} {s : Shared}
theorem nested_str {w₀ : World} {Q : PySem.Fin → Shared → Prop} {E : Value → Shared → Prop} {k : Int} {tk : Tok} (hq : Q (.done (.ret (.bool true))) s) :
    wpAny (model prog w₀) A (Builtin.«issubclass.nested» ⟨[.type "str", .type "str", .int k tk], []⟩) Q E s := by
  have hm : typeOf (.type "str") = pure (.type "type") := by kernel_rfl
  have hself : isSubtype (.type "str") (.type "str") = pure true := by rw [isSubtype_type]; kernel_rfl
  unfold Builtin.«issubclass.nested»
  dsimp only
  repeat (any_goals (first | assumption | (rw [hm]) | (rw [hself]) | wp_step))
theorem subclass_str {t : Addr} {Q : Value → Shared → Prop} {E : Value → Shared → Prop} (ht : IsTup s.heap t #[.type "str", .type "bytes"]) (hq : Q (.bool true) s) :
    wpAny (model prog w.wo) A (call (.builtin "issubclass") [.type "str", .ref t]) Q E s := by
  refine call_issubclass (S := fun A R s => R (.ok (.ret (.bool true))) s ∧ IsTup s.heap t #[.type "str", .type "bytes"]) (fun prog w A R s h => issubclass_outer ?_) ⟨hq, ht⟩
  obtain ⟨h, ht⟩ := h
  obtain ⟨o, ho, hc, n, hd⟩ := id ht
  have hT : s.TypeIs (.ref t) "tuple" := ht.typeIs
  unfold Builtin.«issubclass.nested»
  dsimp only
  refine wpAny_bind (wpAny_typeOf hT ?_)
  rw [if_neg (by decide)]
  unfold Builtin.Builtins.unionMembers
  refine wpAny_bind (wpAny_bind (wpAny_typeOf hT ?_))
  rw [if_neg (by decide)]
  refine wpAny_pure (wpAny_bind (wpAny_isInstance hT (U := "tuple") (b := true) (by rw [isSubtype_type]; kernel_rfl) ?_))
  rw [if_pos rfl, if_neg (by decide)]
  refine wpAny_bind (wpAny_seqItems ho hd ?_)
  show wpAny _ _ (forIn #[Value.type "str", Value.type "bytes"] (none, ()) _ >>= _) _ _ _
  rw [← Array.forIn_toList]
  show wpAny _ _ (forIn [Value.type "str", Value.type "bytes"] (none, ()) _ >>= _) _ _ _
  rw [List.forIn_cons]
  refine wpAny_bind (wpAny_bind (wpAny_bind (wpAny_call (codeAny_call_builtin_at (Code.quiet_builtin _ (by decide +kernel)) F.entry_issubclass_nested ?_))))
  refine wpAny_of_eq (a := ()) (by kernel_rfl) (nested_str (k := 0 + 1) (tk := 0) ?_)
  exact wpAny_bind (wpAny_truthy_bool (wpAny_bind (wpAny_pure (wpAny_pure (wpAny_pure (wpAny_pure h))))))

theorem Op.issubclass : OpN prog w A (fun vs => call (.builtin "issubclass") vs) [.ty "str", .tuple [.ty "str", .ty "bytes"]] (.bool true) := .two fun H s v u G r₁ r₂ => by
  cases r₁
  cases r₂ with
  | tuple ht n r =>
    cases r with
    | cons a b => cases b with
      | cons b c => cases c; cases a; cases b; exact subclass_str ht ⟨.refl s, .bool _⟩
theorem Op.type_str {x : Str} : OpN prog w A (fun vs => call (.type "type") vs) [.str x] (.ty "str") := .one fun H s v G r => by
  cases r; exact call_type_of (typeIs_str _ _ _) (by decide) ⟨.refl s, .ty _⟩
theorem Op.isBytes {x : Str} : OpN prog w A (fun vs => call (.builtin "isinstance") vs) [.str x, .ty "bytes"] (.bool false) := .two fun H s v u G r₁ r₂ => by
  cases r₁; cases r₂; exact IsiPair.str_bytes ⟨.toks _, .bool _⟩
end

section
variable {prog : Program} {w : Wd} {A : Around} {env : Env} {ρ κ : Ds} {own : Own}
/-- a built-in class's name -/
theorem Ev.tyN {x : Str} {pos : Pos} {T : String} (e : x ∈ bltNames) (hv : bootBuiltins x = some (.type T)) (hn : x ≠ "__name__")
    (hg : env.globals = mainGlobals := by kernel_rfl!) (hb : env.builtins = builtinsNs := by kernel_rfl!) (hkf : env.scope.kind = .function := by kernel_rfl!) (hx : env.kindOf x = some .globalImplicit := by kernel_rfl!) (hd : (x == ("__debug__" : Str)) = false := by decide +kernel) :
    Ev prog w A env ρ κ own (.Name x pos) (.ty T) := fun H s R => nameB R.gr e hv hn ⟨.refl s, .ty _⟩ hg hb hkf hx hd
end
-- the names of the text's top, and those that it leaves to the built-ins
section
variable {w : Wd}
theorem n_len : ("len" : Str) ∈ bltNames := blt_is _ (by decide +kernel)
theorem n_range : ("range" : Str) ∈ bltNames := blt_is _ (by decide +kernel)
theorem n_str : ("str" : Str) ∈ bltNames := blt_is _ (by decide +kernel)
theorem n_bytes : ("bytes" : Str) ∈ bltNames := blt_is _ (by decide +kernel)
theorem n_type : ("type" : Str) ∈ bltNames := blt_is _ (by decide +kernel)
theorem n_isinstance : ("isinstance" : Str) ∈ bltNames := blt_is _ (by decide +kernel)
theorem n_issubclass : ("issubclass" : Str) ∈ bltNames := blt_is _ (by decide +kernel)
theorem n_ord : ("ord" : Str) ∈ bltNames := blt_is _ (by decide +kernel)
theorem n_sum : ("sum" : Str) ∈ bltNames := blt_is _ (by decide +kernel)
theorem n_min : ("min" : Str) ∈ bltNames := blt_is _ (by decide +kernel)
theorem n_max : ("max" : Str) ∈ bltNames := blt_is _ (by decide +kernel)
theorem n_sorted : ("sorted" : Str) ∈ bltNames := blt_is _ (by decide +kernel)
theorem n_enumerate : ("enumerate" : Str) ∈ bltNames := blt_is _ (by decide +kernel)
theorem n_map : ("map" : Str) ∈ bltNames := blt_is _ (by decide +kernel)
theorem n_tuple : ("tuple" : Str) ∈ bltNames := blt_is _ (by decide +kernel)
end

section
variable {prog : Program} {w : Wd} {A : Around}
theorem fn_strcoll {x y : Str} (hR : Room A 1) : OpN prog w A (fun vs => call (.ref (w.bk "_strcoll")) vs) [.str x, .str y] (.int (b2i (decide (y.cps.toList < x.cps.toList)) - b2i (decide (x.cps.toList < y.cps.toList)))) := by
  refine fnC (n := 0) (ds := [("a", .str x), ("b", .str y)]) (ρ := [("b", .str y), ("a", .str x)]) (κ := []) hR def_strcoll rfl (fun vs h => ?_) (by kernel_rfl) (by kernel_rfl) (by kernel_rfl) (by kernel_rfl) (by kernel_rfl) (by kernel_rfl) fun L A' R => ?_
  · match vs, h with
    | [_, _], _ => rfl
  · exact Exs.ret (.bin (.cmp (.loc rfl) (.loc rfl) Op.gt_str) (.cmp (.loc rfl) (.loc rfl) Op.lt_str) Op.sub_bool) rfl
theorem fn_strxfrm {x : Str} (hR : Room A 1) : OpN prog w A (fun vs => call (.ref (w.bk "_strxfrm")) vs) [.str x] (.str x) := by
  refine fnC (n := 0) (ds := [("s", .str x)]) (ρ := [("s", .str x)]) (κ := []) hR def_strxfrm rfl (fun vs h => ?_) (by kernel_rfl) (by kernel_rfl) (by kernel_rfl) (by kernel_rfl) (by kernel_rfl) (by kernel_rfl) fun L A' R => ?_
  · match vs, h with
    | [_], _ => rfl
  · exact Exs.ret (.loc rfl) rfl
theorem fn_fspath {x : Str} (hR : Room A 1) : OpN prog w A (fun vs => call (.ref (w.bk "fspath")) vs) [.str x] (.str x) := by
  refine fnC (n := 0) (ds := [("path", .str x)]) (ρ := [("path", .str x)]) (κ := []) hR def_fspath rfl (fun vs h => ?_) (by kernel_rfl) (by kernel_rfl) (by kernel_rfl) (by kernel_rfl) (by kernel_rfl) (by kernel_rfl) fun L A' R => ?_
  · match vs, h with
    | [_], _ => rfl
  · refine Exs.setL (.callT (.one (.loc rfl)) Op.type_str n_type (by decide +kernel) (by decide +kernel)) ?_
    refine Exs.iff (b := true) (.plain (.callB (.two (.loc rfl) (.tuple (.two (.tyN n_str (by decide +kernel) (by decide +kernel)) (.tyN n_bytes (by decide +kernel) (by decide +kernel))))) Op.issubclass n_issubclass (by decide +kernel) (by decide +kernel)) .bool) (fun _ => ?_) (fun e => by cases e)
    exact Exs.ret (.loc rfl) rfl
theorem fn_getsep {x : Str} (hR : Room A 1) : OpN prog w A (fun vs => call (.ref (w.bk "_get_sep")) vs) [.str x] (.str "/") := by
  refine fnC (n := 0) (ds := [("path", .str x)]) (ρ := [("path", .str x)]) (κ := []) hR def_getsep rfl (fun vs h => ?_) (by kernel_rfl) (by kernel_rfl) (by kernel_rfl) (by kernel_rfl) (by kernel_rfl) (by kernel_rfl) fun L A' R => ?_
  · match vs, h with
    | [_], _ => rfl
  · refine Exs.iff (b := false) (.plain (.callB (.two (.loc rfl) (.tyN n_bytes (by decide +kernel) (by decide +kernel))) Op.isBytes n_isinstance (by decide +kernel) (by decide +kernel)) .bool) (fun e => by cases e) (fun _ => ?_)
    exact Exs.ret .str rfl
end

end Mine
end

section
open PySem PySem.W PyProof.Rows PySem.Calls
set_option autoImplicit false
set_option linter.unusedVariables false
set_option maxRecDepth 100000
namespace Mine

section
variable {prog : Program} {w : Wd} {A : Around} {env : Env} {ρ κ : Ds} {own : Own} {O : Out → Prop}

/-- the frame behind the store of a new own list -/
theorem Wr.newOwn {h₀ h h' : Heap} {H : Addr → Prop} {x : Str} {a : Addr} {m : Str → Option Value} (W : Wr w h₀ H env allF ρ κ own h) (hx : (own.any fun e => e.1 == x) = false) (hρ : ρ.lookup x = none) (ha : h.get? a = none)
    (hn' : h'.Ns env.locals (fun y => if y = x then some (.ref a) else m y)) (hn : h.Ns env.locals m) (k : ∀ b o, b ≠ env.locals → h.get? b = some o → h'.get? b = some o) (hl : h'.get? a = some (seqObj "list" (List.toArray []) 0)) :
    Wr w h₀ H env allF ρ κ ((x, a, []) :: own) h' := by
  have ns := NotSeq.ns hn
  have k₀ : Keep h₀ h' := fun b o e => k b o (fun q => by rw [q, W.newL] at e; cases e) (W.keep b o e)
  obtain ⟨m', p, q, o⟩ := W.rd.loc
  have em : m' = m := by
    obtain ⟨o1, es1, ep1, ho1, hd1, _, hf1⟩ := p
    obtain ⟨o2, es2, ep2, ho2, hd2, _, hf2⟩ := hn
    rw [ho1] at ho2; cases ho2; rw [hd1] at hd2; cases hd2
    funext y; rw [← hf1 y, ← hf2 y]
  subst em
  have hid : ∀ b, Hid H ((x, a, []) :: own) b → Hid H own b ∨ h.get? b = none := fun b z => by
    rcases z with z | ⟨e, he, rfl⟩
    · exact .inl (.inl z)
    · rcases List.mem_cons.mp he with rfl | he
      · exact .inr ha
      · exact .inl (.inr ⟨e, he, rfl⟩)
  have mvP : ∀ b, b = env.locals → Hid H ((x, a, []) :: own) b ∨ NotSeq h b := fun b z => .inr (z ▸ ns)
  have kb : Keep (hideP h (· = env.locals)) h' := fun b o e => k b o (hideP_some e).1 (hideP_some e).2
  have mv : ∀ {v : Value} {d : Dt}, Rep h (Hid H own) v d → Rep h' (Hid H ((x, a, []) :: own)) v d := fun r => ((r.hide hid).base mvP).keep kb
  have mvs : ∀ {v : List Value} {d : List Dt}, Reps h (Hid H own) v d → Reps h' (Hid H ((x, a, []) :: own)) v d := fun r => ((r.hide hid).base mvP).keep kb
  refine ⟨⟨W.gr₀.keep k₀, fun b hb => ?_, ⟨_, hn', fun y e hy => ?_, fun e he => ?_⟩, fun y c e => ?_, fun e he => ?_⟩, W.gr₀, k₀, W.newL, W.newC, W.apart, fun e he => ?_, ?_, fun e he q => ?_⟩
  · by_cases q : b = env.locals
    · subst q; obtain ⟨o, _, _, ho, _⟩ := hn'; exact ⟨o, ho⟩
    · obtain ⟨o, e⟩ := W.rd.low b hb; exact ⟨o, k _ _ q e⟩
  · have hne : y ≠ x := fun z => by rw [z, hρ] at hy; cases hy
    obtain ⟨u, i, j⟩ := q y e hy
    exact ⟨u, (if_neg hne).trans i, mv j⟩
  · rcases List.mem_cons.mp he with rfl | he
    · exact if_pos rfl
    · have hne : e.1 ≠ x := fun q => by
        have : (own.any fun e => e.1 == x) = true := List.any_eq_true.mpr ⟨e, he, by simpa using q⟩
        rw [hx] at this; cases this
      exact (if_neg hne).trans (o e he)
  · obtain ⟨z, i, j⟩ := W.rd.cel y c e
    exact ⟨z, isCell_at i fun o e' => k _ o (W.newC y c e).1 e', fun d e => let ⟨v, i, j⟩ := j d e; ⟨v, i, mv j⟩⟩
  · rcases List.mem_cons.mp he with rfl | he
    · exact ⟨[], 0, hl, .nil⟩
    · obtain ⟨vs, n, i, j⟩ := W.rd.has e he
      exact ⟨vs, n, k _ _ (fun z => by rw [z] at i; exact ns _ i _ _ rfl) i, mvs j⟩
  · rcases List.mem_cons.mp he with rfl | he
    · exact keep_none W.keep ha
    · exact W.newO e he
  · refine List.pairwise_cons.mpr ⟨fun e he q => ?_, W.apartO⟩
    obtain ⟨_, _, i, _⟩ := W.rd.has e he
    have q' : a = e.2.1 := q
    rw [← q', ha] at i; cases i
  · rcases List.mem_cons.mp he with rfl | he
    · obtain ⟨o, z⟩ := W.rd.low _ q; rw [ha] at z; cases z
    · exact W.lowO e he q
/-- x = [] : a list of the frame's own -/
theorem Exs.ownNew {x : Str} {px lp pos : Pos} {rest : List Stmt} (hr : ∀ a, Exs prog w A env ρ κ ((x, a, []) :: own) rest O) (hρ : ρ.lookup x = none)
    (hk : env.scope.kind = .function := by kernel_rfl!) (hl : env.kindOf x = some .local := by kernel_rfl!) (hx : (own.any fun e => e.1 == x) = false := by kernel_rfl!) :
    Exs prog w A env ρ κ own (.Assign [.Name x px] (.List [] lp) pos :: rest) O :=
  .cons fun h₀ H s W => wpAny_Assign_Name (List_ (args_nil (wpAny_newObj_type (by
    have W' := W.grow (Keep.push s.heap { cls := .type "list", data := .seq (List.toArray []) })
    obtain ⟨m, hn, _⟩ := W.rd.loc
    have hn₁ := hn.push { cls := .type "list", data := .seq (List.toArray []) }
    refine wpAny_storeName_local (s := { s with heap := s.heap.push { cls := .type "list", data := .seq (List.toArray []) } }) hl hn₁ (fun h' hn' sb => ⟨rfl, rfl, .next ρ κ ((x, s.heap.objs.size, []) :: own), hr _, ?_⟩) (by rw [hk]; rfl)
    refine W.newOwn hx hρ (get_none_of_ge (Nat.le_refl _)) hn' hn (fun b o nb e => (sb.2 b nb).trans (Keep.push _ _ _ _ e)) ?_
    refine (sb.2 _ fun q => ?_).trans (Heap.get?_push_size _ rfl)
    have := hn.lt
    rw [← q] at this; exact Nat.lt_irrefl _ this)))) rfl
/-- the own list of a name, with other items -/
def upd (own : Own) (x : Str) (ds : List Dt) : Own := own.map fun e => if e.1 == x then (e.1, e.2.1, ds) else e
theorem mem_of_own : ∀ {own : Own} {x : Str} {p : Addr × List Dt}, own.lookup x = some p → (x, p) ∈ own
  | (y, q) :: r, x, p, h => by
    rw [List.lookup_cons] at h
    by_cases e : x = y
    · subst e; simp at h; subst h; exact .head _
    · have : (x == y) = false := by simpa using e
      rw [this] at h; exact .tail _ (mem_of_own h)
theorem Hid_upd {H : Addr → Prop} {own : Own} {x : Str} {ds : List Dt} (b : Addr) : Hid H (upd own x ds) b ↔ Hid H own b := by
  unfold Hid upd
  constructor
  · rintro (q | ⟨e, he, rfl⟩)
    · exact .inl q
    · obtain ⟨e', he', rfl⟩ := List.mem_map.mp he
      exact .inr ⟨e', he', by split <;> rfl⟩
  · rintro (q | ⟨e, he, rfl⟩)
    · exact .inl q
    · exact .inr ⟨_, List.mem_map_of_mem he, by split <;> rfl⟩
theorem Wr.ownAt {h₀ h : Heap} {H : Addr → Prop} {x : Str} {a : Addr} {ds : List Dt} (W : Wr w h₀ H env allF ρ κ own h) (ho : own.lookup x = some (a, ds)) :
    ∃ m, h.Ns env.locals m ∧ m x = some (.ref a) ∧ ∃ vs n, h.get? a = some (seqObj "list" (List.toArray vs) n) ∧ Reps h (Hid H own) vs ds := by
  obtain ⟨m, p, _, q⟩ := W.rd.loc
  have hm := mem_of_own ho
  exact ⟨m, p, q _ hm, W.rd.has _ hm⟩
/-- an own list changed -/
theorem Wr.upOwn {h₀ h h' : Heap} {H : Addr → Prop} {x : Str} {a : Addr} {ds ds' : List Dt} {vs : List Value} {n : Nat} (W : Wr w h₀ H env allF ρ κ own h) (ho : own.lookup x = some (a, ds)) (sb : Heap.SameBut a h h')
    (hl : h'.get? a = some (seqObj "list" (List.toArray vs) n)) (hr : Reps h (Hid H own) vs ds') : Wr w h₀ H env allF ρ κ (upd own x ds') h' := by
  have hm := mem_of_own ho
  have hida : Hid H own a := .inr ⟨_, hm, rfl⟩
  have hid : ∀ b, Hid H (upd own x ds') b → Hid H own b ∨ h'.get? b = none := fun b q => .inl ((Hid_upd b).mp q)
  have mv : ∀ {v : Value} {d : Dt}, Rep h (Hid H own) v d → Rep h' (Hid H (upd own x ds')) v d := fun r => (r.same sb (.inl hida)).hide hid
  have mvs : ∀ {v : List Value} {d : List Dt}, Reps h (Hid H own) v d → Reps h' (Hid H (upd own x ds')) v d := fun r => (r.same sb (.inl hida)).hide hid
  obtain ⟨m, p, q, o⟩ := W.rd.loc
  obtain ⟨vs₀, n₀, hl₀, _⟩ := W.rd.has _ hm
  have hax : m x = some (.ref a) := o _ hm
  have hLa : env.locals ≠ a := fun z => NotSeq.ns p _ (z ▸ hl₀) _ _ rfl
  have k₀ : Keep h₀ h' := fun b o e => (sb.2 b fun z => by rw [z, W.newO _ hm] at e; cases e).trans (W.keep b o e)
  have uniq : ∀ e ∈ own, e.1 = x → e.2.1 = a := fun e he z => by
    have := o e he
    rw [z, hax] at this; cases this; rfl
  refine ⟨⟨W.gr₀.keep k₀, fun b hb => ?_, ⟨m, p.sameBut sb hLa, fun y e hy => ?_, fun e he => ?_⟩, fun y c e => ?_, fun e he => ?_⟩, W.gr₀, k₀, W.newL, W.newC, W.apart, fun e he => ?_, ?_, fun e he => ?_⟩
  · by_cases z : b = a
    · exact ⟨_, z ▸ hl⟩
    · obtain ⟨o, e⟩ := W.rd.low b hb; exact ⟨o, (sb.2 b z).trans e⟩
  · obtain ⟨u, i, j⟩ := q y e hy; exact ⟨u, i, mv j⟩
  · obtain ⟨e', he', rfl⟩ := List.mem_map.mp he
    have := o e' he'
    split <;> exact this
  · obtain ⟨z, i, j⟩ := W.rd.cel y c e
    exact ⟨z, i.sameBut sb fun t => (NotSeq.cell i _ (t ▸ hl₀) _ _ rfl), fun d e => let ⟨v, i, j⟩ := j d e; ⟨v, i, mv j⟩⟩
  · obtain ⟨e', he', rfl⟩ := List.mem_map.mp he
    by_cases z : e'.1 = x
    · have hz : (e'.1 == x) = true := by simpa using z
      simp only [hz, if_true]
      have ea := uniq e' he' z
      exact ⟨vs, n, ea ▸ hl, mvs hr⟩
    · have hz : (e'.1 == x) = false := by simpa using z
      simp only [hz, Bool.false_eq_true, if_false]
      obtain ⟨vs', n', i, j⟩ := W.rd.has e' he'
      refine ⟨vs', n', (sb.2 _ fun t => ?_).trans i, mvs j⟩
      -- two own lists of one address
      have t' : e'.2.1 = (x, a, ds).2.1 := t
      rcases List.mem_iff_getElem.mp he' with ⟨i1, h1, e1⟩
      rcases List.mem_iff_getElem.mp hm with ⟨i2, h2, e2⟩
      rcases Nat.lt_trichotomy i1 i2 with hlt | heq | hlt
      · have := (List.pairwise_iff_getElem.mp W.apartO) i1 i2 h1 h2 hlt
        rw [e1, e2] at this; exact this t'
      · subst heq; rw [e1] at e2; rw [e2] at z; exact z rfl
      · have := (List.pairwise_iff_getElem.mp W.apartO) i2 i1 h2 h1 hlt
        rw [e1, e2] at this; exact this t'.symm
  · obtain ⟨e', he', rfl⟩ := List.mem_map.mp he
    have := W.newO e' he'
    split <;> exact this
  · unfold upd
    rw [List.pairwise_map]
    refine W.apartO.imp fun {e e'} hne => ?_
    split <;> split <;> exact hne
  · obtain ⟨e', he', rfl⟩ := List.mem_map.mp he
    have := W.lowO e' he'
    split <;> exact this

/-- x.append(e) -/
theorem Exs.append {x : Str} {nx apos cpos pos : Pos} {e : Expr} {rest : List Stmt} {a : Addr} {ds : List Dt} {d : Dt} (ho : own.lookup x = some (a, ds)) (h : Ev prog w A env ρ κ own e d) (hz : ds.length ≤ sizeLine)
    (hr : Exs prog w A env ρ κ (upd own x (ds ++ [d])) rest O) (hk : env.scope.kind = .function := by kernel_rfl!) (hl : env.kindOf x = some .local := by kernel_rfl!) (hd : (x == ("__debug__" : Str)) = false := by decide +kernel)
    (hp : plainE e = true := by rfl) (hi : interactive env = false := by rfl) (hline : (apos.endLine == cpos.line) = true := by rfl) :
    Exs prog w A env ρ κ own (.Expr (.Call (.Attribute (.Name x nx) "append" apos) [e] [] cpos) pos :: rest) O :=
  .cons fun h₀ H s W => wpAny_Expr (wpAny_mono (Q := fun v s' => v = .none ∧ s'.gens = s.gens ∧ s'.os = s.os ∧ Wr w h₀ H env allF ρ κ (upd own x (ds ++ [d])) s'.heap) (E := No) (by
    refine wpAny_Call_method_lateS rfl (by rw [starEach_plain hp]; rfl) hline ?_
    obtain ⟨m, hn, hm, vs, n, hl', hrs⟩ := W.ownAt ho
    refine wpAny_Name (wpAny_loadName_local hk hl hn hm ?_) hd
    refine ⟨"list", "list.append", F.plainAttrs_list, F.slot_list_append, F.type_list_append, ⟨_, hl', rfl⟩, (fun b eb => by cases eb; exact ⟨_, hl', rfl⟩), callWith_builtin (Evs.any (.one h hp)) (wpN (Evs.args (.one h hp) H s W.rd) fun ar s₁ ⟨ek, g, r⟩ => ?_)⟩
    rw [ek]
    generalize ar.pos = us at r
    cases r with
    | cons r₁ r₂ =>
      cases r₂
      have W' := W.grow g.keep
      obtain ⟨m', hn', hm', vs, n, hl', hrs⟩ := W'.ownAt ho
      refine wpAny_list_append_plain ⟨n, hl'⟩ (fun h' hp' sb => ⟨rfl, g.gens, g.os, ?_⟩) (by rw [List.size_toArray, hrs.length]; exact hz)
      obtain ⟨n', hp'⟩ := hp'
      exact W'.upOwn (vs := vs ++ [_]) (n := n') ho sb (by simpa using hp') (hrs.append (.cons r₁ .nil))) (fun v s' ⟨ev, a1, a2, a3⟩ => by
    subst ev
    exact ⟨a1, a2, .next ρ κ (upd own x (ds ++ [d])), hr, a3⟩) fun _ _ q => q) hi rfl
/-- x.pop(), of a text -/
theorem Exs.pop {x : Str} {nx apos cpos pos : Pos} {rest : List Stmt} {a : Addr} {ds : List Dt} {y : Str} (ho : own.lookup x = some (a, ds ++ [.str y])) (hz : ds.length + 1 ≤ sizeLine)
    (hr : Exs prog w A env ρ κ (upd own x ds) rest O) (hk : env.scope.kind = .function := by kernel_rfl!) (hl : env.kindOf x = some .local := by kernel_rfl!) (hd : (x == ("__debug__" : Str)) = false := by decide +kernel)
    (hi : interactive env = false := by rfl) (hline : (apos.endLine == cpos.line) = true := by rfl) :
    Exs prog w A env ρ κ own (.Expr (.Call (.Attribute (.Name x nx) "pop" apos) [] [] cpos) pos :: rest) O :=
  .cons fun h₀ H s W => wpAny_Expr (wpAny_mono (Q := fun v s' => (∃ t, v = .str y t) ∧ s'.gens = s.gens ∧ s'.os = s.os ∧ Wr w h₀ H env allF ρ κ (upd own x ds) s'.heap) (E := No) (by
    refine wpAny_Call_method_lateS rfl rfl hline ?_
    obtain ⟨m, hn, hm, vs, n, hl', hrs⟩ := W.ownAt ho
    refine wpAny_Name (wpAny_loadName_local hk hl hn hm ?_) hd
    refine ⟨"list", "list.pop", F.plainAttrs_list, F.slot_list_pop, F.type_list_pop, ⟨_, hl', rfl⟩, (fun b eb => by cases eb; exact ⟨_, hl', rfl⟩), callWith_builtin rfl (evalArgs_nil3 ?_)⟩
    have hlen : vs.length = ds.length + 1 := by rw [hrs.length]; simp
    have hlast : (ds ++ [Dt.str y])[ds.length]? = some (.str y) := by simp
    obtain ⟨v, hv, hrv⟩ := hrs.get hlast
    have hsz : vs.toArray.size - 1 = ds.length := by rw [List.size_toArray, hlen]; rfl
    refine call_meets F.slot_list_pop ⟨_, hl', rfl⟩ F.entry_list_pop (F.args_list_pop_1 _) (MeetsSeq.list_pop_last a vs.toArray n v (by rw [hsz]; simpa using hv) (by rw [List.size_toArray, hlen]; exact hz)) ⟨hl', ?_⟩
    refine ⟨?_, rfl, rfl, ?_⟩
    · cases hrv; exact ⟨_, rfl⟩
    · have sb := Heap.SameBut.update s.heap a (Obj.mapSeq fun xs => xs.eraseIdxIfInBounds (vs.toArray.size - 1))
      obtain ⟨n', hl2⟩ : ∃ n', (s.heap.update a (Obj.mapSeq fun xs => xs.eraseIdxIfInBounds (vs.toArray.size - 1))).get? a = some (seqObj "list" (vs.toArray.eraseIdxIfInBounds (vs.toArray.size - 1)) n') := ⟨_, get?_update_seq hl' _⟩
      have he : vs.toArray.eraseIdxIfInBounds (vs.toArray.size - 1) = List.toArray (vs.take ds.length) := by
        rw [hsz]
        have hd' : vs = vs.take ds.length ++ [v] := by
          have hv' := List.getElem?_eq_some_iff.mp hv
          obtain ⟨hlt, ev⟩ := hv'
          rw [← ev]
          have := List.take_append_getElem hlt
          rw [this, List.take_of_length_le (by omega)]
        have : ds.length < vs.toArray.size := by simp; omega
        rw [Array.eraseIdxIfInBounds, dif_pos this]
        apply Array.toList_inj.mp
        rw [Array.toList_eraseIdx]
        simp only [List.toList_toArray]
        have hlt : (vs.take ds.length).length = ds.length := by rw [List.length_take, hlen]; omega
        conv => lhs; rw [hd']
        rw [List.eraseIdx_append_of_length_le (by rw [hlt]; exact Nat.le_refl _), hlt, Nat.sub_self]
        simp
      rw [he] at hl2
      refine W.upOwn ho sb hl2 ?_
      have := hrs.take ds.length
      simpa using this) (fun v s' ⟨⟨t, ev⟩, a1, a2, a3⟩ => by
    subst ev
    exact ⟨a1, a2, .next ρ κ (upd own x ds), hr, a3⟩) fun _ _ q => q) hi rfl
theorem Rd.ownAt {h : Heap} {H : Addr → Prop} {x : Str} {a : Addr} {ds : List Dt} (R : Rd w H env ρ κ own h) (ho : own.lookup x = some (a, ds)) :
    ∃ m, h.Ns env.locals m ∧ m x = some (.ref a) ∧ ∃ vs n, h.get? a = some (seqObj "list" (List.toArray vs) n) ∧ Reps h (Hid H own) vs ds := by
  obtain ⟨m, p, _, q⟩ := R.loc
  have hm := mem_of_own ho
  exact ⟨m, p, q _ hm, R.has _ hm⟩
/-- the truth of an own list -/
theorem Tst.ownList {x : Str} {pos : Pos} {a : Addr} {ds : List Dt} (ho : own.lookup x = some (a, ds)) (hz : ds.length < 2 ^ 20) (hk : env.scope.kind = .function := by kernel_rfl!) (hl : env.kindOf x = some .local := by kernel_rfl!) (hd : (x == ("__debug__" : Str)) = false := by decide +kernel) :
    Tst prog w A env ρ κ own (.Name x pos) (decide (ds.length ≠ 0)) := fun H s R => by
  obtain ⟨m, hn, hm, vs, n, hl', hrs⟩ := R.ownAt ho
  refine isTrue_plain (wpAny_Name (wpAny_loadName_local hk hl hn hm ?_) hd) rfl
  refine wpAny_truthy_list (items := vs.toArray) ⟨_, hl', rfl, n, rfl⟩ (by rw [List.size_toArray, hrs.length]; omega) ⟨.toks _, ?_⟩
  cases hrs with
  | nil => rfl
  | cons => simp
theorem Op.neg {i : Int} : Op1 prog w A (unaryOp .USub) (.int i) (.int (-i)) := fun H s v G r => by
  cases r; exact P.neg_int ⟨.toks _, .int _ _⟩
/-- the last item of an own list -/
theorem Ev.ownLast {x : Str} {nx up cp pos : Pos} {k : Nat} {a : Addr} {ds : List Dt} {d : Dt} (ho : own.lookup x = some (a, ds ++ [d])) (hz : ds.length < 2 ^ 20) (hk : env.scope.kind = .function := by kernel_rfl!) (hl : env.kindOf x = some .local := by kernel_rfl!)
    (hd : (x == ("__debug__" : Str)) = false := by decide +kernel) : Ev prog w A env ρ κ own (.Subscript (.Name x nx) (.UnaryOp .USub (.Constant (.int 1) k cp) up) pos) d := fun H s R => by
  obtain ⟨m, hn, hm, vs, n, hl', hrs⟩ := R.ownAt ho
  refine Subscript_ (wpAny_Name (wpAny_loadName_local hk hl hn hm ?_) hd)
  refine wpN (Ev.un (own := own) (ρ := ρ) (κ := κ) Ev.int Op.neg H s R) fun v s₁ ⟨g, r⟩ => ?_
  cases r
  have R' := R.keep g.keep
  obtain ⟨m, hn, hm, vs, n, hl', hrs⟩ := R'.ownAt ho
  have hlast : (ds ++ [d])[ds.length]? = some d := by simp
  obtain ⟨v, hv, hr⟩ := hrs.get hlast
  have hlen : vs.length = ds.length + 1 := by rw [hrs.length]; simp
  have hL : s₁.heap.IsList a vs.toArray := ⟨_, hl', rfl, n, rfl⟩
  refine tail_any hL.typeIs slot_list_getitem.lookup (wpAny_getItem_list_neg hL (by omega) (by rw [List.size_toArray, hlen]; omega) (by omega) (x := v) ?_ ⟨g, hr⟩) rfl
  rw [List.size_toArray, hlen]
  have : ((-1 : Int) + ((ds.length + 1 : Nat) : Int)).toNat = ds.length := by omega
  rw [this]; simpa using hv
/-- y = x, x an own list: from here on it is plain data -/
theorem Exs.freeze {x y : Str} {nx py pos : Pos} {rest : List Stmt} {a : Addr} {ds : List Dt} (hr : Exs prog w A env ((y, .list ds) :: ρ) κ [] rest O)
    (hk : env.scope.kind = .function := by kernel_rfl!) (hl : env.kindOf x = some .local := by kernel_rfl!) (hly : env.kindOf y = some .local := by kernel_rfl!) (hd : (x == ("__debug__" : Str)) = false := by decide +kernel) :
    Exs prog w A env ρ κ [(x, a, ds)] (.Assign [.Name y py] (.Name x nx) pos :: rest) O :=
  .cons fun h₀ H s W => wpAny_Assign_Name (by
    have ho : List.lookup x [(x, a, ds)] = some (a, ds) := by simp [List.lookup_cons]
    obtain ⟨m, hn, hm, vs, n, hl', hrs⟩ := W.ownAt ho
    refine wpAny_Name (wpAny_loadName_local hk hl hn hm ?_) hd
    have hna : ¬ H a := W.lowO _ (.head _)
    have hid : ∀ b, Hid H [] b → Hid H [(x, a, ds)] b ∨ s.heap.get? b = none := fun b q => .inl (q.elim .inl fun ⟨_, z, _⟩ => by cases z)
    have W' : Wr w h₀ H env allF ρ κ [] s.heap :=
      ⟨⟨W.rd.gr, W.rd.low, let ⟨m, p, q, r⟩ := W.rd.loc; ⟨m, p, (fun x d e => let ⟨v, i, j⟩ := q x d e; ⟨v, i, j.hide hid⟩), (fun e he => by cases he)⟩, (fun x c e => let ⟨o, p, q⟩ := W.rd.cel x c e; ⟨o, p, fun d e => let ⟨v, i, j⟩ := q d e; ⟨v, i, j.hide hid⟩⟩), (fun e he => by cases he)⟩,
        W.gr₀, W.keep, W.newL, W.newC, W.apart, (fun e he => by cases he), List.Pairwise.nil, (fun e he => by cases he)⟩
    have rl : Rep s.heap (Hid H []) (.ref a) (.list ds) := .list ⟨_, hl', rfl, n, rfl⟩ (fun q => q.elim hna fun ⟨_, z, _⟩ => by cases z) (hrs.hide hid)
    exact wpN (W'.storeL rl hk hly rfl) fun _ s₂ ⟨a1, b1, w1⟩ => ⟨a1, b1, .next _ κ [], hr, w1⟩) rfl
end

end Mine
end

section
open PySem PySem.W PyProof.Rows PySem.Calls
set_option autoImplicit false
set_option linter.unusedVariables false
set_option maxRecDepth 100000
namespace Mine
section
variable {w : Wd}
theorem n_fspath : IsDef "fspath" := ⟨_, def_fspath⟩
theorem k_fspath : IsDef "fspath" := ⟨_, def_fspath⟩
theorem n_getsep : IsDef "_get_sep" := ⟨_, def_getsep⟩
theorem k_getsep : IsDef "_get_sep" := ⟨_, def_getsep⟩
theorem n_splitroot : IsDef "splitroot" := ⟨_, def_splitroot⟩
theorem k_splitroot : IsDef "splitroot" := ⟨_, def_splitroot⟩
end
section
variable {prog : Program} {w : Wd} {A : Around} {env : Env} {ρ κ : Ds} {own : Own}
/-- isinstance(x, bytes), of a text -/
theorem Tst.isBytes {e : Expr} {np bp pos : Pos} {x : Str} (h : Ev prog w A env ρ κ own e (.str x)) (hp : plainE e = true := by rfl)
    (hg : env.globals = mainGlobals := by kernel_rfl!) (hb : env.builtins = builtinsNs := by kernel_rfl!) (hkf : env.scope.kind = .function := by kernel_rfl!) (hx : env.kindOf "isinstance" = some .globalImplicit := by kernel_rfl!) (hx2 : env.kindOf "bytes" = some .globalImplicit := by kernel_rfl!) :
    Tst prog w A env ρ κ own (.Call (.Name "isinstance" np) [e, .Name "bytes" bp] [] pos) false :=
  .plain (.callB (.two h (.tyN n_bytes (by decide +kernel) (by decide +kernel) hg hb hkf hx2) hp rfl) Op.isBytes n_isinstance (by decide +kernel) (by decide +kernel) hg hb hkf hx) .bool
theorem Ev.fspath {e : Expr} {np pos : Pos} {x : Str} (hR : Room A 1) (h : Ev prog w A env ρ κ own e (.str x)) (hp : plainE e = true := by rfl)
    (hg : env.globals = mainGlobals := by kernel_rfl!) (hkf : env.scope.kind = .function := by kernel_rfl!) (hx : env.kindOf "fspath" = some .globalImplicit := by kernel_rfl!) :
    Ev prog w A env ρ κ own (.Call (.Name "fspath" np) [e] [] pos) (.str x) := .callG (.one h hp) (fn_fspath hR) n_fspath k_fspath hg hkf hx
theorem Ev.getsep {e : Expr} {np pos : Pos} {x : Str} (hR : Room A 1) (h : Ev prog w A env ρ κ own e (.str x)) (hp : plainE e = true := by rfl)
    (hg : env.globals = mainGlobals := by kernel_rfl!) (hkf : env.scope.kind = .function := by kernel_rfl!) (hx : env.kindOf "_get_sep" = some .globalImplicit := by kernel_rfl!) :
    Ev prog w A env ρ κ own (.Call (.Name "_get_sep" np) [e] [] pos) (.str "/") := .callG (.one h hp) (fn_getsep hR) n_getsep k_getsep hg hkf hx
end

def dRoot (p : Str) : Str × Str :=
  if Txt.slice p none (some 1) ≠ "/" then ("", p)
  else if (decide (Txt.slice p (some 1) (some 2) ≠ "/") || decide (Txt.slice p (some 2) (some 3) = "/")) = true then ("/", Txt.slice p (some 1) none)
  else (Txt.slice p none (some 2), Txt.slice p (some 2) none)
section
variable {prog : Program} {w : Wd} {A : Around}
theorem fn_splitroot {p : Str} (hz : p.length ≤ sizeLine) (hR : Room A 2) : OpN prog w A (fun vs => call (.ref (w.bk "splitroot")) vs) [.str p] (.tuple [.str "", .str (dRoot p).1, .str (dRoot p).2]) := by
  refine fnC (n := 1) (ds := [("p", .str p)]) (ρ := [("p", .str p)]) (κ := []) hR def_splitroot rfl (fun vs h => ?_) (by kernel_rfl) (by kernel_rfl) (by kernel_rfl) (by kernel_rfl) (by kernel_rfl) (by kernel_rfl) fun L A' R => ?_
  · match vs, h with
    | [_], _ => rfl
  · refine Exs.setL (.fspath R (.loc rfl)) ?_
    refine Exs.iff (b := false) (.isBytes (.loc rfl)) (fun e => by cases e) fun _ => ?_
    refine Exs.setL .str (Exs.setL .str (Exs.fall ?_))
    refine Exs.iff (.cmp (.sliceS (a := Option.none) (b := some 1) (.loc rfl) trivial .int hz) (.loc rfl) Op.ne_str) (fun e => ?_) fun e => ?_
    · refine Exs.ret (d := .tuple [.str "", .str "", .str p]) (.tuple (.three (.loc rfl) (.loc rfl) (.loc rfl))) ?_
      have : dRoot p = (("" : Str), p) := if_pos (of_decide_eq_true e)
      show Out.ret _ = Out.ret _
      rw [this]
    · have e1 : Txt.slice p none (some 1) = "/" := by simpa using e
      refine Exs.iff (.or_cons (.cmp (.sliceS (a := some 1) (b := some 2) (.loc rfl) .int .int hz) (.loc rfl) Op.ne_str) fun _ => .or_cons (.cmp (.sliceS (a := some 2) (b := some 3) (.loc rfl) .int .int hz) (.loc rfl) Op.eq_str) fun _ => .or_nil) (fun e => ?_) fun e => ?_
      · rw [Bool.or_false] at e
        refine Exs.ret (d := .tuple [.str "", .str "/", .str (Txt.slice p (some 1) none)]) (.tuple (.three (.loc rfl) (.loc rfl) (.sliceS (a := some 1) (b := Option.none) (.loc rfl) .int trivial hz))) ?_
        have : dRoot p = (("/" : Str), Txt.slice p (some 1) none) := (if_neg (fun q => q e1)).trans (if_pos e)
        show Out.ret _ = Out.ret _
        rw [this]
      · rw [Bool.or_false] at e
        refine Exs.ret (d := .tuple [.str "", .str (Txt.slice p none (some 2)), .str (Txt.slice p (some 2) none)]) (.tuple (.three (.loc rfl) (.sliceS (a := Option.none) (b := some 2) (.loc rfl) trivial .int hz) (.sliceS (a := some 2) (b := Option.none) (.loc rfl) .int trivial hz))) ?_
        have : dRoot p = (Txt.slice p none (some 2), Txt.slice p (some 2) none) := (if_neg (fun q => q e1)).trans (if_neg (by rw [e]; decide))
        show Out.ret _ = Out.ret _
        rw [this]
end

def dSplitAt (p : Str) : Int := Txt.rfind p "/" + 1
def dHead0 (p : Str) : Str := Txt.slice p none (some (dSplitAt p))
def dHead (p : Str) : Str := if (decide ((dHead0 p).length ≠ 0) && decide (dHead0 p ≠ Txt.mul "/" (dHead0 p).length)) = true then Txt.rstripChars (dHead0 p) "/" else dHead0 p
def dTail (p : Str) : Str := Txt.slice p (some (dSplitAt p)) none
section
variable {prog : Program} {w : Wd} {A : Around}
theorem mulOk_slash {n : Nat} (h : n ≤ 2 ^ 20) : MulOk "/" n := by
  have h1 : ("/" : Str).length = 1 := rfl
  refine ⟨?_, fun a b => ?_, fun a b => ?_⟩
  · rw [Bool.or_eq_false_iff]; exact ⟨decide_eq_false (by omega), decide_eq_false (by omega)⟩
  · rw [h1]
    have : (1 : Int) ≤ (2 ^ 63 - 1) / (n : Int) := (Int.le_ediv_iff_mul_le (by omega)).mpr (by omega)
    omega
  · show decide (_ > sizeLine) = false
    rw [h1]
    refine decide_eq_false ?_
    have : sizeLine = 16777216 := rfl
    rw [Int.toNat_natCast]
    omega
theorem fn_split {p : Str} (hz : p.length ≤ 2 ^ 16) (hR : Room A 2) : OpN prog w A (fun vs => call (.ref (w.bk "split")) vs) [.str p] (.tuple [.str (dHead p), .str (dTail p)]) := by
  have hz' : p.length ≤ sizeLine := Nat.le_trans hz (by decide)
  have hl0 : (dHead0 p).length ≤ 2 ^ 16 := Nat.le_trans (Txt.slice_le p _ _) hz
  refine fnC (n := 1) (ds := [("p", .str p)]) (ρ := [("p", .str p)]) (κ := []) hR def_split rfl (fun vs h => ?_) (by kernel_rfl) (by kernel_rfl) (by kernel_rfl) (by kernel_rfl) (by kernel_rfl) (by kernel_rfl) fun L A' R => ?_
  · match vs, h with
    | [_], _ => rfl
  · refine Exs.setL (.fspath R (.loc rfl)) ?_
    refine Exs.setL (.getsep R (.loc rfl)) ?_
    refine Exs.setL (.bin (.rfind (.loc rfl) (.loc rfl)) .int Op.add_int) ?_
    refine Exs.unpackS (.tuple (.two (.sliceS (a := Option.none) (b := some (dSplitAt p)) (.loc rfl) trivial (Ev.loc rfl) hz') (.sliceS (a := some (dSplitAt p)) (b := Option.none) (.loc rfl) (Ev.loc rfl) trivial hz'))) R.handled ?_ rfl
    refine Exs.iff (.and_cons (.plain (.loc rfl) (.str (x := dHead0 p) (by omega))) fun _ => .and_cons (.cmp (.loc rfl) (.bin (.loc rfl) (.callB (.one (.loc rfl)) (Op.len_str (x := dHead0 p) (by omega)) n_len (by decide +kernel) (by decide +kernel)) (Op.mul_str (mulOk_slash ?_))) Op.ne_str) fun _ => .and_nil) (fun e => ?_) fun e => ?_
    · omega
    · refine Exs.setL (.rstrip (.loc rfl) (.loc rfl) (by show (dHead0 p).length ≤ sizeLine; exact Nat.le_trans hl0 (by decide))) (Exs.fall ?_)
      refine Exs.ret (.tuple (.two (.loc rfl) (.loc rfl))) ?_
      rw [Bool.and_true] at e
      show Out.ret _ = Out.ret _
      rw [show dHead p = _ from if_pos e]
      rfl
    · refine Exs.fall (Exs.ret (.tuple (.two (.loc rfl) (.loc rfl))) ?_)
      rw [Bool.and_true] at e
      show Out.ret _ = Out.ret _
      have e' : (decide ((dHead0 p).length ≠ 0) && decide (dHead0 p ≠ Txt.mul "/" (dHead0 p).length)) = false := e
      rw [show dHead p = _ from if_neg (by rw [e']; decide)]
      rfl
end
end Mine
end

section
open PySem PySem.W PyProof.Rows PySem.Calls
set_option autoImplicit false
set_option linter.unusedVariables false
set_option maxRecDepth 100000
namespace Mine
def npSkip (c : Str) : Bool := !decide (c.length ≠ 0) || decide (c = ".")
def npPut (r : Str) (st : List Str) (c : Str) : Bool := decide (c ≠ "..") || (!decide (r.length ≠ 0) && st.isEmpty) || decide (st.getLast? = some "..")
def npStep (r : Str) (st : List Str) (c : Str) : List Str := if npSkip c = true then st else if npPut r st c = true then st ++ [c] else st.dropLast
def npComps (r t : Str) : List Str := (Txt.split t "/").foldl (npStep r) []
def dNormAt (r t : Str) : Str := if (r ++ Txt.join "/" (npComps r t)).length = 0 then "." else r ++ Txt.join "/" (npComps r t)
def dNorm (p : Str) : Str := if p.length = 0 then "." else dNormAt (dRoot p).1 (dRoot p).2
theorem foldl_take_succ {α β : Type} (f : β → α → β) (b : β) (l : List α) (i : Nat) (x : α) (h : l[i]? = some x) : (l.take (i + 1)).foldl f b = f ((l.take i).foldl f b) x := by
  rw [List.take_add_one, h]; simp
theorem npStep_len (r : Str) (st : List Str) (c : Str) : (npStep r st c).length ≤ st.length + 1 := by
  unfold npStep; split <;> (try split) <;> simp <;> omega
theorem np_len (r : Str) : ∀ (l : List Str) (st : List Str), (l.foldl (npStep r) st).length ≤ st.length + l.length
  | [], st => by simp
  | c :: l, st => by
    have := np_len r l (npStep r st c)
    have := npStep_len r st c
    simp only [List.foldl_cons, List.length_cons]; omega
section
variable {prog : Program} {w : Wd} {A : Around}
theorem fn_normpath {p : Str} (hz : p.length ≤ 2 ^ 16) (h1 : (Txt.split (dRoot p).2 "/").length ≤ 2 ^ 16)
    (h2 : (Builtin.Str.partsBetween (dRoot p).2 (Builtin.Str.occurrences (dRoot p).2 "/" 0 (dRoot p).2.length ((dRoot p).2.length + 1)) ("/" : Str).length).length ≤ sizeLine)
    (h3 : JoinOk "/" (npComps (dRoot p).1 (dRoot p).2) = true) (h4 : ((dRoot p).1 ++ Txt.join "/" (npComps (dRoot p).1 (dRoot p).2)).length ≤ 2 ^ 16) (h5 : (dRoot p).1.length ≤ 2 ^ 16) (h6 : (dRoot p).2.length ≤ 2 ^ 16)
    (h7 : ∀ c ∈ Txt.split (dRoot p).2 "/", c.length ≤ 2 ^ 16)
    (hR : Room A 3) : OpN prog w A (fun vs => call (.ref (w.bk "normpath")) vs) [.str p] (.str (dNorm p)) := by
  have hz' : p.length ≤ sizeLine := Nat.le_trans hz (by decide)
  refine fnC (n := 2) (ds := [("path", .str p)]) (ρ := [("path", .str p)]) (κ := []) hR def_normpath rfl (fun vs h => ?_) (by kernel_rfl) (by kernel_rfl) (by kernel_rfl) (by kernel_rfl) (by kernel_rfl) (by kernel_rfl) fun L A' R => ?_
  · match vs, h with
    | [_], _ => rfl
  · refine Exs.setL (.fspath (R.less (by decide)) (.loc rfl)) ?_
    refine Exs.iff (b := false) (.isBytes (.loc rfl)) (fun e => by cases e) fun _ => ?_
    refine Exs.setL .str (Exs.setL .str (Exs.setL .str (Exs.fall ?_)))
    refine Exs.iff (.not (.plain (.loc rfl) (.str (x := p) (by omega)))) (fun e => ?_) fun e => ?_
    · refine Exs.ret (.loc rfl) ?_
      have e' : p.length = 0 := by simpa using e
      show Out.ret _ = Out.ret _
      rw [show dNorm p = _ from if_pos e']
    · have e' : ¬ p.length = 0 := by simpa using e
      refine Exs.fall ?_
      refine Exs.unpack (.callG (.one (.loc rfl)) (fn_splitroot hz' R) n_splitroot k_splitroot) R.handled (.cons .loc (.cons .loc (.cons .loc .nil rfl) rfl) rfl) ?_
      have hn : dNorm p = dNormAt (dRoot p).1 (dRoot p).2 := if_neg e'
      rw [hn]
      clear hn e e'
      generalize (dRoot p).1 = r at *
      generalize (dRoot p).2 = t at *
      refine Exs.setL (.split (.loc rfl) (.loc rfl) rfl (Nat.le_trans h6 (by decide)) h2) ?_
      refine Exs.ownNew (fun a => ?_) rfl
      let st : Nat → List Str := fun i => ((Txt.split t "/").take i).foldl (npStep r) []
      have hst : ∀ i, (st i).length ≤ 2 ^ 16 := fun i => by
        have := np_len r ((Txt.split t "/").take i) []
        have h2 : ((Txt.split t "/").take i).length ≤ (Txt.split t "/").length := List.length_take_le' _ _
        exact Nat.le_trans this (by simp only [List.length_nil]; omega)
      refine Exs.loop (.list R.handled (.loc rfl)) (fun _ => True) (fun _ => _) (fun _ => []) (fun i => [("new_comps", a, (st i).map .str)]) trivial (.refl _) (.refl _) rfl (fun _ => rfl) (fun i d hd _ => ⟨_, _, .loc, ?_⟩) (fun _ => ?_)
      · rw [List.getElem?_map, Option.map_eq_some_iff] at hd
        obtain ⟨c, hc, rfl⟩ := hd
        have hs : st (i + 1) = npStep r (st i) c := foldl_take_succ _ _ _ _ _ hc
        have hi := hst i
        have hcl := h7 c (List.mem_of_getElem? hc)
        refine Exs.iff (.or_cons (.not (.plain (.loc rfl) (.str (x := c) (by omega)))) fun _ => .or_cons (.cmp (.loc rfl) (.loc rfl) Op.eq_str) fun _ => .or_nil) (fun e => ?_) fun e => ?_
        · rw [Bool.or_false] at e
          refine Exs.cont ⟨trivial, .fresh rfl, .refl _, ?_⟩
          rw [hs, show npStep r (st i) c = _ from if_pos e]
        · rw [Bool.or_false] at e
          refine Exs.fall ?_
          have e' : ¬ npSkip c = true := by rw [show npSkip c = false from e]; decide
          have hs' : st (i + 1) = if npPut r (st i) c = true then st i ++ [c] else (st i).dropLast := hs.trans (if_neg e')
          generalize st (i + 1) = st' at hs' ⊢
          generalize st i = s at hs' hi ⊢
          refine Exs.iff (b := npPut r s c) ?_ (fun q => ?_) fun q => ?_
          · rcases List.eq_nil_or_concat s with rfl | ⟨s₀, l, rfl⟩
            · refine (?_ : Tst prog w A' _ _ _ _ _ (decide (c ≠ "..") || ((!decide (r.length ≠ 0) && ((!decide (0 ≠ 0)) && true)) || ((decide (0 ≠ 0) && false) || false)))) |> cast (by congr 1; simp [npPut])
              exact .or_cons (.cmp (.loc rfl) (.loc rfl) Op.ne_str) fun _ => .or_cons (.and_cons (.not (.plain (.loc rfl) (.str (x := r) (by omega)))) fun _ => .and_cons (.not (.ownList (ds := []) rfl (by decide))) fun _ => .and_nil) fun _ => .or_cons (.and_cons (.ownList (ds := []) rfl (by decide)) fun q => by cases q) fun _ => .or_nil
            · simp only [List.concat_eq_append] at *
              have hz' : ((s₀ ++ [l]).map Dt.str).length < 2 ^ 20 := by rw [List.length_map]; exact Nat.lt_of_le_of_lt hi (by decide)
              refine (?_ : Tst prog w A' _ _ _ _ _ (decide (c ≠ "..") || ((!decide (r.length ≠ 0) && ((!decide (((s₀ ++ [l]).map Dt.str).length ≠ 0)) && true)) || ((decide (((s₀ ++ [l]).map Dt.str).length ≠ 0) && (decide (l = "..") && true)) || false)))) |> cast (by congr 1; have hne : (s₀ ++ [l]).isEmpty = false := by { cases s₀ <;> rfl }; simp [npPut, hne])
              exact .or_cons (.cmp (.loc rfl) (.loc rfl) Op.ne_str) fun _ => .or_cons (.and_cons (.not (.plain (.loc rfl) (.str (x := r) (by omega)))) fun _ => .and_cons (.not (.ownList rfl hz')) fun _ => .and_nil) fun _ => .or_cons (.and_cons (.ownList rfl hz') fun q => .and_cons (.cmp (.ownLast (a := a) (ds := s₀.map .str) (d := .str l) (by simp) (by simp at hz' ⊢; omega)) (.loc rfl) Op.eq_str) fun _ => .and_nil) fun _ => .or_nil
          · rw [if_pos q] at hs'
            refine Exs.append (ds := s.map .str) rfl (.loc rfl) (by rw [List.length_map]; exact Nat.le_trans hi (by decide)) (Exs.fall (Exs.nil ⟨trivial, .fresh rfl, .refl _, ?_⟩))
            rw [hs']; simp [upd]
          · rw [if_neg (by rw [q]; decide)] at hs'
            rcases List.eq_nil_or_concat s with rfl | ⟨s₀, l, rfl⟩
            · refine Exs.iff (b := false) (.ownList (ds := []) rfl (by decide)) (fun e => by cases e) fun _ => Exs.fall (Exs.fall (Exs.nil ⟨trivial, .fresh rfl, .refl _, ?_⟩))
              rw [hs']; rfl
            · simp only [List.concat_eq_append] at *
              have hz' : ((s₀ ++ [l]).map Dt.str).length < 2 ^ 20 := by rw [List.length_map]; exact Nat.lt_of_le_of_lt hi (by decide)
              have ht : decide (((s₀ ++ [l]).map Dt.str).length ≠ 0) = true := by simp
              refine Exs.iff (.ownList rfl hz') (fun _ => ?_) fun e => by rw [ht] at e; cases e
              refine Exs.pop (a := a) (ds := s₀.map .str) (y := l) (by simp) (by simp at hz' ⊢; exact Nat.le_trans (Nat.le_of_lt hz') (by decide)) (Exs.fall (Exs.fall (Exs.nil ⟨trivial, .fresh rfl, .refl _, ?_⟩)))
              rw [hs']; simp [upd]
      · have hf : st (Txt.split t "/").length = npComps r t := by
          show ((Txt.split t "/").take _).foldl (npStep r) [] = _
          rw [List.take_length]; rfl
        have hf' : (((Txt.split t "/").map Dt.str).length) = (Txt.split t "/").length := List.length_map _
        rw [hf', hf]
        refine Exs.freeze ?_
        refine Exs.setL (.bin (.loc rfl) (.join (.loc rfl) (.loc rfl) h3) (Op.add_str (Nat.le_trans h4 (by decide)))) ?_
        refine Exs.ret (d := .str (dNormAt r t)) (.or2 (.loc rfl) (.str (by omega)) (fun q => ?_) fun q => ?_) rfl
        · have q' : (r ++ Txt.join "/" (npComps r t)).length = 0 := by simpa using q
          rw [show dNormAt r t = _ from if_pos q']
          exact .loc rfl
        · have q' : ¬ (r ++ Txt.join "/" (npComps r t)).length = 0 := by simpa using q
          rw [show dNormAt r t = _ from if_neg q']
end
end Mine
end

section
open PySem PySem.W PyProof.Rows PySem.Calls
set_option autoImplicit false
set_option linter.unusedVariables false
set_option maxRecDepth 100000
namespace Mine
section
variable {prog : Program} {w : Wd} {A : Around} {env : Env} {ρ κ : Ds} {own : Own}
theorem EvIt.tuple {e : Expr} {ds : List Dt} (hh : A.handled = none) (h : Ev prog w A env ρ κ own e (.tuple ds)) : EvIt prog w A env ρ κ own e ds := fun H s R =>
  wpN (h H s R) fun x s₁ ⟨g, r⟩ => ⟨g, by
    cases r with
    | @tuple l vs _ hl n r =>
      refine wpAny_pyIter_tuple (show s₁.heap.IsTuple l vs.toArray from hl) ⟨.alloc _ _, ⟨s₁.heap.objs.size, [s₁.heap.objs.size, l], [s₁.heap.objs.size], (fun i v => vs.toArray[i]? = some v), (fun i h => h.IsTupleIter s₁.heap.objs.size l i ∧ h.IsTuple l vs.toArray), rfl, ?_⟩⟩
      have hne : l ≠ s₁.heap.objs.size := fun q => by
        obtain ⟨o, ho, _⟩ := hl; exact Nat.lt_irrefl _ (q ▸ Heap.lt_size ho)
      have hz : vs.toArray.size = ds.length := by rw [List.size_toArray, r.length]
      refine ⟨hz ▸ Walks.tuple hh s₁.heap.objs.size l hne vs.toArray, ⟨⟨_, Heap.get?_push_size _ rfl, rfl, rfl⟩, isTup_keep (Keep.push _ _) hl⟩, fun b hb => ?_, fun b hb => ?_, fun b hb => ?_, fun i d v h' k hd hp => ?_, fun i t v s Q st hq => ?_, fun i h' b st hb => ?_⟩
      · simp at hb; subst hb; exact get_none_of_ge (Nat.le_refl _)
      · simp at hb
        rcases hb with rfl | rfl
        · exact .inl (by simp)
        · obtain ⟨o, ho, _, n', hd⟩ := hl
          exact .inr ⟨⟨o, _, n', ho, hd⟩, n⟩
      · simp at hb
        rw [Heap.size_push]
        rcases hb with rfl | rfl
        · exact Nat.lt_succ_self _
        · obtain ⟨o, ho, _⟩ := hl; exact Nat.lt_succ_of_lt (Heap.lt_size ho)
      · obtain ⟨v', hv', hr⟩ := r.get hd
        have : v = v' := by
          have hp' : vs[i]? = some v := by simpa using hp
          rw [hv'] at hp'; exact (Option.some.inj hp').symm
        subst this
        exact hr.keep k
      · obtain ⟨o, ho, hc, _⟩ := st.1
        exact letOwned_plain ho hc (by decide) hq
      · simp at hb; subst hb
        obtain ⟨o, ho, _⟩ := st.1; exact ⟨o, ho⟩⟩

/-- the contract of a def f(x0, *xp) -/
theorem fn_ofV {f : Addr} {fo : Obj} {fd : FuncData} {body : List Stmt} {x₀ xp : Str} {d₀ : Dt} {dp : List Dt} {d : Dt} {n : Nat} {H : Addr → Prop} {s : Shared} {vs : List Value} (G : Gd w H s.heap) (r : Reps s.heap H vs (d₀ :: dp)) (hR : Room A (n + 1))
    (ho : s.heap.get? f = some fo) (hdata : fo.data = .func fd) (hcode : s.heap.CodeRec fd.code fd.qualname) (hbody : fd.body = .stmts body) (hclo : fd.closure = [])
    (hbind : ∀ v vs, vs.length = dp.length → bindArgs fd ⟨v :: vs, []⟩ = (newTuple vs >>= fun t => pure [(x₀, v), (xp, t)]))
    (hkind : ∀ n, ∀ x ∈ [x₀, xp], fd.scope.names.lookup x = some .local ∨ (fd.scope.names.lookup x = some .cell ∧ ((cellsFrom n fd.scope.names []).lookup x).isSome = true))
    (hz : dp.length ≤ sizeLine) (hco : fd.scope.isCoroutine = false) (hgen : fd.scope.isGenerator = false) (hk : fd.scope.kind = .function)
    (h : ∀ L A', Room A' n → Exs prog w A' (callEnvC fd L f) (locD (callEnvC fd L f).kindOf [(x₀, d₀), (xp, .tuple dp)] []) (celD (callEnvC fd L f).kindOf [(x₀, d₀), (xp, .tuple dp)] []) [] body (· = .ret d)) :
    wpAny (model prog w.wo) A (call (.ref f) vs) (fun v s' => Grow s s' ∧ Rep s'.heap H v d) No s := by
  cases r with
  | @cons v _ us _ r₀ rp =>
    have hl : us.length = dp.length := rp.length
    refine wpAny_call (codeAny_call_function (Nat.lt_of_le_of_lt (Nat.le_add_right _ _) hR.depth) ho hdata hco hgen hbody hcode ?_)
    rw [hbind v us hl, hclo]
    refine wpAny_bind (wpN (newTuple_rep G rp hz) fun t s' ⟨g, rt⟩ => wpAny_pure ?_)
    have G' := G.keep g.keep
    have hb : Binds s'.heap H [(x₀, v), (xp, t)] [(x₀, d₀), (xp, .tuple dp)] := .cons (r₀.keep g.keep) (.cons rt .nil)
    have hz' : s'.heap.get? s'.heap.objs.size = none := get_none_of_ge (Nat.le_refl _)
    refine wpAny_newFunctionEnv_cells hk (fun x hx => ?_) fun env he s₁ x => ?_
    · simp only [List.mem_cons, List.not_mem_nil, or_false] at hx
      rcases hx with rfl | rfl
      · exact hkind _ _ (.head _)
      · exact hkind _ _ (.tail _ (.head _))
    · subst he
      refine ⟨G'.gr.lim.keeps x.toInCall.keep, codeAny_func ?_⟩
      have W := callEnv_ok (fd := fd) (f := f) (L := s'.heap.objs.size) G' hb x hz' (Nat.le_refl _)
      refine wpAny_mono (h _ _ (hR.deeper _) s'.heap H s₁ W) (fun fl s₂ ⟨a, b, o, eo, ok⟩ => ?_) fun _ _ e => e.elim
      subst eo
      obtain ⟨h₁, t₁, rfl, _⟩ := x.done
      cases fl with
      | ret v => exact ⟨g.trans ⟨ok.1, a, b⟩, ok.2⟩
      | next | brk | cont => exact ok.elim
theorem fnV {x name : Str} {params : Arguments} {body : List Stmt} {scope : Scope} {dpos : Pos} {x₀ xp : Str} {d₀ : Dt} {dp : List Dt} {d : Dt} {n : Nat} (hR : Room A (n + 1))
    (hdef : defOf qv x = some (⟨name, params, body, scope, dpos⟩, [])) (hdf : params.defaults = [])
    (hbind : ∀ {pm cd doc : Value} (v : Value) (vs : List Value), vs.length = dp.length → bindArgs (docDef name params body scope pm cd doc) ⟨v :: vs, []⟩ = (newTuple vs >>= fun t => pure [(x₀, v), (xp, t)]))
    (hkind : ([x₀, xp].all fun y => scope.names.lookup y == some .local) = true)
    {ρ κ : Ds} (hρ : locD (fun x => scope.names.lookup x) [(x₀, d₀), (xp, .tuple dp)] [] = ρ) (hκ : celD (fun x => scope.names.lookup x) [(x₀, d₀), (xp, .tuple dp)] [] = κ)
    (hco : scope.isCoroutine = false) (hgen : scope.isGenerator = false) (hk : scope.kind = .function) (hz : dp.length ≤ sizeLine)
    (h : ∀ {cdv : Value} L A', Room A' n → Exs prog w A' (envOfC name scope L (w.bk x) cdv) ρ κ [] body (· = .ret d)) :
    OpN prog w A (fun vs => call (.ref (w.bk x)) vs) (d₀ :: dp) d := fun H s vs G r => by
  obtain ⟨o, pm, cd, doc, dV, kV, e, ed, ec, e1, e2⟩ := G.gr.fn x _ hdef
  obtain rfl := e1 hdf
  subst e2
  refine fn_ofV G r hR e ed ec rfl rfl (fun v vs hl => hbind v vs hl) (fun n x hx => ?_) hz hco hgen hk fun L A' R => ?_
  · have := List.all_eq_true.mp hkind x hx
    exact .inl (show scope.names.lookup x = some .local by simpa using this)
  · subst hρ hκ
    exact h L A' R

/-- f(e₀, *e₁), e₁ a list -/
theorem Ev.callStar {x : Str} {np pos sp : Pos} {e₀ e₁ : Expr} {d₀ : Dt} {dp : List Dt} {d : Dt} (h₀ : Ev prog w A env ρ κ own e₀ d₀) (h₁ : Ev prog w A env ρ κ own e₁ (.list dp)) (hf : OpN prog w A (fun vs => call (.ref (w.bk x)) vs) (d₀ :: dp) d)
    (e : IsDef x) (hk : IsDef x) (hz : dp.length ≤ 2 ^ 20) (hp : plainE e₀ = true := by rfl)
    (hg : env.globals = mainGlobals := by kernel_rfl!) (hkf : env.scope.kind = .function := by kernel_rfl!) (hx : env.kindOf x = some .globalImplicit := by kernel_rfl!) (hd : (x == ("__debug__" : Str)) = false := by decide +kernel) :
    Ev prog w A env ρ κ own (.Call (.Name x np) [e₀, .Starred e₁ sp] [] pos) d := fun H s R => by
  refine Call_ (nameG R.gr e ?_ hg hkf hx hd) rfl
  rw [starEach_plain hp]
  show wpAny _ _ (callWith pos (.ref (w.bk x)) [] [(false, eval e₀ env), (true, do let v ← eval e₁ env; standAt pos; pure v)] []) _ _ s
  unfold callWith
  refine wpAny_bind (wpAny_holding (evalArgs_plain (spliced_cons (wpN (h₀ H s R) fun v s₁ ⟨g₁, r₁⟩ => ?_))))
  rw [spliced]
  refine wpAny_bind (wpAny_bind (wpN (h₁ H s₁ (R.keep g₁.keep)) fun u s₂ ⟨g₂, r₂⟩ => wpAny_bind (wpAny_standAt (wpAny_pure ?_))))
  cases r₂ with
  | @list l vs _ hl n rp =>
    simp only [if_true]
    unfold notIterableAtAll
    refine wpAny_bind (wpAny_bind (wpAny_specialOf hl.typeIs slot_list_iter.lookup ?_))
    simp only [Option.isSome_some, if_true]
    refine wpAny_pure ?_
    simp only [Bool.false_eq_true, if_false]
    refine wpAny_bind (collect_list hl ?_ (by rw [rp.length]; exact Nat.le_trans hz (by decide)))
    generalize hs₃ : ({ s₂ with heap := (s₂.heap.push (seqObj "list" #[] 0)).update s₂.heap.objs.size (Obj.mapSeq (· ++ vs.toArray)) } : Shared) = s₃
    have g₃ : Grow s₂ s₃ := by
      subst hs₃
      refine ⟨fun b o e => ?_, rfl, rfl⟩
      exact ((Heap.SameBut.update ..).2 b (Nat.ne_of_lt (Heap.lt_size e))).trans (Heap.get?_push_of_some _ e)
    refine wpAny_bind (wpAny_holding (wpAny_pure (wpAny_pure ?_)))
    have R₃ := ((R.keep g₁.keep).keep g₂.keep).keep g₃.keep
    refine wpAny_bind (wpAny_standAt ?_)
    obtain ⟨k, hk', Lk⟩ := (R₃.gr.fn x _ hk.choose_spec).looks (M := model prog w.wo)
    refine wpAny_bind (Lk.here ?_)
    have tail : ∀ {t : Sem Value}, wpAny (model prog w.wo) A t (fun v s' => Grow s s' ∧ Rep s'.heap (Hid H own) v d) No s₃ → wpAny (model prog w.wo) A (t >>= fun r => holding [r] point >>= fun _ => pure r) (fun v s' => Grow s s' ∧ Rep s'.heap (Hid H own) v d) No s₃ :=
      fun ht => wpAny_bind (wpAny_mono ht (fun r s₂ hr => wpAny_bind (wpAny_holding (wpAny_point (wpAny_pure hr)))) fun _ _ x => x)
    have go : wpAny (model prog w.wo) A (call (.ref (w.bk x)) (v :: (vs ++ []))) (fun v s' => Grow s s' ∧ Rep s'.heap (Hid H own) v d) No s₃ := by
      rw [List.append_nil]
      exact wpN (hf _ s₃ _ R₃.gd (.cons ((r₁.keep g₂.keep).keep g₃.keep) (rp.keep g₃.keep))) fun v s₄ ⟨g₄, r₄⟩ => ⟨((g₁.trans g₂).trans g₃).trans g₄, r₄⟩
    have marked (mk : Value) : wpAny (model prog w.wo) A (callMarked mk (.ref (w.bk x)) (v :: (vs ++ [])) []) (fun v s' => Grow s s' ∧ Rep s'.heap (Hid H own) v d) No s₃ := by unfold callMarked; exact Calls.wpAny_keep go
    rcases hk' with rfl | rfl | rfl
    · exact tail (marked _)
    · exact tail (wpAny_operate' go)
    · exact tail (wpAny_operate' go)
end
end Mine
end

section
open PySem PySem.W PyProof.Rows PySem.Calls
set_option autoImplicit false
set_option linter.unusedVariables false
set_option maxRecDepth 100000
namespace Mine
def dJoinStep (path b : Str) : Str := if (Txt.startswith b "/" || !decide (path.length ≠ 0)) = true then b else if Txt.endswith path "/" = true then path ++ b else path ++ ("/" ++ b)
def dJoin (a : Str) (ps : List Str) : Str := ps.foldl dJoinStep a
section
variable {prog : Program} {w : Wd} {A : Around}
theorem fn_join {a : Str} {ps : List Str} (hl : ps.length = 1 ∨ ps.length = 2 ∨ ps.length = 3) (h1 : ∀ i, (dJoin a (ps.take i)).length ≤ 2 ^ 16) (h2 : ∀ b ∈ ps, b.length ≤ 2 ^ 16) (hR : Room A 2) :
    OpN prog w A (fun vs => call (.ref (w.bk "join")) vs) (.str a :: ps.map .str) (.str (dJoin a ps)) := by
  refine fnV (n := 1) (x₀ := "a") (xp := "p") (ρ := [("p", .tuple (ps.map .str)), ("a", .str a)]) (κ := []) hR def_join rfl (fun v vs h => ?_) (by kernel_rfl) (by kernel_rfl) (by kernel_rfl) (by kernel_rfl) (by kernel_rfl) (by kernel_rfl) (by rw [List.length_map]; rcases hl with e | e | e <;> rw [e] <;> decide) fun L A' R => ?_
  · rw [List.length_map] at h
    rw [← h] at hl
    match vs, hl with
    | [_], _ => rfl
    | [_, _], _ => rfl
    | [_, _, _], _ => rfl
    | [], q => exact absurd q (by decide)
    | _ :: _ :: _ :: _ :: vs, q => exact absurd q (by simp)
  · refine Exs.setL (.fspath R (.loc rfl)) ?_
    refine Exs.setL (.getsep R (.loc rfl)) ?_
    refine Exs.setL (.loc rfl) ?_
    refine Exs.try_ ?_
    let st : Nat → Str := fun i => dJoin a (ps.take i)
    refine Exs.loop (.tuple R.handled (.loc rfl)) (fun _ => True) (fun i => [("path", .str (st i)), ("sep", .str "/")]) (fun _ => []) (fun _ => []) trivial (.of ⟨rfl, rfl, trivial⟩) (.refl _) rfl (fun _ => rfl) (fun i d hd _ => ⟨_, _, .loc, ?_⟩) (fun _ => ?_)
    · rw [List.getElem?_map, Option.map_eq_some_iff] at hd
      obtain ⟨b, hb, rfl⟩ := hd
      have hs : st (i + 1) = dJoinStep (st i) b := foldl_take_succ _ _ _ _ _ hb
      have hi : (st i).length ≤ 2 ^ 16 := h1 i
      have hi' : (st (i + 1)).length ≤ 2 ^ 16 := h1 (i + 1)
      have hbl := h2 b (List.mem_of_getElem? hb)
      generalize st (i + 1) = s' at hs hi' ⊢
      generalize st i = s at hs hi ⊢
      refine Exs.setL (.fspath R (.loc rfl)) ?_
      refine Exs.iff (.or_cons (.plain (.startswith (.loc rfl) (.loc rfl)) .bool) fun _ => .or_cons (.not (.plain (.loc rfl) (.str (x := s) (by omega)))) fun _ => .or_nil) (fun e => ?_) fun e => ?_
      · rw [Bool.or_false] at e
        refine Exs.setL (.loc rfl) (Exs.fall (Exs.nil ⟨trivial, .of ⟨?_, rfl, trivial⟩, .refl _, rfl⟩))
        rw [hs, show dJoinStep s b = _ from if_pos e]; rfl
      · rw [Bool.or_false] at e
        have e0 : ¬ (Txt.startswith b "/" || !decide (s.length ≠ 0)) = true := by rw [show (Txt.startswith b "/" || !decide (s.length ≠ 0)) = false from e]; decide
        refine Exs.iff (.plain (.endswith (.loc rfl) (.loc rfl)) .bool) (fun q => ?_) fun q => ?_
        · have hs' : s' = s ++ b := hs.trans ((if_neg e0).trans (if_pos q))
          refine Exs.augL rfl (.loc rfl) (Op.iadd_str (x := s) (y := b) (by rw [← hs']; exact Nat.le_trans hi' (by decide))) (Exs.fall (Exs.fall (Exs.nil ⟨trivial, .of ⟨?_, rfl, trivial⟩, .refl _, rfl⟩)))
          rw [hs']; rfl
        · have hs' : s' = s ++ ("/" ++ b) := hs.trans ((if_neg e0).trans (if_neg (by rw [q]; decide)))
          have hz : (("/" : Str) ++ b).length ≤ sizeLine := by
            rw [hs', Str.length_append] at hi'
            exact Nat.le_trans (Nat.le_trans (Nat.le_add_left _ _) hi') (by decide)
          refine Exs.augL rfl (.bin (.loc rfl) (.loc rfl) (Op.add_str hz)) (Op.iadd_str (x := s) (y := "/" ++ b) (by rw [← hs']; exact Nat.le_trans hi' (by decide))) (Exs.fall (Exs.fall (Exs.nil ⟨trivial, .of ⟨?_, rfl, trivial⟩, .refl _, rfl⟩)))
          rw [hs']; rfl
    · have hf : st (ps.map Dt.str).length = dJoin a ps := by
        show dJoin a (ps.take _) = _
        rw [List.length_map, List.take_length]
      rw [hf]
      exact Exs.fall (Exs.ret (.loc rfl) rfl)
end
end Mine
end

section
open PySem PySem.W PyProof.Rows PySem.Calls
set_option autoImplicit false
set_option linter.unusedVariables false
set_option maxRecDepth 100000
namespace Mine
open AutoSeq1 (wpAny_loadPart')
open MeetsSeq MeetsSeq2 MeetsSeq3 SeqRoads2 SeqAt

def strLt (x y : Str) : Bool := decide (x.cps.toList < y.cps.toList)
/-- the order of rows of texts -/
def rowLt : List Str → List Str → Bool
  | [], ys => decide (0 < ys.length)
  | _ :: _, [] => false
  | x :: xs, y :: ys => if x = y then rowLt xs ys else strLt x y

theorem rowLt_end {xs ys : List Str} (h : xs = [] ∨ ys = []) : rowLt xs ys = decide (xs.length < ys.length) := by
  rcases h with rfl | rfl
  · rfl
  · cases xs <;> simp [rowLt]

theorem lt_loop (l b : Addr) (items items2 : Array Value) (n n2 : Nat) (dd dd2 : Option Addr) (sl sl2 : Array (Option Value)) (xs ys : List Str) (hx : items.size = xs.length) (hy : items2.size = ys.length)
    (h1 : ∀ j (h : j < items.size), ∃ t, items[j] = .str (xs[j]'(hx ▸ h)) t) (h2 : ∀ j (h : j < items2.size), ∃ t, items2[j] = .str (ys[j]'(hy ▸ h)) t) (k : Nat) :
    ∀ i : Nat, items.size - i = k → Meets (Builtin.«list.__eq__.loop» ⟨[.ref l, .ref b, rawInt i, rawInt 0], []⟩)
      (fun A R s => s.heap.get? l = some { cls := .type "list", dict := dd, data := .seq items n, slots := sl } ∧ s.heap.get? b = some { cls := .type "list", dict := dd2, data := .seq items2 n2, slots := sl2 } ∧
        (i ≤ items.size ∧ i ≤ items2.size) ∧
        R (.ok (.ret (.bool (rowLt (xs.drop i) (ys.drop i))))) s) := by
  have stop : ∀ i : Nat, (items.size ≤ i ∨ items2.size ≤ i) → Meets (Builtin.«list.__eq__.loop» ⟨[.ref l, .ref b, rawInt i, rawInt 0], []⟩)
      (fun A R s => s.heap.get? l = some { cls := .type "list", dict := dd, data := .seq items n, slots := sl } ∧ s.heap.get? b = some { cls := .type "list", dict := dd2, data := .seq items2 n2, slots := sl2 } ∧
        (i ≤ items.size ∧ i ≤ items2.size) ∧
        R (.ok (.ret (.bool (rowLt (xs.drop i) (ys.drop i))))) s) := by
    intro i hk prog w A R s h
    obtain ⟨hp, g, d, tk, os⟩ := s; obtain ⟨hl, hb, hle, h⟩ := h
    wp_walk using wpAny_loadPart' hl, wpAny_loadPart' hb
    rw [rowLt_end (by simp only [List.drop_eq_nil_iff]; omega)] at h
    have e : decide ((xs.drop i).length < (ys.drop i).length) = decide (items.size < items2.size) := by
      rw [List.length_drop, List.length_drop]; congr 1; apply propext; omega
    rw [e] at h
    rcases hk with hk | hk
    · have hi1 : items[((i : Nat) : Int).toNat]? = none := by simp; omega
      rw [hi1]
      wp_walk using wpAny_loadPart' hl, wpAny_loadPart' hb
      exact h
    · have hi2 : items2[((i : Nat) : Int).toNat]? = none := by simp; omega
      rw [hi2]
      cases items[((i : Nat) : Int).toNat]? <;> (wp_walk using wpAny_loadPart' hl, wpAny_loadPart' hb; exact h)
  induction k with
  | zero => exact fun i hk => stop i (.inl (by omega))
  | succ k ih =>
    intro i hk
    by_cases hend : items2.size ≤ i
    · exact stop i (.inr hend)
    · intro prog w A R s h
      obtain ⟨hp, g, d, tk, os⟩ := s; obtain ⟨hl, hb, hle, h⟩ := h
      wp_walk using wpAny_loadPart' hl, wpAny_loadPart' hb
      have hlt : i < items.size := by omega
      have hlt2 : i < items2.size := by omega
      have hi1 : items[((i : Nat) : Int).toNat]? = some items[i] := by simp [hlt]
      have hi2 : items2[((i : Nat) : Int).toNat]? = some items2[i] := by simp [hlt2]
      have hc : ((i : Int) + 1) = ((i + 1 : Nat) : Int) := by push_cast; rfl
      have dx : xs.drop i = xs[i]'(hx ▸ hlt) :: xs.drop (i + 1) := List.drop_eq_getElem_cons _
      have dy : ys.drop i = ys[i]'(hy ▸ hlt2) :: ys.drop (i + 1) := List.drop_eq_getElem_cons _
      rw [dx, dy, rowLt] at h
      rw [hi1, hi2]
      obtain ⟨t, e1⟩ := h1 i hlt
      obtain ⟨u, e2⟩ := h2 i hlt2
      have z : ∀ A s, EqAt A s items[i] items2[i] (xs[i]'(hx ▸ hlt) == ys[i]'(hy ▸ hlt2)) := fun A s => by rw [e1, e2]; exact (eqGives_str _ _ t u).at A s
      refine wpAny_bind (z _ _ prog w _ _ ?_)
      by_cases hq : xs[i]'(hx ▸ hlt) = ys[i]'(hy ▸ hlt2)
      · rw [if_pos hq] at h
        rw [show (xs[i]'(hx ▸ hlt) == ys[i]'(hy ▸ hlt2)) = true from beq_iff_eq.mpr hq]
        wp_walk
        rw [hc]
        exact ⟨plainId_quiet plain_eq_loop _, codeAny_builtin entry_eq_loop (by
          rw [Around.under_plainId plain_eq_loop _]
          exact ih (i + 1) (by omega) prog w A R _ ⟨hl, hb, by omega, h⟩)⟩
      · rw [if_neg hq] at h
        rw [show (xs[i]'(hx ▸ hlt) == ys[i]'(hy ▸ hlt2)) = false from beq_eq_false_iff_ne.mpr hq]
        wp_walk using wpAny_loadPart' hl, wpAny_loadPart' hb
        rw [hi1, hi2]
        rw [e1, e2]
        show wpAny _ _ (richCompare .Lt (.str _ t) (.str _ u) >>= fun r => ret r) _ _ _
        refine wpAny_bind (P.lt_str (wpAny_pure ?_))
        exact h
theorem gt_loop (l b : Addr) (items items2 : Array Value) (n n2 : Nat) (dd dd2 : Option Addr) (sl sl2 : Array (Option Value)) (xs ys : List Str) (hx : items.size = xs.length) (hy : items2.size = ys.length)
    (h1 : ∀ j (h : j < items.size), ∃ t, items[j] = .str (xs[j]'(hx ▸ h)) t) (h2 : ∀ j (h : j < items2.size), ∃ t, items2[j] = .str (ys[j]'(hy ▸ h)) t) (k : Nat) :
    ∀ i : Nat, items.size - i = k → Meets (Builtin.«list.__eq__.loop» ⟨[.ref l, .ref b, rawInt i, rawInt 4], []⟩)
      (fun A R s => s.heap.get? l = some { cls := .type "list", dict := dd, data := .seq items n, slots := sl } ∧ s.heap.get? b = some { cls := .type "list", dict := dd2, data := .seq items2 n2, slots := sl2 } ∧
        (i ≤ items.size ∧ i ≤ items2.size) ∧
        R (.ok (.ret (.bool (rowLt (ys.drop i) (xs.drop i))))) s) := by
  have stop : ∀ i : Nat, (items.size ≤ i ∨ items2.size ≤ i) → Meets (Builtin.«list.__eq__.loop» ⟨[.ref l, .ref b, rawInt i, rawInt 4], []⟩)
      (fun A R s => s.heap.get? l = some { cls := .type "list", dict := dd, data := .seq items n, slots := sl } ∧ s.heap.get? b = some { cls := .type "list", dict := dd2, data := .seq items2 n2, slots := sl2 } ∧
        (i ≤ items.size ∧ i ≤ items2.size) ∧
        R (.ok (.ret (.bool (rowLt (ys.drop i) (xs.drop i))))) s) := by
    intro i hk prog w A R s h
    obtain ⟨hp, g, d, tk, os⟩ := s; obtain ⟨hl, hb, hle, h⟩ := h
    wp_walk using wpAny_loadPart' hl, wpAny_loadPart' hb
    rw [rowLt_end (by simp only [List.drop_eq_nil_iff]; omega)] at h
    have e : decide ((ys.drop i).length < (xs.drop i).length) = decide (items2.size < items.size) := by
      rw [List.length_drop, List.length_drop]; congr 1; apply propext; omega
    rw [e] at h
    rcases hk with hk | hk
    · have hi1 : items[((i : Nat) : Int).toNat]? = none := by simp; omega
      rw [hi1]
      wp_walk using wpAny_loadPart' hl, wpAny_loadPart' hb
      exact h
    · have hi2 : items2[((i : Nat) : Int).toNat]? = none := by simp; omega
      rw [hi2]
      cases items[((i : Nat) : Int).toNat]? <;> (wp_walk using wpAny_loadPart' hl, wpAny_loadPart' hb; exact h)
  induction k with
  | zero => exact fun i hk => stop i (.inl (by omega))
  | succ k ih =>
    intro i hk
    by_cases hend : items2.size ≤ i
    · exact stop i (.inr hend)
    · intro prog w A R s h
      obtain ⟨hp, g, d, tk, os⟩ := s; obtain ⟨hl, hb, hle, h⟩ := h
      wp_walk using wpAny_loadPart' hl, wpAny_loadPart' hb
      have hlt : i < items.size := by omega
      have hlt2 : i < items2.size := by omega
      have hi1 : items[((i : Nat) : Int).toNat]? = some items[i] := by simp [hlt]
      have hi2 : items2[((i : Nat) : Int).toNat]? = some items2[i] := by simp [hlt2]
      have hc : ((i : Int) + 1) = ((i + 1 : Nat) : Int) := by push_cast; rfl
      have dx : xs.drop i = xs[i]'(hx ▸ hlt) :: xs.drop (i + 1) := List.drop_eq_getElem_cons _
      have dy : ys.drop i = ys[i]'(hy ▸ hlt2) :: ys.drop (i + 1) := List.drop_eq_getElem_cons _
      rw [dx, dy, rowLt] at h
      rw [hi1, hi2]
      obtain ⟨t, e1⟩ := h1 i hlt
      obtain ⟨u, e2⟩ := h2 i hlt2
      have z : ∀ A s, EqAt A s items[i] items2[i] (xs[i]'(hx ▸ hlt) == ys[i]'(hy ▸ hlt2)) := fun A s => by rw [e1, e2]; exact (eqGives_str _ _ t u).at A s
      refine wpAny_bind (z _ _ prog w _ _ ?_)
      by_cases hq : xs[i]'(hx ▸ hlt) = ys[i]'(hy ▸ hlt2)
      · rw [if_pos hq.symm] at h
        rw [show (xs[i]'(hx ▸ hlt) == ys[i]'(hy ▸ hlt2)) = true from beq_iff_eq.mpr hq]
        wp_walk
        rw [hc]
        exact ⟨plainId_quiet plain_eq_loop _, codeAny_builtin entry_eq_loop (by
          rw [Around.under_plainId plain_eq_loop _]
          exact ih (i + 1) (by omega) prog w A R _ ⟨hl, hb, by omega, h⟩)⟩
      · rw [if_neg (fun q => hq q.symm)] at h
        rw [show (xs[i]'(hx ▸ hlt) == ys[i]'(hy ▸ hlt2)) = false from beq_eq_false_iff_ne.mpr hq]
        wp_walk using wpAny_loadPart' hl, wpAny_loadPart' hb
        rw [hi1, hi2]
        rw [e1, e2]
        show wpAny _ _ (richCompare .Gt (.str _ t) (.str _ u) >>= fun r => ret r) _ _ _
        refine wpAny_bind (P.gt_str (wpAny_pure ?_))
        exact h
theorem ne_loop (l b : Addr) (items items2 : Array Value) (n n2 : Nat) (dd dd2 : Option Addr) (sl sl2 : Array (Option Value)) (hsz : items.size = items2.size) (k : Nat) :
    ∀ i : Nat, items.size - i = k → Meets (Builtin.«list.__eq__.loop» ⟨[.ref l, .ref b, rawInt i, rawInt 3], []⟩)
      (fun A R s => s.heap.get? l = some { cls := .type "list", dict := dd, data := .seq items n, slots := sl } ∧ s.heap.get? b = some { cls := .type "list", dict := dd2, data := .seq items2 n2, slots := sl2 } ∧
        (∀ j (h1 : j < items.size) (h2 : j < items2.size), EqAt A.in1 s items[j] items2[j] true) ∧
        R (.ok (.ret (.bool false))) s) := by
  induction k with
  | zero =>
    intro i hk prog w A R s h
    obtain ⟨hp, g, d, tk, os⟩ := s; obtain ⟨hl, hb, he, h⟩ := h
    wp_walk using wpAny_loadPart' hl, wpAny_loadPart' hb
    have hi1 : items[((i : Nat) : Int).toNat]? = none := by simp; omega
    have hi2 : items2[((i : Nat) : Int).toNat]? = none := by simp; omega
    rw [hi1, hi2]
    wp_walk using wpAny_loadPart' hl, wpAny_loadPart' hb
    show R (.ok (.ret (.bool (items.size != items2.size)))) _
    rw [hsz]
    simpa using h
  | succ k ih =>
    intro i hk prog w A R s h
    obtain ⟨hp, g, d, tk, os⟩ := s; obtain ⟨hl, hb, he, h⟩ := h
    wp_walk using wpAny_loadPart' hl, wpAny_loadPart' hb
    have hlt : i < items.size := by omega
    have hlt2 : i < items2.size := by omega
    have hi1 : items[((i : Nat) : Int).toNat]? = some items[i] := by simp [hlt]
    have hi2 : items2[((i : Nat) : Int).toNat]? = some items2[i] := by simp [hlt2]
    have hc : ((i : Int) + 1) = ((i + 1 : Nat) : Int) := by push_cast; rfl
    rw [hi1, hi2]
    refine wpAny_bind (he i hlt hlt2 prog w _ _ ?_)
    wp_walk
    rw [hc]
    exact ⟨plainId_quiet plain_eq_loop _, codeAny_builtin entry_eq_loop (by
      rw [Around.under_plainId plain_eq_loop _]
      exact ih (i + 1) (by omega) prog w A R _ ⟨hl, hb, he, h⟩)⟩

theorem list_ne_same (l b : Addr) (items items2 : Array Value) (n n2 : Nat) (dd dd2 : Option Addr) (sl sl2 : Array (Option Value)) (hsz : items.size = items2.size) :
    Meets (Builtin.«list.__ne__» ⟨[.ref l, .ref b], []⟩)
      (fun A R s => s.heap.get? l = some { cls := .type "list", dict := dd, data := .seq items n, slots := sl } ∧ s.heap.get? b = some { cls := .type "list", dict := dd2, data := .seq items2 n2, slots := sl2 } ∧
        (∀ j (h1 : j < items.size) (h2 : j < items2.size), EqAt A.in1 s items[j] items2[j] true) ∧
        R (.ok (.ret (.bool false))) s) := by
  intro prog w A R s h
  obtain ⟨hp, g, d, tk, os⟩ := s; obtain ⟨hl, hb, he, h⟩ := h
  have f3 := AutoSeq1.sub_list_list
  have hne : ¬ (items.size != items2.size) = true := by simp [hsz]
  wp_walk using wpAny_loadPart' hl, wpAny_loadPart' hb
  exact ⟨plainId_quiet plain_eq_loop _, codeAny_builtin entry_eq_loop (by
    rw [Around.under_plainId plain_eq_loop _]
    exact ne_loop l b items items2 n n2 dd dd2 sl sl2 hsz _ 0 rfl prog w A R _ ⟨hl, hb, he, h⟩)⟩
theorem list_lt (l b : Addr) (items items2 : Array Value) (n n2 : Nat) (dd dd2 : Option Addr) (sl sl2 : Array (Option Value)) (xs ys : List Str) (hx : items.size = xs.length) (hy : items2.size = ys.length)
    (h1 : ∀ j (h : j < items.size), ∃ t, items[j] = .str (xs[j]'(hx ▸ h)) t) (h2 : ∀ j (h : j < items2.size), ∃ t, items2[j] = .str (ys[j]'(hy ▸ h)) t) :
    Meets (Builtin.«list.__lt__» ⟨[.ref l, .ref b], []⟩)
      (fun A R s => s.heap.get? l = some { cls := .type "list", dict := dd, data := .seq items n, slots := sl } ∧ s.heap.get? b = some { cls := .type "list", dict := dd2, data := .seq items2 n2, slots := sl2 } ∧
        R (.ok (.ret (.bool (rowLt xs ys)))) s) := by
  intro prog w A R s h
  obtain ⟨hp, g, d, tk, os⟩ := s; obtain ⟨hl, hb, h⟩ := h
  have f3 := AutoSeq1.sub_list_list
  wp_walk using wpAny_loadPart' hl, wpAny_loadPart' hb
  exact ⟨plainId_quiet plain_eq_loop _, codeAny_builtin entry_eq_loop (by
    rw [Around.under_plainId plain_eq_loop _]
    exact lt_loop l b items items2 n n2 dd dd2 sl sl2 xs ys hx hy h1 h2 _ 0 rfl prog w A R _ ⟨hl, hb, ⟨Nat.zero_le _, Nat.zero_le _⟩, by simpa using h⟩)⟩
theorem list_gt (l b : Addr) (items items2 : Array Value) (n n2 : Nat) (dd dd2 : Option Addr) (sl sl2 : Array (Option Value)) (xs ys : List Str) (hx : items.size = xs.length) (hy : items2.size = ys.length)
    (h1 : ∀ j (h : j < items.size), ∃ t, items[j] = .str (xs[j]'(hx ▸ h)) t) (h2 : ∀ j (h : j < items2.size), ∃ t, items2[j] = .str (ys[j]'(hy ▸ h)) t) :
    Meets (Builtin.«list.__gt__» ⟨[.ref l, .ref b], []⟩)
      (fun A R s => s.heap.get? l = some { cls := .type "list", dict := dd, data := .seq items n, slots := sl } ∧ s.heap.get? b = some { cls := .type "list", dict := dd2, data := .seq items2 n2, slots := sl2 } ∧
        R (.ok (.ret (.bool (rowLt ys xs)))) s) := by
  intro prog w A R s h
  obtain ⟨hp, g, d, tk, os⟩ := s; obtain ⟨hl, hb, h⟩ := h
  have f3 := AutoSeq1.sub_list_list
  wp_walk using wpAny_loadPart' hl, wpAny_loadPart' hb
  exact ⟨plainId_quiet plain_eq_loop _, codeAny_builtin entry_eq_loop (by
    rw [Around.under_plainId plain_eq_loop _]
    exact gt_loop l b items items2 n n2 dd dd2 sl sl2 xs ys hx hy h1 h2 _ 0 rfl prog w A R _ ⟨hl, hb, ⟨Nat.zero_le _, Nat.zero_le _⟩, by simpa using h⟩)⟩

section
variable {prog : Program} {w : Wd} {A : Around}
theorem Reps.strAt {h : Heap} {H : Addr → Prop} {vs : List Value} {xs : List Str} (r : Reps h H vs (xs.map .str)) (hx : vs.toArray.size = xs.length) (j : Nat) (hj : j < vs.toArray.size) : ∃ t, vs.toArray[j] = .str (xs[j]'(hx ▸ hj)) t := by
  have hl : j < xs.length := hx ▸ hj
  have e : (xs.map Dt.str)[j]? = some (.str xs[j]) := by simp [hl]
  obtain ⟨v, hv, hr⟩ := r.get e
  cases hr with
  | str _ t =>
    refine ⟨t, ?_⟩
    have : vs.toArray[j]? = some (.str xs[j] t) := by simpa using hv
    rw [Array.getElem?_eq_getElem hj] at this
    exact Option.some.inj this
theorem Op.lt_rows {xs ys : List Str} (hu : A.units < cLine) : Op2 prog w A (compareOp .Lt) (.list (xs.map .str)) (.list (ys.map .str)) (.bool (rowLt xs ys)) := fun H s v u G r₁ r₂ => by
  cases r₁ with
  | @list l vs _ hl _ r₁ => cases r₂ with
    | @list b us _ hb _ r₂ =>
      have hx : vs.toArray.size = xs.length := by rw [List.size_toArray, r₁.length, List.length_map]
      have hy : us.toArray.size = ys.length := by rw [List.size_toArray, r₂.length, List.length_map]
      obtain ⟨⟨cls, dd, data, sl⟩, ho, hc, n, hd⟩ := id hl
      obtain ⟨⟨cls2, dd2, data2, sl2⟩, ho2, hc2, n2, hd2⟩ := id hb
      simp only at hc hd hc2 hd2
      subst hc hd hc2 hd2
      exact richCompare_meets_room (op := .Lt) ⟨_, ho, rfl⟩ ⟨_, ho2, rfl⟩ F.slot_list_lt F.entry_list_lt (F.args_list_lt_2 _ _) (list_lt l b vs.toArray us.toArray n n2 dd dd2 sl sl2 xs ys hx hy (r₁.strAt hx) (r₂.strAt hy))
        ⟨ho, ho2, show Value.bool (rowLt xs ys) ≠ Value.notImplemented ∧ _ from ⟨(fun x => nomatch x), .refl s, .bool _⟩⟩ hu
theorem Op.gt_rows {xs ys : List Str} (hu : A.units < cLine) : Op2 prog w A (compareOp .Gt) (.list (xs.map .str)) (.list (ys.map .str)) (.bool (rowLt ys xs)) := fun H s v u G r₁ r₂ => by
  cases r₁ with
  | @list l vs _ hl _ r₁ => cases r₂ with
    | @list b us _ hb _ r₂ =>
      have hx : vs.toArray.size = xs.length := by rw [List.size_toArray, r₁.length, List.length_map]
      have hy : us.toArray.size = ys.length := by rw [List.size_toArray, r₂.length, List.length_map]
      obtain ⟨⟨cls, dd, data, sl⟩, ho, hc, n, hd⟩ := id hl
      obtain ⟨⟨cls2, dd2, data2, sl2⟩, ho2, hc2, n2, hd2⟩ := id hb
      simp only at hc hd hc2 hd2
      subst hc hd hc2 hd2
      exact richCompare_meets_room (op := .Gt) ⟨_, ho, rfl⟩ ⟨_, ho2, rfl⟩ F.slot_list_gt F.entry_list_gt (F.args_list_gt_2 _ _) (list_gt l b vs.toArray us.toArray n n2 dd dd2 sl sl2 xs ys hx hy (r₁.strAt hx) (r₂.strAt hy))
        ⟨ho, ho2, show Value.bool (rowLt ys xs) ≠ Value.notImplemented ∧ _ from ⟨(fun x => nomatch x), .refl s, .bool _⟩⟩ hu
end
end Mine
end

section
open PySem PySem.W PyProof.Rows PySem.Calls
set_option autoImplicit false
set_option linter.unusedVariables false
set_option maxRecDepth 100000
namespace Mine
open AutoSeq1 (wpAny_loadPart')
open MeetsSeq MeetsSeq2 MeetsSeq3 SeqRoads2 SeqAt
section
variable {prog : Program} {w : Wd} {A : Around}
theorem fn_three {xs ys : List Str} (hR : Room A 1) : OpN prog w A (fun vs => call (.ref (w.bk "three_way_cmp")) vs) [.list (xs.map .str), .list (ys.map .str)] (.int (b2i (rowLt ys xs) - b2i (rowLt xs ys))) := by
  refine fnC (n := 0) (ds := [("x", .list (xs.map .str)), ("y", .list (ys.map .str))]) (ρ := [("y", .list (ys.map .str)), ("x", .list (xs.map .str))]) (κ := []) hR def_three rfl (fun vs h => ?_) (by kernel_rfl) (by kernel_rfl) (by kernel_rfl) (by kernel_rfl) (by kernel_rfl) (by kernel_rfl) fun L A' R => ?_
  · match vs, h with
    | [_, _], _ => rfl
  · exact Exs.ret (.bin (.cmp (.loc rfl) (.loc rfl) (Op.gt_rows R.units)) (.cmp (.loc rfl) (.loc rfl) (Op.lt_rows R.units)) Op.sub_bool) rfl

/-- lists within lists of texts, ints and truths, to a depth -/
inductive Nice : Nat → Dt → Prop
  | str {k : Nat} (x : Str) : Nice k (.str x)
  | int {k : Nat} (x : Int) : Nice k (.int x)
  | bool {k : Nat} (x : Bool) : Nice k (.bool x)
  | list {k : Nat} {ds : List Dt} (h : ∀ d ∈ ds, Nice k d) : Nice (k + 1) (.list ds)
theorem same_eq {s : Shared} {H : Addr → Prop} {k : Nat} {d : Dt} (hn : Nice k d) : ∀ {A : Around} {v u : Value}, A.units + k < cLine → Rep s.heap H v d → Rep s.heap H u d → EqAt A s v u true ∧ RcAt A s v u true := by
  induction hn with
  | @str k x =>
    intro A v u hu r₁ r₂
    cases r₁; cases r₂
    rename_i t t'
    refine ⟨?_, ?_⟩
    · have := (eqGives_str x x t t').at A s
      rwa [beq_self_eq_true] at this
    · have := RcAt.str_str (A := A) (s := s) x t x t'
      rwa [beq_self_eq_true] at this
  | @int k x =>
    intro A v u hu r₁ r₂
    cases r₁; cases r₂
    rename_i t t'
    have h := RcAt.int_int (A := A) (s := s) x t x t'
    rw [beq_self_eq_true] at h
    refine ⟨fun prog w E Q hq => ?_, h⟩
    unfold eqBool
    exact wpAny_holding (wpAny_ite_split (fun _ => wpAny_bind (wpAny_rule (wpAny_pure hq))) fun _ => wpAny_bind (h prog w E _ (wpAny_truthy_bool hq)))
  | @bool k x =>
    intro A v u hu r₁ r₂
    cases r₁; cases r₂
    have h := RcAt.bool_bool (A := A) (s := s) x x
    rw [beq_self_eq_true] at h
    exact ⟨EqAt.same _, h⟩
  | @list k ds hn ih =>
    intro A v u hu r₁ r₂
    cases r₁ with
    | @list l vs _ hl _ r₁ => cases r₂ with
      | @list b us _ hb _ r₂ =>
        have hx : vs.toArray.size = ds.length := by rw [List.size_toArray, r₁.length]
        have hy : us.toArray.size = ds.length := by rw [List.size_toArray, r₂.length]
        have he : ∀ j (h1 : j < vs.toArray.size) (h2 : j < us.toArray.size), EqAt A.in1 s vs.toArray[j] us.toArray[j] true := fun j h1 h2 => by
          have hj : j < ds.length := hx ▸ h1
          have ed : ds[j]? = some ds[j] := by simp [hj]
          obtain ⟨v', hv', rv⟩ := r₁.get ed
          obtain ⟨u', hu', ru⟩ := r₂.get ed
          have e1 : vs.toArray[j] = v' := by
            have : vs.toArray[j]? = some v' := by simpa using hv'
            rw [Array.getElem?_eq_getElem h1] at this; exact Option.some.inj this
          have e2 : us.toArray[j] = u' := by
            have : us.toArray[j]? = some u' := by simpa using hu'
            rw [Array.getElem?_eq_getElem h2] at this; exact Option.some.inj this
          rw [e1, e2]
          exact (ih _ (List.getElem_mem hj) (by show A.units + 1 + k < cLine; omega) rv ru).1
        have hrc : RcAt A s (.ref l) (.ref b) true := by
          have := RcAt.lists hl hb (hx.trans hy.symm) (by omega) he
          rwa [show (List.range vs.toArray.size).all (fun _ => true) = true from List.all_eq_true.mpr fun _ _ => rfl] at this
        by_cases q : l = b
        · subst q; exact ⟨EqAt.same _, hrc⟩
        · exact ⟨EqAt.of_refs q hrc, hrc⟩
theorem Op.eq_same {k : Nat} {d : Dt} (hn : Nice k d) (hu : A.units + k < cLine) : Op2 prog w A (compareOp .Eq) d d (.bool true) := fun H s v u G r₁ r₂ =>
  (same_eq hn hu r₁ r₂).2 prog w.wo No _ ⟨.refl s, .bool _⟩
theorem Op.ne_same {k : Nat} {ds : List Dt} (hn : Nice (k + 1) (.list ds)) (hu : A.units + (k + 1) < cLine) : Op2 prog w A (compareOp .NotEq) (.list ds) (.list ds) (.bool false) := fun H s v u G r₁ r₂ => by
  cases hn with
  | list hn =>
    cases r₁ with
    | @list l vs _ hl _ r₁ => cases r₂ with
      | @list b us _ hb _ r₂ =>
        have hx : vs.toArray.size = ds.length := by rw [List.size_toArray, r₁.length]
        have hy : us.toArray.size = ds.length := by rw [List.size_toArray, r₂.length]
        have he : ∀ j (h1 : j < vs.toArray.size) (h2 : j < us.toArray.size), EqAt A.in1 s vs.toArray[j] us.toArray[j] true := fun j h1 h2 => by
          have hj : j < ds.length := hx ▸ h1
          have ed : ds[j]? = some ds[j] := by simp [hj]
          obtain ⟨v', hv', rv⟩ := r₁.get ed
          obtain ⟨u', hu', ru⟩ := r₂.get ed
          have e1 : vs.toArray[j] = v' := by
            have : vs.toArray[j]? = some v' := by simpa using hv'
            rw [Array.getElem?_eq_getElem h1] at this; exact Option.some.inj this
          have e2 : us.toArray[j] = u' := by
            have : us.toArray[j]? = some u' := by simpa using hu'
            rw [Array.getElem?_eq_getElem h2] at this; exact Option.some.inj this
          rw [e1, e2]
          exact (same_eq (hn _ (List.getElem_mem hj)) (by show A.units + 1 + k < cLine; omega) rv ru).1
        obtain ⟨⟨cls, dd, data, sl⟩, ho, hc, n, hd⟩ := id hl
        obtain ⟨⟨cls2, dd2, data2, sl2⟩, ho2, hc2, n2, hd2⟩ := id hb
        simp only at hc hd hc2 hd2
        subst hc hd hc2 hd2
        exact richCompare_meets_room (op := .NotEq) ⟨_, ho, rfl⟩ ⟨_, ho2, rfl⟩ F.slot_list_ne F.entry_list_ne (F.args_list_ne_2 _ _) (list_ne_same l b vs.toArray us.toArray n n2 dd dd2 sl sl2 (hx.trans hy.symm))
          ⟨ho, ho2, he, show Value.bool false ≠ Value.notImplemented ∧ _ from ⟨(fun x => nomatch x), .refl s, .bool _⟩⟩ (by omega)
end
end Mine
end

section
open PySem PySem.W PyProof.Rows PySem.Calls
set_option autoImplicit false
set_option linter.unusedVariables false
set_option maxRecDepth 100000
namespace Mine
section
variable {prog : Program} {w : Wd} {A : Around}
theorem Op.min_int {a b : Int} (hh : A.handled = none) : OpN prog w A (fun vs => call (.builtin "min") vs) [.int a, .int b] (.int (if b < a then b else a)) := .two fun H s v u G r₁ r₂ => by
  cases r₁; cases r₂
  refine min_two_ints hh fun h' tk k => ?_
  split
  · exact ⟨⟨k, rfl, rfl⟩, .int _ _⟩
  · exact ⟨⟨k, rfl, rfl⟩, .int _ _⟩
theorem Op.add_list {xs ys : List Dt} (hz : xs.length + ys.length ≤ sizeLine) : Op2 prog w A (binaryOp .Add) (.list xs) (.list ys) (.list (xs ++ ys)) := fun H s v u G r₁ r₂ => by
  cases r₁ with
  | @list l vs _ hl _ r₁ => cases r₂ with
    | @list b ws _ hb _ r₂ =>
      obtain ⟨⟨cls, dd, data, sl⟩, ho, hc, n, hd⟩ := id hl
      obtain ⟨⟨cls2, dd2, data2, sl2⟩, ho2, hc2, n2, hd2⟩ := id hb
      simp only at hc hd hc2 hd2
      subst hc hd hc2 hd2
      have e : vs.toArray ++ ws.toArray = (vs ++ ws).toArray := by simp
      refine concat_meets ⟨_, ho, rfl⟩ ⟨_, ho2, rfl⟩ noFill_list_add seq_list_add PySem.F.slot_list_add PySem.F.entry_list_add (PySem.F.args_list_add_2 _ _) (list_addW l b vs.toArray ws.toArray n n2 dd dd2 sl sl2 (by simpa [r₁.length, r₂.length] using hz)) ⟨ho, ho2, ?_⟩
      rw [e]
      exact ⟨⟨Keep.push _ _, rfl, rfl⟩, .list ⟨_, Heap.get?_push_size _ rfl, rfl, 0, rfl⟩ G.fresh ((r₁.append r₂).keep (Keep.push _ _))⟩
theorem Op.pow_int {a : Int} {n : Nat} (hn : n ≤ 1000000) (ha : a.natAbs < 2 ^ 64) : Op2 prog w A (binaryOp .Pow) (.int a) (.int n) (.int (a ^ n)) := fun H s v u G r₁ r₂ => by
  cases r₁; cases r₂
  refine pow_int_small (by omega) (by omega) ha ?_
  rw [Int.toNat_natCast]
  exact ⟨.toks _, .int _ _⟩
theorem Reps.ints {h : Heap} {H : Addr → Prop} : ∀ {vs : List Value} {xs : List Int}, Reps h H vs (xs.map .int) → ∃ l : List (Int × Tok), vs = l.map (fun p => .int p.1 p.2) ∧ l.map (·.1) = xs
  | [], [], _ => ⟨[], rfl, rfl⟩
  | [], _ :: _, r => by cases r
  | _ :: _, [], r => by cases r
  | v :: vs, x :: xs, r => by
    cases r with
    | cons a b =>
      obtain ⟨l, e₁, e₂⟩ := Reps.ints b
      cases a with
      | int x t => exact ⟨(x, t) :: l, by rw [e₁]; rfl, by rw [List.map_cons, e₂]⟩
theorem preSum_list (l : List (Int × Tok)) : preSum (numAt l.toArray) l.length = (l.map (·.1)).sum := by
  rw [preSum_eq]
  simp [List.take_of_length_le]
theorem Op.sum {xs : List Int} (hh : A.handled = none) : OpN prog w A (fun vs => call (.builtin "sum") vs) [.list (xs.map .int)] (.int xs.sum) := .one fun H s v G r => by
  cases r with
  | @list l vs _ hl _ r =>
    obtain ⟨ps, rfl, rfl⟩ := r.ints
    refine sum_intListG (xs := ps.toArray) hh (by simpa [intItems] using hl) fun h' tk t' k => ?_
    rw [show ps.toArray.size = ps.length from rfl, preSum_list]
    exact ⟨⟨k, rfl, rfl⟩, .int _ _⟩
end
section
variable {w : Wd}
theorem n_split : IsDef "split" := ⟨_, def_split⟩
theorem k_split : IsDef "split" := ⟨_, def_split⟩
end
section
variable {prog : Program} {w : Wd} {A : Around}
/-- the names that split upon split reads, n turns -/
def dNames : Nat → Str → List Str → List Str
  | 0, _, acc => acc
  | n + 1, p, acc => if (decide (p = "") || decide (p = "/")) = true then acc else dNames n (dHead p) (dTail p :: acc)
def dHeads (p : Str) : Nat → Str
  | 0 => p
  | i + 1 => dHead (dHeads p i)
def dTails (p : Str) : Nat → List Str
  | 0 => []
  | i + 1 => dTail (dHeads p i) :: dTails p i
theorem dTails_len (p : Str) : ∀ i, (dTails p i).length = i
  | 0 => rfl
  | i + 1 => by simp [dTails, dTails_len p i]
theorem fn_names {p : Str} (hz : ∀ i, (dHeads p i).length ≤ 2 ^ 16) (hR : Room A 3) : OpN prog w A (fun vs => call (.ref (w.bk "_law_names")) vs) [.str p] (.list ((dNames 4 p []).map .str)) := by
  refine fnC (n := 2) (ds := [("path", .str p)]) (ρ := [("path", .str p)]) (κ := []) hR def_names rfl (fun vs h => ?_) (by kernel_rfl) (by kernel_rfl) (by kernel_rfl) (by kernel_rfl) (by kernel_rfl) (by kernel_rfl) fun L A' R => ?_
  · match vs, h with
    | [_], _ => rfl
  · refine Exs.setL (.list .nil) ?_
    refine Exs.loop (.range (n := 4) R.handled .int (by decide) n_range) (fun i => dNames (4 - i) (dHeads p i) (dTails p i) = dNames 4 p []) (fun i => [("path", .str (dHeads p i)), ("names", .list ((dTails p i).map .str))]) (fun _ => []) (fun _ => []) rfl (.of ⟨rfl, rfl, trivial⟩) (.refl _) rfl (fun _ => rfl) (fun i d hd hB => ⟨_, _, .loc, ?_⟩) (fun hB => ?_)
    · have hi : i < 4 := by
        have := (List.getElem?_eq_some_iff.mp hd).1
        simpa using this
      have h4 : 4 - i = (4 - (i + 1)) + 1 := by omega
      rw [h4, dNames] at hB
      refine Exs.iff (.or_cons (.cmp (.loc rfl) .str Op.eq_str) fun _ => .or_cons (.cmp (.loc rfl) .str Op.eq_str) fun _ => .or_nil) (fun e => ?_) fun e => ?_
      · rw [Bool.or_false] at e
        rw [if_pos e] at hB
        rw [← hB]
        exact Exs.brk (Exs.ret (.loc rfl) rfl)
      · rw [Bool.or_false] at e
        rw [if_neg (by rw [e]; decide)] at hB
        refine Exs.fall ?_
        refine Exs.unpack (.callG (.one (.loc rfl)) (fn_split (hz i) R) n_split k_split) R.handled (.cons .loc (.cons .loc .nil rfl) rfl) ?_
        refine Exs.setL (.bin (.list (.one (.loc rfl))) (.loc rfl) (Op.add_list ?_)) (Exs.nil ⟨hB, .of ⟨rfl, rfl, trivial⟩, .refl _, rfl⟩)
        rw [List.length_map, dTails_len]
        exact Nat.le_trans (Nat.add_le_add_left (Nat.le_of_lt hi) _) (Nat.le_of_ble_eq_true rfl)
    · have h4 : ((List.range 4).map fun (i : Nat) => Dt.int i).length = 4 := by simp
      rw [h4] at hB ⊢
      rw [← hB]
      exact Exs.ret (.loc rfl) rfl
end
end Mine
end

section
open PySem PySem.W PyProof.Rows PySem.Calls
set_option autoImplicit false
set_option linter.unusedVariables false
set_option maxRecDepth 100000
namespace Mine
def sizes (a b : Nat) : Int := b2i (decide ((a : Int) > b)) - b2i (decide ((a : Int) < b))
def dSigns : List Nat → List Nat → Int
  | x :: xs, y :: ys => if x = y then dSigns xs ys else if x < y then -1 else 1
  | xs, ys => sizes xs.length ys.length
theorem sizes_drop {a b k : Nat} (ha : k ≤ a) (hb : k ≤ b) : sizes (a - k) (b - k) = sizes a b := by
  unfold sizes
  have e1 : (((a - k : Nat) : Int) > ((b - k : Nat) : Int)) = ((a : Int) > b) := by apply propext; omega
  have e2 : (((a - k : Nat) : Int) < ((b - k : Nat) : Int)) = ((a : Int) < b) := by apply propext; omega
  simp only [e1, e2]
theorem dSigns_end {xs ys : List Nat} (h : xs = [] ∨ ys = []) : dSigns xs ys = sizes xs.length ys.length := by
  rcases h with rfl | rfl
  · rw [dSigns]; intro _ _ _ _ q; cases q
  · rw [dSigns]; intro _ _ _ _ _ q; cases q
section
variable {prog : Program} {w : Wd} {A : Around}
theorem Op.min_nat {a b : Nat} (hh : A.handled = none) : OpN prog w A (fun vs => call (.builtin "min") vs) [.int a, .int b] (.int ((min a b : Nat) : Int)) := by
  have := Op.min_int (prog := prog) (w := w) (A := A) (a := a) (b := b) hh
  have e : (if (b : Int) < a then (b : Int) else a) = ((min a b : Nat) : Int) := by split <;> omega
  rwa [e] at this
theorem fn_signs {x y : Str} (hx : x.length ≤ 2 ^ 16) (hy : y.length ≤ 2 ^ 16) (hR : Room A 1) : OpN prog w A (fun vs => call (.ref (w.bk "_law_signs")) vs) [.str x, .str y] (.int (dSigns x.cps.toList y.cps.toList)) := by
  refine fnC (n := 0) (ds := [("one", .str x), ("other", .str y)]) (ρ := [("other", .str y), ("one", .str x)]) (κ := []) hR def_signs rfl (fun vs h => ?_) (by kernel_rfl) (by kernel_rfl) (by kernel_rfl) (by kernel_rfl) (by kernel_rfl) (by kernel_rfl) fun L A' R => ?_
  · match vs, h with
    | [_, _], _ => rfl
  · have lx : x.cps.toList.length = x.length := rfl
    have ly : y.cps.toList.length = y.length := rfl
    refine Exs.loop (.range (n := min x.length y.length) R.handled (.callB (.two (.callB (.one (.loc rfl)) (Op.len_str (x := x) (by omega)) n_len (by decide +kernel) (by decide +kernel)) (.callB (.one (.loc rfl)) (Op.len_str (x := y) (by omega)) n_len (by decide +kernel) (by decide +kernel))) (Op.min_nat R.handled) n_min (by decide +kernel) (by decide +kernel)) (by omega) n_range)
      (fun i => dSigns (x.cps.toList.drop i) (y.cps.toList.drop i) = dSigns x.cps.toList y.cps.toList) (fun i => _) (fun _ => []) (fun _ => []) rfl (.refl _) (.refl _) rfl (fun _ => rfl) (fun i d hd hB => ⟨_, _, .loc, ?_⟩) (fun hB => ?_)
    · have hi : i < min x.length y.length := by
        have := (List.getElem?_eq_some_iff.mp hd).1
        simpa using this
      have ed : d = .int i := by
        rw [List.getElem?_map, Option.map_eq_some_iff] at hd
        obtain ⟨j, hj, rfl⟩ := hd
        obtain ⟨_, e⟩ := List.getElem?_eq_some_iff.mp hj
        simp at e; subst e; rfl
      subst ed
      have hix : i < x.cps.toList.length := by omega
      have hiy : i < y.cps.toList.length := by omega
      have cx : x.cps[(i : Int).toNat]? = some (x.cps.toList[i]) := by simp [hix]
      have cy : y.cps[(i : Int).toNat]? = some (y.cps.toList[i]) := by simp [hiy]
      rw [List.drop_eq_getElem_cons hix, List.drop_eq_getElem_cons hiy, dSigns] at hB
      generalize x.cps.toList[i] = a at cx hB
      generalize y.cps.toList[i] = b at cy hB
      refine Exs.iff (.cmp (.sub (.loc rfl) (.loc rfl) (Op.sign (by omega) (by omega) cx)) (.sub (.loc rfl) (.loc rfl) (Op.sign (by omega) (by omega) cy)) Op.ne_str) (fun e => ?_) fun e => ?_
      · have hne : a ≠ b := fun q => by subst q; simp at e
        rw [if_neg hne] at hB
        rw [← hB]
        refine Exs.ret (.ifx (.cmp (.callB (.one (.sub (.loc rfl) (.loc rfl) (Op.sign (by omega) (by omega) cx))) Op.ord n_ord (by decide +kernel) (by decide +kernel)) (.callB (.one (.sub (.loc rfl) (.loc rfl) (Op.sign (by omega) (by omega) cy))) Op.ord n_ord (by decide +kernel) (by decide +kernel)) Op.lt_int) (fun q => ?_) fun q => ?_) rfl
        · have q' : a < b := by have := of_decide_eq_true q; omega
          rw [if_pos q']
          exact .un .int Op.neg
        · have q' : ¬ a < b := by have := of_decide_eq_false q; omega
          rw [if_neg q']
          exact .int
      · have heq : a = b := by
          have : (⟨#[a]⟩ : Str) = ⟨#[b]⟩ := by simpa using e
          simpa using this
        rw [if_pos heq] at hB
        exact Exs.fall (Exs.nil ⟨hB, .fresh rfl, .refl _, rfl⟩)
    · have hlen : (((List.range (min x.length y.length)).map fun (i : Nat) => Dt.int i).length) = min x.length y.length := by simp
      rw [hlen] at hB
      rw [dSigns_end (by simp only [List.drop_eq_nil_iff]; omega), List.length_drop, List.length_drop, sizes_drop (by omega) (by omega)] at hB
      rw [← hB]
      exact Exs.ret (.bin (.cmp (.callB (.one (.loc rfl)) (Op.len_str (x := x) (by omega)) n_len (by decide +kernel) (by decide +kernel)) (.callB (.one (.loc rfl)) (Op.len_str (x := y) (by omega)) n_len (by decide +kernel) (by decide +kernel)) Op.gt_int) (.cmp (.callB (.one (.loc rfl)) (Op.len_str (x := x) (by omega)) n_len (by decide +kernel) (by decide +kernel)) (.callB (.one (.loc rfl)) (Op.len_str (x := y) (by omega)) n_len (by decide +kernel) (by decide +kernel)) Op.lt_int) Op.sub_bool) rfl
end
def dRows : List Str → List Str → Int
  | x :: xs, y :: ys => if x = y then dRows xs ys else dSigns x.cps.toList y.cps.toList
  | xs, ys => sizes xs.length ys.length
theorem dRows_end {xs ys : List Str} (h : xs = [] ∨ ys = []) : dRows xs ys = sizes xs.length ys.length := by
  rcases h with rfl | rfl
  · rw [dRows]; intro _ _ _ _ q; cases q
  · rw [dRows]; intro _ _ _ _ _ q; cases q
section
variable {w : Wd}
theorem n_signs : IsDef "_law_signs" := ⟨_, def_signs⟩
theorem k_signs : IsDef "_law_signs" := ⟨_, def_signs⟩
end
section
variable {prog : Program} {w : Wd} {A : Around}
theorem fn_rows {xs ys : List Str} (hx : xs.length ≤ 2 ^ 16) (hy : ys.length ≤ 2 ^ 16) (hxs : ∀ x ∈ xs, x.length ≤ 2 ^ 16) (hys : ∀ x ∈ ys, x.length ≤ 2 ^ 16) (hR : Room A 2) :
    OpN prog w A (fun vs => call (.ref (w.bk "_law_rows")) vs) [.list (xs.map .str), .list (ys.map .str)] (.int (dRows xs ys)) := by
  refine fnC (n := 1) (ds := [("one", .list (xs.map .str)), ("other", .list (ys.map .str))]) (ρ := [("other", .list (ys.map .str)), ("one", .list (xs.map .str))]) (κ := []) hR def_rows rfl (fun vs h => ?_) (by kernel_rfl) (by kernel_rfl) (by kernel_rfl) (by kernel_rfl) (by kernel_rfl) (by kernel_rfl) fun L A' R => ?_
  · match vs, h with
    | [_, _], _ => rfl
  · have ox : OpN prog w A' (fun vs => call (.builtin "len") vs) [.list (xs.map .str)] (.int xs.length) := by
      have := Op.len_list (prog := prog) (w := w) (A := A') (ds := xs.map Dt.str) (by rw [List.length_map]; omega)
      rwa [List.length_map] at this
    have oy : OpN prog w A' (fun vs => call (.builtin "len") vs) [.list (ys.map .str)] (.int ys.length) := by
      have := Op.len_list (prog := prog) (w := w) (A := A') (ds := ys.map Dt.str) (by rw [List.length_map]; omega)
      rwa [List.length_map] at this
    refine Exs.loop (.range (n := min xs.length ys.length) R.handled (.callB (.two (.callB (.one (.loc rfl)) ox n_len (by decide +kernel) (by decide +kernel)) (.callB (.one (.loc rfl)) oy n_len (by decide +kernel) (by decide +kernel))) (Op.min_nat R.handled) n_min (by decide +kernel) (by decide +kernel)) (by omega) n_range)
      (fun i => dRows (xs.drop i) (ys.drop i) = dRows xs ys) (fun i => _) (fun _ => []) (fun _ => []) rfl (.refl _) (.refl _) rfl (fun _ => rfl) (fun i d hd hB => ⟨_, _, .loc, ?_⟩) (fun hB => ?_)
    · have hi : i < min xs.length ys.length := by
        have := (List.getElem?_eq_some_iff.mp hd).1
        simpa using this
      have ed : d = .int i := by
        rw [List.getElem?_map, Option.map_eq_some_iff] at hd
        obtain ⟨j, hj, rfl⟩ := hd
        obtain ⟨_, e⟩ := List.getElem?_eq_some_iff.mp hj
        simp at e; subst e; rfl
      subst ed
      have hix : i < xs.length := by omega
      have hiy : i < ys.length := by omega
      have cx : (xs.map Dt.str)[(i : Int).toNat]? = some (.str xs[i]) := by simp [hix]
      have cy : (ys.map Dt.str)[(i : Int).toNat]? = some (.str ys[i]) := by simp [hiy]
      have bx := hxs _ (List.getElem_mem hix)
      have by' := hys _ (List.getElem_mem hiy)
      rw [List.drop_eq_getElem_cons hix, List.drop_eq_getElem_cons hiy, dRows] at hB
      generalize xs[i] = a at cx hB bx
      generalize ys[i] = b at cy hB by'
      refine Exs.iff (.cmp (.sub (.loc rfl) (.loc rfl) (Op.item (by omega) (by omega) cx)) (.sub (.loc rfl) (.loc rfl) (Op.item (by omega) (by omega) cy)) Op.ne_str) (fun e => ?_) fun e => ?_
      · have hne : a ≠ b := of_decide_eq_true e
        rw [if_neg hne] at hB
        rw [← hB]
        exact Exs.ret (.callG (.two (.sub (.loc rfl) (.loc rfl) (Op.item (by omega) (by omega) cx)) (.sub (.loc rfl) (.loc rfl) (Op.item (by omega) (by omega) cy))) (fn_signs bx by' R) n_signs k_signs) rfl
      · have heq : a = b := by simpa using e
        rw [if_pos heq] at hB
        exact Exs.fall (Exs.nil ⟨hB, .fresh rfl, .refl _, rfl⟩)
    · have hlen : (((List.range (min xs.length ys.length)).map fun (i : Nat) => Dt.int i).length) = min xs.length ys.length := by simp
      rw [hlen] at hB
      rw [dRows_end (by simp only [List.drop_eq_nil_iff]; omega), List.length_drop, List.length_drop, sizes_drop (by omega) (by omega)] at hB
      rw [← hB]
      exact Exs.ret (.bin (.cmp (.callB (.one (.loc rfl)) ox n_len (by decide +kernel) (by decide +kernel)) (.callB (.one (.loc rfl)) oy n_len (by decide +kernel) (by decide +kernel)) Op.gt_int) (.cmp (.callB (.one (.loc rfl)) ox n_len (by decide +kernel) (by decide +kernel)) (.callB (.one (.loc rfl)) oy n_len (by decide +kernel) (by decide +kernel)) Op.lt_int) Op.sub_bool) rfl
end
end Mine
end

section
open PySem PySem.W PyProof.Rows PySem.Calls
set_option autoImplicit false
set_option linter.unusedVariables false
set_option maxRecDepth 100000
namespace Mine
/-- the turned pair, as the law tells it -/
def dTurnedAt (short long : List Str) (c : Nat) (a b : Str) : Bool :=
  -- a = short[c], b = long[c]
  if (decide ((a.length : Int) = b.length) || decide (Txt.slice b none (some (a.length : Int)) ≠ a)) = true then false
  else decide ((short.length : Int) > (c : Int) + 1) && decide (((b.cps.getD a.length 0 : Nat) : Int) < 47)
def dTurned (xs ys : List Str) (c : Nat) : Bool :=
  match xs[c]?, ys[c]? with
  | some a, some b => if a.length < b.length then dTurnedAt xs ys c a b else dTurnedAt ys xs c b a
  | _, _ => false
section
variable {prog : Program} {w : Wd} {A : Around}
theorem fn_turned {xs ys : List Str} {c : Nat} (hx : xs.length ≤ 2 ^ 16) (hy : ys.length ≤ 2 ^ 16) (hxs : ∀ x ∈ xs, x.length ≤ 2 ^ 16) (hys : ∀ x ∈ ys, x.length ≤ 2 ^ 16) (hc : c ≤ 2 ^ 16) (hR : Room A 1) :
    OpN prog w A (fun vs => call (.ref (w.bk "_law_turned")) vs) [.list (xs.map .str), .list (ys.map .str), .int c] (.bool (dTurned xs ys c)) := by
  refine fnC (n := 0) (ds := [("one", .list (xs.map .str)), ("other", .list (ys.map .str)), ("count", .int c)]) (ρ := [("count", .int c), ("other", .list (ys.map .str)), ("one", .list (xs.map .str))]) (κ := []) hR def_turned rfl (fun vs h => ?_) (by kernel_rfl) (by kernel_rfl) (by kernel_rfl) (by kernel_rfl) (by kernel_rfl) (by kernel_rfl) fun L A' R => ?_
  · match vs, h with
    | [_, _, _], _ => rfl
  · have ol : ∀ zs : List Str, zs.length ≤ 2 ^ 16 → OpN prog w A' (fun vs => call (.builtin "len") vs) [.list (zs.map .str)] (.int zs.length) := fun zs hz => by
      have := Op.len_list (prog := prog) (w := w) (A := A') (ds := zs.map Dt.str) (by rw [List.length_map]; omega)
      rwa [List.length_map] at this
    refine Exs.iff (.or_cons (.cmp (.loc rfl) (.callB (.one (.loc rfl)) (ol xs hx) n_len (by decide +kernel) (by decide +kernel)) Op.ge_int) fun _ => .or_cons (.cmp (.loc rfl) (.callB (.one (.loc rfl)) (ol ys hy) n_len (by decide +kernel) (by decide +kernel)) Op.ge_int) fun _ => .or_nil) (fun e => ?_) fun e => ?_
    · have e' : xs.length ≤ c ∨ ys.length ≤ c := by simpa using e
      have : dTurned xs ys c = false := by
        unfold dTurned
        rcases e' with q | q
        · rw [List.getElem?_eq_none q]
        · rw [List.getElem?_eq_none q]; cases xs[c]? <;> rfl
      rw [this]
      exact Exs.ret .bool rfl
    · have e' : c < xs.length ∧ c < ys.length := by simpa using e
      obtain ⟨hcx, hcy⟩ := e'
      refine Exs.fall ?_
      have ax : xs[c]? = some xs[c] := by simp [hcx]
      have ay : ys[c]? = some ys[c] := by simp [hcy]
      have bx := hxs _ (List.getElem_mem hcx)
      have by' := hys _ (List.getElem_mem hcy)
      have hd : dTurned xs ys c = if xs[c].length < ys[c].length then dTurnedAt xs ys c xs[c] ys[c] else dTurnedAt ys xs c ys[c] xs[c] := by
        unfold dTurned; rw [ax, ay]
      rw [hd]
      clear hd
      generalize xs[c] = a at *
      generalize ys[c] = b at *
      have cx : (xs.map Dt.str)[(c : Int).toNat]? = some (.str a) := by simp [ax]
      have cy : (ys.map Dt.str)[(c : Int).toNat]? = some (.str b) := by simp [ay]
      have la : ∀ z : Str, z.length ≤ 2 ^ 16 → OpN prog w A' (fun vs => call (.builtin "len") vs) [.str z] (.int z.length) := fun z hz => Op.len_str (by omega)
      have tst := fun (ρ' : Ds) (q : Prop) => q
      obtain ⟨S, G, sa, lb, hS, hG, hsa, hlb, hbs, hbl, hres, hif⟩ : ∃ (S G : List Str) (sa lb : Str), S[c]? = some sa ∧ G[c]? = some lb ∧ sa.length ≤ 2 ^ 16 ∧ lb.length ≤ 2 ^ 16 ∧ S.length ≤ 2 ^ 16 ∧ G.length ≤ 2 ^ 16 ∧
          (if a.length < b.length then dTurnedAt xs ys c a b else dTurnedAt ys xs c b a) = dTurnedAt S G c sa lb ∧ ((decide ((a.length : Int) < b.length) = true → S = xs ∧ G = ys) ∧ (decide ((a.length : Int) < b.length) = false → S = ys ∧ G = xs) ∧ sa.length ≤ lb.length) := by
        by_cases q : a.length < b.length
        · exact ⟨xs, ys, a, b, ax, ay, bx, by', hx, hy, if_pos q, fun _ => ⟨rfl, rfl⟩, (fun z => absurd q (by have := of_decide_eq_false z; omega)), by omega⟩
        · exact ⟨ys, xs, b, a, ay, ax, by', bx, hy, hx, if_neg q, (fun z => absurd (of_decide_eq_true z) (by omega)), fun _ => ⟨rfl, rfl⟩, by omega⟩
      rw [hres]
      have cS : (S.map Dt.str)[(c : Int).toNat]? = some (.str sa) := by simp [hS]
      have cG : (G.map Dt.str)[(c : Int).toNat]? = some (.str lb) := by simp [hG]
      refine Exs.setL (d := .list (S.map .str)) (.ifx (.cmp (.callB (.one (.sub (.loc rfl) (.loc rfl) (Op.item (by omega) (by omega) cx))) (la a bx) n_len (by decide +kernel) (by decide +kernel)) (.callB (.one (.sub (.loc rfl) (.loc rfl) (Op.item (by omega) (by omega) cy))) (la b by') n_len (by decide +kernel) (by decide +kernel)) Op.lt_int) (fun q => ?_) fun q => ?_) ?_
      · rw [(hif.1 q).1]; exact .loc rfl
      · rw [(hif.2.1 q).1]; exact .loc rfl
      refine Exs.setL (d := .list (G.map .str)) (.ifx (.cmp (.callB (.one (.sub (.loc rfl) (.loc rfl) (Op.item (by omega) (by omega) cx))) (la a bx) n_len (by decide +kernel) (by decide +kernel)) (.callB (.one (.sub (.loc rfl) (.loc rfl) (Op.item (by omega) (by omega) cy))) (la b by') n_len (by decide +kernel) (by decide +kernel)) Op.lt_int) (fun q => ?_) fun q => ?_) ?_
      · rw [(hif.1 q).2]; exact .loc rfl
      · rw [(hif.2.1 q).2]; exact .loc rfl
      refine Exs.setL (.callB (.one (.sub (.loc rfl) (.loc rfl) (Op.item (by omega) (by omega) cS))) (la sa hsa) n_len (by decide +kernel) (by decide +kernel)) ?_
      refine Exs.iff (.or_cons (.cmp (.loc rfl) (.callB (.one (.sub (.loc rfl) (.loc rfl) (Op.item (by omega) (by omega) cG))) (la lb hlb) n_len (by decide +kernel) (by decide +kernel)) Op.eq_int) fun _ => .or_cons (.cmp (.sliceS (a := Option.none) (b := some (sa.length : Int)) (.sub (.loc rfl) (.loc rfl) (Op.item (by omega) (by omega) cG)) trivial (Ev.loc rfl) (Nat.le_trans hlb (by decide))) (.sub (.loc rfl) (.loc rfl) (Op.item (by omega) (by omega) cS)) Op.ne_str) fun _ => .or_nil) (fun e => ?_) fun e => ?_
      · rw [Bool.or_false] at e
        rw [show dTurnedAt S G c sa lb = _ from if_pos e]
        exact Exs.ret .bool rfl
      · rw [Bool.or_false] at e
        rw [show dTurnedAt S G c sa lb = _ from if_neg (by rw [show (decide ((sa.length : Int) = lb.length) || decide (Txt.slice lb none (some (sa.length : Int)) ≠ sa)) = false from e]; decide)]
        have hlt : sa.length < lb.length := by
          have h1 : ¬ sa.length = lb.length := by
            intro q; simp [q] at e
          have := hif.2.2
          omega
        have cl : lb.cps[((sa.length : Nat) : Int).toNat]? = some (lb.cps.getD sa.length 0) := by
          have hl : sa.length < lb.cps.size := hlt
          simp [Array.getD, hl]
        refine Exs.fall (Exs.ret (.and2 (.cmp (.callB (.one (.loc rfl)) (ol S hbs) n_len (by decide +kernel) (by decide +kernel)) (.bin (.loc rfl) .int Op.add_int) Op.gt_int) .bool (fun q => ?_) fun q => ?_) rfl)
        · rw [q, Bool.true_and]
          exact .cmp (.callB (.one (.sub (.sub (.loc rfl) (.loc rfl) (Op.item (by omega) (by omega) cG)) (.loc rfl) (Op.sign (by omega) (by omega) cl))) Op.ord n_ord (by decide +kernel) (by decide +kernel)) .int Op.lt_int
        · rw [q, Bool.false_and]
end
end Mine
end

section
open PySem PySem.W PyProof.Rows PySem.Calls
set_option autoImplicit false
set_option linter.unusedVariables false
set_option maxRecDepth 100000
namespace Mine
section
variable {prog : Program} {w : Wd} {A : Around} {env : Env} {fr : Str → Bool} {ρ κ : Ds}
theorem compStart_one {elt : Expr} {g₀ : Comprehension} {target iter : Expr} {ifs : List Expr} {rest : List Comprehension} {scope : Scope} {pos : Pos} {it acc : Value} {R : Result → Shared → Prop} {s : Shared}
    (h0 : codeAny (model prog w.wo) A (.compLoop (.ListComp elt (g₀ :: ⟨target, iter, ifs, 0⟩ :: rest) scope pos) 1 it acc env) R s)
    (h : wpAny (model prog w.wo) A (pyIter it) (fun it' s' => codeAny (model prog w.wo) A (.compLoop (.ListComp elt (g₀ :: ⟨target, iter, ifs, 0⟩ :: rest) scope pos) 1 it' acc env) R s')
      (notedBy (model prog w.wo) A env fun x s' => R (.error x) s') s) :
    codeAny (model prog w.wo) A (.compStart (.ListComp elt (g₀ :: ⟨target, iter, ifs, 0⟩ :: rest) scope pos) 1 it acc env) R s := by
  refine codeAny_of_tree ?_
  show wpAny _ _ ((compStart (.ListComp elt (g₀ :: ⟨target, iter, ifs, 0⟩ :: rest) scope pos) 1 it acc env).onRaise (fun x => do noteFrame x env; standAt theWindowsPlace)) _ _ s
  refine wpAny_notedAt ?_
  unfold compStart
  show wpAny _ _ (ask >>= _) _ _ s
  refine wpAny_bind (wpAny_askSetting (wpAny_ite ?_))
  split
  · first
      | exact wpAny_bind (wpAny_pure (wpAny_pure (And.intro rfl h0)))
      | exact wpAny_pure (And.intro rfl h0)
  · refine wpAny_bind (wpAny_rule ?_)
    refine wpAny_bind (wpAny_standAt ?_)
    exact wpAny_bind (wpAny_mono h (fun it' s' h' => wpAny_pure ⟨rfl, h'⟩) fun _ _ x => x)

abbrev emitT (elt : Expr) (env : Env) (acc : Value) : Sem Unit := do let _ ← call (.builtin "list.append") [acc, ← eval elt env]
/-- the second clause of a comprehension, as an act of the first -/
theorem Act.inner {elt : Expr} {g₀ : Comprehension} {target iter : Expr} {ifs : List Expr} {scope : Scope} {pos : Pos} {ds : List Dt} {outs : List (List Dt)} {k : Nat}
    (hit : EvIt prog w A env ρ κ [] iter ds) (hs : ∀ x, foldedSetIterable iter env x = pure x)
    (hturn : ∀ it acc, compTurn (.ListComp elt [g₀, ⟨target, iter, ifs, 0⟩] scope pos) 1 it acc env = (do
      standAt iter.pos
      match ← pyNext it with
      | none => pure (.done .next)
      | some v =>
        letOwnedTupleGo target it v
        assign target env v
        let ok ← testsT ifs env
        if ok = true then emitT elt env acc
        again (.compLoop (.ListComp elt [g₀, ⟨target, iter, ifs, 0⟩] scope pos) 1 it acc env)))
    (hlen : outs.length = ds.length) (hk : outs.flatten.length + 1 ≤ k)
    (turn : ∀ (i : Nat) d o, ds[i]? = some d → outs[i]? = some o → ∃ ρ' κ' b, Asg prog w A env fr ρ κ [] target d ρ' κ' ∧ Sub ρ ρ' ∧ Sub κ κ' ∧ TstC prog w A env ρ' κ' ifs b ∧ (b = true → ∃ e, o = [e] ∧ Ev prog w A env ρ' κ' [] elt e) ∧ (b = false → o = [])) :
    Act prog w A env fr ρ κ (fun acc => do
      let x ← eval iter env
      standAt iter.pos
      let x ← foldedSetIterable iter env x
      let _ ← runOwn (.compStart (.ListComp elt [g₀, ⟨target, iter, ifs, 0⟩] scope pos) 1 (← holding [x] (pyIter x)) acc env) env) outs.flatten k := fun h₀ H D ds₀ s c hz => by
  refine wpAny_bind (wpN (hit H s c.wr.rd) fun x s₁ ⟨g₁, hx⟩ => wpAny_bind (wpAny_standAt ?_))
  rw [hs]
  refine wpAny_bind (wpAny_pure (wpAny_bind (wpAny_holding (wpN hx fun it s₂ ⟨g₂, src⟩ => ?_))))
  obtain ⟨I, fp, wr, P, St, rfl, W, st, hwr, hfp, hfz, hP, hlot, hlive⟩ := src.go
  have c₁ := c.grow g₁.keep
  obtain ⟨cb, kb⟩ := c₁.base
  have live : ∀ {a : Addr} {o : Obj}, s₁.heap.get? a = some o → ∀ b ∈ wr, a ≠ b := fun e b hb q => by rw [q, hwr b hb] at e; cases e
  have hDlive : ∃ o, s₁.heap.get? D = some o := c₁.wr.rd.low D c₁.hD
  have hLw : ∀ b ∈ wr, b ≠ env.locals := fun b hb q => by obtain ⟨_, ⟨_, _, _, e, _⟩, _⟩ := c₁.wr.rd.loc; exact live e b hb q.symm
  have hCw : ∀ b ∈ wr, ∀ x, env.cells.lookup x ≠ some b := fun b hb x e => by obtain ⟨_, ⟨_, e', _⟩, _⟩ := c₁.wr.rd.cel x b e; exact live e' b hb rfl
  have hns : ∀ a, Mayb env fr [] a ∨ a = D → Hid H [] a ∨ NotSeq s₁.heap a := fun a m => m.elim (c₁.wr.notSeq a) fun q => .inl (.inl (q ▸ c₁.hD))
  have c₂ : CI w (hideP s₁.heap fun a => Mayb env fr [] a ∨ a = D) (fun b => H b ∨ b ∈ wr) D env fr ρ κ ds₀ s₂.heap := by
    refine ⟨cb.wr.hideTo g₂.keep (fun b q => q.imp id (hwr b)) fun b q => ?_, .inl cb.hD, cb.newD, ?_⟩
    · rcases q with q | q
      · obtain ⟨o, e⟩ := c₁.wr.rd.low b q; exact ⟨o, g₂.keep _ _ e⟩
      · exact hlive 0 _ b st q
    · obtain ⟨vs, a, r⟩ := cb.acc
      refine ⟨vs, a.at fun o e => g₂.keep _ o e, (r.hide fun b q => ?_).keep g₂.keep⟩
      rcases q with (q | q) | q
      · exact .inl (.inl q)
      · exact .inr (hwr b q)
      · exact .inl (.inr q)
  have key : codeAny (model prog w.wo) A (.compLoop (.ListComp elt [g₀, ⟨target, iter, ifs, 0⟩] scope pos) 1 (.ref I) (.ref D) env)
      (fun r s' => match r with | .ok f => wpAny (model prog w.wo) A (pure ()) (fun _ s' => s'.gens = s.gens ∧ s'.os = s.os ∧ CI w h₀ H D env fr ρ κ (ds₀ ++ outs.flatten) s'.heap) No s' | .error e => cameBackBy (model prog w.wo) A env No e s') s₂ := by
    refine comp_loop (h₁ := hideP s₁.heap fun a => Mayb env fr [] a ∨ a = D) (H₀ := H) (act := emitT elt env) (iter := iter) (target := target) (ifs := ifs) 1 hturn W
      (fun b hb => ⟨.inr hb, hideP_get _ _ _ |>.trans (by split <;> first | rfl | exact hwr b hb), fun q => ?_, hLw b hb, hCw b hb⟩) (fun b hb => ?_) (fun i d v h kh hd hp => ?_) hlot hlive hlen (by omega)
      (fun i d o hd ho => ?_) st (Keep.refl _) c₂ (fun b q => ⟨.inl q, fun hb => ?_⟩) c.hD fun s' eg eo c' => ?_
    · obtain ⟨o, e⟩ := hDlive; exact live e b hb q.symm
    · rcases hfp b hb with q | ⟨⟨o, xs, n, e, hd⟩, hn⟩
      · refine ⟨fun m => ?_, fun z => by obtain ⟨o, e⟩ := hDlive; exact live e b q z.symm⟩
        rcases m with m | ⟨x, _, m⟩ | ⟨_, he, _⟩
        · exact hLw b q m
        · exact hCw b q x m
        · cases he
      · refine ⟨fun m => ?_, fun z => hn (.inl (z ▸ c.hD))⟩
        rcases m with m | ⟨x, _, m⟩ | ⟨_, he, _⟩
        · obtain ⟨_, p, _⟩ := c₁.wr.rd.loc; exact NotSeq.ns p _ (m ▸ e) _ _ hd
        · obtain ⟨_, p, _⟩ := c₁.wr.rd.cel x b m; exact NotSeq.cell p _ e _ _ hd
        · cases he
    · refine (((hP i d v s₁.heap (Keep.refl _) hd hp).hide fun b q => ?_).base fun a m => ?_).keep kh
      · rcases q with (q | q) | q
        · exact .inl (.inl q)
        · exact .inr (hwr b q)
        · exact .inl (.inr q)
      · exact (hns a m).imp (fun q => q.elim (fun q => .inl (.inl q)) .inr) id
    · obtain ⟨ρ', κ', b, h1, h2, h3, h4, h5, h6⟩ := turn i d o hd ho
      refine ⟨ρ', κ', b, h1, h2, h3, h4, fun q => ?_, h6⟩
      obtain ⟨e, rfl, he⟩ := h5 q
      exact Act.emit he
    · obtain ⟨o, e⟩ := c₁.wr.rd.low b q; exact live e b hb rfl
    · exact wpAny_pure ⟨eg.trans (g₂.gens.trans g₁.gens), eo.trans (g₂.os.trans g₁.os), c'.back kb c.wr.gr₀⟩
  have hm : A.mark none = A := rfl
  refine wpAny_bind (wpAny_runOwn ?_)
  rw [hm]
  exact compStart_one key (W.self 0 _ _ _ st key)
end
end Mine
end

section
open PySem PySem.W PyProof.Rows PySem.Calls
set_option autoImplicit false
set_option linter.unusedVariables false
set_option maxRecDepth 100000
namespace Mine
section
variable {prog : Program} {w : Wd} {A : Around} {env : Env} {ρ κ : Ds} {own : Own}
/-- a comprehension of two clauses, both targets local names -/
theorem comp2_core {elt iter₁ iter₂ : Expr} {x y : Str} {px py : Pos} {ifs₂ : List Expr} {scope : Scope} {pos pos' : Pos} {ds : List Dt} {outs : List (List Dt)} {use : Option (Value → Sem Unit)} {Q : Value → Shared → Prop} {H : Addr → Prop} {s : Shared} (k : Nat)
    (hit : EvIt prog w A env ρ κ own iter₁ ds) (cl : List (Str × Addr)) (hclos : closureFor scope env = pure cl) (hsub : SubC cl env.cells) (hlen : outs.length = ds.length) (hz : outs.flatten.length + k ≤ sizeLine)
    (turn : ∀ C (i : Nat) d o, ds[i]? = some d → outs[i]? = some o → ∃ ds₂, ∃ os₂ : List (Option Dt), o = os₂.filterMap id ∧ os₂.length + 1 ≤ k ∧ os₂.length = ds₂.length ∧ EvIt prog w A (compEnvC scope cl C env) [(x, d)] κ [] iter₂ ds₂ ∧
      ∀ (j : Nat) d₂ e₂, ds₂[j]? = some d₂ → os₂[j]? = some e₂ → TstC prog w A (compEnvC scope cl C env) [(y, d₂), (x, d)] κ ifs₂ e₂.isSome ∧ ∀ z, e₂ = some z → Ev prog w A (compEnvC scope cl C env) [(y, d₂), (x, d)] κ [] elt z)
    (R : Rd w H env ρ κ own s.heap)
    (fin : ∀ s₁ s' acc C m, Grow s s₁ → Grow s₁ s' → Rep s'.heap (Hid H own) acc (.list outs.flatten) → s'.heap.Ns C m → s₁.heap.get? C = none → (∀ a, acc = .ref a → a ≠ C) → compPost (model prog w.wo) A No use Q acc C (.ok .next) s')
    (hxy : x ≠ y) (h0 : ∀ n acc, cellsFrom n scope.names acc = acc) (hp : ∀ h, pushCells h scope.names = h)
    (hs₁ : ∀ x, foldedSetIterable iter₁ env x = pure x) (hs₂ : ∀ C x, foldedSetIterable iter₂ (compEnvC scope cl C env) x = pure x) (hkind : scope.kind = .function) (hnames : ∀ x ∈ scope.names, x.2 = .local → scope.names.lookup x.1 = some .local)
    (hk : ∀ C, (compEnvC scope cl C env).scope.kind = .function) (hl : ∀ C, (compEnvC scope cl C env).kindOf x = some .local) (hly : ∀ C, (compEnvC scope cl C env).kindOf y = some .local) :
    wpAny (model prog w.wo) A (comprehension (.ListComp elt [⟨.Name x px, iter₁, [], 0⟩, ⟨.Name y py, iter₂, ifs₂, 0⟩] scope pos) scope env pos' (newList []) false (eval iter₁ env) use) Q No s := by
  refine comp_core (act := fun env acc => do
      let x' ← eval iter₂ env
      standAt iter₂.pos
      let x' ← foldedSetIterable iter₂ env x'
      let _ ← runOwn (.compStart (.ListComp elt [⟨.Name x px, iter₁, [], 0⟩, ⟨.Name y py, iter₂, ifs₂, 0⟩] scope pos) 1 (← holding [x'] (pyIter x')) acc env) env) k hit (.zero hsub h0 hp) hs₁ hclos hkind hnames (fun env it acc => by
      simp only [bind_assoc, pure_bind]
      rfl) hlen hz (fun C i d o hd ho => ?_) R fin
  obtain ⟨ds₂, os₂, rfl, hk₂, hl₂, hit₂, t₂⟩ := turn C i d _ hd ho
  refine ⟨[(x, d)], κ, true, Asg.loc (hk C) (hl C) rfl, .refl _, .nil, fun _ => ?_, fun q => by cases q⟩
  have e : os₂.filterMap id = (os₂.map Option.toList).flatten := (flatten_toList os₂).symm
  rw [e]
  refine Act.inner (ifs := ifs₂) hit₂ (hs₂ C) (fun it acc => rfl) (by rw [List.length_map]; exact hl₂) (by rw [← e]; exact Nat.le_trans (Nat.add_le_add_right (List.length_filterMap_le _ _) 1) hk₂) fun j d₂ o₂ hd₂ ho₂ => ?_
  rw [List.getElem?_map, Option.map_eq_some_iff] at ho₂
  obtain ⟨e₂, he₂, rfl⟩ := ho₂
  obtain ⟨h1, h2⟩ := t₂ j d₂ e₂ hd₂ he₂
  refine ⟨[(y, d₂), (x, d)], κ, e₂.isSome, Asg.loc (hk C) (hly C) rfl, .fresh (by rw [List.lookup_cons, show (y == x) = false from by simpa using fun q => hxy q.symm]; rfl), .refl _, h1, fun q => ?_, fun q => ?_⟩
  · cases e₂ with
    | none => cases q
    | some z => exact ⟨z, rfl, h2 z rfl⟩
  · cases e₂ with
    | none => rfl
    | some z => cases q
end
end Mine
end

section
open PySem PySem.W PyProof.Rows PySem.Calls
set_option autoImplicit false
set_option linter.unusedVariables false
set_option maxRecDepth 100000
namespace Mine
section
variable {prog : Program} {w : Wd} {A : Around} {env : Env} {ρ κ : Ds} {own : Own}
theorem Ev.comp2 {elt iter₁ iter₂ : Expr} {x y : Str} {px py : Pos} {ifs₂ : List Expr} {scope : Scope} {pos : Pos} {ds : List Dt} {outs : List (List Dt)} (k : Nat)
    (hit : EvIt prog w A env ρ κ own iter₁ ds) (cl : List (Str × Addr)) (hclos : closureFor scope env = pure cl) (hsub : SubC cl env.cells) (hlen : outs.length = ds.length) (hz : outs.flatten.length + k ≤ sizeLine)
    (turn : ∀ C (i : Nat) d o, ds[i]? = some d → outs[i]? = some o → ∃ ds₂, ∃ os₂ : List (Option Dt), o = os₂.filterMap id ∧ os₂.length + 1 ≤ k ∧ os₂.length = ds₂.length ∧ EvIt prog w A (compEnvC scope cl C env) [(x, d)] κ [] iter₂ ds₂ ∧
      ∀ (j : Nat) d₂ e₂, ds₂[j]? = some d₂ → os₂[j]? = some e₂ → TstC prog w A (compEnvC scope cl C env) [(y, d₂), (x, d)] κ ifs₂ e₂.isSome ∧ ∀ z, e₂ = some z → Ev prog w A (compEnvC scope cl C env) [(y, d₂), (x, d)] κ [] elt z)
    (hxy : x ≠ y := by decide +kernel) (h0 : ∀ n acc, cellsFrom n scope.names acc = acc := by exact fun _ _ => rfl) (hp : ∀ h, pushCells h scope.names = h := by exact fun _ => rfl)
    (hs₁ : ∀ x, foldedSetIterable iter₁ env x = pure x := by intro _; rfl) (hs₂ : ∀ C x, foldedSetIterable iter₂ (compEnvC scope cl C env) x = pure x := by intro _ _; rfl) (hkind : scope.kind = .function := by kernel_rfl!) (hnames : ∀ x ∈ scope.names, x.2 = .local → scope.names.lookup x.1 = some .local := by decide)
    (hk : ∀ C, (compEnvC scope cl C env).scope.kind = .function := by intro _; kernel_rfl!) (hl : ∀ C, (compEnvC scope cl C env).kindOf x = some .local := by intro _; kernel_rfl!) (hly : ∀ C, (compEnvC scope cl C env).kindOf y = some .local := by intro _; kernel_rfl!) :
    Ev prog w A env ρ κ own (.ListComp elt [⟨.Name x px, iter₁, [], 0⟩, ⟨.Name y py, iter₂, ifs₂, 0⟩] scope pos) (.list outs.flatten) := fun H s R => by
  rw [eval_ListComp]
  refine comp2_core k hit cl hclos hsub hlen hz turn R (fun s₁ s' acc C m g₁ g₂ r hn hC hacc => ⟨m, hn, fun h' sb => ?_⟩) hxy h0 hp hs₁ hs₂ hkind hnames hk hl hly
  have ns := NotSeq.ns hn
  exact ⟨g₁.trans ⟨fun b o e => (sb.2 b fun q => by rw [q, hC] at e; cases e).trans (g₂.keep b o e), g₂.gens, g₂.os⟩, r.same sb (.inr ns)⟩
end
end Mine
end

section
open PySem PySem.W PyProof.Rows PySem.Calls
set_option autoImplicit false
set_option linter.unusedVariables false
set_option maxRecDepth 100000
namespace Mine
def dPos (l : List Int) : Nat := (l.filter fun x => decide (x > 0)).length
def dPick (ts : List Dt) (less : List Nat) (c : Nat) : List Dt := (List.range 6).filterMap fun i => if less.getD i 0 = c then ts[i]? else none
def dSorted (ts : List Dt) (less : List Nat) : List Dt := ((List.range 6).map (dPick ts less)).flatten
section
variable {prog : Program} {w : Wd} {A : Around}
theorem filterMap_if (l : List Int) : ((l.map fun x => if decide (x > 0) = true then some (Dt.int x) else none).filterMap id) = (l.filter fun x => decide (x > 0)).map .int := by
  induction l with
  | nil => rfl
  | cons x l ih =>
    by_cases h : decide (x > 0) = true
    · rw [List.filter_cons_of_pos (p := fun x => decide (x > 0)) h]
      simp only [List.map_cons, if_pos h, List.filterMap_cons, id, ih]
    · rw [List.filter_cons_of_neg (p := fun x => decide (x > 0)) h]
      simp only [List.map_cons, if_neg h, List.filterMap_cons, id, ih]
theorem fn_lawsorted {ts : List Dt} {table : List (List Int)} (ht : ts.length = 6) (hb : table.length = 6) (hbl : ∀ l ∈ table, l.length = 6) (hR : Room A 1) :
    OpN prog w A (fun vs => call (.ref (w.bk "_law_sorted")) vs) [.list ts, .list (table.map fun l => .list (l.map .int))] (.list (dSorted ts (table.map dPos))) := by
  generalize htb : (Dt.list (table.map fun l => Dt.list (l.map .int))) = tb
  refine fnC (n := 0) (ds := [("things", .list ts), ("table", tb)]) (ρ := [("table", tb)]) (κ := [("things", .list ts)]) hR def_lawsorted rfl (fun vs h => ?_) (by kernel_rfl) (by kernel_rfl) (by kernel_rfl) (by kernel_rfl) (by kernel_rfl) (by kernel_rfl) fun L A' R => ?_
  · match vs, h with
    | [_, _], _ => rfl
  · subst htb
    refine Exs.setC (d := .list ((table.map dPos).map fun n => .int (n : Nat))) (.compM (.map (x := "line") (.list R.handled (.loc rfl)) (by simp) [] rfl trivial fun C i d e hd he => ?_) (by rw [List.length_map, List.length_map, hb]; decide)) ?_ (L + 2) rfl
    · rw [List.getElem?_map, Option.map_eq_some_iff] at hd
      obtain ⟨l, hl, rfl⟩ := hd
      simp only [List.getElem?_map, hl, Option.map_some, Option.some.injEq] at he
      subst he
      have hll := hbl l (List.mem_of_getElem? hl)
      have hlen : (((l.map fun x => if decide (x > 0) = true then some (Dt.int x) else none).filterMap id)).length = dPos l := by
        rw [filterMap_if, List.length_map]; rfl
      have hle : dPos l ≤ 6 := by rw [← hll]; exact List.length_filter_le _ _
      refine .callB (id := "len") (.one (.comp (es := l.map fun x => if decide (x > 0) = true then some (Dt.int x) else none) (.filter (x := "duel") (.list R.handled (.loc rfl)) (by simp) [] rfl trivial fun C' i' d' e' hd' he' => ?_) ?_)) ?_ n_len (by decide +kernel) (by decide +kernel)
      · rw [List.getElem?_map, Option.map_eq_some_iff] at hd'
        obtain ⟨x, hx, rfl⟩ := hd'
        simp only [List.getElem?_map, hx, Option.map_some, Option.some.injEq] at he'
        subst he'
        have : (if decide (x > 0) = true then some (Dt.int x) else none).isSome = decide (x > 0) := by split <;> simp_all
        rw [this]
        refine ⟨.cmp (.loc rfl) .int Op.gt_int, fun y hy => ?_⟩
        split at hy
        · cases hy; exact .loc rfl
        · cases hy
      · rw [List.length_map, hll]; decide
      · have := Op.len_list (prog := prog) (w := w) (A := A') (ds := ((l.map fun x => if decide (x > 0) = true then some (Dt.int x) else none).filterMap id)) (by rw [hlen]; omega)
        rwa [hlen] at this
    · have hlt : ∀ i, i < 6 → (List.map (fun n : Nat => Dt.int n) (table.map dPos))[i]? = some (.int ((table.map dPos).getD i 0 : Nat)) := fun i hi => by
        have : i < table.length := by omega
        simp [this]
      refine Exs.ret (d := .list (dSorted ts (table.map dPos))) (.comp2 (x := "count") (y := "i") (ds := (List.range 6).map fun (i : Nat) => .int i) 7 (.range R.handled .int (by decide) n_range) [("things", L + 1), ("less", L + 2)] rfl ⟨rfl, rfl, trivial⟩ (by simp) ?_ fun C c d o hd ho => ?_) rfl
      · have : (((List.range 6).map (dPick ts (table.map dPos))).flatten).length ≤ 36 := by
          rw [List.length_flatten, List.map_map]
          have : ∀ c ∈ List.range 6, (List.length ∘ dPick ts (table.map dPos)) c ≤ 6 := fun c _ => by
            show (dPick ts (table.map dPos) c).length ≤ 6
            exact Nat.le_trans (List.length_filterMap_le _ _) (by simp)
          have h2 : ∀ (l : List Nat) (f : Nat → Nat), (∀ c ∈ l, f c ≤ 6) → (l.map f).sum ≤ 6 * l.length := by
            intro l f h
            induction l with
            | nil => simp
            | cons a l ih =>
              have := ih fun c hc => h c (.tail _ hc)
              have := h a (.head _)
              simp only [List.map_cons, List.sum_cons, List.length_cons]; omega
          have := h2 _ _ this
          simpa using this
        exact Nat.le_trans (Nat.add_le_add_right this 7) (by decide)
      · have hc : c < 6 := by
          have := (List.getElem?_eq_some_iff.mp hd).1
          simpa using this
        have ed : d = .int c := by
          have : (List.range 6)[c]? = some c := by simp [hc]
          simp only [List.getElem?_map, this, Option.map_some, Option.some.injEq] at hd
          exact hd.symm
        have eo : o = dPick ts (table.map dPos) c := by
          have : (List.range 6)[c]? = some c := by simp [hc]
          simp only [List.getElem?_map, this, Option.map_some, Option.some.injEq] at ho
          exact ho.symm
        subst ed eo
        refine ⟨(List.range 6).map fun (i : Nat) => .int i, (List.range 6).map fun i => if (table.map dPos).getD i 0 = c then ts[i]? else none, ?_, by simp, by simp, .range R.handled .int (by decide) n_range, fun j d₂ e₂ hd₂ he₂ => ?_⟩
        · unfold dPick; rw [List.filterMap_map]; rfl
        · have hj : j < 6 := by
            have := (List.getElem?_eq_some_iff.mp hd₂).1
            simpa using this
          have hjr : (List.range 6)[j]? = some j := by simp [hj]
          simp only [List.getElem?_map, hjr, Option.map_some, Option.some.injEq] at hd₂ he₂
          subst hd₂ he₂
          have htj : ts[j]? = some (ts[j]'(by omega)) := by simp [ht, hj]
          have : (if (table.map dPos).getD j 0 = c then ts[j]? else none).isSome = (((table.map dPos).getD j 0 : Int) == (c : Int)) := by
            rw [htj]
            by_cases q : (table.map dPos).getD j 0 = c
            · rw [if_pos q, q]; simp
            · rw [if_neg q]
              have : ¬ (((table.map dPos).getD j 0 : Nat) : Int) = (c : Int) := by omega
              simp only [Option.isSome_none]
              exact (beq_eq_false_iff_ne.mpr this).symm
          rw [this]
          refine ⟨.one (.cmp (.sub (.cell rfl (L + 2) rfl) (.loc rfl) (Op.item (by omega) (by omega) (hlt j hj))) (.loc rfl) Op.eq_int), fun z hz => ?_⟩
          split at hz
          · exact .sub (.cell rfl (L + 1) rfl) (.loc rfl) (Op.item (by omega) (by omega) (by simpa using hz))
          · cases hz
end
end Mine
end

section
open PySem PySem.W PyProof.Rows PySem.Calls
set_option autoImplicit false
set_option linter.unusedVariables false
set_option maxRecDepth 100000
namespace Mine
section
variable {prog : Program} {w : Wd} {A : Around} {env : Env} {ρ κ : Ds} {own : Own} {O : Out → Prop}
/-- an own list becomes plain data -/
theorem Wr.thaw {h₀ h : Heap} {H : Addr → Prop} {x : Str} {a : Addr} {ds : List Dt} (W : Wr w h₀ H env allF ρ κ ((x, a, ds) :: own) h) : Wr w h₀ H env allF ((x, .list ds) :: ρ) κ own h := by
  have hid : ∀ b, Hid H own b → Hid H ((x, a, ds) :: own) b ∨ h.get? b = none := fun b q => .inl (q.imp id fun ⟨e, he, z⟩ => ⟨e, .tail _ he, z⟩)
  have hna : ¬ Hid H own a := fun q => by
    rcases q with q | ⟨e, he, z⟩
    · exact W.lowO _ (.head _) q
    · exact (List.pairwise_cons.mp W.apartO).1 e he z.symm
  obtain ⟨m, p, q, o⟩ := W.rd.loc
  obtain ⟨vs, n, hl, hr⟩ := W.rd.has _ (.head _)
  refine ⟨⟨W.rd.gr, W.rd.low, ⟨m, p, fun y d e => ?_, fun e he => o e (.tail _ he)⟩, fun y c e => ?_, fun e he => ?_⟩, W.gr₀, W.keep, W.newL, W.newC, W.apart, fun e he => W.newO e (.tail _ he), (List.pairwise_cons.mp W.apartO).2, fun e he => W.lowO e (.tail _ he)⟩
  · rcases lookup_cons_same e with ⟨rfl, rfl⟩ | ⟨_, e⟩
    · exact ⟨_, o _ (.head _), .list ⟨_, hl, rfl, n, rfl⟩ hna (hr.hide hid)⟩
    · obtain ⟨v, i, j⟩ := q y d e; exact ⟨v, i, j.hide hid⟩
  · obtain ⟨z, i, j⟩ := W.rd.cel y c e
    exact ⟨z, i, fun d e => let ⟨v, i, j⟩ := j d e; ⟨v, i, j.hide hid⟩⟩
  · obtain ⟨vs, n, i, j⟩ := W.rd.has e (.tail _ he)
    exact ⟨vs, n, i, j.hide hid⟩
theorem Exs.thaw {x : Str} {a : Addr} {ds : List Dt} {ss : List Stmt} (h : Exs prog w A env ((x, .list ds) :: ρ) κ own ss O) : Exs prog w A env ρ κ ((x, a, ds) :: own) ss O :=
  fun h₀ H s W => h h₀ H s W.thaw
end
def pickI (xs : List Int) (lo hi st : Option Int) : List Int :=
  (sliceRange (sliceBounds lo hi st xs.length).1 (sliceBounds lo hi st xs.length).2.1 (sliceBounds lo hi st xs.length).2.2).filterMap (xs[·]?)
theorem pickD_int (xs : List Int) (lo hi st : Option Int) : pickD (xs.map .int) lo hi st = (pickI xs lo hi st).map .int := by
  unfold pickD pickI
  rw [List.length_map, List.map_filterMap]
  congr 1
  funext i
  rw [List.getElem?_map]
theorem pickI_mem {xs : List Int} {lo hi st : Option Int} {x : Int} (h : x ∈ pickI xs lo hi st) : x ∈ xs := by
  unfold pickI at h
  obtain ⟨i, _, e⟩ := List.mem_filterMap.mp h
  exact List.mem_of_getElem? e
theorem sum_nonneg : ∀ {xs : List Int}, (∀ x ∈ xs, 0 ≤ x) → 0 ≤ xs.sum
  | [], _ => by simp
  | x :: xs, h => by
    have := sum_nonneg (xs := xs) fun y hy => h y (.tail _ hy)
    have := h x (.head _)
    simp only [List.sum_cons]; omega

theorem pickI_len (xs : List Int) (lo hi st : Option Int) : (pickI xs lo hi st).length ≤ xs.length := by
  unfold pickI
  refine Nat.le_trans (List.length_filterMap_le _ _) (sliceRange_length_le _ _ _ _ (fun hc => ?_) fun hc => ?_)
  · simp only [sliceBounds] at hc ⊢
    simp only [hc, if_true]
    constructor
    · cases lo with
      | none => simp
      | some i => dsimp only; omega
    · cases hi with
      | none => simp
      | some i => dsimp only; omega
  · simp only [sliceBounds] at hc ⊢
    simp only [hc, if_false]
    constructor
    · cases lo with
      | none => simp
      | some i => dsimp only; omega
    · cases hi with
      | none => simp
      | some i => dsimp only; omega

def poolS : List Str := ["a", "a-", "a b", "a.b", "ab", "A", "b", "b-a"]
def crookS : List Str := ["", "./", "x/../", ".//"]
def seedsI : List Int := [3217, 3, 0, 20747, 16, 50]
def dDrawn (ns : List Int) : List Int := (pickI ns none (some 63) none).map fun x => x.fmod 1000000
def dCell (ns : List Int) (j : Nat) : Int := seedsI.getD j 0 + (pickI (dDrawn ns) (some j) none (some 6)).sum
def cName (c : Int) (i : Nat) : Str := poolS.getD (((c.fdiv 3).fdiv (8 ^ i)).fmod 8).toNat ""
def cCrook (c : Int) (i : Nat) : Str := crookS.getD (((c.fdiv 1536).fdiv (4 ^ i)).fmod 4).toNat ""
def cLen (c : Int) : Nat := (1 + c.fmod 3).toNat
def cRow (c : Int) : List Str := (List.range (cLen c)).map (cName c)
def cPart (c : Int) : List Str := (List.range (cLen c)).map fun i => cCrook c i ++ cName c i
def dRootOf (ns : List Int) : Str := Txt.mul "/" ((dDrawn ns).sum.fmod 2)
def dtRow (r : List Str) : Dt := .list (r.map .str)
theorem fmod_pos (c : Int) {n : Int} (h : 0 < n) : 0 ≤ c.fmod n ∧ c.fmod n < n := ⟨Int.fmod_nonneg_of_pos c h, Int.fmod_lt_of_pos c h⟩
theorem cLen_le (c : Int) : cLen c ≤ 3 ∧ 1 ≤ cLen c := by
  have := fmod_pos c (n := 3) (by decide)
  unfold cLen; omega
theorem dDrawn_nonneg (ns : List Int) : ∀ x ∈ dDrawn ns, 0 ≤ x := fun x hx => by
  obtain ⟨y, _, rfl⟩ := List.mem_map.mp hx
  exact (fmod_pos y (by decide)).1
section
variable {prog : Program} {w : Wd} {A : Around}
theorem fn_case {ns : List Int} (hn : ns.length ≤ 63) (hR : Room A 1) :
    OpN prog w A (fun vs => call (.ref (w.bk "_law_case")) vs) [.list (ns.map .int)] (.tuple [.str (dRootOf ns), .list ((List.range 6).map fun j => dtRow (cRow (dCell ns j))), .list ((List.range 6).map fun j => dtRow (cPart (dCell ns j)))]) := by
  refine fnC (n := 0) (ds := [("script", .list (ns.map .int))]) (ρ := [("script", .list (ns.map .int))]) (κ := []) hR def_case rfl (fun vs h => ?_) (by kernel_rfl) (by kernel_rfl) (by kernel_rfl) (by kernel_rfl) (by kernel_rfl) (by kernel_rfl) fun L A' R => ?_
  · match vs, h with
    | [_], _ => rfl
  · have hdl : (dDrawn ns).length ≤ 63 := by unfold dDrawn; rw [List.length_map]; exact Nat.le_trans (pickI_len _ _ _ _) hn
    refine Exs.compM (y := "drawn") (es := (dDrawn ns).map .int) (.map (x := "x") (.list R.handled (.sliceL (a := none) (b := some 63) (c := none) (.loc rfl) trivial .int trivial (by rw [List.length_map]; exact Nat.le_trans hn (by decide)) (by decide))) ?_ [] rfl trivial fun C i d e hd he => ?_) (by rw [List.length_map]; exact Nat.le_trans (Nat.add_le_add_right hdl 1) (by decide)) ?_
    · rw [pickD_int]; simp [dDrawn]
    · rw [pickD_int, List.getElem?_map, Option.map_eq_some_iff] at hd
      obtain ⟨x, hx, rfl⟩ := hd
      simp only [dDrawn, List.getElem?_map, hx, Option.map_some, Option.some.injEq] at he
      subst he
      exact .bin (.loc rfl) .int (Op.mod_int (by decide))
    refine @Exs.setL prog w A' _ _ _ _ _ _ _ _ _ _ (.list [.int 3217, .int 3, .int 0, .int 20747, .int 16, .int 50]) (.list (.cons .int (.cons .int (.cons .int (.cons .int (.cons .int (.cons .int .nil rfl) rfl) rfl) rfl) rfl) rfl)) ?_ (by kernel_rfl!) (by kernel_rfl!) (by kernel_rfl!) rfl
    refine @Exs.setC prog w A' _ _ _ _ _ _ _ _ _ _ (.list [.str "a", .str "a-", .str "a b", .str "a.b", .str "ab", .str "A", .str "b", .str "b-a"]) (.list (.cons .str (.cons .str (.cons .str (.cons .str (.cons .str (.cons .str (.cons .str (.cons .str .nil rfl) rfl) rfl) rfl) rfl) rfl) rfl) rfl)) ?_ (L + 1) rfl (by kernel_rfl!) (by kernel_rfl!) (by kernel_rfl!)
    refine @Exs.setC prog w A' _ _ _ _ _ _ _ _ _ _ (.list [.str "", .str "./", .str "x/../", .str ".//"]) (.list (.cons .str (.cons .str (.cons .str (.cons .str .nil rfl) rfl) rfl) rfl)) ?_ (L + 2) rfl (by kernel_rfl!) (by kernel_rfl!) (by kernel_rfl!)
    refine Exs.ownNew (fun a => Exs.ownNew (fun b => ?_) rfl) rfl
    refine Exs.loop (.range (n := 6) R.handled .int (by decide) n_range) (fun _ => True) (fun _ => [("seeds", .list (seedsI.map .int)), ("drawn", .list ((dDrawn ns).map .int))]) (fun _ => [("crooks", .list (crookS.map .str)), ("pool", .list (poolS.map .str))])
      (fun i => [("parts", b, (List.range i).map fun j => dtRow (cPart (dCell ns j))), ("rows", a, (List.range i).map fun j => dtRow (cRow (dCell ns j)))]) trivial (.of ⟨rfl, rfl, trivial⟩) (.refl _) rfl (fun _ => rfl) (fun i d hd _ => ⟨_, _, .loc, ?_⟩) (fun _ => ?_)
    · have hi : i < 6 := by
        have := (List.getElem?_eq_some_iff.mp hd).1
        simpa using this
      have ed : d = .int i := by
        have : (List.range 6)[i]? = some i := by simp [hi]
        simp only [List.getElem?_map, this, Option.map_some, Option.some.injEq] at hd
        exact hd.symm
      subst ed
      have hsd : (seedsI.map Dt.int)[(i : Int).toNat]? = some (.int (seedsI.getD i 0)) := by
        have : i < seedsI.length := hi
        simp [this]
      refine Exs.setC (d := .int (dCell ns i)) (.bin (.sub (.loc rfl) (.loc rfl) (Op.item (by omega) (by omega) hsd)) (.callB (id := "sum") (.one (.sliceL (a := some (i : Int)) (b := none) (c := some 6) (.loc rfl) (Ev.loc rfl) trivial Ev.int (by rw [List.length_map]; exact Nat.le_trans hdl (by decide)) (by decide))) ?_ n_sum (by decide +kernel) (by decide +kernel)) Op.add_int) ?_ (L + 3) rfl
      · rw [pickD_int]; exact Op.sum R.handled
      obtain ⟨hl3, hl1⟩ := cLen_le (dCell ns i)
      generalize hc : dCell ns i = c at hl3 hl1
      have hlen : Dt.int (1 + c.fmod 3) = .int ((cLen c : Nat) : Int) := by
        have := fmod_pos c (n := 3) (by decide)
        unfold cLen
        rw [Int.toNat_of_nonneg (by omega)]
      have hpow : ∀ (m : Int), (m = 8 ∨ m = 4) → ∀ i' : Nat, i' < 3 → m ^ i' ≠ 0 ∧ (m ^ i').natAbs < 1073741824 := fun m hm i' hi' => by
        rcases hm with rfl | rfl <;> match i', hi' with
          | 0, _ => decide
          | 1, _ => decide
          | 2, _ => decide
      have ri : ∀ (n : Nat) (i' : Nat) (d' : Dt), ((List.range n).map fun (i : Nat) => Dt.int i)[i']? = some d' → i' < n ∧ d' = .int i' := fun n i' d' hd' => by
        have h1 := (List.getElem?_eq_some_iff.mp hd').1
        have h2 : i' < n := by simpa using h1
        have : (List.range n)[i']? = some i' := by simp [h2]
        simp only [List.getElem?_map, this, Option.map_some, Option.some.injEq] at hd'
        exact ⟨h2, hd'.symm⟩
      refine @Exs.setC prog w A' _ _ _ _ _ _ _ _ _ _ (dtRow (cRow c)) (.compM (.map (x := "i") (ds := (List.range (cLen c)).map fun (i : Nat) => .int i) (.range R.handled (by rw [← hlen]; exact .bin .int (.bin (.cell rfl (L + 3) rfl) .int (Op.mod_int (by decide))) Op.add_int) (by omega) n_range) (by simp [cRow]) [("pool", L + 1), ("cell", L + 3)] rfl ⟨rfl, rfl, trivial⟩ fun C i' d' e' hd' he' => ?_) (by simp only [cRow, List.length_map, List.length_range]; exact Nat.le_trans (Nat.succ_le_succ hl3) (show 3 + 1 ≤ sizeLine by decide))) ?_ (L + 4) rfl (by kernel_rfl!) (by kernel_rfl!) (by kernel_rfl!)
      · obtain ⟨hi', rfl⟩ := ri _ _ _ hd'
        have hr : (List.range (cLen c))[i']? = some i' := by simp [hi']
        simp only [cRow, List.getElem?_map, hr, Option.map_some, Option.some.injEq] at he'
        subst he'
        obtain ⟨p1, p2⟩ := hpow 8 (.inl rfl) i' (by omega)
        obtain ⟨q1, q2⟩ := fmod_pos ((c.fdiv 3).fdiv (8 ^ i')) (n := 8) (by decide)
        refine .sub (.cell rfl (L + 1) rfl) (.bin (.bin (.bin (.cell rfl (L + 3) rfl) .int (Op.div_int (by decide) (by decide))) (.bin .int (.loc rfl) (Op.pow_int (by omega) (by decide))) (Op.div_int p1 p2)) .int (Op.mod_int (by decide))) (Op.item q1 (by omega) ?_)
        unfold cName
        generalize ((c.fdiv 3).fdiv (8 ^ i')).fmod 8 = q at q1 q2
        obtain ⟨n, rfl⟩ := Int.eq_ofNat_of_zero_le q1
        have : n < 8 := by omega
        match n, this with
        | 0, _ => rfl
        | 1, _ => rfl
        | 2, _ => rfl
        | 3, _ => rfl
        | 4, _ => rfl
        | 5, _ => rfl
        | 6, _ => rfl
        | 7, _ => rfl
      refine Exs.append (x := "rows") (a := a) (ds := (List.range i).map fun j => dtRow (cRow (dCell ns j))) rfl (.cell rfl (L + 4) rfl) (by rw [List.length_map, List.length_range]; exact Nat.le_trans (Nat.le_of_lt hi) (by decide)) ?_
      have olr : OpN prog w A' (fun vs => call (.builtin "len") vs) [dtRow (cRow c)] (.int (cLen c : Nat)) := by
        have := Op.len_list (prog := prog) (w := w) (A := A') (ds := (cRow c).map Dt.str) (by simp [cRow]; omega)
        simp only [cRow, List.length_map, List.length_range] at this
        exact this
      refine Exs.append (x := "parts") (a := b) (d := dtRow (cPart c)) (ds := (List.range i).map fun j => dtRow (cPart (dCell ns j))) rfl (.compM (.map (x := "i") (ds := (List.range (cLen c)).map fun (i : Nat) => .int i) (.range R.handled (.callB (id := "len") (.one (.cell rfl (L + 4) rfl)) olr n_len (by decide +kernel) (by decide +kernel)) (by omega) n_range) (by simp [cPart]) [("row", L + 4), ("crooks", L + 2), ("cell", L + 3)] rfl ⟨rfl, rfl, rfl, trivial⟩ fun C i' d' e' hd' he' => ?_) (by simp only [cPart, List.length_map, List.length_range]; exact Nat.le_trans (Nat.succ_le_succ hl3) (show 3 + 1 ≤ sizeLine by decide))) (by rw [List.length_map, List.length_range]; exact Nat.le_trans (Nat.le_of_lt hi) (by decide)) (Exs.nil ⟨trivial, .of ⟨rfl, rfl, trivial⟩, .of ⟨rfl, rfl, trivial⟩, ?_⟩)
      · obtain ⟨hi', rfl⟩ := ri _ _ _ hd'
        have hr : (List.range (cLen c))[i']? = some i' := by simp [hi']
        simp only [cPart, List.getElem?_map, hr, Option.map_some, Option.some.injEq] at he'
        subst he'
        obtain ⟨p1, p2⟩ := hpow 4 (.inr rfl) i' (by omega)
        obtain ⟨q1, q2⟩ := fmod_pos ((c.fdiv 1536).fdiv (4 ^ i')) (n := 4) (by decide)
        have hrow : ((cRow c).map Dt.str)[(i' : Int).toNat]? = some (.str (cName c i')) := by
          simp [cRow, hi']
        refine .bin (.sub (.cell rfl (L + 2) rfl) (.bin (.bin (.bin (.cell rfl (L + 3) rfl) .int (Op.div_int (by decide) (by decide))) (.bin .int (.loc rfl) (Op.pow_int (by omega) (by decide))) (Op.div_int p1 p2)) .int (Op.mod_int (by decide))) (Op.item (d := .str (cCrook c i')) q1 (by omega) ?_)) (.sub (.cell rfl (L + 4) rfl) (.loc rfl) (Op.item (by omega) (by omega) hrow)) (Op.add_str ?_)
        · unfold cCrook
          generalize ((c.fdiv 1536).fdiv (4 ^ i')).fmod 4 = q at q1 q2
          obtain ⟨n, rfl⟩ := Int.eq_ofNat_of_zero_le q1
          have : n < 4 := by omega
          match n, this with
          | 0, _ => rfl
          | 1, _ => rfl
          | 2, _ => rfl
          | 3, _ => rfl
        · rw [Str.length_append]
          have h1 : ∀ n, (crookS.getD n "").length ≤ 5 := fun n => by
            match n with
            | 0 => decide
            | 1 => decide
            | 2 => decide
            | 3 => decide
            | _ + 4 => exact Nat.zero_le _
          have h2 : ∀ n, (poolS.getD n "").length ≤ 3 := fun n => by
            match n with
            | 0 => decide
            | 1 => decide
            | 2 => decide
            | 3 => decide
            | 4 => decide
            | 5 => decide
            | 6 => decide
            | 7 => decide
            | _ + 8 => exact Nat.zero_le _
          exact Nat.le_trans (Nat.add_le_add (h1 _) (h2 _)) (show 5 + 3 ≤ sizeLine by decide)
      · rw [List.range_succ, List.map_append, List.map_append, List.map_cons, List.map_cons, hc]
        rfl
    · refine Exs.thaw (Exs.thaw ?_)
      refine Exs.ret (.tuple (.three (.bin .str (.bin (.callB (id := "sum") (.one (.loc rfl)) (Op.sum R.handled) n_sum (by decide +kernel) (by decide +kernel)) .int (Op.mod_int (by decide))) (Op.mul_str ?_)) (.loc rfl) (.loc rfl))) ?_
      · obtain ⟨q1, q2⟩ := fmod_pos (dDrawn ns).sum (n := 2) (by decide)
        obtain ⟨n, e⟩ := Int.eq_ofNat_of_zero_le q1
        rw [e]
        exact mulOk_slash (by omega)
      · simp [dRootOf]
end
end Mine
end

section
open PySem PySem.W PyProof.Rows PySem.Calls
set_option autoImplicit false
set_option linter.unusedVariables false
set_option maxRecDepth 100000
namespace Mine
namespace MF
theorem owner_map : Manifest.owners.lookup (String.ofList ['p', 'a', 'm'].reverse) = some Manifest.sig_map := by kernel_rfl
theorem slot_next : Slot "map" "__next__" "map.__next__" :=
  .of (owner := "map") (n := "__next__") (by rw [typeLookup_type, builtinLookup_eq_fast]; kernel_rfl) (by decide +kernel) (by decide +kernel) (by decide +kernel)
    (by first | exact .inl (by decide +kernel) | exact .inr (by decide +kernel)) (by rw [isSubtype_type]; kernel_rfl)
theorem slot_iter : Slot "map" "__iter__" "map.__iter__" :=
  .of (owner := "map") (n := "__iter__") (by rw [typeLookup_type, builtinLookup_eq_fast]; kernel_rfl) (by decide +kernel) (by decide +kernel) (by decide +kernel)
    (by first | exact .inl (by decide +kernel) | exact .inr (by decide +kernel)) (by rw [isSubtype_type]; kernel_rfl)
theorem slot_init : Slot "map" "__init__" "object.__init__" :=
  .of (owner := "object") (n := "__init__") (by rw [typeLookup_type, builtinLookup_eq_fast]; kernel_rfl) (by decide +kernel) (by decide +kernel) (by decide +kernel)
    (by first | exact .inl (by decide +kernel) | exact .inr (by decide +kernel)) (by rw [isSubtype_type]; kernel_rfl)
theorem args_next (a : Value) : argsOk "map.__next__" ⟨[a], []⟩ := by
  unfold argsOk; rw [signature?_of (id := "map.__next__") (n := ['_', '_', 't', 'x', 'e', 'n', '_', '_']) (o := ['p', 'a', 'm']) (by kernel_rfl) owner_map]; kernel_rfl
theorem args_iter (a : Value) : argsOk "map.__iter__" ⟨[a], []⟩ := by
  unfold argsOk; rw [signature?_of (id := "map.__iter__") (n := ['_', '_', 'r', 'e', 't', 'i', '_', '_']) (o := ['p', 'a', 'm']) (by kernel_rfl) owner_map]; kernel_rfl
theorem entry_next : entryFor table "map.__next__" = some Builtin.«map.__next__» := entryFor_of_tree (by kernel_rfl)
theorem entry_iter : entryFor table "map.__iter__" = some Builtin.«dict_keyiterator.__iter__» :=
  entryFor_alias (id' := "dict_keyiterator.__iter__") (by kernel_rfl) (by first | rfl | decide +kernel | (unfold String.splitOn; simp +decide [String.splitOnAux])) (by decide +kernel) (by kernel_rfl)
theorem mro : mroOf (.type "map") = pure [.type "map", .type "object"] := by rw [mroOf_type]; kernel_rfl
theorem lookup_new : typeLookup (.type "map") "__new__" = pure (some (.builtin "map.__new__")) := by rw [typeLookup_type, builtinLookup_eq_fast]; kernel_rfl
theorem called : TypeCalled "map" "map.__new__" "object.__init__" :=
  ⟨by decide +kernel, by decide +kernel, ⟨_, _, mro⟩, madeBy_type mro lookup_new (by decide +kernel), by decide +kernel, by rw [isSubtype_type]; kernel_rfl, slot_init⟩
theorem typeCall (a b : Value) : checkTypeCall "map" ⟨[a, b], []⟩ = pure () := by kernel_rfl
theorem newCall (a b : Value) : checkBuiltinCall "map.__new__" ⟨[.type "map", a, b], []⟩ = pure () := by kernel_rfl
theorem entry_new : entryFor table "map.__new__" = some Builtin.«map.__new__» := entryFor_of_tree (by kernel_rfl)
theorem sub : isSubtype (.type "map") (.type "map") = pure true := by rw [isSubtype_type]; kernel_rfl
theorem no_len : typeLookup (.type "map") "__len__" = pure none := by rw [typeLookup_type, builtinLookup_eq_fast]; kernel_rfl
theorem no_hint : typeLookup (.type "map") "__length_hint__" = pure none := by rw [typeLookup_type, builtinLookup_eq_fast]; kernel_rfl
end MF

end Mine
end

section
open PySem PySem.W PyProof.Rows PySem.Calls
set_option autoImplicit false
set_option linter.unusedVariables false
set_option maxRecDepth 100000
namespace Mine
/-- a map object over a list's iterator -/
structure IsMapOf (h : Heap) (z TI i1 l : Addr) (k : Nat) (f : Value) (items : Array Value) : Prop where
  z : h.get? z = some { cls := .type "map", data := .fields #[.ref TI, f] }
  t : h.get? TI = some { cls := .type "tuple", data := .seq #[.ref i1] }
  i : h.IsListIter i1 l k
  l : h.IsList l items
theorem IsMapOf.at {h h' : Heap} {z TI i1 l : Addr} {k : Nat} {f : Value} {items : Array Value} (m : IsMapOf h z TI i1 l k f items)
    (hk : ∀ b, b = z ∨ b = TI ∨ b = i1 ∨ b = l → ∀ o, h.get? b = some o → h'.get? b = some o) : IsMapOf h' z TI i1 l k f items :=
  ⟨hk z (.inl rfl) _ m.z, hk TI (.inr (.inl rfl)) _ m.t, let ⟨o, e, r⟩ := m.i; ⟨o, hk i1 (.inr (.inr (.inl rfl))) o e, r⟩, let ⟨o, e, r⟩ := m.l; ⟨o, hk l (.inr (.inr (.inr rfl))) o e, r⟩⟩
def mapHeap (h : Heap) (l : Addr) (f : Value) : Heap :=
  ((h.push { cls := .type "list_iterator", data := .fields #[.ref l, .int 0 0] }).push { cls := .type "tuple", data := .seq #[.ref h.objs.size] }).push { cls := .type "map", data := .fields #[.ref (h.objs.size + 1), f] }
theorem meets_map_new (f : Value) (l : Addr) (xs : Array Value) :
    Meets (Builtin.«map.__new__» ⟨[.type "map", f, .ref l], []⟩) (fun _ R s => s.heap.IsList l xs ∧
      R (.ok (.ret (.ref (s.heap.objs.size + 2)))) { s with heap := mapHeap s.heap l f }) :=
  .of_wp fun prog w A R s h => by
    obtain ⟨hp, g, d, tk, os⟩ := s; obtain ⟨hl, h⟩ := h
    have hsub := MF.sub
    have hL1 : Heap.IsList (Shared.heap ⟨hp, g, d, tk, os⟩) l xs := hl
    have e1 : (hp.push { cls := .type "list_iterator", data := .fields #[.ref l, .int 0 0] }).objs.size = hp.objs.size + 1 := Heap.size_push ..
    have e2 : ((hp.push { cls := .type "list_iterator", data := .fields #[.ref l, .int 0 0] }).push { cls := .type "tuple", data := .seq #[.ref hp.objs.size] }).objs.size = hp.objs.size + 2 := by rw [Heap.size_push, e1]
    wp_walk using wpAny_pyIter_list hL1
    refine ⟨_, rfl, ?_⟩
    unfold mapHeap at h
    dsimp only at h
    rw [← e2, ← e1] at h
    exact h
theorem mapHeap_keep (h : Heap) (l : Addr) (f : Value) : Keep h (mapHeap h l f) := ((Keep.push _ _).trans (Keep.push _ _)).trans (Keep.push _ _)
theorem mapHeap_is {h : Heap} {l : Addr} {f : Value} {items : Array Value} (hl : h.IsList l items) : IsMapOf (mapHeap h l f) (h.objs.size + 2) (h.objs.size + 1) h.objs.size l 0 f items := by
  have e1 : (h.push { cls := .type "list_iterator", data := .fields #[.ref l, .int 0 0] }).objs.size = h.objs.size + 1 := Heap.size_push ..
  have e2 : ((h.push { cls := .type "list_iterator", data := .fields #[.ref l, .int 0 0] }).push { cls := .type "tuple", data := .seq #[.ref h.objs.size] }).objs.size = h.objs.size + 2 := by rw [Heap.size_push, e1]
  refine ⟨?_, ?_, ⟨_, Keep.push _ _ _ _ (Keep.push _ _ _ _ (Heap.get?_push_size _ rfl)), rfl, rfl⟩, isList_keep (mapHeap_keep h l f) hl⟩
  · unfold mapHeap; rw [← e2]; exact Heap.get?_push_size _ rfl
  · unfold mapHeap; refine Keep.push _ _ _ _ ?_; rw [← e1]; exact Heap.get?_push_size _ rfl
section
variable {prog : Program} {w : Wd} {A : Around} {s : Shared}
theorem call_map {f : Value} {l : Addr} {xs : Array Value} {Q : Value → Shared → Prop} (hl : s.heap.IsList l xs) (h : Q (.ref (s.heap.objs.size + 2)) { s with heap := mapHeap s.heap l f }) :
    wpAny (model prog w.wo) A (call (.type "map") [f, .ref l]) Q No s :=
  callType_new MF.called (by decide) (MF.typeCall _ _) (MF.newCall _ _) (fun obj => F.args_object_init_3 obj _ _) MF.entry_new (meets_map_new f l xs) ⟨hl, ⟨_, (mapHeap_is hl).z, rfl⟩, h⟩
/-- what the walk of a map leaves -/
structure MapMove (i1 : Addr) (s s' : Shared) : Prop where
  heap : ∀ b o, b ≠ i1 → s.heap.get? b = some o → s'.heap.get? b = some o
  gens : s'.gens = s.gens
  os : s'.os = s.os
theorem map_next_item {z TI i1 l : Addr} {k : Nat} {f : Addr} {vs : Array Value} {x : Str} {t : Tok} {h₀ : Heap} {Q : Option Value → Shared → Prop} (m : IsMapOf s.heap z TI i1 l k (.ref f) vs) (hx : vs[k]? = some (.str x t))
    (G : Gr w h₀) (kp : Keep h₀ s.heap) (h0 : h₀.get? i1 = none) (hf : OpN prog w A.in1 (fun vs => call (.ref f) vs) [.str x] (.str x)) (hzi : z ≠ i1) (hti : TI ≠ i1) (hli : l ≠ i1)
    (hQ : ∀ s' t, MapMove i1 s s' → IsMapOf s'.heap z TI i1 l (k + 1) (.ref f) vs → Q (some (.str x t)) s') : wpAny (model prog w.wo) A (pyNext (.ref z)) Q No s := by
  have hT : s.TypeIs (.ref z) "map" := ⟨_, m.z, rfl⟩
  unfold pyNext
  refine wpAny_bind (wpAny_attempt (wpAny_callSpecial?_slot (name := Str.ofString "__next__") hT MF.slot_next (wpAny_call_entry MF.slot_next hT MF.entry_next ?_ (MF.args_next _))))
  show wpAny _ _ (field (.ref z) 0 >>= _) _ _ _
  refine wpAny_bind (wpAny_field m.z rfl (x := .ref TI) rfl ?_)
  refine wpAny_bind (wpAny_seqItems m.t rfl ?_)
  dsimp only
  rw [← Array.forIn_toList]
  show wpAny _ _ (forIn [Value.ref i1] _ _ >>= _) _ _ _
  simp only [List.forIn_cons, List.forIn_nil]
  refine wpAny_bind (wpAny_bind (wpAny_bind (wpAny_holding ?_)))
  refine wpAny_nextOf_list_item m.i m.l hx fun h₁ hi₁ sb => ?_
  refine wpAny_pure (wpAny_pure ?_)
  have m₁ : IsMapOf h₁ z TI i1 l (k + 1) (.ref f) vs := ⟨(sb.2 _ hzi).trans m.z, (sb.2 _ hti).trans m.t, hi₁, isList_same sb hli m.l⟩
  have G₁ : Gr w h₁ := G.keep fun b o e => (sb.2 b fun q => by rw [q, h0] at e; cases e).trans (kp b o e)
  refine wpAny_bind ?_
  show wpAny _ _ (field (.ref z) 1) _ _ _
  refine wpAny_field m₁.z rfl (x := .ref f) rfl (wpAny_bind (wpAny_holding ?_))
  refine wpAny_mono (hf (fun _ => False) { s with heap := h₁ } [.str x t] ⟨G₁, fun b q => q.elim⟩ (.cons (.str x t) .nil)) (fun v s₂ q => ?_) fun _ _ q => q.elim
  obtain ⟨g, r⟩ := q
  cases r with
  | str _ t' =>
    refine wpAny_bind (wpAny_letGo (wpAny_pure ⟨_, rfl, wpAny_pure (hQ s₂ t' ⟨fun b o hb e => g.keep b o ((sb.2 b hb).trans e), g.gens, g.os⟩ (m₁.at fun b _ o e => g.keep b o e))⟩))
theorem map_next_end {z TI i1 l : Addr} {k : Nat} {f : Value} {vs : Array Value} {Q : Option Value → Shared → Prop} (hh : A.handled = none) (m : IsMapOf s.heap z TI i1 l k f vs) (hx : vs[k]? = none)
    (hQ : ∀ s', MapMove i1 s s' → Q none s') : wpAny (model prog w.wo) A (pyNext (.ref z)) Q No s := by
  have hT : s.TypeIs (.ref z) "map" := ⟨_, m.z, rfl⟩
  unfold pyNext
  refine wpAny_bind (wpAny_attempt (wpAny_callSpecial?_slot (name := Str.ofString "__next__") hT MF.slot_next (wpAny_call_entry MF.slot_next hT MF.entry_next ?_ (MF.args_next _))))
  show wpAny _ _ (field (.ref z) 0 >>= _) _ _ _
  refine wpAny_bind (wpAny_field m.z rfl (x := .ref TI) rfl ?_)
  refine wpAny_bind (wpAny_seqItems m.t rfl ?_)
  dsimp only
  rw [← Array.forIn_toList]
  show wpAny _ _ (forIn [Value.ref i1] _ _ >>= _) _ _ _
  simp only [List.forIn_cons, List.forIn_nil]
  refine wpAny_bind (wpAny_bind (wpAny_bind (wpAny_holding ?_)))
  refine wpAny_nextOf_list_end hh m.i m.l hx fun h₁ e sb he => ?_
  obtain ⟨o, ho, hc⟩ := he
  refine wpAny_bind (wpAny_isInstance (T := "StopIteration") (b := true) ⟨o, ho, hc⟩ isSubtype_stop ?_)
  exact wpAny_pure (hQ _ ⟨fun b o hb e => sb b o hb e, rfl, rfl⟩)
theorem pyIter_map {z TI i1 l : Addr} {k : Nat} {f : Value} {vs : Array Value} {Q : Value → Shared → Prop} (m : IsMapOf s.heap z TI i1 l k f vs) (h : Q (.ref z) s) : wpAny (model prog w.wo) A (pyIter (.ref z)) Q No s := by
  have hT : s.TypeIs (.ref z) "map" := ⟨_, m.z, rfl⟩
  refine wpAny_pyIter_slot hT MF.slot_iter (wpAny_call_entry MF.slot_iter hT MF.entry_iter ?_ (MF.args_iter _))
  show wpAny _ _ (ret (.ref z)) _ _ s
  exact wpAny_pure ⟨_, rfl, "map", _, hT, MF.slot_next.lookup, h⟩
end
end Mine
end

section
open PySem PySem.W PyProof.Rows PySem.Calls
set_option autoImplicit false
set_option linter.unusedVariables false
set_option maxRecDepth 100000
namespace Mine
/-- the items of a list, all texts -/
def StrsOf (acc : List Value) (xs : List Str) : Prop := acc.length = xs.length ∧ ∀ (j : Nat) (x : Str), xs[j]? = some x → ∃ t, acc[j]? = some (Value.str x t)
theorem StrsOf.reps {h : Heap} {H : Addr → Prop} : ∀ {acc : List Value} {xs : List Str}, StrsOf acc xs → Reps h H acc (xs.map .str)
  | [], [], _ => .nil
  | [], _ :: _, s => by have := s.1; simp at this
  | _ :: _, [], s => by have := s.1; simp at this
  | v :: vs, x :: xs, s => by
    obtain ⟨t, e⟩ := s.2 0 x rfl
    simp at e; subst e
    exact .cons (.str x t) (StrsOf.reps ⟨by have := s.1; simpa using this, fun j y hy => s.2 (j + 1) y (by simpa using hy)⟩)
theorem StrsOf.push {acc : Array Value} {xs : List Str} {i : Nat} {x : Str} {t : Tok} (s : StrsOf acc.toList (xs.take i)) (hx : xs[i]? = some x) : StrsOf (acc.push (.str x t)).toList (xs.take (i + 1)) := by
  rw [List.take_add_one, hx, Array.toList_push]
  refine ⟨by simpa using s.1, fun j y hy => ?_⟩
  have hl := s.1
  rw [List.getElem?_append] at hy ⊢
  rw [hl]
  split
  · rename_i hj
    rw [if_pos hj] at hy
    exact s.2 j y hy
  · rename_i hj
    rw [if_neg hj] at hy
    have : j - (xs.take i).length = 0 := by
      have h1 : j - (xs.take i).length < [x].length := (List.getElem?_eq_some_iff.mp hy).1
      exact Nat.lt_one_iff.mp h1
    rw [this] at hy ⊢
    have hy' : x = y := by simpa using hy
    subst hy'
    exact ⟨t, rfl⟩
section
variable {prog : Program} {w : Wd} {A : Around}
theorem map_extend {z TI i1 l S : Addr} {f : Addr} {vs : Array Value} {xs : List Str} {h₀ : Heap} {g0 : Array GenState} {o0 : OsState} {res : Value} {R : Result → Shared → Prop} (hh : A.handled = none)
    (G : Gr w h₀) (h0 : h₀.get? i1 = none) (hS0 : h₀.get? S = none) (hv : StrsOf vs.toList xs) (hf : ∀ x ∈ xs, OpN prog w A.in1.in1 (fun vs => call (.ref f) vs) [.str x] (.str x)) (hzi : z ≠ i1) (hti : TI ≠ i1) (hli : l ≠ i1)
    (hSz : S ≠ z) (hSt : S ≠ TI) (hSi : S ≠ i1) (hSl : S ≠ l) (hn : xs.length ≤ sizeLine) :
    ∀ (n i : Nat) (s : Shared) (acc : Array Value) (c : Nat), xs.length - i = n → i ≤ xs.length → IsMapOf s.heap z TI i1 l i (.ref f) vs → s.heap.get? S = some { cls := .type "list", dict := none, data := .seq acc c, slots := #[] } →
      StrsOf acc.toList (xs.take i) → Keep h₀ s.heap → s.gens = g0 → s.os = o0 →
      (∀ s' acc' c', Keep h₀ s'.heap → s'.gens = g0 → s'.os = o0 → s'.heap.get? S = some { cls := .type "list", dict := none, data := .seq acc' c', slots := #[] } → StrsOf acc'.toList xs → R (.ok (.ret res)) s') →
      codeAny (model prog w.wo) A (.builtin "list.extend.loop" ⟨[.ref S, .ref z, res], []⟩) R s := by
  intro n
  induction n with
  | zero =>
    intro i s acc c hk hi m hS ha k eg eo hR
    have hin : i = xs.length := by omega
    subst hin
    refine codeAny_builtin F.entry_extend_loop ?_
    rw [Around.under_plainId F.plain_extend_loop _]
    show wpAny _ A.in1 (pyNext (.ref z) >>= _) _ _ s
    have hend : vs[xs.length]? = none := by
      have := hv.1
      rw [Array.getElem?_eq_none]
      simpa using Nat.le_of_eq this
    refine wpAny_bind (wpAny_mono (Q := fun o s' => o = none ∧ MapMove i1 s s') (E := No) (map_next_end hh m hend fun s' mv => ⟨rfl, mv⟩) (fun o s' ⟨e, mv⟩ => ?_) fun _ _ q => q.elim)
    subst e
    refine wpAny_pure (hR s' acc c (fun b o e => mv.heap b o (fun q => by rw [q, h0] at e; cases e) (k b o e)) (mv.gens.trans eg) (mv.os.trans eo) (mv.heap S _ hSi hS) ?_)
    rwa [List.take_length] at ha
  | succ n ih =>
    intro i s acc c hk hi m hS ha k eg eo hR
    have hlt : i < xs.length := by omega
    have hx : xs[i]? = some xs[i] := List.getElem?_eq_getElem hlt
    obtain ⟨t, ht⟩ := hv.2 i _ hx
    refine codeAny_builtin F.entry_extend_loop ?_
    rw [Around.under_plainId F.plain_extend_loop _]
    show wpAny _ A.in1 (pyNext (.ref z) >>= _) _ _ s
    refine wpAny_bind (wpAny_mono (Q := fun o s' => ∃ t, o = some (.str xs[i] t) ∧ MapMove i1 s s' ∧ IsMapOf s'.heap z TI i1 l (i + 1) (.ref f) vs) (E := No) (map_next_item m (by simpa using ht) G k h0 (hf _ (List.getElem_mem hlt)) hzi hti hli fun s' t mv m' => ⟨t, rfl, mv, m'⟩) (fun o s' ⟨t', e, mv, m'⟩ => ?_) fun _ _ q => q.elim)
    subst e
    have hS' := mv.heap S _ hSi hS
    have k' : Keep h₀ s'.heap := fun b o e => mv.heap b o (fun q => by rw [q, h0] at e; cases e) (k b o e)
    show wpAny _ A.in1 (updateSeq S (·.push (.str xs[i] t')) >>= _) _ _ _
    have hal : acc.size ≤ xs.length := by have := ha.1; simp at this; omega
    refine wpAny_bind (wpAny_updateSeq hS' rfl (wpAny_pure ⟨plainId_quiet F.plain_extend_loop _, ih (i + 1) _ (acc.push (.str xs[i] t')) _ (by omega) hlt (m'.at fun b hb o e => ?_) (Heap.get?_update_self _ hS' rfl) (ha.push hx) (fun b o e => ?_) (mv.gens.trans eg) (mv.os.trans eo) hR⟩)
      (by omega) (by show (acc.push (.str xs[i] t')).size ≤ sizeLine + 1; rw [Array.size_push]; omega))
    · exact (Heap.get?_update_other _ _ (fun q : S = b => by rcases hb with hb | hb | hb | hb <;> rw [← q] at hb <;> contradiction)).trans e
    · exact (Heap.get?_update_other _ _ (fun q : S = b => by rw [q] at hS0; rw [hS0] at e; cases e)).trans (k' b o e)
/-- a map's items, collected -/
theorem collect_map {z TI i1 l : Addr} {f : Addr} {vs : Array Value} {xs : List Str} {s : Shared} {h₀ : Heap} {Q : List Value → Shared → Prop} (hh : A.handled = none) (m : IsMapOf s.heap z TI i1 l 0 (.ref f) vs)
    (G : Gr w h₀) (k : Keep h₀ s.heap) (h0 : h₀.get? i1 = none) (hv : StrsOf vs.toList xs) (hf : ∀ x ∈ xs, OpN prog w A.in1.in1 (fun vs => call (.ref f) vs) [.str x] (.str x)) (hzi : z ≠ i1) (hti : TI ≠ i1) (hli : l ≠ i1) (hn : xs.length ≤ sizeLine)
    (hQ : ∀ s' acc, Keep h₀ s'.heap → s'.gens = s.gens → s'.os = s.os → StrsOf acc xs → Q acc s') : wpAny (model prog w.wo) A (collect (.ref z)) Q No s := by
  have hlz : z < s.heap.objs.size := Heap.lt_size m.z
  have hlt : TI < s.heap.objs.size := Heap.lt_size m.t
  have hl1 : i1 < s.heap.objs.size := by obtain ⟨o, e, _⟩ := m.i; exact Heap.lt_size e
  have hll : l < s.heap.objs.size := by obtain ⟨o, e, _⟩ := m.l; exact Heap.lt_size e
  have hSz : s.heap.objs.size ≠ z := Nat.ne_of_gt hlz
  have hSt : s.heap.objs.size ≠ TI := Nat.ne_of_gt hlt
  have hSi : s.heap.objs.size ≠ i1 := Nat.ne_of_gt hl1
  have hSl : s.heap.objs.size ≠ l := Nat.ne_of_gt hll
  have hS0 : h₀.get? s.heap.objs.size = none := keep_none k (get_none_of_ge (Nat.le_refl _))
  unfold collect
  refine wpAny_bind (wpAny_runValue (codeAny_builtin F.entry_proto_collect ?_))
  rw [Around.under_plainId F.plain_proto_collect _]
  show wpAny _ A.in1 (newList [] >>= fun l => again (.builtin "list.__iadd__" ⟨[l, .ref z], []⟩)) _ _ s
  refine wpAny_bind (wpAny_newObj_type ?_)
  refine wpAny_pure ⟨plainId_quiet F.plain_list_iadd _, codeAny_builtin F.entry_list_iadd ?_⟩
  rw [Around.under_plainId F.plain_list_iadd _]
  have kp : Keep s.heap (s.heap.push { cls := .type "list", data := .seq ([] : List Value).toArray }) := Keep.push _ _
  have m₁ := m.at fun b _ o e => kp b o e
  have hT : Shared.TypeIs { s with heap := s.heap.push { cls := .type "list", data := .seq ([] : List Value).toArray } } (.ref z) "map" := ⟨_, m₁.z, rfl⟩
  show wpAny _ A.in1 (Builtin.List.listExtendWith (.ref s.heap.objs.size) (.ref z) (.ref s.heap.objs.size)) _ _ _
  unfold Builtin.List.listExtendWith
  refine wpAny_bind (wpAny_typeOf hT ?_)
  have h1 : Builtin.List.listSameRef (.ref s.heap.objs.size) (.ref z) = false := by simp [Builtin.List.listSameRef, hSz]
  have h2 : (Value.type "map" == Value.type "list") = false := by decide
  have h3 : (Value.type "map" == Value.type "tuple") = false := by decide
  simp only [h1, h2, h3, Bool.or_false, Bool.false_eq_true, if_false]
  refine wpAny_bind (wpAny_mono (Q := fun v s' => v = .ref z ∧ s' = _) (E := No) (pyIter_map (s := { s with heap := s.heap.push { cls := .type "list", data := .seq ([] : List Value).toArray } }) m₁ ⟨rfl, rfl⟩) (fun v s' ⟨e1, e2⟩ => ?_) fun _ _ q => q.elim)
  subst e1 e2
  refine wpAny_bind (wpAny_holding ?_)
  unfold Builtin.List.listLengthHint
  refine wpAny_bind (wpAny_specialOf hT MF.no_len ?_)
  show wpAny _ A.in1 (specialOf (Value.ref z) (Str.ofString "__length_hint__") >>= _) _ _ _
  refine wpAny_bind (wpAny_specialOf hT MF.no_hint ?_)
  refine wpAny_pure ?_
  show wpAny _ A.in1 (rule "list.extend.makes-room" >>= fun _ => Builtin.List.listTouch (.ref s.heap.objs.size) >>= fun _ =>
    again (.builtin "list.extend.loop" ⟨[.ref s.heap.objs.size, .ref z, .ref s.heap.objs.size], []⟩)) _ _ _
  refine wpAny_bind (wpAny_rule ?_)
  have hS₁ : (s.heap.push { cls := .type "list", data := .seq ([] : List Value).toArray }).get? s.heap.objs.size = some { cls := .type "list", data := .seq ([] : List Value).toArray } := Heap.get?_push_size _ rfl
  refine wpAny_bind ?_
  show wpAny _ A.in1 (updateSeq s.heap.objs.size (·.push .none) >>= fun _ => updateSeq s.heap.objs.size (·.pop)) _ _ _
  refine wpAny_bind (wpAny_updateSeq hS₁ rfl ?_)
  have hS₂ := Heap.get?_update_self (Obj.mapSeq (·.push Value.none)) hS₁ rfl
  refine wpAny_updateSeq hS₂ rfl ?_
  have hS₃ := Heap.get?_update_self (Obj.mapSeq (·.pop)) hS₂ rfl
  have oth : ∀ b o, b ≠ s.heap.objs.size → s.heap.get? b = some o →
      (((s.heap.push { cls := .type "list", data := .seq ([] : List Value).toArray }).update s.heap.objs.size (Obj.mapSeq (·.push Value.none))).update s.heap.objs.size (Obj.mapSeq (·.pop))).get? b = some o :=
    fun b o hb e => (Heap.get?_update_other _ _ (Ne.symm hb)).trans ((Heap.get?_update_other _ _ (Ne.symm hb)).trans (kp b o e))
  refine wpAny_pure ⟨plainId_quiet F.plain_extend_loop _, map_extend (h₀ := h₀) (g0 := s.gens) (o0 := s.os) hh G h0 hS0 hv hf hzi hti hli hSz hSt hSi hSl hn _ 0 _ _ _ rfl (Nat.zero_le _)
    (m.at fun b hb o e => oth b o (fun q => by rcases hb with hb | hb | hb | hb <;> rw [q] at hb <;> contradiction) e) hS₃ ⟨rfl, fun j x e => by simp at e⟩ (fun b o e => oth b o (fun q => by rw [q, hS0] at e; cases e) (k b o e)) rfl rfl fun s' acc' c' k' eg eo hS' ha => ?_⟩
  show wpAny _ A (load s.heap.objs.size >>= _) _ _ s'
  exact wpAny_bind (wpAny_load hS' (wpAny_pure (hQ s' acc'.toList k' eg eo ha)))
end
end Mine
end

section
open PySem PySem.W PyProof.Rows PySem.Calls
set_option autoImplicit false
set_option linter.unusedVariables false
set_option maxRecDepth 100000
namespace Mine
section
variable {prog : Program} {w : Wd} {A : Around}
theorem code_tuple_map {z TI i1 l : Addr} {f : Addr} {vs : Array Value} {xs : List Str} {s : Shared} {h₀ : Heap} {Q₁ : Value → Shared → Prop} (hh : A.handled = none) (m : IsMapOf s.heap z TI i1 l 0 (.ref f) vs)
    (G : Gr w h₀) (k : Keep h₀ s.heap) (h0 : h₀.get? i1 = none) (hv : StrsOf vs.toList xs) (hf : ∀ x ∈ xs, OpN prog w A.in1.in1.in1 (fun vs => call (.ref f) vs) [.str x] (.str x)) (hzi : z ≠ i1) (hti : TI ≠ i1) (hli : l ≠ i1) (hn : xs.length ≤ sizeLine)
    (hQ : ∀ (s' : Shared) (acc : List Value), Keep h₀ s'.heap → s'.gens = s.gens → s'.os = s.os → StrsOf acc xs → Q₁ (.ref s'.heap.objs.size) { s' with heap := s'.heap.push { cls := .type "tuple", data := .seq acc.toArray } }) :
    codeAny (model prog w.wo) A (.call (.builtin "tuple.__new__") ⟨[.type "tuple", .ref z], []⟩) (wants Q₁ No) s := by
  refine codeAny_of_tree ?_
  show wpAny _ A.in1 (do checkBuiltinCall "tuple.__new__" ⟨[.type "tuple", .ref z], []⟩; again (.builtin "tuple.__new__" ⟨[.type "tuple", .ref z], []⟩)) _ _ s
  refine wpAny_bind (wpAny_of_eq (F.newCall_tuple_1 _) (wpAny_pure ⟨plainId_quiet F.plain_tuple_new _, codeAny_builtin F.entry_tuple_new ?_⟩))
  rw [Around.under_plainId F.plain_tuple_new _]
  have hsub := sub_tuple_self
  have hinit := init_tuple_lookup
  have hmh := madeHere_tuple
  have hTI : s.TypeIs (.ref z) "map" := ⟨_, m.z, rfl⟩
  have hc := fun Q q => wpAny_mono (E' := fun e s' => wants Q₁ No (Except.error e) s') (collect_map (A := A.in1) (Q := Q) (s := s) hh m G k h0 hv hf hzi hti hli hn q) (fun _ _ x => x) fun _ _ q => q.elim
  wp_walk using wpAny_typeOf hTI, hc
  intro s' acc k' eg eo ha
  show wpAny _ _ (Builtin.Tuple.tupleExact acc.toArray >>= fun v => ret v) _ _ _
  unfold Builtin.Tuple.tupleExact
  refine wpAny_bind (wpAny_newObj_type ?_ (by show acc.toArray.size ≤ sizeLine; rw [List.size_toArray, ha.1]; exact hn))
  exact wpAny_pure (hQ s' acc k' eg eo ha)
theorem call_tuple_map {z TI i1 l : Addr} {f : Addr} {vs : Array Value} {xs : List Str} {s : Shared} {h₀ : Heap} {Q : Value → Shared → Prop} (hh : A.handled = none) (m : IsMapOf s.heap z TI i1 l 0 (.ref f) vs)
    (G : Gr w h₀) (k : Keep h₀ s.heap) (h0 : h₀.get? i1 = none) (hv : StrsOf vs.toList xs) (hf : ∀ x ∈ xs, OpN prog w A.in1.in1.in1.in1 (fun vs => call (.ref f) vs) [.str x] (.str x)) (hzi : z ≠ i1) (hti : TI ≠ i1) (hli : l ≠ i1) (hn : xs.length ≤ sizeLine)
    (hQ : ∀ (s' : Shared) (acc : List Value), Keep h₀ s'.heap → s'.gens = s.gens → s'.os = s.os → StrsOf acc xs → Q (.ref s'.heap.objs.size) { s' with heap := s'.heap.push { cls := .type "tuple", data := .seq acc.toArray } }) :
    wpAny (model prog w.wo) A (call (.type "tuple") [.ref z]) Q No s := by
  refine callType_codes (Q₁ := fun obj s₁ => s₁.TypeIs obj "tuple" ∧ Q obj s₁) F.called_tuple (F.typeCall_tuple_1 _) F.entry_object_init
    (code_tuple_map (A := A.in1) hh m G k h0 hv hf hzi hti hli hn fun s' acc a1 a2 a3 a4 => ⟨⟨_, Heap.get?_push_size _ rfl, rfl⟩, hQ s' acc a1 a2 a3 a4⟩) fun obj s₁ h₁ => ?_
  exact ⟨h₁.1, F.args_object_init_2 obj _, object_init_meets F.called_tuple.init.lookup F.called_tuple.made (by decide) prog w.wo A.in1 _ s₁ ⟨h₁.1, rfl, h₁.2⟩⟩
theorem Room.in1 {n : Nat} (R : Room A (n + 1)) : Room A.in1.in1.in1.in1 n := ⟨R.handled, by have := R.depth; show A.depth + n < _; omega, by have := R.units; show A.units + 1 + 1 + 1 + 1 + 40 * n < _; omega⟩
variable {env : Env} {ρ κ : Ds} {own : Own}
theorem args1 {f : Value} {e : Expr} {pos : Pos} {Q : List Value → Shared → Prop} {s : Shared} (hp : plainE e = true) (h : wpAny (model prog w.wo) A (eval e env) (fun v s' => Q [v] s') No s) :
    wpAny (model prog w.wo) A (evalArgs f true (backTo pos (starEach [e] env)) []) (fun a s' => a.kw = [] ∧ Q a.pos s') No s := by
  have this : wpAny (model prog w.wo) A (spliced (backTo pos (starEach [e] env))) Q No s := args_cons (wpN h fun v s₁ q => args_nil q) (starEach_plain hp)
  rw [starEach_plain hp] at this ⊢
  exact evalArgs_plain (wpN this fun vs s' q => ⟨rfl, q⟩)
theorem args2 {f : Value} {e₁ e₂ : Expr} {pos : Pos} {Q : List Value → Shared → Prop} {s : Shared} (hp₁ : plainE e₁ = true) (hp₂ : plainE e₂ = true) (h : wpAny (model prog w.wo) A (eval e₁ env) (fun v s' => wpAny (model prog w.wo) A (eval e₂ env) (fun u s'' => Q [v, u] s'') No s') No s) :
    wpAny (model prog w.wo) A (evalArgs f true (backTo pos (starEach [e₁, e₂] env)) []) (fun a s' => a.kw = [] ∧ Q a.pos s') No s := by
  have this : wpAny (model prog w.wo) A (spliced (backTo pos (starEach [e₁, e₂] env))) Q No s := args_cons (wpN h fun v s₁ q => args_cons (wpN q fun u s₂ q => args_nil q) (starEach_plain hp₂)) (starEach_plain hp₁)
  rw [starEach_plain hp₁] at this ⊢
  exact evalArgs_plain (wpN this fun vs s' q => ⟨rfl, q⟩)
/-- tuple(map(fspath, e)), e a list of texts -/
theorem Ev.tupleMap {e : Expr} {p1 p2 p3 pos pos2 : Pos} {xs : List Str} (h : Ev prog w A env ρ κ own e (.list (xs.map .str))) (hR : Room A 2) (hn : xs.length ≤ sizeLine) (hp : plainE e = true := by rfl)
    (hg : env.globals = mainGlobals := by kernel_rfl!) (hb : env.builtins = builtinsNs := by kernel_rfl!) (hkf : env.scope.kind = .function := by kernel_rfl!) (hx : env.kindOf "fspath" = some .globalImplicit := by kernel_rfl!)
    (hx2 : env.kindOf "tuple" = some .globalImplicit := by kernel_rfl!) (hx3 : env.kindOf "map" = some .globalImplicit := by kernel_rfl!) :
    Ev prog w A env ρ κ own (.Call (.Name "tuple" p1) [.Call (.Name "map" p2) [.Name "fspath" p3, e] [] pos2] [] pos) (.tuple (xs.map .str)) := fun H s R => by
  refine Call_ (nameB R.gr n_tuple (v := .type "tuple") (by decide +kernel) (by decide +kernel) (PyProof.Rows.callWith_type rfl ?_) hg hb hkf hx2 (by decide +kernel)) rfl
  refine wpN (args1 (Q := fun vs' s' => ∃ s₁ l vs, Grow s s₁ ∧ s₁.heap.IsList l (List.toArray vs) ∧ StrsOf vs xs ∧ vs' = [.ref (s₁.heap.objs.size + 2)] ∧ s' = { s₁ with heap := mapHeap s₁.heap l (.ref (w.bk "fspath")) }) rfl ?_) fun a s' ⟨ek, s₁, l, vs, g, hl, hv, ep, es⟩ => ?_
  · refine Call_ (nameB R.gr n_map (v := .type "map") (by decide +kernel) (by decide +kernel) (PyProof.Rows.callWith_type (by rw [starEach_plain rfl, starEach_plain hp]; rfl) ?_) hg hb hkf hx3 (by decide +kernel)) rfl
    refine wpN (args2 (Q := fun vs' s' => ∃ l vs, Grow s s' ∧ s'.heap.IsList l (List.toArray vs) ∧ StrsOf vs xs ∧ vs' = [.ref (w.bk "fspath"), .ref l]) rfl hp (nameG R.gr n_fspath ?_ hg hkf hx (by decide +kernel))) fun a s' ⟨ek, l, vs, g, hl, hv, ep⟩ => ?_
    · refine wpN (h H s R) fun v s₁ ⟨g, r⟩ => ?_
      cases r with
      | @list l vs _ hl n r =>
        refine ⟨l, vs, g, hl, ⟨by rw [r.length, List.length_map], fun j x hx => ?_⟩, rfl⟩
        obtain ⟨v, hv, hr⟩ := r.get (i := j) (d := .str x) (by simp [hx])
        cases hr with
        | str _ t => exact ⟨t, hv⟩
    · rw [ek, ep]
      exact call_map hl ⟨s', l, vs, g, hl, hv, rfl, rfl⟩
  · rw [ek, ep]
    subst es
    have hlt : l < s₁.heap.objs.size := by obtain ⟨o, e, _⟩ := hl; exact Heap.lt_size e
    have R₁ := R.keep g.keep
    refine call_tuple_map (h₀ := s₁.heap) hR.handled (mapHeap_is hl) R₁.gr (mapHeap_keep _ _ _) (get_none_of_ge (Nat.le_refl _)) (by simpa using hv) (fun x _ => fn_fspath (hR.in1)) (Nat.ne_of_gt (Nat.lt_add_of_pos_right (by decide))) (Nat.ne_of_gt (Nat.lt_add_of_pos_right (by decide))) (Nat.ne_of_lt hlt) hn fun s' acc k eg eo ha => ?_
    refine ⟨g.trans ⟨k.trans (Keep.push _ _), eg, eo⟩, .tuple (vs := acc) ⟨_, Heap.get?_push_size _ rfl, rfl, 0, rfl⟩ (R₁.gd.keep k).fresh ha.reps⟩
end
end Mine
end

section
open PySem PySem.W PyProof.Rows PySem.Calls
set_option autoImplicit false
set_option linter.unusedVariables false
set_option maxRecDepth 100000
namespace Mine
def bH (b : Bool) : Int := if b = true then 1 else 0
def setTab (led b : Bool) : SetTable := ⟨7, #[(bH b).toNat], #[], 0, led, 0, true⟩
/-- the set that holds b alone -/
def set1 (led b : Bool) : Obj := { cls := .type "set", dict := none, data := .set #[(bH b, .bool b)] 1 (setTab led b) }
def set0 (led : Bool) : Obj := { cls := .type "set", dict := none, data := .set #[] 0 (.fresh 0 0 led) }
section
variable {prog : Program} {w : Wd} {A : Around} {E : Value → Shared → Prop} {s : Shared}
theorem pyHash_bool {b : Bool} {Q : Int → Shared → Prop} (h : Q (bH b) { s with toks := s.toks + 1 }) : wpAny (model prog w.wo) A (pyHash (.bool b)) Q E s := by
  have hT : s.TypeIs (.bool b) "bool" := rfl
  unfold pyHash
  have hv : [Value.bool b].any Value.onHeap = false := rfl
  refine wpAny_bind ?_
  rw [cRoomFor, if_neg (by rw [hv]; exact Bool.false_ne_true)]; refine wpAny_pure ?_
  refine wpAny_bind (wpAny_specialOf hT F.slot_bool_hash.lookup ?_)
  show wpAny _ _ (if (some (Value.builtin "int.__hash__") == some Value.none) = true then _ else _) Q E s
  rw [if_neg (by rw [beq_builtin_none]; exact Bool.false_ne_true)]
  refine wpAny_bind (wpAny_specialOf hT F.slot_bool_hash.lookup ?_)
  show wpAny _ _ (callSpecialIfBoundUnlessNone? (.bool b) "__hash__" _ >>= _) Q E s
  refine wpAny_bind (wpAny_callSpecialIfBoundUnlessNone?_slot hT F.slot_bool_hash
    (wpAny_call_entry F.slot_bool_hash hT entry_int_hash ?_ (args_int_hash _)))
  have hT2 : s.TypeIs (.bool b) "bool" := rfl
  obtain ⟨hp, g, d, tk, os⟩ := s
  cases b
  · wp_walk using wpAny_typeOf hT2
    refine ⟨.int 0 tk, by rfl, ?_⟩
    show wpAny _ _ (if (decide (-(2 : Int) ^ 63 ≤ 0) && decide ((0 : Int) < 2 ^ 63)) = true then _ else _) Q E _
    rw [if_pos (by decide)]
    exact wpAny_pure h
  · wp_walk using wpAny_typeOf hT2
    refine ⟨.int 1 tk, by rfl, ?_⟩
    show wpAny _ _ (if (decide (-(2 : Int) ^ 63 ≤ 1) && decide ((1 : Int) < 2 ^ 63)) = true then _ else _) Q E _
    rw [if_pos (by decide)]
    exact wpAny_pure h
theorem set_add_new {D : Addr} {led b : Bool} {Q : Value → Shared → Prop} (ho : s.heap.get? D = some (set0 led))
    (h : ∀ h', Heap.SameBut D s.heap h' → h'.get? D = some (set1 led b) → Q .none { s with heap := h', toks := s.toks + 1 }) : wpAny (model prog w.wo) A (call (.builtin "set.add") [.ref D, .bool b]) Q E s := by
  have hT : s.TypeIs (.ref D) "set" := ⟨_, ho, rfl⟩
  refine wpAny_call_entry F.slot_set_add hT F.entry_set_add ?_ (F.args_set_add_2 _ _)
  unfold Builtin.«set.add» Builtin.Frozenset.oneOther
  simp only [List.isEmpty_nil, bind_assoc]
  unfold Builtin.Frozenset.addrOf setAdd
  refine wpAny_bind (wpAny_pure ?_)
  refine wpAny_bind (wpAny_pure ?_)
  try dsimp only
  refine wpAny_bind ?_
  refine wpAny_holding ?_
  refine wpAny_bind (pyHash_bool ?_)
  unfold setAddHashed setAddHashedIn
  refine wpAny_holding (wpAny_bind (wpAny_setState_of (s := { s with toks := s.toks + 1 }) (es := #[]) (ep := 0) (t := .fresh 0 0 led) ho rfl rfl ?_))
  dsimp only
  rw [show byScan (.bool b) #[] = true by simp [byScan, Value.scannable, scanBound]]
  simp only [↓reduceIte]
  unfold setAddByScan
  refine wpAny_bind (wpAny_bind (wpAny_rule ?_))
  refine wpAny_bind (show wpAny _ _ (pure ScanMet.absent) _ _ _ from wpAny_pure ?_)
  dsimp only
  have hL : layNew (.fresh 0 0 led) #[] (bH b) (.bool b) = (#[(bH b, .bool b)], setTab led b, false, false) := by cases b <;> cases led <;> rfl
  rw [hL]
  refine wpAny_bind (wpAny_pure ?_)
  rw [if_pos (show (#[(bH b, Value.bool b)], setTab led b, false, false).2.fst.plain = true from rfl)]
  refine wpAny_bind (show wpAny _ _ (pure true) _ _ _ from wpAny_pure ?_)
  simp only [if_true]
  refine wpAny_bind (wpAny_storeSet_of (s := { s with toks := s.toks + 1 }) (es := #[]) (ep := 0) (t := .fresh 0 0 led) ho rfl ?_ (show 1 ≤ sizeLine by decide))
  rw [if_neg (by cases b <;> cases led <;> decide)]
  refine wpAny_pure (wpAny_pure ?_)
  refine wpAny_pure ⟨_, rfl, h _ (Heap.SameBut.update ..) ?_⟩
  exact Heap.get?_update_self _ ho rfl
theorem set_add_old {D : Addr} {led b : Bool} {Q : Value → Shared → Prop} (ho : s.heap.get? D = some (set1 led b))
    (h : Q .none { s with toks := s.toks + 1 }) : wpAny (model prog w.wo) A (call (.builtin "set.add") [.ref D, .bool b]) Q E s := by
  have hT : s.TypeIs (.ref D) "set" := ⟨_, ho, rfl⟩
  have hfit : (setTab led b).fits (#[(bH b, Value.bool b)] : Array (Int × Value)).size = true := rfl
  refine wpAny_call_entry F.slot_set_add hT F.entry_set_add ?_ (F.args_set_add_2 _ _)
  unfold Builtin.«set.add» Builtin.Frozenset.oneOther
  simp only [List.isEmpty_nil, bind_assoc]
  unfold Builtin.Frozenset.addrOf setAdd
  refine wpAny_bind (wpAny_pure ?_)
  refine wpAny_bind (wpAny_pure ?_)
  try dsimp only
  refine wpAny_bind ?_
  refine wpAny_holding ?_
  refine wpAny_bind (pyHash_bool ?_)
  unfold setAddHashed setAddHashedIn
  refine wpAny_holding (wpAny_bind (wpAny_setState_of (s := { s with toks := s.toks + 1 }) (es := #[(bH b, .bool b)]) (ep := 1) (t := setTab led b) ho rfl hfit ?_))
  dsimp only
  rw [show byScan (.bool b) #[(bH b, .bool b)] = true by simp [byScan, Value.scannable, scanBound]]
  simp only [↓reduceIte]
  unfold setAddByScan
  refine wpAny_bind (wpAny_bind (wpAny_rule ?_))
  refine wpAny_bind ?_
  show wpAny _ _ (setScanFrom D (.bool b) (bH b) true [(bH b, .bool b)] 0) _ _ _
  unfold setScanFrom
  rw [if_pos (beq_self_eq_true _)]
  refine wpAny_bind (wpAny_setEpoch_of (s := { s with toks := s.toks + 1 }) (es := #[(bH b, .bool b)]) (ep := 1) (t := setTab led b) ho rfl hfit ?_)
  refine wpAny_bind (SeqAt.EqAt.same (Value.bool b) prog w.wo _ _ ?_)
  simp only [Bool.and_self, if_true]
  refine wpAny_pure (wpAny_pure ?_)
  exact wpAny_pure (wpAny_pure ⟨_, rfl, h⟩)
theorem newSet_led {Q : Value → Shared → Prop} (h : Q (.ref s.heap.objs.size) { s with heap := s.heap.push (set0 (!w.wo.params.followText "set-order")) }) : wpAny (model prog w.wo) A (newSet (.type "set")) Q E s := by
  unfold newSet setsByText
  refine wpAny_bind (wpAny_bind (wpAny_askSetting (wpAny_pure ?_)))
  dsimp only
  simp only [newObj]
  exact wpAny_bind (wpAny_alloc (wpAny_pure h))
end
end Mine
end

section
open PySem PySem.W PyProof.Rows PySem.Calls
set_option autoImplicit false
set_option linter.unusedVariables false
set_option maxRecDepth 100000
namespace Mine
namespace SF
theorem owner_si : Manifest.owners.lookup (String.ofList ['r', 'o', 't', 'a', 'r', 'e', 't', 'i', '_', 't', 'e', 's'].reverse) = some Manifest.sig_set_iterator := by kernel_rfl
theorem slot_next : Slot "set_iterator" "__next__" "set_iterator.__next__" :=
  .of (owner := "set_iterator") (n := "__next__") (by rw [typeLookup_type, builtinLookup_eq_fast]; kernel_rfl) (by decide +kernel) (by decide +kernel) (by decide +kernel)
    (by first | exact .inl (by decide +kernel) | exact .inr (by decide +kernel)) (by rw [isSubtype_type]; kernel_rfl)
theorem args_next (a : Value) : argsOk "set_iterator.__next__" ⟨[a], []⟩ := by
  unfold argsOk; rw [signature?_of (id := "set_iterator.__next__") (n := ['_', '_', 't', 'x', 'e', 'n', '_', '_']) (o := ['r', 'o', 't', 'a', 'r', 'e', 't', 'i', '_', 't', 'e', 's']) (by kernel_rfl) owner_si]; kernel_rfl
theorem entry_next : entryFor table "set_iterator.__next__" = some Builtin.«set_iterator.__next__» := entryFor_of_tree (by kernel_rfl)
theorem entry_iter : entryFor table "set.__iter__" = some Builtin.«frozenset.__iter__» :=
  entryFor_alias (id' := "frozenset.__iter__") (by kernel_rfl) rfl (by decide +kernel) (by kernel_rfl)
end SF
/-- an iterator over the set of one -/
def setIt (D : Addr) (first i : Int) : Obj := { cls := .type "set_iterator", data := .fields #[rawInt first, rawInt i, .ref D, rawInt 1, rawInt 1] }
section
variable {prog : Program} {w : Wd} {A : Around} {E : Value → Shared → Prop} {s : Shared}
theorem pyIter_set {D : Addr} {b : Bool} {Q : Value → Shared → Prop} (ho : s.heap.get? D = some (set1 (!w.wo.params.followText "set-order") b))
    (h : Q (.ref s.heap.objs.size) { s with heap := s.heap.push (setIt D 0 0) }) : wpAny (model prog w.wo) A (pyIter (.ref D)) Q E s := by
  have hT : s.TypeIs (.ref D) "set" := ⟨_, ho, rfl⟩
  have hfit : (setTab (!w.wo.params.followText "set-order") b).fits (#[(bH b, Value.bool b)] : Array (Int × Value)).size = true := rfl
  refine wpAny_pyIter_slot hT F.slot_set_iter (wpAny_call_entry F.slot_set_iter hT SF.entry_iter ?_ (F.args_set_iter_1 _))
  unfold Builtin.«frozenset.__iter__» Builtin.Frozenset.slot0 Builtin.Frozenset.addrOf Builtin.Frozenset.sizeOf setDrawn setsByText
  refine wpAny_bind (wpAny_bind (show wpAny _ _ (pure (Value.ref D, ([] : List Value))) _ _ _ from wpAny_pure (wpAny_pure ?_)))
  refine wpAny_bind (wpAny_bind (wpAny_setEntries_of (es := #[(bH b, Value.bool b)]) (ep := 1) (t := setTab _ b) ho rfl hfit (wpAny_pure ?_)))
  refine wpAny_bind (wpAny_bind (wpAny_setState_of (es := #[(bH b, Value.bool b)]) (ep := 1) (t := setTab _ b) ho rfl hfit ?_))
  refine wpAny_bind (wpAny_bind (wpAny_askSetting (wpAny_pure (wpAny_pure ?_))))
  rw [if_neg]
  case hnc => exact fun hc => Bool.noConfusion (show false = true from (Bool.and_eq_true_iff.mp hc).2)
  refine wpAny_bind (wpAny_pure (wpAny_bind (wpAny_setEpoch_of (es := #[(bH b, Value.bool b)]) (ep := 1) (t := setTab _ b) ho rfl hfit ?_)))
  unfold newFields
  refine wpAny_bind (wpAny_newObj_type ?_)
  exact wpAny_pure ⟨_, rfl, "set_iterator", _, ⟨_, Heap.get?_push_size _ rfl, rfl⟩, SF.slot_next.lookup, h⟩
theorem setNext_at {D : Addr} {b : Bool} {f i : Nat} {Q : Option (Value × Nat) → Shared → Prop} (hD : s.heap.get? D = some (set1 (!w.wo.params.followText "set-order") b))
    (h : w.wo.params.followText "set-order" = false → Q (match (#[(bH b, Value.bool b)] : Array (Int × Value))[SetTable.below #[(bH b).toNat] f]?, (#[(bH b).toNat] : Array Nat)[SetTable.below #[(bH b).toNat] f]? with
      | some (_, x), some j => some (x, j + 1)
      | _, _ => none) s) (h' : w.wo.params.followText "set-order" = true → Q (((#[(bH b, Value.bool b)] : Array (Int × Value))[i]?).map fun e => (e.2, f)) s) : wpAny (model prog w.wo) A (setNext D f i 1) Q E s := by
  have hfit : (setTab (!w.wo.params.followText "set-order") b).fits (#[(bH b, Value.bool b)] : Array (Int × Value)).size = true := rfl
  unfold setNext setsByText
  refine wpAny_bind (wpAny_setState_of (es := #[(bH b, Value.bool b)]) (ep := 1) (t := setTab _ b) hD rfl hfit ?_)
  refine wpAny_bind (wpAny_bind (wpAny_askSetting (wpAny_pure ?_)))
  show wpAny _ _ (if w.wo.params.followText "set-order" = true then _ else _) _ _ _
  cases hb : w.wo.params.followText "set-order" with
  | true =>
    rw [if_pos rfl]
    dsimp only
    rw [if_neg (by decide)]
    unfold setWalk setsByText
    refine wpAny_bind (wpAny_bind (wpAny_setState_of (es := #[(bH b, Value.bool b)]) (ep := 1) (t := setTab _ b) hD rfl hfit ?_))
    refine wpAny_bind (wpAny_bind (wpAny_askSetting (wpAny_pure ?_)))
    show wpAny _ _ (if w.wo.params.followText "set-order" = true then _ else _) _ _ _
    rw [if_pos hb]
    refine wpAny_bind (wpAny_askSetting (wpAny_pure (wpAny_pure ?_)))
    have e : pickOrder (w.wo.params.setOrder D 1) #[(bH b, Value.bool b)] = #[(bH b, Value.bool b)] := by
      unfold pickOrder
      show pickOrder.go (w.wo.params.setOrder D 1) 1 0 [(bH b, Value.bool b)] #[] = _
      unfold pickOrder.go
      simp only [List.length_cons, List.length_nil, Nat.zero_add, Nat.mod_one]
      rfl
    rw [show ((model prog w.wo).w.params.setOrder D 1) = w.wo.params.setOrder D 1 from rfl, e]
    exact h' hb
  | false =>
    rw [if_neg (by decide), if_neg]
    case hnc => exact fun hc => Bool.noConfusion (show false = true from hc)
    refine wpAny_bind (show wpAny _ _ (pure ()) _ _ _ from wpAny_pure ?_)
    exact wpAny_pure (h hb)
theorem si_next {I D : Addr} {b : Bool} {Q : Option Value → Shared → Prop} (hID : I ≠ D) (hD : s.heap.get? D = some (set1 (!w.wo.params.followText "set-order") b)) (hI : s.heap.get? I = some (setIt D 0 0))
    (h : ∀ f h', Heap.SameBut I s.heap h' → h'.get? I = some (setIt D f 1) → (w.wo.params.followText "set-order" = false → f = bH b + 1) → Q (some (.bool b)) { s with heap := h' }) : wpAny (model prog w.wo) A (pyNext (.ref I)) Q E s := by
  have hT : s.TypeIs (.ref I) "set_iterator" := ⟨_, hI, rfl⟩
  have hfit : (setTab (!w.wo.params.followText "set-order") b).fits (#[(bH b, Value.bool b)] : Array (Int × Value)).size = true := rfl
  unfold pyNext
  refine wpAny_bind (wpAny_attempt (wpAny_callSpecial?_slot (name := Str.ofString "__next__") hT SF.slot_next (wpAny_call_entry SF.slot_next hT SF.entry_next ?_ (SF.args_next _))))
  unfold Builtin.«set_iterator.__next__»
  refine wpAny_bind (show wpAny _ _ (pure (Value.ref I, ([] : List Value))) _ _ _ from wpAny_pure ?_)
  refine wpAny_bind (wpAny_fieldsOf hI rfl ?_)
  refine wpAny_bind (wpAny_setEntries_of (es := #[(bH b, Value.bool b)]) (ep := 1) (t := setTab _ b) hD rfl hfit ?_)
  dsimp only
  rw [if_neg (by simp)]
  have fin : ∀ f : Int, (w.wo.params.followText "set-order" = false → f = bH b + 1) → wpAny (model prog w.wo) A.in1 (setField (.ref I) 0 (rawInt f) >>= fun _ => setField (.ref I) 1 (rawInt (0 + 1)) >>= fun _ => ret (.bool b))
      (fun fin s' => ∃ v, fin = PySem.Fin.done (Flow.ret v) ∧ Q (some v) s') (fun _ _ => False) s := fun f hf => by
    refine wpAny_bind (wpAny_setField_rec (vs := #[rawInt 0, rawInt 0, .ref D, rawInt 1, rawInt 1]) hI (by simp) fun h₁ hI₁ hs₁ => ?_)
    refine wpAny_bind (wpAny_setField_rec (s := { s with heap := h₁ }) hI₁ (by simp) fun h₂ hI₂ hs₂ => ?_)
    exact wpAny_pure ⟨_, rfl, h f h₂ ⟨hs₂.1.trans hs₁.1, fun c hc => (hs₂.2 c hc).trans (hs₁.2 c hc)⟩ hI₂ hf⟩
  have out : ∀ {f : Int}, (w.wo.params.followText "set-order" = false → f = bH b + 1) → wpAny (model prog w.wo) A.in1 (setField (.ref I) 0 (rawInt f) >>= fun _ => setField (.ref I) 1 (rawInt (0 + 1)) >>= fun _ => ret (.bool b)) _ _ s := fun hf =>
    wpAny_mono (fin _ hf) (fun fn s' q => (show ∃ v, fn = PySem.Fin.done (Flow.ret v) ∧ wpAny (model prog w.wo) A (pure (some v)) Q E s' from let ⟨v, e, q⟩ := q; ⟨v, e, wpAny_pure q⟩)) (fun e s' q => (show wpAny (model prog w.wo) A (do
          let __do_lift ← isInstance e (Value.type "StopIteration")
          if __do_lift = true then pure none else throw e) Q E s' from q.elim))
  refine wpAny_bind (setNext_at (f := 0) (i := 0) hD (fun hb => ?_) fun hb => ?_)
  · cases b
    · exact out (f := 1) fun _ => rfl
    · exact out (f := 2) fun _ => rfl
  · exact out (f := 0) fun q => by rw [hb] at q; cases q
theorem si_end {I D : Addr} {b : Bool} {f : Int} {Q : Option Value → Shared → Prop} (hh : A.handled = none) (hD : s.heap.get? D = some (set1 (!w.wo.params.followText "set-order") b)) (hI : s.heap.get? I = some (setIt D f 1))
    (hf : w.wo.params.followText "set-order" = false → f = bH b + 1) (h : ∀ h', (∀ c o, c ≠ I → s.heap.get? c = some o → h'.get? c = some o) → Q none { s with heap := h' }) : wpAny (model prog w.wo) A (pyNext (.ref I)) Q E s := by
  have hT : s.TypeIs (.ref I) "set_iterator" := ⟨_, hI, rfl⟩
  have hfit : (setTab (!w.wo.params.followText "set-order") b).fits (#[(bH b, Value.bool b)] : Array (Int × Value)).size = true := rfl
  unfold pyNext
  refine wpAny_bind (wpAny_attempt (wpAny_callSpecial?_slot (name := Str.ofString "__next__") hT SF.slot_next (wpAny_call_entry SF.slot_next hT SF.entry_next ?_ (SF.args_next _))))
  unfold Builtin.«set_iterator.__next__»
  refine wpAny_bind (show wpAny _ _ (pure (Value.ref I, ([] : List Value))) _ _ _ from wpAny_pure ?_)
  refine wpAny_bind (wpAny_fieldsOf hI rfl ?_)
  refine wpAny_bind (wpAny_setEntries_of (es := #[(bH b, Value.bool b)]) (ep := 1) (t := setTab _ b) hD rfl hfit ?_)
  dsimp only
  rw [if_neg (by simp)]
  have fin : wpAny (model prog w.wo) A.in1 (setField (.ref I) 2 .none >>= fun _ => newExc (.type "StopIteration") [] >>= fun e => raiseNew e)
      (fun (fn : PySem.Fin) s' => ∃ v, fn = PySem.Fin.done (Flow.ret v) ∧ wpAny (model prog w.wo) A (pure (some v)) Q E s') (fun e s' => wpAny (model prog w.wo) A (do
          let __do_lift ← isInstance e (Value.type "StopIteration")
          if __do_lift = true then pure none else throw e) Q E s') s := by
    refine wpAny_bind (wpAny_setField_rec (vs := #[rawInt f, rawInt 1, .ref D, rawInt 1, rawInt 1]) hI (by simp) fun h₁ hI₁ hs₁ => ?_)
    refine wpAny_bind ?_
    simp only [newExc, newTuple]
    refine wpAny_bind (wpAny_newObj_type ?_ (by size_fits))
    refine wpAny_bind (m := firstArgMember _ _) (wpAny_of_eq (a := Value.none) (by first | rfl | (simp only [firstArgMember]; rfl)) ?_)
    refine wpAny_newObj_type ?_ (by size_fits)
    simp only [raiseNew]
    refine wpAny_bind (wpAny_handled ?_)
    rw [show A.in1.handled = none from hh]
    refine wpAny_bind (wpAny_pure (wpAny_throw ?_))
    refine wpAny_bind (wpAny_isInstance (T := "StopIteration") (b := true) ⟨_, Heap.get?_push_size _ rfl, rfl⟩ isSubtype_stop ?_)
    exact wpAny_pure (h _ fun c o hc e => Heap.get?_push_of_some _ (Heap.get?_push_of_some _ ((hs₁.2 c hc).trans e)))
  refine wpAny_bind (setNext_at (f := f.toNat) (i := 1) hD (fun hb => ?_) fun hb => ?_)
  · rw [hf hb]
    cases b
    · exact fin
    · exact fin
  · exact fin
end
end Mine
end

section
open PySem PySem.W PyProof.Rows PySem.Calls
set_option autoImplicit false
set_option linter.unusedVariables false
set_option maxRecDepth 100000
namespace Mine
def noF : Str → Bool := fun _ => false
def setN (led b : Bool) : Nat → Obj
  | 0 => set0 led
  | _ + 1 => set1 led b
theorem setN_notSeq {h : Heap} {D : Addr} {led b : Bool} {n : Nat} (e : h.get? D = some (setN led b n)) : NotSeq h D := fun o ho xs m q => by
  rw [e] at ho; cases ho; cases n <;> cases q
/-- a set comprehension's frame, and the set that it fills -/
structure CIS (w : Wd) (h₀ : Heap) (H : Addr → Prop) (D : Addr) (env : Env) (ρ κ : Ds) (b : Bool) (n : Nat) (h : Heap) : Prop where
  wr : Wr w h₀ H env noF ρ κ [] h
  hD : H D
  newD : h₀.get? D = none
  acc : h.get? D = some (setN (!w.wo.params.followText "set-order") b n)
section
variable {prog : Program} {w : Wd} {A : Around} {env : Env} {ρ κ : Ds} {own : Own} {b : Bool}
theorem CIS.grow {h₀ h h' : Heap} {H : Addr → Prop} {D : Addr} {n : Nat} (c : CIS w h₀ H D env ρ κ b n h) (k : Keep h h') : CIS w h₀ H D env ρ κ b n h' := ⟨c.wr.grow k, c.hD, c.newD, k _ _ c.acc⟩
theorem CIS.notL {h₀ h : Heap} {H : Addr → Prop} {D : Addr} {n : Nat} (c : CIS w h₀ H D env ρ κ b n h) : D ≠ env.locals := fun q => by
  obtain ⟨m, ⟨o, es, ep, ho, hd, _⟩, _⟩ := c.wr.rd.loc
  have := c.acc
  rw [q, ho] at this; cases this; cases n <;> cases hd
theorem CIS.notC {h₀ h : Heap} {H : Addr → Prop} {D : Addr} {n : Nat} (c : CIS w h₀ H D env ρ κ b n h) {x : Str} {a : Addr} (e : env.cells.lookup x = some a) : a ≠ D := fun q => by
  obtain ⟨o, ⟨o', ho, hd⟩, _⟩ := c.wr.rd.cel x a e
  have := c.acc
  rw [← q, ho] at this; cases this; cases n <;> cases hd
theorem CIS.less {h₀ h : Heap} {H : Addr → Prop} {D : Addr} {n : Nat} {ρ' κ' : Ds} (c : CIS w h₀ H D env ρ κ b n h) (a : Sub ρ' ρ) (e : Sub κ' κ) : CIS w h₀ H D env ρ' κ' b n h := ⟨c.wr.less a e, c.hD, c.newD, c.acc⟩
theorem CIS.base {h₀ h : Heap} {H : Addr → Prop} {D : Addr} {n : Nat} (c : CIS w h₀ H D env ρ κ b n h) : CIS w (hideP h fun a => Mayb env noF [] a ∨ a = D) H D env ρ κ b n h ∧ Keep h₀ (hideP h fun a => Mayb env noF [] a ∨ a = D) := by
  have k : Keep h₀ (hideP h fun a => Mayb env noF [] a ∨ a = D) := fun b o e => hideP_of (fun m => by
    rcases m with m | rfl
    · rw [c.wr.maybe m] at e; cases e
    · rw [c.newD] at e; cases e) (c.wr.keep b o e)
  exact ⟨⟨⟨c.wr.rd, c.wr.gr₀.keep k, fun b o e => (hideP_some e).2, hideP_none (.inl (.inl rfl)), fun x a e => ⟨(c.wr.newC x a e).1, fun hx => hideP_none (.inl (.inr (.inl ⟨x, hx, e⟩)))⟩, c.wr.apart, (fun e he => nomatch he), List.Pairwise.nil, (fun e he => nomatch he)⟩,
    c.hD, hideP_none (.inr rfl), c.acc⟩, k⟩
theorem CIS.back {h₀ h₁ h : Heap} {H : Addr → Prop} {D : Addr} {n : Nat} (c : CIS w h₁ H D env ρ κ b n h) (k : Keep h₀ h₁) (g : Gr w h₀) : CIS w h₀ H D env ρ κ b n h := ⟨c.wr.back k g, c.hD, keep_none k c.newD, c.acc⟩
theorem CIS.thru {h₀ h h' : Heap} {H H' P : Addr → Prop} {D : Addr} {n : Nat} (c : CIS w h₀ H D env ρ κ b n h) (k : ∀ b o, ¬ P b → h.get? b = some o → h'.get? b = some o) (hp : ∀ b, P b → H b) (h0 : ∀ b, P b → h₀.get? b = none) (hL : ¬ P env.locals)
    (hC : ∀ x c, env.cells.lookup x = some c → ¬ P c) (hH : ∀ b, H' b → H b) (low : ∀ b, H' b → P b → ∃ o, h'.get? b = some o) (hD : H' D) (hPD : ¬ P D) : CIS w h₀ H' D env ρ κ b n h' :=
  ⟨c.wr.thru k hp h0 hL hC (fun e he => nomatch he) hH low, hD, c.newD, k _ _ hPD c.acc⟩
theorem CIS.add {h₀ h h' : Heap} {H : Addr → Prop} {D : Addr} {n : Nat} (c : CIS w h₀ H D env ρ κ b n h) (sb : ∀ b, b ≠ D → ∀ o, h.get? b = some o → h'.get? b = some o) (hd : h'.get? D = some (setN (!w.wo.params.followText "set-order") b (n + 1))) : CIS w h₀ H D env ρ κ b (n + 1) h' :=
  ⟨c.wr.thru (P := fun b => b = D) (fun b o q e => sb b q o e) (fun b q => q ▸ c.hD) (fun b q => q ▸ c.newD) (fun q => c.notL q.symm) (fun x a e => c.notC e) (fun e he => nomatch he) (fun _ q => q) (fun b _ q => ⟨_, q ▸ hd⟩), c.hD, c.newD, hd⟩
theorem set_add {D : Addr} {n : Nat} {Q : Value → Shared → Prop} {s : Shared} (ho : s.heap.get? D = some (setN (!w.wo.params.followText "set-order") b n))
    (h : ∀ h', (∀ b, b ≠ D → ∀ o, s.heap.get? b = some o → h'.get? b = some o) → h'.get? D = some (setN (!w.wo.params.followText "set-order") b (n + 1)) → Q .none { s with heap := h', toks := s.toks + 1 }) :
    wpAny (model prog w.wo) A (call (.builtin "set.add") [.ref D, .bool b]) Q No s := by
  cases n with
  | zero => exact set_add_new ho fun h' sb hd => h h' (fun b hb o e => (sb.2 b hb).trans e) hd
  | succ n => exact set_add_old ho (h s.heap (fun _ _ _ e => e) ho)
theorem comp_loopS {elt iter : Expr} {x : Str} {px : Pos} {scope : Scope} {pos : Pos} {D : Addr} {h₀ h₁ : Heap} {H H₀ : Addr → Prop} {s : Shared} {ds : List Dt} {R : Result → Shared → Prop}
    {I : Addr} {fp wr : List Addr} {P : Nat → Value → Prop} {St : Nat → Heap → Prop}
    (W : Walks prog w.wo A I fp wr ds.length P St) (hwr : ∀ b ∈ wr, H b ∧ h₀.get? b = none ∧ b ≠ D ∧ b ≠ env.locals ∧ ∀ x, env.cells.lookup x ≠ some b)
    (hfp : ∀ b ∈ fp, ¬ Mayb env noF [] b ∧ b ≠ D)
    (hP : ∀ i d v h, Keep h₁ h → ds[i]? = some d → P i v → Rep h (Hid H []) v d) (hlot : ∀ i t v (s : Shared) (Q : Unit → Shared → Prop), St i s.heap → Q () s → wpAny (model prog w.wo) A (letOwnedTupleGo t (.ref I) v) Q No s)
    (hlive : ∀ i h b, St i h → b ∈ wr → ∃ o, h.get? b = some o)
    (helt : ∀ (i : Nat) d, ds[i]? = some d → Ev prog w A env [(x, d)] κ [] elt (.bool b)) (hk : env.scope.kind = .function) (hl : env.kindOf x = some .local)
    (hst : St 0 s.heap) (h10 : Keep h₁ h₀) (ci : CIS w h₀ H D env [] κ b 0 s.heap) (hH₀ : ∀ b, H₀ b → H b ∧ b ∉ wr) (hD₀ : H₀ D)
    (done : ∀ s', s'.gens = s.gens → s'.os = s.os → CIS w h₀ H₀ D env [] κ b ds.length s'.heap → R (.ok .next) s') :
    codeAny (model prog w.wo) A (.compLoop (.SetComp elt [⟨.Name x px, iter, [], 0⟩] scope pos) 0 (.ref I) (.ref D) env) R s := by
  have hturn : ∀ it acc, compTurn (.SetComp elt [⟨.Name x px, iter, [], 0⟩] scope pos) 0 it acc env = (do
      standAt iter.pos
      match ← pyNext it with
      | none => pure (.done .next)
      | some v =>
        letOwnedTupleGo (.Name x px) it v
        assign (.Name x px) env v
        let ok ← testsT [] env
        if ok = true then (do let v ← eval elt env; standAt elt.pos; let _ ← call (.builtin "set.add") [acc, v])
        again (.compLoop (.SetComp elt [⟨.Name x px, iter, [], 0⟩] scope pos) 0 it acc env)) := fun it acc => rfl
  refine codeAny_loop rfl (fun n s' => ∃ i, i ≤ ds.length ∧ n = ds.length + 1 - i ∧ s'.gens = s.gens ∧ s'.os = s.os ∧ St i s'.heap ∧ CIS w h₀ H D env [] κ b i s'.heap) (fun n s' ⟨i, hi, hn, eg, eo, st, c⟩ => ?_) (ds.length + 1)
    ⟨0, Nat.zero_le _, rfl, rfl, rfl, hst, ci⟩
  show wpAny _ A ((compTurn (.SetComp elt [⟨.Name x px, iter, [], 0⟩] scope pos) 0 (.ref I) (.ref D) env).onRaise (fun x => do noteFrame x env; theTreesLotGoes x)) _ _ s'
  rw [hturn]
  refine wpAny_noted (wpAny_mono (Q := fun fin s' => match fin with | .done f => R (.ok f) s' | .again c' => c' = .compLoop (.SetComp elt [⟨.Name x px, iter, [], 0⟩] scope pos) 0 (.ref I) (.ref D) env ∧ ∃ m, m < n ∧ ∃ i, i ≤ ds.length ∧ m = ds.length + 1 - i ∧ s'.gens = s.gens ∧ s'.os = s.os ∧ St i s'.heap ∧ CIS w h₀ H D env [] κ b i s'.heap) (E := No) ?_ (fun _ _ q => q) fun _ _ q => q.elim)
  refine wpAny_bind (wpAny_standAt (wpAny_bind ?_))
  rcases Nat.lt_or_ge i ds.length with hlt | hge
  · have hd : ds[i]? = some ds[i] := List.getElem?_eq_getElem hlt
    refine W.item i s' _ _ hlt st fun v h' tk hPv st' kk => ?_
    dsimp only
    have c₁ : CIS w h₀ H D env [] κ b i h' := c.thru (P := (· ∈ wr)) kk (fun b q => (hwr b q).1) (fun b q => (hwr b q).2.1) (fun q => (hwr _ q).2.2.2.1 rfl) (fun x a e q => (hwr _ q).2.2.2.2 x e) (fun _ q => q) (fun b _ q => hlive _ _ b st' q) c.hD (fun q => (hwr _ q).2.2.1 rfl)
    have rv : Rep h' (Hid H []) v ds[i] := hP i _ v h' (h10.trans c₁.wr.keep) hd hPv
    refine wpAny_bind (hlot _ _ _ { s' with heap := h', toks := tk } _ st' ?_)
    obtain ⟨wb, kb⟩ := c₁.wr.base
    refine wpAny_bind (wpN (Asg.loc (fr := noF) (px := px) hk hl rfl _ H { s' with heap := h', toks := tk } v wb rv) fun _ s₂ ⟨g2, o2, w2⟩ => ?_)
    have hDm : ¬ Mayb env noF [] D := fun m => by
      rcases m with q | ⟨x, q, _⟩ | ⟨_, q, _⟩
      · exact c₁.notL q
      · cases q
      · cases q
    have c₂ : CIS w h₀ H D env [(x, ds[i])] κ b i s₂.heap := ⟨w2.back kb c.wr.gr₀, c.hD, c.newD, w2.keep _ _ (hideP_of hDm c₁.acc)⟩
    have st₂ : St (i + 1) s₂.heap := W.frame _ _ _ st' fun b hb o e => w2.keep b o (hideP_of (hfp b hb).1 e)
    refine wpAny_bind (wpAny_tests_nil ?_)
    simp only [if_true]
    refine wpAny_bind (wpAny_bind (wpN (helt i _ hd H s₂ c₂.wr.rd) fun u s₃ ⟨g₃, r₃⟩ => wpAny_bind (wpAny_standAt ?_)))
    have c₃ := c₂.grow g₃.keep
    have st₃ : St (i + 1) s₃.heap := W.frame _ _ _ st₂ fun b _ o e => g₃.keep b o e
    cases r₃
    refine wpAny_bind (set_add c₃.acc fun h₄ sb hd₄ => ?_)
    have c₄ := (c₃.add sb hd₄).less (ρ' := []) (κ' := κ) (.nil _) (.refl _)
    refine wpAny_pure (wpAny_pure ⟨rfl, ds.length + 1 - (i + 1), by omega, i + 1, hlt, rfl, (g₃.gens.trans g2).trans eg, (g₃.os.trans o2).trans eo, ?_, c₄⟩)
    exact W.frame _ _ _ st₃ fun b hb o e => sb b (hfp b hb).2 o e
  · have hie : i = ds.length := by omega
    subst hie
    refine W.done s' _ _ st fun h' tk kk => ?_
    dsimp only
    refine wpAny_pure (done _ eg eo ?_)
    exact c.thru (P := (· ∈ wr)) kk (fun b q => (hwr b q).1) (fun b q => (hwr b q).2.1) (fun q => (hwr _ q).2.2.2.1 rfl) (fun x a e q => (hwr _ q).2.2.2.2 x e) (fun _ q => (hH₀ _ q).1) (fun b q q' => absurd q' (hH₀ _ q).2) hD₀ (fun q => (hwr _ q).2.2.1 rfl)
end
end Mine
end

section
open PySem PySem.W PyProof.Rows PySem.Calls
set_option autoImplicit false
set_option linter.unusedVariables false
set_option maxRecDepth 100000
namespace Mine
section
variable {prog : Program} {w : Wd} {A : Around} {env : Env} {ρ κ : Ds} {own : Own} {b : Bool}
structure LaidS (w : Wd) (h₁ : Heap) (H : Addr → Prop) (wr fp : List Addr) (D : Addr) (cenv : Env) (κ : Ds) (b : Bool) (h : Heap) : Prop where
  ci : CIS w h₁ (fun b => H b ∨ b ∈ wr ∨ b = D) D cenv [] κ b 0 h
  hwr : ∀ b ∈ wr, h₁.get? b = none ∧ b ≠ D ∧ b ≠ cenv.locals ∧ ∀ x, cenv.cells.lookup x ≠ some b
  hfp : ∀ b ∈ fp, ¬ Mayb cenv noF [] b ∧ b ≠ D
  notH : ¬ H D
theorem laid_startS {scope : Scope} {cl : List (Str × Addr)} {H : Addr → Prop} {h₁ h₂ : Heap} {wr fp : List Addr} (R : Rd w H env ρ κ own h₁) (k : Keep h₁ h₂) (hsub : SubC cl env.cells)
    (hwr : ∀ b ∈ wr, h₁.get? b = none) (hwl : ∀ b ∈ wr, ∃ o, h₂.get? b = some o) (hfp : ∀ b ∈ fp, b < h₂.objs.size) :
    LaidS w h₁ (Hid H own) wr fp h₂.objs.size (compEnvC scope cl (h₂.objs.size + 1) env) κ b ((h₂.push (set0 (!w.wo.params.followText "set-order"))).push { cls := .type "dict", data := .dict #[] }) := by
  have kp : Keep h₂ ((h₂.push (set0 (!w.wo.params.followText "set-order"))).push { cls := .type "dict", data := .dict #[] }) := (Keep.push _ _).trans (Keep.push _ _)
  have s1 : (h₂.push (set0 (!w.wo.params.followText "set-order"))).objs.size = h₂.objs.size + 1 := Heap.size_push ..
  have n₁ : ∀ a, h₂.objs.size ≤ a → h₁.get? a = none := fun a ha => keep_none k (get_none_of_ge ha)
  have hidden : ∀ b, Hid (fun b => Hid H own b ∨ b ∈ wr ∨ b = h₂.objs.size) [] b → Hid H own b ∨ h₁.get? b = none := fun b q => by
    rcases q with (q | q | q) | ⟨_, q, _⟩
    · exact .inl q
    · exact .inr (hwr b q)
    · exact .inr (q ▸ n₁ _ (Nat.le_refl _))
    · cases q
  generalize hb : ((h₂.push (set0 (!w.wo.params.followText "set-order"))).push { cls := .type "dict", data := .dict #[] }) = hB at kp
  have hD : hB.get? h₂.objs.size = some (set0 (!w.wo.params.followText "set-order")) := by rw [← hb]; exact Keep.push _ _ _ _ (Heap.get?_push_size _ rfl)
  have mv : ∀ {v : Value} {d : Dt}, Rep h₁ (Hid H own) v d → Rep hB (Hid (fun b => Hid H own b ∨ b ∈ wr ∨ b = h₂.objs.size) []) v d :=
    fun r => ((r.hide hidden).keep k).keep kp
  have hns : hB.Ns (h₂.objs.size + 1) fun _ => none := by rw [← hb]; exact s1 ▸ Heap.Ns.new _ _
  have cellk : ∀ x c, cl.lookup x = some c → ∃ o, h₁.IsCell c o ∧ ∀ d, κ.lookup x = some d → ∃ v, o = some v ∧ Rep h₁ (Hid H own) v d := fun x c e => R.cel x c (hsub.lookup x c e)
  have clt : ∀ x c, cl.lookup x = some c → c < h₂.objs.size := fun x c e => by obtain ⟨o, p, _⟩ := cellk x c e; exact (p.keeps k).lt
  have hlow : ∀ b, Hid H own b ∨ b ∈ wr ∨ b = h₂.objs.size → ∃ o, hB.get? b = some o := fun b q => by
    rcases q with q | q | q
    · obtain ⟨o, e⟩ := R.gd.low b q; exact ⟨o, kp _ _ (k _ _ e)⟩
    · obtain ⟨o, e⟩ := hwl b q; exact ⟨o, kp _ _ e⟩
    · exact ⟨_, q ▸ hD⟩
  refine ⟨⟨⟨⟨R.gr.keep (k.trans kp), hlow, ⟨_, hns, (fun x d e => by cases e), (fun e he => by cases he)⟩, fun x c e => ?_, (fun e he => by cases he)⟩, R.gr, k.trans kp, n₁ _ (Nat.le_succ _), fun x c e => ⟨fun q => ?_, fun q => by cases q⟩, (fun x y c q => by cases q), (fun e he => by cases he), List.Pairwise.nil, (fun e he => by cases he)⟩,
    .inr (.inr rfl), n₁ _ (Nat.le_refl _), hD⟩, fun b hb => ⟨hwr b hb, fun q => ?_, fun q => ?_, fun x e => ?_⟩, fun b hb => ⟨fun m => ?_, fun q => ?_⟩, fun q => ?_⟩
  · obtain ⟨o, p, q⟩ := cellk x c e
    exact ⟨o, (p.keeps k).keeps kp, fun d e => let ⟨v, i, j⟩ := q d e; ⟨v, i, mv j⟩⟩
  · have q' : c = h₂.objs.size + 1 := q
    have := clt x c e
    exact absurd this (by rw [q']; exact Nat.not_lt.mpr (Nat.le_succ _))
  · obtain ⟨o, e⟩ := hwl b hb; exact Nat.lt_irrefl _ (q ▸ Heap.lt_size e)
  · obtain ⟨o, e⟩ := hwl b hb
    have q' : b = h₂.objs.size + 1 := q
    exact absurd (Heap.lt_size e) (by rw [q']; exact Nat.not_lt.mpr (Nat.le_succ _))
  · obtain ⟨o, p, _⟩ := cellk x b e
    obtain ⟨o', ho', _⟩ := p
    rw [hwr b hb] at ho'; cases ho'
  · rcases m with q | ⟨_, q, _⟩ | ⟨_, q, _⟩
    · have q' : b = h₂.objs.size + 1 := q
      exact absurd (hfp b hb) (by rw [q']; exact Nat.not_lt.mpr (Nat.le_succ _))
    · cases q
    · cases q
  · exact absurd (hfp b hb) (by rw [q]; exact Nat.lt_irrefl _)
  · obtain ⟨o, e⟩ := R.gd.low _ q
    rw [n₁ _ (Nat.le_refl _)] at e; cases e
theorem compStart_set {elt : Expr} {g₀ : Comprehension} {scope : Scope} {pos : Pos} {it acc : Value} {R : Result → Shared → Prop} {s : Shared} (hg : g₀.is_async = 0)
    (h0 : codeAny (model prog w.wo) A (.compLoop (.SetComp elt [g₀] scope pos) 0 it acc env) R s)
    (h : wpAny (model prog w.wo) A (pyIter it) (fun it' s' => codeAny (model prog w.wo) A (.compLoop (.SetComp elt [g₀] scope pos) 0 it' acc env) R s')
      (notedBy (model prog w.wo) A env fun x s' => R (.error x) s') s) :
    codeAny (model prog w.wo) A (.compStart (.SetComp elt [g₀] scope pos) 0 it acc env) R s := by
  refine codeAny_of_tree ?_
  show wpAny _ _ ((compStart (.SetComp elt [g₀] scope pos) 0 it acc env).onRaise (fun x => do noteFrame x env; standAt theWindowsPlace)) _ _ s
  refine wpAny_notedAt ?_
  unfold compStart
  rw [if_neg (by simp [clausesOf, hg])]
  show wpAny _ _ (ask >>= _) _ _ s
  refine wpAny_bind (wpAny_askSetting (wpAny_ite ?_))
  split
  · first
      | exact wpAny_bind (wpAny_pure (wpAny_pure (And.intro rfl h0)))
      | exact wpAny_pure (And.intro rfl h0)
  · refine wpAny_bind (wpAny_rule ?_)
    refine wpAny_bind (wpAny_standAt ?_)
    exact wpAny_bind (wpAny_mono h (fun it' s' h' => wpAny_pure ⟨rfl, h'⟩) fun _ _ x => x)
theorem set_core {elt iter : Expr} {x : Str} {px : Pos} {scope : Scope} {pos : Pos} {cl : List (Str × Addr)} {ds : List Dt} {Q : Value → Shared → Prop} {H : Addr → Prop} {s : Shared}
    (hit : EvIt prog w A env ρ κ own iter ds) (hclos : closureFor scope env = pure cl) (hsub : SubC cl env.cells)
    (helt : ∀ C (i : Nat) d, ds[i]? = some d → Ev prog w A (compEnvC scope cl C env) [(x, d)] κ [] elt (.bool b)) (hne : 0 < ds.length)
    (h0 : ∀ n acc, cellsFrom n scope.names acc = acc) (hp : ∀ h, pushCells h scope.names = h)
    (hs : ∀ x, foldedSetIterable iter env x = pure x) (hkind : scope.kind = .function) (hnames : ∀ x ∈ scope.names, x.2 = .local → scope.names.lookup x.1 = some .local)
    (hk : ∀ C, (compEnvC scope cl C env).scope.kind = .function) (hl : ∀ C, (compEnvC scope cl C env).kindOf x = some .local)
    (R : Rd w H env ρ κ own s.heap)
    (fin : ∀ s' D, Grow s s' → s'.heap.get? D = some (set1 (!w.wo.params.followText "set-order") b) → Q (.ref D) s') :
    wpAny (model prog w.wo) A (eval (.SetComp elt [⟨.Name x px, iter, [], 0⟩] scope pos) env) Q No s := by
  rw [arm_eval_SetComp]
  refine wpAny_comprehension_free (g := ⟨.Name x px, iter, [], 0⟩) (gs := []) rfl hs hclos hkind hnames ?_
  refine wpN (hit H s R) fun xv s₁ ⟨g₁, hx⟩ => wpN hx fun it s₂ ⟨g₂, src⟩ => ?_
  obtain ⟨I, fp, wr, P, St, rfl, W, st, hwr, hfp, hfz, hP, hlot, hlive⟩ := src.go
  have R₁ := R.keep g₁.keep
  refine newSet_led ?_
  refine newEnv0 h0 hp ?_
  have Z := laid_startS (scope := scope) (b := b) R₁ g₂.keep hsub hwr (fun b hb => hlive 0 _ b st hb) hfz
  have s1 : (s₂.heap.push (set0 (!w.wo.params.followText "set-order"))).objs.size = s₂.heap.objs.size + 1 := Heap.size_push ..
  show codeAny (model prog w.wo) A (.compStart (.SetComp elt [⟨.Name x px, iter, [], 0⟩] scope pos) 0 (.ref I) (.ref s₂.heap.objs.size)
    (compEnvC scope cl (s₂.heap.push (set0 (!w.wo.params.followText "set-order"))).objs.size env))
    (compPost (model prog w.wo) A No none Q (.ref s₂.heap.objs.size) (s₂.heap.push (set0 (!w.wo.params.followText "set-order"))).objs.size) { s₂ with heap := (s₂.heap.push (set0 (!w.wo.params.followText "set-order"))).push { cls := .type "dict", data := .dict #[] } }
  rw [s1]
  have kB2 : Keep s₂.heap ((s₂.heap.push (set0 (!w.wo.params.followText "set-order"))).push { cls := .type "dict", data := .dict #[] }) := (Keep.push _ _).trans (Keep.push _ _)
  generalize hh : (s₂.heap.push (set0 (!w.wo.params.followText "set-order"))).push { cls := .type "dict", data := .dict #[] } = hB at Z kB2 ⊢
  have kB : Keep s₁.heap hB := Z.ci.wr.keep
  have stB : St 0 hB := W.frame _ _ _ st fun b hb o e => kB2 b o e
  have key : codeAny (model prog w.wo) A (.compLoop (.SetComp elt [⟨.Name x px, iter, [], 0⟩] scope pos) 0 (.ref I) (.ref s₂.heap.objs.size) (compEnvC scope cl (s₂.heap.objs.size + 1) env))
      (compPost (model prog w.wo) A No none Q (.ref s₂.heap.objs.size) (s₂.heap.objs.size + 1)) { s₂ with heap := hB } := by
    refine comp_loopS (h₁ := s₁.heap) (H₀ := fun b => Hid H own b ∨ b = s₂.heap.objs.size) W
      (fun b hb => ⟨.inr (.inl hb), (Z.hwr b hb).1, (Z.hwr b hb).2.1, (Z.hwr b hb).2.2.1, (Z.hwr b hb).2.2.2⟩) Z.hfp (fun i d v h kh hd hp => ?_) hlot hlive
      (fun i d hd => helt _ i d hd) (hk _) (hl _) stB (Keep.refl _) Z.ci (fun b q => ?_) (.inr rfl) fun s' eg eo c => ?_
    · refine ((hP i d v s₁.heap (Keep.refl _) hd hp).hide fun b q => ?_).keep kh
      rcases q with (q | q | q) | ⟨_, q, _⟩
      · exact .inl q
      · exact .inr (hwr b q)
      · exact .inr (q ▸ keep_none g₂.keep (get_none_of_ge (Nat.le_refl _)))
      · cases q
    · rcases q with q | q
      · refine ⟨.inl q, fun hb => ?_⟩
        obtain ⟨o, e⟩ := R₁.gd.low b q
        rw [hwr b hb] at e; cases e
      · exact ⟨.inr (.inr q), fun hb => (Z.hwr b hb).2.1 q⟩
    · obtain ⟨m, hn, _⟩ := c.wr.rd.loc
      refine ⟨m, hn, fun h' sb => ?_⟩
      have ea : s'.heap.get? s₂.heap.objs.size = some (set1 (!w.wo.params.followText "set-order") b) := by
        have := c.acc
        obtain ⟨n, e⟩ : ∃ n, ds.length = n + 1 := ⟨ds.length - 1, by omega⟩
        rw [e] at this; exact this
      refine fin _ _ (g₁.trans ⟨fun a o e => ?_, eg.trans g₂.gens, eo.trans g₂.os⟩) ((sb.2 _ (Nat.ne_of_lt (Nat.lt_succ_self _))).trans ea)
      exact (sb.2 a (Nat.ne_of_lt (Nat.lt_succ_of_lt (Heap.lt_size (g₂.keep _ _ e))))).trans (c.wr.keep a o e)
  exact compStart_set rfl key (W.self 0 _ _ _ stB key)
end
end Mine
end

section
open PySem PySem.W PyProof.Rows PySem.Calls
set_option autoImplicit false
set_option linter.unusedVariables false
set_option maxRecDepth 100000
namespace Mine
section
variable {prog : Program} {w : Wd} {A : Around} {env : Env} {ρ κ : Ds} {own : Own} {b : Bool} {O : Out → Prop}
theorem unpack_set {s : Shared} {D : Addr} {Q : List Value → Shared → Prop} (hh : A.handled = none) (hD : s.heap.get? D = some (set1 (!w.wo.params.followText "set-order") b))
    (h : ∀ h', Keep s.heap h' → Q [.bool b] { s with heap := h' }) : wpAny (model prog w.wo) A (unpackItems (.ref D) 1 none) Q No s := by
  have hT : s.TypeIs (.ref D) "set" := ⟨_, hD, rfl⟩
  have hDI : D < s.heap.objs.size := Heap.lt_size hD
  unfold unpackItems
  refine wpAny_bind ?_
  unfold notIterableAtAll
  refine wpAny_bind (wpAny_specialOf hT F.slot_set_iter.lookup ?_)
  refine wpAny_pure ?_
  simp only [Bool.false_eq_true, if_false]
  refine wpAny_bind (wpAny_holding (pyIter_set hD ?_))
  have hD₁ : (s.heap.push (setIt D 0 0)).get? D = some (set1 (!w.wo.params.followText "set-order") b) := Keep.push _ _ _ _ hD
  have hI₁ : (s.heap.push (setIt D 0 0)).get? s.heap.objs.size = some (setIt D 0 0) := Heap.get?_push_size _ rfl
  refine wpAny_bind (wpAny_holding ?_)
  show wpAny _ _ (draw (.ref s.heap.objs.size) 1) _ _ _
  unfold draw
  refine wpAny_bind (si_next (s := { s with heap := s.heap.push (setIt D 0 0) }) (Nat.ne_of_gt hDI) hD₁ hI₁ fun f h₂ sb hI₂ hf => ?_)
  dsimp only
  refine wpAny_bind (wpAny_holding ?_)
  unfold draw
  refine wpAny_pure (wpAny_pure ?_)
  rw [if_neg (by simp)]
  refine wpAny_bind (wpAny_holding (si_end (s := { s with heap := h₂ }) hh ((sb.2 D (Nat.ne_of_lt hDI)).trans hD₁) hI₂ hf fun h₃ k => ?_))
  simp only [Option.isSome_none, Bool.false_eq_true, if_false]
  refine wpAny_pure (h h₃ fun a o e => ?_)
  have hne : a ≠ s.heap.objs.size := Nat.ne_of_lt (Heap.lt_size e)
  exact k a o hne ((sb.2 a hne).trans (Keep.push _ _ _ _ e))
/-- y, = {.. for ..}, whose items are all the same truth -/
theorem Exs.set1 {elt iter : Expr} {x y : Str} {px py tp : Pos} {k : Nat} {scope : Scope} {pos spos : Pos} {ds : List Dt} {rest : List Stmt}
    (hit : EvIt prog w A env ρ κ own iter ds) (hne : 0 < ds.length) (hh : A.handled = none) (cl : List (Str × Addr)) (hclos : closureFor scope env = pure cl) (hsub : SubC cl env.cells)
    (helt : ∀ C (i : Nat) d, ds[i]? = some d → Ev prog w A (compEnvC scope cl C env) [(x, d)] κ [] elt (.bool b))
    (hr : Exs prog w A env ((y, .bool b) :: ρ) κ own rest O)
    (h0 : ∀ n acc, cellsFrom n scope.names acc = acc := by exact fun _ _ => rfl) (hp : ∀ h, pushCells h scope.names = h := by exact fun _ => rfl)
    (hs : ∀ x, foldedSetIterable iter env x = pure x := by intro _; rfl) (hkind : scope.kind = .function := by kernel_rfl!) (hnames : ∀ x ∈ scope.names, x.2 = .local → scope.names.lookup x.1 = some .local := by decide)
    (hk : ∀ C, (compEnvC scope cl C env).scope.kind = .function := by intro _; kernel_rfl!) (hl : ∀ C, (compEnvC scope cl C env).kindOf x = some .local := by intro _; kernel_rfl!)
    (hs' : swapsWithSole [.Tuple [.Name y py] k tp] (.SetComp elt [⟨.Name x px, iter, [], 0⟩] scope pos) spos.line env = pure false := by rfl)
    (hw : swappedStores [.Tuple [.Name y py] k tp] (.SetComp elt [⟨.Name x px, iter, [], 0⟩] scope pos) env = pure none := by rfl)
    (hk' : env.scope.kind = .function := by kernel_rfl!) (hl' : env.kindOf y = some .local := by kernel_rfl!) (hx : (own.any fun e => e.1 == y) = false := by kernel_rfl!) :
    Exs prog w A env ρ κ own (.Assign [.Tuple [.Name y py] k tp] (.SetComp elt [⟨.Name x px, iter, [], 0⟩] scope pos) spos :: rest) O :=
  .cons fun h₀ H s W => Assign_Tuple (set_core hit hclos hsub helt hne h0 hp hs hkind hnames hk hl W.rd fun s₁ D g hD => by
    have W₁ := W.grow g.keep
    rw [assign_Tuple]
    refine wpAny_bind (wpAny_standAt ?_)
    unfold PySem.unpack
    refine wpAny_bind (wpAny_holding (unpack_set hh hD fun h' k' => ?_))
    show wpAny _ _ (assignInOrder [assign (.Name y py) env] [.bool b]) _ _ _
    unfold assignInOrder
    have W₂ := W₁.grow k'
    refine wpAny_bind (wpAny_holding (wpN (Asg.loc (fr := allF) (px := py) hk' hl' hx h₀ H { s₁ with heap := h' } (.bool b) W₂ (.bool b)) fun _ s₃ ⟨g3, o3, w3⟩ => ?_))
    unfold assignInOrder
    exact wpAny_pure ⟨g3.trans g.gens, o3.trans g.os, .next ((y, .bool b) :: ρ) κ own, hr, w3⟩) hs' hw
end
end Mine
end

section
open PySem PySem.W PyProof.Rows PySem.Calls
set_option autoImplicit false
set_option linter.unusedVariables false
set_option maxRecDepth 100000
namespace Mine
section
variable {prog : Program} {w : Wd} {A : Around}

theorem min_end {I S l : Addr} {R : Result → Shared → Prop} {vs : Array Value} {vb : Value} {c : Nat} {s : Shared} (W : Walks prog w.wo A.in1 I [I, l] [I] vs.size (fun i v => vs[i]? = some v) (fun i h => h.IsListIter I l i ∧ h.IsList l vs))
    (hSI : S ≠ I) (hSl : S ≠ l) (st : s.heap.IsListIter I l vs.size ∧ s.heap.IsList l vs) (hS : s.heap.get? S = some { cls := .type "list", dict := none, data := .seq #[vb, vb] c, slots := #[] })
    (hR : ∀ h' tk, (∀ b o, b ≠ I → b ≠ S → s.heap.get? b = some o → h'.get? b = some o) → R (.ok (.ret vb)) { s with heap := h', toks := tk }) :
    codeAny (model prog w.wo) A (.builtin "min.loop" ⟨[.ref I, .none, .ref S], []⟩) R s := by
  refine codeAny_builtin F.entry_min_loop ?_
  rw [Around.under_plainId F.plain_min_loop _]
  show wpAny _ A.in1 (seqItems? (.ref S) >>= _) _ _ s
  refine wpAny_bind (wpAny_seqItems hS rfl ?_)
  show wpAny _ A.in1 (tryCatch (pyNext (.ref I)) _ >>= _) _ _ s
  refine wpAny_bind (wpAny_tryCatch (W.done s _ _ st fun h' tk hk' => ?_))
  have hS' := hk' S _ (by simp [hSI]) hS
  show wpAny _ A.in1 (updateSeq S (fun _ => #[]) >>= _) _ _ _
  refine wpAny_bind ?_
  refine wpAny_updateSeq hS' rfl (wpAny_bind (wpAny_letGo (wpAny_pure ?_)))
  exact hR _ tk fun b o hbw hbS e => (Heap.get?_update_other _ _ (Ne.symm hbS)).trans (hk' b o (by simp [hbw]) e)
theorem min_two {I S l : Addr} {R : Result → Shared → Prop} {vs : Array Value} {v₀ v₁ : Value} {bt : Bool} {c : Nat} {s : Shared} (W : Walks prog w.wo A.in1 I [I, l] [I] vs.size (fun i v => vs[i]? = some v) (fun i h => h.IsListIter I l i ∧ h.IsList l vs))
    (h2 : vs.size = 2) (hv : vs[1]? = some v₁) (hSI : S ≠ I) (hSl : S ≠ l) (st : s.heap.IsListIter I l 1 ∧ s.heap.IsList l vs) (hS : s.heap.get? S = some { cls := .type "list", dict := none, data := .seq #[v₀, v₀] c, slots := #[] })
    (hcmp : ∀ s' : Shared, (∀ b o, b ≠ I → b ≠ S → s.heap.get? b = some o → s'.heap.get? b = some o) → wpAny (model prog w.wo) A.in1 (richCompare .Lt v₁ v₀) (fun v s'' => v = .bool bt ∧ s'' = s') No s')
    (hR : ∀ h' tk, (∀ b o, b ≠ I → b ≠ S → s.heap.get? b = some o → h'.get? b = some o) → R (.ok (.ret (if bt = true then v₁ else v₀))) { s with heap := h', toks := tk }) :
    codeAny (model prog w.wo) A (.builtin "min.loop" ⟨[.ref I, .none, .ref S], []⟩) R s := by
  have hname : (toString "min" ++ toString ".loop" : String) = "min.loop" := by decide
  refine codeAny_builtin F.entry_min_loop ?_
  rw [Around.under_plainId F.plain_min_loop _]
  show wpAny _ A.in1 (seqItems? (.ref S) >>= _) _ _ s
  refine wpAny_bind (wpAny_seqItems hS rfl ?_)
  show wpAny _ A.in1 (tryCatch (pyNext (.ref I)) _ >>= _) _ _ s
  refine wpAny_bind (wpAny_tryCatch (W.item 1 s _ _ (by omega) st fun v h' tk hP hst' hk' => ?_))
  have ev : v = v₁ := Option.some.inj (hP.symm.trans hv)
  subst ev
  have hS' := hk' S _ (by simp [hSI]) hS
  show wpAny _ A.in1 (tryCatch (holding [v, v] (richCompare .Lt v v₀ >>= _)) _ >>= _) _ _ _
  refine wpAny_bind (wpAny_tryCatch (wpAny_holding (wpAny_bind (wpAny_mono (hcmp { s with heap := h', toks := tk } fun b o hb hbS e => hk' b o (by simp [hb]) e) (fun r s'' q => ?_) fun _ _ q => q.elim))))
  obtain ⟨rfl, rfl⟩ := q
  refine wpAny_bind (wpAny_holding (wpAny_truthy_bool ?_))
  refine wpAny_bind (wpAny_letGo (wpAny_pure ?_))
  cases bt with
  | true =>
    simp only [if_true]
    refine wpAny_bind ?_
    refine wpAny_updateSeq hS' rfl (wpAny_bind (wpAny_letGo ?_))
    rw [hname]
    refine wpAny_pure ⟨plainId_quiet F.plain_min_loop _, min_end W hSI hSl (by
      rw [h2]
      have fr := W.frame 2 h' (h'.update S (Obj.mapSeq fun _ => #[v, v])) hst' fun b hbf o e => (Heap.get?_update_other _ _ (fun q : S = b => by simp at hbf; rcases hbf with q' | q' <;> rw [← q] at q' <;> contradiction)).trans e
      exact fr) (Heap.get?_update_self _ hS' rfl) fun h'' tk'' hk'' => ?_⟩
    exact hR h'' tk'' fun b o hb hbS e => hk'' b o hb hbS ((Heap.get?_update_other _ _ (Ne.symm hbS)).trans (hk' b o (by simp [hb]) e))
  | false =>
    simp only [Bool.false_eq_true, if_false]
    refine wpAny_bind (wpAny_letGo ?_)
    rw [hname]
    refine wpAny_pure ⟨plainId_quiet F.plain_min_loop _, min_end W hSI hSl (by rw [h2]; exact hst') hS' fun h'' tk'' hk'' => ?_⟩
    exact hR h'' tk'' fun b o hb hbS e => hk'' b o hb hbS (hk' b o (by simp [hb]) e)
theorem call_min_two {l : Addr} {vs : Array Value} {v₀ v₁ : Value} {bt : Bool} {s : Shared} {Q : Value → Shared → Prop} (hh : A.handled = none) (hl : s.heap.IsList l vs) (h2 : vs.size = 2) (hv₀ : vs[0]? = some v₀) (hv₁ : vs[1]? = some v₁)
    (hcmp : ∀ s' : Shared, Keep s.heap s'.heap → wpAny (model prog w.wo) A.in1 (richCompare .Lt v₁ v₀) (fun v s'' => v = .bool bt ∧ s'' = s') No s')
    (hQ : ∀ h' tk, Keep s.heap h' → Q (if bt = true then v₁ else v₀) { s with heap := h', toks := tk }) : wpAny (model prog w.wo) A (call (.builtin "min") [.ref l]) Q No s := by
  have hname : (toString "min" ++ toString ".loop" : String) = "min.loop" := by decide
  have hne : l ≠ s.heap.objs.size := fun q => by obtain ⟨o, ho, _⟩ := hl; exact Nat.lt_irrefl _ (q ▸ Heap.lt_size ho)
  refine call_function_tree F.kind_min F.plain_min F.entry_min (F.args_min1 _) ?_
  show wpAny _ A.in1 (Builtin.Builtins.bindParams "min" ["key", "default"] 0 ⟨[], []⟩ >>= _) _ _ s
  refine wpAny_bind (wpAny_of_eq (show Builtin.Builtins.bindParams "min" ["key", "default"] 0 ⟨[], []⟩ = pure [none, none] from rfl) ?_)
  refine wpAny_bind (wpAny_pure ?_)
  refine wpAny_bind (wpAny_pyIter_list hl ?_)
  have W := Walks.list (prog := prog) (w := w.wo) (A := A.in1) hh s.heap.objs.size l hne vs
  refine wpAny_bind (wpAny_newObj_type ?_)
  rw [hname]
  have e1 : (s.heap.push { cls := .type "list_iterator", data := .fields #[.ref l, .int 0 0] }).objs.size = s.heap.objs.size + 1 := Heap.size_push ..
  generalize hb₁ : s.heap.push { cls := .type "list_iterator", data := .fields #[.ref l, .int 0 0] } = h₁ at e1 ⊢
  have k₁ : Keep s.heap h₁ := hb₁ ▸ Keep.push _ _
  have hI : h₁.IsListIter s.heap.objs.size l 0 := hb₁ ▸ ⟨_, Heap.get?_push_size _ rfl, rfl, rfl⟩
  have hSI : h₁.objs.size ≠ s.heap.objs.size := by rw [e1]; exact Nat.succ_ne_self _
  have hSl : h₁.objs.size ≠ l := fun q => by obtain ⟨o, ho, _⟩ := hl; have := Heap.lt_size (k₁ _ _ ho); rw [q] at this; exact Nat.lt_irrefl _ this
  have st₀ : (h₁.push { cls := .type "list", data := .seq ([] : List Value).toArray }).IsListIter s.heap.objs.size l 0 ∧ (h₁.push { cls := .type "list", data := .seq ([] : List Value).toArray }).IsList l vs :=
    ⟨let ⟨o, e, r⟩ := hI; ⟨o, Keep.push _ _ _ _ e, r⟩, isList_keep (k₁.trans (Keep.push _ _)) hl⟩
  have hS : (h₁.push { cls := .type "list", data := .seq ([] : List Value).toArray }).get? h₁.objs.size = some { cls := .type "list", data := .seq ([] : List Value).toArray } := Heap.get?_push_size _ rfl
  refine wpAny_pure ⟨plainId_quiet F.plain_min_loop _, ?_⟩
  refine codeAny_builtin F.entry_min_loop ?_
  rw [Around.under_plainId F.plain_min_loop _]
  show wpAny _ A.in1 (seqItems? (.ref h₁.objs.size) >>= _) _ _ _
  refine wpAny_bind (wpAny_seqItems (s := { s with heap := h₁.push { cls := .type "list", data := .seq ([] : List Value).toArray } }) hS rfl ?_)
  show wpAny _ A.in1 (tryCatch (pyNext (.ref s.heap.objs.size)) _ >>= _) _ _ _
  refine wpAny_bind (wpAny_tryCatch (W.item 0 { s with heap := h₁.push { cls := .type "list", data := .seq ([] : List Value).toArray } } _ _ (by omega) st₀ fun v h' tk hP hst' hk' => ?_))
  have ev : v = v₀ := Option.some.inj (hP.symm.trans hv₀)
  subst ev
  have hS' := hk' h₁.objs.size _ (by simp [hSI]) hS
  show wpAny _ A.in1 (updateSeq h₁.objs.size (fun _ => #[v, v]) >>= _) _ _ _
  refine wpAny_bind ?_
  refine wpAny_updateSeq hS' rfl ?_
  rw [hname]
  have nn : ∀ b o, s.heap.get? b = some o → b ≠ s.heap.objs.size ∧ b ≠ h₁.objs.size := fun b o e => ⟨Nat.ne_of_lt (Heap.lt_size e), Nat.ne_of_lt (Heap.lt_size (k₁ _ _ e))⟩
  have kk : Keep s.heap (h'.update h₁.objs.size (Obj.mapSeq fun _ => #[v, v])) := fun b o e => (Heap.get?_update_other _ _ (Ne.symm (nn b o e).2)).trans (hk' b o (by simp [(nn b o e).1]) (Keep.push _ _ _ _ (k₁ _ _ e)))
  have stU : (h'.update h₁.objs.size (Obj.mapSeq fun _ => #[v, v])).IsListIter s.heap.objs.size l 1 ∧ (h'.update h₁.objs.size (Obj.mapSeq fun _ => #[v, v])).IsList l vs :=
    W.frame 1 h' _ hst' fun b hbf o e => (Heap.get?_update_other _ _ (fun q : h₁.objs.size = b => by simp at hbf; rcases hbf with q' | q' <;> rw [← q] at q' <;> contradiction)).trans e
  refine wpAny_pure ⟨plainId_quiet F.plain_min_loop _, min_two (A := A) (bt := bt) W h2 hv₁ hSI hSl stU (Heap.get?_update_self _ hS' rfl) (fun s' kx => hcmp s' fun b o e => kx b o (nn b o e).1 (nn b o e).2 (kk b o e)) fun h'' tk'' hk'' => ?_⟩
  exact hQ h'' tk'' fun b o e => hk'' b o (nn b o e).1 (nn b o e).2 (kk b o e)

theorem max_end {I S l : Addr} {R : Result → Shared → Prop} {vs : Array Value} {vb : Value} {c : Nat} {s : Shared} (W : Walks prog w.wo A.in1 I [I, l] [I] vs.size (fun i v => vs[i]? = some v) (fun i h => h.IsListIter I l i ∧ h.IsList l vs))
    (hSI : S ≠ I) (hSl : S ≠ l) (st : s.heap.IsListIter I l vs.size ∧ s.heap.IsList l vs) (hS : s.heap.get? S = some { cls := .type "list", dict := none, data := .seq #[vb, vb] c, slots := #[] })
    (hR : ∀ h' tk, (∀ b o, b ≠ I → b ≠ S → s.heap.get? b = some o → h'.get? b = some o) → R (.ok (.ret vb)) { s with heap := h', toks := tk }) :
    codeAny (model prog w.wo) A (.builtin "max.loop" ⟨[.ref I, .none, .ref S], []⟩) R s := by
  refine codeAny_builtin F.entry_max_loop ?_
  rw [Around.under_plainId F.plain_max_loop _]
  show wpAny _ A.in1 (seqItems? (.ref S) >>= _) _ _ s
  refine wpAny_bind (wpAny_seqItems hS rfl ?_)
  show wpAny _ A.in1 (tryCatch (pyNext (.ref I)) _ >>= _) _ _ s
  refine wpAny_bind (wpAny_tryCatch (W.done s _ _ st fun h' tk hk' => ?_))
  have hS' := hk' S _ (by simp [hSI]) hS
  show wpAny _ A.in1 (updateSeq S (fun _ => #[]) >>= _) _ _ _
  refine wpAny_bind ?_
  refine wpAny_updateSeq hS' rfl (wpAny_bind (wpAny_letGo (wpAny_pure ?_)))
  exact hR _ tk fun b o hbw hbS e => (Heap.get?_update_other _ _ (Ne.symm hbS)).trans (hk' b o (by simp [hbw]) e)
theorem max_two {I S l : Addr} {R : Result → Shared → Prop} {vs : Array Value} {v₀ v₁ : Value} {bt : Bool} {c : Nat} {s : Shared} (W : Walks prog w.wo A.in1 I [I, l] [I] vs.size (fun i v => vs[i]? = some v) (fun i h => h.IsListIter I l i ∧ h.IsList l vs))
    (h2 : vs.size = 2) (hv : vs[1]? = some v₁) (hSI : S ≠ I) (hSl : S ≠ l) (st : s.heap.IsListIter I l 1 ∧ s.heap.IsList l vs) (hS : s.heap.get? S = some { cls := .type "list", dict := none, data := .seq #[v₀, v₀] c, slots := #[] })
    (hcmp : ∀ s' : Shared, (∀ b o, b ≠ I → b ≠ S → s.heap.get? b = some o → s'.heap.get? b = some o) → wpAny (model prog w.wo) A.in1 (richCompare .Gt v₁ v₀) (fun v s'' => v = .bool bt ∧ s'' = s') No s')
    (hR : ∀ h' tk, (∀ b o, b ≠ I → b ≠ S → s.heap.get? b = some o → h'.get? b = some o) → R (.ok (.ret (if bt = true then v₁ else v₀))) { s with heap := h', toks := tk }) :
    codeAny (model prog w.wo) A (.builtin "max.loop" ⟨[.ref I, .none, .ref S], []⟩) R s := by
  have hname : (toString "max" ++ toString ".loop" : String) = "max.loop" := by decide
  refine codeAny_builtin F.entry_max_loop ?_
  rw [Around.under_plainId F.plain_max_loop _]
  show wpAny _ A.in1 (seqItems? (.ref S) >>= _) _ _ s
  refine wpAny_bind (wpAny_seqItems hS rfl ?_)
  show wpAny _ A.in1 (tryCatch (pyNext (.ref I)) _ >>= _) _ _ s
  refine wpAny_bind (wpAny_tryCatch (W.item 1 s _ _ (by omega) st fun v h' tk hP hst' hk' => ?_))
  have ev : v = v₁ := Option.some.inj (hP.symm.trans hv)
  subst ev
  have hS' := hk' S _ (by simp [hSI]) hS
  show wpAny _ A.in1 (tryCatch (holding [v, v] (richCompare .Gt v v₀ >>= _)) _ >>= _) _ _ _
  refine wpAny_bind (wpAny_tryCatch (wpAny_holding (wpAny_bind (wpAny_mono (hcmp { s with heap := h', toks := tk } fun b o hb hbS e => hk' b o (by simp [hb]) e) (fun r s'' q => ?_) fun _ _ q => q.elim))))
  obtain ⟨rfl, rfl⟩ := q
  refine wpAny_bind (wpAny_holding (wpAny_truthy_bool ?_))
  refine wpAny_bind (wpAny_letGo (wpAny_pure ?_))
  cases bt with
  | true =>
    simp only [if_true]
    refine wpAny_bind ?_
    refine wpAny_updateSeq hS' rfl (wpAny_bind (wpAny_letGo ?_))
    rw [hname]
    refine wpAny_pure ⟨plainId_quiet F.plain_max_loop _, max_end W hSI hSl (by
      rw [h2]
      have fr := W.frame 2 h' (h'.update S (Obj.mapSeq fun _ => #[v, v])) hst' fun b hbf o e => (Heap.get?_update_other _ _ (fun q : S = b => by simp at hbf; rcases hbf with q' | q' <;> rw [← q] at q' <;> contradiction)).trans e
      exact fr) (Heap.get?_update_self _ hS' rfl) fun h'' tk'' hk'' => ?_⟩
    exact hR h'' tk'' fun b o hb hbS e => hk'' b o hb hbS ((Heap.get?_update_other _ _ (Ne.symm hbS)).trans (hk' b o (by simp [hb]) e))
  | false =>
    simp only [Bool.false_eq_true, if_false]
    refine wpAny_bind (wpAny_letGo ?_)
    rw [hname]
    refine wpAny_pure ⟨plainId_quiet F.plain_max_loop _, max_end W hSI hSl (by rw [h2]; exact hst') hS' fun h'' tk'' hk'' => ?_⟩
    exact hR h'' tk'' fun b o hb hbS e => hk'' b o hb hbS (hk' b o (by simp [hb]) e)
theorem call_max_two {l : Addr} {vs : Array Value} {v₀ v₁ : Value} {bt : Bool} {s : Shared} {Q : Value → Shared → Prop} (hh : A.handled = none) (hl : s.heap.IsList l vs) (h2 : vs.size = 2) (hv₀ : vs[0]? = some v₀) (hv₁ : vs[1]? = some v₁)
    (hcmp : ∀ s' : Shared, Keep s.heap s'.heap → wpAny (model prog w.wo) A.in1 (richCompare .Gt v₁ v₀) (fun v s'' => v = .bool bt ∧ s'' = s') No s')
    (hQ : ∀ h' tk, Keep s.heap h' → Q (if bt = true then v₁ else v₀) { s with heap := h', toks := tk }) : wpAny (model prog w.wo) A (call (.builtin "max") [.ref l]) Q No s := by
  have hname : (toString "max" ++ toString ".loop" : String) = "max.loop" := by decide
  have hne : l ≠ s.heap.objs.size := fun q => by obtain ⟨o, ho, _⟩ := hl; exact Nat.lt_irrefl _ (q ▸ Heap.lt_size ho)
  refine call_function_tree F.kind_max F.plain_max F.entry_max (F.args_max1 _) ?_
  show wpAny _ A.in1 (Builtin.Builtins.bindParams "max" ["key", "default"] 0 ⟨[], []⟩ >>= _) _ _ s
  refine wpAny_bind (wpAny_of_eq (show Builtin.Builtins.bindParams "max" ["key", "default"] 0 ⟨[], []⟩ = pure [none, none] from rfl) ?_)
  refine wpAny_bind (wpAny_pure ?_)
  refine wpAny_bind (wpAny_pyIter_list hl ?_)
  have W := Walks.list (prog := prog) (w := w.wo) (A := A.in1) hh s.heap.objs.size l hne vs
  refine wpAny_bind (wpAny_newObj_type ?_)
  rw [hname]
  have e1 : (s.heap.push { cls := .type "list_iterator", data := .fields #[.ref l, .int 0 0] }).objs.size = s.heap.objs.size + 1 := Heap.size_push ..
  generalize hb₁ : s.heap.push { cls := .type "list_iterator", data := .fields #[.ref l, .int 0 0] } = h₁ at e1 ⊢
  have k₁ : Keep s.heap h₁ := hb₁ ▸ Keep.push _ _
  have hI : h₁.IsListIter s.heap.objs.size l 0 := hb₁ ▸ ⟨_, Heap.get?_push_size _ rfl, rfl, rfl⟩
  have hSI : h₁.objs.size ≠ s.heap.objs.size := by rw [e1]; exact Nat.succ_ne_self _
  have hSl : h₁.objs.size ≠ l := fun q => by obtain ⟨o, ho, _⟩ := hl; have := Heap.lt_size (k₁ _ _ ho); rw [q] at this; exact Nat.lt_irrefl _ this
  have st₀ : (h₁.push { cls := .type "list", data := .seq ([] : List Value).toArray }).IsListIter s.heap.objs.size l 0 ∧ (h₁.push { cls := .type "list", data := .seq ([] : List Value).toArray }).IsList l vs :=
    ⟨let ⟨o, e, r⟩ := hI; ⟨o, Keep.push _ _ _ _ e, r⟩, isList_keep (k₁.trans (Keep.push _ _)) hl⟩
  have hS : (h₁.push { cls := .type "list", data := .seq ([] : List Value).toArray }).get? h₁.objs.size = some { cls := .type "list", data := .seq ([] : List Value).toArray } := Heap.get?_push_size _ rfl
  refine wpAny_pure ⟨plainId_quiet F.plain_max_loop _, ?_⟩
  refine codeAny_builtin F.entry_max_loop ?_
  rw [Around.under_plainId F.plain_max_loop _]
  show wpAny _ A.in1 (seqItems? (.ref h₁.objs.size) >>= _) _ _ _
  refine wpAny_bind (wpAny_seqItems (s := { s with heap := h₁.push { cls := .type "list", data := .seq ([] : List Value).toArray } }) hS rfl ?_)
  show wpAny _ A.in1 (tryCatch (pyNext (.ref s.heap.objs.size)) _ >>= _) _ _ _
  refine wpAny_bind (wpAny_tryCatch (W.item 0 { s with heap := h₁.push { cls := .type "list", data := .seq ([] : List Value).toArray } } _ _ (by omega) st₀ fun v h' tk hP hst' hk' => ?_))
  have ev : v = v₀ := Option.some.inj (hP.symm.trans hv₀)
  subst ev
  have hS' := hk' h₁.objs.size _ (by simp [hSI]) hS
  show wpAny _ A.in1 (updateSeq h₁.objs.size (fun _ => #[v, v]) >>= _) _ _ _
  refine wpAny_bind ?_
  refine wpAny_updateSeq hS' rfl ?_
  rw [hname]
  have nn : ∀ b o, s.heap.get? b = some o → b ≠ s.heap.objs.size ∧ b ≠ h₁.objs.size := fun b o e => ⟨Nat.ne_of_lt (Heap.lt_size e), Nat.ne_of_lt (Heap.lt_size (k₁ _ _ e))⟩
  have kk : Keep s.heap (h'.update h₁.objs.size (Obj.mapSeq fun _ => #[v, v])) := fun b o e => (Heap.get?_update_other _ _ (Ne.symm (nn b o e).2)).trans (hk' b o (by simp [(nn b o e).1]) (Keep.push _ _ _ _ (k₁ _ _ e)))
  have stU : (h'.update h₁.objs.size (Obj.mapSeq fun _ => #[v, v])).IsListIter s.heap.objs.size l 1 ∧ (h'.update h₁.objs.size (Obj.mapSeq fun _ => #[v, v])).IsList l vs :=
    W.frame 1 h' _ hst' fun b hbf o e => (Heap.get?_update_other _ _ (fun q : h₁.objs.size = b => by simp at hbf; rcases hbf with q' | q' <;> rw [← q] at q' <;> contradiction)).trans e
  refine wpAny_pure ⟨plainId_quiet F.plain_max_loop _, max_two (A := A) (bt := bt) W h2 hv₁ hSI hSl stU (Heap.get?_update_self _ hS' rfl) (fun s' kx => hcmp s' fun b o e => kx b o (nn b o e).1 (nn b o e).2 (kk b o e)) fun h'' tk'' hk'' => ?_⟩
  exact hQ h'' tk'' fun b o e => hk'' b o (nn b o e).1 (nn b o e).2 (kk b o e)

end
end Mine
end

section
open PySem PySem.W PyProof.Rows PySem.Calls
set_option autoImplicit false
set_option linter.unusedVariables false
set_option maxRecDepth 100000
namespace Mine
section
variable {prog : Program} {w : Wd} {A : Around}
theorem rc_lt_rows {H : Addr → Prop} {xs ys : List Str} {v u : Value} {s : Shared} (hu : A.units < cLine) (r₁ : Rep s.heap H v (dtRow xs)) (r₂ : Rep s.heap H u (dtRow ys)) :
    wpAny (model prog w.wo) A (richCompare .Lt v u) (fun r s' => r = .bool (rowLt xs ys) ∧ s' = s) No s := by
  cases r₁ with
  | @list l vs _ hl _ r₁ => cases r₂ with
    | @list b us _ hb _ r₂ =>
      have hx : vs.toArray.size = xs.length := by rw [List.size_toArray, r₁.length, List.length_map]
      have hy : us.toArray.size = ys.length := by rw [List.size_toArray, r₂.length, List.length_map]
      obtain ⟨⟨cls, dd, data, sl⟩, ho, hc, n, hd⟩ := id hl
      obtain ⟨⟨cls2, dd2, data2, sl2⟩, ho2, hc2, n2, hd2⟩ := id hb
      simp only at hc hd hc2 hd2
      subst hc hd hc2 hd2
      exact richCompare_meets_room (op := .Lt) ⟨_, ho, rfl⟩ ⟨_, ho2, rfl⟩ F.slot_list_lt F.entry_list_lt (F.args_list_lt_2 _ _) (list_lt l b vs.toArray us.toArray n n2 dd dd2 sl sl2 xs ys hx hy (r₁.strAt hx) (r₂.strAt hy))
        ⟨ho, ho2, show Value.bool (rowLt xs ys) ≠ Value.notImplemented ∧ _ from ⟨(fun x => nomatch x), rfl, rfl⟩⟩ hu
theorem rc_gt_rows {H : Addr → Prop} {xs ys : List Str} {v u : Value} {s : Shared} (hu : A.units < cLine) (r₁ : Rep s.heap H v (dtRow xs)) (r₂ : Rep s.heap H u (dtRow ys)) :
    wpAny (model prog w.wo) A (richCompare .Gt v u) (fun r s' => r = .bool (rowLt ys xs) ∧ s' = s) No s := by
  cases r₁ with
  | @list l vs _ hl _ r₁ => cases r₂ with
    | @list b us _ hb _ r₂ =>
      have hx : vs.toArray.size = xs.length := by rw [List.size_toArray, r₁.length, List.length_map]
      have hy : us.toArray.size = ys.length := by rw [List.size_toArray, r₂.length, List.length_map]
      obtain ⟨⟨cls, dd, data, sl⟩, ho, hc, n, hd⟩ := id hl
      obtain ⟨⟨cls2, dd2, data2, sl2⟩, ho2, hc2, n2, hd2⟩ := id hb
      simp only at hc hd hc2 hd2
      subst hc hd hc2 hd2
      exact richCompare_meets_room (op := .Gt) ⟨_, ho, rfl⟩ ⟨_, ho2, rfl⟩ F.slot_list_gt F.entry_list_gt (F.args_list_gt_2 _ _) (list_gt l b vs.toArray us.toArray n n2 dd dd2 sl sl2 xs ys hx hy (r₁.strAt hx) (r₂.strAt hy))
        ⟨ho, ho2, show Value.bool (rowLt ys xs) ≠ Value.notImplemented ∧ _ from ⟨(fun x => nomatch x), rfl, rfl⟩⟩ hu
theorem Op.min_rows {xs ys : List Str} (hR : Room A 1) : OpN prog w A (fun vs => call (.builtin "min") vs) [.list [dtRow xs, dtRow ys]] (dtRow (if rowLt ys xs = true then ys else xs)) := .one fun H s v G r => by
  cases r with
  | @list l vs _ hl n r =>
    cases r with
    | @cons v₀ _ _ _ r₀ r => cases r with
      | @cons v₁ _ _ _ r₁ r =>
        cases r
        refine call_min_two (v₀ := v₀) (v₁ := v₁) (bt := rowLt ys xs) hR.handled hl rfl rfl rfl (fun s' k => rc_lt_rows (by have := hR.units; show A.units + 1 < _; omega) (r₁.keep k) (r₀.keep k)) fun h' tk k => ?_
        refine ⟨⟨k, rfl, rfl⟩, ?_⟩
        split
        · exact r₁.keep k
        · exact r₀.keep k
theorem Op.max_rows {xs ys : List Str} (hR : Room A 1) : OpN prog w A (fun vs => call (.builtin "max") vs) [.list [dtRow xs, dtRow ys]] (dtRow (if rowLt xs ys = true then ys else xs)) := .one fun H s v G r => by
  cases r with
  | @list l vs _ hl n r =>
    cases r with
    | @cons v₀ _ _ _ r₀ r => cases r with
      | @cons v₁ _ _ _ r₁ r =>
        cases r
        refine call_max_two (v₀ := v₀) (v₁ := v₁) (bt := rowLt xs ys) hR.handled hl rfl rfl rfl (fun s' k => rc_gt_rows (by have := hR.units; show A.units + 1 < _; omega) (r₁.keep k) (r₀.keep k)) fun h' tk k => ?_
        refine ⟨⟨k, rfl, rfl⟩, ?_⟩
        split
        · exact r₁.keep k
        · exact r₀.keep k
end
end Mine
end

section
open PySem PySem.W PyProof.Rows PySem.Calls
set_option autoImplicit false
set_option linter.unusedVariables false
set_option maxRecDepth 100000
namespace Mine
section
variable {prog : Program} {w : Wd} {A : Around} {env : Env} {ρ κ : Ds} {own : Own} {O : Out → Prop}
/-- for .., .. in enumerate(e), e a list -/
theorem Exs.loopEnum {elts : List Expr} {tk : Nat} {tpos : Pos} {e : Expr} {np cpos : Pos} {body rest : List Stmt} {pos : Pos} {ds : List Dt} (hh : A.handled = none) (hev : Ev prog w A env ρ κ own e (.list ds)) (B : Nat → Prop) (ρs κs : Nat → Ds)
    (hB : B 0) (hρ : Sub (ρs 0) ρ) (hκ : Sub (κs 0) κ)
    (turn : ∀ i d, ds[i]? = some d → B i → ∃ ρ' κ', Asg prog w A env allF (ρs i) (κs i) own (.Tuple elts tk tpos) (.tuple [.int i, d]) ρ' κ' ∧ Exs prog w A env ρ' κ' own body (Turn prog w A env rest O (B (i + 1)) (ρs (i + 1)) (κs (i + 1)) own))
    (fin : B ds.length → Exs prog w A env (ρs ds.length) (κs ds.length) own rest O) (e0 : ("enumerate" : Str) ∈ bltNames) (hp : plainE e = true := by rfl)
    (hs : ∀ x, foldedSetIterable (.Call (.Name "enumerate" np) [e] [] cpos) env x = pure x := by intro _; rfl)
    (hg : env.globals = mainGlobals := by kernel_rfl!) (hb : env.builtins = builtinsNs := by kernel_rfl!) (hkf : env.scope.kind = .function := by kernel_rfl!) (hx : env.kindOf "enumerate" = some .globalImplicit := by kernel_rfl!) :
    Exs prog w A env ρ κ own (.For (.Tuple elts tk tpos) (.Call (.Name "enumerate" np) [e] [] cpos) body [] pos :: rest) O :=
  .cons fun h₀ H s W => by
    refine wpAny_For (Call_ (nameB W.rd.gr e0 (v := .type "enumerate") (by decide +kernel) (by decide +kernel) (PyProof.Rows.callWith_type (by rw [starEach_plain hp]; rfl) ?_) hg hb hkf hx (by decide +kernel)) rfl) hs
    refine wpN (args1 (Q := fun vs' s' => Grow s s' ∧ ∃ l, vs' = [.ref l] ∧ Rep s'.heap (Hid H own) (.ref l) (.list ds)) hp (wpN (hev H s W.rd) fun v s₁ ⟨g, r⟩ => ⟨g, by cases r with | @list l vs _ h1 h2 h3 => exact ⟨l, rfl, .list h1 h2 h3⟩⟩)) fun a s₁ ⟨ek, g₁, l, ea, rl⟩ => ?_
    rw [ek, ea]
    cases rl with
    | @list _ vs _ hl hnH r =>
    refine call_enumerate_list hl fun h₂ hen hit hsz k₂ => ?_
    have hne1 : s₁.heap.objs.size + 1 ≠ s₁.heap.objs.size := Nat.succ_ne_self _
    have hll : l < s₁.heap.objs.size := by obtain ⟨o, ho, _⟩ := hl; exact Heap.lt_size ho
    have hz : vs.toArray.size = ds.length := by rw [List.size_toArray, r.length]
    have Wk₀ := WalksT.enumerate (prog := prog) (w := w.wo) (A := A) hh (s₁.heap.objs.size + 1) s₁.heap.objs.size l hne1 (Nat.ne_of_lt (Nat.lt_succ_of_lt hll)) (Nat.ne_of_lt hll) vs.toArray
    rw [hz] at Wk₀
    generalize hPt : (fun (i : Nat) (vals : Array Value) => ∃ t x, vs.toArray[i]? = some x ∧ vals = #[.int i t, x]) = Pt at Wk₀
    generalize hSt : (fun (i : Nat) (h : Heap) => (∃ old, IsEnum h (s₁.heap.objs.size + 1) s₁.heap.objs.size i old) ∧ h.IsListIter s₁.heap.objs.size l i ∧ h.IsList l vs.toArray) = St at Wk₀
    generalize hMd : (fun (i : Nat) (T : Addr) (h : Heap) => (∃ x, IsEnumOut h (s₁.heap.objs.size + 1) s₁.heap.objs.size ((i : Int) + 1) x T) ∧ h.IsListIter s₁.heap.objs.size l (i + 1) ∧ h.IsList l vs.toArray ∧ T ≠ s₁.heap.objs.size + 1 ∧ T ≠ s₁.heap.objs.size) = Md at Wk₀
    have Wk := Wk₀
    clear Wk₀
    have st : St 0 h₂ := by rw [← hSt]; exact ⟨⟨_, hen⟩, hit, isList_keep k₂ hl⟩
    have hwr : ∀ b ∈ [s₁.heap.objs.size + 1, s₁.heap.objs.size], s₁.heap.get? b = none := fun b hb => by
      simp at hb
      rcases hb with rfl | rfl
      · exact get_none_of_ge (Nat.le_succ _)
      · exact get_none_of_ge (Nat.le_refl _)
    have hlive : ∀ i h b, St i h → b ∈ [s₁.heap.objs.size + 1, s₁.heap.objs.size] → ∃ o, h.get? b = some o := fun i h b st hb => by
      rw [← hSt] at st
      obtain ⟨⟨old, a1⟩, ⟨o, a2, _⟩, _⟩ := st
      simp at hb
      rcases hb with rfl | rfl
      · exact ⟨_, a1⟩
      · exact ⟨o, a2⟩
    have hseq : ∃ o xs n, s₁.heap.get? l = some o ∧ o.data = .seq xs n := by obtain ⟨o, ho, _, n', hd⟩ := hl; exact ⟨o, _, n', ho, hd⟩
    refine Wk.self 0 { s₁ with heap := h₂ } _ _ st ?_
    generalize hwre : [s₁.heap.objs.size + 1, s₁.heap.objs.size] = wr at Wk hwr hlive
    have hfp' : ∀ b ∈ [s₁.heap.objs.size + 1, s₁.heap.objs.size, l], b ∈ wr ∨ b = l := fun b hb => by
      rw [← hwre]
      simp at hb ⊢
      rcases hb with h | h | h
      · exact .inl (.inl h)
      · exact .inl (.inr h)
      · exact .inr h
    generalize [s₁.heap.objs.size + 1, s₁.heap.objs.size, l] = fp at Wk hfp'
    generalize s₁.heap.objs.size + 1 = I at Wk
    have W₀ := W.grow g₁.keep
    obtain ⟨W₁, kb₀⟩ := W₀.base
    have ns₁ := W₀.notSeq
    have live : ∀ {a : Addr} {o : Obj}, s₁.heap.get? a = some o → ∀ b ∈ wr, a ≠ b := fun e b hb q => by rw [q, hwr b hb] at e; cases e
    have hL : ∀ b ∈ wr, env.locals ≠ b := by obtain ⟨_, ⟨_, _, _, e, _⟩, _⟩ := W₁.rd.loc; exact live e
    have hC : ∀ x c, env.cells.lookup x = some c → ∀ b ∈ wr, c ≠ b := fun x c e => by obtain ⟨_, ⟨_, e', _⟩, _⟩ := W₁.rd.cel x c e; exact live e'
    have hOi : ∀ e ∈ own, ∀ b ∈ wr, e.2.1 ≠ b := fun e he => by
      obtain ⟨_, _, e', _⟩ := W₁.rd.has e he; exact live e'
    have hM : ∀ b ∈ fp, ¬ Mayb env allF own b := fun b hb m => by
      rcases hfp' b hb with q | rfl
      · rcases m with m | ⟨x, _, m⟩ | ⟨e, he, m⟩
        · exact hL b q m.symm
        · exact hC x b m b q rfl
        · exact hOi e he b q m
      · obtain ⟨o, xs, n, e, hd⟩ := hseq
        rcases m with m | ⟨x, _, m⟩ | ⟨e', he, m⟩
        · obtain ⟨_, p, _⟩ := W₁.rd.loc; exact NotSeq.ns p _ (m ▸ e) _ _ hd
        · obtain ⟨_, p, _⟩ := W₁.rd.cel x b m; exact NotSeq.cell p _ e _ _ hd
        · exact hnH (.inr ⟨e', he, m⟩)
    generalize hb₀e : hideP s₁.heap (Mayb env allF own) = hb₀ at W₁ kb₀
    have h0wr : ∀ b ∈ wr, hb₀.get? b = none := fun b hb => keep_none W₁.keep (hwr b hb)
    have hHwr : ∀ b, H b → b ∉ wr := fun b hb q => by obtain ⟨o, e⟩ := W₁.rd.low b hb; exact live e b q rfl
    have W₂ : Wr w hb₀ (fun b => H b ∨ b ∈ wr) env allF (ρs 0) (κs 0) own h₂ := by
      refine (W₁.hideTo k₂ (fun b q => q.imp id (hwr b)) fun b q => ?_).less hρ hκ
      rcases q with q | q
      · obtain ⟨o, e⟩ := W₁.rd.low b q; exact ⟨o, k₂ _ _ e⟩
      · exact hlive 0 _ b st q
    have hback : ∀ {f : Flow} {s' : Shared} {o : Out}, OutOk w hb₀ (fun b => H b ∨ b ∈ wr) env f s'.heap o → OutOk w h₀ H env f s'.heap o := fun {f s' o} ok => by
      cases f <;> cases o <;> first | exact ok.elim | exact (Wr.hideTo ok (Keep.refl _) (fun b q => .inl (.inl q)) (fun b q => ok.rd.low b (.inl q))).back kb₀ W.gr₀ | exact ⟨kb₀.trans ok.1, ok.2.hide fun b q => .inl (.inl q)⟩
    refine codeAny_loop' rfl (fun n s' => ∃ i, i ≤ ds.length ∧ n = ds.length + 1 - i ∧ B i ∧ s'.gens = s.gens ∧ s'.os = s.os ∧ St i s'.heap ∧ Wr w hb₀ (fun b => H b ∨ b ∈ wr) env allF (ρs i) (κs i) own s'.heap) (fun n s' ⟨i, hi, hn, b, eg, eo, st', W'⟩ => ?_) (ds.length + 1)
      ⟨0, Nat.zero_le _, rfl, hB, g₁.gens, g₁.os, st, W₂⟩
    show wpAny _ _ ((forTurn (.Tuple elts tk tpos) (.ref I) body [] env).onRaise (fun x => do noteFrame x env; theTreesLotGoes x)) _ _ s'
    refine wpAny_noted (wpAny_mono (Q := fun fin s'' => match fin with
      | .done f => s''.gens = s.gens ∧ s''.os = s.os ∧ ∃ o, After prog w A env rest O o ∧ OutOk w h₀ H env f s''.heap o
      | .again c' => (c' = .forLoop (.Tuple elts tk tpos) (.ref I) body [] env ∧ ∃ m, m < n ∧ ∃ i, i ≤ ds.length ∧ m = ds.length + 1 - i ∧ B i ∧ s''.gens = s.gens ∧ s''.os = s.os ∧ St i s''.heap ∧ Wr w hb₀ (fun b => H b ∨ b ∈ wr) env allF (ρs i) (κs i) own s''.heap) ∨
          (c' = .block [] env ∧ s''.gens = s.gens ∧ s''.os = s.os ∧ ∃ o, After prog w A env rest O o ∧ OutOk w h₀ H env .next s''.heap o)) (E := No) ?_ (fun fin s'' q => ?_) fun _ _ q => q.elim)
    · unfold forTurn
      refine wpAny_bind (wpAny_standAt (wpAny_bind (wpAny_onRaise ?_)))
      rcases Nat.lt_or_ge i ds.length with hlt | hge
      · have hd : ds[i]? = some ds[i] := List.getElem?_eq_getElem hlt
        obtain ⟨ρ', κ', hasg, hbody⟩ := turn i _ hd b
        refine Wk.item i s' _ _ hlt st' fun T vals h' tk' hPv hT hTv hmid kk => ?_
        dsimp only
        refine wpAny_bind (Wk.go _ _ _ i T { s' with heap := h', toks := tk' } _ _ hmid fun h'' st₁ kk2 => ?_)
        have kk3 : ∀ b o, b ∉ wr → s'.heap.get? b = some o → h''.get? b = some o := fun b o hb e => kk2 b o hb (kk b o hb e)
        have W₃ : Wr w hb₀ (fun b => H b ∨ b ∈ wr) env allF (ρs i) (κs i) own h'' := W'.thru (P := (· ∈ wr)) kk3 (fun b q => .inr q) h0wr (fun q => hL _ q rfl) (fun x c e q => hC x c e _ q rfl) (fun e he q => hOi e he _ q rfl) (fun _ q => q) (fun b _ q => hlive _ _ b st₁ q)
        have hTwr : T ∉ wr := Wk.apart i T h' hmid
        have rx : ∃ t x, vals = #[.int i t, x] ∧ Rep h'' (Hid (fun b => H b ∨ b ∈ wr) own) x ds[i] := by
          rw [← hPt] at hPv
          obtain ⟨t, x, hx, rfl⟩ := hPv
          obtain ⟨v', hv', hr⟩ := r.get hd
          have : x = v' := by
            have hx' : vs[i]? = some x := by simpa using hx
            rw [hv'] at hx'; exact (Option.some.inj hx').symm
          subst this
          refine ⟨t, x, rfl, ?_⟩
          have r₁ := hr.base ns₁
          rw [hb₀e] at r₁
          refine (r₁.hide fun b q => ?_).keep W₃.keep
          rcases q with (q | q) | q
          · exact .inl (.inl q)
          · exact .inr (h0wr b q)
          · exact .inl (.inr q)
        have hTnew : s'.heap.get? T = none := get_none_of_ge hT
        have rv : Rep h'' (Hid (fun b => H b ∨ b ∈ wr) own) (.ref T) (.tuple [.int i, ds[i]]) := by
          obtain ⟨t, x, rfl, hr⟩ := rx
          obtain ⟨o, ho, hc, n', hd'⟩ := hTv
          refine .tuple (vs := [.int i t, x]) ⟨o, kk2 T o hTwr ho, hc, n', hd'⟩ (fun q => ?_) (.cons (.int _ _) (.cons hr .nil))
          obtain ⟨o, e⟩ := W'.rd.gd.low T q
          rw [hTnew] at e; cases e
        obtain ⟨wb, kb⟩ := W₃.base
        refine wpAny_bind (wpN (hasg _ _ { s' with heap := h'', toks := tk' } (.ref T) wb rv) fun _ s₃ ⟨g3, o3, w3⟩ => ?_)
        have st₃ : St (i + 1) s₃.heap := Wk.frame _ _ _ st₁ fun b hb o e => w3.keep b o (hideP_of (hM b hb) e)
        have W₄ := w3.back kb W₁.gr₀
        obtain ⟨wb', kb'⟩ := W₄.base
        refine wpAny_bind (wpN (hbody _ _ s₃ wb') fun f s₄ ⟨g4, o4, o, to, ok⟩ => ?_)
        have eg₄ : s₄.gens = s.gens := g4.trans (g3.trans eg)
        have eo₄ : s₄.os = s.os := o4.trans (o3.trans eo)
        have stK : Keep (hideP s₃.heap (Mayb env allF own)) s₄.heap → St (i + 1) s₄.heap := fun kx => Wk.frame _ _ _ st₃ fun b hb o e => kx b o (hideP_of (hM b hb) e)
        cases f with
        | next => cases o with
          | next ρ₁ κ₁ own₁ =>
            obtain ⟨b', s1, s2, rfl⟩ := to
            exact wpAny_pure (.inl ⟨rfl, ds.length + 1 - (i + 1), by omega, i + 1, hlt, rfl, b', eg₄, eo₄, stK ok.keep, (ok.back kb' W₁.gr₀).less s1 s2⟩)
          | brk | cont | ret => exact ok.elim
        | cont => cases o with
          | cont ρ₁ κ₁ own₁ =>
            obtain ⟨b', s1, s2, rfl⟩ := to
            exact wpAny_pure (.inl ⟨rfl, ds.length + 1 - (i + 1), by omega, i + 1, hlt, rfl, b', eg₄, eo₄, stK ok.keep, (ok.back kb' W₁.gr₀).less s1 s2⟩)
          | brk | next | ret => exact ok.elim
        | brk => cases o with
          | brk ρ₁ κ₁ own₁ => exact wpAny_pure ⟨eg₄, eo₄, .next ρ₁ κ₁ own₁, to, hback (f := .next) (o := .next ρ₁ κ₁ own₁) (ok.back kb' W₁.gr₀)⟩
          | cont | next | ret => exact ok.elim
        | ret v => cases o with
          | ret d => exact wpAny_pure ⟨eg₄, eo₄, .ret d, to, (kb₀.trans kb').trans ok.1, ok.2.hide fun b q => .inl (.inl q)⟩
          | cont | next | brk => exact ok.elim
      · have hie : i = ds.length := by omega
        subst hie
        refine Wk.done s' _ _ st' fun h' tk kk => ?_
        dsimp only
        refine wpAny_pure (.inr ⟨rfl, eg, eo, .next _ _ _, fin b, ?_⟩)
        exact (W'.thru (P := (· ∈ wr)) kk (fun b q => .inr q) h0wr (fun q => hL _ q rfl) (fun x c e q => hC x c e _ q rfl) (fun e he q => hOi e he _ q rfl) (fun _ q => .inl q) (fun b q q' => absurd q' (hHwr b q))).back kb₀ W.gr₀
    · cases fin with
      | done f => exact q
      | again c' =>
        rcases q with q | ⟨rfl, q⟩
        · exact .inl q
        · refine .inr ⟨rfl, codeAny_block ?_⟩
          exact wpAny_execs_nil q
end
end Mine
end

section
open PySem PySem.W PyProof.Rows PySem.Calls
set_option autoImplicit false
set_option linter.unusedVariables false
set_option maxRecDepth 100000
namespace Mine
def cpKeep (c : Str) : Bool := decide (c.length ≠ 0) && decide (c ≠ ".")
def cpParts (p : Str) : List Str := (Txt.split p "/").filter cpKeep
def lcp : List Str → List Str → List Str
  | x :: xs, y :: ys => if x = y then x :: lcp xs ys else []
  | _, _ => []
def sepIf (b : Bool) : Str := if b = true then "/" else ""
def dCommon (p q : Str) : Str := sepIf (Txt.startswith p "/") ++ Txt.join "/" (lcp (cpParts p) (cpParts q))
theorem lcp_same : ∀ xs : List Str, lcp xs xs = xs
  | [] => rfl
  | x :: xs => by rw [lcp, if_pos rfl, lcp_same]
theorem lcp_comm : ∀ xs ys : List Str, lcp xs ys = lcp ys xs
  | [], [] => rfl
  | [], _ :: _ => rfl
  | _ :: _, [] => rfl
  | x :: xs, y :: ys => by
    rw [lcp, lcp]
    by_cases h : x = y
    · subst h; rw [if_pos rfl, if_pos rfl, lcp_comm xs ys]
    · rw [if_neg h, if_neg (fun q => h q.symm)]
theorem lcp_stop : ∀ (xs ys : List Str) (i : Nat) (x y : Str), xs.take i = ys.take i → xs[i]? = some x → ys[i]? = some y → x ≠ y → lcp xs ys = xs.take i
  | [], _, _, _, _, _, h, _, _ => by simp at h
  | _ :: _, [], _, _, _, _, _, h, _ => by simp at h
  | a :: xs, b :: ys, 0, x, y, _, hx, hy, hne => by
    simp at hx hy; subst hx hy
    rw [lcp, if_neg hne]; rfl
  | a :: xs, b :: ys, i + 1, x, y, ht, hx, hy, hne => by
    simp only [List.take_succ_cons, List.cons.injEq] at ht
    obtain ⟨rfl, ht⟩ := ht
    rw [lcp, if_pos rfl, List.take_succ_cons, lcp_stop xs ys i x y ht (by simpa using hx) (by simpa using hy) hne]
theorem lcp_all : ∀ (xs ys : List Str), xs = ys.take xs.length → lcp xs ys = xs
  | [], _, _ => by rw [lcp]; intro _ _ _ _ q; cases q
  | x :: xs, [], h => by simp at h
  | x :: xs, y :: ys, h => by
    simp only [List.length_cons, List.take_succ_cons, List.cons.injEq] at h
    obtain ⟨rfl, h⟩ := h
    rw [lcp, if_pos rfl, lcp_all xs ys h]
theorem rowLt_long : ∀ (xs ys : List Str) (i : Nat), rowLt xs ys = true → xs.take i = ys.take i → i < xs.length → i < ys.length
  | [], _, _, _, _, h => by simp at h
  | _ :: _, [], _, h, _, _ => by cases h
  | _ :: _, _ :: _, 0, _, _, _ => by simp
  | x :: xs, y :: ys, i + 1, h, ht, hi => by
    simp only [List.take_succ_cons, List.cons.injEq] at ht
    obtain ⟨rfl, ht⟩ := ht
    rw [rowLt, if_pos rfl] at h
    have := rowLt_long xs ys i h ht (by simpa using hi)
    simpa using this
def dLow (a b : List Str) : List Str := if rowLt b a = true then b else a
def dHigh (a b : List Str) : List Str := if rowLt a b = true then b else a
theorem low_high (a b : List Str) : dLow a b = dHigh a b ∨ rowLt (dLow a b) (dHigh a b) = true := by
  unfold dLow dHigh
  by_cases h1 : rowLt b a = true
  · rw [if_pos h1]
    by_cases h2 : rowLt a b = true
    · rw [if_pos h2]; exact .inl rfl
    · rw [if_neg h2]; exact .inr h1
  · rw [if_neg h1]
    by_cases h2 : rowLt a b = true
    · rw [if_pos h2]; exact .inr h2
    · rw [if_neg h2]; exact .inl rfl
theorem rowLt_asymm : ∀ (xs ys : List Str), rowLt xs ys = true → rowLt ys xs = true → False
  | [], [], h, _ => by simp [rowLt] at h
  | [], _ :: _, _, h => by cases h
  | _ :: _, [], h, _ => by cases h
  | x :: xs, y :: ys, h, h' => by
    rw [rowLt] at h h'
    by_cases q : x = y
    · subst q; rw [if_pos rfl] at h h'; exact rowLt_asymm xs ys h h'
    · rw [if_neg q] at h; rw [if_neg (fun z => q z.symm)] at h'
      have h1 : x.cps.toList < y.cps.toList := of_decide_eq_true h
      have h2 : y.cps.toList < x.cps.toList := of_decide_eq_true h'
      exact List.lt_irrefl _ (List.lt_trans h1 h2)
theorem lcp_low_high (a b : List Str) : lcp (dLow a b) (dHigh a b) = lcp a b ∨ dLow a b = dHigh a b := by
  unfold dLow dHigh
  by_cases h1 : rowLt b a = true
  · rw [if_pos h1]
    by_cases h2 : rowLt a b = true
    · rw [if_pos h2]; exact .inr rfl
    · rw [if_neg h2]; exact .inl (lcp_comm b a)
  · rw [if_neg h1]
    by_cases h2 : rowLt a b = true
    · rw [if_pos h2]; exact .inl rfl
    · rw [if_neg h2]; exact .inr rfl
/-- neither is less: they are the same -/
theorem rowLt_total : ∀ (xs ys : List Str), rowLt xs ys = false → rowLt ys xs = false → xs = ys
  | [], [], _, _ => rfl
  | [], _ :: _, h, _ => by simp [rowLt] at h
  | _ :: _, [], _, h => by simp [rowLt] at h
  | x :: xs, y :: ys, h, h' => by
    rw [rowLt] at h h'
    by_cases q : x = y
    · subst q; rw [if_pos rfl] at h h'; rw [rowLt_total xs ys h h']
    · rw [if_neg q] at h; rw [if_neg (fun z => q z.symm)] at h'
      have h1 : ¬ x.cps.toList < y.cps.toList := of_decide_eq_false h
      have h2 : ¬ y.cps.toList < x.cps.toList := of_decide_eq_false h'
      have := List.le_antisymm (List.not_lt.mp h2) (List.not_lt.mp h1)
      exact absurd (by cases x; cases y; simp only [Str.mk.injEq]; exact Array.toList_inj.mp this) q
theorem lcp_lh (a b : List Str) : lcp (dLow a b) (dHigh a b) = lcp a b := by
  unfold dLow dHigh
  by_cases h1 : rowLt b a = true
  · rw [if_pos h1]
    by_cases h2 : rowLt a b = true
    · exact (rowLt_asymm _ _ h1 h2).elim
    · rw [if_neg h2]; exact lcp_comm b a
  · rw [if_neg h1]
    by_cases h2 : rowLt a b = true
    · rw [if_pos h2]
    · rw [if_neg h2]
      have := rowLt_total a b (by simpa using h2) (by simpa using h1)
      subst this; rfl
theorem pickD_take (xs : List Dt) (i : Nat) (h : i ≤ xs.length) : pickD xs none (some (i : Int)) none = xs.take i := by
  have e : sliceBounds none (some (i : Int)) none xs.length = (0, (i : Int), 1) := by
    simp only [sliceBounds, Option.getD_none]
    have h2 : ¬ ((i : Int) < 0) := by omega
    simp only [h2, if_false, show (1 : Int) > 0 by decide, if_true]
    congr 1
    congr 1; omega
  unfold pickD
  rw [e]
  have h1 := sliceRange_one 0 i
  simp only at h1 ⊢
  rw [show ((0 : Int)) = ((0 : Nat) : Int) from rfl, h1]
  have h3 := pick_run xs.toArray 0 (i - 0)
  simp only [List.getElem?_toArray, Nat.sub_zero, List.drop_zero] at h3 ⊢
  exact h3
section
variable {prog : Program} {w : Wd} {A : Around} {env : Env} {ρ κ : Ds} {own : Own} {O : Out → Prop}
theorem Tr.tuple {ds : List Dt} (hfit : (ds.length : Int) < 2 ^ 63) : Tr prog w A (.tuple ds) (decide (ds.length ≠ 0)) := fun H s v G r => by
  cases r with
  | @tuple a vs _ l n r' =>
    have hl := r'.length
    refine truthy_tuple l (by rw [List.size_toArray, hl]; exact hfit) ?_
    refine ⟨⟨Keep.refl _, rfl, rfl⟩, ?_⟩
    cases r' with
    | nil => rfl
    | cons => simp
end
section
variable {prog : Program} {w : Wd} {A : Around}
theorem filterMap_keep (l : List Str) : ((l.map fun c => if cpKeep c = true then some (Dt.str c) else none).filterMap id) = (l.filter cpKeep).map .str := by
  induction l with
  | nil => rfl
  | cons x l ih =>
    by_cases h : cpKeep x = true
    · rw [List.filter_cons_of_pos h]
      simp only [List.map_cons, if_pos h, List.filterMap_cons, id, ih]
    · rw [List.filter_cons_of_neg h]
      simp only [List.map_cons, if_neg h, List.filterMap_cons, id, ih]
structure SplitOk (p : Str) : Prop where
  len : p.length ≤ 2 ^ 16
  num : (Txt.split p "/").length ≤ 2 ^ 16
  all : ∀ c ∈ Txt.split p "/", c.length ≤ 2 ^ 16
  bet : (Builtin.Str.partsBetween p (Builtin.Str.occurrences p "/" 0 p.length (p.length + 1)) ("/" : Str).length).length ≤ sizeLine
theorem fn_commonpath {p q : Str} (hp : SplitOk p) (hq : SplitOk q) (hb : Txt.startswith p "/" = Txt.startswith q "/") (hj : JoinOk "/" (lcp (cpParts p) (cpParts q)) = true) (hz : (dCommon p q).length ≤ sizeLine) (hR : Room A 3) :
    OpN prog w A (fun vs => call (.ref (w.bk "commonpath")) vs) [.list [.str p, .str q]] (.str (dCommon p q)) := by
  refine fnC (n := 2) (ds := [("paths", .list [.str p, .str q])]) (ρ := [("paths", .list [.str p, .str q])]) (κ := []) hR def_common rfl (fun vs h => ?_) (by kernel_rfl) (by kernel_rfl) (by kernel_rfl) (by kernel_rfl) (by kernel_rfl) (by kernel_rfl) fun L A' R => ?_
  · match vs, h with
    | [_], _ => rfl
  · refine Exs.setL (.tupleMap (xs := [p, q]) (.loc rfl) R (show 2 ≤ sizeLine by decide)) ?_
    refine Exs.iff (b := false) (.not (.plain (.loc rfl) (Tr.tuple (ds := [.str p, .str q]) (show ((2 : Nat) : Int) < 2 ^ 63 by decide)))) (fun e => by cases e) fun _ => Exs.fall ?_
    refine Exs.iff (b := false) (.isBytes (x := p) (.sub (.loc rfl) .int (Op.itemT (by decide) (by decide) rfl))) (fun e => by cases e) fun _ => ?_
    refine Exs.setC .str (Exs.setC .str (Exs.fall ?_) (L + 2) rfl) (L + 1) rfl
    refine Exs.try_ ?_
    have two : ∀ (f : Str → Dt) (i : Nat) (d e : Dt), [Dt.str p, Dt.str q][i]? = some d → [f p, f q][i]? = some e → ∃ x, (x = p ∨ x = q) ∧ d = .str x ∧ e = f x := fun f i d e h h' => by
      match i with
      | 0 => simp at h h'; exact ⟨p, .inl rfl, h.symm, h'.symm⟩
      | 1 => simp at h h'; exact ⟨q, .inr rfl, h.symm, h'.symm⟩
      | n + 2 => simp at h
    have sok : ∀ x, (x = p ∨ x = q) → SplitOk x := fun x h => by rcases h with rfl | rfl <;> assumption
    refine Exs.compM (y := "split_paths") (es := [dtRow (Txt.split p "/"), dtRow (Txt.split q "/")]) (.map (x := "path") (.tuple R.handled (.loc rfl)) rfl [("sep", L + 1)] rfl ⟨rfl, trivial⟩ fun C i d e hd he => ?_) (show 2 + 1 ≤ sizeLine by decide) ?_
    · obtain ⟨x, hx, rfl, rfl⟩ := two (fun x => dtRow (Txt.split x "/")) i d e hd he
      have ok := sok x hx
      exact Ev.split (.loc rfl) (.cell rfl (L + 1) rfl) rfl (Nat.le_trans ok.len (by decide)) ok.bet
    refine Exs.try_ ?_
    refine Exs.set1 (x := "p") (y := "isabs") (b := Txt.startswith p "/") (ds := [.str p, .str q]) (.tuple R.handled (.loc rfl)) (show 0 < 2 by decide) R.handled [("sep", L + 1)] rfl ⟨rfl, trivial⟩ (fun C i d hd => ?_) (Exs.fall ?_)
    · obtain ⟨x, hx, rfl, _⟩ := two Dt.str i d d hd hd
      have : Txt.startswith p "/" = Txt.startswith x "/" := by rcases hx with rfl | rfl; rfl; exact hb
      rw [this]
      exact Ev.startswith (.loc rfl) (.cell rfl (L + 1) rfl)
    refine Exs.compM (y := "split_paths") (es := [dtRow (cpParts p), dtRow (cpParts q)]) (.map (x := "s") (ds := [dtRow (Txt.split p "/"), dtRow (Txt.split q "/")]) (.list R.handled (.loc rfl)) rfl [("curdir", L + 2)] rfl ⟨rfl, trivial⟩ fun C i d e hd he => ?_) (show 2 + 1 ≤ sizeLine by decide) ?_
    · obtain ⟨x, hx, rfl, rfl⟩ : ∃ x, (x = p ∨ x = q) ∧ d = dtRow (Txt.split x "/") ∧ e = dtRow (cpParts x) := by
        match i with
        | 0 => simp at hd he; exact ⟨p, .inl rfl, hd.symm, he.symm⟩
        | 1 => simp at hd he; exact ⟨q, .inr rfl, hd.symm, he.symm⟩
        | n + 2 => simp at hd
      have ok := sok x hx
      have hk := filterMap_keep (Txt.split x "/")
      show Ev prog w A' _ _ _ _ _ (.list ((cpParts x).map .str))
      rw [show (cpParts x).map Dt.str = _ from hk.symm]
      refine .comp (.filter (x := "c") (.list R.handled (.loc rfl)) (by simp) [("curdir", L + 2)] rfl ⟨rfl, trivial⟩ fun C' i' d' e' hd' he' => ?_) (by rw [List.length_map]; exact Nat.le_trans (Nat.succ_le_succ ok.num) (by decide))
      rw [List.getElem?_map, Option.map_eq_some_iff] at hd'
      obtain ⟨c, hc, rfl⟩ := hd'
      simp only [List.getElem?_map, hc, Option.map_some, Option.some.injEq] at he'
      subst he'
      have hcl := ok.all c (List.mem_of_getElem? hc)
      have : (if cpKeep c = true then some (Dt.str c) else none).isSome = (decide (c.length ≠ 0) && (decide (c ≠ ".") && true)) := by
        rw [Bool.and_true]; show _ = cpKeep c
        cases cpKeep c <;> rfl
      rw [this]
      refine ⟨.and_cons (.plain (.loc rfl) (.str (x := c) (by omega))) fun _ => .and_cons (.cmp (.loc rfl) (.cell rfl (L + 2) rfl) Op.ne_str) fun _ => .and_nil, fun y hy => ?_⟩
      split at hy
      · cases hy; exact .loc rfl
      · cases hy
    have lp : (cpParts p).length ≤ 2 ^ 16 := Nat.le_trans (List.length_filter_le _ _) hp.num
    have lq : (cpParts q).length ≤ 2 ^ 16 := Nat.le_trans (List.length_filter_le _ _) hq.num
    have hlh := lcp_lh (cpParts p) (cpParts q)
    have hord := low_high (cpParts p) (cpParts q)
    refine Exs.setL (d := dtRow (dLow (cpParts p) (cpParts q))) (.callB (id := "min") (.one (.loc rfl)) (Op.min_rows (R.less (by decide))) n_min (by decide +kernel) (by decide +kernel)) ?_
    refine Exs.setL (d := dtRow (dHigh (cpParts p) (cpParts q))) (.callB (id := "max") (.one (.loc rfl)) (Op.max_rows (R.less (by decide))) n_max (by decide +kernel) (by decide +kernel)) ?_
    have l1 : (dLow (cpParts p) (cpParts q)).length ≤ 2 ^ 16 := by unfold dLow; split <;> assumption
    have l2 : (dHigh (cpParts p) (cpParts q)).length ≤ 2 ^ 16 := by unfold dHigh; split <;> assumption
    unfold dCommon at hz ⊢
    rw [← hlh] at hj hz ⊢
    generalize dLow (cpParts p) (cpParts q) = s1 at *
    generalize dHigh (cpParts p) (cpParts q) = s2 at *
    generalize Txt.startswith p "/" = b at *
    clear hlh two sok hp hq hb lp lq
    refine Exs.setL (.loc rfl) ?_
    have len1 : (s1.map Dt.str).length = s1.length := List.length_map _
    refine Exs.loopEnum (ds := s1.map .str) R.handled (.loc rfl) (fun i => s1.take i = s2.take i) (fun i => [("s1", dtRow s1), ("s2", dtRow s2), ("common", dtRow s1), ("isabs", .bool b)]) (fun _ => [("curdir", .str "."), ("sep", .str "/")]) rfl (.of ⟨rfl, rfl, rfl, rfl, trivial⟩) (.refl _) (fun i d hd hB => ⟨_, _, .tup R.handled (.cons .loc (.cons .loc .nil rfl) rfl), ?_⟩) (fun hB => ?_) n_enumerate
    · rw [List.getElem?_map, Option.map_eq_some_iff] at hd
      obtain ⟨x, hx, rfl⟩ := hd
      have hi : i < s1.length := (List.getElem?_eq_some_iff.mp hx).1
      have hi2 : i < s2.length := by
        rcases hord with e | e
        · rw [← e]; exact hi
        · exact rowLt_long s1 s2 i e hB hi
      have hy : s2[i]? = some s2[i] := by simp [hi2]
      have hy' : (s2.map Dt.str)[(i : Int).toNat]? = some (.str s2[i]) := by simp [hi2]
      refine Exs.iff (.cmp (.loc rfl) (.sub (.loc rfl) (.loc rfl) (Op.item (by omega) (by omega) hy')) Op.ne_str) (fun e => ?_) fun e => ?_
      · have hne : x ≠ s2[i] := of_decide_eq_true e
        have hl := lcp_stop s1 s2 i x _ hB hx hy hne
        have hpk : (.list (pickD (s1.map Dt.str) none (some (i : Int)) none) : Dt) = dtRow (lcp s1 s2) := by
          rw [pickD_take _ _ (by rw [len1]; omega), hl, ← List.map_take]; rfl
        refine Exs.setL (d := dtRow (lcp s1 s2)) (by rw [← hpk]; exact .sliceL (a := none) (b := some (i : Int)) (c := none) (.loc rfl) trivial (Ev.loc rfl) trivial (by rw [len1]; exact Nat.le_trans l1 (by decide)) (by decide)) (Exs.brk ?_)
        refine Exs.setL (d := .str (sepIf b)) (.ifx (.plain (.loc rfl) .bool) (fun q => by rw [show sepIf b = "/" from if_pos q]; exact .cell rfl (L + 1) rfl) fun q => ?_) ?_
        · rw [show sepIf b = "" from if_neg (by rw [q]; decide)]
          exact .sliceS (a := none) (b := some 0) (y := "/") (.cell rfl (L + 1) rfl) trivial .int (by decide)
        · exact Exs.ret (.bin (.loc rfl) (.join (.cell rfl (L + 1) rfl) (.loc rfl) hj) (Op.add_str hz)) rfl
      · have heq : x = s2[i] := by simpa using e
        refine Exs.fall (Exs.nil ⟨?_, .of ⟨rfl, rfl, rfl, rfl, trivial⟩, .refl _, rfl⟩)
        rw [List.take_add_one, List.take_add_one, hB, hx, hy, heq]
    · rw [len1] at hB
      have hl : lcp s1 s2 = s1 := lcp_all _ _ (by rw [← hB, List.take_length])
      rw [hl] at hj hz ⊢
      refine Exs.setL (d := .str (sepIf b)) (.ifx (.plain (.loc rfl) .bool) (fun q => by rw [show sepIf b = "/" from if_pos q]; exact .cell rfl (L + 1) rfl) fun q => ?_) ?_
      · rw [show sepIf b = "" from if_neg (by rw [q]; decide)]
        exact .sliceS (a := none) (b := some 0) (y := "/") (.cell rfl (L + 1) rfl) trivial .int (by decide)
      · exact Exs.ret (.bin (.loc rfl) (.join (.cell rfl (L + 1) rfl) (.loc rfl) hj) (Op.add_str hz)) rfl
end
end Mine
end

section
open PySem PySem.W PyProof.Rows PySem.Calls
set_option autoImplicit false
set_option linter.unusedVariables false
set_option maxRecDepth 100000
namespace Mine
/-- a strict total order, as a test -/
structure TO (K : Type) where
  lt : K → K → Bool
  irr : ∀ a, lt a a = false
  tr : ∀ a b c, lt a b = true → lt b c = true → lt a c = true
  tot : ∀ a b, lt a b = false → lt b a = false → a = b
section
variable {K : Type} (o : TO K)
def TO.le (a b : K) : Prop := o.lt b a = false
theorem TO.le_refl (a : K) : o.le a a := o.irr a
theorem TO.le_of_lt {a b : K} (h : o.lt a b = true) : o.le a b := by
  unfold TO.le
  cases q : o.lt b a with
  | false => rfl
  | true => have := o.tr _ _ _ h q; rw [o.irr] at this; cases this
theorem TO.le_trans {a b c : K} (h : o.le a b) (h' : o.le b c) : o.le a c := by
  by_cases e : o.lt a b = true
  · by_cases e' : o.lt b c = true
    · exact o.le_of_lt (o.tr _ _ _ e e')
    · have := o.tot b c (by simpa using e') h'
      subst this; exact o.le_of_lt e
  · have := o.tot a b (by simpa using e) h
    subst this; exact h'
theorem TO.le_antisymm {a b : K} (h : o.le a b) (h' : o.le b a) : a = b := o.tot a b h' h
variable (key : Nat → K) (N : Nat)
def kk (p : Array Nat) (i : Nat) : K := key (p.getD i 0)
structure PermOk (p : Array Nat) : Prop where
  perm : p.toList.Perm (List.range N)
theorem PermOk.size {N : Nat} {p : Array Nat} (h : PermOk N p) : p.size = N := by have := h.perm.length_eq; simpa using this
theorem PermOk.lt {N : Nat} {p : Array Nat} (h : PermOk N p) {i : Nat} (hi : i < N) : p.getD i 0 < N := by
  have hs := h.size
  have : p.getD i 0 ∈ p.toList := by
    have e : p.getD i 0 = p[i]'(by omega) := by simp [Array.getD, hs, hi]
    rw [e]; simp
  exact List.mem_range.mp (h.perm.mem_iff.mp this)
def Sto (p : Array Nat) (k : Nat) : Prop := ∀ i j, i ≤ j → j < k → o.le (kk key p i) (kk key p j)
def Nin (p : Array Nat) (k : Nat) : Prop := ∀ i j, i ≤ j → j < k → o.le (kk key p j) (kk key p i)
theorem PermOk.rev {N : Nat} {p : Array Nat} (h : PermOk N p) (i j : Nat) : PermOk N (kas_rev p i j) := ⟨(Array.perm_iff_toList_perm.mp (mirror_perm p i j ((j - i) / 2))).trans h.perm⟩
theorem PermOk.bub {N : Nat} {p : Array Nat} (h : PermOk N p) (i j : Nat) : PermOk N (bubble p i j) := ⟨(Array.perm_iff_toList_perm.mp (bubble_perm p i j)).trans h.perm⟩
theorem kk_congr {p q : Array Nat} {i j : Nat} (h : p[i]? = q[j]?) : kk key p i = kk key q j := by
  unfold kk
  rw [Array.getD_eq_getD_getElem?, Array.getD_eq_getD_getElem?, h]
theorem kk_rev {p : Array Nat} {i j : Nat} (hj : j ≤ p.size) (k : Nat) : kk key (kas_rev p i j) k = if i ≤ k ∧ k < j then kk key p (i + j - 1 - k) else kk key p k := by
  have e := getElem?_mirror_all (i := i) hj k
  by_cases h1 : i ≤ k ∧ k < j
  · rw [if_pos h1] at e ⊢; exact kk_congr key e
  · rw [if_neg h1] at e ⊢; exact kk_congr key e
theorem kk_bub {p : Array Nat} {src d : Nat} (hs : src < p.size) (hd : d ≤ src) (k : Nat) :
    kk key (bubble p src d) k = if k = src - d then kk key p src else if src - d < k ∧ k ≤ src then kk key p (k - 1) else kk key p k := by
  have e := getElem?_bubble hs d hd k
  by_cases h1 : k = src - d
  · rw [if_pos h1] at e ⊢; exact kk_congr key e
  · rw [if_neg h1] at e ⊢
    by_cases h2 : src - d < k ∧ k ≤ src
    · rw [if_pos h2] at e ⊢; exact kk_congr key e
    · rw [if_neg h2] at e ⊢; exact kk_congr key e
variable {o key N}
variable {cmp : Nat → Nat → (Bool → Shared → Prop) → Shared → Prop} {s : Shared}
/-- a run that rises -/
theorem asc_ok {p : Array Nat} (hp : PermOk N p) (hcmp : ∀ i j C, i < N → j < N → C (o.lt (key i) (key j)) s → cmp i j C s) {Q : Nat → Shared → Prop} :
    ∀ f n, 1 ≤ n → n + f ≤ N → Sto o key p n → (∀ m, n ≤ m → m ≤ n + f → Sto o key p m → (m = n + f ∨ o.lt (kk key p m) (kk key p (m - 1)) = true) → Q m s) → (kas_asc p f n).kasWp cmp Q s
  | 0, n, _, _, hs, hQ => hQ n (Nat.le_refl _) (Nat.le_refl _) hs (.inl rfl)
  | f + 1, n, h1, hf, hs, hQ => by
    show cmp (p.getD n 0) (p.getD (n - 1) 0) (fun c s' => (if c = true then KasT.ret n else kas_asc p f (n + 1)).kasWp cmp Q s') s
    refine hcmp _ _ _ (hp.lt (by omega)) (hp.lt (by omega)) ?_
    cases q : o.lt (key (p.getD n 0)) (key (p.getD (n - 1) 0)) with
    | true => rw [if_pos rfl]; exact hQ n (Nat.le_refl _) (by omega) hs (.inr q)
    | false =>
      rw [if_neg (by decide)]
      refine asc_ok hp hcmp f (n + 1) (by omega) (by omega) (fun i j hij hj => ?_) fun m a b c d => hQ m (by omega) (by omega) c (d.imp (by omega) id)
      by_cases e : j = n
      · subst e
        by_cases e' : i = j
        · subst e'; exact o.le_refl _
        · exact o.le_trans (hs i (j - 1) (by omega) (by omega)) q
      · exact hs i j hij (by omega)
/-- a run that falls -/
theorem desc_ok (hcmp : ∀ i j C, i < N → j < N → C (o.lt (key i) (key j)) s → cmp i j C s) {Q : Array Nat × Nat × Nat → Shared → Prop} :
    ∀ f p n q, PermOk N p → 1 ≤ n → q + 1 ≤ n → n + f ≤ N → Nin o key p n → (∀ i, n - (q + 1) ≤ i → i < n → kk key p i = kk key p (n - 1)) →
      (∀ p' m q', PermOk N p' → n ≤ m → m ≤ n + f → q' + 1 ≤ m → Nin o key p' m → (∀ i, m - (q' + 1) ≤ i → i < m → kk key p' i = kk key p' (m - 1)) → Q (p', m, q') s) → (kas_desc f p n q).kasWp cmp Q s
  | 0, p, n, q, hp, h1, hq, hf, hs, he, hQ => hQ p n q hp (Nat.le_refl _) (Nat.le_refl _) hq hs he
  | f + 1, p, n, q, hp, h1, hq, hf, hs, he, hQ => by
    have hsz := hp.size
    show cmp (p.getD n 0) (p.getD (n - 1) 0) (fun c s' => (if c = true then (if q > 0 then kas_desc f (kas_rev p (n - (q + 1)) n) (n + 1) 0 else kas_desc f p (n + 1) 0)
      else KasT.ask (p.getD (n - 1) 0) (p.getD n 0) fun d => if d = true then KasT.ret (p, n, q) else kas_desc f p (n + 1) (q + 1)).kasWp cmp Q s') s
    refine hcmp _ _ _ (hp.lt (by omega)) (hp.lt (by omega)) ?_
    have ext : ∀ p', (∀ i, kk key p' i = kk key p i) → o.le (kk key p n) (kk key p (n - 1)) → Nin o key p' (n + 1) := fun p' hk hle i j hij hj => by
      rw [hk, hk]
      by_cases e : j = n
      · subst e
        by_cases e' : i = j
        · subst e'; exact o.le_refl _
        · exact o.le_trans hle (hs i (j - 1) (by omega) (by omega))
      · exact hs i j hij (by omega)
    cases e : o.lt (key (p.getD n 0)) (key (p.getD (n - 1) 0)) with
    | true =>
      rw [if_pos rfl]
      have hle : o.le (kk key p n) (kk key p (n - 1)) := o.le_of_lt e
      by_cases hq0 : q > 0
      · rw [if_pos hq0]
        have hk : ∀ i, kk key (kas_rev p (n - (q + 1)) n) i = kk key p i := fun i => by
          rw [kk_rev key (by omega)]
          split
          · rename_i h
            rw [he i h.1 h.2, he _ (by omega) (by omega)]
          · rfl
        refine desc_ok hcmp f _ (n + 1) 0 (hp.rev _ _) (by omega) (by omega) (by omega) (ext _ hk hle) (fun i a b => ?_) fun p' m q' a1 a2 a3 a4 a5 a6 => hQ p' m q' a1 (by omega) (by omega) a4 a5 a6
        have : i = n + 1 - 1 := by omega
        rw [this]
      · rw [if_neg hq0]
        refine desc_ok hcmp f _ (n + 1) 0 hp (by omega) (by omega) (by omega) (ext _ (fun _ => rfl) hle) (fun i a b => ?_) fun p' m q' a1 a2 a3 a4 a5 a6 => hQ p' m q' a1 (by omega) (by omega) a4 a5 a6
        have : i = n + 1 - 1 := by omega
        rw [this]
    | false =>
      rw [if_neg (by decide)]
      show cmp (p.getD (n - 1) 0) (p.getD n 0) (fun d s' => (if d = true then KasT.ret (p, n, q) else kas_desc f p (n + 1) (q + 1)).kasWp cmp Q s') s
      refine hcmp _ _ _ (hp.lt (by omega)) (hp.lt (by omega)) ?_
      cases e' : o.lt (key (p.getD (n - 1) 0)) (key (p.getD n 0)) with
      | true => rw [if_pos rfl]; exact hQ p n q hp (Nat.le_refl _) (by omega) hq hs he
      | false =>
        rw [if_neg (by decide)]
        have heq : kk key p n = kk key p (n - 1) := o.tot _ _ e e'
        refine desc_ok hcmp f _ (n + 1) (q + 1) hp (by omega) (by omega) (by omega) (ext _ (fun _ => rfl) (heq ▸ o.le_refl _)) (fun i a b => ?_) fun p' m q' a1 a2 a3 a4 a5 a6 => hQ p' m q' a1 (by omega) (by omega) a4 a5 a6
        show _ = kk key p n
        by_cases hi : i = n
        · subst hi; rfl
        · rw [heq]; exact he i (by omega) (by omega)
end
end Mine
end

section
open PySem PySem.W PyProof.Rows PySem.Calls
set_option autoImplicit false
set_option linter.unusedVariables false
set_option maxRecDepth 100000
namespace Mine
section
variable {K : Type} {o : TO K} {key : Nat → K} {N : Nat}
variable {cmp : Nat → Nat → (Bool → Shared → Prop) → Shared → Prop} {s : Shared}
theorem Nin.rev {p : Array Nat} (hp : PermOk N p) {n : Nat} (hn : n ≤ N) (h : Nin o key p n) : Sto o key (kas_rev p 0 n) n := fun i j hij hj => by
  have := hp.size
  rw [kk_rev key (by omega), kk_rev key (by omega), if_pos ⟨by omega, by omega⟩, if_pos ⟨by omega, by omega⟩]
  exact h _ _ (by omega) (by omega)
theorem tail3_ok {p : Array Nat} {n : Nat} (hp : PermOk N p) (hcmp : ∀ i j C, i < N → j < N → C (o.lt (key i) (key j)) s → cmp i j C s) {Q : Nat × Array Nat → Shared → Prop} (h1 : 1 ≤ n) (hn : n ≤ N) (h : Nin o key p n)
    (hQ : ∀ m p', PermOk N p' → 1 ≤ m → m ≤ N → Sto o key p' m → Q (m, p') s) : (kas_tail3 n N p).kasWp cmp Q s := by
  unfold kas_tail3
  rw [KasT.kasWp_bind]
  exact asc_ok (hp.rev 0 n) hcmp (N - n) n h1 (by omega) (h.rev hp hn) fun m a b c _ => hQ m _ (hp.rev 0 n) (by omega) (by omega) c
theorem descPart_ok {p : Array Nat} {n : Nat} (hp : PermOk N p) (hcmp : ∀ i j C, i < N → j < N → C (o.lt (key i) (key j)) s → cmp i j C s) {Q : Nat × Array Nat → Shared → Prop} (h1 : 1 ≤ n) (hn : n + 1 ≤ N) (h : Nin o key p (n + 1))
    (hQ : ∀ m p', PermOk N p' → 1 ≤ m → m ≤ N → Sto o key p' m → Q (m, p') s) : (kas_descPart n N p).kasWp cmp Q s := by
  unfold kas_descPart
  rw [KasT.kasWp_bind]
  refine desc_ok hcmp (N - (n + 1)) p (n + 1) 0 hp (by omega) (by omega) (by omega) h (fun i a b => ?_) fun p' m q a1 a2 a3 a4 a5 a6 => ?_
  · have : i = n + 1 - 1 := by omega
    rw [this]
  · show (if q > 0 then kas_tail3 m N (kas_rev p' (m - (q + 1)) m) else kas_tail3 m N p').kasWp cmp Q s
    by_cases hq : q > 0
    · rw [if_pos hq]
      have hsz := a1.size
      have hk : ∀ i, kk key (kas_rev p' (m - (q + 1)) m) i = kk key p' i := fun i => by
        rw [kk_rev key (by omega)]
        split
        · rename_i h
          rw [a6 i h.1 h.2, a6 _ (by omega) (by omega)]
        · rfl
      exact tail3_ok (a1.rev _ _) hcmp (by omega) (by omega) (fun i j hij hj => by rw [hk, hk]; exact a5 i j hij hj) hQ
    · rw [if_neg hq]
      exact tail3_ok a1 hcmp (by omega) (by omega) a5 hQ
theorem count_ok {p : Array Nat} (hp : PermOk N p) (hN : 1 ≤ N) (hcmp : ∀ i j C, i < N → j < N → C (o.lt (key i) (key j)) s → cmp i j C s) {Q : Nat × Array Nat → Shared → Prop}
    (hQ : ∀ m p', PermOk N p' → 1 ≤ m → m ≤ N → Sto o key p' m → Q (m, p') s) : (kas_count N p).kasWp cmp Q s := by
  unfold kas_count
  rw [KasT.kasWp_bind]
  refine asc_ok hp hcmp (N - 1) 1 (Nat.le_refl _) (by omega) (fun i j hij hj => ?_) fun n a b hs hend => ?_
  · have : i = j := by omega
    rw [this]; exact o.le_refl _
  · show (if (n == N) = true then KasT.ret (n, p) else if n > 1 then KasT.ask (p.getD 0 0) (p.getD (n - 1) 0) fun c => if c = true then KasT.ret (n, p) else kas_descPart n N (kas_rev p 0 n) else kas_descPart n N p).kasWp cmp Q s
    by_cases e : (n == N) = true
    · rw [if_pos e]; exact hQ n p hp a (by omega) hs
    · rw [if_neg e]
      have hne : n ≠ N := fun q => e (by rw [q]; exact beq_self_eq_true _)
      have hlt : o.lt (kk key p n) (kk key p (n - 1)) = true := hend.resolve_left (by omega)
      have hsz := hp.size
      by_cases e2 : n > 1
      · rw [if_pos e2]
        show cmp (p.getD 0 0) (p.getD (n - 1) 0) (fun c s' => (if c = true then KasT.ret (n, p) else kas_descPart n N (kas_rev p 0 n)).kasWp cmp Q s') s
        refine hcmp _ _ _ (hp.lt (by omega)) (hp.lt (by omega)) ?_
        cases q : o.lt (key (p.getD 0 0)) (key (p.getD (n - 1) 0)) with
        | true => rw [if_pos rfl]; exact hQ n p hp a (by omega) hs
        | false =>
          rw [if_neg (by decide)]
          have h0 : kk key p 0 = kk key p (n - 1) := o.tot _ _ q (hs 0 (n - 1) (by omega) (by omega))
          have hall : ∀ i, i < n → kk key p i = kk key p (n - 1) := fun i hi =>
            o.le_antisymm (hs i (n - 1) (by omega) (by omega)) (h0 ▸ hs 0 i (by omega) hi)
          have hk : ∀ i, kk key (kas_rev p 0 n) i = kk key p i := fun i => by
            rw [kk_rev key (by omega)]
            split
            · rename_i h
              rw [hall i h.2, hall _ (by omega)]
            · rfl
          refine descPart_ok (hp.rev 0 n) hcmp a (by omega) (fun i j hij hj => ?_) hQ
          rw [hk, hk]
          by_cases ej : j = n
          · subst ej
            by_cases ei : i = j
            · subst ei; exact o.le_refl _
            · rw [hall i (by omega)]; exact o.le_of_lt hlt
          · rw [hall i (by omega), hall j (by omega)]; exact o.le_refl _
      · rw [if_neg e2]
        have hn1 : n = 1 := by omega
        subst hn1
        refine descPart_ok hp hcmp (Nat.le_refl _) (by omega) (fun i j hij hj => ?_) hQ
        by_cases ej : i = j
        · subst ej; exact o.le_refl _
        · have : i = 0 ∧ j = 1 := by omega
          rw [this.1, this.2]; exact o.le_of_lt hlt
/-- the place of an item in a sorted run -/
theorem place_ok {p : Array Nat} (hp : PermOk N p) (hcmp : ∀ i j C, i < N → j < N → C (o.lt (key i) (key j)) s → cmp i j C s) {k : Nat} (hk : k < N) (hs : Sto o key p k) {Q : Nat → Shared → Prop} :
    ∀ f l r, l ≤ r → r ≤ k → r - l ≤ f → (∀ i, i < l → o.le (kk key p i) (kk key p k)) → (∀ i, r ≤ i → i < k → o.lt (kk key p k) (kk key p i) = true) →
      (∀ l', l' ≤ k → (∀ i, i < l' → o.le (kk key p i) (kk key p k)) → (∀ i, l' ≤ i → i < k → o.lt (kk key p k) (kk key p i) = true) → Q l' s) → (kas_place p k f l r).kasWp cmp Q s
  | 0, l, r, hlr, hrk, hf, h1, h2, hQ => hQ l (by omega) h1 fun i a b => h2 i (by omega) b
  | f + 1, l, r, hlr, hrk, hf, h1, h2, hQ => by
    show (if l ≥ r then KasT.ret l else KasT.ask (p.getD k 0) (p.getD ((l + r) / 2) 0) fun c => if c = true then kas_place p k f l ((l + r) / 2) else kas_place p k f ((l + r) / 2 + 1) r).kasWp cmp Q s
    by_cases e : l ≥ r
    · rw [if_pos e]; exact hQ l (by omega) h1 fun i a b => h2 i (by omega) b
    · rw [if_neg e]
      show cmp (p.getD k 0) (p.getD ((l + r) / 2) 0) (fun c s' => (if c = true then kas_place p k f l ((l + r) / 2) else kas_place p k f ((l + r) / 2 + 1) r).kasWp cmp Q s') s
      refine hcmp _ _ _ (hp.lt hk) (hp.lt (by omega)) ?_
      cases q : o.lt (key (p.getD k 0)) (key (p.getD ((l + r) / 2) 0)) with
      | true =>
        rw [if_pos rfl]
        refine place_ok hp hcmp hk hs f l ((l + r) / 2) (by omega) (by omega) (by omega) h1 (fun i a b => ?_) hQ
        by_cases hi : r ≤ i
        · exact h2 i hi b
        · have hle := hs ((l + r) / 2) i a b
          cases z : o.lt (kk key p k) (kk key p i) with
          | true => rfl
          | false =>
            have := o.le_trans hle z
            unfold TO.le at this
            have q' : o.lt (kk key p k) (kk key p ((l + r) / 2)) = true := q
            rw [q'] at this; cases this
      | false =>
        rw [if_neg (by decide)]
        refine place_ok hp hcmp hk hs f ((l + r) / 2 + 1) r (by omega) hrk (by omega) (fun i a => ?_) h2 hQ
        exact o.le_trans (hs i ((l + r) / 2) (by omega) (by omega)) q
theorem bin_ok (hcmp : ∀ i j C, i < N → j < N → C (o.lt (key i) (key j)) s → cmp i j C s) {Q : Array Nat → Shared → Prop} (hQ : ∀ p, PermOk N p → Sto o key p N → Q p s) :
    ∀ f p k, PermOk N p → k + f = N → Sto o key p k → (kas_bin f p k).kasWp cmp Q s
  | 0, p, k, hp, hf, hs => hQ p hp (by have : k = N := by omega
                                       subst this; exact hs)
  | f + 1, p, k, hp, hf, hs => by
    show ((kas_place p k k 0 k).bind fun l => kas_bin f (bubble p k (k - l)) (k + 1)).kasWp cmp Q s
    rw [KasT.kasWp_bind]
    have hsz := hp.size
    refine place_ok hp hcmp (by omega) hs k 0 k (Nat.zero_le _) (Nat.le_refl _) (by omega) (fun i h => by omega) (fun i a b => by omega) fun l hl h1 h2 => ?_
    refine bin_ok hcmp hQ f _ (k + 1) (hp.bub _ _) (by omega) fun i j hij hj => ?_
    rw [kk_bub key (by omega) (by omega), kk_bub key (by omega) (by omega)]
    have ekl : k - (k - l) = l := by omega
    rw [ekl]
    by_cases ei : i = l
    · rw [if_pos ei]
      by_cases ej : j = l
      · rw [if_pos ej]; exact o.le_refl _
      · rw [if_neg ej, if_pos ⟨by omega, by omega⟩]
        exact o.le_of_lt (h2 (j - 1) (by omega) (by omega))
    · rw [if_neg ei]
      by_cases ei2 : l < i ∧ i ≤ k
      · rw [if_pos ei2, if_neg (by omega), if_pos ⟨by omega, by omega⟩]
        exact hs (i - 1) (j - 1) (by omega) (by omega)
      · rw [if_neg ei2]
        have hil : i < l := by omega
        by_cases ej : j = l
        · rw [if_pos ej]; exact h1 i hil
        · rw [if_neg ej]
          by_cases ej2 : l < j ∧ j ≤ k
          · rw [if_pos ej2]; exact hs i (j - 1) (by omega) (by omega)
          · rw [if_neg ej2]; exact hs i j hij (by omega)
/-- the sort sorts -/
theorem kas_sort_ok (hN : 1 ≤ N) (hcmp : ∀ i j C, i < N → j < N → C (o.lt (key i) (key j)) s → cmp i j C s) {Q : Array Nat → Shared → Prop} (hQ : ∀ p, PermOk N p → Sto o key p N → Q p s) : (kas_sort N).kasWp cmp Q s := by
  unfold kas_sort
  rw [KasT.kasWp_bind]
  refine count_ok ⟨by simp⟩ hN hcmp fun m p hp h1 h2 hs => ?_
  show (if m < N then kas_bin (N - max m 1) p (max m 1) else KasT.ret p).kasWp cmp Q s
  have hm : max m 1 = m := by omega
  rw [hm]
  by_cases e : m < N
  · rw [if_pos e]; exact bin_ok hcmp hQ _ p m hp (by omega) hs
  · rw [if_neg e]
    have : m = N := by omega
    subst this; exact hQ p hp hs
end
end Mine
end

section
open PySem PySem.W PyProof.Rows PySem.Calls
set_option autoImplicit false
set_option linter.unusedVariables false
set_option maxRecDepth 100000
namespace Mine
section
variable {prog : Program} {w : Wd} {A : Around}
theorem oneLt_rows {H : Addr → Prop} {xs ys : List Str} {v u : Value} {s : Shared} {Q : Bool → Shared → Prop} {E : Value → Shared → Prop} (hu : A.units < cLine) (r₁ : Rep s.heap H v (dtRow xs)) (r₂ : Rep s.heap H u (dtRow ys)) (h : Q (rowLt xs ys) s) :
    wpAny (model prog w.wo) A (oneLt' true v u) Q E s := by
  cases r₁ with
  | @list l vs _ hl _ r₁ => cases r₂ with
    | @list b us _ hb _ r₂ =>
      have hx : vs.toArray.size = xs.length := by rw [List.size_toArray, r₁.length, List.length_map]
      have hy : us.toArray.size = ys.length := by rw [List.size_toArray, r₂.length, List.length_map]
      obtain ⟨⟨cls, dd, data, sl⟩, ho, hc, n, hd⟩ := id hl
      obtain ⟨⟨cls2, dd2, data2, sl2⟩, ho2, hc2, n2, hd2⟩ := id hb
      simp only at hc hd hc2 hd2
      subst hc hd hc2 hd2
      have hT : s.TypeIs (.ref l) "list" := ⟨_, ho, rfl⟩
      rw [oneLt'_eq]
      simp only [if_true]
      refine wpAny_bind (wpAny_cRoomFor hu ?_)
      refine wpAny_bind (wpAny_callSpecialIfBound?_slot hT F.slot_list_lt (call_meets F.slot_list_lt hT F.entry_list_lt (F.args_list_lt_2 _ _) (list_lt l b vs.toArray us.toArray n n2 dd dd2 sl sl2 xs ys hx hy (r₁.strAt hx) (r₂.strAt hy)) ⟨ho, ho2, ?_⟩))
      exact wpAny_truthy_bool h
/-- rows of texts, in order -/
def rowTO : TO (List Str) where
  lt := rowLt
  irr := fun a => by
    cases q : rowLt a a with
    | false => rfl
    | true => exact (rowLt_asymm a a q q).elim
  tr := fun a => by
    induction a with
    | nil =>
      intro b c h h'
      cases c with
      | nil => cases b with
        | nil => exact h
        | cons => cases h'
      | cons => rfl
    | cons x xs ih =>
      intro b c h h'
      cases b with
      | nil => cases h
      | cons y ys =>
        cases c with
        | nil => cases h'
        | cons z zs =>
          rw [rowLt] at h h' ⊢
          by_cases e : x = y
          · subst e
            rw [if_pos rfl] at h
            by_cases e' : x = z
            · subst e'; rw [if_pos rfl] at h' ⊢; exact ih ys zs h h'
            · rw [if_neg e'] at h' ⊢; exact h'
          · rw [if_neg e] at h
            by_cases e' : y = z
            · subst e'; rw [if_neg e]; exact h
            · rw [if_neg e'] at h'
              have h1 : x.cps.toList < y.cps.toList := of_decide_eq_true h
              have h2 : y.cps.toList < z.cps.toList := of_decide_eq_true h'
              have h3 := List.lt_trans h1 h2
              have hne : x ≠ z := fun q => by subst q; exact List.lt_irrefl _ h3
              rw [if_neg hne]
              exact decide_eq_true h3
  tot := rowLt_total
/-- texts, in order -/
def strTO : TO Str where
  lt := strLt
  irr := fun a => decide_eq_false (List.lt_irrefl _)
  tr := fun a b c h h' => decide_eq_true (List.lt_trans (of_decide_eq_true h) (of_decide_eq_true h'))
  tot := fun a b h h' => by
    have h1 : ¬ a.cps.toList < b.cps.toList := of_decide_eq_false h
    have h2 : ¬ b.cps.toList < a.cps.toList := of_decide_eq_false h'
    have := List.le_antisymm (List.not_lt.mp h2) (List.not_lt.mp h1)
    cases a; cases b; simp only [Str.mk.injEq]; exact Array.toList_inj.mp this
/-- what a sort leaves, in data: the items in the order p -/
def Picked {K : Type} (o : TO K) (xs ys : List K) : Prop := ys.Perm xs ∧ ys.Pairwise o.le
theorem picked_of {K : Type} {o : TO K} {xs : List K} {d : K} {p : Array Nat} (hp : PermOk xs.length p) (hs : Sto o (fun i => xs.getD i d) p xs.length) : Picked o xs (p.toList.map fun i => xs.getD i d) := by
  have hsz := hp.size
  constructor
  · have := hp.perm.map fun i => xs.getD i d
    refine this.trans (List.Perm.of_eq ?_)
    apply List.ext_getElem
    · simp
    · intro i h1 h2
      simp at h1 h2
      simp [h2]
  · rw [List.pairwise_iff_getElem]
    intro i j hi hj hij
    have hi' : i < p.size := by simpa using hi
    have hj' : j < p.size := by simpa using hj
    have := hs i j (by omega) (by omega)
    unfold kk at this
    have ei : p.getD i 0 = p[i] := by simp [Array.getD, hi']
    have ej : p.getD j 0 = p[j] := by simp [Array.getD, hj']
    rw [ei, ej] at this
    simpa using this
theorem Reps.getD {h : Heap} {H : Addr → Prop} {vs : List Value} {ds : List Dt} (r : Reps h H vs ds) {i : Nat} (hi : i < vs.length) (d : Dt) : Rep h H (vs.getD i .none) (ds.getD i d) := by
  have hl := r.length
  have e : ds[i]? = some (ds.getD i d) := by rw [List.getD_eq_getElem?_getD, List.getElem?_eq_getElem (by omega)]; rfl
  obtain ⟨v, hv, hr⟩ := r.get e
  rw [List.getD_eq_getElem?_getD, hv]
  exact hr
theorem Reps.picked {h : Heap} {H : Addr → Prop} {vs : List Value} {ds : List Dt} (r : Reps h H vs ds) (d : Dt) : ∀ (l : List Nat), (∀ i ∈ l, i < vs.length) → Reps h H (l.map fun i => vs.getD i .none) (l.map fun i => ds.getD i d)
  | [], _ => .nil
  | i :: l, hl => .cons (r.getD (hl i (.head _)) d) (r.picked d l fun j hj => hl j (.tail _ hj))
end
end Mine
end

section
open PySem PySem.W PyProof.Rows PySem.Calls
set_option autoImplicit false
set_option linter.unusedVariables false
set_option maxRecDepth 100000
namespace Mine
section
variable {prog : Program} {w : Wd} {A : Around}
abbrev KeepBut (a : Addr) (h h' : Heap) : Prop := ∀ b o, b ≠ a → h.get? b = some o → h'.get? b = some o
theorem picked_eq {K : Type} {o : TO K} : ∀ {xs ys : List K}, xs.Perm ys → xs.Pairwise o.le → ys.Pairwise o.le → xs = ys
  | [], ys, h, _, _ => by simpa using h.symm
  | x :: xs, [], h, _, _ => by simp at h
  | x :: xs, y :: ys, h, hx, hy => by
    have hxy : x = y := by
      have h1 : x ∈ y :: ys := h.mem_iff.mp (.head _)
      have h2 : y ∈ x :: xs := h.mem_iff.mpr (.head _)
      rcases List.mem_cons.mp h1 with e | e
      · exact e
      · rcases List.mem_cons.mp h2 with e' | e'
        · exact e'.symm
        · exact o.le_antisymm ((List.pairwise_cons.mp hx).1 y e') ((List.pairwise_cons.mp hy).1 x e)
    subst hxy
    rw [picked_eq (List.perm_cons x |>.mp h) (List.pairwise_cons.mp hx).2 (List.pairwise_cons.mp hy).2]
theorem sort_heap {a : Addr} {n : Nat} {vs : List Value} {T : Value} {Fact : Array Nat → Prop} {s : Shared} {P : PySem.Fin → Shared → Prop} (ho : s.heap.get? a = some (seqObj "list" vs.toArray n)) (h2 : 2 ≤ vs.length) (h64 : vs.length < 64)
    (hT : ∀ v ∈ vs, ∀ h', KeepBut a s.heap h' → Looks (model prog w.wo) h' (typeOf v) T) (hT1 : (T != Value.type "tuple") = true) (hT2 : (T == T) = true)
    (hask : ∀ h', KeepBut a s.heap h' → (kas_sort vs.length).kasWp (kas_ask prog w.wo A oneType' vs) (fun p s'' => s'' = { s with heap := h' } ∧ Fact p) { s with heap := h' })
    (h : ∀ p h' c, Fact p → KeepBut a s.heap h' → h'.get? a = some (seqObj "list" (p.toList.map fun i => vs.getD i Value.none).toArray c) → P (.done (.ret .none)) { s with heap := h' }) :
    wpAny (model prog w.wo) A (Builtin.«list.sort» ⟨[.ref a], []⟩) P No s := by
  have ha : a < s.heap.objs.size := Heap.lt_size ho
  have s1 := Heap.SameBut.update s.heap a (Obj.mapSeq fun _ => (#[] : Array Value))
  obtain ⟨e1, ho1⟩ : ∃ e1, (s.heap.update a (Obj.mapSeq fun _ => (#[] : Array Value))).get? a = some (seqObj "list" #[] e1) := ⟨_, get?_update_seq ho fun _ => #[]⟩
  rw [list_sort_plain]
  refine wpAny_bind (listItems_at ho rfl ?_)
  refine wpAny_bind (listUpdate_at ho rfl ?_ (by rw [List.size_toArray, sizeLine_eq]; omega) (Nat.zero_le _))
  refine wpAny_bind (seqEpoch_at ho1 rfl ?_)
  refine wpAny_bind (wpAny_newTuple ?_ (by show vs.length ≤ _; rw [sizeLine_eq]; omega))
  refine wpAny_bind (wpAny_newList ?_ (Nat.zero_le _))
  refine wpAny_holding ?_
  show wpAny (model prog w.wo) A _ P No { s with heap := ((s.heap.update a (Obj.mapSeq fun _ => (#[] : Array Value))).push (seqObj "tuple" vs.toArray 0)).push (seqObj "list" #[] 0) }
  have ho3 : (((s.heap.update a (Obj.mapSeq fun _ => (#[] : Array Value))).push (seqObj "tuple" vs.toArray 0)).push (seqObj "list" #[] 0)).get? a = some (seqObj "list" #[] e1) := Keep.push _ _ _ _ (Keep.push _ _ _ _ ho1)
  have k3 : KeepBut a s.heap (((s.heap.update a (Obj.mapSeq fun _ => (#[] : Array Value))).push (seqObj "tuple" vs.toArray 0)).push (seqObj "list" #[] 0)) := fun b o hb e => Keep.push _ _ _ _ (Keep.push _ _ _ _ ((s1.2 b hb).trans e))
  generalize ((s.heap.update a (Obj.mapSeq fun _ => (#[] : Array Value))).push (seqObj "tuple" vs.toArray 0)).push (seqObj "list" #[] 0) = h3 at ho3 k3 ⊢
  dsimp only
  have hn2 : ¬ vs.toArray.size < 2 := by rw [List.size_toArray]; omega
  rw [if_neg hn2, if_neg hn2]
  refine wpAny_bind (kas_kind (s := { s with heap := h3 }) h2 (fun v hv => hT v hv h3 k3) hT1 hT2 ?_)
  refine wpAny_bind (wpAny_mono (kat_run (E := No) (Q := fun st' s' => ∃ p : Array Nat, Fact p ∧ p.size = vs.length ∧ arrOf st' = p.map (kas_item (vs.toArray.zip vs.toArray)) ∧ failedOf st' = none ∧ s' = { s with heap := h3 })
    rfl h2 h64 (fun p' st' s' a1 a2 a3 a4 => ⟨p', a4.2, a1, a2, a3, a4.1⟩) (hask h3 k3)) ?_ fun _ _ e => e.elim)
  rintro ⟨⟨⟩, st'⟩ s' ⟨p, hF, hp, har, hf, rfl⟩
  dsimp only
  have hout := kat_snds rfl har
  have hsz : (List.toArray (p.toList.map fun i => vs.getD i Value.none)).size = vs.length := by rw [List.size_toArray, List.length_map, Array.length_toList, hp]
  rw [hout]
  have s2 := Heap.SameBut.update h3 a (Obj.mapSeq fun _ => List.toArray (p.toList.map fun i => vs.getD i Value.none))
  obtain ⟨c2, hc2⟩ : ∃ c2, (h3.update a (Obj.mapSeq fun _ => List.toArray (p.toList.map fun i => vs.getD i Value.none))).get? a = some (seqObj "list" (List.toArray (p.toList.map fun i => vs.getD i Value.none)) c2) := ⟨_, get?_update_seq ho3 fun _ => List.toArray (p.toList.map fun i => vs.getD i Value.none)⟩
  refine wpAny_bind (seqEpoch_at (s := { s with heap := h3 }) ho3 rfl ?_)
  refine wpAny_bind (listUpdate_at (s := { s with heap := h3 }) ho3 rfl ?_ (Nat.zero_le _) (Nat.le_trans (Nat.le_of_eq hsz) (by rw [sizeLine_eq]; omega)))
  rw [hf]
  simp only [bne_self_eq_false, Bool.false_eq_true, if_false]
  exact wpAny_pure (h p _ c2 hF (fun b o hb e => (s2.2 b hb).trans (k3 b o hb e)) hc2)
end
end Mine
end

section
open PySem PySem.W PyProof.Rows PySem.Calls
set_option autoImplicit false
set_option linter.unusedVariables false
set_option maxRecDepth 100000
namespace Mine
section
variable {prog : Program} {w : Wd} {A : Around}
theorem Reps.rows {h : Heap} {H : Addr → Prop} {vs : List Value} {xs : List (List Str)} (r : Reps h H vs (xs.map dtRow)) {v : Value} (hv : v ∈ vs) : ∃ a items, v = .ref a ∧ h.IsList a items := by
  obtain ⟨i, hi, rfl⟩ := List.mem_iff_getElem.mp hv
  obtain ⟨d, hd, hr⟩ := r.getV (List.getElem?_eq_getElem hi)
  rw [List.getElem?_map, Option.map_eq_some_iff] at hd
  obtain ⟨x, _, rfl⟩ := hd
  generalize vs[i] = v at hr
  cases hr with
  | list l _ _ => exact ⟨_, _, rfl, l⟩
/-- the heap behind the copy that sorted() makes -/
def copyHeap (h : Heap) (vs : List Value) : Heap := ((h.push (seqObj "list" #[] 0)).update h.objs.size (Obj.mapSeq (· ++ vs.toArray))).push (seqObj "list" vs.toArray 0)
theorem copyHeap_at (h : Heap) (vs : List Value) : (copyHeap h vs).get? (h.objs.size + 1) = some (seqObj "list" vs.toArray 0) := by
  have hsz : ((h.push (seqObj "list" #[] 0)).update h.objs.size (Obj.mapSeq (· ++ vs.toArray))).objs.size = h.objs.size + 1 := by rw [Heap.size_update, size_push']
  unfold copyHeap
  rw [← hsz]; exact Heap.get?_push_size _ rfl
theorem copyHeap_keep (h : Heap) (vs : List Value) : Keep h (copyHeap h vs) := fun b o q => by
  have hsz : ((h.push (seqObj "list" #[] 0)).update h.objs.size (Obj.mapSeq (· ++ vs.toArray))).objs.size = h.objs.size + 1 := by rw [Heap.size_update, size_push']
  have hlt : b < h.objs.size := Heap.lt_size q
  unfold copyHeap
  rw [Heap.get?_push_ne _ _ _ (by rw [hsz]; exact Nat.ne_of_lt (Nat.lt_succ_of_lt hlt)), Heap.get?_update_ne _ _ _ _ (Nat.ne_of_lt hlt), Heap.get?_push_ne _ _ _ (Nat.ne_of_lt hlt)]
  exact q
theorem Op.sorted_rows {xs ys : List (List Str)} (h2 : 2 ≤ xs.length) (h64 : xs.length < 64) (hp : Picked rowTO xs ys) (hR : Room A 1) : OpN prog w A (fun vs => call (.builtin "sorted") vs) [.list (xs.map dtRow)] (.list (ys.map dtRow)) := .one fun H s v G r => by
  cases r with
  | @list l vs _ hl nH r =>
    have hlen : vs.length = xs.length := by rw [r.length, List.length_map]
    refine Calls.call_function_entry kind_sorted plain_sorted entry_sorted (args_sorted1 _) ?_
    unfold Builtin.«sorted»
    refine wpAny_bind (m := checkCount "sorted" 1 1 _) (wpAny_pure ?_)
    refine wpAny_bind (collect_list hl ?_ (by rw [sizeLine_eq]; omega))
    refine wpAny_bind (wpAny_newList ?_ (by rw [sizeLine_eq]; omega))
    have hsz : ((s.heap.push (seqObj "list" #[] 0)).update s.heap.objs.size (Obj.mapSeq (· ++ vs.toArray))).objs.size = s.heap.objs.size + 1 := by rw [Heap.size_update, size_push']
    show wpAny _ _ _ _ _ { s with heap := copyHeap s.heap vs }
    rw [hsz]
    have ho := copyHeap_at s.heap vs
    have k := copyHeap_keep s.heap vs
    have r' := r.keep k
    have hn : ∀ b o, s.heap.get? b = some o → b ≠ s.heap.objs.size + 1 := fun b o e => Nat.ne_of_lt (Nat.lt_succ_of_lt (Heap.lt_size e))
    generalize copyHeap s.heap vs = hc at ho k r' ⊢
    have kb : ∀ h', KeepBut (s.heap.objs.size + 1) hc h' → Keep s.heap h' := fun h' q b o e => q b o (hn b o e) (k b o e)
    refine wpAny_bind (wpAny_holding (wpAny_call_entry slot_list_sort ⟨_, ho, rfl⟩ entry_list_sort ?_ (args_list_sort _)))
    refine sort_heap (s := { s with heap := hc }) (T := .type "list") (Fact := fun p => PermOk xs.length p ∧ Sto rowTO (fun i => xs.getD i []) p xs.length) ho (by omega) (by omega) (fun v hv h' kk => ?_) (by decide) (by decide) (fun h' kk => ?_) fun p h' c hF kk hl' => ?_
    · obtain ⟨a, items, rfl, hi⟩ := r.rows hv
      obtain ⟨o, ho', hc', _⟩ := hi
      exact hc' ▸ (Looks.ld (kb h' kk a o ho')).andThen .now
    · rw [hlen]
      refine kas_sort_ok (key := fun i => xs.getD i []) (o := rowTO) (by omega) (fun i j C hi hj hC => ?_) fun p a b => ⟨rfl, a, b⟩
      unfold kas_ask
      rw [keyLt'_oneType]
      have R := r.keep (kb h' kk)
      have e : ∀ i, i < xs.length → (xs.map dtRow).getD i .none = dtRow (xs.getD i []) := fun i hi => by simp [hi]
      have ri := R.getD (i := i) (by omega) .none
      have rj := R.getD (i := j) (by omega) .none
      rw [e i hi] at ri
      rw [e j hj] at rj
      exact oneLt_rows (by have := hR.units; show A.units + 1 + 1 < _; omega) ri rj hC
    · obtain ⟨hP, hS⟩ := hF
      refine ⟨_, rfl, wpAny_pure ⟨_, rfl, ?_⟩⟩
      have K := kb h' kk
      refine ⟨⟨K, rfl, rfl⟩, ?_⟩
      have hz : (p.toList.map fun i => xs.getD i []) = ys := picked_eq ((picked_of hP hS).1.trans hp.1.symm) (picked_of hP hS).2 hp.2
      rw [← hz]
      have hrng : ∀ i ∈ p.toList, i < vs.length := fun i hi => by rw [hlen]; exact List.mem_range.mp (hP.perm.mem_iff.mp hi)
      refine .list (vs := p.toList.map fun i => vs.getD i Value.none) ⟨_, hl', rfl, c, rfl⟩ (G.notAt (get_none_of_ge (Nat.le_succ _))) ?_
      have := (r.keep K).picked .none p.toList hrng
      have e : (p.toList.map fun i => (xs.map dtRow).getD i .none) = (p.toList.map fun i => xs.getD i []).map dtRow := by
        rw [List.map_map]
        refine List.map_congr_left fun i hi => ?_
        have := hrng i hi
        have hi' : i < xs.length := by omega
        simp [hi']
      rw [e] at this
      exact this
end
end Mine
end

section
open PySem PySem.W PyProof.Rows PySem.Calls
set_option autoImplicit false
set_option linter.unusedVariables false
set_option maxRecDepth 100000
namespace Mine
section
variable {prog : Program} {w : Wd} {A : Around}
theorem StrsOf.at {acc : List Value} {xs : List Str} (h : StrsOf acc xs) {i : Nat} (hi : i < xs.length) : ∃ t, acc.getD i .none = .str (xs.getD i "") t := by
  obtain ⟨t, e⟩ := h.2 i _ (List.getElem?_eq_getElem hi)
  refine ⟨t, ?_⟩
  rw [List.getD_eq_getElem?_getD, e, List.getD_eq_getElem?_getD, List.getElem?_eq_getElem hi]
  rfl
theorem StrsOf.mem {acc : List Value} {xs : List Str} (h : StrsOf acc xs) {v : Value} (hv : v ∈ acc) : ∃ x t, v = .str x t := by
  obtain ⟨i, hi, rfl⟩ := List.mem_iff_getElem.mp hv
  obtain ⟨t, e⟩ := h.2 i _ (List.getElem?_eq_getElem (h.1 ▸ hi))
  rw [List.getElem?_eq_getElem hi] at e
  exact ⟨_, t, Option.some.inj e⟩
theorem sort_keyed {a f : Addr} {n : Nat} {vs : List Value} {xs : List Str} {s : Shared} {h₀ : Heap} {P : PySem.Fin → Shared → Prop} (ho : s.heap.get? a = some (seqObj "list" vs.toArray n)) (hv : StrsOf vs xs) (h2 : 2 ≤ xs.length) (h64 : xs.length < 64)
    (G : Gr w h₀) (k₀ : Keep h₀ s.heap) (ha0 : h₀.get? a = none) (hf : ∀ x ∈ xs, OpN prog w A (fun vs => call (.ref f) vs) [.str x] (.str x))
    (h : ∀ p s' c, PermOk xs.length p → Sto strTO (fun i => xs.getD i "") p xs.length → Keep h₀ s'.heap → s'.gens = s.gens → s'.os = s.os → s'.heap.get? a = some (seqObj "list" (p.toList.map fun i => vs.getD i Value.none).toArray c) → P (.done (.ret .none)) s') :
    wpAny (model prog w.wo) A (ksk_tree a (.ref f) false) P No s := by
  have hlen : vs.length = xs.length := hv.1
  have s1 := Heap.SameBut.update s.heap a (Obj.mapSeq fun _ => (#[] : Array Value))
  obtain ⟨e1, ho1⟩ : ∃ e1, (s.heap.update a (Obj.mapSeq fun _ => (#[] : Array Value))).get? a = some (seqObj "list" #[] e1) := ⟨_, get?_update_seq ho fun _ => #[]⟩
  unfold ksk_tree
  refine wpAny_bind (listItems_at ho rfl ?_)
  refine wpAny_bind (listUpdate_at ho rfl ?_ (by rw [List.size_toArray, sizeLine_eq]; omega) (Nat.zero_le _))
  refine wpAny_bind (seqEpoch_at ho1 rfl ?_)
  refine wpAny_bind (wpAny_newTuple ?_ (by show vs.length ≤ _; rw [sizeLine_eq]; omega))
  refine wpAny_bind (wpAny_newList ?_ (Nat.zero_le _))
  refine wpAny_holding ?_
  have ha : a < s.heap.objs.size := Heap.lt_size ho
  have hz2 : ((s.heap.update a (Obj.mapSeq fun _ => (#[] : Array Value))).push (seqObj "tuple" vs.toArray 0)).objs.size = s.heap.objs.size + 1 := by rw [size_push', Heap.size_update]
  show wpAny (model prog w.wo) A _ P No { s with heap := ((s.heap.update a (Obj.mapSeq fun _ => (#[] : Array Value))).push (seqObj "tuple" vs.toArray 0)).push (seqObj "list" #[] 0) }
  have hkS : (((s.heap.update a (Obj.mapSeq fun _ => (#[] : Array Value))).push (seqObj "tuple" vs.toArray 0)).push (seqObj "list" #[] 0)).get? ((s.heap.update a (Obj.mapSeq fun _ => (#[] : Array Value))).push (seqObj "tuple" vs.toArray 0)).objs.size = some (seqObj "list" #[] 0) := Heap.get?_push_size _ rfl
  have ho3 : (((s.heap.update a (Obj.mapSeq fun _ => (#[] : Array Value))).push (seqObj "tuple" vs.toArray 0)).push (seqObj "list" #[] 0)).get? a = some (seqObj "list" #[] e1) := Keep.push _ _ _ _ (Keep.push _ _ _ _ ho1)
  have k3 : Keep h₀ (((s.heap.update a (Obj.mapSeq fun _ => (#[] : Array Value))).push (seqObj "tuple" vs.toArray 0)).push (seqObj "list" #[] 0)) := fun b o e => Keep.push _ _ _ _ (Keep.push _ _ _ _ ((s1.2 b (fun q => by rw [q, ha0] at e; cases e)).trans (k₀ b o e)))
  rw [hz2] at hkS ⊢
  have hak : a ≠ s.heap.objs.size + 1 := Nat.ne_of_lt (Nat.lt_succ_of_lt ha)
  have hk0 : h₀.get? (s.heap.objs.size + 1) = none := keep_none k₀ (get_none_of_ge (Nat.le_succ _))
  generalize s.heap.objs.size + 1 = kS at hkS hak hk0 ⊢
  generalize ((s.heap.update a (Obj.mapSeq fun _ => (#[] : Array Value))).push (seqObj "tuple" vs.toArray 0)).push (seqObj "list" #[] 0) = h3 at hkS ho3 k3 ⊢
  unfold ksk_rest
  refine wpAny_bind (wpAny_rule ?_)
  rw [List.forIn_toArray]
  refine wpAny_bind (ksk_fold (fun i s' => Keep h₀ s'.heap ∧ s'.gens = s.gens ∧ s'.os = s.os ∧ s'.heap.get? a = some (seqObj "list" #[] e1) ∧ ∃ ks c, s'.heap.get? kS = some (seqObj "list" (List.toArray ks) c) ∧ StrsOf ks (xs.take i)) vs 0 _
    ⟨k3, rfl, rfl, ho3, [], 0, hkS, ⟨rfl, fun j x e => by simp at e⟩⟩ (fun j v s' hj hI => ?_) fun s' hI => ?_)
  · rw [Nat.zero_add] at hI ⊢
    obtain ⟨kk, eg, eo, ea, ks, c, ek, hks⟩ := hI
    have hjl : j < xs.length := by rw [← hlen]; exact (List.getElem?_eq_some_iff.mp hj).1
    have hxj : xs[j]? = some xs[j] := List.getElem?_eq_getElem hjl
    obtain ⟨t, et⟩ := hv.2 j _ hxj
    have ev : v = .str xs[j] t := Option.some.inj (hj.symm.trans et)
    subst ev
    refine wpAny_bind (wpAny_attempt (wpAny_mono (hf _ (List.getElem_mem hjl) (fun _ => False) s' [.str xs[j] t] ⟨G.keep kk, fun b q => q.elim⟩ (.cons (.str _ t) .nil)) (fun u s'' q => ?_) fun _ _ q => q.elim))
    obtain ⟨g, r⟩ := q
    cases r with
    | str _ t' =>
      have ek' := g.keep _ _ ek
      have sU := Heap.SameBut.update s''.heap kS (Obj.mapSeq (·.push (Value.str xs[j] t')))
      have hkl : ks.length ≤ xs.length := by have := hks.1; rw [List.length_take] at this; omega
      have eaP : (List.toArray ks).push (.str xs[j] t') = List.toArray (ks ++ [Value.str xs[j] t']) := by simp
      obtain ⟨c2, hc2⟩ : ∃ c2, (s''.heap.update kS (Obj.mapSeq (·.push (Value.str xs[j] t')))).get? kS = some (seqObj "list" (List.toArray (ks ++ [Value.str xs[j] t'])) c2) := ⟨_, by rw [← eaP]; exact get?_update_seq ek' _⟩
      try dsimp only
      refine wpAny_bind (listUpdate_at ek' rfl ?_ (by rw [List.size_toArray, sizeLine_eq]; omega) (Nat.le_trans (Nat.le_of_eq (Array.size_push ..)) (by rw [List.size_toArray, sizeLine_eq]; omega)))
      refine wpAny_pure ⟨rfl, fun b o e => (sU.2 b (fun q => by rw [q, hk0] at e; cases e)).trans (g.keep b o (kk b o e)), g.gens.trans eg, g.os.trans eo, (sU.2 a hak).trans (g.keep _ _ ea), _, c2, hc2, ?_⟩
      have := StrsOf.push (acc := List.toArray ks) (t := t') (by simpa using hks) hxj
      simpa using this
  · rw [Nat.zero_add, hlen, List.take_length] at hI
    obtain ⟨kk, eg, eo, ea, ks, c, ek, hks⟩ := hI
    try dsimp only
    refine wpAny_bind (listItems_at ek rfl ?_)
    have hkl : ks.length = vs.length := hks.1.trans hlen.symm
    have hn2 : ¬ vs.toArray.size < 2 := by rw [List.size_toArray]; omega
    unfold ksk_end
    try dsimp only
    rw [if_neg (by decide), if_neg hn2, if_neg hn2]
    refine wpAny_bind (kas_kind (vs := ks) (T := .type "str") (by omega) (fun v hv' => by obtain ⟨x, t, rfl⟩ := hks.mem hv'; exact Looks.of_pure rfl) (by decide) (by decide) ?_)
    refine wpAny_bind (wpAny_mono (kat_run (E := No) (G := fun p s'' => s'' = s' ∧ (PermOk xs.length p ∧ Sto strTO (fun i => xs.getD i "") p xs.length)) (Q := fun st' s'' => ∃ p : Array Nat, (PermOk xs.length p ∧ Sto strTO (fun i => xs.getD i "") p xs.length) ∧ p.size = vs.length ∧ arrOf st' = p.map (kas_item (ks.toArray.zip vs.toArray)) ∧ failedOf st' = none ∧ s'' = s')
      hkl (by omega) (by omega) (fun p' st' s'' a1 a2 a3 a4 => ⟨p', a4.2, a1, a2, a3, a4.1⟩) ?_) ?_ fun _ _ e => e.elim)
    · rw [hlen]
      refine kas_sort_ok (key := fun i => xs.getD i "") (o := strTO) (by omega) (fun i j C hi hj hC => ?_) fun p a b => ⟨rfl, a, b⟩
      unfold kas_ask
      obtain ⟨t, e⟩ := hks.at hi
      obtain ⟨t', e'⟩ := hks.at hj
      rw [e, e']
      exact kas_lt_str hC
    · rintro ⟨⟨⟩, st'⟩ s'' ⟨p, ⟨hP, hS⟩, hp, har, hff, rfl⟩
      try dsimp only
      have hout := kat_snds hkl har
      have hsz : (List.toArray (p.toList.map fun i => vs.getD i Value.none)).size = vs.length := by rw [List.size_toArray, List.length_map, Array.length_toList, hp]
      have sK := Heap.SameBut.update s''.heap kS (Obj.mapSeq fun _ => (#[] : Array Value))
      have ea2 : (s''.heap.update kS (Obj.mapSeq fun _ => (#[] : Array Value))).get? a = some (seqObj "list" #[] e1) := (sK.2 a hak).trans ea
      have s2 := Heap.SameBut.update (s''.heap.update kS (Obj.mapSeq fun _ => (#[] : Array Value))) a (Obj.mapSeq fun _ => List.toArray (p.toList.map fun i => vs.getD i Value.none))
      obtain ⟨c2, hc2⟩ : ∃ c2, ((s''.heap.update kS (Obj.mapSeq fun _ => (#[] : Array Value))).update a (Obj.mapSeq fun _ => List.toArray (p.toList.map fun i => vs.getD i Value.none))).get? a = some (seqObj "list" (List.toArray (p.toList.map fun i => vs.getD i Value.none)) c2) := ⟨_, get?_update_seq ea2 _⟩
      unfold ksk_tail
      try dsimp only
      rw [hout, if_neg (by decide)]
      refine wpAny_bind (listUpdate_at ek rfl ?_ (by rw [List.size_toArray, sizeLine_eq]; omega) (Nat.zero_le _))
      refine wpAny_bind (wpAny_letGo ?_)
      refine wpAny_bind (seqEpoch_at ea2 rfl ?_)
      refine wpAny_bind (listUpdate_at ea2 rfl ?_ (Nat.zero_le _) (Nat.le_trans (Nat.le_of_eq hsz) (by rw [sizeLine_eq]; omega)))
      rw [hff]
      simp only [bne_self_eq_false, Bool.false_eq_true, if_false]
      exact wpAny_pure (h p _ c2 hP hS (fun b o e => (s2.2 b (fun q => by rw [q, ha0] at e; cases e)).trans ((sK.2 b (fun q => by rw [q, hk0] at e; cases e)).trans (kk b o e))) eg eo hc2)
end
end Mine
end

section
open PySem PySem.W PyProof.Rows PySem.Calls
set_option autoImplicit false
set_option linter.unusedVariables false
set_option maxRecDepth 100000
namespace Mine
section
variable {w : Wd}
theorem n_strxfrm : IsDef "_strxfrm" := ⟨_, def_strxfrm⟩
end
section
variable {prog : Program} {w : Wd} {A : Around} {env : Env} {ρ κ : Ds} {own : Own}
theorem call_sortedKey {xs ys : List Str} {H : Addr → Prop} {s : Shared} {v : Value} (G : Gd w H s.heap) (r : Rep s.heap H v (.list (xs.map .str))) (h2 : 2 ≤ xs.length) (h64 : xs.length < 64) (hp : Picked strTO xs ys) (hR : Room A 2) :
    wpAny (model prog w.wo) A (call (.builtin "sorted") [v] [(Str.ofString "key", .ref (w.bk "_strxfrm"))]) (fun v s' => Grow s s' ∧ Rep s'.heap H v (.list (ys.map .str))) No s := by
  cases r with
  | @list l vs _ hl nH r =>
    have hlen : vs.length = xs.length := by rw [r.length, List.length_map]
    have hv : StrsOf vs xs := ⟨hlen, fun j x hx => by
      obtain ⟨v, hv, hr⟩ := r.get (i := j) (d := .str x) (by simp [hx])
      cases hr with
      | str _ t => exact ⟨t, hv⟩⟩
    refine call_function_entry_kw kind_sorted plain_sorted entry_sorted (ksk_s1 _ _) ?_
    unfold Builtin.«sorted»
    refine wpAny_bind (m := checkCount "sorted" 1 1 _) (wpAny_pure ?_)
    refine wpAny_bind (collect_list hl ?_ (by rw [sizeLine_eq]; omega))
    refine wpAny_bind (wpAny_newList ?_ (by rw [sizeLine_eq]; omega))
    have hsz : ((s.heap.push (seqObj "list" #[] 0)).update s.heap.objs.size (Obj.mapSeq (· ++ vs.toArray))).objs.size = s.heap.objs.size + 1 := by rw [Heap.size_update, size_push']
    show wpAny _ _ _ _ _ { s with heap := copyHeap s.heap vs }
    rw [hsz]
    have ho := copyHeap_at s.heap vs
    have k := copyHeap_keep s.heap vs
    refine wpAny_bind (wpAny_holding (wpAny_call_entry_kw slot_list_sort ⟨_, ho, rfl⟩ entry_list_sort ?_ (ksk_l1 _ _)))
    show wpAny (model prog w.wo) A.in1.in1 (Builtin.«list.sort» ⟨[.ref (s.heap.objs.size + 1)], [(Str.ofString "key", .ref (w.bk "_strxfrm"))]⟩) _ _ _
    rw [ksk_t1]
    have hR' : Room A.in1.in1 1 := ⟨hR.handled, hR.depth |> fun h => (by show A.depth + 1 < _; omega), by have := hR.units; show A.units + 1 + 1 + 40 * 1 < _; omega⟩
    refine sort_keyed (s := { s with heap := copyHeap s.heap vs }) ho hv h2 h64 G.gr k (get_none_of_ge (Nat.le_succ _)) (fun x _ => fn_strxfrm hR') fun p s' c hP hS K eg eo hl' => ?_
    refine ⟨_, rfl, wpAny_pure ⟨_, rfl, ⟨K, eg, eo⟩, ?_⟩⟩
    have hz : (p.toList.map fun i => xs.getD i "") = ys := picked_eq ((picked_of hP hS).1.trans hp.1.symm) (picked_of hP hS).2 hp.2
    rw [← hz]
    have hrng : ∀ i ∈ p.toList, i < vs.length := fun i hi => by rw [hlen]; exact List.mem_range.mp (hP.perm.mem_iff.mp hi)
    refine .list (vs := p.toList.map fun i => vs.getD i Value.none) ⟨_, hl', rfl, c, rfl⟩ (G.notAt (get_none_of_ge (Nat.le_succ _))) ?_
    have := (r.keep K).picked .none p.toList hrng
    have e : (p.toList.map fun i => (xs.map Dt.str).getD i .none) = (p.toList.map fun i => xs.getD i "").map Dt.str := by
      rw [List.map_map]
      refine List.map_congr_left fun i hi => ?_
      have := hrng i hi
      have hi' : i < xs.length := by omega
      simp [hi']
    rw [e] at this
    exact this
theorem CallKw {func : Expr} {args : List Expr} {kws : List Keyword} {pos : Pos} {s : Shared} {Q : Value → Shared → Prop}
    (h : wpAny (model prog w.wo) A (eval func env) (fun f s₁ => wpAny (model prog w.wo) A (callWith pos f [] (backTo pos (starEach args env)) (backToKw pos (keywordEach kws env))) Q No s₁) No s)
    (he : eval (.Call func args kws pos) env = (do callWith pos (← eval func env) [] (backTo pos (starEach args env)) (backToKw pos (keywordEach kws env)))) :
    wpAny (model prog w.wo) A (eval (.Call func args kws pos) env) Q No s := by
  rw [he]; exact wpAny_bind h
/-- sorted(e, key=_strxfrm) -/
theorem Ev.sortedKey {e : Expr} {np kp kpos pos : Pos} {xs ys : List Str} (h : Ev prog w A env ρ κ own e (.list (xs.map .str))) (h2 : 2 ≤ xs.length) (h64 : xs.length < 64) (hpk : Picked strTO xs ys) (hR : Room A 2) (hp : plainE e = true := by rfl)
    (hg : env.globals = mainGlobals := by kernel_rfl!) (hb : env.builtins = builtinsNs := by kernel_rfl!) (hkf : env.scope.kind = .function := by kernel_rfl!) (hx : env.kindOf "sorted" = some .globalImplicit := by kernel_rfl!) (hx2 : env.kindOf "_strxfrm" = some .globalImplicit := by kernel_rfl!) :
    Ev prog w A env ρ κ own (.Call (.Name "sorted" np) [e] [⟨some "key", .Name "_strxfrm" kp, kpos⟩] pos) (.list (ys.map .str)) := fun H s R => by
  refine CallKw (nameB R.gr n_sorted (v := .builtin "sorted") (by decide +kernel) (by decide +kernel) (callWith_kw ?_ (by rw [starEach_plain hp]; rfl) (by rw [starEach_plain hp]; rfl)) hg hb hkf hx (by decide +kernel)) rfl
  refine args_cons (wpN (h H s R) fun v s₁ ⟨g, r⟩ => args_nil ?_) (starEach_plain hp)
  have R₁ := R.keep g.keep
  refine kws_cons (nameG R₁.gr n_strxfrm (kws_nil ?_) hg hkf hx2 (by decide +kernel))
  exact wpN (call_sortedKey R₁.gd r h2 h64 hpk hR) fun v s₂ ⟨g₂, r₂⟩ => ⟨g.trans g₂, r₂⟩
end
end Mine
end

section
open PySem PySem.W PyProof.Rows PySem.Calls
set_option autoImplicit false
set_option linter.unusedVariables false
set_option maxRecDepth 100000
namespace Mine
/-- a text's signs -/
abbrev L (x : Str) : List Nat := x.cps.toList
theorem L_inj {x y : Str} (h : L x = L y) : x = y := by
  cases x; cases y; simp only [Str.mk.injEq]; exact Array.toList_inj.mp h
theorem L_append (x y : Str) : L (x ++ y) = L x ++ L y := by
  show (x.cps ++ y.cps).toList = _
  simp
theorem L_len (x : Str) : (L x).length = x.length := rfl
theorem slash_eq : ("/" : Str) = ⟨#[47]⟩ := by decide +kernel
theorem L_slash : L "/" = [47] := by rw [slash_eq]
theorem L_empty : L "" = [] := by decide +kernel
/-- signs joined -/
def jn : List (List Nat) → List Nat
  | [] => []
  | [x] => x
  | x :: y :: r => x ++ 47 :: jn (y :: r)
theorem L_join : ∀ xs : List Str, L (Str.join "/" xs) = jn (xs.map L)
  | [] => rfl
  | [x] => rfl
  | x :: y :: r => by
    show L (x ++ "/" ++ Str.join "/" (y :: r)) = _
    rw [L_append, L_append, L_slash, L_join (y :: r)]
    simp [jn]
theorem join_eq (xs : List Str) : Txt.join "/" xs = Str.join "/" xs := StrLaws.glued_eq_join "/" xs
/-- signs cut at the slash -/
def cut : List Nat → List (List Nat)
  | [] => [[]]
  | c :: r => if c = 47 then [] :: cut r else match cut r with
    | p :: ps => (c :: p) :: ps
    | [] => [[c]]
theorem cut_ne : ∀ l, cut l ≠ []
  | [] => by simp [cut]
  | c :: r => by
    unfold cut
    split
    · simp
    · split <;> simp
theorem cut_free : ∀ (p : List Nat) (l : List Nat), 47 ∉ p → cut (p ++ 47 :: l) = p :: cut l
  | [], l, _ => by simp [cut]
  | c :: p, l, h => by
    have hc : c ≠ 47 := fun q => h (q ▸ .head _)
    rw [List.cons_append, cut, if_neg hc, cut_free p l fun q => h (.tail _ q)]
theorem cut_one : ∀ (p : List Nat), 47 ∉ p → cut p = [p]
  | [], _ => rfl
  | c :: p, h => by
    have hc : c ≠ 47 := fun q => h (q ▸ .head _)
    rw [cut, if_neg hc, cut_one p fun q => h (.tail _ q)]
theorem cut_jn : ∀ (ps : List (List Nat)), ps ≠ [] → (∀ p ∈ ps, 47 ∉ p) → cut (jn ps) = ps
  | [], h, _ => absurd rfl h
  | [p], _, h => cut_one p (h p (.head _))
  | p :: q :: r, _, h => by
    rw [jn, cut_free p _ (h p (.head _)), cut_jn (q :: r) (by simp) fun x hx => h x (.tail _ hx)]
theorem split_ne (x : Str) : Txt.split x "/" ≠ [] := by
  intro h
  have := StrLaws.join_split x "/"
  unfold Txt.split at h
  split at h
  · cases h
  · split at h
    · cases h
    · rename_i h1 h2
      unfold Builtin.Str.partsBetween at h
      simp only [List.map_eq_nil_iff] at h
      have := congrArg List.length h
      simp at this
/-- split is told by its parts -/
theorem split_is {x : Str} {ps : List Str} (hne : ps ≠ []) (hf : ∀ p ∈ ps, 47 ∉ L p) (hj : Str.join "/" ps = x) : Txt.split x "/" = ps := by
  have h1 : cut (L x) = ps.map L := by
    rw [← hj, L_join]
    exact cut_jn _ (by simpa using hne) fun p hp => by obtain ⟨q, hq, rfl⟩ := List.mem_map.mp hp; exact hf q hq
  have h2 : cut (L x) = (Txt.split x "/").map L := by
    conv => lhs; rw [← StrLaws.join_split x "/", L_join]
    refine cut_jn _ (by simpa using split_ne x) fun p hp => ?_
    obtain ⟨q, hq, rfl⟩ := List.mem_map.mp hp
    rw [slash_eq] at hq
    exact StrLaws.split_free x 47 q hq
  have h3 := h2.symm.trans h1
  refine List.ext_getElem (by simpa using congrArg List.length h3) fun i a b => ?_
  have e := List.getElem_of_eq h3 (by simpa using a)
  simp only [List.getElem_map] at e
  exact L_inj e
theorem split_slash_ok {x : Str} (hz : x.length ≤ 2 ^ 16) : (Txt.split x "/").length ≤ 2 ^ 16 + 1 ∧ ∀ c ∈ Txt.split x "/", c.length ≤ 2 ^ 16 := by
  have hw := split_weight x "/" (by decide)
  have : ∀ c ∈ Txt.split x "/", c.length ≤ x.length := fun c hc => part_short hc
  exact ⟨by omega, fun c hc => Nat.le_trans (this c hc) hz⟩
end Mine
end

section
open PySem PySem.W PyProof.Rows PySem.Calls
set_option autoImplicit false
set_option linter.unusedVariables false
set_option maxRecDepth 100000
namespace Mine
theorem slice_nat (x : Str) {a b : Nat} (hab : a ≤ b) : L (Txt.slice x (some (a : Int)) (some (b : Int))) = ((L x).drop a).take (b - a) := by
  have hl : (L x).length = x.length := rfl
  have e : Builtin.Str.strSliceIndices (some (a : Int)) (some (b : Int)) 1 x.length = Builtin.Str.strSliceIndices (some ((min a x.length : Nat) : Int)) (some ((min b x.length : Nat) : Int)) 1 x.length := by
    have h1 : ¬ ((a : Int) < 0) := by omega
    have h2 : ¬ ((b : Int) < 0) := by omega
    have h3 : ¬ (((min a x.length : Nat) : Int) < 0) := by omega
    have h4 : ¬ (((min b x.length : Nat) : Int) < 0) := by omega
    have e1 : max (0 : Int) (min (a : Int) (x.length : Int)) = max (0 : Int) (min ((min a x.length : Nat) : Int) (x.length : Int)) := by omega
    have e2 : max (0 : Int) (min (b : Int) (x.length : Int)) = max (0 : Int) (min ((min b x.length : Nat) : Int) (x.length : Int)) := by omega
    simp only [Builtin.Str.strSliceIndices, h1, h2, h3, h4, if_false, show ((1 : Int) > 0) = True from by simp, if_true, e1, e2]
  have := StrLaws.sliceText_nat x (a := min a x.length) (b := min b x.length) (by omega) (by omega)
  have e' : Txt.slice x (some (a : Int)) (some (b : Int)) = StrLaws.sliceText x (some ((min a x.length : Nat) : Int)) (some ((min b x.length : Nat) : Int)) := by
    unfold Txt.slice StrLaws.sliceText
    rw [e]
  rw [e', this]
  show ((L x).drop (min a x.length)).take (min b x.length - min a x.length) = _
  apply List.ext_getElem?
  intro i
  rw [List.getElem?_take, List.getElem?_take, List.getElem?_drop, List.getElem?_drop]
  by_cases h : i < b - a
  · rw [if_pos h]
    by_cases h' : i < min b x.length - min a x.length
    · rw [if_pos h']
      have : min a x.length = a := by omega
      rw [this]
    · rw [if_neg h']
      exact (List.getElem?_eq_none (by omega)).symm
  · rw [if_neg h, if_neg (by omega)]
theorem slice_to (x : Str) (b : Nat) : L (Txt.slice x none (some (b : Int))) = (L x).take b := by
  have e : Txt.slice x none (some (b : Int)) = Txt.slice x (some ((0 : Nat) : Int)) (some (b : Int)) := by
    unfold Txt.slice
    rw [StrLaws.sliceIdx_none_lo]; rfl
  rw [e, slice_nat x (Nat.zero_le _)]
  simp
theorem slice_from (x : Str) (a : Nat) (ha : a ≤ x.length) : L (Txt.slice x (some (a : Int)) none) = (L x).drop a := by
  have e : Txt.slice x (some (a : Int)) none = Txt.slice x (some (a : Int)) (some (x.length : Int)) := by
    unfold Txt.slice
    rw [StrLaws.sliceIdx_none_hi]
  rw [e, slice_nat x ha]
  exact List.take_of_length_le (by rw [List.length_drop]; exact Nat.le_refl _)
theorem starts_slash (x : Str) : Txt.startswith x "/" = decide ((L x).head? = some 47) := by
  unfold Txt.startswith
  rw [StrLaws.subAt_eq, slash_eq]
  show (decide (0 + 1 ≤ (L x).length) && (((L x).drop 0).take 1 == [47])) = _
  cases L x with
  | nil => rfl
  | cons c r =>
    by_cases h : c = 47
    · subst h; simp
    · simp [h]
theorem ends_slash (x : Str) : Txt.endswith x "/" = decide ((L x).getLast? = some 47) := by
  unfold Txt.endswith
  rw [StrLaws.subAt_eq, slash_eq]
  show (decide (0 + 1 ≤ (L x).length) && (((L x).drop ((L x).length - 1)).take 1 == [47])) = _
  rcases List.eq_nil_or_concat (L x) with h | ⟨r, c, h⟩
  · rw [h]; rfl
  · rw [h]
    by_cases h : c = 47
    · subst h; simp
    · simp [h]
/-- a good name: no slash in it, neither empty nor a dot nor two -/
structure Nm (x : Str) : Prop where
  ne : L x ≠ []
  dot : x ≠ "."
  dd : x ≠ ".."
  free : 47 ∉ L x
theorem pool_nm : ∀ x ∈ poolS, Nm x := by
  have h : ∀ x ∈ poolS, x.cps.toList ≠ [] ∧ x ≠ "." ∧ x ≠ ".." ∧ 47 ∉ x.cps.toList := by decide +kernel
  exact fun x hx => let ⟨a, b, c, d⟩ := h x hx; ⟨a, b, c, d⟩
/-- signs that neither begin nor end with a slash -/
structure Ed (l : List Nat) : Prop where
  ne : l ≠ []
  first : l.head? ≠ some 47
  last : l.getLast? ≠ some 47
theorem Ed.free {l : List Nat} (h : l ≠ []) (f : 47 ∉ l) : Ed l := ⟨h, fun e => f (List.mem_of_head? e), fun e => f (List.mem_of_getLast? e)⟩
theorem Ed.app {l r : List Nat} (hl : Ed l) (hr : Ed r) (m : List Nat) : Ed (l ++ m ++ r) := by
  refine ⟨by simp [hl.ne], ?_, ?_⟩
  · have := hl.first
    cases l with
    | nil => exact absurd rfl hl.ne
    | cons c l => simpa using this
  · have := hr.last
    rcases List.eq_nil_or_concat r with h | ⟨r', c, h⟩
    · exact absurd h hr.ne
    · subst h; simpa [← List.append_assoc] using this
theorem Ed.jn : ∀ {ps : List (List Nat)}, ps ≠ [] → (∀ p ∈ ps, Ed p) → Ed (jn ps)
  | [], h, _ => absurd rfl h
  | [p], _, h => h p (.head _)
  | p :: q :: r, _, h => by
    have := Ed.app (h p (.head _)) (Ed.jn (ps := q :: r) (by simp) fun x hx => h x (.tail _ hx)) [47]
    simpa [Mine.jn] using this
/-- what stands ahead of a name in a part -/
def pcOk (pc : List Str) : Prop := pc = [] ∨ pc = [("." : Str)] ∨ pc = [("x" : Str), ".."] ∨ pc = [("." : Str), ""]
theorem crook_pc {k : Str} (h : k ∈ crookS) (n : Str) : ∃ pc, pcOk pc ∧ k ++ n = Str.join "/" (pc ++ [n]) := by
  have e1 : L "." = [46] := by decide +kernel
  have e2 : L "./" = [46, 47] := by decide +kernel
  have e3 : L "x/../" = [120, 47, 46, 46, 47] := by decide +kernel
  have e4 : L ".//" = [46, 47, 47] := by decide +kernel
  have e5 : L "x" = [120] := by decide +kernel
  have e6 : L ".." = [46, 46] := by decide +kernel
  simp only [crookS, List.mem_cons, List.not_mem_nil, or_false] at h
  rcases h with rfl | rfl | rfl | rfl
  · exact ⟨[], .inl rfl, L_inj (by rw [L_append, L_empty]; rfl)⟩
  · exact ⟨["."], .inr (.inl rfl), L_inj (by rw [L_append, L_join, e2]; simp [jn, e1])⟩
  · exact ⟨["x", ".."], .inr (.inr (.inl rfl)), L_inj (by rw [L_append, L_join, e3]; simp [jn, e5, e6])⟩
  · exact ⟨[".", ""], .inr (.inr (.inr rfl)), L_inj (by rw [L_append, L_join, e4]; simp [jn, e1, L_empty])⟩
/-- a part: what stands ahead, then the name -/
structure Pt (p n : Str) (pc : List Str) : Prop where
  ok : pcOk pc
  eq : p = Str.join "/" (pc ++ [n])
theorem Pt.ed {p n : Str} {pc : List Str} (h : Pt p n pc) (hn : Nm n) : Ed (L p) := by
  have e1 : L "." = [46] := by decide +kernel
  have e5 : L "x" = [120] := by decide +kernel
  have e6 : L ".." = [46, 46] := by decide +kernel
  have hN := Ed.free hn.ne hn.free
  have one : ∀ c : Nat, c ≠ 47 → Ed [c] := fun c hc => ⟨by simp, by simpa using hc, by simpa using hc⟩
  rw [h.eq, L_join]
  rcases h.ok with rfl | rfl | rfl | rfl
  · exact hN
  · have := Ed.app (one 46 (by decide)) hN [47]
    simpa [jn, e1] using this
  · have := Ed.app (one 120 (by decide)) hN [47, 46, 46, 47]
    simpa [jn, e5, e6] using this
  · have := Ed.app (one 46 (by decide)) hN [47, 47]
    simpa [jn, e1, L_empty] using this
theorem Pt.free {p n : Str} {pc : List Str} (h : Pt p n pc) (hn : Nm n) : ∀ c ∈ pc ++ [n], 47 ∉ L c := by
  intro c hc
  rcases List.mem_append.mp hc with hc | hc
  · rcases h.ok with rfl | rfl | rfl | rfl
    · cases hc
    · simp at hc; subst hc; decide +kernel
    · simp at hc; rcases hc with rfl | rfl <;> decide +kernel
    · simp at hc; rcases hc with rfl | rfl <;> decide +kernel
  · simp at hc; subst hc; exact hn.free
end Mine
end

section
open PySem PySem.W PyProof.Rows PySem.Calls
set_option autoImplicit false
set_option linter.unusedVariables false
set_option maxRecDepth 100000
namespace Mine
theorem len_zero {x : Str} : x.length = 0 ↔ L x = [] := by
  rw [← L_len]; exact List.length_eq_zero_iff
theorem jstep {acc p : Str} (ha : L acc ≠ []) (hl : (L acc).getLast? ≠ some 47) (hp : (L p).head? ≠ some 47) : dJoinStep acc p = acc ++ ("/" ++ p) := by
  have h0 : acc.length ≠ 0 := fun q => ha (len_zero.mp q)
  unfold dJoinStep
  rw [starts_slash, ends_slash, decide_eq_false hp, decide_eq_false hl, decide_eq_true h0]
  rfl
theorem jfold : ∀ (ps : List Str) (acc : Str), L acc ≠ [] → (L acc).getLast? ≠ some 47 → (∀ p ∈ ps, Ed (L p)) → ps.foldl dJoinStep acc = Str.join "/" (acc :: ps)
  | [], acc, _, _, _ => rfl
  | p :: ps, acc, ha, hl, h => by
    have hp := h p (.head _)
    rw [List.foldl_cons, jstep ha hl hp.first]
    have h2 : (L (acc ++ ("/" ++ p))).getLast? ≠ some 47 := by
      rw [L_append, L_append]
      have := hp.last
      rcases List.eq_nil_or_concat (L p) with e | ⟨r, c, e⟩
      · exact absurd e hp.ne
      · rw [e] at this ⊢; simpa [← List.append_assoc] using this
    rw [jfold ps _ (by rw [L_append, L_append]; simp [L_slash]) h2 fun x hx => h x (.tail _ hx)]
    apply L_inj
    rw [L_join, L_join]
    cases ps with
    | nil => simp [jn, L_append, L_slash]
    | cons q r => simp [jn, L_append, L_slash]
theorem jn_app (r : List Nat) : ∀ (p : List Nat) (ps : List (List Nat)), jn ((r ++ p) :: ps) = r ++ jn (p :: ps)
  | p, [] => rfl
  | p, q :: ps => by simp [jn]
def rootOk (root : Str) : Prop := root = "" ∨ root = "/"
theorem dJoin_eq {root : Str} (hr : rootOk root) : ∀ {ps : List Str}, ps ≠ [] → (∀ p ∈ ps, Ed (L p)) → dJoin root ps = root ++ Str.join "/" ps
  | [], h, _ => absurd rfl h
  | p :: ps, _, h => by
    have hp := h p (.head _)
    unfold dJoin
    rw [List.foldl_cons]
    have h1 : dJoinStep root p = root ++ p := by
      unfold dJoinStep
      rcases hr with rfl | rfl
      · rw [starts_slash, decide_eq_false hp.first]
        rw [if_pos (by decide +kernel)]
        exact (L_inj (by rw [L_append, L_empty]; rfl))
      · rw [starts_slash, decide_eq_false hp.first, ends_slash]
        rw [if_neg (by decide +kernel), if_pos (by decide +kernel)]
    rw [h1, jfold ps (root ++ p) (by rw [L_append]; simp [hp.ne]) (by
      rw [L_append]
      have := hp.last
      rcases List.eq_nil_or_concat (L p) with e | ⟨r, c, e⟩
      · exact absurd e hp.ne
      · rw [e] at this ⊢; simpa [← List.append_assoc] using this) fun x hx => h x (.tail _ hx)]
    apply L_inj
    rw [L_append, L_join, L_join, List.map_cons, List.map_cons, L_append, jn_app]
theorem dRoot_eq {root y : Str} (hr : rootOk root) (hy : Ed (L y)) : dRoot (root ++ y) = (root, y) := by
  have hc : ∃ c r, L y = c :: r ∧ c ≠ 47 := by
    cases e : L y with
    | nil => exact absurd e hy.ne
    | cons c r => exact ⟨c, r, rfl, fun q => hy.first (by rw [e, q]; rfl)⟩
  obtain ⟨c, r, ec, hc⟩ := hc
  have hs1 : ∀ x : Str, Txt.slice x none (some 1) = "/" ↔ (L x).take 1 = [47] := fun x => by
    have := slice_to x 1
    constructor
    · intro h
      have h' : L (Txt.slice x none (some ((1 : Nat) : Int))) = L "/" := congrArg L h
      rw [this, L_slash] at h'; exact h'
    · intro h
      apply L_inj
      show L (Txt.slice x none (some ((1 : Nat) : Int))) = L "/"
      rw [this, L_slash, h]
  unfold dRoot
  rcases hr with rfl | rfl
  · have e0 : ("" : Str) ++ y = y := L_inj (by rw [L_append, L_empty]; rfl)
    rw [e0, if_pos]
    · intro q
      have := (hs1 y).mp q
      rw [ec] at this
      simp at this
      exact hc this
  · have e1 : L ("/" ++ y) = 47 :: c :: r := by rw [L_append, L_slash, ec]; rfl
    have h1 : Txt.slice ("/" ++ y) none (some 1) = "/" := (hs1 _).mpr (by rw [e1]; rfl)
    rw [if_neg (fun q => q h1), if_pos]
    · congr 1
      apply L_inj
      have := slice_from ("/" ++ y) 1 (by rw [← L_len, e1]; simp)
      show L (Txt.slice ("/" ++ y) (some ((1 : Nat) : Int)) none) = _
      rw [this, e1, ec]; rfl
    · have h2 : L (Txt.slice ("/" ++ y) (some ((1 : Nat) : Int)) (some ((2 : Nat) : Int))) = [c] := by rw [slice_nat _ (by decide), e1]; rfl
      have : Txt.slice ("/" ++ y) (some 1) (some 2) ≠ "/" := fun q => by
        have q' : L (Txt.slice ("/" ++ y) (some ((1 : Nat) : Int)) (some ((2 : Nat) : Int))) = L "/" := congrArg L q
        rw [h2, L_slash] at q'
        simp at q'
        exact hc q'
      rw [decide_eq_true this]; rfl
/-- the names of a row, each behind what stands ahead of it -/
theorem np_name {r : Str} {st : List Str} {n : Str} (hn : Nm n) : npStep r st n = st ++ [n] := by
  have h0 : n.length ≠ 0 := fun q => hn.ne (len_zero.mp q)
  have h1 : npSkip n = false := by unfold npSkip; rw [decide_eq_true h0, decide_eq_false hn.dot]; rfl
  have h2 : npPut r st n = true := by unfold npPut; rw [decide_eq_true hn.dd]; rfl
  unfold npStep
  rw [h1, h2]; rfl
theorem np_pc {r : Str} {st : List Str} {pc : List Str} (h : pcOk pc) {n : Str} (hn : Nm n) : (pc ++ [n]).foldl (npStep r) st = st ++ [n] := by
  have d1 : npSkip "." = true := by decide +kernel
  have d0 : npSkip "" = true := by decide +kernel
  have dx : Nm "x" := ⟨by decide +kernel, by decide +kernel, by decide +kernel, by decide +kernel⟩
  have s1 : ∀ st, npStep r st "." = st := fun st => by unfold npStep; rw [if_pos d1]
  have s0 : ∀ st, npStep r st "" = st := fun st => by unfold npStep; rw [if_pos d0]
  rcases h with rfl | rfl | rfl | rfl
  · exact np_name hn
  · simp only [List.cons_append, List.nil_append, List.foldl_cons, List.foldl_nil, s1]; exact np_name hn
  · simp only [List.cons_append, List.nil_append, List.foldl_cons, List.foldl_nil]
    rw [np_name dx]
    have : npStep r (st ++ [("x" : Str)]) ".." = st := by
      have k1 : npSkip ".." = false := by decide +kernel
      have k2 : npPut r (st ++ [("x" : Str)]) ".." = false := by
        unfold npPut
        have e1 : decide ((".." : Str) ≠ "..") = false := by simp
        have e2 : (st ++ [("x" : Str)]).isEmpty = false := by simp
        have e3 : decide ((st ++ [("x" : Str)]).getLast? = some "..") = false := by
          rw [List.getLast?_concat]
          exact decide_eq_false (fun q => by have := Option.some.inj q; revert this; decide +kernel)
        rw [e1, e2, e3]; simp
      unfold npStep
      rw [if_neg (by rw [k1]; decide), if_neg (by rw [k2]; decide)]
      simp
    rw [this]; exact np_name hn
  · simp only [List.cons_append, List.nil_append, List.foldl_cons, List.foldl_nil, s1, s0]; exact np_name hn
end Mine
end

section
open PySem PySem.W PyProof.Rows PySem.Calls
set_option autoImplicit false
set_option linter.unusedVariables false
set_option maxRecDepth 100000
namespace Mine
theorem jn_append : ∀ {a b : List (List Nat)}, a ≠ [] → b ≠ [] → jn (a ++ b) = jn a ++ 47 :: jn b
  | [], _, h, _ => absurd rfl h
  | [x], [], _, h => absurd rfl h
  | [x], y :: b, _, _ => rfl
  | x :: y :: a, b, _, hb => by
    have := jn_append (a := y :: a) (b := b) (by simp) hb
    show x ++ 47 :: jn (y :: a ++ b) = _
    rw [this]; simp [jn]
/-- a row of names, and its parts -/
inductive RP : List Str → List Str → Prop
  | nil : RP [] []
  | cons {n p : Str} {pc row parts : List Str} : Nm n → Pt p n pc → n.length ≤ 3 → p.length ≤ 8 → RP row parts → RP (n :: row) (p :: parts)
theorem RP.nm {row parts : List Str} (h : RP row parts) : ∀ n ∈ row, Nm n := by
  induction h with
  | nil => intro n h; cases h
  | cons hn _ _ _ _ ih => intro n h; rcases List.mem_cons.mp h with rfl | h; exact hn; exact ih n h
theorem RP.ed {row parts : List Str} (h : RP row parts) : ∀ p ∈ parts, Ed (L p) := by
  induction h with
  | nil => intro n h; cases h
  | cons hn hp _ _ _ ih => intro n h; rcases List.mem_cons.mp h with rfl | h; exact hp.ed hn; exact ih n h
theorem RP.len {row parts : List Str} (h : RP row parts) : parts.length = row.length := by
  induction h with
  | nil => rfl
  | cons _ _ _ _ _ ih => simp [ih]
theorem RP.size {row parts : List Str} (h : RP row parts) : (∀ n ∈ row, n.length ≤ 3) ∧ ∀ p ∈ parts, p.length ≤ 8 := by
  induction h with
  | nil => exact ⟨(fun n h => by cases h), (fun n h => by cases h)⟩
  | cons _ _ a b _ ih =>
    exact ⟨(fun n h => by rcases List.mem_cons.mp h with rfl | h; exact a; exact ih.1 n h), (fun n h => by rcases List.mem_cons.mp h with rfl | h; exact b; exact ih.2 n h)⟩
theorem RP.pieces {row parts : List Str} (h : RP row parts) : row ≠ [] → ∃ ps : List Str, ps ≠ [] ∧ (∀ p ∈ ps, 47 ∉ L p) ∧ Str.join "/" ps = Str.join "/" parts ∧ ∀ r st, ps.foldl (npStep r) st = st ++ row := by
  induction h with
  | nil => intro h; exact absurd rfl h
  | @cons n p pc row parts hn hp _ _ hr ih =>
    intro _
    by_cases e : row = []
    · subst e
      cases hr
      refine ⟨pc ++ [n], by simp, hp.free hn, hp.eq.symm, fun r st => np_pc hp.ok hn⟩
    · obtain ⟨ps, h1, h2, h3, h4⟩ := ih e
      have hpe : parts ≠ [] := fun q => e (by have := hr.len; rw [q] at this; exact List.length_eq_zero_iff.mp this.symm)
      refine ⟨(pc ++ [n]) ++ ps, by simp, fun x hx => (List.mem_append.mp hx).elim (hp.free hn x) (h2 x), ?_, fun r st => ?_⟩
      · apply L_inj
        rw [L_join, List.map_append, jn_append (by simp) (by simpa using h1), ← L_join, ← L_join, h3, ← hp.eq, L_join, L_join]
        cases parts with
        | nil => exact absurd rfl hpe
        | cons y r => simp [jn]
      · rw [List.foldl_append, np_pc hp.ok hn, h4]; simp
def pathOf (root : Str) (row : List Str) : Str := root ++ Str.join "/" row
theorem norm_eq {root : Str} (hr : rootOk root) {row parts : List Str} (h : RP row parts) (hne : row ≠ []) :
    dRoot (dJoin root parts) = (root, Str.join "/" parts) ∧ npComps root (Str.join "/" parts) = row ∧ dNorm (dJoin root parts) = pathOf root row := by
  have hpe : parts ≠ [] := fun q => hne (by have := h.len; rw [q] at this; exact List.length_eq_zero_iff.mp this.symm)
  have hed : Ed (L (Str.join "/" parts)) := by
    rw [L_join]
    exact Ed.jn (by simpa using hpe) fun p hp => by obtain ⟨q, hq, rfl⟩ := List.mem_map.mp hp; exact h.ed q hq
  have h1 := dJoin_eq hr hpe h.ed
  have h2 := dRoot_eq hr hed
  obtain ⟨ps, p1, p2, p3, p4⟩ := h.pieces hne
  have h3 : npComps root (Str.join "/" parts) = row := by
    unfold npComps
    rw [split_is p1 p2 p3, p4]; rfl
  refine ⟨by rw [h1, h2], h3, ?_⟩
  have hL : L (dJoin root parts) ≠ [] := by rw [h1, L_append]; simp [hed.ne]
  unfold dNorm
  rw [if_neg (fun q => hL (len_zero.mp q)), h1, h2]
  show dNormAt root (Str.join "/" parts) = _
  unfold dNormAt
  rw [h3, join_eq]
  rw [if_neg]
  · rfl
  · intro q
    have := len_zero.mp q
    rw [L_append] at this
    have hrow : Ed (L (Str.join "/" row)) := by
      rw [L_join]
      exact Ed.jn (by simpa using hne) fun p hp => by obtain ⟨q, hq, rfl⟩ := List.mem_map.mp hp; exact Ed.free (h.nm q hq).ne (h.nm q hq).free
    exact hrow.ne (List.append_eq_nil_iff.mp this).2
theorem jn_len {B : Nat} : ∀ {ps : List (List Nat)}, (∀ p ∈ ps, p.length ≤ B) → (jn ps).length ≤ ps.length * (B + 1)
  | [], _ => by simp [jn]
  | [p], h => by have := h p (.head _); simp [jn]; omega
  | p :: q :: r, h => by
    have h1 := h p (.head _)
    have h2 := jn_len (ps := q :: r) fun x hx => h x (.tail _ hx)
    simp only [jn, List.length_append, List.length_cons] at h2 ⊢
    rw [Nat.succ_mul]; omega
theorem join_len {B : Nat} {ps : List Str} (h : ∀ p ∈ ps, p.length ≤ B) : (Str.join "/" ps).length ≤ ps.length * (B + 1) := by
  rw [← L_len, L_join]
  have := jn_len (B := B) (ps := ps.map L) fun p hp => by obtain ⟨q, hq, rfl⟩ := List.mem_map.mp hp; exact h q hq
  simpa using this
theorem path_len {root : Str} (hr : rootOk root) {row : List Str} (h3 : row.length ≤ 3) (h : ∀ n ∈ row, n.length ≤ 3) : (pathOf root row).length ≤ 13 := by
  have h1 := join_len h
  have h2 : root.length ≤ 1 := by rcases hr with rfl | rfl <;> decide +kernel
  unfold pathOf
  rw [Str.length_append]
  have : row.length * (3 + 1) ≤ 12 := by omega
  omega
theorem path_ed {root : Str} {row : List Str} (hne : row ≠ []) (h : ∀ n ∈ row, Nm n) : Ed (L (Str.join "/" row)) := by
  rw [L_join]
  exact Ed.jn (by simpa using hne) fun p hp => by obtain ⟨q, hq, rfl⟩ := List.mem_map.mp hp; exact Ed.free (h q hq).ne (h q hq).free
/-- the parts of a path -/
theorem split_path {root : Str} (hr : rootOk root) {row : List Str} (hne : row ≠ []) (h : ∀ n ∈ row, Nm n) : Txt.split (pathOf root row) "/" = if root = "" then row else "" :: row := by
  rcases hr with rfl | rfl
  · rw [if_pos rfl]
    refine split_is hne (fun p hp => (h p hp).free) (L_inj ?_)
    unfold pathOf
    rw [L_append, L_empty]; rfl
  · rw [if_neg (by decide +kernel)]
    refine split_is (by simp) (fun p hp => ?_) (L_inj ?_)
    · rcases List.mem_cons.mp hp with rfl | hp
      · rw [L_empty]; exact List.not_mem_nil
      · exact (h p hp).free
    · unfold pathOf
      rw [L_append, L_slash, L_join, L_join]
      cases row with
      | nil => exact absurd rfl hne
      | cons x r => simp [jn, L_empty]
theorem keep_nm {n : Str} (h : Nm n) : cpKeep n = true := by
  unfold cpKeep
  rw [decide_eq_true h.dot, decide_eq_true (show n.length ≠ 0 from fun q => h.ne (len_zero.mp q))]; rfl
theorem parts_path {root : Str} (hr : rootOk root) {row : List Str} (hne : row ≠ []) (h : ∀ n ∈ row, Nm n) : cpParts (pathOf root row) = row := by
  unfold cpParts
  rw [split_path hr hne h]
  have hf : row.filter cpKeep = row := List.filter_eq_self.mpr fun n hn => keep_nm (h n hn)
  split
  · exact hf
  · rw [List.filter_cons_of_neg (by decide +kernel), hf]
theorem starts_path {root : Str} (hr : rootOk root) {row : List Str} (hne : row ≠ []) (h : ∀ n ∈ row, Nm n) : sepIf (Txt.startswith (pathOf root row) "/") = root := by
  have hed := path_ed (root := root) hne h
  rw [starts_slash]
  unfold pathOf
  rw [L_append]
  rcases hr with rfl | rfl
  · rw [L_empty, List.nil_append, decide_eq_false hed.first]; rfl
  · rw [L_slash]; rfl
end Mine
end

section
open PySem PySem.W PyProof.Rows PySem.Calls
set_option autoImplicit false
set_option linter.unusedVariables false
set_option maxRecDepth 100000
namespace Mine
theorem rfind_at {p : Str} {a n : List Nat} (h : L p = a ++ 47 :: n) (hn : 47 ∉ n) : Txt.rfind p "/" = a.length := by
  rw [slash_eq]
  unfold Txt.rfind
  rcases StrLaws.last_spec p ⟨#[47]⟩ with ⟨e, hno⟩ | ⟨i, e, hi, hmax⟩
  · refine absurd ((StrLaws.subAt_one p 47 a.length).mpr ?_) (hno a.length)
    show (L p)[a.length]? = _
    rw [h]; simp
  · rw [e]
    have h1 := (StrLaws.subAt_one p 47 i).mp hi
    have h1' : (a ++ 47 :: n)[i]? = some 47 := h ▸ h1
    have h2 : ¬ i < a.length := fun q => hmax a.length q ((StrLaws.subAt_one p 47 a.length).mpr (by show (L p)[a.length]? = _; rw [h]; simp))
    have h3 : ¬ a.length < i := fun q => by
      rw [List.getElem?_append_right (by omega)] at h1'
      have e' : i - a.length = (i - a.length - 1) + 1 := by omega
      rw [e', List.getElem?_cons_succ] at h1'
      exact hn (List.mem_of_getElem? h1')
    have : i = a.length := by omega
    subst this; rfl
theorem rfind_no {p : Str} (h : 47 ∉ L p) : Txt.rfind p "/" = -1 := by
  rw [slash_eq]
  unfold Txt.rfind
  rcases StrLaws.last_spec p ⟨#[47]⟩ with ⟨e, hno⟩ | ⟨i, e, hi, hmax⟩
  · rw [e]
  · exact absurd (List.mem_of_getElem? ((StrLaws.subAt_one p 47 i).mp hi)) h
theorem mul_slash (n : Int) : ∀ c ∈ L (Txt.mul "/" n), c = 47 := by
  have hf : ∀ (k : Nat) (acc : Array Nat), (∀ c ∈ acc.toList, c = 47) → ∀ c ∈ ((List.replicate k (#[47] : Array Nat)).foldl (· ++ ·) acc).toList, c = 47 := by
    intro k
    induction k with
    | zero => intro acc h; simpa using h
    | succ k ih =>
      intro acc h
      rw [List.replicate_succ, List.foldl_cons]
      refine ih _ fun c hc => ?_
      rw [Array.toList_append] at hc
      rcases List.mem_append.mp hc with hc | hc
      · exact h c hc
      · simpa using hc
  intro c hc
  unfold Txt.mul at hc
  split at hc
  · simp [L, Str.empty] at hc
  · split at hc
    · rw [L_slash] at hc; simpa using hc
    · rw [slash_eq] at hc
      exact hf _ #[] (by simp) c hc
theorem rstrip_one {x : Str} {a : List Nat} (h : L x = a ++ [47]) (ha : a.getLast? ≠ some 47) : L (Txt.rstripChars x "/") = a := by
  have hc : ("/" : Str).cps.contains = fun c => c == 47 := by
    rw [slash_eq]; funext c
    rw [Bool.eq_iff_iff]
    simp
  have hrev : ((L x).drop 0).reverse.takeWhile (fun c => c == 47) = [47] := by
    rw [List.drop_zero, h, List.reverse_append]
    rcases List.eq_nil_or_concat a with e | ⟨r, c, e⟩
    · subst e; rfl
    · subst e
      have hne : c ≠ 47 := fun q => ha (by rw [q]; simp)
      simp [hne]
  have hlen : x.length = a.length + 1 := by rw [← L_len, h]; simp
  have hhi : stripHi (fun c => c == 47) true x 0 = a.length := by
    unfold stripHi
    rw [if_pos rfl, hrev, hlen]; rfl
  unfold Txt.rstripChars Txt.stripBy
  rw [hc]
  have hlo : stripLo (fun c => c == 47) false x = 0 := rfl
  rw [if_neg]
  · unfold PySem.stripped
    rw [hlo, hhi]
    show L (Builtin.Str.strSub x 0 a.length) = a
    unfold L
    rw [StrLaws.strSub_toList]
    show ((L x).drop 0).take (a.length - 0) = a
    rw [h]; simp
  · unfold stripSame
    rw [hlo, hhi, hlen]
    simp
/-- the head and the tail of a path with a slash -/
theorem head_tail {p : Str} {a n : List Nat} (h : L p = a ++ 47 :: n) (hn : 47 ∉ n) (ha : a.getLast? ≠ some 47) : L (dTail p) = n ∧ L (dHead p) = if a = [] then [47] else a := by
  have hlen : p.length = a.length + 1 + n.length := by rw [← L_len, h]; simp; omega
  have hs : dSplitAt p = ((a.length + 1 : Nat) : Int) := by unfold dSplitAt; rw [rfind_at h hn]; push_cast; rfl
  have h0 : L (dHead0 p) = a ++ [47] := by
    unfold dHead0
    rw [hs, slice_to, h]
    have : a ++ 47 :: n = (a ++ [47]) ++ n := by simp
    rw [this]
    exact List.take_left' (by simp)
  have ht : L (dTail p) = n := by
    unfold dTail
    rw [hs, slice_from _ _ (by omega), h]
    have : a ++ 47 :: n = (a ++ [47]) ++ n := by simp
    rw [this]
    exact List.drop_left' (by simp)
  refine ⟨ht, ?_⟩
  have hl0 : (dHead0 p).length = a.length + 1 := by rw [← L_len, h0]; simp
  unfold dHead
  by_cases e : a = []
  · subst e
    rw [if_pos rfl, if_neg]
    · exact h0
    · have e1 : dHead0 p = "/" := L_inj (by rw [h0, L_slash]; rfl)
      rw [e1]
      decide +kernel
  · rw [if_neg e, if_pos]
    · exact rstrip_one h0 ha
    · have hne : dHead0 p ≠ Txt.mul "/" (dHead0 p).length := fun q => by
        have hall := mul_slash (dHead0 p).length
        rw [← q, h0] at hall
        rcases List.eq_nil_or_concat a with e' | ⟨r, c, e'⟩
        · exact e e'
        · have := hall c (by rw [e']; simp)
          exact ha (by rw [e', this]; simp)
      rw [decide_eq_true (show (dHead0 p).length ≠ 0 by omega), decide_eq_true hne]; rfl
theorem head_tail_no {p : Str} (h : 47 ∉ L p) : dTail p = p ∧ dHead p = "" := by
  have hs : dSplitAt p = ((0 : Nat) : Int) := by unfold dSplitAt; rw [rfind_no h]; rfl
  have h0 : dHead0 p = "" := by
    apply L_inj
    unfold dHead0
    rw [hs, slice_to, L_empty]; rfl
  refine ⟨?_, ?_⟩
  · apply L_inj
    unfold dTail
    rw [hs, slice_from _ _ (Nat.zero_le _)]; rfl
  · unfold dHead
    rw [h0, if_neg (by decide +kernel)]
theorem names_stop {root : Str} (hr : rootOk root) (n : Nat) (acc : List Str) : dNames (n + 1) root acc = acc := by
  rw [dNames, if_pos]
  rcases hr with rfl | rfl <;> decide +kernel
/-- split upon split reads the names -/
theorem names_path {root : Str} (hr : rootOk root) : ∀ (m : Nat) (row acc : List Str), row.length ≤ m → (∀ n ∈ row, Nm n) → dNames (m + 1) (pathOf root row) acc = row ++ acc := by
  intro m
  have er : pathOf root [] = root := by
    apply L_inj; unfold pathOf; rw [L_append]
    show L root ++ [] = _
    simp
  induction m with
  | zero =>
    intro row acc hl hn
    have : row = [] := List.length_eq_zero_iff.mp (by omega)
    subst this
    rw [er]; exact names_stop hr 0 acc
  | succ m ih =>
    intro row acc hl hn
    rcases List.eq_nil_or_concat row with e | ⟨init, x, e⟩
    · subst e; rw [er]; exact names_stop hr _ acc
    · rw [List.concat_eq_append] at e
      subst e
      have hx := hn x (by simp)
      have hin : ∀ n ∈ init, Nm n := fun n h => hn n (by simp [h])
      have hil : init.length ≤ m := by simp at hl; omega
      have hed := path_ed (root := root) (row := init ++ [x]) (by simp) hn
      have hne : (decide (pathOf root (init ++ [x]) = "") || decide (pathOf root (init ++ [x]) = "/")) = false := by
        rw [Bool.or_eq_false_iff]
        refine ⟨decide_eq_false fun q => ?_, decide_eq_false fun q => ?_⟩
        · have := congrArg L q
          unfold pathOf at this
          rw [L_append, L_empty] at this
          exact hed.ne (List.append_eq_nil_iff.mp this).2
        · have := congrArg L q
          unfold pathOf at this
          rw [L_append, L_slash] at this
          rcases hr with rfl | rfl
          · rw [L_empty, List.nil_append] at this
            exact hed.first (by rw [this]; rfl)
          · rw [L_slash] at this
            simp only [List.cons_append, List.nil_append, List.cons.injEq, true_and] at this
            exact hed.ne this
      rw [dNames, if_neg (by rw [hne]; decide)]
      by_cases hi : init = []
      · subst hi
        rcases hr with rfl | rfl
        · have hp : L (pathOf "" ([] ++ [x])) = L x := by unfold pathOf; rw [L_append, L_empty]; rfl
          obtain ⟨a, b⟩ := head_tail_no (p := pathOf "" ([] ++ [x])) (by rw [hp]; exact hx.free)
          rw [b, a, names_stop (.inl rfl), L_inj hp]; rfl
        · have hp : L (pathOf "/" ([] ++ [x])) = [] ++ 47 :: L x := by unfold pathOf; rw [L_append, L_slash]; rfl
          obtain ⟨a, b⟩ := head_tail hp hx.free (by simp)
          rw [if_pos rfl, ← L_slash] at b
          rw [L_inj b, L_inj a, names_stop (.inr rfl)]; rfl
      · have hed2 := path_ed (root := root) (row := init) hi hin
        have hp : L (pathOf root (init ++ [x])) = L (pathOf root init) ++ 47 :: L x := by
          unfold pathOf
          rw [L_append, L_append, L_join, L_join, List.map_append, jn_append (by simpa using hi) (by simp)]
          simp [jn]
        have hlast : (L (pathOf root init)).getLast? ≠ some 47 := by
          unfold pathOf
          rw [L_append]
          have := hed2.last
          rcases List.eq_nil_or_concat (L (Str.join "/" init)) with e | ⟨r, c, e⟩
          · exact absurd e hed2.ne
          · rw [e] at this ⊢; simpa [← List.append_assoc] using this
        obtain ⟨a, b⟩ := head_tail hp hx.free hlast
        rw [if_neg (by unfold pathOf; rw [L_append]; simp [hed2.ne])] at b
        rw [L_inj b, L_inj a, ih init _ hil hin]
        simp
theorem head_len (p : Str) : (dHead p).length ≤ p.length := by
  have h0 : (dHead0 p).length ≤ p.length := Txt.slice_le p _ _
  unfold dHead
  split
  · refine Nat.le_trans ?_ h0
    unfold Txt.rstripChars Txt.stripBy
    split
    · exact Nat.le_refl _
    · unfold PySem.stripped Builtin.Str.strSub
      show (Array.extract _ _ _).size ≤ _
      rw [Array.size_extract]
      show min _ (dHead0 p).length - _ ≤ _
      omega
  · exact h0
theorem heads_len (p : Str) : ∀ i, (dHeads p i).length ≤ p.length
  | 0 => Nat.le_refl _
  | i + 1 => Nat.le_trans (head_len _) (heads_len p i)
end Mine
end

section
open PySem PySem.W PyProof.Rows PySem.Calls
set_option autoImplicit false
set_option linter.unusedVariables false
set_option maxRecDepth 100000
namespace Mine
def tsign (a b : List Nat) : Int := b2i (decide (b < a)) - b2i (decide (a < b))
def rsign (xs ys : List Str) : Int := b2i (rowLt ys xs) - b2i (rowLt xs ys)
theorem lt_cons_iff {x y : Nat} {xs ys : List Nat} : (x :: xs < y :: ys) ↔ (x < y ∨ (x = y ∧ xs < ys)) := List.cons_lt_cons_iff
theorem tsign_same (x : Nat) (xs ys : List Nat) : tsign (x :: xs) (x :: ys) = tsign xs ys := by
  unfold tsign
  have e1 : (x :: ys < x :: xs) = (ys < xs) := by apply propext; rw [lt_cons_iff]; simp
  have e2 : (x :: xs < x :: ys) = (xs < ys) := by apply propext; rw [lt_cons_iff]; simp
  simp only [e1, e2]
theorem tsign_lt {x y : Nat} (h : x < y) (xs ys : List Nat) : tsign (x :: xs) (y :: ys) = -1 := by
  unfold tsign
  have e1 : ¬ (y :: ys < x :: xs) := by rw [lt_cons_iff]; omega
  have e2 : (x :: xs < y :: ys) := by rw [lt_cons_iff]; exact .inl h
  rw [decide_eq_false e1, decide_eq_true e2]; rfl
theorem tsign_gt {x y : Nat} (h : y < x) (xs ys : List Nat) : tsign (x :: xs) (y :: ys) = 1 := by
  unfold tsign
  have e1 : (y :: ys < x :: xs) := by rw [lt_cons_iff]; exact .inl h
  have e2 : ¬ (x :: xs < y :: ys) := by rw [lt_cons_iff]; omega
  rw [decide_eq_true e1, decide_eq_false e2]; rfl
theorem tsign_nil_l (y : Nat) (ys : List Nat) : tsign [] (y :: ys) = -1 := by
  unfold tsign
  have e1 : ¬ (y :: ys < []) := by simp
  have e2 : ([] < y :: ys) := by simp
  rw [decide_eq_false e1, decide_eq_true e2]; rfl
theorem tsign_nil_r (x : Nat) (xs : List Nat) : tsign (x :: xs) [] = 1 := by
  unfold tsign
  have e1 : ([] < x :: xs) := by simp
  have e2 : ¬ (x :: xs < []) := by simp
  rw [decide_eq_true e1, decide_eq_false e2]; rfl
theorem tsign_nil : tsign [] [] = 0 := by decide
theorem tsign_app (p : List Nat) (xs ys : List Nat) : tsign (p ++ xs) (p ++ ys) = tsign xs ys := by
  induction p with
  | nil => rfl
  | cons c p ih => rw [List.cons_append, List.cons_append, tsign_same, ih]
theorem tsign_self (p : List Nat) : tsign p p = 0 := by
  have := tsign_app p [] []
  rw [List.append_nil] at this
  rw [this, tsign_nil]
theorem sizes_succ (a b : Nat) : sizes (a + 1) (b + 1) = sizes a b := by
  have := sizes_drop (a := a + 1) (b := b + 1) (k := 1) (by omega) (by omega)
  simpa using this.symm
/-- the law's signs are the order of texts -/
theorem signs_eq : ∀ (a b : List Nat), dSigns a b = tsign a b
  | [], [] => by rw [tsign_nil]; decide
  | [], y :: ys => by
    rw [dSigns_end (.inl rfl), tsign_nil_l]
    unfold sizes
    have e1 : ¬ ((([] : List Nat).length : Int) > ((y :: ys).length : Nat)) := by simp; omega
    have e2 : ((([] : List Nat).length : Int) < ((y :: ys).length : Nat)) := by simp
    rw [decide_eq_false e1, decide_eq_true e2]; rfl
  | x :: xs, [] => by
    rw [dSigns_end (.inr rfl), tsign_nil_r]
    unfold sizes
    have e1 : (((x :: xs).length : Int) > (([] : List Nat).length : Nat)) := by simp
    have e2 : ¬ (((x :: xs).length : Int) < (([] : List Nat).length : Nat)) := by simp; omega
    rw [decide_eq_true e1, decide_eq_false e2]; rfl
  | x :: xs, y :: ys => by
    rw [dSigns]
    by_cases h : x = y
    · subst h; rw [if_pos rfl, signs_eq xs ys, tsign_same]
    · rw [if_neg h]
      by_cases h2 : x < y
      · rw [if_pos h2, tsign_lt h2]
      · rw [if_neg h2, tsign_gt (by omega)]
theorem rsign_same (x : Str) (xs ys : List Str) : rsign (x :: xs) (x :: ys) = rsign xs ys := by
  unfold rsign
  rw [rowLt, rowLt, if_pos rfl, if_pos rfl]
theorem rsign_ne {x y : Str} (h : x ≠ y) (xs ys : List Str) : rsign (x :: xs) (y :: ys) = tsign (L x) (L y) := by
  unfold rsign
  rw [rowLt, rowLt, if_neg h, if_neg (fun q => h q.symm)]
  rfl
theorem rows_eq : ∀ (xs ys : List Str), dRows xs ys = rsign xs ys
  | [], ys => by
    rw [dRows_end (.inl rfl)]
    unfold rsign sizes
    cases ys with
    | nil => decide
    | cons y ys =>
      have e1 : ¬ ((([] : List Str).length : Int) > ((y :: ys).length : Nat)) := by simp; omega
      have e2 : ((([] : List Str).length : Int) < ((y :: ys).length : Nat)) := by simp
      rw [decide_eq_false e1, decide_eq_true e2]
      simp [rowLt]
  | x :: xs, [] => by
    rw [dRows_end (.inr rfl)]
    unfold rsign sizes
    have e1 : (((x :: xs).length : Int) > (([] : List Str).length : Nat)) := by simp
    have e2 : ¬ (((x :: xs).length : Int) < (([] : List Str).length : Nat)) := by simp; omega
    rw [decide_eq_true e1, decide_eq_false e2]
    simp [rowLt]
  | x :: xs, y :: ys => by
    rw [dRows]
    by_cases h : x = y
    · subst h; rw [if_pos rfl, rows_eq xs ys, rsign_same]
    · rw [if_neg h, rsign_ne h]; exact signs_eq _ _
/-- two signs rows: one begins the other, or they part -/
theorem part_ways : ∀ (a b : List Nat), a ≠ b → (∃ d r, b = a ++ d :: r) ∨ (∃ d r, a = b ++ d :: r) ∨ ∃ p u v r t, a = p ++ u :: r ∧ b = p ++ v :: t ∧ u ≠ v
  | [], [], h => absurd rfl h
  | [], y :: ys, _ => .inl ⟨y, ys, rfl⟩
  | x :: xs, [], _ => .inr (.inl ⟨x, xs, rfl⟩)
  | x :: xs, y :: ys, h => by
    by_cases e : x = y
    · subst e
      rcases part_ways xs ys (fun q => h (by rw [q])) with ⟨d, r, q⟩ | ⟨d, r, q⟩ | ⟨p, u, v, r, t, q1, q2, q3⟩
      · exact .inl ⟨d, r, by rw [q]; rfl⟩
      · exact .inr (.inl ⟨d, r, by rw [q]; rfl⟩)
      · exact .inr (.inr ⟨x :: p, u, v, r, t, by rw [q1]; rfl, by rw [q2]; rfl, q3⟩)
    · exact .inr (.inr ⟨[], x, y, xs, ys, rfl, rfl, e⟩)
theorem tsign_ne {p : List Nat} {u v : Nat} (h : u ≠ v) (r t r' t' : List Nat) : tsign (p ++ u :: r) (p ++ v :: t) = tsign (p ++ u :: r') (p ++ v :: t') := by
  rw [tsign_app, tsign_app]
  by_cases q : u < v
  · rw [tsign_lt q, tsign_lt q]
  · rw [tsign_gt (by omega), tsign_gt (by omega)]
theorem tsign_swap (a b : List Nat) : tsign a b = -tsign b a := by unfold tsign; omega
end Mine
end

section
open PySem PySem.W PyProof.Rows PySem.Calls
set_option autoImplicit false
set_option linter.unusedVariables false
set_option maxRecDepth 100000
namespace Mine
theorem rsign_swap (xs ys : List Str) : rsign xs ys = -rsign ys xs := by unfold rsign; omega
theorem jn_head (a : List Nat) : ∀ ps : List (List Nat), (ps = [] ∧ jn (a :: ps) = a) ∨ (ps ≠ [] ∧ jn (a :: ps) = a ++ 47 :: jn ps)
  | [] => .inl ⟨rfl, rfl⟩
  | p :: r => .inr ⟨by simp, rfl⟩
/-- the shorter head begins the longer one -/
theorem turn_short {x y : Str} {d : Nat} {r : List Nat} (hy : L y = L x ++ d :: r) (hd : d ≠ 47) (xs ys : List Str) :
    decide (tsign (jn ((x :: xs).map L)) (jn ((y :: ys).map L)) ≠ rsign (x :: xs) (y :: ys)) = dTurnedAt (x :: xs) (y :: ys) 0 x y := by
  have hne : x ≠ y := fun q => by
    have := congrArg List.length hy
    rw [q] at this; simp at this
  have hlen : x.length < y.length := by
    have := congrArg List.length hy
    rw [L_len] at this
    simp only [List.length_append, List.length_cons, L_len] at this
    omega
  have h1 : rsign (x :: xs) (y :: ys) = -1 := by
    have q := tsign_app (L x) [] (d :: r)
    rw [List.append_nil, tsign_nil_l] at q
    rw [rsign_ne hne, hy, q]
  have h2 : Txt.slice y none (some (x.length : Int)) = x := by
    apply L_inj
    rw [slice_to, hy]
    exact List.take_left' (L_len x)
  have h3 : y.cps.getD x.length 0 = d := by
    have e : (L y)[x.length]? = some d := by
      rw [hy, List.getElem?_append_right (by rw [L_len]; omega), L_len]; simp
    have e' : y.cps[x.length]? = some d := by
      rw [← Array.getElem?_toList]; exact e
    simp [Array.getD_eq_getD_getElem?, e']
  obtain ⟨t, ht⟩ : ∃ t, jn ((y :: ys).map L) = L x ++ d :: t := by
    rw [List.map_cons]
    rcases jn_head (L y) (ys.map L) with ⟨_, q⟩ | ⟨_, q⟩ <;> rw [q, hy]
    · exact ⟨r, rfl⟩
    · exact ⟨r ++ 47 :: jn (ys.map L), by simp⟩
  unfold dTurnedAt
  rw [h2, h3, h1, ht, decide_eq_false (show ¬ ((x.length : Int) = y.length) by omega), decide_eq_false (show ¬ (x ≠ x) by simp)]
  rw [if_neg (by decide), List.map_cons]
  cases xs with
  | nil =>
    have q := tsign_app (L x) [] (d :: t)
    rw [List.append_nil, tsign_nil_l] at q
    show decide (tsign (L x) (L x ++ d :: t) ≠ -1) = _
    rw [q]; simp
  | cons x2 xs =>
    have q : jn (L x :: (x2 :: xs).map L) = L x ++ 47 :: jn ((x2 :: xs).map L) := rfl
    rw [q, tsign_app]
    have hl : decide (((x :: x2 :: xs).length : Int) > ((0 : Nat) : Int) + 1) = true := by
      apply decide_eq_true; simp only [List.length_cons]; omega
    rw [hl, Bool.true_and]
    by_cases g : d < 47
    · rw [tsign_gt g]
      rw [decide_eq_true (show ((d : Nat) : Int) < 47 by omega)]; decide
    · rw [tsign_lt (by omega), decide_eq_false (show ¬ ((d : Nat) : Int) < 47 by omega)]; decide
theorem turn_ne (P Q : Int) : decide (-P ≠ -Q) = decide (P ≠ Q) := by
  by_cases h : P = Q
  · subst h; simp
  · rw [decide_eq_true h, decide_eq_true (show -P ≠ -Q by omega)]
/-- where the first names part -/
theorem turn_heads {x y : Str} (h : x ≠ y) (hx : Nm x) (hy : Nm y) (xs ys : List Str) :
    decide (tsign (jn ((x :: xs).map L)) (jn ((y :: ys).map L)) ≠ rsign (x :: xs) (y :: ys)) = dTurned (x :: xs) (y :: ys) 0 := by
  have hu : dTurned (x :: xs) (y :: ys) 0 = if x.length < y.length then dTurnedAt (x :: xs) (y :: ys) 0 x y else dTurnedAt (y :: ys) (x :: xs) 0 y x := rfl
  rw [hu]
  rcases part_ways (L x) (L y) (fun q => h (L_inj q)) with ⟨d, r, q⟩ | ⟨d, r, q⟩ | ⟨p, u, v, r, t, q1, q2, q3⟩
  · have hl := congrArg List.length q
    simp only [List.length_append, List.length_cons, L_len] at hl
    rw [if_pos (by omega)]
    exact turn_short q (fun z => hy.free (by rw [q, z]; simp)) xs ys
  · have hl := congrArg List.length q
    simp only [List.length_append, List.length_cons, L_len] at hl
    rw [if_neg (by omega), tsign_swap, rsign_swap, turn_ne]
    exact turn_short q (fun z => hx.free (by rw [q, z]; simp)) ys xs
  · have e1 : tsign (jn ((x :: xs).map L)) (jn ((y :: ys).map L)) = rsign (x :: xs) (y :: ys) := by
      rw [rsign_ne h, q1, q2, List.map_cons, List.map_cons]
      have f : ∀ (a : List Nat) (ps : List (List Nat)), ∃ z, jn (a :: ps) = a ++ z := fun a ps => by
        rcases jn_head a ps with ⟨_, e⟩ | ⟨_, e⟩
        · exact ⟨[], by rw [e]; simp⟩
        · exact ⟨_, e⟩
      obtain ⟨z1, e1⟩ := f (L x) (xs.map L)
      obtain ⟨z2, e2⟩ := f (L y) (ys.map L)
      rw [e1, e2, q1, q2, List.append_assoc, List.append_assoc, List.cons_append, List.cons_append]
      exact tsign_ne q3 _ _ _ _
    have at_no : ∀ (s l : List Str) (a b : Str), (∀ z, L b ≠ L a ++ z) → dTurnedAt s l 0 a b = false := fun s l a b hz => by
      unfold dTurnedAt
      rw [if_pos]
      rw [Bool.or_eq_true]; right
      apply decide_eq_true
      intro z
      have := congrArg L z
      rw [slice_to] at this
      refine hz ((L b).drop a.length) ?_
      conv => lhs; rw [← List.take_append_drop a.length (L b), this]
    have nz : ∀ {a b : List Nat} {u v : Nat} {r t : List Nat}, a = p ++ u :: r → b = p ++ v :: t → u ≠ v → ∀ z, b ≠ a ++ z := fun {a b u v r t} h1 h2 h3 z e => by
      rw [h1, h2, List.append_assoc] at e
      have := List.append_cancel_left e
      simp only [List.cons_append, List.cons.injEq] at this
      exact h3 this.1.symm
    rw [decide_eq_false (by rw [e1]; simp)]
    split
    · exact (at_no _ _ _ _ (nz q1 q2 q3)).symm
    · exact (at_no _ _ _ _ (nz q2 q1 (fun e => q3 e.symm))).symm
theorem jn_cons_ne {a : List Nat} : ∀ {ps : List (List Nat)}, ps ≠ [] → jn (a :: ps) = a ++ 47 :: jn ps
  | [], h => absurd rfl h
  | _ :: _, _ => rfl
/-- the turned pairs are told by the names -/
theorem turned_law : ∀ {xs ys : List Str}, xs ≠ [] → ys ≠ [] → (∀ n ∈ xs, Nm n) → (∀ n ∈ ys, Nm n) →
    decide (tsign (jn (xs.map L)) (jn (ys.map L)) ≠ rsign xs ys) = dTurned xs ys (lcp xs ys).length
  | [], _, h, _, _, _ => absurd rfl h
  | _ :: _, [], _, h, _, _ => absurd rfl h
  | x :: xs, y :: ys, _, _, hx, hy => by
    by_cases e : x = y
    · subst e
      have hl : (lcp (x :: xs) (x :: ys)).length = (lcp xs ys).length + 1 := by rw [lcp, if_pos rfl]; rfl
      rw [hl, rsign_same, List.map_cons, List.map_cons]
      have ht : dTurned (x :: xs) (x :: ys) ((lcp xs ys).length + 1) = dTurned xs ys (lcp xs ys).length := by
        unfold dTurned
        rw [List.getElem?_cons_succ, List.getElem?_cons_succ]
        have at_eq : ∀ (s l : List Str) (c : Nat) (a b : Str), dTurnedAt (x :: s) l (c + 1) a b = dTurnedAt s [] c a b := fun s l c a b => by
          unfold dTurnedAt
          have : (((x :: s).length : Int) > ((c + 1 : Nat) : Int) + 1) = ((s.length : Int) > (c : Int) + 1) := by
            apply propext; simp only [List.length_cons]; omega
          simp only [this]
        have at_l : ∀ (s l l' : List Str) (c : Nat) (a b : Str), dTurnedAt s l c a b = dTurnedAt s l' c a b := fun _ _ _ _ _ _ => rfl
        cases xs[(lcp xs ys).length]? <;> cases ys[(lcp xs ys).length]? <;> try rfl
        simp only [at_eq]
        rw [at_l xs ys [], at_l ys xs []]
      rw [ht]
      cases xs with
      | nil =>
        cases ys with
        | nil => simp [tsign_self, jn]; decide
        | cons y ys =>
          rw [jn_cons_ne (ps := (y :: ys).map L) (by simp)]
          have q := tsign_app (L x) [] (47 :: jn ((y :: ys).map L))
          rw [List.append_nil, tsign_nil_l] at q
          show decide (tsign (L x) _ ≠ _) = _
          rw [q]; simp [rsign, rowLt, dTurned, b2i]
      | cons x2 xs =>
        cases ys with
        | nil =>
          rw [jn_cons_ne (ps := (x2 :: xs).map L) (by simp)]
          have q := tsign_app (L x) (47 :: jn ((x2 :: xs).map L)) []
          rw [List.append_nil, tsign_nil_r] at q
          show decide (tsign _ (L x) ≠ _) = _
          rw [q]; simp [rsign, rowLt, dTurned, b2i]
        | cons y2 ys =>
          rw [jn_cons_ne (by simp), jn_cons_ne (by simp), tsign_app, tsign_same]
          exact turned_law (by simp) (by simp) (fun n h => hx n (.tail _ h)) (fun n h => hy n (.tail _ h))
    · have hl : (lcp (x :: xs) (y :: ys)).length = 0 := by rw [lcp, if_neg e]; rfl
      rw [hl]
      exact turn_heads e (hx x (.head _)) (hy y (.head _)) xs ys
end Mine
end

section
open PySem PySem.W PyProof.Rows PySem.Calls
set_option autoImplicit false
set_option linter.unusedVariables false
set_option maxRecDepth 100000
namespace Mine
section
variable {K : Type}
theorem filter_lt {p q : K → Bool} {y : K} : ∀ {xs : List K}, (∀ x, p x = true → q x = true) → y ∈ xs → q y = true → p y = false → (xs.filter p).length < (xs.filter q).length
  | [], _, h, _, _ => absurd h List.not_mem_nil
  | x :: xs, hpq, h, hq, hp => by
    have hle : (xs.filter p).length ≤ (xs.filter q).length := by
      clear h
      induction xs with
      | nil => exact Nat.le_refl _
      | cons z xs ih =>
        cases e : p z with
        | true => rw [List.filter_cons_of_pos e, List.filter_cons_of_pos (hpq z e)]; simpa using ih
        | false =>
          rw [List.filter_cons_of_neg (by simp [e])]
          refine Nat.le_trans ih ?_
          exact (List.Sublist.filter q (List.sublist_cons_self z xs)).length_le
    rcases List.mem_cons.mp h with rfl | h
    · rw [List.filter_cons_of_neg (by simp [hp]), List.filter_cons_of_pos hq]
      simp only [List.length_cons]; omega
    · have ih := filter_lt hpq h hq hp
      cases e : p x with
      | true => rw [List.filter_cons_of_pos e, List.filter_cons_of_pos (hpq x e)]; simpa using ih
      | false =>
        rw [List.filter_cons_of_neg (by simp [e])]
        refine Nat.lt_of_lt_of_le ih ?_
        exact (List.Sublist.filter q (List.sublist_cons_self x xs)).length_le
/-- how many stand below -/
def rank (o : TO K) (xs : List K) (x : K) : Nat := (xs.filter fun y => o.lt y x).length
theorem le_of_rank {o : TO K} {xs : List K} {x y : K} (hy : y ∈ xs) (h : rank o xs x ≤ rank o xs y) : o.le x y := by
  show o.lt y x = false
  cases e : o.lt y x with
  | false => rfl
  | true =>
    have : rank o xs y < rank o xs x := filter_lt (y := y) (fun z hz => o.tr z y x hz e) hy e (o.irr y)
    omega
theorem rank_lt {o : TO K} {xs : List K} {x : K} (h : x ∈ xs) : rank o xs x < xs.length := by
  have := filter_lt (p := fun y => o.lt y x) (q := fun _ => true) (y := x) (xs := xs) (fun _ _ => rfl) h rfl (o.irr x)
  rw [List.filter_eq_self.mpr (fun _ _ => rfl)] at this
  exact this
def byRank (r : K → Nat) (n : Nat) (xs : List K) : List K := ((List.range n).map fun c => xs.filter fun x => decide (r x = c)).flatten
theorem byRank_perm (r : K → Nat) (xs : List K) : ∀ n, (byRank r n xs).Perm (xs.filter fun x => decide (r x < n))
  | 0 => by
    have : (xs.filter fun x => decide (r x < 0)) = [] := by simp
    rw [this]; exact .refl _
  | n + 1 => by
    have ih := byRank_perm r xs n
    unfold byRank at ih ⊢
    rw [List.range_succ, List.map_append, List.flatten_append]
    have h := List.filter_append_perm (fun x => decide (r x < n)) (xs.filter fun x => decide (r x < n + 1))
    rw [List.filter_filter, List.filter_filter] at h
    have e1 : (xs.filter fun x => (decide (r x < n) && decide (r x < n + 1))) = xs.filter fun x => decide (r x < n) := by
      congr 1; funext x; rw [Bool.eq_iff_iff]; simp; omega
    have e2 : (xs.filter fun x => (!decide (r x < n) && decide (r x < n + 1))) = xs.filter fun x => decide (r x = n) := by
      congr 1; funext x; rw [Bool.eq_iff_iff]; simp; omega
    rw [e1, e2] at h
    refine .trans ?_ h
    simp only [List.map_cons, List.map_nil, List.flatten_cons, List.flatten_nil, List.append_nil]
    exact ih.append_right _
theorem byRank_picked {o : TO K} {xs : List K} {n : Nat} (hn : xs.length ≤ n) : Picked o xs (byRank (rank o xs) n xs) := by
  refine ⟨?_, ?_⟩
  · have := byRank_perm (rank o xs) xs n
    rwa [List.filter_eq_self.mpr fun x hx => decide_eq_true (Nat.lt_of_lt_of_le (rank_lt hx) hn)] at this
  · unfold byRank
    rw [List.pairwise_flatten]
    refine ⟨fun l hl => ?_, ?_⟩
    · obtain ⟨c, _, rfl⟩ := List.mem_map.mp hl
      refine (List.pairwise_of_forall_mem_list ?_)
      intro a ha b hb
      have h1 := List.mem_filter.mp ha
      have h2 := List.mem_filter.mp hb
      have q1 := of_decide_eq_true h1.2
      have q2 := of_decide_eq_true h2.2
      exact le_of_rank h2.1 (by omega)
    · rw [List.pairwise_map]
      refine List.Pairwise.imp ?_ List.pairwise_lt_range
      intro c c' hc x hx y hy
      have h1 := List.mem_filter.mp hx
      have h2 := List.mem_filter.mp hy
      have q1 := of_decide_eq_true h1.2
      have q2 := of_decide_eq_true h2.2
      exact le_of_rank h2.1 (by omega)
theorem pick_filter (f : K → Dt) (r : K → Nat) (c : Nat) : ∀ xs : List K, (List.range xs.length).filterMap (fun i => if (xs.map r).getD i 0 = c then (xs.map f)[i]? else none) = (xs.filter fun x => decide (r x = c)).map f
  | [] => rfl
  | x :: xs => by
    have ih := pick_filter f r c xs
    rw [List.length_cons, List.range_succ_eq_map, List.filterMap_cons, List.filterMap_map]
    have e : ((fun i => if ((x :: xs).map r).getD i 0 = c then ((x :: xs).map f)[i]? else none) ∘ Nat.succ) = fun i => if (xs.map r).getD i 0 = c then (xs.map f)[i]? else none := by
      funext i; simp
    rw [e, ih]
    by_cases h : r x = c
    · rw [List.filter_cons_of_pos (p := fun x => decide (r x = c)) (decide_eq_true h)]; simp [h]
    · rw [List.filter_cons_of_neg (p := fun x => decide (r x = c)) (by simp [h])]; simp [h]
theorem dSorted_eq (f : K → Dt) (r : K → Nat) {xs : List K} (h6 : xs.length = 6) : dSorted (xs.map f) (xs.map r) = (byRank r 6 xs).map f := by
  unfold dSorted byRank
  rw [List.map_flatten, List.map_map]
  congr 1
  refine List.map_congr_left fun c _ => ?_
  have := pick_filter f r c xs
  rw [h6] at this
  exact this
theorem dPos_rank (o : TO K) (s : K → K → Int) (hs : ∀ x y, decide (s x y > 0) = o.lt y x) (xs : List K) : (xs.map fun x => xs.map fun y => s x y).map dPos = xs.map (rank o xs) := by
  rw [List.map_map]
  refine List.map_congr_left fun x _ => ?_
  show dPos (xs.map fun y => s x y) = _
  unfold dPos rank
  rw [List.filter_map, List.length_map]
  congr 2
  funext y
  exact hs x y
/-- the law's sorted list is the sorted list -/
theorem sorted_law (o : TO K) (f : K → Dt) (s : K → K → Int) (hs : ∀ x y, decide (s x y > 0) = o.lt y x) {xs : List K} (h6 : xs.length = 6) :
    ∃ ys, Picked o xs ys ∧ dSorted (xs.map f) ((xs.map fun x => xs.map fun y => s x y).map dPos) = ys.map f :=
  ⟨byRank (rank o xs) 6 xs, byRank_picked (by omega), by rw [dPos_rank o s hs, dSorted_eq f _ h6]⟩
end
theorem tsign_pos (x y : Str) : decide (tsign (L x) (L y) > 0) = strTO.lt y x := by
  show _ = decide (L y < L x)
  unfold tsign
  by_cases h : L y < L x
  · have h2 : ¬ L x < L y := fun q => List.lt_irrefl (L x) (List.lt_trans q h)
    rw [decide_eq_true h, decide_eq_false h2]; rfl
  · rw [decide_eq_false h]
    by_cases h2 : L x < L y
    · rw [decide_eq_true h2]; rfl
    · rw [decide_eq_false h2]; rfl
theorem rsign_pos (x y : List Str) : decide (rsign x y > 0) = rowTO.lt y x := by
  show _ = rowLt y x
  unfold rsign
  cases h : rowLt y x with
  | false => cases rowLt x y <;> rfl
  | true =>
    cases h2 : rowLt x y with
    | false => rfl
    | true => exact (rowLt_asymm x y h2 h).elim
end Mine
end

section
open PySem PySem.W PyProof.Rows PySem.Calls
set_option autoImplicit false
set_option linter.unusedVariables false
set_option maxRecDepth 100000
namespace Mine
section
variable {prog : Program} {w : Wd} {A : Around}
/-- a call of a def that stands where the heap shows it -/
theorem law_run {dr : DefRec} {name : Str} {params : Arguments} {body : List Stmt} {scope : Scope} {dpos : Pos} (e : dr = ⟨name, params, body, scope, dpos⟩) {f : Addr} {fo : Obj} {pm cd doc : Value} {ds : Ds} {d : Dt} {n : Nat} {H : Addr → Prop} {s : Shared} {vs : List Value}
    (G : Gd w H s.heap) (r : Reps s.heap H vs (ds.map (·.2))) (hR : Room A (n + 1)) (ho : s.heap.get? f = some fo)
    (hdata : fo.data = .func { docDef dr.name dr.params dr.body dr.scope pm cd doc with defaults := .none, kwdefaults := .none }) (hcode : s.heap.CodeRec cd dr.name)
    (hbind : ∀ {pm cd doc : Value} (vs : List Value), vs.length = ds.length → bindArgs (docDef name params body scope pm cd doc) ⟨vs, []⟩ = pure ((ds.map (·.1)).zip vs))
    (hkind : (ds.all fun y => scope.names.lookup y.1 == some .local || scope.names.lookup y.1 == some .cell) = true)
    {ρ κ : Ds} (hρ : locD (fun x => scope.names.lookup x) ds [] = ρ) (hκ : celD (fun x => scope.names.lookup x) ds [] = κ)
    (hco : scope.isCoroutine = false) (hgen : scope.isGenerator = false) (hk : scope.kind = .function)
    (h : ∀ L A', Room A' n → Exs prog w A' (envOfC name scope L f cd) ρ κ [] body (· = .ret d)) :
    wpAny (model prog w.wo) A (call (.ref f) vs) (fun v s' => Grow s s' ∧ Rep s'.heap H v d) No s := by
  subst e
  refine fn_of G r hR ho hdata hcode rfl rfl (fun vs hl => hbind vs hl) (fun n x hx => ?_) hco hgen hk fun L A' R => ?_
  · have := List.all_eq_true.mp hkind x hx
    rcases Bool.or_eq_true_iff.mp this with q | q
    · exact .inl (show scope.names.lookup x.1 = some .local by simpa using q)
    · have q' : scope.names.lookup x.1 = some .cell := by simpa using q
      exact .inr ⟨q', cellsFrom_some _ _ _ (.inl q')⟩
  · subst hρ hκ
    exact h L A' R
end
def bkOf (mg : Str → Option Value) (x : Str) : Addr := match mg x with
  | some (Value.ref a) => a
  | _ => 0
theorem gr_of {R : WRecords} {XP : (Str → Option Value) → Heap → Prop} {w₀ : World} {s₀ : Shared} {mg mb : Str → Option Value} {h : Heap} (G : Ground qv [] R XP w₀ s₀ mg mb h) : Gr ⟨w₀, bkOf mg⟩ h := by
  have bk : ∀ {x : Str} {a : Addr}, mg x = some (.ref a) → bkOf mg x = a := fun e => by unfold bkOf; rw [e]
  refine ⟨fun x d e => ?_, ⟨mg, G.T.g, fun x ⟨d, e⟩ => ?_, fun x hx => ?_⟩, ⟨mb, G.T.b, G.T.builtins⟩, G.T.nolimit⟩
  · obtain ⟨a, o, pm, cd, doc, dV, kV, h1, h2, h3, h4, h5⟩ := G.fn e
    show FnAt h (bkOf mg x) d
    rw [bk h1]
    exact ⟨o, pm, cd, doc, dV, kV, h2, h3, h4, fun q => h5.pos.elim (·.2) fun y => absurd q y.1, h5.kw.elim (·.2) fun y => absurd rfl y.1⟩
  · obtain ⟨a, o, pm, cd, doc, dV, kV, h1, _⟩ := G.fn e
    show mg x = some (Value.ref (bkOf mg x))
    rw [bk h1]; exact h1
  · have := List.all_eq_true.mp blt_free x hx
    simp only [Bool.and_eq_true, Bool.not_eq_true'] at this
    obtain ⟨⟨⟨⟨a1, a2⟩, a3⟩, a4⟩, a5⟩ := this
    have no : ∀ {l : List Str}, l.contains x = false → x ∉ l := fun q m => by rw [List.contains_iff_mem.mpr m] at q; cases q
    exact G.T.free x (no a1) (no a2) (no a3) (no a4) (no a5)
end Mine
end

section
open PySem PySem.W PyProof.Rows PySem.Calls
set_option autoImplicit false
set_option linter.unusedVariables false
set_option maxRecDepth 100000
namespace Mine
theorem bet_len (x : Str) : (Builtin.Str.partsBetween x (Builtin.Str.occurrences x "/" 0 x.length (x.length + 1)) ("/" : Str).length).length ≤ x.length + 1 := by
  have h := congrArg Str.length (StrLaws.glued_between_self x "/" (x.length + 1))
  rw [StrLaws.glued_eq_join] at h
  cases hs : Builtin.Str.partsBetween x (Builtin.Str.occurrences x "/" 0 x.length (x.length + 1)) ("/" : Str).length with
  | nil => simp
  | cons a l =>
    rw [hs, len_join_cons] at h
    have h1 : l.length ≤ l.length * ("/" : Str).length := Nat.le_mul_of_pos_right _ (by decide)
    simp only [List.length_cons] at *
    omega
theorem small_split {x : Str} (hz : x.length ≤ 100) : (Txt.split x "/").length ≤ 2 ^ 16 ∧ (∀ c ∈ Txt.split x "/", c.length ≤ 2 ^ 16) ∧ (Builtin.Str.partsBetween x (Builtin.Str.occurrences x "/" 0 x.length (x.length + 1)) ("/" : Str).length).length ≤ sizeLine := by
  have hw := split_weight x "/" (by decide)
  have hs : ∀ c ∈ Txt.split x "/", c.length ≤ x.length := fun c hc => part_short hc
  refine ⟨by omega, fun c hc => by have := hs c hc; omega, Nat.le_trans (bet_len x) (Nat.le_trans (Nat.add_le_add_right hz 1) (by decide))⟩
theorem joinOk_small {xs : List Str} (hl : xs.length ≤ 100) (h : ∀ x ∈ xs, x.length ≤ 100) : JoinOk "/" xs = true := by
  have := StrLaws.joinFits (sep := "/") h (by
    have h1 : xs.length * 100 ≤ 100 * 100 := Nat.mul_le_mul_right _ hl
    have h2 : xs.length * ("/" : Str).length ≤ 100 * 1 := Nat.mul_le_mul hl (by decide)
    omega)
  unfold JoinOk
  rw [this]; rfl
/-- a case's row -/
structure RowOk (row : List Str) : Prop where
  ne : row ≠ []
  len : row.length ≤ 3
  nm : ∀ n ∈ row, Nm n
  size : ∀ n ∈ row, n.length ≤ 3
theorem root_len {root : Str} (hr : rootOk root) : root.length ≤ 1 := by rcases hr with rfl | rfl <;> decide +kernel
theorem joined_len {row : List Str} {B : Nat} (h3 : row.length ≤ 3) (h : ∀ n ∈ row, n.length ≤ B) : (Str.join "/" row).length ≤ 3 * (B + 1) := Nat.le_trans (join_len h) (Nat.mul_le_mul_right _ h3)
theorem dJoin_len {root : Str} (hr : rootOk root) {ps : List Str} (h3 : ps.length ≤ 3) (he : ∀ p ∈ ps, Ed (L p)) (h : ∀ p ∈ ps, p.length ≤ 8) : (dJoin root ps).length ≤ 28 := by
  have h1 := root_len hr
  by_cases e : ps = []
  · subst e
    show root.length ≤ 28
    omega
  · rw [dJoin_eq hr e he, Str.length_append]
    have := joined_len h3 h
    omega
section
variable {prog : Program} {w : Wd} {A : Around}
theorem op_join {root : Str} (hr : rootOk root) {row parts : List Str} (hk : RowOk row) (h : RP row parts) (hR : Room A 2) :
    OpN prog w A (fun vs => call (.ref (w.bk "join")) vs) (.str root :: parts.map .str) (.str (dJoin root parts)) := by
  have hl := h.len
  have h3 := hk.len
  have h1 : 1 ≤ row.length := by
    cases row with
    | nil => exact absurd rfl hk.ne
    | cons => simp
  refine fn_join (by omega) (fun i => ?_) (fun b hb => Nat.le_trans (h.size.2 b hb) (by decide)) hR
  refine Nat.le_trans (dJoin_len hr (by rw [List.length_take]; omega) (fun p hp => h.ed p (List.mem_of_mem_take hp)) fun p hp => h.size.2 p (List.mem_of_mem_take hp)) (by decide)
theorem op_norm {root : Str} (hr : rootOk root) {row parts : List Str} (hk : RowOk row) (h : RP row parts) (hR : Room A 3) :
    OpN prog w A (fun vs => call (.ref (w.bk "normpath")) vs) [.str (dJoin root parts)] (.str (pathOf root row)) := by
  have hl := h.len
  have h3 := hk.len
  obtain ⟨e1, e2, e3⟩ := norm_eq hr h hk.ne
  have hd := dJoin_len hr (by omega) h.ed h.size.2
  have hj := joined_len (row := parts) (by omega) h.size.2
  have hr1 := root_len hr
  obtain ⟨a, b, c⟩ := small_split (x := Str.join "/" parts) (by omega)
  have := fn_normpath (prog := prog) (w := w) (A := A) (p := dJoin root parts) (by omega) (by rw [e1]; exact a) (by rw [e1]; exact c)
    (by rw [e1, e2]; exact joinOk_small (by omega) fun x hx => Nat.le_trans (hk.size x hx) (by decide))
    (by
      rw [e1, e2, join_eq]
      have := path_len hr hk.len hk.size
      exact Nat.le_trans this (by decide))
    (by rw [e1]; show root.length ≤ _; omega) (by rw [e1]; show (Str.join "/" parts).length ≤ _; omega) (by rw [e1]; exact b) hR
  rwa [e3] at this
theorem op_names {root : Str} (hr : rootOk root) {row : List Str} (h3 : row.length ≤ 3) (hn : ∀ n ∈ row, Nm n) (hs : ∀ n ∈ row, n.length ≤ 3) (hR : Room A 3) :
    OpN prog w A (fun vs => call (.ref (w.bk "_law_names")) vs) [.str (pathOf root row)] (dtRow row) := by
  have := fn_names (prog := prog) (w := w) (A := A) (p := pathOf root row) (fun i => Nat.le_trans (heads_len _ i) (Nat.le_trans (path_len hr h3 hs) (by decide))) hR
  rwa [names_path hr 3 row [] h3 hn, List.append_nil] at this
theorem lcp_sub : ∀ (xs ys : List Str), ∃ r, xs = lcp xs ys ++ r
  | [], ys => ⟨[], by cases ys <;> rfl⟩
  | x :: xs, [] => ⟨x :: xs, rfl⟩
  | x :: xs, y :: ys => by
    rw [lcp]
    by_cases e : x = y
    · rw [if_pos e]
      obtain ⟨r, q⟩ := lcp_sub xs ys
      exact ⟨r, by rw [List.cons_append, ← q]⟩
    · rw [if_neg e]; exact ⟨x :: xs, rfl⟩
theorem op_common {root : Str} (hr : rootOk root) {xs ys : List Str} (hx : RowOk xs) (hy : RowOk ys) (hR : Room A 3) :
    OpN prog w A (fun vs => call (.ref (w.bk "commonpath")) vs) [.list [.str (pathOf root xs), .str (pathOf root ys)]] (.str (pathOf root (lcp xs ys))) := by
  have ok : ∀ {row : List Str}, RowOk row → SplitOk (pathOf root row) := fun {row} h => by
    have hl := path_len hr h.len h.size
    obtain ⟨a, b, c⟩ := small_split (x := pathOf root row) (by omega)
    exact ⟨by omega, a, b, c⟩
  have e1 := starts_path hr hx.ne hx.nm
  have e2 := starts_path hr hy.ne hy.nm
  have e3 := parts_path hr hx.ne hx.nm
  have e4 := parts_path hr hy.ne hy.nm
  obtain ⟨r, hr'⟩ := lcp_sub xs ys
  have hm : ∀ n ∈ lcp xs ys, n ∈ xs := fun n hn => by rw [hr']; exact List.mem_append_left _ hn
  have hl3 : (lcp xs ys).length ≤ 3 := by
    have := congrArg List.length hr'
    rw [List.length_append] at this
    have := hx.len
    omega
  have ed : dCommon (pathOf root xs) (pathOf root ys) = pathOf root (lcp xs ys) := by
    unfold dCommon
    rw [e1, e3, e4, join_eq]; rfl
  have := fn_commonpath (prog := prog) (w := w) (A := A) (ok hx) (ok hy) (by
      have inj : ∀ a b : Bool, sepIf a = sepIf b → a = b := by decide +kernel
      exact inj _ _ (e1.trans e2.symm)) (by rw [e3, e4]; exact joinOk_small (by omega) fun x h => Nat.le_trans (hx.size x (hm x h)) (by decide))
    (by rw [ed]; exact Nat.le_trans (path_len hr hl3 fun n hn => hx.size n (hm n hn)) (by decide)) hR
  rwa [ed] at this
end
/-- the case drawn is one -/
theorem pool_len : ∀ x ∈ poolS, x.length ≤ 3 := by decide +kernel
theorem crook_len : ∀ x ∈ crookS, x.length ≤ 5 := by decide +kernel
theorem cName_mem (c : Int) (i : Nat) : cName c i ∈ poolS := by
  have := fmod_pos ((c.fdiv 3).fdiv (8 ^ i)) (n := 8) (by decide)
  have hl : (((c.fdiv 3).fdiv (8 ^ i)).fmod 8).toNat < poolS.length := by show _ < 8; omega
  unfold cName
  rw [List.getD_eq_getElem?_getD, List.getElem?_eq_getElem hl]
  exact List.getElem_mem hl
theorem cCrook_mem (c : Int) (i : Nat) : cCrook c i ∈ crookS := by
  have := fmod_pos ((c.fdiv 1536).fdiv (4 ^ i)) (n := 4) (by decide)
  have hl : (((c.fdiv 1536).fdiv (4 ^ i)).fmod 4).toNat < crookS.length := by show _ < 4; omega
  unfold cCrook
  rw [List.getD_eq_getElem?_getD, List.getElem?_eq_getElem hl]
  exact List.getElem_mem hl
theorem case_rp (c : Int) : ∀ l : List Nat, RP (l.map (cName c)) (l.map fun i => cCrook c i ++ cName c i)
  | [] => .nil
  | i :: l => by
    have h1 := cName_mem c i
    have h2 := cCrook_mem c i
    obtain ⟨pc, a, b⟩ := crook_pc h2 (cName c i)
    refine .cons (pool_nm _ h1) ⟨a, b⟩ (pool_len _ h1) ?_ (case_rp c l)
    rw [Str.length_append]
    have := pool_len _ h1
    have := crook_len _ h2
    omega
theorem case_ok (c : Int) : RowOk (cRow c) ∧ RP (cRow c) (cPart c) := by
  obtain ⟨h3, h1⟩ := cLen_le c
  have rp : RP (cRow c) (cPart c) := case_rp c (List.range (cLen c))
  have hl : (cRow c).length = cLen c := by unfold cRow; simp
  exact ⟨⟨fun q => by rw [q] at hl; simp at hl; omega, by omega, rp.nm, rp.size.1⟩, rp⟩
theorem root_ok (ns : List Int) : rootOk (dRootOf ns) := by
  have := fmod_pos (dDrawn ns).sum (n := 2) (by decide)
  unfold dRootOf
  have h : (dDrawn ns).sum.fmod 2 = 0 ∨ (dDrawn ns).sum.fmod 2 = 1 := by omega
  rcases h with h | h <;> rw [h]
  · exact .inl (by decide +kernel)
  · exact .inr (by decide +kernel)
end Mine
end

section
open PySem PySem.W PyProof.Rows PySem.Calls
set_option autoImplicit false
set_option linter.unusedVariables false
set_option maxRecDepth 100000
namespace Mine
section
variable {prog : Program} {w : Wd} {A : Around} {env : Env} {ρ κ : Ds} {own : Own}
theorem n_case : IsDef "_law_case" := ⟨_, def_case⟩
theorem k_case : IsDef "_law_case" := ⟨_, def_case⟩
theorem n_normpath : IsDef "normpath" := ⟨_, def_normpath⟩
theorem k_normpath : IsDef "normpath" := ⟨_, def_normpath⟩
theorem n_join : IsDef "join" := ⟨_, def_join⟩
theorem k_join : IsDef "join" := ⟨_, def_join⟩
theorem n_names : IsDef "_law_names" := ⟨_, def_names⟩
theorem k_names : IsDef "_law_names" := ⟨_, def_names⟩
theorem n_strcoll : IsDef "_strcoll" := ⟨_, def_strcoll⟩
theorem k_strcoll : IsDef "_strcoll" := ⟨_, def_strcoll⟩
theorem n_three : IsDef "three_way_cmp" := ⟨_, def_three⟩
theorem k_three : IsDef "three_way_cmp" := ⟨_, def_three⟩
theorem n_rows : IsDef "_law_rows" := ⟨_, def_rows⟩
theorem k_rows : IsDef "_law_rows" := ⟨_, def_rows⟩
theorem n_common : IsDef "commonpath" := ⟨_, def_common⟩
theorem k_common : IsDef "commonpath" := ⟨_, def_common⟩
theorem n_turned : IsDef "_law_turned" := ⟨_, def_turned⟩
theorem k_turned : IsDef "_law_turned" := ⟨_, def_turned⟩
theorem n_lawsorted : IsDef "_law_sorted" := ⟨_, def_lawsorted⟩
theorem k_lawsorted : IsDef "_law_sorted" := ⟨_, def_lawsorted⟩
def dtTwo (p : Dt × Dt) : Dt := .tuple [p.1, p.2]
def two (x y : Str) : Dt → Ds
  | .tuple [a, b] => [(y, b), (x, a)]
  | _ => []
/-- a map: the target two names -/
theorem Comp1.mapT {elt iter : Expr} {x y : Str} {px py tp : Pos} {k : Nat} {scope : Scope} {ds : List (Dt × Dt)} {es : List Dt} (hh : A.handled = none) (hit : EvIt prog w A env ρ κ own iter (ds.map dtTwo)) (hlen : es.length = ds.length) (cl : List (Str × Addr)) (hclos : closureFor scope env = pure cl) (hsub : SubC cl env.cells)
    (helt : ∀ C (i : Nat) p e, ds[i]? = some p → es[i]? = some e → Ev prog w A (compEnvC scope cl C env) [(y, p.2), (x, p.1)] κ [] elt e)
    (h0 : ∀ n acc, cellsFrom n scope.names acc = acc := by exact fun _ _ => rfl) (hp : ∀ h, pushCells h scope.names = h := by exact fun _ => rfl)
    (hs : ∀ x, foldedSetIterable iter env x = pure x := by intro _; rfl) (hkind : scope.kind = .function := by kernel_rfl!) (hnames : ∀ x ∈ scope.names, x.2 = .local → scope.names.lookup x.1 = some .local := by decide)
    (hk : ∀ C, (compEnvC scope cl C env).scope.kind = .function := by intro _; kernel_rfl!) (hl : ∀ C, (compEnvC scope cl C env).kindOf x = some .local := by intro _; kernel_rfl!) (hly : ∀ C, (compEnvC scope cl C env).kindOf y = some .local := by intro _; kernel_rfl!) :
    Comp1 prog w A env ρ κ own elt (.Tuple [.Name x px, .Name y py] k tp) iter [] scope (es.map some) :=
  ⟨cl, fun _ => cl, _, _, ds.map dtTwo, two x y, fun _ => κ, hit, .zero hsub h0 hp, hs, hclos, hkind, hnames, by rw [List.length_map, List.length_map]; exact hlen, fun C i d hd => by
    rw [List.getElem?_map, Option.map_eq_some_iff] at hd
    obtain ⟨p, hp, rfl⟩ := hd
    exact Asg.tup hh (.cons (Asg.loc (hk C) (hl C) rfl) (.cons (Asg.loc (hk C) (hly C) rfl) .nil rfl) rfl), fun d => .refl _, fun C i d e hd he => by
    rw [List.getElem?_map, Option.map_eq_some_iff] at he
    obtain ⟨y, hy, rfl⟩ := he
    rw [List.getElem?_map, Option.map_eq_some_iff] at hd
    obtain ⟨p, hp, rfl⟩ := hd
    exact ⟨.nil, fun z q => by cases q; exact helt C i p _ hp hy⟩⟩
end
/-- a case: its root, its rows and parts -/
structure CaseOk (root : Str) (rs pt : List (List Str)) : Prop where
  root : rootOk root
  rlen : rs.length = 6
  plen : pt.length = 6
  row : ∀ r ∈ rs, RowOk r
  rp : ∀ (i : Nat) r p, rs[i]? = some r → pt[i]? = some p → RP r p
theorem case_op (ns : List Int) (hn : ns.length ≤ 63) : ∃ root rs pt, CaseOk root rs pt ∧ ∀ {prog : Program} {w : Wd} {A : Around}, Room A 1 →
    OpN prog w A (fun vs => call (.ref (w.bk "_law_case")) vs) [.list (ns.map .int)] (.tuple [.str root, .list (rs.map dtRow), .list (pt.map dtRow)]) := by
  refine ⟨dRootOf ns, (List.range 6).map fun j => cRow (dCell ns j), (List.range 6).map fun j => cPart (dCell ns j), ⟨root_ok ns, by simp, by simp, fun r hr => ?_, fun i r p h1 h2 => ?_⟩, fun {prog w A} hR => ?_⟩
  · obtain ⟨j, _, rfl⟩ := List.mem_map.mp hr
    exact (case_ok _).1
  · rw [List.getElem?_map, Option.map_eq_some_iff] at h1 h2
    obtain ⟨j, q1, rfl⟩ := h1
    obtain ⟨j', q2, rfl⟩ := h2
    rw [q1] at q2
    cases q2
    exact (case_ok _).2
  · have := fn_case (prog := prog) (w := w) (A := A) hn hR
    rwa [List.map_map, List.map_map]
end Mine
end

section
open PySem PySem.W PyProof.Rows PySem.Calls
set_option autoImplicit false
set_option linter.unusedVariables false
set_option maxRecDepth 100000
namespace Mine
def pathsOf (root : Str) (rs : List (List Str)) : List Str := rs.map (pathOf root)
def tabS (root : Str) (rs : List (List Str)) : List (List Int) := (pathsOf root rs).map fun x => (pathsOf root rs).map fun y => tsign (L x) (L y)
def tabN (rs : List (List Str)) : List (List Int) := rs.map fun x => rs.map fun y => rsign x y
def dInts (l : List Int) : Dt := .list (l.map .int)
def prs : List (Nat × Nat) := ((List.range 6).map fun k => (List.range k).map fun i => (i, k)).flatten
def dPair (p : Nat × Nat) : Dt := .tuple [.int (p.1 : Nat), .int (p.2 : Nat)]
def cmn (rs : List (List Str)) (p : Nat × Nat) : List Str := lcp (rs.getD p.1 []) (rs.getD p.2 [])
def trn (rs : List (List Str)) (p : Nat × Nat) : Bool := dTurned (rs.getD p.1 []) (rs.getD p.2 []) (cmn rs p).length
theorem prs_len : prs.length = 15 := by decide
theorem prs_lt : ∀ p ∈ prs, p.1 < 6 ∧ p.2 < 6 := by decide
theorem getR {rs : List (List Str)} (h6 : rs.length = 6) {i : Nat} (h : i < 6) : rs[i]? = some (rs.getD i []) ∧ rs.getD i [] ∈ rs := by
  have hl : i < rs.length := by omega
  have e : rs[i]? = some (rs.getD i []) := by simp [hl]
  exact ⟨e, List.mem_of_getElem? e⟩
theorem tsign_path (root : Str) (xs ys : List Str) : tsign (L (pathOf root xs)) (L (pathOf root ys)) = tsign (jn (xs.map L)) (jn (ys.map L)) := by
  unfold pathOf
  rw [L_append, L_append, tsign_app, L_join, L_join]
theorem trn_eq {root : Str} {rs : List (List Str)} (h6 : rs.length = 6) (hr : ∀ r ∈ rs, RowOk r) {p : Nat × Nat} (h1 : p.1 < 6) (h2 : p.2 < 6) :
    decide (tsign (L (pathOf root (rs.getD p.1 []))) (L (pathOf root (rs.getD p.2 []))) ≠ rsign (rs.getD p.1 []) (rs.getD p.2 [])) = trn rs p := by
  have a := hr _ (getR h6 h1).2
  have b := hr _ (getR h6 h2).2
  rw [tsign_path]
  exact turned_law a.ne b.ne a.nm b.nm
theorem tabS_get {root : Str} {rs : List (List Str)} (h6 : rs.length = 6) {i : Nat} (h : i < 6) : (tabS root rs)[i]? = some ((pathsOf root rs).map fun y => tsign (L (pathOf root (rs.getD i []))) (L y)) := by
  unfold tabS pathsOf
  rw [List.getElem?_map, List.getElem?_map, (getR h6 h).1]; rfl
theorem tabN_get {rs : List (List Str)} (h6 : rs.length = 6) {i : Nat} (h : i < 6) : (tabN rs)[i]? = some (rs.map fun y => rsign (rs.getD i []) y) := by
  unfold tabN
  rw [List.getElem?_map, (getR h6 h).1]; rfl
theorem nice_strs (xs : List Str) : Nice 1 (.list (xs.map .str)) := .list fun d hd => by
  obtain ⟨x, _, rfl⟩ := List.mem_map.mp hd; exact .str x
theorem nice_rows (rs : List (List Str)) : Nice 2 (.list (rs.map dtRow)) := .list fun d hd => by
  obtain ⟨x, _, rfl⟩ := List.mem_map.mp hd; exact nice_strs x
theorem nice_ints (t : List (List Int)) : Nice 2 (.list (t.map dInts)) := .list fun d hd => by
  obtain ⟨x, _, rfl⟩ := List.mem_map.mp hd
  exact .list fun d hd => by obtain ⟨x, _, rfl⟩ := List.mem_map.mp hd; exact .int x
theorem nice_bools {K : Type} (l : List K) (f : K → Bool) : Nice 1 (.list (l.map fun x => .bool (f x))) := .list fun d hd => by
  obtain ⟨x, _, rfl⟩ := List.mem_map.mp hd; exact .bool _
theorem map_at {K M : Type} {f : K → Dt} {g : M → Dt} {l : List K} {m : List M} {i : Nat} {d e : Dt} (hd : (l.map f)[i]? = some d) (he : (m.map g)[i]? = some e) : ∃ x y, l[i]? = some x ∧ m[i]? = some y ∧ d = f x ∧ e = g y := by
  rw [List.getElem?_map, Option.map_eq_some_iff] at hd he
  obtain ⟨x, a, rfl⟩ := hd
  obtain ⟨y, b, rfl⟩ := he
  exact ⟨x, y, a, b, rfl, rfl⟩
theorem lcp_row {xs ys : List Str} (hx : RowOk xs) : (lcp xs ys).length ≤ 3 ∧ (∀ n ∈ lcp xs ys, Nm n) ∧ ∀ n ∈ lcp xs ys, n.length ≤ 3 := by
  obtain ⟨r, hr⟩ := lcp_sub xs ys
  have hm : ∀ n ∈ lcp xs ys, n ∈ xs := fun n hn => by rw [hr]; exact List.mem_append_left _ hn
  have h1 := congrArg List.length hr
  rw [List.length_append] at h1
  have := hx.len
  exact ⟨by omega, fun n hn => hx.nm n (hm n hn), fun n hn => hx.size n (hm n hn)⟩
end Mine
end

section
open PySem PySem.W PyProof.Rows PySem.Calls
set_option autoImplicit false
set_option linter.unusedVariables false
set_option maxRecDepth 100000
namespace Mine
theorem ints_reps {h : Heap} {H : Addr → Prop} {vs : List Value} {xs : List Int} (r : IntsAre vs xs) : Reps h H vs (xs.map .int) := by
  induction r with
  | nil => exact .nil
  | cons n t _ ih => exact .cons (.int _ _) ih
theorem law_room : Room callerA 4 := ⟨rfl, by decide, by decide⟩
theorem law_end {ns : List Int} {s₁ s' : Shared} {cl : Str → Option Addr} {mean : ExcName → Option Value} (hk : Keep s₁.heap s'.heap) (ho : s'.os = s₁.os) (hg : s'.gens = #[]) :
    GoodWG PySem.Challenge.rw_pd0140_01.row.claim cl mean [ofPy (PyData.list (ns.map PyData.int))] s₁ (.ok (.ret (.bool true))) s' := by
  refine GoodW.toG ⟨.inl ⟨.bool true, ofPy (.bool true), [], rfl, fun _ => rfl, ?_, ?_, fun _ => ⟨.nil, fun a h => nomatch h⟩⟩, hk, ho, hg⟩
  · exact .bool _
  · first | wrow_post | rfl | decide
end Mine
end

section
open PySem PySem.W PyProof.Rows PySem.Calls
set_option autoImplicit false
set_option linter.unusedVariables false
set_option maxRecDepth 100000
namespace Mine
theorem law_holds : PySem.Challenge.rw_pd0140_01.Holds := by
  refine head ?_
  intro w₀ s₀ s₁ mg mb G Y fa o pm cd doc dV kV ho hd hcd hD hmg hg args vals as hpre hlay hrd hwl hlo
  have GR := gr_of G
  generalize hw : (⟨w₀, bkOf mg⟩ : Wd) = w at GR
  obtain rfl : w₀ = w.wo := by rw [← hw]
  have hdV : dV = .none := hD.pos.elim (·.2) fun q => absurd rfl q.1
  have hkV : kV = .none := hD.kw.elim (·.2) fun q => absurd rfl q.1
  subst hdV hkV
  clear hmg hD
  wrow_args hpre hlay hrd hwl hlo
  rename_i ns _ _ _ _ _ _ _ l vs _ hL _ _ _ hI _ hle _
  have hn : ns.length ≤ 63 := by omega
  obtain ⟨root, rs, pt, ok, hcase⟩ := case_op ns hn
  have hr := ok.root
  have h6 := ok.rlen
  have hrow := ok.row
  have hpl : (pathsOf root rs).length = 6 := by unfold pathsOf; rw [List.length_map]; exact h6
  refine wpAny_mono (law_run (ρ := [("script", .list (ns.map .int))]) (κ := []) (dr := fdAt 31) rfl (ds := [("script", .list (ns.map .int))]) (d := .bool true) (n := 3) (H := fun _ => False) ⟨GR, fun _ h => h.elim⟩ (.cons (.list hL (fun h => h) (ints_reps hI)) .nil) law_room ho hd hcd (fun vs h => ?_) (by kernel_rfl) (by kernel_rfl) (by kernel_rfl) (by kernel_rfl) (by kernel_rfl) (by kernel_rfl) fun b A' R => ?_) (fun v s' ⟨g, r⟩ => ?_) fun _ _ e => e.elim
  · match vs, h with
    | [_], _ => rfl
  · clear hd ho hcd hL hI
    show Exs _ w _ _ [("script", .list (ns.map .int))] [] [] _ _
    refine Exs.unpack (.callG (.one (.loc rfl)) (hcase (R.less (by decide))) n_case k_case) R.handled (.cons (.cell (b + 1) rfl rfl) (.cons (.cell (b + 2) rfl rfl) (.cons .loc .nil rfl) rfl) rfl) ?_
    refine Exs.setC (d := .list ((pathsOf root rs).map .str)) (.compM (.map (x := "part") (.list R.handled (.loc rfl)) (by rw [List.length_map, List.length_map, hpl, ok.plen]) [("root", b + 1)] rfl ⟨rfl, trivial⟩ fun C i d e hd he => ?_) (by rw [List.length_map, hpl]; decide)) ?_ (b + 3) rfl
    · unfold pathsOf at he
      rw [List.map_map] at he
      obtain ⟨part, row, h1, h2, rfl, rfl⟩ := map_at hd he
      have rp := ok.rp i row part h2 h1
      have rk := hrow row (List.mem_of_getElem? h2)
      have h3 := rk.len
      exact .callG (.one (.callStar (.cell rfl (b + 1) rfl) (.loc rfl) (op_join hr rk rp (R.less (by decide))) n_join k_join (by rw [List.length_map, rp.len]; exact Nat.le_trans h3 (by decide)))) (op_norm hr rk rp R) n_normpath k_normpath
    refine Exs.setC (d := .list ((pathsOf root rs).map .str)) (.compM (.map (x := "row") (.list R.handled (.cell rfl (b + 2) rfl)) (by rw [List.length_map, List.length_map, hpl, h6]) [("root", b + 1)] rfl ⟨rfl, trivial⟩ fun C i d e hd he => ?_) (by rw [List.length_map, hpl]; decide)) ?_ (b + 4) rfl
    · unfold pathsOf at he
      rw [List.map_map] at he
      obtain ⟨row, row', h1, h2, rfl, rfl⟩ := map_at hd he
      rw [h1] at h2
      cases h2
      have rk := hrow row (List.mem_of_getElem? h1)
      have e1 : pathOf root row = root ++ Txt.join "/" row := by rw [join_eq]; rfl
      show Ev _ _ _ _ _ _ _ _ (.str (pathOf root row))
      rw [e1]
      refine .bin (.cell rfl (b + 1) rfl) (.join .str (.loc rfl) (joinOk_small (Nat.le_trans rk.len (by decide)) fun x hx => Nat.le_trans (rk.size x hx) (by decide))) (Op.add_str ?_)
      rw [← e1]
      exact Nat.le_trans (path_len hr rk.len rk.size) (by decide)
    refine Exs.setC (d := .list (rs.map dtRow)) (.compM (.map (x := "path") (.list R.handled (.cell rfl (b + 3) rfl)) (by rw [List.length_map, List.length_map, hpl, h6]) [] rfl trivial fun C i d e hd he => ?_) (by rw [List.length_map, h6]; decide)) ?_ (b + 5) rfl
    · unfold pathsOf at hd
      rw [List.map_map] at hd
      obtain ⟨row, row', h1, h2, rfl, rfl⟩ := map_at hd he
      rw [h1] at h2
      cases h2
      have rk := hrow row (List.mem_of_getElem? h1)
      exact .callG (.one (.loc rfl)) (op_names hr rk.len rk.nm rk.size R) n_names k_names
    have un : A'.units + 2 < cLine := by have := R.units; omega
    refine Exs.iff (.or_cons (.cmp (.cell rfl (b + 3) rfl) (.cell rfl (b + 4) rfl) (Op.ne_same (k := 0) (nice_strs _) (by omega))) fun _ => .or_cons (.cmp (.cell rfl (b + 5) rfl) (.cell rfl (b + 2) rfl) (Op.ne_same (k := 1) (nice_rows _) (by omega))) fun _ => .or_nil) (fun e => absurd e (by decide)) fun _ => Exs.fall ?_
    refine Exs.setC (d := .list ((tabS root rs).map dInts)) (.compM (.mapC (x := "one") (.list R.handled (.cell rfl (b + 3) rfl)) (by simp [tabS]) [("paths", b + 3)] rfl ⟨rfl, trivial⟩ (fun C i d e hd he => ?_) rfl) (by unfold tabS; rw [List.length_map, List.length_map, hpl]; decide)) ?_ (b + 6) rfl
    · unfold tabS at he
      rw [List.map_map] at he
      obtain ⟨x, x', h1, h2, rfl, rfl⟩ := map_at hd he
      rw [h1] at h2
      cases h2
      refine .compM (es := ((pathsOf root rs).map fun y => tsign (L x) (L y)).map .int) (.map (x := "other") (.list R.handled (.cell rfl (b + 3) rfl)) (by simp) [("one", C + 1)] rfl ⟨rfl, trivial⟩ fun C' i' d' e' hd' he' => ?_) (by rw [List.length_map, List.length_map, hpl]; decide)
      rw [List.map_map] at he'
      obtain ⟨y, y', q1, q2, rfl, rfl⟩ := map_at hd' he'
      rw [q1] at q2
      cases q2
      exact .callG (.two (.cell rfl (C + 1) rfl) (.loc rfl)) (fn_strcoll (R.less (by decide))) n_strcoll k_strcoll
    refine Exs.setC (d := .list ((tabN rs).map dInts)) (.compM (.mapC (x := "one") (.list R.handled (.cell rfl (b + 5) rfl)) (by simp [tabN]) [("names", b + 5)] rfl ⟨rfl, trivial⟩ (fun C i d e hd he => ?_) rfl) (by unfold tabN; rw [List.length_map, List.length_map, h6]; decide)) ?_ (b + 7) rfl
    · unfold tabN at he
      rw [List.map_map] at he
      obtain ⟨x, x', h1, h2, rfl, rfl⟩ := map_at hd he
      rw [h1] at h2
      cases h2
      refine .compM (es := (rs.map fun y => rsign x y).map .int) (.map (x := "other") (.list R.handled (.cell rfl (b + 5) rfl)) (by simp) [("one", C + 1)] rfl ⟨rfl, trivial⟩ fun C' i' d' e' hd' he' => ?_) (by rw [List.length_map, List.length_map, h6]; decide)
      rw [List.map_map] at he'
      obtain ⟨y, y', q1, q2, rfl, rfl⟩ := map_at hd' he'
      rw [q1] at q2
      cases q2
      exact .callG (.two (.cell rfl (C + 1) rfl) (.loc rfl)) (fn_three (R.less (by decide))) n_three k_three
    have psz : ∀ x ∈ pathsOf root rs, x.length ≤ 2 ^ 16 := fun x hx => by
      obtain ⟨r, hr', rfl⟩ := List.mem_map.mp hx
      exact Nat.le_trans (path_len hr (hrow r hr').len (hrow r hr').size) (by decide)
    refine Exs.iff (.cmp (.cell rfl (b + 6) rfl) (.compM (es := (tabS root rs).map dInts) (.mapC (x := "one") (.list R.handled (.cell rfl (b + 4) rfl)) (by simp [tabS]) [("plain", b + 4)] rfl ⟨rfl, trivial⟩ (fun C i d e hd he => ?_) rfl) (by unfold tabS; rw [List.length_map, List.length_map, hpl]; decide)) (Op.ne_same (k := 1) (nice_ints _) (by omega))) (fun e => absurd e (by decide)) fun _ => Exs.fall ?_
    · unfold tabS at he
      rw [List.map_map] at he
      obtain ⟨x, x', h1, h2, rfl, rfl⟩ := map_at hd he
      rw [h1] at h2
      cases h2
      refine .compM (es := ((pathsOf root rs).map fun y => tsign (L x) (L y)).map .int) (.map (x := "other") (.list R.handled (.cell rfl (b + 4) rfl)) (by simp) [("one", C + 1)] rfl ⟨rfl, trivial⟩ fun C' i' d' e' hd' he' => ?_) (by rw [List.length_map, List.length_map, hpl]; decide)
      rw [List.map_map] at he'
      obtain ⟨y, y', q1, q2, rfl, rfl⟩ := map_at hd' he'
      rw [q1] at q2
      cases q2
      show Ev _ _ _ _ _ _ _ _ (.int (tsign (L x) (L y)))
      rw [← signs_eq]
      exact .callG (.two (.cell rfl (C + 1) rfl) (.loc rfl)) (fn_signs (psz x (List.mem_of_getElem? h1)) (psz y (List.mem_of_getElem? q1)) (R.less (by decide))) n_signs k_signs
    have rsz : ∀ r ∈ rs, r.length ≤ 2 ^ 16 ∧ ∀ x ∈ r, x.length ≤ 2 ^ 16 := fun r hr' => ⟨Nat.le_trans (hrow r hr').len (by decide), fun x hx => Nat.le_trans ((hrow r hr').size x hx) (by decide)⟩
    refine Exs.iff (.cmp (.cell rfl (b + 7) rfl) (.compM (es := (tabN rs).map dInts) (.mapC (x := "one") (.list R.handled (.cell rfl (b + 2) rfl)) (by simp [tabN]) [("rows", b + 2)] rfl ⟨rfl, trivial⟩ (fun C i d e hd he => ?_) rfl) (by unfold tabN; rw [List.length_map, List.length_map, h6]; decide)) (Op.ne_same (k := 1) (nice_ints _) (by omega))) (fun e => absurd e (by decide)) fun _ => Exs.fall ?_
    · unfold tabN at he
      rw [List.map_map] at he
      obtain ⟨x, x', h1, h2, rfl, rfl⟩ := map_at hd he
      rw [h1] at h2
      cases h2
      refine .compM (es := (rs.map fun y => rsign x y).map .int) (.map (x := "other") (.list R.handled (.cell rfl (b + 2) rfl)) (by simp) [("one", C + 1)] rfl ⟨rfl, trivial⟩ fun C' i' d' e' hd' he' => ?_) (by rw [List.length_map, List.length_map, h6]; decide)
      rw [List.map_map] at he'
      obtain ⟨y, y', q1, q2, rfl, rfl⟩ := map_at hd' he'
      rw [q1] at q2
      cases q2
      have a := rsz x (List.mem_of_getElem? h1)
      have a' := rsz y (List.mem_of_getElem? q1)
      show Ev _ _ _ _ _ _ _ _ (.int (rsign x y))
      rw [← rows_eq]
      exact .callG (.two (.cell rfl (C + 1) rfl) (.loc rfl)) (fn_rows a.1 a'.1 a.2 a'.2 (R.less (by decide))) n_rows k_rows
    have ri : ∀ (n : Nat) (i' : Nat) (d' : Dt), ((List.range n).map fun (i : Nat) => Dt.int i)[i']? = some d' → i' < n ∧ d' = .int i' := fun n i' d' hd' => by
      have h1 := (List.getElem?_eq_some_iff.mp hd').1
      have h2 : i' < n := by simpa using h1
      have : (List.range n)[i']? = some i' := by simp [h2]
      simp only [List.getElem?_map, this, Option.map_some, Option.some.injEq] at hd'
      exact ⟨h2, hd'.symm⟩
    have ep : Dt.list (prs.map dPair) = .list (((List.range 6).map fun k => (List.range k).map fun (i : Nat) => Dt.tuple [.int (i : Nat), .int (k : Nat)]).flatten) := rfl
    refine Exs.setC (d := .list (prs.map dPair)) (by
      rw [ep]
      exact .comp2 (x := "k") (y := "i") (ds := (List.range 6).map fun (i : Nat) => .int i) 7 (.range R.handled .int (by decide) n_range) [] rfl trivial (by simp) (by decide) fun C k d o hd ho => by
        obtain ⟨hk, rfl⟩ := ri 6 k d hd
        have eo : o = (List.range k).map fun (i : Nat) => Dt.tuple [.int (i : Nat), .int (k : Nat)] := by
          have : (List.range 6)[k]? = some k := by simp [hk]
          simp only [List.getElem?_map, this, Option.map_some, Option.some.injEq] at ho
          exact ho.symm
        subst eo
        refine ⟨(List.range k).map fun (i : Nat) => .int i, ((List.range k).map fun (i : Nat) => Dt.tuple [.int (i : Nat), .int (k : Nat)]).map some, (filterMap_some _).symm, by simp; omega, by simp, .range R.handled (.loc rfl) (Nat.lt_of_lt_of_le hk (by decide)) n_range, fun j d₂ e₂ hd₂ he₂ => ?_⟩
        obtain ⟨hj, rfl⟩ := ri k j d₂ hd₂
        have hjr : (List.range k)[j]? = some j := by simp [hj]
        simp only [List.getElem?_map, hjr, Option.map_some, Option.some.injEq] at he₂
        subst he₂
        exact ⟨.nil, fun z q => by cases q; exact .tuple (.two (.loc rfl) (.loc rfl))⟩) ?_ (b + 8) rfl
    have pget : ∀ (i : Nat) (p : Nat × Nat), prs[i]? = some p → p.1 < 6 ∧ p.2 < 6 := fun i p h => prs_lt p (List.mem_of_getElem? h)
    have epr : prs.map dPair = (prs.map fun p => ((Dt.int (p.1 : Nat), Dt.int (p.2 : Nat)) : Dt × Dt)).map dtTwo := rfl
    have pat : ∀ j : Nat, j < 6 → ((pathsOf root rs).map Dt.str)[(j : Int).toNat]? = some (.str (pathOf root (rs.getD j []))) := fun j hj => by
      unfold pathsOf
      rw [Int.toNat_natCast, List.getElem?_map, List.getElem?_map, (getR h6 hj).1]; rfl
    have rat : ∀ j : Nat, j < 6 → (rs.map dtRow)[(j : Int).toNat]? = some (dtRow (rs.getD j [])) := fun j hj => by
      rw [Int.toNat_natCast, List.getElem?_map, (getR h6 hj).1]; rfl
    refine Exs.setC (d := .list (prs.map fun p => .int ((cmn rs p).length : Nat))) (.compM (.mapT (x := "i") (y := "k") (ds := prs.map fun p => ((Dt.int (p.1 : Nat), Dt.int (p.2 : Nat)) : Dt × Dt)) R.handled (.list R.handled (by rw [← epr]; exact .cell rfl (b + 8) rfl)) (by simp) [("paths", b + 3)] rfl ⟨rfl, trivial⟩ fun C i d e hd he => ?_) (by rw [List.length_map, prs_len]; decide)) ?_ (b + 9) rfl
    · rw [List.getElem?_map, Option.map_eq_some_iff] at hd
      obtain ⟨p, hp, rfl⟩ := hd
      simp only [List.getElem?_map, hp, Option.map_some, Option.some.injEq] at he
      subst he
      obtain ⟨l1, l2⟩ := pget i p hp
      have k1 := hrow _ (getR h6 l1).2
      have k2 := hrow _ (getR h6 l2).2
      obtain ⟨c1, c2, c3⟩ := lcp_row (ys := rs.getD p.2 []) k1
      have olen : OpN PySem.Challenge.rw_pd0140_01.row.toRowW.prog w A' (fun vs => call (.builtin "len") vs) [dtRow (cmn rs p)] (.int ((cmn rs p).length : Nat)) := by
        have := Op.len_list (prog := PySem.Challenge.rw_pd0140_01.row.toRowW.prog) (w := w) (A := A') (ds := (cmn rs p).map Dt.str) (by rw [List.length_map]; exact Int.lt_of_le_of_lt (Int.ofNat_le.mpr c1) (by decide))
        rwa [List.length_map] at this
      exact .callB (id := "len") (.one (.callG (.one (.callG (.one (.list (.two (.sub (.cell rfl (b + 3) rfl) (.loc rfl) (Op.item (by omega) (by omega) (pat _ l1))) (.sub (.cell rfl (b + 3) rfl) (.loc rfl) (Op.item (by omega) (by omega) (pat _ l2)))))) (op_common hr k1 k2 R) n_common k_common)) (op_names hr c1 c2 c3 R) n_names k_names)) olen n_len (by decide +kernel) (by decide +kernel)
    refine Exs.compM (y := "turned") (es := prs.map fun p => .bool (trn rs p)) (.mapT (x := "i") (y := "k") (ds := prs.map fun p => ((Dt.int (p.1 : Nat), Dt.int (p.2 : Nat)) : Dt × Dt)) R.handled (.list R.handled (by rw [← epr]; exact .cell rfl (b + 8) rfl)) (by simp) [("by_signs", b + 6), ("by_names", b + 7)] rfl ⟨rfl, rfl, trivial⟩ fun C i d e hd he => ?_) (by rw [List.length_map, prs_len]; decide) ?_
    · rw [List.getElem?_map, Option.map_eq_some_iff] at hd
      obtain ⟨p, hp, rfl⟩ := hd
      simp only [List.getElem?_map, hp, Option.map_some, Option.some.injEq] at he
      subst he
      obtain ⟨l1, l2⟩ := pget i p hp
      have a1 : ((tabS root rs).map dInts)[((p.1 : Nat) : Int).toNat]? = some (.list (((pathsOf root rs).map fun y => tsign (L (pathOf root (rs.getD p.1 []))) (L y)).map .int)) := by
        rw [Int.toNat_natCast, List.getElem?_map, tabS_get h6 l1]; rfl
      have a2 : (((pathsOf root rs).map fun y => tsign (L (pathOf root (rs.getD p.1 []))) (L y)).map Dt.int)[((p.2 : Nat) : Int).toNat]? = some (.int (tsign (L (pathOf root (rs.getD p.1 []))) (L (pathOf root (rs.getD p.2 []))))) := by
        unfold pathsOf
        rw [Int.toNat_natCast, List.getElem?_map, List.getElem?_map, List.getElem?_map, (getR h6 l2).1]; rfl
      have b1 : ((tabN rs).map dInts)[((p.1 : Nat) : Int).toNat]? = some (.list ((rs.map fun y => rsign (rs.getD p.1 []) y).map .int)) := by
        rw [Int.toNat_natCast, List.getElem?_map, tabN_get h6 l1]; rfl
      have b2 : ((rs.map fun y => rsign (rs.getD p.1 []) y).map Dt.int)[((p.2 : Nat) : Int).toNat]? = some (.int (rsign (rs.getD p.1 []) (rs.getD p.2 []))) := by
        rw [Int.toNat_natCast, List.getElem?_map, List.getElem?_map, (getR h6 l2).1]; rfl
      rw [← trn_eq (root := root) h6 hrow l1 l2]
      have bne_dec : ∀ x y : Int, decide (x ≠ y) = (x != y) := fun x y => by
        by_cases q : x = y
        · subst q; simp
        · simp [q]
      rw [bne_dec]
      exact .cmp (.sub (.sub (.cell rfl (b + 6) rfl) (.loc rfl) (Op.item (by omega) (by omega) a1)) (.loc rfl) (Op.item (by omega) (by omega) a2)) (.sub (.sub (.cell rfl (b + 7) rfl) (.loc rfl) (Op.item (by omega) (by omega) b1)) (.loc rfl) (Op.item (by omega) (by omega) b2)) Op.ne_int
    refine Exs.iff (.cmp (.loc rfl) (.compM (es := prs.map fun p => .bool (trn rs p)) (.map (x := "p") (.range (n := 15) R.handled .int (by decide) n_range) (by simp [prs_len]) [("rows", b + 2), ("pairs", b + 8), ("counts", b + 9)] rfl ⟨rfl, rfl, rfl, trivial⟩ fun C i d e hd he => ?_) (by rw [List.length_map, prs_len]; decide)) (Op.ne_same (k := 0) (nice_bools _ _) (by omega))) (fun e => absurd e (by decide)) fun _ => Exs.fall ?_
    · obtain ⟨hi, rfl⟩ := ri 15 i d hd
      rw [List.getElem?_map, Option.map_eq_some_iff] at he
      obtain ⟨p, hp, rfl⟩ := he
      obtain ⟨l1, l2⟩ := pget i p hp
      have k1 := rsz _ (getR h6 l1).2
      have k2 := rsz _ (getR h6 l2).2
      have c1 := (lcp_row (ys := rs.getD p.2 []) (hrow _ (getR h6 l1).2)).1
      have q1 : (prs.map dPair)[((i : Nat) : Int).toNat]? = some (.tuple [.int (p.1 : Nat), .int (p.2 : Nat)]) := by
        rw [Int.toNat_natCast, List.getElem?_map, hp]; rfl
      have q2 : (prs.map fun p => Dt.int ((cmn rs p).length : Nat))[((i : Nat) : Int).toNat]? = some (.int ((cmn rs p).length : Nat)) := by
        rw [Int.toNat_natCast, List.getElem?_map, hp]; rfl
      exact .callG (.three (.sub (.cell rfl (b + 2) rfl) (.sub (.sub (.cell rfl (b + 8) rfl) (.loc rfl) (Op.item (by omega) (by omega) q1)) .int (Op.itemT (by decide) (by decide) rfl)) (Op.item (by omega) (by omega) (rat _ l1))) (.sub (.cell rfl (b + 2) rfl) (.sub (.sub (.cell rfl (b + 8) rfl) (.loc rfl) (Op.item (by omega) (by omega) q1)) .int (Op.itemT (by decide) (by decide) rfl)) (Op.item (by omega) (by omega) (rat _ l2))) (.sub (.cell rfl (b + 9) rfl) (.loc rfl) (Op.item (by omega) (by omega) q2)))
        (fn_turned k1.1 k2.1 k1.2 k2.2 (Nat.le_trans c1 (by decide)) (R.less (by decide))) n_turned k_turned
    obtain ⟨ys1, p1, e1⟩ := sorted_law strTO Dt.str (fun x y => tsign (L x) (L y)) tsign_pos hpl
    obtain ⟨ys2, p2, e2⟩ := sorted_law rowTO dtRow rsign rsign_pos h6
    have o1 : OpN PySem.Challenge.rw_pd0140_01.row.toRowW.prog w A' (fun vs => call (.ref (w.bk "_law_sorted")) vs) [.list ((pathsOf root rs).map .str), .list ((tabS root rs).map dInts)] (.list (ys1.map .str)) := by
      have := fn_lawsorted (prog := PySem.Challenge.rw_pd0140_01.row.toRowW.prog) (w := w) (A := A') (ts := (pathsOf root rs).map .str) (table := tabS root rs) (by rw [List.length_map]; exact hpl) (by unfold tabS; rw [List.length_map]; exact hpl) (fun l hl => by
        unfold tabS at hl
        obtain ⟨x, _, rfl⟩ := List.mem_map.mp hl
        rw [List.length_map]; exact hpl) (R.less (by decide))
      rw [show dSorted ((pathsOf root rs).map .str) ((tabS root rs).map dPos) = ys1.map .str from e1] at this
      exact this
    have o2 : OpN PySem.Challenge.rw_pd0140_01.row.toRowW.prog w A' (fun vs => call (.ref (w.bk "_law_sorted")) vs) [.list (rs.map dtRow), .list ((tabN rs).map dInts)] (.list (ys2.map dtRow)) := by
      have := fn_lawsorted (prog := PySem.Challenge.rw_pd0140_01.row.toRowW.prog) (w := w) (A := A') (ts := rs.map dtRow) (table := tabN rs) (by rw [List.length_map]; exact h6) (by unfold tabN; rw [List.length_map]; exact h6) (fun l hl => by
        unfold tabN at hl
        obtain ⟨x, _, rfl⟩ := List.mem_map.mp hl
        rw [List.length_map]; exact h6) (R.less (by decide))
      rw [show dSorted (rs.map dtRow) ((tabN rs).map dPos) = ys2.map dtRow from e2] at this
      exact this
    exact Exs.ret (.and2 (.cmp (.sortedKey (.cell rfl (b + 3) rfl) (by omega) (by omega) p1 (R.less (by decide))) (.callG (.two (.cell rfl (b + 3) rfl) (.cell rfl (b + 6) rfl)) o1 n_lawsorted k_lawsorted) (Op.eq_same (k := 1) (nice_strs _) (by omega))) Tr.bool
      (fun _ => .cmp (.callB (id := "sorted") (.one (.cell rfl (b + 5) rfl)) (Op.sorted_rows (by omega) (by omega) p2 (R.less (by decide))) n_sorted (by decide +kernel) (by decide +kernel)) (.callG (.two (.cell rfl (b + 5) rfl) (.cell rfl (b + 7) rfl)) o2 n_lawsorted k_lawsorted) (Op.eq_same (k := 2) (nice_rows _) (by omega))) (fun e => nomatch e)) rfl
  · cases r
    exact law_end g.keep g.os (g.gens.trans hg)
end Mine
end
theorem PySem.Challenge.cw_pd0140_01_holds : PySem.Challenge.rw_pd0140_01.Holds := by
  exact Mine.law_holds
