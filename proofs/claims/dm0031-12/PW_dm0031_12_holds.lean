import PyProof.Rows.All
import Wide.All
import OpenK.AllK
import Wide.FinOn
import PySem.Challenge.RW_dm0031_12
set_option Elab.async false
set_option linter.unusedVariables false
section
open PySem PySem.W PyProof.Rows PySem.Spec
set_option maxRecDepth 100000
namespace Mine

def TurnPost (h₀ : Heap) (L cx : Addr) (need : List (Addr × Obj)) (J : (Str → Option Value) → Prop) (Q : Flow → Shared → Prop) (s : Shared) (f : Flow) (s₂ : Shared) : Prop :=
  match f with
  | .ret v => Q (.ret v) s₂
  | .brk => Q .next s₂
  | _ => ∃ h' tk m' oc, s₂ = { s with heap := h', toks := tk } ∧ Fr h₀ L h' m' ∧ News h₀ L h' ((cx, oc) :: need) ∧ (∃ v, oc.data = .cell v) ∧ J m'

end Mine
end
section
open PySem PySem.W PyProof.Rows PySem.Spec
set_option maxRecDepth 100000
namespace Mine
end Mine
namespace Mine
end Mine
namespace Mine
end Mine
end
section
open PySem PySem.W PyProof.Rows PySem.Spec
set_option maxRecDepth 100000
namespace Mine

/-- the thing at place i, round and round -/
noncomputable def pick (th : List Value) (i : Int) : Value := th.getD (i.fmod 13).toNat .none

theorem pick_bound (i : Int) : 0 ≤ i.fmod 13 ∧ i.fmod 13 < 13 := by
  rw [Int.fmod_eq_emod_of_nonneg i (by decide)]
  omega
theorem pick_get {th : List Value} (hlen : th.length = 13) (i : Int) : th.toArray[(i.fmod 13).toNat]? = some (pick th i) := by
  have hb := pick_bound i
  have : (i.fmod 13).toNat < th.length := by omega
  simp [pick, this]

section
variable {prog : Program} {w : World} {A : Around} {E : Value → Shared → Prop} {s : Shared} {env : Env} {Q : Value → Shared → Prop}

/-- an item of the list of things at a place that is reckoned by a remainder -/
theorem itemAt {value slice : PySem.Expr} {l : Addr} {th : List Value} {i : Int} {u : Tok} (hl : s.heap.IsList l th.toArray) (hlen : th.length = 13) (h : Q (pick th i) s)
    (hs : subscripted slice false (.ref l) (.int (i.fmod 13) u) = operate [.ref l, .int (i.fmod 13) u] (getItem (.ref l) (.int (i.fmod 13) u))) :
    wpAny (model prog w) A (subscriptTail value slice (.ref l) (.int (i.fmod 13) u)) Q E s :=
  have hb := pick_bound i
  tail_any hl.typeIs slot_list_getitem.lookup (wpAny_getItem_list hl hb.1 (by omega) (pick_get hlen i) h) hs
end

/-- the element things[(x + k) % 13] in the comprehension's block -/
theorem eltMade {prog : Program} {w : World} {A : Around} {E : Value → Shared → Prop} {s : Shared} {env : Env} {scope : Scope} {cl : List (Str × Addr)} {C ct cx tl : Addr} {m : Str → Option Value} {th : List Value} {xv a : Int} {tx ta : Tok} {p1 p2 p3 p4 p5 p6 p7 : Pos}
    (hn : s.heap.Ns C m) (hk : m (Str.ofString "k") = some (.int a ta)) (hct : cl.lookup (Str.ofString "things") = some ct) (hcx : cl.lookup (Str.ofString "x") = some cx)
    (hot : s.heap.IsCell ct (some (.ref tl))) (hox : s.heap.IsCell cx (some (.int xv tx))) (hl : s.heap.IsList tl th.toArray) (hlen : th.length = 13)
    (hkind : (compEnvC scope cl C env).scope.kind = .function) (k1 : (compEnvC scope cl C env).kindOf (Str.ofString "things") = some .cell) (k2 : (compEnvC scope cl C env).kindOf (Str.ofString "x") = some .cell) (k3 : (compEnvC scope cl C env).kindOf (Str.ofString "k") = some .local) :
    wpAny (model prog w) A (eval (.Subscript (.Name (Str.ofString "things") p1) (.BinOp (.BinOp (.Name (Str.ofString "x") p2) .Add (.Name (Str.ofString "k") p3) p4) .Mod (.Constant (.int 13) 0 p5) p6) p7) (compEnvC scope cl C env))
      (fun y s₃ => y = pick th (xv + a) ∧ Keeps s s₃) E s := by
  refine Subscript_ (ldCellK hct hot ?_ hkind k1)
  refine wpAny_BinOp (wpAny_BinOp (ldCellK hcx hox (ldVarK hn hk ?_ hkind k3) hkind k2))
  refine add_int (wpAny_Constant_int (mod_int' (by decide) ?_))
  exact itemAt (s := { s with toks := s.toks + 1 + 1 + 1 }) hl hlen ⟨rfl, s.heap, _, rfl, fun _ _ e => e⟩ (by with_unfolding_all rfl)

def GivenAt (prog : Program) (w : World) (A : Around) (env : Env) (scope : Scope) (cl : List (Str × Addr)) (x y : Str) (elt : PySem.Expr) (Fv : Value → Value → Prop) (Q : Flow → Shared → Prop) (it : Value) (s₂ : Shared) : Prop :=
  ∃ I fp wr n P St m, it = .ref I ∧ Walks prog w A I fp wr n P St ∧ n ≤ sizeLine ∧ St 0 s₂.heap ∧ (∀ b ∈ fp, b < s₂.heap.objs.size) ∧
      env.locals ∉ wr ∧ s₂.heap.Ns env.locals m ∧ QuietOnC prog w A env scope cl x [] elt wr P (fun _ => true) Fv s₂ ∧
      (∀ D h' tk ys (vs : List Value), s₂.heap.get? D = none → h'.IsList D ys → h'.PlainList D ys → vs.length = n → (∀ j v, vs[j]? = some v → P j v) → Paired Fv (vs.filter fun _ => true) ys.toList →
        h'.Ns env.locals (fun z => if z = y then some (.ref D) else m z) → (∀ b o, b ≠ env.locals → b ∉ wr → s₂.heap.get? b = some o → h'.get? b = some o) → Q .next { s₂ with heap := h', toks := tk })

theorem paired_pick {th : List Value} {xv : Int} {vs ys : List Value} (hp : Paired (fun v y => ∃ a t, v = Value.int a t ∧ y = pick th (xv + a)) vs ys) :
    ∀ {n j : Nat}, vs.length = n → (∀ i v, vs[i]? = some v → ∃ t, v = Value.int ((j + i : Nat) : Int) t) → ys = (List.range' j n).map fun (k : Nat) => pick th (xv + (k : Int)) := by
  induction hp with
  | nil => intro n j hl hv; subst hl; rfl
  | @cons v y vs ys e hp ih =>
    intro n j hl hv
    obtain ⟨a, t, e1, e2⟩ := e
    obtain ⟨t', e3⟩ := hv 0 v rfl
    rw [e1] at e3
    cases e3
    subst hl
    rw [List.length_cons, List.range'_succ, List.map_cons, e2]
    refine congrArg _ (ih rfl fun i v hi => ?_)
    obtain ⟨t'', e⟩ := hv (i + 1) v (by simpa using hi)
    exact ⟨t'', by rw [e]; congr 2; omega⟩

/-- given = [things[(x + k) % 13] for k in range(count)]: what is made -/
noncomputable def givenOf (th : List Value) (xv c : Int) : List Value := (List.range' 0 c.toNat).map fun (k : Nat) => pick th (xv + (k : Int))

section
variable {prog : Program} {w : World} {A : Around} {E : Value → Shared → Prop} {s : Shared} {env : Env}
theorem givenHead {x y : Str} {px py pos spos : Pos} {elt iter : PySem.Expr} {scope : Scope} {cl : List (Str × Addr)} {Q : Flow → Shared → Prop} (Fv : Value → Value → Prop)
    (h : wpAny (model prog w) A (eval iter env) (fun xv s₁ => wpAny (model prog w) A (pyIter xv) (fun it s₂ => GivenAt prog w A env scope cl x y elt Fv Q it s₂) E s₁) E s)
    (hsw : swapsWith (.ListComp elt [⟨.Name x px, iter, [], 0⟩] scope pos) (some (.Name y py)) spos.line env = pure true)
    (hclos : closureFor scope env = pure cl) (hcell : ∀ z ∈ scope.names, z.2 ≠ .cell) (hkind : scope.kind = .function)
    (hnames : ∀ z ∈ scope.names, z.2 = .local → scope.names.lookup z.1 = some .local) (hx : scope.names.lookup x = some .local)
    (hy : env.kindOf y = some .local) (hp : (env.scope.kind == .class || (env.scope.kind == .module && env.locals != env.globals)) = false)
    (hs : ∀ x, foldedSetIterable iter env x = pure x := by intro _; rfl) :
    wpAny (model prog w) A (exec (.Assign [.Name y py] (.ListComp elt [⟨.Name x px, iter, [], 0⟩] scope pos) spos) env) Q E s :=
  wpAny_Assign_ListComp_free (fun _ => true) Fv hsw hclos hcell hkind hnames hx hy hp h hs

theorem givenIter {y : Str} {scope : Scope} {cl : List (Str × Addr)} {Q : Flow → Shared → Prop} {h₀ : Heap} {L r ct cx tl : Addr} {m : Str → Option Value} {news : List (Addr × Obj)} {th : List Value} {ot ox : Obj} {nn : Nat} {xv c : Int} {tx t₀ u₀ v₀ : Tok} {p1 p2 p3 p4 p5 p6 p7 : Pos}
    (F : Fr h₀ L s.heap m) (N : News h₀ L s.heap news) (hL : env.locals = L) (hr : IsRange s.heap r 0 c 1 t₀ u₀ v₀) (hc0 : 0 ≤ c) (hc7 : c < 7)
    (hct : (ct, ot) ∈ news) (hot : ot.data = .cell (some (.ref tl))) (hcx : (cx, ox) ∈ news) (hox : ox.data = .cell (some (.int xv tx))) (htl : (tl, listOf th.toArray nn) ∈ news) (hlen : th.length = 13)
    (lt : cl.lookup (Str.ofString "things") = some ct) (lx : cl.lookup (Str.ofString "x") = some cx)
    (hk : ∀ C, (compEnvC scope cl C env).scope.kind = .function ∧ (compEnvC scope cl C env).kindOf (Str.ofString "things") = some .cell ∧ (compEnvC scope cl C env).kindOf (Str.ofString "x") = some .cell ∧ (compEnvC scope cl C env).kindOf (Str.ofString "k") = some .local)
    (hh : A.handled = none)
    (hQ : ∀ D h' tk n, Fr h₀ L h' (fun z => if z = y then some (.ref D) else m z) → News h₀ L h' ((D, listOf (givenOf th xv c).toArray n) :: news) → (∀ p ∈ news, p.1 ≠ D) → Q .next { s with heap := h', toks := tk }) :
    wpAny (model prog w) A (pyIter (.ref r)) (fun it s₂ => GivenAt prog w A env scope cl (Str.ofString "k") y
      (.Subscript (.Name (Str.ofString "things") p1) (.BinOp (.BinOp (.Name (Str.ofString "x") p2) .Add (.Name (Str.ofString "k") p3) p4) .Mod (.Constant (.int 13) 0 p5) p6) p7)
      (fun v y => ∃ a t, v = Value.int a t ∧ y = pick th (xv + a)) Q it s₂) E s := by
  have hn : Builtin.Range.rangeSize 0 c 1 = ((c.toNat : Nat) : Int) := by
    unfold Builtin.Range.rangeSize
    simp
    omega
  have hsm : Builtin.Range.small 0 c 1 = true := small_one (by omega) (by omega) (by omega) (by omega)
  have up : ∀ (h₃ : Heap), (∀ b o, b ∉ [s.heap.objs.size] → (s.heap.push { cls := .type "range_iterator", data := .fields #[rawInt 0, rawInt (Builtin.Range.rangeSize 0 c 1), rawInt 1] }).get? b = some o → h₃.get? b = some o) → ∀ b o, s.heap.get? b = some o → h₃.get? b = some o :=
    fun h₃ hk b o e => hk b o (fun hm => by rcases List.mem_cons.mp hm with rfl | hm; exact Nat.lt_irrefl _ (Heap.lt_size e); cases hm) (Heap.get?_push_of_some _ e)
  refine wpAny_pyIter_range hr hsm ⟨s.heap.objs.size, [s.heap.objs.size], [s.heap.objs.size], c.toNat, _, _, m, rfl, (Walks.range hh _ 0 1 c.toNat), ?_, (by show IsRangeIter _ _ _ _ _; rw [hn]; simpa using Heap.get?_push_size _ rfl), ?_, ?_, ?_, ⟨?_, ?_⟩, ?_⟩
  · rw [sizeLine_eq]; omega
  · intro b hb
    show b < (s.heap.push _).objs.size
    rw [Heap.size_push, List.mem_singleton.mp hb]
    exact Nat.lt_succ_self _
  · intro hm
    rw [hL] at hm
    exact Nat.lt_irrefl _ ((List.mem_singleton.mp hm) ▸ F.ns.lt)
  · rw [hL]; exact F.ns.push _
  · intro C i v s₃ m₃ E' _ _ _ _ _ _
    exact wpAny_pure ⟨rfl, s₃.heap, s₃.toks, rfl, fun _ _ e => e⟩
  · intro C i v s₃ m₃ E' _ hP _ hn' hm hk₃ _
    obtain ⟨t, rfl⟩ := hP
    have k := up s₃.heap hk₃
    refine wpAny_mono (eltMade hn' hm lt lx ⟨ot, k _ _ (N _ hct).1, hot⟩ ⟨ox, k _ _ (N _ hcx).1, hox⟩ ⟨_, k _ _ (N _ htl).1, rfl, nn, rfl⟩ hlen (hk C).1 (hk C).2.1 (hk C).2.2.1 (hk C).2.2.2) (fun y s₄ h₄ => ⟨⟨_, t, rfl, h₄.1⟩, h₄.2⟩) fun _ _ e => e
  · intro D h' tk ys vs hnew _ hpl hlv hP hF hn'' hk'
    obtain ⟨n, hD⟩ := hpl
    have keep : ∀ b o, b ≠ L → s.heap.get? b = some o → h'.get? b = some o := fun b o hb e =>
      hk' b o (by rw [hL]; exact hb) (fun hm => by rcases List.mem_cons.mp hm with rfl | hm; exact Nat.lt_irrefl _ (Heap.lt_size e); cases hm) (Heap.get?_push_of_some _ e)
    have hys : ys = (givenOf th xv c).toArray := by
      have hF' : Paired (fun v y => ∃ a t, v = Value.int a t ∧ y = pick th (xv + a)) vs ys.toList := by rw [List.filter_eq_self.mpr (fun _ _ => rfl)] at hF; exact hF
      have := paired_pick (n := c.toNat) (j := 0) hF' hlv (fun i v hi => by
        obtain ⟨t, e⟩ := hP i v hi
        exact ⟨t, by rw [e]; congr 1; omega⟩)
      apply Array.ext'
      rw [this]
      rfl
    subst hys
    have hsn : s.heap.get? D = none := by
      cases q : s.heap.get? D with
      | none => rfl
      | some o => rw [Heap.get?_push_of_some _ q] at hnew; cases hnew
    have hDL : D ≠ L := fun e => by
      obtain ⟨o, _, _, ho, _⟩ := F.ns
      rw [← e, hsn] at ho
      cases ho
    rw [hL] at hn''
    have F' : Fr h₀ L h' (fun z => if z = y then some (.ref D) else m z) := ⟨hn'', fun b o e => keep b o (Nat.ne_of_lt (Nat.lt_of_lt_of_le (Heap.lt_size e) F.above)) (F.keep b o e), F.above⟩
    refine hQ D h' tk n F' (fun p hp => ?_) (fun p hp e => ?_)
    · rcases List.mem_cons.mp hp with rfl | hp
      · refine ⟨hD, hDL, ?_⟩
        cases q : h₀.get? D with
        | none => rfl
        | some o => rw [F.keep _ _ q] at hsn; cases hsn
      · exact ⟨keep _ _ (N p hp).2.1 (N p hp).1, (N p hp).2⟩
    · rw [← e, (N p hp).1] at hsn; cases hsn

def RangeOf (h₀ : Heap) (L : Addr) (m : Str → Option Value) (news : List (Addr × Obj)) (s : Shared) (c : Int) (v : Value) (s₁ : Shared) : Prop :=
  ∃ r t u v' h' tk, v = .ref r ∧ s₁ = { s with heap := h', toks := tk } ∧ IsRange h' r 0 c 1 t u v' ∧ Fr h₀ L h' m ∧ News h₀ L h' news

theorem given4 {y : Str} {px py pos spos : Pos} {iter : PySem.Expr} {scope : Scope} {cl : List (Str × Addr)} {Q : Flow → Shared → Prop} {h₀ : Heap} {L ct cx tl : Addr} {m : Str → Option Value} {news : List (Addr × Obj)} {th : List Value} {ot ox : Obj} {nn : Nat} {xv c : Int} {tx tc : Tok} {p1 p2 p3 p4 p5 p6 p7 : Pos}
    (F : Fr h₀ L s.heap m) (N : News h₀ L s.heap news) (hcount : m (Str.ofString "count") = some (.int c tc)) (hc0 : 0 ≤ c) (hc7 : c < 7)
    (hct : (ct, ot) ∈ news) (hot : ot.data = .cell (some (.ref tl))) (hcx : (cx, ox) ∈ news) (hox : ox.data = .cell (some (.int xv tx))) (htl : (tl, listOf th.toArray nn) ∈ news) (hlen : th.length = 13)
    (h : wpAny (model prog w) A (eval iter env) (RangeOf h₀ L m news s c) E s)
    (hQ : ∀ D h' tk n, Fr h₀ L h' (fun z => if z = y then some (.ref D) else m z) → News h₀ L h' ((D, listOf (givenOf th xv c).toArray n) :: news) → (∀ p ∈ news, p.1 ≠ D) → Q .next { s with heap := h', toks := tk })
    (hL : env.locals = L) (lt : cl.lookup (Str.ofString "things") = some ct) (lx : cl.lookup (Str.ofString "x") = some cx)
    (hk : ∀ C, (compEnvC scope cl C env).scope.kind = .function ∧ (compEnvC scope cl C env).kindOf (Str.ofString "things") = some .cell ∧ (compEnvC scope cl C env).kindOf (Str.ofString "x") = some .cell ∧ (compEnvC scope cl C env).kindOf (Str.ofString "k") = some .local)
    (hh : A.handled = none)
    (hsw : swapsWith (.ListComp (.Subscript (.Name (Str.ofString "things") p1) (.BinOp (.BinOp (.Name (Str.ofString "x") p2) .Add (.Name (Str.ofString "k") p3) p4) .Mod (.Constant (.int 13) 0 p5) p6) p7) [⟨.Name (Str.ofString "k") px, iter, [], 0⟩] scope pos) (some (.Name y py)) spos.line env = pure true)
    (hclos : closureFor scope env = pure cl) (hcell : ∀ z ∈ scope.names, z.2 ≠ .cell) (hkind : scope.kind = .function)
    (hnames : ∀ z ∈ scope.names, z.2 = .local → scope.names.lookup z.1 = some .local) (hx : scope.names.lookup (Str.ofString "k") = some .local)
    (hy : env.kindOf y = some .local) (hp : (env.scope.kind == .class || (env.scope.kind == .module && env.locals != env.globals)) = false)
    (hs : ∀ x, foldedSetIterable iter env x = pure x) :
    wpAny (model prog w) A (exec (.Assign [.Name y py] (.ListComp (.Subscript (.Name (Str.ofString "things") p1) (.BinOp (.BinOp (.Name (Str.ofString "x") p2) .Add (.Name (Str.ofString "k") p3) p4) .Mod (.Constant (.int 13) 0 p5) p6) p7) [⟨.Name (Str.ofString "k") px, iter, [], 0⟩] scope pos) spos) env) Q E s := by
  refine givenHead (fun v y => ∃ a t, v = Value.int a t ∧ y = pick th (xv + a)) (wpAny_mono h (fun v s₁ h₁ => ?_) fun _ _ e => e) hsw hclos hcell hkind hnames hx hy hp hs
  obtain ⟨r, t, u, v', h', tk, rfl, rfl, hr, F', N'⟩ := h₁
  exact givenIter (s := { s with heap := h', toks := tk }) F' N' hL hr hc0 hc7 hct hot hcx hox htl hlen lt lx hk hh hQ
end
end Mine
namespace Mine
theorem bound7 (i : Int) : 0 ≤ i.fmod 7 ∧ i.fmod 7 < 7 := by
  rw [Int.fmod_eq_emod_of_nonneg i (by decide)]
  omega
theorem bound6 (i : Int) : 0 ≤ i.fmod 6 ∧ i.fmod 6 < 6 := by
  rw [Int.fmod_eq_emod_of_nonneg i (by decide)]
  omega
theorem bound4 (i : Int) : 0 ≤ i.fmod 4 ∧ i.fmod 4 < 4 := by
  rw [Int.fmod_eq_emod_of_nonneg i (by decide)]
  omega
end Mine
end
section
open PySem PySem.W PyProof.Rows PySem.Spec
set_option maxRecDepth 100000
namespace Mine

def sParser : Str := Str.ofString "parser"
def sDefaults : Str := Str.ofString "defaults"
def sMore : Str := Str.ofString "more"

/-- what _law_asked gives back -/
noncomputable def askedOf (ss : List Str) (c ch : Int) : List Str :=
  let b := ss.drop c.toNat
  if ch = 2 then b.take (b.length - 1)
  else if ch = 3 ∧ ¬ sParser ∈ b then b ++ [sParser]
  else if ch = 4 ∧ ¬ sDefaults ∈ b then b ++ [sDefaults]
  else if ch = 5 then b ++ [sMore]
  else b

theorem strs_drop : ∀ {vs : List Value} {ss : List Str} (n : Nat), StrsAre vs ss → StrsAre (vs.drop n) (ss.drop n)
  | _, _, 0, h => h
  | _, _, _ + 1, .nil => .nil
  | _, _, n + 1, .cons _ _ h => strs_drop n h
theorem strs_take : ∀ {vs : List Value} {ss : List Str} (n : Nat), StrsAre vs ss → StrsAre (vs.take n) (ss.take n)
  | _, _, 0, _ => .nil
  | _, _, _ + 1, .nil => .nil
  | _, _, n + 1, .cons y t h => .cons y t (strs_take n h)
theorem strs_append : ∀ {vs vs' : List Value} {ss ss' : List Str}, StrsAre vs ss → StrsAre vs' ss' → StrsAre (vs ++ vs') (ss ++ ss')
  | _, _, _, _, .nil, h => h
  | _, _, _, _, .cons y t h, h' => .cons y t (strs_append h h')
theorem strs_length : ∀ {vs : List Value} {ss : List Str}, StrsAre vs ss → vs.length = ss.length
  | _, _, .nil => rfl
  | _, _, .cons _ _ h => by simp [strs_length h]

theorem slice_from (vs : List Value) {c : Int} (hc : 0 ≤ c) : (slicePick vs.toArray (some c) none none).toList = vs.drop c.toNat := by
  rw [kms_pick_eq]
  show kms_pick vs (some c) none = vs.drop c.toNat
  simp only [kms_pick, kms_lo, kms_hi]
  rw [if_neg (by omega), kmk_drop_min, List.take_of_length_le]
  rw [List.length_drop]
  omega
theorem slice_butLast (vs : List Value) : (slicePick vs.toArray none (some (-1)) none).toList = vs.take (vs.length - 1) := by
  rw [kms_pick_eq]
  simp [kms_pick, kms_lo, kms_hi]
end Mine
end
section
open PySem PySem.W PyProof.Rows PySem.Spec
set_option maxRecDepth 100000
namespace Mine

def NamedEnd (prog : Program) (w : World) (h₀ : Heap) (L d : Addr) (x : Str) (m : Str → Option Value) (need : List (Addr × Obj)) (kvs : List (Str × Value)) (s s₂ : Shared) : Prop :=
  ∃ h' tk m' o', s₂ = { s with heap := h', toks := tk } ∧ Fr h₀ L h' m' ∧ (∀ z, z ≠ x → m' z = m z) ∧ News h₀ L h' ((d, o') :: need) ∧ o'.IsDictOf (PySem.strKind prog w) kvs
def NamedPost (prog : Program) (w : World) (h₀ : Heap) (L d : Addr) (x : Str) (m : Str → Option Value) (need : List (Addr × Obj)) (kvs : List (Str × Value)) (s : Shared) (f : Flow) (s₂ : Shared) : Prop :=
  match f with
  | .ret _ => False
  | .brk => False
  | _ => NamedEnd prog w h₀ L d x m need kvs s s₂

theorem forNamed {prog : Program} {w : World} {A : Around} {env : Env} {s : Shared} {E : Value → Shared → Prop} {Q : Flow → Shared → Prop} {x y : Str} {px p pos : Pos} {body : List Stmt}
    {h₀ : Heap} {L l d : Addr} {vs : List Value} {ss : List Str} {n : Nat} {m : Str → Option Value} {need : List (Addr × Obj)} {o : Obj} (kv : Nat → List (Str × Value))
    (F : Fr h₀ L s.heap m) (N : News h₀ L s.heap ((d, o) :: need)) (hl : (l, listOf vs.toArray n) ∈ need) (hap : ∀ p ∈ need, p.1 ≠ d) (hS : StrsAre vs ss) (hy : m y = some (.ref l)) (hd : o.IsDictOf (PySem.strKind prog w) (kv 0))
    (turn : ∀ i k t h tk o₁ I oI, ss[i]? = some k → o₁.IsDictOf (PySem.strKind prog w) (kv i) → Fr h₀ L h (fun z => if z = x then some (.str k t) else m z) → News h₀ L h ((d, o₁) :: (I, oI) :: need) → (∀ p ∈ (I, oI) :: need, p.1 ≠ d) →
      wpAny (model prog w) A (execs body env) (NamedPost prog w h₀ L d x m ((I, oI) :: need) (kv (i + 1)) s) (fun _ _ => False) { s with heap := h, toks := tk })
    (done : ∀ h tk (u : Str → Option Value) o₁, Fr h₀ L h (fun z => if z = x then u z else m z) → News h₀ L h ((d, o₁) :: need) → o₁.IsDictOf (PySem.strKind prog w) (kv ss.length) → Q .next { s with heap := h, toks := tk })
    (hh : A.handled = none := by rfl) (hx : env.kindOf x = some .local := by rfl) (hyk : env.kindOf y = some .local := by rfl) (hk : env.scope.kind = .function := by rfl) (hL : env.locals = L := by rfl) (hdb : (y == ("__debug__" : Str)) = false := by decide)
    (hs : ∀ v, foldedSetIterable (.Name y p) env v = pure v := by intro _; rfl) :
    wpAny (model prog w) A (exec (.For (.Name x px) (.Name y p) body [] pos) env) Q E s := by
  subst hL
  refine wpAny_For (wpAny_Name (wpAny_loadName_local hk hyk F.ns hy ?_) hdb) hs
  have hp : (env.scope.kind == .class || (env.scope.kind == .module && env.locals != env.globals)) = false := by rw [hk]; rfl
  have hls : s.heap.IsList l vs.toArray := ⟨_, (N _ (.tail _ hl)).1, rfl, n, rfl⟩
  have hlt : l < s.heap.objs.size := Heap.lt_size (N _ (.tail _ hl)).1
  refine wpAny_pyIter_list hls ?_
  have W := Walks.list (prog := prog) (w := w) hh s.heap.objs.size l (Nat.ne_of_lt hlt) vs.toArray
  have hsz : vs.toArray.size = ss.length := by simp [strs_length hS]
  rw [hsz] at W
  generalize hI : s.heap.objs.size = I at *
  have hIn : ∀ p ∈ (d, o) :: need, p.1 ≠ I := fun p hp e => by
    exact absurd (Heap.lt_size (N p hp).1) (by rw [e, ← hI]; exact Nat.lt_irrefl _)
  have hId : I ≠ d := fun e => hIn _ (.head _) e.symm
  have hIL : I ≠ env.locals := fun e => by
    exact absurd F.ns.lt (by rw [← e, ← hI]; exact Nat.lt_irrefl _)
  have h0I : h₀.get? I = none := by
    cases q : h₀.get? I with
    | none => rfl
    | some o => exact absurd (Heap.lt_size (F.keep _ _ q)) (by rw [← hI]; exact Nat.lt_irrefl _)
  refine codeAny_forLoop
    (fun k s' => ∃ h' tk m' o' i, s' = { s with heap := h', toks := tk } ∧ (h'.IsListIter I l i ∧ h'.IsList l vs.toArray) ∧ Fr h₀ env.locals h' m' ∧ (∀ z, z ≠ x → m' z = m z) ∧ News h₀ env.locals h' ((d, o') :: need) ∧ o'.IsDictOf (PySem.strKind prog w) (kv i) ∧ i ≤ ss.length ∧ k = ss.length + 1 - i) ?_ (ss.length + 1) ?_
  · rintro k s' ⟨h', tk, m', o', i, rfl, hst, F', hm', N', hd', hi, rfl⟩
    have next : ∀ h₁ : Heap, (∀ b o, b ∉ [I] → h'.get? b = some o → h₁.get? b = some o) → Fr h₀ env.locals h₁ m' ∧ News h₀ env.locals h₁ ((d, o') :: need) := fun h₁ hk₁ =>
      ⟨⟨F'.ns.at' fun o e => hk₁ _ o (by simpa using Ne.symm hIL) e, fun b o e => hk₁ b o (by
          intro hb; rw [List.mem_singleton.mp hb, h0I] at e; cases e) (F'.keep b o e), F'.above⟩,
        fun p hp => ⟨hk₁ _ _ (by
          rcases List.mem_cons.mp hp with rfl | hp
          · simpa using Ne.symm hId
          · simpa using hIn p (.tail _ hp)) (N' p hp).1, (N' p hp).2⟩⟩
    by_cases hlt' : i < ss.length
    · refine W.item i _ _ _ hlt' hst fun v h₁ tk₁ hP hst₁ hk₁ => ?_
      obtain ⟨F₁, N₁⟩ := next h₁ hk₁
      refine wpAny_assign_Name (wpAny_storeName_local hx F₁.ns (fun h₂ hn₂ hs₂ => ?_) hp)
      have F₂ := F₁.set hn₂ hs₂
      have N₂ := N₁.set hs₂
      have hst₂ : h₂.IsListIter I l (i + 1) ∧ h₂.IsList l vs.toArray := W.frame _ _ _ hst₁ fun b hb o e => (hs₂.2 b (by
        rcases List.mem_cons.mp hb with rfl | hb
        · exact hIL
        · rw [List.mem_singleton.mp hb]; exact (N _ (.tail _ hl)).2.1)).trans e
      obtain ⟨oI, hoI, hoI'⟩ := hst₂.1
      have N₃ : News h₀ env.locals h₂ ((d, o') :: (I, oI) :: need) := fun p hp => by
        rcases List.mem_cons.mp hp with rfl | hp
        · exact N₂ _ (.head _)
        · rcases List.mem_cons.mp hp with rfl | hp
          · exact ⟨hoI, hIL, h0I⟩
          · exact N₂ _ (.tail _ hp)
      have hv : ∃ t, v = .str ss[i] t := by
        have hP' : vs[i]? = some v := by simpa using hP
        have aux : ∀ {vs : List Value} {ss : List Str}, StrsAre vs ss → ∀ (i : Nat) (hi : i < ss.length) (v : Value), vs[i]? = some v → ∃ t, v = .str ss[i] t := by
          intro vs ss h
          induction h with
          | nil => intro i hi; cases hi
          | cons y t _ ih =>
            intro i hi v e
            cases i with
            | zero => simp at e; exact ⟨t, e.symm⟩
            | succ j => exact ih j (by simpa using hi) v (by simpa using e)
        exact aux hS i hlt' v hP'
      obtain ⟨t, rfl⟩ := hv
      have e : (fun z => if z = x then some (Value.str ss[i] t) else m' z) = fun z => if z = x then some (Value.str ss[i] t) else m z := by
        funext z
        by_cases hz : z = x
        · simp [hz]
        · simp only [if_neg hz]; exact hm' z hz
      rw [e] at F₂
      refine wpAny_mono (turn i ss[i] t h₂ _ o' I oI (by simp [hlt']) hd' F₂ N₃ (fun p hp => ?_)) (fun f s₃ h₃ => ?_) fun _ _ e => e.elim
      · rcases List.mem_cons.mp hp with rfl | hp
        · exact hId
        · exact hap p hp
      have fin : NamedEnd prog w h₀ env.locals d x m ((I, oI) :: need) (kv (i + 1)) s s₃ → ∃ m₁, m₁ < ss.length + 1 - i ∧ ∃ h' tk m' o' i, s₃ = { s with heap := h', toks := tk } ∧ (h'.IsListIter I l i ∧ h'.IsList l vs.toArray) ∧ Fr h₀ env.locals h' m' ∧ (∀ z, z ≠ x → m' z = m z) ∧ News h₀ env.locals h' ((d, o') :: need) ∧ o'.IsDictOf (PySem.strKind prog w) (kv i) ∧ i ≤ ss.length ∧ m₁ = ss.length + 1 - i := by
        rintro ⟨h₄, tk₄, m₄, o₄, rfl, F₄, hm₄, N₄, hd₄⟩
        refine ⟨ss.length + 1 - (i + 1), by omega, h₄, tk₄, m₄, o₄, i + 1, rfl, ⟨⟨oI, (N₄ (I, oI) (.tail _ (.head _))).1, hoI'⟩, ?_⟩, F₄, hm₄, fun p hp => ?_, hd₄, hlt', rfl⟩
        · exact ⟨_, (N₄ _ (.tail _ (.tail _ hl))).1, rfl, n, rfl⟩
        · rcases List.mem_cons.mp hp with rfl | hp
          · exact N₄ _ (.head _)
          · exact N₄ _ (.tail _ (.tail _ hp))
      cases f with
      | ret v => exact h₃.elim
      | brk => exact h₃.elim
      | next => exact fin h₃
      | cont => exact fin h₃
    · have hin : i = ss.length := by omega
      subst hin
      refine W.done _ _ _ hst fun h₁ tk₁ hk₁ => wpAny_execs_nil ?_
      obtain ⟨F₁, N₁⟩ := next h₁ hk₁
      refine done h₁ tk₁ m' o' ?_ N₁ hd'
      have e : (fun z => if z = x then m' z else m z) = m' := by
        funext z
        by_cases hz : z = x
        · simp [hz]
        · simp only [if_neg hz]; exact (hm' z hz).symm
      rw [e]; exact F₁
  · refine ⟨_, s.toks, m, o, 0, rfl, ?_, F.push _, fun _ _ => rfl, fun p hp => ⟨Heap.get?_push_of_some _ (N p hp).1, (N p hp).2⟩, hd, Nat.zero_le _, rfl⟩
    subst hI
    exact ⟨⟨_, Heap.get?_push_size _ rfl, rfl, rfl⟩, hls.at fun o e => Heap.get?_push_of_some _ e⟩

/-- what the loop puts under the names, from the i-th on -/
noncomputable def namedFrom (th : List Value) (j : Int) : List Str → List (Str × Value)
  | [] => []
  | k :: r => (k, pick th j) :: namedFrom th (j + 1) r
theorem namedFrom_keys {th : List Value} : ∀ {ss : List Str} {j : Int}, (namedFrom th j ss).map (·.1) = ss
  | [], _ => rfl
  | _ :: _, _ => by rw [namedFrom, List.map_cons, namedFrom_keys]
theorem namedFrom_length {th : List Value} {ss : List Str} {j : Int} : (namedFrom th j ss).length = ss.length := by
  rw [← List.length_map (f := (·.1)), namedFrom_keys]
theorem namedFrom_snoc {th : List Value} {k : Str} : ∀ {ss : List Str} {j : Int}, namedFrom th j (ss ++ [k]) = namedFrom th j ss ++ [(k, pick th (j + ss.length))]
  | [], j => by simp [namedFrom]
  | y :: r, j => by
    rw [List.cons_append, namedFrom, namedFrom_snoc, namedFrom, List.cons_append, List.length_cons]
    congr 5
    push_cast
    omega
theorem stored_new {K : Type} [DecidableEq K] {k : K} {v : Value} {kvs : List (K × Value)} (h : k ∉ kvs.map (·.1)) : stored kvs k v = kvs ++ [(k, v)] := by
  unfold stored
  rw [if_neg]
  intro e
  obtain ⟨p, hp, hq⟩ := List.any_eq_true.mp e
  exact h (List.mem_map.mpr ⟨p, hp, of_decide_eq_true hq⟩)
theorem named_step {th : List Value} {j : Int} {ss : List Str} {i : Nat} {k : Str} (hk : ss[i]? = some k) (hnd : ss.Nodup) :
    stored (namedFrom th j (ss.take i)) k (pick th (j + ((namedFrom th j (ss.take i)).length : Int))) = namedFrom th j (ss.take (i + 1)) := by
  obtain ⟨hi, e⟩ := List.getElem?_eq_some_iff.mp hk
  rw [stored_new, List.take_add_one, hk, Option.toList_some, namedFrom_snoc, namedFrom_length]
  rw [namedFrom_keys]
  intro hm
  obtain ⟨n, hn, e'⟩ := List.mem_take_iff_getElem.mp hm
  have hn' : n < i := by omega
  have hne := (List.pairwise_iff_getElem.mp hnd) n i (by omega) hi hn'
  exact hne (e'.trans e.symm)

/-- named[name] = things[(x + count + len(named)) % 13] -/
theorem turn7 {prog : Program} {w : World} {A : Around} {env : Env} {s : Shared} {h₀ : Heap} {L d tl ct cx : Addr} {th : List Value} {nn : Nat} {m : Str → Option Value} {news : List (Addr × Obj)} {o ot ox : Obj} {xv c : Int} {tx tc t : Tok} {k : Str} {kvs : List (Str × Value)}
    {a1 a2 a3 b1 c1 c2 c3 d1 d2 d3 d4 e1 e2 e3 f1 : Pos} {Q : Flow → Shared → Prop} {E : Value → Shared → Prop}
    (F : Fr h₀ L s.heap m) (N : News h₀ L s.heap ((d, o) :: news)) (hap : ∀ p ∈ news, p.1 ≠ d) (hd : o.IsDictOf (PySem.strKind prog w) kvs) (hsz : kvs.length ≤ 100) (lo : (d == sysModules) = false)
    (hct : (ct, ot) ∈ news) (hot : ot.data = .cell (some (.ref tl))) (hcx : (cx, ox) ∈ news) (hox : ox.data = .cell (some (.int xv tx))) (htl : (tl, listOf th.toArray nn) ∈ news) (hlen : th.length = 13)
    (vnamed : m (Str.ofString "named") = some (.ref d)) (vname : m (Str.ofString "name") = some (.str k t)) (vcount : m (Str.ofString "count") = some (.int c tc))
    (hlenN : ∀ (s' : Shared) (Q : Value → Shared → Prop), s'.heap = s.heap → Q (.builtin "len") s' → wpAny (model prog w) A (eval (.Name (Str.ofString "len") d1) env) Q E s')
    (lt : env.cells.lookup (Str.ofString "things") = some ct) (lx : env.cells.lookup (Str.ofString "x") = some cx)
    (kt : env.kindOf (Str.ofString "things") = some .cell) (kx : env.kindOf (Str.ofString "x") = some .cell) (kn : env.kindOf (Str.ofString "named") = some .local) (kk : env.kindOf (Str.ofString "name") = some .local) (kc : env.kindOf (Str.ofString "count") = some .local)
    (hk : env.scope.kind = .function) (hL : env.locals = L)
    (hsw : swapsWith (.Subscript (.Name (Str.ofString "things") b1) (.BinOp (.BinOp (.BinOp (.Name (Str.ofString "x") c1) .Add (.Name (Str.ofString "count") c2) c3) .Add (.Call (.Name (Str.ofString "len") d1) [.Name (Str.ofString "named") d2] [] d3) d4) .Mod (.Constant (.int 13) 0 e1) e2) e3) (some (.Subscript (.Name (Str.ofString "named") a1) (.Name (Str.ofString "name") a2) a3)) f1.line env = pure false)
    (hQ : ∀ h' tk o', Fr h₀ L h' m → News h₀ L h' ((d, o') :: news) → o'.IsDictOf (PySem.strKind prog w) (stored kvs k (pick th (xv + c + (kvs.length : Int)))) → Q .next { s with heap := h', toks := tk }) :
    wpAny (model prog w) A (execs [.Assign [.Subscript (.Name (Str.ofString "named") a1) (.Name (Str.ofString "name") a2) a3]
      (.Subscript (.Name (Str.ofString "things") b1) (.BinOp (.BinOp (.BinOp (.Name (Str.ofString "x") c1) .Add (.Name (Str.ofString "count") c2) c3) .Add (.Call (.Name (Str.ofString "len") d1) [.Name (Str.ofString "named") d2] [] d3) d4) .Mod (.Constant (.int 13) 0 e1) e2) e3) f1] env) Q E s := by
  subst hL
  have hD : ∀ h : Heap, h = s.heap → h.DictOf (PySem.strKind prog w) d kvs := fun h e => Heap.dictOf_iff.mpr ⟨o, by rw [e]; exact (N _ (.head _)).1, hd⟩
  have hT : s.heap.IsList tl th.toArray := ⟨_, (N _ (.tail _ htl)).1, rfl, nn, rfl⟩
  refine wpAny_execs_cons (wpAny_Assign_Subscript ?_ hsw)
  refine Subscript_ (wpAny_Name (wpAny_loadName_cell hk kt lt ⟨ot, (N _ (.tail _ hct)).1, hot⟩ ?_))
  refine wpAny_BinOp (wpAny_BinOp (wpAny_BinOp (wpAny_Name (wpAny_loadName_cell hk kx lx ⟨ox, (N _ (.tail _ hcx)).1, hox⟩ (wpAny_Name (wpAny_loadName_local hk kc F.ns vcount ?_))))))
  refine add_int ?_
  refine PySem.Call_name1 rfl (hlenN _ _ rfl ?_)
  refine PySem.callWith_builtin1 (t := eval (.Name (Str.ofString "named") d2) env) (wpAny_Name (wpAny_loadName_local hk kn F.ns vnamed ?_))
  refine call_len_dict lo (hD _ rfl) (by omega) ?_
  refine add_int (wpAny_Constant_int (mod_int' (by decide) ?_))
  refine itemAt (s := { s with toks := _ }) hT hlen ?_ (by with_unfolding_all rfl)
  refine wpAny_Name (wpAny_loadName_local hk kn F.ns vnamed (wpAny_Name (wpAny_loadName_local hk kk F.ns vname ?_)))
  refine wpAny_setItem_pairs (k := k) (strKind_is prog w k t) (hD _ rfl) (fun h' hm' hs' => ?_) (by rw [sizeLine_eq]; omega)
  obtain ⟨o', ho', hd'⟩ := Heap.dictOf_iff.mp hm'
  have hm := N (d, o) (.head _)
  refine wpAny_execs_nil (hQ h' _ o' (F.change hs' hm.2.1 hm.2.2) (fun p hp => ?_) hd')
  rcases List.mem_cons.mp hp with rfl | hp
  · exact ⟨ho', hm.2⟩
  · have := N p (.tail _ hp)
    exact ⟨(hs'.2 _ (hap p hp)).trans this.1, this.2⟩
end Mine
end
section
open PySem PySem.W PyProof.Rows PySem.Spec
set_option maxRecDepth 100000
namespace Mine

/-- a new TypeError is caught in the frame where it is raised; the ledger stands -/
theorem caughtC {prog : Program} {w : World} {A : Around} {env : Env} {s' : Shared} {h₀ h : Heap} {L e : Addr} {m : Str → Option Value} {news : List (Addr × Obj)}
    {t : PySem.Expr} {b₀ : Stmt} {suite : List Stmt} {pos : Pos} {rest : List ExceptHandler} {Q : Flow → Shared → Prop} {X : String}
    (hfr : A.frames = some [env]) (hf : env.frame = some L) (hk : env.scope.kind = .function) (F : Fr h₀ L h m) (N : News h₀ L h news)
    (hkeep : ∀ b o, h.get? b = some o → s'.heap.get? b = some o) (hnew : h.get? e = none) (hthere : ∃ ob vs, s'.heap.get? e = some ob ∧ ob.cls = .type X ∧ ob.data = .fields vs ∧ vs[1]? = some .none)
    (hexc : isSubtype (.type X) (.type "BaseException") = pure true) (hnt : isSubtype (.type ((Manifest.find? X).elim "type" fun y => y.metatype)) (.type "tuple") = pure false) (hsub : isSubtype (.type X) (.type X) = pure true)
    (hname : ∀ (h' : Heap) (Q' : Value → Shared → Prop) (E' : Value → Shared → Prop), Fr h₀ L h' m → Q' (.type X) { s' with heap := h' } → wpAny (model prog w) (A.mark (some (.ref e))) (eval t env) Q' E' { s' with heap := h' })
    (k : ∀ h', Fr h₀ L h' m → News h₀ L h' news → wpAny (model prog w) (A.mark (some (.ref e))) (execs (b₀ :: suite) env) Q (fun _ _ => False) { s' with heap := h' }) :
    wpAny (model prog w) A (noteFrame (.ref e) env)
      (fun _ s₂ => wpAny (model prog w) A (setFlight (.ref e) none) (fun _ s₃ => wpAny (model prog w) A (handleBy (.ref e) env (.ExceptHandler (some t) none (b₀ :: suite) pos :: rest)) Q (fun _ _ => False) s₃) (fun _ _ => False) s₂) (fun _ _ => False) s' := by
  obtain ⟨oL, esL, epL, hL, hLd, hLk, hLf⟩ := F.ns
  obtain ⟨ob, vs, he, hcls, hd, h1⟩ := hthere
  have hLe : L ≠ e := fun q => by rw [← q, hL] at hnew; cases hnew
  have hkind : env.scope.kind ≠ .module := by rw [hk]; decide
  have hbelow : ∀ b o, h₀.get? b = some o → b ≠ L ∧ b ≠ e := fun b o hb =>
    ⟨Nat.ne_of_lt (Nat.lt_of_lt_of_le (Heap.lt_size hb) F.above), fun q => by have := F.keep b o hb; rw [q, hnew] at this; cases this⟩
  have hnews : ∀ p ∈ news, p.1 ≠ L ∧ p.1 ≠ e := fun p hp => ⟨(N p hp).2.1, fun q => by have := (N p hp).1; rw [q, hnew] at this; cases this⟩
  refine wpAny_noteFrame_new hkind (L := L) hfr hf (hkeep _ _ hL) (by obtain ⟨c, d, dt, sl⟩ := oL; obtain rfl : dt = _ := hLd; rfl) he hLe hd h1 fun h₁ tb oL' pl hpl hk₁ hL₁ hLd₁ htb he₁ htb₁ => ?_
  have htbL : tb ≠ L := fun q => by rw [q, hkeep _ _ hL] at htb; cases htb
  have htbe : tb ≠ e := fun q => by rw [q, he] at htb; cases htb
  have hsz : 1 < vs.size := (Array.getElem?_eq_some_iff.mp h1).1
  have hde : (ob.mapFields (·.setIfInBounds 1 (.ref tb))).data = .fields (vs.setIfInBounds 1 (.ref tb)) := by obtain ⟨c, d, dt, sl⟩ := ob; obtain rfl : dt = .fields vs := hd; rfl
  have hbt : ∀ b o, h.get? b = some o → b ≠ tb := fun b o hb q => by have := hkeep _ _ hb; rw [q, htb] at this; cases this
  -- what stands in h and is neither the frame nor the error stands behind each of the three steps
  have up₁ : ∀ b o, b ≠ L → b ≠ e → h.get? b = some o → h₁.get? b = some o := fun b o hbL hbe hb => hk₁ b o hbL hbe (hkeep _ _ hb)
  have upd : ∀ (h₂ : Heap), (∀ b o, b ≠ L → b ≠ e → h.get? b = some o → h₂.get? b = some o) → h₂.get? L = some oL' →
      (∀ b o, b ≠ L → b ≠ e → h.get? b = some o → (h₂.update tb (Obj.mapFields (·.setIfInBounds 3 .none))).get? b = some o) ∧ (h₂.update tb (Obj.mapFields (·.setIfInBounds 3 .none))).get? L = some oL' := fun h₂ k₂ l₂ =>
    ⟨fun b o hbL hbe hb => (Heap.get?_update_ne _ _ _ _ (hbt b o hb)).trans (k₂ b o hbL hbe hb), (Heap.get?_update_ne _ _ _ _ htbL.symm).trans l₂⟩
  have FN : ∀ (h₂ : Heap), (∀ b o, b ≠ L → b ≠ e → h.get? b = some o → h₂.get? b = some o) → h₂.get? L = some oL' → Fr h₀ L h₂ m ∧ News h₀ L h₂ news := fun h₂ k₂ l₂ =>
    ⟨⟨⟨oL', esL, epL, l₂, hLd₁.trans hLd, hLk, hLf⟩, fun b o hb => k₂ b o (hbelow b o hb).1 (hbelow b o hb).2 (F.keep b o hb), F.above⟩,
     fun p hp => ⟨k₂ _ _ (hnews p hp).1 (hnews p hp).2 (N p hp).1, (N p hp).2⟩⟩
  have U₂ := upd h₁ up₁ hL₁
  refine wpAny_setFlight_none (tb := tb) (vs := vs.setIfInBounds 1 (.ref tb)) he₁ hde (by simp [Array.getElem?_setIfInBounds, hsz]) htb₁ rfl (by simp only [List.size_toArray, List.length_append, List.length_cons, List.length_nil] <;> omega) ?_
  have he₂ := (Heap.get?_update_ne h₁ _ _ (Obj.mapFields (·.setIfInBounds 3 Value.none)) htbe.symm).trans he₁
  have htb₂ := Heap.get?_update_self (Obj.mapFields (·.setIfInBounds 3 Value.none)) htb₁ (Obj.isFreed_of_fields (Obj.data_mapFields rfl _))
  refine wpAny_handleBy_builtin (X := X) (T := X) (b := true) hexc hnt hsub (hname _ _ _ (FN _ U₂.1 U₂.2).1 ⟨rfl, ⟨_, he₂, by obtain ⟨c, d, dt, sl⟩ := ob; cases dt <;> exact hcls⟩, ?_⟩)
  rw [if_pos rfl]
  have U₃ := upd _ U₂.1 U₂.2
  refine wpAny_setFlight_none (tb := tb) (vs := vs.setIfInBounds 1 (.ref tb)) he₂ hde (by simp [Array.getElem?_setIfInBounds, hsz]) htb₂ (Obj.data_mapFields rfl _) (by simp only [Array.size_setIfInBounds, List.size_toArray, List.length_append, List.length_cons, List.length_nil] <;> omega) ?_
  exact wpAny_mono (k _ (FN _ U₃.1 U₃.2).1 (FN _ U₃.1 U₃.2).2) (fun _ _ q => q) fun _ _ q => q.elim
end Mine
end
section
open PySem PySem.W PyProof.Rows PySem.Spec
set_option maxRecDepth 100000
namespace Mine

abbrev dictObj (es : Array DictEntry) (n : Nat) : Obj := { cls := .type "dict", data := .dict es n }

theorem pairs_get {K : Type} [DecidableEq K] {prog : Program} {w : World} {knd : KeyKind prog w K} : ∀ {es : List DictEntry} {kvs : List (K × Value)}, Pairs knd es kvs → ∀ (i : Nat) (e : DictEntry), es[i]? = some e → ∃ kv, kvs[i]? = some kv ∧ knd.is kv.1 e.key = true ∧ e.val = kv.2
  | _, _, .nil, _, _, h => by cases h
  | _, _, .cons h1 h2 hr, 0, e, h => by cases h; exact ⟨_, rfl, h1, h2⟩
  | _, _, .cons _ _ hr, i + 1, e, h => by
    obtain ⟨kv, a, b, c⟩ := pairs_get hr i e (by simpa using h)
    exact ⟨kv, by simpa using a, b, c⟩

/-- in the first i entries of a dict with distinct keys the i-th key does not stand -/
theorem notFound {K : Type} [DecidableEq K] {prog : Program} {w : World} {knd : KeyKind prog w K} {es : List DictEntry} {kvs : List (K × Value)} (hp : Pairs knd es kvs) (hn : (kvs.map (·.1)).Nodup) {i : Nat} {e : DictEntry} {k : K}
    (he : es[i]? = some e) (hk : knd.is k e.key = true) : ((es.take i).toArray.findIdx? fun e' => knd.is k e'.key) = none := by
  rw [Array.findIdx?_eq_none_iff]
  intro e' he'
  rw [List.mem_toArray] at he'
  obtain ⟨j, hj, ej⟩ := List.mem_take_iff_getElem.mp he'
  cases hq : knd.is k e'.key with
  | false => rfl
  | true =>
    exfalso
    obtain ⟨kv, a1, a2, _⟩ := pairs_get hp i e he
    obtain ⟨kv', b1, b2, _⟩ := pairs_get hp j e' (by rw [List.getElem?_eq_getElem (by omega), ej])
    have e1 : k = kv.1 := knd.inj _ _ _ hk a2
    have e2 : k = kv'.1 := knd.inj _ _ _ hq b2
    obtain ⟨hi, ei⟩ := List.getElem?_eq_some_iff.mp a1
    obtain ⟨hj', ej'⟩ := List.getElem?_eq_some_iff.mp b1
    have hne := (List.pairwise_iff_getElem.mp hn) j i (by simpa using hj') (by simpa using hi) (by omega)
    apply hne
    rw [List.getElem_map, List.getElem_map, ei, ej', ← e1, ← e2]

section
variable {prog : Program} {w : World} {A : Around} {E : Value → Shared → Prop} {s : Shared}

theorem putNew {K : Type} [DecidableEq K] {knd : KeyKind prog w K} {d : Addr} {es : List DictEntry} {kvs : List (K × Value)} {i j : Nat} {e : DictEntry} {k : K} {Q : Unit → Shared → Prop}
    (hK : KeysOf knd es.toArray) (hp : Pairs knd es kvs) (hn : (kvs.map (·.1)).Nodup) (he : es[i]? = some e) (hk : knd.is k e.key = true) (hh : e.hash = knd.hash k) (hsz : es.length ≤ 100)
    (hd : s.heap.get? d = some (dictObj (es.take i).toArray j))
    (hQ : ∀ h', h'.get? d = some (dictObj (es.take (i + 1)).toArray (j + 1)) → Heap.SameBut d s.heap h' → Q () { s with heap := h' }) :
    wpAny (model prog w) A (dictPut d e.hash e.key e.val) Q E s := by
  have hKt : KeysOf knd (es.take i).toArray := fun x hx => hK x (by rw [List.mem_toArray] at hx ⊢; exact List.mem_of_mem_take hx)
  unfold dictPut
  refine wpAny_bind ?_
  rw [hh]
  refine wpAny_dictFind_of hk hd rfl hKt ?_
  rw [notFound hp hn he hk]
  refine wpAny_updateDictKeys hd rfl (hQ _ ?_ (Heap.SameBut.update ..)) (by
    rw [sizeLine_eq, List.size_toArray, List.length_take]; omega) (by simp)
  rw [Heap.get?_update_self _ hd rfl]
  congr 1
  show dictObj ((es.take i).toArray.push ⟨knd.hash k, e.key, e.val⟩) (j + 1) = _
  congr 1
  rw [List.take_add_one, he, Option.toList_some, ← hh]
  simp

theorem mergeNew {d n : Addr} {kvs : List (Str × Value)} {Q : Unit → Shared → Prop} (hm : s.heap.DictOf (PySem.strKind prog w) n kvs) (hne : n ≠ d) (lo : (n == sysModules) = false) (hsz : kvs.length ≤ 100)
    (hd : s.heap.get? d = some (dictObj #[] 0))
    (hQ : ∀ h' es j, h'.get? d = some (dictObj es j) → Pairs (PySem.strKind prog w) es.toList kvs → Heap.SameBut d s.heap h' → Q () { s with heap := h' }) :
    wpAny (model prog w) A (mergeMapping d (.ref n) true) Q E s := by
  have hT := hm.typeIs
  obtain ⟨o, es, ep, ho, hc, hod, hK, hp, hn⟩ := hm
  have hlen : es.size = kvs.length := by rw [← hp.length]; simp
  unfold mergeMapping
  refine wpAny_bind (wpAny_isInstance hT (U := "dict") (b := true) (by rw [isSubtype_type]; kernel_rfl) ?_)
  dsimp only
  rw [if_pos rfl]
  refine wpAny_bind (wpAny_specialOf hT PySem.F.slot_dict_iter.lookup ?_)
  refine wpAny_bind (wpAny_pure ?_)
  rw [beq_self_eq_true]
  dsimp only
  rw [if_neg (by rw [lo]; decide)]
  refine wpAny_bind (wpAny_dictEntries hd rfl ?_)
  rw [if_pos (by rfl)]
  refine wpAny_bind (wpAny_dictEntries ho hod ?_)
  refine wpAny_bind (PySem.MeetsSeq2.wpAny_forIn_array _ (fun l b s' => s = s' ∧ ∀ e ∈ l, ∃ k t, e.key = Value.str k t) (fun _ s' => wpAny _ _ _ _ _ s') ?_ ?_ es _ ⟨rfl, ?_⟩)
  · rintro e r b s' ⟨rfl, hk⟩
    obtain ⟨k, t, hkt⟩ := hk e (.head _)
    rw [hkt]
    exact wpAny_pure ⟨rfl, fun e' he' => hk e' (.tail _ he')⟩
  rotate_left
  · intro e he
    obtain ⟨k, hk1, _⟩ := hK e (by simpa using he)
    obtain ⟨t, ht⟩ := Value.isStrOf_shape hk1
    exact ⟨k, t, ht⟩
  rintro b s' ⟨rfl, _⟩
  refine wpAny_bind (wpAny_dictEntries ho hod (wpAny_bind (wpAny_dictEpoch ho hod ?_)))
  refine wpAny_bind (wpAny_forIn_list _ (fun l b s' => ∃ i h', l = List.range' i (es.size - i) ∧ i ≤ es.size ∧ s' = { s with heap := h' } ∧ h'.get? d = some (dictObj (es.toList.take i).toArray i) ∧ Heap.SameBut d s.heap h') (fun _ s' => wpAny _ _ _ _ _ s') ?_ ?_ (List.range es.size) _ ?_)
  · rintro x r b s' ⟨i, h', hl, hi, rfl, hd', hs'⟩
    have hlt : i < es.size := by
      rcases Nat.lt_or_ge i es.size with h | h
      · exact h
      · rw [Nat.sub_eq_zero_of_le h] at hl; cases hl
    have hr : x = i ∧ r = List.range' (i + 1) (es.size - (i + 1)) := by
      obtain ⟨q, hq⟩ : ∃ q, es.size - i = q + 1 := ⟨es.size - i - 1, by omega⟩
      rw [hq, List.range'_succ] at hl
      injection hl with a b
      exact ⟨a, by rw [b]; congr 1; omega⟩
    obtain ⟨rfl, rfl⟩ := hr
    have ho' : h'.get? n = some o := (hs'.2 n hne).trans ho
    refine wpAny_bind (wpAny_dictEntries ho' hod ?_)
    have hex : es[x]? = some es[x] := by simp [hlt]
    rw [hex]
    dsimp only
    have hex' : es.toList[x]? = some es[x] := by simpa using hex
    obtain ⟨kv, hkv, hk1, hk2⟩ := pairs_get hp x es[x] hex'
    obtain ⟨k', hk1', hh'⟩ := hK es[x] (by simp)
    have hkk : kv.1 = k' := (PySem.strKind prog w).inj _ _ _ hk1 hk1'
    have hes : es.toList.length ≤ 100 := by simp; omega
    have hKt : KeysOf (PySem.strKind prog w) (es.toList.take x).toArray := fun y hy => hK y (by
      rw [List.mem_toArray] at hy
      simpa using List.mem_of_mem_take hy)
    refine wpAny_bind (wpAny_holding ?_)
    rw [if_pos rfl]
    have hf := wpAny_dictFind_of (A := A) (E := E) (s := { s with heap := h' }) (Q := fun r s₁ => r = none ∧ s₁ = { s with heap := h' }) hk1 hd' rfl hKt ⟨notFound hp hn hex' hk1, rfl⟩
    rw [hkk, ← hh'] at hf
    refine wpAny_bind (wpAny_mono hf (fun r s₁ h₁ => ?_) fun _ _ e => e)
    obtain ⟨rfl, rfl⟩ := h₁
    rw [if_neg (by decide)]
    refine putNew (s := { s with heap := h' }) (knd := PySem.strKind prog w) (i := x) (k := kv.1) (by simpa using hK) hp hn hex' hk1 (by rw [hkk]; exact hh') hes hd' (fun h₂ hd₂ hs₂ => ?_)
    refine wpAny_bind (wpAny_dictEpoch (s := { s with heap := h₂ }) ((hs₂.2 n hne).trans ho') hod ?_)
    rw [if_neg (by simp)]
    exact wpAny_pure ⟨x + 1, h₂, rfl, hlt, rfl, hd₂, hs'.trans hs₂⟩
  · rintro b s' ⟨i, h', hl, hi, rfl, hd', hs'⟩
    have : i = es.size := by
      rcases Nat.lt_or_ge i es.size with h | h
      · obtain ⟨q, hq⟩ : ∃ q, es.size - i = q + 1 := ⟨es.size - i - 1, by omega⟩
        rw [hq, List.range'_succ] at hl
        cases hl
      · omega
    subst this
    exact wpAny_pure (hQ h' _ _ hd' (by show Pairs _ (es.toList.take es.size) kvs; rw [List.take_of_length_le (by simp)]; exact hp) hs')
  · exact ⟨0, s.heap, by rw [List.range_eq_range', Nat.sub_zero], Nat.zero_le _, rfl, by simpa using hd, Heap.SameBut.refl _ _⟩
end
end Mine
end
section
open PySem PySem.W PyProof.Rows PySem.Spec
set_option maxRecDepth 100000
namespace Mine
section
variable {prog : Program} {w : World} {A : Around} {E : Value → Shared → Prop} {s : Shared} {env : Env} {h₀ : Heap} {L : Addr} {m : Str → Option Value} {news : List (Addr × Obj)}

theorem kwIn {f : Value} {d : Addr} {es : Array DictEntry} {j : Nat} {kvs : List (Str × Value)} {Q : List (Str × Value) → Shared → Prop} (hd : s.heap.get? d = some (dictObj es j)) (hp : Pairs (PySem.strKind prog w) es.toList kvs) (h : Q kvs s) :
    wpAny (model prog w) A (keywordsIn f d) Q E s := by
  unfold keywordsIn
  refine wpAny_bind (wpAny_dictEntries hd rfl ?_)
  refine wpAny_bind (PySem.MeetsSeq2.wpAny_forIn_array _ (fun l b s' => s = s' ∧ ∃ r, Pairs (PySem.strKind prog w) l r ∧ b ++ r = kvs) (fun b s' => wpAny _ _ (pure b) _ _ s') ?_ ?_ es _ ⟨rfl, kvs, hp, rfl⟩)
  · rintro e r b s' ⟨rfl, rr, hr, hb⟩
    cases hr with
    | @cons _ kv _ kvs' h1 h2 hr =>
      obtain ⟨t, ht⟩ := Value.isStrOf_shape h1
      rw [ht]
      refine wpAny_pure ⟨rfl, kvs', hr, ?_⟩
      rw [← hb, h2]
      simp
  · rintro b s' ⟨rfl, r, hr, hb⟩
    cases hr
    have e : b = kvs := by simpa using hb
    subst e
    exact wpAny_pure h

theorem mergedOne {f : Value} {n : Addr} {o : Obj} {x : Sem Value} {pos : Pos} {kvs : List (Str × Value)} {Q : Addr → Shared → Prop} (F : Fr h₀ L s.heap m) (N : News h₀ L s.heap news) (hn : (n, o) ∈ news) (ho : o.IsDictOf (PySem.strKind prog w) kvs) (lo : (n == sysModules) = false) (hsz : kvs.length ≤ 100)
    (hx : ∀ (s' : Shared) (Q' : Value → Shared → Prop), Fr h₀ L s'.heap m → Q' (.ref n) s' → wpAny (model prog w) A x Q' E s')
    (h : ∀ d h' es j, d ≠ L → h₀.get? d = none → Fr h₀ L h' m → News h₀ L h' news → h'.get? d = some (dictObj es j) → Pairs (PySem.strKind prog w) es.toList kvs → Q d { s with heap := h' }) :
    wpAny (model prog w) A (mergedKeywords f [(none, (do let v ← x; standAt pos; pure v))]) Q E s := by
  unfold mergedKeywords
  refine wpAny_bind (wpAny_alloc (wpAny_bind (wpAny_holding ?_)))
  have hpush := F.push (dictObj #[] 0)
  have hne : n ≠ s.heap.objs.size := Nat.ne_of_lt (Heap.lt_size (N _ hn).1)
  have hnn : (s.heap.push (dictObj #[] 0)).get? n = some o := Heap.get?_push_of_some _ (N _ hn).1
  refine wpAny_bind ?_
  rw [List.forIn_cons]
  refine wpAny_bind ?_
  dsimp only
  refine wpAny_bind (wpAny_pure ?_)
  refine wpAny_bind (wpAny_bind (hx _ _ hpush (wpAny_bind (wpAny_standAt (wpAny_pure ?_)))))
  refine wpAny_bind (wpAny_onRaise ?_)
  refine wpAny_holding (wpAny_tryCatch (wpAny_onRaise ?_))
  refine mergeNew (s := { s with heap := s.heap.push (dictObj #[] 0) }) (Heap.dictOf_iff.mpr ⟨o, hnn, ho⟩) hne lo hsz (Heap.get?_push_size _ rfl) (fun h' es j hd' hp' hs' => ?_)
  refine wpAny_pure ?_
  dsimp only
  rw [List.forIn_nil]
  refine wpAny_pure ?_
  have hk' : ∀ b ob, s.heap.get? b = some ob → h'.get? b = some ob := fun b ob e => (hs'.2 b (Nat.ne_of_lt (Heap.lt_size e))).trans (Heap.get?_push_of_some _ e)
  refine wpAny_pure (wpAny_pure (h _ h' es j (Nat.ne_of_gt F.ns.lt) ?_ (F.keeps hk') (N.grown hk') hd' hp'))
  cases q : h₀.get? s.heap.objs.size with
  | none => rfl
  | some o' => exact absurd (Heap.lt_size (F.keep _ _ q)) (Nat.lt_irrefl _)

theorem argsBoth {f : Value} {D n : Addr} {k : Nat} {o : Obj} {x y : Sem Value} {pos pos' : Pos} {gv : List Value} {kvs : List (Str × Value)} {Q : Args → Shared → Prop} (F : Fr h₀ L s.heap m) (N : News h₀ L s.heap news)
    (hD : (D, listOf gv.toArray k) ∈ news) (hg : gv.length ≤ 100) (hn : (n, o) ∈ news) (ho : o.IsDictOf (PySem.strKind prog w) kvs) (lo : (n == sysModules) = false) (hsz : kvs.length ≤ 100)
    (hx : ∀ (s' : Shared) (Q' : Value → Shared → Prop), Fr h₀ L s'.heap m → Q' (.ref D) s' → wpAny (model prog w) A x Q' E s')
    (hy : ∀ (s' : Shared) (Q' : Value → Shared → Prop), Fr h₀ L s'.heap m → Q' (.ref n) s' → wpAny (model prog w) A y Q' E s')
    (h : ∀ h', Fr h₀ L h' m → News h₀ L h' news → Q ⟨gv, kvs⟩ { s with heap := h' }) :
    wpAny (model prog w) A (evalArgs f true [(true, (do let v ← x; standAt pos; pure v))] [(none, (do let v ← y; standAt pos'; pure v))]) Q E s := by
  unfold evalArgs
  refine wpAny_bind (wpAny_bind (hx _ _ F (wpAny_bind (wpAny_standAt (wpAny_pure (wpAny_bind (wpAny_pure ?_)))))))
  dsimp only
  refine wpAny_holding ?_
  rw [if_neg (by simp)]
  refine wpAny_bind (mergedOne F N hn ho lo hsz hy (fun d h' es j hdL hd0 F' N' hd' hp' => ?_))
  have hst : StarOf (model prog w) A E (.ref D) (fun vs s₂ => ∃ h₂, s₂ = { s with heap := h₂ } ∧ vs = gv ∧ Fr h₀ L h₂ m ∧ News h₀ L h₂ ((d, dictObj es j) :: news)) { s with heap := h' } := by
    have N'' : News h₀ L h' ((d, dictObj es j) :: news) := fun p hp => by
      rcases List.mem_cons.mp hp with rfl | hp
      · exact ⟨hd', hdL, hd0⟩
      · exact N' p hp
    refine star_seq (s := { s with heap := h' }) (T := "list") (its := gv.toArray) (n := k) F' N'' (.tail _ hD) rfl rfl (.inl rfl) (by simp) (by rw [sizeLine_eq, List.size_toArray]; omega) (fun h₂ F₂ N₂ => ⟨h₂, rfl, rfl, F₂, N₂⟩)
  unfold StarOf at hst
  refine wpAny_bind (wpAny_bind (wpAny_mono hst (fun b s₂ h₂ => ?_) fun _ _ e => e))
  obtain ⟨rfl, h₂⟩ := h₂
  rw [if_neg (by decide)]
  refine wpAny_holding (wpAny_mono h₂ (fun vs s₃ h₃ => ?_) fun _ _ e => e)
  obtain ⟨h₄, rfl, rfl, F₄, N₄⟩ := h₃
  refine wpAny_bind (wpAny_holding (kwIn (s := { s with heap := h₄ }) (N₄ _ (.head _)).1 hp' (wpAny_pure (h h₄ F₄ (fun p hp => N₄ p (.tail _ hp))))))
end
end Mine
end
section
open PySem PySem.W PyProof.Rows PySem.Spec
open Sem (wp)
set_option maxRecDepth 100000
namespace Mine

/-- the claim's caller lies in the stack below -/
def CallerBelow (Γ : PySem.Ctx) : Prop := (Γ.below.map (·.1)).any Code.isCaller = true
def CallerIn (Γ : PySem.Ctx) : Prop := Γ.code.isCaller = true ∨ CallerBelow Γ

/-- wpAny, for the contexts that bear the caller -/
def wpC {α : Type} (M : Model) (A : Around) (t : Sem α) (Q : α → Shared → Prop) (E : Value → Shared → Prop) (s : Shared) : Prop :=
  ∀ Γ p, Γ.In A → CallerIn Γ → wp M Γ t (fun a _ s' => Q a s') (fun e _ s' => E e s') p s
def codeC (M : Model) (A : Around) (c : Code) (R : Result → Shared → Prop) (s : Shared) : Prop :=
  ∀ Γ p, Γ.code = c → Γ.Below A → CallerBelow Γ → wpCode M Γ R p s

section
variable {α β : Type} {M : Model} {A : Around} {E : Value → Shared → Prop} {s : Shared}
theorem wpC_any {t : Sem α} {Q : α → Shared → Prop} (h : wpAny M A t Q E s) : wpC M A t Q E s := fun Γ p hΓ _ => h Γ p hΓ
theorem codeC_any {c : Code} {R : Result → Shared → Prop} (h : codeAny M A c R s) : codeC M A c R s := fun Γ p hc hΓ _ => h Γ p hc hΓ
theorem wpC_pure {a : α} {Q : α → Shared → Prop} (h : Q a s) : wpC M A (pure a) Q E s := wpC_any (wpAny_pure h)
theorem wpC_mono {t : Sem α} {Q Q' : α → Shared → Prop} {E' : Value → Shared → Prop} (h : wpC M A t Q E s) (hQ : ∀ a s, Q a s → Q' a s) (hE : ∀ e s, E e s → E' e s) : wpC M A t Q' E' s :=
  fun Γ p hΓ hc => Sem.wp_mono M Γ t (fun a _ s => hQ a s) (fun e _ s => hE e s) p s (h Γ p hΓ hc)
theorem wpC_bind {m : Sem α} {f : α → Sem β} {Q : β → Shared → Prop} (h : wpC M A m (fun a s' => wpC M A (f a) Q E s') E s) : wpC M A (m >>= f) Q E s := fun Γ p hΓ hc => by
  rw [Sem.wp_bind']
  exact Sem.wp_mono M Γ m (fun a p' s' h' => h' Γ p' hΓ hc) (fun _ _ _ h' => h') p s (h Γ p hΓ hc)
/-- the left part by the plain logic -/
theorem wpC_bindA {m : Sem α} {f : α → Sem β} {Q : β → Shared → Prop} (h : wpAny M A m (fun a s' => wpC M A (f a) Q E s') E s) : wpC M A (m >>= f) Q E s := wpC_bind (wpC_any h)
theorem wpC_onRaise {m : Sem α} {k : Value → Sem Unit} {Q : α → Shared → Prop} (h : wpC M A m Q (fun e s' => wpAny M A (k e) (fun _ s'' => E e s'') E s') s) : wpC M A (m.onRaise k) Q E s := fun Γ p hΓ hc => by
  rw [Sem.wp_onRaise]
  exact Sem.wp_mono M Γ m (fun _ _ _ h' => h') (fun e p' s' h' => h' Γ p' hΓ) p s (h Γ p hΓ hc)
theorem wpC_tryCatch {m : Sem α} {k : Value → Sem α} {Q : α → Shared → Prop} (h : wpC M A m Q (fun e s' => wpC M A (k e) Q E s') s) : wpC M A (tryCatch m k) Q E s := fun Γ p hΓ hc => by
  rw [Sem.wp_tryCatch']
  exact Sem.wp_mono M Γ m (fun _ _ _ h' => h') (fun e p' s' h' => h' Γ p' hΓ hc) p s (h Γ p hΓ hc)
theorem wpC_operating {vs : List Value} {m : Sem Value} {Q : Value → Shared → Prop} (h : wpC M A m Q E s) : wpC M A (operate vs m) Q E s := fun Γ p hΓ hc => by
  rw [Sem.wp_operate]; exact h Γ p hΓ hc
theorem wpC_standAt {q : Pos} {Q : Unit → Shared → Prop} (h : Q () s) : wpC M A (standAt q) Q E s := wpC_any (wpAny_standAt h)
theorem codeC_mono {c : Code} {R R' : Result → Shared → Prop} (h : codeC M A c R s) (hR : ∀ r s, R r s → R' r s) : codeC M A c R' s := fun Γ p hc hΓ hb => wpCode_mono (fun r s' => hR r s') (h Γ p hc hΓ hb)

theorem callerEnter {Γ : PySem.Ctx} (h : CallerIn Γ) (c : Code) (hd : Option Value) (p : Pos) : CallerBelow (Γ.enter c hd p) := by
  show (((Γ.code, p) :: Γ.below).map (·.1)).any Code.isCaller = true
  rw [List.map_cons, List.any_cons]
  rcases h with h | h
  · rw [h]; rfl
  · rw [show (Γ.below.map (·.1)).any Code.isCaller = true from h, Bool.or_true]
theorem wpC_run {c : Code} {h : Option Value} {Q : Flow → Shared → Prop}
    (hc : codeC M (A.mark h) c (fun r s' => match r with | .ok f => Q f s' | .error e => E e s') s) (hnb : h ≠ some byPass := by intro x; cases x) : wpC M A (run c h) Q E s :=
  fun Γ p hΓ hcl => by rw [Sem.wp_run]; exact hc _ p rfl (hΓ.enter c h p hnb) (callerEnter hcl c h p)
theorem wpC_runValue {c : Code} {Q : Value → Shared → Prop}
    (hc : codeC M A c (fun r s' => match r with | .ok (.ret v) => Q v s' | .ok _ => False | .error e => E e s') s) : wpC M A (runValue c) Q E s := fun Γ p hΓ hcl => by
  rw [Sem.wp_runValue]; exact hc _ p rfl (hΓ.enter c none p (by intro x; cases x)) (callerEnter hcl c none p)
theorem wpC_call {f : Value} {pos : List Value} {kw : List (Str × Value)} {Q : Value → Shared → Prop}
    (hc : codeC M A (.call f ⟨pos, kw⟩) (fun r s' => match r with | .ok (.ret v) => Q v s' | .ok _ => False | .error e => E e s') s) : wpC M A (call f pos kw) Q E s := wpC_runValue hc
theorem codeC_of_tree {c : Code} {R : Result → Shared → Prop}
    (h : wpC M (A.under c) (M.den c) (fun fin s' => match fin with | .done f => R (.ok f) s' | .again c' => c'.quiet = true ∧ codeC M A c' R s') (fun e s' => R (.error e) s') s) : codeC M A c R s := fun Γ p hc hΓ hb => by
  rw [wpCode_iff_wp, hc]
  refine Sem.wp_mono M Γ _ (fun fin p' s' h' => ?_) (fun _ _ _ h' => h') p s (h Γ p (hc ▸ hΓ.in) (.inr hb))
  cases fin with
  | done f => exact h'
  | again c' => exact ⟨h'.1, h'.2 (Γ.goto c') p' rfl (hΓ.goto c') hb⟩
theorem codeC_loop {c : Code} {R : Result → Shared → Prop} (hq : c.quiet = true) (I : Nat → Shared → Prop)
    (turn : ∀ n s, I n s → wpC M (A.under c) (M.den c) (fun fin s' => match fin with
        | .done f => R (.ok f) s'
        | .again c' => (c' = c ∧ ∃ m, m < n ∧ I m s') ∨ (c'.quiet = true ∧ codeC M A c' R s')) (fun e s' => R (.error e) s') s)
    (n : Nat) (h : I n s) : codeC M A c R s := by
  induction n using Nat.strongRecOn generalizing s with
  | ind n ih =>
    refine codeC_of_tree (wpC_mono (turn n s h) (fun fin s' hf => ?_) fun _ _ h' => h')
    cases fin with
    | done f => exact hf
    | again c' =>
      rcases hf with ⟨rfl, m, hm, hI⟩ | hf
      · exact ⟨hq, ih m hm hI⟩
      · exact hf
theorem wpC_execs_cons {st : Stmt} {rest : List Stmt} {env : Env} {Q : Flow → Shared → Prop} (h : wpC M A (exec st env) (fun f s' => match f with | .next => wpC M A (execs rest env) Q E s' | f => Q f s') E s) :
    wpC M A (execs (st :: rest) env) Q E s := by
  rw [execs]
  refine wpC_bind (wpC_mono h (fun f s' h' => ?_) fun _ _ e => e)
  cases f with
  | next => exact h'
  | brk => exact wpC_pure h'
  | cont => exact wpC_pure h'
  | ret v => exact wpC_pure h'
theorem wpC_execs_consA {st : Stmt} {rest : List Stmt} {env : Env} {Q : Flow → Shared → Prop} (h : wpAny M A (exec st env) (fun f s' => match f with | .next => wpC M A (execs rest env) Q E s' | f => Q f s') E s) :
    wpC M A (execs (st :: rest) env) Q E s := wpC_execs_cons (wpC_any h)
end
end Mine
end
section
open PySem PySem.W PyProof.Rows PySem.Spec
open Sem (wp)
set_option maxRecDepth 100000
namespace Mine
section
variable {α : Type} {M : Model} {A : Around} {E : Value → Shared → Prop} {s : Shared} {env : Env}
theorem wpC_attempt {m : Sem α} {Q : Except Value α → Shared → Prop} (h : wpC M A m (fun a s' => Q (.ok a) s') (fun e s' => Q (.error e) s') s) : wpC M A m.attempt Q E s := by
  unfold Sem.attempt
  refine wpC_tryCatch (wpC_bind (wpC_mono h (fun a s' q => wpC_pure q) fun e s' q => wpC_pure q))
theorem wpC_tryStmt {body orelse : Sem Flow} {h₀ : ExceptHandler} {hs : List ExceptHandler} {Q : Flow → Shared → Prop}
    (h : wpC M A body (fun f s₁ => match f with | .next => wpAny M A orelse Q E s₁ | f => Q f s₁)
      (fun e s₁ => wpAny M A (noteFrame e env) (fun _ s₂ => wpAny M A (setFlight e none) (fun _ s₃ => wpAny M A (handleBy e env (h₀ :: hs)) Q E s₃) E s₂) E s₁) s) :
    wpC M A (tryStmt false body (h₀ :: hs) orelse [] env) Q E s := by
  unfold tryStmt
  simp only [List.isEmpty_nil, if_true, List.isEmpty_cons, Bool.false_and, Bool.false_eq_true, if_false]
  refine wpC_bind (wpC_attempt (wpC_mono h (fun f s₁ h₁ => ?_) fun e s₁ h₁ => ?_))
  · cases f <;> first | exact wpC_any h₁ | exact wpC_pure h₁
  · exact wpC_any (wpAny_bind (wpAny_mono h₁ (fun _ _ h₂ => wpAny_bind h₂) fun _ _ x => x))
end
section
variable {prog : Program} {w : World} {A : Around} {E : Value → Shared → Prop} {s : Shared} {env : Env}
theorem wpC_Try {body orelse : List Stmt} {h₀ : ExceptHandler} {hs : List ExceptHandler} {pos : Pos} {Q : Flow → Shared → Prop}
    (h : wpC (model prog w) A (execs body env) (fun f s₁ => match f with | .next => wpAny (model prog w) A (execs orelse env) Q E s₁ | f => Q f s₁)
      (fun e s₁ => wpAny (model prog w) A (noteFrame e env) (fun _ s₂ => wpAny (model prog w) A (setFlight e none) (fun _ s₃ => wpAny (model prog w) A (handleBy e env (h₀ :: hs)) Q E s₃) E s₂) E s₁) s) :
    wpC (model prog w) A (exec (.Try body (h₀ :: hs) orelse [] pos) env) Q E s := by
  rw [arm_exec_Try]
  exact wpC_bind (wpC_standAt (wpC_tryStmt h))
theorem wpC_Assign_Name {M : Model} {x : Str} {pos' pos : Pos} {value : PySem.Expr} {Q : Flow → Shared → Prop}
    (h : wpC M A (eval value env) (fun v s₁ => wpAny M A (storeName env x v) (fun _ => Q .next) E s₁) E s)
    (hs : swapsWith value (some (.Name x pos')) pos.line env = pure false := by rfl) : wpC M A (exec (.Assign [.Name x pos'] value pos) env) Q E s := fun Γ p hΓ hc => by
  simp only [exec_Assign_Name env x pos' value pos hs, Sem.wp_bind', Sem.wp_cmd_standAt, Sem.wp_bindName, Sem.wp_pure']
  exact Sem.wp_mono M Γ _ (fun v _ s₁ h₁ => h₁ Γ _ hΓ) (fun _ _ _ h' => h') _ _ (h Γ _ hΓ hc)
theorem wpC_runOwn {M : Model} {c : Code} {h : Option Value} {Q : Flow → Shared → Prop}
    (hc : codeC M (A.mark h) c (fun r s' => match r with | .ok f => Q f s' | .error e => cameBackBy M A env E e s') s) (hnb : h ≠ some byPass := by intro x; cases x) : wpC M A (runOwn c env h) Q E s := by
  unfold runOwn
  exact wpC_onRaise (wpC_run hc hnb)
theorem wpC_For {M : Model} {target iter : PySem.Expr} {body orelse : List Stmt} {pos : Pos} {Q : Flow → Shared → Prop}
    (h : wpAny M A (eval iter env) (fun x s₁ => wpAny M A (pyIter x) (fun it s₂ =>
      codeC M A (.forLoop target it body orelse env) (fun r s' => match r with | .ok f => Q f s' | .error e => cameBackBy M A env E e s') s₂) E s₁) E s)
    (hs : ∀ x, foldedSetIterable iter env x = pure x := by intro _; rfl) : wpC M A (exec (.For target iter body orelse pos) env) Q E s := by
  rw [exec_For]
  exact wpC_bind (wpC_standAt (wpC_bindA (wpAny_mono h (fun x s₁ h₁ => by
    rw [hs x]
    refine wpC_bind (wpC_pure (wpC_bind (wpC_standAt (wpC_bindA (wpAny_holding (wpAny_mono h₁ (fun it s₂ h₂ => wpC_runOwn h₂) fun _ _ h' => h'))))))) fun _ _ h' => h')))

theorem codeC_forLoop {R : Result → Shared → Prop} {target : PySem.Expr} {it : Value} {body : List Stmt} (I : Nat → Shared → Prop)
    (turn : ∀ n s, I n s → wpAny (model prog w) A (pyNext it) (fun r s₁ => match r with
      | none => R (.ok .next) s₁
      | some v => wpAny (model prog w) A (assign target env v) (fun _ s₂ => wpC (model prog w) A (execs body env) (fun f s₃ => match f with
          | .next | .cont => ∃ m, m < n ∧ I m s₃
          | .brk => R (.ok .next) s₃
          | .ret v => R (.ok (.ret v)) s₃) (fun _ _ => False) s₂) (fun _ _ => False) s₁) (fun _ _ => False) s)
    (n : Nat) (h : I n s) (ht : ∀ v, letOwnedTupleGo target it v = pure () := by intro _; rfl) : codeC (model prog w) A (.forLoop target it body [] env) R s := by
  refine codeC_loop rfl I (fun n s hI => ?_) n h
  show wpC _ _ ((forTurn target it body [] env).onRaise (fun x => do noteFrame x env; theTreesLotGoes x)) _ _ s
  rw [show A.under (.forLoop target it body [] env) = A from Around.under_of_weight rfl]
  refine wpC_onRaise ?_
  simp only [forTurn]
  refine wpC_bind (wpC_standAt (wpC_bindA (wpAny_onRaise (wpAny_mono (turn n s hI) (fun r s₁ h₁ => ?_) fun _ _ h' => h'.elim))))
  cases r with
  | none => exact wpC_pure (.inr ⟨rfl, codeC_any (codeAny_block (wpAny_execs_nil h₁))⟩)
  | some v =>
    dsimp only
    rw [ht v]
    refine wpC_bind (wpC_pure (wpC_bindA (wpAny_mono h₁ (fun _ s₂ h₂ => wpC_bind (wpC_mono h₂ (fun f s₃ h₃ => ?_) fun _ _ e => e.elim)) fun _ _ e => e.elim)))
    cases f with
    | next => exact wpC_pure (.inl ⟨rfl, h₃⟩)
    | cont => exact wpC_pure (.inl ⟨rfl, h₃⟩)
    | brk => exact wpC_pure h₃
    | ret v => exact wpC_pure h₃
end
end Mine
end
section
open PySem PySem.W PyProof.Rows PySem.Spec
set_option maxRecDepth 100000
namespace Mine
theorem loopCC {prog : Program} {w : World} {A : Around} {env : Env} {s : Shared} {E : Value → Shared → Prop} {Q : Flow → Shared → Prop} {x : Str} {px : Pos} {body : List Stmt}
    {h₀ : Heap} {L l cx : Addr} {items : List Value} {n : Nat} {m : Str → Option Value} {need : List (Addr × Obj)} {ox : Obj} {v₀ : Option Value} (J : (Str → Option Value) → Prop)
    (hh : A.handled = none) (hx : env.kindOf x = some .cell) (hk : env.scope.kind = .function) (hc : env.cells.lookup x = some cx) (hL : env.locals = L)
    (F : Fr h₀ L s.heap m) (N : News h₀ L s.heap ((cx, ox) :: need)) (hl : (l, listOf items.toArray n) ∈ need) (hap : ∀ p ∈ need, p.1 ≠ cx) (hox : ox.data = .cell v₀) (hj : J m)
    (turn : ∀ v h tk m₁ oc I oI, v ∈ items → J m₁ → oc.data = .cell (some v) → (∀ p ∈ need, p.1 ≠ I) → I ≠ cx → Fr h₀ L h m₁ → News h₀ L h ((cx, oc) :: (I, oI) :: need) →
      wpC (model prog w) A (execs body env) (TurnPost h₀ L cx ((I, oI) :: need) J Q s) (fun _ _ => False) { s with heap := h, toks := tk })
    (done : ∀ h tk m₁ oc, J m₁ → (∃ v, oc.data = .cell v) → Fr h₀ L h m₁ → News h₀ L h ((cx, oc) :: need) → Q .next { s with heap := h, toks := tk }) :
    wpAny (model prog w) A (pyIter (.ref l)) (fun it s₂ => codeC (model prog w) A (.forLoop (.Name x px) it body [] env) (fun r s' => match r with | .ok f => Q f s' | .error e => cameBackBy (model prog w) A env E e s') s₂) E s := by
  have hls : s.heap.IsList l items.toArray := ⟨_, (N _ (.tail _ hl)).1, rfl, n, rfl⟩
  have hlt : l < s.heap.objs.size := Heap.lt_size (N _ (.tail _ hl)).1
  refine wpAny_pyIter_list hls ?_
  have W := Walks.list (prog := prog) (w := w) hh s.heap.objs.size l (Nat.ne_of_lt hlt) items.toArray
  have hsz : items.toArray.size = items.length := by simp
  rw [hsz] at W
  generalize hI : s.heap.objs.size = I at *
  have hIn : ∀ p ∈ (cx, ox) :: need, p.1 ≠ I := fun p hp e => by
    exact absurd (Heap.lt_size (N p hp).1) (by rw [e, ← hI]; exact Nat.lt_irrefl _)
  have hIcx : I ≠ cx := fun e => hIn _ (.head _) e.symm
  have hIL : I ≠ L := fun e => by
    exact absurd F.ns.lt (by rw [← e, ← hI]; exact Nat.lt_irrefl _)
  have h0I : h₀.get? I = none := by
    cases q : h₀.get? I with
    | none => rfl
    | some o => exact absurd (Heap.lt_size (F.keep _ _ q)) (by rw [← hI]; exact Nat.lt_irrefl _)
  refine codeC_forLoop
    (fun k s' => ∃ h' tk m' oc i, s' = { s with heap := h', toks := tk } ∧ (h'.IsListIter I l i ∧ h'.IsList l items.toArray) ∧ Fr h₀ L h' m' ∧ News h₀ L h' ((cx, oc) :: need) ∧ (∃ v, oc.data = .cell v) ∧ J m' ∧ i ≤ items.length ∧ k = items.length + 1 - i) ?_ (items.length + 1) ?_
  · rintro k s' ⟨h', tk, m', oc, i, rfl, hst, F', N', ⟨vc, hoc⟩, hJ, hi, rfl⟩
    have next : ∀ h₁ : Heap, (∀ b o, b ∉ [I] → h'.get? b = some o → h₁.get? b = some o) → Fr h₀ L h₁ m' ∧ News h₀ L h₁ ((cx, oc) :: need) := fun h₁ hk₁ =>
      ⟨⟨F'.ns.at' fun o e => hk₁ _ o (by simpa using Ne.symm hIL) e, fun b o e => hk₁ b o (by
          intro hb; rw [List.mem_singleton.mp hb, h0I] at e; cases e) (F'.keep b o e), F'.above⟩,
        fun p hp => ⟨hk₁ _ _ (by
          rcases List.mem_cons.mp hp with rfl | hp
          · simpa using Ne.symm hIcx
          · simpa using hIn p (.tail _ hp)) (N' p hp).1, (N' p hp).2⟩⟩
    by_cases hlt' : i < items.length
    · refine W.item i _ _ _ hlt' hst fun v h₁ tk₁ hP hst₁ hk₁ => ?_
      obtain ⟨F₁, N₁⟩ := next h₁ hk₁
      have hcell := N₁ (cx, oc) (.head _)
      refine wpAny_assign_Name (wpAny_storeName_cell hk hx hc ⟨oc, hcell.1, hoc⟩ fun h₂ hv₂ hs₂ => ?_)
      obtain ⟨oc₂, hoc₂, hd₂⟩ := hv₂
      have F₂ : Fr h₀ L h₂ m' := ⟨F₁.ns.sameBut hs₂ (Ne.symm hcell.2.1), fun b ob e => (hs₂.2 b (fun q => by rw [q, hcell.2.2] at e; cases e)).trans (F₁.keep b ob e), F₁.above⟩
      have N₂ : News h₀ L h₂ ((cx, oc₂) :: need) := fun p hp => by
        rcases List.mem_cons.mp hp with rfl | hp
        · exact ⟨hoc₂, hcell.2⟩
        · have := N₁ p (.tail _ hp)
          exact ⟨(hs₂.2 _ (hap p hp)).trans this.1, this.2⟩
      have hst₂ : h₂.IsListIter I l (i + 1) ∧ h₂.IsList l items.toArray := W.frame _ _ _ hst₁ fun b hb o e => (hs₂.2 b (by
        rcases List.mem_cons.mp hb with rfl | hb
        · exact hIcx
        · rw [List.mem_singleton.mp hb]; exact hap _ hl)).trans e
      obtain ⟨oI, hoI, hoI'⟩ := hst₂.1
      have N₃ : News h₀ L h₂ ((cx, oc₂) :: (I, oI) :: need) := fun p hp => by
        rcases List.mem_cons.mp hp with rfl | hp
        · exact N₂ _ (.head _)
        · rcases List.mem_cons.mp hp with rfl | hp
          · exact ⟨hoI, hIL, h0I⟩
          · exact N₂ _ (.tail _ hp)
      refine wpC_mono (turn v h₂ _ m' oc₂ I oI (List.mem_of_getElem? (by simpa using hP)) hJ hd₂ (fun p hp => hIn p (.tail _ hp)) hIcx F₂ N₃) (fun f s₃ h₃ => ?_) fun _ _ e => e.elim
      have fin : (∃ h' tk m' oc, s₃ = { s with heap := h', toks := tk } ∧ Fr h₀ L h' m' ∧ News h₀ L h' ((cx, oc) :: (I, oI) :: need) ∧ (∃ v, oc.data = .cell v) ∧ J m') →
          ∃ m, m < items.length + 1 - i ∧ ∃ h' tk m' oc i, s₃ = { s with heap := h', toks := tk } ∧ (h'.IsListIter I l i ∧ h'.IsList l items.toArray) ∧ Fr h₀ L h' m' ∧ News h₀ L h' ((cx, oc) :: need) ∧ (∃ v, oc.data = .cell v) ∧ J m' ∧ i ≤ items.length ∧ m = items.length + 1 - i := by
        rintro ⟨h₄, tk₄, m₄, oc₄, rfl, F₄, N₄, hc₄, hJ₄⟩
        refine ⟨items.length + 1 - (i + 1), by omega, h₄, tk₄, m₄, oc₄, i + 1, rfl, ⟨⟨oI, (N₄ (I, oI) (.tail _ (.head _))).1, hoI'⟩, ?_⟩, F₄, fun p hp => ?_, hc₄, hJ₄, hlt', rfl⟩
        · exact ⟨_, (N₄ _ (.tail _ (.tail _ hl))).1, rfl, n, rfl⟩
        · rcases List.mem_cons.mp hp with rfl | hp
          · exact N₄ _ (.head _)
          · exact N₄ _ (.tail _ (.tail _ hp))
      cases f with
      | ret v => exact h₃
      | brk => exact h₃
      | next => exact fin h₃
      | cont => exact fin h₃
    · have hin : i = items.length := by omega
      subst hin
      refine W.done _ _ _ hst fun h₁ tk₁ hk₁ => ?_
      obtain ⟨F₁, N₁⟩ := next h₁ hk₁
      exact done h₁ tk₁ m' oc hJ ⟨vc, hoc⟩ F₁ N₁
  · refine ⟨_, s.toks, m, ox, 0, rfl, ?_, F.push _, fun p hp => ⟨Heap.get?_push_of_some _ (N p hp).1, (N p hp).2⟩, ⟨v₀, hox⟩, hj, Nat.zero_le _, rfl⟩
    subst hI
    exact ⟨⟨_, Heap.get?_push_size _ rfl, rfl, rfl⟩, hls.at fun o e => Heap.get?_push_of_some _ e⟩
end Mine
end
section
open PySem PySem.W PyProof.Rows PySem.Spec
open Sem (wp)
set_option maxRecDepth 100000
namespace Mine
section
variable {α : Type} {M : Model} {A : Around} {E : Value → Shared → Prop} {s : Shared}

theorem noMark (own : List String) (codes : List Code) (h : codes.any Code.isCaller = true) : pythonCodeMadeTheCall own codes = false := by
  unfold pythonCodeMadeTheCall
  rw [Bool.and_eq_false_iff]
  left
  rw [Bool.and_eq_false_iff]
  left
  show (!(codes.any Code.isCaller)) = false
  rw [h]
  rfl

theorem markNone {own : List String} {e : Value} {Q : Unit → Shared → Prop} (h : Q () s) : wpC M A (markTheRefusal own e) Q E s := fun Γ p hΓ hc => by
  unfold markTheRefusal
  show wp M Γ (Sem.stack _) _ _ p s
  rw [wp]
  have hno : pythonCodeMadeTheCall own (((Γ.code, p) :: Γ.below).map (·.1)) = false := noMark _ _ (by
    rw [List.map_cons, List.any_cons]
    rcases hc with hc | hc
    · rw [hc]; rfl
    · rw [show (Γ.below.map (·.1)).any Code.isCaller = true from hc, Bool.or_true])
  show wp M Γ (if pythonCodeMadeTheCall own (((Γ.code, p) :: Γ.below).map (·.1)) = true then _ else _) _ _ p s
  rw [hno]
  exact h

theorem refused {msg : String} {Q : α → Shared → Prop} (hh : A.handled = none)
    (h : ∀ h' tk e, Heap.NewExc s.heap h' e "TypeError" → E (.ref e) { s with heap := h', toks := tk }) (hm : (msg : Str).length ≤ sizeLine) :
    wpC M A (theBinderRefuses msg : Sem α) Q E s := by
  unfold theBinderRefuses
  refine wpC_bindA (wpAny_mkStr ?_ hm)
  refine wpC_bindA ?_
  unfold newExc newTuple
  refine wpAny_bind (wpAny_newObj_type ?_)
  refine wpAny_bind (m := firstArgMember _ _) (wpAny_of_eq (a := Value.none) (by simp only [firstArgMember, plainExc_TypeError.first]; rfl) ?_)
  rw [plainExc_TypeError.own]
  refine wpAny_newObj_type ?_
  refine wpC_bind (markNone ?_)
  refine wpC_any (wpAny_raiseNew_none hh ?_)
  exact h _ _ _ ⟨fun b o hb => Heap.get?_push_of_some _ (Heap.get?_push_of_some _ hb), Heap.get?_none_of_le (by simp), _, .ref s.heap.objs.size, Heap.get?_push_size _ rfl, rfl, by simp⟩
end
section
variable {prog : Program} {w : World} {A : Around} {E : Value → Shared → Prop} {s : Shared} {env : Env} {h₀ : Heap} {L : Addr} {m : Str → Option Value} {news : List (Addr × Obj)}

theorem methodC {q f : Addr} {self : Value} {R : Result → Shared → Prop} {args : Args} (hq : s.heap.get? q = some (methodObj (.ref f) self))
    (h : codeC (model prog w) A (.call (.ref f) { args with pos := self :: args.pos }) R s) : codeC (model prog w) A (.call (.ref q) args) R s := by
  refine codeC_of_tree ?_
  show wpC _ _ (callAny (.ref q) args) _ _ _
  unfold callAny
  refine wpC_bindA (wpAny_load hq ?_)
  exact wpC_pure ⟨rfl, h⟩
end
end Mine
end
section
open PySem PySem.W PyProof.Rows PySem.Spec
open Sem (wp)
set_option maxRecDepth 100000
namespace Mine
section
variable {prog : Program} {w : World} {A : Around} {E : Value → Shared → Prop} {s : Shared} {env : Env} {h₀ : Heap} {L : Addr} {m : Str → Option Value} {news : List (Addr × Obj)}

theorem wpC_CallAt {value slice : PySem.Expr} {args : List PySem.Expr} {keywords : List Keyword} {p pos : Pos} {Q : Value → Shared → Prop}
    (h : wpAny (model prog w) A (eval (.Subscript value slice p) env) (fun f s₁ => wpC (model prog w) A (callWith pos f [] (backTo pos (starEach args env)) (backToKw pos (keywordEach keywords env))) Q E s₁) E s) :
    wpC (model prog w) A (eval (.Call (.Subscript value slice p) args keywords pos) env) Q E s := by
  show wpC _ _ (do callWith pos (← eval (.Subscript value slice p) env) [] (backTo pos (starEach args env)) (backToKw pos (keywordEach keywords env))) _ _ _
  exact wpC_bindA h

theorem callStarsC {pos p1 p2 p3 p4 : Pos} {xg xn : Str} {q f D n : Addr} {self : Value} {of : Obj} {fd : FuncData} {k : Nat} {o : Obj} {gv : List Value} {kvs : List (Str × Value)} {Q : Value → Shared → Prop} (F : Fr h₀ L s.heap m) (N : News h₀ L s.heap news)
    (hq : (q, methodObj (.ref f) self) ∈ news) (hf : h₀.get? f = some of) (hfd : of.data = .func fd)
    (hD : (D, listOf gv.toArray k) ∈ news) (hg : gv.length ≤ 100) (hn : (n, o) ∈ news) (ho : o.IsDictOf (PySem.strKind prog w) kvs) (lo : (n == sysModules) = false) (hsz : kvs.length ≤ 100)
    (vg : m xg = some (.ref D)) (vn : m xn = some (.ref n))
    (h : ∀ h', Fr h₀ L h' m → News h₀ L h' news → codeC (model prog w) A (.call (.ref q) ⟨gv, kvs⟩) (fun r s' => match r with | .ok (.ret v) => Q v s' | .ok _ => False | .error e => E e s') { s with heap := h' })
    (kg : env.kindOf xg = some .local) (kn : env.kindOf xn = some .local) (hk : env.scope.kind = .function) (hL : env.locals = L) (dg : (xg == ("__debug__" : Str)) = false) (dn : (xn == ("__debug__" : Str)) = false) :
    wpC (model prog w) A (callWith pos (.ref q) [] (backTo pos (starEach [.Starred (.Name xg p1) p2] env)) (backToKw pos (keywordEach [⟨none, .Name xn p3, p4⟩] env))) Q E s := by
  subst hL
  unfold callWith
  refine wpC_bindA (wpAny_holding ?_)
  refine argsBoth (x := eval (.Name xg p1) env) (y := eval (.Name xn p3) env) F N hD hg hn ho lo hsz (fun s' Q' F' q => wpAny_Name (wpAny_loadName_local hk kg F'.ns vg q) dg) (fun s' Q' F' q => wpAny_Name (wpAny_loadName_local hk kn F'.ns vn q) dn) (fun h' F' N' => ?_)
  refine wpC_bind (wpC_standAt ?_)
  have hkeep : wpAny (model prog w) A (keeperOf (.ref q)) (fun r s₁ => r = .boundFrame ∧ s₁ = { s with heap := h' }) E { s with heap := h' } := by
    unfold keeperOf
    refine wpAny_bind (wpAny_load (N' _ hq).1 ?_)
    dsimp only
    rw [if_neg (by decide)]
    show wpAny _ _ (load f >>= fun x => pure (match x.data with | .func _ => Keeper.boundFrame | _ => Keeper.caller)) _ _ _
    refine wpAny_bind (wpAny_load (F'.keep _ _ hf) ?_)
    rw [hfd]
    exact wpAny_pure ⟨rfl, rfl⟩
  refine wpC_bindA (wpAny_mono hkeep (fun r s₁ h₁ => ?_) fun _ _ e => e)
  obtain ⟨rfl, rfl⟩ := h₁
  refine wpC_bind ?_
  show wpC _ _ (operate _ (call (.ref q) gv kvs)) _ _ _
  refine wpC_operating (wpC_call ?_)
  refine codeC_mono (h h' F' N') (fun r s' hr => ?_)
  rcases r with e | (v | _ | _ | v) <;> first | exact hr | exact hr.elim | skip
  exact wpC_any (wpAny_bind (wpAny_holding (wpAny_point (wpAny_pure hr))))
end
end Mine
end
section
open PySem PySem.W PyProof.Rows PySem.Spec
set_option maxRecDepth 100000
namespace Mine
/-- the names that the keywords fill -/
noncomputable def bindKw (normal : List Str) : List (Str × Value) → List (Str × Value) → Option (List (Str × Value))
  | slots, [] => some slots
  | slots, (k, v) :: r => if normal.contains k then (if (slots.lookup k).isSome then none else bindKw normal (slots ++ [(k, v)]) r) else none

def qG : Str := Str.ofString "Interpolation.before_get"
def qS : Str := Str.ofString "Interpolation.before_set"
def qR : Str := Str.ofString "Interpolation.before_read"
def qW : Str := Str.ofString "Interpolation.before_write"
def N4s : List Str := [Str.ofString "self", Str.ofString "parser", Str.ofString "section", Str.ofString "option", Str.ofString "value"]
def N5s : List Str := [Str.ofString "self", Str.ofString "parser", Str.ofString "section", Str.ofString "option", Str.ofString "value", Str.ofString "defaults"]
def Short (msg : String) : Prop := (msg : Str).length ≤ sizeLine
def dupMsg (q k : Str) : String := toString q.toString ++ toString "() got multiple values for argument '" ++ toString k.toString ++ toString "'"
def unMsg (q k : Str) : String := toString q.toString ++ toString "() got an unexpected keyword argument '" ++ toString k.toString ++ toString "'"
def nearMsg (q k near : Str) : String := toString q.toString ++ toString "() got an unexpected keyword argument '" ++ toString k.toString ++ toString "'. Did you mean '" ++ toString near.toString ++ toString "'?"

theorem wpC_forIn_list {M : Model} {A : Around} {E : Value → Shared → Prop} {s : Shared} {α β : Type} (f : α → β → Sem (ForInStep β)) (I : List α → β → Shared → Prop) (Q : β → Shared → Prop)
    (turn : ∀ x rest b s, I (x :: rest) b s → wpC M A (f x b) (fun r s' => match r with | .yield b' => I rest b' s' | .done b' => Q b' s') E s)
    (fin : ∀ b s, I [] b s → Q b s) (l : List α) (b : β) (h : I l b s) : wpC M A (forIn l b f) Q E s := by
  induction l generalizing b s with
  | nil => rw [List.forIn_nil]; exact wpC_pure (fin _ _ h)
  | cons x l ih =>
    rw [List.forIn_cons]
    refine wpC_bind (wpC_mono (turn x l b s h) (fun r s' h' => ?_) fun _ _ e => e)
    cases r with
    | yield b' => exact ih b' h'
    | done b' => exact wpC_pure h'
section
variable {M : Model} {A : Around} {E : Value → Shared → Prop} {s : Shared}
theorem missing_one {normal : List Str} {sl : List (Str × Value)} {o : Option (List (Str × Value))} {x : Str} (hb : o = some sl) (h : (normal.filter fun n => (sl.lookup n).isNone) = [x]) : ∃ sl n, o = some sl ∧ n ∈ normal ∧ (sl.lookup n).isSome = false := by
  have hm : x ∈ normal.filter fun n => (sl.lookup n).isNone := by rw [h]; exact .head _
  rw [List.mem_filter] at hm
  refine ⟨sl, x, hb, hm.1, ?_⟩
  cases hq : sl.lookup x with
  | none => rfl
  | some v => rw [hq] at hm; exact absurd hm.2 (by simp)
set_option maxHeartbeats 8000000 in
theorem bindC {fd : FuncData} {normal : List Str} {pos : List Value} {kw : List (Str × Value)} {Q : List (Str × Value) → Shared → Prop}
    (hn : fd.params.args.map (·.arg) = normal) (hpo : fd.params.posonlyargs = []) (hko : fd.params.kwonlyargs = []) (hva : fd.params.vararg = none) (hkw : fd.params.kwarg = none) (hdf : fd.defaults = .none) (hh : A.handled = none)
    (hN : (fd.qualname = qG ∧ normal = N5s) ∨ (normal = N4s ∧ (fd.qualname = qS ∨ fd.qualname = qR ∨ fd.qualname = qW))) (hl : 1 ≤ pos.length ∧ pos.length ≤ 7)
    (hms : ∀ sl, bindKw normal (normal.zip pos) kw = some sl → pos.length ≤ normal.length → (normal.filter fun n => (sl.lookup n).isNone) = [] ∨ (normal.filter fun n => (sl.lookup n).isNone) = [Str.ofString "value"] ∨ (normal.filter fun n => (sl.lookup n).isNone) = [Str.ofString "defaults"])
    (b1 : ∀ p ∈ kw, normal.contains p.1 = true → Short (dupMsg fd.qualname p.1))
    (b2 : ∀ p ∈ kw, normal.contains p.1 = false → ((p.1 :: normal).any fun x => x.cps.any fun c => decide (55296 ≤ c) && decide (c ≤ 57343)) = false ∧ Short (unMsg fd.qualname p.1) ∧ ∀ near, Suggest.didYouMean p.1 normal = some near → Short (nearMsg fd.qualname p.1 near))
    (hok : ∀ sl, bindKw normal (normal.zip pos) kw = some sl → pos.length ≤ normal.length → (∀ n ∈ normal, (sl.lookup n).isSome = true) → Q (normal.filterMap fun n => (sl.lookup n).map (n, ·)) s)
    (hno : (bindKw normal (normal.zip pos) kw = none ∨ normal.length < pos.length ∨ ∃ sl n, bindKw normal (normal.zip pos) kw = some sl ∧ n ∈ normal ∧ (sl.lookup n).isSome = false) → ∀ h' tk e, Heap.NewExc s.heap h' e "TypeError" → E (.ref e) { s with heap := h', toks := tk }) :
    wpC M A (bindArgs fd ⟨pos, kw⟩) Q E s := by
  simp only [Short, dupMsg, unMsg, nearMsg] at b1 b2
  unfold bindArgs
  simp only [hn, hpo, hko, hva, hkw, hdf, List.map_nil, List.nil_append, List.append_nil, List.filter_nil]
  refine wpC_bind (wpC_forIn_list _ (fun l b s' => s = s' ∧ b.2 = [] ∧ (∀ p ∈ l, p ∈ kw) ∧ bindKw normal b.1 l = bindKw normal (normal.zip pos) kw) (fun b s' => wpC _ _ _ _ _ s') ?_ ?_ kw _ ⟨rfl, rfl, fun _ h => h, rfl⟩)
  · rintro ⟨k, v⟩ rest ⟨slots, extra⟩ s' ⟨rfl, hx, hmem, hb⟩
    dsimp only at hx hb ⊢
    subst hx
    have hin := hmem _ (.head _)
    by_cases hc : normal.contains k = true
    · rw [if_pos (by rw [hc]; rfl)]
      rw [bindKw, if_pos hc] at hb
      by_cases hl : (slots.lookup k).isSome = true
      · rw [if_pos hl]
        rw [if_pos hl] at hb
        have hm := b1 (k, v) hin hc
        dsimp only at hm
        refine wpC_bindA (wpAny_rule (wpC_bind (refused hh ?_ hm)))
        exact hno (.inl hb.symm)
      · rw [if_neg hl]
        rw [if_neg hl] at hb
        exact wpC_pure ⟨rfl, rfl, fun p hp => hmem p (.tail _ hp), hb⟩
    · have hc' : normal.contains k = false := by simpa using hc
      rw [if_neg (by rw [hc']; simp)]
      rw [bindKw, if_neg hc] at hb
      rw [if_neg (by simp), if_neg (by simp)]
      obtain ⟨c1, c2, c3⟩ := b2 (k, v) hin hc'
      dsimp only at c1 c2 c3
      refine wpC_bindA (wpAny_rule ?_)
      rw [if_neg (by rw [c1]; decide)]
      cases hd : Suggest.didYouMean k normal with
      | some near =>
        have hm := c3 near hd
        refine wpC_bind (refused hh ?_ hm)
        exact hno (.inl hb.symm)
      | none =>
        refine wpC_bind (refused hh ?_ c2)
        exact hno (.inl hb.symm)
  · rintro ⟨sl, extra⟩ s' ⟨rfl, hx, _, hb⟩
    dsimp only at hx hb ⊢
    subst hx
    rw [bindKw] at hb
    refine wpC_bind (wpC_any (wpAny_of_eq (a := none) rfl ?_))
    by_cases hlen : normal.length < pos.length
    · rw [if_pos (by simpa using hlen)]
      refine wpC_bindA (wpAny_rule (wpC_bind (refused hh (hno (.inr (.inl hlen))) ?_)))
      have hp : pos.length = 1 ∨ pos.length = 2 ∨ pos.length = 3 ∨ pos.length = 4 ∨ pos.length = 5 ∨ pos.length = 6 ∨ pos.length = 7 := by omega
      rcases hN with ⟨h1, h2⟩ | ⟨h2, h1 | h1 | h1⟩ <;> rw [h1, h2] <;> rw [h2] at hlen <;> rcases hp with h | h | h | h | h | h | h <;> rw [h] at hlen ⊢ <;> first | (exact absurd hlen (by decide)) | (clear hlen; decide +kernel)
    · rw [if_neg (by simpa using hlen)]
      have hle : pos.length ≤ normal.length := Nat.le_of_not_lt hlen
      simp only [Option.getD_none, List.toList_toArray, List.length_nil, Nat.zero_sub, List.drop_nil, Nat.sub_zero, List.take_length, List.drop_length, List.zip_nil_right, List.forIn_nil, pure_bind]
      rcases hms sl hb.symm hle with h | h | h
      · rw [h, if_neg (by decide), if_neg (by decide)]
        refine wpC_pure (hok sl hb.symm hle (fun n hn' => ?_))
        have := (List.filter_eq_nil_iff.mp h) n hn'
        simpa using this
      · have hE := hno (.inr (.inr (missing_one hb.symm h)))
        rw [h]
        generalize normal.filterMap (fun n => (sl.lookup n).map (n, ·)) = fm
        rw [if_pos (show (!(List.isEmpty [Str.ofString "value"])) = true from rfl)]
        refine wpC_bindA (wpAny_rule (wpC_bind (refused hh hE ?_)))
        rcases hN with ⟨h1, h2⟩ | ⟨h2, h1 | h1 | h1⟩ <;> rw [h1] <;> decide +kernel
      · have hE := hno (.inr (.inr (missing_one hb.symm h)))
        rw [h]
        generalize normal.filterMap (fun n => (sl.lookup n).map (n, ·)) = fm
        rw [if_pos (show (!(List.isEmpty [Str.ofString "defaults"])) = true from rfl)]
        refine wpC_bindA (wpAny_rule (wpC_bind (refused hh hE ?_)))
        rcases hN with ⟨h1, h2⟩ | ⟨h2, h1 | h1 | h1⟩ <;> rw [h1] <;> decide +kernel
end
end Mine
end
section
open PySem PySem.W PyProof.Rows PySem.Spec
set_option maxRecDepth 100000
namespace Mine
/-- bindKw, by the names alone -/
noncomputable def bindN (normal : List Str) : List Str → List Str → Option (List Str)
  | ks, [] => some ks
  | ks, k :: r => if normal.contains k then (if ks.contains k then none else bindN normal (ks ++ [k]) r) else none
theorem lookup_some {k : Str} : ∀ {l : List (Str × Value)}, (l.lookup k).isSome = (l.map (·.1)).contains k
  | [] => rfl
  | (x, v) :: r => by
    rw [List.lookup_cons, List.map_cons, List.contains_cons]
    cases h : k == x with
    | true => rfl
    | false => rw [lookup_some]; simp
theorem bindKw_names {normal : List Str} : ∀ {kw slots : List (Str × Value)}, (bindKw normal slots kw).map (·.map (·.1)) = bindN normal (slots.map (·.1)) (kw.map (·.1))
  | [], slots => rfl
  | (k, v) :: r, slots => by
    rw [bindKw, List.map_cons, bindN]
    by_cases h : normal.contains k = true
    · rw [if_pos h, if_pos h, lookup_some]
      by_cases h2 : (slots.map (·.1)).contains k = true
      · rw [if_pos h2, if_pos h2]; rfl
      · rw [if_neg h2, if_neg h2, bindKw_names]
        simp
    · rw [if_neg h, if_neg h]; rfl
theorem bindKw_append {normal : List Str} : ∀ {kw slots sl : List (Str × Value)}, bindKw normal slots kw = some sl → sl = slots ++ kw
  | [], slots, sl, h => by rw [bindKw] at h; cases h; simp
  | (k, v) :: r, slots, sl, h => by
    rw [bindKw] at h
    split at h
    · split at h
      · cases h
      · rw [bindKw_append h]; simp
    · cases h

def N4 : List Str := [Str.ofString "parser", Str.ofString "section", Str.ofString "option", Str.ofString "value"]
def N5 : List Str := N4 ++ [Str.ofString "defaults"]

/-- by the names: is the call taken? -/
noncomputable def takenN (normal : List Str) (n : Nat) (keys : List Str) : Bool := match bindN normal (normal.take n) keys with
  | none => false
  | some ks => decide (n ≤ normal.length) && normal.all fun x => ks.contains x
noncomputable def missN (normal : List Str) (n : Nat) (keys : List Str) : List Str := match bindN normal (normal.take n) keys with
  | none => []
  | some ks => if n ≤ normal.length then normal.filter fun x => !ks.contains x else []
noncomputable def fitsN (names : List Str) (c ch : Nat) : Bool := decide (c ≤ names.length) && decide (askedOf names c ch = names.drop c)

noncomputable def okShape (normal names : List Str) (c ch : Nat) : Bool :=
  let a := askedOf names c ch
  (takenN normal (c + 1) a == fitsN names c ch) && (missN normal (c + 1) a == [] || missN normal (c + 1) a == [Str.ofString "value"] || missN normal (c + 1) a == [Str.ofString "defaults"]) &&
    decide a.Nodup && decide (a.length ≤ 6) && a.all (fun k => normal.contains k || k == Str.ofString "more" || k == Str.ofString "defaults") && decide (a.length = (names.drop c).length ↔ a = names.drop c)
theorem shapes4 : ∀ c < 7, ∀ ch < 6, okShape N4s N4 c ch = true := by decide +kernel
theorem shapes5 : ∀ c < 7, ∀ ch < 6, okShape N5s N5 c ch = true := by decide +kernel
theorem msgs4 : ∀ q ∈ [qS, qR, qW], ∀ k ∈ N4s ++ [Str.ofString "more", Str.ofString "defaults"], (dupMsg q k : Str).length ≤ 1000 ∧ (unMsg q k : Str).length ≤ 1000 ∧ ((k :: N4s).any fun x => x.cps.any fun c => decide (55296 ≤ c) && decide (c ≤ 57343)) = false := by decide +kernel
theorem msgs5 : ∀ k ∈ N5s ++ [Str.ofString "more"], (dupMsg qG k : Str).length ≤ 1000 ∧ (unMsg qG k : Str).length ≤ 1000 ∧ ((k :: N5s).any fun x => x.cps.any fun c => decide (55296 ≤ c) && decide (c ≤ 57343)) = false := by decide +kernel
end Mine
end
section
open PySem PySem.W PyProof.Rows PySem.Spec
set_option maxRecDepth 100000
namespace Mine
theorem near4 : ∀ q ∈ [qS, qR, qW], ∀ k ∈ N4s ++ [Str.ofString "more", Str.ofString "defaults"], (match Suggest.didYouMean k N4s with | none => true | some n => decide ((nearMsg q k n : Str).length ≤ 1000)) = true := by decide +kernel
theorem near5 : ∀ k ∈ N5s ++ [Str.ofString "more"], (match Suggest.didYouMean k N5s with | none => true | some n => decide ((nearMsg qG k n : Str).length ≤ 1000)) = true := by decide +kernel
theorem zip_fst {α β : Type} : ∀ (l : List α) (r : List β), (l.zip r).map (·.1) = l.take r.length
  | [], r => by simp
  | _ :: _, [] => by simp
  | a :: l, b :: r => by simp [zip_fst l r]
theorem givenOf_length {th : List Value} {xv c : Int} : (givenOf th xv c).length = c.toNat := by simp [givenOf]

/-- which def, with which names -/
inductive Which : Str → List Str → List Str → Prop where
  | get : Which qG N5s N5
  | set : Which qS N4s N4
  | read : Which qR N4s N4
  | write : Which qW N4s N4
theorem Which.shape {q : Str} {normal names : List Str} (W : Which q normal names) {c ch : Nat} (hc : c < 7) (hch : ch < 6) : okShape normal names c ch = true := by
  cases W
  · exact shapes5 c hc ch hch
  all_goals exact shapes4 c hc ch hch

theorem bindShape {M : Model} {A : Around} {E : Value → Shared → Prop} {s : Shared} {fd : FuncData} {normal names : List Str} {th : List Value} {xv c ch : Int} {self : Value} {Q : List (Str × Value) → Shared → Prop}
    (W : Which fd.qualname normal names) (hn : fd.params.args.map (·.arg) = normal) (hpo : fd.params.posonlyargs = []) (hko : fd.params.kwonlyargs = []) (hva : fd.params.vararg = none) (hkw : fd.params.kwarg = none) (hdf : fd.defaults = .none) (hh : A.handled = none)
    (c0 : 0 ≤ c) (c7 : c < 7) (h0 : 0 ≤ ch) (h6 : ch < 6)
    (hok : c.toNat ≤ names.length → askedOf names c ch = names.drop c.toNat → Q (normal.filterMap fun n => ((normal.zip (self :: givenOf th xv c) ++ namedFrom th (xv + c) (askedOf names c ch)).lookup n).map (n, ·)) s)
    (hno : ¬ (c.toNat ≤ names.length ∧ askedOf names c ch = names.drop c.toNat) → ∀ h' tk e, Heap.NewExc s.heap h' e "TypeError" → E (.ref e) { s with heap := h', toks := tk }) :
    wpC M A (bindArgs fd ⟨self :: givenOf th xv c, namedFrom th (xv + c) (askedOf names c ch)⟩) Q E s := by
  obtain ⟨n, rfl⟩ : ∃ n : Nat, c = n := ⟨c.toNat, by omega⟩
  obtain ⟨k, rfl⟩ : ∃ k : Nat, ch = k := ⟨ch.toNat, by omega⟩
  have hsh := W.shape (c := n) (ch := k) (by omega) (by omega)
  unfold okShape at hsh
  simp only [Bool.and_eq_true, decide_eq_true_eq] at hsh
  obtain ⟨⟨⟨⟨⟨e1, e2⟩, e3⟩, e4⟩, e5⟩, e6⟩ := hsh
  rw [beq_iff_eq] at e1
  have hlen : (self :: givenOf th xv (n : Int)).length = n + 1 := by rw [List.length_cons, givenOf_length]; simp
  have hkeys : (namedFrom th (xv + (n : Int)) (askedOf names n k)).map (·.1) = askedOf names n k := namedFrom_keys
  have hzip : (normal.zip (self :: givenOf th xv (n : Int))).map (·.1) = normal.take (n + 1) := by rw [zip_fst, hlen]
  have hbN : ∀ sl, bindKw normal (normal.zip (self :: givenOf th xv (n : Int))) (namedFrom th (xv + (n : Int)) (askedOf names n k)) = some sl → bindN normal (normal.take (n + 1)) (askedOf names n k) = some (sl.map (·.1)) := fun sl h => by
    have := bindKw_names (normal := normal) (kw := namedFrom th (xv + (n : Int)) (askedOf names n k)) (slots := normal.zip (self :: givenOf th xv (n : Int)))
    rw [h, hzip, hkeys] at this
    exact this.symm
  have hbN0 : bindKw normal (normal.zip (self :: givenOf th xv (n : Int))) (namedFrom th (xv + (n : Int)) (askedOf names n k)) = none → bindN normal (normal.take (n + 1)) (askedOf names n k) = none := fun h => by
    have := bindKw_names (normal := normal) (kw := namedFrom th (xv + (n : Int)) (askedOf names n k)) (slots := normal.zip (self :: givenOf th xv (n : Int)))
    rw [h, hzip, hkeys] at this
    exact this.symm
  have hfit : fitsN names n k = true ↔ (n ≤ names.length ∧ askedOf names n k = names.drop n) := by
    unfold fitsN; simp
  have hmemk : ∀ p ∈ namedFrom th (xv + (n : Int)) (askedOf names n k), normal.contains p.1 = true ∨ p.1 = Str.ofString "more" ∨ p.1 = Str.ofString "defaults" := fun p hp => by
    have : p.1 ∈ askedOf names n k := by rw [← hkeys]; exact List.mem_map_of_mem hp
    have := (List.all_eq_true.mp e5) _ this
    simp only [Bool.or_eq_true, beq_iff_eq] at this
    rcases this with (h | h) | h
    · exact .inl h
    · exact .inr (.inl h)
    · exact .inr (.inr h)
  have hbig : (1000 : Nat) ≤ sizeLine := by rw [sizeLine_eq]; omega
  have hms : ∀ sl, bindKw normal (normal.zip (self :: givenOf th xv (n : Int))) (namedFrom th (xv + (n : Int)) (askedOf names n k)) = some sl → (self :: givenOf th xv (n : Int)).length ≤ normal.length →
      (normal.filter fun x => (sl.lookup x).isNone) = missN normal (n + 1) (askedOf names n k) := fun sl h hle => by
    rw [hlen] at hle
    unfold missN
    rw [hbN sl h]
    dsimp only
    rw [if_pos hle]
    congr 1
    funext x
    rw [← lookup_some]
    cases sl.lookup x <;> rfl
  have hmsg : ∀ p ∈ namedFrom th (xv + (n : Int)) (askedOf names n k), (dupMsg fd.qualname p.1 : Str).length ≤ 1000 ∧ (unMsg fd.qualname p.1 : Str).length ≤ 1000 ∧ ((p.1 :: normal).any fun x => x.cps.any fun c => decide (55296 ≤ c) && decide (c ≤ 57343)) = false ∧ ∀ near, Suggest.didYouMean p.1 normal = some near → (nearMsg fd.qualname p.1 near : Str).length ≤ 1000 := fun p hp => by
    have hm := hmemk p hp
    generalize p.1 = key at hm
    generalize fd.qualname = q at W
    have four : ∀ q ∈ [qS, qR, qW], (N4s.contains key = true ∨ key = Str.ofString "more" ∨ key = Str.ofString "defaults") → (dupMsg q key : Str).length ≤ 1000 ∧ (unMsg q key : Str).length ≤ 1000 ∧ ((key :: N4s).any fun x => x.cps.any fun c => decide (55296 ≤ c) && decide (c ≤ 57343)) = false ∧ ∀ near, Suggest.didYouMean key N4s = some near → (nearMsg q key near : Str).length ≤ 1000 := fun q hq hm => by
      have hin : key ∈ N4s ++ [Str.ofString "more", Str.ofString "defaults"] := by
        rcases hm with h | h | h
        · exact List.mem_append_left _ (by simpa using h)
        · rw [h]; exact List.mem_append_right _ (.head _)
        · rw [h]; exact List.mem_append_right _ (.tail _ (.head _))
      obtain ⟨a, b, c⟩ := msgs4 q hq key hin
      refine ⟨a, b, c, fun near hd => ?_⟩
      have := near4 q hq key hin
      rw [hd] at this
      simpa using this
    cases W with
    | get =>
      have hin : key ∈ N5s ++ [Str.ofString "more"] := by
        rcases hm with h | h | h
        · exact List.mem_append_left _ (by simpa using h)
        · rw [h]; exact List.mem_append_right _ (.head _)
        · rw [h]; exact List.mem_append_left _ (by decide)
      obtain ⟨a, b, c⟩ := msgs5 key hin
      refine ⟨a, b, c, fun near hd => ?_⟩
      have := near5 key hin
      rw [hd] at this
      simpa using this
    | set => exact four _ (by simp) hm
    | read => exact four _ (by simp) hm
    | write => exact four _ (by simp) hm
  refine bindC hn hpo hko hva hkw hdf hh ?_ ⟨by rw [hlen]; omega, by rw [hlen]; omega⟩ (fun sl h hle => ?_) (fun p hp _ => Nat.le_trans (hmsg p hp).1 hbig) (fun p hp _ => ⟨(hmsg p hp).2.2.1, Nat.le_trans (hmsg p hp).2.1 hbig, fun near hd => Nat.le_trans ((hmsg p hp).2.2.2 near hd) hbig⟩) (fun sl h hle hall => ?_) (fun hbad => ?_)
  · generalize fd.qualname = q at W
    cases W <;> simp
  · rw [hms sl h hle]
    simp only [Bool.or_eq_true, beq_iff_eq] at e2
    rcases e2 with (h | h) | h
    · exact .inl h
    · exact .inr (.inl h)
    · exact .inr (.inr h)
  · have ht : takenN normal (n + 1) (askedOf names n k) = true := by
      unfold takenN
      rw [hbN sl h]
      dsimp only
      rw [Bool.and_eq_true, decide_eq_true_eq, List.all_eq_true]
      refine ⟨by rw [← hlen]; exact hle, fun x hx => ?_⟩
      rw [← lookup_some]
      exact hall x hx
    rw [ht] at e1
    obtain ⟨f1, f2⟩ := hfit.mp e1.symm
    have := bindKw_append h
    subst this
    exact hok (by simpa using f1) (by simpa using f2)
  · refine hno fun hf => ?_
    have hf' : fitsN names n k = true := hfit.mpr (by simpa using hf)
    rw [hf'] at e1
    unfold takenN at e1
    rcases hbad with h | h | ⟨sl, x, h, hx, hl⟩
    · rw [hbN0 h] at e1; cases e1
    · cases hq : bindN normal (normal.take (n + 1)) (askedOf names n k) with
      | none => rw [hq] at e1; cases e1
      | some ks =>
        rw [hq] at e1
        dsimp only at e1
        rw [Bool.and_eq_true, decide_eq_true_eq] at e1
        rw [hlen] at h
        omega
    · rw [hbN sl h] at e1
      dsimp only at e1
      rw [Bool.and_eq_true, List.all_eq_true] at e1
      have := e1.2 x hx
      rw [← lookup_some, hl] at this
      cases this
end Mine
end
section
open PySem PySem.W PyProof.Rows PySem.Spec
set_option maxRecDepth 100000
namespace Mine
theorem bindOk {s : Shared} {fd : FuncData} {normal : List Str} {pos : List Value} {kw sl : List (Str × Value)}
    (hn : fd.params.args.map (·.arg) = normal) (hpo : fd.params.posonlyargs = []) (hko : fd.params.kwonlyargs = []) (hva : fd.params.vararg = none) (hkw : fd.params.kwarg = none) (hdf : fd.defaults = .none)
    (hb : bindKw normal (normal.zip pos) kw = some sl) (hle : pos.length ≤ normal.length) (hall : ∀ n ∈ normal, (sl.lookup n).isSome = true) :
    BindsTo s fd ⟨pos, kw⟩ (normal.filterMap fun n => (sl.lookup n).map (n, ·)) := fun M A E Q hq => by
  unfold bindArgs
  simp only [hn, hpo, hko, hva, hkw, hdf, List.map_nil, List.nil_append, List.append_nil, List.filter_nil]
  refine wpAny_bind (wpAny_forIn_list _ (fun l b s' => s = s' ∧ b.2 = [] ∧ bindKw normal b.1 l = some sl) (fun b s' => wpAny _ _ _ _ _ s') ?_ ?_ kw _ ⟨rfl, rfl, hb⟩)
  · rintro ⟨k, v⟩ rest ⟨slots, extra⟩ s' ⟨rfl, hx, hb⟩
    dsimp only at hx hb ⊢
    subst hx
    rw [bindKw] at hb
    by_cases hc : normal.contains k = true
    · rw [if_pos hc] at hb
      rw [if_pos (by rw [hc]; rfl)]
      by_cases hl : (slots.lookup k).isSome = true
      · rw [if_pos hl] at hb; cases hb
      · rw [if_neg hl] at hb
        rw [if_neg hl]
        exact wpAny_pure ⟨rfl, rfl, hb⟩
    · rw [if_neg hc] at hb; cases hb
  · rintro ⟨sl', extra⟩ s' ⟨rfl, hx, hb⟩
    dsimp only at hx hb ⊢
    subst hx
    rw [bindKw] at hb
    cases hb
    refine wpAny_bind (wpAny_of_eq (a := none) rfl ?_)
    rw [if_neg (by simpa using hle)]
    simp only [Option.getD_none, List.toList_toArray, List.length_nil, Nat.zero_sub, List.drop_nil, Nat.sub_zero, List.take_length, List.drop_length, List.zip_nil_right, List.forIn_nil, pure_bind]
    have hm : (normal.filter fun n => (sl.lookup n).isNone) = [] := by
      rw [List.filter_eq_nil_iff]
      intro n hn'
      have := hall n hn'
      cases hq : sl.lookup n with
      | none => rw [hq] at this; cases this
      | some v => simp
    rw [hm, if_neg (by decide), if_neg (by decide)]
    exact wpAny_pure hq
section
variable {prog : Program} {w : World} {A : Around} {E : Value → Shared → Prop} {s : Shared}
theorem codeC_bindRaises {R : Result → Shared → Prop} {f : Addr} {o : Obj} {fd : FuncData} {args : Args} (ho : s.heap.get? f = some o) (hd : o.data = .func fd) (hcd : s.heap.CodeRec fd.code fd.qualname)
    (hb : wpC (model prog w) (A.under (.call (.ref f) args)) (bindArgs fd args) (fun _ _ => False) (fun e s' => R (.error e) s') s) :
    codeC (model prog w) A (.call (.ref f) args) R s := by
  refine codeC_of_tree ?_
  show wpC _ _ (callAny (.ref f) args) _ _ _
  unfold callAny
  refine wpC_bindA (wpAny_load ho ?_)
  rw [hd]
  show wpC _ _ (callFunction f fd args) _ _ _
  unfold callFunction
  obtain ⟨c, oc, vs, t, hc, hoc, hdc, h1⟩ := hcd
  rw [hc]
  refine wpC_bindA (wpAny_field hoc hdc h1 ?_)
  dsimp only
  refine wpC_bind (wpC_pure ?_)
  exact wpC_bind (wpC_mono hb (fun _ _ h => h.elim) fun _ _ h => h)
end
end Mine
end
section
open PySem PySem.W PyProof.Rows PySem.Spec
set_option maxRecDepth 100000
namespace Mine
noncomputable def bindsOf (normal names : List Str) (th : List Value) (xv c : Int) (self : Value) (ask : List Str) : List (Str × Value) :=
  normal.filterMap fun n => ((normal.zip (self :: givenOf th xv c) ++ namedFrom th (xv + c) ask).lookup n).map (n, ·)
theorem val5 (th : List Value) (xv : Int) (self : Value) : ∀ n < 6, ∃ i : Int, i = xv + 3 ∧ (bindsOf N5s N5 th xv (n : Nat) self (N5.drop n)).reverse.lookup (Str.ofString "value") = some (pick th i) := by
  intro n hn
  have : n = 0 ∨ n = 1 ∨ n = 2 ∨ n = 3 ∨ n = 4 ∨ n = 5 := by omega
  rcases this with rfl | rfl | rfl | rfl | rfl | rfl
  · exact ⟨xv + ((0 : Nat) : Int) + 1 + 1 + 1, by omega, by kernel_rfl⟩
  · exact ⟨xv + ((1 : Nat) : Int) + 1 + 1, by omega, by kernel_rfl⟩
  · exact ⟨xv + ((2 : Nat) : Int) + 1, by omega, by kernel_rfl⟩
  · exact ⟨xv + ((3 : Nat) : Int), by omega, by kernel_rfl⟩
  · exact ⟨xv + ((3 : Nat) : Int), by omega, by kernel_rfl⟩
  · exact ⟨xv + ((3 : Nat) : Int), by omega, by kernel_rfl⟩
theorem val4 (th : List Value) (xv : Int) (self : Value) : ∀ n < 5, ∃ i : Int, i = xv + 3 ∧ (bindsOf N4s N4 th xv (n : Nat) self (N4.drop n)).reverse.lookup (Str.ofString "value") = some (pick th i) := by
  intro n hn
  have : n = 0 ∨ n = 1 ∨ n = 2 ∨ n = 3 ∨ n = 4 := by omega
  rcases this with rfl | rfl | rfl | rfl | rfl
  · exact ⟨xv + ((0 : Nat) : Int) + 1 + 1 + 1, by omega, by kernel_rfl⟩
  · exact ⟨xv + ((1 : Nat) : Int) + 1 + 1, by omega, by kernel_rfl⟩
  · exact ⟨xv + ((2 : Nat) : Int) + 1, by omega, by kernel_rfl⟩
  · exact ⟨xv + ((3 : Nat) : Int), by omega, by kernel_rfl⟩
  · exact ⟨xv + ((3 : Nat) : Int), by omega, by kernel_rfl⟩
/-- what stands under 'value' in the named ones -/
theorem named_value (th : List Value) (xv : Int) (names : List Str) (hN : names = N4 ∨ names = N5) : ∀ n < 4, ∃ i : Int, i = xv + 3 ∧ valueAt (namedFrom th (xv + (n : Nat)) (names.drop n)) (Str.ofString "value") = some (pick th i) := by
  intro n hn
  have : n = 0 ∨ n = 1 ∨ n = 2 ∨ n = 3 := by omega
  rcases hN with rfl | rfl <;> rcases this with rfl | rfl | rfl | rfl
  · exact ⟨xv + ((0 : Nat) : Int) + 1 + 1 + 1, by omega, by kernel_rfl⟩
  · exact ⟨xv + ((1 : Nat) : Int) + 1 + 1, by omega, by kernel_rfl⟩
  · exact ⟨xv + ((2 : Nat) : Int) + 1, by omega, by kernel_rfl⟩
  · exact ⟨xv + ((3 : Nat) : Int), by omega, by kernel_rfl⟩
  · exact ⟨xv + ((0 : Nat) : Int) + 1 + 1 + 1, by omega, by kernel_rfl⟩
  · exact ⟨xv + ((1 : Nat) : Int) + 1 + 1, by omega, by kernel_rfl⟩
  · exact ⟨xv + ((2 : Nat) : Int) + 1, by omega, by kernel_rfl⟩
  · exact ⟨xv + ((3 : Nat) : Int), by omega, by kernel_rfl⟩
end Mine
end
section
open PySem PySem.W PyProof.Rows PySem.Spec
set_option maxRecDepth 100000
namespace Mine
theorem Which.value {q : Str} {normal names : List Str} (W : Which q normal names) : Str.ofString "value" ∈ normal := by cases W <;> decide +kernel
theorem taken_of_fits {q : Str} {normal names : List Str} (W : Which q normal names) {th : List Value} {xv : Int} {self : Value} {n k : Nat} (hn7 : n < 7) (hk6 : k < 6) (f1 : n ≤ names.length) (f2 : askedOf names n k = names.drop n) :
    ∃ sl, bindKw normal (normal.zip (self :: givenOf th xv (n : Int))) (namedFrom th (xv + (n : Int)) (askedOf names n k)) = some sl ∧ (self :: givenOf th xv (n : Int)).length ≤ normal.length ∧ ∀ x ∈ normal, (sl.lookup x).isSome = true := by
  have hsh := W.shape (c := n) (ch := k) hn7 hk6
  unfold okShape at hsh
  simp only [Bool.and_eq_true, decide_eq_true_eq] at hsh
  obtain ⟨⟨⟨⟨⟨e1, _⟩, _⟩, _⟩, _⟩, _⟩ := hsh
  rw [beq_iff_eq] at e1
  have hfit : fitsN names n k = true := by unfold fitsN; simp [f1, f2]
  rw [hfit] at e1
  have hlen : (self :: givenOf th xv (n : Int)).length = n + 1 := by rw [List.length_cons, givenOf_length]; simp
  have hb := bindKw_names (normal := normal) (kw := namedFrom th (xv + (n : Int)) (askedOf names n k)) (slots := normal.zip (self :: givenOf th xv (n : Int)))
  rw [zip_fst, hlen, namedFrom_keys] at hb
  unfold takenN at e1
  rw [← hb] at e1
  cases hq : bindKw normal (normal.zip (self :: givenOf th xv (n : Int))) (namedFrom th (xv + (n : Int)) (askedOf names n k)) with
  | none => rw [hq] at e1; cases e1
  | some sl =>
    rw [hq] at e1
    simp only [Option.map_some, Bool.and_eq_true, decide_eq_true_eq, List.all_eq_true] at e1
    refine ⟨sl, rfl, by rw [hlen]; exact e1.1, fun x hx => ?_⟩
    rw [lookup_some]
    exact e1.2 x hx
theorem told_value {q : Str} {normal names : List Str} (W : Which q normal names) {th : List Value} {xv : Int} {self : Value} {n k : Nat} (f1 : n ≤ names.length) (f2 : askedOf names n k = names.drop n) :
    (bindsOf normal names th xv (n : Int) self (askedOf names n k)).reverse.lookup (Str.ofString "value") = some (pick th (xv + 3)) := by
  rw [f2]
  have : ∃ i : Int, i = xv + 3 ∧ (bindsOf normal names th xv (n : Int) self (names.drop n)).reverse.lookup (Str.ofString "value") = some (pick th i) := by
    cases W with
    | get => exact val5 th xv self n (by have : N5.length = 5 := rfl; omega)
    | set => exact val4 th xv self n (by have : N4.length = 4 := rfl; omega)
    | read => exact val4 th xv self n (by have : N4.length = 4 := rfl; omega)
    | write => exact val4 th xv self n (by have : N4.length = 4 := rfl; omega)
  obtain ⟨i, rfl, h⟩ := this
  exact h

section
variable {prog : Program} {w : World} {A : Around} {E : Value → Shared → Prop} {s : Shared} {h₀ : Heap} {L : Addr} {m : Str → Option Value} {news : List (Addr × Obj)}
theorem callWhole {q f : Addr} {self : Value} {of : Obj} {fd : FuncData} {normal names : List Str} {th : List Value} {xv c ch : Int} {p1 p2 : Pos} {Q : Value → Shared → Prop}
    (F : Fr h₀ L s.heap m) (N : News h₀ L s.heap news) (hq : (q, methodObj (.ref f) self) ∈ news) (hf : h₀.get? f = some of) (hfd : of.data = .func fd)
    (W : Which fd.qualname normal names) (hn : fd.params.args.map (·.arg) = normal) (hpo : fd.params.posonlyargs = []) (hko : fd.params.kwonlyargs = []) (hva : fd.params.vararg = none) (hkw : fd.params.kwarg = none) (hdf : fd.defaults = .none)
    (hcd : h₀.CodeRec fd.code fd.qualname) (hlim : h₀.NoLimit) (hbody : fd.body = .stmts [.Return (some (.Name (Str.ofString "value") p1)) p2])
    (hcell : ∀ x ∈ fd.scope.names, x.2 ≠ .cell) (hloc : ∀ x ∈ normal, fd.scope.names.lookup x = some .local) (hco : fd.scope.isCoroutine = false) (hgen : fd.scope.isGenerator = false) (hk : fd.scope.kind = .function)
    (hroom : A.depth < recursionLimit) (hh : A.handled = none) (c0 : 0 ≤ c) (c7 : c < 7) (h0 : 0 ≤ ch) (h6 : ch < 6)
    (hok : c.toNat ≤ names.length → askedOf names c ch = names.drop c.toNat → ∀ h' tk, Fr h₀ L h' m → News h₀ L h' news → Q (pick th (xv + 3)) { s with heap := h', toks := tk })
    (hno : ¬ (c.toNat ≤ names.length ∧ askedOf names c ch = names.drop c.toNat) → ∀ h' tk e, Heap.NewExc s.heap h' e "TypeError" → E (.ref e) { s with heap := h', toks := tk }) :
    codeC (model prog w) A (.call (.ref q) ⟨givenOf th xv c, namedFrom th (xv + c) (askedOf names c ch)⟩) (fun r s' => match r with | .ok (.ret v) => Q v s' | .ok _ => False | .error e => E e s') s := by
  refine methodC (N _ hq).1 ?_
  have hfs := F.keep _ _ hf
  have hcds := hcd.keeps F.keep
  by_cases hfits : c.toNat ≤ names.length ∧ askedOf names c ch = names.drop c.toNat
  · obtain ⟨f1, f2⟩ := hfits
    obtain ⟨n, rfl⟩ : ∃ n : Nat, c = n := ⟨c.toNat, by omega⟩
    obtain ⟨k, rfl⟩ : ∃ k : Nat, ch = k := ⟨ch.toNat, by omega⟩
    have f1' : n ≤ names.length := by simpa using f1
    have f2' : askedOf names n k = names.drop n := by simpa using f2
    obtain ⟨sl, hb, hle, hall⟩ := taken_of_fits W (th := th) (xv := xv) (self := self) (by omega) (by omega) f1' f2'
    have hsl := bindKw_append hb
    subst hsl
    have hbo := bindOk (s := s) hn hpo hko hva hkw hdf hb hle hall
    refine codeC_any (codeAny_call_def hroom hfs hfd (hlim.keeps F.keep) hcds hbody hbo hcell (fun x hx => ?_) (fun h₁ hns hkeep => ?_) hco hgen hk)
    · obtain ⟨y, hy, hy'⟩ := List.mem_filterMap.mp hx
      obtain ⟨v, _, rfl⟩ := Option.map_eq_some_iff.mp hy'
      exact hloc y hy
    · have hv := told_value W (th := th) (xv := xv) (self := self) f1' f2'
      refine wpAny_execs_cons (wpAny_Return_some (wpAny_Name (wpAny_loadName_local hk ?_ hns hv ?_)))
      · exact hloc _ W.value
      · exact hok f1 f2 h₁ _ (F.keeps hkeep) (N.grown hkeep)
  · refine codeC_bindRaises hfs hfd hcds ?_
    exact bindShape W hn hpo hko hva hkw hdf hh c0 c7 h0 h6 (fun f1 f2 => (hfits ⟨f1, f2⟩).elim) hno
end
end Mine
end
section
open PySem PySem.W PyProof.Rows PySem.Spec PySem.Calls
open Sem (wp)
set_option maxRecDepth 100000
namespace Mine
theorem thread_ends_C {prog : Program} {w : World} {t : Sem Fin} {s : Shared} {R : Result → Shared → Prop} (hreg : s.asleep)
    (h : wpC (model prog w) callerA t (fun fin s' => ∃ f, fin = .done f ∧ (R (.ok f) s' ∧ AllBare s'.gens)) (fun e s' => R (.error e) s' ∧ AllBare s'.gens) s) :
    ∃ n r s' s'', runN (denote table) prog w n s ⟨t, .builtin "claim.caller" {}, default, []⟩ = .halted (outcomeOf r) s' ∧
      schedN (denote table) prog w n (.single s ⟨t, .builtin "claim.caller" {}, default, []⟩) = .halted (outcomeOf r) s' ∧ s'.forget = s''.forget ∧ R r s'' := by
  obtain ⟨n, r, s₁, s₂, hs, hn, hfo, hR⟩ := wp_halts_full (M := model prog w) (R := R) hreg
    (Sem.wp_mono (model prog w) _ t (post' := Sem.finPost (model prog w) _ fun r s' => R r s' ∧ leftWithCleanup s'.gens = false) (exc' := fun e _ s' => R (.error e) s' ∧ leftWithCleanup s'.gens = false)
      (by rintro fin p' s' ⟨f, rfl, h1, h2⟩; exact ⟨h1, leftWithCleanup_false_of_bare h2⟩) (fun e _ s' h' => ⟨h'.1, leftWithCleanup_false_of_bare h'.2⟩) default s (h _ default caller_in (.inl rfl)))
  exact ⟨n, r, s₂, s₁, hn, hs, hfo, hR⟩
/-- what the law owes, with the caller in the stack -/
abbrev WalkC (q : Program) (loose : List Str) (XP : (Str → Option Value) → Heap → Prop) (YP : World → Heap → Prop) (r : RowW) (d : DefRec) (kwd : List (Str × Expr)) : Prop :=
  ∀ (w : World) (s₀ s₁ : Shared) (mg mb : Str → Option Value), Ground q loose r.records XP w s₀ mg mb s₁.heap → YP w s₁.heap → ∀ (a : Addr) (o : Obj) (pm cd doc dV kV : Value), s₁.heap.get? a = some o →
    o.data = .func { docDef d.name d.params d.body d.scope pm cd doc with defaults := dV, kwdefaults := kV } → s₁.heap.CodeRec cd d.name → Dflts mg s₁.heap d.params kwd dV kV → mg d.name = some (.ref a) → s₁.gens = #[] →
    ∀ (args : List WData) (vals : List Value) (as : List Addr), r.claim.pre args = true → WData.layableAll args = true → ReadsAllW r.records (classAt s₀.heap) s₁.heap vals args as → WellAll w.params s₁.heap vals args → (∀ a ∈ as, (a == sysModules) = false) →
      wpC (model r.prog w) callerA (PySem.call (.ref a) vals) (fun v s' => GoodWG r.claim (classAt s₀.heap) (ExcName.means s₀.heap) args s₁ (.ok (.ret v)) s')
        (fun e s' => GoodWG r.claim (classAt s₀.heap) (ExcName.means s₀.heap) args s₁ (.error e) s') s₁
theorem callFrom_C {c : ClaimW} {tree : List Value → Sem Fin} {w : World} {s : Shared} {free : Addr → Prop} {gens : Prop} {kept : Heap → Prop} (hz : s.asleep) (hgens : s.gens = #[])
    (hspec : ∀ args, c.pre args = true → WData.layableAll args = true →
      ∀ ord : List DictEntry → List DictEntry, (∀ l, (ord l).Perm l) →
      ∃ vs s₁, layAllW c.records (classAt s.heap) w.params ord args s = some (vs, s₁) ∧
        wpC (model c.prog w) callerA (tree vs) (fun fin s' => ∃ f, fin = .done f ∧ ((c.Ends s args vs s₁ (.ok f) s' ∧ s'.os = s.os ∧ kept s'.heap) ∧ AllBare s'.gens))
          (fun e s' => (c.Ends s args vs s₁ (.error e) s' ∧ s'.os = s.os ∧ kept s'.heap) ∧ AllBare s'.gens) s₁) :
    c.CallFrom (fun vs => ⟨tree vs, .builtin "claim.caller" {}, default, []⟩) w free gens kept s := by
  intro args hpre hlay ord hord
  obtain ⟨vs, s₁, hlaid, hcode⟩ := hspec args hpre hlay ord hord
  have hal := layAllW_rest _ _ _ hlaid
  obtain ⟨k, r, s', s'', hrun, hsched, hfo, hcase, hos, hkp⟩ := thread_ends_C (R := fun r s' => c.Ends s args vs s₁ r s' ∧ s'.os = s.os ∧ kept s'.heap) (Shared.asleep_of_life hal.2.2.2 hz) hcode
  obtain ⟨eh, _, _, eo, _⟩ := Shared.forget_eq hfo
  have hcase := hcase.congr eh
  rw [← eh] at hkp
  rw [← eo] at hos
  have hlife : s'.heap.life = s.heap.life := (runN_life _ _ _ hrun).trans hal.2.2.2
  refine ⟨vs, s₁, hlaid, k, _, s', hsched, ?_, (fun _ i x hx => by rw [hgens] at hx; simp at hx), hkp, by rw [hlife], Shared.rest_eq hos⟩
  rcases hcase with ⟨v, rfl, d1, d2, d3, d4, d5⟩ | ⟨e, ob, cls, rfl, d1, d2, d3, d4, d5⟩
  · exact .inl ⟨v, rfl, d1, d2, d3, fun b o y _ => d4 b o y, d5⟩
  · exact .inr ⟨e, ob, cls, rfl, d1, d2, d3, d4, fun b o y _ => d5 b o y⟩
/-- the head, with the caller in the stack -/
theorem PySem.W.holds_open {r : OpenRow} {q : Program} {loose : List Str} {Xt : Shared → Bool} {XP : (Str → Option Value) → Heap → Prop} {α : Type} {Yf : Shared → α} {Ya : World → α} {YP : World → Heap → Prop} {d : DefRec} {kwd : List (Str × Expr)} {N : Nat}
    (left : LeftO r.prog q loose Xt Yf Ya N) (hY : ∀ w s, Yf s = Ya w → YP w s.heap) (hYk : ∀ w h h', YP w h → (∀ b o, h.get? b = some o → h'.get? b = some o) → YP w h')
    (hX : ∀ s, Xt s = true → XP (s.heap.nsMap mainGlobals) s.heap) (hXk : ∀ mg h h', XP mg h → (∀ b o, h.get? b = some o → h'.get? b = some o) → XP mg h')
    (hdef : defOf q r.name = some (d, kwd)) (hp : r.prog.theDef r.name = some (d.params, d.body, d.scope)) (hk : kwWritten? d.params.kwonlyargs d.params.kw_defaults = some kwd) (hRf : ∀ s, Xt s = true → RecFacts r.records s.heap) (hwr : (!r.writes || r.records.isEmpty) = true)
    (k1 : r.wellSaid = true) (ok : (chainsOk q && opensWell r.prog && (frees r.toRowW && r.within.isEmpty)) = true) (hb : r.prog.bare) (hw : r.toRowW.promised)
    (call : WalkC q loose XP YP r.toRowW d kwd) : r.Holds := by
  simp only [Bool.and_eq_true] at ok
  obtain ⟨⟨hch, o1⟩, k5, k6⟩ := ok
  obtain ⟨hsame, hu, ha, hap, hm⟩ := frees_parts k5
  refine ⟨k1, hw, ⟨hb, o1, by show r.makers.map _ = []; rw [hm]; rfl⟩, hw.witness, fun w => ⟨(left.behind hX hch w).1, fun s' hs' => ?_⟩⟩
  obtain ⟨s₀, hf, hg0, s, hT, hz, hgens, hg, G00, y⟩ := (left.behind (XP := fun mg h => XP mg h ∧ RecFacts r.records h) (fun s hs => ⟨hX s hs, hRf s hs⟩) hch w).2 s' hs'
  have G0 : Ground q loose [] XP w s (s.heap.nsMap mainGlobals) (s.heap.nsMap builtinsNs) s.heap := ⟨G00.T, G00.B, G00.D, G00.TE, G00.TD, G00.W, G00.X.1, G00.cls, G00.has, G00.apart, G00.once, G00.K⟩
  have RF := G00.X.2
  refine ⟨s₀, hf, hg0, s, hT, fun n hn => ?_, RF.1, RF.2.1, ?_⟩
  · obtain rfl : n = r.name := by split at hn <;> simp_all
    exact pinned_of_view hg G0 hdef hp hk
  have hgens : s.gens = #[] := Array.eq_empty_of_size_eq_zero (beq_iff_eq.mp hgens)
  have G : Ground q loose r.records XP w s _ _ s.heap := RF.ground G0
  refine callFrom_C (c := r.toRowW.claim) hz hgens fun args hpre hlay ord hord => ?_
  obtain ⟨⟨vs, s₁⟩, hlaid⟩ := Option.isSome_iff_exists.mp (layAllW_isSome (P := w.params) (ord := ord) G.has args r.args s (pre_splitW hpre).1)
  have keeps := layAllW_keeps _ _ _ hlaid
  have hal := layAllW_rest _ _ _ hlaid
  obtain ⟨as, hrd, hin, hold⟩ := reads_layAllW hord _ _ _ hlaid hlay s₁.heap (fun _ _ e => e)
  have L : Laid r.records w s s₁ args vs as := ⟨⟨ord, hord, hlaid⟩, hrd, hin, hold, keeps, hal.1.trans hgens, hal.2.2.1⟩
  have G₁ := G.keeps hXk keeps
  obtain ⟨a, o, pm, cd, doc, dV, kV, h1, h2, h3, h4, h5⟩ := G₁.fn hdef
  have h := call w s s₁ _ _ G₁ (hYk _ _ _ (hY w s y) keeps) a o pm cd doc dV kV h2 h3 h4 h5 (defOf_name hdef ▸ h1) L.gens args vs as hpre hlay L.reads L.well (L.low G.low)
  have hi := ident_freeW hu ha hap
  have hwi : r.toRowW.claim.within = [] := List.isEmpty_iff.mp k6
  refine ⟨vs, s₁, hlaid, wpC_bindA (wpAny_nsGet G₁.T.g ?_)⟩
  rw [h1]
  refine wpC_bind (wpC_mono h (fun v s' g => wpC_pure ⟨_, rfl, ?_⟩) fun e s' g => ?_)
  · have z := g.laid (c := r.toRowW.claim) hsame hwi hi L
    exact ⟨⟨z.1, z.2.1, fun q => ⟨namesKept_of hT hg _ keeps g.2.1.old, noTable hwr q⟩⟩, z.2.2⟩
  · have z := g.laid (c := r.toRowW.claim) hsame hwi hi L
    exact ⟨⟨z.1, z.2.1, fun q => ⟨namesKept_of hT hg _ keeps g.2.1.old, noTable hwr q⟩⟩, z.2.2⟩
end Mine
end
section
open PySem PySem.W PyProof.Rows PySem.Spec
set_option maxRecDepth 100000
namespace Mine
section
variable {prog : Program} {w : World} {A : Around} {E : Value → Shared → Prop} {s : Shared} {env : Env} {h₀ : Heap} {L : Addr} {m : Str → Option Value} {news : List (Addr × Obj)}

/-- a list of texts, new here -/
def GaveStrs (h₀ : Heap) (L : Addr) (m : Str → Option Value) (news : List (Addr × Obj)) (s : Shared) (b : List Str) (R : Value → Shared → Prop) : Prop :=
  ∀ D h' tk vs, Fr h₀ L h' m → News h₀ L h' ((D, listOf (List.toArray vs) 0) :: news) → (∀ p ∈ news, p.1 < D) → StrsAre vs b → R (.ref D) { s with heap := h', toks := tk }

theorem addOne {xa lit : Str} {p1 p2 p3 p4 p5 : Pos} {a : Addr} {vs : List Value} {n : Nat} {b : List Str} {Q : Flow → Shared → Prop}
    (F : Fr h₀ L s.heap m) (N : News h₀ L s.heap news) (ha : (a, listOf vs.toArray n) ∈ news) (hS : StrsAre vs b) (hb : b.length ≤ 100) (va : m xa = some (.ref a))
    (ka : env.kindOf xa = some .local) (hk : env.scope.kind = .function) (hL : env.locals = L) (da : (xa == ("__debug__" : Str)) = false)
    (h : GaveStrs h₀ L m news s (b ++ [lit]) fun v s' => Q (.ret v) s') :
    wpAny (model prog w) A (execs [.Return (some (.BinOp (.Name xa p1) .Add (.List [.Constant (.str lit) 0 p2] p3) p4)) p5] env) Q E s := by
  subst hL
  have hlen := strs_length hS
  refine wpAny_execs_cons (wpAny_Return_some (wpAny_BinOp (wpAny_Name (wpAny_loadName_local hk ka F.ns va ?_) da)))
  refine List_ (spliced_more (wpAny_Constant_str (spliced_none ?_)))
  refine newList_N (s := { s with toks := s.toks + 1 }) F N (fun h' F' N' => ?_)
  have hlt : ∀ p ∈ news, p.1 < s.heap.objs.size := fun p hp => Heap.lt_size (N p hp).1
  refine kmk_add_lit (its := vs.toArray) (its2 := #[_]) F' N' ⟨_, (N' _ (.tail _ ha)).1, rfl, n, rfl⟩ ⟨_, (N' _ (.head _)).1, rfl, 0, rfl⟩ rfl (fun D h'' F'' N'' hD => ?_) (by rw [sizeLine_eq]; simp; omega)
  have N3 : News h₀ env.locals h'' ((D, listOf (vs.toArray.toList ++ [Value.str lit s.toks]).toArray 0) :: news) := fun p hp => N'' p (by
    rcases List.mem_cons.mp hp with rfl | hp
    · exact .head _
    · exact .tail _ (.tail _ hp))
  exact h D h'' _ _ F'' N3 (fun p hp => hD p (.tail _ hp)) (strs_append (by simpa using hS) (.cons _ _ .nil))

theorem cutFrom {xn xc : Str} {p1 p2 p3 p4 : Pos} {a : Addr} {its : Array Value} {n : Nat} {b : List Str} {c : Int} {tc : Tok} {Q : Value → Shared → Prop}
    (F : Fr h₀ L s.heap m) (N : News h₀ L s.heap news) (ha : (a, listOf its n) ∈ news) (hS : StrsAre its.toList b) (hb : b.length ≤ 100) (va : m xn = some (.ref a)) (vc : m xc = some (.int c tc)) (c0 : 0 ≤ c)
    (ka : env.kindOf xn = some .local) (kc : env.kindOf xc = some .local) (hk : env.scope.kind = .function) (hL : env.locals = L) (da : (xn == ("__debug__" : Str)) = false) (dc : (xc == ("__debug__" : Str)) = false)
    (h : GaveStrs h₀ L m news s (b.drop c.toNat) Q) :
    wpAny (model prog w) A (eval (.Subscript (.Name xn p1) (.Slice (some (.Name xc p2)) none none p3) p4) env) Q E s := by
  subst hL
  have hlen := strs_length hS
  refine Subscript_ (wpAny_Name (wpAny_loadName_local hk ka F.ns va ?_) da)
  refine wpAny_Slice ?_
  rw [evalPart_some, evalPart_none]
  refine wpAny_Name (wpAny_loadName_local hk kc F.ns vc (wpAny_pure (wpAny_pure ?_))) dc
  refine kmk_slice_lit (its := its) F N ⟨_, (N _ ha).1, rfl, n, rfl⟩ (.int c tc) .none rfl (fun D h' F' N' hD => ?_) (by with_unfolding_all rfl) (fun r => by with_unfolding_all rfl) (by rw [sizeLine_eq, ← Array.length_toList]; omega)
  refine h D h' _ _ F' N' hD ?_
  have e := slice_from its.toList c0
  rw [Array.toArray_toList] at e
  rw [e]
  exact strs_drop _ hS

theorem cutLast {xa : Str} {p1 p2 p3 p4 p5 p6 : Pos} {a : Addr} {vs : List Value} {n : Nat} {b : List Str} {Q : Flow → Shared → Prop}
    (F : Fr h₀ L s.heap m) (N : News h₀ L s.heap news) (ha : (a, listOf vs.toArray n) ∈ news) (hS : StrsAre vs b) (hb : b.length ≤ 100) (va : m xa = some (.ref a))
    (ka : env.kindOf xa = some .local) (hk : env.scope.kind = .function) (hL : env.locals = L) (da : (xa == ("__debug__" : Str)) = false)
    (h : GaveStrs h₀ L m news s (b.take (b.length - 1)) fun v s' => Q (.ret v) s') :
    wpAny (model prog w) A (execs [.Return (some (.Subscript (.Name xa p1) (.Slice none (some (.UnaryOp .USub (.Constant (.int 1) 0 p2) p3)) none p4) p5)) p6] env) Q E s := by
  subst hL
  have hlen := strs_length hS
  refine wpAny_execs_cons (wpAny_Return_some (Subscript_ (wpAny_Name (wpAny_loadName_local hk ka F.ns va ?_) da)))
  refine wpAny_Slice ?_
  rw [evalPart_some, evalPart_none]
  refine wpAny_pure (wpAny_UnaryOp (wpAny_Constant_int (neg_int (wpAny_pure ?_))))
  refine kmk_slice_lit (s := { s with toks := _ }) (its := vs.toArray) F N ⟨_, (N _ ha).1, rfl, n, rfl⟩ .none (.int (-1) _) rfl (fun D h' F' N' hD => ?_) (by with_unfolding_all rfl) (fun r => by with_unfolding_all rfl) (by rw [sizeLine_eq]; simp; omega)
  refine h D h' _ _ F' N' hD ?_
  rw [slice_butLast, ← hlen]
  exact strs_take _ hS
end
end Mine
end
section
open PySem PySem.W PyProof.Rows PySem.Spec
set_option maxRecDepth 100000
namespace Mine
def sAsked : Str := Str.ofString "asked"
def sNames : Str := Str.ofString "names"
def sCount : Str := Str.ofString "count"
def sChange : Str := Str.ofString "change"
theorem anyIn {l : Str} {b : List Str} : (b.any (· == l)) = true ↔ l ∈ b := by rw [List.any_eq_true]; exact ⟨fun ⟨x, hx, e⟩ => by rw [← beq_iff_eq.mp e]; exact hx, fun h => ⟨l, h, beq_self_eq_true l⟩⟩
section
variable {prog : Program} {w : World} {A : Around} {E : Value → Shared → Prop} {s : Shared} {env : Env} {h₀ : Heap} {L : Addr} {m : Str → Option Value} {news : List (Addr × Obj)}

theorem askedTail {a : Addr} {vs : List Value} {n : Nat} {c ch : Int} {tch : Tok} {ss : List Str} {Q : Flow → Shared → Prop} {q7 q8 q9 q10 q11 q12 q13 q14 q15 q16 q17 q18 q19 q20 q21 q22 q23 q24 q25 q26 q27 q28 q29 q30 q31 q32 q33 q34 q35 q36 q37 q38 q39 q40 q41 q42 q43 q44 q45 q46 q47 q48 q49 q50 q51 q52 q53 : Pos}
    (F : Fr h₀ L s.heap m) (N : News h₀ L s.heap ((a, listOf vs.toArray n) :: news)) (hap : ∀ p ∈ news, p.1 < a) (hS : StrsAre vs (ss.drop c.toNat)) (hb : ss.length ≤ 100) (va : m sAsked = some (.ref a)) (vch : m sChange = some (.int ch tch))
    (ka : env.kindOf sAsked = some .local) (kch : env.kindOf sChange = some .local) (hk : env.scope.kind = .function) (hL : env.locals = L)
    (h : ∀ D h' tk vs n, Fr h₀ L h' m → News h₀ L h' ((D, listOf (List.toArray vs) n) :: news) → (∀ p ∈ news, p.1 < D) → StrsAre vs (askedOf ss c ch) → Q (.ret (.ref D)) { s with heap := h', toks := tk }) :
    wpAny (model prog w) A (execs [.If (.Compare (.Name sChange q7) [.Eq] [.Constant (.int 2) 0 q8] q9) [.Return (some (.Subscript (.Name sAsked q10) (.Slice none (some (.UnaryOp .USub (.Constant (.int 1) 0 q11) q12)) none q13) q14)) q15] [] q16,
      .If (.BoolOp .And [(.Compare (.Name sChange q17) [.Eq] [.Constant (.int 3) 0 q18] q19), (.Compare (.Constant (.str sParser) 0 q20) [.NotIn] [.Name sAsked q21] q22)] q23) [.Return (some (.BinOp (.Name sAsked q24) .Add (.List [.Constant (.str sParser) 0 q25] q26) q27)) q28] [] q29,
      .If (.BoolOp .And [(.Compare (.Name sChange q30) [.Eq] [.Constant (.int 4) 0 q31] q32), (.Compare (.Constant (.str sDefaults) 0 q33) [.NotIn] [.Name sAsked q34] q35)] q36) [.Return (some (.BinOp (.Name sAsked q37) .Add (.List [.Constant (.str sDefaults) 0 q38] q39) q40)) q41] [] q42,
      .If (.Compare (.Name sChange q43) [.Eq] [.Constant (.int 5) 0 q44] q45) [.Return (some (.BinOp (.Name sAsked q46) .Add (.List [.Constant (.str sMore) 0 q47] q48) q49)) q50] [] q51,
      .Return (some (.Name sAsked q52)) q53] env) Q E s := by
  subst hL
  have hb' : (ss.drop c.toNat).length ≤ 100 := by rw [List.length_drop]; omega
  have more : ∀ {b' : List Str} {s' : Shared}, s' = { s with toks := s'.toks } → b' = askedOf ss c ch → GaveStrs h₀ env.locals m ((a, listOf vs.toArray n) :: news) s' b' (fun v s' => Q (.ret v) s') := by
    intro b' s' e eb D h' tk vs' F' N' hD hs
    rw [e]
    exact h D h' tk vs' 0 F' (fun p hp => N' p (by
      rcases List.mem_cons.mp hp with rfl | hp
      · exact .head _
      · exact .tail _ (.tail _ hp))) (fun p hp => hD p (.tail _ hp)) (eb ▸ hs)
  have ask : ∀ {k : Int} {s' : Shared} {p1 p2 p3 : Pos} {W : Sem Value} {R : Bool → Shared → Prop}, s'.heap = s.heap → R (ch == k) { s' with toks := s'.toks + 1 } →
      wpAny (model prog w) A (isTrue (.Compare (.Name sChange p1) [.Eq] [.Constant (.int k) 0 p2] p3) env W) R E s' := by
    intro k s' p1 p2 p3 W R e hR
    refine wpAny_isTrue_Compare1 (wpAny_Name (wpAny_loadName_local hk kch (e ▸ F.ns) vch (wpAny_Constant_int (eq_int (wpAny_truthy_bool hR)))) (by decide))
  have askIn : ∀ {l : Str} {s' : Shared} {p1 p2 p3 p4 : Pos} {W : Sem Value} {R : Bool → Shared → Prop}, s'.heap = s.heap → R (!((ss.drop c.toNat).any (· == l))) { s' with toks := s'.toks + 1 } →
      wpAny (model prog w) A (isTrue (.BoolOp .And [.Compare (.Constant (.str l) 0 p1) [.NotIn] [.Name sAsked p2] p3] p4) env W) R E s' := by
    intro l s' p1 p2 p3 p4 W R e hR
    refine isTrue_and (wpAny_isTrue_Compare1 (wpAny_Constant_str (wpAny_Name (wpAny_loadName_local (s := { s' with toks := s'.toks + 1 }) hk ka (e ▸ F.ns) va ?_) (by decide))))
    refine notin_list_strs (s := { s' with toks := s'.toks + 1 }) ⟨_, e ▸ (N _ (.head _)).1, rfl, n, rfl⟩ hS (wpAny_truthy_bool ?_)
    by_cases hq : (!((ss.drop c.toNat).any (· == l))) = true
    · rw [hq] at hR ⊢
      exact isTrue_and_nil hR
    · rw [Bool.not_eq_true] at hq
      rw [hq] at hR ⊢
      exact hR
  have t5 : ∀ tk, ch ≠ 2 → ¬ (ch = 3 ∧ ¬ sParser ∈ ss.drop c.toNat) → ¬ (ch = 4 ∧ ¬ sDefaults ∈ ss.drop c.toNat) → wpAny (model prog w) A (execs [.If (.Compare (.Name sChange q43) [.Eq] [.Constant (.int 5) 0 q44] q45) [.Return (some (.BinOp (.Name sAsked q46) .Add (.List [.Constant (.str sMore) 0 q47] q48) q49)) q50] [] q51,
      .Return (some (.Name sAsked q52)) q53] env) Q E { s with toks := tk } := by
    intro tk e2 e3 e4
    refine wpAny_execs_cons (wpAny_If (ask rfl ?_))
    by_cases e5 : ch = 5
    · rw [if_pos (by rw [e5]; rfl)]
      refine addOne (s := { s with toks := _ }) F N (.head _) hS hb' va ka hk rfl (by decide) (more rfl ?_)
      simp only [askedOf, if_neg e2, if_neg e3, if_neg e4, if_pos e5]
    · rw [if_neg (by simpa using e5)]
      refine wpAny_execs_nil (wpAny_execs_cons (wpAny_Return_some (wpAny_Name (wpAny_loadName_local (s := { s with toks := _ }) hk ka F.ns va ?_) (by decide))))
      refine h a s.heap _ vs n F N hap ?_
      simp only [askedOf, if_neg e2, if_neg e3, if_neg e4, if_neg e5]
      exact hS
  have t4 : ∀ tk, ch ≠ 2 → ¬ (ch = 3 ∧ ¬ sParser ∈ ss.drop c.toNat) → wpAny (model prog w) A (execs [.If (.BoolOp .And [(.Compare (.Name sChange q30) [.Eq] [.Constant (.int 4) 0 q31] q32), (.Compare (.Constant (.str sDefaults) 0 q33) [.NotIn] [.Name sAsked q34] q35)] q36) [.Return (some (.BinOp (.Name sAsked q37) .Add (.List [.Constant (.str sDefaults) 0 q38] q39) q40)) q41] [] q42,
      .If (.Compare (.Name sChange q43) [.Eq] [.Constant (.int 5) 0 q44] q45) [.Return (some (.BinOp (.Name sAsked q46) .Add (.List [.Constant (.str sMore) 0 q47] q48) q49)) q50] [] q51,
      .Return (some (.Name sAsked q52)) q53] env) Q E { s with toks := tk } := by
    intro tk e2 e3
    refine wpAny_execs_cons (wpAny_If (isTrue_and (ask rfl ?_)))
    by_cases e4 : ch = 4
    · rw [if_pos (by rw [e4]; rfl)]
      refine askIn rfl ?_
      by_cases hq : sDefaults ∈ ss.drop c.toNat
      · rw [if_neg (by rw [anyIn.mpr hq]; decide)]
        exact wpAny_execs_nil (t5 _ e2 e3 fun x => x.2 hq)
      · rw [if_pos (by rw [Bool.not_eq_true', ← Bool.not_eq_true, anyIn]; exact hq)]
        refine addOne (s := { s with toks := _ }) F N (.head _) hS hb' va ka hk rfl (by decide) (more rfl ?_)
        simp only [askedOf, if_neg e2, if_neg e3, if_pos (show ch = 4 ∧ ¬ sDefaults ∈ ss.drop c.toNat from ⟨e4, hq⟩)]
    · rw [if_neg (by simpa using e4)]
      exact wpAny_execs_nil (t5 _ e2 e3 fun x => e4 x.1)
  refine wpAny_execs_cons (wpAny_If (ask rfl ?_))
  by_cases e2 : ch = 2
  · rw [if_pos (by rw [e2]; rfl)]
    refine cutLast (s := { s with toks := _ }) F N (.head _) hS hb' va ka hk rfl (by decide) (more rfl ?_)
    simp only [askedOf, if_pos e2]
  rw [if_neg (by simpa using e2)]
  refine wpAny_execs_nil ?_
  refine wpAny_execs_cons (wpAny_If (isTrue_and (ask rfl ?_)))
  by_cases e3 : ch = 3
  · rw [if_pos (by rw [e3]; rfl)]
    refine askIn rfl ?_
    by_cases hq : sParser ∈ ss.drop c.toNat
    · rw [if_neg (by rw [anyIn.mpr hq]; decide)]
      exact wpAny_execs_nil (t4 _ e2 fun x => x.2 hq)
    · rw [if_pos (by rw [Bool.not_eq_true', ← Bool.not_eq_true, anyIn]; exact hq)]
      refine addOne (s := { s with toks := _ }) F N (.head _) hS hb' va ka hk rfl (by decide) (more rfl ?_)
      simp only [askedOf, if_neg e2, if_pos (show ch = 3 ∧ ¬ sParser ∈ ss.drop c.toNat from ⟨e3, hq⟩)]
  · rw [if_neg (by simpa using e3)]
    exact wpAny_execs_nil (t4 _ e2 fun x => e3 x.1)
end
end Mine
end
section
open PySem PySem.W PyProof.Rows PySem.Spec
set_option maxRecDepth 100000
namespace Mine
section
variable {p prog : Program} {w : World} {A A₀ : Around} {base : Heap} {E : Value → Shared → Prop} {s : Shared} {h₀ : Heap} {L : Addr} {m mg mb : Str → Option Value} {news : List (Addr × Obj)} {loose : List Str} {mean : ExcName → Option Value} {K : Frag}
def askedBody (q1 q2 q3 q4 q5 q6 q7 q8 q9 q10 q11 q12 q13 q14 q15 q16 q17 q18 q19 q20 q21 q22 q23 q24 q25 q26 q27 q28 q29 q30 q31 q32 q33 q34 q35 q36 q37 q38 q39 q40 q41 q42 q43 q44 q45 q46 q47 q48 q49 q50 q51 q52 q53 : Pos) : List Stmt := [.Assign [.Name sAsked q1] (.Subscript (.Name sNames q2) (.Slice (some (.Name sCount q3)) none none q4) q5) q6,
      .If (.Compare (.Name sChange q7) [.Eq] [.Constant (.int 2) 0 q8] q9) [.Return (some (.Subscript (.Name sAsked q10) (.Slice none (some (.UnaryOp .USub (.Constant (.int 1) 0 q11) q12)) none q13) q14)) q15] [] q16,
      .If (.BoolOp .And [(.Compare (.Name sChange q17) [.Eq] [.Constant (.int 3) 0 q18] q19), (.Compare (.Constant (.str sParser) 0 q20) [.NotIn] [.Name sAsked q21] q22)] q23) [.Return (some (.BinOp (.Name sAsked q24) .Add (.List [.Constant (.str sParser) 0 q25] q26) q27)) q28] [] q29,
      .If (.BoolOp .And [(.Compare (.Name sChange q30) [.Eq] [.Constant (.int 4) 0 q31] q32), (.Compare (.Constant (.str sDefaults) 0 q33) [.NotIn] [.Name sAsked q34] q35)] q36) [.Return (some (.BinOp (.Name sAsked q37) .Add (.List [.Constant (.str sDefaults) 0 q38] q39) q40)) q41] [] q42,
      .If (.Compare (.Name sChange q43) [.Eq] [.Constant (.int 5) 0 q44] q45) [.Return (some (.BinOp (.Name sAsked q46) .Add (.List [.Constant (.str sMore) 0 q47] q48) q49)) q50] [] q51,
      .Return (some (.Name sAsked q52)) q53]
theorem askedCall {env : Env} {outer : List Env} {name qual : Str} {params : Arguments} {scope : Scope} {dV kV doc pm cdv ct oc : Value} {an od : Option Addr} {osl : Array (Option Value)} {f nl : Addr} {its : Array Value} {n : Nat} {ss : List Str} {c ch : Int} {tc tch : Tok} {q1 q2 q3 q4 q5 q6 q7 q8 q9 q10 q11 q12 q13 q14 q15 q16 q17 q18 q19 q20 q21 q22 q23 q24 q25 q26 q27 q28 q29 q30 q31 q32 q33 q34 q35 q36 q37 q38 q39 q40 q41 q42 q43 q44 q45 q46 q47 q48 q49 q50 q51 q52 q53 : Pos} {Q : Value → Shared → Prop}
    (B : Below A₀ base outer h₀) (F : Fr h₀ L s.heap m) (X₀ : K.In h₀) (N : News h₀ L s.heap news) (T : Top p loose mean mg mb h₀) (hA : A.frames = some (env :: outer)) (hf : env.frame = some L) (hke : env.scope.kind = .function)
    (ho : K.lookup f = some ⟨oc, od, .func (fnOf name qual params (askedBody q1 q2 q3 q4 q5 q6 q7 q8 q9 q10 q11 q12 q13 q14 q15 q16 q17 q18 q19 q20 q21 q22 q23 q24 q25 q26 q27 q28 q29 q30 q31 q32 q33 q34 q35 q36 q37 q38 q39 q40 q41 q42 q43 q44 q45 q46 q47 q48 q49 q50 q51 q52 q53) scope dV kV doc pm an cdv ct), osl⟩) (hcd : codeIn K cdv qual = true) (hroom : A.depth < recursionLimit)
    (hbind : BindsTo s (fnOf name qual params (askedBody q1 q2 q3 q4 q5 q6 q7 q8 q9 q10 q11 q12 q13 q14 q15 q16 q17 q18 q19 q20 q21 q22 q23 q24 q25 q26 q27 q28 q29 q30 q31 q32 q33 q34 q35 q36 q37 q38 q39 q40 q41 q42 q43 q44 q45 q46 q47 q48 q49 q50 q51 q52 q53) scope dV kV doc pm an cdv ct) ⟨[.ref nl, .int c tc, .int ch tch], []⟩ [(sNames, .ref nl), (sCount, .int c tc), (sChange, .int ch tch)])
    (hk1 : scope.names.lookup sNames = some .local) (hk2 : scope.names.lookup sCount = some .local) (hk3 : scope.names.lookup sChange = some .local) (hk4 : scope.names.lookup sAsked = some .local)
    (hco : scope.isCoroutine = false) (hgen : scope.isGenerator = false) (hk : scope.kind = .function) (hcell : ∀ x ∈ scope.names, x.2 ≠ .cell)
    (hn : (nl, listOf its n) ∈ news) (hS : StrsAre its.toList ss) (hb : ss.length ≤ 100) (c0 : 0 ≤ c)
    (h : ∀ D h' tk vs n, Fr h₀ L h' m → News h₀ L h' ((D, listOf (List.toArray vs) n) :: news) → (∀ p ∈ news, p.1 < D) → StrsAre vs (askedOf ss c ch) → Q (.ref D) { s with heap := h', toks := tk }) :
    wpAny (model prog w) A (call (.ref f) [.ref nl, .int c tc, .int ch tch]) Q E s := by
  refine wpAny_call (code_def B F X₀ N T hA hf hke ho hcd hroom hbind ?_ ?_ hco hgen hk hcell)
  · intro y hy
    rcases List.mem_cons.mp hy with rfl | hy
    · exact hk1
    rcases List.mem_cons.mp hy with rfl | hy
    · exact hk2
    rcases List.mem_cons.mp hy with rfl | hy
    · exact hk3
    · cases hy
  · intro g L' h₁ FG F' N' B' X' T'
    have v1 : (fun y => List.lookup y [(sNames, Value.ref nl), (sCount, .int c tc), (sChange, .int ch tch)].reverse) sNames = some (.ref nl) := rfl
    have v2 : (fun y => List.lookup y [(sNames, Value.ref nl), (sCount, .int c tc), (sChange, .int ch tch)].reverse) sCount = some (.int c tc) := rfl
    have v3 : (fun y => List.lookup y [(sNames, Value.ref nl), (sCount, .int c tc), (sChange, .int ch tch)].reverse) sChange = some (.int ch tch) := rfl
    refine wpAny_execs_cons (wpAny_Assign_Name ?_ (by with_unfolding_all rfl))
    refine cutFrom (s := { s with heap := h₁, toks := _ }) F' N' hn hS hb v1 v2 c0 hk1 hk2 hk rfl (by decide) (by decide) ?_
    intro D h₂ tk vs F₂ N₂ hD hS₂
    refine wpAny_storeName_local hk4 F₂.ns (fun h₃ hn₃ hs₃ => ?_) ?_
    · have F₃ := F₂.set hn₃ hs₃
      have N₃ := N₂.set hs₃
      dsimp only
      refine askedTail (ch := ch) (tch := tch) (s := { s with heap := h₃, toks := tk + 1 }) (env := envOf qual scope L' f cdv) F₃ N₃ hD hS₂ hb (if_pos rfl) ?_ hk4 hk3 hk rfl ?_
      · exact (if_neg (by decide)).trans v3
      · intro D' h₄ tk' vs' n' F₄ N₄ hD' hS'
        exact leaveK_ F₄ N₄ fun F₅ N₅ => h D' h₄ tk' vs' n' F₅ N₅ hD' hS'
    · show (scope.kind == .class || (scope.kind == .module && _)) = false
      rw [hk]; rfl
end
end Mine
end
section
open PySem PySem.W PyProof.Rows PySem.Spec
set_option maxRecDepth 100000
namespace Mine
def sName : Str := Str.ofString "name"
def sNamed : Str := Str.ofString "named"
def sThings : Str := Str.ofString "things"
def sX : Str := Str.ofString "x"
def sLen : Str := Str.ofString "len"
/-- for name in asked: named[name] = things[(x + count + len(named)) % 13] -/
theorem namedLoop {prog : Program} {w : World} {A : Around} {env : Env} {s : Shared} {E : Value → Shared → Prop} {Q : Flow → Shared → Prop} {px p pos a1 a2 a3 b1 c1 c2 c3 d1 d2 d3 d4 e1 e2 e3 f1 : Pos}
    {h₀ : Heap} {L l d tl ct cx : Addr} {vs th : List Value} {ss : List Str} {n nn : Nat} {m : Str → Option Value} {need : List (Addr × Obj)} {o ot ox : Obj} {xv c : Int} {tx tc : Tok}
    (F : Fr h₀ L s.heap m) (N : News h₀ L s.heap ((d, o) :: need)) (hl : (l, listOf vs.toArray n) ∈ need) (hap : ∀ p ∈ need, p.1 ≠ d) (hS : StrsAre vs ss) (hnd : ss.Nodup) (hsz : ss.length ≤ 100) (hy : m sAsked = some (.ref l)) (hd : o.IsDictOf (PySem.strKind prog w) [])
    (lo : (d == sysModules) = false)
    (hct : (ct, ot) ∈ need) (hot : ot.data = .cell (some (.ref tl))) (hcx : (cx, ox) ∈ need) (hox : ox.data = .cell (some (.int xv tx))) (htl : (tl, listOf th.toArray nn) ∈ need) (hlen : th.length = 13)
    (vnamed : m sNamed = some (.ref d)) (vcount : m sCount = some (.int c tc))
    (hlenN : ∀ (s' : Shared) (m' : Str → Option Value) (Q : Value → Shared → Prop) (E : Value → Shared → Prop), Fr h₀ L s'.heap m' → Q (.builtin "len") s' → wpAny (model prog w) A (eval (.Name sLen d1) env) Q E s')
    (lt : env.cells.lookup sThings = some ct) (lx : env.cells.lookup sX = some cx)
    (kt : env.kindOf sThings = some .cell) (kx : env.kindOf sX = some .cell) (kn : env.kindOf sNamed = some .local) (kk : env.kindOf sName = some .local) (kc : env.kindOf sCount = some .local) (ka : env.kindOf sAsked = some .local)
    (hk : env.scope.kind = .function) (hL : env.locals = L) (hh : A.handled = none)
    (hsw : swapsWith (.Subscript (.Name sThings b1) (.BinOp (.BinOp (.BinOp (.Name sX c1) .Add (.Name sCount c2) c3) .Add (.Call (.Name sLen d1) [.Name sNamed d2] [] d3) d4) .Mod (.Constant (.int 13) 0 e1) e2) e3) (some (.Subscript (.Name sNamed a1) (.Name sName a2) a3)) f1.line env = pure false)
    (hs : ∀ v, foldedSetIterable (.Name sAsked p) env v = pure v)
    (done : ∀ h tk (u : Str → Option Value) o₁, Fr h₀ L h (fun z => if z = sName then u z else m z) → News h₀ L h ((d, o₁) :: need) → o₁.IsDictOf (PySem.strKind prog w) (namedFrom th (xv + c) ss) → Q .next { s with heap := h, toks := tk }) :
    wpAny (model prog w) A (exec (.For (.Name sName px) (.Name sAsked p) [.Assign [.Subscript (.Name sNamed a1) (.Name sName a2) a3]
      (.Subscript (.Name sThings b1) (.BinOp (.BinOp (.BinOp (.Name sX c1) .Add (.Name sCount c2) c3) .Add (.Call (.Name sLen d1) [.Name sNamed d2] [] d3) d4) .Mod (.Constant (.int 13) 0 e1) e2) e3) f1] [] pos) env) Q E s := by
  refine forNamed (fun i => namedFrom th (xv + c) (ss.take i)) F N hl hap hS hy (by simpa [namedFrom] using hd) ?_ ?_ hh kk ka hk hL (by decide) hs
  · intro i k t h tk o₁ I oI hi hd₁ F₁ N₁ hap₁
    have up : ∀ {q : Addr × Obj}, q ∈ need → q ∈ (I, oI) :: need := fun h => .tail _ h
    refine turn7 (c := c) (tc := tc) F₁ N₁ hap₁ hd₁ ?_ lo (up hct) hot (up hcx) hox (up htl) hlen ?_ (if_pos rfl) ?_ (fun s' Q' e q => hlenN s' _ Q' _ (by rw [e]; exact F₁) q) lt lx kt kx kn kk kc hk hL hsw ?_
    · rw [namedFrom_length, List.length_take]; omega
    · exact (if_neg (by decide)).trans vnamed
    · exact (if_neg (by decide)).trans vcount
    · intro h' tk' o' F' N' hd'
      rw [named_step hi hnd] at hd'
      exact ⟨h', tk', _, o', rfl, F', fun z hz => if_neg hz, N', hd'⟩
  · intro h tk u o₁ F₁ N₁ hd₁
    rw [List.take_length] at hd₁
    exact done h tk u o₁ F₁ N₁ hd₁
/-- the shapes say: the asked names are all different, and few -/
theorem asked_nodup {q : Str} {normal names : List Str} (W : Which q normal names) {c ch : Int} (c0 : 0 ≤ c) (c7 : c < 7) (h0 : 0 ≤ ch) (h6 : ch < 6) : (askedOf names c ch).Nodup ∧ (askedOf names c ch).length ≤ 100 := by
  obtain ⟨n, rfl⟩ : ∃ n : Nat, c = n := ⟨c.toNat, by omega⟩
  obtain ⟨k, rfl⟩ : ∃ k : Nat, ch = k := ⟨ch.toNat, by omega⟩
  have hsh := W.shape (c := n) (ch := k) (by omega) (by omega)
  unfold okShape at hsh
  simp only [Bool.and_eq_true, decide_eq_true_eq] at hsh
  obtain ⟨⟨⟨⟨⟨e1, e2⟩, e3⟩, e4⟩, e5⟩, e6⟩ := hsh
  exact ⟨e3, Nat.le_trans e4 (by decide)⟩
end Mine
end
section
open PySem PySem.W PyProof.Rows PySem.Spec
set_option maxRecDepth 100000
namespace Mine
def sFits : Str := Str.ofString "fits"
def sSorted : Str := Str.ofString "sorted"
theorem rising_pairwise : ∀ (l : List Str) (p : Str), risingS p l = true → (p :: l).Pairwise (fun a b => ¬ b.cps.toList < a.cps.toList)
  | [], p, _ => by simp
  | x :: r, p, h => by
    have h' : (!ltCps x.cps.toList p.cps.toList && risingS x r) = true := h
    rw [Bool.and_eq_true, Bool.not_eq_true', ltCps_eq, decide_eq_false_iff_not] at h'
    have ih := rising_pairwise r x h'.2
    refine List.pairwise_cons.mpr ⟨fun b hb => ?_, ih⟩
    rcases List.mem_cons.mp hb with rfl | hb
    · exact h'.1
    · have h2 := (List.pairwise_cons.mp ih).1 b hb
      exact fun hlt => absurd (List.le_trans (List.not_lt.mp h'.1) (List.not_lt.mp h2)) (List.not_le.mpr hlt)
theorem sorted_pairwise {l : List Str} (h : sortedS l = true) : l.Pairwise (fun a b => ¬ b.cps.toList < a.cps.toList) := by
  cases l with
  | nil => exact .nil
  | cons p r => exact rising_pairwise r p h
theorem sorted_unique {l₁ l₂ : List Str} (h₁ : sortedS l₁ = true) (h₂ : sortedS l₂ = true) (hp : l₁.Perm l₂) : l₁ = l₂ := by
  refine hp.eq_of_pairwise (fun a b _ _ ha hb => ?_) (sorted_pairwise h₁) (sorted_pairwise h₂)
  have e := List.le_antisymm (List.not_lt.mp ha) (List.not_lt.mp hb)
  cases a; cases b
  simp only at e
  rw [Array.toList_inj.mp e]
section
variable {prog : Program} {w : World} {A : Around} {E : Value → Shared → Prop} {s : Shared} {env : Env} {h₀ : Heap} {L : Addr} {m : Str → Option Value} {news : List (Addr × Obj)}
theorem strs_at : ∀ {vs us : List Value} {ss : List Str}, StrsAre vs ss → StrsAre us ss → ∀ (j : Nat) (h1 : j < vs.length) (h2 : j < us.length), PySem.SeqAt.EqAt A s vs[j] us[j] true
  | _, _, _, .cons y t h, .cons _ u h', 0, _, _ => by
    have := PySem.SeqAt.EqAt.str_str (A := A) (s := s) y t y u
    rwa [beq_self_eq_true] at this
  | _, _, _, .cons y t h, .cons _ u h', j + 1, h1, h2 => strs_at h h' j (by simpa using h1) (by simpa using h2)
theorem eqStrs {a b : Addr} {vs us : List Value} {ss tt : List Str} {Q : Value → Shared → Prop} (ha : s.heap.IsList a vs.toArray) (hb : s.heap.IsList b us.toArray) (hS : StrsAre vs ss) (hT : StrsAre us tt)
    (hu : A.units < cLine) (hc : ss = tt ∨ ss.length ≠ tt.length) (h : Q (.bool (decide (ss = tt))) s) : wpAny (model prog w) A (compareOp .Eq (.ref a) (.ref b)) Q E s := by
  have l1 := strs_length hS
  have l2 := strs_length hT
  refine cmp_ofEq ?_
  rcases hc with rfl | hne
  · have r := PySem.SeqAt.RcAt.lists (A := A) (e := fun _ => true) ha hb (by simp; omega) hu (fun j h1 h2 => strs_at hS hT j (by simpa using h1) (by simpa using h2))
    refine r prog w E Q ?_
    rw [show ((List.range vs.toArray.size).all fun _ => true) = true from List.all_eq_true.mpr fun _ _ => rfl]
    rwa [decide_eq_true rfl] at h
  · have r := PySem.SeqAt.RcAt.lists_lengths (A := A) ha hb (by simp; omega) hu
    refine r prog w E Q ?_
    rwa [decide_eq_false (fun e => hne (by rw [e]))] at h
/-- fits = count <= len(names) and sorted(asked) == sorted(names[count:]) -/
theorem fitsMade {nl al : Addr} {its : Array Value} {vs : List Value} {n k : Nat} {names asked : List Str} {c : Int} {tc : Tok} {Q : Flow → Shared → Prop} {q1 q2 q3 q4 q5 q6 q7 q8 q9 q10 q11 q12 q13 q14 q15 q16 q17 q18 : Pos}
    (F : Fr h₀ L s.heap m) (N : News h₀ L s.heap news) (hn : (nl, listOf its n) ∈ news) (hS : StrsAre its.toList names) (ha : (al, listOf vs.toArray k) ∈ news) (hT : StrsAre vs asked)
    (hb : names.length ≤ 50) (hb' : asked.length ≤ 50) (c0 : 0 ≤ c) (hone : asked.length = (names.drop c.toNat).length ↔ asked = names.drop c.toNat)
    (v1 : m sNames = some (.ref nl)) (v2 : m sCount = some (.int c tc)) (v3 : m sAsked = some (.ref al))
    (k1 : env.kindOf sNames = some .local) (k2 : env.kindOf sCount = some .local) (k3 : env.kindOf sAsked = some .local) (k4 : env.kindOf sFits = some .local) (hk : env.scope.kind = .function) (hL : env.locals = L) (hu : A.units < cLine)
    (hlenN : ∀ (s' : Shared) (m' : Str → Option Value) (Q : Value → Shared → Prop) (E : Value → Shared → Prop), Fr h₀ L s'.heap m' → Q (.builtin "len") s' → wpAny (model prog w) A (eval (.Name sLen q3) env) Q E s')
    (hsortN : ∀ (s' : Shared) (m' : Str → Option Value) (Q : Value → Shared → Prop) (E : Value → Shared → Prop) (q : Pos), Fr h₀ L s'.heap m' → Q (.builtin "sorted") s' → wpAny (model prog w) A (eval (.Name sSorted q) env) Q E s')
    (hsw : swapsWith (.BoolOp .And [.Compare (.Name sCount q2) [.LtE] [.Call (.Name sLen q3) [.Name sNames q4] [] q5] q6,
      .Compare (.Call (.Name sSorted q7) [.Name sAsked q8] [] q9) [.Eq] [.Call (.Name sSorted q10) [.Subscript (.Name sNames q11) (.Slice (some (.Name sCount q12)) none none q13) q14] [] q15] q16] q17) (some (.Name sFits q1)) q18.line env = pure false)
    (h : ∀ h' tk, Fr h₀ L h' (fun z => if z = sFits then some (.bool (decide (c.toNat ≤ names.length ∧ asked = names.drop c.toNat))) else m z) → News h₀ L h' news → Q .next { s with heap := h', toks := tk }) :
    wpAny (model prog w) A (exec (.Assign [.Name sFits q1] (.BoolOp .And [.Compare (.Name sCount q2) [.LtE] [.Call (.Name sLen q3) [.Name sNames q4] [] q5] q6,
      .Compare (.Call (.Name sSorted q7) [.Name sAsked q8] [] q9) [.Eq] [.Call (.Name sSorted q10) [.Subscript (.Name sNames q11) (.Slice (some (.Name sCount q12)) none none q13) q14] [] q15] q16] q17) q18) env) Q E s := by
  subst hL
  have hp : (env.scope.kind == .class || (env.scope.kind == .module && env.locals != env.globals)) = false := by rw [hk]; rfl
  have l1 := strs_length hS
  have l2 := strs_length hT
  have hput : ∀ (s₁ : Shared) (b : Bool) (h₁ : Heap) (tk : Nat), s₁ = { s with heap := h₁, toks := tk } → Fr h₀ env.locals h₁ m → News h₀ env.locals h₁ news → b = decide (c.toNat ≤ names.length ∧ asked = names.drop c.toNat) →
      wpAny (model prog w) A (storeName env sFits (.bool b)) (fun _ => Q .next) E s₁ := by
    rintro s₁ b h₁ tk rfl F₁ N₁ rfl
    refine wpAny_storeName_local k4 F₁.ns (fun h₂ hn₂ hs₂ => ?_) hp
    exact h h₂ _ (F₁.set hn₂ hs₂) (N₁.set hs₂)
  refine wpAny_Assign_Name ?_ hsw
  refine BoolOp_and (wpAny_Compare1 (wpAny_Name (wpAny_loadName_local hk k2 F.ns v2 ?_) (by decide)))
  refine PySem.Call_name1 rfl (hlenN _ _ _ _ F ?_)
  refine PySem.callWith_builtin1 (t := eval (.Name sNames q4) env) (wpAny_Name (wpAny_loadName_local hk k1 F.ns v1 ?_) (by decide))
  have hnl : s.heap.IsList nl its := ⟨_, (N _ hn).1, rfl, n, rfl⟩
  have hal : s.heap.IsList al vs.toArray := ⟨_, (N _ ha).1, rfl, k, rfl⟩
  have hsz : its.size = names.length := by rw [← l1, Array.length_toList]
  refine PySem.Calls.call_len_list hnl (by omega) (le_int (wpAny_truthy_bool ?_))
  rw [hsz]
  by_cases hle : c ≤ (names.length : Int)
  · rw [if_pos (decide_eq_true hle)]
    refine BoolOp_one (wpAny_Compare1 ?_)
    refine PySem.Call_name1 rfl (hsortN _ m _ _ _ F ?_)
    refine PySem.callWith_builtin1 (t := eval (.Name sAsked q8) env) (wpAny_Name (wpAny_loadName_local (s := { s with toks := _ }) hk k3 F.ns v3 ?_) (by decide))
    refine sorted_N_str (s := { s with toks := _ }) F N hal hT (by omega) fun h₁ vs₁ ss₁ e₁ F₁ N₁ hS₁ hp₁ hs₁ => ?_
    refine PySem.Call_name1 rfl (hsortN _ m _ _ _ F₁ ?_)
    refine PySem.callWith_builtin1 (t := eval (.Subscript (.Name sNames q11) (.Slice (some (.Name sCount q12)) none none q13) q14) env) ?_
    refine cutFrom F₁ N₁ (.tail _ hn) hS (by omega) v1 v2 c0 k1 k2 hk rfl (by decide) (by decide) ?_
    intro D h₂ tk₂ vs₂ F₂ N₂ hD hS₂
    refine sorted_N_str (s := { s with heap := h₂, toks := tk₂ }) F₂ N₂ ⟨_, (N₂ _ (.head _)).1, rfl, 0, rfl⟩ hS₂ (by rw [strs_length hS₂, List.length_drop]; omega) fun h₃ vs₃ ss₃ e₃ F₃ N₃ hS₃ hp₃ hs₃ => ?_
    have i1 : h₃.IsList (s.heap.objs.size + 1) vs₁.toArray := News.isList N₃ (.tail _ (.tail _ (.head _)))
    have i2 : h₃.IsList (h₂.objs.size + 1) vs₃.toArray := News.isList N₃ (.head _)
    have iff : ss₁ = ss₃ ↔ asked = names.drop c.toNat := by
      constructor
      · intro e
        rw [← hone, ← hp₁.length_eq, e, hp₃.length_eq]
      · intro e
        exact sorted_unique hs₁ hs₃ (hp₁.trans (e ▸ hp₃.symm))
    refine eqStrs (s := { s with heap := h₃, toks := tk₂ }) i1 i2 hS₁ hS₃ hu ?_ ?_
    · by_cases e : asked = names.drop c.toNat
      · exact .inl (iff.mpr e)
      · exact .inr fun e' => e (hone.mp (by rw [← hp₁.length_eq, e', hp₃.length_eq]))
    · refine hput _ _ h₃ _ rfl F₃ (fun p hp => N₃ p (.tail _ (.tail _ (.tail _ hp)))) ?_
      rw [decide_eq_decide, iff]
      exact ⟨fun e => ⟨by omega, e⟩, fun e => e.2⟩
  · rw [if_neg (by simpa using hle)]
    refine hput _ _ s.heap _ rfl F N ?_
    rw [decide_eq_false hle, eq_comm, decide_eq_false_iff_not]
    exact fun e => hle (by omega)
end
end Mine
end
section
open PySem PySem.W PyProof.Rows PySem.Spec
set_option maxRecDepth 100000
namespace Mine
def sTold : Str := Str.ofString "told"
def sGiven : Str := Str.ofString "given"
def sValue : Str := Str.ofString "value"
/-- a value that is itself -/
def tokOk : Value → Prop
  | .str _ t => t ≠ 0
  | .bytes _ t => t ≠ 0
  | .int p t => t ≠ 0 ∧ smallInt p = true
  | .none => True
  | .bool _ => True
  | .ref _ => True
  | _ => False
section
variable {prog : Program} {w : World} {A : Around} {E : Value → Shared → Prop} {s : Shared} {env : Env} {h₀ : Heap} {L : Addr} {m : Str → Option Value} {news : List (Addr × Obj)}
theorem same_created {M : Model} {b : Bool} {t : Tok} {R : Bool → Shared → Prop} (ht : t ≠ 0) (h : R true s) : wpAny M A (isSame.created b t t) R E s := by
  unfold isSame.created
  rw [if_neg (by simpa using ht), if_pos (by simp)]
  exact wpAny_pure h
theorem same_self {M : Model} {v : Value} {R : Bool → Shared → Prop} (hv : tokOk v) (h : R true s) : wpAny M A (isSame v v) R E s := by
  cases v with
  | none => exact wpAny_isSame_plain rfl (by simpa using h)
  | bool b => exact wpAny_isSame_plain rfl (by simpa using h)
  | ref a => exact wpAny_isSame_ref_self h
  | str x t => exact same_created (t := t) hv h
  | bytes x t => exact same_created (t := t) hv h
  | int p t =>
    obtain ⟨ht, hp⟩ := hv
    show wpAny M A (if (p == p && smallInt p) = true then isSame.cachedInt t t else isSame.created (p == p) t t) R E s
    rw [if_pos (by rw [hp]; simp)]
    unfold isSame.cachedInt
    rw [if_neg (by simpa using ht)]
    exact wpAny_bind (wpAny_rule (wpAny_pure h))
  | _ => exact hv.elim
theorem givenOf_third {th : List Value} {xv c : Int} (hc : 3 < c) : (givenOf th xv c).toArray[3]? = some (pick th (xv + 3)) := by
  have h3 : 3 < c.toNat := by omega
  unfold givenOf
  rw [List.getElem?_toArray, List.getElem?_map, List.getElem?_range' h3]
  rfl
/-- if not fits or told is not (given[3] if count > 3 else named['value']): return False -- not taken -/
theorem toldRight {gl d : Addr} {o : Obj} {th : List Value} {names : List Str} {k : Nat} {xv c : Int} {tc : Tok} {Q : Flow → Shared → Prop} {body : List Stmt} {q1 q2 q3 q4 q5 q6 q7 q8 q9 q10 q11 q12 q13 q14 q15 q16 : Pos}
    (F : Fr h₀ L s.heap m) (N : News h₀ L s.heap news) (hg : (gl, listOf (givenOf th xv c).toArray k) ∈ news) (hd : (d, o) ∈ news) (ho : o.IsDictOf (PySem.strKind prog w) (namedFrom th (xv + c) (names.drop c.toNat)))
    (hN : names = N4 ∨ names = N5) (c0 : 0 ≤ c) (c7 : c < 7) (hok : tokOk (pick th (xv + 3)))
    (v1 : m sFits = some (.bool true)) (v2 : m sTold = some (pick th (xv + 3))) (v3 : m sCount = some (.int c tc)) (v4 : m sGiven = some (.ref gl)) (v5 : m sNamed = some (.ref d))
    (k1 : env.kindOf sFits = some .local) (k2 : env.kindOf sTold = some .local) (k3 : env.kindOf sCount = some .local) (k4 : env.kindOf sGiven = some .local) (k5 : env.kindOf sNamed = some .local) (hk : env.scope.kind = .function) (hL : env.locals = L)
    (h : ∀ tk, Q .next { s with toks := tk }) :
    wpAny (model prog w) A (exec (.If (.BoolOp .Or [.UnaryOp .Not (.Name sFits q1) q2, .Compare (.Name sTold q3) [.IsNot] [.IfExp (.Compare (.Name sCount q4) [.Gt] [.Constant (.int 3) 0 q5] q6)
      (.Subscript (.Name sGiven q7) (.Constant (.int 3) 0 q8) q9) (.Subscript (.Name sNamed q10) (.Constant (.str sValue) 0 q11) q12) q13] q14] q15) body [] q16) env) Q E s := by
  subst hL
  refine wpAny_If (isTrue_or (isTrue_not (isTrue_plain (wpAny_Name (wpAny_loadName_local hk k1 F.ns v1 (wpAny_truthy_bool ?_)) (by decide)) (by with_unfolding_all rfl))))
  rw [if_neg (by decide)]
  refine isTrue_or (wpAny_isTrue_Compare1 (wpAny_Name (wpAny_loadName_local hk k2 F.ns v2 ?_) (by decide)))
  have fin : ∀ (R : Value → Shared → Prop) tk, R (.bool false) { s with toks := tk } → wpAny (model prog w) A (compareOp .IsNot (pick th (xv + 3)) (pick th (xv + 3))) R E { s with toks := tk } := by
    intro R tk hR
    show wpAny _ _ (do return Value.bool (!(← isSame (pick th (xv + 3)) (pick th (xv + 3))))) _ E _
    exact wpAny_bind (same_self hok (wpAny_pure hR))
  refine wpAny_IfExp (wpAny_isTrue_Compare1 (wpAny_Name (wpAny_loadName_local hk k3 F.ns v3 (wpAny_Constant_int (gt_int (wpAny_truthy_bool ?_)))) (by decide)))
  by_cases hc : 3 < c
  · rw [if_pos (decide_eq_true hc)]
    refine Subscript_ (wpAny_Name (wpAny_loadName_local (s := { s with toks := _ }) hk k4 F.ns v4 (wpAny_Constant_int ?_)) (by decide))
    have hl : s.heap.IsList gl (givenOf th xv c).toArray := ⟨_, (N _ hg).1, rfl, k, rfl⟩
    refine tail_any (s := { s with toks := _ }) hl.typeIs slot_list_getitem.lookup (wpAny_getItem_list hl (by decide) ?_ (givenOf_third hc) (fin _ _ (wpAny_truthy_bool ?_))) (by with_unfolding_all rfl)
    · decide
    · rw [if_neg (by decide)]
      refine isTrue_or_nil ?_
      rw [if_neg (by decide)]
      exact wpAny_execs_nil (h _)
  · rw [if_neg (by simpa using hc)]
    refine Subscript_ (wpAny_Name (wpAny_loadName_local (s := { s with toks := _ }) hk k5 F.ns v5 (wpAny_Constant_str ?_)) (by decide))
    obtain ⟨n, rfl⟩ : ∃ n : Nat, c = n := ⟨c.toNat, by omega⟩
    obtain ⟨i, rfl, hv⟩ := named_value th xv names hN n (by omega)
    refine kda_item (s := { s with toks := _ }) N hd ho (strKind_is prog w sValue _) (by rw [Int.toNat_natCast]; exact hv) (fin _ _ (wpAny_truthy_bool ?_))
    rw [if_neg (by decide)]
    refine isTrue_or_nil ?_
    rw [if_neg (by decide)]
    exact wpAny_execs_nil (h _)
end
end Mine
end
section
open PySem PySem.W PyProof.Rows PySem.Spec
set_option maxRecDepth 100000
namespace Mine
def sCalls : Str := Str.ofString "calls"
def sTypeError : Str := Str.ofString "TypeError"
/-- the bound method at q, and what is known of its function -/
def MethodAt (h₀ : Heap) (news : List (Addr × Obj)) (q : Addr) (names : List Str) : Prop :=
  ∃ (f : Addr) (self : Value) (of : Obj) (fd : FuncData) (normal : List Str) (p1 p2 : Pos), (q, methodObj (.ref f) self) ∈ news ∧ h₀.get? f = some of ∧ of.data = .func fd ∧ Which fd.qualname normal names ∧
    fd.params.args.map (·.arg) = normal ∧ (fd.params.posonlyargs = [] ∧ fd.params.kwonlyargs = [] ∧ fd.params.vararg = none ∧ fd.params.kwarg = none) ∧ fd.defaults = .none ∧ h₀.CodeRec fd.code fd.qualname ∧
    fd.body = .stmts [.Return (some (.Name (Str.ofString "value") p1)) p2] ∧ (∀ x ∈ fd.scope.names, x.2 ≠ .cell) ∧ (∀ x ∈ normal, fd.scope.names.lookup x = some .local) ∧ fd.scope.isCoroutine = false ∧ fd.scope.isGenerator = false ∧ fd.scope.kind = .function
section
variable {prog : Program} {w : World} {A : Around} {s : Shared} {env : Env} {h₀ : Heap} {L : Addr} {m : Str → Option Value} {news : List (Addr × Obj)}
theorem tryTurn {cl q cx gl d : Addr} {ox o : Obj} {calls : Array Value} {kc k : Nat} {names : List Str} {th : List Value} {xv c ch : Int} {tx : Tok} {Q : Flow → Shared → Prop} {a1 a2 a3 a4 a5 a6 a7 a8 a9 a10 a11 a12 b1 b2 b3 b4 b5 b6 b7 b8 : Pos}
    (F : Fr h₀ L s.heap m) (N : News h₀ L s.heap news) (hM : MethodAt h₀ news q names) (hcl : (cl, listOf calls kc) ∈ news) (hq : calls[(xv.fmod 4).toNat]? = some (.ref q)) (hc4 : calls.size ≤ 100)
    (hcx : (cx, ox) ∈ news) (hox : ox.data = .cell (some (.int xv tx))) (hg : (gl, listOf (givenOf th xv c).toArray k) ∈ news) (hd : (d, o) ∈ news) (ho : o.IsDictOf (PySem.strKind prog w) (namedFrom th (xv + c) (askedOf names c ch)))
    (lo : (d == sysModules) = false) (c0 : 0 ≤ c) (c7 : c < 7) (h0 : 0 ≤ ch) (h6 : ch < 6) (hlim : h₀.NoLimit)
    (v1 : m sFits = some (.bool (decide (c.toNat ≤ names.length ∧ askedOf names c ch = names.drop c.toNat)))) (v2 : m sCalls = some (.ref cl)) (v4 : m sGiven = some (.ref gl)) (v5 : m sNamed = some (.ref d))
    (lx : env.cells.lookup sX = some cx) (kx : env.kindOf sX = some .cell)
    (k1 : env.kindOf sFits = some .local) (k2 : env.kindOf sTold = some .local) (k3 : env.kindOf sCalls = some .local) (k4 : env.kindOf sGiven = some .local) (k5 : env.kindOf sNamed = some .local) (hk : env.scope.kind = .function) (hL : env.locals = L)
    (hfr : A.frames = some [env]) (hf : env.frame = some L) (hroom : A.depth < recursionLimit) (hh : A.handled = none)
    (hTE : ∀ (A' : Around) (s' : Shared) (m' : Str → Option Value) (Q : Value → Shared → Prop) (E : Value → Shared → Prop), Fr h₀ L s'.heap m' → Q (.type "TypeError") s' → wpAny (model prog w) A' (eval (.Name sTypeError b1) env) Q E s')
    (hsw : swapsWith (.Call (.Subscript (.Name sCalls a2) (.BinOp (.Name sX a3) .Mod (.Constant (.int 4) 0 a4) a5) a6) [.Starred (.Name sGiven a7) a8] [⟨none, .Name sNamed a9, a10⟩] a11) (some (.Name sTold a1)) a12.line env = pure false)
    (hok : c.toNat ≤ names.length → askedOf names c ch = names.drop c.toNat → ∀ h' tk, Fr h₀ L h' (fun z => if z = sTold then some (pick th (xv + 3)) else m z) → News h₀ L h' news → Q .next { s with heap := h', toks := tk })
    (hno : ∀ h' tk, Fr h₀ L h' m → News h₀ L h' news → Q .cont { s with heap := h', toks := tk }) :
    wpC (model prog w) A (exec (.Try [.Assign [.Name sTold a1] (.Call (.Subscript (.Name sCalls a2) (.BinOp (.Name sX a3) .Mod (.Constant (.int 4) 0 a4) a5) a6) [.Starred (.Name sGiven a7) a8] [⟨none, .Name sNamed a9, a10⟩] a11) a12]
      [.ExceptHandler (some (.Name sTypeError b1)) none [.If (.Name sFits b2) [.Return (some (.Constant (.bool false) 0 b3)) b4] [] b5, .Continue b6] b7] [] [] b8) env) Q (fun _ _ => False) s := by
  subst hL
  have hp : (env.scope.kind == .class || (env.scope.kind == .module && env.locals != env.globals)) = false := by rw [hk]; rfl
  obtain ⟨f, self, of, fd, normal, p1, p2, hqm, hfo, hfd, W, hn, ⟨hpo, hko, hva, hkw⟩, hdf, hcd, hbody, hcell, hloc, hco, hgen, hkk⟩ := hM
  have hnd := asked_nodup W c0 c7 h0 h6
  have hcls : s.heap.IsList cl calls := ⟨_, (N _ hcl).1, rfl, kc, rfl⟩
  have hb4 : 0 ≤ xv.fmod 4 ∧ xv.fmod 4 < 4 := by rw [Int.fmod_eq_emod_of_nonneg xv (by decide)]; omega
  refine wpC_Try (wpC_execs_cons (wpC_Assign_Name (wpC_CallAt ?_) hsw))
  refine Subscript_ (wpAny_Name (wpAny_loadName_local hk k3 F.ns v2 ?_) (by decide))
  refine wpAny_BinOp (wpAny_Name (wpAny_loadName_cell hk kx lx ⟨ox, (N _ hcx).1, hox⟩ (wpAny_Constant_int (mod_int' (by decide) ?_))) (by decide))
  refine tail_any (s := { s with toks := _ }) hcls.typeIs slot_list_getitem.lookup (wpAny_getItem_list hcls hb4.1 (by omega) hq ?_) (by with_unfolding_all rfl)
  refine callStarsC (s := { s with toks := _ }) F N hqm hfo hfd hg (by rw [givenOf_length]; omega) hd ho lo (by rw [namedFrom_length]; exact hnd.2) v4 v5 (fun h' F' N' => ?_) k4 k5 hk rfl (by decide) (by decide)
  refine callWhole (s := { s with heap := h', toks := _ }) F' N' hqm hfo hfd W hn hpo hko hva hkw hdf hcd hlim hbody hcell hloc hco hgen hkk hroom hh c0 c7 h0 h6 ?_ ?_
  · intro f1 f2 h₂ tk₂ F₂ N₂
    refine wpAny_storeName_local k2 F₂.ns (fun h₃ hn₃ hs₃ => ?_) hp
    refine wpC_any (wpAny_execs_nil (wpAny_execs_nil ?_))
    exact hok f1 f2 h₃ _ (F₂.set hn₃ hs₃) (N₂.set hs₃)
  · intro hnf h₂ tk₂ e he
    rw [decide_eq_false hnf] at v1
    refine caughtC (s' := { s with heap := h₂, toks := tk₂ }) (h := h') (X := "TypeError") hfr hf hk F' N' he.keeps he.new (by obtain ⟨ob, t, h1, h2, h3⟩ := he.there; exact ⟨ob, _, h1, h2, h3, rfl⟩) PySem.F.isExc_TypeError PySem.F.notTuple_TypeError PySem.F.self_TypeError (fun h₃ Q' E' F₃ hQ => hTE _ _ _ _ _ F₃ hQ) fun h₃ F₃ N₃ => ?_
    refine wpAny_execs_cons (wpAny_If (isTrue_plain (wpAny_Name (wpAny_loadName_local hk k1 F₃.ns v1 (wpAny_truthy_bool ?_)) (by decide)) (by with_unfolding_all rfl)))
    rw [if_neg (by decide)]
    exact wpAny_execs_nil (wpAny_execs_cons (wpAny_Continue (hno h₃ tk₂ F₃ N₃)))
end
end Mine
end
section
open PySem PySem.W PyProof.Rows PySem.Spec
set_option maxRecDepth 100000
namespace Mine
def sSection : Str := Str.ofString "section"
def sOption : Str := Str.ofString "option"
def namesOf (xv : Int) : List Str := if xv.fmod 4 = 0 then N5 else N4
def countOf (xv : Int) : Int := (xv.fdiv 4).fmod 7
section
variable {prog : Program} {w : World} {A : Around} {s : Shared} {env : Env} {h₀ : Heap} {L : Addr} {m : Str → Option Value} {news : List (Addr × Obj)} {E : Value → Shared → Prop}
theorem namesTurn {cx : Addr} {ox : Obj} {xv : Int} {tx : Tok} {rest : List Stmt} {Q : Flow → Shared → Prop} {q1 q2 q3 q4 q5 q6 q7 q8 q9 q10 q11 q12 q13 q14 q15 q16 q17 q18 q19 q20 q21 q22 q23 q24 q25 : Pos}
    (F : Fr h₀ L s.heap m) (N : News h₀ L s.heap news) (hcx : (cx, ox) ∈ news) (hox : ox.data = .cell (some (.int xv tx)))
    (lx : env.cells.lookup sX = some cx) (kx : env.kindOf sX = some .cell) (kn : env.kindOf sNames = some .local) (kc : env.kindOf sCount = some .local) (hk : env.scope.kind = .function) (hL : env.locals = L)
    (hint : interactive env = false) (hpy : ∀ s' : Shared, (∃ m', Fr h₀ L s'.heap m') → PylongRoom (model prog w) A s') (hline : (q14.endLine == q16.line) = true)
    (hs1 : swapsWith (.List [.Constant (.str sParser) 0 q2, .Constant (.str sSection) 0 q3, .Constant (.str sOption) 0 q4, .Constant (.str sValue) 0 q5] q6) (some (.Name sNames q1)) q7.line env = pure false)
    (hs2 : swapsWith (.Call (.Attribute (.Name sNames q13) (Str.ofString "append") q14) [.Constant (.str sDefaults) 0 q15] [] q16) none q17.line env = pure false)
    (hs3 : swapsWith (.BinOp (.BinOp (.Name sX q20) .FloorDiv (.Constant (.int 4) 0 q21) q22) .Mod (.Constant (.int 7) 0 q23) q24) (some (.Name sCount q19)) q25.line env = pure false)
    (hbase : attributeBase (.Name sNames q13) (Str.ofString "append") env (eval (.Name sNames q13) env) = eval (.Name sNames q13) env)
    (h : ∀ nl its k tc h' tk, Fr h₀ L h' (fun z => if z = sCount then some (.int (countOf xv) tc) else if z = sNames then some (.ref nl) else m z) → News h₀ L h' ((nl, listOf its k) :: news) → (∀ p ∈ news, p.1 ≠ nl) → StrsAre its.toList (namesOf xv) →
      wpC (model prog w) A (execs rest env) Q E { s with heap := h', toks := tk }) :
    wpC (model prog w) A (execs (.Assign [.Name sNames q1] (.List [.Constant (.str sParser) 0 q2, .Constant (.str sSection) 0 q3, .Constant (.str sOption) 0 q4, .Constant (.str sValue) 0 q5] q6) q7 ::
      .If (.Compare (.BinOp (.Name sX q8) .Mod (.Constant (.int 4) 0 q9) q10) [.Eq] [.Constant (.int 0) 0 q11] q12) [.Expr (.Call (.Attribute (.Name sNames q13) (Str.ofString "append") q14) [.Constant (.str sDefaults) 0 q15] [] q16) q17] [] q18 ::
      .Assign [.Name sCount q19] (.BinOp (.BinOp (.Name sX q20) .FloorDiv (.Constant (.int 4) 0 q21) q22) .Mod (.Constant (.int 7) 0 q23) q24) q25 :: rest) env) Q E s := by
  subst hL
  have hp : (env.scope.kind == .class || (env.scope.kind == .module && env.locals != env.globals)) = false := by rw [hk]; rfl
  have hlt : ∀ p ∈ news, p.1 ≠ s.heap.objs.size := fun p hp => Nat.ne_of_lt (Heap.lt_size (N p hp).1)
  -- the last of the three
  have last : ∀ nl its k h' tk, Fr h₀ env.locals h' (fun z => if z = sNames then some (.ref nl) else m z) → News h₀ env.locals h' ((nl, listOf its k) :: news) → (∀ p ∈ news, p.1 ≠ nl) → StrsAre its.toList (namesOf xv) →
      wpC (model prog w) A (execs (.Assign [.Name sCount q19] (.BinOp (.BinOp (.Name sX q20) .FloorDiv (.Constant (.int 4) 0 q21) q22) .Mod (.Constant (.int 7) 0 q23) q24) q25 :: rest) env) Q E { s with heap := h', toks := tk } := by
    intro nl its k h' tk F' N' hap hS
    refine wpC_execs_consA (wpAny_Assign_Name ?_ hs3)
    refine wpAny_BinOp (wpAny_BinOp (wpAny_Name (wpAny_loadName_cell hk kx lx ⟨ox, (N' _ (.tail _ hcx)).1, hox⟩ (wpAny_Constant_int (floordiv_int (by decide) ?_ (.inr (hpy _ ⟨_, F'⟩))))) (by decide)))
    refine wpAny_Constant_int (mod_int' (by decide) ?_)
    refine wpAny_storeName_local kc F'.ns (fun h₃ hn₃ hs₃ => ?_) hp
    exact h nl its k _ h₃ _ (F'.set hn₃ hs₃) (N'.set hs₃) hap hS
  refine wpC_execs_consA (wpAny_Assign_Name ?_ hs1)
  refine List_ (spliced_more (wpAny_Constant_str (spliced_more (wpAny_Constant_str (spliced_more (wpAny_Constant_str (spliced_more (wpAny_Constant_str (spliced_none ?_)))))))))
  refine newList_N (s := { s with toks := _ }) F N (fun h₁ F₁ N₁ => ?_)
  refine wpAny_storeName_local kn F₁.ns (fun h₂ hn₂ hs₂ => ?_) hp
  have F₂ := F₁.set hn₂ hs₂
  have N₂ := N₁.set hs₂
  refine wpC_execs_consA (wpAny_If (wpAny_isTrue_Compare1 (wpAny_BinOp (wpAny_Name (wpAny_loadName_cell hk kx lx ⟨ox, (N₂ _ (.tail _ hcx)).1, hox⟩ (wpAny_Constant_int (mod_int' (by decide) ?_))) (by decide)))))
  refine wpAny_Constant_int (eq_int (wpAny_truthy_bool ?_))
  by_cases h4 : xv.fmod 4 = 0
  · rw [if_pos (by rw [h4]; rfl)]
    refine wpAny_execs_cons (wpAny_Expr ?_ hint hs2)
    refine Call_method1 hbase rfl hline (wpAny_Name (wpAny_loadName_local (s := { s with heap := h₂, toks := _ }) hk kn F₂.ns (if_pos rfl) ?_) (by decide))
    have hl₂ := N₂ _ (.head _)
    refine ⟨"list", "list.append", PySem.F.plainAttrs_list, slot_list_append, type_list_append, ⟨_, hl₂.1, rfl⟩, fun a e => ?_, ?_⟩
    · cases e; exact ⟨_, hl₂.1, rfl⟩
    refine Calls.callWith_builtin rfl (Calls.evalArgs_plain (Calls.spliced_cons (wpAny_Constant_str (Calls.spliced_nil ?_))))
    refine append_head (s := { s with heap := h₂, toks := _ }) F₂ N₂ hlt (fun h₃ F₃ N₃ => ?_) (Nat.le_of_ble_eq_true rfl)
    refine wpAny_execs_nil ?_
    refine last _ _ 1 h₃ _ F₃ N₃ hlt ?_
    unfold namesOf
    rw [if_pos h4]
    exact .cons _ _ (.cons _ _ (.cons _ _ (.cons _ _ (.cons _ _ .nil))))
  · rw [if_neg (by simpa using h4)]
    refine wpAny_execs_nil ?_
    refine last _ _ 0 h₂ _ F₂ N₂ hlt ?_
    unfold namesOf
    rw [if_neg h4]
    exact .cons _ _ (.cons _ _ (.cons _ _ (.cons _ _ .nil)))
end
end Mine
end
section
open PySem PySem.W PyProof.Rows PySem.Spec
set_option maxRecDepth 100000
namespace Mine
def sRange : Str := Str.ofString "range"
def sLaw : Str := Str.ofString "_law_asked"
def changeOf (xv : Int) : Int := (xv.fdiv 28).fmod 6
section
variable {prog : Program} {w : World} {A : Around} {s : Shared} {env : Env} {h₀ : Heap} {L : Addr} {m : Str → Option Value} {news : List (Addr × Obj)} {E : Value → Shared → Prop}
/-- range(count) -/
theorem rangeMade {c : Int} {tc : Tok} {q1 q2 q3 : Pos} (F : Fr h₀ L s.heap m) (N : News h₀ L s.heap news) (v1 : m sCount = some (.int c tc)) (kc : env.kindOf sCount = some .local) (hk : env.scope.kind = .function) (hL : env.locals = L)
    (hrangeN : ∀ (s' : Shared) (m' : Str → Option Value) (Q : Value → Shared → Prop) (E : Value → Shared → Prop), Fr h₀ L s'.heap m' → Q (.type "range") s' → wpAny (model prog w) A (eval (.Name sRange q1) env) Q E s') :
    wpAny (model prog w) A (eval (.Call (.Name sRange q1) [.Name sCount q2] [] q3) env) (RangeOf h₀ L m news s c) E s := by
  subst hL
  refine PySem.Call_name1 rfl (hrangeN _ _ _ _ F ?_)
  refine PySem.callWith_type1 (t := eval (.Name sCount q2) env) (wpAny_Name (wpAny_loadName_local hk kc F.ns v1 ?_) (by decide))
  refine call_range_1 ?_
  exact ⟨_, _, _, _, _, _, rfl, rfl, IsRange.new .., F.push _, fun p hp => (N.push F _) p (.tail _ hp)⟩
/-- asked = _law_asked(names, count, x // 28 % 6) -/
theorem askedMade {f nl cx : Addr} {of ox : Obj} {fd : FuncData} {names : List Str} {xv c : Int} {tx tc : Tok} {Q : Flow → Shared → Prop} {q1 q2 q3 q4 q5 q6 q7 q8 q9 q10 q11 : Pos}
    (F : Fr h₀ L s.heap m) (N : News h₀ L s.heap news) (hfo : h₀.get? f = some of) (hfd : of.data = .func fd) (hcx : (cx, ox) ∈ news) (hox : ox.data = .cell (some (.int xv tx)))
    (v1 : m sNames = some (.ref nl)) (v2 : m sCount = some (.int c tc))
    (lx : env.cells.lookup sX = some cx) (kx : env.kindOf sX = some .cell) (kn : env.kindOf sNames = some .local) (kc : env.kindOf sCount = some .local) (ka : env.kindOf sAsked = some .local) (hk : env.scope.kind = .function) (hL : env.locals = L)
    (hpy : ∀ s' : Shared, (∃ m', Fr h₀ L s'.heap m') → PylongRoom (model prog w) A s')
    (hlawN : ∀ (s' : Shared) (m' : Str → Option Value) (Q : Value → Shared → Prop) (E : Value → Shared → Prop), Fr h₀ L s'.heap m' → Q (.ref f) s' → wpAny (model prog w) A (eval (.Name sLaw q2) env) Q E s')
    (hcall : ∀ (s' : Shared) (tch : Tok) (Q : Value → Shared → Prop), s'.heap = s.heap → (∀ D h' tk vs n, Fr h₀ L h' m → News h₀ L h' ((D, listOf (List.toArray vs) n) :: news) → (∀ p ∈ news, p.1 < D) → StrsAre vs (askedOf names c (changeOf xv)) → Q (.ref D) { s' with heap := h', toks := tk }) →
      wpAny (model prog w) A (call (.ref f) [.ref nl, .int c tc, .int (changeOf xv) tch]) Q E s')
    (hsw : swapsWith (.Call (.Name sLaw q2) [.Name sNames q3, .Name sCount q4, .BinOp (.BinOp (.Name sX q5) .FloorDiv (.Constant (.int 28) 0 q6) q7) .Mod (.Constant (.int 6) 0 q8) q9] [] q10) (some (.Name sAsked q1)) q11.line env = pure false)
    (h : ∀ D h' tk vs n, Fr h₀ L h' (fun z => if z = sAsked then some (.ref D) else m z) → News h₀ L h' ((D, listOf (List.toArray vs) n) :: news) → (∀ p ∈ news, p.1 < D) → StrsAre vs (askedOf names c (changeOf xv)) → Q .next { s with heap := h', toks := tk }) :
    wpAny (model prog w) A (exec (.Assign [.Name sAsked q1] (.Call (.Name sLaw q2) [.Name sNames q3, .Name sCount q4, .BinOp (.BinOp (.Name sX q5) .FloorDiv (.Constant (.int 28) 0 q6) q7) .Mod (.Constant (.int 6) 0 q8) q9] [] q10) q11) env) Q E s := by
  subst hL
  have hp : (env.scope.kind == .class || (env.scope.kind == .module && env.locals != env.globals)) = false := by rw [hk]; rfl
  refine wpAny_Assign_Name ?_ hsw
  show wpAny _ _ (do callWith q10 (← eval (.Name sLaw q2) env) [] (backTo q10 (starEach [.Name sNames q3, .Name sCount q4, .BinOp (.BinOp (.Name sX q5) .FloorDiv (.Constant (.int 28) 0 q6) q7) .Mod (.Constant (.int 6) 0 q8) q9] env)) (backToKw q10 (keywordEach [] env))) _ _ _
  refine wpAny_bind (hlawN _ _ _ _ F ?_)
  refine Calls.callWith_function (o := of) (fd := fd) (Calls.evalArgs_plain ?_)
  refine spliced_more (wpAny_Name (wpAny_loadName_local hk kn F.ns v1 ?_) (by decide))
  refine spliced_more (wpAny_Name (wpAny_loadName_local hk kc F.ns v2 ?_) (by decide))
  refine spliced_more (wpAny_BinOp (wpAny_BinOp (wpAny_Name (wpAny_loadName_cell hk kx lx ⟨ox, (N _ hcx).1, hox⟩ (wpAny_Constant_int (floordiv_int (by decide) ?_ (.inr (hpy _ ⟨_, F⟩))))) (by decide))))
  refine wpAny_Constant_int (mod_int' (by decide) (spliced_none ⟨⟨F.keep _ _ hfo, hfd⟩, ?_⟩))
  refine hcall { s with toks := _ } _ _ rfl fun D h' tk vs n F' N' hD hS => ?_
  refine wpAny_storeName_local ka F'.ns (fun h₃ hn₃ hs₃ => ?_) hp
  exact h D h₃ _ vs n (F'.set hn₃ hs₃) (N'.set hs₃) hD hS
/-- named = {} -/
theorem namedNew {Q : Flow → Shared → Prop} {q1 q2 q3 : Pos} (F : Fr h₀ L s.heap m) (N : News h₀ L s.heap news) (hlim : h₀.NoLimit) (kd : env.kindOf sNamed = some .local) (hk : env.scope.kind = .function) (hL : env.locals = L)
    (hsw : swapsWith (.Dict [] [] q2) (some (.Name sNamed q1)) q3.line env = pure false)
    (h : ∀ d o h' tk, Fr h₀ L h' (fun z => if z = sNamed then some (.ref d) else m z) → News h₀ L h' ((d, o) :: news) → (∀ p ∈ news, p.1 ≠ d) → o.IsDictOf (PySem.strKind prog w) [] → (d == sysModules) = false → Q .next { s with heap := h', toks := tk }) :
    wpAny (model prog w) A (exec (.Assign [.Name sNamed q1] (.Dict [] [] q2) q3) env) Q E s := by
  subst hL
  have hp : (env.scope.kind == .class || (env.scope.kind == .module && env.locals != env.globals)) = false := by rw [hk]; rfl
  refine wpAny_Assign_Name (wpAny_Dict_empty ?_) hsw
  have F₁ := F.push { cls := .type "dict", data := .dict #[] }
  have N₁ := N.push F { cls := .type "dict", data := .dict #[] }
  refine wpAny_storeName_local kd F₁.ns (fun h₃ hn₃ hs₃ => ?_) hp
  refine h _ _ h₃ _ (F₁.set hn₃ hs₃) (N₁.set hs₃) (fun p hp => Nat.ne_of_lt (Heap.lt_size (N p hp).1)) ?_ (F.notModules (modules_low hlim))
  obtain ⟨o, ho, hd⟩ := Heap.dictOf_iff.mp (Heap.DictOf.new (knd := PySem.strKind prog w) s.heap)
  rw [Heap.get?_push_size _ rfl] at ho
  cases ho
  exact hd
end
end Mine
end
section
open PySem PySem.W PyProof.Rows PySem.Spec
set_option maxRecDepth 100000
namespace Mine
def sK : Str := Str.ofString "k"
theorem MethodAt.more {h₀ : Heap} {news news' : List (Addr × Obj)} {q : Addr} {names : List Str} (h : MethodAt h₀ news q names) (hm : ∀ p ∈ news, p ∈ news') : MethodAt h₀ news' q names := by
  obtain ⟨f, self, of, fd, normal, p1, p2, hq, rest⟩ := h
  exact ⟨f, self, of, fd, normal, p1, p2, hm _ hq, rest⟩
theorem pick_ok {th : List Value} (hlen : th.length = 13) (h : ∀ v ∈ th, tokOk v) (i : Int) : tokOk (pick th i) := by
  have hg := pick_get hlen i
  rw [List.getElem?_toArray] at hg
  exact h _ (List.mem_of_getElem? hg)
theorem asked_one {q : Str} {normal names : List Str} (W : Which q normal names) {c ch : Int} (c0 : 0 ≤ c) (c7 : c < 7) (h0 : 0 ≤ ch) (h6 : ch < 6) :
    (askedOf names c ch).length ≤ 50 ∧ ((askedOf names c ch).length = (names.drop c.toNat).length ↔ askedOf names c ch = names.drop c.toNat) := by
  obtain ⟨n, rfl⟩ : ∃ n : Nat, c = n := ⟨c.toNat, by omega⟩
  obtain ⟨k, rfl⟩ : ∃ k : Nat, ch = k := ⟨ch.toNat, by omega⟩
  have hsh := W.shape (c := n) (ch := k) (by omega) (by omega)
  unfold okShape at hsh
  simp only [Bool.and_eq_true, decide_eq_true_eq] at hsh
  obtain ⟨⟨⟨⟨⟨e1, e2⟩, e3⟩, e4⟩, e5⟩, e6⟩ := hsh
  exact ⟨Nat.le_trans e4 (by decide), by simpa using e6⟩
/-- what is known of the law's frame and of the names that it looks up -/
structure LawEnv (prog : Program) (w : World) (A : Around) (env : Env) (h₀ : Heap) (L ct cx f : Addr) : Prop where
  lt : env.cells.lookup sThings = some ct
  lx : env.cells.lookup sX = some cx
  kt : env.kindOf sThings = some .cell
  kx : env.kindOf sX = some .cell
  k1 : env.kindOf sNames = some .local
  k2 : env.kindOf sCount = some .local
  k3 : env.kindOf sGiven = some .local
  k4 : env.kindOf sAsked = some .local
  k5 : env.kindOf sNamed = some .local
  k6 : env.kindOf sName = some .local
  k7 : env.kindOf sFits = some .local
  k8 : env.kindOf sTold = some .local
  k9 : env.kindOf sCalls = some .local
  hk : env.scope.kind = .function
  hL : env.locals = L
  hint : interactive env = false
  hh : A.handled = none
  hfr : A.frames = some [env]
  hf : env.frame = some L
  hroom : A.depth < recursionLimit
  hu : A.units < cLine
  hlim : h₀.NoLimit
  hpy : ∀ s' : Shared, (∃ m', Fr h₀ L s'.heap m') → PylongRoom (model prog w) A s'
  lenN : ∀ (p : Pos) (s' : Shared) (m' : Str → Option Value) (Q : Value → Shared → Prop) (E : Value → Shared → Prop), Fr h₀ L s'.heap m' → Q (.builtin "len") s' → wpAny (model prog w) A (eval (.Name sLen p) env) Q E s'
  sortN : ∀ (p : Pos) (s' : Shared) (m' : Str → Option Value) (Q : Value → Shared → Prop) (E : Value → Shared → Prop), Fr h₀ L s'.heap m' → Q (.builtin "sorted") s' → wpAny (model prog w) A (eval (.Name sSorted p) env) Q E s'
  rangeN : ∀ (p : Pos) (s' : Shared) (m' : Str → Option Value) (Q : Value → Shared → Prop) (E : Value → Shared → Prop), Fr h₀ L s'.heap m' → Q (.type "range") s' → wpAny (model prog w) A (eval (.Name sRange p) env) Q E s'
  lawN : ∀ (p : Pos) (s' : Shared) (m' : Str → Option Value) (Q : Value → Shared → Prop) (E : Value → Shared → Prop), Fr h₀ L s'.heap m' → Q (.ref f) s' → wpAny (model prog w) A (eval (.Name sLaw p) env) Q E s'
  typeN : ∀ (A' : Around) (p : Pos) (s' : Shared) (m' : Str → Option Value) (Q : Value → Shared → Prop) (E : Value → Shared → Prop), Fr h₀ L s'.heap m' → Q (.type "TypeError") s' → wpAny (model prog w) A' (eval (.Name sTypeError p) env) Q E s'
  fn : ∃ of fd, h₀.get? f = some of ∧ of.data = .func fd
  ask : ∀ (s' : Shared) (m' : Str → Option Value) (news : List (Addr × Obj)) (nl : Addr) (its : Array Value) (k : Nat) (names : List Str) (c ch : Int) (tc tch : Tok) (Q : Value → Shared → Prop) (E : Value → Shared → Prop),
    Fr h₀ L s'.heap m' → News h₀ L s'.heap news → (nl, listOf its k) ∈ news → StrsAre its.toList names → names.length ≤ 100 → 0 ≤ c →
    (∀ D h' tk vs n, Fr h₀ L h' m' → News h₀ L h' ((D, listOf (List.toArray vs) n) :: news) → (∀ p ∈ news, p.1 < D) → StrsAre vs (askedOf names c ch) → Q (.ref D) { s' with heap := h', toks := tk }) →
    wpAny (model prog w) A (call (.ref f) [.ref nl, .int c tc, .int ch tch]) Q E s'
/-- what the model asks of the statements' forms in this frame -/
structure LawSwaps (env : Env) (scope : Scope) (cl : List (Str × Addr)) (ct cx : Addr) (n1 n2 n3 n4 n5 n6 n7 n8 n9 n10 n11 n12 n13 n14 n15 n16 n17 n18 n19 n20 n21 n22 n23 n24 n25 g1 g2 g3 g4 g5 g6 g7 g8 g9 g10 g11 r1 r2 r3 a1 a2 a3 a4 a5 a6 a7 a8 a9 a10 a11 d1 d2 d3 l1 l2 l3 l4 l5 l6 l7 l8 l9 l10 l11 l12 l13 l14 l15 l16 l17 l18 f1 f2 f3 f4 f5 f6 f7 f8 f9 f10 f11 f12 f13 f14 f15 f16 f17 f18 t1 t2 t3 t4 t5 t6 t7 t8 t9 t10 t11 t12 u1 u2 u3 u4 u5 u6 u7 u8 o1 o2 o3 o4 o5 o6 o7 o8 o9 o10 o11 o12 o13 o14 o15 o16 o17 o18 : Pos) : Prop where
  hline : (n14.endLine == n16.line) = true
  s1 : swapsWith (.List [.Constant (.str sParser) 0 n2, .Constant (.str sSection) 0 n3, .Constant (.str sOption) 0 n4, .Constant (.str sValue) 0 n5] n6) (some (.Name sNames n1)) n7.line env = pure false
  s2 : swapsWith (.Call (.Attribute (.Name sNames n13) (Str.ofString "append") n14) [.Constant (.str sDefaults) 0 n15] [] n16) none n17.line env = pure false
  s3 : swapsWith (.BinOp (.BinOp (.Name sX n20) .FloorDiv (.Constant (.int 4) 0 n21) n22) .Mod (.Constant (.int 7) 0 n23) n24) (some (.Name sCount n19)) n25.line env = pure false
  base : attributeBase (.Name sNames n13) (Str.ofString "append") env (eval (.Name sNames n13) env) = eval (.Name sNames n13) env
  s4 : swapsWith (.ListComp (.Subscript (.Name sThings g2) (.BinOp (.BinOp (.Name sX g3) .Add (.Name sK g4) g5) .Mod (.Constant (.int 13) 0 g6) g7) g8) [⟨.Name sK g9, (.Call (.Name sRange r1) [.Name sCount r2] [] r3), [], 0⟩] scope g10) (some (.Name sGiven g1)) g11.line env = pure true
  lt : cl.lookup sThings = some ct
  lx : cl.lookup sX = some cx
  hk : ∀ C, (compEnvC scope cl C env).scope.kind = .function ∧ (compEnvC scope cl C env).kindOf sThings = some .cell ∧ (compEnvC scope cl C env).kindOf sX = some .cell ∧ (compEnvC scope cl C env).kindOf sK = some .local
  clos : closureFor scope env = pure cl
  cell : ∀ z ∈ scope.names, z.2 ≠ .cell
  kind : scope.kind = .function
  names : ∀ z ∈ scope.names, z.2 = .local → scope.names.lookup z.1 = some .local
  hx : scope.names.lookup sK = some .local
  fold4 : ∀ x, foldedSetIterable (.Call (.Name sRange r1) [.Name sCount r2] [] r3) env x = pure x
  s5 : swapsWith (.Call (.Name sLaw a2) [.Name sNames a3, .Name sCount a4, .BinOp (.BinOp (.Name sX a5) .FloorDiv (.Constant (.int 28) 0 a6) a7) .Mod (.Constant (.int 6) 0 a8) a9] [] a10) (some (.Name sAsked a1)) a11.line env = pure false
  s6 : swapsWith (.Dict [] [] d2) (some (.Name sNamed d1)) d3.line env = pure false
  s7 : swapsWith (.Subscript (.Name sThings l7) (.BinOp (.BinOp (.BinOp (.Name sX l8) .Add (.Name sCount l9) l10) .Add (.Call (.Name sLen l11) [.Name sNamed l12] [] l13) l14) .Mod (.Constant (.int 13) 0 l15) l16) l17) (some (.Subscript (.Name sNamed l4) (.Name sName l5) l6)) l18.line env = pure false
  fold7 : ∀ v, foldedSetIterable (.Name sAsked l2) env v = pure v
  s8 : swapsWith (.BoolOp .And [.Compare (.Name sCount f2) [.LtE] [.Call (.Name sLen f3) [.Name sNames f4] [] f5] f6, .Compare (.Call (.Name sSorted f7) [.Name sAsked f8] [] f9) [.Eq] [.Call (.Name sSorted f10) [.Subscript (.Name sNames f11) (.Slice (some (.Name sCount f12)) none none f13) f14] [] f15] f16] f17) (some (.Name sFits f1)) f18.line env = pure false
  s9 : swapsWith (.Call (.Subscript (.Name sCalls t2) (.BinOp (.Name sX t3) .Mod (.Constant (.int 4) 0 t4) t5) t6) [.Starred (.Name sGiven t7) t8] [⟨none, .Name sNamed t9, t10⟩] t11) (some (.Name sTold t1)) t12.line env = pure false
section
variable {prog : Program} {w : World} {A : Around} {s : Shared} {env : Env} {h₀ : Heap} {L : Addr} {m : Str → Option Value} {news : List (Addr × Obj)}
theorem turnAll {scope : Scope} {cl' : List (Str × Addr)} {ct cx f tl cl m0 m1 m2 m3 : Addr} {ot ox : Obj} {th : List Value} {nn kc : Nat} {xv : Int} {tx : Tok} {Q : Flow → Shared → Prop} {n1 n2 n3 n4 n5 n6 n7 n8 n9 n10 n11 n12 n13 n14 n15 n16 n17 n18 n19 n20 n21 n22 n23 n24 n25 g1 g2 g3 g4 g5 g6 g7 g8 g9 g10 g11 r1 r2 r3 a1 a2 a3 a4 a5 a6 a7 a8 a9 a10 a11 d1 d2 d3 l1 l2 l3 l4 l5 l6 l7 l8 l9 l10 l11 l12 l13 l14 l15 l16 l17 l18 f1 f2 f3 f4 f5 f6 f7 f8 f9 f10 f11 f12 f13 f14 f15 f16 f17 f18 t1 t2 t3 t4 t5 t6 t7 t8 t9 t10 t11 t12 u1 u2 u3 u4 u5 u6 u7 u8 o1 o2 o3 o4 o5 o6 o7 o8 o9 o10 o11 o12 o13 o14 o15 o16 o17 o18 : Pos}
    (LE : LawEnv prog w A env h₀ L ct cx f) (LS : LawSwaps env scope cl' ct cx n1 n2 n3 n4 n5 n6 n7 n8 n9 n10 n11 n12 n13 n14 n15 n16 n17 n18 n19 n20 n21 n22 n23 n24 n25 g1 g2 g3 g4 g5 g6 g7 g8 g9 g10 g11 r1 r2 r3 a1 a2 a3 a4 a5 a6 a7 a8 a9 a10 a11 d1 d2 d3 l1 l2 l3 l4 l5 l6 l7 l8 l9 l10 l11 l12 l13 l14 l15 l16 l17 l18 f1 f2 f3 f4 f5 f6 f7 f8 f9 f10 f11 f12 f13 f14 f15 f16 f17 f18 t1 t2 t3 t4 t5 t6 t7 t8 t9 t10 t11 t12 u1 u2 u3 u4 u5 u6 u7 u8 o1 o2 o3 o4 o5 o6 o7 o8 o9 o10 o11 o12 o13 o14 o15 o16 o17 o18)
    (F : Fr h₀ L s.heap m) (N : News h₀ L s.heap news) (hct : (ct, ot) ∈ news) (hot : ot.data = .cell (some (.ref tl))) (hcx : (cx, ox) ∈ news) (hox : ox.data = .cell (some (.int xv tx)))
    (htl : (tl, listOf th.toArray nn) ∈ news) (hlen : th.length = 13) (hok : ∀ v ∈ th, tokOk v) (hcl : (cl, listOf #[.ref m0, .ref m1, .ref m2, .ref m3] kc) ∈ news)
    (M0 : MethodAt h₀ news m0 N5) (M1 : MethodAt h₀ news m1 N4) (M2 : MethodAt h₀ news m2 N4) (M3 : MethodAt h₀ news m3 N4) (vc : m sCalls = some (.ref cl))
    (next : ∀ h' tk m', Fr h₀ L h' m' → News h₀ L h' news → m' sCalls = some (.ref cl) → Q .next { s with heap := h', toks := tk } ∧ Q .cont { s with heap := h', toks := tk }) :
    wpC (model prog w) A (execs [.Assign [.Name sNames n1] (.List [.Constant (.str sParser) 0 n2, .Constant (.str sSection) 0 n3, .Constant (.str sOption) 0 n4, .Constant (.str sValue) 0 n5] n6) n7,
      .If (.Compare (.BinOp (.Name sX n8) .Mod (.Constant (.int 4) 0 n9) n10) [.Eq] [.Constant (.int 0) 0 n11] n12) [.Expr (.Call (.Attribute (.Name sNames n13) (Str.ofString "append") n14) [.Constant (.str sDefaults) 0 n15] [] n16) n17] [] n18,
      .Assign [.Name sCount n19] (.BinOp (.BinOp (.Name sX n20) .FloorDiv (.Constant (.int 4) 0 n21) n22) .Mod (.Constant (.int 7) 0 n23) n24) n25,
      .Assign [.Name sGiven g1] (.ListComp (.Subscript (.Name sThings g2) (.BinOp (.BinOp (.Name sX g3) .Add (.Name sK g4) g5) .Mod (.Constant (.int 13) 0 g6) g7) g8) [⟨.Name sK g9, (.Call (.Name sRange r1) [.Name sCount r2] [] r3), [], 0⟩] scope g10) g11,
      .Assign [.Name sAsked a1] (.Call (.Name sLaw a2) [.Name sNames a3, .Name sCount a4, .BinOp (.BinOp (.Name sX a5) .FloorDiv (.Constant (.int 28) 0 a6) a7) .Mod (.Constant (.int 6) 0 a8) a9] [] a10) a11,
      .Assign [.Name sNamed d1] (.Dict [] [] d2) d3,
      .For (.Name sName l1) (.Name sAsked l2) [.Assign [(.Subscript (.Name sNamed l4) (.Name sName l5) l6)] (.Subscript (.Name sThings l7) (.BinOp (.BinOp (.BinOp (.Name sX l8) .Add (.Name sCount l9) l10) .Add (.Call (.Name sLen l11) [.Name sNamed l12] [] l13) l14) .Mod (.Constant (.int 13) 0 l15) l16) l17) l18] [] l3,
      .Assign [.Name sFits f1] (.BoolOp .And [.Compare (.Name sCount f2) [.LtE] [.Call (.Name sLen f3) [.Name sNames f4] [] f5] f6, .Compare (.Call (.Name sSorted f7) [.Name sAsked f8] [] f9) [.Eq] [.Call (.Name sSorted f10) [.Subscript (.Name sNames f11) (.Slice (some (.Name sCount f12)) none none f13) f14] [] f15] f16] f17) f18,
      .Try [.Assign [.Name sTold t1] (.Call (.Subscript (.Name sCalls t2) (.BinOp (.Name sX t3) .Mod (.Constant (.int 4) 0 t4) t5) t6) [.Starred (.Name sGiven t7) t8] [⟨none, .Name sNamed t9, t10⟩] t11) t12] [.ExceptHandler (some (.Name sTypeError u1)) none [.If (.Name sFits u2) [.Return (some (.Constant (.bool false) 0 u3)) u4] [] u5, .Continue u6] u7] [] [] u8,
      .If (.BoolOp .Or [.UnaryOp .Not (.Name sFits o1) o2, .Compare (.Name sTold o3) [.IsNot] [.IfExp (.Compare (.Name sCount o4) [.Gt] [.Constant (.int 3) 0 o5] o6) (.Subscript (.Name sGiven o7) (.Constant (.int 3) 0 o8) o9) (.Subscript (.Name sNamed o10) (.Constant (.str sValue) 0 o11) o12) o13] o14] o15) [.Return (some (.Constant (.bool false) 0 o17)) o18] [] o16] env) Q (fun _ _ => False) s := by
  refine namesTurn F N hcx hox LE.lx LE.kx LE.k1 LE.k2 LE.hk LE.hL LE.hint LE.hpy LS.hline LS.s1 LS.s2 LS.s3 LS.base fun nl its kn tc h₁ tk₁ F₁ N₁ ap₁ hS₁ => ?_
  have cb := bound7 (xv.fdiv 4)
  have hb := bound6 (xv.fdiv 28)
  refine wpC_execs_consA (given4 (s := { s with heap := h₁, toks := tk₁ }) (c := countOf xv) (tc := tc) F₁ N₁ rfl cb.1 cb.2 (.tail _ hct) hot (.tail _ hcx) hox (.tail _ htl) hlen
    (rangeMade F₁ N₁ rfl LE.k2 LE.hk LE.hL (LE.rangeN _)) (fun Dg h₂ tk₂ kg F₂ N₂ ap₂ => ?_) LE.hL LS.lt LS.lx LS.hk LE.hh LS.s4 LS.clos LS.cell LS.kind LS.names LS.hx LE.k3 (by rw [LE.hk]; rfl) LS.fold4)
  obtain ⟨of, fd, hfo, hfd⟩ := LE.fn
  have nb : (namesOf xv).length ≤ 50 := by unfold namesOf; split <;> decide
  refine wpC_execs_consA (askedMade (s := { s with heap := h₂, toks := tk₂ }) (names := namesOf xv) F₂ N₂ hfo hfd (.tail _ (.tail _ hcx)) hox rfl rfl LE.lx LE.kx LE.k1 LE.k2 LE.k4 LE.hk LE.hL LE.hpy (LE.lawN _)
    (fun s' tch Q' e hQ => LE.ask s' _ _ nl its kn (namesOf xv) _ _ tc tch Q' _ (by rw [e]; exact F₂) (by rw [e]; exact N₂) (.tail _ (.head _)) hS₁ (Nat.le_trans nb (by decide)) cb.1 hQ) LS.s5 fun Da h₃ tk₃ va ka F₃ N₃ lt₃ hS₃ => ?_)
  refine wpC_execs_consA (namedNew (s := { s with heap := h₃, toks := tk₃ }) F₃ N₃ LE.hlim LE.k5 LE.hk LE.hL LS.s6 fun d od h₄ tk₄ F₄ N₄ ap₄ hd₄ lo => ?_)
  have W : ∃ q normal, Which q normal (namesOf xv) := by
    unfold namesOf
    split
    · exact ⟨_, _, .get⟩
    · exact ⟨_, _, .set⟩
  obtain ⟨q, normal, W⟩ := W
  have hnd := asked_nodup W (c := countOf xv) (ch := changeOf xv) cb.1 cb.2 hb.1 hb.2
  refine wpC_execs_consA (namedLoop (s := { s with heap := h₄, toks := tk₄ }) (c := countOf xv) (tc := tc) F₄ N₄ (.head _) ap₄ hS₃ hnd.1 hnd.2 rfl hd₄ lo (.tail _ (.tail _ (.tail _ hct))) hot (.tail _ (.tail _ (.tail _ hcx))) hox (.tail _ (.tail _ (.tail _ htl))) hlen rfl rfl
    (LE.lenN _) LE.lt LE.lx LE.kt LE.kx LE.k5 LE.k6 LE.k2 LE.k4 LE.hk LE.hL LE.hh LS.s7 LS.fold7 fun h₅ tk₅ u o₅ F₅ N₅ hd₅ => ?_)
  have hone := asked_one W (c := countOf xv) (ch := changeOf xv) cb.1 cb.2 hb.1 hb.2
  refine wpC_execs_consA (fitsMade (s := { s with heap := h₅, toks := tk₅ }) (c := countOf xv) (tc := tc) F₅ N₅ (.tail _ (.tail _ (.tail _ (.head _)))) hS₁ (.tail _ (.head _)) hS₃ nb hone.1 cb.1 hone.2 rfl rfl rfl LE.k1 LE.k2 LE.k4 LE.k7 LE.hk LE.hL LE.hu (LE.lenN _) (fun s' m' Q E p => LE.sortN p s' m' Q E) LS.s8 fun h₆ tk₆ F₆ N₆ => ?_)
  have up : ∀ p ∈ news, p ∈ (d, o₅) :: (Da, listOf (List.toArray va) ka) :: (Dg, listOf (givenOf th xv (countOf xv)).toArray kg) :: (nl, listOf its kn) :: news := fun p hp => .tail _ (.tail _ (.tail _ (.tail _ hp)))
  have hM : ∃ q, #[Value.ref m0, .ref m1, .ref m2, .ref m3][(xv.fmod 4).toNat]? = some (.ref q) ∧ MethodAt h₀ news q (namesOf xv) := by
    have h4 := bound4 xv
    have : xv.fmod 4 = 0 ∨ xv.fmod 4 = 1 ∨ xv.fmod 4 = 2 ∨ xv.fmod 4 = 3 := by omega
    unfold namesOf
    rcases this with e | e | e | e <;> rw [e]
    · exact ⟨m0, rfl, M0⟩
    · exact ⟨m1, rfl, M1⟩
    · exact ⟨m2, rfl, M2⟩
    · exact ⟨m3, rfl, M3⟩
  obtain ⟨q, hq, hM⟩ := hM
  refine wpC_execs_cons (tryTurn (s := { s with heap := h₆, toks := tk₆ }) (c := countOf xv) (ch := changeOf xv) F₆ N₆ (hM.more up) (up _ hcl) hq (Nat.le_of_ble_eq_true rfl) (up _ hcx) hox (.tail _ (.tail _ (.head _))) (.head _) hd₅ lo cb.1 cb.2 hb.1 hb.2 LE.hlim rfl vc rfl rfl
    LE.lx LE.kx LE.k7 LE.k8 LE.k9 LE.k3 LE.k5 LE.hk LE.hL LE.hfr LE.hf LE.hroom LE.hh (fun A' s' m' Q E => LE.typeN A' _ s' m' Q E) LS.s9 (fun f1 f2 h₇ tk₇ F₇ N₇ => ?_) fun h₇ tk₇ F₇ N₇ => ?_)
  · have hN : namesOf xv = N4 ∨ namesOf xv = N5 := by
      unfold namesOf
      split
      · exact .inr rfl
      · exact .inl rfl
    rw [f2] at hd₅
    refine wpC_execs_consA (toldRight (s := { s with heap := h₇, toks := tk₇ }) (c := countOf xv) F₇ N₇ (.tail _ (.tail _ (.head _))) (.head _) hd₅ hN cb.1 cb.2 (pick_ok hlen hok _) (congrArg some (congrArg Value.bool (decide_eq_true ⟨f1, f2⟩))) rfl rfl rfl rfl LE.k7 LE.k8 LE.k2 LE.k3 LE.k5 LE.hk LE.hL fun tk₈ => ?_)
    exact wpC_any (wpAny_execs_nil (next h₇ _ _ F₇ (fun p hp => N₇ p (up p hp)) vc).1)
  · exact (next h₇ _ _ F₇ (fun p hp => N₇ p (up p hp)) vc).2
end
end Mine
end
section
open PySem PySem.W PyProof.Rows PySem.Spec
open Sem (wp)
set_option maxRecDepth 100000
namespace Mine
section
variable {prog : Program} {w : World} {A : Around} {s : Shared} {R : Result → Shared → Prop}
theorem codeC_func {body : List Stmt} {env : Env}
    (h : wpC (model prog w) (A.deeper env) (execs body env) (fun f s' => R (.ok (.ret (match f with | .ret v => v | _ => .none))) s')
      (fun e s' => wpAny (model prog w) (A.deeper env) (leaving env e) (fun _ s'' => R (.error e) s'') (fun e' s'' => R (.error e') s'') s') s) :
    codeC (model prog w) A (.func body env) R s := by
  refine codeC_of_tree ?_
  show wpC _ (A.deeper env) (do point; match ← (execs body env).onRaise (leaving env) with | .ret v => ret v | _ => ret .none) _ _ s
  refine wpC_bindA (wpAny_point (wpC_bind (wpC_onRaise (wpC_mono h (fun f s' h' => ?_) fun _ _ h' => h'))))
  cases f <;> exact wpC_pure h'
theorem codeC_call_function {a : Addr} {args : Args} {o : Obj} {fd : FuncData} {body : List Stmt} (hroom : A.depth < recursionLimit)
    (ho : s.heap.get? a = some o) (hd' : o.data = .func fd) (hco : fd.scope.isCoroutine = false) (hgen : fd.scope.isGenerator = false) (hbody : fd.body = .stmts body) (hcd : s.heap.CodeRec fd.code fd.qualname)
    (h : wpAny (model prog w) A.in1 (bindArgs fd args) (fun binds s₁ =>
      wpAny (model prog w) A.in1 (newFunctionEnv fd.scope fd.globals fd.closure binds (fd.qualname ++ ".<locals>.") (some a) fd.code none fd.builtins)
        (fun env s₂ => s₂.heap.NoLimit ∧ codeC (model prog w) A (.func body env) R s₂) (fun e s' => R (.error e) s') s₁) (fun e s' => R (.error e) s') s) :
    codeC (model prog w) A (.call (.ref a) args) R s := by
  refine codeC_of_tree ?_
  show wpC _ A.in1 (callAny (.ref a) args) _ _ s
  refine wpC_any ?_
  simp only [callAny]
  refine wpAny_bind (wpAny_load ho ?_)
  obtain ⟨c, oc, vs, tq, hc, hoc, hdc, hq⟩ := hcd
  simp only [hd', callFunction, hco, hgen, hbody, hc]
  rw [hc] at h
  refine wpAny_bind (m := field (.ref c) 1) (wpAny_field hoc hdc hq (wpAny_bind (wpAny_pure ?_)))
  exact wpAny_bind (wpAny_mono h (fun binds s₁ h₁ => wpAny_bind (wpAny_mono h₁ (fun env s₂ h₂ => wpAny_bind (wpAny_enterFrame h₂.1 hroom
    (wpAny_pure (And.intro rfl h₂.2)))) fun _ _ h' => h')) fun _ _ h' => h')
/-- the law's frame, with the caller kept -/
theorem cellsC {name : Str} {params : Arguments} {body : List Stmt} {scope : Scope} {pm cd doc : Value} {a : Addr} {o : Obj} {args : List Value} {binds : List (Str × Value)}
    (hroom : A.depth < recursionLimit) (ho : s.heap.get? a = some o) (hdata : o.data = .func (Calls.docDef name params body scope pm cd doc)) (hlim : s.heap.NoLimit) (hcd : s.heap.CodeRec cd name)
    (hbind : bindArgs (Calls.docDef name params body scope pm cd doc) ⟨args, []⟩ = pure binds)
    (hkind : ∀ x ∈ binds, scope.names.lookup x.1 = some .local ∨ (scope.names.lookup x.1 = some .cell ∧ ((cellsFrom (s.heap.objs.size + 1) scope.names []).lookup x.1).isSome = true))
    (hnd : ((cellsFrom 0 scope.names []).map (·.1)).Nodup)
    (h : ∀ h₁ tk cells, Fr s.heap s.heap.objs.size h₁ (bindL (envOfC name scope s.heap.objs.size a cd).kindOf binds fun _ => none) → News s.heap s.heap.objs.size h₁ cells →
      CellsAre (PySem.bindC (envOfC name scope s.heap.objs.size a cd).kindOf binds fun _ => none) (cellsFrom (s.heap.objs.size + 1) scope.names []) cells →
      wpC (model prog w) (A.deeper (envOfC name scope s.heap.objs.size a cd)) (execs body (envOfC name scope s.heap.objs.size a cd))
        (fun f s' => R (.ok (.ret (match f with | .ret v => v | _ => .none))) s')
        (fun e s' => wpAny (model prog w) (A.deeper (envOfC name scope s.heap.objs.size a cd)) (leaving (envOfC name scope s.heap.objs.size a cd) e)
          (fun _ s'' => R (.error e) s'') (fun e' s'' => R (.error e') s'') s')
        { s with heap := h₁, toks := tk })
    (hco : scope.isCoroutine = false := by rfl) (hgen : scope.isGenerator = false := by rfl) (hk : scope.kind = .function := by rfl) :
    codeC (model prog w) A (.call (.ref a) ⟨args, []⟩) R s := by
  refine codeC_call_function (fd := Calls.docDef name params body scope pm cd doc) hroom ho hdata hco hgen rfl hcd (wpAny_of_eq hbind ?_)
  refine wpAny_newFunctionEnv_cells hk hkind fun env' he s' x => ?_
  subst he
  refine ⟨hlim.keeps x.toInCall.keep, codeC_func ?_⟩
  obtain ⟨h₁, tk, rfl, _⟩ := x.done
  obtain ⟨cells, NC, Y⟩ := Cl.news (h₀ := s.heap) (Nat.le_refl _) fun n c hm => ⟨x.cell n c (lookup_of_mem_nodup (cellsFrom_names scope.names 0 (s.heap.objs.size + 1) [] [] rfl ▸ hnd) hm), x.above n c hm⟩
  exact h h₁ tk cells ⟨x.toInCall.ns, x.toInCall.keep, x.toInCall.fresh⟩ NC Y
theorem enterC {f : Value} {pos : List Value} {c : ClaimW} {cl : Str → Option Addr} {mean : ExcName → Option Value} {args : List WData} {s₁ : Shared}
    (h : codeC (model prog w) A (.call f ⟨pos, []⟩) (GoodW c cl mean args s₁) s) : wpC (model prog w) A (PySem.call f pos) (fun v s' => GoodWG c cl mean args s₁ (.ok (.ret v)) s') (fun e s' => GoodWG c cl mean args s₁ (.error e) s') s :=
  wpC_call (codeC_mono h fun res s' g => by
    have g := GoodW.toG g
    rcases g.1 with ⟨v, _, _, rfl, _⟩ | ⟨e, _, _, rfl, _⟩ <;> exact g)
end
end Mine
end
section
open PySem PySem.W PyProof.Rows PySem.Spec
set_option maxRecDepth 100000
namespace Mine
def sScript : Str := Str.ofString "script"
theorem ints_take : ∀ {vs : List Value} {ns : List Int} (n : Nat), IntsAre vs ns → IntsAre (vs.take n) (ns.take n)
  | _, _, 0, _ => .nil
  | _, _, _ + 1, .nil => .nil
  | _, _, n + 1, .cons y t h => .cons y t (ints_take n h)
theorem ints_append : ∀ {vs vs' : List Value} {ns ns' : List Int}, IntsAre vs ns → IntsAre vs' ns' → IntsAre (vs ++ vs') (ns ++ ns')
  | _, _, _, _, .nil, h => h
  | _, _, _, _, .cons y t h, h' => .cons y t (ints_append h h')
theorem slice_to63 (vs : List Value) : (slicePick vs.toArray none (some 63) none).toList = vs.take 63 := by
  rw [kms_pick_eq]
  simp [kms_pick, kms_lo, kms_hi]
theorem forHead {prog : Program} {w : World} {A : Around} {s : Shared} {env : Env} {h₀ : Heap} {L a : Addr} {m : Str → Option Value} {news : List (Addr × Obj)} {E : Value → Shared → Prop} {vs : List Value} {ns : List Int} {Q : Value → Shared → Prop} {p1 p2 p3 p4 p5 p6 p7 p8 p9 p10 p11 p12 : Pos}
    (F : Fr h₀ L s.heap m) (N : News h₀ L s.heap news) (ha : h₀.IsList a vs.toArray) (hI : IntsAre vs ns) (hn : ns.length ≤ 1000) (va : m sScript = some (.ref a)) (ka : env.kindOf sScript = some .local) (hk : env.scope.kind = .function) (hL : env.locals = L)
    (h : ∀ D h' tk ws, Fr h₀ L h' m → News h₀ L h' ((D, listOf (List.toArray ws) 0) :: news) → (∀ p ∈ news, p.1 < D) → IntsAre ws (ns.take 63 ++ [0, 20, 17, 2, 3, 27]) → Q (.ref D) { s with heap := h', toks := tk }) :
    wpAny (model prog w) A (eval (.BinOp (.Subscript (.Name sScript p1) (.Slice none (some (.Constant (.int 63) 0 p2)) none p3) p4) .Add
      (.List [.Constant (.int 0) 0 p5, .Constant (.int 20) 0 p6, .Constant (.int 17) 0 p7, .Constant (.int 2) 0 p8, .Constant (.int 3) 0 p9, .Constant (.int 27) 0 p10] p11) p12) env) Q E s := by
  subst hL
  have hlen := hI.length
  refine wpAny_BinOp (Subscript_ (wpAny_Name (wpAny_loadName_local hk ka F.ns va ?_) (by decide)))
  refine wpAny_Slice ?_
  rw [evalPart_some, evalPart_none]
  refine wpAny_pure (wpAny_Constant_int (wpAny_pure ?_))
  refine kmk_slice_lit (s := { s with toks := _ }) (its := vs.toArray) F N (F.lst ha) .none (.int 63 _) (slice_to63 vs) (fun D h₁ F₁ N₁ hD => ?_) (by with_unfolding_all rfl) (fun r => by with_unfolding_all rfl) (by rw [sizeLine_eq]; simp; omega)
  refine List_ (spliced_more (wpAny_Constant_int (spliced_more (wpAny_Constant_int (spliced_more (wpAny_Constant_int (spliced_more (wpAny_Constant_int (spliced_more (wpAny_Constant_int (spliced_more (wpAny_Constant_int (spliced_none ?_)))))))))))))
  refine newList_N (s := { s with heap := h₁, toks := _ }) F₁ N₁ (fun h₂ F₂ N₂ => ?_)
  refine kmk_add_lit (s := { s with heap := h₂, toks := _ }) (its := (vs.take 63).toArray) (its2 := #[_, _, _, _, _, _]) F₂ N₂ ⟨_, (N₂ _ (.tail _ (.head _))).1, rfl, 0, rfl⟩ ⟨_, (N₂ _ (.head _)).1, rfl, 0, rfl⟩ rfl (fun D' h₃ F₃ N₃ hD' => ?_) (by rw [sizeLine_eq]; simp; omega)
  refine h D' h₃ _ _ F₃ (fun p hp => N₃ p (by
    rcases List.mem_cons.mp hp with rfl | hp
    · exact .head _
    · exact .tail _ (.tail _ (.tail _ hp)))) (fun p hp => hD' p (.tail _ (.tail _ hp))) ?_
  exact ints_append (by simpa using ints_take 63 hI) (.cons _ _ (.cons _ _ (.cons _ _ (.cons _ _ (.cons _ _ (.cons _ _ .nil))))))
end Mine
end
section
open PySem PySem.W PyProof.Rows PySem.Spec
set_option maxRecDepth 100000
namespace Mine
theorem lawFor {prog : Program} {w : World} {A : Around} {s : Shared} {env : Env} {h₀ : Heap} {L : Addr} {m : Str → Option Value} {need : List (Addr × Obj)} {E : Value → Shared → Prop} {scope : Scope} {cl' : List (Str × Addr)} {ct cx f tl cl m0 m1 m2 m3 a : Addr} {ot ox : Obj} {th vs : List Value} {ns : List Int} {nn kc : Nat} {v₀ : Option Value}
    {Q : Flow → Shared → Prop} {z1 z2 y1 y2 y3 y4 y5 y6 y7 y8 y9 y10 y11 y12 n1 n2 n3 n4 n5 n6 n7 n8 n9 n10 n11 n12 n13 n14 n15 n16 n17 n18 n19 n20 n21 n22 n23 n24 n25 g1 g2 g3 g4 g5 g6 g7 g8 g9 g10 g11 r1 r2 r3 a1 a2 a3 a4 a5 a6 a7 a8 a9 a10 a11 d1 d2 d3 l1 l2 l3 l4 l5 l6 l7 l8 l9 l10 l11 l12 l13 l14 l15 l16 l17 l18 f1 f2 f3 f4 f5 f6 f7 f8 f9 f10 f11 f12 f13 f14 f15 f16 f17 f18 t1 t2 t3 t4 t5 t6 t7 t8 t9 t10 t11 t12 u1 u2 u3 u4 u5 u6 u7 u8 o1 o2 o3 o4 o5 o6 o7 o8 o9 o10 o11 o12 o13 o14 o15 o16 o17 o18 : Pos}
    (LE : LawEnv prog w A env h₀ L ct cx f) (LS : LawSwaps env scope cl' ct cx n1 n2 n3 n4 n5 n6 n7 n8 n9 n10 n11 n12 n13 n14 n15 n16 n17 n18 n19 n20 n21 n22 n23 n24 n25 g1 g2 g3 g4 g5 g6 g7 g8 g9 g10 g11 r1 r2 r3 a1 a2 a3 a4 a5 a6 a7 a8 a9 a10 a11 d1 d2 d3 l1 l2 l3 l4 l5 l6 l7 l8 l9 l10 l11 l12 l13 l14 l15 l16 l17 l18 f1 f2 f3 f4 f5 f6 f7 f8 f9 f10 f11 f12 f13 f14 f15 f16 f17 f18 t1 t2 t3 t4 t5 t6 t7 t8 t9 t10 t11 t12 u1 u2 u3 u4 u5 u6 u7 u8 o1 o2 o3 o4 o5 o6 o7 o8 o9 o10 o11 o12 o13 o14 o15 o16 o17 o18)
    (F : Fr h₀ L s.heap m) (N : News h₀ L s.heap ((cx, ox) :: need)) (hap : ∀ p ∈ need, p.1 ≠ cx) (hox : ox.data = .cell v₀) (hct : (ct, ot) ∈ need) (hot : ot.data = .cell (some (.ref tl)))
    (htl : (tl, listOf th.toArray nn) ∈ need) (hlen : th.length = 13) (hok : ∀ v ∈ th, tokOk v) (hcl : (cl, listOf #[.ref m0, .ref m1, .ref m2, .ref m3] kc) ∈ need)
    (M0 : MethodAt h₀ need m0 N5) (M1 : MethodAt h₀ need m1 N4) (M2 : MethodAt h₀ need m2 N4) (M3 : MethodAt h₀ need m3 N4) (vc : m sCalls = some (.ref cl))
    (ha : h₀.IsList a vs.toArray) (hI : IntsAre vs ns) (hn : ns.length ≤ 1000) (va : m sScript = some (.ref a)) (ka : env.kindOf sScript = some .local)
    (fold : ∀ x, foldedSetIterable (.BinOp (.Subscript (.Name sScript y1) (.Slice none (some (.Constant (.int 63) 0 y2)) none y3) y4) .Add (.List [.Constant (.int 0) 0 y5, .Constant (.int 20) 0 y6, .Constant (.int 17) 0 y7, .Constant (.int 2) 0 y8, .Constant (.int 3) 0 y9, .Constant (.int 27) 0 y10] y11) y12) env x = pure x)
    (done : ∀ h tk m₁ oc, Fr h₀ L h m₁ → News h₀ L h ((cx, oc) :: need) → Q .next { s with heap := h, toks := tk }) :
    wpC (model prog w) A (exec (.For (.Name sX z1) (.BinOp (.Subscript (.Name sScript y1) (.Slice none (some (.Constant (.int 63) 0 y2)) none y3) y4) .Add (.List [.Constant (.int 0) 0 y5, .Constant (.int 20) 0 y6, .Constant (.int 17) 0 y7, .Constant (.int 2) 0 y8, .Constant (.int 3) 0 y9, .Constant (.int 27) 0 y10] y11) y12) [.Assign [.Name sNames n1] (.List [.Constant (.str sParser) 0 n2, .Constant (.str sSection) 0 n3, .Constant (.str sOption) 0 n4, .Constant (.str sValue) 0 n5] n6) n7,
      .If (.Compare (.BinOp (.Name sX n8) .Mod (.Constant (.int 4) 0 n9) n10) [.Eq] [.Constant (.int 0) 0 n11] n12) [.Expr (.Call (.Attribute (.Name sNames n13) (Str.ofString "append") n14) [.Constant (.str sDefaults) 0 n15] [] n16) n17] [] n18,
      .Assign [.Name sCount n19] (.BinOp (.BinOp (.Name sX n20) .FloorDiv (.Constant (.int 4) 0 n21) n22) .Mod (.Constant (.int 7) 0 n23) n24) n25,
      .Assign [.Name sGiven g1] (.ListComp (.Subscript (.Name sThings g2) (.BinOp (.BinOp (.Name sX g3) .Add (.Name sK g4) g5) .Mod (.Constant (.int 13) 0 g6) g7) g8) [⟨.Name sK g9, (.Call (.Name sRange r1) [.Name sCount r2] [] r3), [], 0⟩] scope g10) g11,
      .Assign [.Name sAsked a1] (.Call (.Name sLaw a2) [.Name sNames a3, .Name sCount a4, .BinOp (.BinOp (.Name sX a5) .FloorDiv (.Constant (.int 28) 0 a6) a7) .Mod (.Constant (.int 6) 0 a8) a9] [] a10) a11,
      .Assign [.Name sNamed d1] (.Dict [] [] d2) d3,
      .For (.Name sName l1) (.Name sAsked l2) [.Assign [(.Subscript (.Name sNamed l4) (.Name sName l5) l6)] (.Subscript (.Name sThings l7) (.BinOp (.BinOp (.BinOp (.Name sX l8) .Add (.Name sCount l9) l10) .Add (.Call (.Name sLen l11) [.Name sNamed l12] [] l13) l14) .Mod (.Constant (.int 13) 0 l15) l16) l17) l18] [] l3,
      .Assign [.Name sFits f1] (.BoolOp .And [.Compare (.Name sCount f2) [.LtE] [.Call (.Name sLen f3) [.Name sNames f4] [] f5] f6, .Compare (.Call (.Name sSorted f7) [.Name sAsked f8] [] f9) [.Eq] [.Call (.Name sSorted f10) [.Subscript (.Name sNames f11) (.Slice (some (.Name sCount f12)) none none f13) f14] [] f15] f16] f17) f18,
      .Try [.Assign [.Name sTold t1] (.Call (.Subscript (.Name sCalls t2) (.BinOp (.Name sX t3) .Mod (.Constant (.int 4) 0 t4) t5) t6) [.Starred (.Name sGiven t7) t8] [⟨none, .Name sNamed t9, t10⟩] t11) t12] [.ExceptHandler (some (.Name sTypeError u1)) none [.If (.Name sFits u2) [.Return (some (.Constant (.bool false) 0 u3)) u4] [] u5, .Continue u6] u7] [] [] u8,
      .If (.BoolOp .Or [.UnaryOp .Not (.Name sFits o1) o2, .Compare (.Name sTold o3) [.IsNot] [.IfExp (.Compare (.Name sCount o4) [.Gt] [.Constant (.int 3) 0 o5] o6) (.Subscript (.Name sGiven o7) (.Constant (.int 3) 0 o8) o9) (.Subscript (.Name sNamed o10) (.Constant (.str sValue) 0 o11) o12) o13] o14] o15) [.Return (some (.Constant (.bool false) 0 o17)) o18] [] o16] [] z2) env) Q E s := by
  refine wpC_For (forHead F N ha hI hn va ka LE.hk LE.hL fun D h₁ tk₁ ws F₁ N₁ hD hW => ?_) fold
  have N₂ : News h₀ L h₁ ((cx, ox) :: (D, listOf (List.toArray ws) 0) :: need) := fun p hp => N₁ p (by
    rcases List.mem_cons.mp hp with rfl | hp
    · exact .tail _ (.head _)
    · rcases List.mem_cons.mp hp with rfl | hp
      · exact .head _
      · exact .tail _ (.tail _ hp))
  refine loopCC (s := { s with heap := h₁, toks := tk₁ }) (fun m => m sCalls = some (.ref cl)) LE.hh LE.kx LE.hk LE.lx LE.hL F₁ N₂ (.head _) (fun p hp => ?_) hox vc (fun v h tk m₁ oc I oI hv hJ hoc hI' hIc F₃ N₃ => ?_) (fun h tk m₁ oc hJ hoc F₃ N₃ => ?_)
  · rcases List.mem_cons.mp hp with rfl | hp
    · exact Nat.ne_of_gt (hD (cx, ox) (.head _))
    · exact hap p hp
  · obtain ⟨i, hi⟩ := List.mem_iff_getElem?.mp hv
    have hlt : i < (ns.take 63 ++ [0, 20, 17, 2, 3, 27]).length := by
      rw [← hW.length]
      exact (List.getElem?_eq_some_iff.mp hi).1
    obtain ⟨t, ht⟩ := hW.get i _ (List.getElem?_eq_getElem hlt)
    rw [hi] at ht
    cases ht
    have up : ∀ p ∈ need, p ∈ (cx, oc) :: (I, oI) :: (D, listOf (List.toArray ws) 0) :: need := fun p hp => .tail _ (.tail _ (.tail _ hp))
    refine turnAll (s := { s with heap := h, toks := tk }) LE LS F₃ N₃ (up _ hct) hot (.head _) hoc (up _ htl) hlen hok (up _ hcl) (M0.more up) (M1.more up) (M2.more up) (M3.more up) hJ fun h' tk' m' F' N' hJ' => ?_
    exact ⟨⟨h', tk', m', oc, rfl, F', N', ⟨_, hoc⟩, hJ'⟩, ⟨h', tk', m', oc, rfl, F', N', ⟨_, hoc⟩, hJ'⟩⟩
  · refine done h tk m₁ oc F₃ fun p hp => N₃ p ?_
    rcases List.mem_cons.mp hp with rfl | hp
    · exact .head _
    · exact .tail _ (.tail _ hp)
end Mine
end
section
open PySem PySem.W PyProof.Rows PySem.Spec
set_option maxRecDepth 100000
namespace Mine
/-- the kinds of the law's names -/
structure LawKinds (scope : Scope) : Prop where
  hk : scope.kind = .function
  kt : scope.names.lookup sThings = some .cell
  kx : scope.names.lookup sX = some .cell
  k1 : scope.names.lookup sNames = some .local
  k2 : scope.names.lookup sCount = some .local
  k3 : scope.names.lookup sGiven = some .local
  k4 : scope.names.lookup sAsked = some .local
  k5 : scope.names.lookup sNamed = some .local
  k6 : scope.names.lookup sName = some .local
  k7 : scope.names.lookup sFits = some .local
  k8 : scope.names.lookup sTold = some .local
  k9 : scope.names.lookup sCalls = some .local
  g1 : scope.names.lookup sLen = some .globalImplicit
  g2 : scope.names.lookup sSorted = some .globalImplicit
  g3 : scope.names.lookup sRange = some .globalImplicit
  g4 : scope.names.lookup sLaw = some .globalImplicit
  g5 : scope.names.lookup sTypeError = some .globalImplicit
theorem lawEnv {prog : Program} {w : World} {K : Frag} {h₀ : Heap} {L fa ct cx f : Addr} {cdv : Value} {qn : Str} {scope : Scope} {p : Program} {loose : List Str} {mean : ExcName → Option Value} {mg mb : Str → Option Value}
    {name qual : Str} {params : Arguments} {sc : Scope} {dV kV doc pm cda ctv oc : Value} {an od : Option Addr} {osl : Array (Option Value)} {q1 q2 q3 q4 q5 q6 q7 q8 q9 q10 q11 q12 q13 q14 q15 q16 q17 q18 q19 q20 q21 q22 q23 q24 q25 q26 q27 q28 q29 q30 q31 q32 q33 q34 q35 q36 q37 q38 q39 q40 q41 q42 q43 q44 q45 q46 q47 q48 q49 q50 q51 q52 q53 : Pos}
    (X : K.In h₀) (T : Top p loose mean mg mb h₀) (LK : LawKinds scope) (e1 : nsIn K mainGlobals sLen = some none) (e2 : nsIn K mainGlobals sSorted = some none) (e3 : nsIn K mainGlobals sRange = some none) (e4 : nsIn K mainGlobals sTypeError = some none) (e5 : nsIn K mainGlobals sLaw = some (some (.ref f)))
    (lt : (envOfC qn scope L fa cdv).cells.lookup sThings = some ct) (lx : (envOfC qn scope L fa cdv).cells.lookup sX = some cx)
    (ho : K.lookup f = some ⟨oc, od, .func (fnOf name qual params (askedBody q1 q2 q3 q4 q5 q6 q7 q8 q9 q10 q11 q12 q13 q14 q15 q16 q17 q18 q19 q20 q21 q22 q23 q24 q25 q26 q27 q28 q29 q30 q31 q32 q33 q34 q35 q36 q37 q38 q39 q40 q41 q42 q43 q44 q45 q46 q47 q48 q49 q50 q51 q52 q53) sc dV kV doc pm an cda ctv), osl⟩) (hcd : codeIn K cda qual = true)
    (hbind : ∀ (s : Shared) (nl : Addr) (c ch : Int) (tc tch : Tok), BindsTo s (fnOf name qual params (askedBody q1 q2 q3 q4 q5 q6 q7 q8 q9 q10 q11 q12 q13 q14 q15 q16 q17 q18 q19 q20 q21 q22 q23 q24 q25 q26 q27 q28 q29 q30 q31 q32 q33 q34 q35 q36 q37 q38 q39 q40 q41 q42 q43 q44 q45 q46 q47 q48 q49 q50 q51 q52 q53) sc dV kV doc pm an cda ctv) ⟨[.ref nl, .int c tc, .int ch tch], []⟩ [(sNames, .ref nl), (sCount, .int c tc), (sChange, .int ch tch)])
    (hk1 : sc.names.lookup sNames = some .local) (hk2 : sc.names.lookup sCount = some .local) (hk3 : sc.names.lookup sChange = some .local) (hk4 : sc.names.lookup sAsked = some .local)
    (hco : sc.isCoroutine = false) (hgen : sc.isGenerator = false) (hk : sc.kind = .function) (hcell : ∀ x ∈ sc.names, x.2 ≠ .cell)
    (hint : interactive (envOfC qn scope L fa cdv) = false)
    (hpy : ∀ s' : Shared, (∃ m', Fr h₀ L s'.heap m') → PylongRoom (model prog w) (callerA.deeper (envOfC qn scope L fa cdv)) s') :
    LawEnv prog w (callerA.deeper (envOfC qn scope L fa cdv)) (envOfC qn scope L fa cdv) h₀ L ct cx f where
  lt := lt
  lx := lx
  kt := LK.kt
  kx := LK.kx
  k1 := LK.k1
  k2 := LK.k2
  k3 := LK.k3
  k4 := LK.k4
  k5 := LK.k5
  k6 := LK.k6
  k7 := LK.k7
  k8 := LK.k8
  k9 := LK.k9
  hk := LK.hk
  hL := rfl
  hint := hint
  hh := rfl
  hfr := rfl
  hf := rfl
  hroom := (by decide : callerA.depth + 1 < recursionLimit)
  hu := (by decide : callerA.units + 3 < cLine)
  hlim := T.nolimit
  hpy := hpy
  lenN := fun p s' m' Q E F h => nameX_B F X (topRead_of T) e1 (v := .builtin "len") Boot.len (by decide) h LK.hk LK.g1 (by decide)
  sortN := fun p s' m' Q E F h => nameX_B F X (topRead_of T) e2 (v := .builtin "sorted") Boot.sorted (by decide) h LK.hk LK.g2 (by decide)
  rangeN := fun p s' m' Q E F h => nameX_B F X (topRead_of T) e3 (v := .type "range") Boot.range (by decide) h LK.hk LK.g3 (by decide)
  lawN := fun p s' m' Q E F h => nameX_K F X (topRead_of T) e5 h LK.hk LK.g4 (by decide)
  typeN := fun A' p s' m' Q E F h => nameX_B F X (topRead_of T) e4 (v := .type "TypeError") Boot.TypeError (by decide) h LK.hk LK.g5 (by decide)
  fn := ⟨_, _, X _ _ ho, rfl⟩
  ask := fun s' m' news nl its k names c ch tc tch Q E F N hn hS hb c0 h =>
    askedCall (below_caller h₀) F X N T rfl rfl LK.hk ho hcd (by decide : callerA.depth + 1 < recursionLimit) (hbind _ _ _ _ _ _) hk1 hk2 hk3 hk4 hco hgen hk hcell hn hS hb c0 h
end Mine
end
section
open PySem PySem.W PyProof.Rows PySem.Spec
set_option maxRecDepth 100000
namespace Mine
theorem pull {h₀ h : Heap} {L : Addr} {l : List (Addr × Obj)} {c : Addr} {o : Obj} (N : News h₀ L h l) (i : Nat) (e : l[i]? = some (c, o)) : News h₀ L h ((c, o) :: l.eraseIdx i) := fun p hp => N p (by
  rcases List.mem_cons.mp hp with rfl | hp
  · exact List.mem_of_getElem? e
  · exact List.mem_of_mem_eraseIdx hp)
theorem ap_cons {c a : Addr} {o : Obj} {l : List (Addr × Obj)} (h : a ≠ c) (hl : ∀ p ∈ l, p.1 ≠ c) : ∀ p ∈ (a, o) :: l, p.1 ≠ c := fun p hp => by
  rcases List.mem_cons.mp hp with rfl | hp
  · exact h
  · exact hl p hp
theorem ap_nil {c : Addr} : ∀ p ∈ ([] : List (Addr × Obj)), p.1 ≠ c := fun p hp => by cases hp
theorem ok_cons {v : Value} {l : List Value} (h : tokOk v) (hl : ∀ v ∈ l, tokOk v) : ∀ x ∈ v :: l, tokOk x := fun p hp => by
  rcases List.mem_cons.mp hp with rfl | hp
  · exact h
  · exact hl p hp
theorem ok_nil : ∀ x ∈ ([] : List Value), tokOk x := fun p hp => by cases hp
theorem methodAt {K : Frag} {h₀ : Heap} {need : List (Addr × Obj)} {q f : Addr} {self : Value} {oc : Value} {od : Option Addr} {fd : FuncData} {osl : Array (Option Value)} {normal names : List Str} {qn : Str} {p1 p2 : Pos}
    (X : K.In h₀) (hq : (q, methodObj (.ref f) self) ∈ need) (ho : K.lookup f = some ⟨oc, od, .func fd, osl⟩) (W : Which qn normal names) (hqn : fd.qualname = qn) (ha : fd.params.args.map (·.arg) = normal)
    (hp : fd.params.posonlyargs = [] ∧ fd.params.kwonlyargs = [] ∧ fd.params.vararg = none ∧ fd.params.kwarg = none) (hd : fd.defaults = .none) (hcd : codeIn K fd.code fd.qualname = true)
    (hb : fd.body = .stmts [.Return (some (.Name (Str.ofString "value") p1)) p2]) (hc : ∀ x ∈ fd.scope.names, x.2 ≠ .cell) (hl : ∀ x ∈ normal, fd.scope.names.lookup x = some .local)
    (h1 : fd.scope.isCoroutine = false) (h2 : fd.scope.isGenerator = false) (h3 : fd.scope.kind = .function) : MethodAt h₀ need q names :=
  ⟨f, self, _, fd, normal, p1, p2, hq, X _ _ ho, rfl, hqn ▸ W, ha, hp, hd, codeRec_of X hcd, hb, hc, hl, h1, h2, h3⟩
end Mine
end
section
open PySem PySem.W PyProof.Rows PySem.Spec PySem.SeqAt
open AutoSeq1 (wpAny_loadPart')
open MeetsSeq MeetsSeq2 MeetsSeq3 SeqRoads2
set_option maxRecDepth 100000
namespace Mine
section
variable {prog : Program} {w : World} {A : Around} {s : Shared}
/-- two values are equal, here -/
def SameHere (prog : Program) (w : World) (A : Around) (s : Shared) (x y : Value) : Prop := ∀ (E : Value → Shared → Prop) (Q : Bool → Shared → Prop), Q true s → wpAny (model prog w) A (eqBool x y) Q E s
theorem SameHere.of {x y : Value} (h : EqAt A s x y true) : SameHere prog w A s x y := fun E Q q => h prog w E Q q
theorem SameHere.refs {a b : Addr} (hne : a ≠ b) (h : ∀ (E : Value → Shared → Prop) (Q : Value → Shared → Prop), Q (.bool true) s → wpAny (model prog w) A (compareOp .Eq (.ref a) (.ref b)) Q E s) : SameHere prog w A s (.ref a) (.ref b) := fun E Q q => by
  unfold eqBool
  refine wpAny_holding (wpAny_ite_split (fun hab => absurd (by have := eq_of_beq hab; injection this) hne) (fun _ => ?_))
  exact wpAny_bind (h E _ (wpAny_truthy_bool q))
theorem eqLoop {l b : Addr} {o o2 : Obj} {xs ys : Array Value} {n n2 : Nat} {R : Result → Shared → Prop} (hl : s.heap.get? l = some o) (hd : o.data = .seq xs n) (hb : s.heap.get? b = some o2) (hd2 : o2.data = .seq ys n2) (hsz : xs.size = ys.size)
    (he : ∀ (j : Nat) (x y : Value), xs[j]? = some x → ys[j]? = some y → SameHere prog w A.in1 s x y) (h : R (.ok (.ret (.bool true))) s) :
    ∀ k i : Nat, xs.size - i = k → i ≤ xs.size → wpAny (model prog w) A.in1 (Builtin.«list.__eq__.loop» ⟨[.ref l, .ref b, rawInt i, rawInt 2], []⟩)
      (fun fin s' => match fin with | .done f => R (.ok f) s' | .again c' => c'.quiet = true ∧ codeAny (model prog w) A c' R s') (fun e s' => R (.error e) s') s := by
  obtain ⟨c, dd, dt, sl⟩ := o
  obtain ⟨c2, dd2, dt2, sl2⟩ := o2
  subst hd hd2
  intro k
  induction k with
  | zero =>
    intro i hk hi
    obtain ⟨hp, g, d, tk, os⟩ := s
    wp_walk using wpAny_loadPart' hl, wpAny_loadPart' hb
    have h1 : xs[((i : Nat) : Int).toNat]? = none := by simp; omega
    have h2 : ys[((i : Nat) : Int).toNat]? = none := by simp; omega
    rw [h1, h2]
    wp_walk using wpAny_loadPart' hl, wpAny_loadPart' hb
    show R (.ok (.ret (.bool (xs.size == ys.size)))) _
    rw [hsz, beq_self_eq_true]
    exact h
  | succ k ih =>
    intro i hk hi
    have h1 : xs[((i : Nat) : Int).toNat]? = some (xs[i]'(by omega)) := by simp
    have h2 : ys[((i : Nat) : Int).toNat]? = some (ys[i]'(by omega)) := by simp
    have step := ih (i + 1) (by omega) (by omega)
    have hc : ((i : Int) + 1) = ((i + 1 : Nat) : Int) := by push_cast; rfl
    have heq := he _ _ _ h1 h2
    obtain ⟨hp, g, d, tk, os⟩ := s
    wp_walk using wpAny_loadPart' hl, wpAny_loadPart' hb
    rw [h1, h2]
    refine wpAny_bind (heq _ _ ?_)
    wp_walk
    rw [hc]
    exact ⟨plainId_quiet plain_eq_loop _, codeAny_builtin entry_eq_loop (by
      rw [Around.under_plainId plain_eq_loop _]
      exact step)⟩
theorem eqLists {l b : Addr} {xs ys : Array Value} {E : Value → Shared → Prop} {Q : Value → Shared → Prop} (hl : s.heap.IsList l xs) (hb : s.heap.IsList b ys) (hsz : xs.size = ys.size) (hu : A.units < cLine)
    (he : ∀ (j : Nat) (x y : Value), xs[j]? = some x → ys[j]? = some y → SameHere prog w A.in1 s x y) (h : Q (.bool true) s) : wpAny (model prog w) A (compareOp .Eq (.ref l) (.ref b)) Q E s := by
  obtain ⟨⟨c, dd, dt, sl⟩, ho, hc, n, hd⟩ := id hl
  obtain ⟨⟨c2, dd2, dt2, sl2⟩, ho2, hc2, n2, hd2⟩ := id hb
  simp only at hc hd hc2 hd2
  subst hc hd hc2 hd2
  refine wpAny_richCompare_same_room (op := .Eq) ⟨_, ho, rfl⟩ ⟨_, ho2, rfl⟩ F.slot_list_eq (wpAny_call (codeAny_call_builtin F.slot_list_eq.plain F.entry_list_eq (F.slot_list_eq.check _ _ _ _ _ _ _ _ ⟨_, ho, rfl⟩ (F.args_list_eq_2 _ _) ?_))) hu
  have loop := eqLoop (prog := prog) (w := w) (R := fun r s' => match r with | .ok (.ret v) => v ≠ .notImplemented ∧ Q v s' | .ok _ => False | .error e => E e s') ho rfl ho2 rfl hsz he ⟨(fun x => nomatch x), h⟩ _ 0 rfl (Nat.zero_le _)
  have f3 := AutoSeq1.sub_list_list
  have hne : ¬ (xs.size != ys.size) = true := by simp [hsz]
  obtain ⟨hp, g, d, tk, os⟩ := s
  wp_walk using wpAny_loadPart' ho, wpAny_loadPart' ho2
  exact ⟨plainId_quiet plain_eq_loop _, codeAny_builtin entry_eq_loop (by
    rw [Around.under_plainId plain_eq_loop _]
    exact loop)⟩
end
end Mine
end
section
open PySem PySem.W PyProof.Rows PySem.Spec PySem.SeqAt
set_option maxRecDepth 100000
namespace Mine
section
variable {prog : Program} {w : World} {A : Around} {s : Shared} {h₀ : Heap} {L : Addr} {news : List (Addr × Obj)} {E : Value → Shared → Prop} {Q : Value → Shared → Prop}
theorem endEq {a b i1 i2 d1 d2 : Addr} {o1 o2 : Obj} {n1 n2 n3 n4 : Nat} {t1 t2 t3 t4 : Tok} {x : Int} {k v : Str} (N : News h₀ L s.heap news) (ha : (a, listOf #[.ref i1, .ref d1] n1) ∈ news) (hb : (b, listOf #[.ref i2, .ref d2] n2) ∈ news)
    (hi1 : (i1, listOf #[.int x t1] n3) ∈ news) (hi2 : (i2, listOf #[.int x t2] n4) ∈ news) (hd1 : (d1, o1) ∈ news) (hd2 : (d2, o2) ∈ news)
    (D1 : o1.IsDictOf (PySem.strKind prog w) [(k, .str v t3)]) (D2 : o2.IsDictOf (PySem.strKind prog w) [(k, .str v t4)]) (lo1 : (d1 == sysModules) = false) (lo2 : (d2 == sysModules) = false)
    (ne1 : i1 ≠ i2) (ne2 : d1 ≠ d2) (hu : A.units + 100 < cLine) (h : Q (.bool true) s) : wpAny (model prog w) A (compareOp .Eq (.ref a) (.ref b)) Q E s := by
  have la : s.heap.IsList a #[.ref i1, .ref d1] := ⟨_, (N _ ha).1, rfl, n1, rfl⟩
  have lb : s.heap.IsList b #[.ref i2, .ref d2] := ⟨_, (N _ hb).1, rfl, n2, rfl⟩
  have l1 : s.heap.IsList i1 [Value.int x t1].toArray := ⟨_, (N _ hi1).1, rfl, n3, rfl⟩
  have l2 : s.heap.IsList i2 [Value.int x t2].toArray := ⟨_, (N _ hi2).1, rfl, n4, rfl⟩
  have e1 : s.heap.DictOf (PySem.strKind prog w) d1 [(k, .str v t3)] := Heap.dictOf_iff.mpr ⟨_, (N _ hd1).1, D1⟩
  have e2 : s.heap.DictOf (PySem.strKind prog w) d2 [(k, .str v t4)] := Heap.dictOf_iff.mpr ⟨_, (N _ hd2).1, D2⟩
  have hu1 : A.in1.units + 64 < cLine := by show A.units + 1 + 64 < cLine; omega
  refine eqLists la lb rfl (by omega) (fun j p q hp hq => ?_) h
  match j with
  | 0 =>
    obtain rfl : Value.ref i1 = p := Option.some.inj hp
    obtain rfl : Value.ref i2 = q := Option.some.inj hq
    refine .of ?_
    have := keq_ints (A := A) (s := s) l1 (.cons _ _ .nil) l2 (.cons _ _ .nil) hu1
    rwa [decide_eq_true rfl] at this
  | 1 =>
    obtain rfl : Value.ref d1 = p := Option.some.inj hp
    obtain rfl : Value.ref d2 = q := Option.some.inj hq
    refine .refs ne2 fun E Q q => ?_
    refine keq_eq (r := true) lo1 lo2 e1 e2 (by omega) (fun _ => ?_) q
    have := @KeqHits.hit Str _ A.in1.in1 s [(k, .str v t4)] k (.str v t3) (.str v t4) [] (v == v) true (by simp [valueAt]) (EqAt.str_str _ _ _ _) .nil
    rwa [beq_self_eq_true] at this
  | j + 2 => cases hp
end
end Mine
end
section
open PySem PySem.W PyProof.Rows PySem.Spec PySem.Calls
set_option maxRecDepth 100000
namespace Mine
section
variable {prog : Program} {w : World} {A : Around} {R : Result → Shared → Prop} {h : Heap} {g : Array GenState} {d : Drawn} {t : Nat} {os : OsState}
variable {nm q : Str} {C N : Addr} {bs bm : List Value} {hdct : Bool} {sn : List Str} {sub : List Value} {ab : Bool} {col : Option Bool} {dd : Option Addr} {k0 k1 k2 k3 k5 : Option Value} {B newId initId : String}
abbrev excObj (C t : Addr) : Obj := { cls := .ref C, data := .fields #[.ref t, .none, .none, .none, .bool false, .none] }
abbrev tupObj (vs : List Value) : Obj := { cls := .type "tuple", data := .seq vs.toArray }
theorem excTypeCall (FB : ExcBaseFacts B newId initId bm) {mN : Str → Option Value} {rest : List Value} {f : Addr} {of : Obj} {Q : Fin → Shared → Prop} {E : Value → Shared → Prop}
    (hC : h.get? C = some (excClassObj nm q C N bs bm hdct sn sub ab col dd k0 k1 k2 k3 k5 newId)) (hn : h.Ns N mN) (hni : mN "__init__" = some (.ref f)) (hf : h.get? f = some of) (hc : of.cls = .type "function")
    (hq : codeAny (model prog w) A (.call (.ref f) ⟨.ref (h.objs.size + 1) :: rest, []⟩) (InitBack (h.objs.size + 1) (fun r s' => match r with | .ok v => Q (.done v) s' | .error e => E e s')) ⟨(h.push (tupObj rest)).push (excObj C h.objs.size), g, d, t, os⟩)
    (hrest : rest.length ≤ sizeLine) :
    wpAny (model prog w) A (Builtin.«type.__call__» ⟨.ref C :: rest, []⟩) Q E ⟨h, g, d, t, os⟩ := by
  repeat (first | with_reducible refine wpAny_loadPart_at hC ?_ | with_reducible refine wpAny_madeBy_exc hC ?_ | wp_step)
  refine codeAny_call_builtin_code (Code.quiet_builtin _ FB.quiet) (wpAny_check_new_sub FB hC ?_)
  refine codeAny_exc_new_sub FB hC ?_ hrest
  show wpAny _ _ _ _ _ _
  have hC₁ := Heap.get?_push_of_some (excObj C h.objs.size) (Heap.get?_push_of_some (tupObj rest) hC)
  have hn₁ : ((h.push (tupObj rest)).push (excObj C h.objs.size)).Ns N mN :=
    let ⟨o, es, ep, e, r⟩ := hn; ⟨o, es, ep, Heap.get?_push_of_some _ (Heap.get?_push_of_some _ e), r⟩
  have hget : ((h.push (tupObj rest)).push (excObj C h.objs.size)).get? (h.objs.size + 1) = some { cls := .ref C, data := .fields #[.ref h.objs.size, .none, .none, .none, .bool false, .none] } := by heap_get
  have hf₁ : ((h.push (tupObj rest)).push (excObj C h.objs.size)).get? f = some of := Heap.get?_push_of_some _ (Heap.get?_push_of_some _ hf)
  have hcC : (Value.ref C :: bm).contains (.ref C) = true := by simp
  unfold isInstance
  repeat (first | with_reducible refine wpAny_loadPart_at hget ?_ | (with_reducible refine wpAny_isSubtype_exc hC₁ ?_; rw [hcC]) | wp_step)
  show wpAny _ _ (typeLookup (.ref C) _) _ _ _
  refine wpAny_typeLookup_exc hC₁ hn₁ FB.mroIs FB.init.lookup ?_
  rw [hni]
  refine wpAny_holding (wpAny_bind ?_)
  have hb : Looks (model prog w) ((h.push (tupObj rest)).push (excObj C h.objs.size)) (bindSpecial (.ref f) (.ref (h.objs.size + 1))) (.ref f, [.ref (h.objs.size + 1)]) := by
    have t1 : Looks (model prog w) ((h.push (tupObj rest)).push (excObj C h.objs.size)) (typeOf (.ref f)) (.type "function") := by rw [← hc]; exact (Looks.ld hf₁).andThen .now
    unfold bindSpecial
    exact t1.andThen (Looks.of_pure (by kernel_rfl))
  refine hb.here ?_
  refine wpAny_bind (wpAny_call (codeAny_mono hq fun r s' z => ?_))
  rcases r with e | (v | _ | _ | _) <;> first | exact z | exact z.elim | skip
  obtain ⟨rfl, z⟩ := z
  exact wpAny_pure (wpAny_pure z)
theorem excCall (FB : ExcBaseFacts B newId initId bm) {mN : Str → Option Value} {rest : List Value} {f : Addr} {of : Obj}
    (hC : h.get? C = some (excClassObj nm q C N bs bm hdct sn sub ab col dd k0 k1 k2 k3 k5 newId)) (hn : h.Ns N mN) (hni : mN "__init__" = some (.ref f)) (hf : h.get? f = some of) (hc : of.cls = .type "function")
    (hq : codeAny (model prog w) (A.under (.builtin "type.__call__" ⟨.ref C :: rest, []⟩)) (.call (.ref f) ⟨.ref (h.objs.size + 1) :: rest, []⟩) (InitBack (h.objs.size + 1) R) ⟨(h.push (tupObj rest)).push (excObj C h.objs.size), g, d, t, os⟩)
    (hrest : rest.length ≤ sizeLine) :
    codeAny (model prog w) A (.call (.ref C) ⟨rest, []⟩) R ⟨h, g, d, t, os⟩ := by
  have f1 := tc_lookup
  have f2 := tc_bind (.ref C)
  have hT : (⟨h, g, d, t, os⟩ : Shared).TypeIs (.ref C) "type" := ⟨_, hC, rfl⟩
  refine codeAny_of_tree ?_
  show wpAny _ _ (callAny (.ref C) _) _ _ _
  repeat (any_goals (first | assumption | with_reducible refine wpAny_loadPart_at hC ?_ | wp_step))
  refine ⟨rfl, ?_⟩
  refine codeAny_call_builtin_at (Code.quiet_builtin _ (by decide +kernel)) entry_typeCall (wpAny_check_type_call_sub hC (excTypeCall FB hC hn hni hf hc (codeAny_mono hq fun r s' z => ?_) hrest))
  rcases r with e | (v | _ | _ | _) <;> first | exact z | exact z.elim
end
end Mine
end
section
open PySem PySem.W PyProof.Rows PySem.Spec PySem.Calls
set_option maxRecDepth 100000
namespace Mine
section
variable {prog : Program} {w : World} {A : Around} {R : Result → Shared → Prop} {h : Heap} {g : Array GenState} {d : Drawn} {t : Nat} {os : OsState}
variable {nm q : Str} {C N : Addr} {bs bm : List Value} {hdct : Bool} {sn : List Str} {sub : List Value} {ab : Bool} {col : Option Bool} {dd : Option Addr} {k0 k1 k2 k3 k5 : Option Value} {B newId initId : String}
theorem excInit (FB : ExcBaseFacts B newId initId bm) {rest : List Value} {e t₀ : Addr} {oe : Obj} {Q : Value → Shared → Prop} {E : Value → Shared → Prop}
    (hC : h.get? C = some (excClassObj nm q C N bs bm hdct sn sub ab col dd k0 k1 k2 k3 k5 newId)) (he : h.get? e = some oe) (hcls : oe.cls = .ref C) (hdat : oe.data = .fields #[.ref t₀, .none, .none, .none, .bool false, .none]) (hrest : rest.length ≤ sizeLine)
    (hq : ∀ h' oe', (∀ b o, b ≠ e → h.get? b = some o → h'.get? b = some o) → h'.get? e = some oe' → Q .none ⟨h', g, d, t, os⟩) :
    wpAny (model prog w) A (call (.builtin initId) (.ref e :: rest)) Q E ⟨h, g, d, t, os⟩ := by
  obtain ⟨c, dc, dt, sl⟩ := oe
  simp only at hcls hdat
  subst hcls hdat
  refine wpAny_call (codeAny_call_builtin FB.init.plain FB.initEntry (wpAny_check_init_sub FB hC he rfl ?_))
  have he1 : (h.push { cls := .type "tuple", data := .seq rest.toArray }).get? e = _ := Heap.get?_push_of_some _ he
  wp_walk
  refine hq _ _ (fun b o hb hbo => ?_) (Heap.get?_update_self _ he1 rfl)
  rw [Heap.get?_update_other _ _ (Ne.symm hb)]
  exact Heap.get?_push_of_some _ hbo
end
end Mine
end
section
open PySem PySem.W PyProof.Rows PySem.Spec PySem.Calls
set_option maxRecDepth 100000
namespace Mine
def sSelf : Str := Str.ofString "self"
def sMsg : Str := Str.ofString "msg"
def sMessage : Str := Str.ofString "message"
def sExc : Str := Str.ofString "Exception"
def sInit : Str := Str.ofString "__init__"
theorem frBut {g h h' : Heap} {L e : Addr} {m : Str → Option Value} (F : Fr g L h m) (hne : e ≠ L) (hnew : g.get? e = none) (k : ∀ b o, b ≠ e → h.get? b = some o → h'.get? b = some o) : Fr g L h' m :=
  ⟨F.ns.at' fun o q => k _ o (Ne.symm hne) q, fun b o q => k b o (by rintro rfl; rw [hnew] at q; cases q) (F.keep b o q), F.above⟩
theorem newsBut {g h h' : Heap} {L e : Addr} {need : List (Addr × Obj)} (N : News g L h need) (hap : ∀ p ∈ need, p.1 ≠ e) (k : ∀ b o, b ≠ e → h.get? b = some o → h'.get? b = some o) : News g L h' need :=
  fun p hp => ⟨k _ _ (hap p hp) (N p hp).1, (N p hp).2⟩
theorem noMessage : typeLookup (.type "Exception") sMessage = pure none := by unfold sMessage; rw [typeLookup_type, builtinLookup_eq_fast]; kernel_rfl
theorem excMeta : typeOf (.type "Exception") = pure (.type "type") := by kernel_rfl
section
variable {p prog : Program} {w : World} {A : Around} {s : Shared} {g : Heap} {L f : Addr} {m mg mb : Str → Option Value} {need : List (Addr × Obj)} {loose : List Str} {K : Frag} {scope : Scope} {qual : Str} {cdv : Value}
variable {nm q : Str} {C Nn : Addr} {bs : List Value} {sn : List Str} {sub : List Value} {ab : Bool} {col : Option Bool} {dd : Option Addr} {k0 k1 k2 k3 k5 : Option Value}
theorem errBody {e t₀ : Addr} {v : Value} {mN : Str → Option Value} {Q : Flow → Shared → Prop} {E : Value → Shared → Prop} {pl : Sem Bool} {p1 p2 p3 p4 p5 p6 p7 p8 p9 p10 : Pos}
    (F : Fr g L s.heap m) (N : News g L s.heap ((e, excObj C t₀) :: need)) (hap : ∀ p ∈ need, p.1 ≠ e) (v1 : m sSelf = some (.ref e)) (v2 : m sMsg = some v)
    (hC : g.get? C = some (excClassObj nm q C Nn bs [.type "Exception", .type "BaseException", .type "object"] true sn sub ab col dd k0 k1 k2 k3 k5 "Exception.__new__")) (hn : g.Ns Nn mN) (h1 : mN "__setattr__" = none) (h2 : mN sMessage = none)
    (X : K.In g) (T : TopRead p loose mg mb g) (e1 : nsIn K mainGlobals sExc = some none) (e2 : findCls K (.type "Exception") (.type "type") sInit = some (.val (.builtin "Exception.__init__")))
    (hk : scope.kind = .function) (l1 : scope.names.lookup sSelf = some .local) (l2 : scope.names.lookup sMsg = some .local) (l3 : scope.names.lookup sExc = some .globalImplicit)
    (hs1 : swapsWith (.Name sMsg p3) (some (.Attribute (.Name sSelf p1) sMessage p2)) p4.line (envOf qual scope L f cdv) = pure false)
    (hs2 : swapsWith (.Call (.Attribute (.Name sExc p5) sInit p6) [.Name sSelf p7, .Name sMsg p8] [] p9) none p10.line (envOf qual scope L f cdv) = pure false)
    (hi : interactive (envOf qual scope L f cdv) = false)
    (he : eval (.Call (.Attribute (.Name sExc p5) sInit p6) [.Name sSelf p7, .Name sMsg p8] [] p9) (envOf qual scope L f cdv) = (do
      let ov ← eval (.Name sExc p5) (envOf qual scope L f cdv)
      standAt p6.atName
      let (f', first) ← holding [ov] (getMethod ov sInit pl)
      callWith p9 f' first (backTo p9 (starEach [.Name sSelf p7, .Name sMsg p8] (envOf qual scope L f cdv))) (backToKw p9 (keywordEach [] (envOf qual scope L f cdv)))))
    (h : ∀ h' tk, Fr g L h' m → News g L h' need → Q .next { s with heap := h', toks := tk }) :
    wpAny (model prog w) A (execs [.Assign [.Attribute (.Name sSelf p1) sMessage p2] (.Name sMsg p3) p4, .Expr (.Call (.Attribute (.Name sExc p5) sInit p6) [.Name sSelf p7, .Name sMsg p8] [] p9) p10] (envOf qual scope L f cdv)) Q E s := by
  obtain ⟨hp, gn, dr, tk, os⟩ := s
  have hx := (N _ (.head _)).1
  have hxL := (N _ (.head _)).2.1
  have hxg := (N _ (.head _)).2.2
  have hxC : e ≠ C := by rintro rfl; rw [hxg] at hC; cases hC
  refine wpAny_execs_cons (plainObj_wpAny_Assign_Attribute ?_ hs1)
  refine wpAny_Name (wpAny_loadName_local (env := envOf qual scope L f cdv) hk l2 F.ns v2 ?_) (by decide)
  refine wpAny_Name (wpAny_loadName_local (env := envOf qual scope L f cdv) hk l1 F.ns v1 ?_) (by decide)
  refine store_attr (mA := fun _ => none) (ns := []) PySem.F.store_Exception (F.keep _ _ hC) (hn.keeps F.keep) h1 h2 noMessage hxC ⟨_, hx, rfl, fun c hc => (by cases hc), .inl ⟨rfl, fun _ => rfl⟩⟩ (fun h' tk' I' hk' hsame => ?_) Within.nil (Nat.zero_le _)
  obtain ⟨o₁, ho₁, c₁, dt₁, sl₁, -⟩ := hsame _ hx
  have k : ∀ b o, b ≠ e → hp.get? b = some o → h'.get? b = some o := fun b o hb hbo => hk' b o hb (fun o₀ dx q1 q2 => by rw [hx] at q1; cases q1; cases q2) hbo
  have F₁ := frBut F hxL hxg k
  have N₁ := newsBut (fun p hp => N p (.tail _ hp)) hap k
  refine wpAny_execs_cons (wpAny_Expr_any ?_ hi hs2)
  refine methodCall_KW (pl := pl) ?_ he
  · refine name_B F₁ X T e1 (v := .type "Exception") Boot.Exception (by decide) ?_ hk l3 (by decide)
    refine method_type F₁ X excMeta (by decide +kernel) e2 (by rfl) ?_
    refine callWith_builtin (by rfl) (Calls.evalArgs_plain ?_)
    refine spliced_more (wpAny_Name (wpAny_loadName_local (env := envOf qual scope L f cdv) hk l1 F₁.ns v1 ?_) (by decide))
    refine spliced_more (wpAny_Name (wpAny_loadName_local (env := envOf qual scope L f cdv) hk l2 F₁.ns v2 ?_) (by decide))
    refine spliced_none ?_
    refine excInit PySem.F.excBase_Exception (F₁.keep _ _ hC) ho₁ c₁ dt₁ (by show 1 ≤ sizeLine; decide) fun h₂ oe' k₂ _ => ?_
    refine wpAny_execs_nil ?_
    exact h h₂ _ (frBut F₁ hxL hxg k₂) (newsBut N₁ hap k₂)
end
end Mine
end
section
open PySem PySem.W PyProof.Rows PySem.Spec PySem.Calls
set_option maxRecDepth 100000
namespace Mine
theorem nsSome {K : Frag} {h : Heap} {Nn : Addr} {n : Str} {v : Value} (X : K.In h) (hok : nsOkIn K Nn = true) (e : nsIn K Nn n = some (some v)) : h.nsMap Nn n = some v := by
  obtain ⟨o, es, ep, ho, hd, _, hf⟩ := Heap.Ns.of_isNs (isNs_of_in X hok)
  unfold nsIn at e
  split at e
  · rename_i q
    have := X _ _ q
    rw [ho] at this
    cases this
    cases hd
    split at e
    · rename_i he
      cases e
      rw [← hf]
      unfold nsFind findBy
      rw [← Array.find?_toList, he]
      rfl
    · split at e <;> cases e
  · cases e
section
variable {p prog : Program} {w : World} {s : Shared} {h₀ : Heap} {L fI C Nn : Addr} {m mg mb : Str → Option Value} {news : List (Addr × Obj)} {loose : List Str} {mean : ExcName → Option Value} {K : Frag} {scope : Scope} {name qual : Str} {cdv : Value} {env : Env}
variable {nm q : Str} {bs : List Value} {sn : List Str} {sub : List Value} {ab : Bool} {col : Option Bool} {dd : Option Addr} {k0 k1 k2 k3 k5 : Option Value}
theorem errMade {v : Value} {Q : Value → Shared → Prop} {E : Value → Shared → Prop} {params : Arguments} {dV kV doc pm ct : Value} {an od : Option Addr} {osl : Array (Option Value)} {p1 p2 p3 p4 p5 p6 p7 p8 p9 p10 : Pos} {pl : Addr → Sem Bool}
    (F : Fr h₀ L s.heap m) (X : K.In h₀) (N : News h₀ L s.heap news) (T : Top p loose mean mg mb h₀) (hf : env.frame = some L) (hke : env.scope.kind = .function)
    (hC : K.lookup C = some (excClassObj nm q C Nn bs [.type "Exception", .type "BaseException", .type "object"] true sn sub ab col dd k0 k1 k2 k3 k5 "Exception.__new__"))
    (hok : nsOkIn K Nn = true) (n1 : nsIn K Nn "__init__" = some (some (.ref fI))) (n2 : nsIn K Nn "__setattr__" = some none) (n3 : nsIn K Nn sMessage = some none)
    (ho : K.lookup fI = some ⟨.type "function", od, .func (fnOf name qual params [.Assign [.Attribute (.Name sSelf p1) sMessage p2] (.Name sMsg p3) p4, .Expr (.Call (.Attribute (.Name sExc p5) sInit p6) [.Name sSelf p7, .Name sMsg p8] [] p9) p10] scope dV kV doc pm an cdv ct), osl⟩) (hcd : codeIn K cdv qual = true)
    (hbind : ∀ (s' : Shared) (e : Addr), K.In s'.heap → BindsTo s' (fnOf name qual params [.Assign [.Attribute (.Name sSelf p1) sMessage p2] (.Name sMsg p3) p4, .Expr (.Call (.Attribute (.Name sExc p5) sInit p6) [.Name sSelf p7, .Name sMsg p8] [] p9) p10] scope dV kV doc pm an cdv ct) ⟨[.ref e, v], []⟩ [(sSelf, .ref e), (sMsg, v)])
    (e1 : nsIn K mainGlobals sExc = some none) (e2 : findCls K (.type "Exception") (.type "type") sInit = some (.val (.builtin "Exception.__init__")))
    (hk : scope.kind = .function) (l1 : scope.names.lookup sSelf = some .local) (l2 : scope.names.lookup sMsg = some .local) (l3 : scope.names.lookup sExc = some .globalImplicit)
    (hco : scope.isCoroutine = false) (hgen : scope.isGenerator = false) (hcell : ∀ x ∈ scope.names, x.2 ≠ .cell)
    (hs1 : ∀ L', swapsWith (.Name sMsg p3) (some (.Attribute (.Name sSelf p1) sMessage p2)) p4.line (envOf qual scope L' fI cdv) = pure false)
    (hs2 : ∀ L', swapsWith (.Call (.Attribute (.Name sExc p5) sInit p6) [.Name sSelf p7, .Name sMsg p8] [] p9) none p10.line (envOf qual scope L' fI cdv) = pure false)
    (hi : ∀ L', interactive (envOf qual scope L' fI cdv) = false)
    (he : ∀ L', eval (.Call (.Attribute (.Name sExc p5) sInit p6) [.Name sSelf p7, .Name sMsg p8] [] p9) (envOf qual scope L' fI cdv) = (do
      let ov ← eval (.Name sExc p5) (envOf qual scope L' fI cdv)
      standAt p6.atName
      let (f', first) ← holding [ov] (getMethod ov sInit (pl L'))
      callWith p9 f' first (backTo p9 (starEach [.Name sSelf p7, .Name sMsg p8] (envOf qual scope L' fI cdv))) (backToKw p9 (keywordEach [] (envOf qual scope L' fI cdv)))))
    (hQ : ∀ a h' tk, Fr h₀ L h' m → News h₀ L h' news → Q (.ref a) { s with heap := h', toks := tk }) :
    wpAny (model prog w) (callerA.deeper env) (call (.ref C) [v]) Q E s := by
  obtain ⟨hp, gn, dr, tk, os⟩ := s
  have X₁ := X.keeps F.keep
  refine wpAny_call (excCall PySem.F.excBase_Exception (X₁ _ _ hC) (Heap.Ns.of_isNs (isNs_of_in X₁ hok)) (nsSome X₁ hok n1) (X₁ _ _ ho) rfl ?_ (by show 1 ≤ sizeLine; decide))
  have F₂ := (F.push (tupObj [v])).push (excObj C hp.objs.size)
  have N₂ : News h₀ L ((hp.push (tupObj [v])).push (excObj C hp.objs.size)) ((hp.objs.size + 1, excObj C hp.objs.size) :: (hp.objs.size, tupObj [v]) :: news) := by
    have := (N.push F (tupObj [v])).push (F.push _) (excObj C hp.objs.size)
    rwa [Heap.size_push] at this
  have hap : ∀ p ∈ (hp.objs.size, tupObj [v]) :: news, p.1 ≠ hp.objs.size + 1 := fun p hp' => by
    rcases List.mem_cons.mp hp' with rfl | hp'
    · exact Nat.ne_of_lt (Nat.lt_succ_self _)
    · exact Nat.ne_of_lt (Nat.lt_succ_of_lt (Heap.lt_size (N p hp').1))
  refine code_def (outer := []) (below_caller h₀) F₂ X N₂ T rfl hf hke ho hcd (Nat.le_of_ble_eq_true rfl) (hbind _ _ (X.keeps F₂.keep)) ?_ ?_ hco hgen hk hcell
  · intro y hy
    rcases List.mem_cons.mp hy with rfl | hy
    · exact l1
    rcases List.mem_cons.mp hy with rfl | hy
    · exact l2
    · cases hy
  · intro g L' h₁ FG F' N' B' X' T'
    refine errBody F' N' hap rfl rfl (X' _ _ hC) (Heap.Ns.of_isNs (isNs_of_in X' hok)) (nsMap_none_of_in X' hok n2) (nsMap_none_of_in X' hok n3) X' (topRead_of T') e1 e2 hk l1 l2 l3 (hs1 L') (hs2 L') (hi L') (he L') fun h' tk' F₃ N₃ => ?_
    exact leaveK_ F₃ N₃ fun F₅ N₅ => ⟨rfl, hQ _ _ _ F₅ fun p hp => N₅ p (.tail _ hp)⟩
end
end Mine
end
section
open PySem PySem.W PyProof.Rows PySem.Spec PySem.Calls
set_option maxRecDepth 100000
namespace Mine
def sNew : Str := Str.ofString "__new__"
section
variable {prog : Program} {w : World} {A : Around} {E : Value → Shared → Prop} {h : Heap} {g : Array GenState} {d : Drawn} {t : Nat} {os : OsState}
theorem superOfCls {D : Addr} {oD : Obj} {cd : ClassData} {Q : Value → Shared → Prop} (hD : h.get? D = some oD) (hDt : oD.data = .cls cd) (hsub : Looks (model prog w) h (isSubtype (.ref D) (.ref D)) true)
    (hq : ∀ h', h'.get? h.objs.size = some (ks_superObj D D D) → (∀ y o, h.get? y = some o → h'.get? y = some o) → Q (.ref h.objs.size) ⟨h', g, d, t, os⟩) :
    wpAny (model prog w) A (call (.type "super") [.ref D, .ref D]) Q E ⟨h, g, d, t, os⟩ := by
  refine ks_callType_codesW (Q₁ := fun obj s₁ => obj = .ref h.objs.size ∧ s₁ = ⟨h.push { cls := .type "super", data := .fields #[.none, .none, .none] }, g, d, t, os⟩) PySem.F.ks_called_super (ks_wpAny_checkTypeCall_super hD hDt) PySem.F.ks_entry_super_init
    (ks_code_super_new _ _ ⟨rfl, rfl⟩) fun obj s₁ h₁ => ?_
  obtain ⟨rfl, rfl⟩ := h₁
  have up : ∀ y o, h.get? y = some o → (h.push { cls := .type "super", data := .fields #[.none, .none, .none] }).get? y = some o := fun y o e => Heap.get?_push_of_some _ e
  have hso : (h.push { cls := .type "super", data := .fields #[.none, .none, .none] }).get? h.objs.size = some { cls := .type "super", dict := none, data := .fields #[.none, .none, .none], slots := #[] } := Heap.get?_push_at rfl rfl
  have hD' := up _ _ hD
  have hsub' := hsub.keeps up
  refine ⟨⟨_, hso, rfl⟩, PySem.F.ks_initArgs_super _ _ _, ?_⟩
  unfold Builtin.«super.__init__» noKeywords
  repeat (first | (with_reducible refine ks_wpAny_isType_cls hD' hDt ?_) | (with_reducible refine Looks.at hsub' ?_) | (with_reducible refine ks_wpAny_super_set3 hso ?_) | wp_step)
  all_goals first
    | (intro h' e k; exact ⟨rfl, hq h' e fun y o ey => k y o (Nat.ne_of_lt (Heap.lt_size ey)) (up y o ey)⟩)
    | (refine ks_wpAny_super_set3 hso ?_; intro h' e k; exact ⟨rfl, hq h' e fun y o ey => k y o (Nat.ne_of_lt (Heap.lt_size ey)) (up y o ey)⟩)
theorem strNewOwn : classOwn (.type "str") sNew = pure (some (.builtin "str.__new__")) := by kernel_rfl
theorem strNewType : typeOf (.builtin "str.__new__") = pure (.type "builtin_function_or_method") := by kernel_rfl
theorem noGetB : typeLookup (.type "builtin_function_or_method") "__get__" = pure none := by rw [typeLookup_type, builtinLookup_eq_fast]; kernel_rfl
theorem superGa {so D : Addr} {tk : Tok} {Q : Fin → Shared → Prop}
    (hso : h.get? so = some (ks_superObj D D D)) (hno : Looks (model prog w) h (opaqueClassAbove (.ref D)) none)
    (hC : Looks (model prog w) h (mroOf (.ref D)) [.ref D, .type "str", .type "object"])
    (hq : Q (.done (.ret (.builtin "str.__new__"))) ⟨h, g, d, t, os⟩) :
    wpAny (model prog w) A (Builtin.«super.__getattribute__» ⟨[.ref so, .str sNew tk], []⟩) Q E ⟨h, g, d, t, os⟩ := by
  have hdt : (ks_superObj D D D).data = .fields #[.ref D, .ref D, .ref D] := rfl
  have f0 : (#[.ref D, .ref D, .ref D] : Array Value)[0]? = some (.ref D) := rfl
  have f1 : (#[.ref D, .ref D, .ref D] : Array Value)[1]? = some (.ref D) := rfl
  have f2 : (#[.ref D, .ref D, .ref D] : Array Value)[2]? = some (.ref D) := rfl
  have hl : (List.dropWhile (· != Value.ref D) [.ref D, .type "str", .type "object"]).drop 1 = [.type "str", .type "object"] := by simp [List.dropWhile]
  have hn : (sNew == ("__class__" : Str)) = false := by decide
  have c1 := strNewOwn
  have c2 := strNewType
  have c3 := noGetB
  unfold Builtin.«super.__getattribute__»
  repeat (first
    | (with_reducible refine wpAny_field hso hdt f0 ?_) | (with_reducible refine wpAny_field hso hdt f1 ?_) | (with_reducible refine wpAny_field hso hdt f2 ?_)
    | (with_reducible refine ks_wpAny_notOpaque hno ?_)
    | (with_reducible refine Looks.at hC ?_; rw [hl, List.forIn_cons])
    | (with_reducible refine wpAny_of_eq strNewOwn ?_) | (with_reducible refine wpAny_of_eq strNewType ?_) | (with_reducible refine wpAny_of_eq noGetB ?_)
    | (simp only [hn, Bool.or_false, Bool.false_eq_true, if_false])
    | wp_step
    | dsimp only)
  all_goals exact hq
end
end Mine
end
section
open PySem PySem.W PyProof.Rows
set_option maxRecDepth 100000
set_option maxHeartbeats 8000000
namespace Mine
open_top hd for PySem.Challenge.rw_dm0031_12
end Mine
end
section
open PySem PySem.W PyProof.Rows PySem.Calls
set_option maxRecDepth 100000
namespace Mine
theorem errMadeK {w : World} {env : Env} {E : Value → Shared → Prop} {s : Shared} {t : Tok} {Q : Value → Shared → Prop} {h₀ : Heap} {L : Addr} {m mg mb : Str → Option Value} {news : List (Addr × Obj)} {p : Program} {loose : List Str} {mean : ExcName → Option Value}
    (KX : (Mine.hd.heap_39 w.params).In h₀) (F : Fr h₀ L s.heap m) (N : News h₀ L s.heap news) (T : Top p loose mean mg mb h₀) (hf : env.frame = some L) (hke : env.scope.kind = .function)
    (hQ : ∀ a h' tk, Fr h₀ L h' m → News h₀ L h' news → Q (.ref a) { s with heap := h', toks := tk }) :
    wpAny (model PySem.Challenge.rw_dm0031_12.row.prog w) (callerA.deeper env) (call (.ref 46) [.str (Str.ofString "no") t]) Q E s := by
  refine errMade (C := 46) (fI := 36) F KX N T hf hke (by rfl) (by kernel_rfl) (by rfl) (by rfl) (by rfl) (by rfl) (by rfl) (fun s' e X' => ?_) (by rfl) (by rfl) (by rfl) (by rfl) (by rfl) (by rfl) (by rfl) (by rfl) (by decide) (fun _ => by with_unfolding_all rfl) (fun _ => by with_unfolding_all rfl) (fun _ => by rfl) (fun _ => by rfl) hQ
  first | exact BindsTo.of_eq rfl | exact binds_K X' rfl (by rfl) rfl rfl rfl
end Mine
end
section
open PySem PySem.W PyProof.Rows PySem.Calls
set_option maxRecDepth 100000
namespace Mine
noncomputable abbrev KL (w : World) : Frag := Mine.hd.heap_39 w.params
noncomputable abbrev progL : Program := PySem.Challenge.rw_dm0031_12.row.prog
def sLine : Str := Str.ofString "a ;b"
abbrev lineObj (dx : Addr) (t : Tok) : Obj := { cls := .ref 194, dict := some dx, data := .prim (.str sLine t) }
theorem strNewCheck (w : World) (t : Tok) : peek (KL w) ⟨progL, w.params⟩ (checkBuiltinCall "str.__new__" ⟨[.ref 194, .str sLine t], []⟩) = some () := by kernel_rfl
theorem strNewRun (w : World) (t : Tok) : peekA (KL w) ⟨progL, w.params⟩ (Builtin.«str.__new__» ⟨[.ref 194, .str sLine t], []⟩) = some (emptyDict, fun D => (do ret (← newObj (.ref 194) (.prim (← mkStr sLine)) (some D)))) := by kernel_rfl
theorem strNewPlain : plainId "str.__new__" = true := by decide +kernel
section
variable {w : World} {A : Around} {s : Shared} {h₀ : Heap} {L : Addr} {m : Str → Option Value} {news : List (Addr × Obj)} {E : Value → Shared → Prop} {Q : Value → Shared → Prop}
theorem strNewLine {t : Tok} (KX : (KL w).In h₀) (F : Fr h₀ L s.heap m) (N : News h₀ L s.heap news)
    (h : ∀ x dx tx h' tk, Fr h₀ L h' m → News h₀ L h' ((x, lineObj dx tx) :: (dx, emptyDict) :: news) → (∀ p ∈ news, p.1 < dx) → dx < x → Q (.ref x) { s with heap := h', toks := tk }) :
    wpAny (model progL w) A (call (.builtin "str.__new__") [.ref 194, .str sLine t]) Q E s := by
  have X := KX.keeps F.keep
  refine wpAny_call (codeAny_call_builtin strNewPlain PySem.F.entry_str_new ((Looks.of_peek X (strNewCheck w t)).here ?_))
  refine wp_of_peekA F N X rfl _ _ (strNewRun w t) fun h' F' N' l => ?_
  have X' := KX.keeps F'.keep
  refine wpAny_bind (wpAny_mkStr ?_ (by decide))
  have hC : h'.get? 194 = _ := X' 194 _ (by rfl)
  refine wpAny_bind ?_
  show wpAny _ _ (newObjAsIs _ _ _) _ _ _
  unfold newObjAsIs classHasDel
  refine wpAny_bind (wpAny_alloc (wpAny_bind (wpAny_bind (wpAny_load (Heap.get?_push_of_some _ hC) (wpAny_pure ?_)))))
  refine wpAny_pure (wpAny_pure ?_)
  have N₂ := N'.push F' (lineObj s.heap.objs.size s.toks)
  refine h _ _ _ _ _ (F'.push _) N₂ l ?_
  exact Heap.lt_size (N' _ (.head _)).1
end
end Mine
end
section
open PySem PySem.W PyProof.Rows PySem.Calls
set_option maxRecDepth 100000
namespace Mine
theorem lineNotOpaque (w : World) : peek (KL w) ⟨progL, w.params⟩ (opaqueClassAbove (.ref 194)) = some none := by kernel_rfl
theorem lineMro (w : World) : peek (KL w) ⟨progL, w.params⟩ (mroOf (.ref 194)) = some [.ref 194, .type "str", .type "object"] := by kernel_rfl
theorem lineSub (w : World) : peek (KL w) ⟨progL, w.params⟩ (isSubtype (.ref 194) (.ref 194)) = some true := by kernel_rfl
section
variable {w : World} {A : Around} {s : Shared} {E : Value → Shared → Prop}
theorem superMethod {so : Addr} {pl : Sem Bool} {Q : Value × List Value → Shared → Prop} (X : (KL w).In s.heap) (hso : s.heap.get? so = some (ks_superObj 194 194 194))
    (hq : Q (.builtin "str.__new__", []) { s with toks := s.toks + 1 }) : wpAny (model progL w) A (getMethod (.ref so) sNew pl) Q E s := by
  obtain ⟨hp, g, d, t, os⟩ := s
  have hlk := PySem.F.ks_slot_super_ga.lookup
  have hT : ∀ t', (⟨hp, g, d, t', os⟩ : Shared).TypeIs (.ref so) "super" := fun _ => ⟨_, hso, rfl⟩
  unfold getMethod
  refine wpAny_bind (wpAny_specialOf (hT _) hlk ?_)
  show wpAny _ _ (if (Manifest.canonical "super.__getattribute__" != "object.__getattribute__") = true then _ else _) _ _ _
  rw [if_pos PySem.F.ks_canon_super_ga]
  unfold getAttr getAttrBy
  refine wpAny_bind (wpAny_bind (wpAny_mkText (wpAny_holding (wpAny_bind (wpAny_typeOf (hT _) (wpAny_bind (wpAny_of_eq hlk ?_)))))))
  show wpAny _ _ (getAttrByItsOwn (.ref so) (.str sNew t) (.type "super") (.builtin "super.__getattribute__") true false) _ _ _
  unfold getAttrByItsOwn hookBefore callGetattribute boundAndCalled
  refine wpAny_bind (wpAny_of_eq (show (if onTheHeap (.type "super") then typeLookup (.type "super") "__getattr__" else pure none) = pure none from rfl) ?_)
  refine wpAny_bind (wpAny_attempt (wpAny_holding ?_))
  show wpAny _ _ (bindSpecial (.builtin "super.__getattribute__") (.ref so) >>= _) _ _ _
  refine wpAny_bind (wpAny_of_eq (PySem.F.ks_slot_super_ga.bind _) ?_)
  refine wpAny_mono (Q := fun v s' => v = .builtin "str.__new__" ∧ s' = ⟨hp, g, d, t + 1, os⟩) (E := fun _ _ => False)
    (wpAny_call_entry PySem.F.ks_slot_super_ga (hT _) PySem.F.ks_entry_super_ga (superGa hso (Looks.of_peek X (lineNotOpaque w)) (Looks.of_peek X (lineMro w)) ⟨_, rfl, rfl, rfl⟩) (PySem.F.ks_gaArgs_super _ _)) (fun v s' hv => ?_) fun _ _ z => z.elim
  obtain ⟨rfl, rfl⟩ := hv
  exact wpAny_pure (wpAny_pure hq)
end
end Mine
end
section
open PySem PySem.W PyProof.Rows PySem.Calls
set_option maxRecDepth 100000
namespace Mine
def sCls : Str := Str.ofString "cls"
def sVal : Str := Str.ofString "val"
def sSuper : Str := Str.ofString "super"
section
variable {w : World} {A : Around} {s : Shared} {E : Value → Shared → Prop} {g : Heap} {L f cc cda : Addr} {m mg mb : Str → Option Value} {news : List (Addr × Obj)} {p : Program} {loose : List Str} {mean : ExcName → Option Value} {qual : Str} {scope : Scope}
theorem newBody {t : Tok} {body : List Stmt} {Q : Flow → Shared → Prop} {fd : FuncData} {ar : Arg} {vs : Array Value} {file : Str} {tf : Tok} {oc ccl cl : Value} {od cdd cld : Option Addr} {osl ccs csl : Array (Option Value)} {pl : Sem Bool} {p0 p1 p2 p3 p4 p5 p6 : Pos}
    (F : Fr g L s.heap m) (X₀ : (KL w).In g) (N : News g L s.heap news) (T : Top p loose mean mg mb g) (v1 : m sCls = some (.ref 194)) (v2 : m sVal = some (.str sLine t))
    (hf : (KL w).lookup f = some ⟨oc, od, .func fd, osl⟩) (hp : (fd.params.posonlyargs ++ fd.params.args).head? = some ar) (har : ar.arg = sCls)
    (hcode : (KL w).lookup cda = some ⟨ccl, cdd, .fields vs, ccs⟩) (hvs : vs[2]? = some (.str file tf)) (hfile : ((progL.main.file : Str) == file) = true)
    (hcell : (KL w).lookup cc = some ⟨cl, cld, .cell (some (.ref 194)), csl⟩) (hsuper : nsIn (KL w) mainGlobals "super" = some none)
    (hks : scope.names.lookup ("super" : Str) = some .globalImplicit) (hkc : scope.names.lookup ("__class__" : Str) = some .free) (l1 : scope.names.lookup sCls = some .local) (l2 : scope.names.lookup sVal = some .local) (hk : scope.kind = .function)
    (htop : (progL.main.scope.names.lookup ("super" : Str)).isSome = false)
    (he : eval (.Call (.Attribute (.Call (.Name "super" p0) [] [] p1) sNew p2) [.Name sCls p3, .Name sVal p4] [] p5) (ksEnv qual scope L f (.ref cda) cc) = (do
      let ov ← attributeBase (.Call (.Name "super" p0) [] [] p1) sNew (ksEnv qual scope L f (.ref cda) cc) (eval (.Call (.Name "super" p0) [] [] p1) (ksEnv qual scope L f (.ref cda) cc))
      standAt p2.atName
      let (f', first) ← holding [ov] (getMethod ov sNew pl)
      callWith p5 f' first (backTo p5 (starEach [.Name sCls p3, .Name sVal p4] (ksEnv qual scope L f (.ref cda) cc))) []))
    (h : ∀ x dx tx h' tk, Fr g L h' m → News g L h' ((x, lineObj dx tx) :: (dx, emptyDict) :: news) → (∀ p ∈ news, p.1 < dx) → dx < x → Q (.ret (.ref x)) { s with heap := h', toks := tk }) :
    _root_.PySem.wpAt (model progL w) A (.func body (ksEnv qual scope L f (.ref cda) cc)) (execs [.Return (some (.Call (.Attribute (.Call (.Name "super" p0) [] [] p1) sNew p2) [.Name sCls p3, .Name sVal p4] [] p5)) p6] (ksEnv qual scope L f (.ref cda) cc)) Q E s := by
  have X : (KL w).In s.heap := X₀.keeps F.keep
  obtain ⟨hh, gn, dr, tk, os⟩ := s
  have hD : hh.get? 194 = _ := X 194 _ (by rfl)
  refine ks_wpAt_execs_cons (ks_wpAt_Return_some (ks_wpAt_MethodCall ?_ he))
  refine ks_wpAt_super_base (env := ksEnv qual scope L f (.ref cda) cc) hks hkc (by decide) rfl (X _ _ hf) rfl hp rfl (X _ _ hcode) rfl hvs hfile htop ?_
  refine ks_loadName_global hk hks (loadGlobal_builtin (env := ksEnv qual scope L f (.ref cda) cc) (T.g.keeps F.keep) (mg_none_of X₀ T.g hsuper) (T.b.keeps F.keep) ((T.builtins _ (by decide +kernel)).trans Boot.super) ⟨rfl, ?_⟩)
  refine wpAny_loadName_free hk hkc rfl ⟨_, X _ _ hcell, rfl⟩ ?_
  rw [har]
  refine wpAny_loadName_local hk l1 F.ns v1 ?_
  refine ks_wpAny_isType_cls hD rfl ⟨rfl, ?_⟩
  refine superOfCls hD rfl (Looks.of_peek X (lineSub w)) (fun h' e k => ?_)
  obtain ⟨F', N', l'⟩ := ks_newsPush (s := ⟨hh, gn, dr, tk, os⟩) F N rfl e k
  refine superMethod (s := ⟨h', gn, dr, tk, os⟩) (X₀.keeps F'.keep) e ?_
  refine callWith_builtin (by rfl) (Calls.evalArgs_plain ?_)
  refine spliced_more (wpAny_Name (wpAny_loadName_local (env := ksEnv qual scope L f (.ref cda) cc) hk l1 F'.ns v1 ?_) (by decide))
  refine spliced_more (wpAny_Name (wpAny_loadName_local (env := ksEnv qual scope L f (.ref cda) cc) hk l2 F'.ns v2 ?_) (by decide))
  refine spliced_none ?_
  refine strNewLine (s := ⟨h', gn, dr, tk + 1, os⟩) X₀ F' N' fun x dx tx h₂ tk₂ F₂ N₂ l₂ l₃ => ?_
  refine h x dx tx h₂ tk₂ F₂ (fun q hq => N₂ q ?_) (fun q hq => l₂ q (.tail _ hq)) l₃
  rcases List.mem_cons.mp hq with rfl | hq
  · exact .head _
  rcases List.mem_cons.mp hq with rfl | hq
  · exact .tail _ (.head _)
  · exact .tail _ (.tail _ (.tail _ hq))
end
end Mine
end
section
open PySem PySem.W PyProof.Rows PySem.Calls
set_option maxRecDepth 100000
namespace Mine
def sArgs : Str := Str.ofString "args"
def sKwargs : Str := Str.ofString "kwargs"
section
variable {prog : Program} {w : World} {A₀ A : Around} {s : Shared} {base h₀ : Heap} {outer : List Env} {L : Addr} {m : Str → Option Value} {env : Env} {news : List (Addr × Obj)}
  {R : Result → Shared → Prop} {qual : Str} {body : List Stmt} {scope : Scope} {cl : List (Str × Addr)} {cdv : Value} {f : Addr} {binds : List (Str × Value)}
theorem frameAt {E : Value → Shared → Prop} (B : Below A₀ base outer h₀) (F : Fr h₀ L s.heap m) (N : News h₀ L s.heap news) (hlim : h₀.NoLimit) (hA : A.frames = some (env :: outer)) (hf : env.frame = some L) (hke : env.scope.kind = .function)
    (hloc : ∀ y ∈ binds, scope.names.lookup y.1 = some .local)
    (h : ∀ g L' h₁, Fr h₀ L g m → Fr g L' h₁ (fun y => binds.reverse.lookup y) → News g L' h₁ news → Below A base (env :: outer) g → h₀.StaysIn g →
      _root_.PySem.wpAt (model prog w) (A.deeper (envX qual scope L' f cdv cl)) (.func body (envX qual scope L' f cdv cl)) (execs body (envX qual scope L' f cdv cl))
        (fun fl s' => LeaveK h₀ L m g R (match fl with | .ret v => v | _ => .none) s')
        (fun e s' => wpAny (model prog w) (A.deeper (envX qual scope L' f cdv cl)) (leaving (envX qual scope L' f cdv cl) e) (fun _ s'' => R (.error e) s'') (fun e' s'' => R (.error e') s'') s')
        { s with heap := h₁, toks := s.toks + binds.length })
    (hcell : ∀ x ∈ scope.names, x.2 ≠ .cell) (hk : scope.kind = .function) :
    wpAny (model prog w) A.in1 (newFunctionEnv scope mainGlobals cl binds (qual ++ ".<locals>.") (some f) cdv none builtinsNs) (fun env' s₂ => s₂.heap.NoLimit ∧ codeAny (model prog w) A (.func body env') R s₂) E s := by
  obtain ⟨FG, BG, st, lv⟩ := groundX (R := R) B F N hA hf hke
  refine wpAny_newFunctionEnv hcell hloc (fun h₁ hns hsb => ⟨(hlim.keeps F.keep).fresh _ hsb, ks_codeAny_funcAt ?_⟩) hk
  have hk₁ : ∀ b o, s.heap.get? b = some o → h₁.get? b = some o := fun b o e => hsb.extBut b o (Nat.ne_of_lt (Heap.lt_size e)) (Heap.get?_push_of_some _ e)
  show _root_.PySem.wpAt (model prog w) (A.deeper (envX qual scope s.heap.objs.size f cdv cl)) (.func body (envX qual scope s.heap.objs.size f cdv cl)) (execs body (envX qual scope s.heap.objs.size f cdv cl)) _ _ _
  exact ks_wpAt_mono (h _ s.heap.objs.size h₁ FG ⟨hns, fun b o e => hk₁ b o (of_hideAll _ e), Nat.le_of_eq (hideAll_size _ _)⟩
    (fun p hp => ⟨hk₁ _ _ (N p hp).1, Nat.ne_of_lt (Heap.lt_size (N p hp).1), hideAll_none _ (List.mem_map_of_mem hp)⟩) BG st) (fun fl s' hl => lv _ _ hl) fun _ _ y => y
end
section
variable {w : World} {A : Around} {s : Shared} {h₀ : Heap} {L : Addr} {m mg mb : Str → Option Value} {news : List (Addr × Obj)} {p : Program} {loose : List Str} {mean : ExcName → Option Value} {env : Env} {R : Result → Shared → Prop}
theorem newCallG {t : Tok} {f cc cda : Addr} {name qual : Str} {params : Arguments} {scope : Scope} {dV kV doc pm ct : Value} {an od : Option Addr} {osl : Array (Option Value)} {ar : Arg} {vs : Array Value} {file : Str} {tf : Tok} {ccl cl : Value} {cdd cld : Option Addr} {ccs csl : Array (Option Value)} {pl : Addr → Sem Bool} {p0 p1 p2 p3 p4 p5 p6 : Pos}
    {o1 o2 : Obj} {g₁ : Addr → Sem (List (Str × Value))} {g₂ : Addr → Addr → Sem (List (Str × Value))}
    (KX : (KL w).In h₀) (F : Fr h₀ L s.heap m) (N : News h₀ L s.heap news) (T : Top p loose mean mg mb h₀) (hA : A.frames = some [env]) (hf : env.frame = some L) (hke : env.scope.kind = .function) (hroom : A.depth < recursionLimit)
    (ho : (KL w).lookup f = some ⟨.type "function", od, .func (ksFn name qual params [.Return (some (.Call (.Attribute (.Call (.Name "super" p0) [] [] p1) sNew p2) [.Name sCls p3, .Name sVal p4] [] p5)) p6] scope dV kV doc pm an (.ref cda) ct cc), osl⟩) (hcd : codeIn (KL w) (.ref cda) qual = true)
    (hp : peekA (KL w) ⟨progL, w.params⟩ (bindArgs (ksFn name qual params [.Return (some (.Call (.Attribute (.Call (.Name "super" p0) [] [] p1) sNew p2) [.Name sCls p3, .Name sVal p4] [] p5)) p6] scope dV kV doc pm an (.ref cda) ct cc) ⟨[.ref 194, .str sLine t, .none], []⟩) = some (o1, g₁))
    (hp₂ : ∀ C, peekA (KL w) ⟨progL, w.params⟩ (g₁ C) = some (o2, g₂ C)) (hb : ∀ C D, g₂ C D = pure [(sCls, .ref 194), (sVal, .str sLine t), (sArgs, .ref C), (sKwargs, .ref D)]) (f1 : o1.isFreed = false) (f2 : o2.isFreed = false)
    (hpa : (params.posonlyargs ++ params.args).head? = some ar) (har : ar.arg = sCls)
    (hcode : (KL w).lookup cda = some ⟨ccl, cdd, .fields vs, ccs⟩) (hvs : vs[2]? = some (.str file tf)) (hfile : ((progL.main.file : Str) == file) = true)
    (hcell : (KL w).lookup cc = some ⟨cl, cld, .cell (some (.ref 194)), csl⟩) (hsuper : nsIn (KL w) mainGlobals "super" = some none)
    (hks : scope.names.lookup ("super" : Str) = some .globalImplicit) (hkc : scope.names.lookup ("__class__" : Str) = some .free) (l1 : scope.names.lookup sCls = some .local) (l2 : scope.names.lookup sVal = some .local) (l3 : scope.names.lookup sArgs = some .local) (l4 : scope.names.lookup sKwargs = some .local) (hk : scope.kind = .function)
    (hco : scope.isCoroutine = false) (hgen : scope.isGenerator = false) (hnc : ∀ x ∈ scope.names, x.2 ≠ .cell)
    (htop : (progL.main.scope.names.lookup ("super" : Str)).isSome = false)
    (he : ∀ L', eval (.Call (.Attribute (.Call (.Name "super" p0) [] [] p1) sNew p2) [.Name sCls p3, .Name sVal p4] [] p5) (ksEnv qual scope L' f (.ref cda) cc) = (do
      let ov ← attributeBase (.Call (.Name "super" p0) [] [] p1) sNew (ksEnv qual scope L' f (.ref cda) cc) (eval (.Call (.Name "super" p0) [] [] p1) (ksEnv qual scope L' f (.ref cda) cc))
      standAt p2.atName
      let (f', first) ← holding [ov] (getMethod ov sNew (pl L'))
      callWith p5 f' first (backTo p5 (starEach [.Name sCls p3, .Name sVal p4] (ksEnv qual scope L' f (.ref cda) cc))) []))
    (h : ∀ x dx tx h' tk, Fr h₀ L h' m → News h₀ L h' ((x, lineObj dx tx) :: (dx, emptyDict) :: news) → (∀ p ∈ news, p.1 < dx) → dx < x → R (.ok (.ret (.ref x))) { s with heap := h', toks := tk }) :
    codeAny (model progL w) A (.call (.ref f) ⟨[.ref 194, .str sLine t, .none], []⟩) R s := by
  have X := KX.keeps F.keep
  refine codeAny_call_function hroom (X _ _ ho) rfl hco hgen rfl (codeRec_of (K := KL w) X hcd) ?_
  refine wp_of_peekA F N X f1 _ _ hp fun h₁ F₁ N₁ l₁ => ?_
  refine wp_of_peekA (s := { s with heap := h₁ }) F₁ N₁ (KX.keeps F₁.keep) f2 _ _ (hp₂ _) fun h₂ F₂ N₂ l₂ => ?_
  rw [hb]
  refine wpAny_pure ?_
  refine frameAt (s := { s with heap := h₂ }) (cl := [("__class__", cc)]) (below_caller h₀) F₂ N₂ T.nolimit hA hf hke (fun y hy => ?_) (fun g L' h₃ FG F' N' B' st => ?_) hnc hk
  · rcases List.mem_cons.mp hy with rfl | hy
    · exact l1
    rcases List.mem_cons.mp hy with rfl | hy
    · exact l2
    rcases List.mem_cons.mp hy with rfl | hy
    · exact l3
    rcases List.mem_cons.mp hy with rfl | hy
    · exact l4
    · cases hy
  · have X' := KX.keeps st
    refine newBody (t := t) (s := { s with heap := h₃, toks := _ }) F' X' N' (T.keeps st) rfl rfl ho hpa har hcode hvs hfile hcell hsuper hks hkc l1 l2 hk htop (he L') fun x dx tx h' tk F₃ N₃ l₃ l₄ => ?_
    · refine leaveK_ F₃ N₃ fun F₅ N₅ => ?_
      refine h x dx tx h' tk F₅ (fun q hq => N₅ q ?_) (fun q hq => l₃ q (.tail _ (.tail _ hq))) l₄
      rcases List.mem_cons.mp hq with rfl | hq
      · exact .head _
      rcases List.mem_cons.mp hq with rfl | hq
      · exact .tail _ (.head _)
      · exact .tail _ (.tail _ (.tail _ (.tail _ hq)))
end
end Mine
end
section
open PySem PySem.W PyProof.Rows PySem.Calls
set_option maxRecDepth 100000
namespace Mine
section
variable {w : World} {A : Around} {s : Shared} {h₀ : Heap} {L : Addr} {m mg mb : Str → Option Value} {news : List (Addr × Obj)} {p : Program} {loose : List Str} {mean : ExcName → Option Value} {env : Env} {R : Result → Shared → Prop}
theorem newCall {t : Tok} (KX : (KL w).In h₀) (F : Fr h₀ L s.heap m) (N : News h₀ L s.heap news) (T : Top p loose mean mg mb h₀) (hA : A.frames = some [env]) (hf : env.frame = some L) (hke : env.scope.kind = .function) (hroom : A.depth < recursionLimit)
    (h : ∀ x dx tx h' tk, Fr h₀ L h' m → News h₀ L h' ((x, lineObj dx tx) :: (dx, emptyDict) :: news) → (∀ p ∈ news, p.1 < dx) → dx < x → R (.ok (.ret (.ref x))) { s with heap := h', toks := tk }) :
    codeAny (model progL w) A (.call (.ref 152) ⟨[.ref 194, .str sLine t, .none], []⟩) R s := by
  refine newCallG (f := 152) KX F N T hA hf hke hroom (by rfl) (by rfl) (by rfl) (fun _ => by rfl) (fun _ _ => by rfl) (by rfl) (by rfl) (by rfl) (by rfl) (by rfl) (by rfl) (by first | rfl | decide +kernel | kernel_rfl) (by rfl) (by rfl) (by rfl) (by rfl) (by rfl) (by rfl) (by rfl) (by rfl) (by rfl) (by rfl) (by rfl) (by decide) (by first | rfl | decide +kernel | kernel_rfl) (fun _ => by rfl) h
end
end Mine
end
section
open PySem PySem.W PyProof.Rows PySem.Calls Builtin Builtin.ObjectAttr
set_option maxRecDepth 100000
namespace Mine
def sPrefixes : Str := Str.ofString "prefixes"
theorem strPasses (self : Value) : refuseLoop self "__setattr__" [.type "str", .type "object"] = pure () := by kernel_rfl
theorem lineIsObj (w : World) : peek (KL w) ⟨progL, w.params⟩ (isSubtype (.ref 194) (.type "object")) = some true := by kernel_rfl
theorem linePref (w : World) : peek (KL w) ⟨progL, w.params⟩ (typeLookup (.ref 194) sPrefixes) = some none := by kernel_rfl
theorem lineSet' (w : World) : peek (KL w) ⟨progL, w.params⟩ (typeLookup (.ref 194) "__setattr__") = some (some (.builtin "object.__setattr__")) := by kernel_rfl
section
variable {w : World} {A : Around} {s : Shared} {R : Result → Shared → Prop}
theorem lineOsa {x dx : Addr} {tx tk : Tok} {v : Value} (X : (KL w).In s.heap) (hx : s.heap.get? x = some (lineObj dx tx)) (hdx : s.heap.get? dx = some emptyDict)
    (h : ∀ h' tk', (∀ b o, b ≠ dx → s.heap.get? b = some o → h'.get? b = some o) → R (.ok (.ret .none)) { s with heap := h', toks := tk' + 1 }) :
    codeAny (model progL w) A (.call (.builtin "object.__setattr__") ⟨[.ref x, .str sPrefixes tk, v], []⟩) R s := by
  have SF := PySem.F.store_object
  have ty : Looks (model progL w) s.heap (typeOf (.ref x)) (.ref 194) := (Looks.ld hx).andThen .now
  have sub : Looks (model progL w) s.heap (isInstance (.ref x) (.type "object")) true := ty.andThen (Looks.of_peek X (lineIsObj w))
  refine codeAny_call_builtin SF.slot.plain SF.entry (@check_slot (model progL w) _ _ s "object.__setattr__" "object" "__setattr__" (.ref x) [.str sPrefixes tk, v] [] _ SF.kind SF.split sub (SF.args (.ref x) (.str sPrefixes tk) v) ?_)
  rw [osa_eq, refuse_eq]
  refine wpAny_bind (wpAny_bind (ty.here (wpAny_bind ((Looks.of_peek X (lineMro w)).here ?_))))
  rw [refuseLoop_ref, strPasses]
  refine wpAny_pure (wpAny_bind (ty.here (wpAny_bind ((Looks.of_peek X (linePref w)).here (wpAny_bind (wpAny_pure ?_))))))
  show wpAny _ _ (storeInOwnDict (.ref x) (.ref 194) (.str sPrefixes tk) sPrefixes v false) _ _ _
  have hC : s.heap.get? 194 = _ := X 194 _ (by rfl)
  refine wpAny_bind (wpAny_pure (wpAny_bind (wpAny_bind (wpAny_loadPart hx (wpAny_bind (wpAny_bind (wpAny_load hC (wpAny_pure ?_))))))))
  refine wpAny_pure (a := some dx) (wpAny_bind (wpAny_pure (wpAny_bind ?_)))
  unfold nsSet
  refine wpAny_bind (wpAny_bind (wpAny_askSetting (wpAny_pure (wpAny_bind (wpAny_mkText (wpAny_bind (wpAny_loadPart hdx ?_)))))))
  refine wpAny_updatePart hdx ?_
  refine wpAny_bind (wpAny_lookBehind (Heap.get?_update_self _ hdx rfl) (by rfl) ?_)
  refine wpAny_pure (h _ _ fun b o hb hbo => ?_)
  rw [Heap.get?_update_other _ _ (Ne.symm hb)]
  exact hbo
end
end Mine
end
section
open PySem PySem.W PyProof.Rows PySem.Calls
set_option maxRecDepth 100000
namespace Mine
section
variable {w : World} {A : Around} {s : Shared} {h₀ : Heap} {L : Addr} {m mg mb : Str → Option Value} {news : List (Addr × Obj)} {p : Program} {loose : List Str} {mean : ExcName → Option Value} {env : Env} {R : Result → Shared → Prop}
theorem lineInit {x dx : Addr} {tx t : Tok} (KX : (KL w).In h₀) (F : Fr h₀ L s.heap m) (N : News h₀ L s.heap ((x, lineObj dx tx) :: (dx, emptyDict) :: news)) (hap : ∀ p ∈ news, p.1 ≠ dx) (T : Top p loose mean mg mb h₀)
    (hA : A.frames = some [env]) (hf : env.frame = some L) (hke : env.scope.kind = .function) (hroom : A.depth < recursionLimit)
    (h : ∀ h' tk, Fr h₀ L h' m → News h₀ L h' news → R (.ok (.ret .none)) { s with heap := h', toks := tk + 1 }) :
    codeAny (model progL w) A (.call (.ref 159) ⟨[.ref x, .str sLine t, .none], []⟩) R s := by
  refine code_def (K := KL w) (f := 159) (outer := []) (binds := [(sSelf, .ref x), (sVal, .str sLine t), (sPrefixes, .none)]) (below_caller h₀) F KX N T hA hf hke (by rfl) (by rfl) hroom (BindsTo.of_eq rfl) (by
    intro y hy
    rcases List.mem_cons.mp hy with rfl | hy
    · rfl
    rcases List.mem_cons.mp hy with rfl | hy
    · rfl
    rcases List.mem_cons.mp hy with rfl | hy
    · rfl
    · cases hy) ?_ rfl rfl rfl (by decide)
  intro g L' h₁ FG F' N' B' X' T'
  refine wpAny_execs_cons (plainObj_wpAny_Assign_Attribute ?_ (by with_unfolding_all rfl))
  refine ld F' (v := .none) rfl ?_
  refine ld F' (v := .ref x) rfl ?_
  have X := X'.keeps F'.keep
  have hdx := N' (dx, emptyDict) (.tail _ (.head _))
  refine set_plain (od := some emptyDict) X ⟨(N' _ (.head _)).1, rfl, rfl, hdx.1⟩ (by rfl) (lineOsa (s := { s with heap := h₁, toks := _ }) X (N' _ (.head _)).1 hdx.1 fun h' tk' k => ?_)
  refine wpAny_execs_nil ?_
  refine leaveK_ (frBut F' hdx.2.1 hdx.2.2 k) (newsBut (fun q hq => N' q (.tail _ (.tail _ hq))) hap k) fun F₅ N₅ => ?_
  exact h h' tk' F₅ N₅
end
end Mine
end
section
open PySem PySem.W PyProof.Rows PySem.Calls
set_option maxRecDepth 100000
namespace Mine
theorem lineCall (w : World) : peek (KL w) ⟨progL, w.params⟩ (specialOf (.ref 194) "__call__") = some (some (.builtin "type.__call__")) := by kernel_rfl
theorem lineIsType (w : World) : peek (KL w) ⟨progL, w.params⟩ (isInstance (.ref 194) (.type "type")) = some true := by kernel_rfl
theorem lineMadeBy (w : World) : peek (KL w) ⟨progL, w.params⟩ (Bind.madeBy (.ref 194)) = some none := by kernel_rfl
theorem lineInitOf (w : World) : peek (KL w) ⟨progL, w.params⟩ (typeLookup (.ref 194) "__init__") = some (some (.ref 159)) := by kernel_rfl
theorem lineInitFn (w : World) : peek (KL w) ⟨progL, w.params⟩ (typeOf (.ref 159)) = some (.type "function") := by kernel_rfl
section
variable {w : World} {s : Shared} {h₀ : Heap} {L : Addr} {m mg mb : Str → Option Value} {news : List (Addr × Obj)} {p : Program} {loose : List Str} {mean : ExcName → Option Value} {env : Env} {Q : Value → Shared → Prop} {E : Value → Shared → Prop}
theorem lineTypeCall {t : Tok} {A : Around} {R : Fin → Shared → Prop} (KX : (KL w).In h₀) (F : Fr h₀ L s.heap m) (N : News h₀ L s.heap news) (T : Top p loose mean mg mb h₀)
    (hA : A.frames = some [env]) (hf : env.frame = some L) (hke : env.scope.kind = .function) (hroom : A.depth < recursionLimit)
    (hQ : ∀ a h' tk, Fr h₀ L h' m → News h₀ L h' news → R (.done (.ret (.ref a))) { s with heap := h', toks := tk + 1 }) :
    wpAny (model progL w) A (Builtin.«type.__call__» ⟨[.ref 194, .str sLine t, .none], []⟩) R E s := by
  have X := KX.keeps F.keep
  have l1 := Looks.of_peek (M := model progL w) X (lineMro w)
  have l2 := Looks.of_peek (M := model progL w) X (lineMadeBy w)
  unfold Builtin.«type.__call__»
  have ga : ∀ (Q : Value → Shared → Prop) (E : Value → Shared → Prop), Q (.ref 152) { s with toks := s.toks + 1 } → wpAny (model progL w) A (getAttr (.ref 194) "__new__") Q E s := fun Q E q =>
    cls_sm (K := KL w) F KX (by rfl) (by rfl) (by rfl) (by rfl) (by rfl) q
  repeat (first | (with_reducible refine ga _ _ ?_) | with_reducible refine wpAny_call ?_ | simp only [List.isEmpty_cons, Bool.false_eq_true, if_false] | lk)
  refine newCall (s := { s with toks := s.toks + 1 }) KX F N T hA hf hke hroom fun x dx tx h₁ tk₁ F₁ N₁ l₁ l₂ => ?_
  have X₁ := KX.keeps F₁.keep
  have ty : Looks (model progL w) h₁ (typeOf (.ref x)) (.ref 194) := (Looks.ld (N₁ _ (.head _)).1).andThen .now
  have sub := Looks.of_peek (M := model progL w) X₁ (lineSub w)
  have ini := Looks.of_peek (M := model progL w) X₁ (lineInitOf w)
  have bnd : Looks (model progL w) h₁ (bindSpecial (.ref 159) (.ref x)) (.ref 159, [.ref x]) := bind_fn X₁ (.ref x) (by rfl)
  show wpAny _ _ _ _ _ _
  unfold isInstance callSpecial? specialOf
  repeat (first | with_reducible refine wpAny_call ?_ | lk)
  refine lineInit (s := { s with heap := h₁, toks := tk₁ }) KX F₁ N₁ (fun q hq => Nat.ne_of_lt (l₁ q hq)) T hA hf hke hroom fun h₂ tk₂ F₂ N₂ => ?_
  exact wpAny_pure (wpAny_pure (hQ _ _ _ F₂ N₂))
theorem lineMadeK {t : Tok} (KX : (KL w).In h₀) (F : Fr h₀ L s.heap m) (N : News h₀ L s.heap news) (T : Top p loose mean mg mb h₀) (hf : env.frame = some L) (hke : env.scope.kind = .function)
    (hQ : ∀ a h' tk, Fr h₀ L h' m → News h₀ L h' news → Q (.ref a) { s with heap := h', toks := tk + 1 }) :
    wpAny (model progL w) (callerA.deeper env) (call (.ref 194) [.str sLine t, .none]) Q E s := by
  have X := KX.keeps F.keep
  have hC : s.heap.get? 194 = _ := X 194 _ (by rfl)
  refine wpAny_call (codeAny_of_tree ?_)
  show wpAny _ _ (callAny (.ref 194) _) _ _ _
  refine nd_load hC ?_
  show wpAny _ _ (callAny.viaDunder (.ref 194) _) _ _ _
  unfold callAny.viaDunder
  refine wpAny_bind ((Looks.of_peek X (lineCall w)).here ?_)
  dsimp only
  rw [tc_bind]
  refine wpAny_bind (wpAny_pure (wpAny_bind (wpAny_pure ?_)))
  refine wpAny_pure (a := Fin.again (.call (.builtin "type.__call__") ⟨[.ref 194, .str sLine t, .none], []⟩)) (And.intro rfl ?_)
  refine codeAny_call_builtin_at (Code.quiet_builtin _ (by decide +kernel)) entry_typeCall (check_slot tc_kind tc_split (Looks.of_peek X (lineIsType w)) (tc_args _ _ _) ?_)
  exact lineTypeCall KX F N T rfl hf hke (Nat.le_of_ble_eq_true rfl) hQ
end
end Mine
end
section
open PySem PySem.W PyProof.Rows
set_option maxRecDepth 100000
set_option maxHeartbeats 1500000
local macro_rules | `(tactic| walk_at "call ref") => `(tactic| (k_here; (with_reducible show wpAny _ _ (call (Value.ref 194) _) _ _ _); (refine' Mine.lineMadeK ?k1 ?k2 ?k3 ?k4 ?k5 ?k6 ?_); (case k1 => k_asm); (case k2 => k_asm); (case k3 => k_asm); (case k4 => k_asm); (case k5 => rfl); (case k6 => rfl); intro aL' h' tkL' F' N'))
local macro_rules | `(tactic| walk_at "call ref") => `(tactic| (k_here; (with_reducible show wpAny _ _ (call (Value.ref 46) _) _ _ _); (refine' Mine.errMadeK ?k1 ?k2 ?k3 ?k4 ?k5 ?k6 ?_); (case k1 => k_asm); (case k2 => k_asm); (case k3 => k_asm); (case k4 => k_asm); (case k5 => rfl); (case k6 => rfl); intro aE' h' tkE' F' N'))
theorem PySem.Challenge.cw_dm0031_12_holds : PySem.Challenge.rw_dm0031_12.Holds :=
 Mine.hd (by
  k_fill
  intro w s₀ s₁ mg mb G Y fa o pm cd doc dV kV ho hd hcd hD hmg hg args vals as hpre hlay hrd hwl hlo
  have KX := kIn_of Y
  have X := (Ground.X G).1
  have V := (Ground.X G).2
  try w_nolog (first | (have GL := glob_more (Ground.glob G (by first | k_qdec | decide +kernel) (by first | k_qdec | decide +kernel)) V) | (have GL := glob_more (Ground.glob G (by decide +kernel)) V))
  refine Ground.open G ?_
  intro T B D TE TW
  try (refine guard_noD D (by decide +kernel) ?_; clear D)
  obtain ⟨_, _, M⟩ := bmod_of_top T
  have TA := at_of_top T
  try (obtain ⟨_, _, he, B0⟩ := based_of_top T rfl hmg ho hd; have he' : cd = _ := he; subst he'; clear he)
  clear hmg
  wrow_args hpre hlay hrd hwl hlo
  refine Mine.enterC ?_
  w_top on
  have K0 := below_caller (Top.heap T)
  have he := Dflts.none hD rfl; subst he; have he := Dflts.noKw hD; subst he
  refine Mine.cellsC (by decide) ho (fd_plain hd) (Top.nolimit T) hcd rfl (kinds_of (by kinds_ok)) (by decide) fun h₁ tk₁ cells F N0 X0 => ?_
  cells_open X0
  clear hd TA
  k_drop
  (try k_fold)
  refine Mine.wpC_execs_consA ?_
  k_steps
  refine Mine.wpC_execs_consA ?_
  k_steps
  refine Mine.wpC_execs_consA ?_
  k_steps
  refine Mine.wpC_execs_consA ?_
  k_steps
  dsimp only [List.cons_append, List.nil_append]
  k_steps
  refine Mine.wpC_execs_cons ?_
  rename_i F9 N9
  have N10 := Mine.pull N9 14 rfl
  dsimp only [List.eraseIdx] at N10
  clear N9
  refine' Mine.lawFor ?LE ?LS F9 N10 ?hap ?hox ?hct ?hot ?htl ?hlen ?hok ?hcl ?M0 ?M1 ?M2 ?M3 ?vc ?ha ?hI ?hn ?va ?ka ?fold ?done
  case LE => (refine' Mine.lawEnv KX T ⟨rfl, rfl, rfl, rfl, rfl, rfl, rfl, rfl, rfl, rfl, rfl, rfl, rfl, rfl, rfl, rfl, rfl⟩ ?e1 ?e2 ?e3 ?e4 ?e5 ?e6 ?e7 ?e8 ?e9 ?e10 ?e11 ?e12 ?e13 ?e14 ?e15 ?e16 ?e17 ?e18 ?e19 ?e20); (case e1 => k_is); (case e2 => k_is); (case e3 => k_is); (case e4 => k_is); (case e5 => k_is); (case e6 => rfl); (case e7 => rfl); (case e8 => k_is); (case e9 => k_is); (case e10 => intro _ _ _ _ _ _; exact BindsTo.of_eq rfl); (case e11 => rfl); (case e12 => rfl); (case e13 => rfl); (case e14 => rfl); (case e15 => rfl); (case e16 => rfl); (case e17 => rfl); (case e18 => decide); (case e19 => rfl); (case e20 => intro s9 hF9; obtain ⟨_, hF9⟩ := hF9; exact PylongRoom.of (Heap.NoLimit.keeps (Top.nolimit T) (Fr.keep hF9)) (by decide : callerA.depth + 1 + _ < _))
  case hox => assumption
  case hct => k_mem
  case hot => assumption
  case htl => k_mem
  case vc => rfl
  case hcl => k_mem
  case hap => (repeat (refine Mine.ap_cons (by first | exact Nat.ne_of_gt (by omega) | exact Nat.ne_of_lt (by omega)) ?_)); exact Mine.ap_nil
  case hlen => rfl
  case hok => (repeat (refine Mine.ok_cons (by first | exact True.intro | exact Nat.succ_ne_zero _ | exact ⟨Nat.succ_ne_zero _, rfl⟩ | (refine Nat.ne_of_gt (by omega)) | (refine And.intro (Nat.ne_of_gt (by omega)) rfl)) ?_)); exact Mine.ok_nil
  case M0 => (refine' Mine.methodAt KX ?ma1 ?ma2 .get ?ma0 ?ma3 ?ma4 ?ma5 ?ma6 ?ma7 ?ma8 ?ma9 ?ma10 ?ma11 ?ma12); (case ma1 => k_mem); (case ma2 => k_is); (case ma0 => rfl); (case ma3 => rfl); (case ma4 => exact ⟨rfl, rfl, rfl, rfl⟩); (case ma5 => rfl); (case ma6 => k_is); (case ma7 => rfl); (case ma8 => decide); (case ma9 => decide); (case ma10 => rfl); (case ma11 => rfl); (case ma12 => rfl)
  case M1 => (refine' Mine.methodAt KX ?mb1 ?mb2 .set ?mb0 ?mb3 ?mb4 ?mb5 ?mb6 ?mb7 ?mb8 ?mb9 ?mb10 ?mb11 ?mb12); (case mb1 => k_mem); (case mb2 => k_is); (case mb0 => rfl); (case mb3 => rfl); (case mb4 => exact ⟨rfl, rfl, rfl, rfl⟩); (case mb5 => rfl); (case mb6 => k_is); (case mb7 => rfl); (case mb8 => decide); (case mb9 => decide); (case mb10 => rfl); (case mb11 => rfl); (case mb12 => rfl)
  case M2 => (refine' Mine.methodAt KX ?mc1 ?mc2 .read ?mc0 ?mc3 ?mc4 ?mc5 ?mc6 ?mc7 ?mc8 ?mc9 ?mc10 ?mc11 ?mc12); (case mc1 => k_mem); (case mc2 => k_is); (case mc0 => rfl); (case mc3 => rfl); (case mc4 => exact ⟨rfl, rfl, rfl, rfl⟩); (case mc5 => rfl); (case mc6 => k_is); (case mc7 => rfl); (case mc8 => decide); (case mc9 => decide); (case mc10 => rfl); (case mc11 => rfl); (case mc12 => rfl)
  case M3 => (refine' Mine.methodAt KX ?md1 ?md2 .write ?md0 ?md3 ?md4 ?md5 ?md6 ?md7 ?md8 ?md9 ?md10 ?md11 ?md12); (case md1 => k_mem); (case md2 => k_is); (case md0 => rfl); (case md3 => rfl); (case md4 => exact ⟨rfl, rfl, rfl, rfl⟩); (case md5 => rfl); (case md6 => k_is); (case md7 => rfl); (case md8 => decide); (case md9 => decide); (case md10 => rfl); (case md11 => rfl); (case md12 => rfl)
  case ha => assumption
  case hI => assumption
  case hn => omega
  case va => rfl
  case ka => rfl
  case fold => intro _; rfl
  case LS =>
    (refine' Mine.LawSwaps.mk ?ls_hline ?ls_s1 ?ls_s2 ?ls_s3 ?ls_base ?ls_s4 ?ls_lt ?ls_lx ?ls_hk ?ls_clos ?ls_cell ?ls_kind ?ls_names ?ls_hx ?ls_fold4 ?ls_s5 ?ls_s6 ?ls_s7 ?ls_fold7 ?ls_s8 ?ls_s9)
    case ls_clos => rfl
    case ls_hline => with_unfolding_all rfl
    case ls_s1 => with_unfolding_all rfl
    case ls_s2 => with_unfolding_all rfl
    case ls_s3 => with_unfolding_all rfl
    case ls_base => with_unfolding_all rfl
    case ls_s4 => with_unfolding_all rfl
    case ls_lt => rfl
    case ls_lx => rfl
    case ls_hk => intro C; exact ⟨rfl, rfl, rfl, rfl⟩
    case ls_cell => decide
    case ls_kind => with_unfolding_all rfl
    case ls_names => decide
    case ls_hx => with_unfolding_all rfl
    case ls_fold4 => intro _; rfl
    case ls_s5 => with_unfolding_all rfl
    case ls_s6 => with_unfolding_all rfl
    case ls_s7 => with_unfolding_all rfl
    case ls_fold7 => intro _; rfl
    case ls_s8 => with_unfolding_all rfl
    case ls_s9 => with_unfolding_all rfl
  case done =>
    intro h9 tk9 m9 oc9 F9' N9'
    clear N10 F9
    dsimp only
    refine Mine.wpC_execs_consA ?_
    k_steps
    k_here
    (refine' Mine.endEq ?q1 ?q2 ?q3 ?q4 ?q5 ?q6 ?q7 ?q8 ?q9 ?q10 ?q11 ?q12 ?q13 ?q14 ?_)
    (case q1 => k_asm)
    (case q2 => k_mem)
    (case q3 => k_mem)
    (case q4 => k_mem)
    (case q5 => k_mem)
    (case q6 => k_mem)
    (case q7 => k_mem)
    (case q8 => assumption)
    (case q9 => assumption)
    (case q10 => assumption)
    (case q11 => assumption)
    (case q12 => first | exact Nat.ne_of_lt (by omega) | exact Nat.ne_of_gt (by omega))
    (case q13 => dsimp only; first | exact Nat.ne_of_lt (by omega) | exact Nat.ne_of_gt (by omega))
    (case q14 => exact Nat.le_of_ble_eq_true rfl)
    dsimp only
    (refine' goodW_bool ?z1 ?z2 (raisesW_false ?z3) ?z4)
    (case z1 => with_reducible assumption)
    (case z2 => exact hg)
    (case z3 => wrow_none_raised)
    (case z4 => (refine' postW_of ?z5 ?z6 ?z7; (case z5 => o_shape); (case z6 => wtm_val); (case z7 => first | rfl | w_fin))))
end
