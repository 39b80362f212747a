import PyProof.Rows.All
import Wide.All
import OpenK.AllK
import Wide.FinOn
import PySem.Challenge.RW_qu0017_01
open PySem PySem.W PyProof.Rows PySem.Calls
set_option Elab.async false
set_option maxRecDepth 100000
namespace Mine
set_option maxRecDepth 100000
set_option maxHeartbeats 8000000
open_top hd for PySem.Challenge.rw_qu0017_01
end Mine
namespace Mine

/-- the written part of the heap -/
noncomputable abbrev KK (w : World) : Frag := hd.heap_39 w.params

/-- what stands under every call of the law's -/
structure Amb (w : World) (h : Heap) : Prop where
  K : (KK w).In h
  T : ∃ p loose mean mg mb, Top p loose mean mg mb h
  C : CodeHd h 41 37

/-- all of h stands in h' -/
noncomputable def Ext (h h' : Heap) : Prop := ∀ b o, h.get? b = some o → h'.get? b = some o
theorem Ext.refl (h : Heap) : Ext h h := fun _ _ e => e
theorem Ext.trans {a b c : Heap} (x : Ext a b) (y : Ext b c) : Ext a c := fun p o e => y p o (x p o e)
theorem Ext.push (h : Heap) (o : Obj) : Ext h (h.push o) := fun _ _ e => Heap.get?_push_of_some _ e

theorem Amb.keeps {w : World} {h h' : Heap} (B : Amb w h) (k : Ext h h') : Amb w h' :=
  ⟨B.K.keeps k, let ⟨p, l, mn, mg, mb, T⟩ := B.T; ⟨p, l, mn, mg, mb, T.keeps k⟩, B.C.keeps k⟩
theorem Amb.nolimit {w : World} {h : Heap} (B : Amb w h) : h.NoLimit := let ⟨_, _, _, _, _, T⟩ := B.T; T.nolimit

/-- room for calls -/
structure Room (A : Around) (d : Nat) : Prop where
  handled : A.handled = none
  depth : A.depth + d < recursionLimit
  units : A.units + 4 * d < cLine
theorem Room.deeper {A : Around} {d : Nat} {env : Env} (r : Room A (d + 1)) : Room (A.deeper env) d :=
  ⟨r.handled, by have := r.depth; rw [depth_deeper]; omega, by have := r.units; rw [units_deeper]; omega⟩
theorem Room.in1 {A : Around} {d : Nat} (r : Room A (d + 1)) : Room A.in1 d :=
  ⟨r.handled, by have := r.depth; rw [depth_in1]; omega, by have := r.units; rw [units_in1]; omega⟩
theorem Room.less {A : Around} {d e : Nat} (r : Room A d) (h : e ≤ d) : Room A e :=
  ⟨r.handled, by have := r.depth; omega, by have := r.units; omega⟩

/-- the def at a -/
noncomputable def fnAt (w : World) (a : Addr) : FuncData := match (KK w).lookup a with
  | some ⟨_, _, .func f, _⟩ => f
  | _ => default
noncomputable def obAt (w : World) (a : Addr) : Obj := ((KK w).lookup a).getD default

section
variable {M : Model} {A : Around} {E : Value → Shared → Prop} {s : Shared} {w : World} {env : Env} {x : Str} {pos : Pos} {v : Value} {Q : Value → Shared → Prop}

theorem gname (B : Amb w s.heap) (e : nsIn (KK w) mainGlobals x = some (some v)) (h : Q v s) (hg : env.globals = mainGlobals := by kernel_rfl) (hk : env.scope.kind = .function := by kernel_rfl)
    (hx : env.kindOf x = some .globalImplicit := by kernel_rfl) (hd : (x == ("__debug__" : Str)) = false := by decide) : wpAny M A (eval (.Name x pos) env) Q E s := by
  obtain ⟨_, _, _, mg, mb, T⟩ := B.T
  exact Name_function_global hk hx (loadGlobal_global (env := env) (by rw [hg]; exact T.g) (mg_of B.K T.g e) h) hd
theorem bname (B : Amb w s.heap) (e : nsIn (KK w) mainGlobals x = some none) (hv : bootBuiltins x = some v) (h : Q v s) (hn : x ≠ "__name__" := by decide) (hg : env.globals = mainGlobals := by kernel_rfl) (hb : env.builtins = builtinsNs := by kernel_rfl) (hk : env.scope.kind = .function := by kernel_rfl)
    (hx : env.kindOf x = some .globalImplicit := by kernel_rfl) (hd : (x == ("__debug__" : Str)) = false := by decide) : wpAny M A (eval (.Name x pos) env) Q E s := by
  obtain ⟨_, _, _, mg, mb, T⟩ := B.T
  exact Name_function_global hk hx (loadGlobal_builtin (env := env) (by rw [hg]; exact T.g) (mg_none_of B.K T.g e) (by rw [hb]; exact T.b) ((T.builtins x hn).trans hv) h) hd
theorem lname {m : Str → Option Value} (F : s.heap.Ns env.locals m) (hv : m x = some v) (h : Q v s) (hk : env.scope.kind = .function := by kernel_rfl)
    (hx : env.kindOf x = some .local := by kernel_rfl) (hd : (x == ("__debug__" : Str)) = false := by decide) : wpAny M A (eval (.Name x pos) env) Q E s :=
  wpAny_Name (wpAny_loadName_local hk hx F hv h) hd
theorem cname {c : Addr} (hc : env.cells.lookup x = some c) (F : s.heap.IsCell c (some v)) (h : Q v s) (hk : env.scope.kind = .function := by kernel_rfl)
    (hx : env.kindOf x = some .cell := by kernel_rfl) (hd : (x == ("__debug__" : Str)) = false := by decide) : wpAny M A (eval (.Name x pos) env) Q E s :=
  wpAny_Name (wpAny_loadName_cell hk hx hc F h) hd
theorem fname {c : Addr} (hc : env.cells.lookup x = some c) (F : s.heap.IsCell c (some v)) (h : Q v s) (hk : env.scope.kind = .function := by kernel_rfl)
    (hx : env.kindOf x = some .free := by kernel_rfl) (hd : (x == ("__debug__" : Str)) = false := by decide) (hn : (x == ("__classdict__" : Str)) = false := by decide) : wpAny M A (eval (.Name x pos) env) Q E s :=
  wpAny_Name (wpAny_loadName_free hk hx hc F h hn) hd
end

/-- a text of the letters a and b -/
noncomputable def ab (l : List Bool) : Str := ⟨(l.map fun b => if b then 98 else 97).toArray⟩
/-- k figures of n, the highest first -/
noncomputable def bits (n : Nat) : Nat → List Bool
  | 0 => []
  | k + 1 => bits (n / 2) k ++ [decide (n % 2 = 1)]
theorem bits_length (n k : Nat) : (bits n k).length = k := by
  induction k generalizing n with
  | zero => rfl
  | succ k ih => simp [bits, ih]
theorem ab_append (a b : List Bool) : ab (a ++ b) = ab a ++ ab b := by
  apply Str.ext'
  rw [Str.cps_append]; simp [ab]
theorem ab_length (l : List Bool) : (ab l).length = l.length := by simp [ab, Str.length]
theorem ab_inj {a b : List Bool} (h : ab a = ab b) : a = b := by
  have h1 : a.map (fun b => if b then 98 else 97) = b.map (fun b => if b then 98 else 97) := by
    have := congrArg (fun x : Str => x.cps.toList) h
    simpa [ab] using this
  clear h
  induction a generalizing b with
  | nil => cases b with | nil => rfl | cons _ _ => simp at h1
  | cons x a ih =>
    cases b with
    | nil => simp at h1
    | cons y b =>
      simp only [List.map_cons, List.cons.injEq] at h1
      obtain ⟨e, r⟩ := h1
      rw [ih r]
      cases x <;> cases y <;> simp_all

theorem Keeps.refl' (s : Shared) : Keeps s s := ⟨s.heap, s.toks, rfl, fun _ _ e => e⟩
/-- the letter of a figure -/
noncomputable def letter (b : Bool) : Str := ⟨#[if b then 98 else 97]⟩
theorem ab_cons (b : Bool) (l : List Bool) : ab (b :: l) = letter b ++ ab l := by
  apply Str.ext'
  rw [Str.cps_append]; simp [ab, letter]
theorem ab_item {prog : Program} {w : World} {A : Around} {E : Value → Shared → Prop} {s : Shared} {value slice : PySem.Expr} {t u : Tok} {b : Bool} {i : Int} {Q : Value → Shared → Prop} (hi : i = if b then 1 else 0)
    (h : Q (.str (letter b) s.toks) { s with toks := s.toks + 1 })
    (hs : subscripted slice false (.str "ab" t) (.int i u) = operate [.str "ab" t, .int i u] (getItem (.str "ab" t) (.int i u)) := by with_unfolding_all rfl)
    (ht : ∀ r, letTemporaryGo value (.str "ab" t) r = pure () := by intro _; with_unfolding_all rfl) :
    wpAny (model prog w) A (subscriptTail value slice (.str "ab" t) (.int i u)) Q E s := by
  refine KXi.item (n := 2) (by decide) ?_ ?_ (by decide) (fun _ => ?_) hs ht
  · rw [hi]; cases b <;> decide
  · rw [hi]; cases b <;> decide
  · have e : Txt.item (Str.ofString "ab") i = letter b := by rw [hi]; cases b <;> decide +kernel
    rw [e]; exact h
theorem join_ab : ∀ (l : List Bool) (ys : List Str), ys = l.map letter → Txt.join (Str.ofString "") ys = ab l := by
  intro l ys e
  subst e
  apply Str.ext'
  unfold Txt.join Builtin.Str.glued
  cases l with
  | nil => rfl
  | cons b l =>
    simp only [List.map_cons, List.drop_succ_cons, List.drop_zero, List.headD_cons]
    have : ∀ (l : List Bool) (acc : Array Nat), (l.map letter).foldl (fun acc p => acc ++ (Str.ofString "").cps ++ p.cps) acc = acc ++ (ab l).cps := by
      intro l
      induction l with
      | nil => intro acc; simp [ab]
      | cons b l ih =>
        intro acc
        rw [List.map_cons, List.foldl_cons, ih, ab_cons, Str.cps_append]
        have e0 : (Str.ofString "").cps = #[] := by decide
        rw [e0]; simp
    rw [this, ab_cons, Str.cps_append]

theorem bits_get (N K j : Nat) (h : j < K) : (bits N K)[j]? = some (decide (N / 2 ^ (K - 1 - j) % 2 = 1)) := by
  induction K generalizing N with
  | zero => omega
  | succ K ih =>
    rw [bits]
    by_cases hj : j < K
    · rw [List.getElem?_append_left (by rw [bits_length]; exact hj), ih _ hj]
      have e : K + 1 - 1 - j = (K - 1 - j) + 1 := by omega
      rw [e, Nat.pow_succ, Nat.mul_comm, ← Nat.div_div_eq_div_mul]
    · have e : j = K := by omega
      subst e
      rw [List.getElem?_append_right (by rw [bits_length]; exact Nat.le_refl _), bits_length]
      simp
theorem strsAre_of_get : ∀ {vs : List Value} {ys : List Str}, vs.length = ys.length → (∀ (j : Nat) (v : Value) (y : Str), vs[j]? = some v → ys[j]? = some y → ∃ t : Tok, v = Value.str y t) → StrsAre vs ys
  | [], [], _, _ => .nil
  | [], _ :: _, h, _ => by simp at h
  | _ :: _, [], h, _ => by simp at h
  | v :: vs, y :: ys, h, k => by
    obtain ⟨t, rfl⟩ := k 0 v y rfl rfl
    exact .cons y t (strsAre_of_get (by simpa using h) fun j v' y' e1 e2 => k (j + 1) v' y' (by simpa using e1) (by simpa using e2))
theorem intsAre_of_get : ∀ {vs : List Value} {ys : List Int}, vs.length = ys.length → (∀ (j : Nat) (v : Value) (y : Int), vs[j]? = some v → ys[j]? = some y → ∃ t : Tok, v = Value.int y t) → IntsAre vs ys
  | [], [], _, _ => .nil
  | [], _ :: _, h, _ => by simp at h
  | _ :: _, [], h, _ => by simp at h
  | v :: vs, y :: ys, h, k => by
    obtain ⟨t, rfl⟩ := k 0 v y rfl rfl
    exact .cons y t (intsAre_of_get (by simpa using h) fun j v' y' e1 e2 => k (j + 1) v' y' (by simpa using e1) (by simpa using e2))
theorem Paired.get {α β : Type} {F : α → β → Prop} : ∀ {l : List α} {m : List β}, Paired F l m → ∀ (j : Nat) (b : β), m[j]? = some b → ∃ a, l[j]? = some a ∧ F a b
  | _, _, .nil, j, b, h => by simp at h
  | _, _, .cons h t, 0, b, e => by simp at e; subst e; exact ⟨_, rfl, h⟩
  | _, _, .cons h t, j + 1, b, e => by
    obtain ⟨a, e1, e2⟩ := Paired.get t j b (by simpa using e)
    exact ⟨a, by simpa using e1, e2⟩

theorem fdiv_nat (a b : Nat) : Int.fdiv (a : Int) (b : Int) = ((a / b : Nat) : Int) := by
  rw [Int.fdiv_eq_ediv_of_nonneg _ (Int.natCast_nonneg b)]; exact (Int.natCast_ediv a b).symm
theorem fmod_nat (a b : Nat) : Int.fmod (a : Int) (b : Int) = ((a % b : Nat) : Int) := by
  rw [Int.fmod_eq_emod_of_nonneg _ (Int.natCast_nonneg b)]; exact (Int.natCast_emod a b).symm
theorem pow_nat (k : Nat) : (2 : Int) ^ k = ((2 ^ k : Nat) : Int) := by simp
theorem letter_length (b : Bool) : (letter b).length = 1 := rfl
theorem letters_sum (l : List Bool) : ((l.map letter).map (·.length)).sum = l.length := by
  induction l with
  | nil => rfl
  | cons b l ih => simp only [List.map_cons, List.sum_cons, letter_length, ih, List.length_cons]; omega

/-- the value that a body hands back -/
noncomputable def retOf : Flow → Value
  | .ret v => v
  | _ => .none
theorem enter {prog : Program} {w : World} {A : Around} {E : Value → Shared → Prop} {s : Shared} {d : Nat} {a : Addr} {body : List Stmt} {vals : List Value} {Q : Value → Shared → Prop} (binds : List (Str × Value)) (B : Amb w s.heap) (r : Room A (d + 1))
    (hb : (fnAt w a).body = .stmts body)
    (h : ∀ h₁ tk₁, h₁.Ns s.heap.objs.size (fun x => binds.reverse.lookup x) → Ext s.heap h₁ →
      wpAny (model prog w) (A.deeper (callEnv (fnAt w a) s.heap.objs.size a)) (execs body (callEnv (fnAt w a) s.heap.objs.size a)) (fun f s' => Q (retOf f) s') (fun _ _ => False) { s with heap := h₁, toks := tk₁ })
    (hl : (KK w).lookup a = some (obAt w a) := by kernel_rfl) (hd : (obAt w a).data = .func (fnAt w a) := by kernel_rfl) (hc : codeIn (KK w) (fnAt w a).code (fnAt w a).qualname = true := by kernel_rfl)
    (hbind : bindArgs (fnAt w a) ⟨vals, []⟩ = pure binds := by kernel_rfl) (hcell : ((fnAt w a).scope.names.all fun x => x.2 != .cell) = true := by kernel_rfl) (hloc : (binds.all fun x => (fnAt w a).scope.names.lookup x.1 == some .local) = true := by kernel_rfl)
    (co : (fnAt w a).scope.isCoroutine = false := by kernel_rfl) (gen : (fnAt w a).scope.isGenerator = false := by kernel_rfl) (kind : (fnAt w a).scope.kind = .function := by kernel_rfl) :
    wpAny (model prog w) A (call (.ref a) vals) Q E s := by
  refine wpAny_call (codeAny_call_def (fd := fnAt w a) (o := obAt w a) (by have := r.depth; omega) (B.K _ _ hl) hd B.nolimit (codeRec_of B.K hc) hb (BindsTo.of_eq hbind) ?_ ?_ (fun h₁ hn hk => ?_) co gen kind)
  · intro x hx e
    have := List.all_eq_true.mp hcell x hx
    rw [e] at this; exact absurd this (by decide)
  · intro x hx
    have := List.all_eq_true.mp hloc x hx
    simpa using this
  · refine wpAny_mono (h h₁ _ hn hk) (fun f s' hq => ?_) fun _ _ x => x.elim
    cases f <;> exact hq

/-- a def whose frame keeps cells -/
theorem enterC {prog : Program} {w : World} {A : Around} {E : Value → Shared → Prop} {s : Shared} {d : Nat} {a : Addr} {body : List Stmt} {vals : List Value} {Q : Value → Shared → Prop} (binds : List (Str × Value)) (B : Amb w s.heap) (r : Room A (d + 1))
    (hb : (fnAt w a).body = .stmts body)
    (h : ∀ h₁ tk₁, h₁.Ns s.heap.objs.size (bindL (callEnvC (fnAt w a) s.heap.objs.size a).kindOf binds fun _ => none) → Ext s.heap h₁ →
      (∀ n c, (cellsFrom (s.heap.objs.size + 1) (fnAt w a).scope.names []).lookup n = some c → h₁.IsCell c (bindC (callEnvC (fnAt w a) s.heap.objs.size a).kindOf binds (fun _ => none) n)) →
      wpAny (model prog w) (A.deeper (callEnvC (fnAt w a) s.heap.objs.size a)) (execs body (callEnvC (fnAt w a) s.heap.objs.size a)) (fun f s' => Q (retOf f) s') (fun _ _ => False) { s with heap := h₁, toks := tk₁ })
    (hkind : (binds.all fun x => (fnAt w a).scope.names.lookup x.1 == some .local || (fnAt w a).scope.names.lookup x.1 == some .cell) = true := by kernel_rfl)
    (hl : (KK w).lookup a = some (obAt w a) := by kernel_rfl) (hd : (obAt w a).data = .func (fnAt w a) := by kernel_rfl) (hc : codeIn (KK w) (fnAt w a).code (fnAt w a).qualname = true := by kernel_rfl)
    (hbind : bindArgs (fnAt w a) ⟨vals, []⟩ = pure binds := by kernel_rfl) (clos : (fnAt w a).closure = [] := by kernel_rfl)
    (co : (fnAt w a).scope.isCoroutine = false := by kernel_rfl) (gen : (fnAt w a).scope.isGenerator = false := by kernel_rfl) (kind : (fnAt w a).scope.kind = .function := by kernel_rfl) :
    wpAny (model prog w) A (call (.ref a) vals) Q E s := by
  refine wpAny_call (codeAny_call_cells (fd := fnAt w a) (o := obAt w a) (by have := r.depth; omega) (B.K _ _ hl) hd B.nolimit (codeRec_of B.K hc) hb hbind clos (kindsX hkind _) (fun s₁ X => ?_) co gen kind)
  obtain ⟨h₁, tk₁, rfl, hk₁⟩ := X.done
  refine wpAny_mono (h h₁ _ X.toInCall.ns hk₁ X.cell) (fun f s' hq => ?_) fun _ _ x => x.elim
  cases f <;> exact hq

/-- a def that the call has made -/
theorem enterX {prog : Program} {w : World} {A : Around} {E : Value → Shared → Prop} {s : Shared} {d : Nat} {f : Addr} {o : Obj} {fd : FuncData} {body : List Stmt} {vals : List Value} {Q : Value → Shared → Prop} (binds : List (Str × Value)) (B : Amb w s.heap) (r : Room A (d + 1))
    (ho : s.heap.get? f = some o) (hd : o.data = .func fd) (hrec : s.heap.CodeRec fd.code fd.qualname) (hb : fd.body = .stmts body)
    (hbind : bindArgs fd ⟨vals, []⟩ = pure binds) (hcell : (fd.scope.names.all fun x => x.2 != .cell) = true) (hloc : (binds.all fun x => fd.scope.names.lookup x.1 == some .local) = true)
    (co : fd.scope.isCoroutine = false) (gen : fd.scope.isGenerator = false) (kind : fd.scope.kind = .function)
    (h : ∀ h₁ tk₁, h₁.Ns s.heap.objs.size (fun x => binds.reverse.lookup x) → Ext s.heap h₁ →
      wpAny (model prog w) (A.deeper (callEnv fd s.heap.objs.size f)) (execs body (callEnv fd s.heap.objs.size f)) (fun f s' => Q (retOf f) s') (fun _ _ => False) { s with heap := h₁, toks := tk₁ }) :
    wpAny (model prog w) A (call (.ref f) vals) Q E s := by
  refine wpAny_call (codeAny_call_def (fd := fd) (o := o) (by have := r.depth; omega) ho hd B.nolimit hrec hb (BindsTo.of_eq hbind) ?_ ?_ (fun h₁ hn hk => ?_) co gen kind)
  · intro x hx e
    have := List.all_eq_true.mp hcell x hx
    rw [e] at this; exact absurd this (by decide)
  · intro x hx
    have := List.all_eq_true.mp hloc x hx
    simpa using this
  · refine wpAny_mono (h h₁ _ hn hk) (fun f s' hq => ?_) fun _ _ x => x.elim
    cases f <;> exact hq

theorem asg {M : Model} {A : Around} {E : Value → Shared → Prop} {s : Shared} {env : Env} {x : Str} {pos' pos : Pos} {value : Expr} {Q : Flow → Shared → Prop}
    (h : wpAny M A (eval value env) (fun v s₁ => ∃ m, s₁.heap.Ns env.locals m ∧ ∀ h', h'.Ns env.locals (fun y => if y = x then some v else m y) → Heap.SameBut env.locals s₁.heap h' → Q .next { s₁ with heap := h', toks := s₁.toks + 1 }) E s)
    (hx : env.kindOf x = some .local := by kernel_rfl) (hk : (env.scope.kind == .class || (env.scope.kind == .module && env.locals != env.globals)) = false := by kernel_rfl)
    (hs : swapsWith value (some (.Name x pos')) pos.line env = pure false := by rfl) : wpAny M A (exec (.Assign [.Name x pos'] value pos) env) Q E s := by
  refine wpAny_Assign_Name (wpAny_mono h (fun v s₁ h₁ => ?_) fun _ _ e => e) hs
  obtain ⟨m, hn, h₁⟩ := h₁
  exact wpAny_storeName_local hx hn h₁ hk
theorem high_and (x k : Nat) : x &&& (x / 2 ^ k * 2 ^ k) = x / 2 ^ k * 2 ^ k := by
  apply Nat.eq_of_testBit_eq
  intro i
  rw [Nat.testBit_and, Nat.mul_comm, Nat.testBit_two_pow_mul, Nat.testBit_div_two_pow]
  by_cases h : i < k
  · simp [Nat.not_le.mpr h]
  · have h' : k ≤ i := by omega
    simp [h']
theorem low_bits (x k : Nat) : Builtin.bitXor (x : Int) ((x / 2 ^ k * 2 ^ k : Nat) : Int) = ((x % 2 ^ k : Nat) : Int) := by
  rw [bitXor_and]
  have e : Builtin.bitAnd (x : Int) ((x / 2 ^ k * 2 ^ k : Nat) : Int) = ((x &&& (x / 2 ^ k * 2 ^ k) : Nat) : Int) := by
    unfold Builtin.bitAnd
    rw [decide_eq_true (Int.natCast_nonneg x), decide_eq_true (Int.natCast_nonneg (x / 2 ^ k * 2 ^ k))]
    simp only [Int.toNat_natCast]
  rw [e, high_and]
  have h := Nat.div_add_mod x (2 ^ k)
  rw [Nat.mul_comm] at h
  omega

theorem asgC {M : Model} {A : Around} {E : Value → Shared → Prop} {s : Shared} {env : Env} {x : Str} {c : Addr} {pos' pos : Pos} {value : Expr} {Q : Flow → Shared → Prop} (hc : env.cells.lookup x = some c)
    (h : wpAny M A (eval value env) (fun v s₁ => ∃ v₀, s₁.heap.IsCell c v₀ ∧ ∀ h', h'.IsCell c (some v) → Heap.SameBut c s₁.heap h' → Q .next { s₁ with heap := h' }) E s)
    (hx : env.kindOf x = some .cell := by kernel_rfl) (hk : env.scope.kind = .function := by kernel_rfl)
    (hs : swapsWith value (some (.Name x pos')) pos.line env = pure false := by rfl) : wpAny M A (exec (.Assign [.Name x pos'] value pos) env) Q E s := by
  refine wpAny_Assign_Name (wpAny_mono h (fun v s₁ h₁ => ?_) fun _ _ e => e) hs
  obtain ⟨v₀, hn, h₁⟩ := h₁
  exact wpAny_storeName_cell hk hx hc hn h₁
theorem foldl_rep (v : Value) (k : Nat) : List.foldl (fun x1 x2 => x1 ++ x2) #[] (List.replicate (if (#[v] : Array Value).isEmpty = true then 0 else k) #[v]) = Array.replicate k v := by
  have : ∀ (k : Nat) (acc : Array Value), List.foldl (fun x1 x2 => x1 ++ x2) acc (List.replicate k #[v]) = acc ++ Array.replicate k v := by
    intro k
    induction k with
    | zero => intro acc; simp
    | succ k ih =>
      intro acc
      rw [List.replicate_succ, List.foldl_cons, ih]
      apply Array.toList_inj.mp
      simp [List.replicate_succ]
  simp only [List.isEmpty_toArray, List.isEmpty_cons, Bool.false_eq_true, if_false]
  rw [this]; simp

/-- every object of h but the frame's -/
noncomputable def allBut (L : Addr) (h : Heap) : List (Addr × Obj) := (List.range h.objs.size).filterMap fun b => if b = L then none else (h.get? b).map fun o => (b, o)
theorem allBut_mem {L : Addr} {h : Heap} {b : Addr} {o : Obj} (hb : b ≠ L) (e : h.get? b = some o) : (b, o) ∈ allBut L h := by
  refine List.mem_filterMap.mpr ⟨b, List.mem_range.mpr (Heap.lt_size e), ?_⟩
  rw [if_neg hb, e]; rfl
theorem allBut_of {L : Addr} {h : Heap} {p : Addr × Obj} (hp : p ∈ allBut L h) : p.1 ≠ L ∧ h.get? p.1 = some p.2 := by
  obtain ⟨b, _, e⟩ := List.mem_filterMap.mp hp
  by_cases hb : b = L
  · rw [if_pos hb] at e; cases e
  · rw [if_neg hb] at e
    obtain ⟨o, eo, rfl⟩ := Option.map_eq_some_iff.mp e
    exact ⟨hb, eo⟩
theorem none0 (b : Addr) : ({} : Heap).get? b = none := Heap.get?_none_of_le (Nat.zero_le _)
theorem fr0 {L : Addr} {h : Heap} {m : Str → Option Value} (n : h.Ns L m) : Fr {} L h m := ⟨n, (fun b o e => by rw [none0] at e; cases e), Nat.zero_le _⟩
theorem news0 {L : Addr} {h : Heap} : News {} L h (allBut L h) := fun p hp => ⟨(allBut_of hp).2, (allBut_of hp).1, none0 _⟩
/-- what a step that makes things alone leaves: the frame's names, all else -/
theorem back0 {L : Addr} {h h' : Heap} {m : Str → Option Value} {new : List (Addr × Obj)} (F : Fr {} L h' m) (N : News {} L h' (new ++ allBut L h)) : h'.Ns L m ∧ ∀ b o, b ≠ L → h.get? b = some o → h'.get? b = some o :=
  ⟨F.ns, fun b o hb e => (N (b, o) (List.mem_append_right _ (allBut_mem hb e))).1⟩
theorem fresh_le {h : Heap} {b : Nat} (hb : h.objs.size ≤ b) : h.get? b = none := Heap.get?_none_of_le hb

theorem newList' {M : Model} {A : Around} {E : Value → Shared → Prop} {s : Shared} {vs : List Value} {Q : Value → Shared → Prop}
    (h : ∀ h' D, Ext s.heap h' → s.heap.get? D = none → h'.get? D = some { cls := .type "list", data := .seq vs.toArray } → Q (.ref D) { s with heap := h' }) (hsz : vs.length ≤ sizeLine := by size_fits) :
    wpAny M A (newList vs) Q E s :=
  wpAny_newObj_type (h _ _ (Ext.push _ _) (fresh_le (Nat.le_refl _)) (Heap.get?_push_size _ rfl)) (by show vs.toArray.size ≤ sizeLine; rw [List.size_toArray]; exact hsz)
theorem newTuple' {M : Model} {A : Around} {E : Value → Shared → Prop} {s : Shared} {vs : List Value} {Q : Value → Shared → Prop}
    (h : ∀ h' D, Ext s.heap h' → s.heap.get? D = none → h'.get? D = some { cls := .type "tuple", data := .seq vs.toArray } → Q (.ref D) { s with heap := h' }) (hsz : vs.length ≤ sizeLine := by size_fits) :
    wpAny M A (newTuple vs) Q E s :=
  wpAny_newObj_type (h _ _ (Ext.push _ _) (fresh_le (Nat.le_refl _)) (Heap.get?_push_size _ rfl)) (by show vs.toArray.size ≤ sizeLine; rw [List.size_toArray]; exact hsz)
/-- [v] * k -/
theorem mul1 {prog : Program} {w : World} {A : Around} {E : Value → Shared → Prop} {s : Shared} {L l : Addr} {m : Str → Option Value} {v : Value} {n k : Nat} {u : Tok} {Q : Value → Shared → Prop} (hn : s.heap.Ns L m)
    (hl : s.heap.get? l = some { cls := .type "list", data := .seq #[v] n }) (hk : k ≤ 1000)
    (h : ∀ h' D, h'.Ns L m → (∀ b o, b ≠ L → s.heap.get? b = some o → h'.get? b = some o) → s.heap.get? D = none → h'.get? D = some { cls := .type "list", data := .seq (Array.replicate k v) } → Q (.ref D) { s with heap := h' }) :
    wpAny (model prog w) A (binaryOp .Mult (.ref l) (.int (k : Nat) u)) Q E s := by
  refine mul_list (fr0 hn) (news0 (L := L)) hl (by omega) (by omega) (by simp; omega) fun h' F' N' => ?_
  obtain ⟨a, b⟩ := back0 (new := [_]) F' N'
  have c := (N' _ (.head _)).1
  rw [Int.toNat_natCast, foldl_rep] at c
  exact h h' _ a b (fresh_le (Nat.le_refl _)) c

end Mine
namespace Mine
theorem look96 (w : World) : (KK w).lookup 96 = some (obAt w 96) := by kernel_rfl
theorem data96 (w : World) : (obAt w 96).data = .func (fnAt w 96) := by kernel_rfl
theorem code96 (w : World) : codeIn (KK w) (fnAt w 96).code (fnAt w 96).qualname = true := by kernel_rfl
theorem clos96 (w : World) : (fnAt w 96).closure = [] := by kernel_rfl
theorem bind96 (w : World) (a b : Value) : bindArgs (fnAt w 96) ⟨[a, b], []⟩ = pure [(Str.ofString "number", a), (Str.ofString "size", b)] := by kernel_rfl
theorem co96 (w : World) : (fnAt w 96).scope.isCoroutine = false := by kernel_rfl
theorem gen96 (w : World) : (fnAt w 96).scope.isGenerator = false := by kernel_rfl
theorem kind96 (w : World) : (fnAt w 96).scope.kind = .function := by kernel_rfl
set_option maxHeartbeats 1000000 in
theorem letters_call {prog : Program} {w : World} {A : Around} {E : Value → Shared → Prop} {s : Shared} {N K : Nat} {t u : Tok} {Q : Value → Shared → Prop} (B : Amb w s.heap) (r : Room A 3) (hK : K ≤ 1000)
    (h : ∀ h' tk t', Ext s.heap h' → Q (.str (ab (bits N K)) t') { s with heap := h', toks := tk }) : wpAny (model prog w) A (call (.ref 96) [.int N t, .int K u]) Q E s := by
  have hb : ∃ body, (fnAt w 96).body = .stmts body := ⟨_, rfl⟩
  refine wpAny_call (codeAny_call_cells (fd := fnAt w 96) (o := obAt w 96) (by have := r.depth; omega) (B.K _ _ (look96 w)) (data96 w) B.nolimit (codeRec_of B.K (code96 w)) rfl (bind96 w _ _) (clos96 w) ?_ ?_ (co96 w) (gen96 w) (kind96 w))
  · intro y hy
    rcases List.mem_cons.mp hy with rfl | hy
    · exact .inr ⟨by kernel_rfl, by kernel_rfl⟩
    rcases List.mem_cons.mp hy with rfl | hy
    · exact .inl (by kernel_rfl)
    cases hy
  · intro s₁ X
    obtain ⟨h₁, tk₁, rfl, hk₁⟩ := X.done
    have hns := X.toInCall.ns
    have hcl := X.cell (Str.ofString "number") (s.heap.objs.size + 1) (by kernel_rfl)
    dsimp only at hns hcl
    have hL : (callEnvC (fnAt w 96) s.heap.objs.size 96).locals = s.heap.objs.size := by kernel_rfl
    with_reducible refine wpAny_execs_cons ?_
    with_reducible refine wpAny_Return_some ?_
    refine MethodCall_ ?_
    with_reducible refine Calls.Constant_str ?_
    with_reducible refine GM.join ?_
    dsimp only
    refine callWith_method1 ?_
    refine spliced_more ?_
    refine wpAny_ListComp_free (cl := [(Str.ofString "number", s.heap.objs.size + 1)]) (fun _ => true) (fun v y => ∃ (k : Nat) (t t' : Tok), v = .int k t ∧ y = .str (letter (decide (N / 2 ^ k % 2 = 1))) t') (by kernel_rfl) (by decide) (by kernel_rfl) (by decide) (by kernel_rfl) ?_
    refine Call_ ?_
    refine bname (w := w) (B.keeps hk₁) (by kernel_rfl) boot_range ?_
    refine PyProof.Rows.callWith_type1 ?_
    refine spliced_more ?_
    with_reducible refine wpAny_BinOp ?_
    refine lname (m := bindL (callEnvC (fnAt w 96) s.heap.objs.size 96).kindOf [(Str.ofString "number", .int N t), (Str.ofString "size", .int K u)] fun _ => none) hns (v := .int K u) (by kernel_rfl) ?_
    with_reducible refine wpAny_Constant_int ?_
    with_reducible refine sub_int ?_
    refine spliced_more ?_
    with_reducible refine wpAny_UnaryOp ?_
    with_reducible refine wpAny_Constant_int ?_
    with_reducible refine neg_int ?_
    refine spliced_more ?_
    with_reducible refine wpAny_UnaryOp ?_
    with_reducible refine wpAny_Constant_int ?_
    with_reducible refine neg_int ?_
    refine spliced_none ?_
    dsimp only
    refine range3_rows (h₀ := s.heap) (L := s.heap.objs.size) (news := []) ⟨hns, hk₁, Nat.le_refl _⟩ News.nil (by decide) (fun h₂ tk₂ t₁ u₁ v₁ hr F₂ _ hk₂ => ?_) ?_
    · refine wpAny_pyIter_range hr (small_down (by omega) (by omega) (by omega) (by omega)) ?_
      have hsz : Builtin.Range.rangeSize ((K : Int) - 1) (-1) (-1) = (K : Int) := by
        unfold Builtin.Range.rangeSize
        rw [if_neg (by omega)]
        by_cases h0 : (K : Int) - 1 > -1
        · rw [if_pos h0]; simp
        · rw [if_neg h0]; omega
      refine ⟨h₂.objs.size, [h₂.objs.size], [h₂.objs.size], K, _, _, rfl, (Walks.range (by exact r.handled) h₂.objs.size ((K : Int) - 1) (-1) K).bound, (by rw [sizeLine_eq]; omega), ?_, ?_, ⟨?_, ?_⟩, ?_⟩
      · show IsRangeIter _ _ _ _ _
        rw [hsz]; simpa using Heap.get?_push_size _ rfl
      · intro b hb
        rw [List.mem_singleton.mp hb]
        show _ < (h₂.push _).objs.size
        rw [Heap.size_push]; exact Nat.lt_succ_self _
      · intro C i v s₃ m₃ E' _ _ _ _ _ _
        exact wpAny_tests_nil ⟨rfl, Keeps.refl' _⟩
      · rintro C i v s₃ m₃ E' _ ⟨hi, t', rfl⟩ _ hn hm hk _
        have up : Ext h₁ s₃.heap := fun b o e => hk b o (fun q => absurd (Heap.lt_size (hk₂ b o e)) ((List.mem_singleton.mp q) ▸ Nat.lt_irrefl _)) (Heap.get?_push_of_some _ (hk₂ b o e))
        refine Subscript_ ?_
        with_reducible refine Calls.Constant_str ?_
        with_reducible refine wpAny_BinOp ?_
        with_reducible refine wpAny_BinOp ?_
        refine cname (c := s.heap.objs.size + 1) (v := .int N t) (by kernel_rfl) (hcl.keeps up) ?_
        refine lname (m := m₃) hn hm ?_
        with_reducible refine rshift_int ?_ ?_
        · omega
        with_reducible refine wpAny_Constant_int ?_
        with_reducible refine and_int ?_
        refine ab_item (b := decide (N / 2 ^ (K - 1 - i) % 2 = 1)) ?_ ?_
        · rw [bitAnd_m1]
          have e1 : ((K : Int) - 1 + (i : Int) * -1).toNat = K - 1 - i := by omega
          rw [e1]
          have e2 : Int.fdiv (N : Int) (2 ^ (K - 1 - i)) = ((N / 2 ^ (K - 1 - i) : Nat) : Int) := by
            rw [pow_nat, fdiv_nat]
          rw [e2]
          generalize N / 2 ^ (K - 1 - i) = q
          by_cases hb : q % 2 = 1
          · simp only [hb, decide_true, if_true]; omega
          · simp only [hb, decide_false]; simp; omega
        · exact ⟨⟨K - 1 - i, t', _, by congr 1; omega, rfl⟩, ⟨_, _, rfl, fun _ _ e => e⟩⟩
      · intro D h' tk ys vs hD hlD hpl hlen hP hF hk
        refine spliced_none ?_
        have hst : StrsAre ys.toList ((bits N K).map letter) := by
          rw [List.filter_eq_self.mpr (fun _ _ => rfl)] at hF
          have hF' := hF
          refine strsAre_of_get (by rw [← hF'.length, hlen, List.length_map, bits_length]) fun j v y e1 e2 => ?_
          obtain ⟨a, ha, k, t0, t1, rfl, rfl⟩ := Paired.get hF' j v e1
          obtain ⟨hj, t2, e3⟩ := hP j _ ha
          have hk' : k = K - 1 - j := by
            have := Value.int.inj e3
            omega
          subst hk'
          refine ⟨t1, ?_⟩
          rw [List.getElem?_map, bits_get N K j hj] at e2
          simp only [Option.map_some, Option.some.injEq] at e2
          rw [← e2]
        refine join_listC hlD hst (by decide) ?_ fun t' k => ?_
        · rw [letters_sum, List.length_map, bits_length]; omega
        · rw [join_ab _ _ rfl]
          refine h h' k t' fun b o e => ?_
          have e2 := hk₂ b o (hk₁ b o e)
          exact hk b o (fun q => absurd (Heap.lt_size e2) ((List.mem_singleton.mp q) ▸ Nat.lt_irrefl _)) (Heap.get?_push_of_some _ e2)
    · exact .inl (PyProof.noPylong_small (by decide))
end Mine
namespace Mine
theorem intBits_le {a : Nat} {k : Nat} (h : a < 2 ^ k) : Builtin.Int.intBits (a : Int) ≤ k := by
  unfold Builtin.Int.intBits
  by_cases h0 : a = 0
  · subst h0; simp
  · have h1 : ((a : Int) == 0) = false := by simpa using h0
    rw [h1]
    simp only [Bool.false_eq_true, if_false, Int.natAbs_natCast]
    exact (Nat.log2_lt h0).mpr h
/-- _div2n1n on small numbers -/
theorem div_call {prog : Program} {w : World} {A : Around} {E : Value → Shared → Prop} {s : Shared} {a b n : Nat} {t u v : Tok} {Q : Value → Shared → Prop} (B : Amb w s.heap) (r : Room A 3) (ha : a < 2 ^ 64) (hb0 : b ≠ 0) (hb : b < 2 ^ 20)
    (h : ∀ h' tk t₁ t₂ T, Ext s.heap h' → s.heap.get? T = none → IsTup h' T #[.int (a / b : Nat) t₁, .int (a % b : Nat) t₂] → Q (.ref T) { s with heap := h', toks := tk }) :
    wpAny (model prog w) A (call (.ref 28) [.int a t, .int b u, .int n v]) Q E s := by
  refine enter (w := w) [(Str.ofString "a", .int a t), (Str.ofString "b", .int b u), (Str.ofString "n", .int n v)] B r rfl fun h₁ tk₁ hns hk₁ => ?_
  have B₁ := B.keeps hk₁
  with_reducible refine wpAny_execs_cons ?_
  with_reducible refine wpAny_If ?_
  with_reducible refine wpAny_isTrue_Compare1 ?_
  with_reducible refine wpAny_BinOp ?_
  refine MethodCall_ ?_
  refine lname hns (v := .int a t) (by kernel_rfl) ?_
  with_reducible refine getMethod_int_bit_length ?_
  dsimp only
  refine callWith_method0 ?_
  with_reducible refine call_int_bit_length ?_
  refine lname hns (v := .int n v) (by kernel_rfl) ?_
  with_reducible refine sub_int ?_
  refine gname (w := w) B₁ (v := .int 4000 196) (by kernel_rfl) ?_
  with_reducible refine le_int ?_
  with_reducible refine wpAny_truthy_bool ?_
  rw [if_pos (decide_eq_true (by have := intBits_le ha; omega))]
  with_reducible refine wpAny_execs_cons ?_
  with_reducible refine wpAny_Return_some ?_
  refine Call_ ?_
  refine bname (w := w) B₁ (by kernel_rfl) boot_divmod ?_
  refine PyProof.Rows.callWith_builtin1 ?_
  refine spliced_more ?_
  refine lname hns (v := .int a t) (by kernel_rfl) ?_
  refine spliced_more ?_
  refine lname hns (v := .int b u) (by kernel_rfl) ?_
  refine spliced_none ?_
  refine divmod_N (h₀ := s.heap) (L := s.heap.objs.size) (news := []) ⟨hns, hk₁, Nat.le_refl _⟩ News.nil (by omega) (fun h' F' N' => ?_) (.inl (PyProof.noPylong_small (by omega)))
  have N1 := N' _ (.head _)
  dsimp only at N1
  rw [fdiv_nat, fmod_nat] at N1
  exact h h' _ _ _ _ F'.keep N1.2.2 ⟨_, N1.1, rfl, _, rfl⟩
end Mine
namespace Mine
/-- the nested def -/
noncomputable def innerSt (w : World) : Stmt := match (fnAt w 42).body with
  | .stmts (_ :: st :: _) => st
  | _ => .Pass default
noncomputable def innerParams (w : World) : Arguments := match innerSt w with
  | .FunctionDef _ p _ _ _ _ _ _ _ _ => p
  | _ => default
noncomputable def innerBody (w : World) : List Stmt := match innerSt w with
  | .FunctionDef _ _ b _ _ _ _ _ _ _ => b
  | _ => []
noncomputable def innerScope (w : World) : Scope := match innerSt w with
  | .FunctionDef _ _ _ _ _ _ sc _ _ _ => sc
  | _ => default
noncomputable abbrev innerFd (w : World) (cl : List (Str × Addr)) (doc pm : Value) (c' : Addr) (ctv : Value) : FuncData :=
  fnX (Str.ofString "inner") (Str.ofString "_int2digits.<locals>.inner") (innerParams w) (innerBody w) (innerScope w) cl .none .none doc pm none (.ref c') ctv
/-- what stands under a call of inner -/
structure InnerAt (w : World) (f cn cd ci D : Addr) (h : Heap) : Prop where
  fn : ∃ doc pm c' ctv, h.get? f = some { cls := .type "function", data := .func (innerFd w [(Str.ofString "n", cn), (Str.ofString "inner", ci), (Str.ofString "a_digits", cd)] doc pm c' ctv) } ∧ h.CodeRec (.ref c') (Str.ofString "_int2digits.<locals>.inner")
  n : ∃ t, h.IsCell cn (some (.int 1 t))
  dg : h.IsCell cd (some (.ref D))
  inn : h.IsCell ci (some (.ref f))
theorem InnerAt.but {w : World} {f cn cd ci D : Addr} {h h' : Heap} (x : InnerAt w f cn cd ci D h) (hl : ∃ vs, h.IsList D vs) (k : ∀ b o, b ≠ D → h.get? b = some o → h'.get? b = some o) : InnerAt w f cn cd ci D h' := by
  obtain ⟨vs, oD, eD, cD, nD, dD⟩ := hl
  obtain ⟨⟨doc, pm, c', ctv, e1, c, o, vs', t, e2, e3, e4, e5⟩, ⟨tn, on, en, dn⟩, ⟨od, ed, dd⟩, ⟨oi, ei, di⟩⟩ := x
  have cell : ∀ {c : Addr} {o : Obj} {v}, h.get? c = some o → o.data = .cell v → h'.get? c = some o := fun e d => k _ _ (fun q => by rw [q, eD] at e; cases e; rw [dD] at d; cases d) e
  refine ⟨⟨doc, pm, c', ctv, k _ _ (fun q => by rw [q, eD] at e1; cases e1; cases dD) e1, c, o, vs', t, e2, k _ _ (fun q => by rw [q, eD] at e3; cases e3; rw [dD] at e4; cases e4) e3, e4, e5⟩, ⟨tn, on, cell en dn, dn⟩, ⟨od, cell ed dd, dd⟩, ⟨oi, cell ei di, di⟩⟩
/-- k figures of x stand from l on, the rest as in vs -/
structure Put (vs vs' : Array Value) (l k x : Nat) : Prop where
  size : vs'.size = vs.size
  here : ∀ i, i < k → ∃ t, vs'[l + i]? = some (.int (x / 2 ^ i % 2 : Nat) t)
  else_ : ∀ j, j < l ∨ l + k ≤ j → vs'[j]? = vs[j]?
theorem mod_pow_div {x m i : Nat} (h : i < m) : x % 2 ^ m / 2 ^ i % 2 = x / 2 ^ i % 2 := by
  have h1 := Nat.testBit_mod_two_pow x m i
  rw [decide_eq_true h, Bool.true_and, Nat.testBit_eq_decide_div_mod_eq, Nat.testBit_eq_decide_div_mod_eq] at h1
  have h2 : (x % 2 ^ m / 2 ^ i % 2 = 1) ↔ (x / 2 ^ i % 2 = 1) := by simpa using h1
  omega
theorem Put.join {vs vs₁ vs₂ : Array Value} {l k x : Nat} (p : Put vs vs₁ l (k / 2) (x % 2 ^ (k / 2))) (q : Put vs₁ vs₂ (l + k / 2) (k - k / 2) (x / 2 ^ (k / 2))) : Put vs vs₂ l k x := by
  refine ⟨q.size.trans p.size, fun i hi => ?_, fun j hj => ?_⟩
  · by_cases h : i < k / 2
    · obtain ⟨t, e⟩ := p.here i h
      refine ⟨t, ?_⟩
      rw [q.else_ (l + i) (.inl (by omega)), e, mod_pow_div h]
    · obtain ⟨t, e⟩ := q.here (i - k / 2) (by omega)
      refine ⟨t, ?_⟩
      rw [show l + i = l + k / 2 + (i - k / 2) by omega, e, Nat.div_div_eq_div_mul, ← Nat.pow_add, show k / 2 + (i - k / 2) = i by omega]
  · rw [q.else_ j (by omega), p.else_ j (by omega)]
set_option maxHeartbeats 2000000 in
theorem inner_call {prog : Program} {w : World} {g : Heap} (B : Amb w g) (f cn cd ci D : Addr) (hgD : g.get? D = none) : ∀ (k : Nat) {A : Around} {E : Value → Shared → Prop} {s : Shared} {x l : Nat} {t u v : Tok} {vs : Array Value} {Q : Value → Shared → Prop}
    (_ : Room A (k + 2)) (_ : 1 ≤ k) (_ : k ≤ 20) (_ : l + k ≤ 1000) (_ : x < 2 ^ k) (_ : l + k ≤ vs.size) (_ : Ext g s.heap) (_ : InnerAt w f cn cd ci D s.heap) (_ : s.heap.IsList D vs)
    (_ : ∀ h' tk vs', (∀ b o, b ≠ D → s.heap.get? b = some o → h'.get? b = some o) → h'.IsList D vs' → Put vs vs' l k x → Q .none { s with heap := h', toks := tk }),
    wpAny (model prog w) A (call (.ref f) [.int x t, .int l u, .int (l + k : Nat) v]) Q E s := by
  intro k
  induction k using Nat.strongRecOn with
  | _ k ih =>
  intro A E s x l t u v vs Q r hk1 hk20 hl20 hx hlk kg I hD h
  obtain ⟨doc, pm, c', ctv, e1, hrec⟩ := I.fn
  have B' := B.keeps kg
  refine enterX (w := w) (body := [_, _, _, _, _, _, _]) [(Str.ofString "x", .int x t), (Str.ofString "L", .int l u), (Str.ofString "R", .int (l + k : Nat) v)] B' r e1 rfl hrec rfl (by kernel_rfl) (by kernel_rfl) (by kernel_rfl) (by kernel_rfl) (by kernel_rfl) (by kernel_rfl) fun h₁ tk₁ hns hk₁ => ?_
  have hL : (callEnv (innerFd w [(Str.ofString "n", cn), (Str.ofString "inner", ci), (Str.ofString "a_digits", cd)] doc pm c' ctv) s.heap.objs.size f).locals = s.heap.objs.size := by kernel_rfl
  have hLD : s.heap.objs.size ≠ D := fun q => by
    obtain ⟨o, e, _⟩ := hD
    exact absurd (Heap.lt_size e) (by rw [q]; exact Nat.lt_irrefl _)
  obtain ⟨tn, hcn⟩ := I.n
  have I₁ : InnerAt w f cn cd ci D h₁ := I.but ⟨_, hD⟩ fun b o _ e => hk₁ b o e
  with_reducible refine wpAny_execs_cons ?_
  with_reducible refine wpAny_If ?_
  with_reducible refine wpAny_isTrue_Compare1 ?_
  with_reducible refine wpAny_BinOp ?_
  refine lname hns (v := .int l u) (by kernel_rfl) ?_
  with_reducible refine wpAny_Constant_int ?_
  with_reducible refine add_int ?_
  refine lname hns (v := .int (l + k : Nat) v) (by kernel_rfl) ?_
  with_reducible refine eq_int ?_
  with_reducible refine wpAny_truthy_bool ?_
  by_cases hk : k = 1
  · subst hk
    rw [if_pos (by simp)]
    dsimp only
    with_reducible refine wpAny_execs_cons ?_
    refine wpAny_Assign_Subscript ?_
    refine lname hns (v := .int x t) (by kernel_rfl) ?_
    refine fname (c := cd) (by kernel_rfl) I₁.dg ?_
    refine lname hns (v := .int l u) (by kernel_rfl) ?_
    refine wpAny_setItem_list (items := vs) (hD.at fun o e => hk₁ D o e) (by omega) (by omega) (by omega) fun h₂ hl₂ hs₂ => ?_
    with_reducible refine wpAny_execs_cons ?_
    with_reducible refine wpAny_Return_none ?_
    refine h h₂ _ _ (fun b o hb e => hs₂.extBut b o hb (hk₁ b o e)) hl₂ ⟨by simp, ?_, ?_⟩
    · intro i hi
      have e0 : i = 0 := by omega
      subst e0
      have : x % 2 = x := Nat.mod_eq_of_lt (by simpa using hx)
      refine ⟨t, ?_⟩
      rw [Nat.pow_zero, Nat.div_one, this, Nat.add_zero, Array.getElem?_setIfInBounds, if_pos (by simp), if_pos (by simp; omega)]
    · intro j hj
      have : j ≠ l := by omega
      rw [Array.getElem?_setIfInBounds]
      rw [if_neg (by simp; omega)]
  · rw [if_neg (by simp; omega)]
    dsimp only
    with_reducible refine wpAny_execs_nil ?_
    dsimp only
    with_reducible refine wpAny_execs_cons ?_
    refine asg ?_
    with_reducible refine wpAny_BinOp ?_
    with_reducible refine wpAny_BinOp ?_
    refine lname hns (v := .int l u) (by kernel_rfl) ?_
    refine lname hns (v := .int (l + k : Nat) v) (by kernel_rfl) ?_
    with_reducible refine add_int ?_
    with_reducible refine wpAny_Constant_int ?_
    with_reducible refine rshift_int (by omega) ?_
    refine ⟨_, hns, fun h₂ hn₂ hs₂ => ?_⟩
    have emid : Int.fdiv ((l : Int) + ((l + k : Nat) : Int)) (2 ^ Int.toNat 1) = ((l + k / 2 : Nat) : Int) := by
      rw [show (Int.toNat 1) = 1 from rfl, pow_nat, show (l : Int) + ((l + k : Nat) : Int) = ((l + (l + k) : Nat) : Int) from by omega, fdiv_nat]
      congr 1; omega
    rw [emid] at hn₂
    dsimp only at hn₂ hs₂ ⊢
    have hcn₂ : h₂.IsCell cn (some (.int 1 tn)) := (hcn.keeps hk₁).sameBut hs₂ (by rw [hL]; intro q; exact absurd hcn.lt (by rw [q]; exact Nat.lt_irrefl _))
    with_reducible refine wpAny_execs_cons ?_
    refine asg ?_
    with_reducible refine wpAny_BinOp ?_
    with_reducible refine wpAny_BinOp ?_
    refine lname hn₂ (v := .int (l + k / 2 : Nat) _) (by exact rfl) ?_
    refine lname hn₂ (v := .int l u) (by kernel_rfl) ?_
    with_reducible refine sub_int ?_
    refine fname (c := cn) (by kernel_rfl) hcn₂ ?_
    refine mul_int ?_ ?_
    rotate_left
    · exact IntMulOk.of_right (by decide)
    refine ⟨_, hn₂, fun h₃ hn₃ hs₃ => ?_⟩
    have esh : (((l + k / 2 : Nat) : Int) - (l : Int)) * 1 = ((k / 2 : Nat) : Int) := by omega
    rw [esh] at hn₃
    dsimp only at hn₃ hs₃ ⊢
    with_reducible refine wpAny_execs_cons ?_
    refine asg ?_
    with_reducible refine wpAny_BinOp ?_
    refine lname hn₃ (v := .int x t) (by kernel_rfl) ?_
    refine lname hn₃ (v := .int (k / 2 : Nat) _) (by exact rfl) ?_
    with_reducible refine rshift_int (by omega) ?_
    refine ⟨_, hn₃, fun h₄ hn₄ hs₄ => ?_⟩
    have eup : Int.fdiv (x : Int) (2 ^ Int.toNat ((k / 2 : Nat) : Int)) = ((x / 2 ^ (k / 2) : Nat) : Int) := by
      rw [Int.toNat_natCast, pow_nat, fdiv_nat]
    rw [eup] at hn₄
    dsimp only at hn₄ hs₄ ⊢
    with_reducible refine wpAny_execs_cons ?_
    refine asg ?_
    with_reducible refine wpAny_BinOp ?_
    refine lname hn₄ (v := .int x t) (by kernel_rfl) ?_
    with_reducible refine wpAny_BinOp ?_
    refine lname hn₄ (v := .int (x / 2 ^ (k / 2) : Nat) _) (by exact rfl) ?_
    refine lname hn₄ (v := .int (k / 2 : Nat) _) (by exact rfl) ?_
    with_reducible refine lshift_int_small (by omega) (by omega) ?_ ?_
    · rw [Int.natAbs_natCast]
      refine Nat.lt_of_le_of_lt (Nat.div_le_self _ _) (Nat.lt_of_lt_of_le hx ?_)
      exact Nat.pow_le_pow_right (by decide) (by omega)
    with_reducible refine xor_int ?_
    refine ⟨_, hn₄, fun h₅ hn₅ hs₅ => ?_⟩
    have elow : Builtin.bitXor (x : Int) (((x / 2 ^ (k / 2) : Nat) : Int) * 2 ^ Int.toNat ((k / 2 : Nat) : Int)) = ((x % 2 ^ (k / 2) : Nat) : Int) := by
      rw [Int.toNat_natCast, pow_nat, ← Int.natCast_mul, low_bits]
    rw [elow] at hn₅
    dsimp only at hn₅ hs₅ ⊢
    with_reducible refine wpAny_execs_cons ?_
    have up₅ : Ext s.heap h₅ := fun b o e => by
      have hb : b ≠ s.heap.objs.size := Nat.ne_of_lt (Heap.lt_size e)
      rw [hL] at hs₂ hs₃ hs₄ hs₅
      exact hs₅.extBut b o hb (hs₄.extBut b o hb (hs₃.extBut b o hb (hs₂.extBut b o hb (hk₁ b o e))))
    have I₅ : InnerAt w f cn cd ci D h₅ := I.but ⟨_, hD⟩ fun b o _ e => up₅ b o e
    have hD₅ : h₅.IsList D vs := hD.at fun o e => up₅ D o e
    have fnAt' : ∀ {h : Heap}, InnerAt w f cn cd ci D h → FnAt f h := fun J => let ⟨_, _, _, _, e, _⟩ := J.fn; ⟨_, _, _, _, e⟩
    refine wpAny_Expr_any ?_ (by kernel_rfl) (by kernel_rfl)
    refine Call_ ?_
    refine fname (c := ci) (by kernel_rfl) I₅.inn ?_
    refine callWith_F (fnAt' I₅) ?_
    refine spliced_more ?_
    refine lname hn₅ (v := .int (x % 2 ^ (k / 2) : Nat) _) (by exact rfl) ?_
    refine spliced_more ?_
    refine lname hn₅ (v := .int l u) (by kernel_rfl) ?_
    refine spliced_more ?_
    refine lname hn₅ (v := .int (l + k / 2 : Nat) _) (by exact rfl) ?_
    refine spliced_none ?_
    refine ⟨fnAt' I₅, ?_⟩
    dsimp only [List.nil_append]
    refine ih (k / 2) (by omega) (r.deeper.less (by omega)) (by omega) (by omega) (by omega) (Nat.mod_lt _ (Nat.two_pow_pos _)) (by omega) (kg.trans up₅) I₅ hD₅ fun h₆ tk₆ vs₁ hk₆ hD₆ hp₆ => ?_
    have I₆ : InnerAt w f cn cd ci D h₆ := I₅.but ⟨_, hD₅⟩ hk₆
    have hn₆ := hn₅.extBut (b := D) hk₆ (by rw [hL]; exact hLD)
    dsimp only at hn₆ ⊢
    with_reducible refine wpAny_execs_cons ?_
    refine wpAny_Expr_any ?_ (by kernel_rfl) (by kernel_rfl)
    refine Call_ ?_
    refine fname (c := ci) (by kernel_rfl) I₆.inn ?_
    refine callWith_F (fnAt' I₆) ?_
    refine spliced_more ?_
    refine lname hn₆ (v := .int (x / 2 ^ (k / 2) : Nat) _) (by exact rfl) ?_
    refine spliced_more ?_
    refine lname hn₆ (v := .int (l + k / 2 : Nat) _) (by exact rfl) ?_
    refine spliced_more ?_
    refine lname hn₆ (v := .int (l + k : Nat) v) (by kernel_rfl) ?_
    refine spliced_none ?_
    refine ⟨fnAt' I₆, ?_⟩
    dsimp only [List.nil_append]
    rw [show ((l + k : Nat) : Int) = ((l + k / 2 + (k - k / 2) : Nat) : Int) from by omega]
    refine ih (k - k / 2) (by omega) (r.deeper.less (by omega)) (by omega) (by omega) (by omega) ?_ (by rw [hp₆.size]; omega) (fun b o e => hk₆ b o (fun q => by rw [q, hgD] at e; cases e) (up₅ b o (kg b o e))) I₆ hD₆ fun h₇ tk₇ vs₂ hk₇ hD₇ hp₇ => ?_
    · rw [Nat.div_lt_iff_lt_mul (Nat.two_pow_pos _), ← Nat.pow_add, show k - k / 2 + k / 2 = k by omega]; exact hx
    with_reducible refine wpAny_execs_nil ?_
    exact h h₇ _ vs₂ (fun b o hb e => hk₇ b o hb (hk₆ b o hb (up₅ b o e))) hD₇ (hp₆.join hp₇)
end Mine
namespace Mine
noncomputable def innerPos (w : World) : Pos := match innerSt w with
  | .FunctionDef _ _ _ _ _ _ _ _ _ p => p
  | _ => default
noncomputable def innerQual : Str := Str.ofString "_int2digits.<locals>.inner"
/-- the table of the nested def's code -/
noncomputable def TabOk (w : World) (h : Heap) : Prop := ∃ ps, h.get? 37 = some (tabObj ps) ∧ TriplesOk ps.toList ∧ (codeAmong (innerPos w) ps.toList = none ∨ ∃ c', codeAmong (innerPos w) ps.toList = some (.ref c') ∧ h.CodeRec (.ref c') innerQual)
theorem TabOk.keeps {w : World} {h h' : Heap} (T : TabOk w h) (k : Ext h h') : TabOk w h' := by
  obtain ⟨ps, e, t, r⟩ := T
  exact ⟨ps, k _ _ e, t, r.imp id fun ⟨c', a, b⟩ => ⟨c', a, b.keeps k⟩⟩
/-- no record stands at a -/
noncomputable def NoRec (h : Heap) (a : Addr) : Prop := ∃ o, h.get? a = some o ∧ ∀ vs, o.data ≠ .fields vs
theorem TabOk.but {w : World} {h h' : Heap} {a : Addr} (T : TabOk w h) (n : NoRec h a) (k : ∀ b o, b ≠ a → h.get? b = some o → h'.get? b = some o) : TabOk w h' := by
  obtain ⟨ps, e, t, r⟩ := T
  obtain ⟨o, ea, na⟩ := n
  refine ⟨ps, k _ _ (fun q => by rw [q, ea] at e; cases e; exact na ps rfl) e, t, r.imp id fun ⟨c', x, c, oc, vs, tc, e1, e2, e3, e4⟩ => ⟨c', x, c, oc, vs, tc, e1, k _ _ (fun q => by rw [q, ea] at e2; cases e2; exact na vs e3) e2, e3, e4⟩⟩
theorem noRec_ns {h : Heap} {a : Addr} {m : Str → Option Value} (x : h.Ns a m) : NoRec h a := let ⟨o, _, _, e, d, _⟩ := x; ⟨o, e, fun vs q => by rw [d] at q; cases q⟩
theorem noRec_cell {h : Heap} {a : Addr} {v : Option Value} (x : h.IsCell a v) : NoRec h a := let ⟨o, e, d⟩ := x; ⟨o, e, fun vs q => by rw [d] at q; cases q⟩
theorem noRec_list {h : Heap} {a : Addr} {v : Array Value} (x : h.IsList a v) : NoRec h a := let ⟨o, e, _, _, d⟩ := x; ⟨o, e, fun vs q => by rw [d] at q; cases q⟩

theorem make_inner {M : Model} {w : World} {A : Around} {E : Value → Shared → Prop} {s : Shared} {env : Env} {clos : List (Str × Addr)} {n : Nat} {Q : Value → Shared → Prop} {name qual : Str} {params : Arguments} {body : List Stmt} {scope : Scope} {pos : Pos}
    (en : name = Str.ofString "inner") (eq : qual = innerQual) (ep : params = innerParams w) (eb : body = innerBody w) (es : scope = innerScope w) (eo : pos = innerPos w) (B : Amb w s.heap) (T : TabOk w s.heap)
    (hcl : closureFor (innerScope w) env = pure clos) (hg : env.globals = mainGlobals) (hc : env.code = .ref 41)
    (h : ∀ f h' tk doc pm c' ctv, (∀ b o, b ≠ 37 → s.heap.get? b = some o → h'.get? b = some o) → TabOk w h' → s.heap.get? f = none → h'.get? f = some { cls := .type "function", data := .func (innerFd w clos doc pm c' ctv) } → h'.CodeRec (.ref c') innerQual →
      Q (.ref f) { s with heap := h', toks := tk }) :
    wpAny M A (makeFunction name qual params (.stmts body) scope env [] [] [] pos n) Q E s := by
  subst en eq ep eb es eo
  obtain ⟨ps, e37, ht, hr⟩ := T
  obtain ⟨p, loose, mean, mg, mb, T⟩ := B.T
  obtain ⟨bm, ob, b1, b2, b3, b4, b5, b6⟩ := T.bmain
  have hgP : mainGlobals ≠ 37 := by decide
  have hbP : bm ≠ 37 := fun q => by rw [q, e37] at b3; cases b3; cases b4
  have hbG : bm ≠ mainGlobals := fun q => by
    obtain ⟨o, es, ep, e, hd, _⟩ := T.g
    rw [q, e] at b3; cases b3; rw [hd] at b6; cases b6
  have fresh : ∀ {b : Nat}, s.heap.objs.size ≤ b → s.heap.get? b = none := fun hb => Heap.get?_none_of_le hb
  rcases hr with hn | ⟨c', hs, hrec⟩
  · refine makeFunction_K (mg := mg) hcl hg T.g hc B.C e37 ht hn hgP ⟨bm, ob, b1, b2, hbG, hbP, b3, b4, b5, b6⟩ fun c' ctv doc h' tk hx hge hlt hrec htb => ?_
    refine h _ _ tk doc _ c' ctv (fun b o hb e => Heap.get?_push_of_some _ (hx b o hb e)) ⟨_, Heap.get?_push_of_some _ htb, ?_, .inr ⟨c', ?_, hrec.keeps fun b o e => Heap.get?_push_of_some _ e⟩⟩ (fresh (by omega)) (Heap.get?_push_size _ rfl) (hrec.keeps fun b o e => Heap.get?_push_of_some _ e)
    · simpa using TriplesOk_snoc _ _ _ _ ht
    · simpa using codeAmong_snoc (pos := innerPos w) (c := .ref c') _ ht hn
  · refine makeFunction_hit (mg := mg) hcl hg T.g hc B.C e37 ht hs ⟨bm, ob, b1, b2, hbG, hbP, b3, b4, b5, b6⟩ fun ctv doc h' tk hk hsz => ?_
    have up : Ext s.heap (h'.push { cls := .type "function", data := .func (innerFd w clos doc ((mg "__name__").getD .none) c' ctv) }) := fun b o e => Heap.get?_push_of_some _ (hk b o e)
    exact h _ _ tk doc _ c' ctv (fun b o _ e => up b o e) ⟨ps, up _ _ e37, ht, .inr ⟨c', hs, hrec.keeps up⟩⟩ (fresh hsz) (Heap.get?_push_size _ rfl) (hrec.keeps up)
theorem intBits_lt {a : Nat} : a < 2 ^ Builtin.Int.intBits (a : Int) := by
  unfold Builtin.Int.intBits
  by_cases h0 : a = 0
  · subst h0; simp
  · have h1 : ((a : Int) == 0) = false := by simpa using h0
    rw [h1]
    simp only [Bool.false_eq_true, if_false, Int.natAbs_natCast]
    exact Nat.lt_log2_self
theorem cell_at {h h' : Heap} {c a : Addr} {v : Option Value} (x : h.IsCell c v) (k : ∀ b o, b ≠ a → h.get? b = some o → h'.get? b = some o) (hc : c ≠ a) : h'.IsCell c v :=
  let ⟨o, e, d⟩ := x; ⟨o, k c o hc e, d⟩
theorem ne_add (n k : Nat) : n ≠ n + (k + 1) := by omega
theorem lt_ne37 {n : Nat} (h : 37 < n) (k : Nat) : n + k ≠ 37 := by omega

set_option maxHeartbeats 2000000 in
theorem int2digits_call {prog : Program} {w : World} {A : Around} {E : Value → Shared → Prop} {s : Shared} {g : Heap} {a : Nat} {t u : Tok} {Q : Value → Shared → Prop} (B : Amb w g) (hg : g.get? 37 = none) (kg : Ext g s.heap) (T : TabOk w s.heap) (r : Room A 40) (ha : a < 2 ^ 20)
    (h : ∀ h' tk D vs, (∀ b o, b ≠ 37 → s.heap.get? b = some o → h'.get? b = some o) → TabOk w h' → s.heap.get? D = none → h'.IsList D vs → vs.size = Builtin.Int.intBits (a : Int) → (∀ i, i < vs.size → ∃ t, vs[i]? = some (.int (a / 2 ^ i % 2 : Nat) t)) → Q (.ref D) { s with heap := h', toks := tk }) :
    wpAny (model prog w) A (call (.ref 42) [.int a t, .int 1 u]) Q E s := by
  have hnb : Builtin.Int.intBits (a : Int) ≤ 20 := by
    unfold Builtin.Int.intBits
    by_cases h0 : a = 0
    · subst h0; simp
    · have h1 : ((a : Int) == 0) = false := by simpa using h0
      rw [h1]
      simp only [Bool.false_eq_true, if_false, Int.natAbs_natCast]
      exact (Nat.log2_lt h0).mpr ha
  have hlt := @intBits_lt a
  have hz0 : a = 0 → Builtin.Int.intBits (a : Int) = 0 := fun e => by subst e; rfl
  have hz1 : a ≠ 0 → 1 ≤ Builtin.Int.intBits (a : Int) := fun e => by
    unfold Builtin.Int.intBits
    have h1 : ((a : Int) == 0) = false := by simpa using e
    rw [h1]; simp
  generalize hnbe : Builtin.Int.intBits (a : Int) = nb at *
  have B' := B.keeps kg
  refine enterC (w := w) (body := [_, _, _, _]) [(Str.ofString "a", .int a t), (Str.ofString "n", .int 1 u)] B' r rfl fun h₁ tk₁ hns hk₁ hcells => ?_
  have hcn := hcells (Str.ofString "n") (s.heap.objs.size + 1) (by kernel_rfl)
  have hcd := hcells (Str.ofString "a_digits") (s.heap.objs.size + 2) (by kernel_rfl)
  have hci := hcells (Str.ofString "inner") (s.heap.objs.size + 3) (by kernel_rfl)
  have B₁ := B'.keeps hk₁
  have hcn' : h₁.IsCell (s.heap.objs.size + 1) (some (.int 1 u)) := hcn
  clear hcn
  have hcd' : h₁.IsCell (s.heap.objs.size + 2) none := hcd
  clear hcd
  have hci' : h₁.IsCell (s.heap.objs.size + 3) none := hci
  clear hci hcells
  with_reducible refine wpAny_execs_cons ?_
  refine asgC (c := s.heap.objs.size + 2) (by kernel_rfl) ?_
  with_reducible refine wpAny_BinOp ?_
  with_reducible refine List_ ?_
  refine spliced_more ?_
  with_reducible refine wpAny_Constant_int ?_
  refine spliced_none ?_
  refine newList' fun h₂ D₂ up₂ _ hD₂ => ?_
  dsimp only at up₂ hD₂ ⊢
  have hns₂ := hns.keeps up₂
  with_reducible refine wpAny_BinOp ?_
  with_reducible refine wpAny_BinOp ?_
  with_reducible refine wpAny_BinOp ?_
  refine MethodCall_ ?_
  refine lname hns₂ (v := .int a t) (by kernel_rfl) ?_
  with_reducible refine getMethod_int_bit_length ?_
  dsimp only
  refine callWith_method0 ?_
  with_reducible refine call_int_bit_length ?_
  refine cname (c := s.heap.objs.size + 1) (by kernel_rfl) (hcn'.keeps up₂) ?_
  with_reducible refine add_int ?_
  with_reducible refine wpAny_Constant_int ?_
  with_reducible refine sub_int ?_
  refine cname (c := s.heap.objs.size + 1) (by kernel_rfl) (hcn'.keeps up₂) ?_
  refine floordiv_int (by decide) ?_ (.inl (PyProof.noPylong_small (by decide)))
  rw [hnbe, show Int.fdiv ((nb : Int) + 1 - 1) 1 = ((nb : Nat) : Int) from by rw [Int.fdiv_one]; omega]
  refine mul1 hns₂ hD₂ (by omega) fun h₃ D hns₃ up₃ hDn hD₃ => ?_
  dsimp only at hns₃ up₃ hDn hD₃ ⊢
  have hL1 : ∀ (k : Nat), s.heap.objs.size + k + 1 ≠ s.heap.objs.size := fun k => by omega
  refine ⟨none, cell_at (hcd'.keeps up₂) up₃ (hL1 1), fun h₄ hcd₄ hs₄ => ?_⟩
  (try dsimp only at hs₄ hcd₄); (try dsimp only)
  -- what stands in h₄
  have hD₄ : h₄.IsList D (Array.replicate nb (.int 0 tk₁)) := by
    refine ⟨_, (hs₄.2 D fun q => ?_).trans hD₃, rfl, _, rfl⟩
    have e := (hcd'.keeps up₂).lt
    rw [← q] at e
    obtain ⟨o, e2, _⟩ := hcd'.keeps up₂
    rw [← q, hDn] at e2; cases e2
  have up₄ : ∀ b o, b ≠ s.heap.objs.size → b ≠ s.heap.objs.size + 2 → h₁.get? b = some o → h₄.get? b = some o := fun b o hb hb' e => hs₄.extBut b o hb' (up₃ b o hb (up₂ b o e))
  have hcn₄ : h₄.IsCell (s.heap.objs.size + 1) (some (.int 1 u)) := let ⟨o, e, d⟩ := hcn'; ⟨o, up₄ _ o (by omega) (by omega) e, d⟩
  have hci₄ : h₄.IsCell (s.heap.objs.size + 3) none := let ⟨o, e, d⟩ := hci'; ⟨o, up₄ _ o (by omega) (by omega) e, d⟩
  have hns₄ := hns₃.sameBut hs₄ (ne_add _ 1)
  have ex₄ : Ext s.heap h₄ := fun b o e => up₄ b o (Nat.ne_of_lt (Heap.lt_size e)) (Nat.ne_of_lt (Nat.lt_of_lt_of_le (Heap.lt_size e) (Nat.le_add_right _ 2))) (hk₁ b o e)
  have B₄ := B'.keeps ex₄
  with_reducible refine wpAny_execs_cons ?_
  refine nestDef_K rfl rfl rfl ?_
  refine make_inner (w := w) (clos := [(Str.ofString "n", s.heap.objs.size + 1), (Str.ofString "inner", s.heap.objs.size + 3), (Str.ofString "a_digits", s.heap.objs.size + 2)]) rfl (by kernel_rfl) (by kernel_rfl) (by kernel_rfl) (by kernel_rfl) (by kernel_rfl) B₄ (T.keeps ex₄) (by kernel_rfl) (by kernel_rfl) (by kernel_rfl) fun f h₅ tk₅ doc pm c' ctv up₅ T₅ hf hf₅ hrec₅ => ?_
  have h37 : ∀ k, s.heap.objs.size + k ≠ 37 := by
    obtain ⟨ps, e, _⟩ := T
    exact lt_ne37 (Heap.lt_size e)
  have hci₅ : h₅.IsCell (s.heap.objs.size + 3) none := cell_at hci₄ up₅ (h37 3)
  refine wpAny_storeName_cell (c := s.heap.objs.size + 3) (by kernel_rfl) (by kernel_rfl) (by kernel_rfl) hci₅ fun h₆ hci₆ hs₆ => ?_
  (try dsimp only at hs₆ hci₆); (try dsimp only)
  have n3f : f ≠ s.heap.objs.size + 3 := fun q => by
    obtain ⟨o, e, _⟩ := hci₄
    rw [← q, hf] at e; cases e
  have D37 : D ≠ 37 := fun q => by
    obtain ⟨ps, e, _⟩ := T
    have e2 := up₂ _ _ (hk₁ _ _ e)
    rw [← q, hDn] at e2; cases e2
  have n3D : D ≠ s.heap.objs.size + 3 := fun q => by
    obtain ⟨o, e, _⟩ := hci'.keeps up₂
    rw [← q, hDn] at e; cases e
  have up₆ : ∀ b o, b ≠ 37 → b ≠ s.heap.objs.size + 3 → h₄.get? b = some o → h₆.get? b = some o := fun b o hb hb' e => hs₆.extBut b o hb' (up₅ b o hb e)
  have hD₆ : h₆.IsList D (Array.replicate nb (.int 0 tk₁)) := let ⟨o, e, r⟩ := hD₄; ⟨o, up₆ D o D37 n3D e, r⟩
  have hcd₆ : h₆.IsCell (s.heap.objs.size + 2) (some (.ref D)) := let ⟨o, e, d⟩ := hcd₄; ⟨o, up₆ _ o (h37 2) (by omega) e, d⟩
  have hcn₆ : h₆.IsCell (s.heap.objs.size + 1) (some (.int 1 u)) := let ⟨o, e, d⟩ := hcn₄; ⟨o, up₆ _ o (h37 1) (by omega) e, d⟩
  have hns₆ : h₆.Ns s.heap.objs.size _ := (hns₄.extBut (b := 37) up₅ (h37 0)).sameBut hs₆ (ne_add _ 2)
  have ex₆ : ∀ b o, b ≠ 37 → s.heap.get? b = some o → h₆.get? b = some o := fun b o hb e => up₆ b o hb (Nat.ne_of_lt (Nat.lt_of_lt_of_le (Heap.lt_size e) (Nat.le_add_right _ 3))) (ex₄ b o e)
  have T₆ : TabOk w h₆ := T₅.but (noRec_cell hci₅) fun b o hb e => hs₆.extBut b o hb e
  have I₆ : InnerAt w f (s.heap.objs.size + 1) (s.heap.objs.size + 2) (s.heap.objs.size + 3) D h₆ := by
    refine ⟨⟨doc, pm, c', ctv, hs₆.extBut f _ n3f hf₅, ?_⟩, ⟨u, hcn₆⟩, hcd₆, hci₆⟩
    obtain ⟨c, o, vs, tc, e1, e2, e3, e4⟩ := hrec₅
    refine ⟨c, o, vs, tc, e1, hs₆.extBut c o (fun q => ?_) e2, e3, e4⟩
    obtain ⟨o', e5, e6⟩ := hci₅
    rw [q, e5] at e2; cases e2; rw [e6] at e3; cases e3
  have kg₆ : Ext g h₆ := fun b o e => ex₆ b o (fun q => by rw [q, hg] at e; cases e) (kg b o e)
  have hgD : g.get? D = none := by
    cases e : g.get? D with
    | none => rfl
    | some o => have e2 := up₂ _ _ (hk₁ _ _ (kg _ _ e)); rw [hDn] at e2; cases e2
  have sD : s.heap.get? D = none := by
    cases e : s.heap.get? D with
    | none => rfl
    | some o => have e2 := up₂ _ _ (hk₁ _ _ e); rw [hDn] at e2; cases e2
  have fin : ∀ h₇ tk₇ vs, (∀ b o, b ≠ D → h₆.get? b = some o → h₇.get? b = some o) → h₇.IsList D vs → vs.size = nb → (∀ i, i < vs.size → ∃ t, vs[i]? = some (.int (a / 2 ^ i % 2 : Nat) t)) → Q (.ref D) { s with heap := h₇, toks := tk₇ } := fun h₇ tk₇ vs k₇ hl₇ hsz hv =>
    h h₇ tk₇ D vs (fun b o hb e => k₇ b o (fun q => by rw [q, sD] at e; cases e) (ex₆ b o hb e)) (T₆.but (noRec_list hD₆) k₇) sD hl₇ hsz hv
  with_reducible refine wpAny_execs_cons ?_
  with_reducible refine wpAny_If ?_
  refine isTrue_plain ?_
  refine lname hns₆ (v := .int a t) (by kernel_rfl) ?_
  with_reducible refine truthy_int ?_
  by_cases h0 : a = 0
  · rw [if_neg (by simp [h0])]
    with_reducible refine wpAny_execs_nil ?_
    dsimp only
    with_reducible refine wpAny_execs_cons ?_
    with_reducible refine wpAny_Return_some ?_
    refine cname (c := s.heap.objs.size + 2) (by kernel_rfl) hcd₆ ?_
    refine fin h₆ _ _ (fun b o _ e => e) hD₆ (by simp) fun i hi => ?_
    have := hz0 h0
    simp at hi; omega
  · rw [if_pos (by simpa using h0)]
    with_reducible refine wpAny_execs_cons ?_
    refine wpAny_Expr_any ?_ (by kernel_rfl) (by kernel_rfl)
    refine Call_ ?_
    refine cname (c := s.heap.objs.size + 3) (by kernel_rfl) hci₆ ?_
    have hFn : FnAt f h₆ := let ⟨_, _, _, _, e, _⟩ := I₆.fn; ⟨_, _, _, _, e⟩
    refine callWith_F hFn ?_
    refine spliced_more ?_
    refine lname hns₆ (v := .int a t) (by kernel_rfl) ?_
    refine spliced_more ?_
    with_reducible refine wpAny_Constant_int ?_
    refine spliced_more ?_
    refine Call_ ?_
    refine bname (w := w) (B.keeps kg₆) (by kernel_rfl) boot_len ?_
    refine PyProof.Rows.callWith_builtin1 ?_
    refine spliced_more ?_
    refine cname (c := s.heap.objs.size + 2) (by kernel_rfl) hcd₆ ?_
    refine spliced_none ?_
    refine len_list hD₆ (by simp; omega) ?_
    refine spliced_none ?_
    refine ⟨hFn, ?_⟩
    dsimp only [List.nil_append]
    rw [show (((Array.replicate nb (Value.int 0 tk₁)).size : Nat) : Int) = ((0 + nb : Nat) : Int) from by simp]
    have hcall := @inner_call prog w g B f (s.heap.objs.size + 1) (s.heap.objs.size + 2) (s.heap.objs.size + 3) D hgD nb
    refine hcall (l := 0) (vs := Array.replicate nb (.int 0 tk₁)) (r.deeper.less (by omega)) (hz1 h0) hnb (by omega) hlt (by simp) kg₆ I₆ hD₆ fun h₇ tk₇ vs' k₇ hl₇ hp₇ => ?_
    with_reducible refine wpAny_execs_nil ?_
    dsimp only
    with_reducible refine wpAny_execs_cons ?_
    with_reducible refine wpAny_Return_some ?_
    have hcd₇ : h₇.IsCell (s.heap.objs.size + 2) (some (.ref D)) := cell_at hcd₆ k₇ fun q => by
      obtain ⟨o, e, _⟩ := hcd'.keeps up₂
      rw [q, hDn] at e; cases e
    refine cname (c := s.heap.objs.size + 2) (by kernel_rfl) hcd₇ ?_
    refine fin h₇ _ vs' k₇ hl₇ (by rw [hp₇.size]; simp) fun i hi => ?_
    have := hp₇.here i (by rw [hp₇.size] at hi; simpa using hi)
    rwa [Nat.zero_add] at this
end Mine
namespace Mine
/-- great letters -/
noncomputable def AB (l : List Bool) : Str := ⟨(l.map fun b => if b then 66 else 65).toArray⟩
theorem upper_ab (l : List Bool) : Txt.upper (ab l) = AB l := by
  rw [upper_ascii (fun c hc => by
    simp only [ab, List.mem_map] at hc
    obtain ⟨b, _, rfl⟩ := hc
    cases b <;> decide)]
  apply Str.ext'
  apply Array.toList_inj.mp
  simp only [ab, AB, Array.toList_map, List.map_map]
  refine List.map_congr_left fun b _ => ?_
  cases b <;> rfl
theorem lower_AB (l : List Bool) : Txt.lower (AB l) = ab l := by
  rw [lower_ascii (fun c hc => by
    simp only [AB, List.mem_map] at hc
    obtain ⟨b, _, rfl⟩ := hc
    cases b <;> decide)]
  apply Str.ext'
  apply Array.toList_inj.mp
  simp only [ab, AB, Array.toList_map, List.map_map]
  refine List.map_congr_left fun b _ => ?_
  cases b <;> rfl
theorem lower_ab (l : List Bool) : Txt.lower (ab l) = ab l := by
  rw [lower_ascii (fun c hc => by
    simp only [ab, List.mem_map] at hc
    obtain ⟨b, _, rfl⟩ := hc
    cases b <;> decide)]
  apply Str.ext'
  apply Array.toList_inj.mp
  simp only [ab, Array.toList_map, List.map_map]
  refine List.map_congr_left fun b _ => ?_
  cases b <;> rfl
theorem AB_star (l : List Bool) : AB l ≠ Str.ofString "*" := by
  intro h
  have h1 := congrArg (fun x : Str => x.cps.toList) h
  have e : (Str.ofString "*").cps.toList = [42] := by decide +kernel
  simp only [e, AB, List.toList_toArray] at h1
  cases l with
  | nil => simp at h1
  | cons b l => cases b <;> simp at h1
/-- a word stands in a text -/
noncomputable def stands (W X : List Bool) : Prop := ∃ i, i + W.length ≤ X.length ∧ (X.drop i).take W.length = W
noncomputable def standsB (W X : List Bool) : Bool := (List.range (X.length + 1)).any fun i => decide (i + W.length ≤ X.length) && ((X.drop i).take W.length == W)
theorem standsB_iff (W X : List Bool) : standsB W X = true ↔ stands W X := by
  unfold standsB stands
  rw [List.any_eq_true]
  constructor
  · rintro ⟨i, _, h⟩
    simp only [Bool.and_eq_true, decide_eq_true_eq, beq_iff_eq] at h
    exact ⟨i, h⟩
  · rintro ⟨i, h⟩
    exact ⟨i, by rw [List.mem_range]; omega, by simpa using h⟩
theorem cps_ab (l : List Bool) : (ab l).cps.toList = l.map fun b => if b then 98 else 97 := by simp [ab]
theorem found_ab (W X : List Bool) : (!(Builtin.Str.occurrences (ab X) (ab W) 0 (ab X).length 1).isEmpty) = standsB W X := by
  rw [Bool.eq_iff_iff, StrLaws.found_iff, standsB_iff]
  unfold stands
  refine exists_congr fun i => ?_
  rw [StrLaws.subAt_eq, ab_length, ab_length, cps_ab, cps_ab, beq_iff_eq, ← List.map_drop, ← List.map_take]
  constructor
  · rintro ⟨h1, h2⟩
    exact ⟨h1, ab_inj (by unfold ab; rw [h2])⟩
  · rintro ⟨h1, h2⟩
    exact ⟨h1, by rw [h2]⟩
theorem split_ab (X : List Bool) (w : Str) : ∃ r, Txt.split (ab X ++ Str.ofString "/" ++ w) (Str.ofString "/") = ab X :: r := by
  have es : (Str.ofString "/") = ⟨#[47]⟩ := by decide +kernel
  have e1 : (Str.ofString "/").length = 1 := by decide +kernel
  have hc : (ab X ++ Str.ofString "/" ++ w).cps.toList = X.map (fun b => if b then 98 else 97) ++ 47 :: w.cps.toList := by
    rw [Str.cps_append, Str.cps_append, es]; simp [ab]
  generalize hx : ab X ++ Str.ofString "/" ++ w = x at *
  have hl : x.length = X.length + 1 + w.length := by
    have := congrArg List.length hc
    simp only [Array.length_toList, List.length_append, List.length_map, List.length_cons] at this
    simp only [Str.length]; omega
  unfold Txt.split
  have k1 : (decide (x.length < (Str.ofString "/").length) || decide (Builtin.Str.strKind x < Builtin.Str.strKind (Str.ofString "/"))) = false := by
    have : Builtin.Str.strKind (Str.ofString "/") = 1 := by decide +kernel
    rw [this, e1, decide_eq_false (by omega), decide_eq_false]
    · rfl
    · unfold Builtin.Str.strKind; split
      · decide
      · split <;> decide
  rw [k1]
  simp only [Bool.false_eq_true, if_false]
  have key : ∀ i, StrLaws.At x (Str.ofString "/") x.length i ↔ x.cps.toList[i]? = some 47 := fun i => by
    rw [es]; exact StrLaws.subAt_one x 47 i
  have hX : x.cps.toList[X.length]? = some 47 := by rw [hc]; simp
  have hlt : ∀ k, k < X.length → x.cps.toList[k]? ≠ some 47 := fun k hk e => by
    rw [hc, List.getElem?_append_left (by simpa using hk), List.getElem?_map] at e
    obtain ⟨b, _, e2⟩ := Option.map_eq_some_iff.mp e
    cases b <;> simp at e2
  rcases StrLaws.occ_head x (Str.ofString "/") (x.length + 1) (by omega) with ⟨_, hn⟩ | ⟨i, r, e, hi, hk⟩
  · exact absurd ((key _).mpr hX) (hn X.length)
  · have ei : i = X.length := by
      rcases Nat.lt_trichotomy i X.length with h | h | h
      · exact absurd ((key i).mp hi) (hlt i h)
      · exact h
      · exact absurd ((key _).mpr hX) (hk X.length h)
    subst ei
    rw [e]
    simp only [List.isEmpty_cons, Bool.false_eq_true, if_false]
    unfold Builtin.Str.partsBetween
    simp only [List.map_cons, List.cons_append, List.zip_cons_cons]
    have e0 : Builtin.Str.strSub x 0 X.length = ab X := by
      apply Str.ext'
      apply Array.toList_inj.mp
      rw [StrLaws.strSub_toList, hc]
      simp [ab]
    rw [e0]
    exact ⟨_, rfl⟩
end Mine
namespace Mine
section
variable {prog : Program} {w : World} {A : Around} {s : Shared}
/-- a for over what W walks, by an invariant of the heap -/
theorem for_loop {R : Result → Shared → Prop} {x : Str} {px : Pos} {body : List Stmt} {env : Env} {I : Addr} {fp wr : List Addr} {n : Nat} {P : Nat → Value → Prop} {St : Nat → Heap → Prop}
    (W : Walks prog w A I fp wr n P St) (J : Nat → Heap → Prop) (stab : ∀ i h h', J i h → St i h → (∀ b o, b ∉ wr → h.get? b = some o → h'.get? b = some o) → J i h') (hst : St 0 s.heap) (hj : J 0 s.heap)
    (turn : ∀ i v h tk, i < n → P i v → J i h → St (i + 1) h → wpAny (model prog w) A (assign (.Name x px) env v) (fun _ s₂ => wpAny (model prog w) A (execs body env) (fun f s₃ => match f with
        | .next | .cont => ∃ h' tk', s₃ = { s with heap := h', toks := tk' } ∧ J (i + 1) h' ∧ St (i + 1) h'
        | .brk => R (.ok .next) s₃
        | .ret v => R (.ok (.ret v)) s₃) (fun _ _ => False) s₂) (fun _ _ => False) { s with heap := h, toks := tk })
    (done : ∀ h tk, J n h → R (.ok .next) { s with heap := h, toks := tk }) :
    codeAny (model prog w) A (.forLoop (.Name x px) (.ref I) body [] env) R s := by
  refine codeAny_forLoop_any (fun k s' => ∃ i h tk, s' = { s with heap := h, toks := tk } ∧ J i h ∧ St i h ∧ i ≤ n ∧ k = n - i) ?_ n ⟨0, s.heap, s.toks, rfl, hj, hst, Nat.zero_le _, rfl⟩
  rintro k s' ⟨i, h, tk, rfl, hJ, hS, hi, rfl⟩
  by_cases hlt : i < n
  · refine W.item i _ _ _ hlt hS fun v h' tk' hP hS' hk => ?_
    refine wpAny_pure ?_
    refine wpAny_mono (turn i v h' tk' hlt hP (stab i h h' hJ hS hk) hS') (fun _ s₂ h₂ => wpAny_mono h₂ (fun f s₃ h₃ => ?_) fun _ _ x => x.elim) fun _ _ x => x.elim
    cases f with
    | next => obtain ⟨h', tk', rfl, a, b⟩ := h₃; exact ⟨n - (i + 1), by omega, i + 1, h', tk', rfl, a, b, hlt, rfl⟩
    | cont => obtain ⟨h', tk', rfl, a, b⟩ := h₃; exact ⟨n - (i + 1), by omega, i + 1, h', tk', rfl, a, b, hlt, rfl⟩
    | brk => exact h₃
    | ret v => exact h₃
  · have e : i = n := by omega
    subst e
    refine W.done _ _ _ hS fun h' tk' hk => ?_
    exact wpAny_execs_nil (done h' tk' (stab _ h h' hJ hS hk))
/-- a while, by an invariant and a measure -/
theorem while_loop {R : Result → Shared → Prop} {test : Expr} {body : List Stmt} {env : Env} (J : Nat → Heap → Prop) (n : Nat) (hj : J n s.heap)
    (turn : ∀ k h tk, J k h → wpAny (model prog w) A (isTrue test env (eval test env)) (fun b s₂ => if b = true then wpAny (model prog w) A (execs body env) (fun f s₃ => match f with
        | .next | .cont => ∃ h' tk' k', s₃ = { s with heap := h', toks := tk' } ∧ k' < k ∧ J k' h'
        | .brk => R (.ok .next) s₃
        | .ret v => R (.ok (.ret v)) s₃) (fun _ _ => False) s₂ else R (.ok .next) s₂) (fun _ _ => False) { s with heap := h, toks := tk }) :
    codeAny (model prog w) A (.whileLoop test body [] env) R s := by
  refine codeAny_whileLoop (fun k s' => ∃ h tk, s' = { s with heap := h, toks := tk } ∧ J k h) ?_ n ⟨s.heap, s.toks, rfl, hj⟩
  rintro k s' ⟨h, tk, rfl, hJ⟩
  refine wpAny_mono (turn k h tk hJ) (fun b s₂ h₂ => ?_) fun _ _ x => x.elim
  cases b with
  | true =>
    refine wpAny_mono h₂ (fun f s₃ h₃ => ?_) fun _ _ x => x.elim
    cases f with
    | next => obtain ⟨h', tk', k', rfl, a, b⟩ := h₃; exact ⟨k', a, h', tk', rfl, b⟩
    | cont => obtain ⟨h', tk', k', rfl, a, b⟩ := h₃; exact ⟨k', a, h', tk', rfl, b⟩
    | brk => exact h₃
    | ret v => exact h₃
  | false => exact wpAny_execs_nil h₂
end
end Mine
namespace Mine
/-- what is neither of the ground nor at L nor at d -/
noncomputable def ledger (h₀ : Heap) (L d : Addr) (h : Heap) : List (Addr × Obj) := (List.range h.objs.size).filterMap fun b => if b = L ∨ b = d ∨ (h₀.get? b).isSome = true then none else (h.get? b).map fun o => (b, o)
theorem ledger_mem {h₀ h : Heap} {L d b : Addr} {o : Obj} (hb : b ≠ L) (hd : b ≠ d) (h0 : h₀.get? b = none) (e : h.get? b = some o) : (b, o) ∈ ledger h₀ L d h := by
  refine List.mem_filterMap.mpr ⟨b, List.mem_range.mpr (Heap.lt_size e), ?_⟩
  rw [if_neg (by simp [hb, hd, h0]), e]; rfl
theorem ledger_of {h₀ h : Heap} {L d : Addr} {p : Addr × Obj} (hp : p ∈ ledger h₀ L d h) : p.1 ≠ L ∧ p.1 ≠ d ∧ h₀.get? p.1 = none ∧ h.get? p.1 = some p.2 := by
  obtain ⟨b, _, e⟩ := List.mem_filterMap.mp hp
  by_cases hb : b = L ∨ b = d ∨ (h₀.get? b).isSome = true
  · rw [if_pos hb] at e; cases e
  · rw [if_neg hb] at e
    obtain ⟨o, eo, rfl⟩ := Option.map_eq_some_iff.mp e
    refine ⟨fun q => hb (.inl q), fun q => hb (.inr (.inl q)), ?_, eo⟩
    cases q : h₀.get? b with
    | none => rfl
    | some o' => exact absurd (.inr (.inr (by rw [q]; rfl))) hb
/-- a store into an Entry -/
theorem set_attr {prog : Program} {w : World} {A : Around} {E : Value → Shared → Prop} {s : Shared} {h₀ : Heap} {L x dx : Addr} {m : Str → Option Value} {name : Str} {v : Value} {es : List DictEntry} {n : Nat} {Q : Unit → Shared → Prop} (es' : List DictEntry) (n' : Nat)
    (B : Amb w h₀) (F : Fr h₀ L s.heap m) (hx : s.heap.get? x = some (instObj 80 dx)) (hd : s.heap.get? dx = some (dictOf es n)) (h0 : h₀.get? dx = none) (hdL : dx ≠ L)
    (e : (putL name (PyData.keyHash w.params name) (.str name (s.toks + 1)) v es, putN name es n) = (es', n'))
    (h : ∀ h', h'.Ns L m → (∀ b o, b ≠ L → b ≠ dx → s.heap.get? b = some o → h'.get? b = some o) → h'.get? dx = some (dictOf es' n') → Q () { s with heap := h', toks := s.toks + 2 })
    (ht : takerIn (KK w) 80 name = some none := by kernel_rfl) (hl : (getL name es).isSome = true := by kernel_rfl) (hz : es'.length ≤ 1000 := by exact Nat.le_of_ble_eq_true rfl) :
    wpAny (model prog w) A (setAttr (.ref x) name v) Q E s := by
  have N : News h₀ L s.heap ((dx, dictOf es n) :: ledger h₀ L dx s.heap) := fun p hp => by
    rcases List.mem_cons.mp hp with rfl | hp
    · exact ⟨hd, hdL, h0⟩
    · obtain ⟨a, b, c, d⟩ := ledger_of hp; exact ⟨d, a, c⟩
  refine set_dict (K := KK w) (C := 80) (dx := dx) (ox := instObj 80 dx) F B.K N ⟨hx, rfl, rfl, hd⟩ rfl (by kernel_rfl) (by kernel_rfl) ht (by kernel_rfl) hl e (Upd.head fun p hp => (ledger_of hp).2.1) hz fun h' F' N' => ?_
  refine h h' F'.ns (fun b o hb hb' eb => ?_) (N' _ (.head _)).1
  cases q : h₀.get? b with
  | none => exact (N' (b, o) (.tail _ (ledger_mem hb hb' q eb))).1
  | some o' =>
    have := F.keep b o' q
    rw [eb] at this; cases this
    exact F'.keep b o q
noncomputable def ent (w : World) (nm : String) (t : Tok) (v : Value) : DictEntry := ⟨PyData.keyHash w.params (Str.ofString nm), .str (Str.ofString nm) t, v⟩
noncomputable abbrev entE (w : World) (t₁ t₂ t₃ t₄ : Tok) (a b : Value) : List DictEntry := [ent w "useragents" t₁ a, ent w "rulelines" t₂ b, ent w "delay" t₃ .none, ent w "req_rate" t₄ .none]
set_option maxHeartbeats 1000000 in
theorem init_code {prog : Program} {w : World} {A : Around} {s : Shared} {h₀ : Heap} {x dx : Addr} {R : Result → Shared → Prop} (B : Amb w h₀) (r : Room A 1) (kg : Ext h₀ s.heap) (hsz : h₀.objs.size ≤ s.heap.objs.size)
    (hx : s.heap.get? x = some (instObj 80 dx)) (hd : s.heap.get? dx = some (dictOf [] 0)) (h0 : h₀.get? dx = none)
    (h : ∀ h' tk t₁ t₂ t₃ t₄ a b, (∀ b o, b ≠ dx → s.heap.get? b = some o → h'.get? b = some o) → h'.get? dx = some (dictOf (entE w t₁ t₂ t₃ t₄ a b) 4) → R (.ok (.ret .none)) { s with heap := h', toks := tk }) :
    codeAny (model prog w) A (.call (.ref 56) ⟨[.ref x], []⟩) R s := by
  have B' := B.keeps kg
  have hnames : ((fnAt w 56).scope.names.all fun x => x.2 != .cell) = true := by kernel_rfl
  refine codeAny_call_def (fd := fnAt w 56) (o := obAt w 56) (body := [_, _, _, _]) (binds := [(Str.ofString "self", .ref x)]) (by have := r.depth; omega) (B'.K _ _ (by kernel_rfl)) (by kernel_rfl) B'.nolimit (codeRec_of B'.K (by kernel_rfl)) rfl (BindsTo.of_eq (by kernel_rfl)) ?_ ?_ (fun h₁ hn hk => ?_) (by kernel_rfl) (by kernel_rfl) (by kernel_rfl)
  · intro y hy e
    have := List.all_eq_true.mp hnames y hy
    rw [e] at this; exact absurd this (by decide)
  · intro y hy
    rcases List.mem_cons.mp hy with rfl | hy
    · kernel_rfl
    · cases hy
  have hdl := Heap.lt_size hd
  have hdL : dx ≠ s.heap.objs.size := Nat.ne_of_lt hdl
  have hxL : x ≠ s.heap.objs.size := Nat.ne_of_lt (Heap.lt_size hx)
  have hxd : x ≠ dx := fun q => by rw [q, hd] at hx; cases hx
  have kg₁ : Ext h₀ h₁ := kg.trans hk
  have F₁ : Fr h₀ s.heap.objs.size h₁ _ := ⟨hn, kg₁, hsz⟩
  refine wpAny_mono (Q := fun f s' => R (.ok (.ret (retOf f))) s') (E := fun _ _ => False) ?_ (fun f s' hq => by cases f <;> exact hq) fun _ _ x => x.elim
  generalize hsl : s.toks + [(Str.ofString "self", Value.ref x)].length = tk₁
  -- self.useragents = []
  with_reducible refine wpAny_execs_cons ?_
  refine plainObj_wpAny_Assign_Attribute ?_
  with_reducible refine List_ ?_
  refine spliced_none ?_
  refine newList' fun h₂ D₂ up₂ _ _ => ?_
  dsimp only at up₂ ⊢
  have F₂ := F₁.keeps up₂
  refine lname F₂.ns (v := .ref x) (by kernel_rfl) ?_
  refine set_attr [ent w "useragents" (tk₁ + 1) (.ref D₂)] 1 B F₂ (up₂ _ _ (hk _ _ hx)) (up₂ _ _ (hk _ _ hd)) h0 hdL (by kernel_rfl) fun h₃ hn₃ up₃ hd₃ => ?_
  dsimp only at hn₃ up₃ hd₃ ⊢
  have hx₃ := up₃ _ _ hxL hxd (up₂ _ _ (hk _ _ hx))
  have ge : ∀ {b : Addr} {o : Obj}, h₀.get? b = some o → b ≠ s.heap.objs.size ∧ b ≠ dx := fun {b o} e => ⟨fun q => absurd (Heap.lt_size e) (by rw [q]; exact Nat.not_lt.mpr hsz), fun q => by rw [q, h0] at e; cases e⟩
  have F₃ : Fr h₀ s.heap.objs.size h₃ _ := ⟨hn₃, fun b o e => up₃ b o (ge e).1 (ge e).2 (F₂.keep b o e), hsz⟩
  -- self.rulelines = []
  with_reducible refine wpAny_execs_cons ?_
  refine plainObj_wpAny_Assign_Attribute ?_
  with_reducible refine List_ ?_
  refine spliced_none ?_
  refine newList' fun h₄ D₄ up₄ _ _ => ?_
  dsimp only at up₄ ⊢
  have F₄ := F₃.keeps up₄
  refine lname F₄.ns (v := .ref x) (by kernel_rfl) ?_
  refine set_attr [ent w "useragents" (tk₁ + 1) (.ref D₂), ent w "rulelines" (tk₁ + 2 + 1) (.ref D₄)] 2 B F₄ (up₄ _ _ hx₃) (up₄ _ _ hd₃) h0 hdL (by kernel_rfl) fun h₅ hn₅ up₅ hd₅ => ?_
  dsimp only at hn₅ up₅ hd₅ ⊢
  have hx₅ := up₅ _ _ hxL hxd (up₄ _ _ hx₃)
  have F₅ : Fr h₀ s.heap.objs.size h₅ _ := ⟨hn₅, fun b o e => up₅ b o (ge e).1 (ge e).2 (F₄.keep b o e), hsz⟩
  -- self.delay = None
  with_reducible refine wpAny_execs_cons ?_
  refine plainObj_wpAny_Assign_Attribute ?_
  refine wpAny_Constant_none ?_
  refine lname F₅.ns (v := .ref x) (by kernel_rfl) ?_
  refine set_attr [ent w "useragents" (tk₁ + 1) (.ref D₂), ent w "rulelines" (tk₁ + 2 + 1) (.ref D₄), ent w "delay" (tk₁ + 2 + 2 + 1) .none] 3 B F₅ hx₅ hd₅ h0 hdL (by kernel_rfl) fun h₆ hn₆ up₆ hd₆ => ?_
  dsimp only at hn₆ up₆ hd₆ ⊢
  have hx₆ := up₆ _ _ hxL hxd hx₅
  have F₆ : Fr h₀ s.heap.objs.size h₆ _ := ⟨hn₆, fun b o e => up₆ b o (ge e).1 (ge e).2 (F₅.keep b o e), hsz⟩
  -- self.req_rate = None
  with_reducible refine wpAny_execs_cons ?_
  refine plainObj_wpAny_Assign_Attribute ?_
  refine wpAny_Constant_none ?_
  refine lname F₆.ns (v := .ref x) (by kernel_rfl) ?_
  refine set_attr (entE w (tk₁ + 1) (tk₁ + 2 + 1) (tk₁ + 2 + 2 + 1) (tk₁ + 2 + 2 + 2 + 1) (.ref D₂) (.ref D₄)) 4 B F₆ hx₆ hd₆ h0 hdL (by kernel_rfl) fun h₇ hn₇ up₇ hd₇ => ?_
  with_reducible refine wpAny_execs_nil ?_
  refine h h₇ _ _ _ _ _ _ _ (fun b o hb e => ?_) hd₇
  have hbL : b ≠ s.heap.objs.size := Nat.ne_of_lt (Heap.lt_size e)
  exact up₇ b o hbL hb (up₆ b o hbL hb (up₅ b o hbL hb (up₄ b o (up₃ b o hbL hb (up₂ b o (hk b o e))))))
end Mine
namespace Mine
theorem item_list {prog : Program} {w : World} {A : Around} {E : Value → Shared → Prop} {s : Shared} {value slice : PySem.Expr} {l : Addr} {items : Array Value} {k : Int} {u : Tok} {v : Value} {Q : Value → Shared → Prop}
    (hl : s.heap.IsList l items) (h0 : 0 ≤ k) (hhi : k < 2 ^ 63) (hx : items[k.toNat]? = some v) (h : Q v s)
    (hs : subscripted slice false (.ref l) (.int k u) = operate [.ref l, .int k u] (getItem (.ref l) (.int k u)) := by with_unfolding_all rfl) :
    wpAny (model prog w) A (subscriptTail value slice (.ref l) (.int k u)) Q E s :=
  tail_any hl.typeIs slot_list_getitem.lookup (wpAny_getItem_list hl h0 hhi hx h) hs
set_option maxHeartbeats 1000000 in
theorem applies_call {prog : Program} {w : World} {A : Around} {E : Value → Shared → Prop} {s : Shared} {x dx Dl : Addr} {t t₁ t₂ t₃ t₄ tu : Tok} {b : Value} {W X : List Bool} {wd : Str} {Q : Value → Shared → Prop} (B : Amb w s.heap) (r : Room A 3)
    (hx : s.heap.get? x = some (instObj 80 dx)) (hd : s.heap.get? dx = some (dictOf (entE w t₁ t₂ t₃ t₄ (.ref Dl) b) 4)) (hl : s.heap.IsList Dl #[.str (AB W) t]) (hX : X.length ≤ 1000) (hW : W.length ≤ 1000) (hwd : wd.length ≤ 1000)
    (h : ∀ h' tk, Ext s.heap h' → Q (.bool (standsB W X)) { s with heap := h', toks := tk }) :
    wpAny (model prog w) A (call (.ref 70) [.ref x, .str (ab X ++ Str.ofString "/" ++ wd) tu]) Q E s := by
  refine enter (w := w) (body := [_, _, _, _]) [(Str.ofString "self", .ref x), (Str.ofString "useragent", .str (ab X ++ Str.ofString "/" ++ wd) tu)] B r rfl fun h₁ tk₁ hns hk₁ => ?_
  have B₁ := B.keeps hk₁
  have e1 : (Str.ofString "/").length = 1 := by decide +kernel
  have hlen : (ab X ++ Str.ofString "/" ++ wd).length ≤ 3000 := by
    rw [Str.length_append, Str.length_append, ab_length, e1]; omega
  with_reducible refine wpAny_execs_cons ?_
  with_reducible refine wpAny_If ?_
  with_reducible refine wpAny_isTrue_Compare1 ?_
  refine lname hns (v := .str (ab X ++ Str.ofString "/" ++ wd) tu) (by kernel_rfl) ?_
  refine wpAny_Constant_none ?_
  with_reducible refine is_str_none ?_
  with_reducible refine wpAny_truthy_bool ?_
  rw [if_neg (by decide)]
  with_reducible refine wpAny_execs_nil ?_
  dsimp only
  with_reducible refine wpAny_execs_cons ?_
  refine asg ?_
  refine MethodCall_ ?_
  refine Subscript_ ?_
  refine MethodCall_ ?_
  refine lname hns (v := .str (ab X ++ Str.ofString "/" ++ wd) tu) (by kernel_rfl) ?_
  with_reducible refine GM.split ?_
  dsimp only
  refine callWith_method1 ?_
  refine spliced_more ?_
  with_reducible refine Calls.Constant_str ?_
  refine spliced_none ?_
  refine splitN1 (h₀ := s.heap) (L := s.heap.objs.size) (news := []) ⟨hns, hk₁, Nat.le_refl _⟩ News.nil (by decide +kernel) (fun l h₂ k₂ hm F₂ N₂ => ?_) (by rw [sizeLine_eq]; omega)
  dsimp only at F₂ N₂ ⊢
  obtain ⟨rr, hsp⟩ := split_ab X wd
  rw [hsp] at hm
  cases l with
  | nil => cases hm
  | cons p l =>
  obtain ⟨y, ty⟩ := p
  simp only [List.map_cons, List.cons.injEq] at hm
  obtain ⟨rfl, hm⟩ := hm
  have hl₂ : h₂.IsList h₁.objs.size (strValues ((ab X, ty) :: l)).toArray := ⟨_, (N₂ _ (.head _)).1, rfl, _, rfl⟩
  with_reducible refine wpAny_Constant_int ?_
  refine item_list (v := .str (ab X) ty) hl₂ (by decide) (by decide) (by rfl) ?_
  with_reducible refine GM.lower ?_
  dsimp only
  refine callWith_method0 ?_
  refine SCL.lower (by rw [ab_length]; omega) fun _ => ?_
  rw [lower_ab]
  refine ⟨_, F₂.ns, fun h₃ hn₃ hs₃ => ?_⟩
  dsimp only at hn₃ hs₃ ⊢
  have hL : (callEnv (fnAt w 70) s.heap.objs.size 70).locals = s.heap.objs.size := by kernel_rfl
  rw [hL] at hn₃ hs₃
  have k₃ : Ext s.heap h₃ := fun b o e => hs₃.extBut b o (Nat.ne_of_lt (Heap.lt_size e)) (F₂.keep b o e)
  have B₃ := B.keeps k₃
  generalize hty : k₂ + 1 = ty₃ at hn₃ ⊢
  with_reducible refine wpAny_execs_cons ?_
  refine wpAny_For ?_
  refine Attribute_Name_ ?_
  refine lname (s := ⟨h₃, _, _, _, _⟩) (by rw [hL]; exact hn₃) (v := .ref x) (by kernel_rfl) ?_
  refine get_own (K := KK w) (C := 80) (ox := instObj 80 dx) (h₀ := s.heap) (L := s.heap.objs.size) (attr := none) (es := entE w t₁ t₂ t₃ t₄ (.ref Dl) b) (n := 4) ⟨hn₃, k₃, Nat.le_refl _⟩ B.K ⟨k₃ _ _ hx, rfl, rfl, k₃ _ _ hd⟩ (by kernel_rfl) (by kernel_rfl) (by kernel_rfl) (by kernel_rfl) (v := .ref Dl) (by kernel_rfl) (by kernel_rfl) ?_
  dsimp only
  have hl₃ : h₃.IsList Dl #[.str (AB W) t] := hl.at fun o e => k₃ _ o e
  have hne : Dl ≠ h₃.objs.size := by obtain ⟨o, e, _⟩ := hl₃; exact Nat.ne_of_lt (Heap.lt_size e)
  refine wpAny_pyIter_list hl₃ ?_
  have hfr : s.heap.get? h₃.objs.size = none := by
    cases e : s.heap.get? h₃.objs.size with
    | none => rfl
    | some o => exact absurd (Heap.lt_size (k₃ _ _ e)) (Nat.lt_irrefl _)
  refine for_loop (Walks.list (by exact r.handled) h₃.objs.size Dl hne #[.str (AB W) t]) (fun i h => Ext s.heap h ∧ (∃ m, h.Ns s.heap.objs.size m ∧ m (Str.ofString "useragent") = some (.str (ab X) ty₃)) ∧ (1 ≤ i → standsB W X = false)) ?_ ⟨⟨_, Heap.get?_push_size _ rfl, rfl, rfl⟩, hl₃.at fun o e => Heap.get?_push_of_some _ e⟩ ⟨fun b o e => Heap.get?_push_of_some _ (k₃ b o e), ⟨_, hn₃.push _, if_pos rfl⟩, fun hi => absurd hi (by decide)⟩ ?_ ?_
  · rintro i h h' ⟨a, ⟨m, b, c⟩, d⟩ _ hk
    have hwr : ∀ b, b ≠ h₃.objs.size → b ∉ [h₃.objs.size] := fun b hb q => hb (List.mem_singleton.mp q)
    refine ⟨fun b o e => hk b o (hwr b fun q => by rw [q, hfr] at e; cases e) (a b o e), ⟨m, ?_, c⟩, d⟩
    obtain ⟨o, es, ep, e, rest⟩ := b
    exact ⟨o, es, ep, hk _ o (hwr _ (Nat.ne_of_lt (by obtain ⟨o', es', ep', e', _⟩ := hn₃; exact Heap.lt_size e'))) e, rest⟩
  · rintro i v h₄ tk₄ hi hP ⟨k₄, ⟨m₄, hn₄, hu₄⟩, _⟩ hS
    have hi0 : i = 0 := by simpa using hi
    subst hi0
    have hv : v = .str (AB W) t := by simpa using hP.symm
    subst hv
    refine wpAny_assign_Name (wpAny_storeName_local (m := m₄) (by kernel_rfl) (by rw [hL]; exact hn₄) (fun h₅ hn₅ hs₅ => ?_) (by kernel_rfl))
    rw [hL] at hn₅ hs₅
    dsimp only at hn₅ hs₅ ⊢
    have k₅ : Ext s.heap h₅ := fun b o e => hs₅.extBut b o (Nat.ne_of_lt (Heap.lt_size e)) (k₄ b o e)
    have hu₅ : (fun x => if x = Str.ofString "agent" then some (Value.str (AB W) t) else m₄ x) (Str.ofString "useragent") = some (.str (ab X) ty₃) := (if_neg (by decide)).trans hu₄
    generalize hm₅ : (fun x => if x = Str.ofString "agent" then some (Value.str (AB W) t) else m₄ x) = m₅ at hn₅ hu₅
    have ha₅ : m₅ (Str.ofString "agent") = some (.str (AB W) t) := by rw [← hm₅]; exact if_pos rfl
    with_reducible refine wpAny_execs_cons ?_
    with_reducible refine wpAny_If ?_
    with_reducible refine wpAny_isTrue_Compare1 ?_
    refine lname (m := m₅) (by rw [hL]; exact hn₅) ha₅ ?_
    with_reducible refine Calls.Constant_str ?_
    with_reducible refine PyProof.Rows.ne_str ?_
    with_reducible refine wpAny_truthy_bool ?_
    rw [if_pos (by simpa using AB_star W)]
    dsimp only
    with_reducible refine wpAny_execs_cons ?_
    refine asg ?_
    refine MethodCall_ ?_
    refine lname (m := m₅) (by rw [hL]; exact hn₅) ha₅ ?_
    with_reducible refine GM.lower ?_
    dsimp only
    refine callWith_method0 ?_
    refine SCL.lower (by simp [AB, Str.length]; omega) fun _ => ?_
    rw [lower_AB]
    refine ⟨m₅, (by rw [hL]; exact hn₅), fun h₆ hn₆ hs₆ => ?_⟩
    rw [hL] at hn₆ hs₆
    dsimp only at hn₆ hs₆ ⊢
    have k₆ : Ext s.heap h₆ := fun b o e => hs₆.extBut b o (Nat.ne_of_lt (Heap.lt_size e)) (k₅ b o e)
    have ha₆ := fun (q : Value) => (if_pos rfl : (if Str.ofString "agent" = Str.ofString "agent" then some q else m₅ (Str.ofString "agent")) = some q)
    with_reducible refine wpAny_execs_cons ?_
    with_reducible refine wpAny_If ?_
    with_reducible refine wpAny_isTrue_Compare1 ?_
    refine lname (m := _) (by rw [hL]; exact hn₆) (ha₆ _) ?_
    refine lname (m := _) (by rw [hL]; exact hn₆) (v := .str (ab X) ty₃) ((if_neg (show ¬ Str.ofString "useragent" = Str.ofString "agent" by decide)).trans hu₅) ?_
    with_reducible refine PyProof.Rows.in_str ?_
    rw [found_ab]
    with_reducible refine wpAny_truthy_bool ?_
    rcases Bool.eq_false_or_eq_true (standsB W X) with hst | hst
    · rw [if_pos hst]
      with_reducible refine wpAny_execs_cons ?_
      with_reducible refine wpAny_Return_some ?_
      refine wpAny_Constant_bool ?_
      have := h h₆ (tk₄ + 1 + 1 + 1 + 1) k₆
      rw [hst] at this
      exact this
    · rw [if_neg (by rw [hst]; decide)]
      with_reducible refine wpAny_execs_nil ?_
      dsimp only
      with_reducible refine wpAny_execs_nil ?_
      dsimp only
      with_reducible refine wpAny_execs_nil ?_
      refine ⟨h₆, _, rfl, ⟨k₆, ⟨_, hn₆, (if_neg (show ¬ Str.ofString "useragent" = Str.ofString "agent" by decide)).trans hu₅⟩, fun _ => hst⟩, ?_⟩
      have hIL : h₃.objs.size ≠ s.heap.objs.size := Nat.ne_of_gt (by obtain ⟨o', es', ep', e', _⟩ := hn₃; exact Heap.lt_size e')
      have hDL : Dl ≠ s.heap.objs.size := Nat.ne_of_lt (by obtain ⟨o, e, _⟩ := hl; exact Heap.lt_size e)
      exact ⟨(hS.1.extBut hs₅.extBut hIL).extBut hs₆.extBut hIL, (hS.2.extBut hs₅.extBut hDL).extBut hs₆.extBut hDL⟩
  · rintro h₇ tk₇ ⟨k₇, ⟨m₇, hn₇, hu₇⟩, hst⟩
    dsimp only
    with_reducible refine wpAny_execs_cons ?_
    with_reducible refine wpAny_Return_some ?_
    refine wpAny_Constant_bool ?_
    have := h h₇ tk₇ k₇
    rw [hst (Nat.le_refl _)] at this
    exact this
end Mine
namespace Mine
theorem Room.under_make {A : Around} {d : Nat} {C : Addr} (r : Room A (d + 1)) : Room (A.under (.builtin "type.__call__" ⟨.ref C :: [], []⟩)) d :=
  ⟨r.handled, by have := r.depth; rw [depth_under_kw]; omega, by
    have := r.units
    show A.units + Code.cUnits (.builtin "type.__call__" ⟨.ref C :: [], []⟩) + 4 * d < cLine
    have e : Code.cUnits (.builtin "type.__call__" ⟨.ref C :: [], []⟩) ≤ 4 := Nat.le_of_ble_eq_true (by kernel_rfl)
    omega⟩
set_option maxHeartbeats 1000000 in
theorem stands_call {prog : Program} {w : World} {A : Around} {E : Value → Shared → Prop} {s : Shared} {t tx : Tok} {W X : List Bool} {Q : Value → Shared → Prop} (B : Amb w s.heap) (r : Room A 6) (hX : X.length ≤ 1000) (hW : W.length ≤ 1000)
    (h : ∀ h' tk, Ext s.heap h' → Q (.bool (standsB W X)) { s with heap := h', toks := tk }) :
    wpAny (model prog w) A (call (.ref 91) [.str (ab W) t, .str (ab X) tx]) Q E s := by
  refine enter (w := w) (body := [_, _, _]) [(Str.ofString "word", .str (ab W) t), (Str.ofString "text", .str (ab X) tx)] B r rfl fun h₁ tk₁ hns hk₁ => ?_
  have B₁ := B.keeps hk₁
  have hL : (callEnv (fnAt w 91) s.heap.objs.size 91).locals = s.heap.objs.size := by kernel_rfl
  have F₁ : Fr s.heap s.heap.objs.size h₁ _ := ⟨hns, hk₁, Nat.le_refl _⟩
  -- record = Entry()
  with_reducible refine wpAny_execs_cons ?_
  refine asg ?_
  refine Call_ ?_
  refine gname (w := w) B₁ (v := .ref 80) (by kernel_rfl) ?_
  refine callWith_K0 (K := KK w) B₁.K (by kernel_rfl) ?_
  dsimp only [List.nil_append]
  refine call_cls (K := KK w) (fI := 56) F₁ B.K News.nil (by kernel_rfl) (by kernel_rfl) (by kernel_rfl) fun x dx h₂ F₂ N₂ _ _ => ?_
  have hx₂ := N₂ _ (.head _)
  have hd₂ := N₂ _ (.tail _ (.head _))
  dsimp only at hx₂ hd₂
  refine init_code (h₀ := s.heap) (x := x) (dx := dx) B ((r.deeper.less (by omega : 3 ≤ 5)).under_make.less (by omega)) F₂.keep (Nat.le_of_lt F₂.ns.lt) hx₂.1 hd₂.1 hd₂.2.2 fun h₃ tk₃ t₁ t₂ t₃ t₄ a b up₃ hd₃ => ?_
  refine ⟨rfl, ?_⟩
  dsimp only at up₃ hd₃ ⊢
  have hLd : s.heap.objs.size ≠ dx := fun q => hd₂.2.1 q.symm
  have hxd : x ≠ dx := fun q => by have e := hx₂.1; rw [q, hd₂.1] at e; cases e
  have hn₃ := F₂.ns.extBut (b := dx) up₃ hLd
  have k₃ : Ext s.heap h₃ := fun b o e => up₃ b o (fun q => by rw [q, hd₂.2.2] at e; cases e) (F₂.keep b o e)
  refine ⟨_, hn₃, fun h₄ hn₄ hs₄ => ?_⟩
  rw [hL] at hn₄ hs₄
  (try dsimp only at hn₄ hs₄); (try dsimp only)
  have hx₄ := hs₄.extBut x _ hx₂.2.1 (up₃ x _ hxd hx₂.1)
  have hd₄ := hs₄.extBut dx _ hd₂.2.1 hd₃
  have k₄ : Ext s.heap h₄ := fun b o e => hs₄.extBut b o (Nat.ne_of_lt (Heap.lt_size e)) (k₃ b o e)
  -- record.useragents = [word.upper()]
  with_reducible refine wpAny_execs_cons ?_
  refine plainObj_wpAny_Assign_Attribute ?_
  with_reducible refine List_ ?_
  refine spliced_more ?_
  refine MethodCall_ ?_
  refine lname (s := ⟨h₄, _, _, _, _⟩) (by rw [hL]; exact hn₄) (v := .str (ab W) t) (by kernel_rfl) ?_
  with_reducible refine GM.upper ?_
  dsimp only
  refine callWith_method0 ?_
  refine SCL.upper (by rw [ab_length]; omega) fun _ => ?_
  rw [upper_ab]
  refine spliced_none ?_
  refine newList' fun h₅ Dl up₅ hDn hD₅ => ?_
  dsimp only at up₅ hDn hD₅ ⊢
  have hn₅ := hn₄.keeps up₅
  have k₅ : Ext s.heap h₅ := k₄.trans up₅
  refine lname (s := ⟨h₅, _, _, _, _⟩) (by rw [hL]; exact hn₅) (v := .ref x) (by kernel_rfl) ?_
  refine set_attr (h₀ := s.heap) (L := s.heap.objs.size) (x := x) (dx := dx) (entE w t₁ t₂ t₃ t₄ (.ref Dl) b) 4 B ⟨hn₅, k₅, Nat.le_refl _⟩ (up₅ _ _ hx₄) (up₅ _ _ hd₄) hd₂.2.2 hd₂.2.1 (by kernel_rfl) fun h₆ hn₆ up₆ hd₆ => ?_
  dsimp only at hn₆ up₆ hd₆ ⊢
  have k₆ : Ext s.heap h₆ := fun b o e => up₆ b o (Nat.ne_of_lt (Heap.lt_size e)) (fun q => by rw [q, hd₂.2.2] at e; cases e) (k₅ b o e)
  have hx₆ := up₆ x _ hx₂.2.1 hxd (up₅ _ _ hx₄)
  have hDl₆ : h₆.IsList Dl #[.str (AB W) (tk₃ + 1)] := by
    refine ⟨_, up₆ Dl _ (fun q => ?_) (fun q => ?_) hD₅, rfl, _, rfl⟩
    · have := hn₄.lt; rw [← q] at this
      obtain ⟨o, es, ep, e, _⟩ := hn₄
      rw [← q, hDn] at e; cases e
    · rw [q, hd₄] at hDn; cases hDn
  have F₆ : Fr s.heap s.heap.objs.size h₆ _ := ⟨hn₆, k₆, Nat.le_refl _⟩
  -- return record.applies_to(text + '/' + word) is True
  with_reducible refine wpAny_execs_cons ?_
  with_reducible refine wpAny_Return_some ?_
  with_reducible refine wpAny_Compare1 ?_
  refine MethodCall_ ?_
  refine lname (s := ⟨h₆, _, _, _, _⟩) (by rw [hL]; exact hn₆) (v := .ref x) (by kernel_rfl) ?_
  refine method_inst (K := KK w) (C := 80) (ox := instObj 80 dx) (f := 70) (es := entE w t₁ t₂ t₃ t₄ (.ref Dl) b) (n := 4) F₆ B.K ⟨hx₆, rfl, rfl, hd₆⟩ (by kernel_rfl) (by kernel_rfl) (by kernel_rfl) (by kernel_rfl) ?_
  dsimp only
  refine callWith_K (K := KK w) (h₀ := s.heap) B.K (by kernel_rfl) ?_
  refine spliced_more ?_
  with_reducible refine wpAny_BinOp ?_
  with_reducible refine wpAny_BinOp ?_
  refine lname (s := ⟨h₆, _, _, _, _⟩) (by rw [hL]; exact hn₆) (v := .str (ab X) tx) (by kernel_rfl) ?_
  with_reducible refine Calls.Constant_str ?_
  have e1 : (Str.ofString "/").length = 1 := by decide +kernel
  refine SBL.add (hsz := by rw [ab_length, e1, sizeLine_eq]; omega) fun _ _ _ => ?_
  refine lname (s := ⟨h₆, _, _, _, _⟩) (by rw [hL]; exact hn₆) (v := .str (ab W) t) (by kernel_rfl) ?_
  refine SBL.add (hsz := by rw [Str.length_append, ab_length, ab_length, e1, sizeLine_eq]; omega) fun _ _ _ => ?_
  refine spliced_none ?_
  refine ⟨B.K.keeps k₆, ?_⟩
  dsimp only [List.cons_append, List.nil_append]
  refine applies_call (W := W) (X := X) (wd := ab W) (B.keeps k₆) (r.deeper.less (by omega)) hx₆ hd₆ hDl₆ hX hW (by rw [ab_length]; exact hW) fun h₇ tk₇ k₇ => ?_
  refine wpAny_Constant_bool ?_
  with_reducible refine is_bool ?_
  have := h h₇ tk₇ (k₆.trans k₇)
  rw [show (standsB W X == true) = standsB W X from by cases standsB W X <;> rfl]
  exact this
end Mine
namespace Mine
section
variable {prog : Program} {w : World} {A : Around} {E : Value → Shared → Prop} {R : Result → Shared → Prop} {s : Shared}
/-- the tests of a clause -/
noncomputable abbrev testsOf (ifs : List Expr) (env : Env) : Sem Bool := forIn ifs true fun c r => if r = true then do let ok ← isTrue c env (eval c env); pure (ForInStep.yield ok) else pure (ForInStep.yield r)
theorem let_go {target : Expr} {I l : Addr} {i : Nat} {v : Value} {Q : Unit → Shared → Prop} (hit : s.heap.IsListIter I l i) (h : Q () s) : wpAny (model prog w) A (letOwnedTupleGo target (.ref I) v) Q E s := by
  obtain ⟨o, ho, hc, hd⟩ := hit
  have key : wpAny (model prog w) A (do
    let (.ref r, .ref a) := (Value.ref I, v) | return
    let o ← load r
    match o.cls, o.data with
    | .type n, .fields vs =>
      if ["enumerate", "zip", "dict_itemiterator", "dict_reverseitemiterator", "odict_iterator", "itertools.zip_longest", "itertools.pairwise"].contains n && vs[0]? == some (rawInt a) then
        rule "for.unpacks-the-owned-tuple"
        updateField r 0 .none
    | _, _ => pure ()) Q E s := by
    cases v <;> first | exact wpAny_pure h | skip
    refine wpAny_bind (wpAny_load ho ?_)
    rw [hc, hd]
    exact wpAny_pure h
  cases target <;> first | exact wpAny_pure h | exact key
/-- a comprehension's loop of one clause, two names, by what holds of the values made so far -/
theorem pair_loop {elt iter : Expr} {ifs : List Expr} {a b : Str} {pa pb tp : Pos} {kk : Nat} {scope : Scope} {pos : Pos} {I ax D : Addr} {cenv : Env} {items : Array Value} {m : Str → Option Value}
    (Rel : Nat → List Value → Heap → Prop)
    (hab : a ≠ b) (hh : A.handled = none) (hka : cenv.kindOf a = some .local) (hkb : cenv.kindOf b = some .local)
    (hp : (cenv.scope.kind == .class || (cenv.scope.kind == .module && cenv.locals != cenv.globals)) = false)
    (hDI : D ≠ I) (hDC : D ≠ cenv.locals) (hIC : I ≠ cenv.locals) (haI : ax ≠ I) (haC : ax ≠ cenv.locals) (haD : ax ≠ D)
    (hit : s.heap.IsListIter I ax 0) (hl : s.heap.IsList ax items) (hacc : s.heap.PlainList D #[]) (hn : s.heap.Ns cenv.locals m) (hsz : items.size ≤ 1000)
    (stab : ∀ i ys h h', Rel i ys h → (∀ c o, c ≠ cenv.locals → c ≠ I → c ≠ D → h.get? c = some o → h'.get? c = some o) → Rel i ys h')
    (h0 : Rel 0 [] s.heap)
    (turn : ∀ i v ys h, items[i]? = some v → Rel i ys h → (∀ c o, c ≠ cenv.locals → c ≠ I → c ≠ D → s.heap.get? c = some o → h.get? c = some o) → (h.get? cenv.locals).isSome = true → (h.get? I).isSome = true → (h.get? D).isSome = true →
      ∃ T x y, v = .ref T ∧ h.IsTuple T #[x, y] ∧ ∀ h' tk' m', h'.Ns cenv.locals m' → m' a = some x → m' b = some y → (∀ c o, c ≠ cenv.locals → h.get? c = some o → h'.get? c = some o) → (h'.get? I).isSome = true → (h'.get? D).isSome = true →
        wpAny (model prog w) A (testsOf ifs cenv) (fun ok s₂ => Keeps { s with heap := h', toks := tk' } s₂ ∧ (ok = false → Rel (i + 1) ys s₂.heap) ∧
          (ok = true → wpAny (model prog w) A (eval elt cenv) (fun z s₃ => Keeps s₂ s₃ ∧ Rel (i + 1) (ys ++ [z]) s₃.heap) (fun _ _ => False) s₂)) (fun _ _ => False) { s with heap := h', toks := tk' })
    (done : ∀ h tk m' ys, h.Ns cenv.locals m' → h.PlainList D ys.toArray → ys.length ≤ items.size → Rel items.size ys h → (∀ c o, c ≠ cenv.locals → c ≠ I → c ≠ D → s.heap.get? c = some o → h.get? c = some o) → R (.ok .next) { s with heap := h, toks := tk }) :
    codeAny (model prog w) A (.compLoop (.ListComp elt [⟨.Tuple [.Name a pa, .Name b pb] kk tp, iter, ifs, 0⟩] scope pos) 0 (.ref I) (.ref D) cenv) R s := by
  refine codeAny_loop rfl (fun k s' => ∃ h tk m' ys i, s' = { s with heap := h, toks := tk } ∧ h.IsListIter I ax i ∧ h.IsList ax items ∧ h.PlainList D ys.toArray ∧ h.Ns cenv.locals m' ∧ ys.length ≤ i ∧ Rel i ys h ∧ i ≤ items.size ∧ k = items.size - i ∧
      ∀ c o, c ≠ cenv.locals → c ≠ I → c ≠ D → s.heap.get? c = some o → h.get? c = some o) ?_ items.size ⟨s.heap, s.toks, m, [], 0, rfl, hit, hl, hacc, hn, Nat.zero_le _, h0, Nat.zero_le _, rfl, fun _ _ _ _ _ e => e⟩
  rintro k s' ⟨h, tk, m', ys, i, rfl, hit', hl', hacc', hn', hys, hrel, hi, rfl, hk⟩
  show wpAny _ A ((compTurn (.ListComp elt [⟨.Tuple [.Name a pa, .Name b pb] kk tp, iter, ifs, 0⟩] scope pos) 0 (.ref I) (.ref D) cenv).onRaise (fun x => do noteFrame x cenv; theTreesLotGoes x)) _ _ _
  refine wpAny_noted ?_
  rw [compTurn_list]
  refine wpAny_bind (wpAny_standAt (wpAny_bind ?_))
  have isD : ∀ {h : Heap} {z : Array Value}, h.PlainList D z → (h.get? D).isSome = true := fun ⟨_, e⟩ => by rw [e]; rfl
  cases hv : items[i]? with
  | none =>
    have hge : items.size ≤ i := by simpa using hv
    have he : i = items.size := by omega
    subst he
    refine wpAny_pyNext_list_end hh hit' hl' hv fun h₁ he₁ => ?_
    refine wpAny_pure (done h₁ tk m' ys (hn'.extBut he₁ (Ne.symm hIC)) (let ⟨n, e⟩ := hacc'; ⟨n, he₁ _ _ hDI e⟩) hys (stab _ _ _ _ hrel fun c o hc hcI hcD e => he₁ c o hcI e) fun c o hc hcI hcD e => he₁ c o hcI (hk c o hc hcI hcD e))
  | some v =>
    have hlt : i < items.size := (Array.getElem?_eq_some_iff.mp hv).1
    refine wpAny_pyNext_list_item hit' hl' hv fun h₁ hit₁ hs₁ => ?_
    dsimp only
    refine wpAny_bind (let_go hit₁ ?_)
    have hn₁ := hn'.sameBut hs₁ (Ne.symm hIC)
    have up₁ : ∀ c o, c ≠ cenv.locals → c ≠ I → c ≠ D → s.heap.get? c = some o → h₁.get? c = some o := fun c o hc hcI hcD e => hs₁.extBut c o hcI (hk c o hc hcI hcD e)
    have hacc₁ : h₁.PlainList D ys.toArray := let ⟨n, e⟩ := hacc'; ⟨n, hs₁.extBut _ _ hDI e⟩
    have sI : (h₁.get? I).isSome = true := by obtain ⟨o, e, _⟩ := hit₁; rw [e]; rfl
    obtain ⟨T, x, y, rfl, hT, body⟩ := turn i v ys h₁ hv (stab _ _ _ _ hrel fun c o hc hcI hcD e => hs₁.extBut c o hcI e) up₁ (by obtain ⟨o, _, _, e, _⟩ := hn₁; rw [e]; rfl) sI (isD hacc₁)
    refine wpAny_bind (kcp_assign hh hT hka hkb hp hn₁ fun h₂ tk₂ hn₂ hk₂ => ?_)
    dsimp only at hk₂ ⊢
    have hit₂ := hit₁.at fun o e => hk₂ I o hIC e
    have hacc₂ : h₂.PlainList D ys.toArray := let ⟨n, e⟩ := hacc₁; ⟨n, hk₂ _ _ hDC e⟩
    have hl₂ : h₂.IsList ax items := (hl'.at fun o e => hs₁.extBut ax o haI e).at fun o e => hk₂ ax o haC e
    refine wpAny_bind (wpAny_mono (body h₂ tk₂ _ hn₂ (by simp [hab]) (by simp) hk₂ (by obtain ⟨o, e, _⟩ := hit₂; rw [e]; rfl) (isD hacc₂)) (fun ok s₃ h₃ => ?_) fun _ _ x => x.elim)
    obtain ⟨⟨h₃', tk₃, rfl, hk₃⟩, hf, ht⟩ := h₃
    have hit₃ := hit₂.at fun o e => hk₃ _ o e
    have hl₃ := hl₂.at fun o e => hk₃ _ o e
    have hacc₃ : h₃'.PlainList D ys.toArray := let ⟨n, e⟩ := hacc₂; ⟨n, hk₃ _ _ e⟩
    have hn₃ := hn₂.keeps hk₃
    have up₃ : ∀ c o, c ≠ cenv.locals → c ≠ I → c ≠ D → s.heap.get? c = some o → h₃'.get? c = some o := fun c o hc hcI hcD e => hk₃ c o (hk₂ c o hc (up₁ c o hc hcI hcD e))
    cases ok with
    | false => exact wpAny_pure ⟨rfl, items.size - (i + 1), by omega, h₃', tk₃, _, ys, i + 1, rfl, hit₃, hl₃, hacc₃, hn₃, by omega, hf rfl, hlt, rfl, up₃⟩
    | true =>
      refine wpAny_bind (wpAny_bind (wpAny_mono (ht rfl) (fun z s₄ h₄ => wpAny_bind ?_) fun _ _ x => x.elim))
      obtain ⟨⟨h₄', tk₄, rfl, hk₄⟩, hr₄⟩ := h₄
      have hacc₄ : h₄'.PlainList D ys.toArray := let ⟨n, e⟩ := hacc₃; ⟨n, hk₄ _ _ e⟩
      refine wpAny_list_append_plain (hsz := by rw [List.size_toArray, sizeLine_eq]; omega) hacc₄ fun h₅ hacc₅ hs₅ => ?_
      refine wpAny_pure (wpAny_pure ⟨rfl, items.size - (i + 1), by omega, h₅, tk₄, _, ys ++ [z], i + 1, rfl, (hit₃.at fun o e => hk₄ _ o e).extBut hs₅.extBut (Ne.symm hDI), (hl₃.at fun o e => hk₄ _ o e).extBut hs₅.extBut haD, (by simpa using hacc₅), (hn₃.keeps hk₄).sameBut hs₅ (Ne.symm hDC),
        (by simp; omega), stab _ _ _ _ hr₄ (fun c o hc hcI hcD e => hs₅.extBut c o hcD e), hlt, rfl, fun c o hc hcI hcD e => hs₅.extBut c o hcD (hk₄ c o (up₃ c o hc hcI hcD e))⟩)
end
section
variable {prog : Program} {w : World} {A : Around} {E : Value → Shared → Prop} {env : Env}
/-- what a pair comprehension over a list is shown by -/
structure PairOk (prog : Program) (w : World) (A : Around) (env : Env) (scope : Scope) (cl : List (Str × Addr)) (a b : Str) (ifs : List Expr) (elt : Expr) (s₁ : Shared) (items : Array Value) (Rel : (Addr → Prop) → Nat → List Value → Heap → Prop) : Prop where
  size : items.size ≤ 1000
  stab : ∀ off i ys h h', Rel off i ys h → (∀ c o, ¬ off c → h.get? c = some o → h'.get? c = some o) → Rel off i ys h'
  zero : ∀ off h, (∀ c, off c → s₁.heap.get? c = none) → Ext s₁.heap h → Rel off 0 [] h
  turn : ∀ (off : Addr → Prop) C i v ys h, (∀ c, off c → s₁.heap.get? c = none) → (∀ c, off c → (h.get? c).isSome = true) → off C → items[i]? = some v → Rel off i ys h → Ext s₁.heap h →
      ∃ T x y, v = .ref T ∧ s₁.heap.IsTuple T #[x, y] ∧ ∀ h' tk' m', h'.Ns C m' → m' a = some x → m' b = some y → Rel off i ys h' → Ext s₁.heap h' → (∀ c, off c → (h'.get? c).isSome = true) →
        wpAny (model prog w) A (testsOf ifs (compEnvC scope cl C env)) (fun ok s₂ => Keeps { s₁ with heap := h', toks := tk' } s₂ ∧ (ok = false → Rel off (i + 1) ys s₂.heap) ∧
          (ok = true → wpAny (model prog w) A (eval elt (compEnvC scope cl C env)) (fun z s₃ => Keeps s₂ s₃ ∧ Rel off (i + 1) (ys ++ [z]) s₃.heap) (fun _ _ => False) s₂)) (fun _ _ => False) { s₁ with heap := h', toks := tk' }
theorem pair_block {elt iter : Expr} {ifs : List Expr} {a b : Str} {pa pb tp : Pos} {kk : Nat} {scope : Scope} {cl : List (Str × Addr)} {pos : Pos} {s₁ : Shared} {ax : Addr} {items : Array Value} {Rel : (Addr → Prop) → Nat → List Value → Heap → Prop} {RR : Value → Addr → Result → Shared → Prop}
    (P : PairOk prog w A env scope cl a b ifs elt s₁ items Rel) (hab : a ≠ b) (hh : A.handled = none) (hcell : ∀ y ∈ scope.names, y.2 ≠ .cell) (hkind : scope.kind = .function) (hka : scope.names.lookup a = some .local) (hkb : scope.names.lookup b = some .local) (hl : s₁.heap.IsList ax items)
    (hRR : ∀ (off : Addr → Prop) D C h' tk m' ys, (∀ c, off c → s₁.heap.get? c = none) → s₁.heap.get? C = none → s₁.heap.get? D = none → D ≠ C → off C → off D → h'.Ns C m' → h'.PlainList D ys.toArray → ys.length ≤ items.size → Rel off items.size ys h' → Ext s₁.heap h' → RR (.ref D) C (.ok .next) { s₁ with heap := h', toks := tk }) :
    wpAny (model prog w) A (pyIter (.ref ax)) (fun it s₂ => wpAny (model prog w) A (newList []) (fun acc s₃ => wpAny (model prog w) A (newFunctionEnv scope env.globals cl [] env.qual none .none (some env)) (fun cenv s₄ =>
      codeAny (model prog w) A (.compStart (.ListComp elt [⟨.Tuple [.Name a pa, .Name b pb] kk tp, iter, ifs, 0⟩] scope pos) 0 it acc { cenv with scope := relabel scope env }) (RR acc cenv.locals) s₄) E s₃) E s₂) E s₁ := by
  refine wpAny_pyIter_list hl ?_
  obtain ⟨ol, hol, _⟩ := id hl
  have hax : @LT.lt Nat _ ax s₁.heap.objs.size := Heap.lt_size hol
  have lt1 : ∀ {b : Nat} {o : Obj}, s₁.heap.get? b = some o → @LT.lt Nat _ b s₁.heap.objs.size := fun e => Heap.lt_size e
  generalize hH1 : s₁.heap.push { cls := .type "list_iterator", data := .fields #[.ref ax, .int 0 0] } = H1
  have s1 : H1.objs.size = s₁.heap.objs.size + 1 := by rw [← hH1, Heap.size_push]
  have up1 : Ext s₁.heap H1 := fun b o e => by rw [← hH1]; exact Heap.get?_push_of_some _ e
  have it1 : H1.IsListIter s₁.heap.objs.size ax 0 := by rw [← hH1]; exact ⟨_, Heap.get?_push_size _ rfl, rfl, rfl⟩
  refine wpAny_newObj_type (wpAny_newFunctionEnv hcell (by intro y hy; simp at hy) (fun h₁ hns₁ hsb₁ => ?_) hkind)
  dsimp only at hns₁ hsb₁ ⊢
  generalize hH2 : H1.push { cls := .type "list", dict := none, data := .seq ([] : List Value).toArray } = H2 at hns₁ hsb₁ ⊢
  have s2 : H2.objs.size = s₁.heap.objs.size + 2 := by rw [← hH2, Heap.size_push, s1]
  have up2 : Ext H1 H2 := fun b o e => by rw [← hH2]; exact Heap.get?_push_of_some _ e
  have hD2 : H2.PlainList H1.objs.size #[] := by rw [← hH2]; exact ⟨_, Heap.get?_push_size _ rfl⟩
  have up3 : ∀ b o, b < H2.objs.size → H2.get? b = some o → h₁.get? b = some o := fun b o hb e => hsb₁.extBut b o (Nat.ne_of_lt hb) (Heap.get?_push_of_some _ e)
  have up : Ext s₁.heap h₁ := fun b o e => up3 b o (by have := lt1 e; show @LT.lt Nat _ b H2.objs.size; omega) (up2 b o (up1 b o e))
  have it3 : h₁.IsListIter s₁.heap.objs.size ax 0 := it1.at fun o e => up3 _ o (by omega) (up2 _ o e)
  have hD3 : h₁.PlainList H1.objs.size #[] := let ⟨n, e⟩ := hD2; ⟨n, up3 _ _ (by omega) e⟩
  have hl3 : h₁.IsList ax items := hl.at fun o e => up _ o e
  let off : Addr → Prop := fun c => c = H2.objs.size ∨ c = s₁.heap.objs.size ∨ c = H1.objs.size
  have offn : ∀ c, off c → s₁.heap.get? c = none := fun c hc => fresh_le (by rcases hc with rfl | rfl | rfl <;> omega)
  have noff : ∀ {c : Addr}, ¬ off c → c ≠ H2.objs.size ∧ c ≠ s₁.heap.objs.size ∧ c ≠ H1.objs.size := fun h => ⟨fun q => h (.inl q), fun q => h (.inr (.inl q)), fun q => h (.inr (.inr q))⟩
  have loop : codeAny (model prog w) A (.compLoop (.ListComp elt [⟨.Tuple [.Name a pa, .Name b pb] kk tp, iter, ifs, 0⟩] scope pos) 0 (.ref s₁.heap.objs.size) (.ref H1.objs.size) (compEnvC scope cl H2.objs.size env)) (RR (.ref H1.objs.size) H2.objs.size)
      { s₁ with heap := h₁, toks := s₁.toks + ([] : List (Str × Value)).length } := by
    refine pair_loop (cenv := compEnvC scope cl H2.objs.size env) (items := items) (ax := ax) (fun i ys h => Rel off i ys h) hab hh (lookup_relabel_local hka) (lookup_relabel_local hkb) (by simp [compEnvC, relabel, hkind])
      (by show @Ne Nat _ _; omega) (by show @Ne Nat H1.objs.size H2.objs.size; omega) (by show @Ne Nat s₁.heap.objs.size H2.objs.size; omega) (by show @Ne Nat _ _; omega) (by show @Ne Nat ax H2.objs.size; omega) (by show @Ne Nat _ _; omega) it3 hl3 hD3 hns₁ P.size
      (fun i ys h h' r k => P.stab off i ys h h' r fun c o hc e => k c o (noff hc).1 (noff hc).2.1 (noff hc).2.2 e) (P.zero off _ offn up) ?_ ?_
    · intro i v ys h hv hr hk sC sI sD
      have ex : Ext s₁.heap h := fun c o e => by
        have := lt1 e
        exact hk c o (by show @Ne Nat c H2.objs.size; omega) (by show @Ne Nat _ _; omega) (by show @Ne Nat _ _; omega) (up c o e)
      have some3 : ∀ {h : Heap}, (h.get? H2.objs.size).isSome = true → (h.get? s₁.heap.objs.size).isSome = true → (h.get? H1.objs.size).isSome = true → ∀ c, off c → (h.get? c).isSome = true := fun a b c d hd => by
        rcases hd with rfl | rfl | rfl
        · exact a
        · exact b
        · exact c
      obtain ⟨T, x, y, rfl, hT, body⟩ := P.turn off H2.objs.size i v ys h offn (some3 sC sI sD) (.inl rfl) hv hr ex
      refine ⟨T, x, y, rfl, let ⟨o, e, r⟩ := hT; ⟨o, ex _ o e, r⟩, fun h' tk' m' hn ha hb k' sI' sD' => ?_⟩
      have r' : Rel off i ys h' := P.stab off i ys h h' hr fun c o hc e => k' c o (noff hc).1 e
      have ex' : Ext s₁.heap h' := fun c o e => k' c o (by have := lt1 e; show @Ne Nat c H2.objs.size; omega) (ex c o e)
      exact body h' tk' m' hn ha hb r' ex' (some3 (by obtain ⟨o, _, _, e, _⟩ := hn; show (h'.get? _).isSome = true; rw [show h'.get? H2.objs.size = some o from e]; rfl) sI' sD')
    · intro h tk m' ys hn hpl hlen hr hk
      have ex : Ext s₁.heap h := fun c o e => by
        have := lt1 e
        exact hk c o (by show @Ne Nat c H2.objs.size; omega) (by show @Ne Nat _ _; omega) (by show @Ne Nat _ _; omega) (up c o e)
      exact hRR off _ _ h tk m' ys offn (offn _ (.inl rfl)) (offn _ (.inr (.inr rfl))) (by show @Ne Nat _ _; omega) (.inl rfl) (.inr (.inr rfl)) hn hpl hlen hr ex
  refine codeAny_compStart_list loop ?_
  have W := Walks.list (prog := prog) (w := w) hh s₁.heap.objs.size ax (Nat.ne_of_lt hax) items
  exact W.self 0 _ _ _ ⟨it3, hl3⟩ loop
theorem pair_comp {s : Shared} {elt iter : Expr} {ifs : List Expr} {a b : Str} {pa pb tp : Pos} {kk : Nat} {scope : Scope} {cl : List (Str × Addr)} {pos : Pos} {Q : Value → Shared → Prop}
    (hab : a ≠ b) (hh : A.handled = none) (hclos : closureFor scope env = pure cl) (hcell : ∀ y ∈ scope.names, y.2 ≠ .cell) (hkind : scope.kind = .function) (hnames : ∀ y ∈ scope.names, y.2 = .local → scope.names.lookup y.1 = some .local)
    (hka : scope.names.lookup a = some .local) (hkb : scope.names.lookup b = some .local)
    (h : wpAny (model prog w) A (eval iter env) (fun xv s₁ => ∃ ax items Rel, xv = .ref ax ∧ s₁.heap.IsList ax items ∧ PairOk prog w A env scope cl a b ifs elt s₁ items Rel ∧
      ∀ (off : Addr → Prop) D ys h' tk, (∀ c, off c → s₁.heap.get? c = none) → off D → h'.PlainList D ys.toArray → ys.length ≤ items.size → Rel off items.size ys h' → Ext s₁.heap h' → Q (.ref D) { s₁ with heap := h', toks := tk }) E s)
    (hs : ∀ x, foldedSetIterable iter env x = pure x := by intro _; rfl) :
    wpAny (model prog w) A (eval (.ListComp elt [⟨.Tuple [.Name a pa, .Name b pb] kk tp, iter, ifs, 0⟩] scope pos) env) Q E s := by
  rw [eval_ListComp]
  refine wpAny_comprehension_free (use := none) rfl hs hclos hkind hnames (wpAny_mono h (fun xv s₁ h₁ => ?_) fun _ _ e => e)
  obtain ⟨ax, items, Rel, rfl, hl, P, hQ⟩ := h₁
  refine pair_block (RR := fun acc C => compPost (model prog w) A E none Q acc C) P hab hh hcell hkind hka hkb hl ?_
  intro off D C h' tk m' ys offn hC hD hDC oC oD hn hpl hlen hr ex
  refine ⟨m', hn, fun h'' hs'' => hQ off D ys h'' tk offn oD (hpl.extBut hs''.extBut hDC) hlen (P.stab off _ _ _ _ hr fun c o hc e => hs''.extBut c o (fun q => hc (q ▸ oC)) e) fun c o e => hs''.extBut c o (fun q => by rw [q, hC] at e; cases e) (ex c o e)⟩
theorem pair_comp_assign {s : Shared} {elt iter : Expr} {ifs : List Expr} {a b y : Str} {pa pb tp py : Pos} {kk : Nat} {scope : Scope} {cl : List (Str × Addr)} {pos spos : Pos} {Q : Flow → Shared → Prop}
    (hsw : swapsWith (.ListComp elt [⟨.Tuple [.Name a pa, .Name b pb] kk tp, iter, ifs, 0⟩] scope pos) (some (.Name y py)) spos.line env = pure true)
    (hab : a ≠ b) (hh : A.handled = none) (hclos : closureFor scope env = pure cl) (hcell : ∀ y ∈ scope.names, y.2 ≠ .cell) (hkind : scope.kind = .function) (hnames : ∀ y ∈ scope.names, y.2 = .local → scope.names.lookup y.1 = some .local)
    (hka : scope.names.lookup a = some .local) (hkb : scope.names.lookup b = some .local)
    (hy : env.kindOf y = some .local) (hp : (env.scope.kind == .class || (env.scope.kind == .module && env.locals != env.globals)) = false)
    (h : wpAny (model prog w) A (eval iter env) (fun xv s₁ => ∃ ax items Rel m, xv = .ref ax ∧ s₁.heap.IsList ax items ∧ s₁.heap.Ns env.locals m ∧ PairOk prog w A env scope cl a b ifs elt s₁ items Rel ∧
      ∀ (off : Addr → Prop) D ys h' tk, (∀ c, off c → s₁.heap.get? c = none) → off D → h'.PlainList D ys.toArray → ys.length ≤ items.size → (∃ h'', Rel off items.size ys h'' ∧ ∀ c o, c ≠ env.locals → ¬ off c → h''.get? c = some o → h'.get? c = some o) → h'.Ns env.locals (fun z => if z = y then some (.ref D) else m z) →
        (∀ c o, c ≠ env.locals → s₁.heap.get? c = some o → h'.get? c = some o) → Q .next { s₁ with heap := h', toks := tk }) E s)
    (hs : ∀ x, foldedSetIterable iter env x = pure x := by intro _; rfl) :
    wpAny (model prog w) A (exec (.Assign [.Name y py] (.ListComp elt [⟨.Tuple [.Name a pa, .Name b pb] kk tp, iter, ifs, 0⟩] scope pos) spos) env) Q E s := by
  rw [exec_Assign_Name_used _ _ _ _ hsw]
  refine wpAny_bind (wpAny_standAt (wpAny_bind ?_))
  show wpAny _ A (do let _ ← comprehension (.ListComp elt [⟨.Tuple [.Name a pa, .Name b pb] kk tp, iter, ifs, 0⟩] scope pos) scope env _ (newList []) false (eval iter env) (some (assign (.Name y py) env))) _ _ s
  refine wpAny_bind (wpAny_mono (wpAny_comprehension_free (use := some (assign (.Name y py) env)) (Q := fun _ s' => Q .next s') rfl hs hclos hkind hnames
    (wpAny_mono h (fun xv s₁ h₁ => ?_) fun _ _ e => e)) (fun _ s' hq => wpAny_pure (wpAny_pure hq)) fun _ _ e => e)
  obtain ⟨ax, items, Rel, m, rfl, hl, hn, P, hQ⟩ := h₁
  refine pair_block (RR := fun acc C => compPost (model prog w) A E (some (assign (.Name y py) env)) (fun _ s' => Q .next s') acc C) P hab hh hcell hkind hka hkb hl ?_
  intro off D C h' tk m' ys offn hC hD hDC oC oD hnC hpl hlen hr ex
  have hLC : env.locals ≠ C := by rintro rfl; obtain ⟨o, _, _, ho, _⟩ := hn; rw [hC] at ho; cases ho
  have hLD : env.locals ≠ D := by rintro rfl; obtain ⟨o, _, _, ho, _⟩ := hn; rw [hD] at ho; cases ho
  show wpAny _ A (assign (.Name y py) env (.ref D)) _ _ _
  refine wpAny_assign_Name (wpAny_storeName_local hy (hn.keeps ex) (fun h₂ hn₂ hs₂ => ?_) hp)
  refine ⟨m', hnC.sameBut hs₂ (Ne.symm hLC), fun h₃ hs₃ => ?_⟩
  exact hQ off D ys h₃ _ offn oD ((hpl.extBut hs₂.extBut (Ne.symm hLD)).extBut hs₃.extBut hDC) hlen ⟨h', hr, fun c o hc hoff e => hs₃.extBut c o (fun q => hoff (q ▸ oC)) (hs₂.extBut c o hc e)⟩ (hn₂.sameBut hs₃ hLC)
    fun c o hc e => hs₃.extBut c o (fun q => by rw [q, hC] at e; cases e) (hs₂.extBut c o hc (ex c o e))
end
end Mine
namespace Mine
theorem compTurn_in (elt iter₀ iter₁ t₀ : Expr) (ifs₀ : List Expr) (c : Str) (pc : Pos) (scope : Scope) (pos : Pos) (it acc : Value) (env : Env) :
    compTurn (.ListComp elt [⟨t₀, iter₀, ifs₀, 0⟩, ⟨.Name c pc, iter₁, [], 0⟩] scope pos) 1 it acc env = (do
      standAt iter₁.pos
      match ← pyNext it with
      | none => pure (.done .next)
      | some v =>
        assign (.Name c pc) env v
        (do let _ ← call (.builtin "list.append") [acc, ← eval elt env])
        again (.compLoop (.ListComp elt [⟨t₀, iter₀, ifs₀, 0⟩, ⟨.Name c pc, iter₁, [], 0⟩] scope pos) 1 it acc env)) := by rfl
theorem compTurn_out (elt iter₀ iter₁ t₀ t₁ : Expr) (scope : Scope) (pos : Pos) (it acc : Value) (env : Env) :
    compTurn (.ListComp elt [⟨t₀, iter₀, [], 0⟩, ⟨t₁, iter₁, [], 0⟩] scope pos) 0 it acc env = (do
      standAt iter₀.pos
      match ← pyNext it with
      | none => pure (.done .next)
      | some v =>
        letOwnedTupleGo t₀ it v
        assign t₀ env v
        let x ← eval iter₁ env
        standAt iter₁.pos
        let x ← foldedSetIterable iter₁ env x
        let _ ← runOwn (.compStart (.ListComp elt [⟨t₀, iter₀, [], 0⟩, ⟨t₁, iter₁, [], 0⟩] scope pos) 1 (← holding [x] (pyIter x)) acc env) env
        again (.compLoop (.ListComp elt [⟨t₀, iter₀, [], 0⟩, ⟨t₁, iter₁, [], 0⟩] scope pos) 0 it acc env)) := by rfl
section
variable {prog : Program} {w : World} {A : Around} {E : Value → Shared → Prop} {R : Result → Shared → Prop} {s : Shared}
theorem compStart_in {elt t₀ t₁ iter₀ iter₁ : Expr} {scope : Scope} {pos : Pos} {it acc : Value} {env : Env}
    (h0 : codeAny (model prog w) A (.compLoop (.ListComp elt [⟨t₀, iter₀, [], 0⟩, ⟨t₁, iter₁, [], 0⟩] scope pos) 1 it acc env) R s)
    (h : wpAny (model prog w) A (pyIter it) (fun it' s' => codeAny (model prog w) A (.compLoop (.ListComp elt [⟨t₀, iter₀, [], 0⟩, ⟨t₁, iter₁, [], 0⟩] scope pos) 1 it' acc env) R s') (notedBy (model prog w) A env fun x s' => R (.error x) s') s) :
    codeAny (model prog w) A (.compStart (.ListComp elt [⟨t₀, iter₀, [], 0⟩, ⟨t₁, iter₁, [], 0⟩] scope pos) 1 it acc env) R s := by
  refine codeAny_of_tree ?_
  show wpAny _ _ ((compStart (.ListComp elt [⟨t₀, iter₀, [], 0⟩, ⟨t₁, iter₁, [], 0⟩] scope pos) 1 it acc env).onRaise (fun x => do noteFrame x env; standAt theWindowsPlace)) _ _ s
  refine wpAny_notedAt ?_
  unfold compStart
  show wpAny _ _ (ask >>= _) _ _ s
  refine wpAny_bind (wpAny_askSetting (wpAny_ite ?_))
  split
  · first
      | exact wpAny_bind (wpAny_pure (wpAny_pure (And.intro rfl h0)))
      | exact wpAny_pure (And.intro rfl h0)
  · first
      | exact wpAny_bind (wpAny_rule (wpAny_bind (wpAny_standAt (wpAny_bind (wpAny_mono h (fun it' s' h' => wpAny_pure (And.intro rfl h')) fun _ _ x => x)))))
      | (refine wpAny_bind (wpAny_rule ?_); show wpAny _ _ (standAt iter₁.pos >>= _) _ _ s; exact wpAny_bind (wpAny_standAt (wpAny_bind (wpAny_mono h (fun it' s' h' => wpAny_pure (And.intro rfl h')) fun _ _ x => x))))
/-- the inner loop -/
theorem in_loop {elt t₀ iter₀ iter₁ : Expr} {c : Str} {pc : Pos} {scope : Scope} {pos : Pos} {J D : Addr} {n N : Nat} {P : Nat → Value → Prop} {St : Nat → Heap → Prop} {cenv : Env} {m : Str → Option Value} {ys₀ : List Value}
    (W : Walks prog w A J [J] [J] n P St) (Rel : Nat → List Value → Heap → Prop) (names : List Str) (hc : cenv.kindOf c = some .local) (hcn : c ∉ names)
    (hp : (cenv.scope.kind == .class || (cenv.scope.kind == .module && cenv.locals != cenv.globals)) = false)
    (hDJ : D ≠ J) (hDC : D ≠ cenv.locals) (hJC : J ≠ cenv.locals)
    (hst : St 0 s.heap) (hacc : s.heap.PlainList D ys₀.toArray) (hn : s.heap.Ns cenv.locals m) (hys : ys₀.length + n ≤ N) (hN : N ≤ 10000)
    (stab : ∀ i ys h h', Rel i ys h → (∀ b o, b ≠ cenv.locals → b ≠ J → b ≠ D → h.get? b = some o → h'.get? b = some o) → Rel i ys h')
    (h0 : Rel 0 ys₀ s.heap)
    (turn : ∀ k v ys h tk m', k < n → P k v → h.Ns cenv.locals m' → m' c = some v → (∀ x ∈ names, m' x = m x) → Rel k ys h → (∀ b o, b ≠ cenv.locals → b ≠ J → b ≠ D → s.heap.get? b = some o → h.get? b = some o) → (h.get? J).isSome = true → (h.get? D).isSome = true →
      wpAny (model prog w) A (eval elt cenv) (fun z s₃ => Keeps { s with heap := h, toks := tk } s₃ ∧ Rel (k + 1) (ys ++ [z]) s₃.heap) (fun _ _ => False) { s with heap := h, toks := tk })
    (hJ : ∀ k h, St k h → (h.get? J).isSome = true)
    (done : ∀ h tk m' ys, h.Ns cenv.locals m' → (∀ x ∈ names, m' x = m x) → h.PlainList D ys.toArray → ys.length ≤ ys₀.length + n → Rel n ys h → (∀ b o, b ≠ cenv.locals → b ≠ J → b ≠ D → s.heap.get? b = some o → h.get? b = some o) → R (.ok .next) { s with heap := h, toks := tk }) :
    codeAny (model prog w) A (.compLoop (.ListComp elt [⟨t₀, iter₀, [], 0⟩, ⟨.Name c pc, iter₁, [], 0⟩] scope pos) 1 (.ref J) (.ref D) cenv) R s := by
  refine codeAny_loop rfl (fun q s' => ∃ h tk m' ys k, s' = { s with heap := h, toks := tk } ∧ St k h ∧ h.PlainList D ys.toArray ∧ h.Ns cenv.locals m' ∧ (∀ x ∈ names, m' x = m x) ∧ ys.length ≤ ys₀.length + k ∧ Rel k ys h ∧ k ≤ n ∧ q = n - k ∧
      ∀ b o, b ≠ cenv.locals → b ≠ J → b ≠ D → s.heap.get? b = some o → h.get? b = some o) ?_ n ⟨s.heap, s.toks, m, ys₀, 0, rfl, hst, hacc, hn, fun _ _ => rfl, Nat.le_refl _, h0, Nat.zero_le _, rfl, fun _ _ _ _ _ e => e⟩
  rintro q s' ⟨h, tk, m', ys, k, rfl, hS, hacc', hn', hm', hlen, hrel, hk, rfl, hup⟩
  show wpAny _ A ((compTurn (.ListComp elt [⟨t₀, iter₀, [], 0⟩, ⟨.Name c pc, iter₁, [], 0⟩] scope pos) 1 (.ref J) (.ref D) cenv).onRaise (fun x => do noteFrame x cenv; theTreesLotGoes x)) _ _ _
  refine wpAny_noted ?_
  rw [compTurn_in]
  refine wpAny_bind (wpAny_standAt (wpAny_bind ?_))
  have nJ : ∀ {b : Addr}, b ≠ J → b ∉ [J] := fun hb q => hb (List.mem_singleton.mp q)
  by_cases hlt : k < n
  · refine W.item k _ _ _ hlt hS fun v h₁ tk₁ hP hS₁ hk₁ => ?_
    dsimp only
    have hn₁ := hn'.extBut (b := J) (fun b o hb e => hk₁ b o (nJ hb) e) hJC.symm
    refine wpAny_bind (wpAny_assign_Name (wpAny_storeName_local hc hn₁ (fun h₂ hn₂ hs₂ => ?_) hp))
    dsimp only at hn₂ hs₂ ⊢
    have up₂ : ∀ b o, b ≠ cenv.locals → b ≠ J → b ≠ D → s.heap.get? b = some o → h₂.get? b = some o := fun b o hb hbJ hbD e => hs₂.extBut b o hb (hk₁ b o (nJ hbJ) (hup b o hb hbJ hbD e))
    have hacc₂ : h₂.PlainList D ys.toArray := let ⟨q, e⟩ := hacc'; ⟨q, hs₂.extBut _ _ hDC (hk₁ _ _ (nJ hDJ) e)⟩
    have hS₂ : St (k + 1) h₂ := W.frame _ _ _ hS₁ fun b hb o e => hs₂.extBut b o ((List.mem_singleton.mp hb) ▸ hJC) e
    have hr₂ : Rel k ys h₂ := stab _ _ _ _ hrel fun b o hb hbJ hbD e => hs₂.extBut b o hb (hk₁ b o (nJ hbJ) e)
    have hm₂ : ∀ x ∈ names, (fun y => if y = c then some v else m' y) x = m x := fun x hx => by
      have : x ≠ c := fun q => hcn (q ▸ hx)
      simp only [if_neg this]; exact hm' x hx
    refine wpAny_bind (wpAny_bind (wpAny_mono (turn k v ys h₂ _ _ hlt hP hn₂ (if_pos rfl) hm₂ hr₂ up₂ (hJ _ _ hS₂) (by obtain ⟨q, e⟩ := hacc₂; rw [e]; rfl)) (fun z s₃ h₃ => wpAny_bind ?_) fun _ _ x => x.elim))
    obtain ⟨⟨h₃', tk₃, rfl, hk₃⟩, hr₃⟩ := h₃
    have hacc₃ : h₃'.PlainList D ys.toArray := let ⟨q, e⟩ := hacc₂; ⟨q, hk₃ _ _ e⟩
    refine wpAny_list_append_plain (hsz := by rw [List.size_toArray, sizeLine_eq]; omega) hacc₃ fun h₄ hacc₄ hs₄ => ?_
    refine wpAny_pure (wpAny_pure ⟨rfl, n - (k + 1), by omega, h₄, tk₃, _, ys ++ [z], k + 1, rfl, W.frame _ _ _ hS₂ (fun b hb o e => hs₄.extBut b o (by rw [List.mem_singleton.mp hb]; exact hDJ.symm) (hk₃ b o e)), (by simpa using hacc₄), (hn₂.keeps hk₃).sameBut hs₄ hDC.symm, hm₂, (by simp; omega),
      stab _ _ _ _ hr₃ (fun b o hb hbJ hbD e => hs₄.extBut b o hbD e), hlt, rfl, fun b o hb hbJ hbD e => hs₄.extBut b o hbD (hk₃ b o (up₂ b o hb hbJ hbD e))⟩)
  · have e : k = n := by omega
    subst e
    refine W.done _ _ _ hS fun h₁ tk₁ hk₁ => ?_
    exact wpAny_pure (done h₁ tk₁ m' ys (hn'.extBut (b := J) (fun b o hb e => hk₁ b o (nJ hb) e) hJC.symm) hm' (let ⟨q, e⟩ := hacc'; ⟨q, hk₁ _ _ (nJ hDJ) e⟩) hlen (stab _ _ _ _ hrel fun b o hb hbJ hbD e => hk₁ b o (nJ hbJ) e) fun b o hb hbJ hbD e => hk₁ b o (nJ hbJ) (hup b o hb hbJ hbD e))
end
end Mine
namespace Mine
/-- what a comprehension of two clauses, pairs of a list and range(2), is shown by -/
structure Pair2Ok (prog : Program) (w : World) (A : Around) (env : Env) (scope : Scope) (cl : List (Str × Addr)) (a b c : Str) (iter₁ elt : Expr) (s₁ : Shared) (items : Array Value) (Rel : (Addr → Prop) → Nat → List Value → Heap → Prop) : Prop where
  size : items.size ≤ 1000
  stab : ∀ off i ys h h', Rel off i ys h → (∀ c o, ¬ off c → h.get? c = some o → h'.get? c = some o) → Rel off i ys h'
  grow : ∀ (off : Addr → Prop) J i ys h, Rel off i ys h → h.get? J = none → Rel (fun c => off c ∨ c = J) i ys h
  less : ∀ (off off' : Addr → Prop) i ys h, Rel off' i ys h → (∀ c, off c → off' c) → Rel off i ys h
  zero : ∀ off h, (∀ c, off c → s₁.heap.get? c = none) → Ext s₁.heap h → Rel off 0 [] h
  iter : ∀ C m' h tk, h.Ns C m' → Ext s₁.heap h → wpAny (model prog w) A (eval iter₁ (compEnvC scope cl C env)) (fun xv s₂ => Keeps { s₁ with heap := h, toks := tk } s₂ ∧ ∃ r t u v, xv = .ref r ∧ IsRange s₂.heap r 0 2 1 t u v) (fun _ _ => False) { s₁ with heap := h, toks := tk }
  pair : ∀ (i : Nat) v, items[i]? = some v → ∃ T x y, v = .ref T ∧ s₁.heap.IsTuple T #[x, y]
  turn : ∀ (off : Addr → Prop) C i T x y k t ys h tk m', (∀ c, off c → s₁.heap.get? c = none) → (∀ c, off c → (h.get? c).isSome = true) → items[i]? = some (.ref T) → s₁.heap.IsTuple T #[x, y] → k < 2 → h.Ns C m' → m' a = some x → m' b = some y → m' c = some (.int (k : Nat) t) → Rel off (2 * i + k) ys h → Ext s₁.heap h →
    wpAny (model prog w) A (eval elt (compEnvC scope cl C env)) (fun z s₃ => Keeps { s₁ with heap := h, toks := tk } s₃ ∧ Rel off (2 * i + k + 1) (ys ++ [z]) s₃.heap) (fun _ _ => False) { s₁ with heap := h, toks := tk }
section
variable {prog : Program} {w : World} {A : Around} {E : Value → Shared → Prop} {env : Env}
set_option maxHeartbeats 1000000 in
theorem pair2_loop {elt iter₀ iter₁ : Expr} {a b c : Str} {pa pb pc tp : Pos} {kk : Nat} {scope : Scope} {cl : List (Str × Addr)} {pos : Pos} {s₁ s : Shared} {I ax D C : Addr} {items : Array Value} {m : Str → Option Value} {Rel : (Addr → Prop) → Nat → List Value → Heap → Prop} {R : Result → Shared → Prop}
    (P : Pair2Ok prog w A env scope cl a b c iter₁ elt s₁ items Rel) (hss : ∃ h tk, s = { s₁ with heap := h, toks := tk }) (hab : a ≠ b) (hac : a ≠ c) (hbc : b ≠ c) (hh : A.handled = none)
    (hka : (compEnvC scope cl C env).kindOf a = some .local) (hkb : (compEnvC scope cl C env).kindOf b = some .local) (hkc : (compEnvC scope cl C env).kindOf c = some .local)
    (hp : ((compEnvC scope cl C env).scope.kind == .class || ((compEnvC scope cl C env).scope.kind == .module && (compEnvC scope cl C env).locals != (compEnvC scope cl C env).globals)) = false)
    (nC : s₁.heap.get? C = none) (nI : s₁.heap.get? I = none) (nD : s₁.heap.get? D = none) (hDI : D ≠ I) (hDC : D ≠ C) (hIC : I ≠ C) (hl : s₁.heap.IsList ax items)
    (hit : s.heap.IsListIter I ax 0) (hacc : s.heap.PlainList D #[]) (hn : s.heap.Ns C m) (hup : Ext s₁.heap s.heap) (hs : ∀ x, foldedSetIterable iter₁ (compEnvC scope cl C env) x = pure x)
    (done : ∀ h tk m' ys, h.Ns C m' → h.PlainList D ys.toArray → ys.length ≤ 2 * items.size → Rel (fun c => c = C ∨ c = I ∨ c = D) (2 * items.size) ys h → Ext s₁.heap h → R (.ok .next) { s₁ with heap := h, toks := tk }) :
    codeAny (model prog w) A (.compLoop (.ListComp elt [⟨.Tuple [.Name a pa, .Name b pb] kk tp, iter₀, [], 0⟩, ⟨.Name c pc, iter₁, [], 0⟩] scope pos) 0 (.ref I) (.ref D) (compEnvC scope cl C env)) R s := by
  obtain ⟨hz, tz, rfl⟩ := hss
  have offn : ∀ c, (c = C ∨ c = I ∨ c = D) → s₁.heap.get? c = none := fun c hc => by rcases hc with rfl | rfl | rfl <;> assumption
  have ex1 : ∀ {c : Addr} {o : Obj}, s₁.heap.get? c = some o → c ≠ C ∧ c ≠ I ∧ c ≠ D := fun e => ⟨(fun q => by rw [q, nC] at e; cases e), (fun q => by rw [q, nI] at e; cases e), (fun q => by rw [q, nD] at e; cases e)⟩
  refine codeAny_loop rfl (fun q s' => ∃ h tk m' ys i, s' = { s₁ with heap := h, toks := tk } ∧ h.IsListIter I ax i ∧ h.PlainList D ys.toArray ∧ h.Ns C m' ∧ ys.length ≤ 2 * i ∧ Rel (fun c => c = C ∨ c = I ∨ c = D) (2 * i) ys h ∧ i ≤ items.size ∧ q = items.size - i ∧ Ext s₁.heap h)
    ?_ items.size ⟨hz, tz, m, [], 0, rfl, hit, hacc, hn, Nat.zero_le _, P.zero _ _ offn hup, Nat.zero_le _, rfl, hup⟩
  rintro q s' ⟨h, tk, m', ys, i, rfl, hit', hacc', hn', hys, hrel, hi, rfl, ex⟩
  show wpAny _ A ((compTurn (.ListComp elt [⟨.Tuple [.Name a pa, .Name b pb] kk tp, iter₀, [], 0⟩, ⟨.Name c pc, iter₁, [], 0⟩] scope pos) 0 (.ref I) (.ref D) (compEnvC scope cl C env)).onRaise (fun x => do noteFrame x (compEnvC scope cl C env); theTreesLotGoes x)) _ _ _
  refine wpAny_noted ?_
  rw [compTurn_out]
  refine wpAny_bind (wpAny_standAt (wpAny_bind ?_))
  have hl' : h.IsList ax items := hl.at fun o e => ex _ o e
  cases hv : items[i]? with
  | none =>
    have hge : items.size ≤ i := by simpa using hv
    have he : i = items.size := by omega
    subst he
    refine wpAny_pyNext_list_end hh hit' hl' hv fun h₁ he₁ => ?_
    exact wpAny_pure (done h₁ tk m' ys (hn'.extBut he₁ hIC.symm) (let ⟨n, e⟩ := hacc'; ⟨n, he₁ _ _ hDI e⟩) hys (P.stab _ _ _ _ _ hrel fun c o hc e => he₁ c o (fun q => hc (.inr (.inl q))) e) fun c o e => he₁ c o (ex1 e).2.1 (ex c o e))
  | some v =>
    have hlt : i < items.size := (Array.getElem?_eq_some_iff.mp hv).1
    obtain ⟨T, x, y, rfl, hT⟩ := P.pair i v hv
    refine wpAny_pyNext_list_item hit' hl' hv fun h₁ hit₁ hs₁ => ?_
    dsimp only
    refine wpAny_bind (let_go hit₁ ?_)
    have ex₁ : Ext s₁.heap h₁ := fun c o e => hs₁.extBut c o (ex1 e).2.1 (ex c o e)
    have hn₁ := hn'.sameBut hs₁ hIC.symm
    have hacc₁ : h₁.PlainList D ys.toArray := let ⟨n, e⟩ := hacc'; ⟨n, hs₁.extBut _ _ hDI e⟩
    refine wpAny_bind (kcp_assign (env := compEnvC scope cl C env) (m := m') hh (let ⟨o, e, r⟩ := hT; ⟨o, ex₁ _ o e, r⟩) hka hkb hp hn₁ fun h₂ tk₂ hn₂ hk₂ => ?_)
    replace hn₂ : h₂.Ns C _ := hn₂
    replace hk₂ : ∀ c o, c ≠ C → h₁.get? c = some o → h₂.get? c = some o := hk₂
    dsimp only at hk₂ ⊢
    have ex₂ : Ext s₁.heap h₂ := fun c o e => hk₂ c o (ex1 e).1 (ex₁ c o e)
    have hit₂ := hit₁.at fun o e => hk₂ I o hIC e
    have hacc₂ : h₂.PlainList D ys.toArray := let ⟨n, e⟩ := hacc₁; ⟨n, hk₂ _ _ hDC e⟩
    have hr₂ : Rel (fun c => c = C ∨ c = I ∨ c = D) (2 * i) ys h₂ := P.stab _ _ _ _ _ hrel fun c o hc e => hk₂ c o (fun q => hc (.inl q)) (hs₁.extBut c o (fun q => hc (.inr (.inl q))) e)
    refine wpAny_bind (wpAny_mono (P.iter C _ h₂ tk₂ hn₂ ex₂) (fun xv s₃ h₃ => ?_) fun _ _ x => x.elim)
    obtain ⟨⟨h₃, tk₃, rfl, hk₃⟩, r, t, u, v', rfl, hr⟩ := h₃
    dsimp only at hk₃ hr
    refine wpAny_bind (wpAny_standAt ?_)
    refine wpAny_bind (wpAny_of_eq (hs _) ?_)
    refine wpAny_bind (wpAny_holding ?_)
    refine wpAny_pyIter_range hr (by decide) ?_
    dsimp only
    generalize hH : h₃.push { cls := .type "range_iterator", data := .fields #[rawInt 0, rawInt (Builtin.Range.rangeSize 0 2 1), rawInt 1] } = h₄
    have up₄ : Ext h₃ h₄ := fun c o e => by rw [← hH]; exact Heap.get?_push_of_some _ e
    have nJ : h₃.get? h₃.objs.size = none := fresh_le (Nat.le_refl _)
    have lt3 : ∀ {c : Addr} {o : Obj}, h₃.get? c = some o → c ≠ h₃.objs.size := fun e q => by rw [q, nJ] at e; cases e
    have hJ₄ : IsRangeIter h₄ h₃.objs.size 0 2 1 := by rw [← hH]; exact Heap.get?_push_size _ rfl
    have hn₄ := (hn₂.keeps hk₃).keeps up₄
    have hacc₄ : h₄.PlainList D ys.toArray := let ⟨n, e⟩ := hacc₂; ⟨n, up₄ _ _ (hk₃ _ _ e)⟩
    have ex₄ : Ext s₁.heap h₄ := fun c o e => up₄ c o (hk₃ c o (ex₂ c o e))
    have DJ : D ≠ h₃.objs.size := by obtain ⟨n, e⟩ := hacc₂; exact lt3 (hk₃ _ _ e)
    have IJ : I ≠ h₃.objs.size := by obtain ⟨o, e, _⟩ := hit₂; exact lt3 (hk₃ _ _ e)
    have CJ : C ≠ h₃.objs.size := by obtain ⟨o, _, _, e, _⟩ := hn₂; exact lt3 (hk₃ _ _ e)
    have sJ1 : s₁.heap.get? h₃.objs.size = none := by
      cases e : s₁.heap.get? h₃.objs.size with
      | none => rfl
      | some o => rw [hk₃ _ _ (ex₂ _ _ e)] at nJ; cases nJ
    have offn' : ∀ c, ((c = C ∨ c = I ∨ c = D) ∨ c = h₃.objs.size) → s₁.heap.get? c = none := fun c hc => hc.elim (offn c) fun q => by rw [q]; exact sJ1
    have hr₄ : Rel (fun c => (c = C ∨ c = I ∨ c = D) ∨ c = h₃.objs.size) (2 * i) ys h₄ :=
      P.stab _ _ _ _ _ (P.grow _ _ _ _ _ (P.stab _ _ _ _ _ hr₂ fun c o _ e => hk₃ c o e) nJ) fun c o _ e => up₄ c o e
    have W : Walks prog w A h₃.objs.size [h₃.objs.size] [h₃.objs.size] 2 (fun k v => k < 2 ∧ ∃ t, v = .int (0 + (k : Nat) * 1) t) (fun k h => IsRangeIter h h₃.objs.size (0 + (k : Nat) * 1) (((2 : Nat) : Int) - (k : Nat)) 1) := (Walks.range hh _ 0 1 2).bound
    have sI₄ : (h₄.get? I).isSome = true := by obtain ⟨o, e, _⟩ := hit₂; rw [up₄ _ _ (hk₃ _ _ e)]; rfl
    have inner : codeAny (model prog w) A (.compLoop (.ListComp elt [⟨.Tuple [.Name a pa, .Name b pb] kk tp, iter₀, [], 0⟩, ⟨.Name c pc, iter₁, [], 0⟩] scope pos) 1 (.ref h₃.objs.size) (.ref D) (compEnvC scope cl C env))
        (fun r s' => match r with
          | .ok _ => ∃ h tk m' ys, s' = { s₁ with heap := h, toks := tk } ∧ h.IsListIter I ax (i + 1) ∧ h.PlainList D ys.toArray ∧ h.Ns C m' ∧ ys.length ≤ 2 * (i + 1) ∧ Rel (fun c => c = C ∨ c = I ∨ c = D) (2 * (i + 1)) ys h ∧ Ext s₁.heap h
          | .error _ => False) { s₁ with heap := h₄, toks := tk₃ } := by
      refine in_loop (cenv := compEnvC scope cl C env) (N := 2 * items.size) W (fun k ys h => Rel (fun c => (c = C ∨ c = I ∨ c = D) ∨ c = h₃.objs.size) (2 * i + k) ys h) [a, b] hkc (by simp [hac.symm, hbc.symm]) hp DJ hDC CJ.symm (by simpa using hJ₄) hacc₄ hn₄ (by omega) (by have := P.size; omega)
        (fun k ys h h' hr' hk' => P.stab _ _ _ _ _ hr' fun c o hc e => hk' c o (fun q => hc (.inl (.inl q))) (fun q => hc (.inr q)) (fun q => hc (.inl (.inr (.inr q)))) e) hr₄ ?_ (fun k h hS => by have e : h.get? h₃.objs.size = some _ := hS; rw [e]; rfl) ?_
      · rintro k v ys' h₅ tk₅ m₅ hk ⟨_, tt, rfl⟩ hn₅ hc₅ hm₅ hr₅ hup₅ sJ sD
        have e0 : (0 : Int) + ((k : Nat) : Int) * 1 = ((k : Nat) : Int) := by omega
        rw [e0] at hc₅
        have ex₅ : Ext s₁.heap h₅ := fun c o e => hup₅ c o (ex1 e).1 (fun q => by rw [q, sJ1] at e; cases e) (ex1 e).2.2 (ex₄ c o e)
        refine P.turn _ C i T x y k tt ys' h₅ tk₅ m₅ offn' ?_ hv hT hk hn₅ ?_ ?_ hc₅ hr₅ ex₅
        · intro c' hc'
          rcases hc' with (rfl | rfl | rfl) | rfl
          · obtain ⟨o, _, _, e, _⟩ := hn₅; show (h₅.get? _).isSome = true; rw [show h₅.get? c' = some o from e]; rfl
          · obtain ⟨o, e⟩ := Option.isSome_iff_exists.mp sI₄
            rw [hup₅ _ o hIC IJ hDI.symm e]; rfl
          · exact sD
          · exact sJ
        · exact (hm₅ a (by simp)).trans (by simp [hab])
        · exact (hm₅ b (by simp)).trans (by simp)
      · intro h₆ tk₆ m₆ ys₆ hn₆ _ hacc₆ hlen₆ hr₆ hup₆
        have hit₆ : h₆.IsListIter I ax (i + 1) := hit₂.at fun o e => hup₆ I o hIC IJ hDI.symm (up₄ _ _ (hk₃ _ _ e))
        exact ⟨h₆, tk₆, m₆, ys₆, rfl, hit₆, hacc₆, hn₆, by omega, P.less _ _ _ _ _ hr₆ (fun c hc => .inl hc), fun c o e => hup₆ c o (ex1 e).1 (fun q => by rw [q, sJ1] at e; cases e) (ex1 e).2.2 (ex₄ c o e)⟩
    refine wpAny_bind (wpAny_runOwn (codeAny_mono (compStart_in inner (W.self 0 _ _ _ (by simpa using hJ₄) inner)) fun r s' hr' => ?_))
    cases r with
    | error e => exact hr'.elim
    | ok f =>
      obtain ⟨h₆, tk₆, m₆, ys₆, rfl, hit₆, hacc₆, hn₆, hlen₆, hr₆, ex₆⟩ := hr'
      exact wpAny_pure ⟨rfl, items.size - (i + 1), by omega, h₆, tk₆, m₆, ys₆, i + 1, rfl, hit₆, hacc₆, hn₆, hlen₆, hr₆, hlt, rfl, ex₆⟩
theorem pair2_comp_assign {s : Shared} {elt iter₀ iter₁ : Expr} {a b c y : Str} {pa pb pc tp py : Pos} {kk : Nat} {scope : Scope} {cl : List (Str × Addr)} {pos spos : Pos} {Q : Flow → Shared → Prop}
    (hsw : swapsWith (.ListComp elt [⟨.Tuple [.Name a pa, .Name b pb] kk tp, iter₀, [], 0⟩, ⟨.Name c pc, iter₁, [], 0⟩] scope pos) (some (.Name y py)) spos.line env = pure true)
    (hab : a ≠ b) (hac : a ≠ c) (hbc : b ≠ c) (hh : A.handled = none) (hclos : closureFor scope env = pure cl) (hcell : ∀ y ∈ scope.names, y.2 ≠ .cell) (hkind : scope.kind = .function) (hnames : ∀ y ∈ scope.names, y.2 = .local → scope.names.lookup y.1 = some .local)
    (hka : scope.names.lookup a = some .local) (hkb : scope.names.lookup b = some .local) (hkc : scope.names.lookup c = some .local)
    (hy : env.kindOf y = some .local) (hp : (env.scope.kind == .class || (env.scope.kind == .module && env.locals != env.globals)) = false)
    (h : wpAny (model prog w) A (eval iter₀ env) (fun xv s₁ => ∃ ax items Rel m, xv = .ref ax ∧ s₁.heap.IsList ax items ∧ s₁.heap.Ns env.locals m ∧ Pair2Ok prog w A env scope cl a b c iter₁ elt s₁ items Rel ∧
      ∀ (off : Addr → Prop) D ys h' tk, (∀ c, off c → s₁.heap.get? c = none) → off D → h'.PlainList D ys.toArray → ys.length ≤ 2 * items.size → (∃ h'', Rel off (2 * items.size) ys h'' ∧ ∀ c o, c ≠ env.locals → ¬ off c → h''.get? c = some o → h'.get? c = some o) → h'.Ns env.locals (fun z => if z = y then some (.ref D) else m z) →
        (∀ c o, c ≠ env.locals → s₁.heap.get? c = some o → h'.get? c = some o) → Q .next { s₁ with heap := h', toks := tk }) E s)
    (hs : ∀ x, foldedSetIterable iter₀ env x = pure x) (hs₁ : ∀ C x, foldedSetIterable iter₁ (compEnvC scope cl C env) x = pure x) :
    wpAny (model prog w) A (exec (.Assign [.Name y py] (.ListComp elt [⟨.Tuple [.Name a pa, .Name b pb] kk tp, iter₀, [], 0⟩, ⟨.Name c pc, iter₁, [], 0⟩] scope pos) spos) env) Q E s := by
  rw [exec_Assign_Name_used _ _ _ _ hsw]
  refine wpAny_bind (wpAny_standAt (wpAny_bind ?_))
  show wpAny _ A (do let _ ← comprehension (.ListComp elt [⟨.Tuple [.Name a pa, .Name b pb] kk tp, iter₀, [], 0⟩, ⟨.Name c pc, iter₁, [], 0⟩] scope pos) scope env _ (newList []) false (eval iter₀ env) (some (assign (.Name y py) env))) _ _ s
  refine wpAny_bind (wpAny_mono (wpAny_comprehension_free (use := some (assign (.Name y py) env)) (Q := fun _ s' => Q .next s') rfl hs hclos hkind hnames
    (wpAny_mono h (fun xv s₁ h₁ => ?_) fun _ _ e => e)) (fun _ s' hq => wpAny_pure (wpAny_pure hq)) fun _ _ e => e)
  obtain ⟨ax, items, Rel, m, rfl, hl, hn, P, hQ⟩ := h₁
  refine wpAny_pyIter_list hl ?_
  obtain ⟨ol, hol, _⟩ := id hl
  have hax : @LT.lt Nat _ ax s₁.heap.objs.size := Heap.lt_size hol
  have lt1 : ∀ {b : Nat} {o : Obj}, s₁.heap.get? b = some o → @LT.lt Nat _ b s₁.heap.objs.size := fun e => Heap.lt_size e
  generalize hH1 : s₁.heap.push { cls := .type "list_iterator", data := .fields #[.ref ax, .int 0 0] } = H1
  have s1 : H1.objs.size = s₁.heap.objs.size + 1 := by rw [← hH1, Heap.size_push]
  have up1 : Ext s₁.heap H1 := fun b o e => by rw [← hH1]; exact Heap.get?_push_of_some _ e
  have it1 : H1.IsListIter s₁.heap.objs.size ax 0 := by rw [← hH1]; exact ⟨_, Heap.get?_push_size _ rfl, rfl, rfl⟩
  refine wpAny_newObj_type (wpAny_newFunctionEnv hcell (by intro y hy; simp at hy) (fun h₁ hns₁ hsb₁ => ?_) hkind)
  dsimp only at hns₁ hsb₁ ⊢
  generalize hH2 : H1.push { cls := .type "list", dict := none, data := .seq ([] : List Value).toArray } = H2 at hns₁ hsb₁ ⊢
  have s2 : H2.objs.size = s₁.heap.objs.size + 2 := by rw [← hH2, Heap.size_push, s1]
  have up2 : Ext H1 H2 := fun b o e => by rw [← hH2]; exact Heap.get?_push_of_some _ e
  have hD2 : H2.PlainList H1.objs.size #[] := by rw [← hH2]; exact ⟨_, Heap.get?_push_size _ rfl⟩
  have up3 : ∀ b o, b < H2.objs.size → H2.get? b = some o → h₁.get? b = some o := fun b o hb e => hsb₁.extBut b o (Nat.ne_of_lt hb) (Heap.get?_push_of_some _ e)
  have up : Ext s₁.heap h₁ := fun b o e => up3 b o (by have := lt1 e; show @LT.lt Nat _ b H2.objs.size; omega) (up2 b o (up1 b o e))
  have it3 : h₁.IsListIter s₁.heap.objs.size ax 0 := it1.at fun o e => up3 _ o (by omega) (up2 _ o e)
  have hD3 : h₁.PlainList H1.objs.size #[] := let ⟨n, e⟩ := hD2; ⟨n, up3 _ _ (by omega) e⟩
  have hl3 : h₁.IsList ax items := hl.at fun o e => up _ o e
  have nC : s₁.heap.get? H2.objs.size = none := fresh_le (by omega)
  have nI : s₁.heap.get? s₁.heap.objs.size = none := fresh_le (Nat.le_refl _)
  have nD : s₁.heap.get? H1.objs.size = none := fresh_le (by omega)
  have loop : codeAny (model prog w) A (.compLoop (.ListComp elt [⟨.Tuple [.Name a pa, .Name b pb] kk tp, iter₀, [], 0⟩, ⟨.Name c pc, iter₁, [], 0⟩] scope pos) 0 (.ref s₁.heap.objs.size) (.ref H1.objs.size) (compEnvC scope cl H2.objs.size env))
      (compPost (model prog w) A E (some (assign (.Name y py) env)) (fun _ s' => Q .next s') (.ref H1.objs.size) H2.objs.size) { s₁ with heap := h₁, toks := s₁.toks + ([] : List (Str × Value)).length } := by
    refine pair2_loop P ⟨_, _, rfl⟩ hab hac hbc hh (lookup_relabel_local hka) (lookup_relabel_local hkb) (lookup_relabel_local hkc) (by simp [compEnvC, relabel, hkind]) nC nI nD
      (by show @Ne Nat _ _; omega) (by show @Ne Nat _ _; omega) (by show @Ne Nat _ _; omega) hl it3 hD3 hns₁ up (hs₁ _) ?_
    intro h' tk m' ys hnC hpl hlen hr ex
    have hLC : env.locals ≠ H2.objs.size := fun q => by obtain ⟨o, _, _, ho, _⟩ := hn; rw [q, nC] at ho; cases ho
    have hLD : env.locals ≠ H1.objs.size := fun q => by obtain ⟨o, _, _, ho, _⟩ := hn; rw [q, nD] at ho; cases ho
    have hDC : H1.objs.size ≠ H2.objs.size := by omega
    show wpAny _ A (assign (.Name y py) env (.ref H1.objs.size)) _ _ _
    refine wpAny_assign_Name (wpAny_storeName_local hy (hn.keeps ex) (fun h₂ hn₂ hs₂ => ?_) hp)
    refine ⟨m', hnC.sameBut hs₂ (Ne.symm hLC), fun h₃ hs₃ => ?_⟩
    refine hQ _ _ ys h₃ _ (fun c hc => by rcases hc with rfl | rfl | rfl <;> assumption) (.inr (.inr rfl)) ((hpl.extBut hs₂.extBut (Ne.symm hLD)).extBut hs₃.extBut hDC) hlen ⟨h', hr, fun c o hc hoff e => hs₃.extBut c o (fun q => hoff (.inl q)) (hs₂.extBut c o hc e)⟩ (hn₂.sameBut hs₃ hLC)
      fun c o hc e => hs₃.extBut c o (fun q => by rw [q, nC] at e; cases e) (hs₂.extBut c o hc (ex c o e))
  refine codeAny_compStart_list loop ?_
  have W := Walks.list (prog := prog) (w := w) hh s₁.heap.objs.size ax (Nat.ne_of_lt hax) items
  exact W.self 0 _ _ _ ⟨it3, hl3⟩ loop
end
end Mine
namespace Mine
noncomputable abbrev lawEnv (w : World) (L fa : Addr) (cd : Value) : Env := envOfC (Str.ofString "law") (fnAt w 101).scope L fa cd
noncomputable def lawBody (w : World) : List Stmt := match (fnAt w 101).body with
  | .stmts b => b
  | _ => []
/-- the law's frame: names, four cells, the table -/
structure LS (w : World) (g : Heap) (L : Addr) (h : Heap) (m : Str → Option Value) (d t z p : Option Value) : Prop where
  keep : Ext g h
  ns : h.Ns L m
  cd : h.IsCell (L + 1) d
  ct : h.IsCell (L + 2) t
  cz : h.IsCell (L + 3) z
  cp : h.IsCell (L + 4) p
  tab : TabOk w h
noncomputable def Mut (L b : Addr) : Prop := b = 37 ∨ b = L ∨ b = L + 1 ∨ b = L + 2 ∨ b = L + 3 ∨ b = L + 4
noncomputable def Up (L : Addr) (h h' : Heap) : Prop := ∀ b o, ¬ Mut L b → h.get? b = some o → h'.get? b = some o
theorem Up.refl (L : Addr) (h : Heap) : Up L h h := fun _ _ _ e => e
theorem Up.trans {L : Addr} {a b c : Heap} (x : Up L a b) (y : Up L b c) : Up L a c := fun p o n e => y p o n (x p o n e)
theorem Ext.up {L : Addr} {h h' : Heap} (x : Ext h h') : Up L h h' := fun b o _ e => x b o e
theorem neK {L : Nat} (a b : Nat) (h : a ≠ b) : L + a ≠ L + b := by omega
theorem ne0 {L : Nat} (a : Nat) (h : a ≠ 0) : L ≠ L + a := by omega
section
variable {w : World} {g : Heap} {L : Addr} {h h' : Heap} {m m' : Str → Option Value} {d t z p d' : Option Value}
theorem LS.ext (S : LS w g L h m d t z p) (k : Ext h h') : LS w g L h' m d t z p := ⟨S.keep.trans k, S.ns.keeps k, S.cd.keeps k, S.ct.keeps k, S.cz.keeps k, S.cp.keeps k, S.tab.keeps k⟩
theorem LS.holds (S : LS w g L h m d t z p) {b : Addr} (hb : Mut L b) : ∃ o, h.get? b = some o := by
  rcases hb with rfl | rfl | rfl | rfl | rfl | rfl
  · obtain ⟨ps, e, _⟩ := S.tab; exact ⟨_, e⟩
  · obtain ⟨o, _, _, e, _⟩ := S.ns; exact ⟨o, e⟩
  · obtain ⟨o, e, _⟩ := S.cd; exact ⟨o, e⟩
  · obtain ⟨o, e, _⟩ := S.ct; exact ⟨o, e⟩
  · obtain ⟨o, e, _⟩ := S.cz; exact ⟨o, e⟩
  · obtain ⟨o, e, _⟩ := S.cp; exact ⟨o, e⟩
theorem LS.fresh (S : LS w g L h m d t z p) {b : Addr} (e : h.get? b = none) : ¬ Mut L b := fun q => by obtain ⟨o, e'⟩ := S.holds q; rw [e] at e'; cases e'
theorem cell_same {c b : Addr} {v : Option Value} (x : h.IsCell c v) (k : Heap.SameBut b h h') (n : c ≠ b) : h'.IsCell c v := x.sameBut k n
theorem ns_cell {c : Addr} {v : Option Value} (x : h.IsCell c v) (n : h.Ns L m) : L ≠ c := fun q => by
  obtain ⟨o, e, dd⟩ := x
  obtain ⟨o', _, _, e', d', _⟩ := n
  rw [q, e] at e'; cases e'; rw [dd] at d'; cases d'
theorem LS.setL (S : LS w g L h m d t z p) (gL : g.get? L = none) (n : h'.Ns L m') (k : Heap.SameBut L h h') : LS w g L h' m' d t z p ∧ Up L h h' :=
  ⟨⟨fun b o e => k.extBut b o (fun q => by rw [q, gL] at e; cases e) (S.keep b o e), n, S.cd.sameBut k (ns_cell S.cd S.ns).symm, S.ct.sameBut k (ns_cell S.ct S.ns).symm, S.cz.sameBut k (ns_cell S.cz S.ns).symm, S.cp.sameBut k (ns_cell S.cp S.ns).symm,
    S.tab.but (noRec_ns S.ns) fun b o hb e => k.extBut b o hb e⟩, fun b o n e => k.extBut b o (fun q => n (.inr (.inl q))) e⟩
theorem LS.setE (S : LS w g L h m d t z p) (gL : g.get? L = none) (n : h'.Ns L m') (k : ∀ b o, b ≠ L → h.get? b = some o → h'.get? b = some o) : LS w g L h' m' d t z p ∧ Up L h h' :=
  ⟨⟨fun b o e => k b o (fun q => by rw [q, gL] at e; cases e) (S.keep b o e), n, cell_at S.cd k (ns_cell S.cd S.ns).symm, cell_at S.ct k (ns_cell S.ct S.ns).symm, cell_at S.cz k (ns_cell S.cz S.ns).symm, cell_at S.cp k (ns_cell S.cp S.ns).symm,
    S.tab.but (noRec_ns S.ns) k⟩, fun b o n e => k b o (fun q => n (.inr (.inl q))) e⟩
/-- the ground knows none of the law's own -/
structure Gr (w : World) (g : Heap) (L : Addr) : Prop where
  B : Amb w g
  t : g.get? 37 = none
  size : g.objs.size ≤ L
theorem Gr.noneAt (G : Gr w g L) {b : Addr} (hb : Mut L b) : g.get? b = none := by
  have := G.size
  rcases hb with rfl | rfl | rfl | rfl | rfl | rfl
  · exact G.t
  · exact fresh_le this
  · exact fresh_le (Nat.le_trans this (Nat.le_add_right _ _))
  · exact fresh_le (Nat.le_trans this (Nat.le_add_right _ _))
  · exact fresh_le (Nat.le_trans this (Nat.le_add_right _ _))
  · exact fresh_le (Nat.le_trans this (Nat.le_add_right _ _))
theorem LS.keepC (S : LS w g L h m d t z p) (G : Gr w g L) {c : Addr} (hc : Mut L c) (k : Heap.SameBut c h h') : Ext g h' := fun b o e => k.extBut b o (fun q => by rw [q, G.noneAt hc] at e; cases e) (S.keep b o e)
theorem LS.setD (S : LS w g L h m d t z p) (G : Gr w g L) (n : h'.IsCell (L + 1) d') (k : Heap.SameBut (L + 1) h h') : LS w g L h' m d' t z p ∧ Up L h h' :=
  ⟨⟨S.keepC G (.inr (.inr (.inl rfl))) k, S.ns.sameBut k (ns_cell S.cd S.ns), n, S.ct.sameBut k (neK 2 1 (by decide)), S.cz.sameBut k (neK 3 1 (by decide)), S.cp.sameBut k (neK 4 1 (by decide)), S.tab.but (noRec_cell S.cd) fun b o hb e => k.extBut b o hb e⟩,
    fun b o n e => k.extBut b o (fun q => n (.inr (.inr (.inl q)))) e⟩
theorem LS.setT (S : LS w g L h m d t z p) (G : Gr w g L) (n : h'.IsCell (L + 2) d') (k : Heap.SameBut (L + 2) h h') : LS w g L h' m d d' z p ∧ Up L h h' :=
  ⟨⟨S.keepC G (.inr (.inr (.inr (.inl rfl)))) k, S.ns.sameBut k (ns_cell S.ct S.ns), S.cd.sameBut k (neK 1 2 (by decide)), n, S.cz.sameBut k (neK 3 2 (by decide)), S.cp.sameBut k (neK 4 2 (by decide)), S.tab.but (noRec_cell S.ct) fun b o hb e => k.extBut b o hb e⟩,
    fun b o n e => k.extBut b o (fun q => n (.inr (.inr (.inr (.inl q))))) e⟩
theorem LS.setZ (S : LS w g L h m d t z p) (G : Gr w g L) (n : h'.IsCell (L + 3) d') (k : Heap.SameBut (L + 3) h h') : LS w g L h' m d t d' p ∧ Up L h h' :=
  ⟨⟨S.keepC G (.inr (.inr (.inr (.inr (.inl rfl))))) k, S.ns.sameBut k (ns_cell S.cz S.ns), S.cd.sameBut k (neK 1 3 (by decide)), S.ct.sameBut k (neK 2 3 (by decide)), n, S.cp.sameBut k (neK 4 3 (by decide)), S.tab.but (noRec_cell S.cz) fun b o hb e => k.extBut b o hb e⟩,
    fun b o n e => k.extBut b o (fun q => n (.inr (.inr (.inr (.inr (.inl q)))))) e⟩
theorem LS.setP (S : LS w g L h m d t z p) (G : Gr w g L) (n : h'.IsCell (L + 4) d') (k : Heap.SameBut (L + 4) h h') : LS w g L h' m d t z d' ∧ Up L h h' :=
  ⟨⟨S.keepC G (.inr (.inr (.inr (.inr (.inr rfl))))) k, S.ns.sameBut k (ns_cell S.cp S.ns), S.cd.sameBut k (neK 1 4 (by decide)), S.ct.sameBut k (neK 2 4 (by decide)), S.cz.sameBut k (neK 3 4 (by decide)), n, S.tab.but (noRec_cell S.cp) fun b o hb e => k.extBut b o hb e⟩,
    fun b o n e => k.extBut b o (fun q => n (.inr (.inr (.inr (.inr (.inr q)))))) e⟩
/-- a call that turns the table alone -/
theorem LS.turnTab (S : LS w g L h m d t z p) (G : Gr w g L) (T : TabOk w h') (k : ∀ b o, b ≠ 37 → h.get? b = some o → h'.get? b = some o) : LS w g L h' m d t z p ∧ Up L h h' := by
  obtain ⟨ps, e, _⟩ := S.tab
  have cell : ∀ {c : Addr} {v : Option Value}, h.IsCell c v → h'.IsCell c v := fun ⟨o, ec, dc⟩ => ⟨o, k _ o (fun q => by rw [q, e] at ec; cases ec; cases dc) ec, dc⟩
  refine ⟨⟨fun b o eb => k b o (fun q => by rw [q, G.t] at eb; cases eb) (S.keep b o eb), S.ns.extBut (b := 37) k (fun q => ?_), cell S.cd, cell S.ct, cell S.cz, cell S.cp, T⟩, fun b o n eb => k b o (fun q => n (.inl q)) eb⟩
  obtain ⟨o, _, _, e', d', _⟩ := S.ns
  rw [q, e] at e'; cases e'; cases d'
/-- a list of the law's own is turned -/
theorem LS.turnList (S : LS w g L h m d t z p) {D : Addr} {vs : Array Value} (hD : h.IsList D vs) (gD : g.get? D = none) (k : ∀ b o, b ≠ D → h.get? b = some o → h'.get? b = some o) : LS w g L h' m d t z p := by
  obtain ⟨oD, eD, cD, nD, dD⟩ := id hD
  have cell : ∀ {c : Addr} {v : Option Value}, h.IsCell c v → h'.IsCell c v := fun ⟨o, ec, dc⟩ => ⟨o, k _ o (fun q => by rw [q, eD] at ec; cases ec; rw [dD] at dc; cases dc) ec, dc⟩
  refine ⟨fun b o eb => k b o (fun q => by rw [q, gD] at eb; cases eb) (S.keep b o eb), S.ns.extBut (b := D) k (fun q => ?_), cell S.cd, cell S.ct, cell S.cz, cell S.cp, S.tab.but (noRec_list hD) k⟩
  obtain ⟨o, _, _, e', d', _⟩ := S.ns
  rw [q, eD] at e'; cases e'; rw [dD] at d'; cases d'
end
theorem LS.iter {w : World} {g : Heap} {L I : Addr} {h h' : Heap} {m : Str → Option Value} {d t z p : Option Value} {a n c : Int} (S : LS w g L h m d t z p) (hI : IsRangeIter h I a n c) (gI : g.get? I = none) (k : ∀ b o, b ∉ [I] → h.get? b = some o → h'.get? b = some o) : LS w g L h' m d t z p := by
  have eI : h.get? I = some _ := hI
  have k' : ∀ b o, b ≠ I → h.get? b = some o → h'.get? b = some o := fun b o hb e => k b o (fun q => hb (List.mem_singleton.mp q)) e
  have cell : ∀ {c : Addr} {v : Option Value}, h.IsCell c v → h'.IsCell c v := fun ⟨o, ec, dc⟩ => ⟨o, k' _ o (fun q => by rw [q, eI] at ec; cases ec; cases dc) ec, dc⟩
  have nI : ¬ Mut L I := fun q => by
    rcases q with rfl | rfl | rfl | rfl | rfl | rfl
    · obtain ⟨ps, e, _⟩ := S.tab; rw [eI] at e; cases e
    · obtain ⟨o, _, _, e, dd, _⟩ := S.ns; rw [eI] at e; cases e; cases dd
    · obtain ⟨o, e, dd⟩ := S.cd; rw [eI] at e; cases e; cases dd
    · obtain ⟨o, e, dd⟩ := S.ct; rw [eI] at e; cases e; cases dd
    · obtain ⟨o, e, dd⟩ := S.cz; rw [eI] at e; cases e; cases dd
    · obtain ⟨o, e, dd⟩ := S.cp; rw [eI] at e; cases e; cases dd
  refine ⟨fun b o e => k' b o (fun q => by rw [q, gI] at e; cases e) (S.keep b o e), S.ns.extBut (b := I) k' (fun q => nI (.inr (.inl q.symm))), cell S.cd, cell S.ct, cell S.cz, cell S.cp, ?_⟩
  · obtain ⟨ps, e, tt, r⟩ := S.tab
    refine ⟨ps, k' _ _ (fun q => nI (.inl q.symm)) e, tt, r.imp id fun ⟨c', x, c, oc, vs, tc, e1, e2, e3, e4⟩ => ⟨c', x, c, oc, vs, tc, e1, k' _ _ (fun q => ?_) e2, e3, e4⟩⟩
    rw [q, eI] at e2; cases e2; cases e3; simp [rawInt] at e4
/-- names that the frame holds -/
noncomputable def Has (m : Str → Option Value) (l : List (Str × Value)) : Prop := ∀ p ∈ l, m p.1 = some p.2
theorem Has.keep {m : Str → Option Value} {l : List (Str × Value)} {x : Str} {v : Value} (H : Has m l) (hx : (l.all fun p => p.1 != x) = true) : Has (fun y => if y = x then some v else m y) l := fun p hp => by
  have := List.all_eq_true.mp hx p hp
  have hne : p.1 ≠ x := by simpa using this
  simp only [if_neg hne]; exact H p hp
theorem Has.put {m : Str → Option Value} {l : List (Str × Value)} {x : Str} {v : Value} (H : Has m l) (hx : (l.all fun p => p.1 != x) = true) : Has (fun y => if y = x then some v else m y) ((x, v) :: l) := fun p hp => by
  rcases List.mem_cons.mp hp with rfl | hp
  · exact if_pos rfl
  · exact H.keep hx p hp
theorem Has.get {m : Str → Option Value} {l : List (Str × Value)} {x : Str} {v : Value} (H : Has m l) (hx : (x, v) ∈ l) : m x = some v := H _ hx
theorem Has.sub {m : Str → Option Value} {l l' : List (Str × Value)} (H : Has m l) (h : ∀ p ∈ l', p ∈ l) : Has m l' := fun p hp => H p (h p hp)
end Mine
namespace Mine
noncomputable def blockBody (w : World) : List Stmt := match lawBody w with
  | _ :: _ :: _ :: _ :: _ :: _ :: _ :: _ :: _ :: _ :: _ :: _ :: .For _ _ b _ _ :: _ => b
  | _ => []
section
variable {prog : Program} {w : World} {A : Around} {E : Value → Shared → Prop} {s : Shared} {L : Addr} {m : Str → Option Value} {Q : Value → Shared → Prop}
theorem rep_get (n k : Nat) (hk : k < n) (t : Tok) : (Array.replicate n (Value.int 0 t)).toList[k]? = some (.int ((0 % 2 : Nat) : Int) t) := by simp [hk]
/-- two lists put together -/
theorem addL {l b : Addr} {its its2 : Array Value} (hn : s.heap.Ns L m) (hl : s.heap.IsList l its) (hb : s.heap.IsList b its2) (hsz : its.size + its2.size ≤ 1000)
    (h : ∀ h' D, h'.Ns L m → (∀ b o, b ≠ L → s.heap.get? b = some o → h'.get? b = some o) → s.heap.get? D = none → h'.get? D = some { cls := .type "list", data := .seq (its.toList ++ its2.toList).toArray } → Q (.ref D) { s with heap := h' }) :
    wpAny (model prog w) A (binaryOp .Add (.ref l) (.ref b)) Q E s := by
  refine add_arrays (fr0 hn) (news0 (L := L)) hl hb (fun h' F' N' => ?_) (by rw [sizeLine_eq]; omega)
  obtain ⟨a, b⟩ := back0 (new := [_]) F' N'
  exact h h' _ a b (fresh_le (Nat.le_refl _)) (N' _ (.head _)).1
theorem fresh_of_lt {D : Addr} (hD : D ≠ L) (h : ∀ p ∈ allBut L s.heap, p.1 < D) : s.heap.get? D = none := by
  cases e : s.heap.get? D with
  | none => rfl
  | some o => exact absurd (h (D, o) (allBut_mem hD e)) (Nat.lt_irrefl _)
/-- a list from behind -/
theorem revL {value slice : Expr} {l : Addr} {its : Array Value} {i : Tok} (hn : s.heap.Ns L m) (hl : s.heap.IsList l its) (hsz : its.size ≤ 1000)
    (h : ∀ h' D, h'.Ns L m → (∀ b o, b ≠ L → s.heap.get? b = some o → h'.get? b = some o) → s.heap.get? D = none → h'.get? D = some { cls := .type "list", data := .seq its.toList.reverse.toArray } → Q (.ref D) { s with heap := h' })
    (hs : subscripted slice false (.ref l) (.ref s.heap.objs.size) = operate [.ref l, .ref s.heap.objs.size] (getItem (.ref l) (.ref s.heap.objs.size)) := by with_unfolding_all rfl) (ht : ∀ r, letTemporaryGo value (.ref l) r = pure () := by intro _; with_unfolding_all rfl) :
    wpAny (model prog w) A (subscriptTail value slice (.ref l) (.ref s.heap.objs.size)) Q E { s with heap := s.heap.push { cls := .type "slice", data := .fields #[.none, .none, .int (-1) i] } } := by
  refine krv_lit (fr0 hn) (news0 (L := L)) hl (.int _ _) rfl (fun D h' F' N' lt => ?_) hs ht (by rw [sizeLine_eq]; omega)
  obtain ⟨a, b⟩ := back0 (new := [_]) F' N'
  have n := N' _ (.head _)
  exact h h' D a b (fresh_of_lt n.2.1 lt) n.1
end
set_option maxHeartbeats 1000000 in
theorem block_turn {prog : Program} {w : World} {A : Around} {E : Value → Shared → Prop} {s : Shared} {g : Heap} {L fa : Addr} {cd : Value} {m : Str → Option Value} {z p : Option Value} {T : List Bool} {D R W : Nat} {td tt tr tw : Tok} {l : List (Str × Value)} {Q : Flow → Shared → Prop}
    (G : Gr w g L) (r : Room A 45) (ls : LS w g L s.heap m (some (.int D td)) (some (.str (ab T) tt)) z p) (H : Has m l) (hl : (l.all fun p => p.1 != Str.ofString "quotient" && p.1 != Str.ofString "rest" && p.1 != Str.ofString "digits") = true)
    (hR : m (Str.ofString "rest") = some (.int R tr)) (hW : m (Str.ofString "width") = some (.int W tw)) (hWm : (Str.ofString "width", Value.int W tw) ∈ l) (hD0 : 0 < D) (hRD : R < D) (hD : D < 2 ^ 12) (hW1 : 1 ≤ W) (hW2 : W ≤ 12) (hT : T.length ≤ 100)
    (h : ∀ h' tk m' tt' tr', LS w g L h' m' (some (.int D td)) (some (.str (ab (T ++ bits (R * 2 ^ W / D) W)) tt')) z p → Has m' l → m' (Str.ofString "rest") = some (.int (R * 2 ^ W % D : Nat) tr') → Up L s.heap h' → Q .next { s with heap := h', toks := tk }) :
    wpAny (model prog w) A (execs (blockBody w) (lawEnv w L fa cd)) Q E s := by
  show wpAny _ _ (execs [_, _, _, _] _) _ _ _
  have gL := G.noneAt (.inr (.inl rfl) : Mut L L)
  have hL : (lawEnv w L fa cd).locals = L := by kernel_rfl
  with_reducible refine wpAny_execs_cons ?_
  refine Assign_Tuple ?_
  have B₀ := G.B.keeps ls.keep
  have hlq : (l.all fun p => p.1 != Str.ofString "quotient") = true := List.all_eq_true.mpr fun q hq => by have := List.all_eq_true.mp hl q hq; simp only [Bool.and_eq_true] at this; exact this.1.1
  have hlr : (l.all fun p => p.1 != Str.ofString "rest") = true := List.all_eq_true.mpr fun q hq => by have := List.all_eq_true.mp hl q hq; simp only [Bool.and_eq_true] at this; exact this.1.2
  have hld : (l.all fun p => p.1 != Str.ofString "digits") = true := List.all_eq_true.mpr fun q hq => by have := List.all_eq_true.mp hl q hq; simp only [Bool.and_eq_true] at this; exact this.2
  have hA : R * 2 ^ W < 2 ^ 24 := by
    have h1 : (2 : Nat) ^ W ≤ 2 ^ 12 := Nat.pow_le_pow_right (by decide) hW2
    calc R * 2 ^ W ≤ R * 2 ^ 12 := Nat.mul_le_mul_left _ h1
      _ < 2 ^ 12 * 2 ^ 12 := by omega
      _ = 2 ^ 24 := by decide
  refine Call_ ?_
  refine gname (w := w) B₀ (v := .ref 28) (by kernel_rfl) ?_
  refine callWith_K (K := KK w) (h₀ := s.heap) B₀.K (by kernel_rfl) ?_
  refine spliced_more ?_
  with_reducible refine wpAny_BinOp ?_
  refine lname ls.ns hR ?_
  refine lname ls.ns hW ?_
  with_reducible refine lshift_int_small (by omega) (by omega) (by rw [Int.natAbs_natCast]; omega) ?_
  refine spliced_more ?_
  refine cname (c := L + 1) (by kernel_rfl) ls.cd ?_
  refine spliced_more ?_
  refine lname ls.ns hW ?_
  refine spliced_none ?_
  refine ⟨B₀.K, ?_⟩
  dsimp only [List.nil_append]
  rw [show (R : Int) * 2 ^ ((W : Nat) : Int).toNat = ((R * 2 ^ W : Nat) : Int) from by rw [Int.toNat_natCast, pow_nat, Int.natCast_mul]]
  refine div_call B₀ (r.less (by omega)) (by omega) (by omega) (by omega) fun h₁ tk₁ t₁ t₂ Tq up₁ nT hTq => ?_
  dsimp only
  have ls₁ := ls.ext up₁
  refine kcp_assign (m := m) r.handled hTq (by kernel_rfl) (by kernel_rfl) (by kernel_rfl) (by rw [hL]; exact ls₁.ns) fun h₂ tk₂ hn₂ hk₂ => ?_
  rw [hL] at hn₂ hk₂
  dsimp only at hk₂ ⊢
  obtain ⟨ls₂, u₂⟩ := ls₁.setE gL hn₂ hk₂
  have H₂ := (H.keep (v := .int (R * 2 ^ W / D : Nat) t₁) hlq).keep (v := .int (R * 2 ^ W % D : Nat) t₂) hlr
  generalize hm₂ : (fun z => if z = Str.ofString "rest" then some (Value.int (R * 2 ^ W % D : Nat) t₂) else if z = Str.ofString "quotient" then some (Value.int (R * 2 ^ W / D : Nat) t₁) else m z) = m₂ at ls₂ H₂
  have hr₂ : m₂ (Str.ofString "rest") = some (.int (R * 2 ^ W % D : Nat) t₂) := by rw [← hm₂]; exact if_pos rfl
  have hq₂ : m₂ (Str.ofString "quotient") = some (.int (R * 2 ^ W / D : Nat) t₁) := by rw [← hm₂]; exact (if_neg (by decide)).trans (if_pos rfl)
  have hqW : R * 2 ^ W / D < 2 ^ W := by
    rw [Nat.div_lt_iff_lt_mul hD0, Nat.mul_comm (2 ^ W)]
    exact Nat.mul_lt_mul_of_pos_right hRD (Nat.two_pow_pos _)
  have hq12 : (2 : Nat) ^ W ≤ 2 ^ 12 := Nat.pow_le_pow_right (by decide) hW2
  generalize hqe : R * 2 ^ W / D = q at *
  have B₂ := G.B.keeps ls₂.keep
  -- digits = _int2digits(quotient, 1)
  with_reducible refine wpAny_execs_cons ?_
  refine asg ?_
  refine Call_ ?_
  refine gname (w := w) B₂ (v := .ref 42) (by kernel_rfl) ?_
  refine callWith_K (K := KK w) (h₀ := h₂) B₂.K (by kernel_rfl) ?_
  refine spliced_more ?_
  refine lname (s := ⟨h₂, _, _, _, _⟩) ls₂.ns hq₂ ?_
  refine spliced_more ?_
  with_reducible refine wpAny_Constant_int ?_
  refine spliced_none ?_
  refine ⟨B₂.K, ?_⟩
  dsimp only [List.nil_append]
  refine int2digits_call G.B G.t ls₂.keep ls₂.tab (r.less (by omega)) (by omega) fun h₃ tk₃ Dg vs k₃ T₃ nDg hDg hsz hvs => ?_
  dsimp only at k₃ nDg
  obtain ⟨ls₃, u₃⟩ := ls₂.turnTab G T₃ k₃
  refine ⟨m₂, ls₃.ns, fun h₄ hn₄ hs₄ => ?_⟩
  rw [hL] at hn₄ hs₄
  dsimp only at hn₄ hs₄ ⊢
  obtain ⟨ls₄, u₄⟩ := ls₃.setL gL hn₄ hs₄
  have oDg : ¬ Mut L Dg := ls₂.fresh nDg
  have hDg₄ : h₄.IsList Dg vs := hDg.at fun o e => u₄ _ o oDg e
  have H₄ := H₂.put (v := .ref Dg) hld
  generalize hm₄ : (fun y => if y = Str.ofString "digits" then some (Value.ref Dg) else m₂ y) = m₄ at ls₄ H₄
  have hr₄ : m₄ (Str.ofString "rest") = some (.int (R * 2 ^ W % D : Nat) t₂) := by rw [← hm₄]; exact (if_neg (by decide)).trans hr₂
  have B₄ := G.B.keeps ls₄.keep
  -- digits = digits + [0] * (width - len(digits))
  have hnb : Builtin.Int.intBits (q : Int) ≤ W := intBits_le hqW
  have hszW : vs.size ≤ W := by rw [hsz]; exact hnb
  with_reducible refine wpAny_execs_cons ?_
  refine asg ?_
  with_reducible refine wpAny_BinOp ?_
  refine lname (s := ⟨h₄, _, _, _, _⟩) ls₄.ns (H₄.get (.head _)) ?_
  with_reducible refine wpAny_BinOp ?_
  with_reducible refine List_ ?_
  refine spliced_more ?_
  with_reducible refine wpAny_Constant_int ?_
  refine spliced_none ?_
  refine newList' fun h₅ D₅ up₅ n₅ hD₅ => ?_
  dsimp only at up₅ n₅ hD₅ ⊢
  have ls₅ := ls₄.ext up₅
  with_reducible refine wpAny_BinOp ?_
  refine lname (s := ⟨h₅, _, _, _, _⟩) ls₅.ns (H₄.get (.tail _ hWm)) ?_
  refine Call_ ?_
  refine bname (w := w) (G.B.keeps ls₅.keep) (by kernel_rfl) boot_len ?_
  refine PyProof.Rows.callWith_builtin1 ?_
  refine spliced_more ?_
  refine lname (s := ⟨h₅, _, _, _, _⟩) ls₅.ns (H₄.get (.head _)) ?_
  refine spliced_none ?_
  refine len_list (items := vs) (hDg₄.at fun o e => up₅ _ o e) (by omega) ?_
  with_reducible refine sub_int ?_
  rw [show (W : Int) - (vs.size : Int) = ((W - vs.size : Nat) : Int) from by omega]
  refine mul1 (L := L) ls₅.ns hD₅ (by omega) fun h₆ D₆ hn₆ k₆ n₆ hD₆ => ?_
  dsimp only at hn₆ k₆ n₆ hD₆ ⊢
  obtain ⟨ls₆, u₆⟩ := ls₅.setE gL hn₆ k₆
  have hDg₆ : h₆.IsList Dg vs := (hDg₄.at fun o e => up₅ _ o e).at fun o e => u₆ _ o oDg e
  have hD₆' : h₆.IsList D₆ (Array.replicate (W - vs.size) (.int 0 _)) := ⟨_, hD₆, rfl, _, rfl⟩
  refine addL (L := L) ls₆.ns hDg₆ hD₆' (by simp; omega) fun h₇ D₇ hn₇ k₇ n₇ hD₇ => ?_
  dsimp only at hn₇ k₇ n₇ hD₇ ⊢
  obtain ⟨ls₇, u₇⟩ := ls₆.setE gL hn₇ k₇
  generalize hws : (vs.toList ++ (Array.replicate (W - vs.size) (Value.int 0 _)).toList) = ws at hD₇
  have hwl : ws.length = W := by rw [← hws]; simp; omega
  have hwv : ∀ i, i < W → ∃ t, ws[i]? = some (.int (q / 2 ^ i % 2 : Nat) t) := fun i hi => by
    rw [← hws]
    by_cases hlt : i < vs.size
    · obtain ⟨t, e⟩ := hvs i hlt
      refine ⟨t, ?_⟩
      rw [List.getElem?_append_left (by simpa using hlt), Array.getElem?_toList]; exact e
    · have hrep := rep_get (W - vs.size) (i - vs.size) (by omega)
      rw [List.getElem?_append_right (by simpa using hlt), Array.length_toList]
      have hq0 : q / 2 ^ i = 0 := by
        have h1 : q < 2 ^ vs.size := by rw [hsz]; exact intBits_lt
        exact Nat.div_eq_of_lt (Nat.lt_of_lt_of_le h1 (Nat.pow_le_pow_right (by decide) (by omega)))
      rw [hq0]
      exact ⟨_, hrep _⟩
  refine ⟨m₄, ls₇.ns, fun h₈ hn₈ hs₈ => ?_⟩
  rw [hL] at hn₈ hs₈
  (try dsimp only at hn₈ hs₈); (try dsimp only)
  obtain ⟨ls₈, u₈⟩ := ls₇.setL gL hn₈ hs₈
  have oD₇ : ¬ Mut L D₇ := ls₆.fresh n₇
  have hD₈ : h₈.IsList D₇ ws.toArray := ⟨_, u₈ _ _ oD₇ hD₇, rfl, _, rfl⟩
  have H₈ : Has (fun y => if y = Str.ofString "digits" then some (Value.ref D₇) else m₄ y) l := fun pq hpq => by
    have := List.all_eq_true.mp hld pq hpq
    have hne : pq.1 ≠ Str.ofString "digits" := by simpa using this
    simp only [if_neg hne]; exact H₄ pq (.tail _ hpq)
  have hr₈ : (fun y => if y = Str.ofString "digits" then some (Value.ref D₇) else m₄ y) (Str.ofString "rest") = some (.int (R * 2 ^ W % D : Nat) t₂) := (if_neg (by decide)).trans hr₄
  have hd₈ : (fun y => if y = Str.ofString "digits" then some (Value.ref D₇) else m₄ y) (Str.ofString "digits") = some (.ref D₇) := if_pos rfl
  generalize (fun y => if y = Str.ofString "digits" then some (Value.ref D₇) else m₄ y) = m₈ at ls₈ H₈ hr₈ hd₈
  -- text += ''.join(['ab'[digit] for digit in digits[::-1]])
  with_reducible refine wpAny_execs_cons ?_
  refine wpAny_AugAssign_Name ?_
  refine wpAny_loadName_cell (c := L + 2) (v := .str (ab T) tt) (by kernel_rfl) (by kernel_rfl) (by kernel_rfl) ls₈.ct ?_
  refine MethodCall_ ?_
  with_reducible refine Calls.Constant_str ?_
  with_reducible refine GM.join ?_
  dsimp only
  refine callWith_method1 ?_
  refine spliced_more ?_
  refine wpAny_ListComp_free (cl := []) (fun _ => true) (fun v y => ∃ (b : Bool) (t t' : Tok), v = .int (if b then 1 else 0) t ∧ y = .str (letter b) t') (by kernel_rfl) (by decide) (by kernel_rfl) (by decide) (by kernel_rfl) ?_
  refine Subscript_ ?_
  refine lname (s := ⟨h₈, _, _, _, _⟩) ls₈.ns hd₈ ?_
  with_reducible refine wpAny_Slice ?_
  with_reducible refine evalPart_none_step ?_
  with_reducible refine evalPart_none_step ?_
  with_reducible refine evalPart_some_step ?_
  with_reducible refine wpAny_UnaryOp ?_
  with_reducible refine wpAny_Constant_int ?_
  with_reducible refine neg_int ?_
  refine revL (s := ⟨h₈, _, _, _, _⟩) (L := L) ls₈.ns hD₈ (by simp; omega) fun h₉ D₉ hn₉ k₉ n₉ hD₉ => ?_
  dsimp only at hn₉ k₉ n₉ hD₉ ⊢
  obtain ⟨ls₉, u₉⟩ := ls₈.setE gL hn₉ k₉
  have oD₉ : ¬ Mut L D₉ := ls₈.fresh n₉
  have hl₉ : h₉.IsList D₉ ws.reverse.toArray := ⟨_, (by simpa using hD₉), rfl, _, rfl⟩
  have hne₉ : D₉ ≠ h₉.objs.size := by obtain ⟨o, e, _⟩ := hl₉; exact Nat.ne_of_lt (Heap.lt_size e)
  refine wpAny_pyIter_list hl₉ ?_
  have hitem : ∀ j v, (ws.reverse.toArray)[j]? = some v → j < W ∧ ∃ t, v = .int (q / 2 ^ (W - 1 - j) % 2 : Nat) t := fun j v e => by
    have e' : ws.reverse[j]? = some v := by simpa using e
    have hj : j < W := by
      have := (List.getElem?_eq_some_iff.mp e').1
      simpa [hwl] using this
    rw [List.getElem?_reverse (by rw [hwl]; exact hj), hwl] at e'
    obtain ⟨t, et⟩ := hwv (W - 1 - j) (by omega)
    rw [et] at e'
    exact ⟨hj, t, (Option.some.inj e').symm⟩
  refine ⟨h₉.objs.size, [h₉.objs.size, D₉], [h₉.objs.size], _, _, _, rfl, Walks.list (by exact r.handled) h₉.objs.size D₉ hne₉ ws.reverse.toArray, (by simp [hwl, sizeLine_eq]; omega), ⟨⟨_, Heap.get?_push_size _ rfl, rfl, rfl⟩, hl₉.at fun o e => Heap.get?_push_of_some _ e⟩, ?_, ⟨?_, ?_⟩, ?_⟩
  · intro b hb
    show b < (h₉.push _).objs.size
    rw [Heap.size_push]
    rcases List.mem_cons.mp hb with rfl | hb
    · exact Nat.lt_succ_self _
    · rw [List.mem_singleton.mp hb]
      obtain ⟨o, e, _⟩ := hl₉
      exact Nat.lt_succ_of_lt (Heap.lt_size e)
  · intro C i v s₃ m₃ E' _ _ _ _ _ _
    exact wpAny_tests_nil ⟨rfl, Keeps.refl' _⟩
  · intro C i v s₃ m₃ E' _ hP _ hn hm hk _
    obtain ⟨hj, tv, rfl⟩ := hitem i v hP
    refine Subscript_ ?_
    with_reducible refine Calls.Constant_str ?_
    refine lname (m := m₃) hn hm ?_
    refine ab_item (b := decide (q / 2 ^ (W - 1 - i) % 2 = 1)) ?_ ?_
    · generalize q / 2 ^ (W - 1 - i) = k
      by_cases hb : k % 2 = 1
      · simp [hb]
      · have : k % 2 = 0 := by omega
        simp [this]
    · refine ⟨⟨decide (q / 2 ^ (W - 1 - i) % 2 = 1), tv, _, ?_, rfl⟩, ⟨_, _, rfl, fun _ _ e => e⟩⟩
      congr 1
      generalize q / 2 ^ (W - 1 - i) = k
      by_cases hb : k % 2 = 1
      · simp [hb]
      · have : k % 2 = 0 := by omega
        simp [this]
  · intro Dj h₁₀ tk₁₀ ys vs' hDj hlj hplj hlen hP hF hk
    refine spliced_none ?_
    rw [List.filter_eq_self.mpr (fun _ _ => rfl)] at hF
    have hlen' : vs'.length = W := by rw [hlen]; simp [hwl]
    have hst : StrsAre ys.toList ((bits q W).map letter) := by
      refine strsAre_of_get (by rw [← hF.length, hlen', List.length_map, bits_length]) fun j v y e1 e2 => ?_
      obtain ⟨a, ha, b, t0, t1, rfl, rfl⟩ := Paired.get hF j v e1
      obtain ⟨hj, t2', e3⟩ := hitem j _ (hP j _ ha)
      refine ⟨t1, ?_⟩
      rw [List.getElem?_map, bits_get q W j hj] at e2
      simp only [Option.map_some, Option.some.injEq] at e2
      rw [← e2]
      have e4 := (Value.int.inj e3).1
      have : decide (q / 2 ^ (W - 1 - j) % 2 = 1) = b := by
        generalize q / 2 ^ (W - 1 - j) = k at e4 ⊢
        cases b
        · simp at e4 ⊢; omega
        · simp at e4 ⊢; omega
      rw [this]
    have up₁₀ : Ext h₉ h₁₀ := fun b o e => hk b o (fun q => absurd (Heap.lt_size e) ((List.mem_singleton.mp q) ▸ Nat.lt_irrefl _)) (Heap.get?_push_of_some _ e)
    have ls₁₀ := ls₉.ext up₁₀
    refine join_listC hlj hst (by decide) (by rw [letters_sum, List.length_map, bits_length]; omega) fun t' k => ?_
    rw [join_ab _ _ rfl]
    refine PyProof.Rows.iadd_str (fun t'' k' => ?_) (by rw [ab_length, ab_length, bits_length, sizeLine_eq]; omega)
    rw [← ab_append]
    refine wpAny_storeName_cell (c := L + 2) (by kernel_rfl) (by kernel_rfl) (by kernel_rfl) ls₁₀.ct fun h₁₁ hc₁₁ hs₁₁ => ?_
    obtain ⟨ls₁₁, u₁₁⟩ := ls₁₀.setT G hc₁₁ hs₁₁
    dsimp only
    with_reducible refine wpAny_execs_nil ?_
    refine h h₁₁ _ m₈ t'' t₂ ls₁₁ H₈ hr₈ ?_
    exact (((((((up₁.up.trans u₂).trans u₃).trans u₄).trans up₅.up).trans u₆).trans u₇).trans u₈).trans ((u₉.trans up₁₀.up).trans u₁₁)
end Mine
namespace Mine
/-- the rest behind i blocks, and the figures so far -/
noncomputable def rst (S D W : Nat) : Nat → Nat
  | 0 => S
  | i + 1 => rst S D W i * 2 ^ W % D
noncomputable def txt (S D W : Nat) : Nat → List Bool
  | 0 => []
  | i + 1 => txt S D W i ++ bits (rst S D W i * 2 ^ W / D) W
theorem txt_length (S D W i : Nat) : (txt S D W i).length = i * W := by
  induction i with
  | zero => simp [txt]
  | succ i ih => rw [txt, List.length_append, ih, bits_length, Nat.succ_mul]
theorem rst_lt {S D W : Nat} (h : S < D) (i : Nat) : rst S D W i < D := by
  cases i with
  | zero => exact h
  | succ i => exact Nat.mod_lt _ (by omega)
theorem notin_one {b I : Addr} (h : b ≠ I) : b ∉ [I] := fun q => h (List.mem_singleton.mp q)
/-- for x in range(n) -/
theorem range_for {prog : Program} {w : World} {A : Around} {E : Value → Shared → Prop} {s : Shared} {x : Str} {px : Pos} {body : List Stmt} {env : Env} {n : Nat} {t : Tok} {R : Result → Shared → Prop} (hh : A.handled = none) (hn : n ≤ 1000)
    (J : Nat → Heap → Prop)
    (stab : ∀ i h h' I a b c, J i h → IsRangeIter h I a b c → s.heap.get? I = none → (∀ b o, b ≠ I → h.get? b = some o → h'.get? b = some o) → J i h')
    (h0 : ∀ h, Ext s.heap h → J 0 h)
    (turn : ∀ i h tk t I a b c, i < n → J i h → IsRangeIter h I a b c → s.heap.get? I = none → wpAny (model prog w) A (assign (.Name x px) env (.int (i : Nat) t)) (fun _ s₂ => wpAny (model prog w) A (execs body env) (fun f s₃ => match f with
        | .next | .cont => ∃ h' tk', s₃ = { s with heap := h', toks := tk' } ∧ J (i + 1) h' ∧ (∀ o, h.get? I = some o → h'.get? I = some o)
        | .brk => R (.ok .next) s₃
        | .ret v => R (.ok (.ret v)) s₃) (fun _ _ => False) s₂) (fun _ _ => False) { s with heap := h, toks := tk })
    (done : ∀ h tk, J n h → R (.ok .next) { s with heap := h, toks := tk }) :
    wpAny (model prog w) A (call (.type "range") [.int (n : Nat) t]) (fun v s₁ => wpAny (model prog w) A (pyIter v) (fun it s₂ => codeAny (model prog w) A (.forLoop (.Name x px) it body [] env) R s₂) E s₁) E s := by
  refine call_range_1 ?_
  generalize hH : s.heap.push _ = h₁
  have up₁ : Ext s.heap h₁ := by rw [← hH]; exact Ext.push _ _
  have hr : IsRange h₁ s.heap.objs.size 0 n 1 s.toks t (s.toks + 1) := by rw [← hH]; exact Heap.get?_push_size _ rfl
  refine wpAny_pyIter_range hr (small_one (by decide) (by decide) (by omega) (by omega)) ?_
  dsimp only
  have hfr : s.heap.get? h₁.objs.size = none := by
    cases e : s.heap.get? h₁.objs.size with
    | none => rfl
    | some o => exact absurd (Heap.lt_size (up₁ _ _ e)) (Nat.lt_irrefl _)
  have hsz : Builtin.Range.rangeSize 0 (n : Int) 1 = (n : Int) := by
    rw [rangeSize_nat]; omega
  rw [hsz]
  refine for_loop (s := { s with heap := _, toks := _ }) (Walks.range hh h₁.objs.size 0 1 n) J ?_ ?_ ?_ ?_ ?_
  · intro i h h' hJ hS hk
    exact stab i h h' _ _ _ _ hJ hS hfr fun b o hb e => hk b o (notin_one hb) e
  · show IsRangeIter _ _ _ _ _
    simpa using Heap.get?_push_size _ rfl
  · exact h0 _ (up₁.trans (Ext.push _ _))
  · rintro i v h tk hi ⟨t', rfl⟩ hJ hS
    have e0 : (0 : Int) + ((i : Nat) : Int) * 1 = ((i : Nat) : Int) := by omega
    rw [e0]
    refine wpAny_mono (turn i h tk t' _ _ _ _ hi hJ hS hfr) (fun _ s₂ h₂ => wpAny_mono h₂ (fun f s₃ h₃ => ?_) fun _ _ x => x) fun _ _ x => x
    cases f with
    | next => obtain ⟨h', tk', rfl, a, b⟩ := h₃; exact ⟨h', tk', rfl, a, b _ hS⟩
    | cont => obtain ⟨h', tk', rfl, a, b⟩ := h₃; exact ⟨h', tk', rfl, a, b _ hS⟩
    | brk => exact h₃
    | ret v => exact h₃
  · exact fun h tk hJ => done h tk hJ
theorem LS.iterNot {w : World} {g : Heap} {L I : Addr} {h : Heap} {m : Str → Option Value} {d t z p : Option Value} {a n c : Int} (S : LS w g L h m d t z p) (hI : IsRangeIter h I a n c) : ¬ Mut L I := fun q => by
  have eI : h.get? I = some _ := hI
  rcases q with rfl | rfl | rfl | rfl | rfl | rfl
  · obtain ⟨ps, e, _⟩ := S.tab; rw [eI] at e; cases e
  · obtain ⟨o, _, _, e, dd, _⟩ := S.ns; rw [eI] at e; cases e; cases dd
  · obtain ⟨o, e, dd⟩ := S.cd; rw [eI] at e; cases e; cases dd
  · obtain ⟨o, e, dd⟩ := S.ct; rw [eI] at e; cases e; cases dd
  · obtain ⟨o, e, dd⟩ := S.cz; rw [eI] at e; cases e; cases dd
  · obtain ⟨o, e, dd⟩ := S.cp; rw [eI] at e; cases e; cases dd
theorem Up.iter {L I : Addr} {h h' h'' : Heap} (u : Up L h h') (hI : h.get? I = none) (k : ∀ b o, b ≠ I → h'.get? b = some o → h''.get? b = some o) : Up L h h'' := fun b o n e => k b o (fun q => by rw [q, hI] at e; cases e) (u b o n e)
theorem none_of_ext {g h : Heap} {b : Addr} (k : Ext g h) (e : h.get? b = none) : g.get? b = none := by
  cases e' : g.get? b with
  | none => rfl
  | some o => rw [k _ _ e'] at e; cases e
/-- the law's statements -/
noncomputable def lawSt (w : World) (k : Nat) : Stmt := ((lawBody w)[k]?).getD (.Pass default)
theorem all_and {l : List (Str × Value)} {p q : Str × Value → Bool} (h : (l.all fun x => p x && q x) = true) : (l.all p) = true ∧ (l.all q) = true := by
  simp only [List.all_eq_true, Bool.and_eq_true] at h ⊢
  exact ⟨fun x hx => (h x hx).1, fun x hx => (h x hx).2⟩
set_option maxHeartbeats 1000000 in
theorem block_for {prog : Program} {w : World} {A : Around} {E : Value → Shared → Prop} {s : Shared} {g : Heap} {L fa : Addr} {cd : Value} {m : Str → Option Value} {z p : Option Value} {D S W : Nat} {td tt tr tw : Tok} {l : List (Str × Value)} {Q : Flow → Shared → Prop}
    (G : Gr w g L) (r : Room A 46) (ls : LS w g L s.heap m (some (.int D td)) (some (.str (ab []) tt)) z p) (H : Has m l) (hl : (l.all fun p => p.1 != Str.ofString "quotient" && p.1 != Str.ofString "rest" && p.1 != Str.ofString "digits" && p.1 != Str.ofString "block") = true)
    (hR : m (Str.ofString "rest") = some (.int S tr)) (hWm : (Str.ofString "width", Value.int W tw) ∈ l) (hS : S < D) (hD : D < 2 ^ 12) (hW1 : 1 ≤ W) (hW2 : W ≤ 12)
    (h : ∀ h' tk m' tt' tr', LS w g L h' m' (some (.int D td)) (some (.str (ab (txt S D W 3)) tt')) z p → Has m' l → m' (Str.ofString "rest") = some (.int (rst S D W 3) tr') → Up L s.heap h' → Q .next { s with heap := h', toks := tk }) :
    wpAny (model prog w) A (exec (lawSt w 12) (lawEnv w L fa cd)) Q E s := by
  show wpAny _ _ (exec (.For (.Name _ _) (.Call (.Name _ _) [.Constant _ _ _] [] _) _ [] _) _) _ _ _
  have gL := G.noneAt (.inr (.inl rfl) : Mut L L)
  have hL : (lawEnv w L fa cd).locals = L := by kernel_rfl
  obtain ⟨hl1, hlb⟩ := all_and hl
  have B₀ := G.B.keeps ls.keep
  refine wpAny_For ?_
  refine Call_ ?_
  refine bname (w := w) B₀ (by kernel_rfl) boot_range ?_
  refine PyProof.Rows.callWith_type1 ?_
  refine spliced_more ?_
  with_reducible refine wpAny_Constant_int ?_
  refine spliced_none ?_
  refine range_for (n := 3) r.handled (by omega) (fun i h => ∃ m' tt' tr', LS w g L h m' (some (.int D td)) (some (.str (ab (txt S D W i)) tt')) z p ∧ Has m' l ∧ m' (Str.ofString "rest") = some (.int (rst S D W i) tr') ∧ Up L s.heap h) ?_ ?_ ?_ ?_
  · rintro i h h' I a b c ⟨m', tt', tr', ls', H', hr', u'⟩ hI nI hk
    exact ⟨m', tt', tr', ls'.iter hI (none_of_ext ls.keep nI) (fun b o hb e => hk b o (fun q => hb (by simp [q])) e), H', hr', u'.iter nI hk⟩
  · intro h₁ up₁
    exact ⟨m, tt, tr, ls.ext up₁, H, hR, up₁.up⟩
  · rintro i h₁ tk₁ t I a b c hi ⟨m₁, tt₁, tr₁, ls₁, H₁, hr₁, u₁⟩ hI nI
    refine wpAny_assign_Name (wpAny_storeName_local (m := m₁) (by kernel_rfl) (by rw [hL]; exact ls₁.ns) (fun h₂ hn₂ hs₂ => ?_) (by kernel_rfl))
    rw [hL] at hn₂ hs₂
    (try dsimp only at hn₂ hs₂); (try dsimp only)
    obtain ⟨ls₂, u₂⟩ := ls₁.setL gL hn₂ hs₂
    have H₂ := H₁.keep (v := .int (i : Nat) t) hlb
    refine block_turn (D := D) (R := rst S D W i) (W := W) (T := txt S D W i) (l := l) G (r.less (by omega)) ls₂ H₂ hl1 ((if_neg (by decide)).trans hr₁) (H₂ _ hWm) hWm (by omega) (rst_lt hS i) hD hW1 hW2 ?_ ?_
    · rw [txt_length]
      calc i * W ≤ 3 * 12 := Nat.mul_le_mul (by omega) hW2
        _ ≤ 100 := by decide
    · intro h₃ tk₃ m₃ tt₃ tr₃ ls₃ H₃ hr₃ u₃
      refine ⟨h₃, tk₃, rfl, ⟨m₃, tt₃, tr₃, ls₃, H₃, hr₃, (u₁.trans u₂).trans u₃⟩, fun o e => u₃ _ o (ls₁.iterNot hI) (u₂ _ o (ls₁.iterNot hI) e)⟩
  · rintro h₁ tk₁ ⟨m₁, tt₁, tr₁, ls₁, H₁, hr₁, u₁⟩
    exact h h₁ tk₁ m₁ tt₁ tr₁ ls₁ H₁ hr₁ u₁
end Mine
namespace Mine
/-- the rests by doubling, the figures, a window -/
noncomputable def T (S D : Nat) : Nat → Nat
  | 0 => S
  | i + 1 => T S D i * 2 % D
noncomputable def fig (S D i : Nat) : Bool := decide (D ≤ T S D i * 2)
noncomputable def win (S D i : Nat) : Nat → List Bool
  | 0 => []
  | n + 1 => win S D i n ++ [fig S D (i + n)]
/-- the number of a word -/
noncomputable def val : List Bool → Nat := fun w => w.foldl (fun n b => 2 * n + if b then 1 else 0) 0
theorem val_snoc (w : List Bool) (b : Bool) : val (w ++ [b]) = 2 * val w + if b then 1 else 0 := by simp [val]
section
variable {S D : Nat}
theorem T_lt (h : S < D) (i : Nat) : T S D i < D := by
  cases i with
  | zero => exact h
  | succ i => exact Nat.mod_lt _ (by omega)
theorem win_length (i n : Nat) : (win S D i n).length = n := by
  induction n with
  | zero => rfl
  | succ n ih => simp [win, ih]
theorem T_add (h : S < D) (i n : Nat) : T S D (i + n) = T S D i * 2 ^ n % D := by
  induction n with
  | zero => simp [Nat.mod_eq_of_lt (T_lt h i)]
  | succ n ih =>
    rw [← Nat.add_assoc, T, ih, Nat.mod_mul_mod, Nat.pow_succ, Nat.mul_assoc]
theorem val_win (h : S < D) (i n : Nat) : val (win S D i n) = T S D i * 2 ^ n / D := by
  induction n with
  | zero => simp [win, val, Nat.div_eq_of_lt (T_lt h i)]
  | succ n ih =>
    rw [win, val_snoc, ih, fig, T_add h]
    have hm := Nat.mod_lt (T S D i * 2 ^ n) (show 0 < D by omega)
    have hd := Nat.div_add_mod (T S D i * 2 ^ n) D
    rw [Nat.pow_succ, ← Nat.mul_assoc]
    generalize T S D i * 2 ^ n = y at *
    generalize hq : y / D = q at *
    generalize hr : y % D = r at *
    have e : y * 2 = D * (2 * q) + r * 2 := by rw [← hd, Nat.add_mul, Nat.mul_comm 2 q, Nat.mul_assoc]
    rw [e, Nat.mul_add_div (by omega)]
    by_cases hb : D ≤ r * 2
    · rw [if_pos (by simpa using hb)]
      have : r * 2 / D = 1 := by
        rw [Nat.div_eq_iff (by omega)]; omega
      omega
    · rw [if_neg (by simpa using hb), Nat.div_eq_of_lt (by omega)]
theorem bits_val (w : List Bool) : bits (val w) w.length = w := by
  generalize hn : w.length = n
  induction n generalizing w with
  | zero => rw [List.length_eq_zero_iff.mp hn]; rfl
  | succ n ih =>
    rcases List.eq_nil_or_concat w with rfl | ⟨v, b, rfl⟩
    · simp at hn
    · have hv : v.length = n := by simpa using hn
      rw [List.concat_eq_append, val_snoc, bits]
      have e1 : (2 * val v + if b = true then 1 else 0) / 2 = val v := by cases b <;> simp <;> omega
      have e2 : decide ((2 * val v + if b = true then 1 else 0) % 2 = 1) = b := by cases b <;> simp <;> omega
      rw [e1, e2, ih v hv]
theorem win_add (i m n : Nat) : win S D i (m + n) = win S D i m ++ win S D (i + m) n := by
  induction n with
  | zero => simp [win]
  | succ n ih => rw [← Nat.add_assoc, win, ih, win, List.append_assoc, Nat.add_assoc i m n]
theorem rst_T (h : S < D) (W i : Nat) : rst S D W i = T S D (i * W) := by
  induction i with
  | zero => simp [rst, T]
  | succ i ih => rw [rst, ih, Nat.succ_mul, T_add h]
theorem txt_win (h : S < D) (W i : Nat) : txt S D W i = win S D 0 (i * W) := by
  induction i with
  | zero => simp [txt, win]
  | succ i ih =>
    rw [txt, ih, Nat.succ_mul, win_add, rst_T h, ← val_win h, Nat.zero_add]
    congr 1
    have := bits_val (win S D (i * W) W)
    rwa [win_length] at this
theorem win_eq {i j : Nat} (e : T S D i = T S D j) (n : Nat) : win S D i n = win S D j n := by
  have key : ∀ k, T S D (i + k) = T S D (j + k) := fun k => by
    induction k with
    | zero => exact e
    | succ k ih => rw [← Nat.add_assoc, ← Nat.add_assoc, T, T, ih]
  induction n with
  | zero => rfl
  | succ n ih => rw [win, win, ih, fig, fig, key]
theorem T_of_win (h : S < D) {i j : Nat} (e : ∀ n, win S D i n = win S D j n) : T S D i = T S D j := by
  have h1 := val_win h i D
  have h2 := val_win h j D
  rw [e, h2] at h1
  have hp : D < 2 ^ D := Nat.lt_two_pow_self
  generalize T S D i = x at *
  generalize T S D j = y at *
  generalize 2 ^ D = p at *
  have d1 := Nat.div_add_mod (x * p) D
  have d2 := Nat.div_add_mod (y * p) D
  have m1 := Nat.mod_lt (x * p) (show 0 < D by omega)
  have m2 := Nat.mod_lt (y * p) (show 0 < D by omega)
  rw [h1] at d2
  rcases Nat.lt_trichotomy x y with hxy | hxy | hxy
  · exfalso
    have : (x + 1) * p ≤ y * p := Nat.mul_le_mul_right _ hxy
    rw [Nat.add_mul] at this; omega
  · exact hxy
  · exfalso
    have : (y + 1) * p ≤ x * p := Nat.mul_le_mul_right _ hxy
    rw [Nat.add_mul] at this; omega
theorem win_get (i n k : Nat) (hk : k < n) : (win S D i n)[k]? = some (fig S D (i + k)) := by
  induction n with
  | zero => omega
  | succ n ih =>
    rw [win]
    by_cases h : k < n
    · rw [List.getElem?_append_left (by rw [win_length]; exact h), ih h]
    · have : k = n := by omega
      subst this
      rw [List.getElem?_append_right (by rw [win_length]; exact Nat.le_refl _), win_length]; simp
theorem win_cut (i n a k : Nat) (hk : a + k ≤ n) : ((win S D i n).drop a).take k = win S D (i + a) k := by
  have e : n = a + (k + (n - a - k)) := by omega
  rw [e, win_add, win_add, List.drop_left' (win_length _ _), List.take_left' (win_length _ _)]
end

/-- the head and the wheel -/
theorem wheel_fig {H V a r : Nat} (hr : 1 ≤ r) (hH : H < 2 ^ a) (hV : V < 2 ^ r - 1) (n : Nat) :
    win (H * (2 ^ r - 1) + V) (2 ^ a * (2 ^ r - 1)) 0 (a + r * n) = bits H a ++ (List.replicate n (bits V r)).flatten ∧
    T (H * (2 ^ r - 1) + V) (2 ^ a * (2 ^ r - 1)) (a + r * n) = 2 ^ a * V := by
  have hpr : 2 ≤ 2 ^ r := by
    have := Nat.pow_le_pow_right (show 0 < 2 by decide) hr
    omega
  have hpa : 0 < 2 ^ a := Nat.two_pow_pos a
  generalize hO : 2 ^ r - 1 = O at *
  have h2r : 2 ^ r = O + 1 := by omega
  have hS : H * O + V < 2 ^ a * O := by
    have : (H + 1) * O ≤ 2 ^ a * O := Nat.mul_le_mul_right _ hH
    rw [Nat.add_mul] at this; omega
  generalize hSe : H * O + V = S at *
  generalize hDe : 2 ^ a * O = D at *
  have hSO : S / O = H := by rw [← hSe, Nat.mul_comm, Nat.mul_add_div (by omega), Nat.div_eq_of_lt hV]; omega
  have hSm : S % O = V := by rw [← hSe, Nat.mul_comm, Nat.mul_add_mod]; exact Nat.mod_eq_of_lt hV
  have w0 : win S D 0 a = bits H a := by
    have := bits_val (win S D 0 a)
    rw [win_length, val_win hS] at this
    rw [← this, T, ← hDe, Nat.mul_comm S, Nat.mul_div_mul_left _ _ hpa, hSO]
  have t0 : T S D a = 2 ^ a * V := by
    have := T_add hS 0 a
    rw [Nat.zero_add] at this
    rw [this, T, ← hDe, Nat.mul_comm S, Nat.mul_mod_mul_left, hSm]
  induction n with
  | zero => simp [w0, t0]
  | succ n ih =>
    obtain ⟨w1, t1⟩ := ih
    have e : a + r * (n + 1) = (a + r * n) + r := by rw [Nat.mul_add]; omega
    have hv : 2 ^ a * V * 2 ^ r = 2 ^ a * (V * (O + 1)) := by rw [h2r, Nat.mul_assoc]
    constructor
    · rw [e, win_add, w1, Nat.zero_add, List.replicate_succ', List.flatten_append, List.append_assoc]
      congr 2
      have := bits_val (win S D (a + r * n) r)
      rw [win_length, val_win hS, t1, hv, ← hDe, Nat.mul_div_mul_left _ _ hpa] at this
      have e2 : V * (O + 1) / O = V := by rw [Nat.mul_add, Nat.mul_comm V O, Nat.mul_add_div (by omega), Nat.mul_one, Nat.div_eq_of_lt hV]; omega
      rw [e2] at this
      simp [this, hDe]
    · rw [e, T_add hS, t1, hv, ← hDe, Nat.mul_mod_mul_left]
      have e2 : V * (O + 1) % O = V := by rw [Nat.mul_add, Nat.mul_comm V O, Nat.mul_add_mod, Nat.mul_one, Nat.mod_eq_of_lt hV]
      rw [e2]
/-- what the law asks first -/
theorem text_law {H V a r : Nat} (hr : 1 ≤ r) (ha : a ≤ 3) (hH : H < 2 ^ a) (hV : V < 2 ^ r - 1) :
    txt (H * (2 ^ r - 1) + V) (2 ^ a * (2 ^ r - 1)) (a + r) 3 = (bits H a ++ (List.replicate 40 (bits V r)).flatten).take (3 * (a + r)) := by
  have hS : H * (2 ^ r - 1) + V < 2 ^ a * (2 ^ r - 1) := by
    have : (H + 1) * (2 ^ r - 1) ≤ 2 ^ a * (2 ^ r - 1) := Nat.mul_le_mul_right _ hH
    rw [Nat.add_mul] at this; omega
  rw [txt_win hS, ← (wheel_fig hr hH hV 40).1]
  have := win_cut (S := H * (2 ^ r - 1) + V) (D := 2 ^ a * (2 ^ r - 1)) 0 (a + r * 40) 0 (3 * (a + r)) (by omega)
  simpa using this.symm
theorem period {H V a r : Nat} (hr : 1 ≤ r) (hH : H < 2 ^ a) (hV : V < 2 ^ r - 1) :
    T (H * (2 ^ r - 1) + V) (2 ^ a * (2 ^ r - 1)) (a + r) = T (H * (2 ^ r - 1) + V) (2 ^ a * (2 ^ r - 1)) a := by
  have h1 := (wheel_fig hr hH hV 1).2
  have h0 := (wheel_fig hr hH hV 0).2
  simp only [Nat.mul_one, Nat.mul_zero, Nat.add_zero] at h1 h0
  rw [h1, h0]

/-- the words -/
noncomputable def ext2 (v : List Bool) : List (List Bool) := [v ++ [false], v ++ [true]]
noncomputable def wds (X : List Bool) : Nat → List (List Bool)
  | 0 => [[]]
  | n + 1 => ((wds X n).flatMap ext2).filter (standsB · X)
theorem mem_ext2 {v w : List Bool} : w ∈ ext2 v ↔ ∃ b, w = v ++ [b] := by
  simp only [ext2, List.mem_cons, List.not_mem_nil, or_false]
  constructor
  · rintro (h | h)
    · exact ⟨false, h⟩
    · exact ⟨true, h⟩
  · rintro ⟨b, h⟩
    cases b
    · exact .inl h
    · exact .inr h
theorem stands_init {v X : List Bool} {b : Bool} (h : stands (v ++ [b]) X) : stands v X := by
  obtain ⟨i, h1, h2⟩ := h
  rw [List.length_append, List.length_singleton] at h1 h2
  refine ⟨i, by omega, ?_⟩
  have := congrArg (List.take v.length) h2
  rw [List.take_take, List.take_left, Nat.min_eq_left (by omega)] at this
  exact this
theorem wds_length {X : List Bool} {n : Nat} : ∀ w ∈ wds X n, w.length = n := by
  induction n with
  | zero => intro w hw; simp [wds] at hw; simp [hw]
  | succ n ih =>
    intro w hw
    rw [wds, List.mem_filter, List.mem_flatMap] at hw
    obtain ⟨⟨v, hv, hw⟩, _⟩ := hw
    obtain ⟨b, rfl⟩ := mem_ext2.mp hw
    simp [ih v hv]
theorem mem_wds {X : List Bool} {n : Nat} (w : List Bool) : w ∈ wds X n ↔ w.length = n ∧ stands w X := by
  induction n generalizing w with
  | zero =>
    simp only [wds, List.mem_singleton, List.length_eq_zero_iff]
    constructor
    · rintro rfl; exact ⟨rfl, 0, by simp, by simp⟩
    · exact fun h => h.1
  | succ n ih =>
    rw [wds, List.mem_filter, List.mem_flatMap]
    constructor
    · rintro ⟨⟨v, hv, hw⟩, hs⟩
      obtain ⟨b, rfl⟩ := mem_ext2.mp hw
      exact ⟨by simp [((ih v).mp hv).1], (standsB_iff _ _).mp hs⟩
    · rintro ⟨hl, hs⟩
      rcases List.eq_nil_or_concat w with rfl | ⟨v, b, rfl⟩
      · simp at hl
      · rw [List.concat_eq_append] at *
        exact ⟨⟨v, (ih v).mpr ⟨by simpa using hl, stands_init hs⟩, mem_ext2.mpr ⟨b, rfl⟩⟩, (standsB_iff _ _).mpr hs⟩
theorem wds_sorted (X : List Bool) (n : Nat) : (wds X n).Pairwise (fun v w => val v < val w) := by
  induction n with
  | zero => simp [wds]
  | succ n ih =>
    rw [wds]
    refine List.Pairwise.filter _ ?_
    generalize wds X n = l at ih
    induction l with
    | nil => simp
    | cons v l ihl =>
      rw [List.flatMap_cons, List.pairwise_append]
      obtain ⟨h1, h2⟩ := List.pairwise_cons.mp ih
      refine ⟨?_, ihl h2, ?_⟩
      · simp [ext2, val_snoc]
      · intro x hx y hy
        obtain ⟨b, rfl⟩ := mem_ext2.mp hx
        obtain ⟨u, hu, hy⟩ := List.mem_flatMap.mp hy
        obtain ⟨c, rfl⟩ := mem_ext2.mp hy
        have := h1 u hu
        rw [val_snoc, val_snoc]
        cases b <;> cases c <;> simp <;> omega
theorem wds_nodup (X : List Bool) (n : Nat) : (wds X n).Nodup := (wds_sorted X n).imp fun h e => by rw [e] at h; exact Nat.lt_irrefl _ h
theorem len_le_of_sub {α : Type} [DecidableEq α] : ∀ {l m : List α}, l.Nodup → (∀ x ∈ l, x ∈ m) → l.length ≤ m.length
  | [], _, _, _ => Nat.zero_le _
  | x :: l, m, h, k => by
    obtain ⟨h1, h2⟩ := List.nodup_cons.mp h
    have hx := k x (.head _)
    have := len_le_of_sub (l := l) (m := m.erase x) h2 fun y hy => (List.mem_erase_of_ne (fun e => by subst e; exact h1 hy)).mpr (k y (.tail _ hy))
    rw [List.length_erase_of_mem hx] at this
    have : 0 < m.length := List.length_pos_of_mem hx
    simp only [List.length_cons]; omega
theorem len_le_flat {α β : Type} (f : α → List β) : ∀ {l : List α}, (∀ x ∈ l, 1 ≤ (f x).length) → l.length ≤ (l.flatMap f).length
  | [], _ => Nat.zero_le _
  | x :: l, h => by
    have := len_le_flat f (l := l) fun y hy => h y (.tail _ hy)
    have := h x (.head _)
    simp only [List.length_cons, List.flatMap_cons, List.length_append]; omega
theorem flat_one {α β : Type} (f : α → List β) : ∀ {l : List α}, (∀ x ∈ l, 1 ≤ (f x).length) → (l.flatMap f).length = l.length → ∀ x ∈ l, (f x).length = 1
  | [], _, _, _, hx => by cases hx
  | x :: l, h, e, y, hy => by
    have h1 := len_le_flat f (l := l) fun y hy => h y (.tail _ hy)
    have h2 := h x (.head _)
    simp only [List.length_cons, List.flatMap_cons, List.length_append] at e
    rcases List.mem_cons.mp hy with rfl | hy
    · omega
    · exact flat_one f (l := l) (fun y hy => h y (.tail _ hy)) (by omega) y hy
theorem filter_one {α : Type} [DecidableEq α] {p : α → Bool} {x : α} : ∀ {l : List α}, l.Nodup → x ∈ l → (∀ y ∈ l, p y = true ↔ y = x) → l.filter p = [x]
  | [], _, hx, _ => by cases hx
  | y :: l, h, hx, k => by
    obtain ⟨h1, h2⟩ := List.nodup_cons.mp h
    by_cases e : y = x
    · subst e
      rw [List.filter_cons_of_pos ((k y (.head _)).mpr rfl)]
      congr 1
      rw [List.filter_eq_nil_iff]
      intro z hz hp
      exact h1 ((k z (.tail _ hz)).mp hp ▸ hz)
    · rw [List.filter_cons_of_neg (fun hp => e ((k y (.head _)).mp hp))]
      refine filter_one h2 ?_ fun z hz => k z (.tail _ hz)
      rcases List.mem_cons.mp hx with q | q
      · exact absurd q.symm e
      · exact q
/-- all that the last part of the law asks -/
structure Words (S D W N : Nat) (X : List Bool) : Prop where
  lt : S < D
  X : X = win S D 0 (3 * W)
  one : 1 ≤ N
  le : N ≤ W
  nodup : ((List.range N).map (T S D)).Nodup
  back : ∃ j, j < N ∧ T S D N = T S D j
section
variable {S D W N : Nat} {X : List Bool}
theorem Words.rep (K : Words S D W N X) (i : Nat) : ∃ j, j < N ∧ T S D i = T S D j := by
  induction i with
  | zero => exact ⟨0, K.one, rfl⟩
  | succ i ih =>
    obtain ⟨j, hj, e⟩ := ih
    have e' : T S D (i + 1) = T S D (j + 1) := by rw [T, T, e]
    by_cases h : j + 1 < N
    · exact ⟨j + 1, h, e'⟩
    · have : j + 1 = N := by omega
      rw [this] at e'
      obtain ⟨k, hk, ek⟩ := K.back
      exact ⟨k, hk, e'.trans ek⟩
theorem Words.stands (K : Words S D W N X) {n : Nat} (hn : n ≤ N) (w : List Bool) : (w.length = n ∧ Mine.stands w X) ↔ ∃ i, i < N ∧ w = win S D i n := by
  have hle := K.le
  have hX : X.length = 3 * W := by rw [K.X, win_length]
  constructor
  · rintro ⟨hl, i, h1, h2⟩
    obtain ⟨j, hj, e⟩ := K.rep i
    refine ⟨j, hj, ?_⟩
    rw [← win_eq e, ← h2, hl, K.X, win_cut 0 _ _ _ (by omega), Nat.zero_add]
  · rintro ⟨i, hi, rfl⟩
    refine ⟨win_length _ _, i, by rw [win_length]; omega, ?_⟩
    rw [win_length, K.X, win_cut 0 _ _ _ (by omega), Nat.zero_add]
theorem Words.mem (K : Words S D W N X) {n : Nat} (hn : n ≤ N) (w : List Bool) : w ∈ wds X n ↔ ∃ i, i < N ∧ w = win S D i n := (mem_wds w).trans (K.stands hn w)
theorem Words.win_mem (K : Words S D W N X) {n : Nat} (hn : n ≤ N) (i : Nat) : win S D i n ∈ wds X n := by
  obtain ⟨j, hj, e⟩ := K.rep i
  exact (K.mem hn _).mpr ⟨j, hj, win_eq e n⟩
theorem Words.count_le (K : Words S D W N X) {n : Nat} (hn : n ≤ N) : (wds X n).length ≤ N := by
  have := len_le_of_sub (l := wds X n) (m := (List.range N).map fun i => win S D i n) (wds_nodup X n) fun w hw => by
    obtain ⟨i, hi, rfl⟩ := (K.mem hn w).mp hw
    exact List.mem_map.mpr ⟨i, List.mem_range.mpr hi, rfl⟩
  simpa using this
theorem wds_succ (X : List Bool) (n : Nat) : wds X (n + 1) = (wds X n).flatMap fun v => (ext2 v).filter (standsB · X) := by
  rw [wds, List.filter_flatMap]
theorem Words.more (K : Words S D W N X) {n : Nat} (hn : n + 1 ≤ N) : ∀ v ∈ wds X n, 1 ≤ ((ext2 v).filter (standsB · X)).length := by
  intro v hv
  obtain ⟨i, hi, rfl⟩ := (K.mem (by omega) v).mp hv
  have h := (mem_wds _).mp (K.win_mem hn i)
  exact List.length_pos_of_mem (List.mem_filter.mpr ⟨mem_ext2.mpr ⟨_, rfl⟩, (standsB_iff _ _).mpr h.2⟩)
theorem Words.mono (K : Words S D W N X) {n : Nat} (hn : n + 1 ≤ N) : (wds X n).length ≤ (wds X (n + 1)).length := by
  rw [wds_succ]; exact len_le_flat _ (K.more hn)
theorem Words.next (K : Words S D W N X) {n : Nat} (hn : n + 1 ≤ N) (he : (wds X (n + 1)).length = (wds X n).length) {i j : Nat} (e : win S D i n = win S D j n) : fig S D (i + n) = fig S D (j + n) := by
  rw [wds_succ] at he
  have h1 := flat_one _ (K.more hn) he _ (K.win_mem (by omega) i)
  have mi : win S D i n ++ [fig S D (i + n)] ∈ (ext2 (win S D i n)).filter (standsB · X) := List.mem_filter.mpr ⟨mem_ext2.mpr ⟨_, rfl⟩, (standsB_iff _ _).mpr ((mem_wds _).mp (K.win_mem hn i)).2⟩
  have mj : win S D i n ++ [fig S D (j + n)] ∈ (ext2 (win S D i n)).filter (standsB · X) := List.mem_filter.mpr ⟨mem_ext2.mpr ⟨_, rfl⟩, (standsB_iff _ _).mpr (by rw [e]; exact ((mem_wds _).mp (K.win_mem hn j)).2)⟩
  obtain ⟨z, hz⟩ := List.length_eq_one_iff.mp h1
  rw [hz, List.mem_singleton] at mi mj
  have := mi.trans mj.symm
  simpa using this
theorem Words.same (K : Words S D W N X) {n : Nat} (hn : n + 1 ≤ N) (he : (wds X (n + 1)).length = (wds X n).length) (k : Nat) {i j : Nat} (e : win S D i n = win S D j n) : win S D i k = win S D j k := by
  have all : ∀ k, win S D (i + k) n = win S D (j + k) n := fun k => by
    induction k with
    | zero => exact e
    | succ k ih =>
      have hf := K.next hn he ih
      have h1 : win S D (i + k) (1 + n) = win S D (j + k) (1 + n) := by rw [Nat.add_comm 1 n, win, win, ih, hf]
      rw [win_add, win_add] at h1
      exact (List.append_inj h1 (by rw [win_length, win_length])).2
  by_cases hk : k ≤ n
  · have e1 := win_cut (S := S) (D := D) i n 0 k (by omega)
    have e2 := win_cut (S := S) (D := D) j n 0 k (by omega)
    simp only [List.drop_zero, Nat.add_zero] at e1 e2
    rw [← e1, ← e2, e]
  · obtain ⟨q, rfl⟩ : ∃ q, k = n + q := ⟨k - n, by omega⟩
    induction q with
    | zero => exact e
    | succ q ih =>
      by_cases h0 : q = 0
      · subst h0
        rw [show n + (0 + 1) = n + 1 from rfl, win, win, e, K.next hn he e]
      · rw [← Nat.add_assoc, win, win, ih (by omega)]
        have := K.next hn he (all q)
        rw [show i + (n + q) = i + q + n by omega, show j + (n + q) = j + q + n by omega, this]
/-- as many words as rests -/
theorem Words.full (K : Words S D W N X) {n : Nat} (hn : n + 1 ≤ N) (he : (wds X (n + 1)).length = (wds X n).length) : (wds X n).length = N := by
  refine Nat.le_antisymm (K.count_le (by omega)) ?_
  have nd : ((List.range N).map fun i => win S D i n).Nodup := by
    rw [List.Nodup, List.pairwise_map]
    have := K.nodup
    rw [List.Nodup, List.pairwise_map] at this
    exact this.imp fun h e => h (T_of_win K.lt fun k => K.same hn he k e)
  have := len_le_of_sub (l := (List.range N).map fun i => win S D i n) (m := wds X n) nd fun w hw => by
    obtain ⟨i, hi, rfl⟩ := List.mem_map.mp hw
    exact K.win_mem (by omega) i
  simpa using this
/-- each next letter -/
theorem Words.ways (K : Words S D W N X) {n j : Nat} (hn : n + 1 ≤ N) (he : (wds X (n + 1)).length = (wds X n).length) (hj : n ≤ j) (hjX : j < X.length) :
    ((wds X (n + 1)).filter fun w => w.dropLast == (X.take j).drop (j - n)) = [win S D (j - n) (n + 1)] ∧ X[j]? = some (fig S D j) ∧ (win S D (j - n) (n + 1)).getLast? = some (fig S D j) := by
  have hX : X.length = 3 * W := by rw [K.X, win_length]
  have eu : (X.take j).drop (j - n) = win S D (j - n) n := by
    have h1 := win_cut (S := S) (D := D) 0 (3 * W) 0 j (by omega)
    have h2 := win_cut (S := S) (D := D) 0 j (j - n) n (by omega)
    simp only [List.drop_zero, Nat.add_zero, Nat.zero_add] at h1 h2
    rw [K.X, h1, ← h2, List.take_of_length_le]
    rw [List.length_drop, win_length]; omega
  have ej : j - n + n = j := by omega
  refine ⟨?_, by rw [K.X, win_get 0 _ _ (by omega), Nat.zero_add], by rw [win, ej]; simp⟩
  refine filter_one (wds_nodup _ _) (K.win_mem hn _) fun y hy => ?_
  rw [eu, beq_iff_eq]
  obtain ⟨i, hi, rfl⟩ := (K.mem hn y).mp hy
  rw [win, win, List.dropLast_concat]
  constructor
  · intro e; rw [e, K.next hn he e]
  · intro e; exact (List.append_inj e (by rw [win_length, win_length])).1
/-- the numbers -/
theorem Words.numbers (K : Words S D W N X) {n : Nat} (hn : n ≤ N) (x : Nat) : x ∈ (wds X n).map val ↔ x ∈ (List.range N).map fun i => T S D i * 2 ^ n / D := by
  simp only [List.mem_map, List.mem_range]
  constructor
  · rintro ⟨w, hw, rfl⟩
    obtain ⟨i, hi, rfl⟩ := (K.mem hn w).mp hw
    exact ⟨i, hi, (val_win K.lt i n).symm⟩
  · rintro ⟨i, hi, rfl⟩
    exact ⟨_, K.win_mem hn i, val_win K.lt i n⟩
end
/-- strictly more words at each length so far -/
theorem grown {p : Nat → Nat} {k : Nat} (h0 : 1 ≤ p 0) (h : ∀ i, i < k → p i ≤ p (i + 1) ∧ p (i + 1) ≠ p i) : k + 1 ≤ p k := by
  induction k with
  | zero => exact h0
  | succ k ih =>
    have h1 := ih fun i hi => h i (by omega)
    have h2 := h k (by omega)
    omega
end Mine
namespace Mine
theorem sliceRange_eq {a b c d : Int} (h : a = c) (k : b = d) : sliceRange a b 1 = sliceRange c d 1 := by rw [h, k]
theorem slice_val {x : Str} {l u : Option Int} {a b : Nat} (hab : a ≤ b) (hb : b ≤ x.length) (e : Builtin.Str.strSliceIndices l u 1 x.length = Builtin.Str.strSliceIndices (some (a : Int)) (some (b : Int)) 1 x.length) :
    (Txt.slice x l u).cps.toList = (x.cps.toList.drop a).take (b - a) := by
  unfold Txt.slice
  rw [e]
  have hp := StrLaws.sliced_plain x hab hb
  split
  · rename_i h
    have hl : (Builtin.Str.strSliceIndices (some (a : Int)) (some (b : Int)) 1 x.length).length = x.length := by simpa using h
    rw [StrLaws.strSliceIndices_plain hab hb, List.length_map, List.length_range] at hl
    have h0 : a = 0 := by omega
    have h1 : b = x.length := by omega
    subst h0
    rw [h1, Nat.sub_zero, List.drop_zero]
    exact (List.take_of_length_le (by simp [Str.length])).symm
  · rw [List.toList_toArray, hp]
theorem ab_of {x : Str} {l : List Bool} (h : x.cps.toList = l.map fun b => if b then 98 else 97) : x = ab l := by
  apply Str.ext'
  apply Array.toList_inj.mp
  rw [h]; simp [ab]
theorem slice_to (X : List Bool) (j : Nat) : Txt.slice (ab X) none (some (j : Int)) = ab (X.take j) := by
  refine ab_of ?_
  rw [slice_val (a := 0) (b := min j X.length) (Nat.zero_le _) (by rw [ab_length]; omega), cps_ab, List.drop_zero, Nat.sub_zero, ← List.map_take]
  · congr 1
    rw [List.take_eq_take_iff]; omega
  · unfold Builtin.Str.strSliceIndices
    rw [ab_length]
    congr 1
    simp only [show (1 : Int) > 0 from by decide, if_true]
    refine sliceRange_eq ?_ ?_ <;> (repeat' split) <;> omega
theorem slice_init (X : List Bool) : Txt.slice (ab X) none (some (-1)) = ab X.dropLast := by
  refine ab_of ?_
  rw [slice_val (a := 0) (b := X.length - 1) (Nat.zero_le _) (by rw [ab_length]; omega), cps_ab, List.drop_zero, Nat.sub_zero, ← List.map_take, List.dropLast_eq_take]
  unfold Builtin.Str.strSliceIndices
  rw [ab_length]
  congr 1
  simp only [show (1 : Int) > 0 from by decide, if_true]
  refine sliceRange_eq ?_ ?_ <;> (repeat' split) <;> omega
theorem slice_from (X : List Bool) (i : Nat) (hi : i ≤ X.length) : Txt.slice (ab X) (some (i : Int)) none = ab (X.drop i) := by
  refine ab_of ?_
  rw [slice_val (a := i) (b := X.length) hi (by rw [ab_length]; omega), cps_ab, ← List.map_drop, ← List.map_take]
  · congr 1
    rw [List.take_of_length_le (by rw [List.length_drop]; omega)]
  · unfold Builtin.Str.strSliceIndices
    rw [ab_length]
    congr 1
    simp only [show (1 : Int) > 0 from by decide, if_true]
    refine sliceRange_eq ?_ ?_ <;> (repeat' split) <;> omega
theorem mul_ab (X : List Bool) (n : Nat) : Txt.mul (ab X) (n : Int) = ab (List.replicate n X).flatten := by
  refine ab_of ?_
  unfold Txt.mul
  have key : ∀ (n : Nat) (acc : Array Nat), ((List.replicate n (ab X).cps).foldl (· ++ ·) acc).toList = acc.toList ++ (List.replicate n X).flatten.map fun b => if b then 98 else 97 := fun n => by
    induction n with
    | zero => intro acc; simp
    | succ n ih =>
      intro acc
      rw [List.replicate_succ, List.foldl_cons, ih, Array.toList_append, cps_ab, List.replicate_succ, List.flatten_cons, List.map_append, List.append_assoc]
  split
  · have : n = 0 := by omega
    subst this; rfl
  · split
    · rename_i h1 h2
      rw [Bool.or_eq_true, beq_iff_eq, beq_iff_eq, ab_length] at h2
      rw [cps_ab]
      rcases h2 with h2 | h2
      · have : n = 1 := by omega
        subst this; simp
      · rw [List.length_eq_zero_iff.mp h2]; simp
    · rw [Int.toNat_natCast, key]; simp
theorem item_last (X : List Bool) (b : Bool) (h : X.getLast? = some b) : Txt.item (ab X) (-1) = letter b := by
  have hne : X ≠ [] := by rintro rfl; simp at h
  have hlen : 0 < X.length := List.length_pos_iff.mpr hne
  have hg : X[X.length - 1]? = some b := by rw [← h, List.getLast?_eq_getElem?]
  have hc : (ab X).cps[X.length - 1]? = some (if b then 98 else 97) := by
    rw [← Array.getElem?_toList, cps_ab, List.getElem?_map, hg]; rfl
  have e : seqIndex? (-1) (ab X).length = some (X.length - 1) := by
    unfold seqIndex?
    rw [ab_length]
    simp only [show (-1 : Int) < 0 from by decide, if_true]
    rw [if_pos (by simp; omega)]
    congr 1; omega
  unfold Txt.item Txt.charAt
  rw [e]
  simp only [Option.bind_some, hc]
  rfl
end Mine
namespace Mine
section
variable {prog : Program} {w : World} {A : Around} {E : Value → Shared → Prop} {s : Shared} {Q : Value → Shared → Prop} {t u : Tok}
theorem pow2n {a : Nat} (ha : a ≤ 1000) (h : Q (.int ((2 ^ a : Nat) : Int) s.toks) { s with toks := s.toks + 1 }) : wpAny (model prog w) A (binaryOp .Pow (.int 2 t) (.int (a : Nat) u)) Q E s := by
  refine PyProof.Rows.pow_int (by omega) ?_ ?_
  · have : Builtin.Int.intBits 2 = 2 := by decide
    rw [this]; omega
  · rw [Int.toNat_natCast, pow_nat]; exact h
theorem modn {a b : Nat} (hb : b ≠ 0) (h : Q (.int ((a % b : Nat) : Int) s.toks) { s with toks := s.toks + 1 }) : wpAny (model prog w) A (binaryOp .Mod (.int (a : Nat) t) (.int (b : Nat) u)) Q E s := by
  refine PyProof.Rows.mod_int' (by omega) ?_
  rw [fmod_nat]; exact h
theorem divn {a b : Nat} (hb : b ≠ 0) (hs : b < 1073741824) (h : Q (.int ((a / b : Nat) : Int) s.toks) { s with toks := s.toks + 1 }) : wpAny (model prog w) A (binaryOp .FloorDiv (.int (a : Nat) t) (.int (b : Nat) u)) Q E s := by
  refine PyProof.Rows.floordiv_int (by omega) ?_ (.inl (PyProof.noPylong_small (by omega)))
  rw [fdiv_nat]; exact h
theorem muln {a b : Nat} (ha : a < 2 ^ 60) (h : Q (.int ((a * b : Nat) : Int) s.toks) { s with toks := s.toks + 1 }) : wpAny (model prog w) A (binaryOp .Mult (.int (a : Nat) t) (.int (b : Nat) u)) Q E s := by
  refine PyProof.Rows.mul_int ?_ (IntMulOk.of_left (Nat.le_trans (intBits_le ha) (by decide)))
  rw [← Int.natCast_mul]; exact h
theorem addn {a b : Nat} (h : Q (.int ((a + b : Nat) : Int) s.toks) { s with toks := s.toks + 1 }) : wpAny (model prog w) A (binaryOp .Add (.int (a : Nat) t) (.int (b : Nat) u)) Q E s := by
  refine PyProof.Rows.add_int ?_
  rw [← Int.natCast_add]; exact h
theorem subn {a b : Nat} (hb : b ≤ a) (h : Q (.int ((a - b : Nat) : Int) s.toks) { s with toks := s.toks + 1 }) : wpAny (model prog w) A (binaryOp .Sub (.int (a : Nat) t) (.int (b : Nat) u)) Q E s := by
  refine PyProof.Rows.sub_int ?_
  rw [← Int.natCast_sub hb]; exact h
variable {value slice : Expr} {x : Str}
theorem sl_ns {j : Int} {uj : Tok} (hsz : x.length ≤ 1000) (h : ∀ h' t' k, Ext s.heap h' → Q (.str (Txt.slice x none (some j)) t') { s with heap := h', toks := k })
    (hs : subscripted slice false (.str x t) (.ref s.heap.objs.size) = operate [.ref s.heap.objs.size, .str x t] (getItem (.str x t) (.ref s.heap.objs.size)) := by with_unfolding_all rfl)
    (ht : ∀ r, letTemporaryGo value (.str x t) r = pure () := by intro _; with_unfolding_all rfl) :
    wpAny (model prog w) A (subscriptTail value slice (.str x t) (.ref s.heap.objs.size)) Q E { s with heap := s.heap.push { cls := .type "slice", data := .fields #[.none, .int j uj, .none] } } :=
  tail_of_ItemOn (SBH.sliceItem_ns (P := Ext s.heap) (fun _ _ p => p.trans (Ext.push _ _)) (Ext.refl _) h (by rw [sizeLine_eq]; omega)) hs ht
theorem sl_sn {i : Int} {ui : Tok} (hsz : x.length ≤ 1000) (h : ∀ h' t' k, Ext s.heap h' → Q (.str (Txt.slice x (some i) none) t') { s with heap := h', toks := k })
    (hs : subscripted slice false (.str x t) (.ref s.heap.objs.size) = operate [.ref s.heap.objs.size, .str x t] (getItem (.str x t) (.ref s.heap.objs.size)) := by with_unfolding_all rfl)
    (ht : ∀ r, letTemporaryGo value (.str x t) r = pure () := by intro _; with_unfolding_all rfl) :
    wpAny (model prog w) A (subscriptTail value slice (.str x t) (.ref s.heap.objs.size)) Q E { s with heap := s.heap.push { cls := .type "slice", data := .fields #[.int i ui, .none, .none] } } :=
  tail_of_ItemOn (SBH.sliceItem_sn (P := Ext s.heap) (fun _ _ p => p.trans (Ext.push _ _)) (Ext.refl _) h (by rw [sizeLine_eq]; omega)) hs ht
end
end Mine
namespace Mine
theorem rep_len' {α : Type} (x : List α) (n : Nat) : (List.replicate n x).flatten.length = n * x.length := by
  induction n with
  | zero => simp
  | succ n ih => rw [List.replicate_succ, List.flatten_cons, List.length_append, ih, Nat.succ_mul, Nat.add_comm]
theorem rep_len (V : Nat) {rr : Nat} (h : rr ≤ 8) : (List.replicate 40 (bits V rr)).flatten.length ≤ 320 := by
  rw [rep_len', bits_length]; omega
section
variable {prog : Program} {w : World} {A : Around} {E : Value → Shared → Prop} {s : Shared} {g : Heap} {L fa : Addr} {cd : Value} {m : Str → Option Value} {d t z p : Option Value} {l : List (Str × Value)} {Q : Flow → Shared → Prop}
/-- a local name of the law is set -/
theorem lasg {x : Str} {pos' pos : Pos} {value : Expr} (G : Gr w g L)
    (h : wpAny (model prog w) A (eval value (lawEnv w L fa cd)) (fun v s₁ => ∃ m d t z p, LS w g L s₁.heap m d t z p ∧ ∀ h' tk, LS w g L h' (fun y => if y = x then some v else m y) d t z p → Up L s₁.heap h' → Q .next { s₁ with heap := h', toks := tk }) E s)
    (hx : (lawEnv w L fa cd).kindOf x = some .local := by kernel_rfl)
    (hs : swapsWith value (some (.Name x pos')) pos.line (lawEnv w L fa cd) = pure false := by rfl) : wpAny (model prog w) A (exec (.Assign [.Name x pos'] value pos) (lawEnv w L fa cd)) Q E s := by
  have hL : (lawEnv w L fa cd).locals = L := by kernel_rfl
  have gL := G.noneAt (.inr (.inl rfl) : Mut L L)
  refine asg (wpAny_mono h (fun v s₁ h₁ => ?_) fun _ _ e => e) hx (by kernel_rfl) hs
  obtain ⟨m, d, t, z, p, ls, k⟩ := h₁
  refine ⟨m, by rw [hL]; exact ls.ns, fun h' hn hs => ?_⟩
  rw [hL] at hn hs
  obtain ⟨ls', u⟩ := ls.setL gL hn hs
  exact k h' _ ls' u
theorem lloc {x : Str} {pos : Pos} {v : Value} {Q : Value → Shared → Prop} (ls : LS w g L s.heap m d t z p) (hv : m x = some v) (h : Q v s)
    (hx : (lawEnv w L fa cd).kindOf x = some .local := by kernel_rfl) (hd : (x == ("__debug__" : Str)) = false := by decide) : wpAny (model prog w) A (eval (.Name x pos) (lawEnv w L fa cd)) Q E s := by
  have hL : (lawEnv w L fa cd).locals = L := by kernel_rfl
  exact lname (by rw [hL]; exact ls.ns) hv h (by kernel_rfl) hx hd
set_option maxHeartbeats 1000000 in
theorem law13 {H V O a : Nat} {th tv to ta : Tok} (G : Gr w g L) (ls : LS w g L s.heap m d t z p) (HH : Has m l) (hl : (l.all fun p => p.1 != Str.ofString "head" && p.1 != Str.ofString "wheel") = true)
    (hh : m (Str.ofString "head") = some (.int H th)) (hv : m (Str.ofString "wheel") = some (.int V tv)) (ho : m (Str.ofString "ones") = some (.int O to)) (hA : m (Str.ofString "ahead") = some (.int a ta)) (ha : a ≤ 3)
    (h : ∀ h' tk m' th' tv', LS w g L h' m' d t z p → Has m' l → m' (Str.ofString "head") = some (.int (if V = O then (H + 1) % 2 ^ a else H : Nat) th') → m' (Str.ofString "wheel") = some (.int (if V = O then 0 else V : Nat) tv') → Up L s.heap h' → Q .next { s with heap := h', toks := tk }) :
    wpAny (model prog w) A (exec (lawSt w 13) (lawEnv w L fa cd)) Q E s := by
  show wpAny _ _ (exec (.If (.Compare (.Name _ _) _ [.Name _ _] _) [.Assign [.Name _ _] _ _, .Assign [.Name _ _] _ _] [] _) _) _ _ _
  obtain ⟨hlh, hlw⟩ := all_and hl
  with_reducible refine wpAny_If ?_
  with_reducible refine wpAny_isTrue_Compare1 ?_
  refine lloc ls hv ?_
  refine lloc ls ho ?_
  with_reducible refine PyProof.Rows.eq_int ?_
  with_reducible refine wpAny_truthy_bool ?_
  by_cases hVO : V = O
  · rw [if_pos (by simp [hVO])]
    with_reducible refine wpAny_execs_cons ?_
    refine lasg G ?_
    with_reducible refine wpAny_BinOp ?_
    with_reducible refine wpAny_BinOp ?_
    refine lloc ls hh ?_
    with_reducible refine wpAny_Constant_int ?_
    refine addn (b := 1) ?_
    with_reducible refine wpAny_BinOp ?_
    with_reducible refine wpAny_Constant_int ?_
    refine lloc ls hA ?_
    refine pow2n (by omega) ?_
    refine modn (Nat.ne_of_gt (Nat.two_pow_pos a)) ?_
    refine ⟨m, d, t, z, p, ls, fun h₁ tk₁ ls₁ u₁ => ?_⟩
    dsimp only
    with_reducible refine wpAny_execs_cons ?_
    refine lasg G ?_
    with_reducible refine wpAny_Constant_int ?_
    refine ⟨_, d, t, z, p, ls₁, fun h₂ tk₂ ls₂ u₂ => ?_⟩
    dsimp only
    with_reducible refine wpAny_execs_nil ?_
    exact h h₂ tk₂ _ _ _ ls₂ ((HH.keep hlh).keep hlw) (by rw [if_pos hVO]; exact (if_neg (by decide)).trans (if_pos rfl)) (by rw [if_pos hVO]; exact if_pos rfl) (u₁.trans u₂)
  · rw [if_neg (by simp; omega)]
    with_reducible refine wpAny_execs_nil ?_
    refine h s.heap s.toks m _ _ ls HH (by rw [if_neg hVO]; exact hh) (by rw [if_neg hVO]; exact hv) (Up.refl _ _)
set_option maxHeartbeats 1000000 in
theorem law14 {X : List Bool} {H V a rr W : Nat} {tt th tv ta tr tw : Tok} (G : Gr w g L) (r : Room A 4) (ls : LS w g L s.heap m d (some (.str (ab X) tt)) z p)
    (hh : m (Str.ofString "head") = some (.int H th)) (hv : m (Str.ofString "wheel") = some (.int V tv)) (hA : m (Str.ofString "ahead") = some (.int a ta)) (hr : m (Str.ofString "round_size") = some (.int rr tr)) (hW : m (Str.ofString "width") = some (.int W tw))
    (ha : a ≤ 3) (hrr : rr ≤ 8) (hX : X = (bits H a ++ (List.replicate 40 (bits V rr)).flatten).take (3 * W))
    (h : ∀ h' tk, LS w g L h' m d (some (.str (ab X) tt)) z p → Up L s.heap h' → Q .next { s with heap := h', toks := tk }) :
    wpAny (model prog w) A (exec (lawSt w 14) (lawEnv w L fa cd)) Q E s := by
  show wpAny _ _ (exec (.If (.Compare (.Name _ _) _ [.Subscript (.BinOp (.Call (.Name _ _) [.Name _ _, .Name _ _] [] _) _ (.BinOp (.Call (.Name _ _) [.Name _ _, .Name _ _] [] _) _ (.Constant _ _ _) _) _) (.Slice none (some (.BinOp (.Constant _ _ _) _ (.Name _ _) _)) none _) _] _) [_] [] _) _) _ _ _
  have B₀ := G.B.keeps ls.keep
  with_reducible refine wpAny_If ?_
  with_reducible refine wpAny_isTrue_Compare1 ?_
  refine cname (c := L + 2) (by kernel_rfl) ls.ct ?_
  refine Subscript_ ?_
  with_reducible refine wpAny_BinOp ?_
  refine Call_ ?_
  refine gname (w := w) B₀ (v := .ref 96) (by kernel_rfl) ?_
  refine callWith_K (K := KK w) (h₀ := s.heap) B₀.K (by kernel_rfl) ?_
  refine spliced_more ?_
  refine lloc ls hh ?_
  refine spliced_more ?_
  refine lloc ls hA ?_
  refine spliced_none ?_
  refine ⟨B₀.K, ?_⟩
  dsimp only [List.nil_append]
  refine letters_call B₀ (r.less (by omega)) (by omega) fun h₁ tk₁ t₁ up₁ => ?_
  have ls₁ := ls.ext up₁
  have B₁ := B₀.keeps up₁
  with_reducible refine wpAny_BinOp ?_
  refine Call_ ?_
  refine gname (w := w) (s := ⟨h₁, _, _, _, _⟩) B₁ (v := .ref 96) (by kernel_rfl) ?_
  refine callWith_K (K := KK w) (h₀ := h₁) B₁.K (by kernel_rfl) ?_
  refine spliced_more ?_
  refine lloc (s := ⟨h₁, _, _, _, _⟩) ls₁ hv ?_
  refine spliced_more ?_
  refine lloc (s := ⟨h₁, _, _, _, _⟩) ls₁ hr ?_
  refine spliced_none ?_
  refine ⟨B₁.K, ?_⟩
  dsimp only [List.nil_append]
  refine letters_call (s := ⟨h₁, _, _, _, _⟩) B₁ (r.less (by omega)) (by omega) fun h₂ tk₂ t₂ up₂ => ?_
  dsimp only at up₂
  have ls₂ := ls₁.ext up₂
  with_reducible refine wpAny_Constant_int ?_
  refine SB.mul (mulOk_of 8 40 (by rw [ab_length, bits_length]; exact hrr) (by decide) (by decide) (by decide) (by decide)) fun t₃ k₃ => ?_
  rw [show (40 : Int) = ((40 : Nat) : Int) from rfl, mul_ab]
  have hfl := rep_len V hrr
  refine SBL.add (hsz := by rw [ab_length, ab_length, bits_length, sizeLine_eq]; omega) fun t₄ k₄ _ => ?_
  rw [← ab_append]
  with_reducible refine wpAny_Slice ?_
  with_reducible refine evalPart_none_step ?_
  with_reducible refine evalPart_some_step ?_
  with_reducible refine wpAny_BinOp ?_
  with_reducible refine wpAny_Constant_int ?_
  refine lloc (s := ⟨h₂, _, _, _, _⟩) ls₂ hW ?_
  refine muln (a := 3) (by decide) ?_
  with_reducible refine evalPart_none_step ?_
  refine sl_ns (s := ⟨h₂, _, _, _, _⟩) (by rw [ab_length, List.length_append, bits_length]; omega) fun h₃ t₅ k₅ up₃ => ?_
  dsimp only at up₃
  rw [slice_to]
  with_reducible refine PyProof.Rows.ne_str ?_
  rw [← hX]
  with_reducible refine wpAny_truthy_bool ?_
  rw [if_neg (by simp)]
  with_reducible refine wpAny_execs_nil ?_
  exact h h₃ _ (ls₂.ext up₃) ((up₁.trans up₂).trans up₃).up
end
end Mine
namespace Mine
theorem intsAre_snoc {vs : List Value} {ns : List Int} (h : IntsAre vs ns) (n : Int) (t : Tok) : IntsAre (vs ++ [.int n t]) (ns ++ [n]) := by
  induction h with
  | nil => exact .cons n t .nil
  | cons a b _ ih => exact .cons a b ih
theorem intsAre_mem {vs : List Value} {ns : List Int} (h : IntsAre vs ns) : ∀ v ∈ vs, ∃ n t, v = .int n t ∧ n ∈ ns := by
  induction h with
  | nil => intro v hv; cases hv
  | cons a b _ ih =>
    intro v hv
    rcases List.mem_cons.mp hv with rfl | hv
    · exact ⟨_, _, rfl, .head _⟩
    · obtain ⟨n, t, e, q⟩ := ih v hv
      exact ⟨n, t, e, .tail _ q⟩
noncomputable def isIntB (x : Int) : Value → Bool
  | .int n _ => n == x
  | _ => false
theorem any_ints {vs : List Value} {ns : List Int} (h : IntsAre vs ns) (x : Int) : vs.toArray.any (isIntB x) = ns.any (· == x) := by
  rw [← Array.any_toList, List.toList_toArray]
  induction h with
  | nil => rfl
  | cons a b _ ih => simp only [List.any_cons, ih, isIntB]
section
variable {prog : Program} {w : World} {A : Around} {E : Value → Shared → Prop} {s : Shared} {g : Heap} {L fa : Addr} {cd : Value} {m : Str → Option Value} {d t z p : Option Value} {l : List (Str × Value)} {Q : Flow → Shared → Prop}
theorem notin_ints {D : Addr} {vs : List Value} {ns : List Int} {x : Int} {tx : Tok} {Q : Value → Shared → Prop} (hl : s.heap.IsList D vs.toArray) (hi : IntsAre vs ns) (h : Q (.bool (!ns.any (· == x))) s) :
    wpAny (model prog w) A (compareOp .NotIn (.int x tx) (.ref D)) Q E s := by
  refine SeqAt.notIn_listAt (isIntB x) hl (fun y hy => ?_) (by rw [any_ints hi]; exact h)
  obtain ⟨n, u, rfl, _⟩ := intsAre_mem hi y (by simpa using hy)
  exact SeqAt.EqAt.int_int n u x tx
theorem PlainList.isList {h : Heap} {D : Addr} {vs : Array Value} (x : h.PlainList D vs) : h.IsList D vs := let ⟨n, e⟩ := x; ⟨_, e, rfl, n, rfl⟩
theorem Up.keepPlain {L : Addr} {h h' : Heap} {D : Addr} {vs : Array Value} (u : Up L h h') (n : ¬ Mut L D) (x : h.PlainList D vs) : h'.PlainList D vs := let ⟨k, e⟩ := x; ⟨k, u _ _ n e⟩
theorem Up.keepList {L : Addr} {h h' : Heap} {D : Addr} {vs : Array Value} (u : Up L h h') (n : ¬ Mut L D) (x : h.IsList D vs) : h'.IsList D vs := x.at fun o e => u _ o n e
theorem append_list {D : Addr} {v : Value} {vs : List Value} {Q : Value → Shared → Prop} (hl : s.heap.PlainList D vs.toArray) (hsz : vs.length ≤ 1000)
    (h : ∀ h', h'.PlainList D (vs ++ [v]).toArray → Heap.SameBut D s.heap h' → Q .none { s with heap := h' }) : wpAny (model prog w) A (call (.builtin "list.append") [.ref D, v]) Q E s :=
  wpAny_list_append_plain hl (fun h' hp hs => h h' (by simpa using hp) hs) (by rw [List.size_toArray, sizeLine_eq]; omega)
/-- rests: the rests by doubling till one comes back -/
structure RestsAt (S D k : Nat) (h : Heap) (Dr : Addr) (vs : List Value) : Prop where
  lst : h.PlainList Dr vs.toArray
  its : IntsAre vs ((List.range k).map fun i => ((T S D i : Nat) : Int))
theorem range_map_snoc {α : Type} (f : Nat → α) (k : Nat) : (List.range (k + 1)).map f = (List.range k).map f ++ [f k] := by rw [List.range_succ, List.map_append]; rfl
theorem any_range (S D k x : Nat) : ((List.range k).map fun i => ((T S D i : Nat) : Int)).any (· == (x : Int)) = true ↔ ∃ j, j < k ∧ T S D j = x := by
  simp only [List.any_map, List.any_eq_true, List.mem_range, Function.comp, beq_iff_eq]
  exact exists_congr fun j => and_congr_right fun _ => by omega
set_option maxHeartbeats 1000000 in
theorem law15 {S D W : Nat} {td ts : Tok} {stmts : List Stmt} (G : Gr w g L) (r : Room A 4) (ls : LS w g L s.heap m (some (.int D td)) t z p) (H : Has m l) (hl : (l.all fun p => p.1 != Str.ofString "rests" && p.1 != Str.ofString "rest") = true)
    (hs : m (Str.ofString "start") = some (.int S ts)) (hsl : (Str.ofString "start", Value.int S ts) ∈ l) (hS : S < D) (hD : D < 2 ^ 12) (hW : W ≤ 12) (per : ∃ a, a < W ∧ T S D W = T S D a)
    (h : ∀ h' tk m' N Dr vs, LS w g L h' m' (some (.int D td)) t z p → Has m' l → m' (Str.ofString "rests") = some (.ref Dr) → RestsAt S D N h' Dr vs → ¬ Mut L Dr → s.heap.get? Dr = none → 1 ≤ N → N ≤ W → ((List.range N).map (T S D)).Nodup → (∃ j, j < N ∧ T S D N = T S D j) → Up L s.heap h' →
      wpAny (model prog w) A (execs stmts (lawEnv w L fa cd)) Q E { s with heap := h', toks := tk }) :
    wpAny (model prog w) A (execs (lawSt w 15 :: lawSt w 16 :: lawSt w 17 :: stmts) (lawEnv w L fa cd)) Q E s := by
  obtain ⟨hlr, hlx⟩ := all_and hl
  have gL := G.noneAt (.inr (.inl rfl) : Mut L L)
  -- rests = []
  with_reducible refine wpAny_execs_cons ?_
  show wpAny _ _ (exec (.Assign [.Name _ _] (.List [] _) _) _) _ _ _
  refine lasg G ?_
  with_reducible refine List_ ?_
  refine spliced_none ?_
  refine newList' fun h₁ Dr up₁ nDr hDr => ?_
  (try dsimp only at up₁ nDr hDr); (try dsimp only)
  have ls₁ := ls.ext up₁
  refine ⟨m, _, t, z, p, ls₁, fun h₂ tk₂ ls₂ u₂ => ?_⟩
  (try dsimp only at u₂); (try dsimp only)
  have oDr : ¬ Mut L Dr := ls.fresh nDr
  have hDr₂ : h₂.PlainList Dr ([] : List Value).toArray := ⟨_, u₂ _ _ oDr hDr⟩
  have H₂ := H.put (v := .ref Dr) hlr
  generalize hm₂ : (fun y => if y = Str.ofString "rests" then some (Value.ref Dr) else m y) = m₂ at ls₂ H₂
  have hs₂ : m₂ (Str.ofString "start") = some (.int S ts) := by rw [← hm₂]; exact (if_neg (by decide)).trans hs
  -- rest = start
  with_reducible refine wpAny_execs_cons ?_
  show wpAny _ _ (exec (.Assign [.Name _ _] (.Name _ _) _) _) _ _ _
  refine lasg G ?_
  refine lloc (s := ⟨h₂, _, _, _, _⟩) ls₂ hs₂ ?_
  refine ⟨m₂, _, t, z, p, ls₂, fun h₃ tk₃ ls₃ u₃ => ?_⟩
  (try dsimp only at u₃); (try dsimp only)
  have hlx' : (((Str.ofString "rests", Value.ref Dr) :: l).all fun p => p.1 != Str.ofString "rest") = true := by
    rw [List.all_cons, hlx]; show (Str.ofString "rests" != Str.ofString "rest" && true) = true; decide
  have H₃ := H₂.keep (v := .int S ts) hlx'
  -- while rest not in rests
  with_reducible refine wpAny_execs_cons ?_
  show wpAny _ _ (exec (.While (.Compare (.Name _ _) _ [.Name _ _] _) [_, .Assign [.Name _ _] _ _] [] _) _) _ _ _
  refine wpAny_While ?_
  have U : Up L s.heap h₃ := (up₁.up.trans u₂).trans u₃
  refine while_loop (s := { s with heap := h₃, toks := tk₃ }) (fun q h => ∃ k m' vs tr, q = W + 1 - k ∧ LS w g L h m' (some (.int D td)) t z p ∧ Has m' ((Str.ofString "rests", Value.ref Dr) :: l) ∧ m' (Str.ofString "rest") = some (.int (T S D k : Nat) tr) ∧
      RestsAt S D k h Dr vs ∧ ((List.range k).map (T S D)).Nodup ∧ Up L s.heap h) (W + 1)
    ⟨0, _, [], ts, rfl, ls₃, H₃, if_pos rfl, ⟨u₃.keepPlain oDr hDr₂, .nil⟩, by simp, U⟩ ?_
  rintro q h₄ tk₄ ⟨k, m₄, vs, tr, rfl, ls₄, H₄, hr₄, R₄, nd, U₄⟩
  have hkW : k ≤ W := by
    refine Nat.not_lt.mp fun hlt => ?_
    obtain ⟨a, ha, e⟩ := per
    rw [List.Nodup, List.pairwise_map] at nd
    have := List.pairwise_iff_getElem.mp nd a W (by rw [List.length_range]; omega) (by rw [List.length_range]; omega) ha
    rw [List.getElem_range, List.getElem_range] at this
    exact this e.symm
  have hvl : vs.length = k := by rw [IntsAre.length R₄.its]; simp
  with_reducible refine wpAny_isTrue_Compare1 ?_
  refine lloc (s := ⟨h₄, _, _, _, _⟩) ls₄ hr₄ ?_
  refine lloc (s := ⟨h₄, _, _, _, _⟩) ls₄ (H₄.get (.head _)) ?_
  refine notin_ints R₄.lst.isList R₄.its ?_
  with_reducible refine wpAny_truthy_bool ?_
  cases hb : ((List.range k).map fun i => ((T S D i : Nat) : Int)).any (· == ((T S D k : Nat) : Int)) with
  | true =>
    rw [if_neg (by decide)]
    obtain ⟨j, hj, e⟩ := (any_range S D k _).mp hb
    dsimp only
    exact h h₄ tk₄ m₄ k Dr vs ls₄ (H₄.sub fun q hq => .tail _ hq) (H₄.get (.head _)) R₄ oDr nDr (by omega) hkW nd ⟨j, hj, e.symm⟩ U₄
  | false =>
    rw [if_pos (by decide)]
    with_reducible refine wpAny_execs_cons ?_
    show wpAny _ _ (exec (.Expr (.Call (.Attribute (.Name _ _) _ _) [.Name _ _] [] _) _) _) _ _ _
    refine wpAny_Expr ?_
    refine MethodCall_ ?_
    refine lloc (s := ⟨h₄, _, _, _, _⟩) ls₄ (H₄.get (.head _)) ?_
    obtain ⟨nn, eDr⟩ := R₄.lst
    refine getMethod_list_append eDr rfl rfl ?_
    dsimp only
    refine callWith_method1 ?_
    refine spliced_more ?_
    refine lloc (s := ⟨h₄, _, _, _, _⟩) ls₄ hr₄ ?_
    refine spliced_none ?_
    refine append_list (s := ⟨h₄, _, _, _, _⟩) R₄.lst (by omega) fun h₅ hp₅ hs₅ => ?_
    (try dsimp only at hs₅); (try dsimp only)
    have nDg : g.get? Dr = none := none_of_ext ls.keep nDr
    have ls₅ := ls₄.turnList R₄.lst.isList nDg fun b o hb e => hs₅.extBut b o hb e
    have U₅ : Up L s.heap h₅ := fun b o hb e => hs₅.extBut b o (fun q => by rw [q, nDr] at e; cases e) (U₄ b o hb e)
    -- rest = rest * 2 % divisor
    with_reducible refine wpAny_execs_cons ?_
    refine lasg G ?_
    with_reducible refine wpAny_BinOp ?_
    with_reducible refine wpAny_BinOp ?_
    refine lloc (s := ⟨h₅, _, _, _, _⟩) ls₅ hr₄ ?_
    with_reducible refine wpAny_Constant_int ?_
    have hT := T_lt hS k
    refine muln (b := 2) (by omega) ?_
    refine cname (c := L + 1) (s := ⟨h₅, _, _, _, _⟩) (by kernel_rfl) ls₅.cd ?_
    refine modn (by omega) ?_
    refine ⟨m₄, _, t, z, p, ls₅, fun h₆ tk₆ ls₆ u₆ => ?_⟩
    (try dsimp only at u₆); (try dsimp only)
    with_reducible refine wpAny_execs_nil ?_
    have nd' : ((List.range (k + 1)).map (T S D)).Nodup := by
      rw [range_map_snoc, List.nodup_append]
      refine ⟨nd, by simp, ?_⟩
      intro a ha b hb' e
      rw [List.mem_singleton] at hb'
      subst e
      obtain ⟨j, hj, e⟩ := List.mem_map.mp ha
      have := (any_range S D k (T S D k)).mpr ⟨j, List.mem_range.mp hj, by rw [e, hb']⟩
      rw [hb] at this; cases this
    refine ⟨h₆, tk₆, W + 1 - (k + 1), rfl, by omega, k + 1, _, vs ++ [.int (T S D k : Nat) tr], _, rfl, ls₆, ?_, if_pos rfl, ⟨u₆.keepPlain oDr hp₅, ?_⟩, nd', U₅.trans u₆⟩
    · exact H₄.keep hlx'
    · rw [range_map_snoc]
      exact intsAre_snoc R₄.its _ _
end
end Mine
namespace Mine
open SetTable (below insertAt leap runEnd turns)
/-- rising -/
noncomputable def Ris (xs : Array Nat) : Prop := xs.toList.Pairwise (· < ·)
theorem Ris.lt {xs : Array Nat} (h : Ris xs) {i k j : Nat} (hik : i < k) (hk : k < xs.size) : xs.getD i j < xs.getD k j := by
  have h1 := List.pairwise_iff_getElem.mp h i k (by simpa using Nat.lt_trans hik hk) (by simpa using hk) hik
  simpa [Array.getD, hk, Nat.lt_trans hik hk] using h1
theorem below_go {xs : Array Nat} {j : Nat} (h : Ris xs) : ∀ (fuel lo hi : Nat), lo ≤ hi → hi ≤ xs.size → hi - lo ≤ fuel → (∀ i, i < lo → xs.getD i j < j) → (∀ i, hi ≤ i → i < xs.size → j ≤ xs.getD i j) →
    below.go xs j fuel lo hi ≤ xs.size ∧ (∀ i, i < below.go xs j fuel lo hi → xs.getD i j < j) ∧ (∀ i, below.go xs j fuel lo hi ≤ i → i < xs.size → j ≤ xs.getD i j)
  | 0, lo, hi, h1, h2, h3, a, b => by
    have : lo = hi := by omega
    subst this
    unfold below.go
    exact ⟨h2, a, b⟩
  | fuel + 1, lo, hi, h1, h2, h3, a, b => by
    unfold below.go
    by_cases hlt : lo < hi
    · rw [if_pos hlt]
      have hm1 : lo ≤ (lo + hi) / 2 := by omega
      have hm2 : (lo + hi) / 2 < hi := by omega
      generalize (lo + hi) / 2 = mid at *
      dsimp only
      by_cases hv : xs.getD mid j < j
      · rw [if_pos hv]
        refine below_go h fuel (mid + 1) hi (by omega) h2 (by omega) (fun i hi' => ?_) b
        by_cases e : i = mid
        · rw [e]; exact hv
        · exact Nat.lt_trans (h.lt (j := j) (show i < mid by omega) (by omega)) hv
      · rw [if_neg hv]
        refine below_go h fuel lo mid hm1 (by omega) (by omega) a fun i hi' hs => ?_
        by_cases e : i = mid
        · rw [e]; omega
        · have := h.lt (j := j) (show mid < i by omega) hs
          omega
    · rw [if_neg hlt]
      have : lo = hi := by omega
      subst this
      exact ⟨h2, a, b⟩
theorem below_spec {xs : Array Nat} (h : Ris xs) (j : Nat) : below xs j ≤ xs.size ∧ (∀ i, i < below xs j → xs.getD i j < j) ∧ (∀ i, below xs j ≤ i → i < xs.size → j ≤ xs.getD i j) := by
  unfold below
  exact below_go h _ _ _ (Nat.zero_le _) (Nat.le_refl _) (by omega) (fun i hi => absurd hi (Nat.not_lt_zero _)) fun i hi hs => by omega
/-- the place behind the first k -/
theorem below_next {xs : Array Nat} (h : Ris xs) {k x : Nat} (hx : xs[k]? = some x) : below xs (x + 1) = k + 1 := by
  obtain ⟨hk, e⟩ := Array.getElem?_eq_some_iff.mp hx
  have eg : ∀ j, xs.getD k j = x := fun j => by simp [Array.getD, hk, e]
  obtain ⟨h1, h2, h3⟩ := below_spec h (x + 1)
  refine Nat.le_antisymm ?_ ?_
  · refine Nat.not_lt.mp fun hlt => ?_
    have hlt' : k + 1 < xs.size := by omega
    have a := h2 (k + 1) hlt
    have b := h.lt (j := x + 1) (show k < k + 1 by omega) hlt'
    rw [eg] at b; omega
  · refine Nat.not_lt.mp fun hlt => ?_
    have := h3 k (by omega) hk
    rw [eg] at this; omega
theorem below_zero {xs : Array Nat} (h : Ris xs) : below xs 0 = 0 := by
  obtain ⟨h1, h2, h3⟩ := below_spec h 0
  refine Nat.eq_zero_of_not_pos fun hp => ?_
  have := h2 0 hp
  omega
/-- j stands nowhere -/
theorem not_mem_of_below {xs : Array Nat} (h : Ris xs) {j : Nat} (e : xs[below xs j]? ≠ some j) : j ∉ xs.toList := fun hm => by
  obtain ⟨i, hi, ei⟩ := List.mem_iff_getElem.mp hm
  have hi' : i < xs.size := by simpa using hi
  have ei' : xs.getD i j = j := by simpa [Array.getD, hi'] using ei
  obtain ⟨h1, h2, h3⟩ := below_spec h j
  have a : below xs j ≤ i := Nat.not_lt.mp fun hlt => by have := h2 i hlt; omega
  have b : i = below xs j := by
    refine Nat.le_antisymm (Nat.not_lt.mp fun hlt => ?_) a
    have c := h3 (below xs j) (Nat.le_refl _) (by omega)
    have d := h.lt (j := j) hlt hi'
    omega
  apply e
  rw [← b, Array.getElem?_eq_getElem hi']
  congr 1
theorem Ris.put {xs : Array Nat} (h : Ris xs) {j : Nat} (hj : j ∉ xs.toList) : Ris (insertAt xs (below xs j) j) := by
  obtain ⟨h1, h2, h3⟩ := below_spec h j
  unfold Ris at h ⊢
  rw [SetTable.toList_insertAt]
  generalize hp : below xs j = p at *
  have hs := h
  rw [← List.take_append_drop p xs.toList, List.pairwise_append] at hs
  obtain ⟨a, b, c⟩ := hs
  have at_ : ∀ i (hi : i < xs.toList.length), xs.getD i j = xs.toList[i] := fun i hi => by
    have : i < xs.size := by simpa using hi
    simp [Array.getD, this]
  rw [List.pairwise_append, List.pairwise_cons]
  refine ⟨a, ⟨fun y hy => ?_, b⟩, fun x hx y hy => ?_⟩
  · obtain ⟨i, hi, e⟩ := List.mem_iff_getElem.mp hy
    rw [List.getElem_drop] at e
    have hi' : p + i < xs.toList.length := by simp at hi; simp; omega
    have := h3 (p + i) (by omega) (by simpa using hi')
    rw [at_ _ hi', e] at this
    have : y ≠ j := fun q => hj (q ▸ e ▸ List.getElem_mem hi')
    omega
  · have hxj : x < j := by
      obtain ⟨i, hi, e⟩ := List.mem_iff_getElem.mp hx
      rw [List.getElem_take] at e
      have hi' : i < xs.toList.length := by simp at hi; simp; omega
      have := h2 i (by simp at hi; omega)
      rwa [at_ _ hi', e] at this
    rcases List.mem_cons.mp hy with rfl | hy
    · exact hxj
    · exact c x hx y hy
/-- where the search jumps -/
noncomputable def st (mask h : Nat) : Nat → Nat × Nat
  | 0 => (h % (mask + 1), h)
  | k + 1 => leap mask (st mask h k).1 (st mask h k).2
theorem st_perturb (mask h k : Nat) : (st mask h k).2 = h / 32 ^ k := by
  induction k with
  | zero => simp [st]
  | succ k ih => rw [st, leap, ih, Nat.div_div_eq_div_mul, Nat.pow_succ]
theorem st_le (mask h k : Nat) : (st mask h k).1 ≤ mask := by
  cases k with
  | zero => exact Nat.le_of_lt_succ (Nat.mod_lt _ (Nat.succ_pos _))
  | succ k => exact Nat.le_of_lt_succ (Nat.mod_lt _ (Nat.succ_pos _))
noncomputable def hop (mask : Nat) : Nat → Nat → Nat
  | 0, x => x
  | k + 1, x => hop mask k ((x * 5 + 1) % (mask + 1))
theorem st_hop {mask h : Nat} (hh : h < 2 ^ 64) (k q : Nat) : (st mask h (13 + q + k)).1 = hop mask k (st mask h (13 + q)).1 := by
  induction k generalizing q with
  | zero => rfl
  | succ k ih =>
    have e : 13 + q + (k + 1) = 13 + (q + 1) + k := by omega
    rw [e, ih (q + 1), hop]
    congr 1
    rw [show 13 + (q + 1) = (13 + q) + 1 by omega, st, leap, st_perturb]
    have : h / 32 ^ (13 + q) = 0 := by
      refine Nat.div_eq_of_lt (Nat.lt_of_lt_of_le hh ?_)
      calc 2 ^ 64 ≤ 32 ^ 13 := by decide
        _ ≤ 32 ^ (13 + q) := Nat.pow_le_pow_right (by decide) (by omega)
    dsimp only
    rw [this]
theorem hop7 : ((List.range 8).all fun x => (List.range 8).all fun j => (List.range 8).any fun k => hop 7 k x == j) = true := by decide +kernel
theorem hop31 : ((List.range 32).all fun x => (List.range 32).all fun j => (List.range 32).any fun k => hop 31 k x == j) = true := by decide +kernel
theorem hop_all {mask : Nat} (hm : mask = 7 ∨ mask = 31) {x j : Nat} (hx : x ≤ mask) (hj : j ≤ mask) : ∃ k, k ≤ mask ∧ hop mask k x = j := by
  rcases hm with rfl | rfl
  · have h := List.any_eq_true.mp (List.all_eq_true.mp (List.all_eq_true.mp hop7 x (List.mem_range.mpr (by omega))) j (List.mem_range.mpr (by omega)))
    obtain ⟨k, hk, e⟩ := h
    exact ⟨k, by have := List.mem_range.mp hk; omega, by simpa using e⟩
  · have h := List.any_eq_true.mp (List.all_eq_true.mp (List.all_eq_true.mp hop31 x (List.mem_range.mpr (by omega))) j (List.mem_range.mpr (by omega)))
    obtain ⟨k, hk, e⟩ := h
    exact ⟨k, by have := List.mem_range.mp hk; omega, by simpa using e⟩
/-- the search comes by every slot -/
theorem st_all {mask h : Nat} (hm : mask = 7 ∨ mask = 31) (hh : h < 2 ^ 64) {j : Nat} (hj : j ≤ mask) : ∃ k, k < turns mask ∧ (st mask h k).1 = j := by
  obtain ⟨k, hk, e⟩ := hop_all hm (st_le mask h 13) hj
  refine ⟨13 + 0 + k, by unfold turns; omega, ?_⟩
  rw [st_hop hh k 0]; exact e
theorem le_runEnd (mask i : Nat) : i ≤ runEnd mask i ∧ runEnd mask i - i ≤ 9 := by
  unfold runEnd; split <;> omega

/-- a table that is as it was laid -/
structure Good (t : SetTable) (n : Nat) : Prop where
  size : t.place.size = n
  dum : t.dummies = #[]
  ris : Ris t.place
  mask : (t.mask = 7 ∧ n ≤ 4) ∨ (t.mask = 31 ∧ n ≤ 18)
  plain : t.plain = true
section
variable {t : SetTable} {n : Nat}
theorem live_ne (i : Nat) : SetTable.Slot.live i ≠ .empty := fun q => by cases q
theorem has_nil (j : Nat) : SetTable.has #[] j = false := by simp [SetTable.has]
theorem slot_of {t : SetTable} (hd : t.dummies = #[]) (hr : Ris t.place) (j : Nat) : (t.slot j = .empty ∧ j ∉ t.place.toList) ∨ ∃ i, t.slot j = .live i ∧ j ∈ t.place.toList := by
  unfold SetTable.slot
  dsimp only
  by_cases h : t.place[below t.place j]? = some j
  · right
    refine ⟨below t.place j, by rw [if_pos (by rw [h]; simp)], ?_⟩
    rw [← Array.getElem?_toList] at h
    exact List.mem_of_getElem? h
  · left
    refine ⟨?_, not_mem_of_below hr h⟩
    rw [if_neg (by simpa using h), hd, has_nil, if_neg (by decide)]
/-- the next search start -/
noncomputable def jump (t : SetTable) (p : SetTable.Probe) : SetTable.Probe :=
  { j := (leap t.mask p.i p.perturb).1, more := runEnd t.mask (leap t.mask p.i p.perturb).1 - (leap t.mask p.i p.perturb).1, i := (leap t.mask p.i p.perturb).1, perturb := (leap t.mask p.i p.perturb).2, dummy := p.dummy }
theorem go_run {t : SetTable} (hd : t.dummies = #[]) (hr : Ris t.place) (h : Int) : ∀ (more fuel : Nat) (p : SetTable.Probe), p.more = more → more < fuel → p.dummy = none →
    (∃ j, SetTable.probe.go t (fun _ => h + 1) h fuel p = some (.empty j none) ∧ t.slot j = .empty) ∨ (t.slot p.j ≠ .empty ∧ SetTable.probe.go t (fun _ => h + 1) h fuel p = SetTable.probe.go t (fun _ => h + 1) h (fuel - more - 1) (jump t p)) := by
  intro more
  induction more with
  | zero =>
    intro fuel p hp hf hdm
    obtain ⟨f, rfl⟩ : ∃ f, fuel = f + 1 := ⟨fuel - 1, by omega⟩
    rcases slot_of hd hr p.j with ⟨e, _⟩ | ⟨i, e, _⟩
    · left; exact ⟨p.j, by unfold SetTable.probe.go; rw [e, hdm], e⟩
    · right
      refine ⟨(by rw [e]; exact live_ne i), ?_⟩
      rw [show f + 1 - 0 - 1 = f by omega]
      conv => lhs; unfold SetTable.probe.go
      rw [e]
      dsimp only
      rw [if_neg (by simp; omega)]
      congr 1
      unfold SetTable.advance
      rw [if_neg (by omega)]
      rfl
  | succ more ih =>
    intro fuel p hp hf hdm
    obtain ⟨f, rfl⟩ : ∃ f, fuel = f + 1 := ⟨fuel - 1, by omega⟩
    rcases slot_of hd hr p.j with ⟨e, _⟩ | ⟨i, e, _⟩
    · left; exact ⟨p.j, by unfold SetTable.probe.go; rw [e, hdm], e⟩
    · have ea : t.advance p = { p with j := p.j + 1, more := p.more - 1 } := by
        unfold SetTable.advance
        rw [if_pos (by omega)]
      have eg : SetTable.probe.go t (fun _ => h + 1) h (f + 1) p = SetTable.probe.go t (fun _ => h + 1) h f { p with j := p.j + 1, more := p.more - 1 } := by
        conv => lhs; unfold SetTable.probe.go
        rw [e]
        dsimp only
        rw [if_neg (by simp; omega), ea]
      rw [eg]
      rcases ih f { p with j := p.j + 1, more := p.more - 1 } (by simp; omega) (by omega) hdm with h1 | ⟨_, h2⟩
      · exact .inl h1
      · right
        refine ⟨(by rw [e]; exact live_ne i), ?_⟩
        rw [h2, show f + 1 - (more + 1) - 1 = f - more - 1 by omega]
        rfl
/-- the search from its k-th start -/
noncomputable def at_ (t : SetTable) (h k : Nat) : SetTable.Probe := { j := (st t.mask h k).1, more := runEnd t.mask (st t.mask h k).1 - (st t.mask h k).1, i := (st t.mask h k).1, perturb := (st t.mask h k).2, dummy := none }
theorem go_all {t : SetTable} (hd : t.dummies = #[]) (hr : Ris t.place) (h : Int) (b : Nat) : ∀ (r k fuel : Nat), 10 * r ≤ fuel →
    (∃ j, SetTable.probe.go t (fun _ => h + 1) h fuel (at_ t b k) = some (.empty j none) ∧ t.slot j = .empty) ∨ ∀ q, q < r → t.slot (st t.mask b (k + q)).1 ≠ .empty := by
  intro r
  induction r with
  | zero => intro k fuel _; right; intro q hq; omega
  | succ r ih =>
    intro k fuel hf
    have hm := (le_runEnd t.mask (st t.mask b k).1).2
    rcases go_run hd hr h (at_ t b k).more fuel (at_ t b k) rfl (by show (runEnd t.mask (st t.mask b k).1 - (st t.mask b k).1) < fuel; omega) rfl with h1 | ⟨h2, h3⟩
    · exact .inl h1
    · have ej : jump t (at_ t b k) = at_ t b (k + 1) := rfl
      rw [h3, ej]
      rcases ih (k + 1) (fuel - (at_ t b k).more - 1) (by show 10 * r ≤ fuel - (runEnd t.mask (st t.mask b k).1 - (st t.mask b k).1) - 1; omega) with h4 | h4
      · exact .inl h4
      · right
        intro q hq
        rcases q with _ | q
        · exact h2
        · have := h4 q (by omega)
          rwa [show k + 1 + q = k + (q + 1) by omega] at this
theorem bits_lt (h : Int) : SetTable.bits h < 2 ^ 64 := by
  unfold SetTable.bits
  have := Int.emod_lt_of_pos h (show (0 : Int) < 2 ^ 64 by decide)
  have := Int.emod_nonneg h (show (2 ^ 64 : Int) ≠ 0 by decide)
  omega
theorem Good.mask' (G : Good t n) : t.mask = 7 ∨ t.mask = 31 := G.mask.imp (·.1) (·.1)
theorem Good.lt (G : Good t n) : n ≤ t.mask := by rcases G.mask with ⟨a, b⟩ | ⟨a, b⟩ <;> omega
theorem Good.free (G : Good t n) (h : Int) : ∃ j, t.freeSlot h = some (j, false) ∧ j ∉ t.place.toList := by
  have key := go_all G.dum G.ris h (SetTable.bits h) (turns t.mask) 0 (10 * turns t.mask) (Nat.le_refl _)
  have e0 : t.probeStart h = at_ t (SetTable.bits h) 0 := rfl
  rcases key with ⟨j, e, es⟩ | hall
  · refine ⟨j, ?_, ?_⟩
    · unfold SetTable.freeSlot SetTable.probe
      rw [e0, e]; rfl
    · rcases slot_of G.dum G.ris j with ⟨_, hn⟩ | ⟨i, e2, _⟩
      · exact hn
      · rw [es] at e2; cases e2
  · exfalso
    have hmem : ∀ j, j ≤ t.mask → j ∈ t.place.toList := fun j hj => by
      obtain ⟨k, hk, e⟩ := st_all G.mask' (bits_lt h) hj
      have := hall k hk
      rw [Nat.zero_add, e] at this
      rcases slot_of G.dum G.ris j with ⟨e2, _⟩ | ⟨i, _, hm⟩
      · exact absurd e2 this
      · exact hm
    have := len_le_of_sub (l := List.range (t.mask + 1)) (m := t.place.toList) List.nodup_range fun x hx => hmem x (by have := List.mem_range.mp hx; omega)
    rw [List.length_range, Array.length_toList, G.size] at this
    have := G.lt
    omega
end
end Mine
namespace Mine
open SetTable (below insertAt leap runEnd turns)
section
variable {t : SetTable} {n : Nat}
/-- one more -/
theorem Good.layNew {es : Array (Int × Value)} (G : Good t es.size) (hn : es.size ≤ 11) (h : Int) (x : Value) :
    ∃ es' t', PySem.layNew t es h x = (es', t', false, false) ∧ es'.toList.Perm (es.toList ++ [(h, x)]) ∧ es'.size = es.size + 1 ∧ t'.place.size = es.size + 1 ∧ t'.dummies = #[] ∧ Ris t'.place ∧ t'.mask = t.mask ∧ t'.plain = true ∧ t'.led = t.led := by
  obtain ⟨j, e, hj⟩ := G.free h
  have hp := PySem.layNew_perm t es h x
  have hsz : (insertAt t.place (below t.place j) j).size = es.size + 1 := by
    rw [← Array.length_toList, (SetTable.insertAt_perm _ _ _).length_eq, Array.length_toList, Array.size_push, G.size]
  have hes : (insertAt es (below t.place j) (h, x)).size = es.size + 1 := by
    rw [← Array.length_toList, (SetTable.insertAt_perm _ _ _).length_eq, Array.length_toList, Array.size_push]
  have hput : t.put j = ({ t with place := insertAt t.place (below t.place j) j, dummies := #[] }, below t.place j) := by
    unfold SetTable.put
    rw [G.dum, has_nil, if_neg (by decide)]
  have hfit : ({ t with place := insertAt t.place (below t.place j) j, dummies := #[] } : SetTable).fits (es.size + 1) = true := by
    unfold SetTable.fits SetTable.fill
    simp only [hsz, Bool.and_eq_true, beq_self_eq_true, true_and, decide_eq_true_eq]
    have : (#[] : Array Nat).size = 0 := rfl
    rw [this]
    rcases G.mask with ⟨a, b⟩ | ⟨a, b⟩ <;> omega
  have key : PySem.layNew t es h x = (insertAt es (below t.place j) (h, x), { t with place := insertAt t.place (below t.place j) j, dummies := #[] }, false, false) := by
    unfold PySem.layNew
    rw [e]
    dsimp only
    rw [hput]
    dsimp only
    rw [hes]
    unfold SetTable.orStandIn
    rw [hfit]
    rfl
  rw [key] at hp
  rw [Array.toList_push] at hp
  exact ⟨_, _, key, hp, hes, hsz, rfl, G.ris.put hj, rfl, G.plain, rfl⟩
end
/-- who stands where -/
structure Own (mask k : Nat) (o : Array (Option Nat)) : Prop where
  size : o.size = mask + 1
  lt : ∀ (j m : Nat), o[j]? = some (some m) → m < k
  ex : ∀ m, m < k → ∃ j : Nat, o[j]? = some (some m)
  one : ∀ (j j' m : Nat), o[j]? = some (some m) → o[j']? = some (some m) → j = j'
theorem Own.zero (mask : Nat) : Own mask 0 (Array.replicate (mask + 1) none) := by
  refine ⟨by simp, fun j m h => ?_, fun m h => absurd h (Nat.not_lt_zero _), fun j j' m h => ?_⟩
  · rw [Array.getElem?_replicate] at h; split at h <;> simp at h
  · rw [Array.getElem?_replicate] at h; split at h <;> simp at h
theorem free_none {mask : Nat} (o : Array (Option Nat)) (b : Nat) : ∀ (fuel k : Nat), SetTable.layClean.free mask o fuel (st mask b k).1 (st mask b k).2 = none → ∀ q, q < fuel → (o.getD (st mask b (k + q)).1 (some 0)).isNone = false := by
  intro fuel
  induction fuel with
  | zero => intro k _ q hq; omega
  | succ fuel ih =>
    intro k h q hq
    unfold SetTable.layClean.free at h
    cases hf : (List.range (runEnd mask (st mask b k).1 + 1 - (st mask b k).1)).find? (fun i => (o.getD ((st mask b k).1 + i) (some 0)).isNone) with
    | some i => rw [hf] at h; cases h
    | none =>
      rw [hf] at h
      rcases q with _ | q
      · have h0 : ¬ (o.getD ((st mask b k).1 + 0) (some 0)).isNone = true := (List.find?_eq_none.mp hf) 0 (List.mem_range.mpr (by have := (le_runEnd mask (st mask b k).1).1; omega))
        exact Bool.eq_false_iff.mpr h0
      · have := ih (k + 1) h q (by omega)
        rwa [show k + 1 + q = k + (q + 1) by omega] at this
theorem free_some {mask : Nat} {o : Array (Option Nat)} : ∀ (fuel i p j : Nat), SetTable.layClean.free mask o fuel i p = some j → o[j]? = some none := by
  intro fuel
  induction fuel with
  | zero => intro i p j h; cases h
  | succ fuel ih =>
    intro i p j h
    unfold SetTable.layClean.free at h
    cases hf : (List.range (runEnd mask i + 1 - i)).find? (fun k => (o.getD (i + k) (some 0)).isNone) with
    | some k =>
      rw [hf] at h
      dsimp only at h
      have := List.find?_some hf
      cases h
      rw [Array.getD_eq_getD_getElem?] at this
      cases hg : o[i + k]? with
      | none => rw [hg] at this; simp at this
      | some v =>
        rw [hg] at this
        cases v with
        | none => rfl
        | some m => simp at this
    | none =>
      rw [hf] at h
      exact ih _ _ j h
theorem Own.free {mask k : Nat} {o : Array (Option Nat)} (hm : mask = 7 ∨ mask = 31) (O : Own mask k o) (hk : k ≤ mask) {b : Nat} (hb : b < 2 ^ 64) : ∃ j, SetTable.layClean.free mask o (turns mask) (b % (mask + 1)) b = some j ∧ o[j]? = some none := by
  cases hf : SetTable.layClean.free mask o (turns mask) (b % (mask + 1)) b with
  | some j => exact ⟨j, rfl, free_some _ _ _ _ hf⟩
  | none =>
    exfalso
    have h := free_none o b (turns mask) 0 hf
    have all : ∀ j : Nat, j ≤ mask → ∃ m, o[j]? = some (some m) := fun j hj => by
      obtain ⟨q, hq, e⟩ := st_all hm hb hj
      have := h q hq
      rw [Nat.zero_add, e, Array.getD_eq_getD_getElem?, Array.getElem?_eq_getElem (by rw [O.size]; omega)] at this
      rw [Array.getElem?_eq_getElem (by rw [O.size]; omega)]
      cases hv : o[j]'(by rw [O.size]; omega) with
      | none => rw [hv] at this; simp at this
      | some m => exact ⟨m, rfl⟩
    have nd : ((List.range (mask + 1)).map fun j => (o.getD j none).getD 0).Nodup := by
      rw [List.Nodup, List.pairwise_map]
      refine List.Pairwise.imp_of_mem ?_ (List.nodup_range (n := mask + 1))
      intro a c ha hc hne e
      have ha' := List.mem_range.mp ha
      have hc' := List.mem_range.mp hc
      obtain ⟨m, em⟩ := all a (by omega)
      obtain ⟨m', em'⟩ := all c (by omega)
      rw [Array.getD_eq_getD_getElem?, Array.getD_eq_getD_getElem?, em, em'] at e
      simp at e
      subst e
      exact hne (O.one _ _ _ em em')
    have := len_le_of_sub (m := List.range k) nd fun x hx => by
      obtain ⟨j, hj, e⟩ := List.mem_map.mp hx
      obtain ⟨m, em⟩ := all j (by have := List.mem_range.mp hj; omega)
      rw [Array.getD_eq_getD_getElem?, em] at e
      simp at e
      subst e
      exact List.mem_range.mpr (O.lt _ _ em)
    simp at this
    omega
theorem Own.step {mask k j : Nat} {o : Array (Option Nat)} (O : Own mask k o) (hj : o[j]? = some none) : Own mask (k + 1) (o.setIfInBounds j (some k)) := by
  have hjs : j < o.size := (Array.getElem?_eq_some_iff.mp hj).1
  have get : ∀ i : Nat, (o.setIfInBounds j (some k))[i]? = if j = i then some (some k) else o[i]? := fun i => by
    rw [Array.getElem?_setIfInBounds]
    split
    · rename_i e; subst e; first | rfl | rw [if_pos hjs]
    · rfl
  refine ⟨by rw [Array.size_setIfInBounds]; exact O.size, fun i m h => ?_, fun m h => ?_, fun i i' m h h' => ?_⟩
  · rw [get] at h
    split at h
    · cases h; omega
    · have := O.lt i m h; omega
  · by_cases e : m = k
    · exact ⟨j, by rw [get, if_pos rfl, e]⟩
    · obtain ⟨i, ei⟩ := O.ex m (by omega)
      refine ⟨i, ?_⟩
      rw [get, if_neg (fun q => ?_)]
      · exact ei
      · rw [← q, hj] at ei; cases ei
  · rw [get] at h h'
    split at h
    · rename_i e1
      cases h
      split at h'
      · rename_i e2; rw [← e1, ← e2]
      · have := O.lt _ _ h'; omega
    · split at h'
      · cases h'
        have := O.lt _ _ h; omega
      · exact O.one _ _ _ h h'
theorem layClean_own {mask : Nat} (hm : mask = 7 ∨ mask = 31) (hs : Array Int) (hn : hs.size ≤ mask) : ∃ o, SetTable.layClean mask hs = some o ∧ Own mask hs.size o := by
  have key : ∀ (l : List Int) (k : Nat) (o : Array (Option Nat)), Own mask k o → k + l.length ≤ mask + 1 → ∃ o', l.foldl (fun acc h => do
        let (owner, k) ← acc
        let j ← SetTable.layClean.free mask owner (turns mask) (SetTable.bits h % (mask + 1)) (SetTable.bits h)
        pure (owner.setIfInBounds j (some k), k + 1)) (some (o, k)) = some (o', k + l.length) ∧ Own mask (k + l.length) o' := by
    intro l
    induction l with
    | nil => intro k o O _; exact ⟨o, rfl, O⟩
    | cons h l ih =>
      intro k o O hk
      rw [List.length_cons] at hk
      obtain ⟨j, ej, hj⟩ := O.free hm (by omega) (bits_lt h)
      obtain ⟨o', e', O'⟩ := ih (k + 1) _ (O.step hj) (by omega)
      refine ⟨o', ?_, by rw [List.length_cons, show k + (l.length + 1) = k + 1 + l.length by omega]; exact O'⟩
      rw [List.foldl_cons, List.length_cons, show k + (l.length + 1) = k + 1 + l.length by omega, ← e']
      congr 1
      show (SetTable.layClean.free mask o (turns mask) (SetTable.bits h % (mask + 1)) (SetTable.bits h)).bind _ = _
      rw [ej]; rfl
  obtain ⟨o, e, O⟩ := key hs.toList 0 _ (Own.zero mask) (by rw [Array.length_toList]; omega)
  rw [Nat.zero_add, Array.length_toList] at O
  refine ⟨o, ?_, O⟩
  unfold SetTable.layClean
  rw [← Array.foldl_toList]
  exact congrArg (Option.map (·.1)) e
theorem Own.live {mask n : Nat} {o : Array (Option Nat)} (O : Own mask n o) :
    (((List.range (mask + 1)).filterMap fun j => (o.getD j none).map (j, ·)).map (·.1)).Pairwise (· < ·) ∧ (((List.range (mask + 1)).filterMap fun j => (o.getD j none).map (j, ·)).map (·.2)).Perm (List.range n) := by
  have get : ∀ {j m : Nat}, o.getD j none = some m → o[j]? = some (some m) := fun {j m} h => by
    rw [Array.getD_eq_getD_getElem?] at h
    cases hg : o[j]? with
    | none => rw [hg] at h; cases h
    | some v => rw [hg] at h; simp at h; rw [h]
  constructor
  · rw [List.pairwise_map, List.pairwise_filterMap]
    refine List.pairwise_lt_range.imp fun {a b} hlt => ?_
    intro p hp p' hp'
    obtain ⟨m, _, rfl⟩ := Option.map_eq_some_iff.mp hp
    obtain ⟨m', _, rfl⟩ := Option.map_eq_some_iff.mp hp'
    exact hlt
  · rw [List.perm_ext_iff_of_nodup ?_ List.nodup_range]
    · intro m
      simp only [List.mem_map, List.mem_filterMap, List.mem_range]
      constructor
      · rintro ⟨p, ⟨j, hj, e⟩, rfl⟩
        obtain ⟨m, em, rfl⟩ := Option.map_eq_some_iff.mp e
        exact O.lt _ _ (get em)
      · intro hm
        obtain ⟨j, ej⟩ := O.ex m hm
        have hj : j < o.size := (Array.getElem?_eq_some_iff.mp ej).1
        refine ⟨(j, m), ⟨j, by rw [O.size] at hj; exact hj, ?_⟩, rfl⟩
        rw [Array.getD_eq_getD_getElem?, ej]; rfl
    · rw [List.Nodup, List.pairwise_map, List.pairwise_filterMap]
      refine (List.nodup_range (n := mask + 1)).imp fun {a b} hne => ?_
      intro p hp p' hp' e
      obtain ⟨m, em, rfl⟩ := Option.map_eq_some_iff.mp hp
      obtain ⟨m', em', rfl⟩ := Option.map_eq_some_iff.mp hp'
      dsimp only at e
      subst e
      exact hne (O.one _ _ _ (get em) (get em'))
/-- the table laid anew -/
theorem relay_good {t : SetTable} {es : Array (Int × Value)} (h5 : es.size ≤ 18) (hp : t.plain = true) : ∃ es' t', relayAll t es 20 = (es', t', false) ∧ es'.toList.Perm es.toList ∧ Good t' es'.size ∧ t'.led = t.led := by
  obtain ⟨o, eo, O⟩ := layClean_own (mask := 31) (.inr rfl) (es.map (·.1)) (by rw [Array.size_map]; omega)
  rw [Array.size_map] at O
  obtain ⟨l1, l2⟩ := O.live
  have hperm := relayAll_perm t es 20
  have e32 : SetTable.sizeAbove 20 - 1 = 31 := by decide
  generalize hlive : ((List.range (31 + 1)).filterMap fun j => (o.getD j none).map (j, ·)) = live at l1 l2
  have hrel : t.relaid (es.map (·.1)) 20 = some ({ mask := 31, place := (live.map (·.1)).toArray, dummies := #[], finger := t.finger, led := t.led, moves := t.movedTo 31, plain := t.plain }, (live.map (·.2)).toArray) := by
    unfold SetTable.relaid
    rw [e32]
    unfold SetTable.laid
    rw [eo]
    show some _ = _
    rw [← hlive]
  have hll : live.length = es.size := by have := l2.length_eq; simpa using this
  have hcov : coversAll (live.map (·.2)).toArray es.size = true := by
    unfold coversAll
    exact List.isPerm_iff.mpr l2
  have hes : ((live.map (·.2)).toArray.filterMap (es[·]?)).size = es.size := by
    rw [← Array.length_toList, Array.toList_filterMap, (l2.filterMap _).length_eq, filterMap_getElem?_range, Array.length_toList]
  have hfit : ({ mask := 31, place := (live.map (·.1)).toArray, dummies := #[], finger := t.finger, led := t.led, moves := t.movedTo 31, plain := t.plain } : SetTable).fits es.size = true := by
    unfold SetTable.fits SetTable.fill
    simp only [List.size_toArray, List.length_map, hll, beq_self_eq_true, Bool.true_and, decide_eq_true_eq]
    have : ([] : List Nat).length = 0 := rfl
    rw [this]; omega
  have key : relayAll t es 20 = ((live.map (·.2)).toArray.filterMap (es[·]?), { mask := 31, place := (live.map (·.1)).toArray, dummies := #[], finger := t.finger, led := t.led, moves := t.movedTo 31, plain := t.plain }, false) := by
    unfold relayAll
    rw [hrel]
    dsimp only
    rw [hes, hcov, hfit]
    rfl
  rw [key] at hperm
  refine ⟨_, _, key, hperm, ⟨?_, rfl, ?_, .inr ⟨rfl, ?_⟩, hp⟩, rfl⟩
  · rw [hes]; simp [hll]
  · unfold Ris; rw [List.toList_toArray]; exact l1
  · rw [hes]; exact h5
end Mine
namespace Mine
noncomputable def byText (w : World) : Bool := w.params.followText "set-order"
/-- an int with its hash -/
noncomputable def EOk (e : Int × Value) : Prop := ∃ n t, e = (hashInt n, .int n t)
noncomputable def keyOf (e : Int × Value) : Int := match e.2 with
  | .int n _ => n
  | _ => 0
structure SetIs (w : World) (h : Heap) (a : Addr) (o : Obj) (es : Array (Int × Value)) (ep : Nat) (t : SetTable) : Prop where
  get : h.get? a = some o
  exact : o.ExactSet
  data : o.data = .set es ep t
  good : Good t es.size
  led : byText w = false → t.led = true
  ok : ∀ e ∈ es.toList, EOk e
  nd : (es.toList.map keyOf).Nodup
noncomputable def SetG (w : World) (h : Heap) (a : Addr) (ns : List Int) : Prop := ∃ o es ep t, SetIs w h a o es ep t ∧ ∀ x, x ∈ es.toList.map keyOf ↔ x ∈ ns
theorem Good.fits {t : SetTable} {n : Nat} (G : Good t n) : t.fits n = true := by
  have := G.lt
  unfold SetTable.fits SetTable.fill
  rw [G.size, G.dum]
  simp; omega
section
variable {prog : Program} {w : World} {A : Around} {E : Value → Shared → Prop} {s : Shared} {a : Addr} {o : Obj} {es : Array (Int × Value)} {ep : Nat} {t : SetTable}
theorem SetIs.elems {h : Heap} (S : SetIs w h a o es ep t) : ElemsOf (intKind prog w) es.toList := fun e he => by
  obtain ⟨n, u, rfl⟩ := S.ok e he
  exact ⟨⟨n, intKind_is _ _ _ _, rfl⟩, rfl⟩
theorem SetIs.size_le {h : Heap} {ns : List Int} (S : SetIs w h a o es ep t) (hm : ∀ x, x ∈ es.toList.map keyOf ↔ x ∈ ns) : es.size ≤ ns.length := by
  have := len_le_of_sub S.nd fun x hx => (hm x).mp hx
  simpa using this
theorem SetG.at {h h' : Heap} {ns : List Int} (S : SetG w h a ns) (k : ∀ o, h.get? a = some o → h'.get? a = some o) : SetG w h' a ns := by
  obtain ⟨o, es, ep, t, S, hm⟩ := S
  exact ⟨o, es, ep, t, ⟨k _ S.get, S.exact, S.data, S.good, S.led, S.ok, S.nd⟩, hm⟩
theorem store_is {h : Heap} (ho : h.get? a = some o) (hex : o.ExactSet) (hd : o.data = .set es ep t) {es' : Array (Int × Value)} {t' : SetTable} (G : Good t' es'.size) (hled : byText w = false → t'.led = true) (hok : ∀ e ∈ es'.toList, EOk e) (hnd : (es'.toList.map keyOf).Nodup) :
    SetIs w (h.update a (Obj.putSet es' t')) a { o with data := .set es' (ep + 1) t' } es' (ep + 1) t' := by
  refine ⟨?_, hex, rfl, G, hled, hok, hnd⟩
  have := Heap.get?_update_self (Obj.putSet es' t') ho (by rw [putSet_of es' t' hd]; rfl)
  rw [putSet_of es' t' hd] at this; exact this
theorem find_key {x : Int} : (∀ e ∈ es.toList, EOk e) → (es.toList.findIdx? (fun e => (intKind prog w).is x e.2) = none ↔ x ∉ es.toList.map keyOf) := fun hok => by
  rw [List.findIdx?_eq_none_iff]
  have key : ∀ e ∈ es.toList, ((intKind prog w).is x e.2 = true ↔ keyOf e = x) := fun e he => by
    obtain ⟨n, u, rfl⟩ := hok e he
    show Value.isInt x (.int n u) = true ↔ n = x
    simp [Value.isInt]
  constructor
  · intro h hm
    obtain ⟨e, he, q⟩ := List.mem_map.mp hm
    have := (key e he).mpr q
    rw [h e he] at this; cases this
  · intro h e he
    refine Bool.eq_false_iff.mpr fun q => h (List.mem_map.mpr ⟨e, he, (key e he).mp q⟩)
set_option maxHeartbeats 1000000 in
theorem add_good {ns : List Int} {x : Int} {u : Tok} {Q : Bool → Shared → Prop} (hS : SetG w s.heap a ns) (hns : ns.length ≤ 11)
    (h : ∀ b h', Heap.SameBut a s.heap h' → SetG w h' a (ns ++ [x]) → Q b { s with heap := h' }) :
    wpAny (model prog w) A (setAddHashed a (.int x u) (hashInt x)) Q E s := by
  obtain ⟨o, es, ep, t, S, hm⟩ := hS
  have hsz := S.size_le hm
  have hel := S.elems (prog := prog)
  have hb : es.size < scanBound := by unfold scanBound; omega
  have hf := S.good.fits
  unfold setAddHashed setAddHashedIn
  refine wpAny_holding (wpAny_bind (wpAny_setState_of S.get S.data hf ?_))
  dsimp only
  rw [byScan_of (x := .int x u) rfl hb hel]
  simp only [↓reduceIte]
  unfold setAddByScan
  refine wpAny_bind ?_
  refine wpAny_bind (wpAny_rule ?_)
  refine wpAny_bind (wpAny_setScan_of (knd := intKind prog w) (k := x) (intKind_is _ _ _ _) S.get S.data hf hel ?_)
  have hfk := find_key (prog := prog) (w := w) (x := x) S.ok
  cases hr : es.toList.findIdx? (fun e => (intKind prog w).is x e.2) with
  | some j =>
    dsimp only
    refine wpAny_pure (wpAny_pure ?_)
    have hx : x ∈ es.toList.map keyOf := by
      refine Classical.byContradiction fun q => ?_
      rw [hfk.mpr q] at hr; cases hr
    refine h false s.heap (Heap.SameBut.refl a s.heap) ⟨o, es, ep, t, S, fun y => ?_⟩
    rw [List.mem_append, List.mem_singleton, ← hm]
    exact ⟨.inl, fun q => q.elim id fun e => e ▸ hx⟩
  | none =>
    dsimp only
    have hx := hfk.mp hr
    obtain ⟨es1, t1, hlay, hperm, hes1, hpl1, hd1, hr1, hm1, hp1, hl1⟩ := S.good.layNew (by omega) (hashInt x) (.int x u)
    rw [hlay]
    dsimp only
    refine wpAny_bind (wpAny_pure ?_)
    rw [hp1, if_pos rfl, hashByValue_scannable 8 (x := .int x u) rfl]
    refine wpAny_bind (wpAny_pure ?_)
    have hpk : plainKind (.int x u) = true := rfl
    rw [hpk]
    simp only [↓reduceIte]
    have hok1 : ∀ e ∈ es1.toList, EOk e := fun e he => by
      rcases List.mem_append.mp (hperm.mem_iff.mp he) with q | q
      · exact S.ok e q
      · rw [List.mem_singleton.mp q]; exact ⟨x, u, rfl⟩
    have hkp : (es1.toList.map keyOf).Perm (es.toList.map keyOf ++ [x]) := by
      have := hperm.map keyOf
      rwa [List.map_append] at this
    have hnd1 : (es1.toList.map keyOf).Nodup := by
      rw [hkp.nodup_iff, List.nodup_append]
      refine ⟨S.nd, by simp, fun y hy z hz e => ?_⟩
      rw [List.mem_singleton.mp hz] at e
      exact hx (e ▸ hy)
    have hm1' : ∀ y, y ∈ es1.toList.map keyOf ↔ y ∈ ns ++ [x] := fun y => by
      rw [hkp.mem_iff, List.mem_append, List.mem_append, hm]
    have hled1 : byText w = false → t1.led = true := fun e => hl1.trans (S.led e)
    have hes18 : es1.size ≤ 18 := by omega
    refine wpAny_bind (wpAny_storeSet_of S.get S.data ?_ (by rw [sizeLine_eq]; omega))
    have hsb1 := Heap.SameBut.update s.heap a (Obj.putSet es1 t1)
    have hfill : t1.fill = es.size + 1 := by
      unfold SetTable.fill
      rw [hpl1, hd1]; rfl
    by_cases htf : t1.tooFull = true
    · rw [htf]
      simp only [Bool.not_false, Bool.true_and, ↓reduceIte]
      unfold SetTable.tooFull at htf
      rw [hfill, hm1] at htf
      have htf' := of_decide_eq_true htf
      have hn5 : es1.size = 5 := by rcases S.good.mask with ⟨e, q⟩ | ⟨e, q⟩ <;> omega
      have h20 : SetTable.grown es1.size = 20 := by rw [hn5]; rfl
      obtain ⟨es2, t2, hrel, hperm2, G2, hl2⟩ := relay_good (t := t1) hes18 hp1
      rw [h20, hrel]
      dsimp only
      have get1 : (s.heap.update a (Obj.putSet es1 t1)).get? a = some { o with data := .set es1 (ep + 1) t1 } := by
        have := Heap.get?_update_self (Obj.putSet es1 t1) S.get (by rw [putSet_of es1 t1 S.data]; rfl)
        rw [putSet_of es1 t1 S.data] at this; exact this
      refine wpAny_bind (wpAny_pure ?_)
      have hk2 := hperm2.map keyOf
      have hsz2 : es2.size = es1.size := by rw [← Array.length_toList, hperm2.length_eq, Array.length_toList]
      refine wpAny_bind (wpAny_storeSet_of (s := { s with heap := s.heap.update a (Obj.putSet es1 t1) }) get1 rfl ?_ (by rw [sizeLine_eq]; omega))
      refine wpAny_pure (wpAny_pure ?_)
      refine h true _ (hsb1.trans (Heap.SameBut.update _ a _)) ⟨_, es2, _, t2, store_is get1 S.exact rfl G2 (fun e => hl2.trans (hled1 e)) (fun e he => hok1 e (hperm2.mem_iff.mp he)) (hk2.nodup_iff.mpr hnd1), fun y => ?_⟩
      rw [hk2.mem_iff]; exact hm1' y
    · rw [Bool.eq_false_iff.mpr htf]
      simp only [Bool.not_false, Bool.true_and, Bool.false_eq_true, ↓reduceIte]
      refine wpAny_pure (wpAny_pure ?_)
      unfold SetTable.tooFull at htf
      rw [hfill, hm1] at htf
      have htf' := of_decide_eq_false (Bool.eq_false_iff.mpr htf)
      refine h true _ hsb1 ⟨_, es1, _, t1, store_is S.get S.exact S.data ⟨hpl1.trans hes1.symm, hd1, hr1, ?_, hp1⟩ hled1 hok1 hnd1, hm1'⟩
      rw [hm1]
      rcases S.good.mask with ⟨e, q⟩ | ⟨e, q⟩
      · exact .inl ⟨e, by omega⟩
      · exact .inr ⟨e, by omega⟩
end
end Mine
namespace Mine
section
variable {prog : Program} {w : World} {A : Around} {E : Value → Shared → Prop} {s : Shared}
/-- the empty set, led as the world says -/
noncomputable abbrev set0 (w : World) : Obj := { cls := .type "set", dict := none, data := .set #[] 0 (.fresh 0 0 (!byText w)) }
theorem set0_good {h : Heap} {a : Addr} (e : h.get? a = some (set0 w)) : SetG w h a [] :=
  ⟨_, #[], 0, _, ⟨e, ⟨rfl, rfl, rfl⟩, rfl, ⟨rfl, rfl, List.Pairwise.nil, .inl ⟨rfl, by decide⟩, rfl⟩, fun q => by show (!byText w) = true; rw [q]; rfl, fun e he => by simp at he, by simp⟩, fun x => by simp⟩
theorem new_code {v : Value} {Q : Value → Shared → Prop} (h : Q (.ref s.heap.objs.size) { s with heap := s.heap.push (set0 w) }) :
    codeAny (model prog w) A (.call (.builtin "set.__new__") ⟨[.type "set", v], []⟩) (wants Q E) s := by
  refine codeAny_call_builtin PySem.F.plain_set_new PySem.F.entry_set_new (wpAny_of_eq (PySem.F.newCall_set_1 v) ?_)
  unfold Builtin.«set.__new__» Builtin.Frozenset.newClass
  have hsub := sub_set_self
  obtain ⟨hp, g, d, tk, os⟩ := s
  dsimp only at h ⊢
  wp_walk
  refine wpAny_askSetting (wpAny_pure ?_)
  dsimp only
  simp only [newObj]
  refine wpAny_bind (wpAny_alloc (wpAny_pure ?_))
  exact wpAny_pure h
/-- the ints of a walk are added one by one -/
theorem fill_loop {R : Result → Shared → Prop} {I S : Addr} {fp wr : List Addr} {n : Nat} {ns : List Int} {P : Nat → Value → Prop} {St : Nat → Heap → Prop} (W : Walks prog w A.in1 I fp wr n P St) (hS : S ∉ fp) (hP : ∀ i v, P i v → ∃ x u, ns[i]? = some x ∧ v = .int x u) (hn : n ≤ 12) (hl : ns.length = n) :
    ∀ (k i : Nat) (h : Heap) (tk : Nat), n - i = k → i ≤ n → St i h → SetG w h S (ns.take i) →
      (∀ h' tk', (∀ b o, b ∉ wr → b ≠ S → h.get? b = some o → h'.get? b = some o) → SetG w h' S ns → R (.ok (.ret .none)) { s with heap := h', toks := tk' }) →
      codeAny (model prog w) A (.builtin "set.update.loop" ⟨[.ref S, .ref I], []⟩) R { s with heap := h, toks := tk } := by
  have hSw : S ∉ wr := fun q => hS (W.sub _ q)
  intro k
  induction k with
  | zero =>
    intro i h tk hk hi st g hR
    have e : i = n := by omega
    subst e
    refine codeAny_builtin PyProof.Rows.F.entry_set_update_loop ?_
    rw [Around.under_plainId PyProof.Rows.F.plain_set_update_loop _]
    show wpAny _ A.in1 (pyNext (.ref I) >>= _) _ _ _
    refine wpAny_bind (W.done _ _ _ st fun h' tk' kp => ?_)
    show wpAny _ A.in1 (ret Value.none) _ _ _
    refine wpAny_pure (hR h' tk' (fun b o hb _ e => kp b o hb e) ?_)
    rw [← hl, List.take_length] at g
    exact g.at fun o e => kp S o hSw e
  | succ k ih =>
    intro i h tk hk hi st g hR
    have hlt : i < n := by omega
    refine codeAny_builtin PyProof.Rows.F.entry_set_update_loop ?_
    rw [Around.under_plainId PyProof.Rows.F.plain_set_update_loop _]
    show wpAny _ A.in1 (pyNext (.ref I) >>= _) _ _ _
    refine wpAny_bind (W.item i _ _ _ hlt st fun v h' tk' hv st' kp => ?_)
    obtain ⟨x, u, hx, rfl⟩ := hP i v hv
    show wpAny _ A.in1 (holding [Value.int x u] (setAdd S (.int x u)) >>= _) _ _ _
    refine wpAny_bind (wpAny_holding ?_)
    unfold setAdd
    refine wpAny_holding ?_
    refine wpAny_bind ((intKind prog w).pyHash (k := x) (intKind_is _ _ _ _) ?_)
    refine add_good (s := ⟨h', _, _, _, _⟩) (ns := ns.take i) (g.at fun o e => kp S o hSw e) (by rw [List.length_take]; omega) fun b h₂ sb g₂ => ?_
    (try dsimp only at sb); (try dsimp only)
    have e1 : ns.take i ++ [x] = ns.take (i + 1) := by rw [List.take_add_one, hx]; rfl
    rw [e1] at g₂
    refine wpAny_pure ⟨plainId_quiet PyProof.Rows.F.plain_set_update_loop _, ih (i + 1) h₂ _ (by omega) hlt (W.frame _ _ _ st' fun b hb o e => sb.extBut b o (fun q => hS (q ▸ hb)) e) g₂ fun h₃ tk₃ kp₃ g₃ => ?_⟩
    exact hR h₃ tk₃ (fun b o hb hbS e => kp₃ b o hb hbS (sb.extBut b o hbS (kp b o hb e))) g₃

/-- set.__init__ fills the new set -/
theorem set_init {S l : Addr} {vs : List Value} {ns : List Int} {R : Result → Shared → Prop} (hh : A.handled = none) (hS : s.heap.get? S = some (set0 w)) (hl : s.heap.IsList l vs.toArray) (hi : IntsAre vs ns) (hn : ns.length ≤ 12)
    (h : ∀ h' tk, (∀ b o, b ≠ S → s.heap.get? b = some o → h'.get? b = some o) → SetG w h' S ns → R (.ok (.ret .none)) { s with heap := h', toks := tk }) :
    codeAny (model prog w) A (.call (.builtin "set.__init__") ⟨[.ref S, .ref l], []⟩) R s := by
  have hT : s.TypeIs (.ref S) "set" := ⟨_, hS, rfl⟩
  refine codeAny_call_builtin PySem.F.called_set.init.plain PySem.F.entry_set_init (check_set_init_1 hT ?_)
  obtain ⟨⟨lc, ld, lda, lsl⟩, hol, hcl, nl, hdl⟩ := id hl
  simp only at hcl hdl
  subst hcl hdl
  have hsls := PySem.F.sub_list_set
  have hslf := PySem.F.sub_list_frozenset
  have hne : (Value.type "list" == Value.type "dict") = false := by decide
  unfold Builtin.«set.__init__» noKeywords Builtin.Frozenset.updateFrom
  generalize hPI : pyIter = PI
  wp_walk
  subst hPI
  refine wpAny_pyIter_list hl ?_
  have hlI : l ≠ s.heap.objs.size := Nat.ne_of_lt (Heap.lt_size hol)
  have hSI : S ≠ s.heap.objs.size := Nat.ne_of_lt (Heap.lt_size hS)
  have hSl : S ≠ l := fun q => by rw [q, hol] at hS; exact absurd (Value.type.inj (congrArg Obj.cls (Option.some.inj hS))) (by decide)
  have hvl : vs.length = ns.length := IntsAre.length hi
  refine wpAny_bind (wpAny_runValue ?_)
  refine fill_loop (s := s) (ns := ns) (Walks.list (by simp [hh]) s.heap.objs.size l hlI vs.toArray) (fun q => ?_) (fun i v hv => ?_) (by rw [List.size_toArray]; omega) (by rw [List.size_toArray]; omega) (vs.toArray.size - 0) 0 _ s.toks rfl (Nat.zero_le _)
    ⟨⟨_, Heap.get?_push_size _ rfl, rfl, rfl⟩, hl.at fun o e => Heap.get?_push_of_some _ e⟩ ((set0_good hS).at fun o e => Heap.get?_push_of_some _ e) fun h' tk' kp g => ?_
  · rcases List.mem_cons.mp q with q | q
    · exact hSI q
    · exact hSl (List.mem_singleton.mp q)
  · have hv' : vs[i]? = some v := by simpa using hv
    have hi' : i < ns.length := by rw [← hvl]; exact (List.getElem?_eq_some_iff.mp hv').1
    obtain ⟨u, e⟩ := hi.get i ns[i] (List.getElem?_eq_getElem hi')
    rw [hv'] at e
    exact ⟨_, u, List.getElem?_eq_getElem hi', Option.some.inj e⟩
  · refine wpAny_pure ?_
    show wpAny _ _ (ret Value.none) _ _ _
    exact wpAny_pure (h h' tk' (fun b o hb e => kp b o (fun q => by rw [List.mem_singleton.mp q] at e; exact absurd (Heap.lt_size e) (Nat.lt_irrefl _)) hb (Heap.get?_push_of_some _ e)) g)
set_option maxHeartbeats 3200000 in
theorem call_set {l : Addr} {vs : List Value} {ns : List Int} {Q : Value → Shared → Prop} (hh : A.handled = none) (hl : s.heap.IsList l vs.toArray) (hi : IntsAre vs ns) (hn : ns.length ≤ 12)
    (h : ∀ h' tk, Ext s.heap h' → SetG w h' s.heap.objs.size ns → Q (.ref s.heap.objs.size) { s with heap := h', toks := tk }) :
    wpAny (model prog w) A (call (.type "set") [.ref l]) Q E s := by
  obtain ⟨c, tl, hmro⟩ := PySem.F.called_set.mro
  have hmade := PySem.F.called_set.made
  have hsub := PySem.F.called_set.sub
  have h1 := PySem.F.called_set.notType
  have h2 := PySem.F.called_set.canCreate
  have hct := PySem.F.typeCall_set_1 (.ref l)
  refine wpAny_call (codeAny_of_tree ?_)
  show wpAny _ _ (callAny (.type "set") _) _ _ _
  refine wpAny_pure ⟨Code.quiet_builtin _ (by decide +kernel), codeAny_builtin PySem.F.entry_type_call ?_⟩
  rw [Around.under_plain (weight_type_call_type "set" [.ref l] []) rfl]
  repeat (any_goals (first | assumption | wp_step))
  refine codeAny_mono (new_code (E := E) (Q := fun obj s₁ => obj = .ref s.heap.objs.size ∧ s₁ = { s with heap := s.heap.push (set0 w) }) ⟨rfl, rfl⟩) fun r s₁ hr => ?_
  cases r with
  | error e => exact hr
  | ok fl =>
    cases fl with
    | ret obj =>
      obtain ⟨rfl, rfl⟩ := hr
      have hS : (s.heap.push (set0 w)).get? s.heap.objs.size = some (set0 w) := Heap.get?_push_size _ rfl
      have hT : Shared.TypeIs { s with heap := s.heap.push (set0 w) } (.ref s.heap.objs.size) "set" := ⟨_, hS, rfl⟩
      have hli := PySem.F.called_set.init.lookup
      have hbi := PySem.F.called_set.init.bind (.ref s.heap.objs.size)
      repeat (any_goals (first | assumption | wp_step))
      refine set_init (s := { s with heap := s.heap.push (set0 w) }) (by simp [hh]) hS (hl.at fun o e => Heap.get?_push_of_some _ e) hi hn fun h' tk kp g => ?_
      dsimp only
      repeat (any_goals (first | assumption | wp_step))
      exact h h' tk (fun b o e => kp b o (Nat.ne_of_lt (Heap.lt_size e)) (Heap.get?_push_of_some _ e)) g
    | _ => exact hr.elim
end
end Mine
namespace Mine
open SetTable (below)
theorem entry_set_iter : entryFor table "set.__iter__" = some Builtin.«frozenset.__iter__» := entryFor_alias (id' := "frozenset.__iter__") (by kernel_rfl) rfl (by decide +kernel) (by kernel_rfl)
theorem slot_setit_next : Slot "set_iterator" "__next__" "set_iterator.__next__" :=
  .of (owner := "set_iterator") (n := "__next__") (by rw [typeLookup_type, builtinLookup_eq_fast]; kernel_rfl) (by decide +kernel) (by decide +kernel) (by decide +kernel)
    (by first | exact .inl (by decide +kernel) | exact .inr (by decide +kernel)) (by rw [isSubtype_type]; kernel_rfl)
theorem entry_setit_next : entryFor table "set_iterator.__next__" = some Builtin.«set_iterator.__next__» := entryFor_of_tree (by kernel_rfl)
theorem owner_setit : Manifest.owners.lookup (String.ofList ['r', 'o', 't', 'a', 'r', 'e', 't', 'i', '_', 't', 'e', 's'].reverse) = some Manifest.sig_set_iterator := by kernel_rfl
theorem args_setit_next (a : Value) : argsOk "set_iterator.__next__" ⟨[a], []⟩ := by
  unfold argsOk; rw [signature?_of (id := "set_iterator.__next__") (n := ['_', '_', 't', 'x', 'e', 'n', '_', '_']) (o := ['r', 'o', 't', 'a', 'r', 'e', 't', 'i', '_', 't', 'e', 's']) (by kernel_rfl) owner_setit]; kernel_rfl
theorem slot_setit_iter : Slot "set_iterator" "__iter__" "set_iterator.__iter__" :=
  .of (owner := "set_iterator") (n := "__iter__") (by rw [typeLookup_type, builtinLookup_eq_fast]; kernel_rfl) (by decide +kernel) (by decide +kernel) (by decide +kernel)
    (by first | exact .inl (by decide +kernel) | exact .inr (by decide +kernel)) (by rw [isSubtype_type]; kernel_rfl)
theorem entry_setit_iter : entryFor table "set_iterator.__iter__" = some Builtin.«dict_keyiterator.__iter__» := entryFor_alias (id' := "dict_keyiterator.__iter__") (by kernel_rfl) rfl (by decide +kernel) (by kernel_rfl)
theorem args_setit_iter (a : Value) : argsOk "set_iterator.__iter__" ⟨[a], []⟩ := by
  unfold argsOk; rw [signature?_of (id := "set_iterator.__iter__") (n := ['_', '_', 'r', 'e', 't', 'i', '_', '_']) (o := ['r', 'o', 't', 'a', 'r', 'e', 't', 'i', '_', 't', 'e', 's']) (by kernel_rfl) owner_setit]; kernel_rfl
/-- the order in which a set is walked -/
noncomputable def ord (w : World) (a : Addr) (es : Array (Int × Value)) (ep : Nat) : Array (Int × Value) := if byText w = true then pickOrder (w.params.setOrder a ep) es else es
theorem pick_perm {α : Type} (next : Nat → Nat) : ∀ (fuel k : Nat) (left : List α) (out : Array α), left.length ≤ fuel → (pickOrder.go next fuel k left out).toList.Perm (out.toList ++ left) := by
  intro fuel
  induction fuel with
  | zero =>
    intro k left out h
    rw [List.length_eq_zero_iff.mp (by omega : left.length = 0)]
    unfold pickOrder.go; simp
  | succ fuel ih =>
    intro k left out h
    unfold pickOrder.go
    cases hx : left[next k % left.length]? with
    | none =>
      have : left.length = 0 := by
        rw [List.getElem?_eq_none_iff] at hx
        refine Nat.eq_zero_of_not_pos fun hp => ?_
        have := Nat.mod_lt (next k) hp
        omega
      rw [List.length_eq_zero_iff.mp this]; simp
    | some x =>
      obtain ⟨hi, ex⟩ := List.getElem?_eq_some_iff.mp hx
      have hp := ih (k + 1) (left.eraseIdx (next k % left.length)) (out.push x) (by rw [List.length_eraseIdx]; split <;> omega)
      refine hp.trans ?_
      rw [Array.toList_push, List.append_assoc]
      refine List.Perm.append_left _ ?_
      rw [← ex]
      rw [List.eraseIdx_eq_take_drop_succ]
      have e : left = left.take (next k % left.length) ++ left[next k % left.length] :: left.drop (next k % left.length + 1) := by
        rw [← List.drop_eq_getElem_cons hi, List.take_append_drop]
      conv => rhs; rw [e]
      rw [List.singleton_append]
      exact List.perm_middle.symm
theorem ord_perm (w : World) (a : Addr) (es : Array (Int × Value)) (ep : Nat) : (ord w a es ep).toList.Perm es.toList := by
  unfold ord
  split
  · unfold pickOrder
    have := pick_perm (w.params.setOrder a ep) es.size 0 es.toList #[] (by simp)
    simpa using this
  · exact .rfl
theorem ord_size (w : World) (a : Addr) (es : Array (Int × Value)) (ep : Nat) : (ord w a es ep).size = es.size := by
  rw [← Array.length_toList, (ord_perm w a es ep).length_eq, Array.length_toList]
/-- the slot from which the i-th is sought -/
noncomputable def slotAt (t : SetTable) (i : Nat) : Nat := if i = 0 then 0 else t.place.getD (i - 1) 0 + 1
theorem slotAt_below {t : SetTable} {n : Nat} (G : Good t n) {i : Nat} (hi : i ≤ n) : below t.place (slotAt t i) = i := by
  unfold slotAt
  rcases i with _ | i
  · rw [if_pos rfl]; exact below_zero G.ris
  · rw [if_neg (by omega), Nat.add_sub_cancel]
    have hs : i < t.place.size := by rw [G.size]; omega
    exact below_next G.ris (by rw [Array.getElem?_eq_getElem hs]; simp [Array.getD, hs])
section
variable {prog : Program} {w : World} {A : Around} {E : Value → Shared → Prop} {s : Shared} {a : Addr} {o : Obj} {es : Array (Int × Value)} {ep : Nat} {t : SetTable}
theorem drawn_false {es : Array (Int × Value)} {t : SetTable} (hp : t.plain = true) : (!t.plain && decide (es.size > 1)) = false := by rw [hp]; rfl
/-- one step of the walk -/
theorem next_of (S : SetIs w s.heap a o es ep t) {slot i : Nat} (hi : i ≤ es.size) (hslot : byText w = false → slot = slotAt t i) {Q : Option (Value × Nat) → Shared → Prop}
    (h : ∀ slot', (byText w = false → i < es.size → slot' = slotAt t (i + 1)) → Q (((ord w a es ep)[i]?).map fun e => (e.2, slot')) s) : wpAny (model prog w) A (setNext a slot i ep) Q E s := by
  have hf := S.good.fits
  unfold setNext
  refine wpAny_bind (wpAny_setState_of S.get S.data hf ?_)
  dsimp only
  unfold setsByText
  refine wpAny_bind (wpAny_bind (wpAny_askSetting (wpAny_pure ?_)))
  show wpAny _ _ (if byText w = true then _ else _) _ _ _
  cases hb : byText w with
  | true =>
    rw [if_pos rfl]
    simp only [bne_self_eq_false, Bool.false_eq_true, ↓reduceIte]
    refine wpAny_bind ?_
    unfold setWalk
    refine wpAny_bind (wpAny_setState_of S.get S.data hf ?_)
    dsimp only
    unfold setsByText
    refine wpAny_bind (wpAny_bind (wpAny_askSetting (wpAny_pure ?_)))
    show wpAny _ _ (if byText w = true then _ else _) _ _ _
    rw [hb, if_pos rfl]
    refine wpAny_bind (wpAny_askSetting (wpAny_pure (wpAny_pure ?_)))
    have := h slot (fun q => by rw [hb] at q; cases q)
    unfold ord at this
    rw [hb, if_pos rfl] at this
    exact this
  | false =>
    rw [if_neg (by decide)]
    refine wpAny_ite_split (fun hab => absurd hab ?_) (fun _ => ?_)
    · show ¬ ((!t.plain && decide (es.size > 1)) = true)
      rw [S.good.plain]; simp
    · refine wpAny_bind ?_
      show wpAny _ _ (if (!t.led && !es.isEmpty) = true then _ else _) _ _ _
      rw [if_neg (by rw [S.led hb]; simp)]
      refine wpAny_pure (wpAny_pure ?_)
      rw [hslot hb, slotAt_below S.good hi]
      have eo : ord w a es ep = es := by unfold ord; rw [hb]; rfl
      rw [eo] at h
      by_cases hlt : i < es.size
      · have hp : i < t.place.size := by rw [S.good.size]; exact hlt
        have := h (t.place[i] + 1) (fun _ _ => by unfold slotAt; rw [if_neg (by omega), Nat.add_sub_cancel]; simp [Array.getD, hp])
        rw [Array.getElem?_eq_getElem hlt] at this ⊢
        rw [Array.getElem?_eq_getElem hp]
        exact this
      · have := h 0 (fun _ q => absurd q hlt)
        rw [Array.getElem?_eq_none (by omega)] at this ⊢
        exact this
end
end Mine
namespace Mine
open SetTable (below)
/-- a walk of the set a, its i-th still to come -/
noncomputable def SetIt (w : World) (h : Heap) (I a : Addr) (t : SetTable) (n ep i : Nat) : Prop := ∃ slot : Nat, h.get? I = some { cls := .type "set_iterator", dict := none, data := .fields #[.int slot 0, .int i 0, .ref a, .int n 0, .int ep 0], slots := #[] } ∧ (byText w = false → i ≤ n → slot = slotAt t i)
section
variable {prog : Program} {w : World} {A : Around} {E : Value → Shared → Prop} {s : Shared} {I a : Addr} {o : Obj} {es : Array (Int × Value)} {ep : Nat} {t : SetTable}
theorem SetIs.typeIs (S : SetIs w s.heap a o es ep t) : s.TypeIs (.ref a) "set" := ⟨o, S.get, S.exact.1⟩
theorem SetIs.at {h h' : Heap} (S : SetIs w h a o es ep t) (k : ∀ o, h.get? a = some o → h'.get? a = some o) : SetIs w h' a o es ep t := ⟨k _ S.get, S.exact, S.data, S.good, S.led, S.ok, S.nd⟩
theorem iter_set (S : SetIs w s.heap a o es ep t) {Q : Value → Shared → Prop}
    (h : Q (.ref s.heap.objs.size) { s with heap := s.heap.push { cls := .type "set_iterator", data := .fields #[.int 0 0, .int 0 0, .ref a, .int es.size 0, .int ep 0] } }) : wpAny (model prog w) A (pyIter (.ref a)) Q E s := by
  have hf := S.good.fits
  refine wpAny_pyIter_slot S.typeIs PySem.F.slot_set_iter (wpAny_call_entry PySem.F.slot_set_iter S.typeIs entry_set_iter ?_ (PySem.F.args_set_iter_1 _))
  show wpAny _ _ (Builtin.Frozenset.slot0 "__iter__" ⟨[.ref a], []⟩ >>= _) _ _ _
  refine wpAny_bind (wpAny_of_eq (a := a) (by rfl) ?_)
  unfold Builtin.Frozenset.sizeOf
  refine wpAny_bind (wpAny_bind (wpAny_setEntries_of S.get S.data hf (wpAny_pure ?_)))
  refine wpAny_bind ?_
  unfold setDrawn
  refine wpAny_bind (wpAny_setState_of S.get S.data hf ?_)
  (try dsimp only)
  unfold setsByText
  refine wpAny_bind (wpAny_bind (wpAny_askSetting (wpAny_pure ?_)))
  refine wpAny_pure ?_
  refine wpAny_ite_split (fun hab => absurd hab ?_) (fun _ => ?_)
  · show ¬ ((!byText w && (!t.plain && decide (es.size > 1))) = true)
    rw [S.good.plain]; simp
  refine wpAny_bind (wpAny_pure ?_)
  refine wpAny_bind (wpAny_setEpoch_of S.get S.data hf ?_)
  refine wpAny_bind (wpAny_newObj_type ?_)
  exact wpAny_pure ⟨_, rfl, "set_iterator", _, ⟨_, Heap.get?_push_size _ rfl, rfl⟩, slot_setit_next.lookup, h⟩
theorem next_item {i : Nat} (S : SetIs w s.heap a o es ep t) (hI : SetIt w s.heap I a t es.size ep i) {e : Int × Value} (he : (ord w a es ep)[i]? = some e) {Q : Option Value → Shared → Prop}
    (h : ∀ h', SetIt w h' I a t es.size ep (i + 1) → Heap.SameBut I s.heap h' → Q (some e.2) { s with heap := h' }) : wpAny (model prog w) A (pyNext (.ref I)) Q E s := by
  obtain ⟨slot, eI, hs⟩ := hI
  have hT : s.TypeIs (.ref I) "set_iterator" := ⟨_, eI, rfl⟩
  have hi : i < es.size := by rw [← ord_size w a es ep]; exact (Array.getElem?_eq_some_iff.mp he).1
  have hf := S.good.fits
  unfold pyNext
  refine wpAny_bind (wpAny_attempt (wpAny_callSpecial?_slot (name := Str.ofString "__next__") hT slot_setit_next (wpAny_call_entry slot_setit_next hT entry_setit_next ?_ (args_setit_next _))))
  show wpAny _ _ (slotArgs "__next__" 0 ⟨[.ref I], []⟩ >>= _) _ _ _
  refine wpAny_bind (wpAny_of_eq (a := (.ref I, [])) (by rfl) ?_)
  refine wpAny_bind (wpAny_fieldsOf eI rfl ?_)
  show wpAny _ _ (setEntries a >>= _) _ _ _
  refine wpAny_bind (wpAny_setEntries_of S.get S.data hf ?_)
  rw [if_neg (by simp)]
  show wpAny _ _ (setNext a ((slot : Nat) : Int).toNat ((i : Nat) : Int).toNat ((ep : Nat) : Int).toNat >>= _) _ _ _
  rw [Int.toNat_natCast, Int.toNat_natCast, Int.toNat_natCast]
  refine wpAny_bind (next_of S (Nat.le_of_lt hi) (fun q => hs q (Nat.le_of_lt hi)) fun slot' hs' => ?_)
  rw [he]
  show wpAny _ _ (setField (.ref I) 0 (rawInt (slot' : Nat)) >>= _) _ _ _
  refine wpAny_bind (wpAny_setField eI rfl (by simp) ?_)
  have e1 : (s.heap.update I (Obj.mapFields (·.setIfInBounds 0 (rawInt (slot' : Nat))))).get? I = some { cls := .type "set_iterator", dict := none, data := .fields #[.int slot' 0, .int i 0, .ref a, .int es.size 0, .int ep 0], slots := #[] } := by
    rw [Heap.get?_update_self _ eI rfl]; rfl
  refine wpAny_bind (wpAny_setField (s := { s with heap := s.heap.update I (Obj.mapFields (·.setIfInBounds 0 (rawInt (slot' : Nat)))) }) e1 rfl (by simp) ?_)
  refine wpAny_pure ⟨e.2, rfl, wpAny_pure (h _ ⟨slot', ?_, fun q hq => hs' q hi⟩ ((Heap.SameBut.update ..).trans (Heap.SameBut.update ..)))⟩
  have := Heap.get?_update_self (Obj.mapFields (·.setIfInBounds 1 (rawInt ((i : Int) + 1)))) e1 rfl
  exact this
theorem next_end {i : Nat} (hh : A.handled = none) (S : SetIs w s.heap a o es ep t) (hI : SetIt w s.heap I a t es.size ep i) (hi : i = es.size) {Q : Option Value → Shared → Prop}
    (h : ∀ h', Heap.ExtBut I s.heap h' → Q none { s with heap := h' }) : wpAny (model prog w) A (pyNext (.ref I)) Q E s := by
  obtain ⟨slot, eI, hs⟩ := hI
  have hT : s.TypeIs (.ref I) "set_iterator" := ⟨_, eI, rfl⟩
  have hf := S.good.fits
  unfold pyNext
  refine wpAny_bind (wpAny_attempt (wpAny_callSpecial?_slot (name := Str.ofString "__next__") hT slot_setit_next (wpAny_call_entry slot_setit_next hT entry_setit_next ?_ (args_setit_next _))))
  show wpAny _ _ (slotArgs "__next__" 0 ⟨[.ref I], []⟩ >>= _) _ _ _
  refine wpAny_bind (wpAny_of_eq (a := (.ref I, [])) (by rfl) ?_)
  refine wpAny_bind (wpAny_fieldsOf eI rfl ?_)
  show wpAny _ _ (setEntries a >>= _) _ _ _
  refine wpAny_bind (wpAny_setEntries_of S.get S.data hf ?_)
  rw [if_neg (by simp)]
  show wpAny _ _ (setNext a ((slot : Nat) : Int).toNat ((i : Nat) : Int).toNat ((ep : Nat) : Int).toNat >>= _) _ _ _
  rw [Int.toNat_natCast, Int.toNat_natCast, Int.toNat_natCast]
  refine wpAny_bind (next_of S (Nat.le_of_eq hi) (fun q => hs q (Nat.le_of_eq hi)) fun slot' hs' => ?_)
  rw [Array.getElem?_eq_none (by rw [ord_size]; omega)]
  show wpAny _ _ (setField (.ref I) 2 .none >>= _) _ _ _
  refine wpAny_bind (wpAny_setField eI rfl (by simp) ?_)
  show wpAny _ _ (newExc (.type "StopIteration") [] >>= _) _ _ _
  refine wpAny_bind ?_
  simp only [newExc, newTuple]
  refine wpAny_bind (wpAny_newObj_type ?_ (by size_fits))
  refine wpAny_bind (m := firstArgMember _ _) (wpAny_of_eq (a := Value.none) (by first | rfl | (simp only [firstArgMember]; rfl)) ?_)
  refine wpAny_newObj_type ?_ (by size_fits)
  simp only [raiseNew]
  refine wpAny_bind (wpAny_handled ?_)
  rw [show A.in1.handled = none from hh]
  refine wpAny_bind (wpAny_pure (wpAny_throw ?_))
  refine wpAny_bind (wpAny_isInstance (T := "StopIteration") (b := true) ⟨_, Heap.get?_push_size _ rfl, rfl⟩ isSubtype_stop ?_)
  exact wpAny_pure (h _ (((Heap.SameBut.update ..).extBut.push _).push _))
theorem self_it {i n : Nat} (hI : SetIt w s.heap I a t n ep i) {Q : Value → Shared → Prop} (h : Q (.ref I) s) : wpAny (model prog w) A (pyIter (.ref I)) Q E s := by
  obtain ⟨slot, eI, hs⟩ := hI
  have hT : s.TypeIs (.ref I) "set_iterator" := ⟨_, eI, rfl⟩
  refine wpAny_pyIter_slot hT slot_setit_iter (wpAny_call_entry slot_setit_iter hT entry_setit_iter ?_ (args_setit_iter _))
  show wpAny _ _ (ret (.ref I)) _ _ s
  exact wpAny_pure ⟨_, rfl, "set_iterator", _, hT, slot_setit_next.lookup, h⟩
theorem walks_set (hh : A.handled = none) (hne : a ≠ I) : Walks prog w A I [I, a] [I] es.size (fun i v => ∃ e, (ord w a es ep)[i]? = some e ∧ v = e.2) (fun i h => SetIt w h I a t es.size ep i ∧ SetIs w h a o es ep t) where
  sub := fun b hb => by rw [List.mem_singleton.mp hb]; exact .head _
  frame := fun i h h' st hk => ⟨let ⟨slot, e, k⟩ := st.1; ⟨slot, hk I (.head _) _ e, k⟩, st.2.at fun o e => hk a (.tail _ (.head _)) o e⟩
  item := fun i s Q E hi st hQ => by
    obtain ⟨e, he⟩ : ∃ e, (ord w a es ep)[i]? = some e := ⟨_, Array.getElem?_eq_getElem (by rw [ord_size]; exact hi)⟩
    refine next_item st.2 st.1 he fun h' it hs => ?_
    exact hQ _ h' s.toks ⟨e, he, rfl⟩ ⟨it, st.2.at fun o e => hs.extBut a o hne e⟩ fun b o hb e => hs.extBut b o (fun q => hb (by rw [q]; exact .head _)) e
  done := fun s Q E st hQ => next_end hh st.2 st.1 rfl fun h' he => hQ h' s.toks fun b o hb e => he b o (fun q => hb (by rw [q]; exact .head _)) e
  self := fun i s Q E st hQ => self_it st.1 hQ
theorem hint_set {r : Addr} (hT : s.TypeIs (.ref r) "set") {Q : Bool → Shared → Prop} (h : Q false s) : wpAny (model prog w) A (Builtin.List.listLengthHint (.ref r)) Q E s := by
  unfold Builtin.List.listLengthHint
  refine wpAny_bind (wpAny_specialOf hT PySem.F.slot_set_len.lookup ?_)
  generalize hid : ("set.__len__" : String) = id0
  wp_delta
  rw [show splitId id0 = some ("set", "__len__") from by subst hid; decide +kernel]
  subst hid
  refine wpAny_bind (wpAny_isInstance (T := "set") (b := true) hT sub_set_self ?_)
  refine wpAny_ite_split (fun hab => absurd hab (by decide)) (fun _ => ?_)
  refine wpAny_ite_split (fun _ => ?_) (fun hab => absurd (by decide +kernel) hab)
  refine wpAny_bind (wpAny_typeOf hT ?_)
  exact wpAny_pure h
/-- a set as a source -/
theorem src_set : KdlSrc prog w "set" a a es.size (fun i v => ∃ e, (ord w a es ep)[i]? = some e ∧ v = e.2) (fun h => SetIs w h a o es ep t) where
  type := fun s S => SetIs.typeIs S
  there := fun h S => ⟨Heap.lt_size S.get, Heap.lt_size S.get⟩
  keep := fun h h' S k => S.at fun o e => k a (.inl rfl) o e
  notList := by decide
  notTuple := by decide
  hint := fun A E s Q S hq => hint_set S.typeIs hq
  iter := fun A s hh S => ⟨_, fun i h => SetIt w h s.heap.objs.size a t es.size ep i ∧ SetIs w h a o es ep t, (fun E Q hq => iter_set S hq), walks_set hh (Nat.ne_of_lt (Heap.lt_size S.get)),
    ⟨⟨0, Heap.get?_push_size _ rfl, fun _ _ => rfl⟩, S.at fun o e => Heap.get?_push_of_some _ e⟩⟩
end
end Mine
namespace Mine
theorem intsAre_keys {es : List (Int × Value)} (h : ∀ e ∈ es, EOk e) : IntsAre (es.map (·.2)) (es.map keyOf) := by
  induction es with
  | nil => exact .nil
  | cons e es ih =>
    obtain ⟨n, u, rfl⟩ := h e (.head _)
    exact .cons n u (ih fun x hx => h x (.tail _ hx))
section
variable {prog : Program} {w : World} {A : Around} {E : Value → Shared → Prop} {s : Shared}
/-- a list of ints is sorted in its place -/
theorem sort_call {D : Addr} {vs : List Value} {ns : List Int} {n : Nat} {Q : Value → Shared → Prop} (ho : s.heap.get? D = some (seqObj "list" vs.toArray n)) (hI : IntsAre vs ns) (h64 : vs.length < 64)
    (h : ∀ h' vs' ns', (∀ b o, b ≠ D → s.heap.get? b = some o → h'.get? b = some o) → h'.IsList D (vs' : List Value).toArray → IntsAre vs' ns' → ns'.Perm ns → ns'.Pairwise (· ≤ ·) → Q .none { s with heap := h' }) :
    wpAny (model prog w) A (call (.builtin "list.sort") [.ref D]) Q E s := by
  refine wpAny_call_entry PyProof.Rows.slot_list_sort ⟨_, ho, rfl⟩ PyProof.Rows.entry_list_sort (list_sort_tree (n := n) (vs := vs) ho hI h64 fun out ns' hI' hp hP => ⟨.none, rfl, ?_⟩) (PyProof.Rows.args_list_sort _)
  obtain ⟨e, he⟩ := sortedHeap_at (vs := vs) (out := out) ho
  refine h _ out.toList ns' (fun b o hb eb => ?_) ⟨_, he, rfl, _, by rw [Array.toArray_toList]⟩ hI' hp hP
  rw [sortedHeap_old hb (Heap.lt_size eb)]; exact eb
theorem sorted_lt : ∀ {l : List Int}, l.Nodup → l.Pairwise (· ≤ ·) → l.Pairwise (· < ·)
  | [], _, _ => .nil
  | x :: l, h, k => by
    obtain ⟨h1, h2⟩ := List.nodup_cons.mp h
    obtain ⟨k1, k2⟩ := List.pairwise_cons.mp k
    refine List.pairwise_cons.mpr ⟨fun y hy => ?_, sorted_lt h2 k2⟩
    have := k1 y hy
    have : x ≠ y := fun e => h1 (e ▸ hy)
    omega
theorem sorted_set {a : Addr} {ns : List Int} {Q : Value → Shared → Prop} (hh : A.handled = none) (hS : SetG w s.heap a ns) (hn : ns.length ≤ 12)
    (h : ∀ h' tk D vs' ns', Ext s.heap h' → s.heap.get? D = none → h'.IsList D (vs' : List Value).toArray → IntsAre vs' ns' → ns'.Pairwise (· < ·) → (∀ x, x ∈ ns' ↔ x ∈ ns) → Q (.ref D) { s with heap := h', toks := tk }) :
    wpAny (model prog w) A (call (.builtin "sorted") [.ref a]) Q E s := by
  obtain ⟨o, es, ep, t, S, hm⟩ := hS
  have hsz := S.size_le hm
  refine call_function_entry PyProof.Rows.kind_sorted PyProof.Rows.plain_sorted PyProof.Rows.entry_sorted (PyProof.Rows.args_sorted1 _) ?_
  unfold Builtin.«sorted»
  refine wpAny_bind (m := checkCount "sorted" 1 1 _) (wpAny_pure ?_)
  refine wpAny_bind (kdu_collect (A := A.in1) (src_set (prog := prog) (w := w) (a := a) (o := o) (es := es) (ep := ep) (t := t)) (by simp [hh]) S (by rw [sizeLine_eq]; omega) fun h₁ tk₁ acc up₁ hacc => ?_)
  have hal : acc.toList.length = es.size := by rw [Array.length_toList]; exact hacc.1
  have eacc : acc.toList = (ord w a es ep).toList.map (·.2) := by
    refine List.ext_getElem? fun j => ?_
    rw [List.getElem?_map]
    cases ha : acc.toList[j]? with
    | none =>
      rw [List.getElem?_eq_none_iff] at ha
      rw [List.getElem?_eq_none (by rw [Array.length_toList, ord_size]; omega)]; rfl
    | some v =>
      obtain ⟨e, he, rfl⟩ := hacc.2 j v (by rw [← Array.getElem?_toList]; exact ha)
      rw [Array.getElem?_toList, he]; rfl
  have hperm := ord_perm w a es ep
  have hI : IntsAre acc.toList ((ord w a es ep).toList.map keyOf) := by
    rw [eacc]; exact intsAre_keys fun e he => S.ok e (hperm.mem_iff.mp he)
  refine wpAny_bind (wpAny_newList ?_ (by rw [hal, sizeLine_eq]; omega))
  have nD : s.heap.get? h₁.objs.size = none := none_of_ext up₁ (fresh_le (Nat.le_refl _))
  refine wpAny_bind (wpAny_holding (wpAny_mono (sort_call (s := { s with heap := _, toks := tk₁ }) (D := h₁.objs.size) (vs := acc.toList) (n := 0) (Heap.get?_push_size _ rfl) hI (by omega)
    (Q := fun _ s' => Q (.ref h₁.objs.size) s') fun h₂ vs₂ ns₂ kp hl hI₂ hp hP => ?_) (fun _ s' x => wpAny_pure ⟨_, rfl, x⟩) fun _ _ x => x))
  have hkp := hperm.map keyOf
  refine h h₂ tk₁ h₁.objs.size vs₂ ns₂ (fun b o e => kp b o (Nat.ne_of_lt (Heap.lt_size (up₁ b o e))) (Heap.get?_push_of_some _ (up₁ b o e))) nD hl hI₂ (sorted_lt ?_ hP) fun x => ?_
  · rw [hp.nodup_iff, hkp.nodup_iff]; exact S.nd
  · rw [hp.mem_iff, hkp.mem_iff]; exact hm x
theorem set_sorted {l : Addr} {vs : List Value} {ns : List Int} {Q : Value → Shared → Prop} (hh : A.handled = none) (hl : s.heap.IsList l vs.toArray) (hi : IntsAre vs ns) (hn : ns.length ≤ 12)
    (h : ∀ h' tk a, Ext s.heap h' → (∀ Q' : Value → Shared → Prop, (∀ h'' tk' D vs' ns', Ext h' h'' → h'.get? D = none → h''.IsList D (vs' : List Value).toArray → IntsAre vs' ns' → ns'.Pairwise (· < ·) → (∀ x, x ∈ ns' ↔ x ∈ ns) → Q' (.ref D) { s with heap := h'', toks := tk' }) →
      wpAny (model prog w) A (call (.builtin "sorted") [.ref a]) Q' E { s with heap := h', toks := tk }) → Q (.ref a) { s with heap := h', toks := tk }) :
    wpAny (model prog w) A (call (.type "set") [.ref l]) Q E s :=
  call_set hh hl hi hn fun h' tk up g => h h' tk _ up fun Q' k => sorted_set (s := { s with heap := h', toks := tk }) hh g hn fun h'' tk' D vs' ns' up' nD hl' hI' hs' hm' => k h'' tk' D vs' ns' up' nD hl' hI' hs' hm'
end
end Mine
namespace Mine
theorem sorted_ext : ∀ {l m : List Int}, l.Pairwise (· < ·) → m.Pairwise (· < ·) → (∀ x, x ∈ l ↔ x ∈ m) → l = m
  | [], [], _, _, _ => rfl
  | [], y :: m, _, _, h => by have := (h y).mpr (.head _); cases this
  | x :: l, [], _, _, h => by have := (h x).mp (.head _); cases this
  | x :: l, y :: m, hl, hm, h => by
    obtain ⟨h1, h2⟩ := List.pairwise_cons.mp hl
    obtain ⟨k1, k2⟩ := List.pairwise_cons.mp hm
    have hxy : x = y := by
      rcases List.mem_cons.mp ((h x).mp (.head _)) with e | e
      · exact e
      · rcases List.mem_cons.mp ((h y).mpr (.head _)) with e' | e'
        · exact e'.symm
        · have := h1 y e'; have := k1 x e; omega
    subst hxy
    congr 1
    refine sorted_ext h2 k2 fun z => ⟨fun hz => ?_, fun hz => ?_⟩
    · rcases List.mem_cons.mp ((h z).mp (.tail _ hz)) with e | e
      · subst e; exact absurd (h1 z hz) (Int.lt_irrefl _)
      · exact e
    · rcases List.mem_cons.mp ((h z).mpr (.tail _ hz)) with e | e
      · subst e; exact absurd (k1 z hz) (Int.lt_irrefl _)
      · exact e
/-- a word with its number -/
noncomputable def PairAt (h : Heap) (v : Value) (w : List Bool) : Prop := ∃ T t u, v = .ref T ∧ h.IsTuple T #[.str (ab w) t, .int (val w : Nat) u]
structure WordsAt (h : Heap) (D : Addr) (ws : List (List Bool)) : Prop where
  ex : ∃ vs : List Value, h.IsList D vs.toArray ∧ vs.length = ws.length ∧ ∀ (i : Nat) v w, vs[i]? = some v → ws[i]? = some w → PairAt h v w
section
variable {prog : Program} {w : World} {A : Around} {E : Value → Shared → Prop} {s : Shared} {g : Heap} {L fa : Addr} {cd : Value} {m : Str → Option Value} {d t z p : Option Value} {l : List (Str × Value)} {Q : Flow → Shared → Prop}
theorem LS.seqNot {h : Heap} (S : LS w g L h m d t z p) {b : Addr} {o : Obj} {vs : Array Value} {n : Nat} (e : h.get? b = some o) (dd : o.data = .seq vs n) : ¬ Mut L b := fun q => by
  rcases q with rfl | rfl | rfl | rfl | rfl | rfl
  · obtain ⟨ps, e', _⟩ := S.tab; rw [e] at e'; cases e'; cases dd
  · obtain ⟨o', _, _, e', d', _⟩ := S.ns; rw [e] at e'; cases e'; rw [d'] at dd; cases dd
  · obtain ⟨o', e', d'⟩ := S.cd; rw [e] at e'; cases e'; rw [d'] at dd; cases dd
  · obtain ⟨o', e', d'⟩ := S.ct; rw [e] at e'; cases e'; rw [d'] at dd; cases dd
  · obtain ⟨o', e', d'⟩ := S.cz; rw [e] at e'; cases e'; rw [d'] at dd; cases dd
  · obtain ⟨o', e', d'⟩ := S.cp; rw [e] at e'; cases e'; rw [d'] at dd; cases dd
theorem LS.listNot {h : Heap} (S : LS w g L h m d t z p) {b : Addr} {vs : Array Value} (x : h.IsList b vs) : ¬ Mut L b := let ⟨_, e, _, _, dd⟩ := x; S.seqNot e dd
theorem LS.tupNot {h : Heap} (S : LS w g L h m d t z p) {b : Addr} {vs : Array Value} (x : h.IsTuple b vs) : ¬ Mut L b := let ⟨_, e, _, _, dd⟩ := x; S.seqNot e dd
theorem tuple_at {h h' : Heap} {T : Addr} {vs : Array Value} (x : h.IsTuple T vs) (k : ∀ o, h.get? T = some o → h'.get? T = some o) : h'.IsTuple T vs := let ⟨o, e, r⟩ := x; ⟨o, k o e, r⟩
theorem PairAt.keep {h h' : Heap} {v : Value} {u : List Bool} (x : PairAt h v u) (k : ∀ T o, v = .ref T → o.cls = .type "tuple" → h.get? T = some o → h'.get? T = some o) : PairAt h' v u := by
  obtain ⟨T, t, u, rfl, o, e, c, r⟩ := x
  exact ⟨T, t, u, rfl, o, k T o rfl c e, c, r⟩
theorem WordsAt.up {h h' : Heap} {D : Addr} {ws : List (List Bool)} (S : LS w g L h m d t z p) (x : WordsAt h D ws) (u : Up L h h') : WordsAt h' D ws := by
  obtain ⟨vs, hl, e, k⟩ := x.ex
  refine ⟨vs, u.keepList (S.listNot hl) hl, e, fun i v q h1 h2 => (k i v q h1 h2).keep fun T o e1 _ e => ?_⟩
  obtain ⟨T', t₁, u₁, e2, hT⟩ := k i v q h1 h2
  rw [e2] at e1
  have := Value.ref.inj e1
  subst this
  exact u _ _ (S.tupNot hT) e
/-- but for a list that is turned -/
theorem WordsAt.but {h h' : Heap} {D C : Addr} {cs : Array Value} {ws : List (List Bool)} (x : WordsAt h D ws) (hC : h.IsList C cs) (n : C ≠ D) (u : ∀ b o, b ≠ C → h.get? b = some o → h'.get? b = some o) : WordsAt h' D ws := by
  obtain ⟨vs, hl, e, k⟩ := x.ex
  refine ⟨vs, hl.at fun o e => u _ o n.symm e, e, fun i v q h1 h2 => (k i v q h1 h2).keep fun T o _ c e => u _ _ (fun q => ?_) e⟩
  obtain ⟨o', e', c', _⟩ := hC
  rw [q, e'] at e; cases e; rw [c] at c'; exact absurd (Value.type.inj c') (by decide)
noncomputable def sizeBody (w : World) : List Stmt := match lawSt w 20 with
  | .For _ _ b _ _ => b
  | _ => []
noncomputable def sizeSt (w : World) (k : Nat) : Stmt := ((sizeBody w)[k]?).getD (.Pass default)
set_option maxHeartbeats 2000000 in
theorem size0 {S D W N n : Nat} {X : List Bool} {td tz : Tok} {Dw Dr : Addr} {rv : List Value} (G : Gr w g L) (r : Room A 20) (ls : LS w g L s.heap m (some (.int D td)) t (some (.int n tz)) p)
    (hw : m (Str.ofString "words") = some (.ref Dw)) (hr : m (Str.ofString "rests") = some (.ref Dr)) (K : Words S D W N X) (hn : n ≤ N) (hN : N ≤ 12) (hD : D < 2 ^ 12) (Wd : WordsAt s.heap Dw (wds X n)) (R : RestsAt S D N s.heap Dr rv)
    (h : ∀ h' tk, LS w g L h' m (some (.int D td)) t (some (.int n tz)) p → Ext s.heap h' → Q .next { s with heap := h', toks := tk }) :
    wpAny (model prog w) A (exec (sizeSt w 0) (lawEnv w L fa cd)) Q E s := by
  show wpAny _ _ (exec (.If (.Compare (.ListComp (.Name _ _) [⟨.Tuple [.Name _ _, .Name _ _] _ _, .Name _ _, [], 0⟩] _ _) _ [.Call (.Name _ _) [.Call (.Name _ _) [.ListComp (.BinOp (.BinOp (.Name _ _) _ (.BinOp (.Constant _ _ _) _ (.Name _ _) _) _) _ (.Name _ _) _) [⟨.Name _ _, .Name _ _, [], 0⟩] _ _] [] _] [] _] _) [_] [] _) _) _ _ _
  have hL : (lawEnv w L fa cd).locals = L := by kernel_rfl
  have hpN := K.count_le hn
  obtain ⟨wv, hwl, hwn, hwp⟩ := Wd.ex
  with_reducible refine wpAny_If ?_
  with_reducible refine wpAny_isTrue_Compare1 ?_
  refine pair_comp (cl := []) (by decide) r.handled (by kernel_rfl) (by decide) (by kernel_rfl) (by decide) (by kernel_rfl) (by kernel_rfl) ?_
  refine lloc ls hw ?_
  refine ⟨Dw, wv.toArray, fun _ i ys _ => i ≤ wv.length → IntsAre ys (((wds X n).take i).map fun u => ((val u : Nat) : Int)), rfl, hwl, ⟨by rw [List.size_toArray]; omega, fun _ _ _ _ _ hr _ => hr, fun _ _ _ _ _ => by simpa using IntsAre.nil, ?_⟩, ?_⟩
  · intro off C i v ys h₁ hoff hoffs oC hv hrel up₁
    have hv' : wv[i]? = some v := by simpa using hv
    have hi : i < wv.length := (List.getElem?_eq_some_iff.mp hv').1
    obtain ⟨u, hu⟩ : ∃ u, (wds X n)[i]? = some u := ⟨_, List.getElem?_eq_getElem (by omega)⟩
    obtain ⟨T, t₁, t₂, rfl, hT⟩ := hwp i v u hv' hu
    refine ⟨T, _, _, rfl, hT, fun h' tk' m' hn' ha hb hr' up' hs' => ?_⟩
    refine wpAny_tests_nil (And.intro (Keeps.refl' _) (And.intro (fun e => by cases e) (fun _ => ?_)))
    refine lname (s := ⟨h', _, _, _, _⟩) (m := m') hn' hb ?_
    refine And.intro (Keeps.refl' _) (fun _ => ?_)
    rw [List.take_add_one, hu, Option.toList_some, List.map_append]
    exact intsAre_snoc (hr' (by omega)) _ _
  · intro off D₁ ys h₁ tk₁ hoff oD hD₁ hlen hrel up₁
    have hI₁ := hrel (by simp)
    rw [List.size_toArray, hwn, List.take_length] at hI₁
    have ls₁ := ls.ext up₁
    have hl₁ := hD₁.isList
    have hR₁ : h₁.IsList Dr rv.toArray := (R.lst.isList).at fun o e => up₁ _ o e
    have hrl : rv.length = N := by rw [IntsAre.length R.its]; simp
    have hD0 : 0 < D := by have := K.lt; omega
    refine Call_ ?_
    refine bname (w := w) (s := ⟨h₁, _, _, _, _⟩) (G.B.keeps ls₁.keep) (by kernel_rfl) (v := .builtin "sorted") (by decide +kernel) ?_
    refine PyProof.Rows.callWith_builtin1 ?_
    refine spliced_more ?_
    refine Call_ ?_
    refine bname (w := w) (s := ⟨h₁, _, _, _, _⟩) (G.B.keeps ls₁.keep) (by kernel_rfl) (v := .type "set") (by decide +kernel) ?_
    refine PyProof.Rows.callWith_type1 ?_
    refine spliced_more ?_
    refine wpAny_ListComp_free (cl := [(Str.ofString "size", L + 3), (Str.ofString "divisor", L + 1)]) (fun _ => true) (fun v y => ∃ (x : Nat) (t t' : Tok), v = .int x t ∧ y = .int (x * 2 ^ n / D : Nat) t') (by kernel_rfl) (by decide) (by kernel_rfl) (by decide) (by kernel_rfl) ?_
    refine lloc (s := ⟨h₁, _, _, _, _⟩) ls₁ hr ?_
    have hne₁ : Dr ≠ h₁.objs.size := by obtain ⟨o, e, _⟩ := hR₁; exact Nat.ne_of_lt (Heap.lt_size e)
    refine wpAny_pyIter_list hR₁ ?_
    have hitem : ∀ j v, rv.toArray[j]? = some v → j < N ∧ ∃ t, v = .int (T S D j : Nat) t := fun j v e => by
      have e' : rv[j]? = some v := by simpa using e
      have hj : j < N := by rw [← hrl]; exact (List.getElem?_eq_some_iff.mp e').1
      obtain ⟨t, et⟩ := R.its.get j ((T S D j : Nat) : Int) (by rw [List.getElem?_map, List.getElem?_range hj]; rfl)
      rw [e'] at et
      exact ⟨hj, t, Option.some.inj et⟩
    refine ⟨h₁.objs.size, [h₁.objs.size, Dr], [h₁.objs.size], _, _, _, rfl, Walks.list (by exact r.handled) h₁.objs.size Dr hne₁ rv.toArray, (by simp [hrl, sizeLine_eq]; omega), ⟨⟨_, Heap.get?_push_size _ rfl, rfl, rfl⟩, hR₁.at fun o e => Heap.get?_push_of_some _ e⟩, ?_, ⟨?_, ?_⟩, ?_⟩
    · intro b hb
      show b < (h₁.push _).objs.size
      rw [Heap.size_push]
      rcases List.mem_cons.mp hb with rfl | hb
      · exact Nat.lt_succ_self _
      · rw [List.mem_singleton.mp hb]
        obtain ⟨o, e, _⟩ := hR₁
        exact Nat.lt_succ_of_lt (Heap.lt_size e)
    · intro C i v s₃ m₃ E' _ _ _ _ _ _
      exact wpAny_tests_nil ⟨rfl, Keeps.refl' _⟩
    · intro C i v s₃ m₃ E' _ hP _ hn₃ hm₃ hk₃ _
      obtain ⟨hj, tv, rfl⟩ := hitem i v hP
      have hTi := T_lt K.lt i
      have up₃ : Ext h₁ s₃.heap := fun b o e => hk₃ b o (fun q => absurd (Heap.lt_size e) ((List.mem_singleton.mp q) ▸ Nat.lt_irrefl _)) (Heap.get?_push_of_some _ e)
      with_reducible refine wpAny_BinOp ?_
      with_reducible refine wpAny_BinOp ?_
      refine lname (m := m₃) hn₃ hm₃ ?_
      with_reducible refine wpAny_BinOp ?_
      with_reducible refine wpAny_Constant_int ?_
      refine cname (c := L + 3) (by kernel_rfl) (ls₁.cz.keeps up₃) ?_
      refine pow2n (by omega) ?_
      refine muln (by omega) ?_
      refine cname (c := L + 1) (by kernel_rfl) (ls₁.cd.keeps up₃) ?_
      refine divn (by omega) (by omega) ?_
      exact ⟨⟨T S D i, tv, _, rfl, rfl⟩, ⟨_, _, rfl, fun _ _ e => e⟩⟩
    · intro D₂ h₂ tk₂ ys₂ vs₂ hD₂ hl₂ hpl₂ hlen₂ hP₂ hF₂ hk₂
      refine spliced_none ?_
      rw [List.filter_eq_self.mpr (fun _ _ => rfl)] at hF₂
      have hvs : vs₂.length = N := by rw [hlen₂]; simp [hrl]
      have hI₂ : IntsAre ys₂.toList ((List.range N).map fun i => ((T S D i * 2 ^ n / D : Nat) : Int)) := by
        refine intsAre_of_get (by rw [← hF₂.length, hvs]; simp) fun j v y e1 e2 => ?_
        obtain ⟨a, ha, x, t0, t1, rfl, rfl⟩ := Paired.get hF₂ j v e1
        obtain ⟨hj, t2, e3⟩ := hitem j _ (hP₂ j _ ha)
        rw [List.getElem?_map, List.getElem?_range hj] at e2
        refine ⟨t1, ?_⟩
        have e4 : x = T S D j := by have := (Value.int.inj e3).1; omega
        rw [e4]
        congr 1
        exact (Option.some.inj e2)
      have up₂ : Ext h₁ h₂ := fun b o e => hk₂ b o (fun q => absurd (Heap.lt_size e) ((List.mem_singleton.mp q) ▸ Nat.lt_irrefl _)) (Heap.get?_push_of_some _ e)
      refine set_sorted (s := ⟨h₂, _, _, _, _⟩) (vs := ys₂.toList) r.handled (by rw [Array.toArray_toList]; exact hl₂) hI₂ (by simp; omega) fun h₃ tk₃ a₃ up₃ sorts => ?_
      dsimp only at up₃
      refine spliced_none ?_
      refine sorts _ fun h₄ tk₄ D₄ vs₄ ns₄ up₄ nD₄ hl₄ hI₄ hs₄ hm₄ => ?_
      have up₁₄ : Ext h₁ h₄ := (up₂.trans up₃).trans up₄
      refine ke_ne_ints (s := ⟨h₄, _, _, _, _⟩) (hl₁.at fun o e => up₁₄ _ o e) hl₄ hI₁ hI₄ (by have := r.units; omega) ?_
      have heq : ((wds X n).map fun u => ((val u : Nat) : Int)) = ns₄ := by
        refine sorted_ext ?_ hs₄ fun x => ?_
        · rw [List.pairwise_map]
          exact (wds_sorted X n).imp fun h => by omega
        · rw [hm₄ x]
          constructor
          · intro hx
            obtain ⟨u, hu, rfl⟩ := List.mem_map.mp hx
            obtain ⟨i, hi, e⟩ := List.mem_map.mp ((K.numbers hn _).mp (List.mem_map.mpr ⟨u, hu, rfl⟩))
            exact List.mem_map.mpr ⟨i, hi, by rw [e]⟩
          · intro hx
            obtain ⟨i, hi, rfl⟩ := List.mem_map.mp hx
            obtain ⟨u, hu, e⟩ := List.mem_map.mp ((K.numbers hn _).mpr (List.mem_map.mpr ⟨i, hi, rfl⟩))
            exact List.mem_map.mpr ⟨u, hu, by rw [e]⟩
      rw [decide_eq_true heq]
      with_reducible refine wpAny_truthy_bool ?_
      rw [if_neg (by decide)]
      with_reducible refine wpAny_execs_nil ?_
      exact h h₄ _ (ls₁.ext up₁₄) (up₁.trans up₁₄)
end
end Mine
namespace Mine
/-- the last two of a list of numbers -/
theorem sl2 {prog : Program} {w : World} {A : Around} {E : Value → Shared → Prop} {s : Shared} {L : Addr} {m : Str → Option Value} {value slice : Expr} {D : Addr} {vs : List Value} {ns : List Int} {i : Tok} {Q : Value → Shared → Prop} (hn : s.heap.Ns L m) (hl : s.heap.IsList D vs.toArray) (hi : IntsAre vs ns) (hsz : vs.length ≤ 1000)
    (h : ∀ h' D' vs', h'.Ns L m → (∀ b o, b ≠ L → s.heap.get? b = some o → h'.get? b = some o) → s.heap.get? D' = none → h'.IsList D' vs'.toArray → IntsAre vs' (ns.drop (ns.length - 2)) → Q (.ref D') { s with heap := h' })
    (hs : subscripted slice false (.ref D) (.ref s.heap.objs.size) = operate [.ref s.heap.objs.size, .ref D] (getItem (.ref D) (.ref s.heap.objs.size)) := by with_unfolding_all rfl) (ht : ∀ r, letTemporaryGo value (.ref D) r = pure () := by intro _; with_unfolding_all rfl) :
    wpAny (model prog w) A (subscriptTail value slice (.ref D) (.ref s.heap.objs.size)) Q E { s with heap := s.heap.push { cls := .type "slice", data := .fields #[.int (-2) i, .none, .none] } } := by
  refine kmk_slice_lit (fr0 hn) (news0 (L := L)) hl (.int (-2) i) .none rfl (fun D' h' F' N' lt => ?_) hs ht (by rw [List.size_toArray, sizeLine_eq]; omega)
  obtain ⟨a, b⟩ := back0 (new := [_]) F' N'
  have n := N' _ (.head _)
  refine h h' D' _ a b (fresh_of_lt n.2.1 lt) ⟨_, n.1, rfl, _, rfl⟩ ?_
  exact kmk_from_neg hi (by decide)
theorem two_ints (n : Int) (t : Tok) : IntsAre (Array.replicate 2 (Value.int n t)).toList [n, n] := .cons n t (.cons n t .nil)
section
variable {prog : Program} {w : World} {A : Around} {E : Value → Shared → Prop} {s : Shared} {g : Heap} {L fa : Addr} {cd : Value} {m : Str → Option Value} {d t z p : Option Value} {l : List (Str × Value)} {Q : Flow → Shared → Prop}
/-- counts.append(len(words)) -/
theorem size1 {Dw Dc : Addr} {wv cv : List Value} {cs : List Int} (G : Gr w g L) (ls : LS w g L s.heap m d t z p)
    (hw : m (Str.ofString "words") = some (.ref Dw)) (hc : m (Str.ofString "counts") = some (.ref Dc)) (hl : s.heap.IsList Dw wv.toArray) (hC : s.heap.PlainList Dc cv.toArray) (hi : IntsAre cv cs) (hsz : wv.length ≤ 1000) (hsz2 : cv.length ≤ 1000)
    (h : ∀ h' tk cv', h'.PlainList Dc cv'.toArray → IntsAre cv' (cs ++ [(wv.length : Int)]) → Heap.SameBut Dc s.heap h' → Q .next { s with heap := h', toks := tk }) :
    wpAny (model prog w) A (exec (sizeSt w 1) (lawEnv w L fa cd)) Q E s := by
  show wpAny _ _ (exec (.Expr (.Call (.Attribute (.Name _ _) _ _) [.Call (.Name _ _) [.Name _ _] [] _] [] _) _) _) _ _ _
  refine wpAny_Expr ?_
  refine MethodCall_ ?_
  refine lloc ls hc ?_
  obtain ⟨nn, eDr⟩ := id hC
  refine getMethod_list_append eDr rfl rfl ?_
  dsimp only
  refine callWith_method1 ?_
  refine spliced_more ?_
  refine Call_ ?_
  refine bname (w := w) (G.B.keeps ls.keep) (by kernel_rfl) boot_len ?_
  refine PyProof.Rows.callWith_builtin1 ?_
  refine spliced_more ?_
  refine lloc ls hw ?_
  refine spliced_none ?_
  refine len_list hl (by rw [List.size_toArray]; omega) ?_
  refine spliced_none ?_
  refine append_list (s := ⟨s.heap, _, _, _, _⟩) hC hsz2 fun h₁ hp₁ hs₁ => ?_
  refine h h₁ _ _ hp₁ ?_ hs₁
  rw [List.size_toArray]
  exact intsAre_snoc hi _ _
/-- the test on the last two counts, for a name's length -/
theorem lastTwo {x : Str} {px p1 p2 p3 p4 p5 p6 p7 p8 p9 p10 : Pos} {k1 k2 : Nat} {Dw Dc : Addr} {wv cv : List Value} {cs : List Int} {Q : Value → Value → Shared → Prop} (G : Gr w g L) (ls : LS w g L s.heap m d t z p)
    (hx : m x = some (.ref Dw)) (hc : m (Str.ofString "counts") = some (.ref Dc)) (hl : s.heap.IsList Dw wv.toArray) (hC : s.heap.IsList Dc cv.toArray) (hi : IntsAre cv cs) (hsz : wv.length ≤ 1000) (hsz2 : cv.length ≤ 1000)
    (hk : (lawEnv w L fa cd).kindOf x = some .local := by kernel_rfl) (hxd : (x == ("__debug__" : Str)) = false := by decide)
    (h : ∀ h' tk D₁ D₂ v₁ v₂, LS w g L h' m d t z p → Up L s.heap h' → h'.IsList D₁ v₁.toArray → IntsAre v₁ (cs.drop (cs.length - 2)) → h'.IsList D₂ v₂.toArray → IntsAre v₂ [(wv.length : Int), (wv.length : Int)] → Q (.ref D₁) (.ref D₂) { s with heap := h', toks := tk }) :
    wpAny (model prog w) A (eval (.Subscript (.Name (Str.ofString "counts") p1) (.Slice (some (.UnaryOp .USub (.Constant (.int 2) k1 p2) p3)) none none p4) p5) (lawEnv w L fa cd)) (fun a s₁ =>
      wpAny (model prog w) A (eval (.BinOp (.List [.Call (.Name (Str.ofString "len") p6) [.Name x px] [] p7] p8) .Mult (.Constant (.int 2) k2 p9) p10) (lawEnv w L fa cd)) (fun b s₂ => Q a b s₂) E s₁) E s := by
  have hL : (lawEnv w L fa cd).locals = L := by kernel_rfl
  have gL := G.noneAt (.inr (.inl rfl) : Mut L L)
  refine Subscript_ ?_
  refine lloc ls hc ?_
  with_reducible refine wpAny_Slice ?_
  with_reducible refine evalPart_some_step ?_
  with_reducible refine wpAny_UnaryOp ?_
  with_reducible refine wpAny_Constant_int ?_
  with_reducible refine neg_int ?_
  with_reducible refine evalPart_none_step ?_
  with_reducible refine evalPart_none_step ?_
  refine sl2 (s := ⟨s.heap, _, _, _, _⟩) (L := L) ls.ns hC hi hsz2 fun h₁ D₁ v₁ hn₁ k₁ n₁ hl₁ hi₁ => ?_
  (try dsimp only at k₁ n₁); (try dsimp only)
  obtain ⟨ls₁, u₁⟩ := ls.setE gL hn₁ k₁
  with_reducible refine wpAny_BinOp ?_
  with_reducible refine List_ ?_
  refine spliced_more ?_
  refine Call_ ?_
  refine bname (w := w) (s := ⟨h₁, _, _, _, _⟩) (G.B.keeps ls₁.keep) (by kernel_rfl) boot_len ?_
  refine PyProof.Rows.callWith_builtin1 ?_
  refine spliced_more ?_
  refine lloc (s := ⟨h₁, _, _, _, _⟩) ls₁ hx ?_ hk hxd
  refine spliced_none ?_
  refine len_list (items := wv.toArray) (u₁.keepList (ls.listNot hl) hl) (by rw [List.size_toArray]; omega) ?_
  refine spliced_none ?_
  refine newList' fun h₂ D₂ up₂ n₂ hD₂ => ?_
  (try dsimp only at up₂ n₂); (try dsimp only)
  have ls₂ := ls₁.ext up₂
  with_reducible refine wpAny_Constant_int ?_
  refine mul1 (k := 2) (s := ⟨h₂, _, _, _, _⟩) (L := L) ls₂.ns hD₂ (by omega) fun h₃ D₃ hn₃ k₃ n₃ hD₃ => ?_
  (try dsimp only at k₃ n₃); (try dsimp only)
  obtain ⟨ls₃, u₃⟩ := ls₂.setE gL hn₃ k₃
  have hL₃ : h₃.IsList D₃ _ := ⟨_, hD₃, rfl, _, rfl⟩
  rw [List.size_toArray] at hL₃
  exact h h₃ _ D₁ D₃ v₁ (Array.replicate 2 (Value.int (wv.length : Int) _)).toList ls₃ ((u₁.trans up₂.up).trans u₃) (u₃.keepList (ls₂.listNot (hl₁.at fun o e => up₂ _ o e)) (hl₁.at fun o e => up₂ _ o e)) hi₁ (by rw [Array.toArray_toList]; exact hL₃) (two_ints _ _)
end
end Mine
namespace Mine
theorem flat2_get (b : Bool) : ∀ {ws : List (List Bool)} {i : Nat} {u : List Bool}, ws[i]? = some u → (ws.flatMap ext2)[2 * i + b.toNat]? = some (u ++ [b])
  | [], i, u, h => by simp at h
  | x :: ws, 0, u, h => by
    simp only [List.getElem?_cons_zero, Option.some.injEq] at h
    subst h
    cases b <;> rfl
  | x :: ws, i + 1, u, h => by
    have := flat2_get b (ws := ws) (i := i) (u := u) (by simpa using h)
    rw [List.flatMap_cons, List.getElem?_append_right (by simp [ext2]; omega)]
    rw [← this]
    congr 1
    simp [ext2]; omega
theorem flat2_length (ws : List (List Bool)) : (ws.flatMap ext2).length = 2 * ws.length := by
  induction ws with
  | nil => rfl
  | cons x ws ih => rw [List.flatMap_cons, List.length_append, ih, List.length_cons]; simp [ext2]; omega
section
variable {prog : Program} {w : World} {A : Around} {E : Value → Shared → Prop} {s : Shared} {g : Heap} {L fa : Addr} {cd : Value} {m : Str → Option Value} {d t z p : Option Value} {l : List (Str × Value)} {Q : Flow → Shared → Prop}
/-- if counts[-2:] == [len(words)] * 2: break -/
theorem size2 {Dw Dc : Addr} {wv cv : List Value} {cs : List Int} (G : Gr w g L) (r : Room A 20) (ls : LS w g L s.heap m d t z p)
    (hw : m (Str.ofString "words") = some (.ref Dw)) (hc : m (Str.ofString "counts") = some (.ref Dc)) (hl : s.heap.IsList Dw wv.toArray) (hC : s.heap.IsList Dc cv.toArray) (hi : IntsAre cv cs) (hsz : wv.length ≤ 1000) (hsz2 : cv.length ≤ 1000)
    (h : ∀ h' tk, LS w g L h' m d t z p → Up L s.heap h' → Q (if cs.drop (cs.length - 2) = [(wv.length : Int), (wv.length : Int)] then .brk else .next) { s with heap := h', toks := tk }) :
    wpAny (model prog w) A (exec (sizeSt w 2) (lawEnv w L fa cd)) Q E s := by
  show wpAny _ _ (exec (.If (.Compare (.Subscript (.Name _ _) (.Slice (some (.UnaryOp _ (.Constant _ _ _) _)) none none _) _) _ [.BinOp (.List [.Call (.Name _ _) [.Name _ _] [] _] _) _ (.Constant _ _ _) _] _) [.Break _] [] _) _) _ _ _
  with_reducible refine wpAny_If ?_
  with_reducible refine wpAny_isTrue_Compare1 ?_
  refine lastTwo G ls hw hc hl hC hi hsz hsz2 (by kernel_rfl) (by decide) fun h₁ tk₁ D₁ D₂ v₁ v₂ ls₁ u₁ l₁ i₁ l₂ i₂ => ?_
  refine ke_eq_ints (s := ⟨h₁, _, _, _, _⟩) l₁ l₂ i₁ i₂ (by have := r.units; omega) ?_
  with_reducible refine wpAny_truthy_bool ?_
  have := h h₁ tk₁ ls₁ u₁
  by_cases hq : cs.drop (cs.length - 2) = [(wv.length : Int), (wv.length : Int)]
  · rw [if_pos hq] at this
    rw [if_pos (decide_eq_true hq)]
    with_reducible refine wpAny_execs_cons ?_
    refine wpAny_Break ?_
    exact this
  · rw [if_neg hq] at this
    rw [if_neg (by rw [decide_eq_false hq]; decide)]
    with_reducible refine wpAny_execs_nil ?_
    exact this
/-- the pairs made so far -/
noncomputable def MadeTo (s₁ : Heap) (us : List (List Bool)) (off : Addr → Prop) (i : Nat) (ys : List Value) (h : Heap) : Prop :=
  i ≤ us.length → ys.length = i ∧ ∀ (j : Nat) v u, ys[j]? = some v → us[j]? = some u → ∃ T t t', v = .ref T ∧ ¬ off T ∧ s₁.get? T = none ∧ h.IsTuple T #[.str (ab u) t, .int (val u : Nat) t']
theorem MadeTo.stab {s₁ h h' : Heap} {us : List (List Bool)} {off : Addr → Prop} {i : Nat} {ys : List Value} (x : MadeTo s₁ us off i ys h) (k : ∀ c o, ¬ off c → h.get? c = some o → h'.get? c = some o) : MadeTo s₁ us off i ys h' := fun hi => by
  obtain ⟨a, b⟩ := x hi
  refine ⟨a, fun j v u h1 h2 => ?_⟩
  obtain ⟨T, t, t', e, n, n2, hT⟩ := b j v u h1 h2
  exact ⟨T, t, t', e, n, n2, tuple_at hT fun o e => k T o n e⟩
theorem MadeTo.zero {s₁ h : Heap} {us : List (List Bool)} {off : Addr → Prop} : MadeTo s₁ us off 0 [] h := fun _ => ⟨rfl, fun j v u h1 _ => by simp at h1⟩
theorem MadeTo.snoc {s₁ h h' : Heap} {us : List (List Bool)} {off : Addr → Prop} {i : Nat} {ys : List Value} (x : MadeTo s₁ us off i ys h) (k : Ext h h') {T : Addr} {t t' : Tok} {u : List Bool} (hu : us[i]? = some u) (hT : h'.IsTuple T #[.str (ab u) t, .int (val u : Nat) t'])
    (n : ¬ off T) (n2 : s₁.get? T = none) : MadeTo s₁ us off (i + 1) (ys ++ [.ref T]) h' := fun hi => by
  obtain ⟨a, b⟩ := x (by omega)
  refine ⟨by simp [a], fun j v u' h1 h2 => ?_⟩
  by_cases hj : j < ys.length
  · rw [List.getElem?_append_left hj] at h1
    obtain ⟨T', t1, t2, e, n', n2', hT'⟩ := b j v u' h1 h2
    exact ⟨T', t1, t2, e, n', n2', tuple_at hT' fun o e => k _ o e⟩
  · have hj' : j = i := by
      have := (List.getElem?_eq_some_iff.mp h1).1
      simp at this; omega
    subst hj'
    rw [List.getElem?_append_right (by omega), a] at h1
    rw [hu] at h2
    cases h2
    simp only [Nat.sub_self, List.getElem?_cons_zero, Option.some.injEq] at h1
    exact ⟨T, t, t', h1.symm, n, n2, hT⟩
theorem MadeTo.words {s₁ h h' : Heap} {us : List (List Bool)} {off : Addr → Prop} {ys : List Value} {D L : Addr} (x : MadeTo s₁ us off us.length ys h) (hL : (s₁.get? L).isSome = true) (k : ∀ c o, c ≠ L → ¬ off c → h.get? c = some o → h'.get? c = some o) (hD : h'.IsList D ys.toArray) : WordsAt h' D us := by
  obtain ⟨a, b⟩ := x (Nat.le_refl _)
  refine ⟨ys, hD, a, fun j v u h1 h2 => ?_⟩
  obtain ⟨T, t, t', e, n, n2, hT⟩ := b j v u h1 h2
  exact ⟨T, t, t', e, tuple_at hT fun o e => k T o (fun q => by rw [q] at n2; rw [n2] at hL; cases hL) n e⟩
set_option maxHeartbeats 2000000 in
/-- longer = .. -/
theorem size3 {Dw : Addr} {ws : List (List Bool)} (G : Gr w g L) (r : Room A 20) (ls : LS w g L s.heap m d t z p)
    (hw : m (Str.ofString "words") = some (.ref Dw)) (Wd : WordsAt s.heap Dw ws) (hsz : ws.length ≤ 100) (hlen : ∀ u ∈ ws, u.length ≤ 100 ∧ val u < 2 ^ 100)
    (h : ∀ h' tk D, LS w g L h' (fun y => if y = Str.ofString "longer" then some (.ref D) else m y) d t z p → Up L s.heap h' → WordsAt h' D (ws.flatMap ext2) → s.heap.get? D = none → Q .next { s with heap := h', toks := tk }) :
    wpAny (model prog w) A (exec (sizeSt w 3) (lawEnv w L fa cd)) Q E s := by
  show wpAny _ _ (exec (.Assign [.Name _ _] (.ListComp (.Tuple [.BinOp (.Name _ _) _ (.Subscript (.Constant _ _ _) (.Name _ _) _) _, .BinOp (.BinOp (.Constant _ _ _) _ (.Name _ _) _) _ (.Name _ _) _] _ _) [⟨.Tuple [.Name _ _, .Name _ _] _ _, .Name _ _, [], 0⟩, ⟨.Name _ _, .Call (.Name _ _) [.Constant _ _ _] [] _, [], 0⟩] _ _) _) _) _ _ _
  have hL : (lawEnv w L fa cd).locals = L := by kernel_rfl
  have gL := G.noneAt (.inr (.inl rfl) : Mut L L)
  obtain ⟨wv, hwl, hwn, hwp⟩ := Wd.ex
  refine pair2_comp_assign (cl := []) (by rfl) (by decide) (by decide) (by decide) r.handled (by kernel_rfl) (by decide) (by kernel_rfl) (by decide) (by kernel_rfl) (by kernel_rfl) (by kernel_rfl) (by kernel_rfl) (by kernel_rfl) ?_ (by intro _; rfl) (by intro _ _; rfl)
  refine lloc ls hw ?_
  refine ⟨Dw, wv.toArray, fun off i ys h => MadeTo s.heap (ws.flatMap ext2) off i ys h, m, rfl, hwl, by rw [hL]; exact ls.ns, ⟨by rw [List.size_toArray]; omega, fun off i ys h h' hr k => hr.stab k, ?_, ?_, fun _ _ _ _ => MadeTo.zero, ?_, ?_, ?_⟩, ?_⟩
  · intro off J i ys h₁ hr nJ hi
    obtain ⟨a, b⟩ := hr hi
    refine ⟨a, fun j v u h1 h2 => ?_⟩
    obtain ⟨T, t, t', e, n, n2, hT⟩ := b j v u h1 h2
    refine ⟨T, t, t', e, fun q => q.elim n fun q => ?_, n2, hT⟩
    obtain ⟨o, eo, _⟩ := hT
    rw [q, nJ] at eo; cases eo
  · intro off off' i ys h₁ hr k hi
    obtain ⟨a, b⟩ := hr hi
    refine ⟨a, fun j v u h1 h2 => ?_⟩
    obtain ⟨T, t, t', e, n, n2, hT⟩ := b j v u h1 h2
    exact ⟨T, t, t', e, fun q => n (k _ q), n2, hT⟩
  · intro C m' h₁ tk hn₁ up₁
    refine Call_ ?_
    refine bname (w := w) (s := ⟨h₁, _, _, _, _⟩) (G.B.keeps (ls.keep.trans up₁)) (by kernel_rfl) boot_range ?_
    refine PyProof.Rows.callWith_type1 ?_
    refine spliced_more ?_
    with_reducible refine wpAny_Constant_int ?_
    refine spliced_none ?_
    refine call_range_1 ?_
    exact ⟨⟨_, _, rfl, fun _ _ e => Heap.get?_push_of_some _ e⟩, _, _, _, _, rfl, Heap.get?_push_size _ rfl⟩
  · intro i v hv
    have hv' : wv[i]? = some v := by simpa using hv
    have hi : i < wv.length := (List.getElem?_eq_some_iff.mp hv').1
    obtain ⟨u, hu⟩ : ∃ u, ws[i]? = some u := ⟨_, List.getElem?_eq_getElem (by omega)⟩
    obtain ⟨T, t₁, t₂, rfl, hT⟩ := hwp i v u hv' hu
    exact ⟨T, _, _, rfl, hT⟩
  · intro off C i T x y k tk₀ ys h₁ tk₁ m' hoff hoffs hv hT hk hn₁ ha hb hc hr up₁
    have hv' : wv[i]? = some (.ref T) := by simpa using hv
    have hi : i < wv.length := (List.getElem?_eq_some_iff.mp hv').1
    obtain ⟨u, hu⟩ : ∃ u, ws[i]? = some u := ⟨_, List.getElem?_eq_getElem (by omega)⟩
    obtain ⟨T', t₁, t₂, e1, hT'⟩ := hwp i _ u hv' hu
    cases e1
    have hxy : x = .str (ab u) t₁ ∧ y = .int (val u : Nat) t₂ := by
      obtain ⟨o, eo, _, n, dd⟩ := hT
      obtain ⟨o', eo', _, n', dd'⟩ := hT'
      rw [eo] at eo'; cases eo'
      rw [dd] at dd'
      have := (Data.seq.inj dd').1
      simpa using this
    obtain ⟨rfl, rfl⟩ := hxy
    have hum := hlen u (List.mem_of_getElem? hu)
    refine Tuple_ ?_
    refine spliced_more ?_
    with_reducible refine wpAny_BinOp ?_
    refine lname (s := ⟨h₁, _, _, _, _⟩) (m := m') hn₁ ha ?_
    refine Subscript_ ?_
    with_reducible refine Calls.Constant_str ?_
    refine lname (s := ⟨h₁, _, _, _, _⟩) (m := m') hn₁ hc ?_
    refine ab_item (b := decide (k = 1)) (by have : k = 0 ∨ k = 1 := by omega
                                             rcases this with rfl | rfl <;> rfl) ?_
    have el : letter (decide (k = 1)) = ab [decide (k = 1)] := rfl
    rw [el]
    refine SBL.add (hsz := by rw [ab_length, ab_length, sizeLine_eq, List.length_singleton]; omega) fun t₃ k₃ _ => ?_
    rw [← ab_append]
    refine spliced_more ?_
    with_reducible refine wpAny_BinOp ?_
    with_reducible refine wpAny_BinOp ?_
    with_reducible refine wpAny_Constant_int ?_
    refine lname (s := ⟨h₁, _, _, _, _⟩) (m := m') hn₁ hb ?_
    refine muln (a := 2) (by decide) ?_
    refine lname (s := ⟨h₁, _, _, _, _⟩) (m := m') hn₁ hc ?_
    refine addn ?_
    refine spliced_none ?_
    refine newTuple' fun h₂ T₂ up₂ n₂ hT₂ => ?_
    (try dsimp only at up₂ n₂ hT₂); (try dsimp only)
    refine And.intro ⟨_, _, rfl, up₂⟩ ?_
    have hk' : (decide (k = 1)).toNat = k := by
      have : k = 0 ∨ k = 1 := by omega
      rcases this with rfl | rfl <;> rfl
    have hg := flat2_get (decide (k = 1)) hu
    rw [hk'] at hg
    have hvl : val (u ++ [decide (k = 1)]) = 2 * val u + k := by
      rw [val_snoc]
      have : k = 0 ∨ k = 1 := by omega
      rcases this with rfl | rfl <;> rfl
    have hT₃ : h₂.IsTuple T₂ _ := ⟨_, hT₂, rfl, _, rfl⟩
    rw [← hvl] at hT₃
    refine hr.snoc up₂ hg hT₃ (fun q => ?_) (none_of_ext up₁ n₂)
    · have := hoffs _ q
      rw [n₂] at this; cases this
  · rintro off D ys h₁ tk₁ hoff oD hD₁ hlen₁ ⟨h₀, hr, hk⟩ hn₁ hk₁
    rw [hL] at hn₁ hk₁ hk
    obtain ⟨ls₁, u₁⟩ := ls.setE gL hn₁ hk₁
    have e2 : 2 * wv.toArray.size = (ws.flatMap ext2).length := by rw [List.size_toArray, hwn, flat2_length]
    rw [e2] at hr
    exact h h₁ tk₁ D ls₁ u₁ (hr.words (L := L) (by obtain ⟨o, e⟩ := ls.holds (.inr (.inl rfl) : Mut L L); rw [e]; rfl) hk hD₁.isList) (hoff D oD)
end
end Mine
namespace Mine
section
variable {prog : Program} {w : World} {A : Around} {E : Value → Shared → Prop} {s : Shared} {g : Heap} {L fa : Addr} {cd : Value} {m : Str → Option Value} {d t z p : Option Value} {l : List (Str × Value)} {Q : Flow → Shared → Prop}
theorem take_filter_snoc {ws : List (List Bool)} {q : List Bool → Bool} {i : Nat} {u : List Bool} (h : ws[i]? = some u) : (ws.take (i + 1)).filter q = (ws.take i).filter q ++ (if q u then [u] else []) := by
  rw [List.take_add_one, h, Option.toList_some, List.filter_append]
  congr 1
  cases hq : q u <;> simp [hq]
/-- the pairs kept so far -/
noncomputable def KeptTo (s₁ : Heap) (ws : List (List Bool)) (q : List Bool → Bool) (off : Addr → Prop) (i : Nat) (ys : List Value) (h : Heap) : Prop :=
  i ≤ ws.length → MadeTo s₁ ((ws.take i).filter q) off ((ws.take i).filter q).length ys h
theorem MadeTo.full {s₁ h : Heap} {us us' : List (List Bool)} {off : Addr → Prop} {ys : List Value} (x : MadeTo s₁ us off us.length ys h) : MadeTo s₁ (us ++ us') off us.length ys h := fun _ => by
  obtain ⟨a, b⟩ := x (Nat.le_refl _)
  refine ⟨a, fun j v u h1 h2 => b j v u h1 ?_⟩
  have hj := (List.getElem?_eq_some_iff.mp h1).1
  rwa [List.getElem?_append_left (by omega)] at h2
set_option maxHeartbeats 2000000 in
/-- words = .. -/
theorem size4 {Dg : Addr} {ws : List (List Bool)} {X : List Bool} {tt : Tok} (G : Gr w g L) (r : Room A 20) (ls : LS w g L s.heap m d (some (.str (ab X) tt)) z p)
    (hw : m (Str.ofString "longer") = some (.ref Dg)) (Wd : WordsAt s.heap Dg ws) (hsz : ws.length ≤ 100) (hX : X.length ≤ 100) (hlen : ∀ u ∈ ws, u.length ≤ 100)
    (h : ∀ h' tk D, LS w g L h' (fun y => if y = Str.ofString "words" then some (.ref D) else m y) d (some (.str (ab X) tt)) z p → Up L s.heap h' → WordsAt h' D (ws.filter (standsB · X)) → s.heap.get? D = none → Q .next { s with heap := h', toks := tk }) :
    wpAny (model prog w) A (exec (sizeSt w 4) (lawEnv w L fa cd)) Q E s := by
  show wpAny _ _ (exec (.Assign [.Name _ _] (.ListComp (.Tuple [.Name _ _, .Name _ _] _ _) [⟨.Tuple [.Name _ _, .Name _ _] _ _, .Name _ _, [.Call (.Name _ _) [.Name _ _, .Name _ _] [] _], 0⟩] _ _) _) _) _ _ _
  have hL : (lawEnv w L fa cd).locals = L := by kernel_rfl
  have gL := G.noneAt (.inr (.inl rfl) : Mut L L)
  obtain ⟨wv, hwl, hwn, hwp⟩ := Wd.ex
  refine pair_comp_assign (cl := [(Str.ofString "text", L + 2)]) (by rfl) (by decide) r.handled (by kernel_rfl) (by decide) (by kernel_rfl) (by decide) (by kernel_rfl) (by kernel_rfl) (by kernel_rfl) (by kernel_rfl) ?_
  refine lloc ls hw ?_
  refine ⟨Dg, wv.toArray, fun off i ys h => KeptTo s.heap ws (standsB · X) off i ys h, m, rfl, hwl, by rw [hL]; exact ls.ns, ⟨by rw [List.size_toArray]; omega, fun off i ys h h' hr k hi => (hr hi).stab k, fun _ _ _ _ _ => MadeTo.zero, ?_⟩, ?_⟩
  · intro off C i v ys h₁ hoff hoffs oC hv hrel up₁
    have hv' : wv[i]? = some v := by simpa using hv
    have hi : i < wv.length := (List.getElem?_eq_some_iff.mp hv').1
    obtain ⟨u, hu⟩ : ∃ u, ws[i]? = some u := ⟨_, List.getElem?_eq_getElem (by omega)⟩
    obtain ⟨T, t₁, t₂, rfl, hT⟩ := hwp i v u hv' hu
    have hum := hlen u (List.mem_of_getElem? hu)
    refine ⟨T, _, _, rfl, hT, fun h₂ tk₂ m₂ hn₂ ha hb hr₂ up₂ hs₂ => ?_⟩
    have ls₂ := ls.ext up₂
    have B₂ := G.B.keeps ls₂.keep
    refine wpAny_tests_one ?_
    refine isTrue_plain ?_
    refine Call_ ?_
    refine gname (w := w) (s := ⟨h₂, _, _, _, _⟩) B₂ (v := .ref 91) (by kernel_rfl) ?_
    refine callWith_K (K := KK w) (h₀ := h₂) B₂.K (by kernel_rfl) ?_
    refine spliced_more ?_
    refine lname (s := ⟨h₂, _, _, _, _⟩) (m := m₂) hn₂ ha ?_
    refine spliced_more ?_
    refine cname (c := L + 2) (s := ⟨h₂, _, _, _, _⟩) (by kernel_rfl) ls₂.ct ?_
    refine spliced_none ?_
    refine ⟨B₂.K, ?_⟩
    dsimp only [List.nil_append]
    refine stands_call (s := ⟨h₂, _, _, _, _⟩) (W := u) (X := X) B₂ (r.less (by omega)) (by omega) (by omega) fun h₃ tk₃ up₃ => ?_
    (try dsimp only at up₃); (try dsimp only)
    with_reducible refine wpAny_truthy_bool ?_
    have hr₃ := (hr₂ (by omega)).stab (h' := h₃) fun c o _ e => up₃ c o e
    refine And.intro ⟨_, _, rfl, up₃⟩ (And.intro (fun e hi' => ?_) fun e => ?_)
    · rw [take_filter_snoc hu, e]
      simpa using hr₃
    · refine Tuple_ ?_
      refine spliced_more ?_
      refine lname (s := ⟨h₃, _, _, _, _⟩) (m := m₂) (hn₂.keeps up₃) ha ?_
      refine spliced_more ?_
      refine lname (s := ⟨h₃, _, _, _, _⟩) (m := m₂) (hn₂.keeps up₃) hb ?_
      refine spliced_none ?_
      refine newTuple' fun h₄ T₄ up₄ n₄ hT₄ => ?_
      (try dsimp only at up₄ n₄ hT₄); (try dsimp only)
      refine And.intro ⟨_, _, rfl, up₄⟩ fun _ => ?_
      rw [take_filter_snoc hu, e, if_pos rfl, List.length_append, List.length_singleton]
      have hT₅ : h₄.IsTuple T₄ _ := ⟨_, hT₄, rfl, _, rfl⟩
      refine (hr₃.full (us' := [u])).snoc up₄ (by simp) hT₅ (fun q => ?_) (none_of_ext (up₂.trans up₃) n₄)
      obtain ⟨o, eo⟩ := Option.isSome_iff_exists.mp (hs₂ _ q)
      rw [up₃ _ _ eo] at n₄; cases n₄
  · rintro off D ys h₁ tk₁ hoff oD hD₁ hlen₁ ⟨h₀, hr, hk⟩ hn₁ hk₁
    rw [hL] at hn₁ hk₁ hk
    obtain ⟨ls₁, u₁⟩ := ls.setE gL hn₁ hk₁
    have hr' := hr (by simp; omega)
    rw [List.size_toArray, hwn, List.take_length] at hr'
    exact h h₁ tk₁ D ls₁ u₁ (hr'.words (L := L) (by obtain ⟨o, e⟩ := ls.holds (.inr (.inl rfl) : Mut L L); rw [e]; rfl) hk hD₁.isList) (hoff D oD)
end
end Mine
namespace Mine
theorem val_lt (u : List Bool) : val u < 2 ^ u.length := by
  generalize hn : u.length = n
  induction n generalizing u with
  | zero => rw [List.length_eq_zero_iff.mp hn]; decide
  | succ n ih =>
    rcases List.eq_nil_or_concat u with rfl | ⟨v, b, rfl⟩
    · simp at hn
    · have := ih v (by simpa using hn)
      rw [List.concat_eq_append, val_snoc, Nat.pow_succ]
      cases b <;> simp <;> omega
theorem WordsAt.iter {h h' : Heap} {I D : Addr} {a n c : Int} {ws : List (List Bool)} (x : WordsAt h D ws) (hI : IsRangeIter h I a n c) (k : ∀ b o, b ≠ I → h.get? b = some o → h'.get? b = some o) : WordsAt h' D ws := by
  obtain ⟨vs, hl, e, kk⟩ := x.ex
  have eI : h.get? I = some _ := hI
  refine ⟨vs, hl.at fun o e => k _ o (fun q => ?_) e, e, fun i v q h1 h2 => (kk i v q h1 h2).keep fun T o _ c e => k _ _ (fun q => ?_) e⟩
  · obtain ⟨o', e', c', _⟩ := hl
    rw [q, eI] at e'; cases e'; exact absurd (Value.type.inj c') (by decide)
  · rw [q, eI] at e; cases e; exact absurd (Value.type.inj c) (by decide)
theorem PlainList.iter {h h' : Heap} {I D : Addr} {a n c : Int} {vs : Array Value} (x : h.PlainList D vs) (hI : IsRangeIter h I a n c) (k : ∀ b o, b ≠ I → h.get? b = some o → h'.get? b = some o) : h'.PlainList D vs := by
  obtain ⟨q, e⟩ := x
  have eI : h.get? I = some _ := hI
  refine ⟨q, k _ _ (fun q => ?_) e⟩
  rw [q, eI] at e; exact absurd (congrArg Obj.cls (Option.some.inj e)) (fun c => absurd (Value.type.inj c) (by decide))
theorem RestsAt.up {S D k : Nat} {h h' : Heap} {Dr : Addr} {vs : List Value} (R : RestsAt S D k h Dr vs) (u : ∀ o, h.get? Dr = some o → h'.get? Dr = some o) : RestsAt S D k h' Dr vs := ⟨let ⟨q, e⟩ := R.lst; ⟨q, u _ e⟩, R.its⟩
theorem WordsAt.len {h : Heap} {D : Addr} {ws : List (List Bool)} (x : WordsAt h D ws) : ∃ wv : List Value, h.IsList D wv.toArray ∧ wv.length = ws.length := let ⟨vs, a, b, _⟩ := x.ex; ⟨vs, a, b⟩
/-- the counts -/
noncomputable abbrev cnt (X : List Bool) (k : Nat) : List Int := (List.range k).map fun i => (((wds X i).length : Nat) : Int)
theorem cnt_last (X : List Bool) (i : Nat) : (cnt X (i + 1)).drop ((cnt X (i + 1)).length - 2) = [(((wds X i).length : Nat) : Int), (((wds X i).length : Nat) : Int)] ↔ 1 ≤ i ∧ (wds X (i - 1)).length = (wds X i).length := by
  rcases i with _ | i
  · simp [cnt, List.range_succ]
  · have e : cnt X (i + 1 + 1) = cnt X i ++ [(((wds X i).length : Nat) : Int), (((wds X (i + 1)).length : Nat) : Int)] := by
      unfold cnt
      rw [range_map_snoc, range_map_snoc, List.append_assoc]; rfl
    rw [e, List.drop_left' (by simp [cnt])]
    simp only [List.cons.injEq, and_true, Nat.add_sub_cancel]
    constructor
    · intro h; exact ⟨by omega, by omega⟩
    · intro h; omega
section
variable {prog : Program} {w : World} {A : Around} {E : Value → Shared → Prop} {s : Shared} {g : Heap} {L fa : Addr} {cd : Value} {m : Str → Option Value} {d t z p : Option Value} {l : List (Str × Value)} {Q : Flow → Shared → Prop}
theorem sizeBody_eq (w : World) : sizeBody w = [sizeSt w 0, sizeSt w 1, sizeSt w 2, sizeSt w 3, sizeSt w 4] := by kernel_rfl
set_option maxHeartbeats 4000000 in
theorem law20 {S D W N : Nat} {X : List Bool} {td tt : Tok} {Dr Dc Dw₀ : Addr} {rv : List Value} (G : Gr w g L) (r : Room A 24) (ls : LS w g L s.heap m (some (.int D td)) (some (.str (ab X) tt)) z p) (H : Has m l)
    (hl : (l.all fun p => p.1 != Str.ofString "longer" && p.1 != Str.ofString "words") = true)
    (hr : m (Str.ofString "rests") = some (.ref Dr)) (hw : m (Str.ofString "words") = some (.ref Dw₀)) (hc : m (Str.ofString "counts") = some (.ref Dc)) (K : Words S D W N X) (hW : W ≤ 12) (hD : D < 2 ^ 12) (R : RestsAt S D N s.heap Dr rv) (Wd : WordsAt s.heap Dw₀ (wds X 0))
    (hC : s.heap.PlainList Dc ([] : List Value).toArray) (nCD : Dc ≠ Dw₀) (nCR : Dc ≠ Dr) (nC : g.get? Dc = none)
    (h : ∀ h' tk m' Dw n cv tz, LS w g L h' m' (some (.int D td)) (some (.str (ab X) tt)) (some (.int (n + 1 : Nat) tz)) p → Has m' l → m' (Str.ofString "rests") = some (.ref Dr) → m' (Str.ofString "words") = some (.ref Dw) → m' (Str.ofString "counts") = some (.ref Dc) →
      RestsAt S D N h' Dr rv → WordsAt h' Dw (wds X (n + 1)) → h'.IsList Dc (cv : List Value).toArray → IntsAre cv (cnt X (n + 2)) → n + 1 ≤ N → (wds X (n + 1)).length = (wds X n).length →
      (∀ b o, ¬ Mut L b → b ≠ Dc → s.heap.get? b = some o → h'.get? b = some o) → Q .next { s with heap := h', toks := tk }) :
    wpAny (model prog w) A (exec (lawSt w 20) (lawEnv w L fa cd)) Q E s := by
  show wpAny _ _ (exec (.For (.Name _ _) (.Call (.Name _ _) [.BinOp (.Call (.Name _ _) [.Name _ _] [] _) _ (.Constant _ _ _) _] [] _) (sizeBody w) [] _) _) _ _ _
  obtain ⟨hll, hlw⟩ := all_and hl
  have gL := G.noneAt (.inr (.inl rfl) : Mut L L)
  have hL : (lawEnv w L fa cd).locals = L := by kernel_rfl
  have hN : N ≤ 12 := Nat.le_trans K.le hW
  have hX : X.length ≤ 36 := by rw [K.X, win_length]; omega
  have hrl : rv.length = N := by rw [IntsAre.length R.its]; simp
  refine wpAny_For ?_
  refine Call_ ?_
  refine bname (w := w) (G.B.keeps ls.keep) (by kernel_rfl) boot_range ?_
  refine PyProof.Rows.callWith_type1 ?_
  refine spliced_more ?_
  with_reducible refine wpAny_BinOp ?_
  refine Call_ ?_
  refine bname (w := w) (G.B.keeps ls.keep) (by kernel_rfl) boot_len ?_
  refine PyProof.Rows.callWith_builtin1 ?_
  refine spliced_more ?_
  refine lloc ls hr ?_
  refine spliced_none ?_
  refine len_list R.lst.isList (by rw [List.size_toArray]; omega) ?_
  with_reducible refine wpAny_Constant_int ?_
  refine addn (b := 1) ?_
  refine spliced_none ?_
  rw [List.size_toArray, hrl]
  refine range_for (n := N + 1) r.handled (by omega) (fun k h => (∀ b o, ¬ Mut L b → b ≠ Dc → s.heap.get? b = some o → h.get? b = some o) ∧ ∃ m Dw cv z, LS w g L h m (some (.int D td)) (some (.str (ab X) tt)) z p ∧ Has m l ∧ m (Str.ofString "rests") = some (.ref Dr) ∧ m (Str.ofString "words") = some (.ref Dw) ∧ m (Str.ofString "counts") = some (.ref Dc) ∧
    RestsAt S D N h Dr rv ∧ WordsAt h Dw (wds X k) ∧ h.PlainList Dc (cv : List Value).toArray ∧ IntsAre cv (cnt X k) ∧ Dc ≠ Dw ∧ (∀ i, i + 1 < k → (wds X (i + 1)).length ≠ (wds X i).length)) ?_ ?_ ?_ ?_
  · rintro i h₁ h₂ I a b c ⟨U, m₁, Dw, cv, z₁, ls₁, H₁, hr₁, hw₁, hc₁, R₁, W₁, C₁, I₁, n₁, st₁⟩ hI nI hk
    exact ⟨fun b o hb hbc e => hk b o (fun q => by rw [q, nI] at e; cases e) (U b o hb hbc e), m₁, Dw, cv, z₁, ls₁.iter hI (none_of_ext ls.keep nI) (fun b o hb e => hk b o (fun q => hb (by simp [q])) e), H₁, hr₁, hw₁, hc₁, ⟨PlainList.iter R₁.lst hI hk, R₁.its⟩, W₁.iter hI hk, PlainList.iter C₁ hI hk, I₁, n₁, st₁⟩
  · intro h₁ up₁
    exact ⟨fun b o _ _ e => up₁ b o e, m, Dw₀, [], z, ls.ext up₁, H, hr, hw, hc, R.up fun o e => up₁ _ o e, Wd.up ls up₁.up, (up₁.up.keepPlain (ls.listNot hC.isList) hC), .nil, nCD, fun i hi => absurd hi (by omega)⟩
  · rintro i h₁ tk₁ ti I a b c hi ⟨U₁, m₁, Dw, cv, z₁, ls₁, H₁, hr₁, hw₁, hc₁, R₁, W₁, C₁, I₁, n₁, st₁⟩ hI nI
    have hiN : i ≤ N := by omega
    have hpN := K.count_le hiN
    have nMI := ls₁.iterNot hI
    refine wpAny_assign_Name (wpAny_storeName_cell (c := L + 3) (by kernel_rfl) (by kernel_rfl) (by kernel_rfl) ls₁.cz fun h₂ hc₂ hs₂ => ?_)
    (try dsimp only at hc₂ hs₂); (try dsimp only)
    obtain ⟨ls₂, u₂⟩ := ls₁.setZ G hc₂ hs₂
    have R₂ := R₁.up fun o e => u₂ _ o (ls₁.listNot R₁.lst.isList) e
    have W₂ := W₁.up ls₁ u₂
    have C₂ := u₂.keepPlain (ls₁.listNot C₁.isList) C₁
    rw [sizeBody_eq]
    -- the numbers
    with_reducible refine wpAny_execs_cons ?_
    refine size0 (s := ⟨h₂, _, _, _, _⟩) G (r.less (by omega)) ls₂ hw₁ hr₁ K hiN hN hD W₂ R₂ fun h₃ tk₃ ls₃ up₃ => ?_
    (try dsimp only at up₃); (try dsimp only)
    have R₃ := R₂.up fun o e => up₃ _ o e
    have W₃ := W₂.up ls₂ up₃.up
    have C₃ := up₃.up.keepPlain (ls₂.listNot C₂.isList) C₂
    obtain ⟨wv, wl, wn⟩ := W₃.len
    have hcl : cv.length = i := by rw [IntsAre.length I₁]; simp
    -- counts.append
    with_reducible refine wpAny_execs_cons ?_
    refine size1 (s := ⟨h₃, _, _, _, _⟩) G ls₃ hw₁ hc₁ wl C₃ I₁ (by omega) (by omega) fun h₄ tk₄ cv₄ C₄ I₄ hs₄ => ?_
    (try dsimp only at hs₄); (try dsimp only)
    have hcnt : cnt X i ++ [(wv.length : Int)] = cnt X (i + 1) := by rw [wn]; exact (range_map_snoc _ i).symm
    rw [hcnt] at I₄
    have ls₄ := ls₃.turnList C₃.isList nC fun b o hb e => hs₄.extBut b o hb e
    have R₄ := R₃.up fun o e => hs₄.extBut _ o nCR.symm e
    have W₄ := W₃.but C₃.isList n₁ fun b o hb e => hs₄.extBut b o hb e
    have wl₄ : h₄.IsList Dw wv.toArray := wl.at fun o e => hs₄.extBut _ o n₁.symm e
    have hcl₄ : cv₄.length = i + 1 := by rw [IntsAre.length I₄]; simp
    have U₄ : ∀ b o, ¬ Mut L b → b ≠ Dc → h₁.get? b = some o → h₄.get? b = some o := fun b o hb hbc e => hs₄.extBut b o hbc (up₃ b o (u₂ b o hb e))
    -- break
    with_reducible refine wpAny_execs_cons ?_
    refine size2 (s := ⟨h₄, _, _, _, _⟩) G (r.less (by omega)) ls₄ hw₁ hc₁ wl₄ C₄.isList I₄ (by omega) (by omega) fun h₅ tk₅ ls₅ u₅ => ?_
    (try dsimp only at u₅); (try dsimp only)
    have R₅ := R₄.up fun o e => u₅ _ o (ls₄.listNot R₄.lst.isList) e
    have W₅ := W₄.up ls₄ u₅
    have C₅ := u₅.keepPlain (ls₄.listNot C₄.isList) C₄
    have U₅ : ∀ b o, ¬ Mut L b → b ≠ Dc → h₁.get? b = some o → h₅.get? b = some o := fun b o hb hbc e => u₅ b o hb (U₄ b o hb hbc e)
    have hdi := cnt_last X i
    rw [← wn] at hdi
    by_cases hq : (cnt X (i + 1)).drop ((cnt X (i + 1)).length - 2) = [(wv.length : Int), (wv.length : Int)]
    · rw [if_pos hq]
      obtain ⟨h1, h2⟩ := hdi.mp hq
      obtain ⟨n, rfl⟩ : ∃ n, i = n + 1 := ⟨i - 1, by omega⟩
      rw [Nat.add_sub_cancel, wn] at h2
      exact h h₅ tk₅ m₁ Dw n cv₄ ti ls₅ H₁ hr₁ hw₁ hc₁ R₅ W₅ C₅.isList I₄ hiN h2.symm fun b o hb hbc e => U₅ b o hb hbc (U₁ b o hb hbc e)
    · rw [if_neg hq]
      have hne : ∀ j, j + 1 < i + 1 → (wds X (j + 1)).length ≠ (wds X j).length := fun j hj e => by
        rcases Nat.lt_or_ge (j + 1) i with h' | h'
        · exact st₁ j h' e
        · have : i = j + 1 := by omega
          subst this
          exact hq (hdi.mpr ⟨by omega, by rw [Nat.add_sub_cancel, wn]; exact e.symm⟩)
      dsimp only
      -- longer
      with_reducible refine wpAny_execs_cons ?_
      refine size3 (s := ⟨h₅, _, _, _, _⟩) G (r.less (by omega)) ls₅ hw₁ W₅ (by omega) (fun u hu => ?_) fun h₆ tk₆ Dg ls₆ u₆ W₆ n₆ => ?_
      · have := wds_length u hu
        have hv := val_lt u
        rw [this] at hv
        exact ⟨by omega, Nat.lt_of_lt_of_le hv (Nat.pow_le_pow_right (by decide) (by omega))⟩
      (try dsimp only at u₆ n₆); (try dsimp only)
      have R₆ := R₅.up fun o e => u₆ _ o (ls₅.listNot R₅.lst.isList) e
      have C₆ := u₆.keepPlain (ls₅.listNot C₅.isList) C₅
      have H₆ := H₁.keep (v := .ref Dg) hll
      -- words
      with_reducible refine wpAny_execs_cons ?_
      refine size4 (s := ⟨h₆, _, _, _, _⟩) G (r.less (by omega)) ls₆ (if_pos rfl) W₆ (by rw [flat2_length]; omega) (by omega) (fun u hu => ?_) fun h₇ tk₇ Dv ls₇ u₇ W₇ n₇ => ?_
      · obtain ⟨v, hv, hu⟩ := List.mem_flatMap.mp hu
        obtain ⟨b, rfl⟩ := mem_ext2.mp hu
        have := wds_length v hv
        rw [List.length_append, List.length_singleton]; omega
      (try dsimp only at u₇ n₇); (try dsimp only)
      have R₇ := R₆.up fun o e => u₇ _ o (ls₆.listNot R₆.lst.isList) e
      have C₇ := u₇.keepPlain (ls₆.listNot C₆.isList) C₆
      have U₇ : ∀ b o, ¬ Mut L b → b ≠ Dc → h₁.get? b = some o → h₇.get? b = some o := fun b o hb hbc e => u₇ b o hb (u₆ b o hb (U₅ b o hb hbc e))
      with_reducible refine wpAny_execs_nil ?_
      refine ⟨h₇, tk₇, rfl, ⟨fun b o hb hbc e => U₇ b o hb hbc (U₁ b o hb hbc e), _, Dv, cv₄, _, ls₇, H₆.keep hlw, ?_, if_pos rfl, ?_, R₇, W₇, C₇, I₄, ?_, hne⟩, fun o e => ?_⟩
      · exact (if_neg (by decide)).trans ((if_neg (by decide)).trans hr₁)
      · exact (if_neg (by decide)).trans ((if_neg (by decide)).trans hc₁)
      · intro q
        obtain ⟨o, e, _⟩ := C₆.isList
        rw [q, n₇] at e; cases e
      · refine U₇ I o nMI (fun q => ?_) e
        have eI : h₁.get? I = some _ := hI
        obtain ⟨k, ec⟩ := C₁
        rw [← q, eI] at ec
        exact absurd (congrArg Obj.cls (Option.some.inj ec)) (fun c => absurd (Value.type.inj c) (by decide))
  · rintro h₁ tk₁ ⟨U₁, m₁, Dw, cv, z₁, ls₁, H₁, hr₁, hw₁, hc₁, R₁, W₁, C₁, I₁, n₁, st₁⟩
    exfalso
    have hg := grown (p := fun i => (wds X i).length) (k := N) (by simp [wds]) fun i hi => ⟨K.mono hi, st₁ i (by omega)⟩
    have := K.count_le (Nat.le_refl N)
    omega
end
end Mine
namespace Mine
noncomputable def spellBody (w : World) : List Stmt := match lawSt w 23 with
  | .While _ b _ _ => b
  | _ => []
noncomputable def spellSt (w : World) (k : Nat) : Stmt := ((spellBody w)[k]?).getD (.Pass default)
theorem spellBody_eq (w : World) : spellBody w = [spellSt w 0, spellSt w 1, spellSt w 2] := by kernel_rfl
theorem ab_beq (a b : List Bool) : (ab a == ab b) = (a == b) := by
  by_cases h : a = b
  · subst h; simp
  · have h1 : (ab a == ab b) = false := by
      rw [beq_eq_false_iff_ne]; exact fun e => h (ab_inj e)
    have h2 : (a == b) = false := by rw [beq_eq_false_iff_ne]; exact h
    rw [h1, h2]
noncomputable def lastOf (u : List Bool) : Bool := u.getLast?.getD false
section
variable {prog : Program} {w : World} {A : Around} {E : Value → Shared → Prop} {s : Shared} {g : Heap} {L fa : Addr} {cd : Value} {m : Str → Option Value} {d t z p : Option Value} {l : List (Str × Value)} {Q : Flow → Shared → Prop}
theorem strsAre_snoc {vs : List Value} {ys : List Str} (h : StrsAre vs ys) (y : Str) (t : Tok) : StrsAre (vs ++ [.str y t]) (ys ++ [y]) := by
  induction h with
  | nil => exact .cons y t .nil
  | cons a b _ ih => exact .cons a b ih
/-- ways -/
theorem spell0 {Dw : Addr} {ws : List (List Bool)} {Y : List Bool} {n : Nat} {tz tp : Tok} (G : Gr w g L) (r : Room A 20) (ls : LS w g L s.heap m d t (some (.int (n + 1 : Nat) tz)) (some (.str (ab Y) tp)))
    (hw : m (Str.ofString "words") = some (.ref Dw)) (Wd : WordsAt s.heap Dw ws) (hsz : ws.length ≤ 100) (hlen : ∀ u ∈ ws, u.length = n + 1) (hn : n ≤ 100) (hY : n ≤ Y.length) (hY2 : Y.length ≤ 100)
    (h : ∀ h' tk D ys, LS w g L h' (fun y => if y = Str.ofString "ways" then some (.ref D) else m y) d t (some (.int (n + 1 : Nat) tz)) (some (.str (ab Y) tp)) → Up L s.heap h' → h'.IsList D (ys : List Value).toArray → StrsAre ys ((ws.filter fun u => u.dropLast == Y.drop (Y.length - n)).map fun u => letter (lastOf u)) → Q .next { s with heap := h', toks := tk }) :
    wpAny (model prog w) A (exec (spellSt w 0) (lawEnv w L fa cd)) Q E s := by
  show wpAny _ _ (exec (.Assign [.Name _ _] (.ListComp (.Subscript (.Name _ _) (.UnaryOp _ (.Constant _ _ _) _) _) [⟨.Tuple [.Name _ _, .Name _ _] _ _, .Name _ _, [.Compare (.Subscript (.Name _ _) (.Slice none (some (.UnaryOp _ (.Constant _ _ _) _)) none _) _) _ [.Subscript (.Name _ _) (.Slice (some (.BinOp (.BinOp (.Call (.Name _ _) [.Name _ _] [] _) _ (.Name _ _) _) _ (.Constant _ _ _) _)) none none _) _] _], 0⟩] _ _) _) _) _ _ _
  have hL : (lawEnv w L fa cd).locals = L := by kernel_rfl
  have gL := G.noneAt (.inr (.inl rfl) : Mut L L)
  obtain ⟨wv, hwl, hwn, hwp⟩ := Wd.ex
  refine pair_comp_assign (cl := [(Str.ofString "spelled", L + 4), (Str.ofString "size", L + 3)]) (by rfl) (by decide) r.handled (by kernel_rfl) (by decide) (by kernel_rfl) (by decide) (by kernel_rfl) (by kernel_rfl) (by kernel_rfl) (by kernel_rfl) ?_
  refine lloc ls hw ?_
  refine ⟨Dw, wv.toArray, fun _ i ys _ => i ≤ ws.length → StrsAre ys (((ws.take i).filter fun u => u.dropLast == Y.drop (Y.length - n)).map fun u => letter (lastOf u)), m, rfl, hwl, by rw [hL]; exact ls.ns, ⟨by rw [List.size_toArray]; omega, fun _ _ _ _ _ hr _ => hr, fun _ _ _ _ _ => .nil, ?_⟩, ?_⟩
  · intro off C i v ys h₁ hoff hoffs oC hv hrel up₁
    have hv' : wv[i]? = some v := by simpa using hv
    have hi : i < wv.length := (List.getElem?_eq_some_iff.mp hv').1
    obtain ⟨u, hu⟩ : ∃ u, ws[i]? = some u := ⟨_, List.getElem?_eq_getElem (by omega)⟩
    obtain ⟨T, t₁, t₂, rfl, hT⟩ := hwp i v u hv' hu
    have hum := hlen u (List.mem_of_getElem? hu)
    refine ⟨T, _, _, rfl, hT, fun h₂ tk₂ m₂ hn₂ ha hb hr₂ up₂ hs₂ => ?_⟩
    have ls₂ := ls.ext up₂
    have B₂ := G.B.keeps ls₂.keep
    refine wpAny_tests_one ?_
    with_reducible refine wpAny_isTrue_Compare1 ?_
    refine Subscript_ ?_
    refine lname (s := ⟨h₂, _, _, _, _⟩) (m := m₂) hn₂ ha ?_
    with_reducible refine wpAny_Slice ?_
    with_reducible refine evalPart_none_step ?_
    with_reducible refine evalPart_some_step ?_
    with_reducible refine wpAny_UnaryOp ?_
    with_reducible refine wpAny_Constant_int ?_
    with_reducible refine neg_int ?_
    with_reducible refine evalPart_none_step ?_
    refine sl_ns (s := ⟨h₂, _, _, _, _⟩) (by rw [ab_length]; omega) fun h₃ t₃ k₃ up₃ => ?_
    (try dsimp only at up₃); (try dsimp only)
    have ls₃ := ls₂.ext up₃
    rw [slice_init]
    refine Subscript_ ?_
    refine cname (c := L + 4) (s := ⟨h₃, _, _, _, _⟩) (by kernel_rfl) ls₃.cp ?_
    with_reducible refine wpAny_Slice ?_
    with_reducible refine evalPart_some_step ?_
    with_reducible refine wpAny_BinOp ?_
    with_reducible refine wpAny_BinOp ?_
    refine Call_ ?_
    refine bname (w := w) (s := ⟨h₃, _, _, _, _⟩) (G.B.keeps ls₃.keep) (by kernel_rfl) boot_len ?_
    refine PyProof.Rows.callWith_builtin1 ?_
    refine spliced_more ?_
    refine cname (c := L + 4) (s := ⟨h₃, _, _, _, _⟩) (by kernel_rfl) ls₃.cp ?_
    refine spliced_none ?_
    refine PyProof.Rows.len_str (by rw [ab_length]; omega) ?_
    refine cname (c := L + 3) (s := ⟨h₃, _, _, _, _⟩) (by kernel_rfl) ls₃.cz ?_
    with_reducible refine sub_int ?_
    with_reducible refine wpAny_Constant_int ?_
    with_reducible refine PyProof.Rows.add_int ?_
    rw [ab_length, show (Y.length : Int) - ((n + 1 : Nat) : Int) + 1 = ((Y.length - n : Nat) : Int) from by omega]
    with_reducible refine evalPart_none_step ?_
    with_reducible refine evalPart_none_step ?_
    refine sl_sn (s := ⟨h₃, _, _, _, _⟩) (by rw [ab_length]; omega) fun h₄ t₄ k₄ up₄ => ?_
    (try dsimp only at up₄); (try dsimp only)
    rw [slice_from _ _ (by omega)]
    with_reducible refine PyProof.Rows.eq_str ?_
    rw [ab_beq]
    with_reducible refine wpAny_truthy_bool ?_
    refine And.intro ⟨_, _, rfl, up₃.trans up₄⟩ (And.intro (fun e hi' => ?_) fun e => ?_)
    · rw [take_filter_snoc hu, e]
      simpa using hr₂ (by omega)
    · refine Subscript_ ?_
      refine lname (s := ⟨h₄, _, _, _, _⟩) (m := m₂) ((hn₂.keeps up₃).keeps up₄) ha ?_
      with_reducible refine wpAny_UnaryOp ?_
      with_reducible refine wpAny_Constant_int ?_
      with_reducible refine neg_int ?_
      have hlast : u.getLast? = some (lastOf u) := by
        cases hg : u.getLast? with
        | none => rw [List.getLast?_eq_none_iff] at hg; rw [hg] at hum; simp at hum
        | some b => simp [lastOf, hg]
      refine KXi.item (n := n + 1) (by rw [ab_length]; exact hum) (by omega) (by omega) (by omega) (fun _ => ?_)
      rw [item_last u _ hlast]
      refine And.intro (Keeps.refl' _) fun _ => ?_
      rw [take_filter_snoc hu, e, if_pos rfl, List.map_append]
      exact strsAre_snoc (hr₂ (by omega)) _ _
  · rintro off D ys h₁ tk₁ hoff oD hD₁ hlen₁ ⟨h₀, hr, hk⟩ hn₁ hk₁
    rw [hL] at hn₁ hk₁ hk
    obtain ⟨ls₁, u₁⟩ := ls.setE gL hn₁ hk₁
    have hr' := hr (by simp; omega)
    rw [List.size_toArray, hwn, List.take_length] at hr'
    exact h h₁ tk₁ D ys ls₁ u₁ hD₁.isList hr'
end
end Mine
namespace Mine
section
variable {prog : Program} {w : World} {A : Around} {E : Value → Shared → Prop} {s : Shared} {g : Heap} {L fa : Addr} {cd : Value} {m : Str → Option Value} {d t z p : Option Value} {l : List (Str × Value)} {Q : Flow → Shared → Prop}
/-- a cell of the law is set: spelled -/
theorem casgP {x : Str} {pos' pos : Pos} {value : Expr} (G : Gr w g L) (hc : (lawEnv w L fa cd).cells.lookup x = some (L + 4))
    (h : wpAny (model prog w) A (eval value (lawEnv w L fa cd)) (fun v s₁ => ∃ m d t z p, LS w g L s₁.heap m d t z p ∧ ∀ h' tk, LS w g L h' m d t z (some v) → Up L s₁.heap h' → Q .next { s₁ with heap := h', toks := tk }) E s)
    (hx : (lawEnv w L fa cd).kindOf x = some .cell := by kernel_rfl)
    (hs : swapsWith value (some (.Name x pos')) pos.line (lawEnv w L fa cd) = pure false := by rfl) : wpAny (model prog w) A (exec (.Assign [.Name x pos'] value pos) (lawEnv w L fa cd)) Q E s := by
  refine asgC hc (wpAny_mono h (fun v s₁ h₁ => ?_) fun _ _ e => e) hx (by kernel_rfl) hs
  obtain ⟨m, d, t, z, p, ls, k⟩ := h₁
  refine ⟨p, ls.cp, fun h' hn hs => ?_⟩
  obtain ⟨ls', u⟩ := ls.setP G hn hs
  exact k h' _ ls' u
theorem empty_ab : Str.ofString "" = ab [] := Str.ext' (by decide)
set_option maxHeartbeats 1000000 in
/-- words = [('', 0)]; counts = [] -/
theorem law18 {stmts : List Stmt} {X : List Bool} (G : Gr w g L) (ls : LS w g L s.heap m d t z p) (H : Has m l) (hl : (l.all fun p => p.1 != Str.ofString "words" && p.1 != Str.ofString "counts") = true)
    (h : ∀ h' tk m' Dw Dc, LS w g L h' m' d t z p → Has m' l → m' (Str.ofString "words") = some (.ref Dw) → m' (Str.ofString "counts") = some (.ref Dc) → WordsAt h' Dw (wds X 0) → h'.PlainList Dc ([] : List Value).toArray → Dc ≠ Dw → s.heap.get? Dc = none → Up L s.heap h' →
      wpAny (model prog w) A (execs stmts (lawEnv w L fa cd)) Q E { s with heap := h', toks := tk }) :
    wpAny (model prog w) A (execs (lawSt w 18 :: lawSt w 19 :: stmts) (lawEnv w L fa cd)) Q E s := by
  obtain ⟨hlw, hlc⟩ := all_and hl
  with_reducible refine wpAny_execs_cons ?_
  show wpAny _ _ (exec (.Assign [.Name _ _] (.List [.Tuple [.Constant _ _ _, .Constant _ _ _] _ _] _) _) _) _ _ _
  refine lasg G ?_
  with_reducible refine List_ ?_
  refine spliced_more ?_
  refine Tuple_ ?_
  refine spliced_more ?_
  with_reducible refine Calls.Constant_str ?_
  refine spliced_more ?_
  with_reducible refine wpAny_Constant_int ?_
  refine spliced_none ?_
  refine newTuple' fun h₁ T up₁ nT hT => ?_
  (try dsimp only at up₁ nT hT); (try dsimp only)
  refine spliced_none ?_
  refine newList' fun h₂ Dw up₂ nDw hDw => ?_
  (try dsimp only at up₂ nDw hDw); (try dsimp only)
  have ls₂ := (ls.ext up₁).ext up₂
  refine ⟨m, d, t, z, p, ls₂, fun h₃ tk₃ ls₃ u₃ => ?_⟩
  (try dsimp only at u₃); (try dsimp only)
  have hT₂ : h₂.IsTuple T _ := ⟨_, up₂ _ _ hT, rfl, _, rfl⟩
  rw [empty_ab] at hT₂
  have hD₂ : h₂.IsList Dw [Value.ref T].toArray := ⟨_, hDw, rfl, _, rfl⟩
  have W₂ : WordsAt h₂ Dw (wds X 0) := ⟨_, hD₂, rfl, fun i v u h1 h2 => by
    rcases i with _ | i
    · simp only [wds, List.getElem?_cons_zero, Option.some.injEq] at h1 h2
      subst h1 h2
      exact ⟨T, _, _, rfl, hT₂⟩
    · simp at h1⟩
  have W₃ := W₂.up ls₂ u₃
  have H₃ := H.keep (v := .ref Dw) hlw
  with_reducible refine wpAny_execs_cons ?_
  show wpAny _ _ (exec (.Assign [.Name _ _] (.List [] _) _) _) _ _ _
  refine lasg G ?_
  with_reducible refine List_ ?_
  refine spliced_none ?_
  refine newList' (s := ⟨h₃, _, _, _, _⟩) fun h₄ Dc up₄ nDc hDc => ?_
  (try dsimp only at up₄ nDc hDc); (try dsimp only)
  have ls₄ := ls₃.ext up₄
  refine ⟨_, d, t, z, p, ls₄, fun h₅ tk₅ ls₅ u₅ => ?_⟩
  (try dsimp only at u₅); (try dsimp only)
  have U₃ : Up L s.heap h₃ := (up₁.up.trans up₂.up).trans u₃
  have nMC : ¬ Mut L Dc := ls₃.fresh nDc
  refine h h₅ _ _ Dw Dc ls₅ (H₃.keep hlc) ((if_neg (by decide)).trans (if_pos rfl)) (if_pos rfl) ((W₃.up ls₃ up₄.up).up ls₄ u₅) ⟨_, u₅ _ _ nMC hDc⟩ ?_ ?_ ((U₃.trans up₄.up).trans u₅)
  · intro q
    obtain ⟨vs, ⟨o, e, _⟩, _⟩ := W₃.ex
    rw [q, e] at nDc; cases nDc
  · cases e : s.heap.get? Dc with
    | none => rfl
    | some o => rw [U₃ _ _ nMC e] at nDc; cases nDc
set_option maxHeartbeats 1000000 in
/-- from the words on -/
theorem law21 {S D W N n : Nat} {X : List Bool} {tt tz : Tok} {Dr Dc Dw : Addr} {rv cv : List Value} (G : Gr w g L) (r : Room A 24) (ls : LS w g L s.heap m d (some (.str (ab X) tt)) (some (.int (n + 1 : Nat) tz)) p)
    (hr : m (Str.ofString "rests") = some (.ref Dr)) (hw : m (Str.ofString "words") = some (.ref Dw)) (hc : m (Str.ofString "counts") = some (.ref Dc)) (K : Words S D W N X) (hW : W ≤ 12)
    (R : RestsAt S D N s.heap Dr rv) (Wd : WordsAt s.heap Dw (wds X (n + 1))) (hC : s.heap.IsList Dc cv.toArray) (hi : IntsAre cv (cnt X (n + 2))) (hn : n + 1 ≤ N) (he : (wds X (n + 1)).length = (wds X n).length)
    (h : ∀ h' tk m' d' t' z' p', LS w g L h' m' d' t' z' p' → Q (.ret (.bool true)) { s with heap := h', toks := tk }) :
    wpAny (model prog w) A (execs [lawSt w 21, lawSt w 22, lawSt w 23, lawSt w 24] (lawEnv w L fa cd)) Q E s := by
  have hN : N ≤ 12 := Nat.le_trans K.le hW
  have hX : X.length = 3 * W := by rw [K.X, win_length]
  have hrl : rv.length = N := by rw [IntsAre.length R.its]; simp
  have hcl : cv.length = n + 2 := by rw [IntsAre.length hi]; simp
  have hfull := K.full hn he
  have hWN := K.le
  -- if counts[-2:] != [len(rests)] * 2
  with_reducible refine wpAny_execs_cons ?_
  show wpAny _ _ (exec (.If (.Compare (.Subscript (.Name _ _) (.Slice (some (.UnaryOp _ (.Constant _ _ _) _)) none none _) _) _ [.BinOp (.List [.Call (.Name _ _) [.Name _ _] [] _] _) _ (.Constant _ _ _) _] _) [_] [] _) _) _ _ _
  with_reducible refine wpAny_If ?_
  with_reducible refine wpAny_isTrue_Compare1 ?_
  refine lastTwo G ls hr hc R.lst.isList hC hi (by omega) (by omega) (by kernel_rfl) (by decide) fun h₁ tk₁ D₁ D₂ v₁ v₂ ls₁ u₁ l₁ i₁ l₂ i₂ => ?_
  refine ke_ne_ints (s := ⟨h₁, _, _, _, _⟩) l₁ l₂ i₁ i₂ (by have := r.units; omega) ?_
  with_reducible refine wpAny_truthy_bool ?_
  have hq : (cnt X (n + 2)).drop ((cnt X (n + 2)).length - 2) = [(rv.length : Int), (rv.length : Int)] := by
    have := (cnt_last X (n + 1)).mpr ⟨by omega, by rw [Nat.add_sub_cancel]; exact he.symm⟩
    rw [this, he, hfull, hrl]
  rw [decide_eq_true hq, if_neg (by decide)]
  with_reducible refine wpAny_execs_nil ?_
  dsimp only
  have W₁ := Wd.up ls u₁
  -- spelled = text[:size - 1]
  with_reducible refine wpAny_execs_cons ?_
  show wpAny _ _ (exec (.Assign [.Name _ _] (.Subscript (.Name _ _) (.Slice none (some (.BinOp (.Name _ _) _ (.Constant _ _ _) _)) none _) _) _) _) _ _ _
  refine casgP G (by kernel_rfl) ?_
  refine Subscript_ ?_
  refine cname (c := L + 2) (s := ⟨h₁, _, _, _, _⟩) (by kernel_rfl) ls₁.ct ?_
  with_reducible refine wpAny_Slice ?_
  with_reducible refine evalPart_none_step ?_
  with_reducible refine evalPart_some_step ?_
  with_reducible refine wpAny_BinOp ?_
  refine cname (c := L + 3) (s := ⟨h₁, _, _, _, _⟩) (by kernel_rfl) ls₁.cz ?_
  with_reducible refine wpAny_Constant_int ?_
  refine subn (b := 1) (by omega) ?_
  rw [Nat.add_sub_cancel]
  with_reducible refine evalPart_none_step ?_
  refine sl_ns (s := ⟨h₁, _, _, _, _⟩) (by rw [ab_length]; omega) fun h₂ t₂ k₂ up₂ => ?_
  (try dsimp only at up₂); (try dsimp only)
  rw [slice_to]
  have ls₂ := ls₁.ext up₂
  refine ⟨m, d, _, _, p, ls₂, fun h₃ tk₃ ls₃ u₃ => ?_⟩
  (try dsimp only at u₃); (try dsimp only)
  have W₃ := (W₁.up ls₁ up₂.up).up ls₂ u₃
  -- while len(spelled) < len(text)
  with_reducible refine wpAny_execs_cons ?_
  show wpAny _ _ (exec (.While (.Compare (.Call (.Name _ _) [.Name _ _] [] _) _ [.Call (.Name _ _) [.Name _ _] [] _] _) (spellBody w) [] _) _) _ _ _
  refine wpAny_While ?_
  refine while_loop (s := { s with heap := h₃, toks := tk₃ }) (fun q h => ∃ j m' tp, q = X.length - j ∧ n ≤ j ∧ j ≤ X.length ∧ LS w g L h m' d (some (.str (ab X) tt)) (some (.int (n + 1 : Nat) tz)) (some (.str (ab (X.take j)) tp)) ∧ m' (Str.ofString "words") = some (.ref Dw) ∧ WordsAt h Dw (wds X (n + 1))) (X.length - n)
    ⟨n, m, _, rfl, Nat.le_refl _, by omega, ls₃, hw, W₃⟩ ?_
  rintro q h₄ tk₄ ⟨j, m₄, tp, rfl, hnj, hjX, ls₄, hw₄, W₄⟩
  have hjl : (X.take j).length = j := by rw [List.length_take]; omega
  with_reducible refine wpAny_isTrue_Compare1 ?_
  refine Call_ ?_
  refine bname (w := w) (s := ⟨h₄, _, _, _, _⟩) (G.B.keeps ls₄.keep) (by kernel_rfl) boot_len ?_
  refine PyProof.Rows.callWith_builtin1 ?_
  refine spliced_more ?_
  refine cname (c := L + 4) (s := ⟨h₄, _, _, _, _⟩) (by kernel_rfl) ls₄.cp ?_
  refine spliced_none ?_
  refine PyProof.Rows.len_str (by rw [ab_length]; omega) ?_
  refine Call_ ?_
  refine bname (w := w) (s := ⟨h₄, _, _, _, _⟩) (G.B.keeps ls₄.keep) (by kernel_rfl) boot_len ?_
  refine PyProof.Rows.callWith_builtin1 ?_
  refine spliced_more ?_
  refine cname (c := L + 2) (s := ⟨h₄, _, _, _, _⟩) (by kernel_rfl) ls₄.ct ?_
  refine spliced_none ?_
  refine PyProof.Rows.len_str (by rw [ab_length]; omega) ?_
  with_reducible refine PyProof.Rows.lt_int ?_
  rw [ab_length, ab_length, hjl]
  with_reducible refine wpAny_truthy_bool ?_
  by_cases hlt : j < X.length
  · rw [if_pos (by simpa using hlt)]
    obtain ⟨hways, hXj, hlast⟩ := K.ways hn he hnj hlt
    rw [spellBody_eq]
    with_reducible refine wpAny_execs_cons ?_
    refine spell0 (s := ⟨h₄, _, _, _, _⟩) (n := n) G (r.less (by omega)) ls₄ hw₄ W₄ (by rw [he]; omega) wds_length (by omega) (by omega) (by omega) fun h₅ tk₅ Ds ys ls₅ u₅ hys sys => ?_
    (try dsimp only at u₅); (try dsimp only)
    rw [hjl, hways] at sys
    have hb : lastOf (win S D (j - n) (n + 1)) = fig S D j := by simp [lastOf, hlast]
    simp only [List.map_cons, List.map_nil, hb] at sys
    have hyl : ys.length = 1 := by rw [sys.len_eq]; rfl
    have W₅ := W₄.up ls₄ u₅
    -- if len(ways) != 1
    with_reducible refine wpAny_execs_cons ?_
    show wpAny _ _ (exec (.If (.Compare (.Call (.Name _ _) [.Name _ _] [] _) _ [.Constant _ _ _] _) [_] [] _) _) _ _ _
    with_reducible refine wpAny_If ?_
    with_reducible refine wpAny_isTrue_Compare1 ?_
    refine Call_ ?_
    refine bname (w := w) (s := ⟨h₅, _, _, _, _⟩) (G.B.keeps ls₅.keep) (by kernel_rfl) boot_len ?_
    refine PyProof.Rows.callWith_builtin1 ?_
    refine spliced_more ?_
    refine lloc (s := ⟨h₅, _, _, _, _⟩) ls₅ (if_pos rfl) ?_
    refine spliced_none ?_
    refine len_list hys (by rw [List.size_toArray]; omega) ?_
    with_reducible refine wpAny_Constant_int ?_
    with_reducible refine PyProof.Rows.ne_int ?_
    with_reducible refine wpAny_truthy_bool ?_
    rw [List.size_toArray, hyl, if_neg (by decide)]
    with_reducible refine wpAny_execs_nil ?_
    dsimp only
    -- spelled += ways[0]
    with_reducible refine wpAny_execs_cons ?_
    show wpAny _ _ (exec (.AugAssign (.Name _ _) _ (.Subscript (.Name _ _) (.Constant _ _ _) _) _) _) _ _ _
    refine wpAny_AugAssign_Name ?_
    refine wpAny_loadName_cell (c := L + 4) (s := ⟨h₅, _, _, _, _⟩) (v := .str (ab (X.take j)) tp) (by kernel_rfl) (by kernel_rfl) (by kernel_rfl) ls₅.cp ?_
    refine Subscript_ ?_
    refine lloc (s := ⟨h₅, _, _, _, _⟩) ls₅ (if_pos rfl) ?_
    with_reducible refine wpAny_Constant_int ?_
    obtain ⟨ty, hy0⟩ := sys.get 0 _ rfl
    refine item_list (v := .str (letter (fig S D j)) ty) hys (by decide) (by decide) (by simpa using hy0) ?_
    refine PyProof.Rows.iadd_str (fun t₆ k₆ => ?_) (by rw [ab_length, letter_length, sizeLine_eq]; omega)
    rw [show letter (fig S D j) = ab [fig S D j] from rfl, ← ab_append]
    refine wpAny_storeName_cell (c := L + 4) (by kernel_rfl) (by kernel_rfl) (by kernel_rfl) ls₅.cp fun h₆ hc₆ hs₆ => ?_
    (try dsimp only at hc₆ hs₆); (try dsimp only)
    obtain ⟨ls₆, u₆⟩ := ls₅.setP G hc₆ hs₆
    with_reducible refine wpAny_execs_nil ?_
    have etk : X.take j ++ [fig S D j] = X.take (j + 1) := by rw [List.take_add_one, hXj]; rfl
    rw [etk] at ls₆
    exact ⟨h₆, _, X.length - (j + 1), rfl, by omega, j + 1, _, _, rfl, by omega, hlt, ls₆, (if_neg (by decide)).trans hw₄, W₅.up ls₅ u₆⟩
  · rw [if_neg (by simpa using hlt)]
    have hjX' : j = X.length := by omega
    subst hjX'
    rw [List.take_length] at ls₄
    dsimp only
    with_reducible refine wpAny_execs_cons ?_
    show wpAny _ _ (exec (.Return (some (.Compare (.Name _ _) _ [.Name _ _] _)) _) _) _ _ _
    with_reducible refine wpAny_Return_some ?_
    with_reducible refine wpAny_Compare1 ?_
    refine cname (c := L + 4) (s := ⟨h₄, _, _, _, _⟩) (by kernel_rfl) ls₄.cp ?_
    refine cname (c := L + 2) (s := ⟨h₄, _, _, _, _⟩) (by kernel_rfl) ls₄.ct ?_
    with_reducible refine PyProof.Rows.eq_str ?_
    rw [beq_self_eq_true]
    exact h h₄ _ _ _ _ _ _ ls₄
end
end Mine
namespace Mine
theorem bits_wide {a r : Nat} (hr : 1 ≤ r) : Builtin.Int.intBits ((2 ^ a * (2 ^ r - 1) : Nat) : Int) = a + r := by
  have h2 : 2 ≤ 2 ^ r := by
    have := Nat.pow_le_pow_right (show 0 < 2 by decide) hr
    omega
  have hpa := Nat.two_pow_pos a
  have h1 : 2 ^ a * (2 ^ r - 1) < 2 ^ (a + r) := by
    rw [Nat.pow_add]
    exact Nat.mul_lt_mul_of_pos_left (by omega) hpa
  have h3 : 2 ^ (a + r - 1) ≤ 2 ^ a * (2 ^ r - 1) := by
    obtain ⟨q, rfl⟩ : ∃ q, r = q + 1 := ⟨r - 1, by omega⟩
    rw [show a + (q + 1) - 1 = a + q by omega, Nat.pow_add]
    refine Nat.mul_le_mul_left _ ?_
    have := Nat.two_pow_pos q
    rw [Nat.pow_succ]; omega
  have h4 := intBits_le h1
  have h5 := intBits_lt (a := 2 ^ a * (2 ^ r - 1))
  have h6 : a + r - 1 < Builtin.Int.intBits ((2 ^ a * (2 ^ r - 1) : Nat) : Int) := (Nat.pow_lt_pow_iff_right (show 1 < 2 by decide)).mp (Nat.lt_of_le_of_lt h3 h5)
  omega
theorem norm {a r H V : Nat} (hr : 1 ≤ r) (hH : H < 2 ^ a) (hV : V < 2 ^ r) :
    (if V = 2 ^ r - 1 then (H + 1) % 2 ^ a else H) < 2 ^ a ∧ (if V = 2 ^ r - 1 then 0 else V) < 2 ^ r - 1 ∧
    (H * (2 ^ r - 1) + V) % (2 ^ a * (2 ^ r - 1)) = (if V = 2 ^ r - 1 then (H + 1) % 2 ^ a else H) * (2 ^ r - 1) + (if V = 2 ^ r - 1 then 0 else V) := by
  have h2 : 2 ≤ 2 ^ r := by
    have := Nat.pow_le_pow_right (show 0 < 2 by decide) hr
    omega
  have hpa := Nat.two_pow_pos a
  generalize hO : 2 ^ r - 1 = O
  have hO1 : 1 ≤ O := by omega
  by_cases h : V = O
  · rw [if_pos h, if_pos h]
    refine ⟨Nat.mod_lt _ hpa, hO1, ?_⟩
    rw [h, ← Nat.succ_mul, Nat.mul_mod_mul_right, Nat.add_zero]
  · rw [if_neg h, if_neg h]
    refine ⟨hH, by omega, Nat.mod_eq_of_lt ?_⟩
    have : (H + 1) * O ≤ 2 ^ a * O := Nat.mul_le_mul_right _ hH
    rw [Nat.add_mul] at this; omega
/-- the first forty of a list of numbers -/
theorem sl40 {prog : Program} {w : World} {A : Around} {E : Value → Shared → Prop} {s : Shared} {L : Addr} {m : Str → Option Value} {value slice : Expr} {D : Addr} {vs : List Value} {ns : List Int} {i : Tok} {Q : Value → Shared → Prop} (hn : s.heap.Ns L m) (hl : s.heap.IsList D vs.toArray) (hi : IntsAre vs ns) (hsz : vs.length ≤ 1000)
    (h : ∀ h' D' vs', h'.Ns L m → (∀ b o, b ≠ L → s.heap.get? b = some o → h'.get? b = some o) → h'.IsList D' vs'.toArray → IntsAre vs' (ns.take 40) → Q (.ref D') { s with heap := h' })
    (hs : subscripted slice false (.ref D) (.ref s.heap.objs.size) = operate [.ref s.heap.objs.size, .ref D] (getItem (.ref D) (.ref s.heap.objs.size)) := by with_unfolding_all rfl) (ht : ∀ r, letTemporaryGo value (.ref D) r = pure () := by intro _; with_unfolding_all rfl) :
    wpAny (model prog w) A (subscriptTail value slice (.ref D) (.ref s.heap.objs.size)) Q E { s with heap := s.heap.push { cls := .type "slice", data := .fields #[.none, .int 40 i, .none] } } := by
  refine kmk_slice_lit (fr0 hn) (news0 (L := L)) hl .none (.int 40 i) rfl (fun D' h' F' N' lt => ?_) hs ht (by rw [List.size_toArray, sizeLine_eq]; omega)
  obtain ⟨a, b⟩ := back0 (new := [_]) F' N'
  have n := N' _ (.head _)
  exact h h' D' _ a b ⟨_, n.1, rfl, _, rfl⟩ (kmk_upto hi (by decide))
section
variable {prog : Program} {w : World} {A : Around} {E : Value → Shared → Prop} {s : Shared} {g : Heap} {L fa : Addr} {cd : Value} {m : Str → Option Value} {d t z p : Option Value} {l : List (Str × Value)} {Q : Flow → Shared → Prop}
noncomputable def Two (h : Heap) (D : Addr) : Prop := ∃ c0 c1 t0 t1, h.IsList D #[.int c0 t0, .int c1 t1]
theorem Two.at {h h' : Heap} {D : Addr} (x : Two h D) (k : ∀ o, h.get? D = some o → h'.get? D = some o) : Two h' D := let ⟨a, b, c, e, hl⟩ := x; ⟨a, b, c, e, hl.at k⟩
noncomputable def cellBody (w : World) : List Stmt := match lawSt w 1 with
  | .For _ _ b _ _ => b
  | _ => []
set_option maxHeartbeats 2000000 in
/-- the two cells -/
theorem law0 {stmts : List Stmt} {a₀ : Addr} {sv : List Value} {ns : List Int} (G : Gr w g L) (r : Room A 24) (ls : LS w g L s.heap m d t z p) (hm : m (Str.ofString "script") = some (.ref a₀)) (hsc : g.IsList a₀ sv.toArray) (hI : IntsAre sv ns) (hlen : ns.length ≤ 63)
    (h : ∀ h' tk m' Dc, LS w g L h' m' d t z p → m' (Str.ofString "cells") = some (.ref Dc) → Two h' Dc → wpAny (model prog w) A (execs stmts (lawEnv w L fa cd)) Q E { s with heap := h', toks := tk }) :
    wpAny (model prog w) A (execs (lawSt w 0 :: lawSt w 1 :: stmts) (lawEnv w L fa cd)) Q E s := by
  have gL := G.noneAt (.inr (.inl rfl) : Mut L L)
  have hL : (lawEnv w L fa cd).locals = L := by kernel_rfl
  have hsvl : sv.length = ns.length := IntsAre.length hI
  with_reducible refine wpAny_execs_cons ?_
  show wpAny _ _ (exec (.Assign [.Name _ _] (.List [.Constant _ _ _, .Constant _ _ _] _) _) _) _ _ _
  refine lasg G ?_
  with_reducible refine List_ ?_
  refine spliced_more ?_
  with_reducible refine wpAny_Constant_int ?_
  refine spliced_more ?_
  with_reducible refine wpAny_Constant_int ?_
  refine spliced_none ?_
  refine newList' fun h₁ Dc up₁ nDc hDc => ?_
  (try dsimp only at up₁ nDc hDc); (try dsimp only)
  have ls₁ := ls.ext up₁
  refine ⟨m, d, t, z, p, ls₁, fun h₂ tk₂ ls₂ u₂ => ?_⟩
  (try dsimp only at u₂); (try dsimp only)
  have nMC : ¬ Mut L Dc := ls.fresh nDc
  have hT₂ : Two h₂ Dc := ⟨_, _, _, _, _, u₂ _ _ nMC hDc, rfl, _, rfl⟩
  have ngC : g.get? Dc = none := none_of_ext ls.keep nDc
  have hs₂ : (fun y => if y = Str.ofString "cells" then some (Value.ref Dc) else m y) (Str.ofString "script") = some (.ref a₀) := (if_neg (by decide)).trans hm
  have hc₂ : (fun y => if y = Str.ofString "cells" then some (Value.ref Dc) else m y) (Str.ofString "cells") = some (.ref Dc) := if_pos rfl
  generalize (fun y => if y = Str.ofString "cells" then some (Value.ref Dc) else m y) = m₂ at ls₂ hs₂ hc₂
  with_reducible refine wpAny_execs_cons ?_
  show wpAny _ _ (exec (.For (.Name _ _) (.Call (.Name _ _) [.Call (.Name _ _) [.Subscript (.Name _ _) (.Slice none (some (.Constant _ _ _)) none _) _] [] _] [] _) [.AugAssign (.Subscript (.Name _ _) (.BinOp (.Name _ _) _ (.Constant _ _ _) _) _) _ (.Subscript (.Name _ _) (.Name _ _) _) _] [] _) _) _ _ _
  refine wpAny_For ?_
  refine Call_ ?_
  refine bname (w := w) (s := ⟨h₂, _, _, _, _⟩) (G.B.keeps ls₂.keep) (by kernel_rfl) boot_range ?_
  refine PyProof.Rows.callWith_type1 ?_
  refine spliced_more ?_
  refine Call_ ?_
  refine bname (w := w) (s := ⟨h₂, _, _, _, _⟩) (G.B.keeps ls₂.keep) (by kernel_rfl) boot_len ?_
  refine PyProof.Rows.callWith_builtin1 ?_
  refine spliced_more ?_
  refine Subscript_ ?_
  refine lloc (s := ⟨h₂, _, _, _, _⟩) ls₂ hs₂ ?_
  with_reducible refine wpAny_Slice ?_
  with_reducible refine evalPart_none_step ?_
  with_reducible refine evalPart_some_step ?_
  with_reducible refine wpAny_Constant_int ?_
  with_reducible refine evalPart_none_step ?_
  refine sl40 (s := ⟨h₂, _, _, _, _⟩) (L := L) ls₂.ns (hsc.at fun o e => ls₂.keep _ o e) hI (by omega) fun h₃ D₃ v₃ hn₃ k₃ hl₃ hi₃ => ?_
  (try dsimp only at k₃); (try dsimp only)
  obtain ⟨ls₃, u₃⟩ := ls₂.setE gL hn₃ k₃
  have hvl : v₃.length ≤ ns.length ∧ v₃.length ≤ 40 := by rw [IntsAre.length hi₃, List.length_take]; omega
  refine spliced_none ?_
  refine len_list hl₃ (by rw [List.size_toArray]; omega) ?_
  refine spliced_none ?_
  rw [List.size_toArray]
  refine range_for (s := ⟨h₃, _, _, _, _⟩) (n := v₃.length) r.handled (by omega) (fun _ h => ∃ m', LS w g L h m' d t z p ∧ m' (Str.ofString "script") = some (.ref a₀) ∧ m' (Str.ofString "cells") = some (.ref Dc) ∧ Two h Dc) ?_ ?_ ?_ ?_
  · rintro i h₄ h₅ I a b c ⟨m₄, ls₄, hs₄, hc₄, hT₄⟩ hI nI hk
    refine ⟨m₄, ls₄.iter hI (none_of_ext ls₃.keep nI) (fun b o hb e => hk b o (fun q => hb (by simp [q])) e), hs₄, hc₄, hT₄.at fun o e => hk _ o (fun q => ?_) e⟩
    obtain ⟨_, _, _, _, o', e', c', _⟩ := hT₄
    have eI : h₄.get? I = some _ := hI
    rw [q, eI] at e'; cases e'; exact absurd (Value.type.inj c') (by decide)
  · intro h₄ up₄
    exact ⟨m₂, ls₃.ext up₄, hs₂, hc₂, hT₂.at fun o e => up₄ _ o (u₃ _ o nMC e)⟩
  · rintro i h₄ tk₄ ti I a b c hi ⟨m₄, ls₄, hs₄, hc₄, hT₄⟩ hI' nI
    have nMI := ls₄.iterNot hI'
    refine wpAny_assign_Name (wpAny_storeName_local (m := m₄) (by kernel_rfl) (by rw [hL]; exact ls₄.ns) (fun h₅ hn₅ hs₅ => ?_) (by kernel_rfl))
    rw [hL] at hn₅ hs₅
    (try dsimp only at hn₅ hs₅); (try dsimp only)
    obtain ⟨ls₅, u₅⟩ := ls₄.setL gL hn₅ hs₅
    have hs₅' : (fun y => if y = Str.ofString "k" then some (Value.int (i : Nat) ti) else m₄ y) (Str.ofString "script") = some (.ref a₀) := (if_neg (by decide)).trans hs₄
    have hc₅ : (fun y => if y = Str.ofString "k" then some (Value.int (i : Nat) ti) else m₄ y) (Str.ofString "cells") = some (.ref Dc) := (if_neg (by decide)).trans hc₄
    have hk₅ : (fun y => if y = Str.ofString "k" then some (Value.int (i : Nat) ti) else m₄ y) (Str.ofString "k") = some (.int (i : Nat) ti) := if_pos rfl
    generalize (fun y => if y = Str.ofString "k" then some (Value.int (i : Nat) ti) else m₄ y) = m₅ at ls₅ hs₅' hc₅ hk₅
    obtain ⟨c0, c1, t0, t1, hl₅⟩ := hT₄.at fun o e => u₅ _ o nMC e
    with_reducible refine wpAny_execs_cons ?_
    refine wpAny_AugAssign_Subscript_any ?_
    refine lloc (s := ⟨h₅, _, _, _, _⟩) ls₅ hc₅ ?_
    with_reducible refine wpAny_BinOp ?_
    refine lloc (s := ⟨h₅, _, _, _, _⟩) ls₅ hk₅ ?_
    with_reducible refine wpAny_Constant_int ?_
    refine modn (b := 2) (by decide) ?_
    have h2 : i % 2 < 2 := Nat.mod_lt _ (by decide)
    obtain ⟨c, tc, hcell⟩ : ∃ c tc, (#[Value.int c0 t0, Value.int c1 t1] : Array Value)[((i % 2 : Nat) : Int).toNat]? = some (.int c tc) := by
      rw [Int.toNat_natCast]
      have : i % 2 = 0 ∨ i % 2 = 1 := by omega
      rcases this with e | e <;> rw [e] <;> exact ⟨_, _, rfl⟩
    refine wpAny_getItem_list hl₅ (by omega) (by omega) hcell ?_
    refine Subscript_ ?_
    refine lloc (s := ⟨h₅, _, _, _, _⟩) ls₅ hs₅' ?_
    refine lloc (s := ⟨h₅, _, _, _, _⟩) ls₅ hk₅ ?_
    obtain ⟨tx, hx⟩ := hI.get i _ (List.getElem?_eq_getElem (by omega))
    refine item_list (hsc.at fun o e => ls₅.keep _ o e) (by omega) (by omega) (by rw [Int.toNat_natCast]; simpa using hx) ?_
    refine PyProof.Rows.iadd_int ?_
    refine wpAny_setItem_list hl₅ (by omega) (by omega) (by simp; omega) fun h₆ hl₆ hs₆ => ?_
    (try dsimp only at hs₆); (try dsimp only)
    have ls₆ := ls₅.turnList hl₅ ngC fun b o hb e => hs₆.extBut b o hb e
    with_reducible refine wpAny_execs_nil ?_
    refine ⟨h₆, _, rfl, ⟨m₅, ls₆, hs₅', hc₅, ?_⟩, fun o e => hs₆.extBut _ o (fun q => ?_) (u₅ _ o nMI e)⟩
    · rw [Int.toNat_natCast] at hl₆
      have : i % 2 = 0 ∨ i % 2 = 1 := by omega
      rcases this with e | e <;> rw [e] at hl₆ <;> exact ⟨_, _, _, _, hl₆⟩
    · obtain ⟨_, _, _, _, o', e', c', _⟩ := hT₄
      have eI : h₄.get? I = some _ := hI'
      rw [← q, eI] at e'; cases e'; exact absurd (Value.type.inj c') (by decide)
  · rintro h₄ tk₄ ⟨m₄, ls₄, hs₄, hc₄, hT₄⟩
    exact h h₄ tk₄ m₄ Dc ls₄ hc₄ hT₄
end
end Mine
namespace Mine
section
variable {prog : Program} {w : World} {A : Around} {E : Value → Shared → Prop} {s : Shared} {g : Heap} {L fa : Addr} {cd : Value} {m : Str → Option Value} {d t z p : Option Value} {l : List (Str × Value)} {Q : Flow → Shared → Prop}
theorem casgD {x : Str} {pos' pos : Pos} {value : Expr} (G : Gr w g L) (hc : (lawEnv w L fa cd).cells.lookup x = some (L + 1))
    (h : wpAny (model prog w) A (eval value (lawEnv w L fa cd)) (fun v s₁ => ∃ m d t z p, LS w g L s₁.heap m d t z p ∧ ∀ h' tk, LS w g L h' m (some v) t z p → Up L s₁.heap h' → Q .next { s₁ with heap := h', toks := tk }) E s)
    (hx : (lawEnv w L fa cd).kindOf x = some .cell := by kernel_rfl)
    (hs : swapsWith value (some (.Name x pos')) pos.line (lawEnv w L fa cd) = pure false := by rfl) : wpAny (model prog w) A (exec (.Assign [.Name x pos'] value pos) (lawEnv w L fa cd)) Q E s := by
  refine asgC hc (wpAny_mono h (fun v s₁ h₁ => ?_) fun _ _ e => e) hx (by kernel_rfl) hs
  obtain ⟨m, d, t, z, p, ls, k⟩ := h₁
  refine ⟨d, ls.cd, fun h' hn hs => ?_⟩
  obtain ⟨ls', u⟩ := ls.setD G hn hs
  exact k h' _ ls' u
theorem casgT {x : Str} {pos' pos : Pos} {value : Expr} (G : Gr w g L) (hc : (lawEnv w L fa cd).cells.lookup x = some (L + 2))
    (h : wpAny (model prog w) A (eval value (lawEnv w L fa cd)) (fun v s₁ => ∃ m d t z p, LS w g L s₁.heap m d t z p ∧ ∀ h' tk, LS w g L h' m d (some v) z p → Up L s₁.heap h' → Q .next { s₁ with heap := h', toks := tk }) E s)
    (hx : (lawEnv w L fa cd).kindOf x = some .cell := by kernel_rfl)
    (hs : swapsWith value (some (.Name x pos')) pos.line (lawEnv w L fa cd) = pure false := by rfl) : wpAny (model prog w) A (exec (.Assign [.Name x pos'] value pos) (lawEnv w L fa cd)) Q E s := by
  refine asgC hc (wpAny_mono h (fun v s₁ h₁ => ?_) fun _ _ e => e) hx (by kernel_rfl) hs
  obtain ⟨m, d, t, z, p, ls, k⟩ := h₁
  refine ⟨t, ls.ct, fun h' hn hs => ?_⟩
  obtain ⟨ls', u⟩ := ls.setT G hn hs
  exact k h' _ ls' u
theorem fmod_small (c : Int) {b : Nat} (hb : 0 < b) : ∃ a : Nat, a < b ∧ Int.fmod c (b : Int) = ((a : Nat) : Int) := by
  refine ⟨(Int.fmod c b).toNat, ?_, ?_⟩
  · have := Int.fmod_lt_of_pos c (b := (b : Int)) (by omega)
    have := Int.fmod_nonneg_of_pos c (b := (b : Int)) (by omega)
    omega
  · have := Int.fmod_nonneg_of_pos c (b := (b : Int)) (by omega)
    omega
/-- a local name of the law is set, the names kept as a list -/
theorem lasgH {x : Str} {pos' pos : Pos} {value : Expr} (G : Gr w g L) (ls : LS w g L s.heap m d t z p) (H : Has m l) (hl : (l.all fun p => p.1 != x) = true)
    (h : wpAny (model prog w) A (eval value (lawEnv w L fa cd)) (fun v s₁ => s₁.heap = s.heap ∧ s₁ = { s with toks := s₁.toks } ∧ ∀ h' tk m', LS w g L h' m' d t z p → Has m' ((x, v) :: l) → Up L s.heap h' → Q .next { s with heap := h', toks := tk }) E s)
    (hx : (lawEnv w L fa cd).kindOf x = some .local := by kernel_rfl)
    (hs : swapsWith value (some (.Name x pos')) pos.line (lawEnv w L fa cd) = pure false := by rfl) : wpAny (model prog w) A (exec (.Assign [.Name x pos'] value pos) (lawEnv w L fa cd)) Q E s := by
  refine lasg G (wpAny_mono h (fun v s₁ h₁ => ?_) fun _ _ e => e) hx hs
  obtain ⟨e1, e2, k⟩ := h₁
  refine ⟨m, d, t, z, p, e1 ▸ ls, fun h' tk ls' u => ?_⟩
  rw [e2]
  exact k h' tk _ ls' (H.put hl) (e1 ▸ u)
set_option maxHeartbeats 4000000 in
/-- the numbers read off the cells -/
theorem law2 {stmts : List Stmt} {Dc : Addr} (G : Gr w g L) (ls : LS w g L s.heap m d t z p) (hc : m (Str.ofString "cells") = some (.ref Dc)) (hT : Two s.heap Dc)
    (h : ∀ h' tk m' a r H V ta tr th tv to td ts tw tt tx, a ≤ 3 → 1 ≤ r → r ≤ 8 → H < 2 ^ a → V < 2 ^ r → LS w g L h' m' (some (.int (2 ^ a * (2 ^ r - 1) : Nat) td)) (some (.str (ab []) tt)) z p →
      Has m' [(Str.ofString "rest", .int ((H * (2 ^ r - 1) + V) % (2 ^ a * (2 ^ r - 1)) : Nat) tx), (Str.ofString "width", .int (a + r : Nat) tw), (Str.ofString "start", .int ((H * (2 ^ r - 1) + V) % (2 ^ a * (2 ^ r - 1)) : Nat) ts), (Str.ofString "wheel", .int (V : Nat) tv), (Str.ofString "ones", .int (2 ^ r - 1 : Nat) to),
        (Str.ofString "round_size", .int (r : Nat) tr), (Str.ofString "head", .int (H : Nat) th), (Str.ofString "ahead", .int (a : Nat) ta), (Str.ofString "cells", .ref Dc)] →
      wpAny (model prog w) A (execs stmts (lawEnv w L fa cd)) Q E { s with heap := h', toks := tk }) :
    wpAny (model prog w) A (execs (lawSt w 2 :: lawSt w 3 :: lawSt w 4 :: lawSt w 5 :: lawSt w 6 :: lawSt w 7 :: lawSt w 8 :: lawSt w 9 :: lawSt w 10 :: lawSt w 11 :: stmts) (lawEnv w L fa cd)) Q E s := by
  obtain ⟨c0, c1, t0, t1, hl⟩ := hT
  have nMC := ls.listNot hl
  have H₀ : Has m [(Str.ofString "cells", .ref Dc)] := fun q hq => by rw [List.mem_singleton.mp hq]; exact hc
  -- ahead
  obtain ⟨a, ha, ea⟩ := fmod_small c0 (b := 4) (by decide)
  with_reducible refine wpAny_execs_cons ?_
  show wpAny _ _ (exec (.Assign [.Name _ _] (.BinOp (.Subscript (.Name _ _) (.Constant _ _ _) _) _ (.Constant _ _ _) _) _) _) _ _ _
  refine lasgH G ls H₀ (by rfl) ?_
  with_reducible refine wpAny_BinOp ?_
  refine Subscript_ ?_
  refine lloc ls hc ?_
  with_reducible refine wpAny_Constant_int ?_
  refine item_list (v := .int c0 t0) hl (by decide) (by decide) rfl ?_
  with_reducible refine wpAny_Constant_int ?_
  refine PyProof.Rows.mod_int' (by decide) ?_
  rw [show (4 : Int) = ((4 : Nat) : Int) from rfl, ea]
  refine ⟨rfl, rfl, fun h₁ tk₁ m₁ ls₁ H₁ u₁ => ?_⟩
  obtain ⟨ta, H₁⟩ : ∃ ta, Has m₁ ((Str.ofString "ahead", .int (a : Nat) ta) :: [(Str.ofString "cells", .ref Dc)]) := ⟨_, H₁⟩
  have hl₁ := u₁.keepList nMC hl
  (try dsimp only)
  have hpa := Nat.two_pow_pos a
  have hpa8 : 2 ^ a ≤ 8 := Nat.le_trans (Nat.pow_le_pow_right (by decide) (show a ≤ 3 by omega)) (by decide)
  -- head
  obtain ⟨H, hH, eH⟩ := fmod_small (Int.fdiv c0 4) hpa
  with_reducible refine wpAny_execs_cons ?_
  show wpAny _ _ (exec (.Assign [.Name _ _] (.BinOp (.BinOp (.Subscript (.Name _ _) (.Constant _ _ _) _) _ (.Constant _ _ _) _) _ (.BinOp (.Constant _ _ _) _ (.Name _ _) _) _) _) _) _ _ _
  refine lasgH (s := ⟨h₁, _, _, _, _⟩) G ls₁ H₁ (by rfl) ?_
  with_reducible refine wpAny_BinOp ?_
  with_reducible refine wpAny_BinOp ?_
  refine Subscript_ ?_
  refine lloc (s := ⟨h₁, _, _, _, _⟩) ls₁ (H₁.get (.tail _ (.head _))) ?_
  with_reducible refine wpAny_Constant_int ?_
  refine item_list (v := .int c0 t0) hl₁ (by decide) (by decide) rfl ?_
  with_reducible refine wpAny_Constant_int ?_
  refine PyProof.Rows.floordiv_int (by decide) ?_ (.inl (PyProof.noPylong_small (by decide)))
  with_reducible refine wpAny_BinOp ?_
  with_reducible refine wpAny_Constant_int ?_
  refine lloc (s := ⟨h₁, _, _, _, _⟩) ls₁ (H₁.get (.head _)) ?_
  refine pow2n (by omega) ?_
  refine PyProof.Rows.mod_int' (by omega) ?_
  rw [eH]
  refine ⟨rfl, rfl, fun h₂ tk₂ m₂ ls₂ H₂ u₂ => ?_⟩
  obtain ⟨th, H₂⟩ : ∃ th, Has m₂ ((Str.ofString "head", .int (H : Nat) th) :: (Str.ofString "ahead", .int (a : Nat) ta) :: [(Str.ofString "cells", .ref Dc)]) := ⟨_, H₂⟩
  have hl₂ := (u₁.trans u₂).keepList nMC hl
  (try dsimp only)
  -- round_size
  obtain ⟨q, hq, eq⟩ := fmod_small c1 (b := 8) (by decide)
  with_reducible refine wpAny_execs_cons ?_
  show wpAny _ _ (exec (.Assign [.Name _ _] (.BinOp (.Constant _ _ _) _ (.BinOp (.Subscript (.Name _ _) (.Constant _ _ _) _) _ (.Constant _ _ _) _) _) _) _) _ _ _
  refine lasgH (s := ⟨h₂, _, _, _, _⟩) G ls₂ H₂ (by rfl) ?_
  with_reducible refine wpAny_BinOp ?_
  with_reducible refine wpAny_Constant_int ?_
  with_reducible refine wpAny_BinOp ?_
  refine Subscript_ ?_
  refine lloc (s := ⟨h₂, _, _, _, _⟩) ls₂ (H₂.get (.tail _ (.tail _ (.head _)))) ?_
  with_reducible refine wpAny_Constant_int ?_
  refine item_list (v := .int c1 t1) hl₂ (by decide) (by decide) rfl ?_
  with_reducible refine wpAny_Constant_int ?_
  refine PyProof.Rows.mod_int' (by decide) ?_
  rw [show (8 : Int) = ((8 : Nat) : Int) from rfl, eq]
  refine addn (a := 1) ?_
  obtain ⟨r, hr⟩ : ∃ r, r = 1 + q := ⟨_, rfl⟩
  rw [← hr]
  refine ⟨rfl, rfl, fun h₃ tk₃ m₃ ls₃ H₃ u₃ => ?_⟩
  obtain ⟨tr, H₃⟩ : ∃ tr, Has m₃ ((Str.ofString "round_size", .int (r : Nat) tr) :: (Str.ofString "head", .int (H : Nat) th) :: (Str.ofString "ahead", .int (a : Nat) ta) :: [(Str.ofString "cells", .ref Dc)]) := ⟨_, H₃⟩
  have hl₃ := ((u₁.trans u₂).trans u₃).keepList nMC hl
  (try dsimp only)
  have hpr : 2 ≤ 2 ^ r := by
    have := Nat.pow_le_pow_right (show 0 < 2 by decide) (show 1 ≤ r by omega)
    omega
  have hpr8 : 2 ^ r ≤ 256 := Nat.le_trans (Nat.pow_le_pow_right (by decide) (show r ≤ 8 by omega)) (by decide)
  -- ones
  with_reducible refine wpAny_execs_cons ?_
  show wpAny _ _ (exec (.Assign [.Name _ _] (.BinOp (.BinOp (.Constant _ _ _) _ (.Name _ _) _) _ (.Constant _ _ _) _) _) _) _ _ _
  refine lasgH (s := ⟨h₃, _, _, _, _⟩) G ls₃ H₃ (by rfl) ?_
  with_reducible refine wpAny_BinOp ?_
  with_reducible refine wpAny_BinOp ?_
  with_reducible refine wpAny_Constant_int ?_
  refine lloc (s := ⟨h₃, _, _, _, _⟩) ls₃ (H₃.get (.head _)) ?_
  refine pow2n (by omega) ?_
  with_reducible refine wpAny_Constant_int ?_
  refine subn (b := 1) (by omega) ?_
  refine ⟨rfl, rfl, fun h₄ tk₄ m₄ ls₄ H₄ u₄ => ?_⟩
  obtain ⟨to, H₄⟩ : ∃ to, Has m₄ ((Str.ofString "ones", .int (2 ^ r - 1 : Nat) to) :: (Str.ofString "round_size", .int (r : Nat) tr) :: (Str.ofString "head", .int (H : Nat) th) :: (Str.ofString "ahead", .int (a : Nat) ta) :: [(Str.ofString "cells", .ref Dc)]) := ⟨_, H₄⟩
  have hl₄ := (((u₁.trans u₂).trans u₃).trans u₄).keepList nMC hl
  (try dsimp only)
  -- wheel
  obtain ⟨V, hV, eV⟩ := fmod_small (Int.fdiv c1 8) (Nat.two_pow_pos r)
  with_reducible refine wpAny_execs_cons ?_
  show wpAny _ _ (exec (.Assign [.Name _ _] (.BinOp (.BinOp (.Subscript (.Name _ _) (.Constant _ _ _) _) _ (.Constant _ _ _) _) _ (.BinOp (.Constant _ _ _) _ (.Name _ _) _) _) _) _) _ _ _
  refine lasgH (s := ⟨h₄, _, _, _, _⟩) G ls₄ H₄ (by rfl) ?_
  with_reducible refine wpAny_BinOp ?_
  with_reducible refine wpAny_BinOp ?_
  refine Subscript_ ?_
  refine lloc (s := ⟨h₄, _, _, _, _⟩) ls₄ (H₄.get (.tail _ (.tail _ (.tail _ (.tail _ (.head _)))))) ?_
  with_reducible refine wpAny_Constant_int ?_
  refine item_list (v := .int c1 t1) hl₄ (by decide) (by decide) rfl ?_
  with_reducible refine wpAny_Constant_int ?_
  refine PyProof.Rows.floordiv_int (by decide) ?_ (.inl (PyProof.noPylong_small (by decide)))
  with_reducible refine wpAny_BinOp ?_
  with_reducible refine wpAny_Constant_int ?_
  refine lloc (s := ⟨h₄, _, _, _, _⟩) ls₄ (H₄.get (.tail _ (.head _))) ?_
  refine pow2n (by omega) ?_
  refine PyProof.Rows.mod_int' (by omega) ?_
  rw [eV]
  refine ⟨rfl, rfl, fun h₅ tk₅ m₅ ls₅ H₅ u₅ => ?_⟩
  obtain ⟨tv, H₅⟩ : ∃ tv, Has m₅ ((Str.ofString "wheel", .int (V : Nat) tv) :: (Str.ofString "ones", .int (2 ^ r - 1 : Nat) to) :: (Str.ofString "round_size", .int (r : Nat) tr) :: (Str.ofString "head", .int (H : Nat) th) :: (Str.ofString "ahead", .int (a : Nat) ta) :: [(Str.ofString "cells", .ref Dc)]) := ⟨_, H₅⟩
  (try dsimp only)
  -- divisor
  with_reducible refine wpAny_execs_cons ?_
  show wpAny _ _ (exec (.Assign [.Name _ _] (.BinOp (.BinOp (.Constant _ _ _) _ (.Name _ _) _) _ (.Name _ _) _) _) _) _ _ _
  refine casgD G (by kernel_rfl) ?_
  with_reducible refine wpAny_BinOp ?_
  with_reducible refine wpAny_BinOp ?_
  with_reducible refine wpAny_Constant_int ?_
  refine lloc (s := ⟨h₅, _, _, _, _⟩) ls₅ (H₅.get (.tail _ (.tail _ (.tail _ (.tail _ (.head _)))))) ?_
  refine pow2n (by omega) ?_
  refine lloc (s := ⟨h₅, _, _, _, _⟩) ls₅ (H₅.get (.tail _ (.head _))) ?_
  refine muln (by omega) ?_
  refine ⟨m₅, d, t, z, p, ls₅, fun h₆ tk₆ ls₆ u₆ => ?_⟩
  obtain ⟨td, ls₆⟩ : ∃ td, LS w g L h₆ m₅ (some (.int (2 ^ a * (2 ^ r - 1) : Nat) td)) t z p := ⟨_, ls₆⟩
  (try dsimp only)
  have hD0 : 2 ^ a * (2 ^ r - 1) ≠ 0 := Nat.ne_of_gt (Nat.mul_pos hpa (by omega))
  have hHO : H * (2 ^ r - 1) < 2 ^ 60 := by
    have : H * (2 ^ r - 1) ≤ 8 * 256 := Nat.mul_le_mul (by omega) (by omega)
    omega
  -- start
  with_reducible refine wpAny_execs_cons ?_
  show wpAny _ _ (exec (.Assign [.Name _ _] (.BinOp (.BinOp (.BinOp (.Name _ _) _ (.Name _ _) _) _ (.Name _ _) _) _ (.Name _ _) _) _) _) _ _ _
  refine lasgH (s := ⟨h₆, _, _, _, _⟩) G ls₆ H₅ (by rfl) ?_
  with_reducible refine wpAny_BinOp ?_
  with_reducible refine wpAny_BinOp ?_
  with_reducible refine wpAny_BinOp ?_
  refine lloc (s := ⟨h₆, _, _, _, _⟩) ls₆ (H₅.get (.tail _ (.tail _ (.tail _ (.head _))))) ?_
  refine lloc (s := ⟨h₆, _, _, _, _⟩) ls₆ (H₅.get (.tail _ (.head _))) ?_
  refine muln (by omega) ?_
  refine lloc (s := ⟨h₆, _, _, _, _⟩) ls₆ (H₅.get (.head _)) ?_
  refine addn ?_
  refine cname (c := L + 1) (s := ⟨h₆, _, _, _, _⟩) (by kernel_rfl) ls₆.cd ?_
  refine modn hD0 ?_
  refine ⟨rfl, rfl, fun h₇ tk₇ m₇ ls₇ H₇ u₇ => ?_⟩
  obtain ⟨S, hS⟩ : ∃ S, S = (H * (2 ^ r - 1) + V) % (2 ^ a * (2 ^ r - 1)) := ⟨_, rfl⟩
  rw [← hS] at H₇
  obtain ⟨ts, H₇⟩ : ∃ ts, Has m₇ ((Str.ofString "start", .int (S : Nat) ts) :: (Str.ofString "wheel", .int (V : Nat) tv) :: (Str.ofString "ones", .int (2 ^ r - 1 : Nat) to) :: (Str.ofString "round_size", .int (r : Nat) tr) :: (Str.ofString "head", .int (H : Nat) th) :: (Str.ofString "ahead", .int (a : Nat) ta) :: [(Str.ofString "cells", .ref Dc)]) := ⟨_, H₇⟩
  (try dsimp only)
  -- width
  with_reducible refine wpAny_execs_cons ?_
  show wpAny _ _ (exec (.Assign [.Name _ _] (.Call (.Attribute (.Name _ _) _ _) [] [] _) _) _) _ _ _
  refine lasgH (s := ⟨h₇, _, _, _, _⟩) G ls₇ H₇ (by rfl) ?_
  refine MethodCall_ ?_
  refine cname (c := L + 1) (s := ⟨h₇, _, _, _, _⟩) (by kernel_rfl) ls₇.cd ?_
  with_reducible refine getMethod_int_bit_length ?_
  (try dsimp only)
  refine callWith_method0 ?_
  with_reducible refine call_int_bit_length ?_
  rw [bits_wide (by omega)]
  refine ⟨rfl, rfl, fun h₈ tk₈ m₈ ls₈ H₈ u₈ => ?_⟩
  obtain ⟨tw, H₈⟩ : ∃ tw, Has m₈ ((Str.ofString "width", .int (a + r : Nat) tw) :: (Str.ofString "start", .int (S : Nat) ts) :: (Str.ofString "wheel", .int (V : Nat) tv) :: (Str.ofString "ones", .int (2 ^ r - 1 : Nat) to) :: (Str.ofString "round_size", .int (r : Nat) tr) :: (Str.ofString "head", .int (H : Nat) th) :: (Str.ofString "ahead", .int (a : Nat) ta) :: [(Str.ofString "cells", .ref Dc)]) := ⟨_, H₈⟩
  (try dsimp only)
  -- text
  with_reducible refine wpAny_execs_cons ?_
  show wpAny _ _ (exec (.Assign [.Name _ _] (.Constant _ _ _) _) _) _ _ _
  refine casgT G (by kernel_rfl) ?_
  with_reducible refine Calls.Constant_str ?_
  refine ⟨m₈, _, t, z, p, ls₈, fun h₉ tk₉ ls₉ u₉ => ?_⟩
  rw [empty_ab] at ls₉
  (try dsimp only)
  -- rest
  with_reducible refine wpAny_execs_cons ?_
  show wpAny _ _ (exec (.Assign [.Name _ _] (.Name _ _) _) _) _ _ _
  refine lasgH (s := ⟨h₉, _, _, _, _⟩) G ls₉ H₈ (by rfl) ?_
  refine lloc (s := ⟨h₉, _, _, _, _⟩) ls₉ (H₈.get (.tail _ (.head _))) ?_
  refine ⟨rfl, rfl, fun h' tk' m' ls' H' u' => ?_⟩
  rw [hS] at H'
  exact h h' tk' m' a r H V ta tr th tv to td ts tw _ _ (by omega) (by omega) (by omega) hH hV ls' H'
end
end Mine
namespace Mine
section
variable {prog : Program} {w : World} {A : Around} {E : Value → Shared → Prop} {s : Shared} {g : Heap} {L fa : Addr} {cd : Value} {m : Str → Option Value} {d t z p : Option Value} {l : List (Str × Value)} {Q : Flow → Shared → Prop}
theorem lawBody_eq (w : World) : lawBody w = [lawSt w 0, lawSt w 1, lawSt w 2, lawSt w 3, lawSt w 4, lawSt w 5, lawSt w 6, lawSt w 7, lawSt w 8, lawSt w 9, lawSt w 10, lawSt w 11, lawSt w 12, lawSt w 13, lawSt w 14, lawSt w 15, lawSt w 16, lawSt w 17, lawSt w 18, lawSt w 19, lawSt w 20, lawSt w 21, lawSt w 22, lawSt w 23, lawSt w 24] := by kernel_rfl
set_option maxHeartbeats 4000000 in
theorem law_all {a₀ : Addr} {sv : List Value} {ns : List Int} (G : Gr w g L) (rm : Room A 50) (ls : LS w g L s.heap m d t z p) (hm : m (Str.ofString "script") = some (.ref a₀)) (hsc : g.IsList a₀ sv.toArray) (hI : IntsAre sv ns) (hlen : ns.length ≤ 63)
    (h : ∀ h' tk m' d' t' z' p', LS w g L h' m' d' t' z' p' → Q (.ret (.bool true)) { s with heap := h', toks := tk }) :
    wpAny (model prog w) A (execs (lawBody w) (lawEnv w L fa cd)) Q E s := by
  rw [lawBody_eq]
  refine law0 G (rm.less (by omega)) ls hm hsc hI hlen fun h₁ tk₁ m₁ Dc ls₁ hc₁ T₁ => ?_
  refine law2 (s := ⟨h₁, _, _, _, _⟩) G ls₁ hc₁ T₁ fun h₂ tk₂ m₂ a r H V ta tr th tv to td ts tw tt tx ha hr1 hr8 hH hV ls₂ H₂ => ?_
  obtain ⟨hH', hV', hS⟩ := norm hr1 hH hV
  generalize hDe : 2 ^ a * (2 ^ r - 1) = D at *
  generalize hSe : (H * (2 ^ r - 1) + V) % D = S at *
  have hpa := Nat.two_pow_pos a
  have hpa8 : 2 ^ a ≤ 8 := Nat.le_trans (Nat.pow_le_pow_right (by decide) ha) (by decide)
  have hpr : 2 ≤ 2 ^ r := by
    have := Nat.pow_le_pow_right (show 0 < 2 by decide) hr1
    omega
  have hpr8 : 2 ^ r ≤ 256 := Nat.le_trans (Nat.pow_le_pow_right (by decide) hr8) (by decide)
  have hD0 : 0 < D := by rw [← hDe]; exact Nat.mul_pos hpa (by omega)
  have hD12 : D < 2 ^ 12 := by
    have : D ≤ 8 * 256 := by rw [← hDe]; exact Nat.mul_le_mul hpa8 (by omega)
    omega
  have hSD : S < D := by rw [← hSe]; exact Nat.mod_lt _ hD0
  -- the blocks
  with_reducible refine wpAny_execs_cons ?_
  refine block_for (s := ⟨h₂, _, _, _, _⟩) (D := D) (S := S) (W := a + r) (tw := tw) G (rm.less (by omega)) ls₂ (l := [(Str.ofString "width", .int (a + r : Nat) tw), (Str.ofString "start", .int (S : Nat) ts), (Str.ofString "wheel", .int (V : Nat) tv), (Str.ofString "ones", .int (2 ^ r - 1 : Nat) to),
    (Str.ofString "round_size", .int (r : Nat) tr), (Str.ofString "head", .int (H : Nat) th), (Str.ofString "ahead", .int (a : Nat) ta)]) (H₂.sub fun q hq => .tail _ (List.mem_append_left [(Str.ofString "cells", Value.ref Dc)] hq)) (by rfl) (H₂.get (.head _)) (.head _) hSD hD12 (by omega) (by omega) fun h₃ tk₃ m₃ tt₃ tr₃ ls₃ H₃ hr₃ u₃ => ?_
  -- head and wheel
  with_reducible refine wpAny_execs_cons ?_
  refine law13 (s := ⟨h₃, _, _, _, _⟩) (H := H) (V := V) (O := 2 ^ r - 1) (a := a) G ls₃ (l := [(Str.ofString "width", .int (a + r : Nat) tw), (Str.ofString "start", .int (S : Nat) ts), (Str.ofString "round_size", .int (r : Nat) tr), (Str.ofString "ahead", .int (a : Nat) ta)]) ?_ (by rfl)
    (H₃.get (.tail _ (.tail _ (.tail _ (.tail _ (.tail _ (.head _))))))) (H₃.get (.tail _ (.tail _ (.head _)))) (H₃.get (.tail _ (.tail _ (.tail _ (.head _))))) (H₃.get (.tail _ (.tail _ (.tail _ (.tail _ (.tail _ (.tail _ (.head _)))))))) ha fun h₄ tk₄ m₄ th₄ tv₄ ls₄ H₄ hh₄ hv₄ u₄ => ?_
  · intro q hq
    simp only [List.mem_cons, List.not_mem_nil, or_false] at hq
    rcases hq with rfl | rfl | rfl | rfl
    · exact H₃.get (.head _)
    · exact H₃.get (.tail _ (.head _))
    · exact H₃.get (.tail _ (.tail _ (.tail _ (.tail _ (.head _)))))
    · exact H₃.get (.tail _ (.tail _ (.tail _ (.tail _ (.tail _ (.tail _ (.head _)))))))
  generalize hHe : (if V = 2 ^ r - 1 then (H + 1) % 2 ^ a else H) = H' at *
  generalize hVe : (if V = 2 ^ r - 1 then 0 else V) = V' at *
  have hX := text_law hr1 ha hH' hV'
  have hper := period hr1 hH' hV'
  rw [hDe, ← hS] at hX hper
  have hXw := txt_win hSD (a + r) 3
  generalize hXe : txt S D (a + r) 3 = X at *
  have hXl : X.length = 3 * (a + r) := by rw [hXw, win_length]
  -- the text
  with_reducible refine wpAny_execs_cons ?_
  refine law14 (s := ⟨h₄, _, _, _, _⟩) (X := X) (H := H') (V := V') (a := a) (rr := r) (W := a + r) G (rm.less (by omega)) ls₄ hh₄ hv₄ (H₄.get (.tail _ (.tail _ (.tail _ (.head _))))) (H₄.get (.tail _ (.tail _ (.head _)))) (H₄.get (.head _)) ha hr8 hX fun h₅ tk₅ ls₅ u₅ => ?_
  -- the rests
  refine law15 (s := ⟨h₅, _, _, _, _⟩) (S := S) (D := D) (W := a + r) (l := [(Str.ofString "start", .int (S : Nat) ts)]) G (rm.less (by omega)) ls₅ (fun q hq => by rw [List.mem_singleton.mp hq]; exact H₄.get (.tail _ (.head _))) (by rfl) (H₄.get (.tail _ (.head _))) (.head _) hSD hD12 (by omega) ⟨a, by omega, hper⟩
    fun h₆ tk₆ m₆ N Dr rv ls₆ H₆ hr₆ R₆ nMR nDr hN1 hNW nd back u₆ => ?_
  have K : Words S D (a + r) N X := ⟨hSD, hXw, hN1, hNW, nd, back⟩
  have HR : Has m₆ [(Str.ofString "rests", .ref Dr)] := fun q hq => by rw [List.mem_singleton.mp hq]; exact hr₆
  -- words and counts
  refine law18 (s := ⟨h₆, _, _, _, _⟩) (X := X) G ls₆ HR (by rfl) fun h₇ tk₇ m₇ Dw Dk ls₇ H₇ hw₇ hk₇ W₇ C₇ n₇ nk₇ u₇ => ?_
  have R₇ := R₆.up fun o e => u₇ _ o (ls₆.listNot R₆.lst.isList) e
  with_reducible refine wpAny_execs_cons ?_
  refine law20 (s := ⟨h₇, _, _, _, _⟩) (l := []) G (rm.less (by omega)) ls₇ (fun q hq => by cases hq) (by rfl) (H₇.get (.head _)) hw₇ hk₇ K (by omega) hD12 R₇ W₇ C₇ n₇ (fun q => ?_) (none_of_ext ls₆.keep nk₇) fun h₈ tk₈ m₈ Dv n cv tz ls₈ H₈ hr₈ hw₈ hk₈ R₈ W₈ C₈ I₈ hn he u₈ => ?_
  · have nk : h₆.get? Dk = none := nk₇
    obtain ⟨o, e, _⟩ := R₆.lst.isList
    rw [← q, nk] at e; cases e
  refine law21 (s := ⟨h₈, _, _, _, _⟩) G (rm.less (by omega)) ls₈ hr₈ hw₈ hk₈ K (by omega) R₈ W₈ C₈ I₈ hn he fun h₉ tk₉ m₉ d₉ t₉ z₉ p₉ ls₉ => ?_
  exact h h₉ tk₉ m₉ d₉ t₉ z₉ p₉ ls₉
end
end Mine
namespace Mine
set_option maxHeartbeats 8000000 in
theorem joined : PySem.Challenge.rw_qu0017_01.Holds := by
  refine hd ?_
  w_on
  w_strict k_go0
  rename World => w
  rename Frag.In _ _ => X'
  rename IntsAre _ _ => hI
  rename Fr _ _ _ _ => F'
  rename News _ _ _ _ => N'
  rename CodeHd _ _ _ => codeHd
  rename Top topProg _ _ _ _ _ => T'
  rename (ghostOf _ _).IsList _ _ => lifted
  rename ¬ _ < _ => hlen
  have ls₀ : LS w _ _ _ _ _ _ _ _ := LS.mk F'.keep F'.ns ⟨_, (N' _ (.tail _ (.tail _ (.tail _ (.head _))))).1, by assumption⟩ ⟨_, (N' _ (.tail _ (.tail _ (.head _)))).1, by assumption⟩ ⟨_, (N' _ (.tail _ (.head _))).1, by assumption⟩ ⟨_, (N' _ (.head _)).1, by assumption⟩
    ⟨#[], (N' _ (.tail _ (.tail _ (.tail _ (.tail _ (.head _)))))).1, True.intro, .inl rfl⟩
  refine law_all (w := w) ⟨⟨X', ⟨_, _, _, _, _, T'⟩, codeHd⟩, (N' _ (.tail _ (.tail _ (.tail _ (.tail _ (.head _)))))).2.2, F'.above⟩ ?r ls₀ ?hm lifted hI ?len ?h
  case r => exact Room.deeper ⟨rfl, by decide, by decide⟩
  case hm => kernel_rfl
  case len => omega
  case h =>
    intro h' tk m' d' t' z' p' ls
    refine ⟨?_, ⟨?_, trivial⟩⟩
    · refine goodW_bool (m := m') ⟨ls.ns, ls.keep, F'.above⟩ ?_ (raisesW_false ?_) ?_
      · assumption
      · wrow_none_raised
      · wrow_post
    · obtain ⟨ps, e, _⟩ := ls.tab
      exact ⟨ps, e⟩
end Mine
theorem PySem.Challenge.cw_qu0017_01_holds : PySem.Challenge.rw_qu0017_01.Holds := by
  exact Mine.joined
