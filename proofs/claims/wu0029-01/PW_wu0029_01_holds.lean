import PyProof.Rows.All
import Wide.All
import OpenK.AllK
import Wide.FinOn
import Lean
import PySem.Challenge.RW_wu0029_01
set_option Elab.async false
set_option linter.all false
section
open PySem PySem.W PyProof.Rows
set_option Elab.async false
set_option maxRecDepth 100000
set_option maxHeartbeats 8000000
namespace Mine
open_top hd for PySem.Challenge.rw_wu0029_01
end Mine
end

section
open PySem PySem.W PyProof.Rows PySem.Calls PySem.Flt
set_option Elab.async false
set_option maxRecDepth 100000
set_option maxHeartbeats 8000000
namespace Mine
def fmax (x y : UInt64) : UInt64 := if (Float64.cmp x y == some .lt) = true then y else x
def fmin (x y : UInt64) : UInt64 := if (Float64.cmp y x == some .lt) = true then y else x
section
variable {prog : Program} {w : World} {A : Around} {E : Value → Shared → Prop} {s : Shared} {Q : Value → Shared → Prop} {x y z : UInt64} {t u v : Tok} {h₀ : Heap} {L : Addr} {m : Str → Option Value} {news : List (Addr × Obj)}
theorem max_three_num {a b c : Value} (hh : A.handled = none) (ha : NumV a) (hb : NumV b) (hc : NumV c)
    (h : ∀ h' tk, (∀ c o, s.heap.get? c = some o → h'.get? c = some o) → Q (if ltV (if ltV a b then b else a) c then c else if ltV a b then b else a) { s with heap := h', toks := tk }) :
    wpAny (model prog w) A (call (.builtin "max") [a, b, c]) Q E s := by
  have hT : (s.heap.push { cls := .type "tuple", data := .seq #[a, b, c] }).IsTuple s.heap.objs.size #[a, b, c] := ⟨_, Heap.get?_push_size _ rfl, rfl, 0, rfl⟩
  refine call_max_three (wpAny_pyIter_tuple hT ?_)
  have hsz : (s.heap.push { cls := .type "tuple", data := .seq #[a, b, c] }).objs.size = s.heap.objs.size + 1 := Heap.size_push ..
  refine ⟨_, [_, s.heap.objs.size], [_], _, _, _, _, rfl, Walks.tuple (A := A.in1) hh _ s.heap.objs.size (by rw [hsz]; exact Nat.ne_of_lt (Nat.lt_succ_self _)) #[a, b, c],
    ⟨⟨_, Heap.get?_push_size _ rfl, rfl, rfl⟩, hT.push _⟩, fun c hc => ?_, by simp, cmpOf_gt #[a, b, c] (by simp [ha, hb, hc]), fun v h' tk hP hk => ?_⟩
  · show c < ((s.heap.push _).push _).objs.size
    rw [Heap.size_push, hsz]
    rcases List.mem_cons.mp hc with rfl | hc
    · rw [hsz]; exact Nat.lt_succ_self _
    · rcases List.mem_cons.mp hc with rfl | hc
      · exact Nat.lt_succ_of_lt (Nat.lt_succ_self _)
      · cases hc
  · have hold : ∀ c o, s.heap.get? c = some o → h'.get? c = some o := fun c o e => by
      refine hk c o (fun hm => ?_) (Heap.get?_push_of_some _ (Heap.get?_push_of_some _ e))
      rcases List.mem_cons.mp hm with e1 | hm
      · have := Heap.lt_size e; rw [e1, hsz] at this; exact Nat.lt_irrefl _ (Nat.lt_of_succ_lt this)
      · cases hm
    have := h h' tk hold
    have hv : v = if ltV (if ltV a b then b else a) c then c else if ltV a b then b else a := by
      cases h1 : ltV a b
      · cases h2 : ltV a c <;> simp [argBest, h1, h2] at hP <;> subst hP <;> simp [h1, h2]
      · cases h2 : ltV b c <;> simp [argBest, h1, h2] at hP <;> subst hP <;> simp [h1, h2]
    rw [hv]; exact this
theorem min_three_num {a b c : Value} (hh : A.handled = none) (ha : NumV a) (hb : NumV b) (hc : NumV c)
    (h : ∀ h' tk, (∀ c o, s.heap.get? c = some o → h'.get? c = some o) → Q (if ltV c (if ltV b a then b else a) then c else if ltV b a then b else a) { s with heap := h', toks := tk }) :
    wpAny (model prog w) A (call (.builtin "min") [a, b, c]) Q E s := by
  have hT : (s.heap.push { cls := .type "tuple", data := .seq #[a, b, c] }).IsTuple s.heap.objs.size #[a, b, c] := ⟨_, Heap.get?_push_size _ rfl, rfl, 0, rfl⟩
  refine call_min_three (wpAny_pyIter_tuple hT ?_)
  have hsz : (s.heap.push { cls := .type "tuple", data := .seq #[a, b, c] }).objs.size = s.heap.objs.size + 1 := Heap.size_push ..
  refine ⟨_, [_, s.heap.objs.size], [_], _, _, _, _, rfl, Walks.tuple (A := A.in1) hh _ s.heap.objs.size (by rw [hsz]; exact Nat.ne_of_lt (Nat.lt_succ_self _)) #[a, b, c],
    ⟨⟨_, Heap.get?_push_size _ rfl, rfl, rfl⟩, hT.push _⟩, fun c hc => ?_, by simp, cmpOf_lt #[a, b, c] (by simp [ha, hb, hc]), fun v h' tk hP hk => ?_⟩
  · show c < ((s.heap.push _).push _).objs.size
    rw [Heap.size_push, hsz]
    rcases List.mem_cons.mp hc with rfl | hc
    · rw [hsz]; exact Nat.lt_succ_self _
    · rcases List.mem_cons.mp hc with rfl | hc
      · exact Nat.lt_succ_of_lt (Nat.lt_succ_self _)
      · cases hc
  · have hold : ∀ c o, s.heap.get? c = some o → h'.get? c = some o := fun c o e => by
      refine hk c o (fun hm => ?_) (Heap.get?_push_of_some _ (Heap.get?_push_of_some _ e))
      rcases List.mem_cons.mp hm with e1 | hm
      · have := Heap.lt_size e; rw [e1, hsz] at this; exact Nat.lt_irrefl _ (Nat.lt_of_succ_lt this)
      · cases hm
    have := h h' tk hold
    have hv : v = if ltV c (if ltV b a then b else a) then c else if ltV b a then b else a := by
      cases h1 : ltV b a
      · cases h2 : ltV c a <;> simp [argBest, h1, h2] at hP <;> subst hP <;> simp [h1, h2]
      · cases h2 : ltV c b <;> simp [argBest, h1, h2] at hP <;> subst hP <;> simp [h1, h2]
    rw [hv]; exact this
theorem max_three_fff (hh : A.handled = none) (F : Fr h₀ L s.heap m) (N : News h₀ L s.heap news)
    (h : ∀ h' tk t', (t' = t ∨ t' = u ∨ t' = v) → Fr h₀ L h' m → News h₀ L h' news → Q (.float (fmax (fmax x y) z) t') { s with heap := h', toks := tk }) :
    wpAny (model prog w) A (call (.builtin "max") [.float x t, .float y u, .float z v]) Q E s :=
  max_three_num hh (.float x t) (.float y u) (.float z v) fun h' tk kp => by
    have key := fun t' ht' => h h' tk t' ht' (F.grownK kp) (N.grown kp)
    unfold fmax at key
    cases h1 : (Float64.cmp x y == some .lt)
    · simp only [h1, Bool.false_eq_true, if_false, ltV] at key ⊢
      split <;> simp_all
    · simp only [h1, if_true, ltV] at key ⊢
      split <;> simp_all
theorem min_three_fff (hh : A.handled = none) (F : Fr h₀ L s.heap m) (N : News h₀ L s.heap news)
    (h : ∀ h' tk t', Fr h₀ L h' m → News h₀ L h' news → Q (.float (fmin (fmin x y) z) t') { s with heap := h', toks := tk }) :
    wpAny (model prog w) A (call (.builtin "min") [.float x t, .float y u, .float z v]) Q E s :=
  min_three_num hh (.float x t) (.float y u) (.float z v) fun h' tk kp => by
    have key := fun t' => h h' tk t' (F.grownK kp) (N.grown kp)
    unfold fmin at key
    cases h1 : (Float64.cmp y x == some .lt)
    · simp only [h1, Bool.false_eq_true, if_false, ltV] at key ⊢
      split <;> simp_all
    · simp only [h1, if_true, ltV] at key ⊢
      split <;> simp_all
end
end Mine
end

section
open PySem PySem.W PyProof.Rows PySem.Calls PySem.Flt PySem.Spec
set_option Elab.async false
set_option maxRecDepth 100000
set_option maxHeartbeats 8000000
namespace Mine
abbrev Led := List (Addr × Obj)
abbrev Env0 := Str → Option Value
section
variable {prog : Program} {w : World} {A A₀ : Around} {s : Shared} {K : Frag} {L : Addr} {h₀ base : Heap} {m mg mb : Str → Option Value} {p : Program} {loose : List Str} {mean : ExcName → Option Value}
/-- a call of a text's def, the whole heap of the caller the callee's ground -/
theorem code_base {env : Env} {outer : List Env} {R : Result → Shared → Prop} {name qual : Str} {params : Arguments} {body : List Stmt} {scope : Scope} {dV kV doc pm cdv ct oc : Value} {an od : Option Addr} {osl : Array (Option Value)} {f : Addr} {args : Args} {binds : List (Str × Value)}
    (B : Below A₀ base outer h₀) (F : Fr h₀ L s.heap m) (X₀ : K.In h₀) (T : Top p loose mean mg mb h₀) (hA : A.frames = some (env :: outer)) (hf : env.frame = some L) (hke : env.scope.kind = .function)
    (ho : K.lookup f = some ⟨oc, od, .func (fnOf name qual params body scope dV kV doc pm an cdv ct), osl⟩) (hcd : codeIn K cdv qual = true) (hroom : A.depth < recursionLimit)
    (hbind : BindsTo s (fnOf name qual params body scope dV kV doc pm an cdv ct) args binds) (hloc : ∀ y ∈ binds, scope.names.lookup y.1 = some .local)
    (h : ∀ L' h₁, Fr h₀ L s.heap m → Fr s.heap L' h₁ (fun y => binds.reverse.lookup y) → News s.heap L' h₁ [] → Below A base (env :: outer) s.heap → K.In s.heap → Top p loose mean mg mb s.heap →
      wpAny (model prog w) (A.deeper (envOf qual scope L' f cdv)) (execs body (envOf qual scope L' f cdv))
        (fun fl s' => LeaveK h₀ L m s.heap R (match fl with | .ret v => v | _ => .none) s')
        (fun e s' => wpAny (model prog w) (A.deeper (envOf qual scope L' f cdv)) (leaving (envOf qual scope L' f cdv) e) (fun _ s'' => R (.error e) s'') (fun e' s'' => R (.error e') s'') s')
        { s with heap := h₁, toks := s.toks + binds.length })
    (hco : scope.isCoroutine = false) (hgen : scope.isGenerator = false) (hk : scope.kind = .function)
    (hcell : ∀ x ∈ scope.names, x.2 ≠ .cell) : codeAny (model prog w) A (.call (.ref f) args) R s := by
  obtain ⟨FG, BG, st, lv⟩ := groundX (R := R) B F (News.nil (h₀ := h₀) (h := s.heap) (L := L)) hA hf hke
  refine codeAny_call_def (fd := fnOf name qual params body scope dV kV doc pm an cdv ct) (body := body) (binds := binds) hroom ((X₀.keeps F.keep) _ _ ho) rfl ((T.keeps F.keep).nolimit) (codeRec_of (X₀.keeps F.keep) hcd) rfl hbind hcell hloc (fun h₁ hns hk₁ => ?_) hco hgen hk
  exact wpAny_mono (h s.heap.objs.size h₁ FG ⟨hns, hk₁, Nat.le_refl _⟩ News.nil BG (X₀.keeps F.keep) (T.keeps F.keep)) (fun fl s' hl => lv _ _ hl) fun _ _ y => y
end
/-- what a call of the text's def at address f gives: pre speaks of the heap before, Out of the heap before, the heap behind and the value -/
abbrev Spec (w : World) (f : Addr) (vs : List Value) (nd : Nat) (pre : Heap → Prop) (Out : Heap → Heap → Value → Prop) : Prop :=
  ∀ (loose : List Str) (mean : ExcName → Option Value) (mg mb : Env0) (dp un : Nat) (gd : Option (List Code)) (cn : Str) (cs : Scope) (a : Addr) (ccd : Value) (cl : List (Str × Addr)) (outer : List Env) (A₀ : Around) (base h₀ : Heap) (L : Addr) (m : Env0) (s : Shared) (Q E : Value → Shared → Prop),
    Below A₀ base outer h₀ → Fr h₀ L s.heap m → (hd.heap_39 w.params).In h₀ → Top hd.view_39 loose mean mg mb h₀ → cs.kind = .function → pre s.heap → dp + nd < recursionLimit → un + 8 * nd < cLine →
      (∀ v h' tk', (∀ b o, s.heap.get? b = some o → h'.get? b = some o) → Out s.heap h' v → Q v { s with heap := h', toks := tk' }) →
      wpAny (model PySem.Challenge.rw_wu0029_01.row.prog w) (ktrTop dp un gd cn cs L a ccd cl outer) (call (.ref f) vs) Q E s
abbrev tupO (vs : List Value) : Obj := { cls := .type "tuple", data := .seq vs.toArray }
abbrev noPre : Heap → Prop := fun _ => True
abbrev outF3 (x y z : UInt64) : Heap → Heap → Value → Prop := fun h h' v => ∃ r t1 t2 t3, v = .ref r ∧ h'.get? r = some (tupO [.float x t1, .float y t2, .float z t3]) ∧ h.get? r = none ∧ t1 ≠ 0 ∧ t2 ≠ 0 ∧ t3 ≠ 0
abbrev outI2 (x y : Int) : Heap → Heap → Value → Prop := fun h h' v => ∃ r t1 t2, v = .ref r ∧ h'.get? r = some (tupO [.int x t1, .int y t2]) ∧ h.get? r = none
abbrev outI (x : Int) : Heap → Heap → Value → Prop := fun _ _ v => ∃ t, v = .int x t
abbrev outS (x : Str) : Heap → Heap → Value → Prop := fun _ _ v => ∃ t, v = .str x t
theorem outI_of {x y : Int} {t : Tok} {h h' : Heap} (e : y = x) : outI x h h' (.int y t) := ⟨t, by rw [e]⟩
theorem wpAny_gen {α : Type} {M : Model} {A : Around} {t : Sem α} {Q : α → Shared → Prop} {E : Value → Shared → Prop} {h : Heap} {g : Array GenState} {d : Drawn} {n : Nat} {o : OsState} (hn : 1 ≤ n) (H : ∀ tk, 1 ≤ tk → wpAny M A t Q E ⟨h, g, d, tk, o⟩) : wpAny M A t Q E ⟨h, g, d, n, o⟩ := H n hn
theorem tok3 {a b c d : Tok} (h : d = a ∨ d = b ∨ d = c) (ha : a ≠ 0) (hb : b ≠ 0) (hc : c ≠ 0) : d ≠ 0 := by rcases h with rfl | rfl | rfl <;> assumption
theorem tok1 {a : Tok} (h : 1 ≤ a) : a ≠ 0 := Nat.ne_of_gt h
theorem ite_tt' {α : Type _} {b : Bool} {x y : α} (h : b = true) : (if b = true then x else y) = x := if_pos h
theorem ite_ff' {α : Type _} {b : Bool} {x y : α} (h : b = false) : (if b = true then x else y) = y := by rw [h]; rfl
theorem item_ints {prog : Program} {w : World} {A : Around} {E : Value → Shared → Prop} {s : Shared} {value slice : Expr} {l : Addr} {vs : List Value} {ns : List Int} {k : Int} {u : Tok} {Q : Value → Shared → Prop}
    (hl : s.heap.IsList l vs.toArray) (hi : IntsAre vs ns) (h0 : 0 ≤ k) (h1 : k < (ns.length : Int)) (hn : ns.length ≤ 1000000) (h : ∀ t, Q (.int (ns.getD k.toNat 0) t) s)
    (hs : subscripted slice false (.ref l) (.int k u) = operate [.ref l, .int k u] (getItem (.ref l) (.int k u)) := by with_unfolding_all rfl) (hg : ∀ r, letTemporaryGo value (.ref l) r = pure () := by intro _; with_unfolding_all rfl) :
    wpAny (model prog w) A (subscriptTail value slice (.ref l) (.int k u)) Q E s := by
  have hlt : k.toNat < ns.length := by omega
  obtain ⟨t, hx⟩ := hi.get k.toNat ns[k.toNat] (List.getElem?_eq_getElem hlt)
  refine item_listL hl h0 (by omega) hx ?_ hs hg
  have := h t
  rwa [List.getD_eq_getElem?_getD, List.getElem?_eq_getElem hlt] at this
section
variable {w : World} {f : Addr} {vs : List Value} {nd : Nat} {pre : Heap → Prop} {loose : List Str} {mean : ExcName → Option Value} {mg mb : Env0} {dp un : Nat} {gd : Option (List Code)} {cn : Str} {cs : Scope} {a : Addr} {ccd : Value} {cl : List (Str × Addr)} {outer : List Env} {A₀ : Around} {base h₀ : Heap} {L : Addr} {m : Env0} {s : Shared} {Q E : Value → Shared → Prop} {news : Led}
theorem useI {x : Int} (S : Spec w f vs nd pre (outI x)) (B : Below A₀ base outer h₀) (F : Fr h₀ L s.heap m) (X : (hd.heap_39 w.params).In h₀) (N : News h₀ L s.heap news) (T : Top hd.view_39 loose mean mg mb h₀) (hk : cs.kind = .function) (hp : pre s.heap) (hd : dp + nd < recursionLimit) (hu : un + 8 * nd < cLine)
    (hr : ∀ t h' tk', Fr h₀ L h' m → News h₀ L h' news → Q (.int x t) { s with heap := h', toks := tk' }) :
    wpAny (model PySem.Challenge.rw_wu0029_01.row.prog w) (ktrTop dp un gd cn cs L a ccd cl outer) (call (.ref f) vs) Q E s :=
  S _ _ _ _ _ _ _ _ _ _ _ _ _ _ _ _ _ _ _ _ _ B F X T hk hp hd hu fun v h' tk' kp o => by
    obtain ⟨t, rfl⟩ := o
    exact hr t h' tk' (F.grownK kp) (N.grown kp)
theorem useS {x : Str} (S : Spec w f vs nd pre (outS x)) (B : Below A₀ base outer h₀) (F : Fr h₀ L s.heap m) (X : (hd.heap_39 w.params).In h₀) (N : News h₀ L s.heap news) (T : Top hd.view_39 loose mean mg mb h₀) (hk : cs.kind = .function) (hp : pre s.heap) (hd : dp + nd < recursionLimit) (hu : un + 8 * nd < cLine)
    (hr : ∀ t h' tk', Fr h₀ L h' m → News h₀ L h' news → Q (.str x t) { s with heap := h', toks := tk' }) :
    wpAny (model PySem.Challenge.rw_wu0029_01.row.prog w) (ktrTop dp un gd cn cs L a ccd cl outer) (call (.ref f) vs) Q E s :=
  S _ _ _ _ _ _ _ _ _ _ _ _ _ _ _ _ _ _ _ _ _ B F X T hk hp hd hu fun v h' tk' kp o => by
    obtain ⟨t, rfl⟩ := o
    exact hr t h' tk' (F.grownK kp) (N.grown kp)
theorem news_new {h h' : Heap} {o : Obj} {r : Addr} (F : Fr h₀ L h m) (N : News h₀ L h news) (kp : ∀ b x, h.get? b = some x → h'.get? b = some x) (e : h'.get? r = some o) (fr : h.get? r = none) : News h₀ L h' ((r, o) :: news) ∧ ∀ p ∈ news, p.1 ≠ r := by
  refine ⟨fun p hp => ?_, fun p hp q => ?_⟩
  · rcases List.mem_cons.mp hp with rfl | hp
    · refine ⟨e, fun q => ?_, ?_⟩
      · obtain ⟨oL, _, _, hL, _⟩ := F.ns
        rw [← q, fr] at hL; cases hL
      · cases q : h₀.get? r with
        | none => rfl
        | some o => rw [F.keep _ _ q] at fr; cases fr
    · exact N.grown kp p hp
  · rw [← q, (N p hp).1] at fr; cases fr
theorem useF3 {x y z : UInt64} (S : Spec w f vs nd pre (outF3 x y z)) (B : Below A₀ base outer h₀) (F : Fr h₀ L s.heap m) (X : (hd.heap_39 w.params).In h₀) (N : News h₀ L s.heap news) (T : Top hd.view_39 loose mean mg mb h₀) (hk : cs.kind = .function) (hp : pre s.heap) (hd : dp + nd < recursionLimit) (hu : un + 8 * nd < cLine)
    (hr : ∀ r h' tk' t1 t2 t3, t1 ≠ 0 → t2 ≠ 0 → t3 ≠ 0 → Fr h₀ L h' m → News h₀ L h' ((r, tupO [.float x t1, .float y t2, .float z t3]) :: news) → (∀ p ∈ news, p.1 ≠ r) → Q (.ref r) { s with heap := h', toks := tk' }) :
    wpAny (model PySem.Challenge.rw_wu0029_01.row.prog w) (ktrTop dp un gd cn cs L a ccd cl outer) (call (.ref f) vs) Q E s :=
  S _ _ _ _ _ _ _ _ _ _ _ _ _ _ _ _ _ _ _ _ _ B F X T hk hp hd hu fun v h' tk' kp o => by
    obtain ⟨r, t1, t2, t3, rfl, e, fr, n1, n2, n3⟩ := o
    obtain ⟨N', ne⟩ := news_new F N kp e fr
    exact hr r h' tk' t1 t2 t3 n1 n2 n3 (F.grownK kp) N' ne
theorem useI2 {x y : Int} (S : Spec w f vs nd pre (outI2 x y)) (B : Below A₀ base outer h₀) (F : Fr h₀ L s.heap m) (X : (hd.heap_39 w.params).In h₀) (N : News h₀ L s.heap news) (T : Top hd.view_39 loose mean mg mb h₀) (hk : cs.kind = .function) (hp : pre s.heap) (hd : dp + nd < recursionLimit) (hu : un + 8 * nd < cLine)
    (hr : ∀ r h' tk' t1 t2, Fr h₀ L h' m → News h₀ L h' ((r, tupO [.int x t1, .int y t2]) :: news) → (∀ p ∈ news, p.1 ≠ r) → Q (.ref r) { s with heap := h', toks := tk' }) :
    wpAny (model PySem.Challenge.rw_wu0029_01.row.prog w) (ktrTop dp un gd cn cs L a ccd cl outer) (call (.ref f) vs) Q E s :=
  S _ _ _ _ _ _ _ _ _ _ _ _ _ _ _ _ _ _ _ _ _ B F X T hk hp hd hu fun v h' tk' kp o => by
    obtain ⟨r, t1, t2, rfl, e, fr⟩ := o
    obtain ⟨N', ne⟩ := news_new F N kp e fr
    exact hr r h' tk' t1 t2 (F.grownK kp) N' ne
end
end Mine
end

section
open PySem PySem.W PyProof.Rows PySem.Calls PySem.Flt
set_option Elab.async false
set_option maxRecDepth 100000
set_option maxHeartbeats 8000000
namespace Mine
theorem pad_Col : True := by
  w_top off
  k_with_none
  trivial
local macro_rules | `(tactic| walk_at "call builtin:max") => `(tactic| k_extra "mine call builtin:max")
local macro_rules | `(tactic| walk_at "call builtin:min") => `(tactic| k_extra "mine call builtin:min")
local macro_rules | `(tactic| walk_at "execs cons") => `(tactic| k_extra "mine execs cons")
local macro_rules | `(tactic| walk_at "execs nil") => `(tactic| k_extra "mine execs nil")
def isEq (x y : UInt64) : Bool := Float64.cmp x y == some .eq
/-- what hsv_to_rgb(h, s, v) gives -/
def hsvP (h s v : UInt64) : Option (UInt64 × UInt64 × UInt64) :=
  if (Float64.cmp s 0 == some Ordering.eq) = true then none else
  if Float64.isFinite (Float64.mul h 4618441417868443648) = false then none else
  if 2 ^ 1024 - 2 ^ 970 ≤ (Flt.toInt Float64.truncOf (Float64.mul h 4618441417868443648)).natAbs then none else
  let i := Flt.toInt Float64.truncOf (Float64.mul h 4618441417868443648)
  let f := Float64.sub (Float64.mul h 4618441417868443648) (Float64.ofInt i)
  let p := Float64.mul v (Float64.sub 4607182418800017408 s)
  let q := Float64.mul v (Float64.sub 4607182418800017408 (Float64.mul s f))
  let t := Float64.mul v (Float64.sub 4607182418800017408 (Float64.mul s (Float64.sub 4607182418800017408 f)))
  if i.fmod 6 = 0 then some (v, t, p) else
  if i.fmod 6 = 1 then some (q, v, p) else
  if i.fmod 6 = 2 then some (p, v, t) else
  if i.fmod 6 = 3 then some (p, q, v) else
  if i.fmod 6 = 4 then some (t, p, v) else
  if i.fmod 6 = 5 then some (v, p, q) else none
/-- what rgb_to_hsv(r, g, b) gives -/
def toHsvP (r g b : UInt64) : Option (UInt64 × UInt64 × UInt64) :=
  let maxc := fmax (fmax r g) b
  let minc := fmin (fmin r g) b
  let rangec := Float64.sub maxc minc
  if (Float64.cmp minc maxc == some Ordering.eq) = true then none else
  if Float64.isZero maxc = true then none else
  if Float64.isZero rangec = true then none else
  let rc := Float64.div (Float64.sub maxc r) rangec
  let gc := Float64.div (Float64.sub maxc g) rangec
  let bc := Float64.div (Float64.sub maxc b) rangec
  let h := if (Float64.cmp r maxc == some Ordering.eq) = true then Float64.sub bc gc else if (Float64.cmp g maxc == some Ordering.eq) = true then Float64.sub (Float64.add 4611686018427387904 rc) bc else Float64.sub (Float64.add 4616189618054758400 gc) rc
  some ((Float64.divmod (Float64.div h 4618441417868443648) 4607182418800017408).2, Float64.div rangec maxc, maxc)
/-- what rgb_to_hls(r, g, b) gives where the lightness is no more than a half -/
def toHlsP (r g b : UInt64) : Option (UInt64 × UInt64 × UInt64) :=
  let maxc := fmax (fmax r g) b
  let minc := fmin (fmin r g) b
  let sumc := Float64.add maxc minc
  let rangec := Float64.sub maxc minc
  let l := Float64.div sumc 4611686018427387904
  if (Float64.cmp minc maxc == some Ordering.eq) = true then none else
  if (Float64.cmp l 4602678819172646912 == some Ordering.lt || Float64.cmp l 4602678819172646912 == some Ordering.eq) = false then none else
  if Float64.isZero sumc = true then none else
  if Float64.isZero rangec = true then none else
  let rc := Float64.div (Float64.sub maxc r) rangec
  let gc := Float64.div (Float64.sub maxc g) rangec
  let bc := Float64.div (Float64.sub maxc b) rangec
  let h := if (Float64.cmp r maxc == some Ordering.eq) = true then Float64.sub bc gc else if (Float64.cmp g maxc == some Ordering.eq) = true then Float64.sub (Float64.add 4611686018427387904 rc) bc else Float64.sub (Float64.add 4616189618054758400 gc) rc
  some ((Float64.divmod (Float64.div h 4618441417868443648) 4607182418800017408).2, l, Float64.div rangec sumc)
theorem fin_nan {x : UInt64} (h : Float64.isNaN x = true) : Float64.isFinite x = false := by rw [nan_or_inf_or_finite, h]; rfl
theorem fin_inf {x : UInt64} (h : Float64.isInf x = true) : Float64.isFinite x = false := by rw [nan_or_inf_or_finite, h, Bool.not_true, Bool.and_false]
theorem ite_fin {α : Type _} {b : Bool} {x y : α} (h : b = true) : (if b = false then x else y) = y := by rw [h]; rfl
theorem ite_lt {α : Type _} {a b : Nat} {x y : α} (h : a < b) : (if b ≤ a then x else y) = y := if_neg (Nat.not_le.mpr h)
theorem some3 {a b c x y z : UInt64} (h : some (a, b, c) = some (x, y, z)) : a = x ∧ b = y ∧ c = z := by cases h; exact ⟨rfl, rfl, rfl⟩
theorem hsv_ok {w : World} (hb sb vb : UInt64) (ht st vt : Tok) (x y z : UInt64) (ht0 : ht ≠ 0) (st0 : st ≠ 0) (vt0 : vt ≠ 0) (hout : hsvP hb sb vb = some (x, y, z)) : Spec w 84 [.float hb ht, .float sb st, .float vb vt] 1 noPre (outF3 x y z) := by
  k_with_none
  k_with "mine call builtin:max" => ((with_reducible show wpAny _ _ (call _ [Value.float _ _, Value.float _ _, Value.float _ _]) _ _ _); (rename News _ _ _ _ => N'); (rename Fr _ _ _ _ => F'); refine max_three_fff rfl F' N' ?_; clear N'; intro _ _ _ _ _ _)
  k_with "mine call builtin:min" => ((with_reducible show wpAny _ _ (call _ [Value.float _ _, Value.float _ _, Value.float _ _]) _ _ _); (rename News _ _ _ _ => N'); (rename Fr _ _ _ _ => F'); refine min_three_fff rfl F' N' ?_; clear N'; intro _ _ _ _ _)
  k_with "mine execs cons" => (k_here; (fail_if_success (fail_if_success k_gentoks)); refine wpAny_gen ?hn ?_; (case hn => ((try dsimp only); first | omega | exact Nat.le_trans (show 1 ≤ 3 by decide) (Nat.le_add_left 3 _))); intro tk htk)
  k_with "mine execs nil" => (k_here; (fail_if_success (fail_if_success k_gentoks)); refine wpAny_gen ?hn ?_; (case hn => ((try dsimp only); first | omega | exact Nat.le_trans (show 1 ≤ 3 by decide) (Nat.le_add_left 3 _))); intro tk htk)
  unfold Spec
  k_fill
  intros
  rename_i hret
  (refine wpAny_call ?_; k_dflt (refine' code_base ?k1 ?k2 ?k3 ?k5 ?kA ?kF ?kK ?k6 ?k7 ?k8 ?k9 ?kB ?_ ?c2 ?c3 ?c4 ?c5; (case kA => exact rfl); (case kF => exact rfl); (case kK => assumption); (case k1 => k_asm); (case k2 => k_asm); (case k3 => k_asm); (case k5 => k_asm); (case k6 => k_is); (case k7 => k_is); (case k8 => ktr_room); (case k9 => exact BindsTo.of_eq rfl); (case c5 => decide); (case kB => exact locs rfl); (case c2 => exact rfl); (case c3 => exact rfl); (case c4 => exact rfl); k_whole; intro L' h' FG' F' N' B' X' T'; (try dsimp only); (try k_fold)))
  k_steps
  all_goals (first | (have hfin := fin_nan (by assumption)) | (have hfin := fin_inf (by assumption)) | skip)
  all_goals (simp only [hsvP] at hout)
  all_goals (repeat' (first | rw [ite_fin (by assumption)] at hout | rw [ite_lt (by assumption)] at hout | rw [ite_tt' (by assumption)] at hout | rw [ite_ff' (by assumption)] at hout | rw [if_neg (by assumption)] at hout | rw [if_pos (by assumption)] at hout | fail "no"))
  all_goals first
    | (cases hout; done)
    | (obtain ⟨e1, e2, e3⟩ := some3 hout; subst e1 e2 e3; (rename News (Shared.heap _) _ _ _ => N7); (rename Fr (Shared.heap _) _ _ _ => F7); exact hret _ _ _ (Fr.keep F7) ⟨_, _, _, _, rfl, (N7 _ (.head _)).1, (N7 _ (.head _)).2.2, (by first | exact Nat.succ_ne_zero _ | assumption | exact tok1 (by assumption) | exact tok3 (by assumption) (by assumption) (by assumption) (by assumption)), (by first | exact Nat.succ_ne_zero _ | assumption | exact tok1 (by assumption) | exact tok3 (by assumption) (by assumption) (by assumption) (by assumption)), (by first | exact Nat.succ_ne_zero _ | assumption | exact tok1 (by assumption) | exact tok3 (by assumption) (by assumption) (by assumption) (by assumption))⟩)
    | skip
theorem tohsv_ok {w : World} (r g b : UInt64) (ht st vt : Tok) (x y z : UInt64) (ht0 : ht ≠ 0) (st0 : st ≠ 0) (vt0 : vt ≠ 0) (hout : toHsvP r g b = some (x, y, z)) : Spec w 77 [.float r ht, .float g st, .float b vt] 1 noPre (outF3 x y z) := by
  k_with_none
  k_with "mine call builtin:max" => ((with_reducible show wpAny _ _ (call _ [Value.float _ _, Value.float _ _, Value.float _ _]) _ _ _); (rename News _ _ _ _ => N'); (rename Fr _ _ _ _ => F'); refine max_three_fff rfl F' N' ?_; clear N'; intro _ _ _ _ _ _)
  k_with "mine call builtin:min" => ((with_reducible show wpAny _ _ (call _ [Value.float _ _, Value.float _ _, Value.float _ _]) _ _ _); (rename News _ _ _ _ => N'); (rename Fr _ _ _ _ => F'); refine min_three_fff rfl F' N' ?_; clear N'; intro _ _ _ _ _)
  k_with "mine execs cons" => (k_here; (fail_if_success (fail_if_success k_gentoks)); refine wpAny_gen ?hn ?_; (case hn => ((try dsimp only); first | omega | exact Nat.le_trans (show 1 ≤ 3 by decide) (Nat.le_add_left 3 _))); intro tk htk)
  k_with "mine execs nil" => (k_here; (fail_if_success (fail_if_success k_gentoks)); refine wpAny_gen ?hn ?_; (case hn => ((try dsimp only); first | omega | exact Nat.le_trans (show 1 ≤ 3 by decide) (Nat.le_add_left 3 _))); intro tk htk)
  unfold Spec
  k_fill
  intros
  rename_i hret
  (refine wpAny_call ?_; k_dflt (refine' code_base ?k1 ?k2 ?k3 ?k5 ?kA ?kF ?kK ?k6 ?k7 ?k8 ?k9 ?kB ?_ ?c2 ?c3 ?c4 ?c5; (case kA => exact rfl); (case kF => exact rfl); (case kK => assumption); (case k1 => k_asm); (case k2 => k_asm); (case k3 => k_asm); (case k5 => k_asm); (case k6 => k_is); (case k7 => k_is); (case k8 => ktr_room); (case k9 => exact BindsTo.of_eq rfl); (case c5 => decide); (case kB => exact locs rfl); (case c2 => exact rfl); (case c3 => exact rfl); (case c4 => exact rfl); k_whole; intro L' h' FG' F' N' B' X' T'; (try dsimp only); (try k_fold)))
  k_steps
  all_goals (simp only [toHsvP] at hout)
  all_goals (repeat' (first | rw [ite_fin (by assumption)] at hout | rw [ite_lt (by assumption)] at hout | rw [ite_tt' (by assumption)] at hout | rw [ite_ff' (by assumption)] at hout | rw [if_neg (by assumption)] at hout | rw [if_pos (by assumption)] at hout | fail "no"))
  all_goals first
    | (cases hout; done)
    | (obtain ⟨e1, e2, e3⟩ := some3 hout; subst e1 e2 e3; (rename News (Shared.heap _) _ _ _ => N7); (rename Fr (Shared.heap _) _ _ _ => F7); exact hret _ _ _ (Fr.keep F7) ⟨_, _, _, _, rfl, (N7 _ (.head _)).1, (N7 _ (.head _)).2.2, (by first | exact Nat.succ_ne_zero _ | assumption | exact tok1 (by assumption) | exact tok3 (by assumption) (by assumption) (by assumption) (by assumption)), (by first | exact Nat.succ_ne_zero _ | assumption | exact tok1 (by assumption) | exact tok3 (by assumption) (by assumption) (by assumption) (by assumption)), (by first | exact Nat.succ_ne_zero _ | assumption | exact tok1 (by assumption) | exact tok3 (by assumption) (by assumption) (by assumption) (by assumption))⟩)
    | skip
theorem tohls_ok {w : World} (r g b : UInt64) (ht st vt : Tok) (x y z : UInt64) (ht0 : ht ≠ 0) (st0 : st ≠ 0) (vt0 : vt ≠ 0) (hout : toHlsP r g b = some (x, y, z)) : Spec w 70 [.float r ht, .float g st, .float b vt] 1 noPre (outF3 x y z) := by
  k_with_none
  k_with "mine call builtin:max" => ((with_reducible show wpAny _ _ (call _ [Value.float _ _, Value.float _ _, Value.float _ _]) _ _ _); (rename News _ _ _ _ => N'); (rename Fr _ _ _ _ => F'); refine max_three_fff rfl F' N' ?_; clear N'; intro _ _ _ _ _ _)
  k_with "mine call builtin:min" => ((with_reducible show wpAny _ _ (call _ [Value.float _ _, Value.float _ _, Value.float _ _]) _ _ _); (rename News _ _ _ _ => N'); (rename Fr _ _ _ _ => F'); refine min_three_fff rfl F' N' ?_; clear N'; intro _ _ _ _ _)
  k_with "mine execs cons" => (k_here; (fail_if_success (fail_if_success k_gentoks)); refine wpAny_gen ?hn ?_; (case hn => ((try dsimp only); first | omega | exact Nat.le_trans (show 1 ≤ 3 by decide) (Nat.le_add_left 3 _))); intro tk htk)
  k_with "mine execs nil" => (k_here; (fail_if_success (fail_if_success k_gentoks)); refine wpAny_gen ?hn ?_; (case hn => ((try dsimp only); first | omega | exact Nat.le_trans (show 1 ≤ 3 by decide) (Nat.le_add_left 3 _))); intro tk htk)
  unfold Spec
  k_fill
  intros
  rename_i hret
  (refine wpAny_call ?_; k_dflt (refine' code_base ?k1 ?k2 ?k3 ?k5 ?kA ?kF ?kK ?k6 ?k7 ?k8 ?k9 ?kB ?_ ?c2 ?c3 ?c4 ?c5; (case kA => exact rfl); (case kF => exact rfl); (case kK => assumption); (case k1 => k_asm); (case k2 => k_asm); (case k3 => k_asm); (case k5 => k_asm); (case k6 => k_is); (case k7 => k_is); (case k8 => ktr_room); (case k9 => exact BindsTo.of_eq rfl); (case c5 => decide); (case kB => exact locs rfl); (case c2 => exact rfl); (case c3 => exact rfl); (case c4 => exact rfl); k_whole; intro L' h' FG' F' N' B' X' T'; (try dsimp only); (try k_fold)))
  k_steps
  all_goals (simp only [toHlsP] at hout)
  all_goals (repeat' (first | rw [ite_fin (by assumption)] at hout | rw [ite_lt (by assumption)] at hout | rw [ite_tt' (by assumption)] at hout | rw [ite_ff' (by assumption)] at hout | rw [if_neg (by assumption)] at hout | rw [if_pos (by assumption)] at hout | fail "no"))
  all_goals first
    | (cases hout; done)
    | (obtain ⟨e1, e2, e3⟩ := some3 hout; subst e1 e2 e3; (rename News (Shared.heap _) _ _ _ => N7); (rename Fr (Shared.heap _) _ _ _ => F7); exact hret _ _ _ (Fr.keep F7) ⟨_, _, _, _, rfl, (N7 _ (.head _)).1, (N7 _ (.head _)).2.2, (by first | exact Nat.succ_ne_zero _ | assumption | exact tok1 (by assumption) | exact tok3 (by assumption) (by assumption) (by assumption) (by assumption)), (by first | exact Nat.succ_ne_zero _ | assumption | exact tok1 (by assumption) | exact tok3 (by assumption) (by assumption) (by assumption) (by assumption)), (by first | exact Nat.succ_ne_zero _ | assumption | exact tok1 (by assumption) | exact tok3 (by assumption) (by assumption) (by assumption) (by assumption))⟩)
    | skip
end Mine
end

section
open PySem PySem.W PyProof.Rows PySem.Calls PySem.Flt
set_option Elab.async false
set_option maxRecDepth 100000
set_option maxHeartbeats 8000000
namespace Mine
theorem pad_Ops : True := by
  w_top off
  k_with_none
  trivial
theorem ixor_ok {w : World} (x y : Int) (t u : Tok) : Spec w 63 [.int x t, .int y u] 1 noPre (outI (Builtin.bitXor x y)) := by
  unfold Spec
  k_fill
  intros
  rename_i hret
  (refine wpAny_call ?_; k_dflt (refine' code_base ?k1 ?k2 ?k3 ?k5 ?kA ?kF ?kK ?k6 ?k7 ?k8 ?k9 ?kB ?_ ?c2 ?c3 ?c4 ?c5; (case kA => exact rfl); (case kF => exact rfl); (case kK => assumption); (case k1 => k_asm); (case k2 => k_asm); (case k3 => k_asm); (case k5 => k_asm); (case k6 => k_is); (case k7 => k_is); (case k8 => ktr_room); (case k9 => exact BindsTo.of_eq rfl); (case c5 => decide); (case kB => exact locs rfl); (case c2 => exact rfl); (case c3 => exact rfl); (case c4 => exact rfl); k_whole; intro L' h' FG' F' N' B' X' T'; (try dsimp only); (try k_fold)))
  k_steps
  (rename Fr (Shared.heap _) _ _ _ => F7)
  exact hret _ _ _ (Fr.keep F7) ⟨_, rfl⟩
theorem irshift_ok {w : World} (x y : Int) (t u : Tok) (hy : 0 ≤ y) : Spec w 56 [.int x t, .int y u] 1 noPre (outI (x.fdiv (2 ^ y.toNat))) := by
  unfold Spec
  k_fill
  intros
  rename_i hret
  (refine wpAny_call ?_; k_dflt (refine' code_base ?k1 ?k2 ?k3 ?k5 ?kA ?kF ?kK ?k6 ?k7 ?k8 ?k9 ?kB ?_ ?c2 ?c3 ?c4 ?c5; (case kA => exact rfl); (case kF => exact rfl); (case kK => assumption); (case k1 => k_asm); (case k2 => k_asm); (case k3 => k_asm); (case k5 => k_asm); (case k6 => k_is); (case k7 => k_is); (case k8 => ktr_room); (case k9 => exact BindsTo.of_eq rfl); (case c5 => decide); (case kB => exact locs rfl); (case c2 => exact rfl); (case c3 => exact rfl); (case c4 => exact rfl); k_whole; intro L' h' FG' F' N' B' X' T'; (try dsimp only); (try k_fold)))
  k_steps
  (rename Fr (Shared.heap _) _ _ _ => F7)
  exact hret _ _ _ (Fr.keep F7) ⟨_, rfl⟩
theorem ilshift_ok {w : World} (x y : Int) (t u : Tok) (hy : 0 ≤ y) (hy2 : y ≤ 1000000) (hx : x.natAbs < 2 ^ 64) : Spec w 49 [.int x t, .int y u] 1 noPre (outI (x * 2 ^ y.toNat)) := by
  unfold Spec
  k_fill
  intros
  rename_i hret
  (refine wpAny_call ?_; k_dflt (refine' code_base ?k1 ?k2 ?k3 ?k5 ?kA ?kF ?kK ?k6 ?k7 ?k8 ?k9 ?kB ?_ ?c2 ?c3 ?c4 ?c5; (case kA => exact rfl); (case kF => exact rfl); (case kK => assumption); (case k1 => k_asm); (case k2 => k_asm); (case k3 => k_asm); (case k5 => k_asm); (case k6 => k_is); (case k7 => k_is); (case k8 => ktr_room); (case k9 => exact BindsTo.of_eq rfl); (case c5 => decide); (case kB => exact locs rfl); (case c2 => exact rfl); (case c3 => exact rfl); (case c4 => exact rfl); k_whole; intro L' h' FG' F' N' B' X' T'; (try dsimp only); (try k_fold)))
  k_steps
  (rename Fr (Shared.heap _) _ _ _ => F7)
  exact hret _ _ _ (Fr.keep F7) ⟨_, rfl⟩
theorem iand_ok {w : World} (x y : Int) (t u : Tok) : Spec w 42 [.int x t, .int y u] 1 noPre (outI (Builtin.bitAnd x y)) := by
  unfold Spec
  k_fill
  intros
  rename_i hret
  (refine wpAny_call ?_; k_dflt (refine' code_base ?k1 ?k2 ?k3 ?k5 ?kA ?kF ?kK ?k6 ?k7 ?k8 ?k9 ?kB ?_ ?c2 ?c3 ?c4 ?c5; (case kA => exact rfl); (case kF => exact rfl); (case kK => assumption); (case k1 => k_asm); (case k2 => k_asm); (case k3 => k_asm); (case k5 => k_asm); (case k6 => k_is); (case k7 => k_is); (case k8 => ktr_room); (case k9 => exact BindsTo.of_eq rfl); (case c5 => decide); (case kB => exact locs rfl); (case c2 => exact rfl); (case c3 => exact rfl); (case c4 => exact rfl); k_whole; intro L' h' FG' F' N' B' X' T'; (try dsimp only); (try k_fold)))
  k_steps
  (rename Fr (Shared.heap _) _ _ _ => F7)
  exact hret _ _ _ (Fr.keep F7) ⟨_, rfl⟩
theorem iadd_ok {w : World} (x y : Int) (t u : Tok) : Spec w 35 [.int x t, .int y u] 1 noPre (outI (x + y)) := by
  unfold Spec
  k_fill
  intros
  rename_i hret
  (refine wpAny_call ?_; k_dflt (refine' code_base ?k1 ?k2 ?k3 ?k5 ?kA ?kF ?kK ?k6 ?k7 ?k8 ?k9 ?kB ?_ ?c2 ?c3 ?c4 ?c5; (case kA => exact rfl); (case kF => exact rfl); (case kK => assumption); (case k1 => k_asm); (case k2 => k_asm); (case k3 => k_asm); (case k5 => k_asm); (case k6 => k_is); (case k7 => k_is); (case k8 => ktr_room); (case k9 => exact BindsTo.of_eq rfl); (case c5 => decide); (case kB => exact locs rfl); (case c2 => exact rfl); (case c3 => exact rfl); (case c4 => exact rfl); k_whole; intro L' h' FG' F' N' B' X' T'; (try dsimp only); (try k_fold)))
  k_steps
  (rename Fr (Shared.heap _) _ _ _ => F7)
  exact hret _ _ _ (Fr.keep F7) ⟨_, rfl⟩
end Mine
end

section
open PySem PySem.W PyProof.Rows PySem.Calls PySem.Flt
set_option Elab.async false
set_option maxRecDepth 100000
set_option maxHeartbeats 8000000
namespace Mine
theorem pad_Par : True := by
  w_top off
  k_with_none
  trivial
local macro_rules | `(tactic| walk_at "mine_pad") => `(tactic| fail "no")

def goP : List Nat → List Nat → List Nat
  | [], d => d
  | c :: r, d => if c = 34 then (match r with
      | 34 :: r' => goP r' (d ++ [c])
      | _ => d) else goP r (d ++ [c])
theorem goP_ne {c : Nat} {r d : List Nat} (h : c ≠ 34) : goP (c :: r) d = goP r (d ++ [c]) := by
  conv => lhs; unfold goP
  rw [if_neg h]
theorem goP_two {r d : List Nat} : goP (34 :: 34 :: r) d = goP r (d ++ [34]) := by
  conv => lhs; unfold goP
  rw [if_pos rfl]
  rfl
theorem goP_stop {c : Nat} {r d : List Nat} (h : c ≠ 34) : goP (34 :: c :: r) d = d := by
  conv => lhs; unfold goP
  rw [if_pos rfl]
  split
  · rename_i q; cases q; exact absurd rfl h
  · rfl
theorem goP_last {d : List Nat} : goP [34] d = d := by
  conv => lhs; unfold goP
  rw [if_pos rfl]
theorem mark_str : Str.ofString "\"" = ⟨#[34]⟩ := by decide +kernel
theorem empty_str : Str.ofString "" = ⟨#[]⟩ := by decide +kernel
theorem len_list (x : Str) : x.length = x.cps.toList.length := by rw [Array.length_toList]; rfl
theorem item_list {x : Str} {i : Int} (h0 : 0 ≤ i) (h1 : i < (x.length : Int)) : ∃ c r, x.cps.toList.drop i.toNat = c :: r ∧ r = x.cps.toList.drop (i + 1).toNat ∧ Txt.item x i = ⟨#[c]⟩ := by
  rw [len_list] at h1
  have hlt : i.toNat < x.cps.toList.length := by omega
  refine ⟨x.cps.toList[i.toNat], x.cps.toList.drop (i.toNat + 1), List.drop_eq_getElem_cons hlt, by rw [show (i + 1).toNat = i.toNat + 1 by omega], ?_⟩
  rw [item_at (n := i.toNat) h0 (by rw [len_list]; exact h1) rfl]
  have : x.cps.getD i.toNat 0 = x.cps.toList[i.toNat] := by
    rw [Array.getD_eq_getD_getElem?, ← Array.getElem?_toList, List.getElem?_eq_getElem hlt]; rfl
  rw [this]
theorem one_eq {c : Nat} : ((⟨#[c]⟩ : Str) == Str.ofString "\"") = decide (c = 34) := by
  rw [mark_str]
  by_cases h : c = 34
  · subst h; rfl
  · rw [decide_eq_false h]
    exact beq_eq_false_iff_ne.mpr fun e => h (by cases e; rfl)
abbrev ParP (x : Str) (R : List Nat) (i : Int) (d : Str) : Prop := 0 ≤ i ∧ (d.length : Int) ≤ i ∧ goP (x.cps.toList.drop i.toNat) d.cps.toList = R
section
variable {x d : Str} {R : List Nat} {i : Int}
theorem par_end (h : goP (x.cps.toList.drop i.toNat) d.cps.toList = R) (h0 : 0 ≤ i) (hn : ¬ i < (x.length : Int)) : d.cps.toList = R := by
  rw [len_list] at hn
  rw [List.drop_eq_nil_of_le (by omega)] at h
  exact h
theorem par_brk1 (h : goP (x.cps.toList.drop i.toNat) d.cps.toList = R) (h0 : 0 ≤ i) (h1 : i < (x.length : Int)) (hq : (Txt.item x i == Str.ofString "\"") = true) (hn : (x.length : Int) ≤ i + 1) : d.cps.toList = R := by
  obtain ⟨c, r, e, er, ei⟩ := item_list h0 h1
  rw [ei, one_eq] at hq
  rw [len_list] at hn
  have : r = [] := by rw [er]; exact List.drop_eq_nil_of_le (by omega)
  subst this
  rw [e, of_decide_eq_true hq, goP_last] at h
  exact h
theorem par_brk2 (h : goP (x.cps.toList.drop i.toNat) d.cps.toList = R) (h0 : 0 ≤ i) (h1 : i < (x.length : Int)) (hq : (Txt.item x i == Str.ofString "\"") = true) (hn : ¬ (x.length : Int) ≤ i + 1) (hk : (Txt.item x (i + 1) != Str.ofString "\"") = true) : d.cps.toList = R := by
  obtain ⟨c, r, e, er, ei⟩ := item_list h0 h1
  obtain ⟨c', r', e', er', ei'⟩ := item_list (x := x) (i := i + 1) (by omega) (by omega)
  rw [ei, one_eq] at hq
  rw [bne, ei', one_eq] at hk
  have hc' : c' ≠ 34 := by
    intro e
    simp [e] at hk
  rw [e, er, e', of_decide_eq_true hq, goP_stop hc'] at h
  exact h
theorem par_two (h0 : 0 ≤ i) (h9 : (d.length : Int) ≤ i) (h : goP (x.cps.toList.drop i.toNat) d.cps.toList = R) (h1 : i < (x.length : Int)) (hq : (Txt.item x i == Str.ofString "\"") = true) (hn : ¬ (x.length : Int) ≤ i + 1) (hk : (Txt.item x (i + 1) != Str.ofString "\"") = false) : ParP x R (i + 1 + 1) (d ++ Txt.item x i) := by
  obtain ⟨c, r, e, er, ei⟩ := item_list h0 h1
  obtain ⟨c', r', e', er', ei'⟩ := item_list (x := x) (i := i + 1) (by omega) (by omega)
  rw [ei, one_eq] at hq
  have hc := of_decide_eq_true hq
  rw [bne, ei', one_eq] at hk
  have hc' : c' = 34 := by simpa using hk
  rw [e, er, e'] at h
  subst hc hc'
  rw [goP_two, er'] at h
  refine ⟨by omega, ?_, ?_⟩
  · rw [Str.length_append, ei]; show ((d.length + 1 : Nat) : Int) ≤ _; omega
  · rw [ei, Str.cps_append, Array.toList_append]; exact h
theorem par_one (h0 : 0 ≤ i) (h9 : (d.length : Int) ≤ i) (h : goP (x.cps.toList.drop i.toNat) d.cps.toList = R) (h1 : i < (x.length : Int)) (hq : (Txt.item x i == Str.ofString "\"") = false) : ParP x R (i + 1) (d ++ Txt.item x i) := by
  obtain ⟨c, r, e, er, ei⟩ := item_list h0 h1
  rw [ei, one_eq] at hq
  have hc := of_decide_eq_false hq
  rw [e, goP_ne hc, er] at h
  refine ⟨by omega, ?_, ?_⟩
  · rw [Str.length_append, ei]; show ((d.length + 1 : Nat) : Int) ≤ _; omega
  · rw [ei, Str.cps_append, Array.toList_append]; exact h
theorem str_of (h : d.cps.toList = R) : d = ⟨R.toArray⟩ := by
  cases d; subst h; simp
end
theorem parse_ok {w : World} (x : Str) (t : Tok) (hz : x.length ≤ 1000) (ha : Txt.slice x none (some 3) = Str.ofString "257") (hb : Txt.slice x (some 3) (some 5) = Str.ofString " \"") : Spec w 116 [.str x t] 1 noPre (outS ⟨(goP (x.cps.toList.drop 5) []).toArray⟩) := by
  have ha : (Txt.slice x none (some 3) != Str.ofString "257") = false := by rw [ha]; decide +kernel
  have hb : (Txt.slice x (some 3) (some 5) != Str.ofString " \"") = false := by rw [hb]; decide +kernel
  unfold Spec
  k_fill
  intros
  rename_i hret
  k_with "exec While Compare cons nil" => k_while (fun _ i d => ParP x (goP (x.cps.toList.drop 5) []) i d) (fun _ i _ => x.length - i.toNat) "i" "dirname"
  k_with "state" => first | exact par_two (by assumption) (by assumption) (by assumption) (by assumption) (by assumption) (by assumption) (by assumption) | exact par_one (by assumption) (by assumption) (by assumption) (by assumption) (by assumption) | (refine ⟨by decide, ?_, ?_⟩ <;> (rw [empty_str]; first | decide | rfl))
  (refine wpAny_call ?_; k_dflt (refine' code_base ?k1 ?k2 ?k3 ?k5 ?kA ?kF ?kK ?k6 ?k7 ?k8 ?k9 ?kB ?_ ?c2 ?c3 ?c4 ?c5; (case kA => exact rfl); (case kF => exact rfl); (case kK => assumption); (case k1 => k_asm); (case k2 => k_asm); (case k3 => k_asm); (case k5 => k_asm); (case k6 => k_is); (case k7 => k_is); (case k8 => ktr_room); (case k9 => exact BindsTo.of_eq rfl); (case c5 => decide); (case kB => exact locs rfl); (case c2 => exact rfl); (case c3 => exact rfl); (case c4 => exact rfl); k_whole; intro L' h' FG' F' N' B' X' T'; (try dsimp only); (try k_fold)))
  k_steps
  all_goals (
    have hR := str_of (by first | exact par_brk1 (by assumption) (by assumption) (by assumption) (by assumption) (by assumption) | exact par_brk2 (by assumption) (by assumption) (by assumption) (by assumption) (by assumption) (by assumption) | exact par_end (by assumption) (by assumption) (by assumption))
    subst hR
    (rename Fr (Shared.heap _) _ _ _ => F7)
    exact hret _ _ _ (Fr.keep F7) ⟨_, rfl⟩)
end Mine
end

section
open PySem PySem.W PyProof.Rows PySem.Calls PySem.Flt
set_option Elab.async false
set_option maxRecDepth 100000
set_option maxHeartbeats 8000000
namespace Mine
theorem pad_Rd : True := by
  w_top off
  k_with_none
  trivial

theorem goP_len : ∀ (l d : List Nat), (goP l d).length ≤ l.length + d.length
  | [], d => by simp [goP]
  | c :: r, d => by
    by_cases h : c = 34
    · subst h
      cases r with
      | nil => rw [goP_last]; simp
      | cons a r' =>
        by_cases ha : a = 34
        · subst ha
          rw [goP_two]
          have := goP_len r' (d ++ [34])
          simp at this ⊢; omega
        · rw [goP_stop ha]; simp
    · rw [goP_ne h]
      have := goP_len r (d ++ [c])
      simp at this ⊢; omega
def endK (s : Str) : Bool := Txt.slice s (some (-1)) none == Str.ofString "k"
def replyOf (s : Str) : Str := Str.ofString "257 \"" ++ s ++ Str.ofString "\" is a crease"
def pz (s : Str) : Str := ⟨(goP ((replyOf s).cps.toList.drop 5) []).toArray⟩
def rdS : Nat → Str → Str × Nat
  | 0, s => (s, 0)
  | k + 1, s => if endK s = true then ((rdS k (pz s)).1, (rdS k (pz s)).2 + 1) else (s, 0)
def startS (x : Int) : Str := Txt.mul (Str.ofString "\"") x ++ Str.ofString "k"
def nameZ (x : Int) : Str := (rdS 5 (startS x)).1
def timesZ (x : Int) : Nat := (rdS 5 (startS x)).2
def readZ (x : Int) (ns : List Int) : Int := if ((nameZ x).length : Int).fmod 2 = 1 then -(ns.getD ((timesZ x : Int) - 1).toNat 0) else ns.getD ((timesZ x : Int) - 1).toNat 0
abbrev RdP (x : Int) (nm : Str) (r : Int) : Prop := 0 ≤ r ∧ r ≤ 5 ∧ (nm.length : Int) ≤ 100 + 20 * r ∧ (rdS (5 - r.toNat) nm).1 = nameZ x ∧ r.toNat + (rdS (5 - r.toNat) nm).2 = timesZ x
theorem rd_len {s : Str} {r : Int} (h : (s.length : Int) ≤ 100 + 20 * r) (hr : r ≤ 5) : (Str.ofString "257 \"" ++ s ++ Str.ofString "\" is a crease").length ≤ 1000 := by
  rw [Str.length_append, Str.length_append]
  have h1 : (Str.ofString "257 \"").length = 5 := by decide +kernel
  have h2 : (Str.ofString "\" is a crease").length = 13 := by decide +kernel
  omega
theorem reply_cps (s : Str) : (replyOf s).cps.toList = [50, 53, 55, 32, 34] ++ (s.cps.toList ++ [34, 32, 105, 115, 32, 97, 32, 99, 114, 101, 97, 115, 101]) := by
  have h1 : (Str.ofString "257 \"").cps.toList = [50, 53, 55, 32, 34] := by decide +kernel
  have h2 : (Str.ofString "\" is a crease").cps.toList = [34, 32, 105, 115, 32, 97, 32, 99, 114, 101, 97, 115, 101] := by decide +kernel
  unfold replyOf
  rw [Str.cps_append, Str.cps_append, Array.toList_append, Array.toList_append, h1, h2, List.append_assoc]
theorem rd_sl1 (s : Str) : Txt.slice (Str.ofString "257 \"" ++ s ++ Str.ofString "\" is a crease") none (some 3) = Str.ofString "257" := by
  have e := beq_iff_eq.mp (slice_closes_to (x := replyOf s) (j := 3) ⟨by decide, by rw [reply_cps]; simp; omega⟩)
  unfold replyOf at e
  rw [e]
  have := reply_cps s
  unfold replyOf at this
  rw [this]
  show (⟨_⟩ : Str) = _
  have h : Str.ofString "257" = ⟨#[50, 53, 55]⟩ := by decide +kernel
  rw [h]; rfl
theorem rd_sl2 (s : Str) : Txt.slice (Str.ofString "257 \"" ++ s ++ Str.ofString "\" is a crease") (some 3) (some 5) = Str.ofString " \"" := by
  have e := beq_iff_eq.mp (slice_closes (x := replyOf s) (i := 3) (j := 5) ⟨by decide, by decide, by rw [reply_cps]; simp; omega⟩)
  unfold replyOf at e
  rw [e]
  have := reply_cps s
  unfold replyOf at this
  rw [this]
  have h : Str.ofString " \"" = ⟨#[32, 34]⟩ := by decide +kernel
  rw [h]; rfl
theorem pz_len (s : Str) : (pz s).length ≤ s.length + 13 := by
  have := goP_len ((replyOf s).cps.toList.drop 5) []
  rw [reply_cps] at this
  show (pz s).cps.size ≤ s.cps.size + 13
  unfold pz
  rw [reply_cps]
  simp at this ⊢
  omega
section
variable {x r : Int} {nm : Str}
theorem rd_start (h : (startS x).length ≤ 100) : RdP x (Txt.mul (Str.ofString "\"") x ++ Str.ofString "k") 0 :=
  ⟨by decide, by decide, by show ((startS x).length : Int) ≤ _; omega, rfl, by rw [show (0 : Int).toNat = 0 from rfl, Nat.zero_add]; rfl⟩
theorem rd_step (h0 : 0 ≤ r) (h1 : r ≤ 5) (h2 : (nm.length : Int) ≤ 100 + 20 * r) (h3 : (rdS (5 - r.toNat) nm).1 = nameZ x) (h4 : r.toNat + (rdS (5 - r.toNat) nm).2 = timesZ x) (hk : (Txt.slice nm (some (-1)) none == Str.ofString "k") = true) (hr : r < 5) :
    RdP x ⟨(goP ((Str.ofString "257 \"" ++ nm ++ Str.ofString "\" is a crease").cps.toList.drop 5) []).toArray⟩ (r + 1) := by
  show RdP x (pz nm) (r + 1)
  have e : 5 - r.toNat = (5 - (r + 1).toNat) + 1 := by omega
  rw [e, rdS, if_pos (show endK nm = true from hk)] at h3 h4
  have := pz_len nm
  refine ⟨by omega, by omega, by omega, h3, ?_⟩
  rw [← h4]
  dsimp only
  omega
theorem rd_out1 (h0 : 0 ≤ r) (h3 : (rdS (5 - r.toNat) nm).1 = nameZ x) (h4 : r.toNat + (rdS (5 - r.toNat) nm).2 = timesZ x) (hk : (Txt.slice nm (some (-1)) none == Str.ofString "k") = false) : nm = nameZ x ∧ r = timesZ x := by
  have e : rdS (5 - r.toNat) nm = (nm, 0) := by
    cases h : 5 - r.toNat with
    | zero => rfl
    | succ k => rw [rdS, if_neg (by rw [show endK nm = false from hk]; exact Bool.false_ne_true)]
  rw [e] at h3 h4
  exact ⟨h3, by dsimp only at h4; omega⟩
theorem rd_out2 (h0 : 0 ≤ r) (h1 : r ≤ 5) (h3 : (rdS (5 - r.toNat) nm).1 = nameZ x) (h4 : r.toNat + (rdS (5 - r.toNat) nm).2 = timesZ x) (hk : ¬ r < 5) : nm = nameZ x ∧ r = timesZ x := by
  have e : 5 - r.toNat = 0 := by omega
  rw [e] at h3 h4
  exact ⟨h3, by dsimp only [rdS] at h4; omega⟩
end
section
variable {x r : Int} {nm : Str}
theorem rd_end1 {ns : List Int} {t : Tok} {h h' : Heap} (e1 : nm = nameZ x) (e2 : r = timesZ x) (hp : (nm.length : Int).fmod 2 = 1) : outI (readZ x ns) h h' (.int (-(ns.getD (r - 1).toNat 0)) t) := by
  subst e1 e2
  exact outI_of (by unfold readZ; rw [if_pos hp])
theorem rd_end2 {ns : List Int} {t : Tok} {h h' : Heap} (e1 : nm = nameZ x) (e2 : r = timesZ x) (hp : (nm.length : Int).fmod 2 ≠ 1) : outI (readZ x ns) h h' (.int (ns.getD (r - 1).toNat 0) t) := by
  subst e1 e2
  exact outI_of (by unfold readZ; rw [if_neg hp])
theorem rd_pos1 (hC : 1 ≤ timesZ x) (h0 : 0 ≤ r) (h3 : (rdS (5 - r.toNat) nm).1 = nameZ x) (h4 : r.toNat + (rdS (5 - r.toNat) nm).2 = timesZ x) (hk : (Txt.slice nm (some (-1)) none == Str.ofString "k") = false) : 0 ≤ r - 1 := by
  have := (rd_out1 h0 h3 h4 hk).2
  omega
theorem rd_pos2 (hC : 1 ≤ timesZ x) (h0 : 0 ≤ r) (h1 : r ≤ 5) (h3 : (rdS (5 - r.toNat) nm).1 = nameZ x) (h4 : r.toNat + (rdS (5 - r.toNat) nm).2 = timesZ x) (hk : ¬ r < 5) : 0 ≤ r - 1 := by
  have := (rd_out2 h0 h1 h3 h4 hk).2
  omega
end
local macro_rules | `(tactic| walk_at "call ref") => `(tactic| k_extra "mine call ref")
local macro_rules | `(tactic| walk_at "subscriptTail") => `(tactic| k_extra "mine subscriptTail")
theorem read_ok {w : World} (x : Int) (t : Tok) (l : Addr) (ls : List Value) (ns : List Int) (hi : IntsAre ls ns) (hz : ns.length = 5) (hx0 : 0 ≤ x) (hx1 : x ≤ 60) (hlen : (startS x).length ≤ 100) (hC : 1 ≤ timesZ x) : Spec w 128 [.int x t, .ref l] 2 (fun h => h.IsList l ls.toArray) (outI (readZ x ns)) := by
  k_with_none
  k_with "mine call ref" => (k_here; (with_reducible show wpAny _ _ (call (Value.ref 116) [Value.str _ _]) _ _ _); (with_unfolding_all refine' useS (parse_ok _ _ ?hz ?ha ?hb) ?k1 ?k2 ?k3 ?k4 ?k5 ?k6 ?k7 ?k8 ?k9 ?_); (case hz => exact rd_len (by assumption) (by assumption)); (case ha => exact rd_sl1 _); (case hb => exact rd_sl2 _); (case k1 => k_asm); (case k2 => k_asm); (case k3 => k_asm); (case k4 => k_asm); (case k5 => k_asm); (case k6 => first | exact rfl | assumption); (case k7 => trivial); (case k8 => ktr_room); (case k9 => ktr_units); intro t9 h9 tk9 F9 N9; (try dsimp only); (try k_fold))
  k_with "mine subscriptTail" => (k_here; (with_reducible show wpAny _ _ (subscriptTail _ _ (Value.ref _) (Value.int (_ - 1) _)) _ _ _); (with_unfolding_all refine' item_ints ?k1 ?k2 ?k3 ?k4 ?k5 ?_ ?k6 ?k7); (case k1 => is_list); (case k2 => assumption); (case k6 => with_unfolding_all rfl); (case k7 => (intro _; with_unfolding_all rfl)); (case k3 => first | exact rd_pos1 (by assumption) (by assumption) (by assumption) (by assumption) (by assumption) | exact rd_pos2 (by assumption) (by assumption) (by assumption) (by assumption) (by assumption) (by omega)); (case k4 => omega); (case k5 => omega); intro t9)
  unfold Spec
  k_fill
  intros
  rename_i hret
  k_with "exec While BoolOp cons nil" => k_while (fun _ nm r => RdP x nm r) (fun _ nm r => 5 - r.toNat) "name" "readings"
  k_with "state" => first | exact rd_step (by assumption) (by assumption) (by assumption) (by assumption) (by assumption) (by assumption) (by omega) | exact rd_start (by assumption)
  (refine wpAny_call ?_; k_dflt (refine' code_base ?k1 ?k2 ?k3 ?k5 ?kA ?kF ?kK ?k6 ?k7 ?k8 ?k9 ?kB ?_ ?c2 ?c3 ?c4 ?c5; (case kA => exact rfl); (case kF => exact rfl); (case kK => assumption); (case k1 => k_asm); (case k2 => k_asm); (case k3 => k_asm); (case k5 => k_asm); (case k6 => k_is); (case k7 => k_is); (case k8 => ktr_room); (case k9 => exact BindsTo.of_eq rfl); (case c5 => decide); (case kB => exact locs rfl); (case c2 => exact rfl); (case c3 => exact rfl); (case c4 => exact rfl); k_whole; intro L' h' FG' F' N' B' X' T'; (try dsimp only); (try k_fold)))
  k_steps
  all_goals (
    have hO := by first | exact rd_out1 (by assumption) (by assumption) (by assumption) (by assumption) | exact rd_out2 (by assumption) (by assumption) (by assumption) (by assumption) (by omega)
    obtain ⟨e1, e2⟩ := hO
    (rename Fr (Shared.heap _) _ _ _ => F7)
    (try dsimp only)
    first | exact hret _ _ _ (Fr.keep F7) (rd_end1 e1 e2 (by with_reducible assumption)) | exact hret _ _ _ (Fr.keep F7) (rd_end2 e1 e2 (by with_reducible assumption)) | fail "no")
end Mine
end

section
open PySem PySem.W PyProof.Rows PySem.Calls PySem.Flt
set_option Elab.async false
set_option maxRecDepth 100000
set_option maxHeartbeats 8000000
namespace Mine
theorem pad_Trn : True := by
  w_top off
  k_with_none
  trivial
local macro_rules | `(tactic| walk_at "call ref") => `(tactic| k_extra "mine call ref")

def turnedZ (x : Int) (ns : List Int) : Int :=
  (List.foldl (fun p k => (if Builtin.bitAnd p.snd 1 = 1 then p.fst + k else p.fst, if Builtin.bitAnd p.snd 1 = 1 then p.snd.fdiv (2 ^ Int.toNat 1) else p.snd.fdiv (2 ^ Int.toNat 1))) ((0 : Int), Builtin.bitXor x (x.fdiv (2 ^ Int.toNat 1))) ns).fst
abbrev SpecE (w : World) (f : Addr) (vs : List Value) (nd : Nat) (pre : Heap → Prop) (Out : Heap → Heap → Value → Prop) : Prop :=
  ∀ (loose : List Str) (mean : ExcName → Option Value) (mg mb : Env0) (dp un : Nat) (gd : Option (List Code)) (env : Env) (outer : List Env) (A₀ : Around) (base h₀ : Heap) (L : Addr) (m : Env0) (s : Shared) (Q E : Value → Shared → Prop),
    Below A₀ base outer h₀ → Fr h₀ L s.heap m → (hd.heap_39 w.params).In h₀ → Top hd.view_39 loose mean mg mb h₀ → env.scope.kind = .function → env.frame = some L → pre s.heap → dp + nd < recursionLimit → un + 8 * nd < cLine →
      (∀ v h' tk', (∀ b o, s.heap.get? b = some o → h'.get? b = some o) → Out s.heap h' v → Q v { s with heap := h', toks := tk' }) →
      wpAny (model PySem.Challenge.rw_wu0029_01.row.prog w) { handled := none, depth := dp, frames := some (env :: outer), guards := gd, units := un } (call (.ref f) vs) Q E s
theorem useIE {w : World} {f : Addr} {vs : List Value} {nd : Nat} {pre : Heap → Prop} {loose : List Str} {mean : ExcName → Option Value} {mg mb : Env0} {dp un : Nat} {gd : Option (List Code)} {env : Env} {outer : List Env} {A₀ : Around} {base h₀ : Heap} {L : Addr} {m : Env0} {s : Shared} {Q E : Value → Shared → Prop} {news : Led} {x : Int} (S : SpecE w f vs nd pre (outI x)) (B : Below A₀ base outer h₀) (F : Fr h₀ L s.heap m) (X : (hd.heap_39 w.params).In h₀) (N : News h₀ L s.heap news) (T : Top hd.view_39 loose mean mg mb h₀) (hk : env.scope.kind = .function) (hf : env.frame = some L) (hp : pre s.heap) (hd : dp + nd < recursionLimit) (hu : un + 8 * nd < cLine)
    (hr : ∀ t h' tk', Fr h₀ L h' m → News h₀ L h' news → Q (.int x t) { s with heap := h', toks := tk' }) :
    wpAny (model PySem.Challenge.rw_wu0029_01.row.prog w) { handled := none, depth := dp, frames := some (env :: outer), guards := gd, units := un } (call (.ref f) vs) Q E s :=
  S _ _ _ _ _ _ _ _ _ _ _ _ _ _ _ _ _ B F X T hk hf hp hd hu fun v h' tk' kp o => by
    obtain ⟨t, rfl⟩ := o
    exact hr t h' tk' (F.grownK kp) (N.grown kp)
theorem turned_okE {w : World} (x : Int) (t : Tok) (l : Addr) (ls : List Value) (ns : List Int) (hi : IntsAre ls ns) : SpecE w 135 [.int x t, .ref l] 2 (fun h => h.IsList l ls.toArray) (outI (turnedZ x ns)) := by
  k_with_none
  k_with "mine call ref" => (k_here; (with_reducible show wpAny _ _ (call (Value.ref 63) [Value.int _ _, Value.int _ _]) _ _ _); (with_unfolding_all refine' useI (ixor_ok _ _ _ _) ?k1 ?k2 ?k3 ?k4 ?k5 ?k6 ?k7 ?k8 ?k9 ?_); (case k1 => k_asm); (case k2 => k_asm); (case k3 => k_asm); (case k4 => k_asm); (case k5 => k_asm); (case k6 => first | exact rfl | assumption); (case k7 => trivial); (case k8 => ktr_room); (case k9 => ktr_units); intro t9 h9 tk9 F9 N9; (try dsimp only); (try k_fold))
  k_with "mine call ref" => (k_here; (with_reducible show wpAny _ _ (call (Value.ref 56) [Value.int _ _, Value.int _ _]) _ _ _); (with_unfolding_all refine' useI (irshift_ok _ _ _ _ ?hy) ?k1 ?k2 ?k3 ?k4 ?k5 ?k6 ?k7 ?k8 ?k9 ?_); (case hy => first | assumption | decide | omega); (case k1 => k_asm); (case k2 => k_asm); (case k3 => k_asm); (case k4 => k_asm); (case k5 => k_asm); (case k6 => first | exact rfl | assumption); (case k7 => trivial); (case k8 => ktr_room); (case k9 => ktr_units); intro t9 h9 tk9 F9 N9; (try dsimp only); (try k_fold))
  k_with "mine call ref" => (k_here; (with_reducible show wpAny _ _ (call (Value.ref 42) [Value.int _ _, Value.int _ _]) _ _ _); (with_unfolding_all refine' useI (iand_ok _ _ _ _) ?k1 ?k2 ?k3 ?k4 ?k5 ?k6 ?k7 ?k8 ?k9 ?_); (case k1 => k_asm); (case k2 => k_asm); (case k3 => k_asm); (case k4 => k_asm); (case k5 => k_asm); (case k6 => first | exact rfl | assumption); (case k7 => trivial); (case k8 => ktr_room); (case k9 => ktr_units); intro t9 h9 tk9 F9 N9; (try dsimp only); (try k_fold))
  k_with "mine call ref" => (k_here; (with_reducible show wpAny _ _ (call (Value.ref 35) [Value.int _ _, Value.int _ _]) _ _ _); (with_unfolding_all refine' useI (iadd_ok _ _ _ _) ?k1 ?k2 ?k3 ?k4 ?k5 ?k6 ?k7 ?k8 ?k9 ?_); (case k1 => k_asm); (case k2 => k_asm); (case k3 => k_asm); (case k4 => k_asm); (case k5 => k_asm); (case k6 => first | exact rfl | assumption); (case k7 => trivial); (case k8 => ktr_room); (case k9 => ktr_units); intro t9 h9 tk9 F9 N9; (try dsimp only); (try k_fold))
  unfold SpecE
  k_fill
  intros
  rename_i hret
  (refine wpAny_call ?_; k_dflt (refine' code_base ?k1 ?k2 ?k3 ?k5 ?kA ?kF ?kK ?k6 ?k7 ?k8 ?k9 ?kB ?_ ?c2 ?c3 ?c4 ?c5; (case kA => exact rfl); (case kF => assumption); (case kK => assumption); (case k1 => k_asm); (case k2 => k_asm); (case k3 => k_asm); (case k5 => k_asm); (case k6 => k_is); (case k7 => k_is); (case k8 => ktr_room); (case k9 => exact BindsTo.of_eq rfl); (case c5 => decide); (case kB => exact locs rfl); (case c2 => exact rfl); (case c3 => exact rfl); (case c4 => exact rfl); k_whole; intro L' h' FG' F' N' B' X' T'; (try dsimp only); (try k_fold)))
  k_steps
  (rename Fr (Shared.heap _) _ _ _ => F7)
  (try dsimp only)
  exact hret _ _ _ (Fr.keep F7) (outI_of rfl)
theorem turned_ok {w : World} (x : Int) (t : Tok) (l : Addr) (ls : List Value) (ns : List Int) (hi : IntsAre ls ns) : Spec w 135 [.int x t, .ref l] 2 (fun h => h.IsList l ls.toArray) (outI (turnedZ x ns)) :=
  fun loose mean mg mb dp un gd _ _ _ _ _ outer A₀ base h₀ L m s Q E B F X T hk hp hd hu hr => turned_okE x t l ls ns hi loose mean mg mb dp un gd _ outer A₀ base h₀ L m s Q E B F X T hk rfl hp hd hu hr

end Mine
end

section
open PySem PySem.W PyProof.Rows PySem.Calls PySem.Flt
set_option Elab.async false
set_option maxRecDepth 100000
set_option maxHeartbeats 8000000
namespace Mine
theorem pad_Plc : True := by
  w_top off
  k_with_none
  trivial
local macro_rules | `(tactic| walk_at "call ref") => `(tactic| k_extra "mine call ref")

def PairsAt (h : Heap) (ps : List Value) (qs : List (Int × Int)) : Prop := ps.length = qs.length ∧ ∀ (i : Nat) (q : Int × Int), qs[i]? = some q → ∃ (r : Addr) (t1 t2 : Tok), ps[i]? = some (Value.ref r) ∧ IsTup h r #[Value.int q.1 t1, Value.int q.2 t2]
theorem item_pair {prog : Program} {w : World} {A : Around} {E : Value → Shared → Prop} {s : Shared} {h₀ : Heap} {value slice : Expr} {l : Addr} {vs : List Value} {qs : List (Int × Int)} {k : Int} {u : Tok} {Q : Value → Shared → Prop}
    (hl : s.heap.IsList l vs.toArray) (hi : PairsAt h₀ vs qs) (h0 : 0 ≤ k) (h1 : k < (qs.length : Int)) (hn : qs.length ≤ 1000000) (h : ∀ r t1 t2, IsTup h₀ r #[.int (qs.getD k.toNat (0, 0)).1 t1, .int (qs.getD k.toNat (0, 0)).2 t2] → Q (.ref r) s)
    (hs : subscripted slice false (.ref l) (.int k u) = operate [.ref l, .int k u] (getItem (.ref l) (.int k u)) := by with_unfolding_all rfl) (hg : ∀ r, letTemporaryGo value (.ref l) r = pure () := by intro _; with_unfolding_all rfl) :
    wpAny (model prog w) A (subscriptTail value slice (.ref l) (.int k u)) Q E s := by
  have hlt : k.toNat < qs.length := by omega
  obtain ⟨r, t1, t2, hx, ht⟩ := hi.2 k.toNat qs[k.toNat] (List.getElem?_eq_getElem hlt)
  refine item_listL hl h0 (by omega) hx (h r t1 t2 ?_) hs hg
  rw [List.getD_eq_getElem?_getD, List.getElem?_eq_getElem hlt]
  exact ht
theorem len_five {prog : Program} {w : World} {A : Around} {E : Value → Shared → Prop} {s : Shared} {l : Addr} {vs : List Value} {qs : List (Int × Int)} {Q : Value → Shared → Prop} (hl : s.heap.IsList l vs.toArray) (hn : vs.length = qs.length) (hq : qs.length = 5) (h : Q (.int (qs.length : Int) (s.toks + 1)) { s with toks := s.toks + 1 + 1 }) :
    wpAny (model prog w) A (call (.builtin "len") [.ref l]) Q E s := by
  have e : vs.toArray.size = qs.length := by rw [List.size_toArray]; exact hn
  refine call_len_list hl (by rw [e, hq]; decide) ?_
  rw [e]; exact h
def rot : Nat → Int × Int → Int × Int
  | 0, p => p
  | k + 1, p => (-(rot k p).2, (rot k p).1)
def beforeZ (x k : Int) : Int := x.fdiv (2 ^ (k + 1).toNat) * 2 ^ (k + 1).toNat
def stepZ (x : Int) (ns : List Int) (qs : List (Int × Int)) (p : Int × Int) (k : Int) : Int × Int :=
  if Builtin.bitAnd (x.fdiv (2 ^ k.toNat)) 1 = 1 then
    let q := rot ((ns.getD (beforeZ x k).toNat 0).fmod 4).toNat (qs.getD k.toNat (0, 0))
    (p.1 + q.1, p.2 + q.2)
  else p
def placeF (x : Int) (ns : List Int) (qs : List (Int × Int)) (ks : List Int) : Int × Int := ks.foldl (stepZ x ns qs) (0, 0)
theorem shr_small {x : Int} {n : Nat} (h0 : 0 ≤ x) (h1 : x ≤ 1000) : (x.fdiv (2 ^ n)).natAbs < 2 ^ 64 := by
  have h2 : (0 : Int) < 2 ^ n := Int.pow_pos (by decide)
  rw [Int.fdiv_eq_ediv_of_nonneg _ (Int.le_of_lt h2)]
  have h3 : x / 2 ^ n ≤ x := Int.ediv_le_self _ h0
  have h4 : 0 ≤ x / 2 ^ n := Int.ediv_nonneg h0 (Int.le_of_lt h2)
  omega
abbrev BeforeOk (x : Int) (ns : List Int) : Prop := ∀ k : Int, 0 ≤ k → k < 5 → Builtin.bitAnd (x.fdiv (2 ^ k.toNat)) 1 = 1 → 0 ≤ x.fdiv (2 ^ (k + 1).toNat) * 2 ^ (k + 1).toNat ∧ x.fdiv (2 ^ (k + 1).toNat) * 2 ^ (k + 1).toNat < (ns.length : Int)
theorem pl_before {x k : Int} {ns : List Int} (B : BeforeOk x ns) (h0 : 0 ≤ k) (h1 : k < 5) (hb : Builtin.bitAnd (x.fdiv (2 ^ k.toNat)) 1 = 1) : 0 ≤ x.fdiv (2 ^ (k + 1).toNat) * 2 ^ (k + 1).toNat ∧ x.fdiv (2 ^ (k + 1).toNat) * 2 ^ (k + 1).toNat < (ns.length : Int) := B k h0 h1 hb
section
variable {x : Int} {ns : List Int} {qs : List (Int × Int)} {pre : List Int} {e n k a b : Int} {p : Int × Int} {ks : List Int}
theorem pl_start : (0 : Int) = (placeF x ns qs []).1 ∧ (0 : Int) = (placeF x ns qs []).2 := ⟨rfl, rfl⟩
theorem place_snoc : placeF x ns qs (pre ++ [k]) = stepZ x ns qs (placeF x ns qs pre) k := by unfold placeF; rw [List.foldl_append]; rfl
theorem pl_step0 (h1 : e = (placeF x ns qs pre).1) (h2 : n = (placeF x ns qs pre).2) (hb : Builtin.bitAnd (x.fdiv (2 ^ k.toNat)) 1 ≠ 1) : e = (placeF x ns qs (pre ++ [k])).1 ∧ n = (placeF x ns qs (pre ++ [k])).2 := by
  rw [place_snoc, stepZ, if_neg hb]; exact ⟨h1, h2⟩
theorem rot_start : p.1 = (rot ([] : List Int).length p).1 ∧ p.2 = (rot ([] : List Int).length p).2 := ⟨rfl, rfl⟩
theorem rot_step (h1 : a = (rot ks.length p).1) (h2 : b = (rot ks.length p).2) : -b = (rot (ks ++ [k]).length p).1 ∧ a = (rot (ks ++ [k]).length p).2 := by
  rw [List.length_append]; exact ⟨by rw [h2]; rfl, by rw [h1]; rfl⟩
theorem pl_step1 (h1 : e = (placeF x ns qs pre).1) (h2 : n = (placeF x ns qs pre).2) (hb : Builtin.bitAnd (x.fdiv (2 ^ k.toNat)) 1 = 1)
    (h3 : a = (rot (rangeKs 0 ((ns.getD (x.fdiv (2 ^ (k + 1).toNat) * 2 ^ (k + 1).toNat).toNat 0).fmod 4 - 0).toNat).length ((qs.getD k.toNat (0, 0)).1, (qs.getD k.toNat (0, 0)).2)).1)
    (h4 : b = (rot (rangeKs 0 ((ns.getD (x.fdiv (2 ^ (k + 1).toNat) * 2 ^ (k + 1).toNat).toNat 0).fmod 4 - 0).toNat).length ((qs.getD k.toNat (0, 0)).1, (qs.getD k.toNat (0, 0)).2)).2) :
    e + a = (placeF x ns qs (pre ++ [k])).1 ∧ n + b = (placeF x ns qs (pre ++ [k])).2 := by
  rw [rangeKs_length, Int.sub_zero] at h3 h4
  rw [place_snoc, stepZ, if_pos hb]
  exact ⟨by rw [h1, h3]; rfl, by rw [h2, h4]; rfl⟩
theorem pl_end {r : Addr} {te tn : Tok} {h h' : Heap} (hq : qs.length = 5) (h1 : e = (placeF x ns qs (rangeKs 0 ((qs.length : Int) - 0).toNat)).1) (h2 : n = (placeF x ns qs (rangeKs 0 ((qs.length : Int) - 0).toNat)).2)
    (hg : h'.get? r = some (tupO [.int e te, .int n tn])) (hf : h.get? r = none) : outI2 (placeF x ns qs [0, 1, 2, 3, 4]).1 (placeF x ns qs [0, 1, 2, 3, 4]).2 h h' (.ref r) := by
  rw [hq] at h1 h2
  rw [h1, h2] at hg
  exact ⟨r, te, tn, rfl, hg, hf⟩
end
local macro_rules | `(tactic| walk_at "call builtin:len") => `(tactic| k_extra "mine call builtin:len")
local macro_rules | `(tactic| walk_at "subscriptTail") => `(tactic| k_extra "mine subscriptTail")
local macro_rules | `(tactic| walk_at "assign Tuple") => `(tactic| k_extra "mine assign Tuple")

set_option maxHeartbeats 1500000 in
theorem place_ok {w : World} (x : Int) (t : Tok) (lh lp : Addr) (hs ps : List Value) (ns : List Int) (qs : List (Int × Int)) (hi : IntsAre hs ns) (hx0 : 0 ≤ x) (hx1 : x ≤ 1000) (hz : ns.length ≤ 1000) (hq : qs.length = 5) (hB : BeforeOk x ns) :
    Spec w 142 [.int x t, .ref lh, .ref lp] 2 (fun h => h.IsList lh hs.toArray ∧ h.IsList lp ps.toArray ∧ PairsAt h ps qs) (outI2 (placeF x ns qs [0, 1, 2, 3, 4]).1 (placeF x ns qs [0, 1, 2, 3, 4]).2) := by
  k_with_none
  k_with "mine call ref" => (k_here; (with_reducible show wpAny _ _ (call (Value.ref 56) [Value.int _ _, Value.int _ _]) _ _ _); (with_unfolding_all refine' useI (irshift_ok _ _ _ _ ?hy) ?k1 ?k2 ?k3 ?k4 ?k5 ?k6 ?k7 ?k8 ?k9 ?_); (case hy => first | assumption | decide | omega); (case k1 => k_asm); (case k2 => k_asm); (case k3 => k_asm); (case k4 => k_asm); (case k5 => k_asm); (case k6 => first | exact rfl | assumption); (case k7 => trivial); (case k8 => ktr_room); (case k9 => ktr_units); intro t9 h9 tk9 F9 N9; (try dsimp only); (try k_fold))
  k_with "mine call ref" => (k_here; (with_reducible show wpAny _ _ (call (Value.ref 42) [Value.int _ _, Value.int _ _]) _ _ _); (with_unfolding_all refine' useI (iand_ok _ _ _ _) ?k1 ?k2 ?k3 ?k4 ?k5 ?k6 ?k7 ?k8 ?k9 ?_); (case k1 => k_asm); (case k2 => k_asm); (case k3 => k_asm); (case k4 => k_asm); (case k5 => k_asm); (case k6 => first | exact rfl | assumption); (case k7 => trivial); (case k8 => ktr_room); (case k9 => ktr_units); intro t9 h9 tk9 F9 N9; (try dsimp only); (try k_fold))
  k_with "mine call ref" => (k_here; (with_reducible show wpAny _ _ (call (Value.ref 35) [Value.int _ _, Value.int _ _]) _ _ _); (with_unfolding_all refine' useI (iadd_ok _ _ _ _) ?k1 ?k2 ?k3 ?k4 ?k5 ?k6 ?k7 ?k8 ?k9 ?_); (case k1 => k_asm); (case k2 => k_asm); (case k3 => k_asm); (case k4 => k_asm); (case k5 => k_asm); (case k6 => first | exact rfl | assumption); (case k7 => trivial); (case k8 => ktr_room); (case k9 => ktr_units); intro t9 h9 tk9 F9 N9; (try dsimp only); (try k_fold))
  k_with "mine call builtin:len" => (k_here; (with_reducible show wpAny _ _ (call (Value.builtin "len") [Value.ref _]) _ _ _); refine' len_five ?k1 ?k2 ?k3 ?_; (case k1 => is_list); (case k2 => with_reducible assumption); (case k3 => with_reducible assumption); (try dsimp only))
  k_with "mine call ref" => (k_here; (with_reducible show wpAny _ _ (call (Value.ref 49) [Value.int _ _, Value.int _ _]) _ _ _); (with_unfolding_all refine' useI (ilshift_ok _ _ _ _ ?hy ?hy2 ?hx) ?k1 ?k2 ?k3 ?k4 ?k5 ?k6 ?k7 ?k8 ?k9 ?_); (case hy => omega); (case hy2 => omega); (case hx => exact shr_small (by assumption) (by assumption)); (case k1 => k_asm); (case k2 => k_asm); (case k3 => k_asm); (case k4 => k_asm); (case k5 => k_asm); (case k6 => first | exact rfl | assumption); (case k7 => trivial); (case k8 => ktr_room); (case k9 => ktr_units); intro t9 h9 tk9 F9 N9; (try dsimp only); (try k_fold))
  k_with "mine subscriptTail" => (k_here; (with_reducible show wpAny _ _ (subscriptTail _ _ (Value.ref _) (Value.int _ _)) _ _ _); (with_unfolding_all refine' item_ints ?k1 ?k2 ?k3 ?k4 ?k5 ?_ ?k6 ?k7); (case k1 => is_list); (case k2 => with_reducible assumption); (case k6 => with_unfolding_all rfl); (case k7 => (intro _; with_unfolding_all rfl)); (case k3 => exact (pl_before (by assumption) (by omega) (by omega) (by assumption)).1); (case k4 => exact (pl_before (by assumption) (by omega) (by omega) (by assumption)).2); (case k5 => omega); intro t9)
  k_with "mine subscriptTail" => (k_here; (with_reducible show wpAny _ _ (subscriptTail _ _ (Value.ref _) (Value.int _ _)) _ _ _); (with_unfolding_all refine' item_pair ?k1 ?k2 ?k3 ?k4 ?k5 ?_ ?k6 ?k7); (case k1 => is_list); (case k2 => with_reducible assumption); (case k6 => with_unfolding_all rfl); (case k7 => (intro _; with_unfolding_all rfl)); (case k3 => omega); (case k4 => omega); (case k5 => omega); intro r9 t9 u9 hT9)
  k_with "mine assign Tuple" => (k_here; (with_reducible show wpAny _ _ (assign (Expr.Tuple _ _ _) _ (Value.ref _)) _ _ _); k_dflt (refine' unpackN_ ?k1 ?k2 ?k3 ?k4 ?k5 ?k6 ?_; (case k1 => k_asm); (case k2 => k_asm); (case k3 => exact IsTup.keeps (by assumption) (Fr.keep (by assumption))); (case k4 => exact rfl); (case k5 => exact rfl); (case k6 => exact rfl); k_whole); intro h' F' N'; (try k_sweep))
  unfold Spec
  k_fill
  intro loose mean mg mb dp un gd cn cs a ccd cl outer A₀ base h₀ L m s Q E B F X T hk hpre hd hu hret
  obtain ⟨hlh, hlp, hpp⟩ := hpre
  have hpl := hpp.1
  k_with "exec For Name Call cons nil" => kpr_for
  k_with "pyIter ref" => (k_of "level" => k_state (fun pre e n => e = (placeF x ns qs pre).1 ∧ n = (placeF x ns qs pre).2) "east" "north")
  k_with "pyIter ref" => (k_of "quarter" => k_state_given ["x!", "y!"] (fun x₀ y₀ pre a b => a = (rot pre.length (x₀, y₀)).1 ∧ b = (rot pre.length (x₀, y₀)).2) "x" "y")
  k_with "state" => first | exact pl_start | exact ⟨rfl, rfl⟩ | exact rot_step (by assumption) (by assumption) | exact pl_step0 (by assumption) (by assumption) (by assumption) | exact pl_step1 (by assumption) (by assumption) (by assumption) (by assumption) (by assumption)
  (refine wpAny_call ?_; k_dflt (refine' code_base ?k1 ?k2 ?k3 ?k5 ?kA ?kF ?kK ?k6 ?k7 ?k8 ?k9 ?kB ?_ ?c2 ?c3 ?c4 ?c5; (case kA => exact rfl); (case kF => exact rfl); (case kK => assumption); (case k1 => k_asm); (case k2 => k_asm); (case k3 => k_asm); (case k5 => k_asm); (case k6 => k_is); (case k7 => k_is); (case k8 => ktr_room); (case k9 => exact BindsTo.of_eq rfl); (case c5 => decide); (case kB => exact locs rfl); (case c2 => exact rfl); (case c3 => exact rfl); (case c4 => exact rfl); k_whole; intro L' h' FG' F' N' B' X' T'; (try dsimp only); (try k_fold)))
  k_steps
  (rename News (Shared.heap _) _ _ _ => N7); (rename Fr (Shared.heap _) _ _ _ => F7)
  exact hret _ _ _ (Fr.keep F7) (pl_end hq (by assumption) (by assumption) (N7 _ (.head _)).1 (N7 _ (.head _)).2.2)
end Mine
end

section
open PySem PySem.W PyProof.Rows PySem.Calls PySem.Flt PySem.SeqAt
set_option Elab.async false
set_option maxRecDepth 100000
set_option maxHeartbeats 8000000
namespace Mine
theorem entry_is : entryFor table "proto.is" = some Builtin.«proto.is» := entryFor_of_fast (by kernel_rfl)
section
variable {prog : Program} {w : World} {A : Around} {E : Value → Shared → Prop} {s : Shared} {x y z : UInt64} {X Y : Int} {t u v t' u' v' : Tok} {a b : Addr}
theorem cmp_self (h : Float64.isNaN x = false) (h2 : Float64.isInf x = false) : (Float64.cmp x x == some Ordering.eq) = true := by
  unfold Float64.isNaN at h
  unfold Float64.isInf at h2
  unfold Float64.cmp
  cases hd : Float64.decode x with
  | nan => rw [hd] at h; cases h
  | inf n => rw [hd] at h2; cases h2
  | fin n m e =>
    dsimp only
    simp [Float64.align]
theorem isSame_float (h0 : (t == 0 || u == 0) = false) (hb : NoneBooked s.heap) {Q : Bool → Shared → Prop} (hq : ∀ b, Q b s) : wpAny (model prog w) A (isSame (.float x t) (.float y u)) Q E s := by
  show wpAny _ A (isSame.created (x == y && !Float64.isNaN x) t u) Q E s
  unfold isSame.created
  refine wpAny_ite ?_
  split
  · rename_i h; rw [h0] at h; exact absurd h Bool.false_ne_true
  refine wpAny_ite ?_
  split
  · exact wpAny_pure (hq _)
  refine wpAny_ite ?_
  split
  · exact wpAny_pure (hq _)
  refine wpAny_bind (wpAny_sharingNotTold_none hb ?_)
  first | rw [if_neg Bool.false_ne_true] | simp only [Bool.false_eq_true, if_false]
  refine wpAny_bind (wpAny_sharingNotTold_none hb ?_)
  first | rw [if_neg Bool.false_ne_true] | simp only [Bool.false_eq_true, if_false]
  exact wpAny_bind (wpAny_rule (wpAny_bind (wpAny_askSetting (wpAny_pure (hq _)))))
theorem eqAt_float (ht : t ≠ 0) (hu : u ≠ 0) (hb : NoneBooked s.heap) (hn : Float64.isNaN x = false) (hi : Float64.isInf x = false) : EqAt A s (.float x t) (.float x u) true := fun prog w E Q h => by
  have h0 : (t == 0 || u == 0) = false := by simp [ht, hu]
  unfold eqBool
  refine wpAny_holding ?_
  refine wpAny_ite_split (fun hab => ?_) (fun _ => ?_)
  · exact wpAny_bind (wpAny_rule (wpAny_pure h))
  · show wpAny _ A (isSame (.float x t) (.float x u) >>= fun r => _) Q E s
    refine wpAny_bind (isSame_float h0 hb fun r => ?_)
    cases r with
    | true => exact wpAny_pure h
    | false =>
      refine wpAny_bind (AutoFloatOps.eq_0 (Q := fun v s' => wpAny _ A (truthOfDropped v) Q E s') ?_)
      rw [cmp_self hn hi]
      exact wpAny_truthy_bool h
theorem eqAt_fi : EqAt A s (.float x t) (.int X u) (Float64.cmpInt x X == some Ordering.eq) := fun prog w E Q h => by
  unfold eqBool
  refine wpAny_holding ?_
  refine wpAny_ite_split (fun hab => ?_) (fun _ => ?_)
  · cases eq_of_beq hab
  · exact wpAny_bind (PyProof.Rows.eq_fi (Q := fun v s' => wpAny _ A (truthOfDropped v) Q E s') (wpAny_truthy_bool h))
theorem eq_ffii (ha : s.heap.IsTuple a #[.float x t, .float y u]) (hb : s.heap.IsTuple b #[.int X t', .int Y u']) (hu : A.units < cLine) {Q : Value → Shared → Prop} (h : Q (.bool (Float64.cmpInt x X == some Ordering.eq && Float64.cmpInt y Y == some Ordering.eq)) s) :
    wpAny (model prog w) A (compareOp .Eq (.ref a) (.ref b)) Q E s := by
  refine eq_tupleAt (e := fun j => if j = 0 then Float64.cmpInt x X == some Ordering.eq else Float64.cmpInt y Y == some Ordering.eq) ha hb hu (fun j h1 h2 => ?_) ?_
  · match j, h1, h2 with
    | 0, _, _ => exact eqAt_fi
    | 1, _, _ => exact eqAt_fi
  · simpa [List.range, List.range.loop] using h
theorem ne_ffii (ha : s.heap.IsTuple a #[.float x t, .float y u]) (hb : s.heap.IsTuple b #[.int X t', .int Y u']) (hu : A.units < cLine) {Q : Value → Shared → Prop} (h : Q (.bool (!(Float64.cmpInt x X == some Ordering.eq && Float64.cmpInt y Y == some Ordering.eq))) s) :
    wpAny (model prog w) A (compareOp .NotEq (.ref a) (.ref b)) Q E s := by
  refine RcNeAt.tuples (e := fun j => if j = 0 then Float64.cmpInt x X == some Ordering.eq else Float64.cmpInt y Y == some Ordering.eq) ha hb hu (fun j h1 h2 => ?_) prog w E Q ?_
  · match j, h1, h2 with
    | 0, _, _ => exact eqAt_fi
    | 1, _, _ => exact eqAt_fi
  · simpa [List.range, List.range.loop] using h
theorem ne_fff (ha : s.heap.IsTuple a #[.float x t, .float y u, .float z v]) (hb : s.heap.IsTuple b #[.float x t', .float y u', .float z v']) (hu : A.units < cLine) (hk : NoneBooked s.heap)
    (h1 : t ≠ 0) (h2 : u ≠ 0) (h3 : v ≠ 0) (h4 : t' ≠ 0) (h5 : u' ≠ 0) (h6 : v' ≠ 0) (fx : Float64.isFinite x = true) (fy : Float64.isFinite y = true) (fz : Float64.isFinite z = true) {Q : Value → Shared → Prop} (h : Q (.bool false) s) :
    wpAny (model prog w) A (compareOp .NotEq (.ref a) (.ref b)) Q E s := by
  have one : ∀ {q : UInt64}, Float64.isFinite q = true → Float64.isNaN q = false ∧ Float64.isInf q = false := fun {q} f => by
    rw [nan_or_inf_or_finite] at f
    simp at f
    exact f
  refine RcNeAt.tuples (e := fun _ => true) ha hb hu (fun j i1 i2 => ?_) prog w E Q ?_
  · match j, i1, i2 with
    | 0, _, _ => exact eqAt_float h1 h4 hk (one fx).1 (one fx).2
    | 1, _, _ => exact eqAt_float h2 h5 hk (one fy).1 (one fy).2
    | 2, _, _ => exact eqAt_float h3 h6 hk (one fz).1 (one fz).2
  · simpa [List.range, List.range.loop] using h
theorem ne_iiii {p q p' q' : Int} (ha : s.heap.IsTuple a #[.int p t, .int q u]) (hb : s.heap.IsTuple b #[.int p' t', .int q' u']) (hu : A.units < cLine) {Q : Value → Shared → Prop} (h : Q (.bool (!(p == p' && q == q'))) s) :
    wpAny (model prog w) A (compareOp .NotEq (.ref a) (.ref b)) Q E s := by
  refine RcNeAt.tuples (e := fun j => if j = 0 then p == p' else q == q') ha hb hu (fun j h1 h2 => ?_) prog w E Q ?_
  · match j, h1, h2 with
    | 0, _, _ => exact EqAt.int_int _ _ _ _
    | 1, _, _ => exact EqAt.int_int _ _ _ _
  · simpa [List.range, List.range.loop] using h
theorem isSame_ffii (hne : a ≠ b) (ha : s.heap.get? a = some (tupO [.float x t, .float y u])) (hb : s.heap.get? b = some (tupO [.int X t', .int Y u'])) {Q : Bool → Shared → Prop} (h : Q false s) :
    wpAny (model prog w) A (isSame (.ref a) (.ref b)) Q E s := by
  unfold isSame
  refine wpAny_ite ?_
  rw [if_neg (by simp [hne])]
  refine wpAny_bind (wpAny_load ha ?_)
  refine wpAny_bind (wpAny_load hb ?_)
  show wpAny _ A (if (#[Value.float x t, Value.float y u].isEmpty && #[Value.int X t', Value.int Y u'].isEmpty) = true then isSame.theEmptyTuple else sameTuple a b #[Value.float x t, Value.float y u] #[Value.int X t', Value.int Y u']) Q E s
  rw [if_neg (by simp)]
  unfold sameTuple
  refine wpAny_bind (wpAny_askSetting ?_)
  refine wpAny_ite_split (fun _ => wpAny_pure h) (fun _ => ?_)
  refine wpAny_ite_split (fun _ => wpAny_pure h) (fun _ => ?_)
  have items : ∀ {Q' : Bool → Shared → Prop}, Q' false s → wpAny (model prog w) A (sameItems #[Value.float x t, Value.float y u] #[Value.int X t', Value.int Y u']) Q' E s := by
    intro Q' hq
    have one : ∀ {Q'' : Value → Shared → Prop}, Q'' (.bool false) s → wpAny (model prog w) A (runValue (.builtin "proto.is" ⟨[Value.float x t, Value.int X t'], []⟩)) Q'' E s := by
      intro Q'' h''
      refine runValue_entry entry_is ?_
      show wpAny _ _ (isSame (Value.float x t) (Value.int X t') >>= fun r => ret (.bool r)) _ E s
      refine wpAny_bind (wpAny_pure (a := false) ?_)
      exact wpAny_pure ⟨_, rfl, h''⟩
    unfold sameItems
    refine wpAny_ite ?_
    rw [if_neg (by simp)]
    simp only [List.zip_cons_cons, List.forIn_cons]
    refine wpAny_bind (wpAny_bind (wpAny_bind (one ?_)))
    refine wpAny_pure ?_
    refine wpAny_pure ?_
    exact wpAny_pure hq
  refine wpAny_bind (wpAny_holding (items ?_))
  rw [if_neg Bool.false_ne_true]
  exact wpAny_pure h
theorem is_ffii (hne : a ≠ b) (ha : s.heap.get? a = some (tupO [.float x t, .float y u])) (hb : s.heap.get? b = some (tupO [.int X t', .int Y u'])) {Q : Value → Shared → Prop} (h : Q (.bool false) s) :
    wpAny (model prog w) A (compareOp .Is (.ref a) (.ref b)) Q E s := by
  show wpAny _ A (isSame (.ref a) (.ref b) >>= fun r => pure (.bool r)) Q E s
  exact wpAny_bind (isSame_ffii hne ha hb (wpAny_pure h))
end
end Mine
end

section
open PySem PySem.W PyProof.Rows PySem.Calls PySem.Flt
set_option Elab.async false
set_option maxRecDepth 100000
set_option maxHeartbeats 8000000
namespace Mine
theorem pad_Idx : True := by
  w_top off
  k_with_none
  trivial

theorem use_enum {prog : Program} {w : World} {A : Around} {E : Value → Shared → Prop} {s : Shared} {h₀ : Heap} {L : Addr} {m : Env0} {news : Led} {l : Addr} {items : Array Value} {Q : Value → Shared → Prop} (hL : s.heap.IsList l items) (F : Fr h₀ L s.heap m) (N : News h₀ L s.heap news)
    (h : ∀ h', Fr h₀ L h' m → News h₀ L h' news → IsEnum h' (s.heap.objs.size + 1) s.heap.objs.size 0 .none → h'.IsListIter s.heap.objs.size l 0 → h₀.get? (s.heap.objs.size + 1) = none → h₀.get? s.heap.objs.size = none → Q (.ref (s.heap.objs.size + 1)) { s with heap := h' }) :
    wpAny (model prog w) A (call (.type "enumerate") [.ref l]) Q E s :=
  have above : ∀ a, s.heap.objs.size ≤ a → h₀.get? a = none := fun a ha => by
    cases q : h₀.get? a with
    | none => rfl
    | some o => exact absurd (Heap.lt_size (F.keep _ _ q)) (Nat.not_lt.mpr ha)
  call_enumerate_list hL fun h' he hit _ hk => h h' (F.grownK hk) (N.grown hk) he hit (above _ (Nat.le_succ _)) (above _ (Nat.le_refl _))
theorem tup_at {h : Heap} {a : Addr} {vs : List Value} (e : h.get? a = some (tupO vs)) : h.IsTuple a vs.toArray := ⟨_, e, rfl, 0, rfl⟩
local macro_rules | `(tactic| walk_at "call type:enumerate") => `(tactic| k_extra "mine call type:enumerate")
local macro_rules | `(tactic| walk_at "compareOp Is ref ref") => `(tactic| k_extra "mine compareOp Is ref ref")
local macro_rules | `(tactic| walk_at "compareOp Eq ref ref") => `(tactic| k_extra "mine compareOp Eq ref ref")
def EnumEnd (s : Shared) (h₀ : Heap) (L : Addr) (k i : Nat) (e it : Addr) (eo io : Obj) (agree : Env0 → Prop) (s₃ : Shared) : Prop :=
  i < k ∧ ∃ h' tk' m'', s₃ = { s with heap := h', toks := tk' } ∧ Fr h₀ L h' m'' ∧ agree m'' ∧ h'.get? e = some eo ∧ h'.get? it = some io
theorem enum_for {prog : Program} {w : World} {A : Around} {R : Result → Shared → Prop} {s : Shared} {elts : List Expr} {x1 : Nat} {pt : Pos} {body orelse : List Stmt} {env : Env} {e it l : Addr} {items : Array Value} {m : Env0} {h₀ : Heap} (k : Nat) (agree : Env0 → Prop)
    (hk : k < items.size) (hei : e ≠ it) (he : IsEnum s.heap e it 0 .none) (hit : s.heap.IsListIter it l 0) (hl : h₀.IsList l items) (hne : h₀.get? e = none) (hni : h₀.get? it = none) (F : Fr h₀ env.locals s.heap m) (ha : agree m)
    (turn : ∀ (i : Nat) (x : Value) (T : Addr) (ti : Tok) (h : Heap) (tk : Nat) (m' : Env0) (eo io : Obj), i ≤ k → items[i]? = some x → agree m' → Fr h₀ env.locals h m' → News h₀ env.locals h [(T, tupO [.int i ti, x]), (e, eo), (it, io)] →
      wpAny (model prog w) A (assign (.Tuple elts x1 pt) env (.ref T)) (fun _ s₂ => wpAny (model prog w) A (execs body env) (fun f s₃ => match f with
          | .ret v => R (.ok (.ret v)) s₃
          | .brk => R (.ok .next) s₃
          | _ => EnumEnd s h₀ env.locals k i e it eo io agree s₃)
        (notedBy (model prog w) A env fun e s' => R (.error e) s') s₂) (notedBy (model prog w) A env fun e s' => R (.error e) s') { s with heap := h, toks := tk }) :
    codeAny (model prog w) A (.forLoop (.Tuple elts x1 pt) (.ref e) body orelse env) R s := by
  refine codeAny_forLoop_any (fun n s' => ∃ h' tk m' i old, s' = { s with heap := h', toks := tk } ∧ n = k - i ∧ i ≤ k ∧ IsEnum h' e it (i : Nat) old ∧ h'.IsListIter it l i ∧ Fr h₀ env.locals h' m' ∧ agree m') ?_ k ⟨s.heap, s.toks, m, 0, .none, rfl, rfl, Nat.zero_le _, he, hit, F, ha⟩
  rintro n s' ⟨h', tk, m', i, old, rfl, rfl, hik, he', hit', F', ha'⟩
  have hx : items[i]? = some items[i] := Array.getElem?_eq_getElem (by omega)
  refine wpAny_pyNext_enum_item he' hit' (hl.at fun o e => F'.keep l o e) hx hei fun h₂ ho hit2 hT hsz hk2 => ?_
  dsimp only
  refine wpAny_letOwnedTupleGo_enum ho fun h₃ he₃ hs₃ => ?_
  obtain ⟨oL, es, ep, hL, hLd, hLr⟩ := id F'.ns
  have hLe : env.locals ≠ e := fun q => by
    rw [q] at hL; have := hL.symm.trans he'; cases this; cases hLd
  have hLi : env.locals ≠ it := fun q => by
    obtain ⟨o, h1, _, h3⟩ := hit'
    rw [q] at hL; have := hL.symm.trans h1; cases this; rw [hLd] at h3; cases h3
  have hee : e < h'.objs.size := Heap.lt_size he'
  have hii : it < h'.objs.size := by obtain ⟨o, h1, _⟩ := hit'; exact Heap.lt_size h1
  have hLL : env.locals < h'.objs.size := Heap.lt_size hL
  have kp : ∀ b o, b ≠ e → b ≠ it → h'.get? b = some o → h₃.get? b = some o := fun b o h1 h2 h3 => (hs₃.2 b h1).trans (hk2 b o h1 h2 h3)
  have F₃ : Fr h₀ env.locals h₃ m' := ⟨F'.ns.at' fun o q => kp _ o hLe hLi q, fun b o q => kp b o (fun z => by rw [z, hne] at q; cases q) (fun z => by rw [z, hni] at q; cases q) (F'.keep b o q), F'.above⟩
  have hit3 : h₃.IsListIter it l (i + 1) := hit2.at fun o q => (hs₃.2 it hei.symm).trans q
  obtain ⟨io, hio, hio2⟩ := id hit3
  have hTT : h₃.get? h'.objs.size = some (tupO [.int i tk, items[i]]) := (hs₃.2 _ (Nat.ne_of_gt hee)).trans hT
  have hT0 : h₀.get? h'.objs.size = none := by
    cases q : h₀.get? h'.objs.size with
    | none => rfl
    | some o => exact absurd (Heap.lt_size (F'.keep _ _ q)) (Nat.lt_irrefl _)
  refine wpAny_mono (turn i items[i] h'.objs.size tk h₃ (tk + 1) m' { cls := .type "enumerate", dict := none, data := .fields #[.none, .bool false, .ref it, rawInt ((i : Int) + 1), .none, items[i]], slots := #[] } io hik hx ha' F₃ ?_) (fun _ s₂ q => wpAny_mono q (fun f s₃ p => ?_) fun _ _ z => z) fun _ _ z => z
  · intro p hp
    rcases List.mem_cons.mp hp with rfl | hp
    · exact ⟨hTT, Nat.ne_of_gt hLL, hT0⟩
    · rcases List.mem_cons.mp hp with rfl | hp
      · exact ⟨he₃, hLe.symm, hne⟩
      · rcases List.mem_cons.mp hp with rfl | hp
        · exact ⟨hio, hLi.symm, hni⟩
        · cases hp
  · cases f with
    | ret v => exact p
    | brk => exact p
    | next =>
      obtain ⟨hlt, h4, tk4, m4, rfl, F4, a4, e4, i4⟩ := p
      refine ⟨k - (i + 1), by omega, h4, tk4, m4, i + 1, items[i], rfl, rfl, by omega, ?_, ⟨io, i4, hio2⟩, F4, a4⟩
      rw [Int.natCast_succ]; exact e4
    | cont =>
      obtain ⟨hlt, h4, tk4, m4, rfl, F4, a4, e4, i4⟩ := p
      refine ⟨k - (i + 1), by omega, h4, tk4, m4, i + 1, items[i], rfl, rfl, by omega, ?_, ⟨io, i4, hio2⟩, F4, a4⟩
      rw [Int.natCast_succ]; exact e4

/-- a list of pairs of floats -/
def FPairsAt (h : Heap) (ps : List Value) (qs : List (UInt64 × UInt64)) : Prop := ps.length = qs.length ∧ ∀ (i : Nat) (q : UInt64 × UInt64), qs[i]? = some q → ∃ (r : Addr) (t1 t2 : Tok), ps[i]? = some (Value.ref r) ∧ h.get? r = some (tupO [Value.float q.1 t1, Value.float q.2 t2])
def hits (q : UInt64 × UInt64) (X Y : Int) : Bool := Float64.cmpInt q.1 X == some Ordering.eq && Float64.cmpInt q.2 Y == some Ordering.eq
theorem index_ok {w : World} (lp rb : Addr) (ps : List Value) (qs : List (UInt64 × UInt64)) (X Y : Int) (t u : Tok) (k : Nat) (q : UInt64 × UInt64) (hk : qs[k]? = some q) (hq : hits q X Y = true) (hn : ∀ i q', i < k → qs[i]? = some q' → hits q' X Y = false) :
    Spec w 21 [.ref lp, .ref rb] 2 (fun h => h.IsList lp ps.toArray ∧ FPairsAt h ps qs ∧ h.get? rb = some (tupO [.int X t, .int Y u])) (outI (k : Int)) := by
  k_with_none
  k_with "mine call type:enumerate" => (k_here; (with_reducible show wpAny _ _ (call (Value.type "enumerate") [Value.ref _]) _ _ _); refine' use_enum ?k1 ?k2 ?k3 ?_; (case k1 => is_list); (case k2 => k_asm); (case k3 => k_asm); intro h9 F' N' he9 hit9 hz9 hz8)
  k_with "mine compareOp Is ref ref" => (k_here; (with_reducible show wpAny _ _ (compareOp CmpOp.Is (Value.ref _) (Value.ref _)) _ _ _); refine' is_ffii ?k1 ?k2 ?k3 ?_; (case k1 => assumption); (case k2 => exact Fr.keep (by assumption) _ _ (by assumption)); (case k3 => exact Fr.keep (by assumption) _ _ (by assumption)))
  k_with "mine compareOp Eq ref ref" => (k_here; (with_reducible show wpAny _ _ (compareOp CmpOp.Eq (Value.ref _) (Value.ref _)) _ _ _); refine' eq_ffii ?k1 ?k2 ?k3 ?_; (case k1 => exact tup_at (Fr.keep (by assumption) _ _ (by assumption))); (case k2 => exact tup_at (Fr.keep (by assumption) _ _ (by assumption))); (case k3 => ktr_units))
  unfold Spec
  k_fill
  intro loose mean mg mb dp un gd cn cs a ccd cl outer A₀ base h₀ L m s Q E B F X T hk2 hpre hd hu hret
  obtain ⟨hlp, hps, hrb⟩ := hpre
  (refine wpAny_call ?_; k_dflt (refine' code_base ?k1 ?k2 ?k3 ?k5 ?kA ?kF ?kK ?k6 ?k7 ?k8 ?k9 ?kB ?_ ?c2 ?c3 ?c4 ?c5; (case kA => exact rfl); (case kF => exact rfl); (case kK => assumption); (case k1 => k_asm); (case k2 => k_asm); (case k3 => k_asm); (case k5 => k_asm); (case k6 => k_is); (case k7 => k_is); (case k8 => ktr_room); (case k9 => exact BindsTo.of_eq rfl); (case c5 => decide); (case kB => exact locs rfl); (case c2 => exact rfl); (case c3 => exact rfl); (case c4 => exact rfl); k_whole; intro L' h' FG' F' N' B' X' T'; (try dsimp only); (try k_fold)))
  k_steps
  refine wpAny_For ?_ (by intro _; with_unfolding_all rfl)
  k_steps
  refine wpAny_pyIter_enum (by assumption) ?_
  (rename Fr (Shared.heap _) _ _ _ => F7)
  (rename IsEnum _ _ _ _ _ => he7)
  (rename Heap.IsListIter _ _ _ _ => hi7)
  refine enum_for k (fun m' => m' (Str.ofString "b") = some (Value.ref rb)) (by rw [List.size_toArray, hps.1]; exact (List.getElem?_eq_some_iff.mp hk).1) (Nat.succ_ne_self _) he7 hi7 hlp (by assumption) (by assumption) F7 rfl ?_
  intro i x T ti h tk m' eo io hik hx hag F8 N8
  have hlt : i < qs.length := by
    have := (List.getElem?_eq_some_iff.mp hk).1; omega
  obtain ⟨r, t1, t2, e1, e2⟩ := hps.2 i qs[i] (List.getElem?_eq_getElem hlt)
  have hxr : x = .ref r := by
    have : ps[i]? = some x := by simpa using hx
    rw [e1] at this; exact (Option.some.inj this).symm
  subst hxr
  have hrne : r ≠ rb := fun z => by
    rw [z, hrb] at e2
    have e3 := congrArg Obj.data (Option.some.inj e2)
    simp at e3
  have hm' : m' = fun y => if y = Str.ofString "b" then some (Value.ref rb) else m' y := by
    funext y
    by_cases hy : y = Str.ofString "b"
    · rw [if_pos hy, hy]; exact hag
    · rw [if_neg hy]
  rw [hm'] at F8
  clear hx
  k_steps
  · (rename Fr (Shared.heap _) _ _ _ => F9)
    have hik2 : i = k := by
      rcases Nat.lt_or_ge i k with hl | hl
      · have h1 := hn i qs[i] hl (List.getElem?_eq_getElem hlt)
        rename_i hh _ _ _ _
        exact absurd (h1.symm.trans hh) Bool.false_ne_true
      · omega
    subst hik2
    exact hret _ _ _ (Fr.keep F9) (outI_of rfl)
  · (rename Fr (Shared.heap _) _ _ _ => F9)
    (rename News (Shared.heap _) _ _ _ => N9)
    have hik2 : i < k := by
      rcases Nat.lt_or_ge i k with hl | hl
      · exact hl
      · have e3 : i = k := by omega
        subst e3
        rw [List.getElem?_eq_getElem hlt] at hk
        cases hk
        rename_i hh
        exact absurd (hq.symm.trans hh) (by simp)
    refine ⟨hik2, _, _, _, rfl, F9, ?_, (N9 _ (.tail _ (.head _))).1, (N9 _ (.tail _ (.tail _ (.head _)))).1⟩
    rfl
end Mine
end

section
open PySem PySem.W PyProof.Rows PySem.Calls PySem.Flt PySem.SeqAt
set_option Elab.async false
set_option maxRecDepth 100000
set_option maxHeartbeats 8000000
namespace Mine
section
variable {prog : Program} {w : World} {A : Around} {E : Value → Shared → Prop} {s : Shared} {h₀ : Heap} {L C D : Addr} {m : Env0} {news : Led} {vs : List Value} {od : Obj}
theorem merge_empty {d : Addr} {o1 o2 : Obj} {e1 e2 : Nat} (h1 : s.heap.get? d = some o1) (hd1 : o1.data = .dict #[] e1) (h2 : s.heap.get? D = some o2) (hc2 : o2.cls = .type "dict") (hd2 : o2.data = .dict #[] e2) (hs : (D == sysModules) = false) {Q : Unit → Shared → Prop} (h : Q () s) :
    wpAny (model prog w) A (mergeMapping d (.ref D) true) Q E s := by
  have hT : s.TypeIs (.ref D) "dict" := ⟨o2, h2, hc2⟩
  unfold mergeMapping
  refine wpAny_bind (wpAny_isInstance (T := "dict") (U := "dict") (b := true) hT (by rw [isSubtype_type]; kernel_rfl) ?_)
  dsimp only
  refine wpAny_ite ?_
  rw [if_pos rfl]
  refine wpAny_bind (wpAny_specialOf hT F.slot_dict_iter.lookup ?_)
  refine wpAny_bind (wpAny_pure ?_)
  have e : (some (Value.builtin "dict.__iter__") == some (Value.builtin "dict.__iter__")) = true := by decide
  rw [e]
  dsimp only
  refine wpAny_ite ?_
  rw [if_neg (by rw [hs]; exact Bool.false_ne_true)]
  refine wpAny_bind (wpAny_dictEntries h1 hd1 ?_)
  refine wpAny_ite ?_
  rw [if_pos (by rfl)]
  refine wpAny_bind (wpAny_dictEntries h2 hd2 ?_)
  refine wpAny_bind (wpAny_of_eq (a := PUnit.unit) rfl ?_)
  refine wpAny_bind (wpAny_dictEntries h2 hd2 ?_)
  refine wpAny_bind (wpAny_dictEpoch h2 hd2 ?_)
  refine wpAny_bind (wpAny_of_eq (a := PUnit.unit) rfl ?_)
  exact wpAny_pure h
theorem merged_one {f : Value} {y : Sem Value} {o2 : Obj} {e2 : Nat} (h2 : s.heap.get? D = some o2) (hc2 : o2.cls = .type "dict") (hd2 : o2.data = .dict #[] e2) (hs : (D == sysModules) = false) {Q : Addr → Shared → Prop}
    (hy : ∀ (Q' : Value → Shared → Prop), Q' (.ref D) { s with heap := s.heap.push { cls := .type "dict", data := .dict #[] } } → wpAny (model prog w) A y Q' E { s with heap := s.heap.push { cls := .type "dict", data := .dict #[] } })
    (h : Q s.heap.objs.size { s with heap := s.heap.push { cls := .type "dict", data := .dict #[] } }) : wpAny (model prog w) A (mergedKeywords f [(none, y)]) Q E s := by
  unfold mergedKeywords
  refine wpAny_bind (wpAny_alloc ?_)
  refine wpAny_bind (wpAny_holding ?_)
  dsimp only
  rw [List.forIn_cons]
  have h2' : (s.heap.push { cls := .type "dict", data := .dict #[] }).get? D = some o2 := Heap.get?_push_of_some _ h2
  have h1' : (s.heap.push { cls := .type "dict", data := .dict #[] }).get? s.heap.objs.size = some { cls := .type "dict", data := .dict #[] } := Heap.get?_push_size _ rfl
  refine wpAny_bind (wpAny_bind (wpAny_bind ?_))
  dsimp only
  refine wpAny_of_eq (a := ()) rfl ?_
  refine wpAny_bind (hy _ ?_)
  refine wpAny_bind (wpAny_onRaise (wpAny_holding (wpAny_tryCatch (wpAny_onRaise (merge_empty h1' rfl h2' hc2 hd2 hs ?_)))))
  refine wpAny_pure ?_
  dsimp only
  refine wpAny_of_eq (a := []) rfl ?_
  refine wpAny_of_eq (a := ()) rfl ?_
  exact wpAny_pure h
theorem keywords_none {f : Value} {d : Addr} {o1 : Obj} {e1 : Nat} (h1 : s.heap.get? d = some o1) (hd1 : o1.data = .dict #[] e1) {Q : List (Str × Value) → Shared → Prop} (h : Q [] s) : wpAny (model prog w) A (keywordsIn f d) Q E s := by
  unfold keywordsIn
  refine wpAny_bind (wpAny_dictEntries h1 hd1 ?_)
  refine wpAny_bind (wpAny_of_eq (a := []) rfl ?_)
  exact wpAny_pure h
theorem evalArgs_sk {f : Value} {x y : Sem Value} (F : Fr h₀ L s.heap m) (N : News h₀ L s.heap news) (hC : (C, tupO vs) ∈ news) (hD : (D, od) ∈ news) {e2 : Nat} (hc2 : od.cls = .type "dict") (hd2 : od.data = .dict #[] e2) (hs : (D == sysModules) = false) (hz : vs.length ≤ 1000) {Q : Args → Shared → Prop}
    (hx : ∀ (Q' : Value → Shared → Prop), Q' (.ref C) s → wpAny (model prog w) A x Q' E s)
    (hy : ∀ h' (Q' : Value → Shared → Prop), Fr h₀ L h' m → Q' (.ref D) { s with heap := h' } → wpAny (model prog w) A y Q' E { s with heap := h' })
    (h : ∀ h', Fr h₀ L h' m → News h₀ L h' news → Q ⟨vs, []⟩ { s with heap := h' }) :
    wpAny (model prog w) A (evalArgs f true [(true, x)] [(none, y)]) Q E s := by
  unfold evalArgs
  dsimp only
  refine wpAny_bind (hx _ ?_)
  refine wpAny_bind (wpAny_pure ?_)
  dsimp only
  refine wpAny_holding ?_
  refine wpAny_ite ?_
  rw [if_neg (by simp)]
  have F1 := F.push ({ cls := .type "dict", data := .dict #[] } : Obj)
  have N1 := News.push F N ({ cls := .type "dict", data := .dict #[] } : Obj)
  refine wpAny_bind (merged_one (N.get hD) hc2 hd2 hs (fun Q' q => hy _ Q' F1 q) ?_)
  have hst := star_seq (prog := prog) (w := w) (A := A) (E := E) (Q := fun ws s₃ => ws = vs ∧ ∃ h', s₃ = { s with heap := h' } ∧ Fr h₀ L h' m ∧ News h₀ L h' ((s.heap.objs.size, ({ cls := .type "dict", data := .dict #[] } : Obj)) :: news)) F1 N1 (s := { s with heap := s.heap.push { cls := .type "dict", data := .dict #[] } }) (List.mem_cons_of_mem _ hC) rfl rfl (.inr rfl) rfl (by rw [List.size_toArray]; unfold sizeLine; omega) (fun h' F' N' => ⟨by simp, h', rfl, F', N'⟩)
  refine wpAny_bind (wpAny_bind (wpAny_mono hst (fun b s₂ hb => ?_) fun _ _ x => x))
  obtain ⟨rfl, hb⟩ := hb
  refine wpAny_ite ?_
  rw [if_neg Bool.false_ne_true]
  refine wpAny_holding (wpAny_mono hb (fun ws s₃ hw => ?_) fun _ _ x => x)
  obtain ⟨rfl, h', rfl, F', N'⟩ := hw
  refine wpAny_bind (wpAny_holding (keywords_none (N' _ (.head _)).1 rfl ?_))
  exact wpAny_pure (h h' F' fun p hp => N' p (List.mem_cons_of_mem _ hp))
theorem callWith_sk {K : Frag} {f : Value} {first : List Value} {pos : Pos} {x y : Sem Value} (X : K.In h₀) (hk : keepIn K f = true) (F : Fr h₀ L s.heap m) (N : News h₀ L s.heap news) (hC : (C, tupO vs) ∈ news) (hD : (D, od) ∈ news) (hod : od.IsDictOf (PySem.strKind prog w) []) (hs : (D == sysModules) = false) (hz : vs.length ≤ 1000) {Q : Value → Shared → Prop}
    (hx : ∀ (Q' : Value → Shared → Prop), Q' (.ref C) s → wpAny (model prog w) A x Q' E s)
    (hy : ∀ h' (Q' : Value → Shared → Prop), Fr h₀ L h' m → Q' (.ref D) { s with heap := h' } → wpAny (model prog w) A y Q' E { s with heap := h' })
    (h : ∀ h', Fr h₀ L h' m → News h₀ L h' news → wpAny (model prog w) A (call f (first ++ vs) []) Q E { s with heap := h' }) :
    wpAny (model prog w) A (callWith pos f first [(true, x)] [(none, y)]) Q E s := by
  obtain ⟨es, ep, hex, hd2, hkeys, hpairs, _⟩ := hod
  have hes : es = #[] := by
    cases es with
    | mk l =>
      cases l with
      | nil => rfl
      | cons a r => cases hpairs
  subst hes
  unfold callWith
  refine wpAny_bind (wpAny_holding (evalArgs_sk F N hC hD hex.1 hd2 hs hz hx hy fun h' F' N' => ?_))
  refine wpAny_bind (wpAny_standAt ?_)
  obtain ⟨k, hk', L'⟩ := keeps_K (M := model prog w) hk h' (X.keeps F'.keep)
  have tail : ∀ {t : Sem Value}, wpAny (model prog w) A t Q E { s with heap := h' } → wpAny (model prog w) A (t >>= fun r => holding [r] point >>= fun _ => pure r) Q E { s with heap := h' } :=
    fun ht => wpAny_bind (wpAny_mono ht (fun r s₂ hr => wpAny_bind (wpAny_holding (wpAny_point (wpAny_pure hr)))) fun _ _ x => x)
  have marked (mk : Value) : wpAny (model prog w) A (callMarked mk f (first ++ vs) []) Q E { s with heap := h' } := by unfold callMarked; exact Calls.wpAny_keep (h h' F' N')
  refine wpAny_bind (L'.here ?_)
  rcases hk' with rfl | rfl | rfl <;> first | exact tail (marked _) | exact tail (wpAny_operating (h h' F' N'))
end
end Mine
end

section
open PySem PySem.W PyProof.Rows PySem.Calls PySem.Flt
set_option Elab.async false
set_option maxRecDepth 100000
set_option maxHeartbeats 8000000
namespace Mine
theorem pad_Cal : True := by
  w_top off
  k_with_none
  trivial
local macro_rules | `(tactic| walk_at "call ref") => `(tactic| k_extra "mine call ref")

theorem news_drop2 {h₀ h : Heap} {L : Addr} {x y z : Addr × Obj} {news : Led} (N : News h₀ L h (x :: y :: z :: news)) : News h₀ L h (x :: news) := fun p hp => N p (by rcases List.mem_cons.mp hp with rfl | hp; exact .head _; exact .tail _ (.tail _ (.tail _ hp)))
theorem ne_drop2 {x y : Addr × Obj} {news : Led} {r : Addr} (H : ∀ p ∈ x :: y :: news, p.1 ≠ r) : ∀ p ∈ news, p.1 ≠ r := fun p hp => H p (.tail _ (.tail _ hp))
theorem call_ok {w : World} {loose : List Str} {mean : ExcName → Option Value} {mg mb : Env0} (hb sb vb : UInt64) (t1 t2 t3 : Tok) (x y z : UInt64) (z1 : t1 ≠ 0) (z2 : t2 ≠ 0) (z3 : t3 ≠ 0) (hout : hsvP hb sb vb = some (x, y, z)) (dp un : Nat) (gd : Option (List Code)) (cn : Str) (cs : Scope) (a : Addr) (ccd : Value) (cl : List (Str × Addr)) (outer : List Env) (A₀ : Around) (base h₀ : Heap) (L : Addr) (m : Env0) (news : Led) (s : Shared) (Q E : Value → Shared → Prop)
    (B : Below A₀ base outer h₀) (F : Fr h₀ L s.heap m) (X : (hd.heap_39 w.params).In h₀) (N : News h₀ L s.heap news) (T : Top hd.view_39 loose mean mg mb h₀) (hk : cs.kind = .function) (hd : dp + 3 < recursionLimit) (hu : un + 24 < cLine)
    (hret : ∀ r h' tk' t1 t2 t3, t1 ≠ 0 → t2 ≠ 0 → t3 ≠ 0 → Fr h₀ L h' m → News h₀ L h' ((r, tupO [.float x t1, .float y t2, .float z t3]) :: news) → (∀ p ∈ news, p.1 ≠ r) → Q (.ref r) { s with heap := h', toks := tk' }) :
    wpAny (model PySem.Challenge.rw_wu0029_01.row.prog w) (ktrTop dp un gd cn cs L a ccd cl outer) (call (.ref 28) [.ref 84, .float hb t1, .float sb t2, .float vb t3]) Q E s := by
  k_with_none
  k_with "mine call ref" => (k_here; (with_reducible show wpAny _ _ (call (Value.ref 84) [Value.float _ _, Value.float _ _, Value.float _ _] _) _ _ _); (with_unfolding_all refine' useF3 (hsv_ok _ _ _ _ _ _ _ _ _ ?z1 ?z2 ?z3 ?ho) ?k1 ?k2 ?k3 ?k4 ?k5 ?k6 ?k7 ?k8 ?k9 ?_); (case ho => assumption); (case z1 => assumption); (case z2 => assumption); (case z3 => assumption); (case k1 => k_asm); (case k2 => k_asm); (case k3 => k_asm); (case k4 => k_asm); (case k5 => k_asm); (case k6 => first | exact rfl | assumption); (case k7 => trivial); (case k8 => ktr_room); (case k9 => ktr_units); intro r9 h9 tk9 t9 u9 v9 n9 n8 n7 F9 N9 ne9; (try dsimp only); (try k_fold))
  have hmark : (Mine.hd.heap_39 w.params).In h₀ ∧ PySem.Challenge.rw_wu0029_01.row.prog = PySem.Challenge.rw_wu0029_01.row.prog := ⟨X, rfl⟩
  revert hmark
  k_fill
  intro _
  (refine wpAny_call ?_; k_dflt (refine' kp_both ?k1 ?k2 ?k3 ?k4 ?k5 ?kA ?kF ?kK ?k6 ?k7 ?k8 ?kV ?kX ?kQ ?kM ?kN ?kD ?kR ?kP ?kS ?kT ?kB ?_ ?c2 ?c3 ?c4 ?c5; (case kA => exact rfl); (case kF => exact rfl); (case kK => assumption); (case k1 => k_asm); (case k2 => k_asm); (case k3 => k_asm); (case k4 => k_asm); (case k5 => k_asm); (case k6 => k_is); (case k7 => k_is); (case k8 => ktr_room); (case kV => kp_lit); (case kX => kp_lit); (case kQ => exact rfl); (case kM => exact rfl); (case kN => exact rfl); (case kD => kp_flats); (case kR => exact rfl); (case kP => exact rfl); (case kS => exact fun _ => rfl); (case kT => exact fun _ _ => rfl); (case kB => exact fun _ _ => locs rfl); (case c5 => decide); (case c2 => exact rfl); (case c3 => exact rfl); (case c4 => exact rfl); k_whole; intro C' D' o' g' L' h' tk' l1 l2 lo' hs' fs' FG' F' N' B' X' T'; (try k_lt l1); (try k_lt2 l2); (try dsimp only); (try k_fold)))
  k_steps
  (rename News _ _ _ _ => N7); (rename Fr _ _ _ _ => F7); (rename Frag.In _ _ => X7)
  refine callWith_sk (x := _) (y := _) X7 (by k_is) F7 N7 (.tail _ (.head _)) (.head _) (by assumption) (by assumption) (by simp) ?hx ?hy ?_
  case hx => (intro Q' q; refine wpAny_bind (nameX_L F7 rfl ?_); exact wpAny_bind (wpAny_standAt (wpAny_pure q)))
  case hy => (intro h' Q' F8 q; refine wpAny_bind (nameX_L F8 rfl ?_); exact wpAny_bind (wpAny_standAt (wpAny_pure q)))
  intro h8 F8 N8
  (try dsimp only [List.nil_append])
  k_steps
  (rename News _ _ _ _ => N5); (rename Fr _ _ _ _ => F5)
  refine hret _ _ _ _ _ _ ?_ ?_ ?_ F5 (news_drop2 N5) ?_ <;> first | assumption | (apply ne_drop2; assumption)
end Mine
end

section
open PySem PySem.W PyProof.Rows PySem.Calls PySem.Flt
set_option Elab.async false
set_option maxRecDepth 100000
set_option maxHeartbeats 2000000
namespace Mine
theorem pad_Opn : True := by
  w_top off
  k_with_none
  trivial
local macro_rules | `(tactic| walk_at "eval ListComp") => `(tactic| k_extra "mine eval ListComp")
local macro_rules | `(tactic| walk_at "CompSrc") => `(tactic| k_extra "mine CompSrc")
def openedF (ns : List Int) : List Int := ns.foldl (fun row k => row ++ [k] ++ row.reverse.map (fun k' => -k')) []
noncomputable def openedScope : Scope := match (recsOf hd.view_39).reverse with | _ :: _ :: _ :: _ :: d :: _ => d.scope | _ => { kind := .function, names := [], isGenerator := false, isCoroutine := false }
noncomputable def openedBody : List Stmt := match (recsOf hd.view_39).reverse with | _ :: _ :: _ :: _ :: d :: _ => d.body | _ => []
noncomputable def openedLoop : List Stmt := match (openedBody.drop 1).head? with | some (.For _ _ b _ _) => b | _ => []
noncomputable abbrev openedEnv (L : Addr) : Env := envOf (Str.ofString "_law_opened") openedScope L 121 (.ref 120)
theorem opened_turn {w : World} {loose : List Str} {mean : ExcName → Option Value} {mg mb : Env0} (dp un : Nat) (gd : Option (List Code)) (cn : Str) (cs : Scope) (La a : Addr) (ccd : Value) (cl : List (Str × Addr)) (outer : List Env) (base h₀ : Heap) (L R : Addr) (k : Int) (t : Tok) (wsR : List Value) (nsR : List Int) (own : Led) (m : Env0) (s : Shared) (Q : Flow → Shared → Prop) (E : Value → Shared → Prop)
    (B : Below (ktrTop dp un gd cn cs La a ccd cl outer) base (envX cn cs La a ccd cl :: outer) h₀) (F : Fr h₀ L s.heap (fun y => if y = Str.ofString "fold" then some (.int k t) else if y = Str.ofString "row" then some (.ref R) else m y)) (X : (hd.heap_39 w.params).In h₀) (T : Top hd.view_39 loose mean mg mb h₀) (N : News h₀ L s.heap ((R, W.listOf wsR.toArray 0) :: own)) (hI : IntsAre wsR nsR) (hz : wsR.length ≤ 40) (hz2 : nsR.length ≤ 40)
    (H : ∀ D ws h' tk, IntsAre ws (nsR ++ [k] ++ nsR.reverse.map (fun k' => -k')) → Fr h₀ L h' (fun y => if y = Str.ofString "row" then some (.ref D) else if y = Str.ofString "fold" then some (.int k t) else if y = Str.ofString "row" then some (.ref R) else m y) → News h₀ L h' ((D, W.listOf ws.toArray 0) :: own) → Q .next { s with heap := h', toks := tk }) :
    wpAny (model PySem.Challenge.rw_wu0029_01.row.prog w) ((ktrTop dp un gd cn cs La a ccd cl outer).deeper (openedEnv L)) (execs openedLoop (openedEnv L)) Q E s := by
  k_with_none
  k_with "mine eval ListComp" => (k_here; k_dflt (refine LCg.ListComp_U (F₀ := by k_asm) (by with_unfolding_all rfl) (by decide) (by rfl) (by decide) (by rfl) ?_))
  k_with "mine CompSrc" => (k_here; (try k_fmods); (try kcf_lens); k_dflt (refine LCg.CompSrc.ledger (by rfl) (by k_asm) (by k_asm) (by k_mem) (by first | kcf_size | decide) ?_; intro g'; (refine' kcf_list _ (by first | assumption | l_ints) (fun k' t' I' oI' C' oC' D' m' ys' h' tk' E' hk' hC' hx' F' N' off' ne' hMark' => ?_) ?_); (all_goals (try (simp only [LCg.Off3, and_true] at off'))); kcf_last))
  have hmark : (Mine.hd.heap_39 w.params).In h₀ ∧ PySem.Challenge.rw_wu0029_01.row.prog = PySem.Challenge.rw_wu0029_01.row.prog := ⟨X, rfl⟩
  revert hmark
  k_fill
  intro _
  unfold openedEnv
  conv in openedLoop => whnf
  conv in openedScope => whnf
  conv in openedScope => whnf
  k_steps
  (rename News _ _ _ _ => N7); (rename Fr _ _ _ _ => F7); (rename IntsAre _ _ => I7)
  exact H _ _ _ _ I7 F7 (fun p hp => N7 p (by
    rcases List.mem_cons.mp hp with rfl | hp
    · exact List.Mem.head _
    · exact List.Mem.tail _ (List.Mem.tail _ (List.Mem.tail _ (List.Mem.tail _ (List.Mem.tail _ (List.Mem.tail _ hp)))))))
theorem fr_under {h₀ h : Heap} {L : Addr} {M : Env0} {a k : Str} {va : Option Value} {v : Value} (F : Fr h₀ L h (fun y => if y = a then va else M y)) (e : M k = some v) : Fr h₀ L h (fun y => if y = a then va else if y = k then some v else M y) := by
  have e2 : (fun y => if y = a then va else M y) = fun y => if y = a then va else if y = k then some v else M y := by
    funext y
    by_cases hy : y = a
    · rw [if_pos hy, if_pos hy]
    · rw [if_neg hy, if_neg hy]
      by_cases hk : y = k
      · rw [if_pos hk, hk]; exact e
      · rw [if_neg hk]
  rw [← e2]; exact F
theorem fr_key0 {h₀ h : Heap} {L : Addr} {M : Env0} {k : Str} {v : Value} (F : Fr h₀ L h M) (e : M k = some v) : Fr h₀ L h (fun y => if y = k then some v else M y) := by
  have e2 : M = fun y => if y = k then some v else M y := by
    funext y
    by_cases hy : y = k
    · rw [if_pos hy, hy]; exact e
    · rw [if_neg hy]
  rw [← e2]; exact F
def Hid (p : Prop) : Prop := p
/-- a loop over a list of ints by an invariant of one's own -/
theorem list_invU {prog : Program} {w : World} {A : Around} {E : Value → Shared → Prop} {h₀ : Heap} {env : Env} {x : Str} {body : List Stmt} {Q : Flow → Shared → Prop} {s : Shared} {l : Addr} {vs : List Value} {ns : List Int} {m₀ : Env0} {news : Led} (Inv : Nat → Env0 → Led → Prop)
    (hh : A.handled = none) (hl : s.heap.IsList l vs.toArray) (hi : IntsAre vs ns) (F : Fr h₀ env.locals s.heap m₀) (N : News h₀ env.locals s.heap news) (h0 : Inv 0 m₀ news) (hL : env.locals ≠ l)
    (turn : ∀ (i : Nat) (k : Int) (t : Tok) (m₁ : Env0) (news₁ : Led) (s₁ : Shared) (own : Led) (o : Obj) (R : Flow → Shared → Prop), ns[i]? = some k → Inv i m₁ news₁ → (∀ p ∈ news₁, p.1 ≠ s.heap.objs.size) → (s.heap.objs.size, o) ∈ own → o.cls = .type "list_iterator" → (∀ p ∈ own, p.1 = s.heap.objs.size ∨ p.1 = l) →
      Fr h₀ env.locals s₁.heap (fun y => if y = x then some (.int k t) else m₁ y) → News h₀ env.locals s₁.heap (own ++ news₁) →
      (∀ h' tk' m₂ news₂, Fr h₀ env.locals h' m₂ → News h₀ env.locals h' (own ++ news₂) → (∀ p ∈ news₂, p.1 ≠ s.heap.objs.size) → Inv (i + 1) m₂ news₂ → R .next { s₁ with heap := h', toks := tk' }) →
      wpAny (model prog w) A (execs body env) R E s₁)
    (fin : ∀ m news h tk, Inv ns.length m news → Fr h₀ env.locals h m → News h₀ env.locals h news → Q .next { s with heap := h, toks := tk }) :
    wpAny (model prog w) A (pyIter (.ref l)) (fun it s₂ => LoopAtU prog w A h₀ env x body Q E it s₂) E s := by
  have hlt : l < s.heap.objs.size := by obtain ⟨o, ho, _⟩ := hl; exact Heap.lt_size ho
  have hne : l ≠ s.heap.objs.size := Nat.ne_of_lt hlt
  have hnew := next_is_new F
  refine wpAny_pyIter_list hl ?_
  refine ⟨s.heap.objs.size, _, _, vs.toArray.size, _, _, m₀, news, Inv, rfl, Walks.list hh s.heap.objs.size l hne vs.toArray, ?_, ?_, ?_, ⟨⟨_, Heap.get?_push_size _ rfl, rfl, rfl⟩, hl.at fun o e => Heap.get?_push_of_some _ e⟩, F.push _, (fun p hp => ⟨Heap.get?_push_of_some _ (N p hp).1, (N p hp).2⟩), h0, ?_, ?_⟩
  · intro hm
    rcases List.mem_cons.mp hm with e | hm
    · exact absurd F.ns.lt (e ▸ Nat.lt_irrefl _)
    · exact hL (List.mem_singleton.mp hm)
  · intro b hb
    rw [List.mem_singleton.mp hb]
    exact hnew
  · intro p hp hI
    exact absurd (Heap.lt_size (N p hp).1) ((List.mem_singleton.mp hI) ▸ Nat.lt_irrefl _)
  · rintro i v m₁ news₁ s₁ own hin hP hJ hoff hown hget hall hst F₁ N₁
    obtain ⟨k, t, e, hk⟩ := IntsAre.at hi i v (by simpa using hP)
    subst e
    obtain ⟨o, ho, hc, hd⟩ := hst.1
    refine turn i k t m₁ news₁ s₁ own o _ hk hJ (fun p hp => fun e => hoff p hp (List.mem_singleton.mpr e)) (hall _ (by simp) hnew _ ho) hc (fun p hp => by
      rcases List.mem_cons.mp (hown p hp) with e | e
      · exact .inl e
      · exact .inr (List.mem_singleton.mp e)) F₁ N₁ ?_
    intro h' tk2 m₂ news₂ F₂ N₂ hI₂ hJ₂
    exact ⟨rfl, h', tk2, m₂, news₂, rfl, F₂, N₂, (fun p hp hI => hI₂ p hp (List.mem_singleton.mp hI)), hJ₂⟩
  · intro h' tk m' news' F' N' _ hJ
    have e : vs.toArray.size = ns.length := by simpa using hi.length
    rw [e] at hJ
    exact fin m' news' h' tk hJ F' N'
theorem list_inv {prog : Program} {w : World} {A : Around} {E : Value → Shared → Prop} {h₀ : Heap} {env : Env} {x : Str} {body : List Stmt} {Q : Flow → Shared → Prop} {s : Shared} {v : Value} (h : wpAny (model prog w) A (pyIter v) (fun it s₂ => LoopAtU prog w A h₀ env x body Q E it s₂) E s) : wpAny (model prog w) A (pyIter v) (fun it s₂ => LoopAtV prog w A h₀ env x body Q E it s₂) E s :=
  wpAny_mono h (fun _ _ q => q.toV) (fun _ _ e => e)
theorem openedF_snoc {ns : List Int} {k : Int} : openedF (ns ++ [k]) = openedF ns ++ [k] ++ (openedF ns).reverse.map (fun k' => -k') := by
  unfold openedF
  rw [List.foldl_append]; rfl
theorem openedF_len {ns : List Int} : ∀ i, i ≤ ns.length → (openedF (ns.take i)).length + 1 = 2 ^ i := by
  intro i
  induction i with
  | zero => intro _; rw [List.take_zero]; rfl
  | succ i ih =>
    intro hi
    have := ih (by omega)
    rw [List.take_succ_eq_append_getElem (by omega), openedF_snoc, List.length_append, List.length_append, List.length_map, List.length_reverse, List.length_singleton, Nat.pow_succ]
    omega
def OInv (ns : List Int) (i : Nat) (m : Env0) (news : Led) : Prop := ∃ R ws, m (Str.ofString "row") = some (.ref R) ∧ news = [(R, W.listOf ws.toArray 0)] ∧ IntsAre ws (openedF (ns.take i))
abbrev outL (ns : List Int) : Heap → Heap → Value → Prop := fun h h' v => ∃ D ws, v = .ref D ∧ h'.get? D = some (W.listOf ws.toArray 0) ∧ h.get? D = none ∧ IntsAre ws ns
local macro_rules | `(tactic| walk_at "exec For Name Name cons nil") => `(tactic| k_extra "mine exec For Name Name cons nil")
theorem opened_ok {w : World} (l : Addr) (ls : List Value) (ns : List Int) (hi : IntsAre ls ns) (hz : ns.length ≤ 5) : Spec w 121 [.ref l] 2 (fun h => h.IsList l ls.toArray) (outL (openedF ns)) := by
  k_with_none
  k_with "mine eval ListComp" => (k_here; k_dflt (refine LCg.ListComp_U (F₀ := by k_asm) (by with_unfolding_all rfl) (by decide) (by rfl) (by decide) (by rfl) ?_))
  k_with "mine CompSrc" => (k_here; (try k_fmods); (try kcf_lens); k_dflt (refine LCg.CompSrc.ledger (by rfl) (by k_asm) (by k_asm) (by k_mem) (by first | kcf_size | decide) ?_; intro g'; (refine' kcf_list _ (by first | assumption | l_ints) (fun k' t' I' oI' C' oC' D' m' ys' h' tk' E' hk' hC' hx' F' N' off' ne' hMark' => ?_) ?_); (all_goals (try (simp only [LCg.Off3, and_true] at off'))); kcf_last))
  k_with "mine exec For Name Name cons nil" => (k_here; (rename Fr _ _ _ _ => lF'); (with_unfolding_all refine' For_invVF lF' ?k1 ?k2 ?_; (case k1 => with_unfolding_all rfl); (case k2 => with_unfolding_all rfl); k_whole))
  unfold Spec
  k_fill
  intro loose mean mg mb dp un gd cn cs a ccd cl outer A₀ base h₀ L m s Q E B F X T hk hpre hd hu hret
  replace hi := (show Hid _ from hi)
  replace hz := (show Hid _ from hz)
  replace hpre := (show Hid _ from hpre)
  (refine wpAny_call ?_; k_dflt (refine' code_base ?k1 ?k2 ?k3 ?k5 ?kA ?kF ?kK ?k6 ?k7 ?k8 ?k9 ?kB ?_ ?c2 ?c3 ?c4 ?c5; (case kA => exact rfl); (case kF => exact rfl); (case kK => assumption); (case k1 => k_asm); (case k2 => k_asm); (case k3 => k_asm); (case k5 => k_asm); (case k6 => k_is); (case k7 => k_is); (case k8 => ktr_room); (case k9 => exact BindsTo.of_eq rfl); (case c5 => decide); (case kB => exact locs rfl); (case c2 => exact rfl); (case c3 => exact rfl); (case c4 => exact rfl); k_whole; intro L' h' FG' F' N' B' X' T'; (try dsimp only); (try k_fold)))
  k_steps
  unfold Hid at hi hz hpre
  (rename News _ _ _ _ => N7); (rename Fr _ _ _ _ => F7)
  have hlen : ∀ i, i < ns.length → ∀ ws : List Value, IntsAre ws (openedF (ns.take i)) → ws.length ≤ 40 ∧ (openedF (ns.take i)).length ≤ 40 := by
    intro i hi2 ws hw
    have e1 := openedF_len (ns := ns) i (Nat.le_of_lt hi2)
    have e2 : 2 ^ i ≤ 2 ^ 5 := Nat.pow_le_pow_right (by decide) (by omega)
    have e3 := hw.length
    exact ⟨by omega, by omega⟩
  refine list_inv ?_
  with_unfolding_all refine' list_invU (OInv ns) (by rfl) ?hl hi F7 N7 ?h0 ?hL ?turn ?fin
  case hl => exact (show s.heap.IsList l ls.toArray from hpre).at (fun o e => Fr.keep F7 _ _ e)
  case h0 => exact ⟨_, [], rfl, rfl, .nil⟩
  case hL =>
    obtain ⟨o, ho, _⟩ := hpre
    have h1 := Heap.lt_size ho
    have h2 := F7.above
    exact fun e => absurd h1 (Nat.not_lt.mpr (Nat.le_trans h2 (Nat.le_of_eq e)))
  case turn =>
    intro i k t m₁ news₁ s₁ own o R hk2 hv hne ho hc _ F1 N1 K
    obtain ⟨Rr, ws, hm, rfl, hI⟩ := hv
    have hin : i < ns.length := (List.getElem?_eq_some_iff.mp hk2).1
    refine opened_turn (w := w) (loose := loose) (mean := mean) (mg := mg) (mb := mb) dp un gd cn cs L a ccd cl outer base s.heap L' Rr k t ws _ own m₁ _ R _ B' (fr_under F1 hm) X' T' (fun p hp => N1 p (by
      rcases List.mem_cons.mp hp with rfl | hp
      · exact List.mem_append.mpr (.inr (List.Mem.head _))
      · exact List.mem_append.mpr (.inl hp))) hI (hlen i hin ws hI).1 (hlen i hin ws hI).2 ?_
    intro D ws2 h2 tk2 hI2 F2 N2
    refine K h2 tk2 _ _ F2 (fun p hp => N2 p ?_) (fun p hp => ?_) ⟨D, ws2, rfl, rfl, ?_⟩
    · rcases List.mem_append.mp hp with hp | hp
      · exact List.Mem.tail _ hp
      · rw [List.mem_singleton.mp hp]; exact List.Mem.head _
    · rw [List.mem_singleton.mp hp]
      intro e
      have e1 := (N2 _ (List.Mem.head _)).1
      have e2 := (N2 _ (List.Mem.tail _ ho)).1
      rw [show (D, W.listOf ws2.toArray 0).1 = D from rfl] at e1
      dsimp only at e e1 e2
      rw [e] at e1
      have e3 := congrArg Obj.cls (Option.some.inj (e1.symm.trans e2))
      rw [hc] at e3
      exact absurd (Value.type.inj e3) (by decide)
    · rw [List.take_succ_eq_append_getElem hin, openedF_snoc]
      have e4 : ns[i] = k := (List.getElem?_eq_some_iff.mp hk2).2
      rw [e4]; exact hI2
  case fin =>
    intro m2 news2 h2 tk2 hv F2 N2
    obtain ⟨Rr, ws, hm, rfl, hI⟩ := hv
    have F3 := fr_key0 F2 hm
    clear F2 hlen
    rw [List.take_length] at hI
    (try dsimp only)
    k_steps
    exact hret _ _ _ (Fr.keep F3) ⟨Rr, ws, rfl, (N2 _ (List.Mem.head _)).1, (N2 _ (List.Mem.head _)).2.2, hI⟩
theorem led_list {h₀ h : Heap} {L P : Addr} {news : Led} {vs : Array Value} {n : Nat} (N : News h₀ L h news) (hm : (P, W.listOf vs n) ∈ news) : h.IsList P vs := ⟨_, (N _ hm).1, rfl, n, rfl⟩
theorem ints5 {a1 a2 a3 a4 a5 : Int} {t1 t2 t3 t4 t5 : Tok} : IntsAre [Value.int a1 t1, Value.int a2 t2, Value.int a3 t3, Value.int a4 t4, Value.int a5 t5] [a1, a2, a3, a4, a5] := .cons _ _ (.cons _ _ (.cons _ _ (.cons _ _ (.cons _ _ .nil))))
theorem useL {w : World} {f : Addr} {vs : List Value} {nd : Nat} {pre : Heap → Prop} {loose : List Str} {mean : ExcName → Option Value} {mg mb : Env0} {dp un : Nat} {gd : Option (List Code)} {cn : Str} {cs : Scope} {a : Addr} {ccd : Value} {cl : List (Str × Addr)} {outer : List Env} {A₀ : Around} {base h₀ : Heap} {L : Addr} {m : Env0} {s : Shared} {Q E : Value → Shared → Prop} {news : Led} {ns : List Int} (S : Spec w f vs nd pre (outL ns)) (B : Below A₀ base outer h₀) (F : Fr h₀ L s.heap m) (X : (hd.heap_39 w.params).In h₀) (N : News h₀ L s.heap news) (T : Top hd.view_39 loose mean mg mb h₀) (hk : cs.kind = .function) (hp : pre s.heap) (hd : dp + nd < recursionLimit) (hu : un + 8 * nd < cLine)
    (hr : ∀ D ws h' tk', IntsAre ws ns → Fr h₀ L h' m → News h₀ L h' ((D, W.listOf ws.toArray 0) :: news) → Q (.ref D) { s with heap := h', toks := tk' }) :
    wpAny (model PySem.Challenge.rw_wu0029_01.row.prog w) (ktrTop dp un gd cn cs L a ccd cl outer) (call (.ref f) vs) Q E s :=
  S _ _ _ _ _ _ _ _ _ _ _ _ _ _ _ _ _ _ _ _ _ B F X T hk hp hd hu fun v h' tk' kp o => by
    obtain ⟨D, ws, rfl, e, fr, hI⟩ := o
    obtain ⟨N', ne⟩ := news_new F N kp e fr
    exact hr D ws h' tk' hI (F.grownK kp) N'
theorem nc {h₀ h : Heap} {L : Addr} {p : Addr × Obj} {few all : Led} (N : News h₀ L h all) (m : p ∈ all) (K : News h₀ L h few) : News h₀ L h (p :: few) := fun q hq => by
  rcases List.mem_cons.mp hq with rfl | hq
  · exact N q m
  · exact K q hq
theorem nt {h₀ h : Heap} {L : Addr} {tl all : Led} (N : News h₀ L h all) (t : ∀ p ∈ tl, p ∈ all) : News h₀ L h tl := fun q hq => N q (t q hq)
theorem push_list {ps : List Value} {x : Value} : ps.toArray.push x = (ps ++ [x]).toArray := by simp
theorem ne_cls {h₀ h : Heap} {L a b : Addr} {o1 o2 : Obj} {all : Led} (N : News h₀ L h all) (h1 : (a, o1) ∈ all) (h2 : (b, o2) ∈ all) (hc : o1.cls ≠ o2.cls) : a ≠ b := fun e => by
  subst e
  have e1 := (N _ h1).1
  have e2 := (N _ h2).1
  exact hc (congrArg Obj.cls (Option.some.inj (e1.symm.trans e2)))
end Mine
end

section
open PySem PySem.W PyProof.Rows PySem.Calls PySem.Flt
set_option Elab.async false
set_option maxRecDepth 100000
set_option maxHeartbeats 6000000
namespace Mine
theorem pad_La : True := by
  w_top off
  k_with_none
  trivial
noncomputable def lawBody : List Stmt := match (recsOf hd.view_39).getLast? with | some d => d.body | none => []
noncomputable def lawScope : Scope := match (recsOf hd.view_39).getLast? with | some d => d.scope | none => { kind := .function, names := [], isGenerator := false, isCoroutine := false }
noncomputable abbrev lawEnv (L fa : Addr) (cd : Value) : Env := envOfC (Str.ofString "law") lawScope L fa cd
def drawnF (ns : List Int) : List Int := ns.take 8 ++ [0, 0, 0, 1, 1, 0, 1, 19].drop ns.length
theorem law_a {w : World} {loose : List Str} {mean : ExcName → Option Value} {mg mb : Env0} (l fa : Addr) (cd : Value) (vs : List Value) (ns : List Int) (base h₀ : Heap) (L : Addr) (o1 o2 : Obj) (s : Shared) (rest : List Stmt) (Q : Flow → Shared → Prop) (E : Value → Shared → Prop)
    (B : Below callerA base [] h₀) (hl : h₀.IsList l vs.toArray) (hI : IntsAre vs ns) (hlen : ns.length ≤ 63) (F : Fr h₀ L s.heap (fun y => if y = Str.ofString "script" then some (.ref l) else none)) (X : (hd.heap_39 w.params).In h₀) (N : News h₀ L s.heap [(L + 1 + 1, o2), (L + 1, o1)]) (T : Top hd.view_39 loose mean mg mb h₀)
    (H : ∀ D ws h' tk, IntsAre ws (drawnF ns) → Fr h₀ L h' (fun y => if y = Str.ofString "drawn" then some (.ref D) else if y = Str.ofString "script" then some (.ref l) else none) → News h₀ L h' [(D, W.listOf ws.toArray 0), (L + 1 + 1, o2), (L + 1, o1)] →
      wpAny (model PySem.Challenge.rw_wu0029_01.row.prog w) (callerA.deeper (lawEnv L fa cd)) (execs rest (lawEnv L fa cd)) Q E { s with heap := h', toks := tk }) :
    wpAny (model PySem.Challenge.rw_wu0029_01.row.prog w) (callerA.deeper (lawEnv L fa cd)) (execs ((lawBody.drop 0).take 1 ++ rest) (lawEnv L fa cd)) Q E s := by
  have hmark : (Mine.hd.heap_39 w.params).In h₀ ∧ PySem.Challenge.rw_wu0029_01.row.prog = PySem.Challenge.rw_wu0029_01.row.prog := ⟨X, rfl⟩
  revert hmark
  k_fill
  intro _
  unfold lawEnv
  conv in lawBody => whnf
  conv in lawScope => whnf
  conv in lawScope => whnf
  dsimp only [List.drop, List.take, List.cons_append, List.nil_append]
  k_steps
  (rename News _ _ _ _ => N7); (rename Fr _ _ _ _ => F7)
  refine H _ _ _ _ (by assumption) F7 (fun p hp => N7 p ?_)
  rcases List.mem_cons.mp hp with rfl | hp
  · exact .head _
  · exact .tail _ (.tail _ (.tail _ (.tail _ hp)))
end Mine
end

section
open PySem PySem.W PyProof.Rows PySem.Calls PySem.Flt
set_option Elab.async false
set_option maxRecDepth 100000
set_option maxHeartbeats 4000000
namespace Mine
theorem pad_Lb : True := by
  w_top off
  k_with_none
  trivial
local macro_rules | `(tactic| walk_at "eval ListComp") => `(tactic| k_extra "mine eval ListComp")
local macro_rules | `(tactic| walk_at "CompSrc") => `(tactic| k_extra "mine CompSrc")
local macro_rules | `(tactic| walk_at "execs cons") => `(tactic| k_extra "mine execs cons")
theorem ints_cons {ws : List Value} {d : Int} {ds : List Int} (h : IntsAre ws (d :: ds)) : ∃ u ws', ws = .int d u :: ws' ∧ IntsAre ws' ds := by
  cases h with | cons _ u h => exact ⟨u, _, rfl, h⟩
theorem ints_nil {ws : List Value} (h : IntsAre ws []) : ws = [] := by cases h; rfl
theorem news_sub {h₀ h : Heap} {L : Addr} {few all : Led} (N : News h₀ L h all) (sub : SubL few all) : News h₀ L h few := fun p hp => N p (sub.mem p hp)
theorem law_b {w : World} {loose : List Str} {mean : ExcName → Option Value} {mg mb : Env0} (l fa : Addr) (cd : Value) (d0 d1 d2 d3 d4 d5 d6 d7 : Int) (u0 u1 u2 u3 u4 u5 u6 u7 : Tok) (base h₀ : Heap) (L D : Addr) (o1 o2 : Obj) (s : Shared) (rest : List Stmt) (Q : Flow → Shared → Prop) (E : Value → Shared → Prop)
    (B : Below callerA base [] h₀) (F : Fr h₀ L s.heap (fun y => if y = Str.ofString "drawn" then some (.ref D) else if y = Str.ofString "script" then some (.ref l) else none)) (X : (hd.heap_39 w.params).In h₀) (hc1 : o1.data = .cell none) (hc2 : o2.data = .cell none)
    (N : News h₀ L s.heap [(D, W.listOf #[.int d0 u0, .int d1 u1, .int d2 u2, .int d3 u3, .int d4 u4, .int d5 u5, .int d6 u6, .int d7 u7] 0), (L + 1 + 1, o2), (L + 1, o1)]) (T : Top hd.view_39 loose mean mg mb h₀)
    (H : ∀ (Z P : Addr) (q1 q2 : Obj) (ts tt f1 f2 f3 f4 f5 z1 z2 : Tok) (h' : Heap) (tk : Nat), q1.data = .cell (some (.int (d1.fmod 4) tt)) → q2.data = .cell (some (.ref P)) →
      Fr h₀ L h' (fun y => if y = Str.ofString "sizes" then some (.ref Z) else if y = Str.ofString "steps" then some (.int (8 + d0.fmod 13) ts) else if y = Str.ofString "drawn" then some (.ref D) else if y = Str.ofString "script" then some (.ref l) else none) →
      News h₀ L h' [(Z, tupO [.int (1 + d7.fmod 8) z1, .int (1 + (d7.fdiv 8).fmod 8) z2]), (P, LCg.lst [.int (1 - 2 * d2.fmod 2) f1, .int (1 - 2 * d3.fmod 2) f2, .int (1 - 2 * d4.fmod 2) f3, .int (1 - 2 * d5.fmod 2) f4, .int (1 - 2 * d6.fmod 2) f5]), (L + 1 + 1, q2), (L + 1, q1)] →
      wpAny (model PySem.Challenge.rw_wu0029_01.row.prog w) (callerA.deeper (lawEnv L fa cd)) (execs rest (lawEnv L fa cd)) Q E { s with heap := h', toks := tk }) :
    wpAny (model PySem.Challenge.rw_wu0029_01.row.prog w) (callerA.deeper (lawEnv L fa cd)) (execs ((lawBody.drop 1).take 4 ++ rest) (lawEnv L fa cd)) Q E s := by
  k_with_none
  k_with "mine eval ListComp" => (k_here; k_dflt (refine LCg.ListComp_U (F₀ := by k_asm) (by with_unfolding_all rfl) (by decide) (by rfl) (by decide) (by rfl) ?_))
  k_with "mine CompSrc" => (k_here; (try k_fmods); (try kcf_lens); k_dflt (refine LCg.CompSrc.ledger (by rfl) (by k_asm) (by k_asm) (by k_mem) (by first | kcf_size | decide) ?_; intro g'; (refine' kcf_list _ (by first | assumption | l_ints) (fun k' t' I' oI' C' oC' D' m' ys' h' tk' E' hk' hC' hx' F' N' off' ne' hMark' => ?_) ?_); (all_goals (try (simp only [LCg.Off3, and_true] at off'))); kcf_last))
  k_with "mine execs cons" => (k_here; (rename News _ _ _ _ => N'); (simp only [List.cons_append, List.nil_append] at N'))
  have hmark : (Mine.hd.heap_39 w.params).In h₀ ∧ PySem.Challenge.rw_wu0029_01.row.prog = PySem.Challenge.rw_wu0029_01.row.prog := ⟨X, rfl⟩
  revert hmark
  k_fill
  intro _
  unfold lawEnv
  conv in lawBody => whnf
  conv in lawScope => whnf
  conv in lawScope => whnf
  dsimp only [List.drop, List.take, List.cons_append, List.nil_append]
  k_steps
  (rename News _ _ _ _ => N7); (rename Fr _ _ _ _ => F7)
  rename _ = Data.cell (some (Value.int _ _)) => c1
  rename _ = Data.cell (some (Value.ref _)) => c2
  (rename IntsAre _ _ => I7)
  obtain ⟨f1, y1, rfl, g1⟩ := ints_cons I7
  obtain ⟨f2, y2, rfl, g2⟩ := ints_cons g1
  obtain ⟨f3, y3, rfl, g3⟩ := ints_cons g2
  obtain ⟨f4, y4, rfl, g4⟩ := ints_cons g3
  obtain ⟨f5, y5, rfl, g5⟩ := ints_cons g4
  cases ints_nil g5
  exact H _ _ _ _ _ _ _ _ _ _ _ _ _ _ _ c1 c2 F7 (news_sub N7 ⟨.head _, .tail _ (.head _), .tail _ (.tail _ (.tail _ (.tail _ (.head _)))), .tail _ (.tail _ (.tail _ (.tail _ (.tail _ (.head _))))), trivial⟩)
end Mine
end

section
open PySem PySem.W PyProof.Rows PySem.Calls PySem.Flt
set_option Elab.async false
set_option maxRecDepth 100000
set_option maxHeartbeats 4000000
namespace Mine
theorem pad_Lc : True := by
  w_top off
  k_with_none
  trivial
local macro_rules | `(tactic| walk_at "call ref") => `(tactic| k_extra "mine call ref")

theorem law_c {w : World} {loose : List Str} {mean : ExcName → Option Value} {mg mb : Env0} (l fa : Addr) (cd : Value) (a1 a2 a3 a4 a5 : Int) (t1 t2 t3 t4 t5 : Tok) (d0 : Int) (ts : Tok) (n0 : Nat) (base h₀ : Heap) (L D Z P : Addr) (zo q1 q2 : Obj) (s : Shared) (rest : List Stmt) (Q : Flow → Shared → Prop) (E : Value → Shared → Prop)
    (B : Below callerA base [] h₀) (F : Fr h₀ L s.heap (fun y => if y = Str.ofString "sizes" then some (.ref Z) else if y = Str.ofString "steps" then some (.int d0 ts) else if y = Str.ofString "drawn" then some (.ref D) else if y = Str.ofString "script" then some (.ref l) else none)) (X : (hd.heap_39 w.params).In h₀) (hc2 : q2.data = .cell (some (.ref P)))
    (N : News h₀ L s.heap [(P, W.listOf #[Value.int a1 t1, Value.int a2 t2, Value.int a3 t3, Value.int a4 t4, Value.int a5 t5] n0), (Z, zo), (L + 1 + 1, q2), (L + 1, q1)]) (T : Top hd.view_39 loose mean mg mb h₀)
    (H : ∀ (C : Addr) (ws : List Value) (h' : Heap) (tk : Nat), IntsAre ws (openedF [a1, a2, a3, a4, a5]) →
      Fr h₀ L h' (fun y => if y = Str.ofString "creases" then some (.ref C) else if y = Str.ofString "sizes" then some (.ref Z) else if y = Str.ofString "steps" then some (.int d0 ts) else if y = Str.ofString "drawn" then some (.ref D) else if y = Str.ofString "script" then some (.ref l) else none) →
      News h₀ L h' [(C, W.listOf ws.toArray 0), (P, W.listOf #[Value.int a1 t1, Value.int a2 t2, Value.int a3 t3, Value.int a4 t4, Value.int a5 t5] n0), (Z, zo), (L + 1 + 1, q2), (L + 1, q1)] →
      wpAny (model PySem.Challenge.rw_wu0029_01.row.prog w) (callerA.deeper (lawEnv L fa cd)) (execs rest (lawEnv L fa cd)) Q E { s with heap := h', toks := tk }) :
    wpAny (model PySem.Challenge.rw_wu0029_01.row.prog w) (callerA.deeper (lawEnv L fa cd)) (execs ((lawBody.drop 5).take 1 ++ rest) (lawEnv L fa cd)) Q E s := by
  k_with_none
  k_with "mine call ref" => (k_here; (with_reducible show wpAny _ _ (call (Value.ref 121) [Value.ref _]) _ _ _); (rename News _ _ _ _ => N7); (with_unfolding_all refine' useL (opened_ok P _ [a1, a2, a3, a4, a5] (ints5 (t1 := t1) (t2 := t2) (t3 := t3) (t4 := t4) (t5 := t5)) (Nat.le_refl 5)) ?k1 ?k2 ?k3 N7 ?k5 ?k6 ?k7 ?k8 ?k9 ?_); (case k7 => with_unfolding_all exact led_list N7 (List.Mem.head _)); (case k1 => k_asm); (case k2 => k_asm); (case k3 => k_asm); (case k5 => k_asm); (case k6 => with_unfolding_all rfl); (case k8 => ktr_room); (case k9 => ktr_units); intro D9 ws9 h9 tk9 I9 F9 N9; (try dsimp only); (try k_fold))
  have hmark : (Mine.hd.heap_39 w.params).In h₀ ∧ PySem.Challenge.rw_wu0029_01.row.prog = PySem.Challenge.rw_wu0029_01.row.prog := ⟨X, rfl⟩
  revert hmark
  k_fill
  intro _
  unfold lawEnv
  conv in lawBody => whnf
  conv in lawScope => whnf
  conv in lawScope => whnf
  dsimp only [List.drop, List.take, List.cons_append, List.nil_append]
  k_steps
  (rename News _ _ _ _ => N7); (rename Fr _ _ _ _ => F7); (rename IntsAre _ _ => I7)
  exact H _ _ _ _ I7 F7 N7
end Mine
end

section
open PySem PySem.W PyProof.Rows PySem.Calls PySem.Flt
set_option Elab.async false
set_option maxRecDepth 100000
set_option maxHeartbeats 700000
namespace Mine
theorem pad_Ld : True := by
  w_top off
  k_with_none
  trivial
local macro_rules | `(tactic| walk_at "mine_pad") => `(tactic| fail "no")
local macro_rules | `(tactic| walk_at "call ref") => `(tactic| k_extra "mine call ref")
theorem law_d {w : World} {loose : List Str} {mean : ExcName → Option Value} {mg mb : Env0} (fa : Addr) (cd : Value) (l C Z D P : Addr) (a1 a2 a3 a4 a5 d0 st : Int) (t1 t2 t3 t4 t5 ts tt : Tok) (n0 : Nat) (co zo q1 q2 : Obj) (base h₀ : Heap) (L : Addr) (s : Shared) (rest : List Stmt) (Q : Flow → Shared → Prop) (E : Value → Shared → Prop)
    (B : Below callerA base [] h₀) (F : Fr h₀ L s.heap (fun y => if y = Str.ofString "creases" then some (.ref C) else if y = Str.ofString "sizes" then some (.ref Z) else if y = Str.ofString "steps" then some (.int d0 ts) else if y = Str.ofString "drawn" then some (.ref D) else if y = Str.ofString "script" then some (.ref l) else none)) (X : (hd.heap_39 w.params).In h₀) (T : Top hd.view_39 loose mean mg mb h₀)
    (N : News h₀ L s.heap [(C, co), (P, W.listOf #[Value.int a1 t1, Value.int a2 t2, Value.int a3 t3, Value.int a4 t4, Value.int a5 t5] n0), (Z, zo), (L + 1 + 1, q2), (L + 1, q1)]) (hc1 : q1.data = .cell (some (.int st tt))) (hc2 : q2.data = .cell (some (.ref P))) (hs0 : 8 ≤ d0) (hs1 : d0 ≤ 20)
    (H : ∀ (G : Addr) (ws : List Value) (h' : Heap) (tk : Nat), IntsAre ws ((rangeKs 0 (d0 - 0).toNat).map (fun k => st + turnedZ k [a1, a2, a3, a4, a5])) → Fr h₀ L h' (fun y => if y = Str.ofString "headings" then some (.ref G) else if y = Str.ofString "creases" then some (.ref C) else if y = Str.ofString "sizes" then some (.ref Z) else if y = Str.ofString "steps" then some (.int d0 ts) else if y = Str.ofString "drawn" then some (.ref D) else if y = Str.ofString "script" then some (.ref l) else none) → News h₀ L h' [(G, LCg.lst ws), (C, co), (P, W.listOf #[Value.int a1 t1, Value.int a2 t2, Value.int a3 t3, Value.int a4 t4, Value.int a5 t5] n0), (Z, zo), (L + 1 + 1, q2), (L + 1, q1)] → wpAny (model PySem.Challenge.rw_wu0029_01.row.prog w) (callerA.deeper (lawEnv L fa cd)) (execs rest (lawEnv L fa cd)) Q E { s with heap := h', toks := tk }) :
    wpAny (model PySem.Challenge.rw_wu0029_01.row.prog w) (callerA.deeper (lawEnv L fa cd)) (execs ((lawBody.drop 6).take 1 ++ rest) (lawEnv L fa cd)) Q E s := by
  k_with_none
  k_with "mine call ref" => (k_here; (with_reducible show wpAny _ _ (call (Value.ref 135) [Value.int _ _, Value.ref _]) _ _ _); (with_unfolding_all refine' useIE (turned_okE _ _ _ _ _ ?hi) ?k1 ?k2 ?k3 ?k4 ?k5 ?k6 ?kf ?k7 ?k8 ?k9 ?_); (case hi => assumption); (case k7 => ((rename News _ _ _ _ => N7); exact led_list N7 (List.Mem.tail _ (List.Mem.tail _ (List.Mem.tail _ (List.Mem.tail _ (List.Mem.head _))))))); (case k1 => k_asm); (case k2 => k_asm); (case k3 => k_asm); (case k4 => k_asm); (case k5 => k_asm); (case k6 => with_unfolding_all rfl); (case kf => with_unfolding_all rfl); (case k8 => ktr_room); (case k9 => ktr_units); intro t9 h9 tk9 F9 N9; (try dsimp only); (try k_fold))
  have hmark : (Mine.hd.heap_39 w.params).In h₀ ∧ PySem.Challenge.rw_wu0029_01.row.prog = PySem.Challenge.rw_wu0029_01.row.prog := ⟨X, rfl⟩
  revert hmark
  k_fill
  intro _
  unfold lawEnv
  conv in lawBody => whnf
  conv in lawScope => whnf
  conv in lawScope => whnf
  dsimp only [List.drop, List.take, List.cons_append, List.nil_append]
  have hIa : IntsAre [Value.int a1 t1, Value.int a2 t2, Value.int a3 t3, Value.int a4 t4, Value.int a5 t5] [a1, a2, a3, a4, a5] := ints5
  k_steps
  (rename News _ _ _ _ => N7); (rename Fr _ _ _ _ => F7); (rename IntsAre _ (List.map _ _) => I7)
  exact H _ _ _ _ I7 F7 N7
end Mine
end

section
open PySem PySem.W PyProof.Rows PySem.Calls PySem.Flt
set_option Elab.async false
set_option maxRecDepth 100000
set_option maxHeartbeats 2500000
namespace Mine
theorem pad_Le : True := by
  w_top off
  k_with_none
  trivial
local macro_rules | `(tactic| walk_at "mine_pad") => `(tactic| fail "no")
def stepP (k : Int) (p : Int × Int) : Int × Int := (p.1 - k * p.2, p.2 + k * p.1)
noncomputable def prodLoop : List Stmt := match (lawBody.drop 8).head? with | some (.For _ _ b _ _) => b | _ => []
local macro_rules | `(tactic| walk_at "subscriptTail") => `(tactic| k_extra "mine subscriptTail")
local macro_rules | `(tactic| walk_at "call builtin:list.append") => `(tactic| k_extra "mine call builtin:list.append")
theorem prod_turn {w : World} {loose : List Str} {mean : ExcName → Option Value} {mg mb : Env0} (fa : Addr) (cd : Value) (L R Tl : Addr) (k x0 y0 : Int) (t tx ty : Tok) (ps : List Value) (nA : Nat) (own : Led) (m : Env0) (base h₀ : Heap) (s : Shared) (Q : Flow → Shared → Prop)
    (B : Below callerA base [] h₀) (F : Fr h₀ L s.heap (fun y => if y = Str.ofString "fold" then some (.int k t) else if y = Str.ofString "products" then some (.ref R) else m y)) (X : (hd.heap_39 w.params).In h₀) (T : Top hd.view_39 loose mean mg mb h₀)
    (N : News h₀ L s.heap ((R, W.listOf (ps ++ [Value.ref Tl]).toArray nA) :: (Tl, tupO [.int x0 tx, .int y0 ty]) :: own)) (hk : -1 ≤ k ∧ k ≤ 1) (hsz : (ps ++ [Value.ref Tl]).toArray.size ≤ sizeLine) (hAll : ∀ p ∈ ((Tl, tupO [.int x0 tx, .int y0 ty]) :: own), p.1 ≠ R)
    (H : ∀ D m' h' tk tx' ty', D ≠ R → m' (Str.ofString "products") = some (.ref R) → (∀ z, z ≠ Str.ofString "x" → z ≠ Str.ofString "y" → z ≠ Str.ofString "fold" → z ≠ Str.ofString "products" → m' z = m z) → Fr h₀ L h' m' → News h₀ L h' ((R, W.listOf (ps ++ [Value.ref Tl] ++ [Value.ref D]).toArray (nA + 1)) :: (D, tupO [.int (stepP k (x0, y0)).1 tx', .int (stepP k (x0, y0)).2 ty']) :: (Tl, tupO [.int x0 tx, .int y0 ty]) :: own) → Q .next { s with heap := h', toks := tk }) :
    wpAny (model PySem.Challenge.rw_wu0029_01.row.prog w) (callerA.deeper (lawEnv L fa cd)) (execs prodLoop (lawEnv L fa cd)) Q (fun _ _ => False) s := by
  k_with_none
  k_with "mine subscriptTail" => (k_here; (with_reducible show wpAny _ _ (subscriptTail _ _ (Value.ref _) (Value.int (-1) _)) _ _ _); (rename News _ _ _ _ => N7); (with_unfolding_all refine' item_last (led_list N7 (List.Mem.head _)) ?_))
  k_with "mine call builtin:list.append" => (k_here; (with_reducible show wpAny _ _ (call (Value.builtin _) [Value.ref _, _]) _ _ _); (rename News _ _ _ _ => N7); (rename Fr _ _ _ _ => F7); (with_unfolding_all refine' append_K (its := (ps ++ [Value.ref Tl]).toArray) F7 N7 (Upd.tail ?ka (Upd.head hAll)) ?_ ?kz); (case ka => k_ne); (case kz => with_reducible exact hsz); intro h' F' N'; (rw [push_list] at N'))
  have hmark : (Mine.hd.heap_39 w.params).In h₀ ∧ PySem.Challenge.rw_wu0029_01.row.prog = PySem.Challenge.rw_wu0029_01.row.prog := ⟨X, rfl⟩
  revert hmark
  k_fill
  intro _
  unfold lawEnv
  conv in prodLoop => whnf
  conv in lawScope => whnf
  conv in lawScope => whnf
  k_steps
  (rename News _ _ _ _ => N7); (rename Fr _ _ _ _ => F7)
  refine H _ _ _ _ _ _ ?_ rfl ?_ F7 (nc N7 (List.Mem.tail _ (List.Mem.head _)) (nc N7 (List.Mem.head _) (nc N7 (List.Mem.tail _ (List.Mem.tail _ (List.Mem.head _))) (nt N7 (fun p hp => List.Mem.tail _ (List.Mem.tail _ (List.Mem.tail _ hp)))))))
  · k_ne
  · intro z h1 h2 h3 h4
    show (if z = _ then _ else if z = _ then _ else if z = _ then _ else if z = _ then _ else m z) = m z
    rw [if_neg h2, if_neg h1, if_neg h3, if_neg h4]
def prP (ns : List Int) : Nat → Int × Int
  | 0 => (1, 0)
  | i + 1 => stepP (ns.getD i 0) (prP ns i)
def Olds (ns : List Int) : Nat → List Value → Led → Prop
  | 0, ps, _ => ps = []
  | i + 1, ps, tl => ∃ (T : Addr) (tx ty : Tok) (qs : List Value), ps = qs ++ [Value.ref T] ∧ (T, tupO [.int (prP ns i).1 tx, .int (prP ns i).2 ty]) ∈ tl ∧ Olds ns i qs tl
theorem Olds.mono {ns : List Int} {tl tl2 : Led} (hs : ∀ p ∈ tl, p ∈ tl2) : ∀ {i : Nat} {ps : List Value}, Olds ns i ps tl → Olds ns i ps tl2
  | 0, _, h => h
  | _ + 1, _, ⟨T, tx, ty, qs, e, m, o⟩ => ⟨T, tx, ty, qs, e, hs _ m, o.mono hs⟩
theorem Olds.len {ns : List Int} {tl : Led} : ∀ {i : Nat} {ps : List Value}, Olds ns i ps tl → ps.length = i
  | 0, _, h => by rw [show _ = [] from h]; rfl
  | _ + 1, _, ⟨T, tx, ty, qs, e, m, o⟩ => by rw [e, List.length_append, o.len]; rfl
def KeyF (m : Env0) (G C Z : Addr) (d0 : Int) (ts : Tok) : Prop := m (Str.ofString "headings") = some (.ref G) ∧ m (Str.ofString "creases") = some (.ref C) ∧ m (Str.ofString "sizes") = some (.ref Z) ∧ m (Str.ofString "steps") = some (.int d0 ts)
def EInv (ns : List Int) (R G C Z : Addr) (d0 : Int) (ts : Tok) (fx : Led) (i : Nat) (m : Env0) (news : Led) : Prop :=
  m (Str.ofString "products") = some (.ref R) ∧ KeyF m G C Z d0 ts ∧ ∃ (ps : List Value) (Tl : Addr) (tx ty : Tok) (tl : Led), news = (R, W.listOf (ps ++ [Value.ref Tl]).toArray i) :: (Tl, tupO [.int (prP ns i).1 tx, .int (prP ns i).2 ty]) :: tl ∧ (∀ p ∈ fx, p ∈ tl) ∧ (∀ p ∈ ((Tl, tupO [.int (prP ns i).1 tx, .int (prP ns i).2 ty]) :: tl), p.1 ≠ R) ∧ Olds ns i ps tl
theorem e_loop {w : World} {loose : List Str} {mean : ExcName → Option Value} {mg mb : Env0} (fa : Addr) (cd : Value) {C Z G : Addr} {a1 a2 a3 a4 d0 : Int} {t1 t2 t3 t4 ts v0 u0 : Tok} {fx : Led} {base h₀ : Heap} {L l R T0 : Addr} {m : Env0} {s : Shared} {Q : Flow → Shared → Prop}
    (B : Below callerA base [] h₀) (F : Fr h₀ L s.heap m) (X : (hd.heap_39 w.params).In h₀) (T : Top hd.view_39 loose mean mg mb h₀)
    (N : News h₀ L s.heap ((l, W.listOf #[Value.int a1 t1, Value.int a2 t2, Value.int a3 t3, Value.int a4 t4] 0) :: (R, W.listOf #[Value.ref T0] 0) :: (T0, tupO [.int 1 v0, .int 0 u0]) :: fx))
    (hm : m (Str.ofString "products") = some (.ref R)) (hk : KeyF m G C Z d0 ts) (hR : ∀ p ∈ ((T0, tupO [.int 1 v0, .int 0 u0]) :: fx), p.1 ≠ R) (hlR : l ≠ R) (hb1 : -1 ≤ a1 ∧ a1 ≤ 1) (hb2 : -1 ≤ a2 ∧ a2 ≤ 1) (hb3 : -1 ≤ a3 ∧ a3 ≤ 1) (hb4 : -1 ≤ a4 ∧ a4 ≤ 1)
    (fin : ∀ (T0 T1 T2 T3 T4 : Addr) (v0 u0 v1 u1 v2 u2 v3 u3 v4 u4 : Tok) (m' : Env0) (h' : Heap) (tk : Nat), Fr h₀ L h' (fun y => if y = Str.ofString "products" then some (.ref R) else if y = Str.ofString "headings" then some (.ref G) else if y = Str.ofString "creases" then some (.ref C) else if y = Str.ofString "sizes" then some (.ref Z) else if y = Str.ofString "steps" then some (.int d0 ts) else m' y) → News h₀ L h' ((R, W.listOf #[Value.ref T0, Value.ref T1, Value.ref T2, Value.ref T3, Value.ref T4] 4) :: (T0, tupO [.int ((1 : Int), (0 : Int)).1 v0, .int ((1 : Int), (0 : Int)).2 u0]) :: (T1, tupO [.int (stepP a1 ((1 : Int), (0 : Int))).1 v1, .int (stepP a1 ((1 : Int), (0 : Int))).2 u1]) :: (T2, tupO [.int (stepP a2 (stepP a1 ((1 : Int), (0 : Int)))).1 v2, .int (stepP a2 (stepP a1 ((1 : Int), (0 : Int)))).2 u2]) :: (T3, tupO [.int (stepP a3 (stepP a2 (stepP a1 ((1 : Int), (0 : Int))))).1 v3, .int (stepP a3 (stepP a2 (stepP a1 ((1 : Int), (0 : Int))))).2 u3]) :: (T4, tupO [.int (stepP a4 (stepP a3 (stepP a2 (stepP a1 ((1 : Int), (0 : Int)))))).1 v4, .int (stepP a4 (stepP a3 (stepP a2 (stepP a1 ((1 : Int), (0 : Int)))))).2 u4]) :: fx) → Q .next { s with heap := h', toks := tk }) :
    wpAny (model PySem.Challenge.rw_wu0029_01.row.prog w) (callerA.deeper (lawEnv L fa cd)) (pyIter (.ref l)) (fun it s₂ => LoopAtU PySem.Challenge.rw_wu0029_01.row.prog w (callerA.deeper (lawEnv L fa cd)) h₀ (lawEnv L fa cd) (Str.ofString "fold") prodLoop Q (fun _ _ => False) it s₂) (fun _ _ => False) s := by
  have hI4 : IntsAre [Value.int a1 t1, Value.int a2 t2, Value.int a3 t3, Value.int a4 t4] [a1, a2, a3, a4] := .cons _ _ (.cons _ _ (.cons _ _ (.cons _ _ .nil)))
  have hin : ∀ (i : Nat) (k : Int), [a1, a2, a3, a4][i]? = some k → i < 4 ∧ k = [a1, a2, a3, a4].getD i 0 ∧ -1 ≤ k ∧ k ≤ 1 := by
    intro i k h
    match i, h with
    | 0, h => cases h; exact ⟨by decide, rfl, hb1⟩
    | 1, h => cases h; exact ⟨by decide, rfl, hb2⟩
    | 2, h => cases h; exact ⟨by decide, rfl, hb3⟩
    | 3, h => cases h; exact ⟨by decide, rfl, hb4⟩
    | (n + 4), h => cases h
  refine list_invU (EInv [a1, a2, a3, a4] R G C Z d0 ts fx) rfl (led_list N (List.Mem.head _)) hI4 F (nt N (fun p hp => List.Mem.tail _ hp)) ⟨hm, hk, [], T0, v0, u0, fx, rfl, fun p hp => hp, hR, rfl⟩ (fun e => (N _ (List.Mem.head _)).2.1 e.symm) ?_ ?_
  · intro i k t m₁ news₁ s₁ own o Q2 hk2 hv hne ho hc hown F1 N1 K
    obtain ⟨hm1, hk1, ps, Tl, tx, ty, tl, rfl, hfx, hR1, hO⟩ := hv
    obtain ⟨hi4, hkv, hkb⟩ := hin i k hk2
    refine prod_turn (w := w) (loose := loose) (mean := mean) (mg := mg) (mb := mb) fa cd L R Tl k _ _ t tx ty ps i (own ++ tl) m₁ base h₀ s₁ Q2 B (fr_under F1 hm1) X T (nc N1 (List.mem_append.mpr (.inr (List.Mem.head _))) (nc N1 (List.mem_append.mpr (.inr (List.Mem.tail _ (List.Mem.head _)))) (nt N1 (fun p hp => by
      rcases List.mem_append.mp hp with hp | hp
      · exact List.mem_append.mpr (.inl hp)
      · exact List.mem_append.mpr (.inr (List.Mem.tail _ (List.Mem.tail _ hp))))))) hkb (by rw [PySem.sizeLine_eq, List.size_toArray, List.length_append, hO.len, List.length_singleton]; omega) (fun p hp => ?_) ?_
    · rcases List.mem_cons.mp hp with rfl | hp
      · exact hR1 _ (List.Mem.head _)
      rcases List.mem_append.mp hp with hp | hp
      · rcases hown p hp with e | e
        · rw [e]; exact fun e2 => hne _ (List.Mem.head _) e2.symm
        · rw [e]; exact hlR
      · exact hR1 _ (List.Mem.tail _ hp)
    · intro D m2 h2 tk2 tx2 ty2 hDR hmp hmk F2 N2
      have hDI : D ≠ s.heap.objs.size := ne_cls N2 (List.Mem.tail _ (List.Mem.head _)) (List.Mem.tail _ (List.Mem.tail _ (List.Mem.tail _ (List.mem_append.mpr (.inl ho))))) (by rw [hc]; intro e; exact absurd (Value.type.inj e) (by decide))
      refine K h2 tk2 m2 ((R, W.listOf (ps ++ [Value.ref Tl] ++ [Value.ref D]).toArray (i + 1)) :: (D, tupO [.int (stepP k (prP [a1, a2, a3, a4] i)).1 tx2, .int (stepP k (prP [a1, a2, a3, a4] i)).2 ty2]) :: (Tl, tupO [.int (prP [a1, a2, a3, a4] i).1 tx, .int (prP [a1, a2, a3, a4] i).2 ty]) :: tl) F2 (fun p hp => N2 p ?_) (fun p hp => ?_) ⟨hmp, ?_, ps ++ [Value.ref Tl], D, tx2, ty2, (Tl, tupO [.int (prP [a1, a2, a3, a4] i).1 tx, .int (prP [a1, a2, a3, a4] i).2 ty]) :: tl, ?_, fun p hp => List.Mem.tail _ (hfx p hp), ?_, Tl, tx, ty, ps, rfl, List.Mem.head _, hO.mono (fun p hp => List.Mem.tail _ hp)⟩
      · rcases List.mem_append.mp hp with hp | hp
        · exact List.Mem.tail _ (List.Mem.tail _ (List.Mem.tail _ (List.mem_append.mpr (.inl hp))))
        rcases List.mem_cons.mp hp with rfl | hp
        · exact List.Mem.head _
        rcases List.mem_cons.mp hp with rfl | hp
        · exact List.Mem.tail _ (List.Mem.head _)
        rcases List.mem_cons.mp hp with rfl | hp
        · exact List.Mem.tail _ (List.Mem.tail _ (List.Mem.head _))
        exact List.Mem.tail _ (List.Mem.tail _ (List.Mem.tail _ (List.mem_append.mpr (.inr hp))))
      · rcases List.mem_cons.mp hp with rfl | hp
        · exact hne (R, W.listOf (ps ++ [Value.ref Tl]).toArray i) (List.Mem.head _)
        rcases List.mem_cons.mp hp with rfl | hp
        · exact hDI
        exact hne p (List.Mem.tail _ hp)
      · obtain ⟨k1, k2, k3, k4⟩ := hk1
        exact ⟨(hmk _ (by decide) (by decide) (by decide) (by decide)).trans k1, (hmk _ (by decide) (by decide) (by decide) (by decide)).trans k2, (hmk _ (by decide) (by decide) (by decide) (by decide)).trans k3, (hmk _ (by decide) (by decide) (by decide) (by decide)).trans k4⟩
      · rw [show prP [a1, a2, a3, a4] (i + 1) = stepP k (prP [a1, a2, a3, a4] i) by rw [hkv]; rfl]
      · intro p hp
        rcases List.mem_cons.mp hp with rfl | hp
        · exact hDR
        exact hR1 p hp
  · intro m2 news2 h2 tk2 hv F2 N2
    obtain ⟨hm1, ⟨k1, k2, k3, k4⟩, ps, Tl, tx, ty, tl, rfl, hfx, hR1, T3, x3, y3, ps3, rfl, m3, T2, x2, y2, ps2, rfl, mm2, T1, x1, y1, ps1, rfl, mm1, T0', x0, y0, ps0, rfl, mm0, e0⟩ := hv
    have e0 : ps0 = [] := e0
    subst e0
    exact fin T0' T1 T2 T3 Tl x0 y0 x1 y1 x2 y2 x3 y3 tx ty m2 h2 tk2 (fr_key0 (fr_key0 (fr_key0 (fr_key0 (fr_key0 F2 k4) k3) k2) k1) hm1)
      (nc N2 (List.Mem.head _) (nc N2 (List.Mem.tail _ (List.Mem.tail _ mm0)) (nc N2 (List.Mem.tail _ (List.Mem.tail _ mm1)) (nc N2 (List.Mem.tail _ (List.Mem.tail _ mm2)) (nc N2 (List.Mem.tail _ (List.Mem.tail _ m3)) (nc N2 (List.Mem.tail _ (List.Mem.head _)) (nt N2 (fun p hp => List.Mem.tail _ (List.Mem.tail _ (hfx p hp))))))))))
theorem law_e {w : World} {loose : List Str} {mean : ExcName → Option Value} {mg mb : Env0} (fa : Addr) (cd : Value) (l C Z D P G : Addr) (a1 a2 a3 a4 a5 d0 st : Int) (t1 t2 t3 t4 t5 ts tt : Tok) (n0 : Nat) (co go zo q1 q2 : Obj) (base h₀ : Heap) (L : Addr) (s : Shared) (rest : List Stmt) (Q : Flow → Shared → Prop)
    (B : Below callerA base [] h₀) (F : Fr h₀ L s.heap (fun y => if y = Str.ofString "headings" then some (.ref G) else if y = Str.ofString "creases" then some (.ref C) else if y = Str.ofString "sizes" then some (.ref Z) else if y = Str.ofString "steps" then some (.int d0 ts) else if y = Str.ofString "drawn" then some (.ref D) else if y = Str.ofString "script" then some (.ref l) else none)) (X : (hd.heap_39 w.params).In h₀) (T : Top hd.view_39 loose mean mg mb h₀)
    (N : News h₀ L s.heap [(G, go), (C, co), (P, W.listOf #[Value.int a1 t1, Value.int a2 t2, Value.int a3 t3, Value.int a4 t4, Value.int a5 t5] n0), (Z, zo), (L + 1 + 1, q2), (L + 1, q1)]) (hc2 : q2.data = .cell (some (.ref P))) (hb1 : -1 ≤ a1 ∧ a1 ≤ 1) (hb2 : -1 ≤ a2 ∧ a2 ≤ 1) (hb3 : -1 ≤ a3 ∧ a3 ≤ 1) (hb4 : -1 ≤ a4 ∧ a4 ≤ 1)
    (H : ∀ (R T0 T1 T2 T3 T4 : Addr) (v0 u0 v1 u1 v2 u2 v3 u3 v4 u4 : Tok) (m' : Env0) (h' : Heap) (tk : Nat), Fr h₀ L h' (fun y => if y = Str.ofString "products" then some (.ref R) else if y = Str.ofString "headings" then some (.ref G) else if y = Str.ofString "creases" then some (.ref C) else if y = Str.ofString "sizes" then some (.ref Z) else if y = Str.ofString "steps" then some (.int d0 ts) else m' y) → News h₀ L h' [(R, W.listOf #[Value.ref T0, Value.ref T1, Value.ref T2, Value.ref T3, Value.ref T4] 4), (T0, tupO [.int ((1 : Int), (0 : Int)).1 v0, .int ((1 : Int), (0 : Int)).2 u0]), (T1, tupO [.int (stepP a1 ((1 : Int), (0 : Int))).1 v1, .int (stepP a1 ((1 : Int), (0 : Int))).2 u1]), (T2, tupO [.int (stepP a2 (stepP a1 ((1 : Int), (0 : Int)))).1 v2, .int (stepP a2 (stepP a1 ((1 : Int), (0 : Int)))).2 u2]), (T3, tupO [.int (stepP a3 (stepP a2 (stepP a1 ((1 : Int), (0 : Int))))).1 v3, .int (stepP a3 (stepP a2 (stepP a1 ((1 : Int), (0 : Int))))).2 u3]), (T4, tupO [.int (stepP a4 (stepP a3 (stepP a2 (stepP a1 ((1 : Int), (0 : Int)))))).1 v4, .int (stepP a4 (stepP a3 (stepP a2 (stepP a1 ((1 : Int), (0 : Int)))))).2 u4]), (G, go), (C, co), (P, W.listOf #[Value.int a1 t1, Value.int a2 t2, Value.int a3 t3, Value.int a4 t4, Value.int a5 t5] n0), (Z, zo), (L + 1 + 1, q2), (L + 1, q1)] → wpAny (model PySem.Challenge.rw_wu0029_01.row.prog w) (callerA.deeper (lawEnv L fa cd)) (execs rest (lawEnv L fa cd)) Q (fun _ _ => False) { s with heap := h', toks := tk }) :
    wpAny (model PySem.Challenge.rw_wu0029_01.row.prog w) (callerA.deeper (lawEnv L fa cd)) (execs ((lawBody.drop 7).take 2 ++ rest) (lawEnv L fa cd)) Q (fun _ _ => False) s := by
  k_with_none
  k_with "mine subscriptTail" => (k_here; (with_reducible show wpAny _ _ (subscriptTail _ _ (Value.ref _) (Value.int (-1) _)) _ _ _); (rename News _ _ _ _ => N7); (with_unfolding_all refine' item_last (led_list N7 (List.Mem.head _)) ?_))
  k_with "mine call builtin:list.append" => (k_here; (with_reducible show wpAny _ _ (call (Value.builtin _) [Value.ref _, _]) _ _ _); (rename News _ _ _ _ => N7); (rename Fr _ _ _ _ => F7); (with_unfolding_all refine' append_K (its := (ps ++ [Value.ref Tl]).toArray) F7 N7 (Upd.tail ?ka (Upd.head hAll)) ?_ ?kz); (case ka => k_ne); (case kz => with_reducible exact hsz); intro h' F' N'; (rw [push_list] at N'))
  have hmark : (Mine.hd.heap_39 w.params).In h₀ ∧ PySem.Challenge.rw_wu0029_01.row.prog = PySem.Challenge.rw_wu0029_01.row.prog := ⟨X, rfl⟩
  revert hmark
  k_fill
  intro _
  unfold lawEnv
  conv in lawBody => whnf
  conv in lawScope => whnf
  conv in lawScope => whnf
  dsimp only [List.drop, List.take, List.cons_append, List.nil_append]
  k_steps
  (try dsimp only)
  (rename News _ _ _ _ => N7); (rename Fr _ _ _ _ => F7)
  with_unfolding_all refine' e_loop fa cd B F7 X T N7 ?hm ?hk ?hR ?hlR hb1 hb2 hb3 hb4 ?fin
  case hm => exact rfl
  case hk => exact ⟨rfl, rfl, rfl, rfl⟩
  case hlR => k_ne
  case hR =>
    intro p hp
    rcases List.mem_cons.mp hp with rfl | hp
    · k_ne
    rcases List.mem_cons.mp hp with rfl | hp
    · k_ne
    rcases List.mem_cons.mp hp with rfl | hp
    · k_ne
    rcases List.mem_cons.mp hp with rfl | hp
    · k_ne
    rcases List.mem_cons.mp hp with rfl | hp
    · k_ne
    rcases List.mem_cons.mp hp with rfl | hp
    · k_ne
    rcases List.mem_cons.mp hp with rfl | hp
    · k_ne
    cases hp
  case fin =>
    intro T0 T1 T2 T3 T4 v0 u0 v1 u1 v2 u2 v3 u3 v4 u4 m' h' tk F2 N2
    (try dsimp only)
    exact H _ T0 T1 T2 T3 T4 v0 u0 v1 u1 v2 u2 v3 u3 v4 u4 m' h' tk F2 N2
end Mine
end

section
open PySem PySem.W PyProof.Rows PySem.Calls PySem.Flt
set_option Elab.async false
set_option maxRecDepth 100000
set_option maxHeartbeats 2000000
namespace Mine
theorem pad_Lf : True := by
  w_top off
  k_with_none
  trivial
def divF (a b : Int) : UInt64 := Float64.ofFrac (decide (a < 0) != decide (b < 0)) a.natAbs b.natAbs
theorem law_f {w : World} {loose : List Str} {mean : ExcName → Option Value} {mg mb : Env0} (fa : Addr) (cd : Value) (m : Env0) (C Z P G R T0 T1 T2 T3 T4 : Addr) (d0 st : Int) (ts tt : Tok) (co go zo q1 q2 po ro to0 to1 to2 to3 to4 : Obj) (base h₀ : Heap) (L : Addr) (s : Shared) (rest : List Stmt) (Q : Flow → Shared → Prop)
    (B : Below callerA base [] h₀) (F : Fr h₀ L s.heap (fun y => if y = Str.ofString "products" then some (.ref R) else if y = Str.ofString "headings" then some (.ref G) else if y = Str.ofString "creases" then some (.ref C) else if y = Str.ofString "sizes" then some (.ref Z) else if y = Str.ofString "steps" then some (.int d0 ts) else m y)) (X : (hd.heap_39 w.params).In h₀) (T : Top hd.view_39 loose mean mg mb h₀)
    (N : News h₀ L s.heap [(R, ro), (T0, to0), (T1, to1), (T2, to2), (T3, to3), (T4, to4), (G, go), (C, co), (P, po), (Z, zo), (L + 1 + 1, q2), (L + 1, q1)]) (hc1 : q1.data = .cell (some (.int st tt))) (hst0 : 0 ≤ st) (hst3 : st ≤ 3)
    (H : ∀ (K A : Addr) (tb tg tr th te tn k0 k1 : Tok) (h' : Heap) (tk : Nat), th ≠ 0 → K ≠ A → R ≠ A → T0 ≠ A → T1 ≠ A → T2 ≠ A → T3 ≠ A → T4 ≠ A → G ≠ A → C ≠ A → P ≠ A → Z ≠ A → L + 1 + 1 ≠ A → L + 1 ≠ A → Fr h₀ L h' (fun y => if y = Str.ofString "corner" then some (.ref K) else if y = Str.ofString "passed" then some (.ref A) else if y = Str.ofString "blue" then some (.float 0 tb) else if y = Str.ofString "green" then some (.float 0 tg) else if y = Str.ofString "red" then some (.float 0 tr) else if y = Str.ofString "hue" then some (.float (divF st 4) th) else if y = Str.ofString "heading" then some (.int st tt) else if y = Str.ofString "east" then some (.int 0 te) else if y = Str.ofString "north" then some (.int 0 tn) else if y = Str.ofString "products" then some (.ref R) else if y = Str.ofString "headings" then some (.ref G) else if y = Str.ofString "creases" then some (.ref C) else if y = Str.ofString "sizes" then some (.ref Z) else if y = Str.ofString "steps" then some (.int d0 ts) else m y) → News h₀ L h' [(A, W.listOf #[] 0), (K, tupO [.int 0 k0, .int 0 k1]), (R, ro), (T0, to0), (T1, to1), (T2, to2), (T3, to3), (T4, to4), (G, go), (C, co), (P, po), (Z, zo), (L + 1 + 1, q2), (L + 1, q1)] → wpAny (model PySem.Challenge.rw_wu0029_01.row.prog w) (callerA.deeper (lawEnv L fa cd)) (execs rest (lawEnv L fa cd)) Q (fun _ _ => False) { s with heap := h', toks := tk }) :
    wpAny (model PySem.Challenge.rw_wu0029_01.row.prog w) (callerA.deeper (lawEnv L fa cd)) (execs ((lawBody.drop 9).take 3 ++ rest) (lawEnv L fa cd)) Q (fun _ _ => False) s := by
  have hmark : (Mine.hd.heap_39 w.params).In h₀ ∧ PySem.Challenge.rw_wu0029_01.row.prog = PySem.Challenge.rw_wu0029_01.row.prog := ⟨X, rfl⟩
  revert hmark
  k_fill
  intro _
  unfold lawEnv
  conv in lawBody => whnf
  conv in lawScope => whnf
  conv in lawScope => whnf
  dsimp only [List.drop, List.take, List.cons_append, List.nil_append]
  k_steps
  (try dsimp only)
  k_steps
  (rename News _ _ _ _ => N7); (rename Fr _ _ _ _ => F7)
  exact H _ _ _ _ _ _ _ _ _ _ _ _ (Nat.succ_ne_zero _) (by k_ne) (by k_ne) (by k_ne) (by k_ne) (by k_ne) (by k_ne) (by k_ne) (by k_ne) (by k_ne) (by k_ne) (by k_ne) (by k_ne) (by k_ne) F7 (news_sub N7 ⟨(List.Mem.tail _ (List.Mem.head _)), (List.Mem.tail _ (List.Mem.tail _ (List.Mem.head _))), (List.Mem.tail _ (List.Mem.tail _ (List.Mem.tail _ (List.Mem.tail _ (List.Mem.tail _ (List.Mem.head _)))))), (List.Mem.tail _ (List.Mem.tail _ (List.Mem.tail _ (List.Mem.tail _ (List.Mem.tail _ (List.Mem.tail _ (List.Mem.head _))))))), (List.Mem.tail _ (List.Mem.tail _ (List.Mem.tail _ (List.Mem.tail _ (List.Mem.tail _ (List.Mem.tail _ (List.Mem.tail _ (List.Mem.head _)))))))), (List.Mem.tail _ (List.Mem.tail _ (List.Mem.tail _ (List.Mem.tail _ (List.Mem.tail _ (List.Mem.tail _ (List.Mem.tail _ (List.Mem.tail _ (List.Mem.head _))))))))), (List.Mem.tail _ (List.Mem.tail _ (List.Mem.tail _ (List.Mem.tail _ (List.Mem.tail _ (List.Mem.tail _ (List.Mem.tail _ (List.Mem.tail _ (List.Mem.tail _ (List.Mem.head _)))))))))), (List.Mem.tail _ (List.Mem.tail _ (List.Mem.tail _ (List.Mem.tail _ (List.Mem.tail _ (List.Mem.tail _ (List.Mem.tail _ (List.Mem.tail _ (List.Mem.tail _ (List.Mem.tail _ (List.Mem.head _))))))))))), (List.Mem.tail _ (List.Mem.tail _ (List.Mem.tail _ (List.Mem.tail _ (List.Mem.tail _ (List.Mem.tail _ (List.Mem.tail _ (List.Mem.tail _ (List.Mem.tail _ (List.Mem.tail _ (List.Mem.tail _ (List.Mem.head _)))))))))))), (List.Mem.tail _ (List.Mem.tail _ (List.Mem.tail _ (List.Mem.tail _ (List.Mem.tail _ (List.Mem.tail _ (List.Mem.tail _ (List.Mem.tail _ (List.Mem.tail _ (List.Mem.tail _ (List.Mem.tail _ (List.Mem.tail _ (List.Mem.head _))))))))))))), (List.Mem.tail _ (List.Mem.tail _ (List.Mem.tail _ (List.Mem.tail _ (List.Mem.tail _ (List.Mem.tail _ (List.Mem.tail _ (List.Mem.tail _ (List.Mem.tail _ (List.Mem.tail _ (List.Mem.tail _ (List.Mem.tail _ (List.Mem.tail _ (List.Mem.head _)))))))))))))), (List.Mem.tail _ (List.Mem.tail _ (List.Mem.tail _ (List.Mem.tail _ (List.Mem.tail _ (List.Mem.tail _ (List.Mem.tail _ (List.Mem.tail _ (List.Mem.tail _ (List.Mem.tail _ (List.Mem.tail _ (List.Mem.tail _ (List.Mem.tail _ (List.Mem.tail _ (List.Mem.head _))))))))))))))), (List.Mem.tail _ (List.Mem.tail _ (List.Mem.tail _ (List.Mem.tail _ (List.Mem.tail _ (List.Mem.tail _ (List.Mem.tail _ (List.Mem.tail _ (List.Mem.tail _ (List.Mem.tail _ (List.Mem.tail _ (List.Mem.tail _ (List.Mem.tail _ (List.Mem.tail _ (List.Mem.tail _ (List.Mem.head _)))))))))))))))), (List.Mem.tail _ (List.Mem.tail _ (List.Mem.tail _ (List.Mem.tail _ (List.Mem.tail _ (List.Mem.tail _ (List.Mem.tail _ (List.Mem.tail _ (List.Mem.tail _ (List.Mem.tail _ (List.Mem.tail _ (List.Mem.tail _ (List.Mem.tail _ (List.Mem.tail _ (List.Mem.tail _ (List.Mem.tail _ (List.Mem.head _))))))))))))))))), trivial⟩)
end Mine
end

section
open PySem PySem.W PyProof.Rows PySem.Calls PySem.Flt
set_option Elab.async false
set_option maxRecDepth 100000
set_option maxHeartbeats 2000000
namespace Mine
theorem pad_Lg : True := by
  w_top off
  k_with_none
  trivial
local macro_rules | `(tactic| walk_at "call ref") => `(tactic| k_extra "mine call ref")
noncomputable def lawLoop : List Stmt := match (lawBody.drop 12).head? with | some (.For _ _ b _ _) => b | _ => []
theorem fr_key {h₀ h : Heap} {L : Addr} {M : Env0} {k : Str} {v : Value} (F : Fr h₀ L h M) (e : M k = some v) : Fr h₀ L h (fun y => if y = k then some v else M y) := by
  have e2 : M = fun y => if y = k then some v else M y := by
    funext y
    by_cases hy : y = k
    · rw [if_pos hy, hy]; exact e
    · rw [if_neg hy]
  rw [← e2]; exact F
theorem loop_a {w : World} {loose : List Str} {mean : ExcName → Option Value} {mg mb : Env0} (fa : Addr) (cd : Value) (i hg hg' a1 a2 a3 a4 a5 : Int) (hu hu' : UInt64) (ti th tu t1 t2 t3 t4 t5 : Tok) (rv gv bv ev nv : Value) (n0 : Nat) (A K R G C Z P : Addr) (wsG wsC : List Value) (hs cs : List Int) (q2 : Obj) (m : Env0) (tl : Led) (base h₀ : Heap) (L : Addr) (s : Shared) (rest : List Stmt) (Q : Flow → Shared → Prop)
    (B : Below callerA base [] h₀) (F : Fr h₀ L s.heap (fun y => if y = Str.ofString "number" then some (.int i ti) else if y = Str.ofString "heading" then some (.int hg th) else if y = Str.ofString "hue" then some (.float hu tu) else if y = Str.ofString "red" then some (rv) else if y = Str.ofString "green" then some (gv) else if y = Str.ofString "blue" then some (bv) else if y = Str.ofString "east" then some (ev) else if y = Str.ofString "north" then some (nv) else if y = Str.ofString "corner" then some (.ref K) else if y = Str.ofString "passed" then some (.ref A) else if y = Str.ofString "products" then some (.ref R) else if y = Str.ofString "headings" then some (.ref G) else if y = Str.ofString "creases" then some (.ref C) else if y = Str.ofString "sizes" then some (.ref Z) else m y)) (X : (hd.heap_39 w.params).In h₀) (T : Top hd.view_39 loose mean mg mb h₀)
    (N : News h₀ L s.heap ((G, LCg.lst wsG) :: (C, W.listOf wsC.toArray 0) :: (P, W.listOf #[Value.int a1 t1, Value.int a2 t2, Value.int a3 t3, Value.int a4 t4, Value.int a5 t5] n0) :: (L + 1 + 1, q2) :: tl)) (hq2 : q2.data = .cell (some (.ref P))) (hi0 : 0 ≤ i) (hi1 : i < 20) (hIG : IntsAre wsG hs) (hIC : IntsAre wsC cs) (hlG : i < (hs.length : Int)) (hlG2 : hs.length ≤ 1000) (hlC : i ≤ (cs.length : Int)) (hlC2 : cs.length ≤ 1000) (hst : (startS i).length ≤ 100) (htm : 0 < i → 1 ≤ timesZ i) (hrd : 0 < i → readZ i [a1, a2, a3, a4, a5] = cs.getD (i - 1).toNat 0) (hhd : hs.getD i.toNat 0 = hg') (e1a : 0 < i → hg' = hg + cs.getD (i - 1).toNat 0) (e1b : 0 < i → cs.getD (i - 1).toNat 0 = 1 → hu' = Float64.add hu 4598175219545276416) (e1c : 0 < i → cs.getD (i - 1).toNat 0 ≠ 1 → hu' = Float64.add hu 4604930618986332160) (e0 : ¬ 0 < i → hg' = hg ∧ hu' = hu) (htu : tu ≠ 0)
    (H : ∀ (th' tu' : Tok) (m' : Env0) (h' : Heap) (tk : Nat), tu' ≠ 0 → Fr h₀ L h' (fun y => if y = Str.ofString "number" then some (.int i ti) else if y = Str.ofString "heading" then some (.int hg' th') else if y = Str.ofString "hue" then some (.float hu' tu') else if y = Str.ofString "red" then some (rv) else if y = Str.ofString "green" then some (gv) else if y = Str.ofString "blue" then some (bv) else if y = Str.ofString "east" then some (ev) else if y = Str.ofString "north" then some (nv) else if y = Str.ofString "corner" then some (.ref K) else if y = Str.ofString "passed" then some (.ref A) else if y = Str.ofString "products" then some (.ref R) else if y = Str.ofString "headings" then some (.ref G) else if y = Str.ofString "creases" then some (.ref C) else if y = Str.ofString "sizes" then some (.ref Z) else m' y) → News h₀ L h' ((G, LCg.lst wsG) :: (C, W.listOf wsC.toArray 0) :: (P, W.listOf #[Value.int a1 t1, Value.int a2 t2, Value.int a3 t3, Value.int a4 t4, Value.int a5 t5] n0) :: (L + 1 + 1, q2) :: tl) → wpAny (model PySem.Challenge.rw_wu0029_01.row.prog w) (callerA.deeper (lawEnv L fa cd)) (execs rest (lawEnv L fa cd)) Q (fun _ _ => False) { s with heap := h', toks := tk }) :
    wpAny (model PySem.Challenge.rw_wu0029_01.row.prog w) (callerA.deeper (lawEnv L fa cd)) (execs ((lawLoop.drop 0).take 2 ++ rest) (lawEnv L fa cd)) Q (fun _ _ => False) s := by
  k_with_none
  k_with "mine call ref" => (k_here; (with_reducible show wpAny _ _ (call (Value.ref 128) [Value.int _ _, Value.ref _]) _ _ _); (with_unfolding_all refine' useI (read_ok _ _ _ _ _ ?hi ?hz ?hx0 ?hx1 ?hlen ?hC) ?k1 ?k2 ?k3 ?k4 ?k5 ?k6 ?k7 ?k8 ?k9 ?_); (case hi => exact (ints5 : IntsAre [Value.int a1 t1, Value.int a2 t2, Value.int a3 t3, Value.int a4 t4, Value.int a5 t5] [a1, a2, a3, a4, a5])); (case hz => with_unfolding_all rfl); (case hx0 => omega); (case hx1 => omega); (case hlen => assumption); (case hC => exact htm (by assumption)); (case k1 => k_asm); (case k2 => k_asm); (case k3 => k_asm); (case k4 => k_asm); (case k5 => k_asm); (case k6 => with_unfolding_all rfl); (case k7 => ((rename News _ _ _ _ => N7); exact led_list N7 (List.Mem.tail _ (List.Mem.tail _ (List.Mem.head _))))); (case k8 => ktr_room); (case k9 => ktr_units); intro t9 h9 tk9 F9 N9; (try dsimp only); (try k_fold))
  have hmark : (Mine.hd.heap_39 w.params).In h₀ ∧ PySem.Challenge.rw_wu0029_01.row.prog = PySem.Challenge.rw_wu0029_01.row.prog := ⟨X, rfl⟩
  revert hmark
  k_fill
  intro _
  unfold lawEnv
  conv in lawLoop => whnf
  conv in lawScope => whnf
  conv in lawScope => whnf
  dsimp only [List.drop, List.take, List.cons_append, List.nil_append]
  k_steps
  all_goals (try dsimp only)
  all_goals (try (exfalso; first | exact absurd (hrd (by assumption)) (by assumption) | exact absurd (hhd.trans (e1a (by assumption))) (by assumption) | exact absurd (hhd.trans (e0 (by assumption)).1) (by assumption)))
  all_goals k_steps
  all_goals ((rename News _ _ _ _ => N7); (rename Fr _ _ _ _ => F7))
  · obtain rfl := e1a (by assumption)
    obtain rfl := e1b (by assumption) (by assumption)
    exact H _ _ _ _ _ (Nat.succ_ne_zero _) (fr_key (k := Str.ofString "number") (v := .int i ti) (fr_key (k := Str.ofString "heading") (v := .int _ _) (fr_key (k := Str.ofString "hue") (v := .float _ _) (fr_key (k := Str.ofString "red") (v := rv) (fr_key (k := Str.ofString "green") (v := gv) (fr_key (k := Str.ofString "blue") (v := bv) (fr_key (k := Str.ofString "east") (v := ev) (fr_key (k := Str.ofString "north") (v := nv) (fr_key (k := Str.ofString "corner") (v := .ref K) (fr_key (k := Str.ofString "passed") (v := .ref A) (fr_key (k := Str.ofString "products") (v := .ref R) (fr_key (k := Str.ofString "headings") (v := .ref G) (fr_key (k := Str.ofString "creases") (v := .ref C) (fr_key (k := Str.ofString "sizes") (v := .ref Z) F7 rfl) rfl) rfl) rfl) rfl) rfl) rfl) rfl) rfl) rfl) rfl) rfl) rfl) rfl) (fun p hp => N7 p hp)
  · obtain rfl := e1a (by assumption)
    obtain rfl := e1c (by assumption) (by assumption)
    exact H _ _ _ _ _ (Nat.succ_ne_zero _) (fr_key (k := Str.ofString "number") (v := .int i ti) (fr_key (k := Str.ofString "heading") (v := .int _ _) (fr_key (k := Str.ofString "hue") (v := .float _ _) (fr_key (k := Str.ofString "red") (v := rv) (fr_key (k := Str.ofString "green") (v := gv) (fr_key (k := Str.ofString "blue") (v := bv) (fr_key (k := Str.ofString "east") (v := ev) (fr_key (k := Str.ofString "north") (v := nv) (fr_key (k := Str.ofString "corner") (v := .ref K) (fr_key (k := Str.ofString "passed") (v := .ref A) (fr_key (k := Str.ofString "products") (v := .ref R) (fr_key (k := Str.ofString "headings") (v := .ref G) (fr_key (k := Str.ofString "creases") (v := .ref C) (fr_key (k := Str.ofString "sizes") (v := .ref Z) F7 rfl) rfl) rfl) rfl) rfl) rfl) rfl) rfl) rfl) rfl) rfl) rfl) rfl) rfl) (fun p hp => N7 p hp)
  · obtain ⟨rfl, rfl⟩ := e0 (by assumption)
    exact H _ _ _ _ _ htu (fr_key (k := Str.ofString "number") (v := .int i ti) (fr_key (k := Str.ofString "heading") (v := .int _ _) (fr_key (k := Str.ofString "hue") (v := .float _ _) (fr_key (k := Str.ofString "red") (v := rv) (fr_key (k := Str.ofString "green") (v := gv) (fr_key (k := Str.ofString "blue") (v := bv) (fr_key (k := Str.ofString "east") (v := ev) (fr_key (k := Str.ofString "north") (v := nv) (fr_key (k := Str.ofString "corner") (v := .ref K) (fr_key (k := Str.ofString "passed") (v := .ref A) (fr_key (k := Str.ofString "products") (v := .ref R) (fr_key (k := Str.ofString "headings") (v := .ref G) (fr_key (k := Str.ofString "creases") (v := .ref C) (fr_key (k := Str.ofString "sizes") (v := .ref Z) F7 rfl) rfl) rfl) rfl) rfl) rfl) rfl) rfl) rfl) rfl) rfl) rfl) rfl) rfl) (fun p hp => N7 p hp)
end Mine
end

section
open PySem PySem.W PyProof.Rows PySem.Calls PySem.Flt
set_option Elab.async false
set_option maxRecDepth 100000
set_option maxHeartbeats 1000000
namespace Mine
theorem none_at {K : Frag} {h : Heap} {a : Addr} {mg : Str → Option Value} {n : Str} (X : K.In h) (G : h.Ns a mg) (e : nsIn K a n = some none) : mg n = none := by
  obtain ⟨o, es, ep, ho, hd, _, hf⟩ := G
  unfold nsIn at e
  split at e
  · rename_i c d es' n' sl q
    have := X _ _ q
    rw [ho] at this
    cases this
    cases hd
    split at e
    · cases e
    · rename_i he
      rw [← hf]
      unfold nsFind findBy
      rw [← Array.find?_toList, he]
      rfl
  · cases e
theorem booked_none {w : World} {h : Heap} {loose : List Str} {mean : ExcName → Option Value} {mg mb : Env0} (X : (hd.heap_39 w.params).In h) (T : Top hd.view_39 loose mean mg mb h) : NoneBooked h := by
  obtain ⟨mc, G, _⟩ := T.nodigits
  exact ⟨mc, G, none_at X G (by first | k_is | with_unfolding_all rfl | decide)⟩
theorem booked_fr {h₀ h : Heap} {L : Addr} {m : Env0} (F : Fr h₀ L h m) (b : NoneBooked h₀) : NoneBooked h := by
  obtain ⟨mc, G, e⟩ := b
  exact ⟨mc, G.keeps F.keep, e⟩
end Mine
end

section
open PySem PySem.W PyProof.Rows PySem.Calls PySem.Flt
set_option Elab.async false
set_option maxRecDepth 100000
set_option maxHeartbeats 700000
namespace Mine
theorem pad_Lh0 : True := by
  w_top off
  k_with_none
  trivial
local macro_rules | `(tactic| walk_at "call ref") => `(tactic| k_extra "mine call ref")
local macro_rules | `(tactic| walk_at "subscriptTail") => `(tactic| k_extra "mine subscriptTail")
local macro_rules | `(tactic| walk_at "compareOp Eq int int") => `(tactic| k_extra "mine compareOp Eq int int")
local macro_rules | `(tactic| walk_at "compareOp NotEq ref ref") => `(tactic| k_extra "mine compareOp NotEq ref ref")
theorem fin_not_inf {x : UInt64} (h : Float64.isFinite x = true) (h2 : Float64.isInf x = true) : False := by
  rw [nan_or_inf_or_finite, h2] at h
  simp at h
theorem loop_b0 {w : World} {loose : List Str} {mean : ExcName → Option Value} {mg mb : Env0} (fa : Addr) (cd : Value) (i hg z0 z1 : Int) (hu rr gg bb : UInt64) (ti th tu s0 s1 : Tok) (rv gv bv ev nv : Value) (A K R G C Z : Addr) (m : Env0) (tl : Led) (base h₀ : Heap) (L : Addr) (s : Shared) (rest : List Stmt) (Q : Flow → Shared → Prop)
    (B : Below callerA base [] h₀) (F : Fr h₀ L s.heap (fun y => if y = Str.ofString "number" then some (.int i ti) else if y = Str.ofString "heading" then some (.int hg th) else if y = Str.ofString "hue" then some (.float hu tu) else if y = Str.ofString "red" then some (rv) else if y = Str.ofString "green" then some (gv) else if y = Str.ofString "blue" then some (bv) else if y = Str.ofString "east" then some (ev) else if y = Str.ofString "north" then some (nv) else if y = Str.ofString "corner" then some (.ref K) else if y = Str.ofString "passed" then some (.ref A) else if y = Str.ofString "products" then some (.ref R) else if y = Str.ofString "headings" then some (.ref G) else if y = Str.ofString "creases" then some (.ref C) else if y = Str.ofString "sizes" then some (.ref Z) else m y)) (X : (hd.heap_39 w.params).In h₀) (T : Top hd.view_39 loose mean mg mb h₀)
    (N : News h₀ L s.heap ((Z, tupO [.int z0 s0, .int z1 s1]) :: tl)) (hi0 : 0 ≤ i) (hi1 : i < 20) (hp : i.fmod 2 = 0) (hz0 : 1 ≤ z0 ∧ z0 ≤ 8) (hz1 : 1 ≤ z1 ∧ z1 ≤ 8) (hcall : hsvP hu 4607182418800017408 (divF z0 8) = some (rr, gg, bb)) (htold : toHsvP rr gg bb = some (divF (hg.fmod 4) 4, 4607182418800017408, divF z0 8)) (htu : tu ≠ 0) (hf1 : Float64.isFinite (divF (hg.fmod 4) 4) = true) (hf2 : Float64.isFinite (divF z0 8) = true) (hf3 : Float64.isFinite (divF z0 8) = true)
    (H : ∀ (tu' tr tg tb : Tok) (m' : Env0) (h' : Heap) (tk : Nat), tu' ≠ 0 → Fr h₀ L h' (fun y => if y = Str.ofString "number" then some (.int i ti) else if y = Str.ofString "heading" then some (.int hg th) else if y = Str.ofString "hue" then some (.float (divF (hg.fmod 4) 4) tu') else if y = Str.ofString "red" then some (rv) else if y = Str.ofString "green" then some (gv) else if y = Str.ofString "blue" then some (bv) else if y = Str.ofString "east" then some (ev) else if y = Str.ofString "north" then some (nv) else if y = Str.ofString "corner" then some (.ref K) else if y = Str.ofString "passed" then some (.ref A) else if y = Str.ofString "products" then some (.ref R) else if y = Str.ofString "headings" then some (.ref G) else if y = Str.ofString "creases" then some (.ref C) else if y = Str.ofString "sizes" then some (.ref Z) else if y = Str.ofString "r" then some (.float rr tr) else if y = Str.ofString "g" then some (.float gg tg) else if y = Str.ofString "b" then some (.float bb tb) else m' y) → News h₀ L h' ((Z, tupO [.int z0 s0, .int z1 s1]) :: tl) → wpAny (model PySem.Challenge.rw_wu0029_01.row.prog w) (callerA.deeper (lawEnv L fa cd)) (execs rest (lawEnv L fa cd)) Q (fun _ _ => False) { s with heap := h', toks := tk }) :
    wpAny (model PySem.Challenge.rw_wu0029_01.row.prog w) (callerA.deeper (lawEnv L fa cd)) (execs ((lawLoop.drop 2).take 5 ++ rest) (lawEnv L fa cd)) Q (fun _ _ => False) s := by
  k_with_none
  k_with "mine call ref" => (k_here; (with_reducible show wpAny _ _ (call (Value.ref 28) [Value.ref 84, Value.float _ _, Value.float _ _, Value.float _ _]) _ _ _); (with_unfolding_all refine' call_ok _ _ _ _ _ _ _ _ _ ?z1 ?z2 ?z3 hcall _ _ _ _ _ _ _ _ _ _ _ _ _ _ _ _ _ _ ?k1 ?k2 ?k3 ?k4 ?k5 ?k6 ?k8 ?k9 ?_); (case z1 => exact htu); (case z2 => exact Nat.succ_ne_zero _); (case z3 => exact Nat.succ_ne_zero _); (case k1 => k_asm); (case k2 => k_asm); (case k3 => k_asm); (case k4 => k_asm); (case k5 => k_asm); (case k6 => with_unfolding_all rfl); (case k8 => ktr_room); (case k9 => ktr_units); intro r9 h9 tk9 t9 u9 v9 n9 n8 n7 F9 N9 ne9; (try dsimp only); (try k_fold))
  k_with "mine call ref" => (k_here; (with_reducible show wpAny _ _ (call (Value.ref 77) [Value.float _ _, Value.float _ _, Value.float _ _]) _ _ _); (with_unfolding_all refine' useF3 (tohsv_ok _ _ _ _ _ _ _ _ _ ?z1 ?z2 ?z3 htold) ?k1 ?k2 ?k3 ?k4 ?k5 ?k6 ?k7 ?k8 ?k9 ?_); (case z1 => assumption); (case z2 => assumption); (case z3 => assumption); (case k1 => k_asm); (case k2 => k_asm); (case k3 => k_asm); (case k4 => k_asm); (case k5 => k_asm); (case k6 => with_unfolding_all rfl); (case k7 => trivial); (case k8 => ktr_room); (case k9 => ktr_units); intro r8 h8 tk8 t8 u8 v8 m9 m8 m7 F8 N8 ne8; (try dsimp only); (try k_fold))
  k_with "mine call ref" => (k_here; (with_reducible show wpAny _ _ (call (Value.ref 70) [Value.float _ _, Value.float _ _, Value.float _ _]) _ _ _); (with_unfolding_all refine' useF3 (tohls_ok _ _ _ _ _ _ _ _ _ ?z1 ?z2 ?z3 htold) ?k1 ?k2 ?k3 ?k4 ?k5 ?k6 ?k7 ?k8 ?k9 ?_); (case z1 => assumption); (case z2 => assumption); (case z3 => assumption); (case k1 => k_asm); (case k2 => k_asm); (case k3 => k_asm); (case k4 => k_asm); (case k5 => k_asm); (case k6 => with_unfolding_all rfl); (case k7 => trivial); (case k8 => ktr_room); (case k9 => ktr_units); intro r8 h8 tk8 t8 u8 v8 m9 m8 m7 F8 N8 ne8; (try dsimp only); (try k_fold))
  k_with "mine subscriptTail" => (k_here; (with_reducible show wpAny _ _ (subscriptTail _ _ (Value.ref _) (Value.int (Int.fmod _ _) _)) _ _ _); rw [hp])
  k_with "mine compareOp Eq int int" => (k_here; (with_reducible show wpAny _ _ (compareOp _ (Value.int (Int.fmod _ _) _) _) _ _ _); rw [hp])
  k_with "mine compareOp NotEq ref ref" => (k_here; (with_reducible show wpAny _ _ (compareOp CmpOp.NotEq (Value.ref _) (Value.ref _)) _ _ _); (rename News _ _ _ _ => N7); (rename Fr _ _ _ _ => F7); (with_unfolding_all refine' ne_fff (tup_at (N7 _ (List.Mem.tail _ (List.Mem.head _))).1) (tup_at (N7 _ (List.Mem.head _)).1) ?ku (booked_fr F7 hbk) ?t1 ?t2 ?t3 ?t4 ?t5 ?t6 ?f1 ?f2 ?f3 ?_); (case ku => ktr_units); (case t1 => assumption); (case t2 => assumption); (case t3 => assumption); (case t4 => exact Nat.succ_ne_zero _); (case t5 => exact Nat.succ_ne_zero _); (case t6 => exact Nat.succ_ne_zero _); (case f1 => exact hf1); (case f2 => (with_unfolding_all decide +kernel)); (case f3 => exact hf2))
  have hmark : (Mine.hd.heap_39 w.params).In h₀ ∧ PySem.Challenge.rw_wu0029_01.row.prog = PySem.Challenge.rw_wu0029_01.row.prog := ⟨X, rfl⟩
  revert hmark
  k_fill
  intro _
  unfold lawEnv
  conv in lawLoop => whnf
  conv in lawScope => whnf
  conv in lawScope => whnf
  dsimp only [List.drop, List.take, List.cons_append, List.nil_append]
  have hbk : NoneBooked h₀ := booked_none X T
  k_steps
  all_goals (try (exact (fin_not_inf hf1 (by assumption)).elim))
  all_goals (try (exact (fin_not_inf hf2 (by assumption)).elim))
  all_goals (try (exact (fin_not_inf hf3 (by assumption)).elim))
  all_goals (try dsimp only)
  all_goals k_steps
  all_goals ((rename News _ _ _ _ => N7); (rename Fr _ _ _ _ => F7))
  exact H _ _ _ _ _ _ _ (by assumption) (fr_key (k := Str.ofString "number") (v := .int i ti) (fr_key (k := Str.ofString "heading") (v := .int hg th) (fr_key (k := Str.ofString "hue") (v := .float (divF (hg.fmod 4) 4) _) (fr_key (k := Str.ofString "red") (v := rv) (fr_key (k := Str.ofString "green") (v := gv) (fr_key (k := Str.ofString "blue") (v := bv) (fr_key (k := Str.ofString "east") (v := ev) (fr_key (k := Str.ofString "north") (v := nv) (fr_key (k := Str.ofString "corner") (v := .ref K) (fr_key (k := Str.ofString "passed") (v := .ref A) (fr_key (k := Str.ofString "products") (v := .ref R) (fr_key (k := Str.ofString "headings") (v := .ref G) (fr_key (k := Str.ofString "creases") (v := .ref C) (fr_key (k := Str.ofString "sizes") (v := .ref Z) (fr_key (k := Str.ofString "r") (v := .float rr _) (fr_key (k := Str.ofString "g") (v := .float gg _) (fr_key (k := Str.ofString "b") (v := .float bb _) F7 rfl) rfl) rfl) rfl) rfl) rfl) rfl) rfl) rfl) rfl) rfl) rfl) rfl) rfl) rfl) rfl) rfl) (fun p hp => N7 p (List.Mem.tail _ (List.Mem.tail _ (List.Mem.tail _ hp))))
end Mine
end

section
open PySem PySem.W PyProof.Rows PySem.Calls PySem.Flt
set_option Elab.async false
set_option maxRecDepth 100000
set_option maxHeartbeats 700000
namespace Mine
theorem pad_Lh1 : True := by
  w_top off
  k_with_none
  trivial
local macro_rules | `(tactic| walk_at "mine_pad") => `(tactic| fail "no")
local macro_rules | `(tactic| walk_at "call ref") => `(tactic| k_extra "mine call ref")
local macro_rules | `(tactic| walk_at "subscriptTail") => `(tactic| k_extra "mine subscriptTail")
local macro_rules | `(tactic| walk_at "compareOp Eq int int") => `(tactic| k_extra "mine compareOp Eq int int")
local macro_rules | `(tactic| walk_at "compareOp NotEq ref ref") => `(tactic| k_extra "mine compareOp NotEq ref ref")
theorem loop_b1 {w : World} {loose : List Str} {mean : ExcName → Option Value} {mg mb : Env0} (fa : Addr) (cd : Value) (i hg z0 z1 : Int) (hu rr gg bb : UInt64) (ti th tu s0 s1 : Tok) (rv gv bv ev nv : Value) (A K R G C Z : Addr) (m : Env0) (tl : Led) (base h₀ : Heap) (L : Addr) (s : Shared) (rest : List Stmt) (Q : Flow → Shared → Prop)
    (B : Below callerA base [] h₀) (F : Fr h₀ L s.heap (fun y => if y = Str.ofString "number" then some (.int i ti) else if y = Str.ofString "heading" then some (.int hg th) else if y = Str.ofString "hue" then some (.float hu tu) else if y = Str.ofString "red" then some (rv) else if y = Str.ofString "green" then some (gv) else if y = Str.ofString "blue" then some (bv) else if y = Str.ofString "east" then some (ev) else if y = Str.ofString "north" then some (nv) else if y = Str.ofString "corner" then some (.ref K) else if y = Str.ofString "passed" then some (.ref A) else if y = Str.ofString "products" then some (.ref R) else if y = Str.ofString "headings" then some (.ref G) else if y = Str.ofString "creases" then some (.ref C) else if y = Str.ofString "sizes" then some (.ref Z) else m y)) (X : (hd.heap_39 w.params).In h₀) (T : Top hd.view_39 loose mean mg mb h₀)
    (N : News h₀ L s.heap ((Z, tupO [.int z0 s0, .int z1 s1]) :: tl)) (hi0 : 0 ≤ i) (hi1 : i < 20) (hp : i.fmod 2 = 1) (hz0 : 1 ≤ z0 ∧ z0 ≤ 8) (hz1 : 1 ≤ z1 ∧ z1 ≤ 8) (hcall : hsvP hu 4607182418800017408 (divF z1 8) = some (rr, gg, bb)) (htold : toHlsP rr gg bb = some (divF (hg.fmod 4) 4, divF z1 16, 4607182418800017408)) (htu : tu ≠ 0) (hf1 : Float64.isFinite (divF (hg.fmod 4) 4) = true) (hf2 : Float64.isFinite (divF z1 16) = true) (hf3 : Float64.isFinite (divF z1 8) = true)
    (H : ∀ (tu' tr tg tb : Tok) (m' : Env0) (h' : Heap) (tk : Nat), tu' ≠ 0 → Fr h₀ L h' (fun y => if y = Str.ofString "number" then some (.int i ti) else if y = Str.ofString "heading" then some (.int hg th) else if y = Str.ofString "hue" then some (.float (divF (hg.fmod 4) 4) tu') else if y = Str.ofString "red" then some (rv) else if y = Str.ofString "green" then some (gv) else if y = Str.ofString "blue" then some (bv) else if y = Str.ofString "east" then some (ev) else if y = Str.ofString "north" then some (nv) else if y = Str.ofString "corner" then some (.ref K) else if y = Str.ofString "passed" then some (.ref A) else if y = Str.ofString "products" then some (.ref R) else if y = Str.ofString "headings" then some (.ref G) else if y = Str.ofString "creases" then some (.ref C) else if y = Str.ofString "sizes" then some (.ref Z) else if y = Str.ofString "r" then some (.float rr tr) else if y = Str.ofString "g" then some (.float gg tg) else if y = Str.ofString "b" then some (.float bb tb) else m' y) → News h₀ L h' ((Z, tupO [.int z0 s0, .int z1 s1]) :: tl) → wpAny (model PySem.Challenge.rw_wu0029_01.row.prog w) (callerA.deeper (lawEnv L fa cd)) (execs rest (lawEnv L fa cd)) Q (fun _ _ => False) { s with heap := h', toks := tk }) :
    wpAny (model PySem.Challenge.rw_wu0029_01.row.prog w) (callerA.deeper (lawEnv L fa cd)) (execs ((lawLoop.drop 2).take 5 ++ rest) (lawEnv L fa cd)) Q (fun _ _ => False) s := by
  k_with_none
  k_with "mine call ref" => (k_here; (with_reducible show wpAny _ _ (call (Value.ref 28) [Value.ref 84, Value.float _ _, Value.float _ _, Value.float _ _]) _ _ _); (with_unfolding_all refine' call_ok _ _ _ _ _ _ _ _ _ ?z1 ?z2 ?z3 hcall _ _ _ _ _ _ _ _ _ _ _ _ _ _ _ _ _ _ ?k1 ?k2 ?k3 ?k4 ?k5 ?k6 ?k8 ?k9 ?_); (case z1 => exact htu); (case z2 => exact Nat.succ_ne_zero _); (case z3 => exact Nat.succ_ne_zero _); (case k1 => k_asm); (case k2 => k_asm); (case k3 => k_asm); (case k4 => k_asm); (case k5 => k_asm); (case k6 => with_unfolding_all rfl); (case k8 => ktr_room); (case k9 => ktr_units); intro r9 h9 tk9 t9 u9 v9 n9 n8 n7 F9 N9 ne9; (try dsimp only); (try k_fold))
  k_with "mine call ref" => (k_here; (with_reducible show wpAny _ _ (call (Value.ref 77) [Value.float _ _, Value.float _ _, Value.float _ _]) _ _ _); (with_unfolding_all refine' useF3 (tohsv_ok _ _ _ _ _ _ _ _ _ ?z1 ?z2 ?z3 htold) ?k1 ?k2 ?k3 ?k4 ?k5 ?k6 ?k7 ?k8 ?k9 ?_); (case z1 => assumption); (case z2 => assumption); (case z3 => assumption); (case k1 => k_asm); (case k2 => k_asm); (case k3 => k_asm); (case k4 => k_asm); (case k5 => k_asm); (case k6 => with_unfolding_all rfl); (case k7 => trivial); (case k8 => ktr_room); (case k9 => ktr_units); intro r8 h8 tk8 t8 u8 v8 m9 m8 m7 F8 N8 ne8; (try dsimp only); (try k_fold))
  k_with "mine call ref" => (k_here; (with_reducible show wpAny _ _ (call (Value.ref 70) [Value.float _ _, Value.float _ _, Value.float _ _]) _ _ _); (with_unfolding_all refine' useF3 (tohls_ok _ _ _ _ _ _ _ _ _ ?z1 ?z2 ?z3 htold) ?k1 ?k2 ?k3 ?k4 ?k5 ?k6 ?k7 ?k8 ?k9 ?_); (case z1 => assumption); (case z2 => assumption); (case z3 => assumption); (case k1 => k_asm); (case k2 => k_asm); (case k3 => k_asm); (case k4 => k_asm); (case k5 => k_asm); (case k6 => with_unfolding_all rfl); (case k7 => trivial); (case k8 => ktr_room); (case k9 => ktr_units); intro r8 h8 tk8 t8 u8 v8 m9 m8 m7 F8 N8 ne8; (try dsimp only); (try k_fold))
  k_with "mine subscriptTail" => (k_here; (with_reducible show wpAny _ _ (subscriptTail _ _ (Value.ref _) (Value.int (Int.fmod _ _) _)) _ _ _); rw [hp])
  k_with "mine compareOp Eq int int" => (k_here; (with_reducible show wpAny _ _ (compareOp _ (Value.int (Int.fmod _ _) _) _) _ _ _); rw [hp])
  k_with "mine compareOp NotEq ref ref" => (k_here; (with_reducible show wpAny _ _ (compareOp CmpOp.NotEq (Value.ref _) (Value.ref _)) _ _ _); (rename News _ _ _ _ => N7); (rename Fr _ _ _ _ => F7); (with_unfolding_all refine' ne_fff (tup_at (N7 _ (List.Mem.tail _ (List.Mem.head _))).1) (tup_at (N7 _ (List.Mem.head _)).1) ?ku (booked_fr F7 hbk) ?t1 ?t2 ?t3 ?t4 ?t5 ?t6 ?f1 ?f2 ?f3 ?_); (case ku => ktr_units); (case t1 => assumption); (case t2 => assumption); (case t3 => assumption); (case t4 => exact Nat.succ_ne_zero _); (case t5 => exact Nat.succ_ne_zero _); (case t6 => exact Nat.succ_ne_zero _); (case f1 => exact hf1); (case f2 => exact hf2); (case f3 => (with_unfolding_all decide +kernel)))
  have hmark : (Mine.hd.heap_39 w.params).In h₀ ∧ PySem.Challenge.rw_wu0029_01.row.prog = PySem.Challenge.rw_wu0029_01.row.prog := ⟨X, rfl⟩
  revert hmark
  k_fill
  intro _
  unfold lawEnv
  conv in lawLoop => whnf
  conv in lawScope => whnf
  conv in lawScope => whnf
  dsimp only [List.drop, List.take, List.cons_append, List.nil_append]
  have hbk : NoneBooked h₀ := booked_none X T
  k_steps
  all_goals (try (exact (fin_not_inf hf1 (by assumption)).elim))
  all_goals (try (exact (fin_not_inf hf2 (by assumption)).elim))
  all_goals (try (exact (fin_not_inf hf3 (by assumption)).elim))
  all_goals (try dsimp only)
  all_goals k_steps
  all_goals ((rename News _ _ _ _ => N7); (rename Fr _ _ _ _ => F7))
  exact H _ _ _ _ _ _ _ (by assumption) (fr_key (k := Str.ofString "number") (v := .int i ti) (fr_key (k := Str.ofString "heading") (v := .int hg th) (fr_key (k := Str.ofString "hue") (v := .float (divF (hg.fmod 4) 4) _) (fr_key (k := Str.ofString "red") (v := rv) (fr_key (k := Str.ofString "green") (v := gv) (fr_key (k := Str.ofString "blue") (v := bv) (fr_key (k := Str.ofString "east") (v := ev) (fr_key (k := Str.ofString "north") (v := nv) (fr_key (k := Str.ofString "corner") (v := .ref K) (fr_key (k := Str.ofString "passed") (v := .ref A) (fr_key (k := Str.ofString "products") (v := .ref R) (fr_key (k := Str.ofString "headings") (v := .ref G) (fr_key (k := Str.ofString "creases") (v := .ref C) (fr_key (k := Str.ofString "sizes") (v := .ref Z) (fr_key (k := Str.ofString "r") (v := .float rr _) (fr_key (k := Str.ofString "g") (v := .float gg _) (fr_key (k := Str.ofString "b") (v := .float bb _) F7 rfl) rfl) rfl) rfl) rfl) rfl) rfl) rfl) rfl) rfl) rfl) rfl) rfl) rfl) rfl) rfl) rfl) (fun p hp => N7 p (List.Mem.tail _ (List.Mem.tail _ (List.Mem.tail _ hp))))
end Mine
end

section
open PySem PySem.W PyProof.Rows PySem.Calls PySem.Flt
set_option Elab.async false
set_option maxRecDepth 100000
set_option maxHeartbeats 1000000
namespace Mine
theorem pad_Li : True := by
  w_top off
  k_with_none
  trivial
def sxF (re gr bl : UInt64) : UInt64 := Float64.mul 4616189618054758400 (Float64.sub (Float64.sub (Float64.mul 4611686018427387904 re) gr) bl)
def syF (gr bl : UInt64) : UInt64 := Float64.mul 4620693217682128896 (Float64.sub gr bl)
def eaF (ea hg : Int) : Int := ea + [1, 0, -1, 0].getD (hg.fmod 4).toNat 0
def noF (no hg : Int) : Int := no + [0, 1, 0, -1].getD (hg.fmod 4).toNat 0
def rxF (z0 z1 st ea : Int) : Int := [z0, z1].getD (st.fmod 2).toNat 0 * ea
def ryF (z0 z1 st no : Int) : Int := [z0, z1].getD (1 - st.fmod 2).toNat 0 * no
theorem ne_ffii_f {prog : Program} {w : World} {A : Around} {E : Value → Shared → Prop} {s : Shared} {x y : UInt64} {X Y : Int} {t u t' u' : Tok} {a b : Addr} (ha : s.heap.IsTuple a #[.float x t, .float y u]) (hb : s.heap.IsTuple b #[.int X t', .int Y u']) (hu : A.units < cLine) {Q : Value → Shared → Prop} (hX : (Float64.cmpInt x X == some Ordering.eq) = true) (hY : (Float64.cmpInt y Y == some Ordering.eq) = true) (h : Q (.bool false) s) :
    wpAny (model prog w) A (compareOp .NotEq (.ref a) (.ref b)) Q E s := ne_ffii ha hb hu (by rw [hX, hY]; exact h)
local macro_rules | `(tactic| walk_at "execs cons") => `(tactic| k_extra "mine execs cons")
local macro_rules | `(tactic| walk_at "storeName") => `(tactic| k_extra "mine storeName")
local macro_rules | `(tactic| walk_at "eval BinOp") => `(tactic| k_extra "mine eval BinOp")
local macro_rules | `(tactic| walk_at "eval Subscript") => `(tactic| k_extra "mine eval Subscript")
local macro_rules | `(tactic| walk_at "spliced") => `(tactic| k_extra "mine spliced")
local macro_rules | `(tactic| walk_at "newTuple") => `(tactic| k_extra "mine newTuple")
local macro_rules | `(tactic| walk_at "compareOp NotEq ref ref") => `(tactic| k_extra "mine compareOp NotEq ref ref")
theorem loop_c {w : World} {loose : List Str} {mean : ExcName → Option Value} {mg mb : Env0} (fa : Addr) (cd : Value) (i hg z0 z1 ea no st : Int) (rr gg bb re gr bl : UInt64) (ti th s0 s1 tre tgr tbl tea tno tr tg tb tt : Tok) (hv : Value) (A K R G C Z : Addr) (q1 : Obj) (m : Env0) (tl : Led) (base h₀ : Heap) (L : Addr) (s : Shared) (rest : List Stmt) (Q : Flow → Shared → Prop)
    (B : Below callerA base [] h₀) (F : Fr h₀ L s.heap (fun y => if y = Str.ofString "number" then some (.int i ti) else if y = Str.ofString "heading" then some (.int hg th) else if y = Str.ofString "hue" then some (hv) else if y = Str.ofString "red" then some (.float re tre) else if y = Str.ofString "green" then some (.float gr tgr) else if y = Str.ofString "blue" then some (.float bl tbl) else if y = Str.ofString "east" then some (.int ea tea) else if y = Str.ofString "north" then some (.int no tno) else if y = Str.ofString "corner" then some (.ref K) else if y = Str.ofString "passed" then some (.ref A) else if y = Str.ofString "products" then some (.ref R) else if y = Str.ofString "headings" then some (.ref G) else if y = Str.ofString "creases" then some (.ref C) else if y = Str.ofString "sizes" then some (.ref Z) else if y = Str.ofString "r" then some (.float rr tr) else if y = Str.ofString "g" then some (.float gg tg) else if y = Str.ofString "b" then some (.float bb tb) else m y)) (X : (hd.heap_39 w.params).In h₀) (T : Top hd.view_39 loose mean mg mb h₀)
    (N : News h₀ L s.heap ((Z, tupO [.int z0 s0, .int z1 s1]) :: (L + 1, q1) :: tl)) (hc1 : q1.data = .cell (some (.int st tt))) (hm1 : IntMulOk ([z0, z1].getD (st.fmod 2).toNat 0) (ea + [1, 0, -1, 0].getD (hg.fmod 4).toNat 0)) (hm2 : IntMulOk ([z0, z1].getD (1 - st.fmod 2).toNat 0) (no + [0, 1, 0, -1].getD (hg.fmod 4).toNat 0)) (hX : (Float64.cmpInt (sxF (Float64.add re rr) (Float64.add gr gg) (Float64.add bl bb)) (rxF z0 z1 st (eaF ea hg)) == some Ordering.eq) = true) (hY : (Float64.cmpInt (syF (Float64.add gr gg) (Float64.add bl bb)) (ryF z0 z1 st (noF no hg)) == some Ordering.eq) = true)
    (H : ∀ (S RR : Addr) (x1 x2 x3 x4 xr xg xb xe xn : Tok) (m' : Env0) (h' : Heap) (tk : Nat), Fr h₀ L h' (fun y => if y = Str.ofString "number" then some (.int i ti) else if y = Str.ofString "heading" then some (.int hg th) else if y = Str.ofString "hue" then some (hv) else if y = Str.ofString "red" then some (.float (Float64.add re rr) xr) else if y = Str.ofString "green" then some (.float (Float64.add gr gg) xg) else if y = Str.ofString "blue" then some (.float (Float64.add bl bb) xb) else if y = Str.ofString "east" then some (.int (eaF ea hg) xe) else if y = Str.ofString "north" then some (.int (noF no hg) xn) else if y = Str.ofString "corner" then some (.ref K) else if y = Str.ofString "passed" then some (.ref A) else if y = Str.ofString "products" then some (.ref R) else if y = Str.ofString "headings" then some (.ref G) else if y = Str.ofString "creases" then some (.ref C) else if y = Str.ofString "sizes" then some (.ref Z) else if y = Str.ofString "spot" then some (.ref S) else if y = Str.ofString "reached" then some (.ref RR) else m' y) → News h₀ L h' ((S, tupO [.float (sxF (Float64.add re rr) (Float64.add gr gg) (Float64.add bl bb)) x1, .float (syF (Float64.add gr gg) (Float64.add bl bb)) x2]) :: (RR, tupO [.int (rxF z0 z1 st (eaF ea hg)) x3, .int (ryF z0 z1 st (noF no hg)) x4]) :: (Z, tupO [.int z0 s0, .int z1 s1]) :: (L + 1, q1) :: tl) → wpAny (model PySem.Challenge.rw_wu0029_01.row.prog w) (callerA.deeper (lawEnv L fa cd)) (execs rest (lawEnv L fa cd)) Q (fun _ _ => False) { s with heap := h', toks := tk }) :
    wpAny (model PySem.Challenge.rw_wu0029_01.row.prog w) (callerA.deeper (lawEnv L fa cd)) (execs ((lawLoop.drop 7).take 6 ++ rest) (lawEnv L fa cd)) Q (fun _ _ => False) s := by
  k_with_none
  k_with "mine execs cons" => (k_here; dsimp only)
  k_with "mine storeName" => (k_here; dsimp only)
  k_with "mine eval BinOp" => (k_here; dsimp only)
  k_with "mine eval Subscript" => (k_here; dsimp only)
  k_with "mine spliced" => (k_here; dsimp only)
  k_with "mine newTuple" => (k_here; dsimp only)
  k_with "mine compareOp NotEq ref ref" => (k_here; (with_reducible show wpAny _ _ (compareOp CmpOp.NotEq (Value.ref _) (Value.ref _)) _ _ _); (rename News _ _ _ _ => N7); (with_unfolding_all refine' ne_ffii_f (tup_at (N7 _ (List.Mem.tail _ (List.Mem.tail _ (List.Mem.tail _ (List.Mem.head _))))).1) (tup_at (N7 _ (List.Mem.head _)).1) ?ku hX hY ?_); (case ku => ktr_units))
  have hmark : (Mine.hd.heap_39 w.params).In h₀ ∧ PySem.Challenge.rw_wu0029_01.row.prog = PySem.Challenge.rw_wu0029_01.row.prog := ⟨X, rfl⟩
  revert hmark
  k_fill
  intro _
  unfold lawEnv
  conv in lawLoop => whnf
  conv in lawScope => whnf
  conv in lawScope => whnf
  dsimp only [List.drop, List.take, List.cons_append, List.nil_append]
  k_steps
  all_goals (try dsimp only)
  all_goals k_steps
  all_goals ((rename News _ _ _ _ => N7); (rename Fr _ _ _ _ => F7))
  exact H _ _ _ _ _ _ _ _ _ _ _ _ _ _ (fr_key (k := Str.ofString "number") (v := .int i ti) (fr_key (k := Str.ofString "heading") (v := .int hg th) (fr_key (k := Str.ofString "hue") (v := hv) (fr_key (k := Str.ofString "red") (v := .float (Float64.add re rr) _) (fr_key (k := Str.ofString "green") (v := .float (Float64.add gr gg) _) (fr_key (k := Str.ofString "blue") (v := .float (Float64.add bl bb) _) (fr_key (k := Str.ofString "east") (v := .int (eaF ea hg) _) (fr_key (k := Str.ofString "north") (v := .int (noF no hg) _) (fr_key (k := Str.ofString "corner") (v := .ref K) (fr_key (k := Str.ofString "passed") (v := .ref A) (fr_key (k := Str.ofString "products") (v := .ref R) (fr_key (k := Str.ofString "headings") (v := .ref G) (fr_key (k := Str.ofString "creases") (v := .ref C) (fr_key (k := Str.ofString "sizes") (v := .ref Z) (fr_key (k := Str.ofString "spot") (v := .ref _) (fr_key (k := Str.ofString "reached") (v := .ref _) F7 rfl) rfl) rfl) rfl) rfl) rfl) rfl) rfl) rfl) rfl) rfl) rfl) rfl) rfl) rfl) rfl) (nc N7 (List.Mem.tail _ (List.Mem.tail _ (List.Mem.tail _ (List.Mem.head _)))) (nc N7 (List.Mem.head _) (nc N7 (List.Mem.tail _ (List.Mem.tail _ (List.Mem.tail _ (List.Mem.tail _ (List.Mem.tail _ (List.Mem.head _)))))) (nc N7 (List.Mem.tail _ (List.Mem.tail _ (List.Mem.tail _ (List.Mem.tail _ (List.Mem.tail _ (List.Mem.tail _ (List.Mem.head _))))))) (nt N7 (fun p hp => (List.Mem.tail _ (List.Mem.tail _ (List.Mem.tail _ (List.Mem.tail _ (List.Mem.tail _ (List.Mem.tail _ (List.Mem.tail _ hp)))))))))))))
end Mine
end

section
open PySem PySem.W PyProof.Rows PySem.Calls PySem.Flt
set_option Elab.async false
set_option maxRecDepth 100000
set_option maxHeartbeats 1000000
namespace Mine
theorem pad_Lj : True := by
  w_top off
  k_with_none
  trivial
def FPairsIn (tl : Led) (ps : List Value) (qs : List (UInt64 × UInt64)) : Prop := ps.length = qs.length ∧ ∀ (k : Nat) (q : UInt64 × UInt64), qs[k]? = some q → ∃ (r : Addr) (t1 t2 : Tok), ps[k]? = some (Value.ref r) ∧ (r, tupO [Value.float q.1 t1, Value.float q.2 t2]) ∈ tl
theorem FPairsIn.snoc {tl tl2 : Led} {ps : List Value} {qs : List (UInt64 × UInt64)} {D : Addr} {x y : UInt64} {t u : Tok} (hp : FPairsIn tl ps qs) (hs : ∀ p ∈ tl, p ∈ tl2) (hD : (D, tupO [Value.float x t, Value.float y u]) ∈ tl2) : FPairsIn tl2 (ps ++ [.ref D]) (qs ++ [(x, y)]) := by
  refine ⟨by simp [hp.1], fun k q hq => ?_⟩
  rcases Nat.lt_or_ge k qs.length with hl | hl
  · rw [List.getElem?_append_left hl] at hq
    obtain ⟨r, t1, t2, e1, e2⟩ := hp.2 k q hq
    exact ⟨r, t1, t2, by rw [List.getElem?_append_left (hp.1 ▸ hl)]; exact e1, hs _ e2⟩
  · rw [List.getElem?_append_right hl] at hq
    have hk : k - qs.length = 0 := by
      rcases Nat.eq_zero_or_pos (k - qs.length) with h | h
      · exact h
      · rw [List.getElem?_eq_none (by simp only [List.length_cons, List.length_nil]; omega)] at hq; cases hq
    rw [hk] at hq
    cases hq
    exact ⟨D, t, u, by rw [List.getElem?_append_right (hp.1 ▸ hl), hp.1, hk]; rfl, hD⟩
theorem FPairsIn.at {h₀ h : Heap} {L : Addr} {all tl : Led} {ps : List Value} {qs : List (UInt64 × UInt64)} (hp : FPairsIn tl ps qs) (N : News h₀ L h all) (hs : ∀ p ∈ tl, p ∈ all) : FPairsAt h ps qs :=
  ⟨hp.1, fun k q hq => by
    obtain ⟨r, t1, t2, e1, e2⟩ := hp.2 k q hq
    exact ⟨r, t1, t2, e1, (N _ (hs _ e2)).1⟩⟩
local macro_rules | `(tactic| walk_at "call builtin:list.append") => `(tactic| k_extra "mine call builtin:list.append")
theorem use_index {w : World} {loose : List Str} {mean : ExcName → Option Value} {mg mb : Env0} {dp un : Nat} {gd : Option (List Code)} {cn : Str} {cs : Scope} {a : Addr} {ccd : Value} {cl : List (Str × Addr)} {outer : List Env} {A₀ : Around} {base h₀ : Heap} {L : Addr} {m : Env0} {s : Shared} {Q E : Value → Shared → Prop} {tl : Led} {e1 e2 e3 : Addr × Obj} {ps : List Value} {qs : List (UInt64 × UInt64)} {A D1 D2 : Addr} {n : Nat} {X Y : Int} {fx fy : UInt64} {t u t1 u1 : Tok}
    (hps : FPairsIn tl ps qs) (hq : hits (fx, fy) X Y = true) (hn : ∀ (j : Nat) q, qs[j]? = some q → hits q X Y = false)
    (N : News h₀ L s.heap ((D2, tupO [.int X t, .int Y u]) :: (D1, tupO [.float fx t1, .float fy u1]) :: (A, W.listOf (ps ++ [Value.ref D1]).toArray n) :: e1 :: e2 :: e3 :: tl)) (B : Below A₀ base outer h₀) (F : Fr h₀ L s.heap m) (X₀ : (hd.heap_39 w.params).In h₀) (T : Top hd.view_39 loose mean mg mb h₀) (hk : cs.kind = .function) (hd : dp + 2 < recursionLimit) (hu : un + 8 * 2 < cLine)
    (hr : ∀ tz h' tk', Fr h₀ L h' m → News h₀ L h' ((D2, tupO [.int X t, .int Y u]) :: (D1, tupO [.float fx t1, .float fy u1]) :: (A, W.listOf (ps ++ [Value.ref D1]).toArray n) :: e1 :: e2 :: e3 :: tl) → Q (.int (qs.length : Int) tz) { s with heap := h', toks := tk' }) :
    wpAny (model PySem.Challenge.rw_wu0029_01.row.prog w) (ktrTop dp un gd cn cs L a ccd cl outer) (call (Value.ref 21) [Value.ref A, Value.ref D2]) Q E s := by
  have hl : tl = tl := rfl
  refine useI (index_ok A D2 (ps ++ [Value.ref D1]) (qs ++ [(fx, fy)]) X Y t u qs.length (fx, fy) List.getElem?_concat_length hq (fun j q hj hj2 => hn j q (by rw [List.getElem?_append_left hj] at hj2; exact hj2))) B F X₀ N T hk ⟨led_list N (List.Mem.tail _ (List.Mem.tail _ (List.Mem.head _))), (hps.snoc (tl2 := _ :: _ :: _ :: _ :: _ :: _ :: tl) (fun p hp => List.Mem.tail _ (List.Mem.tail _ (List.Mem.tail _ (List.Mem.tail _ (List.Mem.tail _ (List.Mem.tail _ hp)))))) (List.Mem.tail _ (List.Mem.head _))).at N (fun p hp => hp), (N _ (List.Mem.head _)).1⟩ hd hu ?_
  exact fun t h' tk' F' N' => hr _ h' tk' F' N'
local macro_rules | `(tactic| walk_at "call ref") => `(tactic| k_extra "mine call ref")
theorem loop_d {w : World} {loose : List Str} {mean : ExcName → Option Value} {mg mb : Env0} (fa : Addr) (cd : Value) (i cx cy rx ry : Int) (sx sy : UInt64) (ti k0 k1 x1 x2 x3 x4 : Tok) (hv uv rv gv bv ev nv : Value) (A K R G C Z S RR : Addr) (ps : List Value) (qs : List (UInt64 × UInt64)) (nA : Nat) (m : Env0) (tl : Led) (base h₀ : Heap) (L : Addr) (s : Shared) (rest : List Stmt) (Q : Flow → Shared → Prop)
    (B : Below callerA base [] h₀) (F : Fr h₀ L s.heap (fun y => if y = Str.ofString "number" then some (.int i ti) else if y = Str.ofString "heading" then some (hv) else if y = Str.ofString "hue" then some (uv) else if y = Str.ofString "red" then some (rv) else if y = Str.ofString "green" then some (gv) else if y = Str.ofString "blue" then some (bv) else if y = Str.ofString "east" then some (ev) else if y = Str.ofString "north" then some (nv) else if y = Str.ofString "corner" then some (.ref K) else if y = Str.ofString "passed" then some (.ref A) else if y = Str.ofString "products" then some (.ref R) else if y = Str.ofString "headings" then some (.ref G) else if y = Str.ofString "creases" then some (.ref C) else if y = Str.ofString "sizes" then some (.ref Z) else if y = Str.ofString "spot" then some (.ref S) else if y = Str.ofString "reached" then some (.ref RR) else m y)) (X : (hd.heap_39 w.params).In h₀) (T : Top hd.view_39 loose mean mg mb h₀)
    (N : News h₀ L s.heap ((A, W.listOf ps.toArray nA) :: (K, tupO [.int cx k0, .int cy k1]) :: (S, tupO [.float sx x1, .float sy x2]) :: (RR, tupO [.int rx x3, .int ry x4]) :: tl)) (hAll : ∀ p ∈ ((K, tupO [.int cx k0, .int cy k1]) :: (S, tupO [.float sx x1, .float sy x2]) :: (RR, tupO [.int rx x3, .int ry x4]) :: tl), p.1 ≠ A) (hsz : ps.toArray.size ≤ sizeLine) (hps : FPairsIn tl ps qs) (hi : i = (qs.length : Int)) (hcx : ¬ 2 ^ 1024 - 2 ^ 970 ≤ cx.natAbs) (hcy : ¬ 2 ^ 1024 - 2 ^ 970 ≤ cy.natAbs) (hhit : hits (Float64.add (Float64.ofInt cx) sx, Float64.add (Float64.ofInt cy) sy) (cx + rx) (cy + ry) = true) (hnot : ∀ (j : Nat) q, qs[j]? = some q → hits q (cx + rx) (cy + ry) = false)
    (H : ∀ (D1 : Addr) (y1 y2 : Tok) (m' : Env0) (h' : Heap) (tk : Nat), D1 ≠ A → Fr h₀ L h' (fun y => if y = Str.ofString "number" then some (.int i ti) else if y = Str.ofString "heading" then some (hv) else if y = Str.ofString "hue" then some (uv) else if y = Str.ofString "red" then some (rv) else if y = Str.ofString "green" then some (gv) else if y = Str.ofString "blue" then some (bv) else if y = Str.ofString "east" then some (ev) else if y = Str.ofString "north" then some (nv) else if y = Str.ofString "corner" then some (.ref K) else if y = Str.ofString "passed" then some (.ref A) else if y = Str.ofString "products" then some (.ref R) else if y = Str.ofString "headings" then some (.ref G) else if y = Str.ofString "creases" then some (.ref C) else if y = Str.ofString "sizes" then some (.ref Z) else if y = Str.ofString "spot" then some (.ref S) else if y = Str.ofString "reached" then some (.ref RR) else m' y) → News h₀ L h' ((A, W.listOf (ps ++ [Value.ref D1]).toArray (nA + 1)) :: (D1, tupO [.float (Float64.add (Float64.ofInt cx) sx) y1, .float (Float64.add (Float64.ofInt cy) sy) y2]) :: (K, tupO [.int cx k0, .int cy k1]) :: (S, tupO [.float sx x1, .float sy x2]) :: (RR, tupO [.int rx x3, .int ry x4]) :: tl) → wpAny (model PySem.Challenge.rw_wu0029_01.row.prog w) (callerA.deeper (lawEnv L fa cd)) (execs rest (lawEnv L fa cd)) Q (fun _ _ => False) { s with heap := h', toks := tk }) :
    wpAny (model PySem.Challenge.rw_wu0029_01.row.prog w) (callerA.deeper (lawEnv L fa cd)) (execs ((lawLoop.drop 13).take 2 ++ rest) (lawEnv L fa cd)) Q (fun _ _ => False) s := by
  k_with_none
  k_with "mine call builtin:list.append" => (k_here; (with_reducible show wpAny _ _ (call (Value.builtin _) [Value.ref _, _]) _ _ _); (rename News _ _ _ _ => N7); (rename Fr _ _ _ _ => F7); (with_unfolding_all refine' append_K (its := ps.toArray) F7 N7 (Upd.tail ?ka (Upd.head hAll)) ?_ ?kz); (case ka => k_ne); (case kz => with_reducible exact hsz); intro h' F' N'; (rw [push_list] at N'))
  k_with "mine call ref" => (k_here; (with_reducible show wpAny _ _ (call (Value.ref 21) [Value.ref _, Value.ref _]) _ _ _); (rename News _ _ _ _ => N7); (with_unfolding_all refine' use_index hps hhit hnot N7 ?k1 ?k2 ?k3 ?k5 ?k6 ?k8 ?k9 ?_); (case k1 => k_asm); (case k2 => k_asm); (case k3 => k_asm); (case k5 => k_asm); (case k6 => with_unfolding_all rfl); (case k8 => ktr_room); (case k9 => ktr_units); intro t9 h9 tk9 F9 N9; (try dsimp only); (try k_fold))
  have hmark : (Mine.hd.heap_39 w.params).In h₀ ∧ PySem.Challenge.rw_wu0029_01.row.prog = PySem.Challenge.rw_wu0029_01.row.prog := ⟨X, rfl⟩
  revert hmark
  k_fill
  intro _
  unfold lawEnv
  conv in lawLoop => whnf
  conv in lawScope => whnf
  conv in lawScope => whnf
  dsimp only [List.drop, List.take, List.cons_append, List.nil_append]
  k_steps
  all_goals (try (exact absurd (by assumption) hcx))
  all_goals (try (exact absurd (by assumption) hcy))
  all_goals (try dsimp only)
  all_goals (try (exact absurd hi.symm (by assumption)))
  all_goals ((rename News _ _ _ _ => N7); (rename Fr _ _ _ _ => F7))
  exact H _ _ _ _ _ _ (by k_ne) (fr_key (k := Str.ofString "number") (v := .int i ti) (fr_key (k := Str.ofString "heading") (v := hv) (fr_key (k := Str.ofString "hue") (v := uv) (fr_key (k := Str.ofString "red") (v := rv) (fr_key (k := Str.ofString "green") (v := gv) (fr_key (k := Str.ofString "blue") (v := bv) (fr_key (k := Str.ofString "east") (v := ev) (fr_key (k := Str.ofString "north") (v := nv) (fr_key (k := Str.ofString "corner") (v := .ref K) (fr_key (k := Str.ofString "passed") (v := .ref A) (fr_key (k := Str.ofString "products") (v := .ref R) (fr_key (k := Str.ofString "headings") (v := .ref G) (fr_key (k := Str.ofString "creases") (v := .ref C) (fr_key (k := Str.ofString "sizes") (v := .ref Z) (fr_key (k := Str.ofString "spot") (v := .ref S) (fr_key (k := Str.ofString "reached") (v := .ref RR) F7 rfl) rfl) rfl) rfl) rfl) rfl) rfl) rfl) rfl) rfl) rfl) rfl) rfl) rfl) rfl) rfl) (nc N7 (List.Mem.tail _ (List.Mem.tail _ (List.Mem.head _))) (nc N7 (List.Mem.tail _ (List.Mem.head _)) (nc N7 (List.Mem.tail _ (List.Mem.tail _ (List.Mem.tail _ (List.Mem.head _)))) (nc N7 (List.Mem.tail _ (List.Mem.tail _ (List.Mem.tail _ (List.Mem.tail _ (List.Mem.head _))))) (nc N7 (List.Mem.tail _ (List.Mem.tail _ (List.Mem.tail _ (List.Mem.tail _ (List.Mem.tail _ (List.Mem.head _)))))) (nt N7 (fun p hp => (List.Mem.tail _ (List.Mem.tail _ (List.Mem.tail _ (List.Mem.tail _ (List.Mem.tail _ (List.Mem.tail _ hp)))))))))))))
end Mine
end

section
open PySem PySem.W PyProof.Rows PySem.Calls PySem.Flt
set_option Elab.async false
set_option maxRecDepth 100000
set_option maxHeartbeats 1000000
namespace Mine
theorem pad_Lk : True := by
  w_top off
  k_with_none
  trivial
local macro_rules | `(tactic| walk_at "mine_pad") => `(tactic| fail "no")
theorem ne_iiii_f {prog : Program} {w : World} {A : Around} {E : Value → Shared → Prop} {s : Shared} {p q p' q' : Int} {t u t' u' : Tok} {a b : Addr} (ha : s.heap.IsTuple a #[.int p t, .int q u]) (hb : s.heap.IsTuple b #[.int p' t', .int q' u']) (hu : A.units < cLine) {Q : Value → Shared → Prop} (h1 : p = p') (h2 : q = q') (h : Q (.bool false) s) :
    wpAny (model prog w) A (compareOp .NotEq (.ref a) (.ref b)) Q E s := ne_iiii ha hb hu (by subst h1 h2; simpa using h)
theorem use_place {w : World} {loose : List Str} {mean : ExcName → Option Value} {mg mb : Env0} {dp un : Nat} {gd : Option (List Code)} {cn : Str} {cs : Scope} {a : Addr} {ccd : Value} {cl : List (Str × Addr)} {outer : List Env} {A₀ : Around} {base h₀ : Heap} {L : Addr} {m : Env0} {s : Shared} {Q E : Value → Shared → Prop} {tl : Led} {wsG : List Value} {ns : List Int} {G R T0 T1 T2 T3 T4 : Addr} {p0 p1 p2 p3 p4 : Int × Int} {v0 u0 v1 u1 v2 u2 v3 u3 v4 u4 t : Tok} {x : Int}
    (hi : IntsAre wsG ns) (hx0 : 0 ≤ x) (hx1 : x ≤ 1000) (hz : ns.length ≤ 1000) (hB : BeforeOk x ns)
    (N : News h₀ L s.heap ((G, LCg.lst wsG) :: (R, W.listOf #[Value.ref T0, Value.ref T1, Value.ref T2, Value.ref T3, Value.ref T4] 4) :: (T0, tupO [.int p0.1 v0, .int p0.2 u0]) :: (T1, tupO [.int p1.1 v1, .int p1.2 u1]) :: (T2, tupO [.int p2.1 v2, .int p2.2 u2]) :: (T3, tupO [.int p3.1 v3, .int p3.2 u3]) :: (T4, tupO [.int p4.1 v4, .int p4.2 u4]) :: tl)) (B : Below A₀ base outer h₀) (F : Fr h₀ L s.heap m) (X₀ : (hd.heap_39 w.params).In h₀) (T : Top hd.view_39 loose mean mg mb h₀) (hk : cs.kind = .function) (hd : dp + 2 < recursionLimit) (hu : un + 8 * 2 < cLine)
    (hr : ∀ r h' tk' t1 t2, Fr h₀ L h' m → News h₀ L h' ((r, tupO [.int (placeF x ns [p0, p1, p2, p3, p4] [0, 1, 2, 3, 4]).1 t1, .int (placeF x ns [p0, p1, p2, p3, p4] [0, 1, 2, 3, 4]).2 t2]) :: ((G, LCg.lst wsG) :: (R, W.listOf #[Value.ref T0, Value.ref T1, Value.ref T2, Value.ref T3, Value.ref T4] 4) :: (T0, tupO [.int p0.1 v0, .int p0.2 u0]) :: (T1, tupO [.int p1.1 v1, .int p1.2 u1]) :: (T2, tupO [.int p2.1 v2, .int p2.2 u2]) :: (T3, tupO [.int p3.1 v3, .int p3.2 u3]) :: (T4, tupO [.int p4.1 v4, .int p4.2 u4]) :: tl)) → Q (.ref r) { s with heap := h', toks := tk' }) :
    wpAny (model PySem.Challenge.rw_wu0029_01.row.prog w) (ktrTop dp un gd cn cs L a ccd cl outer) (call (Value.ref 142) [Value.int x t, Value.ref G, Value.ref R]) Q E s := by
  have hp : PairsAt s.heap [Value.ref T0, Value.ref T1, Value.ref T2, Value.ref T3, Value.ref T4] [p0, p1, p2, p3, p4] := ⟨rfl, fun k q hq => by
    match k, hq with
    | 0, hq => cases hq; exact ⟨T0, v0, u0, rfl, tup_at (N _ (List.Mem.tail _ (List.Mem.tail _ (List.Mem.head _)))).1⟩
    | 1, hq => cases hq; exact ⟨T1, v1, u1, rfl, tup_at (N _ (List.Mem.tail _ (List.Mem.tail _ (List.Mem.tail _ (List.Mem.head _))))).1⟩
    | 2, hq => cases hq; exact ⟨T2, v2, u2, rfl, tup_at (N _ (List.Mem.tail _ (List.Mem.tail _ (List.Mem.tail _ (List.Mem.tail _ (List.Mem.head _)))))).1⟩
    | 3, hq => cases hq; exact ⟨T3, v3, u3, rfl, tup_at (N _ (List.Mem.tail _ (List.Mem.tail _ (List.Mem.tail _ (List.Mem.tail _ (List.Mem.tail _ (List.Mem.head _))))))).1⟩
    | 4, hq => cases hq; exact ⟨T4, v4, u4, rfl, tup_at (N _ (List.Mem.tail _ (List.Mem.tail _ (List.Mem.tail _ (List.Mem.tail _ (List.Mem.tail _ (List.Mem.tail _ (List.Mem.head _)))))))).1⟩
    | (n + 5), hq => cases hq⟩
  refine useI2 (place_ok x t G R wsG [Value.ref T0, Value.ref T1, Value.ref T2, Value.ref T3, Value.ref T4] ns [p0, p1, p2, p3, p4] hi hx0 hx1 hz rfl hB) B F X₀ N T hk ⟨⟨_, (N _ (List.Mem.head _)).1, rfl, wsG.length, rfl⟩, led_list N (List.Mem.tail _ (List.Mem.head _)), hp⟩ hd hu ?_
  exact fun r h' tk' t1 t2 F' N' _ => hr r h' tk' t1 t2 F' N'
local macro_rules | `(tactic| walk_at "call ref") => `(tactic| k_extra "mine call ref")
local macro_rules | `(tactic| walk_at "compareOp NotEq ref ref") => `(tactic| k_extra "mine compareOp NotEq ref ref")
theorem loop_e {w : World} {loose : List Str} {mean : ExcName → Option Value} {mg mb : Env0} (fa : Addr) (cd : Value) (i ea no : Int) (p0 p1 p2 p3 p4 : Int × Int) (ti tea tno v0 u0 v1 u1 v2 u2 v3 u3 v4 u4 : Tok) (hv uv rv gv bv : Value) (A K R G C Z RR T0 T1 T2 T3 T4 : Addr) (wsG : List Value) (hs : List Int) (m : Env0) (tl : Led) (base h₀ : Heap) (L : Addr) (s : Shared) (rest : List Stmt) (Q : Flow → Shared → Prop)
    (B : Below callerA base [] h₀) (F : Fr h₀ L s.heap (fun y => if y = Str.ofString "number" then some (.int i ti) else if y = Str.ofString "heading" then some (hv) else if y = Str.ofString "hue" then some (uv) else if y = Str.ofString "red" then some (rv) else if y = Str.ofString "green" then some (gv) else if y = Str.ofString "blue" then some (bv) else if y = Str.ofString "east" then some (.int ea tea) else if y = Str.ofString "north" then some (.int no tno) else if y = Str.ofString "corner" then some (.ref K) else if y = Str.ofString "passed" then some (.ref A) else if y = Str.ofString "products" then some (.ref R) else if y = Str.ofString "headings" then some (.ref G) else if y = Str.ofString "creases" then some (.ref C) else if y = Str.ofString "sizes" then some (.ref Z) else if y = Str.ofString "reached" then some (.ref RR) else m y)) (X : (hd.heap_39 w.params).In h₀) (T : Top hd.view_39 loose mean mg mb h₀)
    (N : News h₀ L s.heap ((G, LCg.lst wsG) :: (R, W.listOf #[Value.ref T0, Value.ref T1, Value.ref T2, Value.ref T3, Value.ref T4] 4) :: (T0, tupO [.int p0.1 v0, .int p0.2 u0]) :: (T1, tupO [.int p1.1 v1, .int p1.2 u1]) :: (T2, tupO [.int p2.1 v2, .int p2.2 u2]) :: (T3, tupO [.int p3.1 v3, .int p3.2 u3]) :: (T4, tupO [.int p4.1 v4, .int p4.2 u4]) :: tl)) (hi0 : 0 ≤ i) (hi1 : i < 20) (hIG : IntsAre wsG hs) (hlG2 : hs.length ≤ 1000) (hB : BeforeOk (i + 1) hs) (hE : (placeF (i + 1) hs [p0, p1, p2, p3, p4] [0, 1, 2, 3, 4]).1 = ea) (hN : (placeF (i + 1) hs [p0, p1, p2, p3, p4] [0, 1, 2, 3, 4]).2 = no)
    (H : ∀  (m' : Env0) (h' : Heap) (tk : Nat), Fr h₀ L h' (fun y => if y = Str.ofString "number" then some (.int i ti) else if y = Str.ofString "heading" then some (hv) else if y = Str.ofString "hue" then some (uv) else if y = Str.ofString "red" then some (rv) else if y = Str.ofString "green" then some (gv) else if y = Str.ofString "blue" then some (bv) else if y = Str.ofString "east" then some (.int ea tea) else if y = Str.ofString "north" then some (.int no tno) else if y = Str.ofString "corner" then some (.ref RR) else if y = Str.ofString "passed" then some (.ref A) else if y = Str.ofString "products" then some (.ref R) else if y = Str.ofString "headings" then some (.ref G) else if y = Str.ofString "creases" then some (.ref C) else if y = Str.ofString "sizes" then some (.ref Z) else m' y) → News h₀ L h' ((G, LCg.lst wsG) :: (R, W.listOf #[Value.ref T0, Value.ref T1, Value.ref T2, Value.ref T3, Value.ref T4] 4) :: (T0, tupO [.int p0.1 v0, .int p0.2 u0]) :: (T1, tupO [.int p1.1 v1, .int p1.2 u1]) :: (T2, tupO [.int p2.1 v2, .int p2.2 u2]) :: (T3, tupO [.int p3.1 v3, .int p3.2 u3]) :: (T4, tupO [.int p4.1 v4, .int p4.2 u4]) :: tl) → wpAny (model PySem.Challenge.rw_wu0029_01.row.prog w) (callerA.deeper (lawEnv L fa cd)) (execs rest (lawEnv L fa cd)) Q (fun _ _ => False) { s with heap := h', toks := tk }) :
    wpAny (model PySem.Challenge.rw_wu0029_01.row.prog w) (callerA.deeper (lawEnv L fa cd)) (execs ((lawLoop.drop 15).take 2 ++ rest) (lawEnv L fa cd)) Q (fun _ _ => False) s := by
  k_with_none
  k_with "mine call ref" => (k_here; (with_reducible show wpAny _ _ (call (Value.ref 142) [Value.int _ _, Value.ref _, Value.ref _]) _ _ _); (rename News _ _ _ _ => N7); (with_unfolding_all refine' use_place hIG ?hx0 ?hx1 hlG2 hB N7 ?k1 ?k2 ?k3 ?k5 ?k6 ?k8 ?k9 ?_); (case hx0 => omega); (case hx1 => omega); (case k1 => k_asm); (case k2 => k_asm); (case k3 => k_asm); (case k5 => k_asm); (case k6 => with_unfolding_all rfl); (case k8 => ktr_room); (case k9 => ktr_units); intro r9 h9 tk9 t9 u9 F9 N9; (try dsimp only); (try k_fold))
  k_with "mine compareOp NotEq ref ref" => (k_here; (with_reducible show wpAny _ _ (compareOp CmpOp.NotEq (Value.ref _) (Value.ref _)) _ _ _); (rename News _ _ _ _ => N7); (with_unfolding_all refine' ne_iiii_f (tup_at (N7 _ (List.Mem.tail _ (List.Mem.head _))).1) (tup_at (N7 _ (List.Mem.head _)).1) ?ku hE hN ?_); (case ku => ktr_units))
  have hmark : (Mine.hd.heap_39 w.params).In h₀ ∧ PySem.Challenge.rw_wu0029_01.row.prog = PySem.Challenge.rw_wu0029_01.row.prog := ⟨X, rfl⟩
  revert hmark
  k_fill
  intro _
  unfold lawEnv
  conv in lawLoop => whnf
  conv in lawScope => whnf
  conv in lawScope => whnf
  dsimp only [List.drop, List.take, List.cons_append, List.nil_append]
  k_steps
  all_goals (try dsimp only)
  all_goals k_steps
  all_goals ((rename News _ _ _ _ => N7); (rename Fr _ _ _ _ => F7))
  exact H _ _ _ (fr_key (k := Str.ofString "number") (v := .int i ti) (fr_key (k := Str.ofString "heading") (v := hv) (fr_key (k := Str.ofString "hue") (v := uv) (fr_key (k := Str.ofString "red") (v := rv) (fr_key (k := Str.ofString "green") (v := gv) (fr_key (k := Str.ofString "blue") (v := bv) (fr_key (k := Str.ofString "east") (v := .int ea tea) (fr_key (k := Str.ofString "north") (v := .int no tno) (fr_key (k := Str.ofString "corner") (v := .ref RR) (fr_key (k := Str.ofString "passed") (v := .ref A) (fr_key (k := Str.ofString "products") (v := .ref R) (fr_key (k := Str.ofString "headings") (v := .ref G) (fr_key (k := Str.ofString "creases") (v := .ref C) (fr_key (k := Str.ofString "sizes") (v := .ref Z) F7 rfl) rfl) rfl) rfl) rfl) rfl) rfl) rfl) rfl) rfl) rfl) rfl) rfl) rfl) (nc N7 (List.Mem.tail _ (List.Mem.tail _ (List.Mem.head _))) (nc N7 (List.Mem.tail _ (List.Mem.tail _ (List.Mem.tail _ (List.Mem.head _)))) (nc N7 (List.Mem.tail _ (List.Mem.tail _ (List.Mem.tail _ (List.Mem.tail _ (List.Mem.head _))))) (nc N7 (List.Mem.tail _ (List.Mem.tail _ (List.Mem.tail _ (List.Mem.tail _ (List.Mem.tail _ (List.Mem.head _)))))) (nc N7 (List.Mem.tail _ (List.Mem.tail _ (List.Mem.tail _ (List.Mem.tail _ (List.Mem.tail _ (List.Mem.tail _ (List.Mem.head _))))))) (nc N7 (List.Mem.tail _ (List.Mem.tail _ (List.Mem.tail _ (List.Mem.tail _ (List.Mem.tail _ (List.Mem.tail _ (List.Mem.tail _ (List.Mem.head _)))))))) (nc N7 (List.Mem.tail _ (List.Mem.tail _ (List.Mem.tail _ (List.Mem.tail _ (List.Mem.tail _ (List.Mem.tail _ (List.Mem.tail _ (List.Mem.tail _ (List.Mem.head _))))))))) (nt N7 (fun p hp => (List.Mem.tail _ (List.Mem.tail _ (List.Mem.tail _ (List.Mem.tail _ (List.Mem.tail _ (List.Mem.tail _ (List.Mem.tail _ (List.Mem.tail _ (List.Mem.tail _ hp))))))))))))))))))
end Mine
end

section
open PySem PySem.W PyProof.Rows PySem.Calls PySem.Flt
set_option Elab.async false
set_option maxRecDepth 100000
set_option maxHeartbeats 2000000
namespace Mine

section
variable (a1 a2 a3 a4 a5 st z0 z1 : Int) (n : Nat)
def csF : List Int := openedF [a1, a2, a3, a4, a5]
def hsF : List Int := (rangeKs 0 ((n : Int) - 0).toNat).map (fun k => st + turnedZ k [a1, a2, a3, a4, a5])
def prF : List (Int × Int) := [((1 : Int), (0 : Int)), (stepP a1 ((1 : Int), (0 : Int))), (stepP a2 (stepP a1 ((1 : Int), (0 : Int)))), (stepP a3 (stepP a2 (stepP a1 ((1 : Int), (0 : Int))))), (stepP a4 (stepP a3 (stepP a2 (stepP a1 ((1 : Int), (0 : Int))))))]
def hgA : Nat → Int
  | 0 => st
  | i + 1 => (hsF a1 a2 a3 a4 a5 st n).getD i 0
def huA (i : Nat) : UInt64 := divF ((hgA a1 a2 a3 a4 a5 st n i).fmod 4) 4
def hueF (i : Nat) : UInt64 := if 0 < i then (if (csF a1 a2 a3 a4 a5).getD (i - 1) 0 = 1 then Float64.add (huA a1 a2 a3 a4 a5 st n i) 4598175219545276416 else Float64.add (huA a1 a2 a3 a4 a5 st n i) 4604930618986332160) else huA a1 a2 a3 a4 a5 st n i
def zzF (i : Nat) : Int := if i % 2 = 0 then z0 else z1
def rgbF (i : Nat) : UInt64 × UInt64 × UInt64 := (hsvP (hueF a1 a2 a3 a4 a5 st n i) 4607182418800017408 (divF (zzF z0 z1 i) 8)).getD (0, 0, 0)
def reA : Nat → UInt64
  | 0 => 0
  | i + 1 => Float64.add (reA i) (rgbF a1 a2 a3 a4 a5 st z0 z1 n i).1
def grA : Nat → UInt64
  | 0 => 0
  | i + 1 => Float64.add (grA i) (rgbF a1 a2 a3 a4 a5 st z0 z1 n i).2.1
def blA : Nat → UInt64
  | 0 => 0
  | i + 1 => Float64.add (blA i) (rgbF a1 a2 a3 a4 a5 st z0 z1 n i).2.2
def eaA : Nat → Int
  | 0 => 0
  | i + 1 => eaF (eaA i) (hgA a1 a2 a3 a4 a5 st n (i + 1))
def noA : Nat → Int
  | 0 => 0
  | i + 1 => noF (noA i) (hgA a1 a2 a3 a4 a5 st n (i + 1))
def cxA (i : Nat) : Int := rxF z0 z1 st (eaA a1 a2 a3 a4 a5 st n i)
def cyA (i : Nat) : Int := ryF z0 z1 st (noA a1 a2 a3 a4 a5 st n i)
def sxA (i : Nat) : UInt64 := sxF (reA a1 a2 a3 a4 a5 st z0 z1 n i) (grA a1 a2 a3 a4 a5 st z0 z1 n i) (blA a1 a2 a3 a4 a5 st z0 z1 n i)
def syA (i : Nat) : UInt64 := syF (grA a1 a2 a3 a4 a5 st z0 z1 n i) (blA a1 a2 a3 a4 a5 st z0 z1 n i)
def qA (i : Nat) : UInt64 × UInt64 := (Float64.add (Float64.ofInt (cxA a1 a2 a3 a4 a5 st z0 z1 n i)) (sxA a1 a2 a3 a4 a5 st z0 z1 n (i + 1)), Float64.add (Float64.ofInt (cyA a1 a2 a3 a4 a5 st z0 z1 n i)) (syA a1 a2 a3 a4 a5 st z0 z1 n (i + 1)))
structure Good : Prop where
  rd : ∀ i : Nat, i < n → 0 < i → readZ i [a1, a2, a3, a4, a5] = (csF a1 a2 a3 a4 a5).getD (i - 1) 0
  tm : ∀ i : Nat, i < n → 0 < i → 1 ≤ timesZ i
  sl : ∀ i : Nat, i < n → (startS i).length ≤ 100
  hg : ∀ i : Nat, i < n → 0 < i → hgA a1 a2 a3 a4 a5 st n (i + 1) = hgA a1 a2 a3 a4 a5 st n i + (csF a1 a2 a3 a4 a5).getD (i - 1) 0
  hg0 : hgA a1 a2 a3 a4 a5 st n 1 = st
  cl : ∀ i : Nat, i < n → hsvP (hueF a1 a2 a3 a4 a5 st n i) 4607182418800017408 (divF (zzF z0 z1 i) 8) = some (rgbF a1 a2 a3 a4 a5 st z0 z1 n i)
  to0 : ∀ i : Nat, i < n → i % 2 = 0 → toHsvP (rgbF a1 a2 a3 a4 a5 st z0 z1 n i).1 (rgbF a1 a2 a3 a4 a5 st z0 z1 n i).2.1 (rgbF a1 a2 a3 a4 a5 st z0 z1 n i).2.2 = some (huA a1 a2 a3 a4 a5 st n (i + 1), 4607182418800017408, divF z0 8)
  to1 : ∀ i : Nat, i < n → i % 2 = 1 → toHlsP (rgbF a1 a2 a3 a4 a5 st z0 z1 n i).1 (rgbF a1 a2 a3 a4 a5 st z0 z1 n i).2.1 (rgbF a1 a2 a3 a4 a5 st z0 z1 n i).2.2 = some (huA a1 a2 a3 a4 a5 st n (i + 1), divF z1 16, 4607182418800017408)
  fi : ∀ i : Nat, Float64.isFinite (huA a1 a2 a3 a4 a5 st n i) = true
  m1 : ∀ i : Nat, i < n → IntMulOk ([z0, z1].getD (st.fmod 2).toNat 0) (eaA a1 a2 a3 a4 a5 st n (i + 1))
  m2 : ∀ i : Nat, i < n → IntMulOk ([z0, z1].getD (1 - st.fmod 2).toNat 0) (noA a1 a2 a3 a4 a5 st n (i + 1))
  cX : ∀ i : Nat, i < n → (Float64.cmpInt (sxA a1 a2 a3 a4 a5 st z0 z1 n (i + 1)) (cxA a1 a2 a3 a4 a5 st z0 z1 n (i + 1)) == some Ordering.eq) = true
  cY : ∀ i : Nat, i < n → (Float64.cmpInt (syA a1 a2 a3 a4 a5 st z0 z1 n (i + 1)) (cyA a1 a2 a3 a4 a5 st z0 z1 n (i + 1)) == some Ordering.eq) = true
  bx : ∀ i : Nat, i < n → ¬ 2 ^ 1024 - 2 ^ 970 ≤ (cxA a1 a2 a3 a4 a5 st z0 z1 n i).natAbs
  by' : ∀ i : Nat, i < n → ¬ 2 ^ 1024 - 2 ^ 970 ≤ (cyA a1 a2 a3 a4 a5 st z0 z1 n i).natAbs
  hit : ∀ i : Nat, i < n → hits (qA a1 a2 a3 a4 a5 st z0 z1 n i) (cxA a1 a2 a3 a4 a5 st z0 z1 n i + cxA a1 a2 a3 a4 a5 st z0 z1 n (i + 1)) (cyA a1 a2 a3 a4 a5 st z0 z1 n i + cyA a1 a2 a3 a4 a5 st z0 z1 n (i + 1)) = true
  nhit : ∀ i j : Nat, i < n → j < i → hits (qA a1 a2 a3 a4 a5 st z0 z1 n j) (cxA a1 a2 a3 a4 a5 st z0 z1 n i + cxA a1 a2 a3 a4 a5 st z0 z1 n (i + 1)) (cyA a1 a2 a3 a4 a5 st z0 z1 n i + cyA a1 a2 a3 a4 a5 st z0 z1 n (i + 1)) = false
  bo : ∀ i : Nat, i < n → BeforeOk (i + 1) (hsF a1 a2 a3 a4 a5 st n)
  pE : ∀ i : Nat, i < n → (placeF (i + 1) (hsF a1 a2 a3 a4 a5 st n) (prF a1 a2 a3 a4) [0, 1, 2, 3, 4]).1 = eaA a1 a2 a3 a4 a5 st n (i + 1)
  pN : ∀ i : Nat, i < n → (placeF (i + 1) (hsF a1 a2 a3 a4 a5 st n) (prF a1 a2 a3 a4) [0, 1, 2, 3, 4]).2 = noA a1 a2 a3 a4 a5 st n (i + 1)
end
theorem body_eq : lawLoop = (lawLoop.drop 0).take 2 ++ ((lawLoop.drop 2).take 5 ++ ((lawLoop.drop 7).take 6 ++ ((lawLoop.drop 13).take 2 ++ ((lawLoop.drop 15).take 2 ++ [])))) := by
  with_unfolding_all rfl
end Mine
end

section
open PySem PySem.W PyProof.Rows PySem.Calls PySem.Flt
set_option Elab.async false
set_option maxRecDepth 100000
set_option maxHeartbeats 2000000
namespace Mine
theorem hsF_len (a1 a2 a3 a4 a5 st : Int) (n : Nat) : (hsF a1 a2 a3 a4 a5 st n).length = n := by
  unfold hsF
  rw [List.length_map, rangeKs_length]; omega
theorem fmod2 (i : Nat) : (i : Int).fmod 2 = ((i % 2 : Nat) : Int) := by
  rw [Int.fmod_eq_emod_of_nonneg _ (by decide)]; rfl
theorem range_get {α : Type} {f : Nat → α} {i j : Nat} {q : α} (h : ((List.range i).map f)[j]? = some q) : j < i ∧ q = f j := by
  rw [List.getElem?_map] at h
  have hl : j < i := by
    rcases Nat.lt_or_ge j i with hl | hl
    · exact hl
    · rw [List.getElem?_eq_none (by simpa using hl)] at h; cases h
  rw [List.getElem?_range hl] at h
  exact ⟨hl, (Option.some.inj h).symm⟩
theorem loop_turn {w : World} {loose : List Str} {mean : ExcName → Option Value} {mg mb : Env0} (fa : Addr) (cd : Value) (a1 a2 a3 a4 a5 st z0 z1 : Int) (n i : Nat) (t1 t2 t3 t4 t5 tt s0 s1 v0 u0 v1 u1 v2 u2 v3 u3 v4 u4 ti th tu tre tgr tbl tea tno k0 k1 : Tok) (n0 nA : Nat) (A I K R G C Z P T0 T1 T2 T3 T4 : Addr) (it q1 q2 : Obj) (wsG wsC ps : List Value) (bs : Led) (m : Env0) (base h₀ : Heap) (L : Addr) (s : Shared) (Q : Flow → Shared → Prop)
    (B : Below callerA base [] h₀) (F : Fr h₀ L s.heap (fun y => if y = Str.ofString "number" then some (.int (i : Int) ti) else if y = Str.ofString "heading" then some (.int (hgA a1 a2 a3 a4 a5 st n i) th) else if y = Str.ofString "hue" then some (.float (huA a1 a2 a3 a4 a5 st n i) tu) else if y = Str.ofString "red" then some (.float (reA a1 a2 a3 a4 a5 st z0 z1 n i) tre) else if y = Str.ofString "green" then some (.float (grA a1 a2 a3 a4 a5 st z0 z1 n i) tgr) else if y = Str.ofString "blue" then some (.float (blA a1 a2 a3 a4 a5 st z0 z1 n i) tbl) else if y = Str.ofString "east" then some (.int (eaA a1 a2 a3 a4 a5 st n i) tea) else if y = Str.ofString "north" then some (.int (noA a1 a2 a3 a4 a5 st n i) tno) else if y = Str.ofString "corner" then some (.ref K) else if y = Str.ofString "passed" then some (.ref A) else if y = Str.ofString "products" then some (.ref R) else if y = Str.ofString "headings" then some (.ref G) else if y = Str.ofString "creases" then some (.ref C) else if y = Str.ofString "sizes" then some (.ref Z) else m y)) (X : (hd.heap_39 w.params).In h₀) (T : Top hd.view_39 loose mean mg mb h₀) (N : News h₀ L s.heap ((I, it) :: (A, W.listOf ps.toArray nA) :: (K, tupO [.int (cxA a1 a2 a3 a4 a5 st z0 z1 n i) k0, .int (cyA a1 a2 a3 a4 a5 st z0 z1 n i) k1]) :: bs))
    (Gd : Good a1 a2 a3 a4 a5 st z0 z1 n) (hin : i < n) (hn : n ≤ 20) (hfix : ∀ p ∈ [(G, LCg.lst wsG), (R, W.listOf #[Value.ref T0, Value.ref T1, Value.ref T2, Value.ref T3, Value.ref T4] 4), (T0, tupO [.int ((1 : Int), (0 : Int)).1 v0, .int ((1 : Int), (0 : Int)).2 u0]), (T1, tupO [.int (stepP a1 ((1 : Int), (0 : Int))).1 v1, .int (stepP a1 ((1 : Int), (0 : Int))).2 u1]), (T2, tupO [.int (stepP a2 (stepP a1 ((1 : Int), (0 : Int)))).1 v2, .int (stepP a2 (stepP a1 ((1 : Int), (0 : Int)))).2 u2]), (T3, tupO [.int (stepP a3 (stepP a2 (stepP a1 ((1 : Int), (0 : Int))))).1 v3, .int (stepP a3 (stepP a2 (stepP a1 ((1 : Int), (0 : Int))))).2 u3]), (T4, tupO [.int (stepP a4 (stepP a3 (stepP a2 (stepP a1 ((1 : Int), (0 : Int)))))).1 v4, .int (stepP a4 (stepP a3 (stepP a2 (stepP a1 ((1 : Int), (0 : Int)))))).2 u4]), (C, W.listOf wsC.toArray 0), (P, W.listOf #[Value.int a1 t1, Value.int a2 t2, Value.int a3 t3, Value.int a4 t4, Value.int a5 t5] n0), (Z, tupO [.int z0 s0, .int z1 s1]), (L + 1 + 1, q2), (L + 1, q1)], p ∈ bs) (hc1 : q1.data = .cell (some (.int st tt))) (hc2 : q2.data = .cell (some (.ref P)))
    (hIG : IntsAre wsG (hsF a1 a2 a3 a4 a5 st n)) (hIC : IntsAre wsC (csF a1 a2 a3 a4 a5)) (hcl : (csF a1 a2 a3 a4 a5).length = 31) (hz0 : 1 ≤ z0 ∧ z0 ≤ 8) (hz1 : 1 ≤ z1 ∧ z1 ≤ 8) (hf : ∀ z : Int, 1 ≤ z → z ≤ 8 → Float64.isFinite (divF z 8) = true ∧ Float64.isFinite (divF z 16) = true) (htu : tu ≠ 0)
    (hAne : ∀ p ∈ ((I, it) :: (K, tupO [.int (cxA a1 a2 a3 a4 a5 st z0 z1 n i) k0, .int (cyA a1 a2 a3 a4 a5 st z0 z1 n i) k1]) :: bs), p.1 ≠ A) (hps : FPairsIn bs ps ((List.range i).map (qA a1 a2 a3 a4 a5 st z0 z1 n)))
    (H : ∀ (m' : Env0) (h' : Heap) (tk : Nat) (K' D1 : Addr) (th' tu' tre' tgr' tbl' tea' tno' k0' k1' y1 y2 : Tok), tu' ≠ 0 → D1 ≠ A → K' ≠ A → Fr h₀ L h' (fun y => if y = Str.ofString "heading" then some (.int (hgA a1 a2 a3 a4 a5 st n (i + 1)) th') else if y = Str.ofString "hue" then some (.float (huA a1 a2 a3 a4 a5 st n (i + 1)) tu') else if y = Str.ofString "red" then some (.float (reA a1 a2 a3 a4 a5 st z0 z1 n (i + 1)) tre') else if y = Str.ofString "green" then some (.float (grA a1 a2 a3 a4 a5 st z0 z1 n (i + 1)) tgr') else if y = Str.ofString "blue" then some (.float (blA a1 a2 a3 a4 a5 st z0 z1 n (i + 1)) tbl') else if y = Str.ofString "east" then some (.int (eaA a1 a2 a3 a4 a5 st n (i + 1)) tea') else if y = Str.ofString "north" then some (.int (noA a1 a2 a3 a4 a5 st n (i + 1)) tno') else if y = Str.ofString "corner" then some (.ref K') else if y = Str.ofString "passed" then some (.ref A) else if y = Str.ofString "products" then some (.ref R) else if y = Str.ofString "headings" then some (.ref G) else if y = Str.ofString "creases" then some (.ref C) else if y = Str.ofString "sizes" then some (.ref Z) else m' y) → News h₀ L h' ((I, it) :: (A, W.listOf (ps ++ [Value.ref D1]).toArray (nA + 1)) :: (K', tupO [.int (cxA a1 a2 a3 a4 a5 st z0 z1 n (i + 1)) k0', .int (cyA a1 a2 a3 a4 a5 st z0 z1 n (i + 1)) k1']) :: (D1, tupO [.float (qA a1 a2 a3 a4 a5 st z0 z1 n i).1 y1, .float (qA a1 a2 a3 a4 a5 st z0 z1 n i).2 y2]) :: bs) → Q .next { s with heap := h', toks := tk }) :
    wpAny (model PySem.Challenge.rw_wu0029_01.row.prog w) (callerA.deeper (lawEnv L fa cd)) (execs lawLoop (lawEnv L fa cd)) Q (fun _ _ => False) s := by
  have mx : ∀ p ∈ [(G, LCg.lst wsG), (R, W.listOf #[Value.ref T0, Value.ref T1, Value.ref T2, Value.ref T3, Value.ref T4] 4), (T0, tupO [.int ((1 : Int), (0 : Int)).1 v0, .int ((1 : Int), (0 : Int)).2 u0]), (T1, tupO [.int (stepP a1 ((1 : Int), (0 : Int))).1 v1, .int (stepP a1 ((1 : Int), (0 : Int))).2 u1]), (T2, tupO [.int (stepP a2 (stepP a1 ((1 : Int), (0 : Int)))).1 v2, .int (stepP a2 (stepP a1 ((1 : Int), (0 : Int)))).2 u2]), (T3, tupO [.int (stepP a3 (stepP a2 (stepP a1 ((1 : Int), (0 : Int))))).1 v3, .int (stepP a3 (stepP a2 (stepP a1 ((1 : Int), (0 : Int))))).2 u3]), (T4, tupO [.int (stepP a4 (stepP a3 (stepP a2 (stepP a1 ((1 : Int), (0 : Int)))))).1 v4, .int (stepP a4 (stepP a3 (stepP a2 (stepP a1 ((1 : Int), (0 : Int)))))).2 u4]), (C, W.listOf wsC.toArray 0), (P, W.listOf #[Value.int a1 t1, Value.int a2 t2, Value.int a3 t3, Value.int a4 t4, Value.int a5 t5] n0), (Z, tupO [.int z0 s0, .int z1 s1]), (L + 1 + 1, q2), (L + 1, q1)], p ∈ ((I, it) :: (A, W.listOf ps.toArray nA) :: (K, tupO [.int (cxA a1 a2 a3 a4 a5 st z0 z1 n i) k0, .int (cyA a1 a2 a3 a4 a5 st z0 z1 n i) k1]) :: bs) := fun p hp => List.Mem.tail _ (List.Mem.tail _ (List.Mem.tail _ (hfix p hp)))
  have hlen : (hsF a1 a2 a3 a4 a5 st n).length = n := hsF_len _ _ _ _ _ _ _
  have ei : ((i : Int) - 1).toNat = i - 1 := by omega
  have ej : ((i : Int)).toNat = i := by omega
  rw [body_eq]
  refine loop_a (hg' := (hgA a1 a2 a3 a4 a5 st n (i + 1))) (hu' := hueF a1 a2 a3 a4 a5 st n i) (tl := ((I, it) :: (A, W.listOf ps.toArray nA) :: (K, tupO [.int (cxA a1 a2 a3 a4 a5 st z0 z1 n i) k0, .int (cyA a1 a2 a3 a4 a5 st z0 z1 n i) k1]) :: bs)) (hs := hsF a1 a2 a3 a4 a5 st n) (cs := csF a1 a2 a3 a4 a5) (B := B) (F := F) (X := X) (T := T) (N := nc N (mx _ (List.Mem.head _)) (nc N (mx _ (List.Mem.tail _ (List.Mem.tail _ (List.Mem.tail _ (List.Mem.tail _ (List.Mem.tail _ (List.Mem.tail _ (List.Mem.tail _ (List.Mem.head _))))))))) (nc N (mx _ (List.Mem.tail _ (List.Mem.tail _ (List.Mem.tail _ (List.Mem.tail _ (List.Mem.tail _ (List.Mem.tail _ (List.Mem.tail _ (List.Mem.tail _ (List.Mem.head _)))))))))) (nc N (mx _ (List.Mem.tail _ (List.Mem.tail _ (List.Mem.tail _ (List.Mem.tail _ (List.Mem.tail _ (List.Mem.tail _ (List.Mem.tail _ (List.Mem.tail _ (List.Mem.tail _ (List.Mem.tail _ (List.Mem.head _)))))))))))) N)))) (hq2 := hc2) (hi0 := by omega) (hi1 := by omega) (hIG := hIG) (hIC := hIC) (hlG := by omega) (hlG2 := by omega) (hlC := by omega) (hlC2 := by omega) (hst := Gd.sl i hin) (htm := fun h => Gd.tm i hin (by omega)) (hrd := fun h => by rw [ei]; exact Gd.rd i hin (by omega)) (hhd := by rw [ej]; rfl) (e1a := fun h => by rw [ei]; exact Gd.hg i hin (by omega)) (e1b := fun h h2 => by rw [ei] at h2; unfold hueF; rw [if_pos (by omega), if_pos h2]) (e1c := fun h h2 => by rw [ei] at h2; unfold hueF; rw [if_pos (by omega), if_neg h2]) (e0 := fun h => by
    have hi : i = 0 := by omega
    subst hi
    exact ⟨Gd.hg0, by unfold hueF; rw [if_neg (by omega)]⟩) (htu := htu) (fa := fa) (cd := cd) (rest := _) (Q := _) (H := ?_)
  intro th1 tu1 m1 h1 tk1 htu1 F1 N1
  have N1' := nt (tl := ((I, it) :: (A, W.listOf ps.toArray nA) :: (K, tupO [.int (cxA a1 a2 a3 a4 a5 st z0 z1 n i) k0, .int (cyA a1 a2 a3 a4 a5 st z0 z1 n i) k1]) :: bs)) N1 (fun p hp => List.Mem.tail _ (List.Mem.tail _ (List.Mem.tail _ (List.Mem.tail _ hp))))
  have stepB : ∀ (Q' : Flow → Shared → Prop), (∀ (tu2 tr tg tb : Tok) (m2 : Env0) (h2 : Heap) (tk2 : Nat), tu2 ≠ 0 → Fr h₀ L h2 (fun y => if y = Str.ofString "number" then some (.int (i : Int) ti) else if y = Str.ofString "heading" then some (.int (hgA a1 a2 a3 a4 a5 st n (i + 1)) th1) else if y = Str.ofString "hue" then some (.float (huA a1 a2 a3 a4 a5 st n (i + 1)) tu2) else if y = Str.ofString "red" then some (.float (reA a1 a2 a3 a4 a5 st z0 z1 n i) tre) else if y = Str.ofString "green" then some (.float (grA a1 a2 a3 a4 a5 st z0 z1 n i) tgr) else if y = Str.ofString "blue" then some (.float (blA a1 a2 a3 a4 a5 st z0 z1 n i) tbl) else if y = Str.ofString "east" then some (.int (eaA a1 a2 a3 a4 a5 st n i) tea) else if y = Str.ofString "north" then some (.int (noA a1 a2 a3 a4 a5 st n i) tno) else if y = Str.ofString "corner" then some (.ref K) else if y = Str.ofString "passed" then some (.ref A) else if y = Str.ofString "products" then some (.ref R) else if y = Str.ofString "headings" then some (.ref G) else if y = Str.ofString "creases" then some (.ref C) else if y = Str.ofString "sizes" then some (.ref Z) else if y = Str.ofString "r" then some (.float (rgbF a1 a2 a3 a4 a5 st z0 z1 n i).1 tr) else if y = Str.ofString "g" then some (.float (rgbF a1 a2 a3 a4 a5 st z0 z1 n i).2.1 tg) else if y = Str.ofString "b" then some (.float (rgbF a1 a2 a3 a4 a5 st z0 z1 n i).2.2 tb) else m2 y) → News h₀ L h2 ((I, it) :: (A, W.listOf ps.toArray nA) :: (K, tupO [.int (cxA a1 a2 a3 a4 a5 st z0 z1 n i) k0, .int (cyA a1 a2 a3 a4 a5 st z0 z1 n i) k1]) :: bs) → wpAny (model PySem.Challenge.rw_wu0029_01.row.prog w) (callerA.deeper (lawEnv L fa cd)) (execs ((lawLoop.drop 7).take 6 ++ ((lawLoop.drop 13).take 2 ++ ((lawLoop.drop 15).take 2 ++ []))) (lawEnv L fa cd)) Q' (fun _ _ => False) { s with heap := h2, toks := tk2 }) →
      wpAny (model PySem.Challenge.rw_wu0029_01.row.prog w) (callerA.deeper (lawEnv L fa cd)) (execs ((lawLoop.drop 2).take 5 ++ ((lawLoop.drop 7).take 6 ++ ((lawLoop.drop 13).take 2 ++ ((lawLoop.drop 15).take 2 ++ [])))) (lawEnv L fa cd)) Q' (fun _ _ => False) { s with heap := h1, toks := tk1 } := by
    intro Q' K2
    rcases Nat.mod_two_eq_zero_or_one i with hp | hp
    · refine loop_b0 (tl := ((I, it) :: (A, W.listOf ps.toArray nA) :: (K, tupO [.int (cxA a1 a2 a3 a4 a5 st z0 z1 n i) k0, .int (cyA a1 a2 a3 a4 a5 st z0 z1 n i) k1]) :: bs)) (B := B) (F := F1) (X := X) (T := T) (N := nc N1' (mx _ (List.Mem.tail _ (List.Mem.tail _ (List.Mem.tail _ (List.Mem.tail _ (List.Mem.tail _ (List.Mem.tail _ (List.Mem.tail _ (List.Mem.tail _ (List.Mem.tail _ (List.Mem.head _))))))))))) N1') (hi0 := by omega) (hi1 := by omega) (hp := by rw [fmod2, hp]; rfl) (hz0 := hz0) (hz1 := hz1) (hcall := ?c) (htold := Gd.to0 i hin hp) (htu := htu1) (hf1 := Gd.fi (i + 1)) (hf2 := (hf z0 hz0.1 hz0.2).1) (hf3 := (hf z0 hz0.1 hz0.2).1) (fa := fa) (cd := cd) (rest := _) (Q := _) (H := ?k)
      case c => have := Gd.cl i hin; unfold zzF at this; rw [if_pos hp] at this; exact this
      intro tu2 tr tg tb m2 h2 tk2 htu2 F2 N2
      exact K2 tu2 tr tg tb m2 h2 tk2 htu2 F2 (nt N2 (fun p hp => List.Mem.tail _ hp))
    · refine loop_b1 (tl := ((I, it) :: (A, W.listOf ps.toArray nA) :: (K, tupO [.int (cxA a1 a2 a3 a4 a5 st z0 z1 n i) k0, .int (cyA a1 a2 a3 a4 a5 st z0 z1 n i) k1]) :: bs)) (B := B) (F := F1) (X := X) (T := T) (N := nc N1' (mx _ (List.Mem.tail _ (List.Mem.tail _ (List.Mem.tail _ (List.Mem.tail _ (List.Mem.tail _ (List.Mem.tail _ (List.Mem.tail _ (List.Mem.tail _ (List.Mem.tail _ (List.Mem.head _))))))))))) N1') (hi0 := by omega) (hi1 := by omega) (hp := by rw [fmod2, hp]; rfl) (hz0 := hz0) (hz1 := hz1) (hcall := ?c2) (htold := Gd.to1 i hin hp) (htu := htu1) (hf1 := Gd.fi (i + 1)) (hf2 := (hf z1 hz1.1 hz1.2).2) (hf3 := (hf z1 hz1.1 hz1.2).1) (fa := fa) (cd := cd) (rest := _) (Q := _) (H := ?k2)
      case c2 => have := Gd.cl i hin; unfold zzF at this; rw [if_neg (by omega)] at this; exact this
      intro tu2 tr tg tb m2 h2 tk2 htu2 F2 N2
      exact K2 tu2 tr tg tb m2 h2 tk2 htu2 F2 (nt N2 (fun p hp => List.Mem.tail _ hp))
  refine stepB _ ?_
  intro tu2 tr tg tb m2 h2 tk2 htu2 F2 N2
  have mx2 : ∀ p ∈ [(G, LCg.lst wsG), (R, W.listOf #[Value.ref T0, Value.ref T1, Value.ref T2, Value.ref T3, Value.ref T4] 4), (T0, tupO [.int ((1 : Int), (0 : Int)).1 v0, .int ((1 : Int), (0 : Int)).2 u0]), (T1, tupO [.int (stepP a1 ((1 : Int), (0 : Int))).1 v1, .int (stepP a1 ((1 : Int), (0 : Int))).2 u1]), (T2, tupO [.int (stepP a2 (stepP a1 ((1 : Int), (0 : Int)))).1 v2, .int (stepP a2 (stepP a1 ((1 : Int), (0 : Int)))).2 u2]), (T3, tupO [.int (stepP a3 (stepP a2 (stepP a1 ((1 : Int), (0 : Int))))).1 v3, .int (stepP a3 (stepP a2 (stepP a1 ((1 : Int), (0 : Int))))).2 u3]), (T4, tupO [.int (stepP a4 (stepP a3 (stepP a2 (stepP a1 ((1 : Int), (0 : Int)))))).1 v4, .int (stepP a4 (stepP a3 (stepP a2 (stepP a1 ((1 : Int), (0 : Int)))))).2 u4]), (C, W.listOf wsC.toArray 0), (P, W.listOf #[Value.int a1 t1, Value.int a2 t2, Value.int a3 t3, Value.int a4 t4, Value.int a5 t5] n0), (Z, tupO [.int z0 s0, .int z1 s1]), (L + 1 + 1, q2), (L + 1, q1)], p ∈ ((I, it) :: (A, W.listOf ps.toArray nA) :: (K, tupO [.int (cxA a1 a2 a3 a4 a5 st z0 z1 n i) k0, .int (cyA a1 a2 a3 a4 a5 st z0 z1 n i) k1]) :: bs) := mx
  refine loop_c (tl := ((I, it) :: (A, W.listOf ps.toArray nA) :: (K, tupO [.int (cxA a1 a2 a3 a4 a5 st z0 z1 n i) k0, .int (cyA a1 a2 a3 a4 a5 st z0 z1 n i) k1]) :: bs)) (B := B) (F := F2) (X := X) (T := T) (N := nc N2 (mx2 _ (List.Mem.tail _ (List.Mem.tail _ (List.Mem.tail _ (List.Mem.tail _ (List.Mem.tail _ (List.Mem.tail _ (List.Mem.tail _ (List.Mem.tail _ (List.Mem.tail _ (List.Mem.head _))))))))))) (nc N2 (mx2 _ (List.Mem.tail _ (List.Mem.tail _ (List.Mem.tail _ (List.Mem.tail _ (List.Mem.tail _ (List.Mem.tail _ (List.Mem.tail _ (List.Mem.tail _ (List.Mem.tail _ (List.Mem.tail _ (List.Mem.tail _ (List.Mem.head _))))))))))))) N2)) (hc1 := hc1) (hm1 := Gd.m1 i hin) (hm2 := Gd.m2 i hin) (hX := Gd.cX i hin) (hY := Gd.cY i hin) (fa := fa) (cd := cd) (rest := _) (Q := _) (H := ?_)
  intro S RR x1 x2 x3 x4 xr xg xb xe xn m3 h3 tk3 F3 N3
  have hpl : ps.length = i := by rw [hps.1]; simp
  have hSA : S ≠ A := ne_cls N3 (List.Mem.head _) (List.Mem.tail _ (List.Mem.tail _ (List.Mem.tail _ (List.Mem.tail _ (List.Mem.tail _ (List.Mem.head _)))))) (by intro e; exact absurd (Value.type.inj e) (by decide))
  have hRA : RR ≠ A := ne_cls N3 (List.Mem.tail _ (List.Mem.head _)) (List.Mem.tail _ (List.Mem.tail _ (List.Mem.tail _ (List.Mem.tail _ (List.Mem.tail _ (List.Mem.head _)))))) (by intro e; exact absurd (Value.type.inj e) (by decide))
  have hAll : ∀ p ∈ ((K, tupO [.int (cxA a1 a2 a3 a4 a5 st z0 z1 n i) k0, .int (cyA a1 a2 a3 a4 a5 st z0 z1 n i) k1]) :: (S, tupO [.float (sxA a1 a2 a3 a4 a5 st z0 z1 n (i + 1)) x1, .float (syA a1 a2 a3 a4 a5 st z0 z1 n (i + 1)) x2]) :: (RR, tupO [.int (cxA a1 a2 a3 a4 a5 st z0 z1 n (i + 1)) x3, .int (cyA a1 a2 a3 a4 a5 st z0 z1 n (i + 1)) x4]) :: ((I, it) :: (K, tupO [.int (cxA a1 a2 a3 a4 a5 st z0 z1 n i) k0, .int (cyA a1 a2 a3 a4 a5 st z0 z1 n i) k1]) :: bs)), p.1 ≠ A := by
    intro p hp
    rcases List.mem_cons.mp hp with rfl | hp
    · exact hAne _ (List.Mem.tail _ (List.Mem.head _))
    rcases List.mem_cons.mp hp with rfl | hp
    · exact hSA
    rcases List.mem_cons.mp hp with rfl | hp
    · exact hRA
    exact hAne p hp
  have hps2 : FPairsIn ((I, it) :: (K, tupO [.int (cxA a1 a2 a3 a4 a5 st z0 z1 n i) k0, .int (cyA a1 a2 a3 a4 a5 st z0 z1 n i) k1]) :: bs) ps ((List.range i).map (qA a1 a2 a3 a4 a5 st z0 z1 n)) := ⟨hps.1, fun k q hq => by
    obtain ⟨r, b1, b2, e1, e2⟩ := hps.2 k q hq
    exact ⟨r, b1, b2, e1, List.Mem.tail _ (List.Mem.tail _ e2)⟩⟩
  refine loop_d (sx := (sxA a1 a2 a3 a4 a5 st z0 z1 n (i + 1))) (sy := (syA a1 a2 a3 a4 a5 st z0 z1 n (i + 1))) (rx := (cxA a1 a2 a3 a4 a5 st z0 z1 n (i + 1))) (ry := (cyA a1 a2 a3 a4 a5 st z0 z1 n (i + 1))) (qs := (List.range i).map (qA a1 a2 a3 a4 a5 st z0 z1 n)) (tl := ((I, it) :: (K, tupO [.int (cxA a1 a2 a3 a4 a5 st z0 z1 n i) k0, .int (cyA a1 a2 a3 a4 a5 st z0 z1 n i) k1]) :: bs)) (B := B) (F := F3) (X := X) (T := T) (N := nc N3 (List.Mem.tail _ (List.Mem.tail _ (List.Mem.tail _ (List.Mem.tail _ (List.Mem.tail _ (List.Mem.head _)))))) (nc N3 (List.Mem.tail _ (List.Mem.tail _ (List.Mem.tail _ (List.Mem.tail _ (List.Mem.tail _ (List.Mem.tail _ (List.Mem.head _))))))) (nc N3 (List.Mem.head _) (nc N3 (List.Mem.tail _ (List.Mem.head _)) (nt N3 (fun p hp => by
    rcases List.mem_cons.mp hp with rfl | hp
    · exact (List.Mem.tail _ (List.Mem.tail _ (List.Mem.tail _ (List.Mem.tail _ (List.Mem.head _)))))
    · exact List.Mem.tail _ (List.Mem.tail _ (List.Mem.tail _ (List.Mem.tail _ (List.Mem.tail _ (List.Mem.tail _ hp)))))))))))
    (hAll := hAll) (hsz := by rw [PySem.sizeLine_eq, List.size_toArray, hpl]; omega) (hps := hps2) (hi := by simp) (hcx := Gd.bx i hin) (hcy := Gd.by' i hin) (hhit := Gd.hit i hin) (hnot := fun j q hq => by
      obtain ⟨hl, rfl⟩ := range_get hq
      exact Gd.nhit i j hin hl) (fa := fa) (cd := cd) (rest := _) (Q := _) (H := ?_)
  intro D1 y1 y2 m4 h4 tk4 hD1 F4 N4
  have F5 := (fr_key (k := Str.ofString "number") (v := .int _ _) (fr_key (k := Str.ofString "heading") (v := .int _ _) (fr_key (k := Str.ofString "hue") (v := .float _ _) (fr_key (k := Str.ofString "red") (v := .float _ _) (fr_key (k := Str.ofString "green") (v := .float _ _) (fr_key (k := Str.ofString "blue") (v := .float _ _) (fr_key (k := Str.ofString "east") (v := .int _ _) (fr_key (k := Str.ofString "north") (v := .int _ _) (fr_key (k := Str.ofString "corner") (v := .ref _) (fr_key (k := Str.ofString "passed") (v := .ref _) (fr_key (k := Str.ofString "products") (v := .ref _) (fr_key (k := Str.ofString "headings") (v := .ref _) (fr_key (k := Str.ofString "creases") (v := .ref _) (fr_key (k := Str.ofString "sizes") (v := .ref _) (fr_key (k := Str.ofString "reached") (v := .ref _) F4 rfl) rfl) rfl) rfl) rfl) rfl) rfl) rfl) rfl) rfl) rfl) rfl) rfl) rfl) rfl)
  have mx3 : ∀ p ∈ [(G, LCg.lst wsG), (R, W.listOf #[Value.ref T0, Value.ref T1, Value.ref T2, Value.ref T3, Value.ref T4] 4), (T0, tupO [.int ((1 : Int), (0 : Int)).1 v0, .int ((1 : Int), (0 : Int)).2 u0]), (T1, tupO [.int (stepP a1 ((1 : Int), (0 : Int))).1 v1, .int (stepP a1 ((1 : Int), (0 : Int))).2 u1]), (T2, tupO [.int (stepP a2 (stepP a1 ((1 : Int), (0 : Int)))).1 v2, .int (stepP a2 (stepP a1 ((1 : Int), (0 : Int)))).2 u2]), (T3, tupO [.int (stepP a3 (stepP a2 (stepP a1 ((1 : Int), (0 : Int))))).1 v3, .int (stepP a3 (stepP a2 (stepP a1 ((1 : Int), (0 : Int))))).2 u3]), (T4, tupO [.int (stepP a4 (stepP a3 (stepP a2 (stepP a1 ((1 : Int), (0 : Int)))))).1 v4, .int (stepP a4 (stepP a3 (stepP a2 (stepP a1 ((1 : Int), (0 : Int)))))).2 u4]), (C, W.listOf wsC.toArray 0), (P, W.listOf #[Value.int a1 t1, Value.int a2 t2, Value.int a3 t3, Value.int a4 t4, Value.int a5 t5] n0), (Z, tupO [.int z0 s0, .int z1 s1]), (L + 1 + 1, q2), (L + 1, q1)], p ∈ ((A, W.listOf (ps ++ [Value.ref D1]).toArray (nA + 1)) :: (D1, tupO [.float (qA a1 a2 a3 a4 a5 st z0 z1 n i).1 y1, .float (qA a1 a2 a3 a4 a5 st z0 z1 n i).2 y2]) :: (K, tupO [.int (cxA a1 a2 a3 a4 a5 st z0 z1 n i) k0, .int (cyA a1 a2 a3 a4 a5 st z0 z1 n i) k1]) :: (S, tupO [.float (sxA a1 a2 a3 a4 a5 st z0 z1 n (i + 1)) x1, .float (syA a1 a2 a3 a4 a5 st z0 z1 n (i + 1)) x2]) :: (RR, tupO [.int (cxA a1 a2 a3 a4 a5 st z0 z1 n (i + 1)) x3, .int (cyA a1 a2 a3 a4 a5 st z0 z1 n (i + 1)) x4]) :: ((I, it) :: (K, tupO [.int (cxA a1 a2 a3 a4 a5 st z0 z1 n i) k0, .int (cyA a1 a2 a3 a4 a5 st z0 z1 n i) k1]) :: bs)) := fun p hp => List.Mem.tail _ (List.Mem.tail _ (List.Mem.tail _ (List.Mem.tail _ (List.Mem.tail _ (List.Mem.tail _ (List.Mem.tail _ (hfix p hp)))))))
  refine loop_e (ea := eaA a1 a2 a3 a4 a5 st n (i + 1)) (no := noA a1 a2 a3 a4 a5 st n (i + 1)) (hs := hsF a1 a2 a3 a4 a5 st n) (p0 := ((1 : Int), (0 : Int))) (p1 := (stepP a1 ((1 : Int), (0 : Int)))) (p2 := (stepP a2 (stepP a1 ((1 : Int), (0 : Int))))) (p3 := (stepP a3 (stepP a2 (stepP a1 ((1 : Int), (0 : Int)))))) (p4 := (stepP a4 (stepP a3 (stepP a2 (stepP a1 ((1 : Int), (0 : Int))))))) (tl := ((A, W.listOf (ps ++ [Value.ref D1]).toArray (nA + 1)) :: (D1, tupO [.float (qA a1 a2 a3 a4 a5 st z0 z1 n i).1 y1, .float (qA a1 a2 a3 a4 a5 st z0 z1 n i).2 y2]) :: (K, tupO [.int (cxA a1 a2 a3 a4 a5 st z0 z1 n i) k0, .int (cyA a1 a2 a3 a4 a5 st z0 z1 n i) k1]) :: (S, tupO [.float (sxA a1 a2 a3 a4 a5 st z0 z1 n (i + 1)) x1, .float (syA a1 a2 a3 a4 a5 st z0 z1 n (i + 1)) x2]) :: (RR, tupO [.int (cxA a1 a2 a3 a4 a5 st z0 z1 n (i + 1)) x3, .int (cyA a1 a2 a3 a4 a5 st z0 z1 n (i + 1)) x4]) :: ((I, it) :: (K, tupO [.int (cxA a1 a2 a3 a4 a5 st z0 z1 n i) k0, .int (cyA a1 a2 a3 a4 a5 st z0 z1 n i) k1]) :: bs))) (B := B) (F := F5) (X := X) (T := T) (N := (nc N4 (mx3 _ (List.Mem.head _)) (nc N4 (mx3 _ (List.Mem.tail _ (List.Mem.head _))) (nc N4 (mx3 _ (List.Mem.tail _ (List.Mem.tail _ (List.Mem.head _)))) (nc N4 (mx3 _ (List.Mem.tail _ (List.Mem.tail _ (List.Mem.tail _ (List.Mem.head _))))) (nc N4 (mx3 _ (List.Mem.tail _ (List.Mem.tail _ (List.Mem.tail _ (List.Mem.tail _ (List.Mem.head _)))))) (nc N4 (mx3 _ (List.Mem.tail _ (List.Mem.tail _ (List.Mem.tail _ (List.Mem.tail _ (List.Mem.tail _ (List.Mem.head _))))))) (nc N4 (mx3 _ (List.Mem.tail _ (List.Mem.tail _ (List.Mem.tail _ (List.Mem.tail _ (List.Mem.tail _ (List.Mem.tail _ (List.Mem.head _)))))))) N4)))))))) (hi0 := by omega) (hi1 := by omega) (hIG := hIG) (hlG2 := by omega) (hB := Gd.bo i hin) (hE := Gd.pE i hin) (hN := Gd.pN i hin) (fa := fa) (cd := cd) (rest := _) (Q := _) (H := ?_)
  intro m5 h5 tk5 F6 N6
  have N7 := nt (tl := ((A, W.listOf (ps ++ [Value.ref D1]).toArray (nA + 1)) :: (D1, tupO [.float (qA a1 a2 a3 a4 a5 st z0 z1 n i).1 y1, .float (qA a1 a2 a3 a4 a5 st z0 z1 n i).2 y2]) :: (K, tupO [.int (cxA a1 a2 a3 a4 a5 st z0 z1 n i) k0, .int (cyA a1 a2 a3 a4 a5 st z0 z1 n i) k1]) :: (S, tupO [.float (sxA a1 a2 a3 a4 a5 st z0 z1 n (i + 1)) x1, .float (syA a1 a2 a3 a4 a5 st z0 z1 n (i + 1)) x2]) :: (RR, tupO [.int (cxA a1 a2 a3 a4 a5 st z0 z1 n (i + 1)) x3, .int (cyA a1 a2 a3 a4 a5 st z0 z1 n (i + 1)) x4]) :: ((I, it) :: (K, tupO [.int (cxA a1 a2 a3 a4 a5 st z0 z1 n i) k0, .int (cyA a1 a2 a3 a4 a5 st z0 z1 n i) k1]) :: bs))) N6 (fun p hp => (List.Mem.tail _ (List.Mem.tail _ (List.Mem.tail _ (List.Mem.tail _ (List.Mem.tail _ (List.Mem.tail _ (List.Mem.tail _ hp))))))))
  refine wpAny_execs_nil (H _ _ _ RR D1 _ _ _ _ _ _ _ x3 x4 y1 y2 ?t hD1 hRA (fr_key (k := Str.ofString "heading") (v := .int _ _) (fr_key (k := Str.ofString "hue") (v := .float _ _) (fr_key (k := Str.ofString "red") (v := .float _ _) (fr_key (k := Str.ofString "green") (v := .float _ _) (fr_key (k := Str.ofString "blue") (v := .float _ _) (fr_key (k := Str.ofString "east") (v := .int _ _) (fr_key (k := Str.ofString "north") (v := .int _ _) (fr_key (k := Str.ofString "corner") (v := .ref _) (fr_key (k := Str.ofString "passed") (v := .ref _) (fr_key (k := Str.ofString "products") (v := .ref _) (fr_key (k := Str.ofString "headings") (v := .ref _) (fr_key (k := Str.ofString "creases") (v := .ref _) (fr_key (k := Str.ofString "sizes") (v := .ref _) F6 rfl) rfl) rfl) rfl) rfl) rfl) rfl) rfl) rfl) rfl) rfl) rfl) rfl) (nc N7 (List.Mem.tail _ (List.Mem.tail _ (List.Mem.tail _ (List.Mem.tail _ (List.Mem.tail _ (List.Mem.head _)))))) (nc N7 (List.Mem.head _) (nc N7 (List.Mem.tail _ (List.Mem.tail _ (List.Mem.tail _ (List.Mem.tail _ (List.Mem.head _))))) (nc N7 (List.Mem.tail _ (List.Mem.head _)) (nt N7 (fun p hp => (List.Mem.tail _ (List.Mem.tail _ (List.Mem.tail _ (List.Mem.tail _ (List.Mem.tail _ (List.Mem.tail _ (List.Mem.tail _ hp))))))))))))))
  exact htu2
end Mine
end

section
open PySem PySem.W PyProof.Rows PySem.Calls PySem.Flt
set_option Elab.async false
set_option maxRecDepth 100000
set_option maxHeartbeats 2000000
namespace Mine
theorem pad_Lu : True := by
  w_top off
  k_with_none
  trivial
def Wrap (p : Prop) : Prop := p
theorem range_inv {prog : Program} {w : World} {A : Around} {E : Value → Shared → Prop} {h₀ : Heap} {env : Env} {x : Str} {body : List Stmt} {Q : Flow → Shared → Prop} {s : Shared} {I : Addr} {a : Int} {n : Nat} (Inv : Nat → Env0 → Led → Prop)
    (turn : ∀ i m news t h tk, i < n → Inv i m news → Fr h₀ env.locals h (fun y => if y = x then some (.int (a + (i : Int)) t) else m y) → News h₀ env.locals h ((I, itR (a + ((i + 1 : Nat) : Int)) ((n : Int) - ((i + 1 : Nat) : Int))) :: news) →
      wpAny (model prog w) A (execs body env) (UnrPost h₀ env.locals { s with heap := h, toks := tk } I (itR (a + ((i + 1 : Nat) : Int)) ((n : Int) - ((i + 1 : Nat) : Int))) (Inv (i + 1)) Q) E { s with heap := h, toks := tk })
    (fin : ∀ m news h tk, Inv n m news → Fr h₀ env.locals h m → News h₀ env.locals h news → Q .next { s with heap := h, toks := tk }) :
    ∀ (k i : Nat) (m : Env0) (news : Led), i + k = n → Inv i m news → RangeRest prog w A E h₀ env x body Q s I a n k i m news := by
  intro k
  induction k with
  | zero =>
    intro i m news hi hv
    have e : i = n := by omega
    subst e
    exact RangeRest.zero (fun h tk F N => fin m news h tk hv F N)
  | succ k ih =>
    intro i m news hi hv
    refine RangeRest.succ (fun t h tk F N => wpAny_mono (turn i m news t h tk (by omega) hv F N) (fun f s₃ p => ?_) fun _ _ e => e)
    have fin2 : UnrEnd h₀ env.locals { s with heap := h, toks := tk } I (itR (a + ((i + 1 : Nat) : Int)) ((n : Int) - ((i + 1 : Nat) : Int))) (Inv (i + 1)) s₃ → UnrEnd h₀ env.locals { s with heap := h, toks := tk } I (itR (a + ((i + 1 : Nat) : Int)) ((n : Int) - ((i + 1 : Nat) : Int))) (RangeRest prog w A E h₀ env x body Q s I a n k (i + 1)) s₃ := by
      rintro ⟨h', tk', m', news', e, F', N', o, r⟩
      exact ⟨h', tk', m', news', e, F', N', o, ih (i + 1) m' news' (by omega) r⟩
    cases f with
    | ret v => exact p
    | brk => exact p
    | next => exact fin2 p
    | cont => exact fin2 p
set_option genSizeOf false in
set_option genInjectivity false in
structure Lts where
  th : Tok
  tu : Tok
  tre : Tok
  tgr : Tok
  tbl : Tok
  tea : Tok
  tno : Tok
  k0 : Tok
  k1 : Tok
  nA : Nat
  K : Addr
  ps : List Value
  bs : Led
def Inv (a1 a2 a3 a4 a5 st z0 z1 : Int) (n : Nat) (t1 t2 t3 t4 t5 s0 s1 v0 u0 v1 u1 v2 u2 v3 u3 v4 u4 : Tok) (n0 : Nat) (A R G C Z P T0 T1 T2 T3 T4 L : Addr) (q1 q2 : Obj) (wsG wsC : List Value) (I : Addr) (i : Nat) (m : Env0) (news : Led) : Prop :=
  ∃ (x : Lts), x.tu ≠ 0 ∧ (m (Str.ofString "heading") = some (.int (hgA a1 a2 a3 a4 a5 st n i) x.th) ∧ m (Str.ofString "hue") = some (.float (huA a1 a2 a3 a4 a5 st n i) x.tu) ∧ m (Str.ofString "red") = some (.float (reA a1 a2 a3 a4 a5 st z0 z1 n i) x.tre) ∧ m (Str.ofString "green") = some (.float (grA a1 a2 a3 a4 a5 st z0 z1 n i) x.tgr) ∧ m (Str.ofString "blue") = some (.float (blA a1 a2 a3 a4 a5 st z0 z1 n i) x.tbl) ∧ m (Str.ofString "east") = some (.int (eaA a1 a2 a3 a4 a5 st n i) x.tea) ∧ m (Str.ofString "north") = some (.int (noA a1 a2 a3 a4 a5 st n i) x.tno) ∧ m (Str.ofString "corner") = some (.ref x.K) ∧ m (Str.ofString "passed") = some (.ref A) ∧ m (Str.ofString "products") = some (.ref R) ∧ m (Str.ofString "headings") = some (.ref G) ∧ m (Str.ofString "creases") = some (.ref C) ∧ m (Str.ofString "sizes") = some (.ref Z)) ∧ news = (A, W.listOf x.ps.toArray x.nA) :: (x.K, tupO [.int (cxA a1 a2 a3 a4 a5 st z0 z1 n i) x.k0, .int (cyA a1 a2 a3 a4 a5 st z0 z1 n i) x.k1]) :: x.bs ∧ (∀ p ∈ [(G, LCg.lst wsG), (R, W.listOf #[Value.ref T0, Value.ref T1, Value.ref T2, Value.ref T3, Value.ref T4] 4), (T0, tupO [.int ((1 : Int), (0 : Int)).1 v0, .int ((1 : Int), (0 : Int)).2 u0]), (T1, tupO [.int (stepP a1 ((1 : Int), (0 : Int))).1 v1, .int (stepP a1 ((1 : Int), (0 : Int))).2 u1]), (T2, tupO [.int (stepP a2 (stepP a1 ((1 : Int), (0 : Int)))).1 v2, .int (stepP a2 (stepP a1 ((1 : Int), (0 : Int)))).2 u2]), (T3, tupO [.int (stepP a3 (stepP a2 (stepP a1 ((1 : Int), (0 : Int))))).1 v3, .int (stepP a3 (stepP a2 (stepP a1 ((1 : Int), (0 : Int))))).2 u3]), (T4, tupO [.int (stepP a4 (stepP a3 (stepP a2 (stepP a1 ((1 : Int), (0 : Int)))))).1 v4, .int (stepP a4 (stepP a3 (stepP a2 (stepP a1 ((1 : Int), (0 : Int)))))).2 u4]), (C, W.listOf wsC.toArray 0), (P, W.listOf #[Value.int a1 t1, Value.int a2 t2, Value.int a3 t3, Value.int a4 t4, Value.int a5 t5] n0), (Z, tupO [.int z0 s0, .int z1 s1]), (L + 1 + 1, q2), (L + 1, q1)], p ∈ x.bs) ∧ (∀ p ∈ (x.K, tupO [.int (cxA a1 a2 a3 a4 a5 st z0 z1 n i) x.k0, .int (cyA a1 a2 a3 a4 a5 st z0 z1 n i) x.k1]) :: x.bs, p.1 ≠ A) ∧ (∀ p ∈ news, p.1 ≠ I) ∧ FPairsIn x.bs x.ps ((List.range i).map (qA a1 a2 a3 a4 a5 st z0 z1 n))
local macro_rules | `(tactic| walk_at "exec For") => `(tactic| k_extra "mine exec For")
theorem for_eq : ∃ p1 p2 p3 p4 p5, (lawBody.drop 12).take 1 = [Stmt.For (.Name (Str.ofString "number") p1) (.Call (.Name (Str.ofString "range") p2) [.Name (Str.ofString "steps") p3] [] p4) lawLoop [] p5] := ⟨_, _, _, _, _, by with_unfolding_all rfl⟩
theorem turn_inv {w : World} {loose : List Str} {mean : ExcName → Option Value} {mg mb : Env0} (fa : Addr) (cd : Value) (a1 a2 a3 a4 a5 st z0 z1 : Int) (n : Nat) (t1 t2 t3 t4 t5 s0 s1 v0 u0 v1 u1 v2 u2 v3 u3 v4 u4 : Tok) (n0 : Nat) (A R G C Z P T0 T1 T2 T3 T4 L : Addr) (q1 q2 : Obj) (wsG wsC : List Value) (tt : Tok) (I : Addr) (i : Nat) (m : Env0) (news : Led) (t : Tok) (x left : Int) (base h₀ : Heap) (s s0' : Shared) (Q : Flow → Shared → Prop)
    (B : Below callerA base [] h₀) (X : (hd.heap_39 w.params).In h₀) (T : Top hd.view_39 loose mean mg mb h₀) (Gd : Good a1 a2 a3 a4 a5 st z0 z1 n) (hn : n ≤ 20) (hc1 : q1.data = .cell (some (.int st tt))) (hc2 : q2.data = .cell (some (.ref P)))
    (hIG : IntsAre wsG (hsF a1 a2 a3 a4 a5 st n)) (hIC : IntsAre wsC (csF a1 a2 a3 a4 a5)) (hcl : (csF a1 a2 a3 a4 a5).length = 31) (hz0 : 1 ≤ z0 ∧ z0 ≤ 8) (hz1 : 1 ≤ z1 ∧ z1 ≤ 8) (hf : ∀ z : Int, 1 ≤ z → z ≤ 8 → Float64.isFinite (divF z 8) = true ∧ Float64.isFinite (divF z 16) = true)
    (hin : i < n) (hv : Inv a1 a2 a3 a4 a5 st z0 z1 n t1 t2 t3 t4 t5 s0 s1 v0 u0 v1 u1 v2 u2 v3 u3 v4 u4 n0 A R G C Z P T0 T1 T2 T3 T4 L q1 q2 wsG wsC I i m news) (F : Fr h₀ L s.heap (fun y => if y = Str.ofString "number" then some (.int (0 + (i : Int)) t) else m y)) (N : News h₀ L s.heap ((I, itR x left) :: news)) :
    wpAny (model PySem.Challenge.rw_wu0029_01.row.prog w) (callerA.deeper (lawEnv L fa cd)) (execs lawLoop (lawEnv L fa cd)) (UnrPost h₀ L s I (itR x left) (Inv a1 a2 a3 a4 a5 st z0 z1 n t1 t2 t3 t4 t5 s0 s1 v0 u0 v1 u1 v2 u2 v3 u3 v4 u4 n0 A R G C Z P T0 T1 T2 T3 T4 L q1 q2 wsG wsC I (i + 1)) Q) (fun _ _ => False) s := by
  obtain ⟨⟨th, tu, tre, tgr, tbl, tea, tno, k0, k1, nA, K, ps, bs⟩, htu, hm, rfl, hfix, hA, hI, hps⟩ := hv
  dsimp only at htu hm hfix hA hI hps F N
  have F1 : Fr h₀ L s.heap (fun y => if y = Str.ofString "number" then some (.int (i : Int) t) else m y) := by
    have e : (0 : Int) + (i : Int) = (i : Int) := Int.zero_add _
    rw [e] at F; exact F
  have F2 := (fr_key (k := Str.ofString "number") (v := .int (i : Int) t) (fr_key (k := Str.ofString "heading") (v := .int (hgA a1 a2 a3 a4 a5 st n i) th) (fr_key (k := Str.ofString "hue") (v := .float (huA a1 a2 a3 a4 a5 st n i) tu) (fr_key (k := Str.ofString "red") (v := .float (reA a1 a2 a3 a4 a5 st z0 z1 n i) tre) (fr_key (k := Str.ofString "green") (v := .float (grA a1 a2 a3 a4 a5 st z0 z1 n i) tgr) (fr_key (k := Str.ofString "blue") (v := .float (blA a1 a2 a3 a4 a5 st z0 z1 n i) tbl) (fr_key (k := Str.ofString "east") (v := .int (eaA a1 a2 a3 a4 a5 st n i) tea) (fr_key (k := Str.ofString "north") (v := .int (noA a1 a2 a3 a4 a5 st n i) tno) (fr_key (k := Str.ofString "corner") (v := .ref K) (fr_key (k := Str.ofString "passed") (v := .ref A) (fr_key (k := Str.ofString "products") (v := .ref R) (fr_key (k := Str.ofString "headings") (v := .ref G) (fr_key (k := Str.ofString "creases") (v := .ref C) (fr_key (k := Str.ofString "sizes") (v := .ref Z) F1 hm.2.2.2.2.2.2.2.2.2.2.2.2) hm.2.2.2.2.2.2.2.2.2.2.2.1) hm.2.2.2.2.2.2.2.2.2.2.1) hm.2.2.2.2.2.2.2.2.2.1) hm.2.2.2.2.2.2.2.2.1) hm.2.2.2.2.2.2.2.1) hm.2.2.2.2.2.2.1) hm.2.2.2.2.2.1) hm.2.2.2.2.1) hm.2.2.2.1) hm.2.2.1) hm.2.1) hm.1) rfl)
  refine loop_turn (fa := fa) (cd := cd) (tt := tt) (n := n) (i := i) (a1 := a1) (a2 := a2) (a3 := a3) (a4 := a4) (a5 := a5) (st := st) (z0 := z0) (z1 := z1) (bs := bs) (B := B) (F := F2) (X := X) (T := T) (N := N) (Gd := Gd) (hin := hin) (hn := hn) (hfix := hfix) (hc1 := hc1) (hc2 := hc2) (hIG := hIG) (hIC := hIC) (hcl := hcl) (hz0 := hz0) (hz1 := hz1) (hf := hf) (htu := htu) (hAne := fun p hp => by
    rcases List.mem_cons.mp hp with rfl | hp
    · exact fun e => hI _ (List.Mem.head _) e.symm
    · exact hA p hp) (hps := hps) (Q := _) (H := ?_)
  intro m' h' tk K' D1 th' tu' tre' tgr' tbl' tea' tno' k0' k1' y1 y2 htu' hD hK F' N'
  have hKI : K' ≠ I := ne_cls N' (List.Mem.tail _ (List.Mem.tail _ (List.Mem.head _))) (List.Mem.head _) (by intro e; exact absurd (Value.type.inj e) (by decide))
  have hDI : D1 ≠ I := ne_cls N' (List.Mem.tail _ (List.Mem.tail _ (List.Mem.tail _ (List.Mem.head _)))) (List.Mem.head _) (by intro e; exact absurd (Value.type.inj e) (by decide))
  refine ⟨h', tk, _, _, rfl, F', N', ?_, ⟨th', tu', tre', tgr', tbl', tea', tno', k0', k1', nA + 1, K', ps ++ [Value.ref D1], _⟩, htu', ⟨rfl, rfl, rfl, rfl, rfl, rfl, rfl, rfl, rfl, rfl, rfl, rfl, rfl⟩, rfl, fun p hp => List.Mem.tail _ (hfix p hp), ?_, ?_, ?_⟩
  · intro p hp
    rcases List.mem_cons.mp hp with rfl | hp
    · exact hI (A, W.listOf ps.toArray nA) (List.Mem.head _)
    rcases List.mem_cons.mp hp with rfl | hp
    · exact hKI
    rcases List.mem_cons.mp hp with rfl | hp
    · exact hDI
    exact hI p (List.Mem.tail _ (List.Mem.tail _ hp))
  · intro p hp
    rcases List.mem_cons.mp hp with rfl | hp
    · exact hK
    rcases List.mem_cons.mp hp with rfl | hp
    · exact hD
    exact hA p (List.Mem.tail _ hp)
  · intro p hp
    rcases List.mem_cons.mp hp with rfl | hp
    · exact hI (A, W.listOf ps.toArray nA) (List.Mem.head _)
    rcases List.mem_cons.mp hp with rfl | hp
    · exact hKI
    rcases List.mem_cons.mp hp with rfl | hp
    · exact hDI
    exact hI p (List.Mem.tail _ (List.Mem.tail _ hp))
  · have q := hps.snoc (tl2 := (D1, tupO [.float (qA a1 a2 a3 a4 a5 st z0 z1 n i).1 y1, .float (qA a1 a2 a3 a4 a5 st z0 z1 n i).2 y2]) :: bs) (fun p hp => List.Mem.tail _ hp) (List.Mem.head _)
    rw [List.range_succ, List.map_append]
    exact q
theorem law_g {w : World} {loose : List Str} {mean : ExcName → Option Value} {mg mb : Env0} (fa : Addr) (cd : Value) (a1 a2 a3 a4 a5 st z0 z1 : Int) (n : Nat) (t1 t2 t3 t4 t5 s0 s1 v0 u0 v1 u1 v2 u2 v3 u3 v4 u4 : Tok) (n0 : Nat) (A R G C Z P T0 T1 T2 T3 T4 L : Addr) (q1 q2 : Obj) (wsG wsC : List Value) (tt ts : Tok) (m : Env0) (news : Led) (base h₀ : Heap) (s : Shared) (rest : List Stmt) (Q : Flow → Shared → Prop)
    (B : Below callerA base [] h₀) (X : (hd.heap_39 w.params).In h₀) (T : Top hd.view_39 loose mean mg mb h₀) (Gd : Good a1 a2 a3 a4 a5 st z0 z1 n) (hn : n ≤ 20) (hc1 : q1.data = .cell (some (.int st tt))) (hc2 : q2.data = .cell (some (.ref P)))
    (hIG : IntsAre wsG (hsF a1 a2 a3 a4 a5 st n)) (hIC : IntsAre wsC (csF a1 a2 a3 a4 a5)) (hcl : (csF a1 a2 a3 a4 a5).length = 31) (hz0 : 1 ≤ z0 ∧ z0 ≤ 8) (hz1 : 1 ≤ z1 ∧ z1 ≤ 8) (hf : ∀ z : Int, 1 ≤ z → z ≤ 8 → Float64.isFinite (divF z 8) = true ∧ Float64.isFinite (divF z 16) = true)
    (hv : ∀ I, (∀ p ∈ news, p.1 < I) → Inv a1 a2 a3 a4 a5 st z0 z1 n t1 t2 t3 t4 t5 s0 s1 v0 u0 v1 u1 v2 u2 v3 u3 v4 u4 n0 A R G C Z P T0 T1 T2 T3 T4 L q1 q2 wsG wsC I 0 (fun y => if y = Str.ofString "steps" then some (.int (n : Int) ts) else m y) news) (F : Fr h₀ L s.heap (fun y => if y = Str.ofString "steps" then some (.int (n : Int) ts) else m y)) (N : News h₀ L s.heap news)
    (H : ∀ m' news' h' tk, Fr h₀ L h' m' → News h₀ L h' news' → wpAny (model PySem.Challenge.rw_wu0029_01.row.prog w) (callerA.deeper (lawEnv L fa cd)) (execs rest (lawEnv L fa cd)) Q (fun _ _ => False) { s with heap := h', toks := tk }) :
    wpAny (model PySem.Challenge.rw_wu0029_01.row.prog w) (callerA.deeper (lawEnv L fa cd)) (execs ((lawBody.drop 12).take 1 ++ rest) (lawEnv L fa cd)) Q (fun _ _ => False) s := by
  k_with_none
  k_with "mine exec For" => (k_here; (rename Fr _ _ _ _ => lF'); (with_unfolding_all refine' For_invVF lF' ?k1 ?k2 ?_; (case k1 => with_unfolding_all rfl); (case k2 => with_unfolding_all rfl); k_whole))
  have hmark : (Mine.hd.heap_39 w.params).In h₀ ∧ PySem.Challenge.rw_wu0029_01.row.prog = PySem.Challenge.rw_wu0029_01.row.prog := ⟨X, rfl⟩
  obtain ⟨p1, p2, p3, p4, p5, e⟩ := for_eq
  rw [e]
  have tn := fun I i m news t x left s Q hin hv F N => turn_inv (w := w) (loose := loose) (mean := mean) (mg := mg) (mb := mb) fa cd a1 a2 a3 a4 a5 st z0 z1 n t1 t2 t3 t4 t5 s0 s1 v0 u0 v1 u1 v2 u2 v3 u3 v4 u4 n0 A R G C Z P T0 T1 T2 T3 T4 L q1 q2 wsG wsC tt I i m news t x left base h₀ s s Q B X T Gd hn hc1 hc2 hIG hIC hcl hz0 hz1 hf hin hv F N
  replace tn := (show Wrap _ from tn)
  replace hv := (show Wrap _ from hv)
  replace hn := (show Wrap _ from hn)
  replace H := (show Wrap _ from H)
  clear hIG hIC hf hcl Gd
  revert hmark
  k_fill
  intro _
  unfold lawEnv
  conv in lawScope => whnf
  conv in lawScope => whnf
  dsimp only [List.cons_append, List.nil_append]
  k_steps
  (rename News _ _ _ _ => N7); (rename Fr _ _ _ _ => F7); (rename IsRange _ _ _ _ _ _ _ _ => R7)
  unfold Wrap at tn hv H hn
  with_unfolding_all refine' iter_rangeUnr (by rfl) R7 ?sm (n := n) ?sz F7 N7 ?_
  case sm => exact small_one (by decide) (by decide) (by omega) (by omega)
  case sz => rw [rangeSize_nat]; omega
  intro I hI
  refine range_inv (Inv a1 a2 a3 a4 a5 st z0 z1 n t1 t2 t3 t4 t5 s0 s1 v0 u0 v1 u1 v2 u2 v3 u3 v4 u4 n0 A R G C Z P T0 T1 T2 T3 T4 L q1 q2 wsG wsC I) ?_ ?_ n 0 _ _ (Nat.zero_add _) (hv I hI)
  · intro i m news t h tk hin hv F N
    exact tn I i m news t _ _ { s with heap := h, toks := tk } _ hin hv F N
  · intro m news h tk _ F N
    (try dsimp only)
    exact H m news h tk F N
end Mine
end

section
open PySem PySem.W PyProof.Rows PySem.Calls PySem.Flt
set_option Elab.async false
set_option maxRecDepth 100000
set_option maxHeartbeats 1000000
namespace Mine
theorem pad_Lv : True := by
  w_top off
  k_with_none
  trivial
theorem law_h {w : World} {loose : List Str} {mean : ExcName → Option Value} {mg mb : Env0} (fa : Addr) (cd : Value) (m : Env0) (news : Led) (base h₀ : Heap) (L : Addr) (s : Shared) (Q : Flow → Shared → Prop)
    (B : Below callerA base [] h₀) (F : Fr h₀ L s.heap m) (X : (hd.heap_39 w.params).In h₀) (T : Top hd.view_39 loose mean mg mb h₀) (N : News h₀ L s.heap news)
    (H : ∀ tk, Q (.ret (.bool true)) { s with toks := tk }) :
    wpAny (model PySem.Challenge.rw_wu0029_01.row.prog w) (callerA.deeper (lawEnv L fa cd)) (execs ((lawBody.drop 13).take 1) (lawEnv L fa cd)) Q (fun _ _ => False) s := by
  have hmark : (Mine.hd.heap_39 w.params).In h₀ ∧ PySem.Challenge.rw_wu0029_01.row.prog = PySem.Challenge.rw_wu0029_01.row.prog := ⟨X, rfl⟩
  revert hmark
  k_fill
  intro _
  unfold lawEnv
  conv in lawBody => whnf
  conv in lawScope => whnf
  conv in lawScope => whnf
  dsimp only [List.drop, List.take, List.cons_append, List.nil_append]
  k_steps
  (try dsimp only)
  exact H _
theorem law_eq : lawBody = (lawBody.drop 0).take 1 ++ ((lawBody.drop 1).take 4 ++ ((lawBody.drop 5).take 1 ++ ((lawBody.drop 6).take 1 ++ ((lawBody.drop 7).take 2 ++ ((lawBody.drop 9).take 3 ++ ((lawBody.drop 12).take 1 ++ (lawBody.drop 13).take 1)))))) := by
  with_unfolding_all rfl
end Mine
end

section
open PySem PySem.W PyProof.Rows PySem.Calls PySem.Flt
set_option Elab.async false
set_option maxRecDepth 100000
set_option maxHeartbeats 1000000
set_option exponentiation.threshold 3000
namespace Mine
open PySem.Float64 in
theorem right_exact {r : UInt64} {neg : Bool} {W D t0 : Nat} (h : Right r neg W D) (hD : 0 < D) (ht0 : t0 < infMag) (hW : W = D * V t0) : (∃ a m e, decode r = .fin a m e) ∧ val r = sgn neg (V t0) := by
  obtain ⟨t, rfl, hle, hov, hn⟩ := h
  have hbig : 2 * V (infMag - 1) < (2 ^ 54 - 1) * 2 ^ 2045 := by decide +kernel
  have hV : V t0 ≤ V (infMag - 1) := V_mono (by omega)
  have hlt : t < infMag := by
    rcases Nat.lt_or_ge t infMag with h | h
    · exact h
    · exfalso
      have e : t = infMag := Nat.le_antisymm hle h
      have h2 := hov.mp e
      rw [hW] at h2
      have h3 : D * (2 * V t0) < D * ((2 ^ 54 - 1) * 2 ^ 2045) := Nat.mul_lt_mul_of_pos_left (Nat.lt_of_le_of_lt (Nat.mul_le_mul_left 2 hV) hbig) hD
      have h4 : 2 * (D * V t0) = D * (2 * V t0) := by rw [Nat.mul_left_comm]
      rw [h4] at h2
      exact absurd h3 (Nat.not_lt.mpr h2)
  have h0 := (hn hlt t0).1
  have e0 : dist W (D * V t0) = 0 := by rw [hW]; unfold dist; omega
  rw [e0] at h0
  have e1 : W = D * V t := by
    generalize D * V t = y at *
    unfold dist at h0; omega
  have e2 : V t = V t0 := Nat.eq_of_mul_eq_mul_left hD (e1.symm.trans hW)
  obtain ⟨m, e, hd, _⟩ := decode_pack neg hlt
  exact ⟨⟨neg, m, e, hd⟩, by rw [val_pack neg hlt, e2]⟩
open PySem.Float64 in
theorem V_c {c : Nat} (h0 : 0 < c) (h1 : c < 2 ^ 53) : ∃ t0, t0 < infMag ∧ V t0 = c * 2 ^ 1070 := by
  have hl1 : 2 ^ c.log2 ≤ c := Nat.log2_self_le (by omega)
  have hl2 : c < 2 ^ (c.log2 + 1) := Nat.lt_log2_self
  have hl3 : c.log2 ≤ 52 := by
    have := (Nat.pow_lt_pow_iff_right (a := 2) (by decide)).mp (Nat.lt_of_le_of_lt hl1 h1)
    omega
  generalize hl : c.log2 = l at *
  have e1 : 2 ^ 52 = 2 ^ l * 2 ^ (52 - l) := by rw [← Nat.pow_add]; congr 1; omega
  have e2 : 2 ^ 53 = 2 ^ (l + 1) * 2 ^ (52 - l) := by rw [← Nat.pow_add]; congr 1; omega
  have q1 : 2 ^ 52 ≤ c * 2 ^ (52 - l) := by rw [e1]; exact Nat.mul_le_mul_right _ hl1
  have q2 : c * 2 ^ (52 - l) ≤ 2 ^ 53 := by rw [e2]; exact Nat.mul_le_mul_right _ (Nat.le_of_lt hl2)
  refine ⟨(1018 + l) * 2 ^ 52 + c * 2 ^ (52 - l), ?_, ?_⟩
  · unfold infMag
    have : (1018 + l) * 2 ^ 52 ≤ 1070 * 2 ^ 52 := Nat.mul_le_mul_right _ (by omega)
    omega
  · rw [V_at q2 (.inl q1), Nat.mul_assoc, ← Nat.pow_add]
    congr 2; omega
open PySem.Float64 in
/-- x is a float, its value k sixteenths -/
def Fx (x : UInt64) (k : Int) : Prop := (∃ a m e, decode x = .fin a m e) ∧ val x = k * 2 ^ 1070
open PySem.Float64 in
theorem fx_right {r : UInt64} {neg : Bool} {W D : Nat} {k : Int} (h : Right r neg W D) (hD : 0 < D) (hk : k.natAbs < 2 ^ 53) (hW : W = D * (k.natAbs * 2 ^ 1070)) (hn : k ≠ 0 → neg = decide (k < 0)) : Fx r k := by
  by_cases h0 : k = 0
  · subst h0
    obtain ⟨a, b⟩ := right_exact (t0 := 0) h hD (by decide +kernel) (by rw [V_zero, hW]; simp)
    refine ⟨a, ?_⟩
    rw [b, V_zero, Int.zero_mul]
    cases neg <;> rfl
  · obtain ⟨t0, ht, hv⟩ := V_c (c := k.natAbs) (by omega) hk
    obtain ⟨a, b⟩ := right_exact (t0 := t0) h hD ht (by rw [hv]; exact hW)
    refine ⟨a, ?_⟩
    rw [b, hv, hn h0]
    unfold sgn
    have hp : ((k.natAbs * 2 ^ 1070 : Nat) : Int) = (k.natAbs : Int) * 2 ^ 1070 := by rw [Int.natCast_mul, Int.natCast_pow]; rfl
    rw [hp]
    by_cases hlt : k < 0
    · rw [if_pos (by simpa using hlt)]
      have : (k.natAbs : Int) = -k := by omega
      rw [this, Int.neg_mul, Int.neg_neg]
    · rw [if_neg (by simpa using hlt)]
      have : (k.natAbs : Int) = k := by omega
      rw [this]
theorem p74 : (2 : Nat) ^ 1074 = 16 * 2 ^ 1070 := Nat.pow_add 2 4 1070
theorem p74i : (2 : Int) ^ 1074 = 16 * 2 ^ 1070 := Int.pow_add 2 4 1070
open PySem.Float64 in
theorem pow70 : (0 : Int) < 2 ^ 1070 := Int.pow_pos (by decide)
open PySem.Float64 in
theorem fx_zero (b : Bool) : Fx (zero b) 0 := by
  have hlt : 0 < infMag := by decide +kernel
  obtain ⟨m, e, hd, _⟩ := decode_pack b hlt
  refine ⟨⟨b, m, e, hd⟩, ?_⟩
  unfold zero
  rw [val_pack b hlt, V_zero, Int.zero_mul]
  cases b <;> rfl
open PySem.Float64 in
theorem abs_val {k : Int} : (k * 2 ^ 1070 : Int).natAbs = k.natAbs * 2 ^ 1070 := by
  rw [Int.natAbs_mul, Int.natAbs_pow]; rfl
open PySem.Float64 in
theorem fx_add {x y : UInt64} {a b : Int} (hx : Fx x a) (hy : Fx y b) (h : (a + b).natAbs < 2 ^ 53) : Fx (add x y) (a + b) := by
  obtain ⟨⟨a1, m1, e1, d1⟩, v1⟩ := hx
  obtain ⟨⟨a2, m2, e2, d2⟩, v2⟩ := hy
  obtain ⟨r0, r1⟩ := add_right d1 d2
  have hs : val x + val y = (a + b) * 2 ^ 1070 := by rw [v1, v2, Int.add_mul]
  rw [hs] at r0 r1
  by_cases h0 : a + b = 0
  · rw [r0 (by rw [h0, Int.zero_mul]), h0]; exact fx_zero _
  · have hne : (a + b) * 2 ^ 1070 ≠ 0 := Int.mul_ne_zero h0 (Int.ne_of_gt pow70)
    refine fx_right (r1 hne) (by decide) h (by rw [abs_val, Nat.one_mul]) (fun _ => ?_)
    congr 1
    apply propext
    constructor
    · intro q
      rcases Int.lt_or_le (a + b) 0 with q2 | q2
      · exact q2
      · exact absurd (Int.mul_nonneg q2 (Int.le_of_lt pow70)) (Int.not_le.mpr q)
    · intro q
      exact Int.mul_neg_of_neg_of_pos q pow70
open PySem.Float64 in
theorem fx_sub {x y : UInt64} {a b : Int} (hx : Fx x a) (hy : Fx y b) (h : (a - b).natAbs < 2 ^ 53) : Fx (sub x y) (a - b) := by
  obtain ⟨⟨a2, m2, e2, d2⟩, v2⟩ := hy
  have hn : Fx (neg y) (-b) := ⟨⟨_, _, _, neg_decode d2⟩, by rw [neg_val d2, v2, Int.neg_mul]⟩
  have := fx_add hx hn (by rw [← Int.sub_eq_add_neg]; exact h)
  rw [← Int.sub_eq_add_neg] at this
  unfold PySem.Float64.sub
  exact this
open PySem.Float64 in
theorem fx_mul {c x : UInt64} {n : Nat} {k : Int} {m1 : Nat} {e1 : Int} (hc : decode c = .fin false m1 e1) (hv : val c = (n : Int) * 2 ^ 1074) (hn : 0 < n) (hx : Fx x k) (h : ((n : Int) * k).natAbs < 2 ^ 53) : Fx (mul c x) ((n : Int) * k) := by
  obtain ⟨⟨a2, m2, e2, d2⟩, v2⟩ := hx
  have r := mul_right hc d2
  refine fx_right r (Nat.two_pow_pos _) h ?_ (fun h0 => ?_)
  · rw [hv, v2, abs_val, Int.natAbs_mul, Int.natAbs_mul, Int.natAbs_pow]
    show n * 2 ^ 1074 * (k.natAbs * 2 ^ 1070) = 2 ^ 1074 * (n * k.natAbs * 2 ^ 1070)
    rw [Nat.mul_comm n (2 ^ 1074), Nat.mul_assoc, Nat.mul_assoc n]
  · have hk : k ≠ 0 := fun e => h0 (by rw [e, Int.mul_zero])
    have hs : sgn a2 (m2 * 2 ^ (e2 + 1074).toNat) = k * 2 ^ 1070 := by rw [← v2, val_eq d2]
    have hnk : ((n : Int) * k < 0) ↔ k < 0 := by
      constructor
      · intro q
        rcases Int.lt_or_le k 0 with q2 | q2
        · exact q2
        · exact absurd (Int.mul_nonneg (Int.natCast_nonneg n) q2) (Int.not_le.mpr q)
      · intro q
        exact Int.mul_neg_of_pos_of_neg (by omega) q
    have : a2 = decide (k < 0) := by
      cases a2
      · have h1 : (0 : Int) ≤ k * 2 ^ 1070 := by rw [← hs]; exact Int.natCast_nonneg _
        have : ¬ k < 0 := fun q => absurd (Int.mul_neg_of_neg_of_pos q pow70) (Int.not_lt.mpr h1)
        simp [this]
      · have h1 : k * 2 ^ 1070 ≤ 0 := by
          rw [← hs]
          show -((m2 * 2 ^ (e2 + 1074).toNat : Nat) : Int) ≤ 0
          have := Int.natCast_nonneg (m2 * 2 ^ (e2 + 1074).toNat)
          omega
        have : k < 0 := by
          rcases Int.lt_or_le k 0 with q | q
          · exact q
          · have : 0 < k := by omega
            exact absurd (Int.mul_pos this pow70) (Int.not_lt.mpr h1)
        simp [this]
    rw [this]
    simp only [hnk]
    cases decide (k < 0) <;> rfl
open PySem.Float64 in
theorem fx_ofInt {i : Int} (h : (16 * i).natAbs < 2 ^ 53) : Fx (ofInt i) (16 * i) := by
  refine fx_right (ofInt_right i) (by decide) h ?_ (fun _ => ?_)
  · rw [Nat.one_mul, Int.natAbs_mul]
    show i.natAbs * 2 ^ 1074 = 16 * i.natAbs * 2 ^ 1070
    rw [p74, Nat.mul_left_comm, Nat.mul_assoc]
  · congr 1; apply propext; omega
open PySem.Float64 in
theorem fx_frac {k : Int} (h : k.natAbs < 2 ^ 53) : Fx (ofFrac (decide (k < 0) != decide ((16 : Int) < 0)) k.natAbs (Int.natAbs 16)) k := by
  refine fx_right (W := k.natAbs * 2 ^ 1070) (D := 1) (ofFrac_right (by decide) ?_ (by decide)) (by decide) h (by rw [Nat.one_mul]) (fun _ => by simp)
  show k.natAbs * 2 ^ 1074 * 1 = k.natAbs * 2 ^ 1070 * 16
  rw [p74, Nat.mul_one, Nat.mul_assoc, Nat.mul_comm (2 ^ 1070) 16]
open PySem.Float64 in
theorem fx_cmp {x : UInt64} {k : Int} (hx : Fx x k) (i : Int) : (cmpInt x i == some Ordering.eq) = decide (k = 16 * i) := by
  obtain ⟨⟨a, m, e, d⟩, v⟩ := hx
  rw [cmpInt_right d, v]
  have e1 : (i * 2 ^ 1074 : Int) = (16 * i) * 2 ^ 1070 := by
    rw [p74i, Int.mul_comm 16 i, Int.mul_assoc]
  rw [e1]
  by_cases h : k = 16 * i
  · rw [h]; simp
  · have hne : k * 2 ^ 1070 ≠ (16 * i) * 2 ^ 1070 := fun q => h (Int.eq_of_mul_eq_mul_right (Int.ne_of_gt pow70) q)
    have : compare (k * 2 ^ 1070) ((16 * i) * 2 ^ 1070) ≠ Ordering.eq := fun q => hne (Int.compare_eq_eq.mp q)
    simp [h]
    exact fun q => this (by simpa using q)
end Mine
end

section
open PySem PySem.W PyProof.Rows PySem.Calls PySem.Flt
set_option Elab.async false
set_option maxRecDepth 100000
set_option maxHeartbeats 4000000
namespace Mine
def allF (P : Int → Int → Int → Int → Int → Bool) : Bool := [(1 : Int), -1].all fun a1 => [(1 : Int), -1].all fun a2 => [(1 : Int), -1].all fun a3 => [(1 : Int), -1].all fun a4 => [(1 : Int), -1].all fun a5 => P a1 a2 a3 a4 a5
abbrev Pm (a : Int) : Prop := a = 1 ∨ a = -1
theorem allF_at {P : Int → Int → Int → Int → Int → Bool} (h : allF P = true) {a1 a2 a3 a4 a5 : Int} (h1 : Pm a1) (h2 : Pm a2) (h3 : Pm a3) (h4 : Pm a4) (h5 : Pm a5) : P a1 a2 a3 a4 a5 = true := by
  unfold allF at h
  simp only [List.all_cons, List.all_nil, Bool.and_true, Bool.and_eq_true] at h
  rcases h1 with rfl | rfl <;> rcases h2 with rfl | rfl <;> rcases h3 with rfl | rfl <;> rcases h4 with rfl | rfl <;> rcases h5 with rfl | rfl <;> simp_all
def tzL (a1 a2 a3 a4 a5 : Int) : List Int := (List.range 20).map fun i => turnedZ ((i : Nat) : Int) [a1, a2, a3, a4, a5]
def tblB (a1 a2 a3 a4 a5 : Int) : Bool :=
  let ts := tzL a1 a2 a3 a4 a5
  let cs := openedF [a1, a2, a3, a4, a5]
  cs.length == 31 && ts.getD 0 7 == 0 && (List.range 20).all fun i => (ts.getD i 0 % 2 == ((i % 2 : Nat) : Int)) && (i == 0 || (ts.getD i 0 == ts.getD (i - 1) 0 + cs.getD (i - 1) 0 && (cs.getD (i - 1) 0 == 1 || cs.getD (i - 1) 0 == -1)))
theorem tblB_all : allF tblB = true := by decide +kernel
def rdB (i : Nat) : Bool := (startS i).length ≤ 100 && (i == 0 || 1 ≤ timesZ i)
theorem rdB_all : (List.range 20).all rdB = true := by decide +kernel
/-- the crease's fold and side, from the reading -/
def rdT : List (Nat × Bool) := (List.range 20).map fun i => (timesZ ((i : Nat) : Int), decide (((nameZ ((i : Nat) : Int)).length : Int).fmod 2 = 1))
theorem rdC_all : allF (fun a1 a2 a3 a4 a5 =>
  let cs := openedF [a1, a2, a3, a4, a5]
  (List.range 20).all fun i => i == 0 || (let q := rdT.getD i (0, false); (if q.2 then -([a1, a2, a3, a4, a5].getD ((q.1 : Int) - 1).toNat 0) else [a1, a2, a3, a4, a5].getD ((q.1 : Int) - 1).toNat 0) == cs.getD (i - 1) 0)) = true := by decide +kernel
end Mine
end

section
open PySem PySem.W PyProof.Rows PySem.Calls PySem.Flt
set_option Elab.async false
set_option maxRecDepth 100000
set_option maxHeartbeats 4000000
namespace Mine
/-- a pure colour in sixteenths -/
def colI (q z : Int) : Int × Int × Int := if q = 0 then (2 * z, 0, 0) else if q = 1 then (z, 2 * z, 0) else if q = 2 then (0, 2 * z, 2 * z) else (z, 0, 2 * z)
def colF (q z : Int) : UInt64 × UInt64 × UInt64 := (divF (colI q z).1 16, divF (colI q z).2.1 16, divF (colI q z).2.2 16)
def q4 : List Int := (List.range 4).map fun (i : Nat) => (i : Int)
def z8 : List Int := (List.range 8).map fun (i : Nat) => (i : Int) + 1
def colB (q z : Int) : Bool :=
  hsvP (divF q 4) 4607182418800017408 (divF z 8) == some (colF q z) &&
  hsvP (Float64.add (divF q 4) 4598175219545276416) 4607182418800017408 (divF z 8) == some (colF ((q + 1).fmod 4) z) &&
  hsvP (Float64.add (divF q 4) 4604930618986332160) 4607182418800017408 (divF z 8) == some (colF ((q + 3).fmod 4) z) &&
  toHsvP (colF q z).1 (colF q z).2.1 (colF q z).2.2 == some (divF q 4, 4607182418800017408, divF z 8) &&
  toHlsP (colF q z).1 (colF q z).2.1 (colF q z).2.2 == some (divF q 4, divF z 16, 4607182418800017408) &&
  Float64.isFinite (divF q 4) && Float64.isFinite (divF z 8) && Float64.isFinite (divF z 16)
theorem colB_all : (q4.all fun q => z8.all fun z => colB q z) = true := by decide +kernel
end Mine
end

section
open PySem PySem.W PyProof.Rows PySem.Calls PySem.Flt
set_option Elab.async false
set_option maxRecDepth 100000
set_option maxHeartbeats 4000000
namespace Mine
def walkL (st : Int) : List Int → Int × Int → List (Int × Int)
  | [], p => [p]
  | t :: r, p => p :: walkL st r (eaF p.1 (st + t), noF p.2 (st + t))
def prL (a1 a2 a3 a4 : Int) : List (Int × Int) := [((1 : Int), (0 : Int)), stepP a1 (1, 0), stepP a2 (stepP a1 (1, 0)), stepP a3 (stepP a2 (stepP a1 (1, 0))), stepP a4 (stepP a3 (stepP a2 (stepP a1 (1, 0))))]
def tblC (st a1 a2 a3 a4 a5 : Int) : Bool :=
  let ts := tzL a1 a2 a3 a4 a5
  let w := walkL st ts (0, 0)
  let md := (List.range 20).map fun i => ((w.getD i (0, 0)).1 + (w.getD (i + 1) (0, 0)).1, (w.getD i (0, 0)).2 + (w.getD (i + 1) (0, 0)).2)
  let hs := ts.map fun t => st + t
  (List.range 20).all fun i => placeF (((i : Nat) : Int) + 1) hs (prL a1 a2 a3 a4) [0, 1, 2, 3, 4] == w.getD (i + 1) (0, 0) && ((w.getD i (0, 0)).1.natAbs ≤ 20) && ((w.getD i (0, 0)).2.natAbs ≤ 20) && ((w.getD (i + 1) (0, 0)).1.natAbs ≤ 20) && ((w.getD (i + 1) (0, 0)).2.natAbs ≤ 20) && (List.range i).all fun j => md.getD j (0, 0) != md.getD i (0, 0)
theorem tblC_0 : allF (tblC 0) = true := by decide +kernel
theorem tblC_1 : allF (tblC 1) = true := by decide +kernel
theorem tblC_2 : allF (tblC 2) = true := by decide +kernel
theorem tblC_3 : allF (tblC 3) = true := by decide +kernel
def befB (i : Nat) : Bool := [(0 : Int), 1, 2, 3, 4].all fun k => !(Builtin.bitAnd ((((i : Nat) : Int) + 1).fdiv (2 ^ k.toNat)) 1 == 1) || (decide (0 ≤ (((i : Nat) : Int) + 1).fdiv (2 ^ (k + 1).toNat) * 2 ^ (k + 1).toNat) && decide ((((i : Nat) : Int) + 1).fdiv (2 ^ (k + 1).toNat) * 2 ^ (k + 1).toNat ≤ ((i : Nat) : Int)))
theorem befB_all : (List.range 20).all befB = true := by decide +kernel
end Mine
end

section
open PySem PySem.W PyProof.Rows PySem.Calls PySem.Flt
set_option Elab.async false
set_option maxRecDepth 100000
set_option maxHeartbeats 1000000
namespace Mine
theorem getD_map_range {α : Type} {f : Nat → α} {n i : Nat} {d : α} (h : i < n) : ((List.range n).map f).getD i d = f i := by
  rw [List.getD_eq_getElem?_getD, List.getElem?_map, List.getElem?_range h]; rfl
theorem fmod4 (x : Int) : x.fmod 4 = x % 4 := Int.fmod_eq_emod_of_nonneg _ (by decide)
theorem colB_at {q z : Int} (hq : 0 ≤ q ∧ q ≤ 3) (hz : 1 ≤ z ∧ z ≤ 8) : colB q z = true := by
  have h := colB_all
  rw [List.all_eq_true] at h
  have h1 := h q (List.mem_map.mpr ⟨q.toNat, List.mem_range.mpr (by clear h hz; omega), by clear h hz; omega⟩)
  rw [List.all_eq_true] at h1
  exact h1 z (List.mem_map.mpr ⟨(z - 1).toNat, List.mem_range.mpr (by clear h h1 hq; omega), by clear h h1 hq; omega⟩)
theorem col0 {q z : Int} (hq : 0 ≤ q ∧ q ≤ 3) (hz : 1 ≤ z ∧ z ≤ 8) : hsvP (divF q 4) 4607182418800017408 (divF z 8) = some (colF q z) := by
  have := colB_at hq hz; unfold colB at this; simp only [Bool.and_eq_true, beq_iff_eq] at this; exact this.1.1.1.1.1.1.1
theorem col1 {q z : Int} (hq : 0 ≤ q ∧ q ≤ 3) (hz : 1 ≤ z ∧ z ≤ 8) : hsvP (Float64.add (divF q 4) 4598175219545276416) 4607182418800017408 (divF z 8) = some (colF ((q + 1).fmod 4) z) := by
  have := colB_at hq hz; unfold colB at this; simp only [Bool.and_eq_true, beq_iff_eq] at this; exact this.1.1.1.1.1.1.2
theorem col3 {q z : Int} (hq : 0 ≤ q ∧ q ≤ 3) (hz : 1 ≤ z ∧ z ≤ 8) : hsvP (Float64.add (divF q 4) 4604930618986332160) 4607182418800017408 (divF z 8) = some (colF ((q + 3).fmod 4) z) := by
  have := colB_at hq hz; unfold colB at this; simp only [Bool.and_eq_true, beq_iff_eq] at this; exact this.1.1.1.1.1.2
theorem colh {q z : Int} (hq : 0 ≤ q ∧ q ≤ 3) (hz : 1 ≤ z ∧ z ≤ 8) : toHsvP (colF q z).1 (colF q z).2.1 (colF q z).2.2 = some (divF q 4, 4607182418800017408, divF z 8) := by
  have := colB_at hq hz; unfold colB at this; simp only [Bool.and_eq_true, beq_iff_eq] at this; exact this.1.1.1.1.2
theorem coll {q z : Int} (hq : 0 ≤ q ∧ q ≤ 3) (hz : 1 ≤ z ∧ z ≤ 8) : toHlsP (colF q z).1 (colF q z).2.1 (colF q z).2.2 = some (divF q 4, divF z 16, 4607182418800017408) := by
  have := colB_at hq hz; unfold colB at this; simp only [Bool.and_eq_true, beq_iff_eq] at this; exact this.1.1.1.2
theorem colf {q z : Int} (hq : 0 ≤ q ∧ q ≤ 3) (hz : 1 ≤ z ∧ z ≤ 8) : Float64.isFinite (divF q 4) = true ∧ Float64.isFinite (divF z 8) = true ∧ Float64.isFinite (divF z 16) = true := by
  have := colB_at hq hz; unfold colB at this; simp only [Bool.and_eq_true, beq_iff_eq] at this; exact ⟨this.1.1.2, this.1.2, this.2⟩
theorem fin_size : ∀ z : Int, 1 ≤ z → z ≤ 8 → Float64.isFinite (divF z 8) = true ∧ Float64.isFinite (divF z 16) = true := fun z h1 h2 => (colf (q := 0) ⟨by decide, by decide⟩ ⟨h1, h2⟩).2
theorem tzL_get {a1 a2 a3 a4 a5 d : Int} {i : Nat} (h : i < 20) : (tzL a1 a2 a3 a4 a5).getD i d = turnedZ (i : Int) [a1, a2, a3, a4, a5] := getD_map_range h
section
variable {a1 a2 a3 a4 a5 : Int} (h1 : Pm a1) (h2 : Pm a2) (h3 : Pm a3) (h4 : Pm a4) (h5 : Pm a5)
include h1 h2 h3 h4 h5
theorem tb : (csF a1 a2 a3 a4 a5).length = 31 ∧ turnedZ (0 : Int) [a1, a2, a3, a4, a5] = 0 ∧ ∀ i : Nat, i < 20 → turnedZ (i : Int) [a1, a2, a3, a4, a5] % 2 = ((i % 2 : Nat) : Int) ∧ (0 < i → turnedZ (i : Int) [a1, a2, a3, a4, a5] = turnedZ ((i - 1 : Nat) : Int) [a1, a2, a3, a4, a5] + (csF a1 a2 a3 a4 a5).getD (i - 1) 0 ∧ Pm ((csF a1 a2 a3 a4 a5).getD (i - 1) 0)) := by
  have h := allF_at tblB_all h1 h2 h3 h4 h5
  unfold tblB at h
  simp only [Bool.and_eq_true, beq_iff_eq] at h
  obtain ⟨⟨e1, e2⟩, e3⟩ := h
  rw [tzL_get (by decide)] at e2
  refine ⟨e1, e2, fun i hi => ?_⟩
  rw [List.all_eq_true] at e3
  have h := e3 i (List.mem_range.mpr hi)
  rw [tzL_get hi] at h
  simp only [Bool.and_eq_true, beq_iff_eq, Bool.or_eq_true] at h
  refine ⟨h.1, fun h0 => ?_⟩
  rcases h.2 with q | q
  · omega
  · rw [tzL_get (by omega)] at q
    exact q
theorem rdC : ∀ i : Nat, i < 20 → 0 < i → readZ (i : Int) [a1, a2, a3, a4, a5] = (csF a1 a2 a3 a4 a5).getD (i - 1) 0 := by
  intro i hi h0
  have h := allF_at rdC_all h1 h2 h3 h4 h5
  rw [List.all_eq_true] at h
  have h := h i (List.mem_range.mpr hi)
  simp only [Bool.or_eq_true, beq_iff_eq] at h
  rcases h with q | q
  · omega
  · have e : rdT.getD i (0, false) = (timesZ ((i : Nat) : Int), decide (((nameZ ((i : Nat) : Int)).length : Int).fmod 2 = 1)) := getD_map_range hi
    rw [e] at q
    unfold readZ
    dsimp only at q
    by_cases hc : ((nameZ ((i : Nat) : Int)).length : Int).fmod 2 = 1
    · rw [if_pos hc]; rw [decide_eq_true hc, if_pos rfl] at q; exact q
    · rw [if_neg hc]; rw [decide_eq_false hc, if_neg Bool.false_ne_true] at q; exact q
end
theorem rdB_at {i : Nat} (hi : i < 20) : (startS (i : Int)).length ≤ 100 ∧ (0 < i → 1 ≤ timesZ (i : Int)) := by
  have h := rdB_all
  rw [List.all_eq_true] at h
  have h := h i (List.mem_range.mpr hi)
  unfold rdB at h
  simp only [Bool.and_eq_true, Bool.or_eq_true, beq_iff_eq, decide_eq_true_eq] at h
  refine ⟨h.1, fun h0 => ?_⟩
  rcases h.2 with q | q
  · omega
  · exact q
theorem befB_at {i : Nat} (hi : i < 20) {k : Int} (hk0 : 0 ≤ k) (hk : k < 5) (hb : Builtin.bitAnd (((i : Int) + 1).fdiv (2 ^ k.toNat)) 1 = 1) : 0 ≤ ((i : Int) + 1).fdiv (2 ^ (k + 1).toNat) * 2 ^ (k + 1).toNat ∧ ((i : Int) + 1).fdiv (2 ^ (k + 1).toNat) * 2 ^ (k + 1).toNat ≤ (i : Int) := by
  have h := befB_all
  rw [List.all_eq_true] at h
  have h := h i (List.mem_range.mpr hi)
  unfold befB at h
  rw [List.all_eq_true] at h
  have hm : k ∈ [(0 : Int), 1, 2, 3, 4] := by
    have : k = 0 ∨ k = 1 ∨ k = 2 ∨ k = 3 ∨ k = 4 := by omega
    simp; exact this
  have h := h k hm
  simp only [Bool.or_eq_true, Bool.not_eq_true', beq_eq_false_iff_ne, Bool.and_eq_true, decide_eq_true_eq] at h
  rcases h with q | q
  · exact absurd hb q
  · exact q
end Mine
end

section
open PySem PySem.W PyProof.Rows PySem.Calls PySem.Flt
set_option Elab.async false
set_option maxRecDepth 100000
set_option maxHeartbeats 1000000
set_option exponentiation.threshold 3000
namespace Mine
theorem hsF_get {a1 a2 a3 a4 a5 st : Int} {n i : Nat} (h : i < n) : (hsF a1 a2 a3 a4 a5 st n).getD i 0 = st + turnedZ (i : Int) [a1, a2, a3, a4, a5] := by
  unfold hsF rangeKs
  have e : ((n : Int) - 0).toNat = n := by omega
  rw [e, List.map_map, getD_map_range h]
  simp
theorem hg_succ {a1 a2 a3 a4 a5 st : Int} {n i : Nat} (h : i < n) : hgA a1 a2 a3 a4 a5 st n (i + 1) = st + turnedZ (i : Int) [a1, a2, a3, a4, a5] := hsF_get h
theorem fx_step {x : UInt64} {R a : Int} {i : Nat} (f : Fx x R) (b : 0 ≤ R ∧ R ≤ 16 * (i : Int)) (hi : i ≤ 20) (ha : 0 ≤ a ∧ a ≤ 16) : Fx (Float64.add x (divF a 16)) (R + a) :=
  fx_add f (fx_frac (by clear f b; omega)) (by clear f; omega)
theorem sum_case {R G B a b c X Y dx dy : Int} {i : Nat} (bR : 0 ≤ R ∧ R ≤ 16 * (i : Int)) (bG : 0 ≤ G ∧ G ≤ 16 * (i : Int)) (bB : 0 ≤ B ∧ B ≤ 16 * (i : Int)) (ha : 0 ≤ a ∧ a ≤ 16) (hb : 0 ≤ b ∧ b ≤ 16) (hc : 0 ≤ c ∧ c ≤ 16)
    (eX : 2 * R - G - B = 4 * X) (eY : G - B = 2 * Y) (dX : 2 * a - b - c = 4 * dx) (dY : b - c = 2 * dy) :
    (0 ≤ R + a ∧ R + a ≤ 16 * ((i + 1 : Nat) : Int)) ∧ (0 ≤ G + b ∧ G + b ≤ 16 * ((i + 1 : Nat) : Int)) ∧ (0 ≤ B + c ∧ B + c ≤ 16 * ((i + 1 : Nat) : Int)) ∧ 2 * (R + a) - (G + b) - (B + c) = 4 * (X + dx) ∧ G + b - (B + c) = 2 * (Y + dy) := by
  refine ⟨?_, ?_, ?_, ?_, ?_⟩
  · clear bG bB hb hc eX eY dX dY; omega
  · clear bR bB ha hc eX eY dX dY; omega
  · clear bR bG ha hb eX eY dX dY; omega
  · clear bR bG bB ha hb hc eY dY; omega
  · clear bR bG bB ha hb hc eX dX; omega
theorem zz_lem {h st z0 z1 : Int} {i : Nat} (p : h % 2 = (st + ((i % 2 : Nat) : Int)) % 2) (k : Int) (hk : k = st.fmod 2 ∧ h % 2 = 0 ∨ k = 1 - st.fmod 2 ∧ h % 2 = 1) : zzF z0 z1 i = [z0, z1].getD k.toNat 0 := by
  have e2 : st.fmod 2 = st % 2 := Int.fmod_eq_emod_of_nonneg _ (by decide)
  rw [e2] at hk
  clear e2
  unfold zzF
  rcases Nat.mod_two_eq_zero_or_one i with c | c
  · rw [if_pos c]
    have : k.toNat = 0 := by rw [c] at p; clear c; omega
    rw [this]; rfl
  · rw [if_neg (by rw [c]; decide)]
    have : k.toNat = 1 := by rw [c] at p; clear c; omega
    rw [this]; rfl
theorem even4 {x : Int} (h : x % 4 = 0 ∨ x % 4 = 2) : x % 2 = 0 := by omega
theorem odd4 {x : Int} (h : x % 4 = 1 ∨ x % 4 = 3) : x % 2 = 1 := by omega
theorem four_of {q : Int} (h : 0 ≤ q ∧ q ≤ 3) : q = 0 ∨ q = 1 ∨ q = 2 ∨ q = 3 := by omega
theorem neg4 (z : Int) : 2 * 0 - 2 * z - 2 * z = 4 * -z := by omega
theorem tw {z : Int} (h : 1 ≤ z ∧ z ≤ 8) : 0 ≤ 2 * z ∧ 2 * z ≤ 16 := by omega
theorem on {z : Int} (h : 1 ≤ z ∧ z ≤ 8) : 0 ≤ z ∧ z ≤ 16 := by omega
section
variable {a1 a2 a3 a4 a5 st z0 z1 : Int} {n : Nat} (h1 : Pm a1) (h2 : Pm a2) (h3 : Pm a3) (h4 : Pm a4) (h5 : Pm a5) (hn : n ≤ 20) (hs0 : 0 ≤ st) (hs3 : st ≤ 3)
include h1 h2 h3 h4 h5 hn
theorem hg_step {i : Nat} (hi : i < n) (h0 : 0 < i) : hgA a1 a2 a3 a4 a5 st n (i + 1) = hgA a1 a2 a3 a4 a5 st n i + (csF a1 a2 a3 a4 a5).getD (i - 1) 0 := by
  obtain ⟨j, rfl⟩ : ∃ j, i = j + 1 := ⟨i - 1, by omega⟩
  rw [hg_succ hi, hg_succ (by omega)]
  have := ((tb h1 h2 h3 h4 h5).2.2 (j + 1) (by omega)).2 (by omega)
  rw [this.1, Nat.add_sub_cancel]
  omega
theorem hg_one (h : 0 < n) : hgA a1 a2 a3 a4 a5 st n 1 = st := by
  have e := hg_succ (a1 := a1) (a2 := a2) (a3 := a3) (a4 := a4) (a5 := a5) (st := st) h
  have t0 := (tb h1 h2 h3 h4 h5).2.1
  have e0 : ((0 : Nat) : Int) = 0 := rfl
  rw [e0] at e
  rw [e, t0]; omega
theorem hg_par {i : Nat} (hi : i < n) : (hgA a1 a2 a3 a4 a5 st n (i + 1)) % 2 = (st + ((i % 2 : Nat) : Int)) % 2 := by
  rw [hg_succ hi]
  have := ((tb h1 h2 h3 h4 h5).2.2 i (by omega)).1
  omega
theorem q_rng (x : Int) : 0 ≤ x.fmod 4 ∧ x.fmod 4 ≤ 3 := by rw [fmod4]; omega
theorem zz_rng (hz0 : 1 ≤ z0 ∧ z0 ≤ 8) (hz1 : 1 ≤ z1 ∧ z1 ≤ 8) (i : Nat) : 1 ≤ zzF z0 z1 i ∧ zzF z0 z1 i ≤ 8 := by unfold zzF; split <;> assumption
theorem col_at (hz0 : 1 ≤ z0 ∧ z0 ≤ 8) (hz1 : 1 ≤ z1 ∧ z1 ≤ 8) {i : Nat} (hi : i < n) : hsvP (hueF a1 a2 a3 a4 a5 st n i) 4607182418800017408 (divF (zzF z0 z1 i) 8) = some (colF ((hgA a1 a2 a3 a4 a5 st n (i + 1)).fmod 4) (zzF z0 z1 i)) := by
  have hz : 1 ≤ zzF z0 z1 i ∧ zzF z0 z1 i ≤ 8 := by unfold zzF; split <;> assumption
  have hq : 0 ≤ (hgA a1 a2 a3 a4 a5 st n i).fmod 4 ∧ (hgA a1 a2 a3 a4 a5 st n i).fmod 4 ≤ 3 := by rw [fmod4]; omega
  unfold hueF huA
  by_cases h0 : 0 < i
  · rw [if_pos h0, hg_step h1 h2 h3 h4 h5 hn hi h0]
    rcases (((tb h1 h2 h3 h4 h5).2.2 i (by omega)).2 h0).2 with c | c
    · rw [if_pos c, c, col1 hq hz]
      congr 2
      simp only [fmod4]; omega
    · rw [if_neg (by rw [c]; decide), c, col3 hq hz]
      congr 2
      simp only [fmod4]; omega
  · have e : i = 0 := by omega
    subst e
    rw [if_neg (by decide), col0 hq hz, hg_one h1 h2 h3 h4 h5 hn hi]
    rfl
theorem rgb_eq (hz0 : 1 ≤ z0 ∧ z0 ≤ 8) (hz1 : 1 ≤ z1 ∧ z1 ≤ 8) {i : Nat} (hi : i < n) : rgbF a1 a2 a3 a4 a5 st z0 z1 n i = colF ((hgA a1 a2 a3 a4 a5 st n (i + 1)).fmod 4) (zzF z0 z1 i) := by
  unfold rgbF
  rw [col_at h1 h2 h3 h4 h5 hn hz0 hz1 hi]; rfl
include hs0 hs3
theorem zz_even {i : Nat} (hi : i < n) (hq : (hgA a1 a2 a3 a4 a5 st n (i + 1)).fmod 4 = 0 ∨ (hgA a1 a2 a3 a4 a5 st n (i + 1)).fmod 4 = 2) : zzF z0 z1 i = [z0, z1].getD (st.fmod 2).toNat 0 := by
  rw [fmod4] at hq
  exact zz_lem (hg_par (st := st) h1 h2 h3 h4 h5 hn hi) _ (.inl ⟨rfl, even4 hq⟩)
theorem zz_odd {i : Nat} (hi : i < n) (hq : (hgA a1 a2 a3 a4 a5 st n (i + 1)).fmod 4 = 1 ∨ (hgA a1 a2 a3 a4 a5 st n (i + 1)).fmod 4 = 3) : zzF z0 z1 i = [z0, z1].getD (1 - st.fmod 2).toNat 0 := by
  rw [fmod4] at hq
  exact zz_lem (hg_par (st := st) h1 h2 h3 h4 h5 hn hi) _ (.inr ⟨rfl, odd4 hq⟩)
theorem sums (hz0 : 1 ≤ z0 ∧ z0 ≤ 8) (hz1 : 1 ≤ z1 ∧ z1 ≤ 8) : ∀ i : Nat, i ≤ n → ∃ R G B : Int, Fx (reA a1 a2 a3 a4 a5 st z0 z1 n i) R ∧ Fx (grA a1 a2 a3 a4 a5 st z0 z1 n i) G ∧ Fx (blA a1 a2 a3 a4 a5 st z0 z1 n i) B ∧
    (0 ≤ R ∧ R ≤ 16 * i) ∧ (0 ≤ G ∧ G ≤ 16 * i) ∧ (0 ≤ B ∧ B ≤ 16 * i) ∧ 2 * R - G - B = 4 * cxA a1 a2 a3 a4 a5 st z0 z1 n i ∧ G - B = 2 * cyA a1 a2 a3 a4 a5 st z0 z1 n i := by
  intro i
  induction i with
  | zero =>
    intro _
    refine ⟨0, 0, 0, fx_zero false, fx_zero false, fx_zero false, by decide, by decide, by decide, ?_, ?_⟩
    · show (2 * 0 - 0 - 0 : Int) = 4 * ([z0, z1].getD (st.fmod 2).toNat 0 * 0)
      omega
    · show (0 - 0 : Int) = 2 * ([z0, z1].getD (1 - st.fmod 2).toNat 0 * 0)
      omega
  | succ i ih =>
    intro hi
    obtain ⟨R, G, B, fR, fG, fB, bR, bG, bB, eX, eY⟩ := ih (by omega)
    have hz := zz_rng h1 h2 h3 h4 h5 hn hz0 hz1 i
    have hc := rgb_eq (st := st) h1 h2 h3 h4 h5 hn hz0 hz1 (show i < n by omega)
    have hze := zz_even (z0 := z0) (z1 := z1) h1 h2 h3 h4 h5 hn hs0 hs3 (show i < n by omega)
    have hzo := zz_odd (z0 := z0) (z1 := z1) h1 h2 h3 h4 h5 hn hs0 hs3 (show i < n by omega)
    have hq := q_rng h1 h2 h3 h4 h5 hn (hgA a1 a2 a3 a4 a5 st n (i + 1))
    unfold cxA rxF at eX ⊢
    unfold cyA ryF at eY ⊢
    have eE : eaA a1 a2 a3 a4 a5 st n (i + 1) = eaA a1 a2 a3 a4 a5 st n i + [1, 0, -1, 0].getD ((hgA a1 a2 a3 a4 a5 st n (i + 1)).fmod 4).toNat 0 := rfl
    have eN : noA a1 a2 a3 a4 a5 st n (i + 1) = noA a1 a2 a3 a4 a5 st n i + [0, 1, 0, -1].getD ((hgA a1 a2 a3 a4 a5 st n (i + 1)).fmod 4).toNat 0 := rfl
    have eR : reA a1 a2 a3 a4 a5 st z0 z1 n (i + 1) = Float64.add (reA a1 a2 a3 a4 a5 st z0 z1 n i) (rgbF a1 a2 a3 a4 a5 st z0 z1 n i).1 := rfl
    have eG : grA a1 a2 a3 a4 a5 st z0 z1 n (i + 1) = Float64.add (grA a1 a2 a3 a4 a5 st z0 z1 n i) (rgbF a1 a2 a3 a4 a5 st z0 z1 n i).2.1 := rfl
    have eB : blA a1 a2 a3 a4 a5 st z0 z1 n (i + 1) = Float64.add (blA a1 a2 a3 a4 a5 st z0 z1 n i) (rgbF a1 a2 a3 a4 a5 st z0 z1 n i).2.2 := rfl
    rw [eR, eG, eB, eE, eN, hc]
    generalize (hgA a1 a2 a3 a4 a5 st n (i + 1)).fmod 4 = q at *
    generalize zzF z0 z1 i = z at *
    generalize [z0, z1].getD (st.fmod 2).toNat 0 = ZX at *
    generalize [z0, z1].getD (1 - st.fmod 2).toNat 0 = ZY at *
    generalize eaA a1 a2 a3 a4 a5 st n i = E at *
    generalize noA a1 a2 a3 a4 a5 st n i = No at *
    have fin : ∀ a b c dx dy : Int, colI q z = (a, b, c) → (0 ≤ a ∧ a ≤ 16) → (0 ≤ b ∧ b ≤ 16) → (0 ≤ c ∧ c ≤ 16) → 2 * a - b - c = 4 * dx → b - c = 2 * dy →
        ∃ R' G' B' : Int, Fx (Float64.add (reA a1 a2 a3 a4 a5 st z0 z1 n i) (colF q z).1) R' ∧ Fx (Float64.add (grA a1 a2 a3 a4 a5 st z0 z1 n i) (colF q z).2.1) G' ∧ Fx (Float64.add (blA a1 a2 a3 a4 a5 st z0 z1 n i) (colF q z).2.2) B' ∧
        (0 ≤ R' ∧ R' ≤ 16 * ((i + 1 : Nat) : Int)) ∧ (0 ≤ G' ∧ G' ≤ 16 * ((i + 1 : Nat) : Int)) ∧ (0 ≤ B' ∧ B' ≤ 16 * ((i + 1 : Nat) : Int)) ∧ 2 * R' - G' - B' = 4 * (ZX * E + dx) ∧ G' - B' = 2 * (ZY * No + dy) := by
      intro a b c dx dy hcol ha hb hc dX dY
      unfold colF
      rw [hcol]
      have h20 : i ≤ 20 := Nat.le_trans (Nat.le_of_succ_le hi) hn
      exact ⟨R + a, G + b, B + c, fx_step fR bR h20 ha, fx_step fG bG h20 hb, fx_step fB bB h20 hc, sum_case bR bG bB ha hb hc eX eY dX dY⟩
    have x1 : ZX * (E + 1) = ZX * E + ZX := by rw [Int.mul_add, Int.mul_one]
    have x0 : ZX * (E + 0) = ZX * E + 0 := by rw [Int.add_zero, Int.add_zero]
    have xm : ZX * (E + -1) = ZX * E + -ZX := by rw [Int.mul_add, Int.mul_neg, Int.mul_one]
    have y1 : ZY * (No + 1) = ZY * No + ZY := by rw [Int.mul_add, Int.mul_one]
    have y0 : ZY * (No + 0) = ZY * No + 0 := by rw [Int.add_zero, Int.add_zero]
    have ym : ZY * (No + -1) = ZY * No + -ZY := by rw [Int.mul_add, Int.mul_neg, Int.mul_one]
    rcases four_of hq with rfl | rfl | rfl | rfl
    · have e := hze (.inl rfl)
      have f := fin (2 * z) 0 0 ZX 0 rfl (tw hz) (by decide) (by decide) (by rw [← e, Int.sub_zero, Int.sub_zero, ← Int.mul_assoc]; rfl) rfl
      rw [← x1, ← y0] at f; exact f
    · have e := hzo (.inl rfl)
      have f := fin z (2 * z) 0 0 ZY rfl (on hz) (tw hz) (by decide) (by rw [Int.sub_self]; rfl) (by rw [← e, Int.sub_zero])
      rw [← x0, ← y1] at f; exact f
    · have e := hze (.inr rfl)
      have f := fin 0 (2 * z) (2 * z) (-ZX) 0 rfl (by decide) (tw hz) (tw hz) (by rw [← e]; exact neg4 z) (by rw [Int.sub_self]; rfl)
      rw [← xm, ← y0] at f; exact f
    · have e := hzo (.inr rfl)
      have f := fin z 0 (2 * z) 0 (-ZY) rfl (on hz) (by decide) (tw hz) (by rw [Int.sub_zero, Int.sub_self]; rfl) (by rw [← e, Int.zero_sub, Int.mul_neg])
      rw [← x0, ← ym] at f; exact f
end
end Mine
end

section
open PySem PySem.W PyProof.Rows PySem.Calls PySem.Flt
set_option Elab.async false
set_option maxRecDepth 100000
set_option maxHeartbeats 1000000
set_option exponentiation.threshold 3000
namespace Mine
theorem mul2 {x : UInt64} {k : Int} (hx : Fx x k) (h : (2 * k).natAbs < 2 ^ 53) : Fx (Float64.mul 4611686018427387904 x) (2 * k) :=
  fx_mul (n := 2) (m1 := 2 ^ 52) (e1 := -51) (by kernel_rfl) (by decide +kernel) (by decide) hx h
theorem mul4 {x : UInt64} {k : Int} (hx : Fx x k) (h : (4 * k).natAbs < 2 ^ 53) : Fx (Float64.mul 4616189618054758400 x) (4 * k) :=
  fx_mul (n := 4) (m1 := 2 ^ 52) (e1 := -50) (by kernel_rfl) (by decide +kernel) (by decide) hx h
theorem mul8 {x : UInt64} {k : Int} (hx : Fx x k) (h : (8 * k).natAbs < 2 ^ 53) : Fx (Float64.mul 4620693217682128896 x) (8 * k) :=
  fx_mul (n := 8) (m1 := 2 ^ 52) (e1 := -49) (by kernel_rfl) (by decide +kernel) (by decide) hx h
theorem walk_zero {st : Int} {ts : List Int} {p : Int × Int} : (walkL st ts p).getD 0 (0, 0) = p := by cases ts <;> rfl
theorem walk_succ {st : Int} : ∀ (ts : List Int) (p : Int × Int) (i : Nat), i < ts.length → (walkL st ts p).getD (i + 1) (0, 0) = (eaF ((walkL st ts p).getD i (0, 0)).1 (st + ts.getD i 0), noF ((walkL st ts p).getD i (0, 0)).2 (st + ts.getD i 0))
  | [], _, _, h => by cases h
  | t :: r, p, 0, _ => by
    show (walkL st r (eaF p.1 (st + t), noF p.2 (st + t))).getD 0 (0, 0) = _
    rw [walk_zero]; rfl
  | t :: r, p, i + 1, h => by
    show (walkL st r (eaF p.1 (st + t), noF p.2 (st + t))).getD (i + 1) (0, 0) = _
    rw [walk_succ r _ i (by simpa using h)]; rfl
theorem place_congr {x : Int} {ns ns' : List Int} {qs : List (Int × Int)} : ∀ (ks : List Int), (∀ k ∈ ks, Builtin.bitAnd (x.fdiv (2 ^ k.toNat)) 1 = 1 → ns.getD (beforeZ x k).toNat 0 = ns'.getD (beforeZ x k).toNat 0) → ∀ p, ks.foldl (stepZ x ns qs) p = ks.foldl (stepZ x ns' qs) p
  | [], _, _ => rfl
  | k :: r, h, p => by
    have e : stepZ x ns qs p k = stepZ x ns' qs p k := by
      unfold stepZ
      by_cases hb : Builtin.bitAnd (x.fdiv (2 ^ k.toNat)) 1 = 1
      · rw [if_pos hb, if_pos hb, h k (List.mem_cons_self ..) hb]
      · rw [if_neg hb, if_neg hb]
    rw [List.foldl_cons, List.foldl_cons, e]
    exact place_congr r (fun k hk => h k (List.mem_cons_of_mem _ hk)) _
theorem sx_lem {re gr bl : UInt64} {R G B X Y : Int} {i : Nat} (hi : i ≤ 20) (fR : Fx re R) (fG : Fx gr G) (fB : Fx bl B) (bR : 0 ≤ R ∧ R ≤ 16 * (i : Int)) (bG : 0 ≤ G ∧ G ≤ 16 * (i : Int)) (bB : 0 ≤ B ∧ B ≤ 16 * (i : Int)) (eX : 2 * R - G - B = 4 * X) (eY : G - B = 2 * Y) : Fx (sxF re gr bl) (16 * X) ∧ Fx (syF gr bl) (16 * Y) := by
  have e1 : 16 * X = 4 * (2 * R - G - B) := by rw [eX, ← Int.mul_assoc]; rfl
  have e2 : 16 * Y = 8 * (G - B) := by rw [eY, ← Int.mul_assoc]; rfl
  rw [e1, e2]
  clear eX eY e1 e2
  unfold sxF syF
  exact ⟨mul4 (fx_sub (fx_sub (mul2 fR (by clear fR fG fB; omega)) fG (by clear fR fG fB; omega)) fB (by clear fR fG fB; omega)) (by clear fR fG fB; omega), mul8 (fx_sub fG fB (by clear fR fG fB; omega)) (by clear fR fG fB; omega)⟩
theorem q_lem {sx : UInt64} {c c' : Int} (f : Fx sx (16 * c')) (h : c.natAbs ≤ 160) (h' : c'.natAbs ≤ 160) : Fx (Float64.add (Float64.ofInt c) sx) (16 * (c + c')) := by
  rw [Int.mul_add]
  exact fx_add (fx_ofInt (by clear f h'; omega)) f (by clear f; omega)
theorem mul_small {z e : Int} (hz : 1 ≤ z ∧ z ≤ 8) (he : e.natAbs ≤ 20) : (z * e).natAbs ≤ 160 := by
  rw [Int.natAbs_mul]
  have h : z.natAbs ≤ 8 := by clear he; omega
  exact Nat.le_trans (Nat.mul_le_mul h he) (by decide)
theorem mul_ok {z e : Int} (hz : 1 ≤ z ∧ z ≤ 8) : IntMulOk z e := IntMulOk.of_left (intBits_le_64 (by omega) (by omega))
section
variable {a1 a2 a3 a4 a5 st z0 z1 : Int} {n : Nat} (h1 : Pm a1) (h2 : Pm a2) (h3 : Pm a3) (h4 : Pm a4) (h5 : Pm a5) (hn : n ≤ 20) (hs0 : 0 ≤ st) (hs3 : st ≤ 3) (hz0 : 1 ≤ z0 ∧ z0 ≤ 8) (hz1 : 1 ≤ z1 ∧ z1 ≤ 8)
include h1 h2 h3 h4 h5 hn hs0 hs3
theorem tblC_at : tblC st a1 a2 a3 a4 a5 = true := by
  have : st = 0 ∨ st = 1 ∨ st = 2 ∨ st = 3 := by omega
  rcases this with rfl | rfl | rfl | rfl
  · exact allF_at tblC_0 h1 h2 h3 h4 h5
  · exact allF_at tblC_1 h1 h2 h3 h4 h5
  · exact allF_at tblC_2 h1 h2 h3 h4 h5
  · exact allF_at tblC_3 h1 h2 h3 h4 h5
theorem walk_at : ∀ i : Nat, i ≤ n → (walkL st (tzL a1 a2 a3 a4 a5) (0, 0)).getD i (0, 0) = (eaA a1 a2 a3 a4 a5 st n i, noA a1 a2 a3 a4 a5 st n i) := by
  intro i
  induction i with
  | zero => intro _; rw [walk_zero]; rfl
  | succ i ih =>
    intro hi
    rw [walk_succ _ _ i (by unfold tzL; simp; omega), ih (by omega), tzL_get (by omega), ← hg_succ (n := n) (by omega)]
    rfl
theorem tc {i : Nat} (hi : i < n) : placeF ((i : Int) + 1) ((tzL a1 a2 a3 a4 a5).map fun t => st + t) (prL a1 a2 a3 a4) [0, 1, 2, 3, 4] = (eaA a1 a2 a3 a4 a5 st n (i + 1), noA a1 a2 a3 a4 a5 st n (i + 1)) ∧
    (eaA a1 a2 a3 a4 a5 st n i).natAbs ≤ 20 ∧ (noA a1 a2 a3 a4 a5 st n i).natAbs ≤ 20 ∧ (eaA a1 a2 a3 a4 a5 st n (i + 1)).natAbs ≤ 20 ∧ (noA a1 a2 a3 a4 a5 st n (i + 1)).natAbs ≤ 20 ∧
    ∀ j, j < i → ¬ (eaA a1 a2 a3 a4 a5 st n j + eaA a1 a2 a3 a4 a5 st n (j + 1) = eaA a1 a2 a3 a4 a5 st n i + eaA a1 a2 a3 a4 a5 st n (i + 1) ∧ noA a1 a2 a3 a4 a5 st n j + noA a1 a2 a3 a4 a5 st n (j + 1) = noA a1 a2 a3 a4 a5 st n i + noA a1 a2 a3 a4 a5 st n (i + 1)) := by
  have h := tblC_at h1 h2 h3 h4 h5 hn hs0 hs3
  have wa := walk_at h1 h2 h3 h4 h5 hn hs0 hs3
  unfold tblC at h
  rw [List.all_eq_true] at h
  have h := h i (List.mem_range.mpr (by omega))
  simp only [Bool.and_eq_true, beq_iff_eq, decide_eq_true_eq] at h
  obtain ⟨⟨⟨⟨⟨q1, q2⟩, q3⟩, q4⟩, q5⟩, q6⟩ := h
  rw [wa (i + 1) (by omega)] at q1 q4 q5
  rw [wa i (by omega)] at q2 q3
  refine ⟨q1, q2, q3, q4, q5, fun j hj e => ?_⟩
  rw [List.all_eq_true] at q6
  have q := q6 j (List.mem_range.mpr hj)
  rw [getD_map_range (by omega), getD_map_range (by omega)] at q
  rw [wa j (by omega), wa (j + 1) (by omega), wa i (by omega), wa (i + 1) (by omega)] at q
  dsimp only at q
  rw [e.1, e.2] at q
  simp at q
include hz0 hz1
theorem zx_rng : (1 ≤ [z0, z1].getD (st.fmod 2).toNat 0 ∧ [z0, z1].getD (st.fmod 2).toNat 0 ≤ 8) ∧ (1 ≤ [z0, z1].getD (1 - st.fmod 2).toNat 0 ∧ [z0, z1].getD (1 - st.fmod 2).toNat 0 ≤ 8) := by
  have e2 : st.fmod 2 = st % 2 := Int.fmod_eq_emod_of_nonneg _ (by decide)
  rw [e2]
  have : st % 2 = 0 ∨ st % 2 = 1 := by omega
  rcases this with e | e <;> rw [e] <;> exact ⟨by assumption, by assumption⟩
theorem ea_small {i : Nat} (hi : i ≤ n) (h0 : 0 < n) : (eaA a1 a2 a3 a4 a5 st n i).natAbs ≤ 20 ∧ (noA a1 a2 a3 a4 a5 st n i).natAbs ≤ 20 := by
  rcases Nat.lt_or_ge i n with h | h
  · exact ⟨(tc h1 h2 h3 h4 h5 hn hs0 hs3 h).2.1, (tc h1 h2 h3 h4 h5 hn hs0 hs3 h).2.2.1⟩
  · obtain ⟨j, rfl⟩ : ∃ j, i = j + 1 := ⟨i - 1, by omega⟩
    have := tc h1 h2 h3 h4 h5 hn hs0 hs3 (show j < n by omega)
    exact ⟨this.2.2.2.1, this.2.2.2.2.1⟩
theorem c_small {i : Nat} (hi : i ≤ n) (h0 : 0 < n) : (cxA a1 a2 a3 a4 a5 st z0 z1 n i).natAbs ≤ 160 ∧ (cyA a1 a2 a3 a4 a5 st z0 z1 n i).natAbs ≤ 160 := by
  have hz := zx_rng h1 h2 h3 h4 h5 hn hs0 hs3 hz0 hz1
  have he := ea_small h1 h2 h3 h4 h5 hn hs0 hs3 hz0 hz1 hi h0
  exact ⟨mul_small hz.1 he.1, mul_small hz.2 he.2⟩
theorem sx_fx {i : Nat} (hi : i ≤ n) (h0 : 0 < n) : Fx (sxA a1 a2 a3 a4 a5 st z0 z1 n i) (16 * cxA a1 a2 a3 a4 a5 st z0 z1 n i) ∧ Fx (syA a1 a2 a3 a4 a5 st z0 z1 n i) (16 * cyA a1 a2 a3 a4 a5 st z0 z1 n i) := by
  obtain ⟨R, G, B, fR, fG, fB, bR, bG, bB, eX, eY⟩ := sums h1 h2 h3 h4 h5 hn hs0 hs3 hz0 hz1 i hi
  exact sx_lem (Nat.le_trans hi hn) fR fG fB bR bG bB eX eY
theorem q_fx {i : Nat} (hi : i < n) : Fx (qA a1 a2 a3 a4 a5 st z0 z1 n i).1 (16 * (cxA a1 a2 a3 a4 a5 st z0 z1 n i + cxA a1 a2 a3 a4 a5 st z0 z1 n (i + 1))) ∧ Fx (qA a1 a2 a3 a4 a5 st z0 z1 n i).2 (16 * (cyA a1 a2 a3 a4 a5 st z0 z1 n i + cyA a1 a2 a3 a4 a5 st z0 z1 n (i + 1))) := by
  have s := sx_fx h1 h2 h3 h4 h5 hn hs0 hs3 hz0 hz1 (i := i + 1) (by omega) (by omega)
  have c := c_small h1 h2 h3 h4 h5 hn hs0 hs3 hz0 hz1 (i := i) (by omega) (by omega)
  have c' := c_small h1 h2 h3 h4 h5 hn hs0 hs3 hz0 hz1 (i := i + 1) (by omega) (by omega)
  exact ⟨q_lem s.1 c.1 c'.1, q_lem s.2 c.2 c'.2⟩
theorem hits_eq {i : Nat} (hi : i < n) (X Y : Int) : hits (qA a1 a2 a3 a4 a5 st z0 z1 n i) X Y = (decide (16 * (cxA a1 a2 a3 a4 a5 st z0 z1 n i + cxA a1 a2 a3 a4 a5 st z0 z1 n (i + 1)) = 16 * X) && decide (16 * (cyA a1 a2 a3 a4 a5 st z0 z1 n i + cyA a1 a2 a3 a4 a5 st z0 z1 n (i + 1)) = 16 * Y)) := by
  have q := q_fx h1 h2 h3 h4 h5 hn hs0 hs3 hz0 hz1 hi
  unfold hits
  rw [fx_cmp q.1, fx_cmp q.2]
theorem plain_good (h0 : 0 < n) : Good a1 a2 a3 a4 a5 st z0 z1 n where
  rd := fun i hi h => rdC h1 h2 h3 h4 h5 i (by omega) h
  tm := fun i hi h => (rdB_at (by omega)).2 h
  sl := fun i hi => (rdB_at (by omega)).1
  hg := fun i hi h => hg_step h1 h2 h3 h4 h5 hn hi h
  hg0 := hg_one h1 h2 h3 h4 h5 hn h0
  cl := fun i hi => by rw [rgb_eq h1 h2 h3 h4 h5 hn hz0 hz1 hi]; exact col_at h1 h2 h3 h4 h5 hn hz0 hz1 hi
  to0 := fun i hi hp => by
    rw [rgb_eq h1 h2 h3 h4 h5 hn hz0 hz1 hi]
    have e : zzF z0 z1 i = z0 := by unfold zzF; rw [if_pos hp]
    rw [e]
    exact colh (q_rng h1 h2 h3 h4 h5 hn _) hz0
  to1 := fun i hi hp => by
    rw [rgb_eq h1 h2 h3 h4 h5 hn hz0 hz1 hi]
    have e : zzF z0 z1 i = z1 := by unfold zzF; rw [if_neg (by omega)]
    rw [e]
    exact coll (q_rng h1 h2 h3 h4 h5 hn _) hz1
  fi := fun i => (colf (z := 1) (q_rng h1 h2 h3 h4 h5 hn _) (by decide)).1
  m1 := fun i hi => by
    have hz := zx_rng h1 h2 h3 h4 h5 hn hs0 hs3 hz0 hz1
    exact mul_ok hz.1
  m2 := fun i hi => by
    have hz := zx_rng h1 h2 h3 h4 h5 hn hs0 hs3 hz0 hz1
    exact mul_ok hz.2
  cX := fun i hi => by
    rw [fx_cmp (sx_fx h1 h2 h3 h4 h5 hn hs0 hs3 hz0 hz1 (i := i + 1) (by omega) h0).1]; simp
  cY := fun i hi => by
    rw [fx_cmp (sx_fx h1 h2 h3 h4 h5 hn hs0 hs3 hz0 hz1 (i := i + 1) (by omega) h0).2]; simp
  bx := fun i hi => by
    have c := (c_small h1 h2 h3 h4 h5 hn hs0 hs3 hz0 hz1 (i := i) (by omega) h0).1
    exact fun q => absurd (Nat.le_trans q c) (by decide +kernel)
  by' := fun i hi => by
    have c := (c_small h1 h2 h3 h4 h5 hn hs0 hs3 hz0 hz1 (i := i) (by omega) h0).2
    exact fun q => absurd (Nat.le_trans q c) (by decide +kernel)
  hit := fun i hi => by rw [hits_eq h1 h2 h3 h4 h5 hn hs0 hs3 hz0 hz1 hi]; simp
  nhit := fun i j hi hj => by
    rw [hits_eq h1 h2 h3 h4 h5 hn hs0 hs3 hz0 hz1 (show j < n by omega)]
    have hz := zx_rng h1 h2 h3 h4 h5 hn hs0 hs3 hz0 hz1
    have t := (tc h1 h2 h3 h4 h5 hn hs0 hs3 hi).2.2.2.2.2 j hj
    by_cases ex : 16 * (cxA a1 a2 a3 a4 a5 st z0 z1 n j + cxA a1 a2 a3 a4 a5 st z0 z1 n (j + 1)) = 16 * (cxA a1 a2 a3 a4 a5 st z0 z1 n i + cxA a1 a2 a3 a4 a5 st z0 z1 n (i + 1))
    · by_cases ey : 16 * (cyA a1 a2 a3 a4 a5 st z0 z1 n j + cyA a1 a2 a3 a4 a5 st z0 z1 n (j + 1)) = 16 * (cyA a1 a2 a3 a4 a5 st z0 z1 n i + cyA a1 a2 a3 a4 a5 st z0 z1 n (i + 1))
      · exfalso
        apply t
        have ex2 := Int.eq_of_mul_eq_mul_left (by decide) ex
        have ey2 := Int.eq_of_mul_eq_mul_left (by decide) ey
        unfold cxA rxF at ex2
        unfold cyA ryF at ey2
        rw [← Int.mul_add, ← Int.mul_add] at ex2 ey2
        exact ⟨Int.eq_of_mul_eq_mul_left (by omega) ex2, Int.eq_of_mul_eq_mul_left (by omega) ey2⟩
      · rw [decide_eq_false ey, Bool.and_false]
    · rw [decide_eq_false ex, Bool.false_and]
  bo := fun i hi k hk0 hk hb => by
    have b := befB_at (show i < 20 by omega) hk0 hk hb
    refine ⟨b.1, ?_⟩
    have e : (hsF a1 a2 a3 a4 a5 st n).length = n := by unfold hsF; rw [List.length_map, rangeKs_length]; omega
    rw [e]
    exact Int.lt_of_le_of_lt b.2 (by omega)
  pE := fun i hi => by
    have t := (tc h1 h2 h3 h4 h5 hn hs0 hs3 hi).1
    have e : placeF ((i : Int) + 1) (hsF a1 a2 a3 a4 a5 st n) (prF a1 a2 a3 a4) [0, 1, 2, 3, 4] = placeF ((i : Int) + 1) ((tzL a1 a2 a3 a4 a5).map fun t => st + t) (prL a1 a2 a3 a4) [0, 1, 2, 3, 4] := by
      refine place_congr _ (fun k hk hb => ?_) _
      have hk2 : k = 0 ∨ k = 1 ∨ k = 2 ∨ k = 3 ∨ k = 4 := by simpa using hk
      have b := befB_at (show i < 20 by omega) (k := k) (by omega) (by omega) hb
      have hb2 : (beforeZ ((i : Int) + 1) k).toNat < n := by unfold beforeZ; omega
      rw [hsF_get hb2, List.getD_eq_getElem?_getD, List.getElem?_map]
      have e3 := tzL_get (a1 := a1) (a2 := a2) (a3 := a3) (a4 := a4) (a5 := a5) (d := 0) (show (beforeZ ((i : Int) + 1) k).toNat < 20 by omega)
      have e4 : (tzL a1 a2 a3 a4 a5)[(beforeZ ((i : Int) + 1) k).toNat]? = some (turnedZ (((beforeZ ((i : Int) + 1) k).toNat : Nat) : Int) [a1, a2, a3, a4, a5]) := by
        unfold tzL
        rw [List.getElem?_map, List.getElem?_range (by omega)]; rfl
      rw [e4]; rfl
    rw [e, t]
  pN := fun i hi => by
    have t := (tc h1 h2 h3 h4 h5 hn hs0 hs3 hi).1
    have e : placeF ((i : Int) + 1) (hsF a1 a2 a3 a4 a5 st n) (prF a1 a2 a3 a4) [0, 1, 2, 3, 4] = placeF ((i : Int) + 1) ((tzL a1 a2 a3 a4 a5).map fun t => st + t) (prL a1 a2 a3 a4) [0, 1, 2, 3, 4] := by
      refine place_congr _ (fun k hk hb => ?_) _
      have hk2 : k = 0 ∨ k = 1 ∨ k = 2 ∨ k = 3 ∨ k = 4 := by simpa using hk
      have b := befB_at (show i < 20 by omega) (k := k) (by omega) (by omega) hb
      have hb2 : (beforeZ ((i : Int) + 1) k).toNat < n := by unfold beforeZ; omega
      rw [hsF_get hb2, List.getD_eq_getElem?_getD, List.getElem?_map]
      have e4 : (tzL a1 a2 a3 a4 a5)[(beforeZ ((i : Int) + 1) k).toNat]? = some (turnedZ (((beforeZ ((i : Int) + 1) k).toNat : Nat) : Int) [a1, a2, a3, a4, a5]) := by
        unfold tzL
        rw [List.getElem?_map, List.getElem?_range (by omega)]; rfl
      rw [e4]; rfl
    rw [e, t]
end
end Mine
end

section
open PySem PySem.W PyProof.Rows PySem.Calls PySem.Flt
set_option Elab.async false
set_option maxRecDepth 100000
set_option maxHeartbeats 1000000
namespace Mine
theorem drawnF_len (ns : List Int) : (drawnF ns).length = 8 := by
  unfold drawnF
  rw [List.length_append, List.length_take, List.length_drop]
  show min 8 ns.length + (8 - ns.length) = 8
  omega
theorem list8 {xs : List Int} (h : xs.length = 8) : ∃ d0 d1 d2 d3 d4 d5 d6 d7, xs = [d0, d1, d2, d3, d4, d5, d6, d7] := by
  match xs, h with
  | [d0, d1, d2, d3, d4, d5, d6, d7], _ => exact ⟨d0, d1, d2, d3, d4, d5, d6, d7, rfl⟩
theorem ints8 {ws : List Value} {d0 d1 d2 d3 d4 d5 d6 d7 : Int} (h : IntsAre ws [d0, d1, d2, d3, d4, d5, d6, d7]) : ∃ u0 u1 u2 u3 u4 u5 u6 u7, ws = [.int d0 u0, .int d1 u1, .int d2 u2, .int d3 u3, .int d4 u4, .int d5 u5, .int d6 u6, .int d7 u7] := by
  obtain ⟨u0, w0, rfl, g0⟩ := ints_cons h
  obtain ⟨u1, w1, rfl, g1⟩ := ints_cons g0
  obtain ⟨u2, w2, rfl, g2⟩ := ints_cons g1
  obtain ⟨u3, w3, rfl, g3⟩ := ints_cons g2
  obtain ⟨u4, w4, rfl, g4⟩ := ints_cons g3
  obtain ⟨u5, w5, rfl, g5⟩ := ints_cons g4
  obtain ⟨u6, w6, rfl, g6⟩ := ints_cons g5
  obtain ⟨u7, w7, rfl, g7⟩ := ints_cons g6
  rw [ints_nil g7]
  exact ⟨u0, u1, u2, u3, u4, u5, u6, u7, rfl⟩
theorem pm_of (d : Int) : Pm (1 - 2 * d.fmod 2) := by
  have : d.fmod 2 = d % 2 := Int.fmod_eq_emod_of_nonneg _ (by decide)
  rw [this]
  have : d % 2 = 0 ∨ d % 2 = 1 := by omega
  rcases this with e | e <;> rw [e]
  · exact .inl rfl
  · exact .inr rfl
theorem pm_bd {a : Int} (h : Pm a) : -1 ≤ a ∧ a ≤ 1 := by rcases h with rfl | rfl <;> decide
theorem fmod8 (d : Int) : 1 ≤ 1 + d.fmod 8 ∧ 1 + d.fmod 8 ≤ 8 := by
  have : d.fmod 8 = d % 8 := Int.fmod_eq_emod_of_nonneg _ (by decide)
  omega
theorem fmod13 (d : Int) : ∃ n : Nat, 8 + d.fmod 13 = (n : Int) ∧ 8 ≤ n ∧ n ≤ 20 := by
  rw [Int.fmod_eq_emod_of_nonneg d (by decide)]
  obtain ⟨k, hk⟩ := Int.eq_ofNat_of_zero_le (Int.emod_nonneg d (show (13 : Int) ≠ 0 by decide))
  have h2 := Int.emod_lt_of_pos d (show (0 : Int) < 13 by decide)
  rw [hk] at h2 ⊢
  exact ⟨8 + k, rfl, Nat.le_add_right 8 k, Nat.add_le_add_left (Nat.le_of_lt_succ (Int.ofNat_lt.mp h2)) 8⟩
theorem st_rng (d : Int) : 0 ≤ d.fmod 4 ∧ d.fmod 4 ≤ 3 := by rw [fmod4]; omega
theorem st_fix (d : Int) : (d.fmod 4).fmod 4 = d.fmod 4 := by simp only [fmod4]; omega
theorem law_rest {w : World} {loose : List Str} {mean : ExcName → Option Value} {mg mb : Env0} (l fa : Addr) (cd : Value) (a1 a2 a3 a4 a5 st z0 z1 : Int) (n : Nat) (f1 f2 f3 f4 f5 s0 s1 ts tt : Tok) (base h₀ : Heap) (L D Z P : Addr) (q1 q2 : Obj) (s : Shared) (Q : Flow → Shared → Prop)
    (B : Below callerA base [] h₀) (X : (hd.heap_39 w.params).In h₀) (T : Top hd.view_39 loose mean mg mb h₀)
    (F2 : Fr h₀ L s.heap (fun y => if y = Str.ofString "sizes" then some (.ref Z) else if y = Str.ofString "steps" then some (.int (n : Int) ts) else if y = Str.ofString "drawn" then some (.ref D) else if y = Str.ofString "script" then some (.ref l) else none))
    (N2 : News h₀ L s.heap [(Z, tupO [.int z0 s0, .int z1 s1]), (P, LCg.lst [.int a1 f1, .int a2 f2, .int a3 f3, .int a4 f4, .int a5 f5]), (L + 1 + 1, q2), (L + 1, q1)])
    (hq1 : q1.data = .cell (some (.int st tt))) (hq2 : q2.data = .cell (some (.ref P))) (hn8 : 8 ≤ n) (hn20 : n ≤ 20) (pa1 : Pm a1) (pa2 : Pm a2) (pa3 : Pm a3) (pa4 : Pm a4) (pa5 : Pm a5) (hst : 0 ≤ st ∧ st ≤ 3) (hstf : st.fmod 4 = st) (hz0 : 1 ≤ z0 ∧ z0 ≤ 8) (hz1 : 1 ≤ z1 ∧ z1 ≤ 8)
    (H : ∀ m' news' h' tk, Fr h₀ L h' m' → News h₀ L h' news' → Q (.ret (.bool true)) { s with heap := h', toks := tk }) :
    wpAny (model PySem.Challenge.rw_wu0029_01.row.prog w) (callerA.deeper (lawEnv L fa cd)) (execs ((lawBody.drop 5).take 1 ++ ((lawBody.drop 6).take 1 ++ ((lawBody.drop 7).take 2 ++ ((lawBody.drop 9).take 3 ++ ((lawBody.drop 12).take 1 ++ (lawBody.drop 13).take 1))))) (lawEnv L fa cd)) Q (fun _ _ => False) s := by
  have Gd := plain_good (z0 := z0) (z1 := z1) pa1 pa2 pa3 pa4 pa5 hn20 hst.1 hst.2 hz0 hz1 (Nat.lt_of_lt_of_le (by decide) hn8)
  have hcl := (tb pa1 pa2 pa3 pa4 pa5).1
  refine law_c l fa cd a1 a2 a3 a4 a5 f1 f2 f3 f4 f5 (n : Int) ts 5 base h₀ L D Z P _ q1 q2 s _ Q _ B F2 X hq2 (nc N2 (List.Mem.tail _ (List.Mem.head _)) (nc N2 (List.Mem.head _) (nc N2 (List.Mem.tail _ (List.Mem.tail _ (List.Mem.head _))) (nc N2 (List.Mem.tail _ (List.Mem.tail _ (List.Mem.tail _ (List.Mem.head _)))) (nt (tl := []) N2 (fun p hp => nomatch hp)))))) T ?_
  intro C wsC h3 tk3 hIC F3 N3
  refine law_d fa cd l C Z D P a1 a2 a3 a4 a5 (n : Int) st f1 f2 f3 f4 f5 ts tt 5 _ _ q1 q2 base h₀ L _ _ Q _ B F3 X T N3 hq1 hq2 (Int.ofNat_le.mpr hn8) (Int.ofNat_le.mpr hn20) ?_
  intro G wsG h4 tk4 hIG F4 N4
  refine law_e fa cd l C Z D P G a1 a2 a3 a4 a5 (n : Int) st f1 f2 f3 f4 f5 ts tt 5 _ _ _ q1 q2 base h₀ L _ _ Q B F4 X T N4 hq2 (pm_bd pa1) (pm_bd pa2) (pm_bd pa3) (pm_bd pa4) ?_
  intro R T0 T1 T2 T3 T4 v0 w0 v1 w1 v2 w2 v3 w3 v4 w4 m5 h5 tk5 F5 N5
  refine law_f fa cd m5 C Z P G R T0 T1 T2 T3 T4 (n : Int) st ts tt _ _ _ q1 q2 _ _ _ _ _ _ _ base h₀ L _ _ Q B F5 X T N5 hq1 hst.1 hst.2 ?_
  intro K A tb' tg tr th te tn k0 k1 h6 tk6 hth n1 n2 n3 n4 n5 n6 n7 n8 n9 n10 n11 n12 n13 F6 N6
  have F7 := fr_key0 (k := Str.ofString "steps") (v := .int (n : Int) ts) F6 rfl
  have eX : cxA a1 a2 a3 a4 a5 st z0 z1 n 0 = 0 := by
    show [z0, z1].getD (st.fmod 2).toNat 0 * 0 = 0
    rw [Int.mul_zero]
  have eY : cyA a1 a2 a3 a4 a5 st z0 z1 n 0 = 0 := by
    show [z0, z1].getD (1 - st.fmod 2).toNat 0 * 0 = 0
    rw [Int.mul_zero]
  have eH : huA a1 a2 a3 a4 a5 st n 0 = divF st 4 := by
    show divF (st.fmod 4) 4 = _
    rw [hstf]
  refine law_g fa cd a1 a2 a3 a4 a5 st z0 z1 n f1 f2 f3 f4 f5 s0 s1 v0 w0 v1 w1 v2 w2 v3 w3 v4 w4 5 A R G C Z P T0 T1 T2 T3 T4 L q1 q2 wsG wsC tt ts _ _ base h₀ _ _ Q B X T Gd hn20 hq1 hq2 hIG hIC hcl hz0 hz1 fin_size ?_ F7 ((nc N6 (List.Mem.head _) (nc N6 (List.Mem.tail _ (List.Mem.head _)) (nc N6 (List.Mem.tail _ (List.Mem.tail _ (List.Mem.tail _ (List.Mem.tail _ (List.Mem.tail _ (List.Mem.tail _ (List.Mem.tail _ (List.Mem.tail _ (List.Mem.head _))))))))) (nc N6 (List.Mem.tail _ (List.Mem.tail _ (List.Mem.head _))) (nc N6 (List.Mem.tail _ (List.Mem.tail _ (List.Mem.tail _ (List.Mem.head _)))) (nc N6 (List.Mem.tail _ (List.Mem.tail _ (List.Mem.tail _ (List.Mem.tail _ (List.Mem.head _))))) (nc N6 (List.Mem.tail _ (List.Mem.tail _ (List.Mem.tail _ (List.Mem.tail _ (List.Mem.tail _ (List.Mem.head _)))))) (nc N6 (List.Mem.tail _ (List.Mem.tail _ (List.Mem.tail _ (List.Mem.tail _ (List.Mem.tail _ (List.Mem.tail _ (List.Mem.head _))))))) (nc N6 (List.Mem.tail _ (List.Mem.tail _ (List.Mem.tail _ (List.Mem.tail _ (List.Mem.tail _ (List.Mem.tail _ (List.Mem.tail _ (List.Mem.head _)))))))) (nc N6 (List.Mem.tail _ (List.Mem.tail _ (List.Mem.tail _ (List.Mem.tail _ (List.Mem.tail _ (List.Mem.tail _ (List.Mem.tail _ (List.Mem.tail _ (List.Mem.tail _ (List.Mem.head _)))))))))) (nc N6 (List.Mem.tail _ (List.Mem.tail _ (List.Mem.tail _ (List.Mem.tail _ (List.Mem.tail _ (List.Mem.tail _ (List.Mem.tail _ (List.Mem.tail _ (List.Mem.tail _ (List.Mem.tail _ (List.Mem.head _))))))))))) (nc N6 (List.Mem.tail _ (List.Mem.tail _ (List.Mem.tail _ (List.Mem.tail _ (List.Mem.tail _ (List.Mem.tail _ (List.Mem.tail _ (List.Mem.tail _ (List.Mem.tail _ (List.Mem.tail _ (List.Mem.tail _ (List.Mem.head _)))))))))))) (nc N6 (List.Mem.tail _ (List.Mem.tail _ (List.Mem.tail _ (List.Mem.tail _ (List.Mem.tail _ (List.Mem.tail _ (List.Mem.tail _ (List.Mem.tail _ (List.Mem.tail _ (List.Mem.tail _ (List.Mem.tail _ (List.Mem.tail _ (List.Mem.head _))))))))))))) (nc N6 (List.Mem.tail _ (List.Mem.tail _ (List.Mem.tail _ (List.Mem.tail _ (List.Mem.tail _ (List.Mem.tail _ (List.Mem.tail _ (List.Mem.tail _ (List.Mem.tail _ (List.Mem.tail _ (List.Mem.tail _ (List.Mem.tail _ (List.Mem.tail _ (List.Mem.head _)))))))))))))) (nt (tl := []) N6 (fun p hp => nomatch hp))))))))))))))))) ?_
  · intro I hlt
    refine ⟨⟨tt, th, tr, tg, tb', te, tn, k0, k1, 0, K, [], [(G, LCg.lst wsG), (R, W.listOf #[Value.ref T0, Value.ref T1, Value.ref T2, Value.ref T3, Value.ref T4] 4), (T0, tupO [.int ((1 : Int), (0 : Int)).1 v0, .int ((1 : Int), (0 : Int)).2 w0]), (T1, tupO [.int (stepP a1 ((1 : Int), (0 : Int))).1 v1, .int (stepP a1 ((1 : Int), (0 : Int))).2 w1]), (T2, tupO [.int (stepP a2 (stepP a1 ((1 : Int), (0 : Int)))).1 v2, .int (stepP a2 (stepP a1 ((1 : Int), (0 : Int)))).2 w2]), (T3, tupO [.int (stepP a3 (stepP a2 (stepP a1 ((1 : Int), (0 : Int))))).1 v3, .int (stepP a3 (stepP a2 (stepP a1 ((1 : Int), (0 : Int))))).2 w3]), (T4, tupO [.int (stepP a4 (stepP a3 (stepP a2 (stepP a1 ((1 : Int), (0 : Int)))))).1 v4, .int (stepP a4 (stepP a3 (stepP a2 (stepP a1 ((1 : Int), (0 : Int)))))).2 w4]), (C, W.listOf wsC.toArray 0), (P, W.listOf #[Value.int a1 f1, Value.int a2 f2, Value.int a3 f3, Value.int a4 f4, Value.int a5 f5] 5), (Z, tupO [.int z0 s0, .int z1 s1]), (L + 1 + 1, q2), (L + 1, q1)]⟩, hth, ⟨rfl, (by rw [eH]; rfl), rfl, rfl, rfl, rfl, rfl, rfl, rfl, rfl, rfl, rfl, rfl⟩, ?_, fun p hp => hp, ?_, fun p hp => Nat.ne_of_lt (hlt p hp), rfl, fun k q hq => by cases hq⟩
    · rw [eX, eY]
    · intro p hp
      rcases List.mem_cons.mp hp with rfl | hp
      · exact n1
      rcases List.mem_cons.mp hp with rfl | hp
      · exact n8
      rcases List.mem_cons.mp hp with rfl | hp
      · exact n2
      rcases List.mem_cons.mp hp with rfl | hp
      · exact n3
      rcases List.mem_cons.mp hp with rfl | hp
      · exact n4
      rcases List.mem_cons.mp hp with rfl | hp
      · exact n5
      rcases List.mem_cons.mp hp with rfl | hp
      · exact n6
      rcases List.mem_cons.mp hp with rfl | hp
      · exact n7
      rcases List.mem_cons.mp hp with rfl | hp
      · exact n9
      rcases List.mem_cons.mp hp with rfl | hp
      · exact n10
      rcases List.mem_cons.mp hp with rfl | hp
      · exact n11
      rcases List.mem_cons.mp hp with rfl | hp
      · exact n12
      rcases List.mem_cons.mp hp with rfl | hp
      · exact n13
      cases hp
  · intro m' news' h7 tk7 F8 N8
    exact law_h fa cd m' news' base h₀ L _ Q B F8 X T N8 (fun tk => H m' news' h7 tk F8 N8)
theorem law_all {w : World} {loose : List Str} {mean : ExcName → Option Value} {mg mb : Env0} (l fa : Addr) (cd : Value) (vs : List Value) (ns : List Int) (base h₀ : Heap) (L : Addr) (o1 o2 : Obj) (s : Shared) (Q : Flow → Shared → Prop)
    (B : Below callerA base [] h₀) (hl : h₀.IsList l vs.toArray) (hI : IntsAre vs ns) (hlen : ns.length ≤ 63) (F : Fr h₀ L s.heap (fun y => if y = Str.ofString "script" then some (.ref l) else none)) (X : (hd.heap_39 w.params).In h₀) (N : News h₀ L s.heap [(L + 1 + 1, o2), (L + 1, o1)]) (T : Top hd.view_39 loose mean mg mb h₀)
    (hc1 : o1.data = .cell none) (hc2 : o2.data = .cell none)
    (H : ∀ m' news' h' tk, Fr h₀ L h' m' → News h₀ L h' news' → Q (.ret (.bool true)) { s with heap := h', toks := tk }) :
    wpAny (model PySem.Challenge.rw_wu0029_01.row.prog w) (callerA.deeper (lawEnv L fa cd)) (execs lawBody (lawEnv L fa cd)) Q (fun _ _ => False) s := by
  rw [law_eq]
  refine law_a l fa cd vs ns base h₀ L o1 o2 s _ Q _ B hl hI hlen F X N T ?_
  intro D ws h1 tk1 hws F1 N1
  obtain ⟨d0, d1, d2, d3, d4, d5, d6, d7, ed⟩ := list8 (drawnF_len ns)
  rw [ed] at hws
  obtain ⟨u0, u1, u2, u3, u4, u5, u6, u7, rfl⟩ := ints8 hws
  refine law_b l fa cd d0 d1 d2 d3 d4 d5 d6 d7 u0 u1 u2 u3 u4 u5 u6 u7 base h₀ L D o1 o2 _ _ Q _ B F1 X hc1 hc2 N1 T ?_
  intro Z P q1 q2 ts tt f1 f2 f3 f4 f5 s0 s1 h2 tk2 hq1 hq2 F2 N2
  obtain ⟨n, en, hn8, hn20⟩ := fmod13 d0
  rw [en] at F2
  exact law_rest l fa cd _ _ _ _ _ _ _ _ n f1 f2 f3 f4 f5 s0 s1 ts tt base h₀ L D Z P q1 q2 _ Q B X T F2 N2 hq1 hq2 hn8 hn20 (pm_of d2) (pm_of d3) (pm_of d4) (pm_of d5) (pm_of d6) (st_rng d1) (st_fix d1) (fmod8 d7) (fmod8 (d7.fdiv 8)) (fun m' news' h' tk F N => H m' news' h' tk F N)
end Mine
end

section
open PySem PySem.W PyProof.Rows PySem.Calls PySem.Flt
set_option Elab.async false
set_option maxRecDepth 100000
set_option maxHeartbeats 2000000
namespace Mine
theorem pad_Lw : True := by
  w_top off
  k_with_none
  trivial
local macro_rules | `(tactic| walk_at "mine_pad") => `(tactic| fail "no")
theorem law_top : PySem.Challenge.rw_wu0029_01.Holds := Mine.hd (by
  k_go0
  (all_goals try k_fold)
  (rename Fr _ _ _ _ => F7)
  (rename News _ _ _ _ => N7)
  (rename IntsAre _ _ => I7)
  (rename Heap.IsList _ _ _ => L7)
  (rename Frag.In _ _ => X7)
  (rename Top _ _ _ _ _ _ => T7)
  (rename Below _ _ _ _ => B7)
  refine wpAny_mono (law_all _ _ _ _ _ _ _ _ _ _ _ _ B7 L7 I7 ?len ?F X7 N7 T7 ?c1 ?c2 ?H) (fun _ _ q => q) (fun _ _ h => h.elim)
  case len => omega
  case F => with_unfolding_all exact F7
  case c1 => with_unfolding_all assumption
  case c2 => with_unfolding_all assumption
  case H =>
    intro m' news' h' tk F N
    show GoodW _ _ _ _ _ (.ok (.ret (.bool true))) _
    refine goodW_bool F (by assumption) (raisesW_false ?_) ?_
    · wrow_none_raised
    · first | kc_post | wrow_post)
end Mine
end
set_option Elab.async false
theorem PySem.Challenge.cw_wu0029_01_holds : PySem.Challenge.rw_wu0029_01.Holds := by
  exact Mine.law_top
