import PyProof.Rows.All
import Wide.All
import OpenK.AllK
import Wide.FinOn
import PySem.Challenge.RW_mj0085_01
set_option Elab.async false
section
open PySem PySem.W PyProof.Rows
namespace Mine
set_option maxRecDepth 100000 in
set_option maxHeartbeats 8000000 in
open_top hd for PySem.Challenge.rw_mj0085_01
end Mine
end
section
open PySem PySem.W PyProof.Rows
set_option maxRecDepth 100000
namespace Mine
/-- what a call of the def at f is to give: n frames deep at most, what stood stands, the value is R -/
abbrev Con (n : Nat) (pre : Prop) (f : Addr) (vs : List Value) (R : Tok → Value) : Prop :=
  ∀ (w : World) (p : Program) (loose : List Str) (mean : ExcName → Option Value) (mg mb : Str → Option Value) (news : List (Addr × Obj))
    (dp un : Nat) (gd : Option (List Code)) (cn : Str) (cs : Scope) (a : Addr) (ccd : Value) (cl : List (Str × Addr)) (outer : List Env) (A₀ : Around) (base h₀ : Heap) (L : Addr) (m : Str → Option Value) (s : Shared) (Q E : Value → Shared → Prop),
    Below A₀ base outer h₀ → Fr h₀ L s.heap m → (Mine.hd.heap_39 w.params).In h₀ → News h₀ L s.heap news → Top p loose mean mg mb h₀ → cs.kind = .function →
    pre → dp + n < recursionLimit → un + 8 * n < cLine →
    (∀ (t : Tok) (h' : Heap) (tk' : Nat), Fr h₀ L h' m → News h₀ L h' news → Q (R t) { s with heap := h', toks := tk' }) →
    wpAny (model PySem.Challenge.rw_mj0085_01.row.prog w) (ktrTop dp un gd cn cs L a ccd cl outer) (call (.ref f) vs) Q E s
theorem Con.use {n : Nat} {pre : Prop} {f : Addr} {vs : List Value} {R : Tok → Value} (C : Con n pre f vs R) {w : World} {p : Program} {loose : List Str} {mean : ExcName → Option Value} {mg mb : Str → Option Value} {news : List (Addr × Obj)}
    {dp un : Nat} {gd : Option (List Code)} {cn : Str} {cs : Scope} {a : Addr} {ccd : Value} {cl : List (Str × Addr)} {outer : List Env} {A₀ : Around} {base h₀ : Heap} {L : Addr} {m : Str → Option Value} {s : Shared} {Q E : Value → Shared → Prop}
    (B : Below A₀ base outer h₀) (F : Fr h₀ L s.heap m) (X : (Mine.hd.heap_39 w.params).In h₀) (N : News h₀ L s.heap news) (T : Top p loose mean mg mb h₀) (hk : cs.kind = .function)
    (hp : pre) (hd : dp + n < recursionLimit) (hu : un + 8 * n < cLine)
    (ret : ∀ (t : Tok) (h' : Heap) (tk' : Nat), Fr h₀ L h' m → News h₀ L h' news → Q (R t) { s with heap := h', toks := tk' }) :
    wpAny (model PySem.Challenge.rw_mj0085_01.row.prog w) (ktrTop dp un gd cn cs L a ccd cl outer) (call (.ref f) vs) Q E s :=
  C _ _ _ _ _ _ _ _ _ _ _ _ _ _ _ _ _ _ _ _ _ _ _ _ B F X N T hk hp hd hu ret

/-- the same for a def that hands back a new tuple of three -/
abbrev Con3 (n : Nat) (pre : Prop) (f : Addr) (vs : List Value) (R : Tok → Tok → Tok → List Value) : Prop :=
  ∀ (w : World) (p : Program) (loose : List Str) (mean : ExcName → Option Value) (mg mb : Str → Option Value) (news : List (Addr × Obj))
    (dp un : Nat) (gd : Option (List Code)) (cn : Str) (cs : Scope) (a : Addr) (ccd : Value) (cl : List (Str × Addr)) (outer : List Env) (A₀ : Around) (base h₀ : Heap) (L : Addr) (m : Str → Option Value) (s : Shared) (Q E : Value → Shared → Prop),
    Below A₀ base outer h₀ → Fr h₀ L s.heap m → (Mine.hd.heap_39 w.params).In h₀ → News h₀ L s.heap news → Top p loose mean mg mb h₀ → cs.kind = .function →
    pre → dp + n < recursionLimit → un + 8 * n < cLine →
    (∀ (D : Addr) (t u v : Tok) (h' : Heap) (tk' : Nat), Fr h₀ L h' m → News h₀ L h' ((D, { cls := .type "tuple", data := .seq (R t u v).toArray }) :: news) → AllLt D news → Q (.ref D) { s with heap := h', toks := tk' }) →
    wpAny (model PySem.Challenge.rw_mj0085_01.row.prog w) (ktrTop dp un gd cn cs L a ccd cl outer) (call (.ref f) vs) Q E s
theorem Con3.use {n : Nat} {pre : Prop} {f : Addr} {vs : List Value} {R : Tok → Tok → Tok → List Value} (C : Con3 n pre f vs R) {w : World} {p : Program} {loose : List Str} {mean : ExcName → Option Value} {mg mb : Str → Option Value} {news : List (Addr × Obj)}
    {dp un : Nat} {gd : Option (List Code)} {cn : Str} {cs : Scope} {a : Addr} {ccd : Value} {cl : List (Str × Addr)} {outer : List Env} {A₀ : Around} {base h₀ : Heap} {L : Addr} {m : Str → Option Value} {s : Shared} {Q E : Value → Shared → Prop}
    (B : Below A₀ base outer h₀) (F : Fr h₀ L s.heap m) (X : (Mine.hd.heap_39 w.params).In h₀) (N : News h₀ L s.heap news) (T : Top p loose mean mg mb h₀) (hk : cs.kind = .function)
    (hp : pre) (hd : dp + n < recursionLimit) (hu : un + 8 * n < cLine)
    (ret : ∀ (D : Addr) (t u v : Tok) (h' : Heap) (tk' : Nat), Fr h₀ L h' m → News h₀ L h' ((D, { cls := .type "tuple", data := .seq (R t u v).toArray }) :: news) → AllLt D news → Q (.ref D) { s with heap := h', toks := tk' }) :
    wpAny (model PySem.Challenge.rw_mj0085_01.row.prog w) (ktrTop dp un gd cn cs L a ccd cl outer) (call (.ref f) vs) Q E s :=
  C _ _ _ _ _ _ _ _ _ _ _ _ _ _ _ _ _ _ _ _ _ _ _ _ B F X N T hk hp hd hu ret
theorem sub_head {h₀ h : Heap} {L : Addr} {q : Addr × Obj} {news news' : List (Addr × Obj)} (N : News h₀ L h (q :: news')) (hs : ∀ p ∈ news, p ∈ news') : News h₀ L h (q :: news) := fun p hp => by
  rcases List.mem_cons.mp hp with rfl | hp
  · exact N _ (.head _)
  · exact N _ (.tail _ (hs p hp))
theorem end3s {h₀ : Heap} {L D : Addr} {m : Str → Option Value} {news news' : List (Addr × Obj)} {s : Shared} {Q : Value → Shared → Prop} {a b c a' b' c' : Str} {h : Heap} {tk : Nat} {t u v : Tok}
    (ret : ∀ (D : Addr) (t u v : Tok) (h' : Heap) (tk' : Nat), Fr h₀ L h' m → News h₀ L h' ((D, { cls := .type "tuple", data := .seq [Value.str a' t, Value.str b' u, Value.str c' v].toArray }) :: news) → AllLt D news → Q (.ref D) { s with heap := h', toks := tk' })
    (F : Fr h₀ L h m) (N : News h₀ L h ((D, { cls := .type "tuple", data := .seq [Value.str a t, Value.str b u, Value.str c v].toArray }) :: news')) (hs : ∀ p ∈ news, p ∈ news') (hl : AllLt D news) (ea : a = a') (eb : b = b') (ec : c = c') :
    Q (.ref D) { s with heap := h, toks := tk } := by
  subst ea eb ec
  exact ret D t u v h tk F (sub_head N hs) hl
theorem end3b {h₀ : Heap} {L D : Addr} {m : Str → Option Value} {news news' : List (Addr × Obj)} {s : Shared} {Q : Value → Shared → Prop} {a b c a' b' c' : Array UInt8} {h : Heap} {tk : Nat} {t u v : Tok}
    (ret : ∀ (D : Addr) (t u v : Tok) (h' : Heap) (tk' : Nat), Fr h₀ L h' m → News h₀ L h' ((D, { cls := .type "tuple", data := .seq [Value.bytes a' t, Value.bytes b' u, Value.bytes c' v].toArray }) :: news) → AllLt D news → Q (.ref D) { s with heap := h', toks := tk' })
    (F : Fr h₀ L h m) (N : News h₀ L h ((D, { cls := .type "tuple", data := .seq [Value.bytes a t, Value.bytes b u, Value.bytes c v].toArray }) :: news')) (hs : ∀ p ∈ news, p ∈ news') (hl : AllLt D news) (ea : a = a') (eb : b = b') (ec : c = c') :
    Q (.ref D) { s with heap := h, toks := tk } := by
  subst ea eb ec
  exact ret D t u v h tk F (sub_head N hs) hl
end Mine
end
section
open PySem PySem.W PyProof.Rows PySem.Calls
set_option maxRecDepth 100000
namespace Mine
theorem kind_sub_nested : builtinKind "issubclass.nested" = none := by decide +kernel
theorem plain_sub_nested : plainId "issubclass.nested" = true := by decide +kernel
theorem args_sub_nested (a b c : Value) : argsOk "issubclass.nested" ⟨[a, b, c], []⟩ := by unfold argsOk; kernel_rfl
theorem sub_str_str : isSubtype (.type "str") (.type "str") = pure true := by rw [isSubtype_type]; kernel_rfl
theorem sub_bytes_str : isSubtype (.type "bytes") (.type "str") = pure false := by rw [isSubtype_type]; kernel_rfl
theorem sub_bytes_bytes : isSubtype (.type "bytes") (.type "bytes") = pure true := by rw [isSubtype_type]; kernel_rfl

section
variable {prog : Program} {w : World} {A : Around} {E : Value → Shared → Prop} {s : Shared}
/-- issubclass.nested of two built-in types -/
theorem sub_nested {X Y : String} {b : Bool} {k : Value} {dep : Int} {tk : Tok} {Q : Fin → Shared → Prop} (hk : k = .int dep tk) (hX : isType (.type X) = pure true)
    (hY : typeOf (.type Y) = pure (.type "type")) (hs : isSubtype (.type X) (.type Y) = pure b) (hq : Q (.done (.ret (.bool b))) s) :
    wpAny (model prog w) A (Builtin.«issubclass.nested» ⟨[.type X, .type Y, k], []⟩) Q E s := by
  subst hk
  repeat (any_goals (first | assumption | (rw [hs]) | wp_step))
theorem sub_nested_call {X Y : String} {b : Bool} {dep : Int} {tk : Tok} {Q : Value → Shared → Prop} (hX : isType (.type X) = pure true)
    (hY : typeOf (.type Y) = pure (.type "type")) (hs : isSubtype (.type X) (.type Y) = pure b) (hq : Q (.bool b) s) :
    wpAny (model prog w) A (call (.builtin "issubclass.nested") [.type X, .type Y, .int dep tk]) Q E s :=
  call_function_meets (S := fun _ R s => R (.ok (.ret (.bool b))) s) kind_sub_nested plain_sub_nested PySem.F.entry_issubclass_nested (args_sub_nested _ _ _) (fun _ _ _ _ _ h => sub_nested rfl hX hY hs h) hq

theorem sub_tuple {X : String} {b c : Bool} {tp : Addr} {tk : Tok} {cs : List Value} {Q : Fin → Shared → Prop} (hX : isType (.type X) = pure true)
    (htp : s.heap.get? tp = some { cls := .type "tuple", data := .seq cs.toArray }) (hcs : cs = [.type "str", .type "bytes"])
    (h1 : isSubtype (.type X) (.type "str") = pure b) (h2 : isSubtype (.type X) (.type "bytes") = pure c) (hq : Q (.done (.ret (.bool (b || c)))) s) :
    wpAny (model prog w) A (Builtin.«issubclass.nested» ⟨[.type X, .ref tp, .int 0 tk], []⟩) Q E s := by
  obtain ⟨h, g, d, t, os⟩ := s
  have hT2 : (⟨h, g, d, t, os⟩ : Shared).TypeIs (.ref tp) "tuple" := ⟨_, htp, rfl⟩
  have f1 := PySem.F.isi_sub_tuple
  repeat (any_goals (first | assumption | wp_step))
  refine wpAny_arrayLoop ?_
  subst hcs
  simp only [Option.getD_some]
  show wpAny _ _ (forIn [Value.type "str", Value.type "bytes"] _ _) _ _ _
  rw [List.forIn_cons]
  refine wpAny_bind (wpAny_bind (sub_nested_call hX PySem.F.isi_meta_str h1 ?_))
  show wpAny _ _ (truthy (.bool b) >>= _) _ _ _
  refine wpAny_bind (m := truthy (.bool b)) (wpAny_pure ?_)
  cases b with
  | true =>
    refine wpAny_bind (wpAny_pure (wpAny_pure (wpAny_pure ?_)))
    repeat (any_goals (first | assumption | wp_step))
  | false =>
    refine wpAny_pure ?_
    dsimp only
    rw [List.forIn_cons]
    refine wpAny_bind (wpAny_bind (sub_nested_call hX PySem.F.isi_meta_bytes h2 ?_))
    show wpAny _ _ (truthy (.bool c) >>= _) _ _ _
    refine wpAny_bind (m := truthy (.bool c)) (wpAny_pure ?_)
    cases c with
    | true =>
      refine wpAny_bind (wpAny_pure (wpAny_pure (wpAny_pure ?_)))
      repeat (any_goals (first | assumption | wp_step))
    | false =>
      refine wpAny_pure ?_
      dsimp only
      rw [List.forIn_nil]
      repeat (any_goals (first | assumption | wp_step))

theorem issub_call {X : String} {b c : Bool} {tp : Addr} {Q : Value → Shared → Prop} (hX : isType (.type X) = pure true)
    (htp : s.heap.get? tp = some { cls := .type "tuple", data := .seq #[.type "str", .type "bytes"] })
    (h1 : isSubtype (.type X) (.type "str") = pure b) (h2 : isSubtype (.type X) (.type "bytes") = pure c) (hq : Q (.bool (b || c)) s) :
    wpAny (model prog w) A (call (.builtin "issubclass") [.type X, .ref tp]) Q E s :=
  call_issubclass (S := fun _ R s => s.heap.get? tp = some { cls := .type "tuple", data := .seq #[.type "str", .type "bytes"] } ∧ R (.ok (.ret (.bool (b || c)))) s)
    (fun _ _ _ _ _ h => issubclass_outer (sub_tuple hX h.1 rfl h1 h2 h.2)) ⟨htp, hq⟩
end
theorem sub_str_bytes : isSubtype (.type "str") (.type "bytes") = pure false := PySem.F.sub_str_bytes
section
variable {prog : Program} {w : World} {A : Around} {E : Value → Shared → Prop} {s : Shared} {h₀ : Heap} {L tp : Addr} {news : List (Addr × Obj)} {Q : Value → Shared → Prop} {n : Nat}
theorem issub_str (N : News h₀ L s.heap news) (hm : (tp, ({ cls := .type "tuple", data := .seq #[.type "str", .type "bytes"] } : Obj)) ∈ news) (hq : Q (.bool true) s) :
    wpAny (model prog w) A (call (.builtin "issubclass") [.type "str", .ref tp]) Q E s := issub_call rfl (N _ hm).1 sub_str_str sub_str_bytes hq
theorem issub_bytes (N : News h₀ L s.heap news) (hm : (tp, ({ cls := .type "tuple", data := .seq #[.type "str", .type "bytes"] } : Obj)) ∈ news) (hq : Q (.bool true) s) :
    wpAny (model prog w) A (call (.builtin "issubclass") [.type "bytes", .ref tp]) Q E s := issub_call rfl (N _ hm).1 sub_bytes_str sub_bytes_bytes hq
end
end Mine
end
section
open PySem PySem.W PyProof.Rows PySem.Calls
set_option maxRecDepth 100000
namespace Mine
section
variable {prog : Program} {w : World} {A : Around} {E : Value → Shared → Prop} {s : Shared} {env : Env} {h₀ : Heap} {x : Str} {body : List Stmt} {Q : Flow → Shared → Prop}
/-- a for over a made list of any values that no turn touches: what the turns change stands in `news`, the list itself in `all` -/
theorem iter_items {l : Addr} {vs : List Value} {nn : Nat} {m₀ : Str → Option Value} {all news : List (Addr × Obj)} (J : Nat → (Str → Option Value) → List (Addr × Obj) → Prop)
    (hh : A.handled = none) (hl : (l, listOf vs.toArray nn) ∈ all) (F : Fr h₀ env.locals s.heap m₀) (N : News h₀ env.locals s.heap all) (hsub : ∀ p ∈ news, p ∈ all) (hne : ∀ p ∈ news, p.1 ≠ l) (hj : J 0 m₀ news)
    (turn : ∀ i v m₁ news₁ h tk own, vs[i]? = some v → news₁.map (·.1) = news.map (·.1) → OwnOff own (news.map (·.1)) → J i m₁ news₁ → Fr h₀ env.locals h (fun y => if y = x then some v else m₁ y) → News h₀ env.locals h (news₁ ++ own) →
      wpAny (model prog w) A (execs body env) (InvPostN h₀ env.locals (J (i + 1)) own (news.map (·.1)) { s with heap := h, toks := tk } Q) E { s with heap := h, toks := tk })
    (done : ∀ m₁ news₁ h tk, J vs.length m₁ news₁ → Fr h₀ env.locals h m₁ → News h₀ env.locals h news₁ → Q .next { s with heap := h, toks := tk }) :
    wpAny (model prog w) A (pyIter (.ref l)) (fun it s₂ => LoopAtV prog w A h₀ env x body Q E it s₂) E s := by
  have hol : s.heap.get? l = some (listOf vs.toArray nn) := (N _ hl).1
  have hls : s.heap.IsList l vs.toArray := ⟨_, hol, rfl, nn, rfl⟩
  have hlI : l ≠ s.heap.objs.size := Nat.ne_of_lt (Heap.lt_size hol)
  refine wpAny_pyIter_list hls ?_
  have W := Walks.list (prog := prog) (w := w) hh s.heap.objs.size l hlI vs.toArray
  have hlen : vs.toArray.size = vs.length := by simp
  rw [hlen] at W
  refine loop_invN (s := { s with heap := s.heap.push _ }) J W ?_ ?_ ?_ ?_ ⟨⟨_, Heap.get?_push_size _ rfl, rfl, rfl⟩, hls.at fun o e => Heap.get?_push_of_some _ e⟩ (F.push _) (fun p hp => ⟨Heap.get?_push_of_some _ (N p (hsub p hp)).1, (N p (hsub p hp)).2⟩) hj ?_ ?_
  · intro hm
    rcases List.mem_cons.mp hm with e | hm
    · exact absurd F.ns.lt (e ▸ Nat.lt_irrefl _)
    · exact (N _ hl).2.1 ((List.mem_singleton.mp hm).symm)
  · intro b hb
    rw [List.mem_singleton.mp hb]
    exact next_is_new F
  · intro p hp hI
    exact absurd (Heap.lt_size (N p (hsub p hp)).1) ((List.mem_singleton.mp hI) ▸ Nat.lt_irrefl _)
  · intro p hp hI
    rcases List.mem_cons.mp hI with e | hI
    · exact absurd (Heap.lt_size (N p (hsub p hp)).1) (by rw [e]; exact Nat.lt_irrefl _)
    · exact hne p hp (List.mem_singleton.mp hI)
  · intro i v m₁ news₁ h tk own _ hP hadr hoff hJ F₁ N₁
    exact turn i v m₁ news₁ h tk own (by simpa using hP) hadr hoff hJ F₁ N₁
  · intro m₁ news₁ h tk hJ F₁ N₁
    exact done m₁ news₁ h tk hJ F₁ N₁
end
end Mine
end
section
open PySem PySem.W PyProof.Rows PySem.Calls
set_option maxRecDepth 100000
namespace Mine
/-- values of one kind, whatever their tokens -/
inductive Are {α : Type} (mk : α → Tok → Value) : List Value → List α → Prop
  | nil : Are mk [] []
  | cons (y : α) (t : Tok) {vs : List Value} {ys : List α} : Are mk vs ys → Are mk (mk y t :: vs) (y :: ys)
section
variable {α : Type} {mk : α → Tok → Value}
theorem Are.length {vs : List Value} {xs : List α} (h : Are mk vs xs) : vs.length = xs.length := by
  induction h with
  | nil => rfl
  | cons _ _ _ ih => simp [ih]
theorem Are.append {vs ws : List Value} {xs ys : List α} (h : Are mk vs xs) (g : Are mk ws ys) : Are mk (vs ++ ws) (xs ++ ys) := by
  induction h with
  | nil => exact g
  | cons y t _ ih => exact .cons y t ih
theorem Are.snoc {vs : List Value} {xs : List α} (h : Are mk vs xs) (y : α) (t : Tok) : Are mk (vs ++ [mk y t]) (xs ++ [y]) := h.append (.cons y t .nil)
theorem Are.get {vs : List Value} {xs : List α} (h : Are mk vs xs) : ∀ (i : Nat) (v : Value), vs[i]? = some v → ∃ y t, xs[i]? = some y ∧ v = mk y t := by
  induction h with
  | nil => intro i v e; simp at e
  | cons y t _ ih =>
    intro i v e
    cases i with
    | zero => exact ⟨y, t, rfl, by simpa using e.symm⟩
    | succ i => simpa using ih i v (by simpa using e)
theorem Are.last {vs : List Value} {xs : List α} (h : Are mk vs xs) : xs ≠ [] → ∃ v y t, vs = vs.dropLast ++ [v] ∧ xs = xs.dropLast ++ [y] ∧ v = mk y t ∧ Are mk vs.dropLast xs.dropLast := by
  induction h with
  | nil => intro h; exact absurd rfl h
  | cons y t r ih =>
    intro _
    cases r with
    | nil => exact ⟨mk y t, y, t, rfl, rfl, rfl, .nil⟩
    | cons y' t' r' =>
      obtain ⟨v, z, u, h1, h2, h3, h4⟩ := ih (by simp)
      exact ⟨v, z, u, by simpa using h1, by simpa using h2, h3, .cons y t h4⟩
theorem Are.dropLast {vs : List Value} {xs : List α} (h : Are mk vs xs) : Are mk vs.dropLast xs.dropLast := by
  cases h with
  | nil => exact .nil
  | cons y t r => obtain ⟨_, _, _, _, _, _, h⟩ := (Are.cons y t r).last (by simp); exact h
end
section
variable {prog : Program} {w : World} {A : Around} {E : Value → Shared → Prop} {s : Shared} {h₀ : Heap} {L D : Addr} {m : Str → Option Value} {news news' : List (Addr × Obj)} {n : Nat} {α : Type} {mk : α → Tok → Value} {vs : List Value} {xs : List α}
theorem st_truthy {Q : Bool → Shared → Prop} (N : News h₀ L s.heap news) (hm : (D, listOf vs.toArray n) ∈ news) (a : Are mk vs xs) (hz : vs.length ≤ 200) (h : ∀ k, Q (!xs.isEmpty) { s with toks := k }) :
    wpAny (model prog w) A (truthy (.ref D)) Q E s := by
  refine wpAny_truthy_list ⟨_, (N _ hm).1, rfl, n, rfl⟩ (by simp; omega) ?_
  have e : (!vs.toArray.isEmpty) = !xs.isEmpty := by
    cases a <;> simp
  rw [e]
  exact h _
theorem st_last {value slice : PySem.Expr} {u : Tok} {Q : Value → Shared → Prop} (N : News h₀ L s.heap news) (hm : (D, listOf vs.toArray n) ∈ news) (a : Are mk vs xs) (hne : xs ≠ []) (h : ∀ y t, xs.getLast? = some y → Q (mk y t) s)
    (hs : subscripted slice false (.ref D) (.int (-1) u) = operate [.ref D, .int (-1) u] (getItem (.ref D) (.int (-1) u)) := by with_unfolding_all rfl) :
    wpAny (model prog w) A (subscriptTail value slice (.ref D) (.int (-1) u)) Q E s := by
  have hl : s.heap.IsList D vs.toArray := ⟨_, (N _ hm).1, rfl, n, rfl⟩
  obtain ⟨v, y, t, h1, h2, h3, h4⟩ := a.last hne
  have hlen : vs.length = vs.dropLast.length + 1 := by
    have := congrArg List.length h1
    simpa using this
  refine tail_any hl.typeIs slot_list_getitem.lookup (wpAny_getItem_list_neg hl (by decide) (by simp; omega) (by decide) (x := v) ?_ ?_) hs
  · have e : (-1 + (vs.toArray.size : Int)).toNat = vs.dropLast.length := by simp only [List.size_toArray]; omega
    rw [e]
    rw [List.getElem?_toArray, h1]
    simp
  · subst h3
    exact h y t (by rw [h2]; simp)
theorem kl_last_snoc (y : Value) : ∀ p : List Value, kl_last (p ++ [y]) = some (p, y) := kpa_last y
theorem st_pop {Q : Value → Shared → Prop} (F : Fr h₀ L s.heap m) (N : News h₀ L s.heap news) (U : Upd D (listOf vs.toArray n) (listOf vs.dropLast.toArray (n + 1)) news news') (a : Are mk vs xs) (hne : xs ≠ []) (hz : vs.length ≤ 200)
    (h : ∀ v h', Fr h₀ L h' m → News h₀ L h' news' → Q v { s with heap := h' }) : wpAny (model prog w) A (call (.builtin "list.pop") [.ref D]) Q E s := by
  obtain ⟨v, y, t, h1, h2, h3, h4⟩ := a.last hne
  refine kl_pop F N (p := vs.dropLast) (y := v) ?_ U (by rw [sizeLine_eq]; simp; omega) fun h' F' N' => h v h' F' N'
  have e := kl_last_snoc v vs.dropLast
  rw [← h1] at e
  simpa using e
end
/-- one turn of normpath's loop -/
def stepC {α : Type} [DecidableEq α] (e d dd : α) (abs : Bool) (acc : List α) (c : α) : List α :=
  if c = e ∨ c = d then acc else if c ≠ dd ∨ (abs = false ∧ acc = []) ∨ acc.getLast? = some dd then acc ++ [c] else acc.dropLast
end Mine
end
section
open PySem PySem.W PyProof.Rows PySem.Calls
set_option maxRecDepth 100000
namespace Mine
def Mark (P : Prop) : Prop := P
theorem Mark.out {P : Prop} (h : Mark P) : P := h
section
variable {prog : Program} {w : World} {A : Around} {E : Value → Shared → Prop} {s : Shared} {env : Env} {h₀ : Heap} {x : Str} {body : List Stmt} {Q : Flow → Shared → Prop} {α : Type} {mk : α → Tok → Value}
def StEnd (mk : α → Tok → Value) (h₀ : Heap) (L D : Addr) (m₀ : Str → Option Value) (x : Str) (rest : List (Addr × Obj)) (acc : List α) (s₁ s₂ : Shared) : Prop :=
  ∃ h' tk m' us' n', s₂ = { s₁ with heap := h', toks := tk } ∧ Fr h₀ L h' m' ∧ News h₀ L h' ((D, listOf us'.toArray n') :: rest) ∧ Are mk us' acc ∧ ∀ z, z ≠ x → m' z = m₀ z
def StPost (mk : α → Tok → Value) (h₀ : Heap) (L D : Addr) (m₀ : Str → Option Value) (x : Str) (rest : List (Addr × Obj)) (acc : List α) (s₁ : Shared) (Q : Flow → Shared → Prop) (f : Flow) (s₂ : Shared) : Prop :=
  match f with
  | .ret v => Q (.ret v) s₂
  | .brk => Q .next s₂
  | _ => StEnd mk h₀ L D m₀ x rest acc s₁ s₂
theorem StEnd.intro {L D : Addr} {m₀ m' : Str → Option Value} {rest : List (Addr × Obj)} {acc : List α} {s₁ : Shared} {h' : Heap} {tk : Nat} {us' : List Value} {n' : Nat} (F : Fr h₀ L h' m') (N : News h₀ L h' ((D, listOf us'.toArray n') :: rest)) (a : Are mk us' acc) (hm : ∀ z, z ≠ x → m' z = m₀ z) :
    StEnd mk h₀ L D m₀ x rest acc s₁ { s₁ with heap := h', toks := tk } := ⟨h', tk, m', us', n', rfl, F, N, a, hm⟩
theorem loop_stack (g : List α → α → List α) {l D : Addr} {vs us₀ : List Value} {cs : List α} {nn n₀ : Nat} {m₀ : Str → Option Value} {all news : List (Addr × Obj)}
    (hh : A.handled = none) (hl : (l, listOf vs.toArray nn) ∈ all) (hc : Are mk vs cs) (F : Fr h₀ env.locals s.heap m₀) (N : News h₀ env.locals s.heap all) (hD : (D, listOf us₀.toArray n₀) ∈ all) (hu : Are mk us₀ []) (hsub : ∀ p ∈ news, p ∈ all)
    (hDl : D ≠ l) (hne : ∀ p ∈ news, p.1 ≠ l) (hb : ∀ i, ((cs.take i).foldl g []).length ≤ 200)
    (turn : ∀ c t us n acc h tk own, c ∈ cs → Are mk us acc → us.length ≤ 200 → OwnOff own (D :: news.map (·.1)) → Fr h₀ env.locals h (fun y => if y = x then some (mk c t) else m₀ y) → News h₀ env.locals h ((D, listOf us.toArray n) :: (news ++ own)) →
      wpAny (model prog w) A (execs body env) (StPost mk h₀ env.locals D m₀ x (news ++ own) (g acc c) { s with heap := h, toks := tk } Q) E { s with heap := h, toks := tk })
    (done : ∀ (u : Str → Option Value) us n h tk, Are mk us (cs.foldl g []) → us.length ≤ 200 → Fr h₀ env.locals h (fun y => if y = x then u y else m₀ y) → News h₀ env.locals h ((D, listOf us.toArray n) :: news) → Q .next { s with heap := h, toks := tk }) :
    wpAny (model prog w) A (pyIter (.ref l)) (fun it s₂ => LoopAtV prog w A h₀ env x body Q E it s₂) E s := by
  have hu' : us₀ = [] := by cases hu; rfl
  refine iter_items (all := all) (news := (D, listOf us₀.toArray n₀) :: news) (fun i m nx => (∃ us n, Are mk us ((cs.take i).foldl g []) ∧ nx = (D, listOf us.toArray n) :: news) ∧ ∀ z, z ≠ x → m z = m₀ z) hh hl F N ?_ ?_ ?_ ?_ ?_
  · intro p hp
    rcases List.mem_cons.mp hp with rfl | hp
    · exact hD
    · exact hsub p hp
  · intro p hp
    rcases List.mem_cons.mp hp with rfl | hp
    · exact hDl
    · exact hne p hp
  · exact ⟨⟨us₀, n₀, by simpa using hu, rfl⟩, fun _ _ => rfl⟩
  · rintro i v m₁ news₁ h tk own hv _ hoff ⟨⟨us, n, ha, rfl⟩, hm⟩ F₁ N₁
    obtain ⟨c, t, hci, rfl⟩ := hc.get i v hv
    have e : (fun y => if y = x then some (mk c t) else m₁ y) = fun y => if y = x then some (mk c t) else m₀ y := by
      funext z
      by_cases h1 : z = x
      · simp [h1]
      · simp only [if_neg h1]; exact hm z h1
    rw [e] at F₁
    have hs : (cs.take (i + 1)).foldl g [] = g ((cs.take i).foldl g []) c := by
      rw [List.take_add_one, hci]; simp
    have hz : us.length ≤ 200 := by rw [ha.length]; exact hb i
    refine wpAny_mono (turn c t us n _ h tk own (List.mem_of_getElem? hci) ha hz hoff F₁ N₁) (fun f s₂ p => ?_) fun _ _ e => e
    have fin : StEnd mk h₀ env.locals D m₀ x (news ++ own) (g ((cs.take i).foldl g []) c) { s with heap := h, toks := tk } s₂ →
        InvEndN h₀ env.locals (fun m nx => (∃ us n, Are mk us ((cs.take (i + 1)).foldl g []) ∧ nx = (D, listOf us.toArray n) :: news) ∧ ∀ z, z ≠ x → m z = m₀ z) own (((D, listOf us₀.toArray n₀) :: news).map (·.1)) { s with heap := h, toks := tk } s₂ := by
      rintro ⟨h', tk', m', us', n', rfl, F', N', ha', hm'⟩
      refine ⟨h', tk', m', _, (D, listOf us'.toArray n') :: news, rfl, F', N', ?_, ?_, rfl, ⟨⟨us', n', by rw [hs]; exact ha', rfl⟩, hm'⟩⟩
      · intro p hp
        rcases List.mem_cons.mp hp with rfl | hp
        · exact .head _
        · exact .tail _ (List.mem_append.mpr (.inl hp))
      · intro p hp
        exact .tail _ (List.mem_append.mpr (.inr hp))
    cases f with
    | ret v => exact p
    | brk => exact p
    | next => exact fin p
    | cont => exact fin p
  · rintro m₁ news₁ h tk ⟨⟨us, n, ha, rfl⟩, hm⟩ F₁ N₁
    rw [hc.length, List.take_length] at ha
    have hz : us.length ≤ 200 := by have := hb cs.length; rw [List.take_length] at this; rw [ha.length]; exact this
    refine done m₁ us n h tk ha hz ?_ N₁
    have e : (fun z => if z = x then m₁ z else m₀ z) = m₁ := by
      funext z
      by_cases h1 : z = x
      · simp [h1]
      · simp only [if_neg h1]; exact (hm z h1).symm
    rw [e]; exact F₁
end
theorem strsAre_Are : ∀ {vs : List Value} {xs : List Str}, StrsAre vs xs → Are Value.str vs xs
  | _, _, .nil => .nil
  | _, _, .cons y t r => .cons y t (strsAre_Are r)
theorem Are_strsAre {vs : List Value} {xs : List Str} (h : Are Value.str vs xs) : StrsAre vs xs := by
  induction h with
  | nil => exact .nil
  | cons y t _ ih => exact .cons y t ih
def wt {α : Type} (len : α → Nat) (xs : List α) : Nat := (xs.map len).sum + xs.length
theorem wt_append {α : Type} (len : α → Nat) (xs ys : List α) : wt len (xs ++ ys) = wt len xs + wt len ys := by
  unfold wt; simp; omega
theorem wt_nil {α : Type} (len : α → Nat) : wt len ([] : List α) = 0 := rfl
theorem wt_cons {α : Type} (len : α → Nat) (x : α) (xs : List α) : wt len (x :: xs) = len x + 1 + wt len xs := by
  unfold wt; simp; omega
theorem wt_dropLast {α : Type} (len : α → Nat) : ∀ xs : List α, wt len xs.dropLast ≤ wt len xs
  | [] => Nat.le_refl _
  | [x] => by simp [wt_nil]
  | x :: y :: r => by
    have := wt_dropLast len (y :: r)
    rw [List.dropLast_cons₂, wt_cons, wt_cons]
    omega
theorem wt_step {α : Type} [DecidableEq α] (len : α → Nat) (e d dd : α) (abs : Bool) (acc : List α) (c : α) : wt len (stepC e d dd abs acc c) ≤ wt len acc + (len c + 1) := by
  unfold stepC
  split
  · omega
  · split
    · rw [wt_append, wt_cons, wt_nil]; omega
    · have := wt_dropLast len acc; omega
theorem wt_fold {α : Type} [DecidableEq α] (len : α → Nat) (e d dd : α) (abs : Bool) : ∀ (cs acc : List α), wt len (cs.foldl (stepC e d dd abs) acc) ≤ wt len acc + wt len cs
  | [], acc => by simp [wt_nil]
  | c :: cs, acc => by
    rw [List.foldl_cons, wt_cons]
    have h1 := wt_fold len e d dd abs cs (stepC e d dd abs acc c)
    have h2 := wt_step len e d dd abs acc c
    omega
theorem wt_take {α : Type} (len : α → Nat) (cs : List α) (i : Nat) : wt len (cs.take i) ≤ wt len cs := by
  have h := wt_append len (cs.take i) (cs.drop i)
  rw [List.take_append_drop] at h
  omega
theorem wt_mem {α : Type} (len : α → Nat) {c : α} : ∀ {xs : List α}, c ∈ xs → len c + 1 ≤ wt len xs
  | x :: xs, h => by
    rw [wt_cons]
    rcases List.mem_cons.mp h with rfl | h
    · omega
    · have := wt_mem len h; omega
theorem len_wt {α : Type} (len : α → Nat) (xs : List α) : xs.length ≤ wt len xs := by unfold wt; omega
theorem wt_splitS (x y : Str) (hy : 1 ≤ y.length) : wt Str.length (Txt.split x y) ≤ x.length + 1 := by
  have h := StrLaws.join_split x y
  cases e : Txt.split x y with
  | nil => rw [wt_nil]; omega
  | cons a r =>
    rw [e] at h
    have hl := len_join_cons y a r
    rw [h] at hl
    unfold wt
    have : r.length ≤ r.length * y.length := Nat.le_mul_of_pos_right _ hy
    rw [List.length_cons]
    have e2 : ((a :: r).map Str.length).sum = ((a :: r).map (·.length)).sum := rfl
    omega
section
variable {prog : Program} {w : World} {A : Around} {E : Value → Shared → Prop} {s : Shared} {h₀ : Heap} {L D : Addr} {m : Str → Option Value} {news : List (Addr × Obj)} {x y : Str} {t u : Tok} {Q : Value → Shared → Prop} {vs : List Value} {xs : List Str} {n : Nat}
theorem split_s (hF : Fr h₀ L s.heap m) (hN : News h₀ L s.heap news) (hy : (y.length == 0) = false) (hsz : x.length ≤ 10000)
    (h : ∀ D vs h' k, Are Value.str vs (Txt.split x y) → Fr h₀ L h' m → News h₀ L h' ((D, listOf vs.toArray 0) :: news) → (∀ p ∈ news, p.1 < D) → Q (.ref D) { s with heap := h', toks := k }) :
    wpAny (model prog w) A (call (.builtin "str.split") [.str x t, .str y u]) Q E s :=
  KSpl.split1 hF hN hy (fun D l h' k e a F N lt => h D _ h' k (by rw [← e]; exact strsAre_Are a) F N lt) (by rw [sizeLine_eq]; omega)
theorem join_s (N : News h₀ L s.heap news) (hm : (D, listOf vs.toArray n) ∈ news) (a : Are Value.str vs xs) (hx : x.length ≤ 16) (hw : wt Str.length xs ≤ 10000)
    (h : ∀ t' k, Q (.str (Txt.join x xs) t') { s with toks := k }) : wpAny (model prog w) A (call (.builtin "str.join") [.str x t, .ref D]) Q E s :=
  join_listW ⟨_, (N _ hm).1, rfl, n, rfl⟩ (by simpa using Are_strsAre a) hx (by unfold wt at hw; show (xs.map Str.length).sum + xs.length ≤ 1048576; omega) h
end
end Mine
end
section
open PySem PySem.W PyProof.Rows
set_option maxRecDepth 100000
set_option pp.deepTerms false
set_option pp.proofs false
set_option pp.maxSteps 3000
namespace Mine
local macro_rules | `(tactic| k_room) => `(tactic| ktr_room)
local macro_rules | `(tactic| k_units) => `(tactic| ktr_units)
local macro_rules | `(tactic| walk_at "call builtin:issubclass") => `(tactic| (k_here; first
  | ((with_reducible show wpAny _ _ (call (Value.builtin "issubclass") [Value.type "str", Value.ref _]) _ _ _); (refine issub_str (by k_asm) (by k_mem) ?_))
  | ((with_reducible show wpAny _ _ (call (Value.builtin "issubclass") [Value.type "bytes", Value.ref _]) _ _ _); (refine issub_bytes (by k_asm) (by k_mem) ?_))))
local macro_rules | `(tactic| walk_at "call type:type") => `(tactic| (k_here; (with_reducible show wpAny _ _ (call (Value.type "type") [Value.bytes _ _]) _ _ _); (refine call_type_of (Tx := "bytes") rfl (by decide +kernel) ?_)))

set_option maxHeartbeats 8000000 in
theorem fspath_str (x : Str) (t : Tok) : Con 3 True 101 [.str x t] (fun _ => .str x t) := by
  unfold Con
  w_top off
  k_fill
  intros
  rename_i hret
  refine wpAny_call ?_
  k_dflt cell_enter
  k_steps
  exact hret t _ _ (by k_asm) (cb_drop (by k_asm) (by kcj_all))
set_option maxHeartbeats 8000000 in
theorem fspath_bytes (x : Array UInt8) (t : Tok) : Con 3 True 101 [.bytes x t] (fun _ => .bytes x t) := by
  unfold Con
  w_top off
  k_fill
  intros
  rename_i hret
  refine wpAny_call ?_
  k_dflt cell_enter
  k_steps
  exact hret t _ _ (by k_asm) (cb_drop (by k_asm) (by kcj_all))
end Mine
end
section
open PySem PySem.W PyProof.Rows
set_option maxRecDepth 100000
set_option pp.deepTerms false
set_option pp.proofs false
set_option pp.maxSteps 3000
namespace Mine
local macro_rules | `(tactic| k_room) => `(tactic| ktr_room)
local macro_rules | `(tactic| k_units) => `(tactic| ktr_units)
local macro_rules | `(tactic| walk_at "call builtin:issubclass") => `(tactic| (k_here; first
  | ((with_reducible show wpAny _ _ (call (Value.builtin "issubclass") [Value.type "str", Value.ref _]) _ _ _); (refine issub_str (by k_asm) (by k_mem) ?_))
  | ((with_reducible show wpAny _ _ (call (Value.builtin "issubclass") [Value.type "bytes", Value.ref _]) _ _ _); (refine issub_bytes (by k_asm) (by k_mem) ?_))))
local macro_rules | `(tactic| walk_at "call type:type") => `(tactic| (k_here; (with_reducible show wpAny _ _ (call (Value.type "type") [Value.bytes _ _]) _ _ _); (refine call_type_of (Tx := "bytes") rfl (by decide +kernel) ?_)))
local macro_rules | `(tactic| walk_at "subscriptTail") => `(tactic| (k_here; (with_reducible show wpAny _ _ (subscriptTail _ (Expr.Slice _ _ none _) (Value.bytes _ _) (Value.ref _)) _ _ _); (with_reducible rename Fr _ _ _ _ => F'); (with_reducible rename News _ _ _ _ => N'); (refine KBc.slice_K (s := ⟨_, _, _, _, _⟩) F' N' rfl (by constructor) (by constructor) (by rw [KBw.ints_length]; omega) ?_); intro _ _ _ _ _ _))
local macro_rules | `(tactic| walk_at "call ref") => `(tactic| (k_here; (with_reducible show wpAny _ _ (call (Value.ref 101) [Value.str _ _]) _ _ _); k_dflt (refine' Con.use (fspath_str _ _) ?k1 ?k2 ?k3 ?k4 ?k5 ?kK ?kp ?kd ?ku ?_; (case k1 => k_asm); (case k2 => k_asm); (case k3 => k_asm); (case k4 => k_asm); (case k5 => k_asm); (case kK => first | exact rfl | assumption); (case kp => trivial); (case kd => ktr_room); (case ku => ktr_units); k_whole; intro t9 h9 tk9 F9 N9; (try dsimp only); (try k_fold))))
local macro_rules | `(tactic| walk_at "call ref") => `(tactic| (k_here; (with_reducible show wpAny _ _ (call (Value.ref 101) [Value.bytes _ _]) _ _ _); k_dflt (refine' Con.use (fspath_bytes _ _) ?k1 ?k2 ?k3 ?k4 ?k5 ?kK ?kp ?kd ?ku ?_; (case k1 => k_asm); (case k2 => k_asm); (case k3 => k_asm); (case k4 => k_asm); (case k5 => k_asm); (case kK => first | exact rfl | assumption); (case kp => trivial); (case kd => ktr_room); (case ku => ktr_units); k_whole; intro t9 h9 tk9 F9 N9; (try dsimp only); (try k_fold))))

def rootS (x : Str) : Str := if (Txt.slice x none (some 1) != Str.ofString "/") = true then Str.ofString "" else if ((Txt.slice x (some 1) (some 2) != Str.ofString "/") || (Txt.slice x (some 2) (some 3) == Str.ofString "/")) = true then Str.ofString "/" else Txt.slice x none (some 2)
def restS (x : Str) : Str := if (Txt.slice x none (some 1) != Str.ofString "/") = true then x else if ((Txt.slice x (some 1) (some 2) != Str.ofString "/") || (Txt.slice x (some 2) (some 3) == Str.ofString "/")) = true then Txt.slice x (some 1) none else Txt.slice x (some 2) none
def rootB (x : Array UInt8) : Array UInt8 := if ((KBy.picked x none (some 1)).toList != [47]) = true then #[] else if (((KBy.picked x (some 1) (some 2)).toList != [47]) || ((KBy.picked x (some 2) (some 3)).toList == [47])) = true then #[47] else KBy.picked x none (some 2)
def restB (x : Array UInt8) : Array UInt8 := if ((KBy.picked x none (some 1)).toList != [47]) = true then x else if (((KBy.picked x (some 1) (some 2)).toList != [47]) || ((KBy.picked x (some 2) (some 3)).toList == [47])) = true then KBy.picked x (some 1) none else KBy.picked x (some 2) none
set_option maxHeartbeats 8000000 in
theorem splitroot_str (x : Str) (t : Tok) : Con3 5 (x.length ≤ 100) 115 [.str x t] (fun t u v => [.str (Str.ofString "") t, .str (rootS x) u, .str (restS x) v]) := by
  unfold Con3
  w_top off
  k_fill
  intros
  rename_i hret
  refine wpAny_call ?_
  k_dflt cell_enter
  k_steps
  all_goals (refine end3s hret (by k_asm) (by k_asm) (by kcj_all) (by ktn_lt) rfl ?_ ?_ <;> simp [rootS, restS, *])
set_option maxHeartbeats 8000000 in
theorem splitroot_bytes (x : Array UInt8) (t : Tok) : Con3 5 (x.size ≤ 100) 115 [.bytes x t] (fun t u v => [.bytes #[] t, .bytes (rootB x) u, .bytes (restB x) v]) := by
  unfold Con3
  w_top off
  k_fill
  intros
  rename_i hret
  refine wpAny_call ?_
  k_dflt cell_enter
  k_steps
  all_goals (refine end3b hret (by k_asm) (by k_asm) (by kcj_all) (by ktn_lt) rfl ?_ ?_ <;> simp [rootB, restB, *])

end Mine
end
section
open PySem PySem.W PyProof.Rows PySem.Calls
set_option maxRecDepth 100000
namespace Mine
theorem restS_len (x : Str) : (restS x).length ≤ x.length := by
  unfold restS
  split
  · exact Nat.le_refl _
  · split
    · exact Txt.slice_le x (some 1) none
    · exact Txt.slice_le x (some 2) none
theorem rootS_len (x : Str) : (rootS x).length ≤ x.length + 1 := by
  have h1 : (Str.ofString "").length = 0 := by decide +kernel
  have h2 : (Str.ofString "/").length = 1 := by decide +kernel
  unfold rootS
  split
  · omega
  · split
    · omega
    · have := Txt.slice_le x none (some 2); omega
/-- what normpath keeps of a text's pieces -/
def npS (x : Str) : List Str :=
  (Txt.split (restS x) (Str.ofString "/")).foldl (stepC (Str.ofString "") (Str.ofString ".") (Str.ofString "..") ((rootS x).length != 0)) []
theorem np_wtS {x : Str} (hx : x.length ≤ 100) (abs : Bool) (i : Nat) :
    wt Str.length (((Txt.split (restS x) (Str.ofString "/")).take i).foldl (stepC (Str.ofString "") (Str.ofString ".") (Str.ofString "..") abs) []) ≤ 101 := by
  have h1 := wt_fold Str.length (Str.ofString "") (Str.ofString ".") (Str.ofString "..") abs ((Txt.split (restS x) (Str.ofString "/")).take i) []
  have h2 := wt_take Str.length (Txt.split (restS x) (Str.ofString "/")) i
  have h3 := wt_splitS (restS x) (Str.ofString "/") (by decide +kernel)
  have h4 := restS_len x
  rw [wt_nil] at h1
  omega
theorem np_hbS {x : Str} (hx : x.length ≤ 100) (abs : Bool) (i : Nat) :
    (((Txt.split (restS x) (Str.ofString "/")).take i).foldl (stepC (Str.ofString "") (Str.ofString ".") (Str.ofString "..") abs) []).length ≤ 200 := by
  have h1 := np_wtS hx abs i
  have h2 := len_wt Str.length (((Txt.split (restS x) (Str.ofString "/")).take i).foldl (stepC (Str.ofString "") (Str.ofString ".") (Str.ofString "..") abs) [])
  omega
theorem np_wt (x : Str) (hx : x.length ≤ 100) : wt Str.length (npS x) ≤ 101 := by
  have h := np_wtS hx ((rootS x).length != 0) (Txt.split (restS x) (Str.ofString "/")).length
  rw [List.take_length] at h
  exact h
def normS (x : Str) : Str :=
  if x.length = 0 then Str.ofString "." else if (rootS x ++ Txt.join (Str.ofString "/") (npS x)).length = 0 then Str.ofString "." else rootS x ++ Txt.join (Str.ofString "/") (npS x)
section
variable {prog : Program} {w : World} {A : Around} {E : Value → Shared → Prop} {s : Shared} {env : Env} {h₀ : Heap} {x : Str} {body : List Stmt} {Q : Flow → Shared → Prop} {α : Type} {mk : α → Tok → Value}
theorem loop_np (g : List α → α → List α) {l D : Addr} {vs : List Value} {cs : List α} {nn n₀ : Nat} {m₀ : Str → Option Value} {T : Addr × Obj} {news : List (Addr × Obj)}
    (hh : A.handled = none) (hc : Are mk vs cs) (F : Fr h₀ env.locals s.heap m₀) (N : News h₀ env.locals s.heap ((D, listOf #[] n₀) :: (l, listOf vs.toArray nn) :: T :: news))
    (hD : AllLt D ((l, listOf vs.toArray nn) :: T :: news)) (hl : ∀ p ∈ T :: news, p.1 < l) (hb : ∀ i, ((cs.take i).foldl g []).length ≤ 200)
    (turn : ∀ c t us n acc h tk rest, c ∈ cs → Are mk us acc → us.length ≤ 200 → (∀ p ∈ rest, p.1 ≠ D) → Fr h₀ env.locals h (fun y => if y = x then some (mk c t) else m₀ y) → News h₀ env.locals h ((D, listOf us.toArray n) :: rest) →
      wpAny (model prog w) A (execs body env) (StPost mk h₀ env.locals D m₀ x rest (g acc c) { s with heap := h, toks := tk } Q) E { s with heap := h, toks := tk })
    (done : ∀ (u : Str → Option Value) us n h tk, Are mk us (cs.foldl g []) → us.length ≤ 200 → Fr h₀ env.locals h (fun y => if y = x then u y else m₀ y) → News h₀ env.locals h ((D, listOf us.toArray n) :: news) → Q .next { s with heap := h, toks := tk }) :
    wpAny (model prog w) A (pyIter (.ref l)) (fun it s₂ => LoopAtV prog w A h₀ env x body Q E it s₂) E s := by
  have hD' := ktn_ltOf hD
  refine loop_stack (D := D) (us₀ := []) (n₀ := n₀) (nn := nn) (news := news) g hh (.tail _ (.head _)) hc F N (.head _) .nil (fun p hp => .tail _ (.tail _ (.tail _ hp))) ?_ ?_ hb ?_ done
  · exact Nat.ne_of_gt (hD' _ (.head _))
  · intro p hp
    exact Nat.ne_of_lt (hl p (.tail _ hp))
  · intro c t us n acc h tk own hmc a hz hoff F₁ N₁
    refine turn c t us n acc h tk _ hmc a hz ?_ F₁ N₁
    intro p hp
    rcases List.mem_append.mp hp with hp | hp
    · exact Nat.ne_of_lt (hD' p (.tail _ (.tail _ hp)))
    · exact hoff p hp D (.head _)
end
section
variable {prog : Program} {w : World} {A : Around} {E : Value → Shared → Prop} {s : Shared} {h₀ : Heap} {L D : Addr} {m : Str → Option Value} {rest : List (Addr × Obj)} {n : Nat} {α : Type} {mk : α → Tok → Value} {vs : List Value} {xs : List α} {Q : Value → Shared → Prop}
theorem st_appendH {y : α} {t : Tok} (F : Fr h₀ L s.heap m) (N : News h₀ L s.heap ((D, listOf vs.toArray n) :: rest)) (hr : ∀ p ∈ rest, p.1 ≠ D) (a : Are mk vs xs) (hz : vs.length ≤ 200)
    (h : ∀ h', Fr h₀ L h' m → News h₀ L h' ((D, listOf (vs ++ [mk y t]).toArray (n + 1)) :: rest) → Are mk (vs ++ [mk y t]) (xs ++ [y]) → Q .none { s with heap := h' }) :
    wpAny (model prog w) A (call (.builtin "list.append") [.ref D, mk y t]) Q E s :=
  append_K F N (Upd.head hr) (fun h' F' N' => h h' F' (by simpa using N') (a.snoc y t)) (by rw [sizeLine_eq]; simp; omega)
theorem st_popH (F : Fr h₀ L s.heap m) (N : News h₀ L s.heap ((D, listOf vs.toArray n) :: rest)) (hr : ∀ p ∈ rest, p.1 ≠ D) (a : Are mk vs xs) (hne : xs ≠ []) (hz : vs.length ≤ 200)
    (h : ∀ v h', Fr h₀ L h' m → News h₀ L h' ((D, listOf vs.dropLast.toArray (n + 1)) :: rest) → Are mk vs.dropLast xs.dropLast → Q v { s with heap := h' }) :
    wpAny (model prog w) A (call (.builtin "list.pop") [.ref D]) Q E s :=
  st_pop F N (Upd.head hr) a hne hz fun v h' F' N' => h v h' F' N' a.dropLast
end
section
variable {prog : Program} {w : World} {A : Around} {E : Value → Shared → Prop} {s : Shared} {env : Env} {h₀ : Heap} {x : Str} {body : List Stmt} {Q : Flow → Shared → Prop}
theorem loop_npS {x₀ : Str} {l D : Addr} {vs : List Value} {nn n₀ : Nat} {m₀ : Str → Option Value} {T : Addr × Obj} {news : List (Addr × Obj)}
    (hh : A.handled = none) (hc : Are Value.str vs (Txt.split (restS x₀) (Str.ofString "/"))) (F : Fr h₀ env.locals s.heap m₀) (N : News h₀ env.locals s.heap ((D, listOf #[] n₀) :: (l, listOf vs.toArray nn) :: T :: news))
    (hD : AllLt D ((l, listOf vs.toArray nn) :: T :: news)) (hl : ∀ p ∈ T :: news, p.1 < l) (hx : x₀.length ≤ 100)
    (turn : ∀ (c : Str) t us n acc h tk rest, c.length ≤ 100 → (rootS x₀).length ≤ 101 → Are Value.str us acc → us.length ≤ 200 → (∀ p ∈ rest, p.1 ≠ D) → Fr h₀ env.locals h (fun y => if y = x then some (Value.str c t) else m₀ y) → News h₀ env.locals h ((D, listOf us.toArray n) :: rest) →
      wpAny (model prog w) A (execs body env) (StPost Value.str h₀ env.locals D m₀ x rest (stepC (Str.ofString "") (Str.ofString ".") (Str.ofString "..") ((rootS x₀).length != 0) acc c) { s with heap := h, toks := tk } Q) E { s with heap := h, toks := tk })
    (done : ∀ (u : Str → Option Value) us n h tk, (rootS x₀).length ≤ 101 → wt Str.length (npS x₀) ≤ 101 → Are Value.str us (npS x₀) → us.length ≤ 200 → Fr h₀ env.locals h (fun y => if y = x then u y else m₀ y) → News h₀ env.locals h ((D, listOf us.toArray n) :: news) → Q .next { s with heap := h, toks := tk }) :
    wpAny (model prog w) A (pyIter (.ref l)) (fun it s₂ => LoopAtV prog w A h₀ env x body Q E it s₂) E s :=
  loop_np _ hh hc F N hD hl (np_hbS hx _) (fun c t us n acc h tk rest hm => turn c t us n acc h tk rest (by
    have h1 := wt_mem Str.length hm
    have h2 := wt_splitS (restS x₀) (Str.ofString "/") (by decide +kernel)
    have h3 := restS_len x₀
    omega) (by have := rootS_len x₀; omega)) fun u us n h tk => done u us n h tk (by have := rootS_len x₀; omega) (np_wt x₀ hx)
end
section
variable {α : Type} [DecidableEq α] {mk : α → Tok → Value} {e d dd c y : α} {abs : Bool} {us : List Value} {acc : List α} {t : Tok}
omit [DecidableEq α] in
theorem Are.nil_of (a : Are mk us acc) (h : us.isEmpty = true) : acc = [] := by
  cases a with
  | nil => rfl
  | cons _ _ _ => simp at h
omit [DecidableEq α] in
theorem Are.ne_of (a : Are mk us acc) (h : us.isEmpty = false) : acc ≠ [] := by
  cases a with
  | nil => simp at h
  | cons _ _ _ => simp
theorem ar_skip (a : Are mk us acc) (h : c = e ∨ c = d) : Are mk us (stepC e d dd abs acc c) := by
  unfold stepC; rw [if_pos h]; exact a
theorem ar_push (a : Are mk (us ++ [mk c t]) (acc ++ [c])) (h1 : c ≠ e) (h2 : c ≠ d) (h3 : c ≠ dd) : Are mk (us ++ [mk c t]) (stepC e d dd abs acc c) := by
  unfold stepC; rw [if_neg (by simp [h1, h2]), if_pos (.inl h3)]; exact a
theorem ar_none (a : Are mk us acc) (h1 : c ≠ e) (h2 : c ≠ d) (h3 : c = dd) (ha : abs = true) (hu : us.isEmpty = true) : Are mk us (stepC e d dd abs acc c) := by
  have hn := a.nil_of hu
  subst hn ha
  unfold stepC; rw [if_neg (by simp [h1, h2]), if_neg (by simp [h3])]; exact a
theorem ar_first (a : Are mk (us ++ [mk c t]) (acc ++ [c])) (a' : Are mk us acc) (h1 : c ≠ e) (h2 : c ≠ d) (ha : abs = false) (hu : us.isEmpty = true) : Are mk (us ++ [mk c t]) (stepC e d dd abs acc c) := by
  have hn := a'.nil_of hu
  unfold stepC; rw [if_neg (by simp [h1, h2]), if_pos (.inr (.inl ⟨ha, hn⟩))]; exact a
theorem ar_dd (a : Are mk (us ++ [mk c t]) (acc ++ [c])) (h1 : c ≠ e) (h2 : c ≠ d) (hl : acc.getLast? = some y) (hy : y = dd) : Are mk (us ++ [mk c t]) (stepC e d dd abs acc c) := by
  unfold stepC; rw [if_neg (by simp [h1, h2]), if_pos (.inr (.inr (by rw [hl, hy])))]; exact a
theorem ar_pop (a : Are mk us.dropLast acc.dropLast) (h1 : c ≠ e) (h2 : c ≠ d) (h3 : c = dd) (hl : acc.getLast? = some y) (hy : y ≠ dd) : Are mk us.dropLast (stepC e d dd abs acc c) := by
  have hn : acc ≠ [] := by intro h; rw [h] at hl; simp at hl
  unfold stepC; rw [if_neg (by simp [h1, h2]), if_neg (by simp [h3, hn, hl, hy])]; exact a
end
theorem str_of0 {c : Str} (h : (c.length : Int) = 0) : c = Str.ofString "" := by
  have e : Str.ofString "" = ⟨#[]⟩ := by decide +kernel
  rw [e]
  obtain ⟨a⟩ := c
  have : a.size = 0 := by have h' : (a.size : Int) = 0 := h; omega
  rw [Array.eq_empty_of_size_eq_zero this]
theorem str_ne0 {c : Str} (h : (c.length : Int) ≠ 0) : c ≠ Str.ofString "" := by
  intro e; rw [e] at h; exact h (by decide +kernel)
theorem bne0t {x : Str} (h : (x.length : Int) ≠ 0) : (x.length != 0) = true := by simp; omega
theorem bne0f {x : Str} (h : (x.length : Int) = 0) : (x.length != 0) = false := by simp; omega
theorem st_end {mk : α → Tok → Value} {h₀ : Heap} {L D : Addr} {m₀ m' : Str → Option Value} {x : Str} {rest : List (Addr × Obj)} {acc : List α} {s₁ : Shared} {h' : Heap} {tk : Nat} {us' : List Value} {n' : Nat} (F : Fr h₀ L h' m') (N : News h₀ L h' ((D, listOf us'.toArray n') :: rest)) (a : Are mk us' acc) (hm : ∀ z, z ≠ x → m' z = m₀ z) :
    StEnd mk h₀ L D m₀ x rest acc s₁ { s₁ with heap := h', toks := tk } := StEnd.intro F N a hm
section
variable {prog : Program} {w : World} {A : Around} {E : Value → Shared → Prop} {s : Shared} {h₀ : Heap} {L D : Addr} {m : Str → Option Value} {rest : List (Addr × Obj)} {n : Nat} {α : Type} {mk : α → Tok → Value} {vs : List Value} {xs : List α} {Q : Value → Shared → Prop}
theorem st_lastH {value slice : PySem.Expr} {u : Tok} (N : News h₀ L s.heap ((D, listOf vs.toArray n) :: rest)) (a : Are mk vs xs) (hne : vs.isEmpty = false) (h : ∀ y t, xs.getLast? = some y → Q (mk y t) s)
    (hs : subscripted slice false (.ref D) (.int (-1) u) = operate [.ref D, .int (-1) u] (getItem (.ref D) (.int (-1) u)) := by with_unfolding_all rfl) :
    wpAny (model prog w) A (subscriptTail value slice (.ref D) (.int (-1) u)) Q E s := st_last N (.head _) a (a.ne_of hne) h hs
def glueS (x : Str) : Str := rootS x ++ Txt.join (Str.ofString "/") (npS x)
theorem join_npS {x : Str} {t : Tok} {vs : List Value} (N : News h₀ L s.heap ((D, listOf vs.toArray n) :: rest)) (a : Are Value.str vs (npS x)) (hw : wt Str.length (npS x) ≤ 101)
    (h : ∀ t' k, Q (.str (Txt.join (Str.ofString "/") (npS x)) t') { s with toks := k }) : wpAny (model prog w) A (call (.builtin "str.join") [.str (Str.ofString "/") t, .ref D]) Q E s :=
  join_s N (.head _) a (by decide +kernel) (by omega) h
theorem len_join_np {xs : List Str} : (Txt.join (Str.ofString "/") xs).length ≤ wt Str.length xs := by
  cases xs with
  | nil => exact Nat.zero_le _
  | cons a r =>
    have h := len_join_cons (Str.ofString "/") a r
    have e : (Str.ofString "/").length = 1 := by decide +kernel
    rw [e] at h
    have h2 : (Txt.join (Str.ofString "/") (a :: r)).length = ((a :: r).map Str.length).sum + r.length * 1 := by
      show (PySem.Builtin.Str.glued _ (a :: r)).length = _
      rw [StrLaws.glued_eq_join]; exact h
    unfold wt
    rw [List.length_cons]
    omega
theorem add_npS {x : Str} {t u : Tok} (hr : (rootS x).length ≤ 101) (hw : wt Str.length (npS x) ≤ 101) (h : ∀ t' k, (glueS x).length ≤ 300 → Q (.str (glueS x) t') { s with toks := k }) :
    wpAny (model prog w) A (binaryOp .Add (.str (rootS x) t) (.str (Txt.join (Str.ofString "/") (npS x)) u)) Q E s := by
  have hl := len_join_np (xs := npS x)
  refine SBL.add (fun t' k hz => h t' k ?_) (by rw [sizeLine_eq]; omega)
  unfold glueS
  omega
end
theorem normS_0 {x : Str} (h : (x.length : Int) = 0) : normS x = Str.ofString "." := by
  unfold normS; rw [if_pos (by omega)]
theorem normS_1 {x : Str} (h : (x.length : Int) ≠ 0) (hg : ((glueS x).length : Int) = 0) : normS x = Str.ofString "." := by
  unfold glueS at hg
  unfold normS; rw [if_neg (by omega), if_pos (by omega)]
theorem normS_2 {x : Str} (h : (x.length : Int) ≠ 0) (hg : ((glueS x).length : Int) ≠ 0) : normS x = glueS x := by
  unfold glueS at *
  unfold normS; rw [if_neg (by omega), if_neg (by omega)]
theorem end1s {h₀ : Heap} {L : Addr} {m : Str → Option Value} {news news' : List (Addr × Obj)} {s : Shared} {Q : Value → Shared → Prop} {a b : Str} {h : Heap} {tk : Nat} {t : Tok}
    (ret : ∀ (t : Tok) (h' : Heap) (tk' : Nat), Fr h₀ L h' m → News h₀ L h' news → Q (.str a t) { s with heap := h', toks := tk' }) (F : Fr h₀ L h m) (N : News h₀ L h news') (hs : ∀ p ∈ news, p ∈ news') (e : a = b) :
    Q (.str b t) { s with heap := h, toks := tk } := by
  subst e
  exact ret t h tk F fun p hp => N p (hs p hp)
end Mine
end
section
open PySem PySem.W PyProof.Rows
set_option maxRecDepth 100000
set_option pp.deepTerms false
set_option pp.proofs false
set_option pp.maxSteps 3000
namespace Mine
local macro_rules | `(tactic| k_room) => `(tactic| ktr_room)
local macro_rules | `(tactic| k_units) => `(tactic| ktr_units)
local macro_rules | `(tactic| walk_at "call builtin:issubclass") => `(tactic| (k_here; first
  | ((with_reducible show wpAny _ _ (call (Value.builtin "issubclass") [Value.type "str", Value.ref _]) _ _ _); (refine issub_str (by k_asm) (by k_mem) ?_))
  | ((with_reducible show wpAny _ _ (call (Value.builtin "issubclass") [Value.type "bytes", Value.ref _]) _ _ _); (refine issub_bytes (by k_asm) (by k_mem) ?_))))
local macro_rules | `(tactic| walk_at "call type:type") => `(tactic| (k_here; (with_reducible show wpAny _ _ (call (Value.type "type") [Value.bytes _ _]) _ _ _); (refine call_type_of (Tx := "bytes") rfl (by decide +kernel) ?_)))
local macro_rules | `(tactic| walk_at "subscriptTail") => `(tactic| (k_here; (with_reducible show wpAny _ _ (subscriptTail _ (Expr.Slice _ _ none _) (Value.bytes _ _) (Value.ref _)) _ _ _); (with_reducible rename Fr _ _ _ _ => F'); (with_reducible rename News _ _ _ _ => N'); (refine KBc.slice_K (s := ⟨_, _, _, _, _⟩) F' N' rfl (by constructor) (by constructor) (by rw [KBw.ints_length]; omega) ?_); intro _ _ _ _ _ _))
local macro_rules | `(tactic| walk_at "call ref") => `(tactic| (k_here; (with_reducible show wpAny _ _ (call (Value.ref 101) [Value.str _ _]) _ _ _); k_dflt (refine' Con.use (fspath_str _ _) ?k1 ?k2 ?k3 ?k4 ?k5 ?kK ?kp ?kd ?ku ?_; (case k1 => k_asm); (case k2 => k_asm); (case k3 => k_asm); (case k4 => k_asm); (case k5 => k_asm); (case kK => first | exact rfl | assumption); (case kp => trivial); (case kd => ktr_room); (case ku => ktr_units); k_whole; intro t9 h9 tk9 F9 N9; (try dsimp only); (try k_fold))))
local macro_rules | `(tactic| walk_at "call ref") => `(tactic| (k_here; (with_reducible show wpAny _ _ (call (Value.ref 101) [Value.bytes _ _]) _ _ _); k_dflt (refine' Con.use (fspath_bytes _ _) ?k1 ?k2 ?k3 ?k4 ?k5 ?kK ?kp ?kd ?ku ?_; (case k1 => k_asm); (case k2 => k_asm); (case k3 => k_asm); (case k4 => k_asm); (case k5 => k_asm); (case kK => first | exact rfl | assumption); (case kp => trivial); (case kd => ktr_room); (case ku => ktr_units); k_whole; intro t9 h9 tk9 F9 N9; (try dsimp only); (try k_fold))))
local macro_rules | `(tactic| walk_at "call ref") => `(tactic| (k_here; (with_reducible show wpAny _ _ (call (Value.ref 115) [Value.str _ _]) _ _ _); k_dflt (refine' Con3.use (splitroot_str _ _) ?k1 ?k2 ?k3 ?k4 ?k5 ?kK ?kp ?kd ?ku ?_; (case k1 => k_asm); (case k2 => k_asm); (case k3 => k_asm); (case k4 => k_asm); (case k5 => k_asm); (case kK => first | exact rfl | assumption); (case kp => first | assumption | omega); (case kd => ktr_room); (case ku => ktr_units); k_whole; intro D9 t9 u9 v9 h9 tk9 F9 N9 lt9; (try dsimp only); (try k_fold))))
local macro_rules | `(tactic| walk_at "call builtin:str.split") => `(tactic| (k_here; (with_reducible show wpAny _ _ (call (Value.builtin "str.split") [Value.str (restS _) _, Value.str _ _]) _ _ _); (with_reducible rename Fr _ _ _ _ => F'); (with_reducible rename News _ _ _ _ => N'); (refine split_s (s := ⟨_, _, _, _, _⟩) F' N' (by decide +kernel) (Nat.le_trans (restS_len _) (by omega)) ?_); intro D9 vs9 h9 tk9 a9 F9 N9 lt8))
local macro_rules | `(tactic| walk_at "exec For Name Name cons nil") => `(tactic| (k_here; (rename Fr _ _ _ _ => lF'); (with_unfolding_all refine' For_invVF lF' ?k1 ?k2 ?_; (case k1 => exact rfl); (case k2 => exact rfl); k_whole)))
local macro_rules | `(tactic| walk_at "pyIter ref") => `(tactic| (k_here; (with_reducible rename Fr _ _ _ _ => F'); (with_reducible rename News _ _ _ _ => N'); (rename Are _ _ _ => ar'); (refine' loop_npS (s := ⟨_, _, _, _, _⟩) rfl ar' F' N' (by ktn_lt) (by assumption) (by assumption) (fun c8 t8 us8 n8 acc8 h8 tk8 rest8 c9 c8r a8 z8 r8 F8 N8 => ?_) (fun u8 us8 n8 h8 tk8 c8r w8 a8 z8 F8 N8 => ?_)); (all_goals (try clear F' N' ar')); (all_goals (try k_fold))))
local macro_rules | `(tactic| walk_at "StPost") => `(tactic| (dsimp only [StPost]))
local macro_rules | `(tactic| walk_at "call builtin:list.append") => `(tactic| (k_here; (with_reducible show wpAny _ _ (call (Value.builtin _) [Value.ref _, Value.str _ _]) _ _ _); (refine st_appendH (mk := Value.str) (s := ⟨_, _, _, _, _⟩) (by k_asm) (by k_asm) (by assumption) (by assumption) (by assumption) ?_); intro h7 F7 N7 a7))
local macro_rules | `(tactic| walk_at "call builtin:list.pop") => `(tactic| (k_here; (with_reducible show wpAny _ _ (call (Value.builtin _) [Value.ref _]) _ _ _); (refine st_popH (mk := Value.str) (s := ⟨_, _, _, _, _⟩) (by k_asm) (by k_asm) (by assumption) (by assumption) (Are.ne_of (mk := Value.str) (by assumption) (by assumption)) (by assumption) ?_); intro v7 h7 F7 N7 a7))
local macro_rules | `(tactic| walk_at "subscriptTail") => `(tactic| (k_here; (with_reducible show wpAny _ _ (subscriptTail _ _ (Value.ref _) (Value.int _ _)) _ _ _); (refine st_lastH (mk := Value.str) (s := ⟨_, _, _, _, _⟩) (by k_asm) (by assumption) (by assumption) ?_); intro y7 t7 l7))
local macro_rules | `(tactic| walk_at "call builtin:str.join") => `(tactic| (k_here; (with_reducible show wpAny _ _ (call (Value.builtin _) [Value.str _ _, Value.ref _]) _ _ _); (refine join_npS (s := ⟨_, _, _, _, _⟩) (by k_asm) (by assumption) (by assumption) ?_); intro t7 k7))
local macro_rules | `(tactic| walk_at "binaryOp Add str str") => `(tactic| (k_here; (with_reducible show wpAny _ _ (binaryOp Operator.Add (Value.str (rootS _) _) (Value.str (Txt.join _ (npS _)) _)) _ _ _); (refine add_npS (s := ⟨_, _, _, _, _⟩) (by assumption) (by assumption) ?_); intro t7 k7 l7))
local macro_rules | `(tactic| walk_at "StEnd") => `(tactic| ((with_reducible show StEnd _ _ _ _ _ _ _ _ _ _); (refine st_end (by k_asm) (by k_asm) ?_ (fun z h1 => if_neg h1)); first
  | exact ar_skip (by assumption) (.inl (str_of0 (by assumption)))
  | exact ar_skip (by assumption) (.inr (eq_of_beq (by assumption)))
  | exact ar_push (by assumption) (str_ne0 (by assumption)) (ne_of_beq_false (by assumption)) (bne_iff_ne.mp (by assumption))
  | exact ar_none (by assumption) (str_ne0 (by assumption)) (ne_of_beq_false (by assumption)) (by simpa using ‹(_ != Str.ofString "..") = false›) (bne0t (by assumption)) (by assumption)
  | exact ar_first (by assumption) (by assumption) (str_ne0 (by assumption)) (ne_of_beq_false (by assumption)) (bne0f (by assumption)) (by assumption)
  | exact ar_dd (by assumption) (str_ne0 (by assumption)) (ne_of_beq_false (by assumption)) (by assumption) (eq_of_beq (by assumption))
  | exact ar_pop (by assumption) (str_ne0 (by assumption)) (ne_of_beq_false (by assumption)) (by simpa using ‹(_ != Str.ofString "..") = false›) (by assumption) (ne_of_beq_false (by assumption))))

set_option maxHeartbeats 8000000 in
theorem normpath_str (x : Str) (t : Tok) : Con 8 (x.length ≤ 100) 122 [.str x t] (fun t => .str (normS x) t) := by
  unfold Con
  w_top off
  k_fill
  intros
  rename_i hret
  refine wpAny_call ?_
  k_dflt cell_enter
  k_steps
  · exact end1s hret (by k_asm) (by k_asm) (by kcj_all) (normS_2 (by with_reducible assumption) (by with_reducible assumption))
  · exact end1s hret (by k_asm) (by k_asm) (by kcj_all) (normS_1 (by with_reducible assumption) (by with_reducible assumption))
  · exact end1s hret (by k_asm) (by k_asm) (by kcj_all) (normS_0 (by with_reducible assumption))

end Mine
end
section
open PySem PySem.W PyProof.Rows PySem.Calls
set_option maxRecDepth 100000
namespace Mine
theorem slotB_split : Slot "bytes" "split" "bytes.split" :=
  .of (owner := "bytes") (n := "split") (by rw [typeLookup_type, builtinLookup_eq_fast]; kernel_rfl) (by decide +kernel) (by decide +kernel) (by decide +kernel)
    (by first | exact .inl (by decide +kernel) | exact .inr (by decide +kernel)) (by rw [isSubtype_type]; kernel_rfl)
theorem typeB_split : typeOf (.builtin "bytes.split") = pure (.type "method_descriptor") := by show builtinType _ = _; rw [builtinType_eq_fast]; kernel_rfl
theorem entryB_split : entryFor table "bytes.split" = some Builtin.«bytes.split» := entryFor_of_tree (by kernel_rfl)
theorem argsB_split (a b : Value) : argsOk "bytes.split" ⟨[a, b], []⟩ := by
  unfold argsOk; rw [signature?_of (id := "bytes.split") (n := ['t', 'i', 'l', 'p', 's']) (o := ['s', 'e', 't', 'y', 'b']) (by kernel_rfl) FB.owner_bytes]; kernel_rfl
theorem slotB_join : Slot "bytes" "join" "bytes.join" :=
  .of (owner := "bytes") (n := "join") (by rw [typeLookup_type, builtinLookup_eq_fast]; kernel_rfl) (by decide +kernel) (by decide +kernel) (by decide +kernel)
    (by first | exact .inl (by decide +kernel) | exact .inr (by decide +kernel)) (by rw [isSubtype_type]; kernel_rfl)
theorem typeB_join : typeOf (.builtin "bytes.join") = pure (.type "method_descriptor") := by show builtinType _ = _; rw [builtinType_eq_fast]; kernel_rfl
theorem entryB_join : entryFor table "bytes.join" = some Builtin.«bytes.join» := entryFor_of_tree (by kernel_rfl)
theorem argsB_join (a b : Value) : argsOk "bytes.join" ⟨[a, b], []⟩ := by
  unfold argsOk; rw [signature?_of (id := "bytes.join") (n := ['n', 'i', 'o', 'j']) (o := ['s', 'e', 't', 'y', 'b']) (by kernel_rfl) FB.owner_bytes]; kernel_rfl
def placesB (x y : Array UInt8) : List Nat := (Builtin.Bytes.occurrences x y 0 x.size).take (x.size + 1)
/-- the pieces of an octet text between the places of another -/
def splitB (x y : Array UInt8) : List (Array UInt8) := if (placesB x y).isEmpty = true then [x] else Builtin.Bytes.between x y.size (placesB x y)
theorem bytesLike_eq {id : String} {b : Array UInt8} {t : Tok} : Builtin.Bytes.bytesLike id (.bytes b t) = pure b := by
  unfold Builtin.Bytes.bytesLike
  rw [KBy.buffer_eq]
  rfl
section
variable {M : Model} {A : Around} {E : Value → Shared → Prop} {s : Shared}
theorem wp_mapB : ∀ (xs : List (Array UInt8)) (s : Shared) (Q : List Value → Shared → Prop), (∀ x ∈ xs, x.size ≤ 16777216) → (∀ vs k, Are Value.bytes vs xs → Q vs { s with toks := k }) → wpAny M A (xs.mapM mkBytes) Q E s
  | [], s, Q, _, h => by rw [List.mapM_nil]; exact wpAny_pure (h [] s.toks .nil)
  | x :: r, s, Q, hx, h => by
    rw [List.mapM_cons]
    refine wpAny_bind (wpAny_mkBytes (wpAny_bind (wp_mapB r _ _ (fun y hy => hx y (List.mem_cons_of_mem _ hy)) fun vs k a => wpAny_pure ?_)) (by rw [sizeLine_eq]; exact hx x (List.mem_cons_self ..)))
    exact h _ k (.cons x _ a)
theorem wp_bsplit {x y : Array UInt8} {t u : Tok} {Q : Fin → Shared → Prop} (hy : y.isEmpty = false) (hz : ∀ z ∈ splitB x y, z.size ≤ 16777216) (hn : (splitB x y).length ≤ 16777216)
    (h : ∀ vs k, Are Value.bytes vs (splitB x y) → Q (.done (.ret (.ref s.heap.objs.size))) { s with heap := s.heap.push { cls := .type "list", data := .seq vs.toArray }, toks := k }) :
    wpAny M A (Builtin.«bytes.split» ⟨[.bytes x t, .bytes y u], []⟩) Q E s := by
  show wpAny M A (Builtin.Bytes.bytesLike _ (.bytes y u) >>= fun sep => _) _ E s
  refine wpAny_bind (wpAny_of_eq bytesLike_eq ?_)
  show wpAny M A (if y.isEmpty = true then _ else _) _ E s
  rw [if_neg (by rw [hy]; exact Bool.false_ne_true)]
  show wpAny M A (if (placesB x y).isEmpty = true then _ else _) _ E s
  unfold splitB at hz hn h
  by_cases hp : (placesB x y).isEmpty = true
  · rw [if_pos hp] at hz hn h ⊢
    refine wpAny_bind (wpAny_rule ?_)
    refine wpAny_bind (wpAny_bind (wpAny_typeOf (typeIs_bytes s x t) ?_))
    refine wpAny_pure ?_
    exact wpAny_bind (wpAny_newList (wpAny_pure (h [.bytes x t] s.toks (.cons x t .nil))) (by rw [sizeLine_eq]; exact Nat.le_of_ble_eq_true rfl))
  · rw [if_neg hp] at hz hn h ⊢
    show wpAny M A (List.mapM mkBytes (Builtin.Bytes.between x y.size (placesB x y)) >>= fun vs => newList vs >>= fun r => ret r) Q E s
    refine wpAny_bind (wp_mapB _ _ _ hz fun vs k a => ?_)
    exact wpAny_bind (wpAny_newList (wpAny_pure (h vs k a)) (by rw [a.length, sizeLine_eq]; exact hn))
end
section
variable {prog : Program} {w : World} {A : Around} {E : Value → Shared → Prop} {s : Shared} {h₀ : Heap} {L D : Addr} {m : Str → Option Value} {news : List (Addr × Obj)} {x y : Array UInt8} {t u : Tok} {Q : Value → Shared → Prop}
theorem split_b (hF : Fr h₀ L s.heap m) (hN : News h₀ L s.heap news) (hy : y.isEmpty = false) (hz : ∀ z ∈ splitB x y, z.size ≤ 16777216) (hn : (splitB x y).length ≤ 16777216)
    (h : ∀ D vs h' k, Are Value.bytes vs (splitB x y) → Fr h₀ L h' m → News h₀ L h' ((D, listOf vs.toArray 0) :: news) → (∀ p ∈ news, p.1 < D) → Q (.ref D) { s with heap := h', toks := k }) :
    wpAny (model prog w) A (call (.builtin "bytes.split") [.bytes x t, .bytes y u]) Q E s :=
  call_meets slotB_split (typeIs_bytes _ _ _) entryB_split (argsB_split _ _)
    (S := fun _ R s => ∀ vs k, Are Value.bytes vs (splitB x y) → R (.ok (.ret (.ref s.heap.objs.size))) { s with heap := s.heap.push { cls := .type "list", data := .seq vs.toArray }, toks := k })
    (fun _ _ _ _ _ hS => wp_bsplit hy hz hn hS)
    (fun vs k a => h _ vs _ k a (Fr.pushS hF _) (News.push hF hN _) fun p hp => Heap.lt_size (hN p hp).1)
end
end Mine
end
section
open PySem PySem.W PyProof.Rows PySem.Calls
set_option maxRecDepth 100000
namespace Mine
theorem takeB_eq {id : String} {b : Array UInt8} {t : Tok} : Builtin.Bytes.takeBufferQuiet? id (.bytes b t) 0 = pure (some (b, none)) := by
  unfold Builtin.Bytes.takeBufferQuiet? Builtin.Bytes.takeBuffer?
  rw [KBy.special_eq KBy.look_buffer, KBy.own_buffer, show ((0 : Int) == Builtin.Bytes.fullReadOnly) = false from by decide +kernel, KBy.buffer_eq]
  kernel_rfl
theorem holding_pure {α : Type} {vs : List Value} {a : α} : holding vs (pure a : Sem α) = pure a := by
  unfold holding
  split <;> rfl
theorem holding_free {α : Type} {vs : List Value} {m : Sem α} (h : ∀ v ∈ vs, v.onHeap = false) : holding vs m = m := by
  unfold holding
  have e : ∀ p : Value → Bool, (∀ v, v.onHeap = false → p v = false) → vs.filter p = [] := fun p hp =>
    List.filter_eq_nil_iff.mpr fun v hv => by rw [hp v (h v hv)]; exact Bool.false_ne_true
  rw [e _ fun v hv => by cases v <;> first | rfl | cases hv]
/-- what bytes.join has taken: octets, nothing to give back -/
def TakenB (taken : List (Value × Option Value)) : Prop := ∀ p ∈ taken, ∃ b t, p = (Value.bytes b t, none)
theorem TakenB.flat {taken : List (Value × Option Value)} (h : TakenB taken) : ∀ v ∈ taken.flatMap (fun x => match x with | (y, u) => y :: u.toList), v.onHeap = false := by
  intro v hv
  obtain ⟨p, hp, hv⟩ := List.mem_flatMap.mp hv
  obtain ⟨b, t, rfl⟩ := h p hp
  have : v = .bytes b t := by simpa using hv
  rw [this]; rfl
theorem TakenB.any {taken : List (Value × Option Value)} (h : TakenB taken) : (taken.any fun x => x.fst.onHeap) = false := by
  rw [List.any_eq_false]
  intro p hp
  obtain ⟨b, t, rfl⟩ := h p hp
  exact Bool.false_ne_true
section
variable {M : Model} {A : Around} {E : Value → Shared → Prop} {s : Shared}
theorem wp_letGoB {Q : Unit → Shared → Prop} {keep : List Value} (hk : ∀ v ∈ keep, v.onHeap = false) : ∀ {taken : List (Value × Option Value)}, TakenB taken → Q () s → wpAny M A (Builtin.Bytes.joinLetGo taken keep) Q E s
  | [], _, h => wpAny_pure h
  | p :: rest, ht, h => by
    obtain ⟨b, t, rfl⟩ := ht p (.head _)
    have hr : TakenB rest := fun q hq => ht q (.tail _ hq)
    show wpAny M A (letGo [.bytes b t] (keep ++ rest.flatMap (fun x => match x with | (y, u) => y :: u.toList)) >>= fun _ => Builtin.Bytes.joinLetGo rest keep) Q E s
    refine wpAny_bind ?_
    show wpAny M A (holding ([] ++ (keep ++ rest.flatMap (fun x => match x with | (y, u) => y :: u.toList))) point >>= fun _ => pure ()) _ E s
    rw [holding_free (by
      intro v hv
      rcases List.mem_append.mp hv with hv | hv
      · cases hv
      · rcases List.mem_append.mp hv with hv | hv
        · exact hk v hv
        · exact hr.flat v hv)]
    exact wpAny_bind (wpAny_point (wpAny_pure (wp_letGoB hk hr h)))
theorem loop_joinB {f : Nat → Array (Array UInt8) × List (Value × Option Value) → Sem (ForInStep (Array (Array UInt8) × List (Value × Option Value)))} {vs : List Value} {xs : List (Array UInt8)} (a : Are Value.bytes vs xs)
    {Q : Array (Array UInt8) × List (Value × Option Value) → Shared → Prop}
    (hf : ∀ i b t parts taken (Q : ForInStep (Array (Array UInt8) × List (Value × Option Value)) → Shared → Prop), vs[i]? = some (.bytes b t) → TakenB taken → Q (.yield (parts.push b, taken ++ [(.bytes b t, none)])) s → wpAny M A (f i (parts, taken)) Q E s)
    (h : ∀ taken, TakenB taken → Q (xs.toArray, taken) s) : wpAny M A (forIn ([0:vs.toArray.size] : Std.Legacy.Range) (#[], []) f) Q E s := by
  rw [Std.Legacy.Range.forIn_eq_forIn_range']
  have hsz : ([0:vs.toArray.size] : Std.Legacy.Range).size = vs.length := by simp [Std.Legacy.Range.size]
  show wpAny M A (forIn (List.range' 0 ([0:vs.toArray.size] : Std.Legacy.Range).size 1) (#[], []) f) Q E s
  rw [hsz]
  have key : ∀ (k i : Nat) (parts : Array (Array UInt8)) (taken : List (Value × Option Value)), i + k = vs.length → parts = (xs.take i).toArray → TakenB taken → wpAny M A (forIn (List.range' i k 1) (parts, taken) f) Q E s := by
    intro k
    induction k with
    | zero =>
      intro i parts taken hi hp ht
      rw [List.range'_zero, List.forIn_nil]
      refine wpAny_pure ?_
      have : xs.take i = xs := List.take_of_length_le (by rw [← a.length]; omega)
      rw [hp, this]
      exact h taken ht
    | succ k ih =>
      intro i parts taken hi hp ht
      rw [List.range'_succ, List.forIn_cons]
      have hlt : i < vs.length := by omega
      obtain ⟨y, t, hx, hv⟩ := a.get i vs[i] (List.getElem?_eq_getElem hlt)
      refine wpAny_bind (hf i y t parts taken _ (by rw [List.getElem?_eq_getElem hlt, hv]) ht ?_)
      refine ih (i + 1) _ _ (by omega) ?_ ?_
      · rw [hp, List.take_add_one, hx]; simp
      · intro p hp
        rcases List.mem_append.mp hp with hp | hp
        · exact ht p hp
        · exact ⟨y, t, List.mem_singleton.mp hp⟩
  exact key vs.length 0 #[] [] (by omega) (by simp) (fun p hp => nomatch hp)
theorem joined_one (x y : Array UInt8) : Builtin.Bytes.joined x [y] = y := by
  show (if 0 > 0 then #[] ++ x else #[]) ++ y = y
  simp
theorem wp_bjoin {x : Array UInt8} {t : Tok} {D : Addr} {vs : List Value} {n : Nat} {xs : List (Array UInt8)} {Q : Fin → Shared → Prop} (hD : s.heap.get? D = some (listOf vs.toArray n)) (a : Are Value.bytes vs xs)
    (hz : (xs.toArray).foldl (fun k (z : Array UInt8) => k + z.size) (x.size * (xs.toArray.size - 1)) ≤ 16777216) (hj : (Builtin.Bytes.joined x xs).size ≤ 16777216)
    (h : ∀ t k, Q (.done (.ret (.bytes (Builtin.Bytes.joined x xs) t))) { s with toks := k }) :
    wpAny M A (Builtin.«bytes.join» ⟨[.bytes x t, .ref D], []⟩) Q E s := by
  have hT : s.TypeIs (.ref D) "list" := ⟨_, hD, rfl⟩
  show wpAny M A (Builtin.Bytes.joinItems (.ref D) >>= fun seq => _) Q E s
  refine wpAny_bind ?_
  show wpAny M A (typeOf (.ref D) >>= fun seq => _) _ E s
  refine wpAny_bind (wpAny_typeOf hT ?_)
  refine wpAny_pure ?_
  show wpAny M A (load D >>= fun _ => _) Q E s
  refine wpAny_bind (wpAny_load hD ?_)
  have hf : ∀ (vs' : List Value), vs' = vs → ∀ (f : Nat → Array (Array UInt8) × List (Value × Option Value) → Sem (ForInStep (Array (Array UInt8) × List (Value × Option Value)))) (g : Array (Array UInt8) × List (Value × Option Value) → Sem Fin),
      (∀ i b t parts taken (Q : ForInStep (Array (Array UInt8) × List (Value × Option Value)) → Shared → Prop), vs[i]? = some (.bytes b t) → TakenB taken → Q (.yield (parts.push b, taken ++ [(.bytes b t, none)])) s → wpAny M A (f i (parts, taken)) Q E s) →
      (∀ taken, TakenB taken → wpAny M A (g (xs.toArray, taken)) Q E s) →
      wpAny M A (forIn ([0:vs'.toArray.size] : Std.Legacy.Range) (#[], []) f >>= g) Q E s := by
    intro vs' e f g h1 h2
    subst e
    exact wpAny_bind (loop_joinB a h1 fun taken ht => h2 taken ht)
  cases a with
  | nil =>
    refine hf [] rfl _ _ ?_ ?_
    · intro i b t parts taken Q hv
      simp at hv
    · intro taken ht
      refine wpAny_bind (wpAny_of_eq (a := x) rfl ?_)
      dsimp only
      rw [if_neg (by rw [KBy.tooLong_not hz]; exact Bool.false_ne_true)]
      refine wpAny_bind (wpAny_mkBytes ?_ (by rw [sizeLine_eq]; exact hj))
      refine wpAny_bind ?_
      rw [holding_free (by
        intro v hv
        rcases List.mem_cons.mp hv with rfl | hv
        · rfl
        · exact ht.flat v hv)]
      refine wpAny_point ?_
      refine wpAny_bind (wp_letGoB (by intro v hv; rw [List.mem_singleton.mp hv]; rfl) ht ?_)
      exact wpAny_pure (h _ _)
  | cons y t' r =>
    cases r with
    | nil =>
      show wpAny M A (typeOf (.bytes y t') >>= fun _ => _) Q E s
      refine wpAny_bind (wpAny_typeOf (typeIs_bytes s y t') ?_)
      show wpAny M A (rule _ >>= fun _ => ret (.bytes y t')) Q E s
      refine wpAny_bind (wpAny_rule ?_)
      rw [joined_one] at h
      exact wpAny_pure (h _ s.toks)
    | cons y' t'' r =>
      rename_i vs ys
      refine hf (Value.bytes y t' :: Value.bytes y' t'' :: vs) rfl _ _ ?_ ?_
      · intro i b t parts taken Q hv ht hq
        show wpAny M A (load D >>= fun _ => _) Q E s
        refine wpAny_bind (wpAny_load hD ?_)
        have hx : (Value.bytes y t' :: Value.bytes y' t'' :: vs).toArray.getD i Value.none = .bytes b t := by
          rw [Array.getD_eq_getD_getElem?, List.getElem?_toArray, hv]; rfl
        show wpAny M A (if (Builtin.Bytes.Kind.bytes == Builtin.Bytes.Kind.bytearray || taken.any fun x => x.fst.onHeap) = true then _ else _) Q E s
        rw [if_neg (by rw [ht.any]; decide)]
        show wpAny M A (holding ((Value.bytes y t' :: Value.bytes y' t'' :: vs).toArray.getD i Value.none :: _) (Builtin.Bytes.takeBufferQuiet? _ ((Value.bytes y t' :: Value.bytes y' t'' :: vs).toArray.getD i Value.none) 0) >>= _) Q E s
        rw [hx, takeB_eq, holding_pure, pure_bind]
        show wpAny M A (load D >>= fun _ => _) Q E s
        refine wpAny_bind (wpAny_load hD ?_)
        show wpAny M A (if ((Value.bytes y t' :: Value.bytes y' t'' :: vs).toArray.size != (Value.bytes y t' :: Value.bytes y' t'' :: vs).toArray.size) = true then _ else _) Q E s
        rw [if_neg (by simp)]
        exact wpAny_pure hq
      · intro taken ht
        show wpAny M A (if Builtin.Bytes.tooLong _ = true then _ else _) Q E s
        rw [if_neg (by rw [KBy.tooLong_not hz]; exact Bool.false_ne_true)]
        refine wpAny_bind (wpAny_mkBytes ?_ (by rw [sizeLine_eq]; exact hj))
        refine wpAny_bind ?_
        rw [holding_free (by
          intro v hv
          rcases List.mem_cons.mp hv with rfl | hv
          · rfl
          · exact ht.flat v hv)]
        refine wpAny_point ?_
        refine wpAny_bind (wp_letGoB (by intro v hv; rw [List.mem_singleton.mp hv]; rfl) ht ?_)
        exact wpAny_pure (h _ _)
end
end Mine
end
section
open PySem PySem.W PyProof.Rows PySem.Calls
set_option maxRecDepth 100000
namespace Mine
section
variable {α : Type} [DecidableEq α]
/-- a list cut at each c -/
def splitL (c : α) : List α → List (List α)
  | [] => [[]]
  | a :: r => if a = c then [] :: splitL c r else
    match splitL c r with
    | [] => [[a]]
    | p :: q => (a :: p) :: q
omit [DecidableEq α] in
def joinL (sep : List α) : List (List α) → List α
  | [] => []
  | [x] => x
  | x :: y :: r => x ++ sep ++ joinL sep (y :: r)
theorem splitL_ne (c : α) : ∀ l : List α, splitL c l ≠ []
  | [] => by simp [splitL]
  | a :: r => by
    unfold splitL
    split
    · simp
    · split <;> simp
/-- pre put ahead of the first piece -/
def onHead (pre : List α) : List (List α) → List (List α)
  | [] => [pre]
  | p :: q => (pre ++ p) :: q
theorem splitL_cons_ne {c a : α} (h : a ≠ c) (r : List α) : splitL c (a :: r) = onHead [a] (splitL c r) := by
  rw [splitL, if_neg h]
  cases e : splitL c r <;> rfl
theorem splitL_cons_eq (c : α) (r : List α) : splitL c (c :: r) = [] :: splitL c r := by rw [splitL, if_pos rfl]
omit [DecidableEq α] in
theorem onHead_onHead (p q : List α) (l : List (List α)) : onHead p (onHead q l) = onHead (p ++ q) l := by
  cases l <;> simp [onHead]
theorem onHead_nil (c : α) (l : List α) : onHead [] (splitL c l) = splitL c l := by
  have := splitL_ne c l
  cases e : splitL c l with
  | nil => exact absurd e this
  | cons p q => simp [onHead]
theorem wt_splitL (c : α) : ∀ l : List α, wt List.length (splitL c l) = l.length + 1
  | [] => by simp [splitL, wt]
  | a :: r => by
    have ih := wt_splitL c r
    by_cases h : a = c
    · subst h; rw [splitL_cons_eq, wt_cons, ih]; simp; omega
    · rw [splitL_cons_ne h]
      have hn := splitL_ne c r
      cases e : splitL c r with
      | nil => exact absurd e hn
      | cons p q =>
        rw [e, wt_cons] at ih
        simp only [onHead, wt_cons, List.length_append, List.length_cons, List.length_nil]
        omega
end
/-- the places of c in l, counted from k -/
def idxB (c : UInt8) : Nat → List UInt8 → List Nat
  | _, [] => []
  | k, a :: r => if a = c then k :: idxB c (k + 1) r else idxB c (k + 1) r
theorem idxB_len (c : UInt8) : ∀ (l : List UInt8) (k : Nat), (idxB c k l).length ≤ l.length
  | [], _ => by simp [idxB]
  | a :: r, k => by
    have := idxB_len c r (k + 1)
    unfold idxB
    split <;> simp <;> omega
theorem ext_one {b : Array UInt8} {pre r : List UInt8} {a : UInt8} (hb : b.toList = pre ++ a :: r) : b.extract pre.length (pre.length + 1) = #[a] := by
  apply Array.toList_inj.mp
  rw [Array.toList_extract, hb]
  simp [List.extract]
theorem occB_fold (b : Array UInt8) (c : UInt8) : ∀ (l pre : List UInt8) (acc : List Nat × Nat), b.toList = pre ++ l → acc.2 ≤ pre.length →
    ((List.range' pre.length l.length).foldl (fun (acc : List Nat × Nat) (i : Nat) => if i ≥ acc.2 && b.extract i (i + (#[c] : Array UInt8).size) == #[c] then (i :: acc.1, i + (#[c] : Array UInt8).size) else acc) acc).1 = (idxB c pre.length l).reverse ++ acc.1
  | [], pre, acc, _, _ => by simp [idxB]
  | a :: r, pre, acc, hb, ha => by
    have hx := ext_one hb
    have hb' : b.toList = (pre ++ [a]) ++ r := by rw [hb]; simp
    have hl : (pre ++ [a]).length = pre.length + 1 := by simp
    rw [List.length_cons, List.range'_succ, List.foldl_cons]
    have hs : (#[c] : Array UInt8).size = 1 := rfl
    rw [hs, hx]
    by_cases h : a = c
    · subst h
      rw [if_pos (by simp [ha])]
      have ih := occB_fold b a r (pre ++ [a]) (pre.length :: acc.1, pre.length + 1) hb' (by rw [hl]; exact Nat.le_refl _)
      rw [hl] at ih
      rw [hs] at ih
      rw [ih, idxB, if_pos rfl]
      simp
    · rw [if_neg (by simp [h])]
      have ih := occB_fold b c r (pre ++ [a]) acc hb' (by rw [hl]; omega)
      rw [hl] at ih
      rw [hs] at ih
      rw [ih, idxB, if_neg h]
theorem places_eq (b : Array UInt8) (c : UInt8) : placesB b #[c] = idxB c 0 b.toList := by
  have h := occB_fold b c b.toList [] ([], 0) rfl (Nat.zero_le _)
  have e : Builtin.Bytes.occurrences b #[c] 0 b.size = idxB c 0 b.toList := by
    unfold Builtin.Bytes.occurrences
    have hr : (List.range (b.size + 1 - (0 + (#[c] : Array UInt8).size))).map (· + 0) = List.range' ([] : List UInt8).length b.toList.length := by
      simp [List.range_eq_range']
    rw [hr]
    have h' := congrArg List.reverse h
    simpa using h'
  unfold placesB
  rw [e]
  exact List.take_of_length_le (by have := idxB_len c b.toList 0; simp at this; omega)
theorem betweenB_fold (b : Array UInt8) (c : UInt8) : ∀ (l pre : List UInt8) (parts : Array (Array UInt8)) (last : Nat), b.toList = pre ++ l → last ≤ pre.length →
    (let r := (idxB c pre.length l).foldl (fun (x : Array (Array UInt8) × Nat) p => (x.1.push (b.extract x.2 p), p + 1)) (parts, last)
     (r.1.push (b.extract r.2 b.size)).toList.map Array.toList) = parts.toList.map Array.toList ++ onHead (pre.drop last) (splitL c l)
  | [], pre, parts, last, hb, hl => by
    have hb' : b.toList = pre := by simpa using hb
    simp only [idxB, List.foldl_nil, splitL, onHead, Array.toList_push, List.map_append, List.map_cons, List.map_nil, List.append_nil]
    have : (b.extract last b.size).toList = pre.drop last := by
      rw [Array.toList_extract, hb']
      simp only [List.extract]
      rw [List.take_of_length_le]
      have : b.size = pre.length := by rw [← hb']; simp
      simp; omega
    rw [this]
  | a :: r, pre, parts, last, hb, hl => by
    have hb' : b.toList = (pre ++ [a]) ++ r := by rw [hb]; simp
    have hpl : (pre ++ [a]).length = pre.length + 1 := by simp
    by_cases h : a = c
    · subst h
      have ih := betweenB_fold b a r (pre ++ [a]) (parts.push (b.extract last pre.length)) (pre.length + 1) hb' (by rw [hpl]; exact Nat.le_refl _)
      rw [hpl] at ih
      rw [idxB, if_pos rfl, List.foldl_cons]
      refine ih.trans ?_
      have e1 : (pre ++ [a]).drop (pre.length + 1) = [] := List.drop_of_length_le (by simp)
      have e2 : (b.extract last pre.length).toList = pre.drop last := by
        rw [Array.toList_extract, hb]
        simp only [List.extract]
        rw [List.drop_append_of_le_length hl, List.take_append_of_le_length (by simp), List.take_of_length_le (by simp)]
      rw [e1, onHead_nil, splitL_cons_eq, Array.toList_push, List.map_append, List.map_cons, List.map_nil, e2]
      simp [onHead]
    · have ih := betweenB_fold b c r (pre ++ [a]) parts last hb' (by rw [hpl]; omega)
      rw [hpl] at ih
      rw [idxB, if_neg h]
      refine ih.trans ?_
      rw [splitL_cons_ne h, onHead_onHead, List.drop_append_of_le_length hl]
theorem splitB_eq (b : Array UInt8) (c : UInt8) : (splitB b #[c]).map Array.toList = splitL c b.toList := by
  have h := betweenB_fold b c b.toList [] #[] 0 rfl (Nat.zero_le _)
  unfold splitB
  rw [places_eq]
  split
  · rename_i he
    have he' : idxB c 0 b.toList = [] := List.isEmpty_iff.mp he
    rw [List.length_nil, he'] at h
    simp only [List.foldl_nil] at h
    have : (b.extract 0 b.size).toList = b.toList := by simp
    rw [Array.toList_push, List.map_append, List.map_cons, List.map_nil, this] at h
    simp [onHead_nil] at h
    rw [List.map_cons, List.map_nil]
    exact h
  · rw [List.length_nil] at h
    simp only [List.drop_nil, onHead_nil] at h
    refine Eq.trans ?_ (h.trans (by simp))
    rfl
end Mine
end
section
open PySem PySem.W PyProof.Rows PySem.Calls
set_option maxRecDepth 100000
namespace Mine
theorem joinL_cons {α : Type} (sep : List α) : ∀ (r : List (List α)) (x : List α), joinL sep (x :: r) = x ++ r.flatMap (sep ++ ·)
  | [], x => by simp [joinL]
  | y :: r, x => by
    rw [joinL, joinL_cons sep r y]
    simp
theorem len_joinL {α : Type} (c : α) : ∀ (xs : List (List α)), (joinL [c] xs).length ≤ wt List.length xs
  | [] => by simp [joinL]
  | [x] => by simp [joinL, wt_cons, wt_nil]
  | x :: y :: r => by
    have ih := len_joinL c (y :: r)
    rw [joinL, wt_cons]
    simp only [List.length_append, List.length_cons, List.length_nil]
    omega
theorem joinedB_fold (sep : Array UInt8) : ∀ (r : List (Array UInt8)) (k : Nat) (out : Array UInt8), 1 ≤ k →
    ((r.zipIdx k).foldl (fun out (x : Array UInt8 × Nat) => (if x.2 > 0 then out ++ sep else out) ++ x.1) out).toList = out.toList ++ (r.map Array.toList).flatMap (sep.toList ++ ·)
  | [], k, out, _ => by simp
  | x :: r, k, out, hk => by
    rw [List.zipIdx_cons, List.foldl_cons, joinedB_fold sep r (k + 1) _ (by omega)]
    rw [if_pos (by exact hk)]
    simp
theorem joined_eq (sep : Array UInt8) (xs : List (Array UInt8)) : (Builtin.Bytes.joined sep xs).toList = joinL sep.toList (xs.map Array.toList) := by
  cases xs with
  | nil => rfl
  | cons x r =>
    rw [List.map_cons, joinL_cons]
    have h := joinedB_fold sep r 1 (#[] ++ x) (Nat.le_refl _)
    refine Eq.trans ?_ (h.trans (by simp))
    rfl
theorem wt_map {α β : Type} (f : α → β) (l1 : α → Nat) (l2 : β → Nat) (h : ∀ x, l2 (f x) = l1 x) (xs : List α) : wt l2 (xs.map f) = wt l1 xs := by
  unfold wt
  rw [List.map_map, List.length_map, show (l2 ∘ f) = l1 from funext h]
theorem wt_arr (xs : List (Array UInt8)) : wt List.length (xs.map Array.toList) = wt Array.size xs := wt_map _ _ _ (fun x => by simp) xs
theorem wt_splitB (b : Array UInt8) (c : UInt8) : wt Array.size (splitB b #[c]) = b.size + 1 := by
  rw [← wt_arr, splitB_eq, wt_splitL]; simp
theorem joined_size (c : UInt8) (xs : List (Array UInt8)) : (Builtin.Bytes.joined #[c] xs).size ≤ wt Array.size xs := by
  have h := len_joinL c (xs.map Array.toList)
  rw [wt_arr] at h
  have e := joined_eq #[c] xs
  have e' := congrArg List.length e
  simp only [Array.length_toList] at e'
  rw [e']
  exact h
theorem fold_sizes : ∀ (xs : List (Array UInt8)) (k : Nat), xs.foldl (fun k (z : Array UInt8) => k + z.size) k = k + (xs.map Array.size).sum
  | [], k => by simp
  | x :: r, k => by
    rw [List.foldl_cons, fold_sizes r]; simp; omega
section
variable {prog : Program} {w : World} {A : Around} {E : Value → Shared → Prop} {s : Shared} {h₀ : Heap} {L D : Addr} {m : Str → Option Value} {news : List (Addr × Obj)} {t : Tok} {Q : Value → Shared → Prop} {vs : List Value} {n : Nat}
theorem join_b {c : UInt8} {xs : List (Array UInt8)} (N : News h₀ L s.heap news) (hm : (D, listOf vs.toArray n) ∈ news) (a : Are Value.bytes vs xs) (hw : wt Array.size xs ≤ 10000)
    (h : ∀ t' k, Q (.bytes (Builtin.Bytes.joined #[c] xs) t') { s with toks := k }) : wpAny (model prog w) A (call (.builtin "bytes.join") [.bytes #[c] t, .ref D]) Q E s :=
  call_meets slotB_join (typeIs_bytes _ _ _) entryB_join (argsB_join _ _)
    (S := fun _ R s => s.heap.get? D = some (listOf vs.toArray n) ∧ ∀ t' k, R (.ok (.ret (.bytes (Builtin.Bytes.joined #[c] xs) t'))) { s with toks := k })
    (fun _ _ _ _ _ hS => wp_bjoin hS.1 a (by
      rw [List.foldl_toArray, fold_sizes]
      have : (#[c] : Array UInt8).size = 1 := rfl
      rw [this]
      unfold wt at hw
      simp only [List.size_toArray]
      omega) (Nat.le_trans (joined_size c xs) (by omega)) hS.2)
    ⟨(N _ hm).1, h⟩
theorem methodB {M : Model} {b : Array UInt8} {pl : Sem Bool} {Q : Value × List Value → Shared → Prop} (h : Q (.builtin "bytes.split", [.bytes b t]) s) : wpAny M A (getMethod (.bytes b t) "split" pl) Q E s := by
  with_reducible exact KBd.method_of (.bytes b t) (typeIs_bytes _ _ _) slotB_split typeB_split KBd.noRef h
theorem methodBj {M : Model} {b : Array UInt8} {pl : Sem Bool} {Q : Value × List Value → Shared → Prop} (h : Q (.builtin "bytes.join", [.bytes b t]) s) : wpAny M A (getMethod (.bytes b t) "join" pl) Q E s := by
  with_reducible exact KBd.method_of (.bytes b t) (typeIs_bytes _ _ _) slotB_join typeB_join KBd.noRef h
end
end Mine
end
section
open PySem PySem.W PyProof.Rows PySem.Calls
set_option maxRecDepth 100000
namespace Mine
theorem restB_len (x : Array UInt8) : (restB x).size ≤ x.size := by
  unfold restB
  split
  · exact Nat.le_refl _
  · split
    · exact KBc.size_picked_le x (some 1) none
    · exact KBc.size_picked_le x (some 2) none
theorem rootB_len (x : Array UInt8) : (rootB x).size ≤ x.size + 1 := by
  unfold rootB
  split
  · simp
  · split
    · simp
    · have := KBc.size_picked_le x none (some 2); omega
def npB (x : Array UInt8) : List (Array UInt8) := (splitB (restB x) #[47]).foldl (stepC #[] #[46] #[46, 46] ((rootB x).size != 0)) []
theorem np_wtB' {x : Array UInt8} (hx : x.size ≤ 100) (abs : Bool) (i : Nat) : wt Array.size (((splitB (restB x) #[47]).take i).foldl (stepC #[] #[46] #[46, 46] abs) []) ≤ 101 := by
  have h1 := wt_fold Array.size #[] #[46] #[46, 46] abs ((splitB (restB x) #[47]).take i) []
  have h2 := wt_take Array.size (splitB (restB x) #[47]) i
  have h3 := wt_splitB (restB x) 47
  have h4 := restB_len x
  rw [wt_nil] at h1
  omega
theorem np_hbB {x : Array UInt8} (hx : x.size ≤ 100) (abs : Bool) (i : Nat) : (((splitB (restB x) #[47]).take i).foldl (stepC #[] #[46] #[46, 46] abs) []).length ≤ 200 := by
  have h1 := np_wtB' hx abs i
  have h2 := len_wt Array.size (((splitB (restB x) #[47]).take i).foldl (stepC #[] #[46] #[46, 46] abs) [])
  omega
theorem np_wtB (x : Array UInt8) (hx : x.size ≤ 100) : wt Array.size (npB x) ≤ 101 := by
  have h := np_wtB' hx ((rootB x).size != 0) (splitB (restB x) #[47]).length
  rw [List.take_length] at h
  exact h
def glueB (x : Array UInt8) : Array UInt8 := rootB x ++ Builtin.Bytes.joined #[47] (npB x)
def normB (x : Array UInt8) : Array UInt8 := if x.size = 0 then #[46] else if (glueB x).size = 0 then #[46] else glueB x
section
variable {prog : Program} {w : World} {A : Around} {E : Value → Shared → Prop} {s : Shared} {env : Env} {h₀ : Heap} {x : Str} {body : List Stmt} {Q : Flow → Shared → Prop}
theorem loop_npB {x₀ : Array UInt8} {l D : Addr} {vs : List Value} {nn n₀ : Nat} {m₀ : Str → Option Value} {T : Addr × Obj} {news : List (Addr × Obj)}
    (hh : A.handled = none) (hc : Are Value.bytes vs (splitB (restB x₀) #[47])) (F : Fr h₀ env.locals s.heap m₀) (N : News h₀ env.locals s.heap ((D, listOf #[] n₀) :: (l, listOf vs.toArray nn) :: T :: news))
    (hD : AllLt D ((l, listOf vs.toArray nn) :: T :: news)) (hl : ∀ p ∈ T :: news, p.1 < l) (hx : x₀.size ≤ 100)
    (turn : ∀ (c : Array UInt8) t us n acc h tk rest, c.size ≤ 100 → (rootB x₀).size ≤ 101 → Are Value.bytes us acc → us.length ≤ 200 → (∀ p ∈ rest, p.1 ≠ D) → Fr h₀ env.locals h (fun y => if y = x then some (Value.bytes c t) else m₀ y) → News h₀ env.locals h ((D, listOf us.toArray n) :: rest) →
      wpAny (model prog w) A (execs body env) (StPost Value.bytes h₀ env.locals D m₀ x rest (stepC #[] #[46] #[46, 46] ((rootB x₀).size != 0) acc c) { s with heap := h, toks := tk } Q) E { s with heap := h, toks := tk })
    (done : ∀ (u : Str → Option Value) us n h tk, (rootB x₀).size ≤ 101 → wt Array.size (npB x₀) ≤ 101 → Are Value.bytes us (npB x₀) → us.length ≤ 200 → Fr h₀ env.locals h (fun y => if y = x then u y else m₀ y) → News h₀ env.locals h ((D, listOf us.toArray n) :: news) → Q .next { s with heap := h, toks := tk }) :
    wpAny (model prog w) A (pyIter (.ref l)) (fun it s₂ => LoopAtV prog w A h₀ env x body Q E it s₂) E s :=
  loop_np _ hh hc F N hD hl (np_hbB hx _) (fun c t us n acc h tk rest hm => turn c t us n acc h tk rest (by
    have h1 := wt_mem Array.size hm
    have h2 := wt_splitB (restB x₀) 47
    have h3 := restB_len x₀
    omega) (by have := rootB_len x₀; omega)) fun u us n h tk => done u us n h tk (by have := rootB_len x₀; omega) (np_wtB x₀ hx)
end
theorem arr_of0 {c : Array UInt8} (h : (c.size : Int) = 0) : c = #[] := Array.eq_empty_of_size_eq_zero (by omega)
theorem arr_ne0 {c : Array UInt8} (h : (c.size : Int) ≠ 0) : c ≠ #[] := by
  intro e; rw [e] at h; exact h rfl
theorem arr_eq {c d : Array UInt8} (h : (c.toList == d.toList) = true) : c = d := Array.toList_inj.mp (eq_of_beq h)
theorem arr_ne {c d : Array UInt8} (h : (c.toList == d.toList) = false) : c ≠ d := fun e => by rw [e] at h; simp at h
theorem arr_bne {c d : Array UInt8} (h : (c.toList != d.toList) = true) : c ≠ d := fun e => by rw [e] at h; simp at h
theorem arr_bnf {c d : Array UInt8} (h : (c.toList != d.toList) = false) : c = d := Array.toList_inj.mp (by simpa using h)
theorem bneB0t {x : Array UInt8} (h : (x.size : Int) ≠ 0) : (x.size != 0) = true := bne_iff_ne.mpr (by omega)
theorem bneB0f {x : Array UInt8} (h : (x.size : Int) = 0) : (x.size != 0) = false := by
  have : x.size = 0 := by omega
  rw [this]; rfl
section
variable {prog : Program} {w : World} {A : Around} {E : Value → Shared → Prop} {s : Shared} {h₀ : Heap} {L D : Addr} {m : Str → Option Value} {rest news : List (Addr × Obj)} {n : Nat} {Q : Value → Shared → Prop}
theorem truthyB {c : Array UInt8} {t : Tok} {Q : Bool → Shared → Prop} (hz : c.size ≤ 1000) (h : ∀ k, Q ((c.size : Int) != 0) { s with toks := k }) : wpAny (model prog w) A (truthy (.bytes c t)) Q E s :=
  truthy_bytes (by omega) (h _)
theorem split_rest {x : Array UInt8} {t u : Tok} (hF : Fr h₀ L s.heap m) (hN : News h₀ L s.heap news) (hx : x.size ≤ 100)
    (h : ∀ D vs h' k, Are Value.bytes vs (splitB (restB x) #[47]) → Fr h₀ L h' m → News h₀ L h' ((D, listOf vs.toArray 0) :: news) → (∀ p ∈ news, p.1 < D) → Q (.ref D) { s with heap := h', toks := k }) :
    wpAny (model prog w) A (call (.builtin "bytes.split") [.bytes (restB x) t, .bytes #[47] u]) Q E s := by
  have h2 := wt_splitB (restB x) 47
  have h3 := restB_len x
  refine split_b hF hN rfl ?_ ?_ h
  · intro z hz
    have := wt_mem Array.size hz
    omega
  · have := len_wt Array.size (splitB (restB x) #[47])
    omega
theorem join_npB {x : Array UInt8} {t : Tok} {vs : List Value} (N : News h₀ L s.heap ((D, listOf vs.toArray n) :: rest)) (a : Are Value.bytes vs (npB x)) (hw : wt Array.size (npB x) ≤ 101)
    (h : ∀ t' k, Q (.bytes (Builtin.Bytes.joined #[47] (npB x)) t') { s with toks := k }) : wpAny (model prog w) A (call (.builtin "bytes.join") [.bytes #[47] t, .ref D]) Q E s :=
  join_b N (.head _) a (by omega) h
theorem add_npB {x : Array UInt8} {t u : Tok} (hr : (rootB x).size ≤ 101) (hw : wt Array.size (npB x) ≤ 101) (h : ∀ t' k, (glueB x).size ≤ 300 → Q (.bytes (glueB x) t') { s with toks := k }) :
    wpAny (model prog w) A (binaryOp .Add (.bytes (rootB x) t) (.bytes (Builtin.Bytes.joined #[47] (npB x)) u)) Q E s := by
  have hl := joined_size 47 (npB x)
  refine KBy.add_bytes (by omega) fun t' k => h t' k ?_
  unfold glueB
  rw [Array.size_append]
  omega
end
theorem normB_0 {x : Array UInt8} (h : (x.size : Int) = 0) : normB x = #[46] := by
  unfold normB; rw [if_pos (by omega)]
theorem normB_1 {x : Array UInt8} (h : (x.size : Int) ≠ 0) (hg : ((glueB x).size : Int) = 0) : normB x = #[46] := by
  unfold normB; rw [if_neg (by omega), if_pos (by omega)]
theorem normB_2 {x : Array UInt8} (h : (x.size : Int) ≠ 0) (hg : ((glueB x).size : Int) ≠ 0) : normB x = glueB x := by
  unfold normB; rw [if_neg (by omega), if_neg (by omega)]
theorem end1b {h₀ : Heap} {L : Addr} {m : Str → Option Value} {news news' : List (Addr × Obj)} {s : Shared} {Q : Value → Shared → Prop} {a b : Array UInt8} {h : Heap} {tk : Nat} {t : Tok}
    (ret : ∀ (t : Tok) (h' : Heap) (tk' : Nat), Fr h₀ L h' m → News h₀ L h' news → Q (.bytes a t) { s with heap := h', toks := tk' }) (F : Fr h₀ L h m) (N : News h₀ L h news') (hs : ∀ p ∈ news, p ∈ news') (e : a = b) :
    Q (.bytes b t) { s with heap := h, toks := tk } := by
  subst e
  exact ret t h tk F fun p hp => N p (hs p hp)
end Mine
end
section
open PySem PySem.W PyProof.Rows
set_option maxRecDepth 100000
set_option pp.deepTerms false
set_option pp.proofs false
set_option pp.maxSteps 3000
namespace Mine
local macro_rules | `(tactic| k_room) => `(tactic| ktr_room)
local macro_rules | `(tactic| k_units) => `(tactic| ktr_units)
local macro_rules | `(tactic| walk_at "call builtin:issubclass") => `(tactic| (k_here; first
  | ((with_reducible show wpAny _ _ (call (Value.builtin "issubclass") [Value.type "str", Value.ref _]) _ _ _); (refine issub_str (by k_asm) (by k_mem) ?_))
  | ((with_reducible show wpAny _ _ (call (Value.builtin "issubclass") [Value.type "bytes", Value.ref _]) _ _ _); (refine issub_bytes (by k_asm) (by k_mem) ?_))))
local macro_rules | `(tactic| walk_at "call type:type") => `(tactic| (k_here; (with_reducible show wpAny _ _ (call (Value.type "type") [Value.bytes _ _]) _ _ _); (refine call_type_of (Tx := "bytes") rfl (by decide +kernel) ?_)))
local macro_rules | `(tactic| walk_at "subscriptTail") => `(tactic| (k_here; (with_reducible show wpAny _ _ (subscriptTail _ (Expr.Slice _ _ none _) (Value.bytes _ _) (Value.ref _)) _ _ _); (with_reducible rename Fr _ _ _ _ => F'); (with_reducible rename News _ _ _ _ => N'); (refine KBc.slice_K (s := ⟨_, _, _, _, _⟩) F' N' rfl (by constructor) (by constructor) (by rw [KBw.ints_length]; omega) ?_); intro _ _ _ _ _ _))
local macro_rules | `(tactic| walk_at "call ref") => `(tactic| (k_here; (with_reducible show wpAny _ _ (call (Value.ref 101) [Value.str _ _]) _ _ _); k_dflt (refine' Con.use (fspath_str _ _) ?k1 ?k2 ?k3 ?k4 ?k5 ?kK ?kp ?kd ?ku ?_; (case k1 => k_asm); (case k2 => k_asm); (case k3 => k_asm); (case k4 => k_asm); (case k5 => k_asm); (case kK => first | exact rfl | assumption); (case kp => trivial); (case kd => ktr_room); (case ku => ktr_units); k_whole; intro t9 h9 tk9 F9 N9; (try dsimp only); (try k_fold))))
local macro_rules | `(tactic| walk_at "call ref") => `(tactic| (k_here; (with_reducible show wpAny _ _ (call (Value.ref 101) [Value.bytes _ _]) _ _ _); k_dflt (refine' Con.use (fspath_bytes _ _) ?k1 ?k2 ?k3 ?k4 ?k5 ?kK ?kp ?kd ?ku ?_; (case k1 => k_asm); (case k2 => k_asm); (case k3 => k_asm); (case k4 => k_asm); (case k5 => k_asm); (case kK => first | exact rfl | assumption); (case kp => trivial); (case kd => ktr_room); (case ku => ktr_units); k_whole; intro t9 h9 tk9 F9 N9; (try dsimp only); (try k_fold))))
local macro_rules | `(tactic| walk_at "call ref") => `(tactic| (k_here; (with_reducible show wpAny _ _ (call (Value.ref 115) [Value.bytes _ _]) _ _ _); k_dflt (refine' Con3.use (splitroot_bytes _ _) ?k1 ?k2 ?k3 ?k4 ?k5 ?kK ?kp ?kd ?ku ?_; (case k1 => k_asm); (case k2 => k_asm); (case k3 => k_asm); (case k4 => k_asm); (case k5 => k_asm); (case kK => first | exact rfl | assumption); (case kp => first | assumption | omega); (case kd => ktr_room); (case ku => ktr_units); k_whole; intro D9 t9 u9 v9 h9 tk9 F9 N9 lt9; (try dsimp only); (try k_fold))))
local macro_rules | `(tactic| walk_at "getMethod bytes") => `(tactic| (k_here; first | ((with_reducible refine methodB ?_)) | (with_reducible refine methodBj ?_)))
local macro_rules | `(tactic| walk_at "truthy bytes") => `(tactic| (k_here; (with_reducible show wpAny _ _ (truthy (Value.bytes _ _)) _ _ _); (refine truthyB (Nat.le_trans (by with_reducible assumption) (Nat.le_of_ble_eq_true rfl)) ?_); intro k7))
local macro_rules | `(tactic| walk_at "call builtin:bytes.split") => `(tactic| (k_here; (with_reducible show wpAny _ _ (call (Value.builtin "bytes.split") [Value.bytes (restB _) _, Value.bytes _ _]) _ _ _); (with_reducible rename Fr _ _ _ _ => F'); (with_reducible rename News _ _ _ _ => N'); (refine split_rest (s := ⟨_, _, _, _, _⟩) F' N' (by with_reducible assumption) ?_); intro D9 vs9 h9 tk9 a9 F9 N9 lt8))
local macro_rules | `(tactic| walk_at "exec For Name Name cons nil") => `(tactic| (k_here; (rename Fr _ _ _ _ => lF'); (with_unfolding_all refine' For_invVF lF' ?k1 ?k2 ?_; (case k1 => exact rfl); (case k2 => exact rfl); k_whole)))
local macro_rules | `(tactic| walk_at "pyIter ref") => `(tactic| (k_here; (with_reducible rename Fr _ _ _ _ => F'); (with_reducible rename News _ _ _ _ => N'); (rename Are _ _ _ => ar'); (refine' loop_npB (s := ⟨_, _, _, _, _⟩) rfl ar' F' N' (by ktn_lt) (by assumption) (by with_reducible assumption) (fun c8 t8 us8 n8 acc8 h8 tk8 rest8 c9 c8r a8 z8 r8 F8 N8 => ?_) (fun u8 us8 n8 h8 tk8 c8r w8 a8 z8 F8 N8 => ?_)); (all_goals (try clear F' N' ar')); (all_goals (try k_fold))))
local macro_rules | `(tactic| walk_at "StPost") => `(tactic| (dsimp only [StPost]))
local macro_rules | `(tactic| walk_at "call builtin:list.append") => `(tactic| (k_here; (with_reducible show wpAny _ _ (call (Value.builtin _) [Value.ref _, Value.bytes _ _]) _ _ _); (refine st_appendH (mk := Value.bytes) (s := ⟨_, _, _, _, _⟩) (by k_asm) (by k_asm) (by assumption) (by assumption) (by assumption) ?_); intro h7 F7 N7 a7))
local macro_rules | `(tactic| walk_at "call builtin:list.pop") => `(tactic| (k_here; (with_reducible show wpAny _ _ (call (Value.builtin _) [Value.ref _]) _ _ _); (refine st_popH (mk := Value.bytes) (s := ⟨_, _, _, _, _⟩) (by k_asm) (by k_asm) (by assumption) (by assumption) (Are.ne_of (mk := Value.bytes) (by assumption) (by assumption)) (by assumption) ?_); intro v7 h7 F7 N7 a7))
local macro_rules | `(tactic| walk_at "subscriptTail") => `(tactic| (k_here; (with_reducible show wpAny _ _ (subscriptTail _ _ (Value.ref _) (Value.int _ _)) _ _ _); (refine st_lastH (mk := Value.bytes) (s := ⟨_, _, _, _, _⟩) (by k_asm) (by assumption) (by assumption) ?_); intro y7 t7 l7))
local macro_rules | `(tactic| walk_at "call builtin:bytes.join") => `(tactic| (k_here; (with_reducible show wpAny _ _ (call (Value.builtin _) [Value.bytes _ _, Value.ref _]) _ _ _); (refine join_npB (s := ⟨_, _, _, _, _⟩) (by k_asm) (by assumption) (by assumption) ?_); intro t7 k7))
local macro_rules | `(tactic| walk_at "binaryOp Add bytes bytes") => `(tactic| (k_here; (with_reducible show wpAny _ _ (binaryOp Operator.Add (Value.bytes (rootB _) _) (Value.bytes (Builtin.Bytes.joined _ (npB _)) _)) _ _ _); (refine add_npB (s := ⟨_, _, _, _, _⟩) (by with_reducible assumption) (by with_reducible assumption) ?_); intro t7 k7 l7))
local macro_rules | `(tactic| walk_at "StEnd") => `(tactic| ((with_reducible show StEnd _ _ _ _ _ _ _ _ _ _); (refine st_end (by k_asm) (by k_asm) ?_ (fun z h1 => if_neg h1)); first
  | exact ar_skip (by assumption) (.inl (arr_of0 (by assumption)))
  | exact ar_skip (by assumption) (.inr (arr_eq (by assumption)))
  | exact ar_push (by assumption) (arr_ne0 (by assumption)) (arr_ne (by assumption)) (arr_bne (by assumption))
  | exact ar_none (by assumption) (arr_ne0 (by assumption)) (arr_ne (by assumption)) (arr_bnf (by assumption)) (bneB0t (by assumption)) (by assumption)
  | exact ar_first (by assumption) (by assumption) (arr_ne0 (by assumption)) (arr_ne (by assumption)) (bneB0f (by assumption)) (by assumption)
  | exact ar_dd (by assumption) (arr_ne0 (by assumption)) (arr_ne (by assumption)) (by assumption) (arr_eq (by assumption))
  | exact ar_pop (by assumption) (arr_ne0 (by assumption)) (arr_ne (by assumption)) (arr_bnf (by assumption)) (by assumption) (arr_ne (by assumption))))

set_option maxHeartbeats 8000000 in
theorem normpath_bytes (x : Array UInt8) (t : Tok) : Con 8 (x.size ≤ 100) 122 [.bytes x t] (fun t => .bytes (normB x) t) := by
  unfold Con
  w_top off
  k_fill
  intros
  rename_i hret
  refine wpAny_call ?_
  k_dflt cell_enter
  k_steps
  · exact end1b hret (by k_asm) (by k_asm) (by kcj_all) (normB_2 (by with_reducible assumption) (by with_reducible assumption))
  · exact end1b hret (by k_asm) (by k_asm) (by kcj_all) (normB_1 (by with_reducible assumption) (by with_reducible assumption))
  · exact end1b hret (by k_asm) (by k_asm) (by kcj_all) (normB_0 (by with_reducible assumption))

end Mine
end
section
open PySem PySem.W PyProof.Rows PySem.Calls
set_option maxRecDepth 100000
namespace Mine
/-- each y of x turned to z -/
def rep1 (y z x : Str) : Str := Txt.join z (Txt.split x y)
theorem rep1_len {y z x : Str} (hy : 1 ≤ y.length) (hz : z.length ≤ y.length) : (rep1 y z x).length ≤ x.length := by
  have h := StrLaws.join_split x y
  unfold rep1
  show (PySem.Builtin.Str.glued _ _).length ≤ _
  rw [StrLaws.glued_eq_join]
  cases e : Txt.split x y with
  | nil => exact Nat.zero_le _
  | cons a r =>
    rw [e] at h
    have h1 := len_join_cons y a r
    have h2 := len_join_cons z a r
    rw [h] at h1
    have : r.length * z.length ≤ r.length * y.length := Nat.mul_le_mul_left _ hz
    omega
section
variable {prog : Program} {w : World} {A : Around} {E : Value → Shared → Prop} {s : Shared} {h₀ : Heap} {L D : Addr} {m : Str → Option Value} {news : List (Addr × Obj)} {x y z : Str} {t u : Tok} {Q : Value → Shared → Prop} {vs : List Value} {n : Nat}
theorem split_r (hF : Fr h₀ L s.heap m) (hN : News h₀ L s.heap news) (hsz : x.length ≤ 200) (hy : (y.length == 0) = false)
    (h : ∀ D vs h' k, Are Value.str vs (Txt.split x y) → Fr h₀ L h' m → News h₀ L h' ((D, listOf vs.toArray 0) :: news) → AllLt D news → Q (.ref D) { s with heap := h', toks := k }) :
    wpAny (model prog w) A (call (.builtin "str.split") [.str x t, .str y u]) Q E s :=
  split_s hF hN hy (by omega) fun D vs h' k a F N lt => h D vs h' k a F N (allLt_of lt)
theorem join_r (N : News h₀ L s.heap news) (hm : (D, listOf vs.toArray n) ∈ news) (a : Are Value.str vs (Txt.split x y)) (hx : x.length ≤ 200) (hy : 1 ≤ y.length) (hz : z.length ≤ y.length) (hz' : z.length ≤ 16)
    (h : ∀ t' k, (rep1 y z x).length ≤ 200 → Q (.str (rep1 y z x) t') { s with toks := k }) : wpAny (model prog w) A (call (.builtin "str.join") [.str z t, .ref D]) Q E s :=
  join_s N hm a hz' (by have := wt_splitS x y hy; omega) fun t' k => h t' k (Nat.le_trans (rep1_len hy hz) hx)
end
def rep5 (x : Str) : Str := rep1 (Str.ofString "/ab/../") (Str.ofString "/") (rep1 (Str.ofString "/b/../") (Str.ofString "/") (rep1 (Str.ofString "/a/../") (Str.ofString "/") (rep1 (Str.ofString "/./") (Str.ofString "/") (rep1 (Str.ofString "//") (Str.ofString "/") x))))
end Mine
end
section
open PySem PySem.W PyProof.Rows PySem.Calls
set_option maxRecDepth 100000
namespace Mine
section
variable {M : Model} {A : Around} {E : Value → Shared → Prop} {s : Shared}
theorem wp_part {v : Value} {o : Option Int} {Q : Option Int → Shared → Prop} (h : (v = .none ∧ o = none) ∨ ∃ k t, v = .int k t ∧ o = some k) (hq : Q o s) : wpAny M A (Builtin.Slice.slicePartIndex v) Q E s := by
  rcases h with ⟨rfl, rfl⟩ | ⟨k, t, rfl, rfl⟩
  · exact wpAny_of_eq (a := none) rfl hq
  · show wpAny M A (specialOf (.int k t) "__index__" >>= fun _ => _) _ E s
    refine wpAny_bind (wpAny_specialOf (T := "int") (typeIs_int _ _ _) PySem.F.slot_int_index.lookup ?_)
    exact wpAny_pure hq
theorem wp_fields {sl : Addr} {u v w : Value} {Q : Value × Value × Value → Shared → Prop} (hsl : s.heap.get? sl = some { cls := .type "slice", data := .fields #[u, v, w] }) (h : Q (u, v, w) s) :
    wpAny M A (Builtin.Slice.sliceFields (.ref sl)) Q E s := by
  have hf : ∀ (i : Nat) (x : Value) (Q : Value → Shared → Prop), (#[u, v, w] : Array Value)[i]? = some x → Q x s → wpAny M A (field (.ref sl) i) Q E s := by
    intro i x Q hi hq
    show wpAny M A (fieldsOf (.ref sl) >>= fun _ => _) _ E s
    refine wpAny_bind ?_
    show wpAny M A (load sl >>= fun _ => _) _ E s
    refine wpAny_bind (wpAny_load hsl ?_)
    refine wpAny_pure ?_
    show wpAny M A (match (#[u, v, w] : Array Value)[i]? with | some x => pure x | none => unsupported _) _ E s
    rw [hi]
    exact wpAny_pure hq
  show wpAny M A (field (.ref sl) 0 >>= fun _ => _) _ E s
  exact wpAny_bind (hf 0 _ _ rfl (wpAny_bind (hf 1 _ _ rfl (wpAny_bind (hf 2 _ _ rfl (wpAny_pure h))))))
theorem wp_app2 {sl : Addr} {n : Nat} {t : Tok} {Q : Int × Int × Nat → Shared → Prop} {len : Sem Int} (hl : len = pure ((n + 2 : Nat) : Int))
    (hsl : s.heap.get? sl = some { cls := .type "slice", data := .fields #[.int 2 t, .none, .none] }) (h : Q (2, 1, n) s) : wpAny M A (Builtin.Slice.sliceApplied (.ref sl) len) Q E s := by
  subst hl
  show wpAny M A (Builtin.Slice.sliceFields (.ref sl) >>= fun _ => _) _ E s
  refine wpAny_bind (wp_fields hsl ?_)
  refine wpAny_bind (wp_part (.inl ⟨rfl, rfl⟩) ?_)
  show wpAny M A (Builtin.Slice.slicePartIndex (.int 2 t) >>= fun _ => _) _ E s
  refine wpAny_bind (wp_part (.inr ⟨_, _, rfl, rfl⟩) (wpAny_bind (wp_part (.inl ⟨rfl, rfl⟩) ?_)))
  refine wpAny_pure ?_
  have hpl : Builtin.Slice.slicePlaces 2 ((n + 2 : Nat) : Int) 1 = n := by
    unfold Builtin.Slice.slicePlaces
    rw [if_pos (by decide)]
    split
    · rw [Int.ediv_one]; omega
    · omega
  show Q (min (2 : Int) ((n + 2 : Nat) : Int), 1, Builtin.Slice.slicePlaces (min (2 : Int) ((n + 2 : Nat) : Int)) ((n + 2 : Nat) : Int) 1) s
  rw [show min (2 : Int) ((n + 2 : Nat) : Int) = 2 from by omega, hpl]
  exact h
theorem wp_tup2 {T sl : Addr} {n : Nat} {a b : Value} {xs : List Value} {t : Tok} {Q : Fin → Shared → Prop} (hT : s.heap.get? T = some { cls := .type "tuple", data := .seq (a :: b :: xs).toArray n })
    (hsl : s.heap.get? sl = some { cls := .type "slice", data := .fields #[.int 2 t, .none, .none] }) (hz : xs.length ≤ 1000)
    (h : Q (.done (.ret (.ref s.heap.objs.size))) { s with heap := s.heap.push { cls := .type "tuple", data := .seq xs.toArray } }) :
    wpAny M A (Builtin.«tuple.__getitem__» ⟨[.ref T, .ref sl], []⟩) Q E s := by
  have tT : s.TypeIs (.ref T) "tuple" := ⟨_, hT, rfl⟩
  have tS : s.TypeIs (.ref sl) "slice" := ⟨_, hsl, rfl⟩
  show wpAny M A ((seqItems? (.ref T) >>= fun _ => _) >>= fun _ => _) Q E s
  refine wpAny_bind (wpAny_bind ?_)
  show wpAny M A (load T >>= fun _ => _) _ E s
  refine wpAny_bind (wpAny_load hT ?_)
  refine wpAny_pure (wpAny_pure ?_)
  show wpAny M A (typeOf (.ref sl) >>= fun _ => _) Q E s
  refine wpAny_bind (wpAny_typeOf tS ?_)
  show wpAny M A (Builtin.Slice.sliceApplied (.ref sl) _ >>= fun _ => _) Q E s
  refine wpAny_bind (wp_app2 (n := xs.length) ?_ hsl ?_)
  · show pure _ = pure _
    simp
    rfl
  show wpAny M A (if ((2 : Int) == 0 && (1 : Int) == 1 && xs.length == (a :: b :: xs).toArray.size) = true then _ else _) Q E s
  rw [if_neg (by simp)]
  have hp : (List.filterMap (fun (k : Nat) => (a :: b :: xs).toArray[((2 : Int) + (k : Int) * 1).toNat]?) (List.range xs.length)) = xs := by
    have h1 := StrLaws.picks (a :: b :: xs) xs.length 2 (by simp; omega)
    rw [List.filterMap_map] at h1
    simp only [List.drop_succ_cons, List.drop_zero, List.take_length] at h1
    refine Eq.trans (congrArg (fun f => List.filterMap f (List.range xs.length)) (funext fun k => ?_)) h1
    have : ((2 : Int) + (k : Int) * 1).toNat = 2 + k := by omega
    rw [this]
    simp
  dsimp only
  rw [hp]
  show wpAny M A (newTuple xs >>= fun _ => _) Q E s
  exact wpAny_bind (wpAny_newTuple (wpAny_pure h) (by rw [sizeLine_eq]; omega))
end
section
variable {prog : Program} {w : World} {A : Around} {E : Value → Shared → Prop} {s : Shared} {h₀ : Heap} {L : Addr} {m : Str → Option Value} {news : List (Addr × Obj)}
theorem getItem_tup2 {T sl : Addr} {n : Nat} {a b : Value} {xs : List Value} {t : Tok} {Q : Value → Shared → Prop} (hT : s.heap.get? T = some { cls := .type "tuple", data := .seq (a :: b :: xs).toArray n })
    (hsl : s.heap.get? sl = some { cls := .type "slice", data := .fields #[.int 2 t, .none, .none] }) (hz : xs.length ≤ 1000)
    (h : Q (.ref s.heap.objs.size) { s with heap := s.heap.push { cls := .type "tuple", data := .seq xs.toArray } }) :
    wpAny (model prog w) A (getItem (.ref T) (.ref sl)) Q E s := by
  have tT : s.TypeIs (.ref T) "tuple" := ⟨_, hT, rfl⟩
  unfold getItem
  try with_reducible refine wpAny_holding ?_
  first | refine wpAny_bind (wpAny_pure ?_) | skip
  refine wpAny_bind (wpAny_sequenceKey tT (by decide) ?_)
  refine wpAny_bind (wpAny_callSpecial?_slot (name := Str.ofString "__getitem__") tT slot_tuple_getitem
    (wpAny_call_entry slot_tuple_getitem tT entry_tuple_getitem ?_ (args_tuple_getitem _ _)))
  exact wp_tup2 hT hsl hz ⟨_, rfl, wpAny_pure h⟩
end
section
variable {prog : Program} {w : World} {A : Around} {E : Value → Shared → Prop} {s : Shared} {h₀ : Heap} {L : Addr} {m : Str → Option Value} {news : List (Addr × Obj)}
theorem slice_tup2 {value slice : PySem.Expr} {T : Addr} {n : Nat} {a b : Value} {xs : List Value} {t : Tok} {Q : Value → Shared → Prop} (F : Fr h₀ L s.heap m) (N : News h₀ L s.heap news) (hm : (T, ({ cls := .type "tuple", data := .seq (a :: b :: xs).toArray n } : Obj)) ∈ news) (hz : xs.length ≤ 1000)
    (h : ∀ D h', Fr h₀ L h' m → News h₀ L h' ((D, { cls := .type "tuple", data := .seq xs.toArray }) :: news) → AllLt D news → Q (.ref D) { s with heap := h' })
    (hs : subscripted slice false (.ref T) (.ref s.heap.objs.size) = operate [.ref s.heap.objs.size, .ref T] (getItem (.ref T) (.ref s.heap.objs.size)) := by with_unfolding_all rfl)
    (ht : ∀ r, letTemporaryGo value (.ref T) r = pure () := by intro _; with_unfolding_all rfl) :
    wpAny (model prog w) A (subscriptTail value slice (.ref T) (.ref s.heap.objs.size)) Q E { s with heap := s.heap.push { cls := .type "slice", data := .fields #[.int 2 t, .none, .none] } } := by
  have hT : (s.heap.push { cls := .type "slice", data := .fields #[.int 2 t, .none, .none] }).get? T = some { cls := .type "tuple", data := .seq (a :: b :: xs).toArray n } := Heap.get?_push_of_some _ (N _ hm).1
  refine subscriptTail_ops (T := "tuple") ⟨_, hT, rfl⟩ slot_tuple_getitem.lookup (getItem_tup2 hT (Heap.get?_push_size _ rfl) hz ?_) hs ht
  have N1 := News.push (F.push { cls := .type "slice", data := .fields #[.int 2 t, .none, .none] }) (N.grown fun _ _ e => Heap.get?_push_of_some _ e) { cls := .type "tuple", data := .seq xs.toArray }
  rw [Heap.size_push] at N1
  show Q (.ref (s.heap.push _).objs.size) _
  rw [Heap.size_push]
  exact h _ _ ((F.push _).push _) N1 (allLt_of fun p hp => Nat.lt_succ_of_lt (Heap.lt_size (N p hp).1))
end
end Mine
end
section
open PySem PySem.W PyProof.Rows
set_option maxRecDepth 100000
set_option pp.deepTerms false
set_option pp.proofs false
set_option pp.maxSteps 3000
namespace Mine
local macro_rules | `(tactic| k_room) => `(tactic| ktr_room)
local macro_rules | `(tactic| k_units) => `(tactic| ktr_units)
local macro_rules | `(tactic| walk_at "call builtin:issubclass") => `(tactic| (k_here; first
  | ((with_reducible show wpAny _ _ (call (Value.builtin "issubclass") [Value.type "str", Value.ref _]) _ _ _); (refine issub_str (by k_asm) (by k_mem) ?_))
  | ((with_reducible show wpAny _ _ (call (Value.builtin "issubclass") [Value.type "bytes", Value.ref _]) _ _ _); (refine issub_bytes (by k_asm) (by k_mem) ?_))))
local macro_rules | `(tactic| walk_at "call type:type") => `(tactic| (k_here; (with_reducible show wpAny _ _ (call (Value.type "type") [Value.bytes _ _]) _ _ _); (refine call_type_of (Tx := "bytes") rfl (by decide +kernel) ?_)))
local macro_rules | `(tactic| walk_at "subscriptTail") => `(tactic| (k_here; (with_reducible show wpAny _ _ (subscriptTail _ (Expr.Slice _ _ none _) (Value.bytes _ _) (Value.ref _)) _ _ _); (with_reducible rename Fr _ _ _ _ => F'); (with_reducible rename News _ _ _ _ => N'); (refine KBc.slice_K (s := ⟨_, _, _, _, _⟩) F' N' rfl (by constructor) (by constructor) (by rw [KBw.ints_length]; omega) ?_); intro _ _ _ _ _ _))
local macro_rules | `(tactic| walk_at "call ref") => `(tactic| (k_here; (with_reducible show wpAny _ _ (call (Value.ref 101) [Value.str _ _]) _ _ _); k_dflt (refine' Con.use (fspath_str _ _) ?k1 ?k2 ?k3 ?k4 ?k5 ?kK ?kp ?kd ?ku ?_; (case k1 => k_asm); (case k2 => k_asm); (case k3 => k_asm); (case k4 => k_asm); (case k5 => k_asm); (case kK => first | exact rfl | assumption); (case kp => trivial); (case kd => ktr_room); (case ku => ktr_units); k_whole; intro t9 h9 tk9 F9 N9; (try dsimp only); (try k_fold))))
local macro_rules | `(tactic| walk_at "call ref") => `(tactic| (k_here; (with_reducible show wpAny _ _ (call (Value.ref 101) [Value.bytes _ _]) _ _ _); k_dflt (refine' Con.use (fspath_bytes _ _) ?k1 ?k2 ?k3 ?k4 ?k5 ?kK ?kp ?kd ?ku ?_; (case k1 => k_asm); (case k2 => k_asm); (case k3 => k_asm); (case k4 => k_asm); (case k5 => k_asm); (case kK => first | exact rfl | assumption); (case kp => trivial); (case kd => ktr_room); (case ku => ktr_units); k_whole; intro t9 h9 tk9 F9 N9; (try dsimp only); (try k_fold))))

set_option maxHeartbeats 8000000 in
theorem isabs_str (x : Str) (t : Tok) : Con 6 (x.length ≤ 100) 108 [.str x t] (fun _ => .bool (Txt.startswith x (Str.ofString "/"))) := by
  unfold Con
  w_top off
  k_fill
  intros
  rename_i hret
  refine wpAny_call ?_
  k_dflt cell_enter
  k_steps
  exact hret t _ _ (by k_asm) (cb_drop (by k_asm) (by kcj_all))

end Mine
end
section
open PySem PySem.W PyProof.Rows
set_option maxRecDepth 100000
set_option pp.deepTerms false
set_option pp.proofs false
set_option pp.maxSteps 3000
namespace Mine
local macro_rules | `(tactic| k_room) => `(tactic| ktr_room)
local macro_rules | `(tactic| k_units) => `(tactic| ktr_units)
local macro_rules | `(tactic| walk_at "call builtin:issubclass") => `(tactic| (k_here; first
  | ((with_reducible show wpAny _ _ (call (Value.builtin "issubclass") [Value.type "str", Value.ref _]) _ _ _); (refine issub_str (by k_asm) (by k_mem) ?_))
  | ((with_reducible show wpAny _ _ (call (Value.builtin "issubclass") [Value.type "bytes", Value.ref _]) _ _ _); (refine issub_bytes (by k_asm) (by k_mem) ?_))))
local macro_rules | `(tactic| walk_at "call type:type") => `(tactic| (k_here; (with_reducible show wpAny _ _ (call (Value.type "type") [Value.bytes _ _]) _ _ _); (refine call_type_of (Tx := "bytes") rfl (by decide +kernel) ?_)))
local macro_rules | `(tactic| walk_at "subscriptTail") => `(tactic| (k_here; (with_reducible show wpAny _ _ (subscriptTail _ (Expr.Slice _ _ none _) (Value.bytes _ _) (Value.ref _)) _ _ _); (with_reducible rename Fr _ _ _ _ => F'); (with_reducible rename News _ _ _ _ => N'); (refine KBc.slice_K (s := ⟨_, _, _, _, _⟩) F' N' rfl (by constructor) (by constructor) (by rw [KBw.ints_length]; omega) ?_); intro _ _ _ _ _ _))
local macro_rules | `(tactic| walk_at "call ref") => `(tactic| (k_here; (with_reducible show wpAny _ _ (call (Value.ref 101) [Value.str _ _]) _ _ _); k_dflt (refine' Con.use (fspath_str _ _) ?k1 ?k2 ?k3 ?k4 ?k5 ?kK ?kp ?kd ?ku ?_; (case k1 => k_asm); (case k2 => k_asm); (case k3 => k_asm); (case k4 => k_asm); (case k5 => k_asm); (case kK => first | exact rfl | assumption); (case kp => trivial); (case kd => ktr_room); (case ku => ktr_units); k_whole; intro t9 h9 tk9 F9 N9; (try dsimp only); (try k_fold))))
local macro_rules | `(tactic| walk_at "call ref") => `(tactic| (k_here; (with_reducible show wpAny _ _ (call (Value.ref 101) [Value.bytes _ _]) _ _ _); k_dflt (refine' Con.use (fspath_bytes _ _) ?k1 ?k2 ?k3 ?k4 ?k5 ?kK ?kp ?kd ?ku ?_; (case k1 => k_asm); (case k2 => k_asm); (case k3 => k_asm); (case k4 => k_asm); (case k5 => k_asm); (case kK => first | exact rfl | assumption); (case kp => trivial); (case kd => ktr_room); (case ku => ktr_units); k_whole; intro t9 h9 tk9 F9 N9; (try dsimp only); (try k_fold))))
local macro_rules | `(tactic| walk_at "exec") => `(tactic| (k_here; (with_reducible show wpAny _ _ (exec (Stmt.While _ _ _ _) _) _ _ _); k_dflt (refine whl_start 100 ?_)))
local macro_rules | `(tactic| walk_at "exec While") => `(tactic| (k_here; (with_reducible show wpAny _ _ (exec (Stmt.While _ _ _ _) _) _ _ _); k_dflt (refine whl_start 100 ?_)))
local macro_rules | `(tactic| walk_at "exec While Name") => `(tactic| (k_here; (with_reducible show wpAny _ _ (exec (Stmt.While _ _ _ _) _) _ _ _); k_dflt (refine whl_start 100 ?_)))
local macro_rules | `(tactic| walk_at "exec While Name cons nil") => `(tactic| (k_here; (with_reducible show wpAny _ _ (exec (Stmt.While _ _ _ _) _) _ _ _); k_dflt (refine whl_start 100 ?_)))
local macro_rules | `(tactic| walk_at "call builtin:str.split") => `(tactic| (k_here; (with_reducible show wpAny _ _ (call (Value.builtin "str.split") [Value.str _ _, Value.str _ _]) _ _ _); (with_reducible rename Fr _ _ _ _ => F'); (with_reducible rename News _ _ _ _ => N'); (refine split_r (s := ⟨_, _, _, _, _⟩) F' N' (by with_reducible assumption) (by decide +kernel) ?_); intro D9 vs9 h9 tk9 a9 F9 N9 lt8; (try simp only [AllLt, and_true] at lt8)))
local macro_rules | `(tactic| walk_at "call builtin:str.join") => `(tactic| (k_here; (with_reducible show wpAny _ _ (call (Value.builtin _) [Value.str _ _, Value.ref _]) _ _ _); (refine join_r (s := ⟨_, _, _, _, _⟩) (by k_asm) (by k_mem) (by with_reducible assumption) (by with_reducible assumption) (by decide +kernel) (by decide +kernel) (by decide +kernel) ?_); intro t7 k7 l7))
local macro_rules | `(tactic| walk_at "subscriptTail") => `(tactic| (k_here; (with_reducible show wpAny _ _ (subscriptTail _ (Expr.Slice _ none none _) (Value.ref _) (Value.ref _)) _ _ _); (with_reducible rename Fr _ _ _ _ => F'); (with_reducible rename News _ _ _ _ => N'); (refine slice_tup2 (s := ⟨_, _, _, _, _⟩) F' N' (by k_mem) (Nat.le_of_ble_eq_true rfl) ?_); intro D9 h9 F9 N9 lt9; (try simp only [AllLt, and_true] at lt9)))

set_option maxHeartbeats 8000000 in
theorem replace_2 (x : Str) (t t1 t2 : Tok) : Con 6 (x.length ≤ 200) 129 [.str x t, .str (Str.ofString "^/../") t1, .str (Str.ofString "^/") t2] (fun t => .str (rep1 (Str.ofString "^/../") (Str.ofString "^/") x) t) := by
  unfold Con
  w_top off
  k_fill
  intros
  rename_i hret
  refine wpAny_call ?_
  k_dflt (refine' kp_rest ?k1 ?k2 ?k3 ?k4 ?k5 ?kA ?kF ?kK ?k6 ?k7 ?k8 ?kV ?kP ?kG ?kB ?_ ?c2 ?c3 ?c4 ?c5; (case kA => exact rfl); (case kF => exact rfl); (case kK => assumption); (case k1 => k_asm); (case k2 => k_asm); (case k3 => k_asm); (case k4 => k_asm); (case k5 => k_asm); (case k6 => k_is); (case k7 => k_is); (case k8 => ktr_room); (case kV => kl_lit); (case kP => exact rfl); (case kG => exact fun _ => rfl); (case kB => exact fun _ => locs rfl); (case c5 => decide); (case c2 => exact rfl); (case c3 => exact rfl); (case c4 => exact rfl); k_whole; intro D' g' L' h' l1 FG' F' N' B' X' T'; (try k_lt l1); (try dsimp only); (try k_lift B'); (try k_fold))
  k_steps
  exact end1s hret (by k_asm) (by k_asm) (by kcj_all) rfl

set_option maxHeartbeats 8000000 in
theorem replace_10 (x : Str) (t t1 t2 t3 t4 t5 t6 t7 t8 t9 t10 : Tok) : Con 6 (x.length ≤ 200) 129 [.str x t, .str (Str.ofString "//") t1, .str (Str.ofString "/") t2, .str (Str.ofString "/./") t3, .str (Str.ofString "/") t4, .str (Str.ofString "/a/../") t5, .str (Str.ofString "/") t6, .str (Str.ofString "/b/../") t7, .str (Str.ofString "/") t8, .str (Str.ofString "/ab/../") t9, .str (Str.ofString "/") t10] (fun t => .str (rep5 x) t) := by
  unfold Con
  w_top off
  k_fill
  intros
  rename_i hret
  refine wpAny_call ?_
  k_dflt (refine' kp_rest ?k1 ?k2 ?k3 ?k4 ?k5 ?kA ?kF ?kK ?k6 ?k7 ?k8 ?kV ?kP ?kG ?kB ?_ ?c2 ?c3 ?c4 ?c5; (case kA => exact rfl); (case kF => exact rfl); (case kK => assumption); (case k1 => k_asm); (case k2 => k_asm); (case k3 => k_asm); (case k4 => k_asm); (case k5 => k_asm); (case k6 => k_is); (case k7 => k_is); (case k8 => ktr_room); (case kV => kl_lit); (case kP => exact rfl); (case kG => exact fun _ => rfl); (case kB => exact fun _ => locs rfl); (case c5 => decide); (case c2 => exact rfl); (case c3 => exact rfl); (case c4 => exact rfl); k_whole; intro D' g' L' h' l1 FG' F' N' B' X' T'; (try k_lt l1); (try dsimp only); (try k_lift B'); (try k_fold))
  k_steps
  exact end1s hret (by k_asm) (by k_asm) (by kcj_all) rfl

end Mine
end
section
open PySem PySem.W PyProof.Rows PySem.Calls
open PySem.Builtin.Str
set_option maxRecDepth 100000
namespace Mine
section
variable {α : Type} [DecidableEq α]
theorem onHead_app (p : List α) {A : List (List α)} (B : List (List α)) (h : A ≠ []) : onHead p (A ++ B) = onHead p A ++ B := by
  cases A with
  | nil => exact absurd rfl h
  | cons a r => rfl
theorem splitL_app (c : α) : ∀ (u v : List α), splitL c (u ++ c :: v) = splitL c u ++ splitL c v
  | [], v => by rw [List.nil_append, splitL_cons_eq]; rfl
  | a :: r, v => by
    have ih := splitL_app c r v
    by_cases h : a = c
    · subst h
      rw [List.cons_append, splitL_cons_eq, splitL_cons_eq, ih]; rfl
    · rw [List.cons_append, splitL_cons_ne h, splitL_cons_ne h, ih, onHead_app _ _ (splitL_ne c r)]
theorem splitL_free (c : α) : ∀ (x : List α), c ∉ x → splitL c x = [x]
  | [], _ => rfl
  | a :: r, h => by
    have h1 : a ≠ c := fun e => h (e ▸ .head _)
    rw [splitL_cons_ne h1, splitL_free c r fun hm => h (.tail _ hm)]; rfl
theorem splitL_mem (c : α) : ∀ (l : List α), ∀ p ∈ splitL c l, c ∉ p
  | [], p, hp => by rw [List.mem_singleton.mp hp]; simp
  | a :: r, p, hp => by
    have ih := splitL_mem c r
    by_cases h : a = c
    · subst h
      rw [splitL_cons_eq] at hp
      rcases List.mem_cons.mp hp with rfl | hp
      · simp
      · exact ih p hp
    · rw [splitL_cons_ne h] at hp
      cases e : splitL c r with
      | nil => exact absurd e (splitL_ne c r)
      | cons q t =>
        rw [e] at hp ih
        rcases List.mem_cons.mp hp with rfl | hp
        · intro hm
          rcases List.mem_cons.mp hm with e1 | hm
          · exact h e1.symm
          · exact ih q (.head _) hm
        · exact ih p (.tail _ hp)
theorem splitL_join (c : α) : ∀ (ps : List (List α)), ps ≠ [] → (∀ p ∈ ps, c ∉ p) → splitL c (joinL [c] ps) = ps
  | [], h, _ => absurd rfl h
  | [x], _, hf => splitL_free c x (hf x (.head _))
  | x :: y :: r, _, hf => by
    rw [joinL, show x ++ [c] ++ joinL [c] (y :: r) = x ++ c :: joinL [c] (y :: r) from by simp, splitL_app, splitL_free c x (hf x (.head _)), splitL_join c (y :: r) (by simp) fun p hp => hf p (.tail _ hp)]
    rfl
omit [DecidableEq α] in
theorem joinL_app (s : List α) : ∀ (A B : List (List α)), A ≠ [] → B ≠ [] → joinL s (A ++ B) = joinL s A ++ s ++ joinL s B
  | [], _, h, _ => absurd rfl h
  | [x], [], _, h => absurd rfl h
  | [x], y :: r, _, _ => rfl
  | x :: y :: r, B, _, h => by
    have ih := joinL_app s (y :: r) B (by simp) h
    show x ++ s ++ joinL s ((y :: r) ++ B) = _
    rw [ih, joinL]
    simp
omit [DecidableEq α] in
theorem joinL_onHead (s : List α) (p : List α) : ∀ A : List (List α), A ≠ [] → joinL s (onHead p A) = p ++ joinL s A
  | [], h => absurd rfl h
  | [x], _ => rfl
  | x :: y :: r, _ => by simp [onHead, joinL]
theorem joinL_split (c : α) : ∀ l : List α, joinL [c] (splitL c l) = l
  | [] => rfl
  | a :: r => by
    have ih := joinL_split c r
    by_cases h : a = c
    · subst h
      rw [splitL_cons_eq, joinL_cons]
      cases e : splitL a r with
      | nil => exact absurd e (splitL_ne a r)
      | cons q t => rw [e, joinL_cons] at ih; rw [← ih]; simp
    · rw [splitL_cons_ne h, joinL_onHead _ _ _ (splitL_ne c r), ih]; rfl
/-- rewriting each Y of a text, piece by piece -/
theorem rewrites {P : List α → Prop} {Y Z : List α} (hP : ∀ u v, P (u ++ Y ++ v) → P (u ++ Z ++ v)) : ∀ (ps : List (List α)) (pre : List α), P (pre ++ joinL Y ps) → P (pre ++ joinL Z ps)
  | [], _, h => h
  | [x], _, h => h
  | x :: y :: r, pre, h => by
    have h1 := hP (pre ++ x) (joinL Y (y :: r)) (by simpa [joinL] using h)
    have h2 := rewrites hP (y :: r) (pre ++ x ++ Z) h1
    simpa [joinL] using h2
omit [DecidableEq α] in
theorem len_joinL' (s : List α) : ∀ ps : List (List α), (joinL s ps).length = (ps.map List.length).sum + (ps.length - 1) * s.length
  | [] => by simp [joinL]
  | [x] => by simp [joinL]
  | x :: y :: r => by
    rw [joinL, List.length_append, List.length_append, len_joinL' s (y :: r)]
    simp only [List.map_cons, List.sum_cons, List.length_cons, Nat.add_sub_cancel, Nat.succ_mul]
    omega
end
/-- a text's codes -/
def cl (x : Str) : List Nat := x.cps.toList
theorem cl_inj {x y : Str} (h : cl x = cl y) : x = y := by
  obtain ⟨⟨a⟩⟩ := x
  obtain ⟨⟨b⟩⟩ := y
  have : a = b := h
  subst this; rfl
theorem cl_app (x y : Str) : cl (x ++ y) = cl x ++ cl y := by
  show (x.cps ++ y.cps).toList = _
  simp [cl]
theorem cl_len (x : Str) : (cl x).length = x.length := by simp [cl, Str.length]
theorem cl_join (s : Str) : ∀ xs : List Str, cl (Str.join s xs) = joinL (cl s) (xs.map cl)
  | [] => rfl
  | [x] => rfl
  | x :: y :: r => by
    have ih := cl_join s (y :: r)
    show cl (x ++ s ++ Str.join s (y :: r)) = cl x ++ cl s ++ joinL (cl s) ((y :: r).map cl)
    rw [cl_app, cl_app, ih]
theorem cl_tjoin (s : Str) (xs : List Str) : cl (Txt.join s xs) = joinL (cl s) (xs.map cl) := by
  show cl (glued s xs) = _
  rw [StrLaws.glued_eq_join, cl_join]
theorem split_ne (x y : Str) : Txt.split x y ≠ [] := by
  unfold Txt.split
  split
  · simp
  · split
    · simp
    · intro h
      have := length_partsBetween x (occurrences x y 0 x.length (x.length + 1)) y.length
      rw [h] at this
      simp at this
theorem cl_split (x : Str) (c : Nat) : (Txt.split x ⟨#[c]⟩).map cl = splitL c (cl x) := by
  have h := StrLaws.join_split x ⟨#[c]⟩
  have h1 := congrArg cl h
  rw [cl_join] at h1
  rw [← h1]
  refine (splitL_join c _ ?_ ?_).symm
  · simpa using split_ne x ⟨#[c]⟩
  · intro p hp
    obtain ⟨q, hq, rfl⟩ := List.mem_map.mp hp
    exact StrLaws.split_free x c q hq
theorem cl_rep1 {P : List Nat → Prop} {y z x : Str} (hP : ∀ u v, P (u ++ cl y ++ v) → P (u ++ cl z ++ v)) (h : P (cl x)) : P (cl (rep1 y z x)) := by
  have h1 := congrArg cl (StrLaws.join_split x y)
  rw [cl_join] at h1
  unfold rep1
  rw [cl_tjoin]
  have := rewrites hP ((Txt.split x y).map cl) [] (by rw [List.nil_append, h1]; exact h)
  simpa using this
/-- where the replacement is shorter and the length stays, nothing was found -/
theorem rep1_no {y z x : Str} (hk : strKind y = 1) (hy : 1 ≤ y.length) (hz : z.length < y.length) (h : (rep1 y z x).length = x.length) : rep1 y z x = x ∧ ∀ u v, cl x ≠ u ++ cl y ++ v := by
  have h1 := congrArg (fun s => (cl s).length) (StrLaws.join_split x y)

  rw [cl_join, len_joinL', cl_len] at h1
  have h2 : (cl (rep1 y z x)).length = (cl x).length := by rw [cl_len, cl_len, h]
  unfold rep1 at h2
  rw [cl_tjoin, len_joinL', cl_len, cl_len] at h2
  rw [cl_len] at h1
  have hn : (Txt.split x y).length = 1 := by
    have h0 := split_ne x y
    cases e : Txt.split x y with
    | nil => exact absurd e h0
    | cons a r =>
      rw [e] at h1 h2
      simp only [List.map_cons, List.length_cons, List.length_map, Nat.add_sub_cancel] at h1 h2
      have : r.length * z.length + r.length ≤ r.length * y.length := by
        rw [← Nat.mul_succ]; exact Nat.mul_le_mul_left _ hz
      simp only [List.length_cons]
      omega
  constructor
  · have h3 := StrLaws.join_split x y
    match e : Txt.split x y, hn with
    | [a], _ =>
      rw [e] at h3
      unfold rep1
      rw [e]
      show glued z [a] = x
      rw [StrLaws.glued_eq_join]
      exact h3
  · intro u v huv
    have hat : StrLaws.At x y x.length u.length := by
      constructor
      · have := congrArg List.length huv
        rw [cl_len] at this
        simp only [List.length_append, cl_len] at this
        omega
      · rw [StrLaws.subAt_eq]
        show ((cl x).drop u.length |>.take y.length) == cl y
        rw [huv, List.append_assoc, List.drop_left, ← cl_len, List.take_left]
        simp
    have hlt : ¬ x.length < y.length := by have := hat.1; omega
    unfold Txt.split at hn
    rw [if_neg (by simp [hlt, hk]; exact Nat.ne_of_gt (strKind_pos x))] at hn
    rcases StrLaws.occ_head x y (x.length + 1) (by omega) with ⟨_, h0⟩ | ⟨i, r, e, _, _⟩
    · exact h0 _ hat
    · rw [e] at hn
      rw [if_neg (by simp)] at hn
      rw [length_partsBetween] at hn
      simp at hn
end Mine
end
section
open PySem PySem.W PyProof.Rows PySem.Calls
open PySem.Builtin.Str
set_option maxRecDepth 100000
namespace Mine
/-- the pieces that the law's paths are made of -/
def menuL : List (List Nat) := [[97], [46, 46], [98], [46], [97, 98], []]
/-- a path of the law's: its pieces are of the menu -/
def OkP (x : Str) : Prop := ∀ c ∈ splitL 47 (cl x), c ∈ menuL
def slS (x : Str) : Int := (x.length : Int) - ((Txt.lstripChars x (Str.ofString "/")).length : Int)
def absS (x : Str) : Bool := decide (slS x > 0)
abbrev stepL (abs : Bool) : List (List Nat) → List Nat → List (List Nat) := stepC [] [46] [46, 46] abs
def coreN (x : Str) : List (List Nat) := (splitL 47 (cl (Txt.slice x (some (slS x)) none))).foldl (stepL (absS x)) []
def turnS (abs : Bool) (w : Str) : Str := if abs = true then rep1 (Str.ofString "^/../") (Str.ofString "^/") (rep5 w) else rep5 w
/-- a word between two turns: its pieces between the mark and the end come to N -/
def Wd (abs : Bool) (N : List (List Nat)) (w : List Nat) : Prop := ∃ cs, splitL 47 w = [94] :: (cs ++ [[]]) ∧ (∀ c ∈ cs, c ∈ menuL) ∧ cs.foldl (stepL abs) [] = N
def SInv (x before word : Str) : Prop := Wd (absS x) (coreN x) (cl word) ∧ word.length ≤ 200 ∧ (before = word → turnS (absS x) word = word)
def wordMu (before word : Str) : Nat := if before = word then 0 else word.length + 1
theorem SInv.len {x before word : Str} (h : SInv x before word) : word.length ≤ 200 := h.2.1
theorem rep5_len {x : Str} : (rep5 x).length ≤ x.length := by
  unfold rep5
  refine Nat.le_trans (rep1_len (by decide +kernel) (by decide +kernel)) ?_
  refine Nat.le_trans (rep1_len (by decide +kernel) (by decide +kernel)) ?_
  refine Nat.le_trans (rep1_len (by decide +kernel) (by decide +kernel)) ?_
  refine Nat.le_trans (rep1_len (by decide +kernel) (by decide +kernel)) ?_
  exact rep1_len (by decide +kernel) (by decide +kernel)
end Mine
end
section
open PySem PySem.W PyProof.Rows PySem.Calls
open PySem.Builtin.Str
set_option maxRecDepth 100000
namespace Mine
section
variable {α : Type}
theorem clip_cut (l : List α) (a b : Nat) : (l.drop (min a l.length)).take (min b l.length - min a l.length) = (l.drop a).take (b - a) := by
  rcases Nat.le_total a l.length with h | h
  · rw [Nat.min_eq_left h]
    rcases Nat.le_total b l.length with g | g
    · rw [Nat.min_eq_left g]
    · rw [Nat.min_eq_right g, List.take_of_length_le (by simp), List.take_of_length_le (by simp; omega)]
  · rw [Nat.min_eq_right h, List.drop_of_length_le (Nat.le_refl _), List.drop_of_length_le h]; simp
theorem clip_from (l : List α) (a : Nat) : (l.drop (min a l.length)).take (l.length - min a l.length) = l.drop a := by
  rcases Nat.le_total a l.length with h | h
  · rw [Nat.min_eq_left h, List.take_of_length_le (by simp)]
  · rw [Nat.min_eq_right h, List.drop_of_length_le (Nat.le_refl _), List.drop_of_length_le h]; simp
theorem clip_to (l : List α) (b : Nat) : l.take (min b l.length) = l.take b := by
  rcases Nat.le_total b l.length with g | g
  · rw [Nat.min_eq_left g]
  · rw [Nat.min_eq_right g, List.take_of_length_le (Nat.le_refl _), List.take_of_length_le g]
end
theorem cl_slice (x : Str) (lo hi : Option Int) : cl (Txt.slice x lo hi) = ((cl x).drop (lo.elim 0 (clipAt x.length))).take (hi.elim x.length (clipAt x.length) - lo.elim 0 (clipAt x.length)) := by
  have e : strSliceIndices lo hi 1 x.length = sliceRange ((lo.elim 0 (clipAt x.length) : Nat) : Int) ((hi.elim x.length (clipAt x.length) : Nat) : Int) 1 := by
    cases lo <;> cases hi <;> simp [strSliceIndices, clipAt_cast]
  have hb : hi.elim x.length (clipAt x.length) ≤ x.length := by
    cases hi with
    | none => exact Nat.le_refl _
    | some i => show clipAt x.length i ≤ x.length; have := clipAt_cast x.length i; omega
  have hl : (cl x).length = x.length := cl_len x
  unfold Txt.slice
  rw [e, sliceRange_one]
  split
  · rename_i h
    simp only [beq_self_eq_true, Bool.true_and, List.length_map, List.length_range, beq_iff_eq] at h
    by_cases h0 : x.length = 0
    · have : cl x = [] := List.eq_nil_of_length_eq_zero (by omega)
      rw [this]; simp
    · have ha : lo.elim 0 (clipAt x.length) = 0 := by omega
      rw [ha, List.drop_zero, List.take_of_length_le (by omega)]
  · show ((List.map _ (List.range _)).filterMap (fun i => x.cps[i]?)).toArray.toList = _
    rw [pick_run]
    rfl
theorem cl_slice_nn (x : Str) (a b : Nat) : cl (Txt.slice x (some (a : Int)) (some (b : Int))) = ((cl x).drop a).take (b - a) := by
  rw [cl_slice]
  simp only [Option.elim, clipAt_nat, ← cl_len]
  exact clip_cut _ _ _
theorem cl_slice_to (x : Str) (b : Nat) : cl (Txt.slice x none (some (b : Int))) = (cl x).take b := by
  rw [cl_slice]
  simp only [Option.elim, clipAt_nat, ← cl_len, List.drop_zero, Nat.sub_zero]
  exact clip_to _ _
theorem cl_slice_from (x : Str) (a : Nat) : cl (Txt.slice x (some (a : Int)) none) = (cl x).drop a := by
  rw [cl_slice]
  simp only [Option.elim, clipAt_nat, ← cl_len]
  exact clip_from _ _
theorem bl_slice_nn (x : Array UInt8) (a b : Nat) : (KBy.picked x (some (a : Int)) (some (b : Int))).toList = (x.toList.drop a).take (b - a) := by
  rw [KBc.picked_eq]
  simp only [Option.elim, clipAt_nat, ← Array.length_toList]
  exact clip_cut _ _ _
theorem bl_slice_to (x : Array UInt8) (b : Nat) : (KBy.picked x none (some (b : Int))).toList = x.toList.take b := by
  rw [KBc.picked_eq]
  simp only [Option.elim, clipAt_nat, ← Array.length_toList, List.drop_zero, Nat.sub_zero]
  exact clip_to _ _
theorem bl_slice_from (x : Array UInt8) (a : Nat) : (KBy.picked x (some (a : Int)) none).toList = x.toList.drop a := by
  rw [KBc.picked_eq]
  simp only [Option.elim, clipAt_nat, ← Array.length_toList]
  exact clip_from _ _
section
variable {α : Type} [DecidableEq α]
def rootL (sl : α) (l : List α) : List α := if l.take 1 ≠ [sl] then [] else if (l.drop 1).take 1 ≠ [sl] ∨ (l.drop 2).take 1 = [sl] then [sl] else l.take 2
def restL (sl : α) (l : List α) : List α := if l.take 1 ≠ [sl] then l else if (l.drop 1).take 1 ≠ [sl] ∨ (l.drop 2).take 1 = [sl] then l.drop 1 else l.drop 2
def npL (sl dt : α) (l : List α) : List (List α) := (splitL sl (restL sl l)).foldl (stepC [] [dt] [dt, dt] (decide (rootL sl l ≠ []))) []
def glueL (sl dt : α) (l : List α) : List α := rootL sl l ++ joinL [sl] (npL sl dt l)
def normL (sl dt : α) (l : List α) : List α := if glueL sl dt l = [] then [dt] else glueL sl dt l
end
section
variable {α β : Type} [DecidableEq α] [DecidableEq β] {f : α → β}
theorem stepC_map (hf : ∀ x y, f x = f y → x = y) (e d dd : α) (abs : Bool) (acc : List α) (c : α) : (stepC e d dd abs acc c).map f = stepC (f e) (f d) (f dd) abs (acc.map f) (f c) := by
  have hi : ∀ x y, f x = f y ↔ x = y := fun x y => ⟨hf x y, fun h => h ▸ rfl⟩
  unfold stepC
  have hl : (acc.map f).getLast? = some (f dd) ↔ acc.getLast? = some dd := by
    rw [List.getLast?_map]
    cases acc.getLast? with
    | none => simp
    | some y => simp [hi]
  simp only [hi, hl, ne_eq, List.map_eq_nil_iff]
  split
  · rfl
  · split
    · simp
    · exact List.map_dropLast ..
theorem foldC_map (hf : ∀ x y, f x = f y → x = y) (e d dd : α) (abs : Bool) : ∀ (cs acc : List α), (cs.foldl (stepC e d dd abs) acc).map f = (cs.map f).foldl (stepC (f e) (f d) (f dd) abs) (acc.map f)
  | [], acc => rfl
  | c :: cs, acc => by
    rw [List.foldl_cons, foldC_map hf e d dd abs cs, stepC_map hf]; rfl
theorem splitL_map (hf : ∀ x y, f x = f y → x = y) (c : α) : ∀ l : List α, splitL (f c) (l.map f) = (splitL c l).map (List.map f)
  | [] => rfl
  | a :: r => by
    have ih := splitL_map hf c r
    by_cases h : a = c
    · subst h
      rw [List.map_cons, splitL_cons_eq, splitL_cons_eq, ih]; rfl
    · rw [List.map_cons, splitL_cons_ne h, splitL_cons_ne (fun e => h (hf _ _ e)), ih]
      cases splitL c r <;> rfl
omit [DecidableEq α] [DecidableEq β] in
theorem joinL_map (s : List α) : ∀ xs : List (List α), (joinL s xs).map f = joinL (s.map f) (xs.map (List.map f))
  | [] => rfl
  | [x] => rfl
  | x :: y :: r => by
    have ih := joinL_map s (y :: r)
    rw [joinL, List.map_append, List.map_append, ih]; rfl
theorem rootL_map (hf : ∀ x y, f x = f y → x = y) (sl : α) (l : List α) : rootL (f sl) (l.map f) = (rootL sl l).map f := by
  have hm : ∀ p q : List α, p.map f = q.map f ↔ p = q := fun p q => ⟨fun h => List.map_inj_right (fun x y => hf x y) |>.mp h, fun h => h ▸ rfl⟩
  have e1 : ∀ p : List α, (p.map f).take 1 = [f sl] ↔ p.take 1 = [sl] := fun p => by rw [← List.map_take, show [f sl] = [sl].map f from rfl, hm]
  unfold rootL
  simp only [← List.map_drop, ne_eq, e1]
  split
  · rfl
  · split
    · rfl
    · rw [List.map_take]
theorem restL_map (hf : ∀ x y, f x = f y → x = y) (sl : α) (l : List α) : restL (f sl) (l.map f) = (restL sl l).map f := by
  have hm : ∀ p q : List α, p.map f = q.map f ↔ p = q := fun p q => ⟨fun h => List.map_inj_right (fun x y => hf x y) |>.mp h, fun h => h ▸ rfl⟩
  have e1 : ∀ p : List α, (p.map f).take 1 = [f sl] ↔ p.take 1 = [sl] := fun p => by rw [← List.map_take, show [f sl] = [sl].map f from rfl, hm]
  unfold restL
  simp only [← List.map_drop, ne_eq, e1]
  split
  · rfl
  · split <;> rfl
theorem normL_map (hf : ∀ x y, f x = f y → x = y) (sl dt : α) (l : List α) : normL (f sl) (f dt) (l.map f) = (normL sl dt l).map f := by
  have hm : ∀ p q : List α, p.map f = q.map f → p = q := fun p q h => List.map_inj_right (fun x y => hf x y) |>.mp h
  have hn : npL (f sl) (f dt) (l.map f) = (npL sl dt l).map (List.map f) := by
    unfold npL
    rw [restL_map hf, rootL_map hf, splitL_map hf, foldC_map hm]
    simp
  have hg : glueL (f sl) (f dt) (l.map f) = (glueL sl dt l).map f := by
    unfold glueL
    rw [hn, rootL_map hf, List.map_append, joinL_map]; rfl
  unfold normL
  rw [hg]
  by_cases h : glueL sl dt l = []
  · rw [if_pos h, if_pos (by rw [h]; rfl)]; rfl
  · rw [if_neg h, if_neg (by simpa using h)]
end
theorem cl_sl : cl (Str.ofString "/") = [47] := by decide +kernel
theorem cl_emp : cl (Str.ofString "") = [] := by decide +kernel
theorem cl_dot : cl (Str.ofString ".") = [46] := by decide +kernel
theorem cl_dd : cl (Str.ofString "..") = [46, 46] := by decide +kernel
theorem sl_eq : Str.ofString "/" = ⟨#[47]⟩ := by decide +kernel
theorem cl_bne (x y : Str) : (x != y) = true ↔ cl x ≠ cl y := by
  rw [bne_iff_ne]
  exact ⟨fun h e => h (cl_inj e), fun h e => h (e ▸ rfl)⟩
theorem cl_beq (x y : Str) : (x == y) = true ↔ cl x = cl y := by
  rw [beq_iff_eq]
  exact ⟨fun h => h ▸ rfl, cl_inj⟩
theorem cl_rootS (x : Str) : cl (rootS x) = rootL 47 (cl x) := by
  unfold rootS rootL
  have h1 := cl_slice_to x 1
  have h2 := cl_slice_nn x 1 2
  have h3 := cl_slice_nn x 2 3
  have h4 := cl_slice_to x 2
  simp only [Bool.or_eq_true, cl_bne, cl_beq, cl_sl]
  erw [h1, h2, h3]
  split
  · exact cl_emp
  · split
    · exact cl_sl
    · exact h4
theorem cl_restS (x : Str) : cl (restS x) = restL 47 (cl x) := by
  unfold restS restL
  have h1 := cl_slice_to x 1
  have h2 := cl_slice_nn x 1 2
  have h3 := cl_slice_nn x 2 3
  have h4 := cl_slice_from x 1
  have h5 := cl_slice_from x 2
  simp only [Bool.or_eq_true, cl_bne, cl_beq, cl_sl]
  erw [h1, h2, h3]
  split
  · rfl
  · split
    · exact h4
    · exact h5
theorem cl_npS (x : Str) : (npS x).map cl = npL 47 46 (cl x) := by
  unfold npS npL
  rw [foldC_map (f := cl) fun _ _ h => cl_inj h]
  rw [cl_emp, cl_dot, cl_dd, List.map_nil, sl_eq, cl_split, cl_restS]
  have : ((rootS x).length != 0) = decide (rootL 47 (cl x) ≠ []) := by
    rw [← cl_rootS, ← cl_len]
    cases cl (rootS x) <;> simp
  rw [this]
theorem cl_glueS (x : Str) : cl (rootS x ++ Txt.join (Str.ofString "/") (npS x)) = glueL 47 46 (cl x) := by
  unfold glueL
  rw [cl_app, cl_tjoin, cl_sl, cl_rootS, cl_npS]
theorem cl_normS (x : Str) : cl (normS x) = normL 47 46 (cl x) := by
  unfold normS normL
  have hg := cl_glueS x
  by_cases h : x.length = 0
  · rw [if_pos h]
    have : cl x = [] := List.eq_nil_of_length_eq_zero (by rw [cl_len, h])
    rw [this, cl_dot]
    decide
  · rw [if_neg h]
    rw [← hg]
    by_cases h2 : (rootS x ++ Txt.join (Str.ofString "/") (npS x)).length = 0
    · rw [if_pos h2, if_pos (List.eq_nil_of_length_eq_zero (by rw [cl_len, h2])), cl_dot]
    · rw [if_neg h2, if_neg (fun e => h2 (by rw [← cl_len, e]; rfl))]
end Mine
end
section
open PySem PySem.W PyProof.Rows PySem.Calls
open PySem.Builtin.Str
set_option maxRecDepth 100000
namespace Mine
theorem bl_bne (x : Array UInt8) (l : List UInt8) : (x.toList != l) = true ↔ x.toList ≠ l := bne_iff_ne
theorem bl_rootB (x : Array UInt8) : (rootB x).toList = rootL 47 x.toList := by
  unfold rootB rootL
  have h1 := bl_slice_to x 1
  have h2 := bl_slice_nn x 1 2
  have h3 := bl_slice_nn x 2 3
  have h4 := bl_slice_to x 2
  simp only [Bool.or_eq_true, bne_iff_ne, beq_iff_eq]
  erw [h1, h2, h3]
  split
  · rfl
  · split
    · rfl
    · exact h4
theorem bl_restB (x : Array UInt8) : (restB x).toList = restL 47 x.toList := by
  unfold restB restL
  have h1 := bl_slice_to x 1
  have h2 := bl_slice_nn x 1 2
  have h3 := bl_slice_nn x 2 3
  have h4 := bl_slice_from x 1
  have h5 := bl_slice_from x 2
  simp only [Bool.or_eq_true, bne_iff_ne, beq_iff_eq]
  erw [h1, h2, h3]
  split
  · rfl
  · split
    · exact h4
    · exact h5
theorem bl_npB (x : Array UInt8) : (npB x).map Array.toList = npL 47 46 x.toList := by
  unfold npB npL
  rw [foldC_map (f := Array.toList) fun _ _ h => Array.toList_inj.mp h]
  rw [List.map_nil, splitB_eq, bl_restB]
  have : ((rootB x).size != 0) = decide (rootL 47 x.toList ≠ []) := by
    rw [← bl_rootB, ← Array.length_toList]
    cases (rootB x).toList <;> simp
  rw [this]
theorem bl_glueB (x : Array UInt8) : (glueB x).toList = glueL 47 46 x.toList := by
  unfold glueB glueL
  rw [Array.toList_append, joined_eq, bl_rootB, bl_npB]
theorem bl_normB (x : Array UInt8) : (normB x).toList = normL 47 46 x.toList := by
  unfold normB normL
  have hg := bl_glueB x
  by_cases h : x.size = 0
  · rw [if_pos h]
    have : x.toList = [] := List.eq_nil_of_length_eq_zero (by simpa using h)
    rw [this]
    decide
  · rw [if_neg h, ← hg]
    by_cases h2 : (glueB x).size = 0
    · rw [if_pos h2, if_pos (List.eq_nil_of_length_eq_zero (by simpa using h2))]
    · rw [if_neg h2, if_neg (fun e => h2 (by rw [← Array.length_toList, e]; rfl))]
/-- a plain text's octets -/
def encA (x : Str) : Array UInt8 := (x.cps.toList.map UInt8.ofNat).toArray
def Asc (x : Str) : Prop := ∀ c ∈ cl x, c < 128
theorem encA_back {x : Str} (h : Asc x) : (encA x).toList.map UInt8.toNat = cl x := by
  unfold encA
  show ((cl x).map UInt8.ofNat).map UInt8.toNat = cl x
  rw [List.map_map]
  conv => rhs; rw [← List.map_id (cl x)]
  refine List.map_congr_left fun c hc => ?_
  have := h c hc
  show (UInt8.ofNat c).toNat = c
  rw [UInt8.toNat_ofNat']
  exact Nat.mod_eq_of_lt (by omega)
theorem toNat_inj8 : ∀ x y : UInt8, x.toNat = y.toNat → x = y := fun _ _ h => UInt8.toNat_inj.mp h
theorem normB_enc {x : Str} (h : Asc x) (h' : Asc (normS x)) : normB (encA x) = encA (normS x) := by
  apply Array.toList_inj.mp
  apply (List.map_inj_right toNat_inj8).mp
  rw [encA_back h', bl_normB, cl_normS, ← encA_back h]
  exact (normL_map toNat_inj8 47 46 (encA x).toList).symm
section
variable {α : Type} [DecidableEq α] {e d dd : α} {abs : Bool}
theorem step_all {P : α → Prop} {acc : List α} {c : α} (ha : ∀ y ∈ acc, P y) (hc : P c) : ∀ y ∈ stepC e d dd abs acc c, P y := by
  intro y hy
  unfold stepC at hy
  split at hy
  · exact ha y hy
  · split at hy
    · rcases List.mem_append.mp hy with h | h
      · exact ha y h
      · rw [List.mem_singleton.mp h]; exact hc
    · exact ha y (List.dropLast_subset _ hy)
theorem fold_all {P : α → Prop} : ∀ (cs acc : List α), (∀ y ∈ acc, P y) → (∀ y ∈ cs, P y) → ∀ y ∈ cs.foldl (stepC e d dd abs) acc, P y
  | [], _, ha, _ => ha
  | c :: cs, acc, ha, hc => fold_all cs _ (step_all ha (hc c (.head _))) fun y hy => hc y (.tail _ hy)
/-- what is kept is no empty piece and no dot -/
theorem step_ne {acc : List α} {c : α} (ha : ∀ y ∈ acc, y ≠ e ∧ y ≠ d) : ∀ y ∈ stepC e d dd abs acc c, y ≠ e ∧ y ≠ d := by
  intro y hy
  unfold stepC at hy
  split at hy
  · exact ha y hy
  · rename_i h0
    split at hy
    · rcases List.mem_append.mp hy with h | h
      · exact ha y h
      · rw [List.mem_singleton.mp h]; exact ⟨fun h => h0 (.inl h), fun h => h0 (.inr h)⟩
    · exact ha y (List.dropLast_subset _ hy)
theorem fold_ne : ∀ (cs acc : List α), (∀ y ∈ acc, y ≠ e ∧ y ≠ d) → ∀ y ∈ cs.foldl (stepC e d dd abs) acc, y ≠ e ∧ y ≠ d
  | [], _, ha => ha
  | _ :: cs, _, ha => fold_ne cs _ (step_ne ha)
/-- each beginning of it comes to itself -/
def Fixd (e d dd : α) (abs : Bool) (acc : List α) : Prop := ∀ i, (acc.take i).foldl (stepC e d dd abs) [] = acc.take i
theorem Fixd.whole {acc : List α} (h : Fixd e d dd abs acc) : acc.foldl (stepC e d dd abs) [] = acc := by
  have := h acc.length
  rwa [List.take_length] at this
theorem Fixd.step {acc : List α} (h : Fixd e d dd abs acc) (c : α) : Fixd e d dd abs (stepC e d dd abs acc c) := by
  have hw := h.whole
  intro i
  by_cases h1 : c = e ∨ c = d
  · rw [show stepC e d dd abs acc c = acc from by unfold stepC; rw [if_pos h1]]
    exact h i
  · by_cases h2 : c ≠ dd ∨ (abs = false ∧ acc = []) ∨ acc.getLast? = some dd
    · have e1 : stepC e d dd abs acc c = acc ++ [c] := by unfold stepC; rw [if_neg h1, if_pos h2]
      rw [e1]
      rcases Nat.lt_or_ge acc.length i with g | g
      · rw [List.take_of_length_le (by simp; omega), List.foldl_append, hw, List.foldl_cons, List.foldl_nil, e1]
      · rw [List.take_append_of_le_length g]
        exact h i
    · rw [show stepC e d dd abs acc c = acc.dropLast from by unfold stepC; rw [if_neg h1, if_neg h2], List.dropLast_eq_take, List.take_take]
      exact h _
theorem fold_fixd : ∀ (cs acc : List α), Fixd e d dd abs acc → Fixd e d dd abs (cs.foldl (stepC e d dd abs) acc)
  | [], _, h => h
  | c :: cs, _, h => fold_fixd cs _ (h.step c)
theorem fold_twice (cs : List α) : (cs.foldl (stepC e d dd abs) []).foldl (stepC e d dd abs) [] = cs.foldl (stepC e d dd abs) [] :=
  (fold_fixd cs [] (fun i => by simp)).whole
theorem fold_empties (j : Nat) (acc : List α) : (List.replicate j e).foldl (stepC e d dd abs) acc = acc := by
  induction j with
  | zero => rfl
  | succ j ih => rw [List.replicate_succ, List.foldl_cons, show stepC e d dd abs acc e = acc from by unfold stepC; simp, ih]
end
section
variable {α : Type} [DecidableEq α] {sl dt : α}
def rootK (sl : α) (k : Nat) : List α := if k = 0 then [] else if k = 2 then [sl, sl] else [sl]
/-- k slashes ahead of what does not begin with one -/
theorem lead_root (k : Nat) (r : List α) (hr : r.head? ≠ some sl) : rootL sl (List.replicate k sl ++ r) = rootK sl k := by
  have hr1 : r.take 1 ≠ [sl] := by
    cases r with
    | nil => simp
    | cons a t => simpa using hr
  unfold rootL rootK
  match k with
  | 0 => simp [hr1]
  | 1 => simp [hr1]
  | 2 => simp [hr1, List.replicate]
  | k + 3 => simp [List.replicate]
theorem lead_rest (k : Nat) (r : List α) (hr : r.head? ≠ some sl) : ∃ j, restL sl (List.replicate k sl ++ r) = List.replicate j sl ++ r := by
  have hr1 : r.take 1 ≠ [sl] := by
    cases r with
    | nil => simp
    | cons a t => simpa using hr
  unfold restL
  match k with
  | 0 => exact ⟨0, by simp [hr1]⟩
  | 1 => exact ⟨0, by simp [hr1]⟩
  | 2 => exact ⟨0, by simp [hr1, List.replicate]⟩
  | k + 3 => exact ⟨k + 2, by simp [List.replicate]⟩
theorem split_lead (j : Nat) (r : List α) : splitL sl (List.replicate j sl ++ r) = List.replicate j [] ++ splitL sl r := by
  induction j with
  | zero => rfl
  | succ j ih => rw [List.replicate_succ, List.cons_append, splitL_cons_eq, ih]; rfl
def coreL (sl dt : α) (abs : Bool) (r : List α) : List (List α) := (splitL sl r).foldl (stepC [] [dt] [dt, dt] abs) []
theorem lead_np (k : Nat) (r : List α) (hr : r.head? ≠ some sl) : npL sl dt (List.replicate k sl ++ r) = coreL sl dt (decide (0 < k)) r := by
  obtain ⟨j, hj⟩ := lead_rest k r hr
  unfold npL coreL
  rw [hj, lead_root k r hr, split_lead, List.foldl_append, fold_empties]
  have : decide (rootK sl k ≠ []) = decide (0 < k) := by
    unfold rootK
    split
    · rename_i h; subst h; simp
    · rename_i h
      have : 0 < k := by omega
      split <;> simp [this]
  rw [this]
theorem lead_glue (k : Nat) (r : List α) (hr : r.head? ≠ some sl) : glueL sl dt (List.replicate k sl ++ r) = rootK sl k ++ joinL [sl] (coreL sl dt (decide (0 < k)) r) := by
  unfold glueL
  rw [lead_root k r hr, lead_np k r hr]
theorem lead_of (l : List α) : ∃ k r, l = List.replicate k sl ++ r ∧ r.head? ≠ some sl ∧ r = l.dropWhile (· == sl) ∧ k = (l.takeWhile (· == sl)).length := by
  induction l with
  | nil => exact ⟨0, [], rfl, by simp, rfl, rfl⟩
  | cons a t ih =>
    by_cases h : a = sl
    · subst h
      obtain ⟨k, r, e, h1, h2, h3⟩ := ih
      exact ⟨k + 1, r, by rw [List.replicate_succ, List.cons_append, ← e], h1, by simpa using h2, by simp [h3]⟩
    · exact ⟨0, a :: t, rfl, by simpa using h, by simp [h], by simp [h]⟩
theorem joinL_head (cs : List (List α)) (h0 : ∀ c ∈ cs, c ≠ []) (h1 : ∀ c ∈ cs, sl ∉ c) : (joinL [sl] cs).head? ≠ some sl := by
  cases cs with
  | nil => simp [joinL]
  | cons c r =>
    rw [joinL_cons]
    cases c with
    | nil => exact absurd rfl (h0 [] (.head _))
    | cons a t =>
      have := h1 _ (.head _)
      simp at this ⊢
      exact fun e => this.1 e.symm
theorem rootK_rep (k : Nat) : ∃ k', rootK sl k = List.replicate k' sl ∧ rootK sl k' = rootK sl k ∧ decide (0 < k') = decide (0 < k) := by
  unfold rootK
  by_cases h : k = 0
  · exact ⟨0, by simp [h], by simp [h], by simp [h]⟩
  · by_cases h2 : k = 2
    · exact ⟨2, by simp [h2, List.replicate], by simp [h2], by simp [h2]⟩
    · exact ⟨1, by simp [h, h2], by simp [h, h2], by simp; omega⟩
/-- normpath of a normpath -/
theorem normL_twice (hne : dt ≠ sl) (l : List α) : normL sl dt (normL sl dt l) = normL sl dt l := by
  obtain ⟨k, r, e, hr, _, _⟩ := lead_of (sl := sl) l
  have hdot : normL sl dt [dt] = [dt] := by
    have h := lead_glue (sl := sl) (dt := dt) 0 [dt] (by simpa using hne)
    rw [List.replicate_zero, List.nil_append] at h
    unfold normL
    rw [h]
    have : coreL sl dt (decide (0 < 0)) [dt] = [] := by
      unfold coreL
      rw [splitL_free sl [dt] (by simpa using Ne.symm hne)]
      unfold stepC; simp
    rw [this]; simp [rootK, joinL]
  have hg : glueL sl dt l = rootK sl k ++ joinL [sl] (coreL sl dt (decide (0 < k)) r) := by rw [e]; exact lead_glue k r hr
  by_cases h : glueL sl dt l = []
  · have : normL sl dt l = [dt] := by unfold normL; rw [if_pos h]
    rw [this, hdot]
  · have hn : normL sl dt l = glueL sl dt l := by unfold normL; rw [if_neg h]
    rw [hn]
    have hc0 : ∀ c ∈ coreL sl dt (decide (0 < k)) r, c ≠ [] := fun c hc => (fold_ne _ _ (by simp) c hc).1
    have hc1 : ∀ c ∈ coreL sl dt (decide (0 < k)) r, sl ∉ c := fold_all _ _ (by simp) (splitL_mem sl r)
    obtain ⟨k', e1, e2, e3⟩ := rootK_rep (sl := sl) k
    have h2 : glueL sl dt (glueL sl dt l) = glueL sl dt l := by
      have h3 := lead_glue (sl := sl) (dt := dt) k' (joinL [sl] (coreL sl dt (decide (0 < k)) r)) (joinL_head _ hc0 hc1)
      rw [← e1, e2, e3] at h3
      rw [hg, h3]
      congr 2
      unfold coreL
      by_cases hz : (splitL sl r).foldl (stepC [] [dt] [dt, dt] (decide (0 < k))) [] = []
      · rw [hz]
        show (splitL sl []).foldl _ [] = []
        unfold splitL stepC; simp
      · rw [splitL_join sl _ hz hc1]
        exact fold_twice _
    unfold normL
    rw [h2, if_neg h]
end
theorem normS_twice (x : Str) : normS (normS x) = normS x := by
  apply cl_inj
  rw [cl_normS, cl_normS]
  exact normL_twice (by decide) _
end Mine
end
section
open PySem PySem.W PyProof.Rows PySem.Calls
open PySem.Builtin.Str
set_option maxRecDepth 100000
namespace Mine
/-- what stands between the first and the last piece -/
theorem parts_of {α : Type} {A M B cs : List α} {a b : α} (hA : A ≠ []) (hB : B ≠ []) (h : A ++ (M ++ B) = a :: (cs ++ [b])) : ∃ A' B', A = a :: A' ∧ B = B' ++ [b] ∧ cs = A' ++ (M ++ B') := by
  cases A with
  | nil => exact absurd rfl hA
  | cons x A' =>
    rcases List.eq_nil_or_concat B with rfl | ⟨B', y, rfl⟩
    · exact absurd rfl hB
    · rw [List.cons_append, List.cons.injEq] at h
      obtain ⟨h1, h2⟩ := h
      rw [List.concat_eq_append, ← List.append_assoc, ← List.append_assoc] at h2
      obtain ⟨h3, h4⟩ := List.append_inj' h2 rfl
      refine ⟨A', B', by rw [h1], ?_, by rw [← h3, List.append_assoc]⟩
      rw [List.concat_eq_append, (List.cons.inj h4).1]
theorem Wd_mid {abs : Bool} {N : List (List Nat)} (m : List Nat) (hm : ∀ acc, (splitL 47 m).foldl (stepL abs) acc = acc) (u v : List Nat) (h : Wd abs N (u ++ (47 :: (m ++ [47])) ++ v)) : Wd abs N (u ++ [47] ++ v) := by
  obtain ⟨cs, h1, h2, h3⟩ := h
  rw [show u ++ (47 :: (m ++ [47])) ++ v = u ++ 47 :: (m ++ 47 :: v) from by simp, splitL_app, splitL_app] at h1
  obtain ⟨A', B', hA, hB, rfl⟩ := parts_of (splitL_ne 47 u) (splitL_ne 47 v) h1
  refine ⟨A' ++ B', ?_, ?_, ?_⟩
  · rw [show u ++ [47] ++ v = u ++ 47 :: v from by simp, splitL_app, hA, hB]; simp
  · intro c hc
    refine h2 c ?_
    rcases List.mem_append.mp hc with h | h
    · exact List.mem_append.mpr (.inl h)
    · exact List.mem_append.mpr (.inr (List.mem_append.mpr (.inr h)))
  · rw [List.foldl_append, List.foldl_append, hm] at h3
    rw [List.foldl_append]; exact h3
theorem split_snoc {c a : Nat} (h : a ≠ c) : ∀ u : List Nat, ∃ P q, splitL c (u ++ [a]) = P ++ [q ++ [a]]
  | [] => ⟨[], [], by rw [List.nil_append, splitL_free c [a] (by simpa using Ne.symm h)]; rfl⟩
  | b :: u => by
    obtain ⟨P, q, e⟩ := split_snoc h u
    by_cases hb : b = c
    · subst hb
      exact ⟨[] :: P, q, by rw [List.cons_append, splitL_cons_eq, e]; rfl⟩
    · rw [List.cons_append, splitL_cons_ne hb, e]
      cases P with
      | nil => exact ⟨[], [b] ++ q, by simp [onHead]⟩
      | cons p P => exact ⟨([b] ++ p) :: P, q, by simp [onHead]⟩
theorem menu_no94 : ∀ c ∈ menuL, 94 ∉ c := by decide
theorem Wd_caret {N : List (List Nat)} (u v : List Nat) (h : Wd true N (u ++ [94, 47, 46, 46, 47] ++ v)) : Wd true N (u ++ [94, 47] ++ v) := by
  obtain ⟨cs, h1, h2, h3⟩ := h
  rw [show u ++ [94, 47, 46, 46, 47] ++ v = (u ++ [94]) ++ 47 :: ([46, 46] ++ 47 :: v) from by simp, splitL_app, splitL_app, splitL_free 47 [46, 46] (by decide)] at h1
  obtain ⟨A', B', hA, hB, rfl⟩ := parts_of (splitL_ne 47 _) (splitL_ne 47 v) h1
  have hA0 : A' = [] := by
    obtain ⟨P, q, e⟩ := split_snoc (c := 47) (a := 94) (by decide) u
    rw [e] at hA
    cases P with
    | nil => simpa using (congrArg List.tail hA).symm
    | cons p P =>
      have : A' = P ++ [q ++ [94]] := by simpa using (congrArg List.tail hA).symm
      have hm := h2 (q ++ [94]) (by rw [this]; simp)
      exact absurd (by simp) (menu_no94 _ hm)
  subst hA0
  refine ⟨B', ?_, ?_, ?_⟩
  · rw [show u ++ [94, 47] ++ v = (u ++ [94]) ++ 47 :: v from by simp, splitL_app, hA, hB]; simp
  · intro c hc
    exact h2 c (by simp [hc])
  · rw [List.nil_append, List.foldl_append] at h3
    have : [[46, 46]].foldl (stepL true) [] = [] := by decide
    rw [this] at h3
    exact h3
theorem skip_e (abs : Bool) (acc : List (List Nat)) : (splitL 47 []).foldl (stepL abs) acc = acc := by
  show stepC [] [46] [46, 46] abs acc [] = acc
  unfold stepC; simp
theorem skip_d (abs : Bool) (acc : List (List Nat)) : (splitL 47 [46]).foldl (stepL abs) acc = acc := by
  rw [splitL_free 47 [46] (by decide)]
  show stepC [] [46] [46, 46] abs acc [46] = acc
  unfold stepC; simp
theorem skip_n {n : List Nat} (h : n ∈ [[97], [98], [97, 98]]) (abs : Bool) (acc : List (List Nat)) : (splitL 47 (n ++ 47 :: [46, 46])).foldl (stepL abs) acc = acc := by
  have h47 : 47 ∉ n := by revert n; decide
  have hne : n ≠ [] ∧ n ≠ [46] ∧ n ≠ [46, 46] := by revert n; decide
  rw [splitL_app, splitL_free 47 n h47, splitL_free 47 [46, 46] (by decide)]
  show stepC [] [46] [46, 46] abs (stepC [] [46] [46, 46] abs acc n) [46, 46] = acc
  have e1 : stepC [] [46] [46, 46] abs acc n = acc ++ [n] := by
    unfold stepC; rw [if_neg (by simp [hne.1, hne.2.1]), if_pos (.inl hne.2.2)]
  rw [e1]
  unfold stepC
  rw [if_neg (by decide), if_neg (by simp [hne.2.2])]
  simp
theorem cl_p1 : cl (Str.ofString "//") = [47, 47] := by decide +kernel
theorem cl_p2 : cl (Str.ofString "/./") = [47, 46, 47] := by decide +kernel
theorem cl_p3 : cl (Str.ofString "/a/../") = [47, 97, 47, 46, 46, 47] := by decide +kernel
theorem cl_p4 : cl (Str.ofString "/b/../") = [47, 98, 47, 46, 46, 47] := by decide +kernel
theorem cl_p5 : cl (Str.ofString "/ab/../") = [47, 97, 98, 47, 46, 46, 47] := by decide +kernel
theorem cl_p6 : cl (Str.ofString "^/../") = [94, 47, 46, 46, 47] := by decide +kernel
theorem cl_p7 : cl (Str.ofString "^/") = [94, 47] := by decide +kernel
theorem Wd_rep {abs : Bool} {N : List (List Nat)} {y : Str} {m : List Nat} (hy : cl y = 47 :: (m ++ [47])) (hm : ∀ acc, (splitL 47 m).foldl (stepL abs) acc = acc) {w : Str} (h : Wd abs N (cl w)) : Wd abs N (cl (rep1 y (Str.ofString "/") w)) :=
  cl_rep1 (fun u v h => by rw [hy] at h; rw [cl_sl]; exact Wd_mid m hm u v h) h
theorem Wd_rep5 {abs : Bool} {N : List (List Nat)} {w : Str} (h : Wd abs N (cl w)) : Wd abs N (cl (rep5 w)) := by
  unfold rep5
  refine Wd_rep (m := [97, 98, 47, 46, 46]) cl_p5 (skip_n (n := [97, 98]) (by decide) abs) ?_
  refine Wd_rep (m := [98, 47, 46, 46]) cl_p4 (skip_n (n := [98]) (by decide) abs) ?_
  refine Wd_rep (m := [97, 47, 46, 46]) cl_p3 (skip_n (n := [97]) (by decide) abs) ?_
  refine Wd_rep (m := [46]) cl_p2 (skip_d abs) ?_
  exact Wd_rep (m := []) cl_p1 (skip_e abs) h
theorem Wd_turn {abs : Bool} {N : List (List Nat)} {w : Str} (h : Wd abs N (cl w)) : Wd abs N (cl (turnS abs w)) := by
  unfold turnS
  cases abs with
  | false => rw [if_neg (by decide)]; exact Wd_rep5 h
  | true =>
    rw [if_pos rfl]
    refine cl_rep1 (fun u v h => ?_) (Wd_rep5 h)
    rw [cl_p6] at h
    rw [cl_p7]
    exact Wd_caret u v h
/-- no pattern stands in it -/
def Calm (abs : Bool) (l : List Nat) : Prop := (∀ m ∈ [[], [46], [97, 47, 46, 46], [98, 47, 46, 46], [97, 98, 47, 46, 46]], ∀ u v, l ≠ u ++ (47 :: (m ++ [47])) ++ v) ∧ (abs = true → ∀ u v, l ≠ u ++ [94, 47, 46, 46, 47] ++ v)
theorem rep5_no {w : Str} (h : (rep5 w).length = w.length) : rep5 w = w ∧ ∀ m ∈ [[], [46], [97, 47, 46, 46], [98, 47, 46, 46], [97, 98, 47, 46, 46]], ∀ u v, cl w ≠ u ++ (47 :: (m ++ [47])) ++ v := by
  unfold rep5 at h ⊢
  have l1 := rep1_len (y := Str.ofString "//") (z := Str.ofString "/") (x := w) (by decide +kernel) (by decide +kernel)
  have l2 := fun w => rep1_len (y := Str.ofString "/./") (z := Str.ofString "/") (x := w) (by decide +kernel) (by decide +kernel)
  have l3 := fun w => rep1_len (y := Str.ofString "/a/../") (z := Str.ofString "/") (x := w) (by decide +kernel) (by decide +kernel)
  have l4 := fun w => rep1_len (y := Str.ofString "/b/../") (z := Str.ofString "/") (x := w) (by decide +kernel) (by decide +kernel)
  have l5 := fun w => rep1_len (y := Str.ofString "/ab/../") (z := Str.ofString "/") (x := w) (by decide +kernel) (by decide +kernel)
  have a2 := l2 (rep1 (Str.ofString "//") (Str.ofString "/") w)
  have a3 := l3 (rep1 (Str.ofString "/./") (Str.ofString "/") (rep1 (Str.ofString "//") (Str.ofString "/") w))
  have a4 := l4 (rep1 (Str.ofString "/a/../") (Str.ofString "/") (rep1 (Str.ofString "/./") (Str.ofString "/") (rep1 (Str.ofString "//") (Str.ofString "/") w)))
  have a5 := l5 (rep1 (Str.ofString "/b/../") (Str.ofString "/") (rep1 (Str.ofString "/a/../") (Str.ofString "/") (rep1 (Str.ofString "/./") (Str.ofString "/") (rep1 (Str.ofString "//") (Str.ofString "/") w))))
  obtain ⟨e1, n1⟩ := rep1_no (y := Str.ofString "//") (z := Str.ofString "/") (x := w) (by decide +kernel) (by decide +kernel) (by decide +kernel) (by omega)
  rw [e1] at h a2 a3 a4 a5 ⊢
  obtain ⟨e2, n2⟩ := rep1_no (y := Str.ofString "/./") (z := Str.ofString "/") (x := w) (by decide +kernel) (by decide +kernel) (by decide +kernel) (by omega)
  rw [e2] at h a3 a4 a5 ⊢
  obtain ⟨e3, n3⟩ := rep1_no (y := Str.ofString "/a/../") (z := Str.ofString "/") (x := w) (by decide +kernel) (by decide +kernel) (by decide +kernel) (by omega)
  rw [e3] at h a4 a5 ⊢
  obtain ⟨e4, n4⟩ := rep1_no (y := Str.ofString "/b/../") (z := Str.ofString "/") (x := w) (by decide +kernel) (by decide +kernel) (by decide +kernel) (by omega)
  rw [e4] at h a5 ⊢
  obtain ⟨e5, n5⟩ := rep1_no (y := Str.ofString "/ab/../") (z := Str.ofString "/") (x := w) (by decide +kernel) (by decide +kernel) (by decide +kernel) (by omega)
  refine ⟨e5, ?_⟩
  rw [cl_p1] at n1
  rw [cl_p2] at n2
  rw [cl_p3] at n3
  rw [cl_p4] at n4
  rw [cl_p5] at n5
  intro m hm
  simp only [List.mem_cons, List.not_mem_nil, or_false] at hm
  rcases hm with rfl | rfl | rfl | rfl | rfl
  · exact n1
  · exact n2
  · exact n3
  · exact n4
  · exact n5
theorem turn_len {abs : Bool} {w : Str} : (turnS abs w).length ≤ w.length := by
  unfold turnS
  split
  · exact Nat.le_trans (rep1_len (by decide +kernel) (by decide +kernel)) rep5_len
  · exact rep5_len
theorem turn_no {abs : Bool} {w : Str} (h : (turnS abs w).length = w.length) : turnS abs w = w ∧ Calm abs (cl w) := by
  unfold turnS at h ⊢
  cases abs with
  | false =>
    rw [if_neg (by decide)] at h ⊢
    obtain ⟨e, n⟩ := rep5_no h
    exact ⟨e, n, fun h => absurd h (by decide)⟩
  | true =>
    rw [if_pos rfl] at h ⊢
    have l1 := rep1_len (y := Str.ofString "^/../") (z := Str.ofString "^/") (x := rep5 w) (by decide +kernel) (by decide +kernel)
    have l2 := rep5_len (x := w)
    obtain ⟨e, n⟩ := rep5_no (w := w) (by omega)
    rw [e] at h ⊢
    obtain ⟨e6, n6⟩ := rep1_no (y := Str.ofString "^/../") (z := Str.ofString "^/") (x := w) (by decide +kernel) (by decide +kernel) (by decide +kernel) h
    rw [cl_p6] at n6
    exact ⟨e6, n, fun _ => n6⟩
theorem occ_of {l : List Nat} {X M Y : List (List Nat)} (hX : X ≠ []) (hM : M ≠ []) (hY : Y ≠ []) (h : splitL 47 l = X ++ (M ++ Y)) : l = joinL [47] X ++ (47 :: (joinL [47] M ++ [47])) ++ joinL [47] Y := by
  have e := joinL_split 47 l
  rw [h, joinL_app _ _ _ hX (by simp [hM]), joinL_app _ _ _ hM hY] at e
  rw [← e]
  simp
/-- where no pattern stands the pieces come to themselves -/
theorem calm_fix {abs : Bool} {l : List Nat} {cs : List (List Nat)} (hc : Calm abs l) (hs : splitL 47 l = [94] :: (cs ++ [[]])) (hm : ∀ c ∈ cs, c ∈ menuL) : ∀ (q p : List (List Nat)), cs = p ++ q → p.foldl (stepL abs) [] = p → cs.foldl (stepL abs) [] = cs
  | [], p, e, h => by rw [e, List.append_nil]; exact h
  | c :: q, p, e, h => by
    refine calm_fix hc hs hm q (p ++ [c]) (by rw [e]; simp) ?_
    rw [List.foldl_append, h]
    show stepC [] [46] [46, 46] abs p c = p ++ [c]
    have hcm := hm c (by rw [e]; simp)
    have hocc : ∀ (X M Y : List (List Nat)), p ++ c :: q = X ++ (M ++ Y) → M ≠ [] → joinL [47] M ∈ [[], [46], [97, 47, 46, 46], [98, 47, 46, 46], [97, 98, 47, 46, 46]] → False := by
      intro X M Y h1 h2 h3
      refine hc.1 _ h3 (joinL [47] ([94] :: X)) (joinL [47] (Y ++ [[]])) ?_
      refine occ_of (by simp) h2 (by simp) ?_
      rw [hs, e, h1]; simp
    have h1 : c ≠ [] := fun h0 => hocc p [c] q (by simp) (by simp) (by rw [h0]; decide)
    have h2 : c ≠ [46] := fun h0 => hocc p [c] q (by simp) (by simp) (by rw [h0]; decide)
    unfold stepC
    rw [if_neg (by simp [h1, h2])]
    by_cases h3 : c = [46, 46]
    · subst h3
      rw [if_pos]
      refine .inr ?_
      rcases List.eq_nil_or_concat p with rfl | ⟨p', y, rfl⟩
      · refine .inl ⟨?_, rfl⟩
        cases abs with
        | false => rfl
        | true =>
          refine absurd ?_ (hc.2 rfl [] (joinL [47] (q ++ [[]])))
          have := occ_of (X := [[94]]) (M := [[46, 46]]) (Y := q ++ [[]]) (by simp) (by simp) (by simp) (by rw [hs, e]; simp)
          rw [this]; simp [joinL]
      · refine .inr ?_
        rw [List.concat_eq_append] at h e ⊢
        have hy := hm y (by rw [e]; simp)
        have hy0 : y ≠ [] ∧ y ≠ [46] := by
          have := fold_ne (e := []) (d := [46]) (dd := [46, 46]) (abs := abs) (p' ++ [y]) [] (by simp) y
          exact this (by
            have h' : (p' ++ [y]).foldl (stepC [] [46] [46, 46] abs) [] = p' ++ [y] := h
            rw [h']; simp)
        have hno : joinL [47] [y, [46, 46]] ∈ [[], [46], [97, 47, 46, 46], [98, 47, 46, 46], [97, 98, 47, 46, 46]] → False := fun h => hocc p' [y, [46, 46]] q (by simp) (by simp) h
        have : y = [46, 46] := by
          simp only [menuL, List.mem_cons, List.not_mem_nil, or_false] at hy
          rcases hy with rfl | rfl | rfl | rfl | rfl | rfl
          · exact absurd (by decide) hno
          · rfl
          · exact absurd (by decide) hno
          · exact absurd rfl hy0.2
          · exact absurd (by decide) hno
          · exact absurd rfl hy0.1
        rw [this]; simp
    · rw [if_pos (.inl h3)]
theorem Wd_done {abs : Bool} {N : List (List Nat)} {l : List Nat} (h : Wd abs N l) (hc : Calm abs l) : splitL 47 l = [94] :: (N ++ [[]]) := by
  obtain ⟨cs, h1, h2, h3⟩ := h
  rw [calm_fix hc h1 h2 cs [] rfl rfl] at h3
  rw [h1, h3]
end Mine
end
section
open PySem PySem.W PyProof.Rows PySem.Calls
open PySem.Builtin.Str
set_option maxRecDepth 100000
namespace Mine
theorem cl_lstrip (x : Str) : cl (Txt.lstripChars x (Str.ofString "/")) = (cl x).drop ((cl x).takeWhile (· == 47)).length := by
  have hg : (Str.ofString "/").cps.contains = (fun a => a == 47) := by
    funext a
    rw [sl_eq]
    simp
    rfl
  unfold Txt.lstripChars
  rw [PyProof.Rows.stripBy_eq]
  show (strSub x _ _).cps.toList = _
  rw [StrLaws.strSub_toList]
  unfold stripLo stripHi
  rw [if_pos rfl, if_neg (by decide)]
  show ((cl x).drop ((cl x).takeWhile (Str.ofString "/").cps.contains).length).take (x.length - ((cl x).takeWhile (Str.ofString "/").cps.contains).length) = _
  rw [hg]
  exact List.take_of_length_le (by rw [List.length_drop, cl_len]; exact Nat.le_refl _)
theorem slS_lead (x : Str) : ∃ (k : Nat) (r : List Nat), cl x = List.replicate k 47 ++ r ∧ r.head? ≠ some 47 ∧ slS x = (k : Int) ∧ cl (Txt.slice x (some (slS x)) none) = r ∧ k ≤ x.length ∧ absS x = decide (0 < k) := by
  obtain ⟨k, r, e, h1, h2, h3⟩ := lead_of (sl := 47) (cl x)
  have hlen : k + r.length = x.length := by
    have := congrArg List.length e
    rw [cl_len] at this
    simp at this
    omega
  have hs : slS x = (k : Int) := by
    have := congrArg List.length (cl_lstrip x)
    rw [cl_len, ← h3, e] at this
    simp at this
    unfold slS
    omega
  refine ⟨k, r, e, h1, hs, ?_, by omega, ?_⟩
  · rw [hs, cl_slice_from, e]
    rw [List.drop_append_of_le_length (by simp), List.drop_of_length_le (by simp)]
    rfl
  · unfold absS
    rw [hs]
    simp
theorem coreN_eq {x : Str} {k : Nat} {r : List Nat} (h1 : cl (Txt.slice x (some (slS x)) none) = r) (h2 : absS x = decide (0 < k)) : coreN x = coreL 47 46 (decide (0 < k)) r := by
  unfold coreN coreL
  rw [h1, h2]
theorem s_start' {x : Str} (h : x.length ≤ 100 ∧ OkP x) : SInv x (Str.ofString "") (Str.ofString "^/" ++ Txt.slice x (some (slS x)) none ++ Str.ofString "/") := by
  obtain ⟨k, r, e, h1, hs, hr, hk, ha⟩ := slS_lead x
  have hw : cl (Str.ofString "^/" ++ Txt.slice x (some (slS x)) none ++ Str.ofString "/") = [94] ++ 47 :: (r ++ 47 :: []) := by
    rw [cl_app, cl_app, cl_p7, hr, cl_sl]; simp
  have hl := congrArg List.length hw
  rw [cl_len] at hl
  have hrl := congrArg List.length e
  rw [cl_len] at hrl
  simp at hl hrl
  refine ⟨⟨splitL 47 r, ?_, ?_, ?_⟩, by omega, ?_⟩
  · rw [hw, splitL_app, splitL_app, splitL_free 47 [94] (by decide)]; rfl
  · intro c hc
    refine h.2 c ?_
    rw [e, split_lead]
    exact List.mem_append.mpr (.inr hc)
  · unfold coreN; rw [hr]
  · intro h0
    have := congrArg Str.length h0
    rw [hl] at this
    rw [show (Str.ofString "").length = 0 from by decide +kernel] at this
    omega
theorem s_start {x : Str} (h : x.length ≤ 100 ∧ OkP x) : (Str.ofString "^/" ++ Txt.slice x (some ((x.length : Int) - ((Txt.lstripChars x (Str.ofString "/")).length : Int))) none ++ Str.ofString "/").length ≤ 200 ∧
    SInv x (Str.ofString "") (Str.ofString "^/" ++ Txt.slice x (some ((x.length : Int) - ((Txt.lstripChars x (Str.ofString "/")).length : Int))) none ++ Str.ofString "/") :=
  ⟨(s_start' h).len, s_start' h⟩
theorem s_turn {x before word : Str} (h : SInv x before word) : SInv x word (turnS (absS x) word) :=
  ⟨Wd_turn h.1, Nat.le_trans turn_len h.len, fun e => by rw [← e]; exact e.symm⟩
theorem s_turn1 {x before word : Str} (h : SInv x before word) (ha : (0 : Int) < (x.length : Int) - ((Txt.lstripChars x (Str.ofString "/")).length : Int)) :
    (rep1 (Str.ofString "^/../") (Str.ofString "^/") (rep5 word)).length ≤ 200 ∧ SInv x word (rep1 (Str.ofString "^/../") (Str.ofString "^/") (rep5 word)) := by
  have h1 := s_turn h
  have : absS x = true := by unfold absS slS; simpa using ha
  rw [this] at h1
  unfold turnS at h1
  rw [if_pos rfl] at h1
  exact ⟨h1.len, h1⟩
theorem s_turn2 {x before word : Str} (h : SInv x before word) (ha : ¬ (0 : Int) < (x.length : Int) - ((Txt.lstripChars x (Str.ofString "/")).length : Int)) :
    (rep5 word).length ≤ 200 ∧ SInv x word (rep5 word) := by
  have h1 := s_turn h
  have : absS x = false := by unfold absS slS; exact decide_eq_false ha
  rw [this] at h1
  unfold turnS at h1
  rw [if_neg (by decide)] at h1
  exact ⟨h1.len, h1⟩
theorem s_mu {abs : Bool} {before word : Str} (h : (before != word) = true) : wordMu word (turnS abs word) < wordMu before word := by
  unfold wordMu
  rw [if_neg (bne_iff_ne.mp h)]
  split
  · omega
  · rename_i h1
    have h2 := turn_len (abs := abs) (w := word)
    have h3 : (turnS abs word).length ≠ word.length := fun e => h1 (turn_no e).1.symm
    omega
theorem s_mu1 {before word : Str} (h : (before != word) = true) : wordMu word (rep1 (Str.ofString "^/../") (Str.ofString "^/") (rep5 word)) < wordMu before word := s_mu (abs := true) h
theorem s_mu2 {before word : Str} (h : (before != word) = true) : wordMu word (rep5 word) < wordMu before word := s_mu (abs := false) h
theorem cl_mid {w : Str} {N : List (List Nat)} (h : splitL 47 (cl w) = [94] :: (N ++ [[]])) : cl (Txt.slice w (some 2) (some (-1))) = joinL [47] N := by
  have e := joinL_split 47 (cl w)
  rw [h] at e
  have h2 := clipAt_nat w.length 2
  have h1 := clipAt_neg w.length 1 (Nat.le_refl _)
  rw [cl_slice]
  show List.take (clipAt w.length (-1) - clipAt w.length 2) (List.drop (clipAt w.length 2) (cl w)) = _
  have h1' : clipAt w.length (-1) = w.length - 1 := h1
  have h2' : clipAt w.length 2 = min 2 w.length := h2
  rw [h1', h2', ← cl_len, ← e]
  by_cases hN : N = []
  · subst hN
    simp [joinL]
  · have e2 : joinL [47] ([94] :: (N ++ [[]])) = [94, 47] ++ (joinL [47] N ++ [47]) := by
      rw [show [94] :: (N ++ [[]]) = [[94]] ++ (N ++ [[]]) from rfl, joinL_app _ _ _ (by simp) (by simp), joinL_app _ _ _ hN (by simp)]
      simp [joinL]
    rw [e2]
    have hl : ([94, 47] ++ (joinL [47] N ++ [47])).length = (joinL [47] N).length + 3 := by simp
    rw [hl, Nat.min_eq_left (by omega)]
    show List.take ((joinL [47] N).length + 3 - 1 - 2) (joinL [47] N ++ [47]) = _
    rw [show (joinL [47] N).length + 3 - 1 - 2 = (joinL [47] N).length from by omega, List.take_left]
def rootN (n : Int) : Str := if n = 0 then Str.ofString "" else if n = 2 then Str.ofString "//" else Str.ofString "/"
theorem rootN_0 {n : Int} (h : n = 0) : rootN n = Str.ofString "" := by unfold rootN; rw [if_pos h]
theorem rootN_2 {n : Int} (h0 : n ≠ 0) (h : n = 2) : rootN n = Str.ofString "//" := by unfold rootN; rw [if_neg h0, if_pos h]
theorem rootN_1 {n : Int} (h0 : n ≠ 0) (h : n ≠ 2) : rootN n = Str.ofString "/" := by unfold rootN; rw [if_neg h0, if_neg h]
theorem s_glue {x before word : Str} (h : SInv x before word) (hb : (before != word) = false) : cl (rootN (slS x) ++ Txt.slice word (some 2) (some (-1))) = glueL 47 46 (cl x) := by
  obtain ⟨k, r, e, h1, hs, hr, hk, ha⟩ := slS_lead x
  have hfix := h.2.2 (by simpa using hb)
  have hd := Wd_done h.1 (turn_no (congrArg Str.length hfix)).2
  rw [cl_app, cl_mid hd, coreN_eq hr ha, e, lead_glue k r h1]
  congr 1
  rw [hs]
  unfold rootN rootK
  by_cases h0 : k = 0
  · rw [if_pos (by omega), if_pos h0]; exact cl_emp
  · rw [if_neg (by omega), if_neg h0]
    by_cases h2 : k = 2
    · rw [if_pos (by omega), if_pos h2]; exact cl_p1
    · rw [if_neg (by omega), if_neg h2]; exact cl_sl
theorem s_end1 {x before word R : Str} (h : SInv x before word) (hb : (before != word) = false) (hr : rootN ((x.length : Int) - ((Txt.lstripChars x (Str.ofString "/")).length : Int)) = R) (hn : (R ++ Txt.slice word (some 2) (some (-1)) != Str.ofString "") = true) :
    normS x = R ++ Txt.slice word (some 2) (some (-1)) := by
  subst hr
  have hg := s_glue h hb
  apply cl_inj
  rw [cl_normS]
  unfold normL
  rw [if_neg]
  · exact hg.symm
  · rw [← hg]
    have := (cl_bne _ _).mp hn
    rw [cl_emp] at this
    exact this
theorem s_end2 {x before word R : Str} (h : SInv x before word) (hb : (before != word) = false) (hr : rootN ((x.length : Int) - ((Txt.lstripChars x (Str.ofString "/")).length : Int)) = R) (hn : (R ++ Txt.slice word (some 2) (some (-1)) != Str.ofString "") = false) :
    normS x = Str.ofString "." := by
  subst hr
  have hg := s_glue h hb
  apply cl_inj
  rw [cl_normS]
  unfold normL
  rw [if_pos]
  · exact cl_dot.symm
  · rw [← hg]
    have : rootN (slS x) ++ Txt.slice word (some 2) (some (-1)) = Str.ofString "" := by
      have h' : (rootN (slS x) ++ Txt.slice word (some 2) (some (-1)) != Str.ofString "") = false := hn
      simpa using h'
    rw [this, cl_emp]
end Mine
end
section
open PySem PySem.W PyProof.Rows PySem.Calls
open PySem.Builtin._codecs
set_option maxRecDepth 100000
namespace Mine
theorem enc_fold : ∀ (l : List Nat) (out : List UInt8), (∀ c ∈ l, c < 128) → (l.foldl (fun acc y => acc ++ (utf8Codec.bytesOf y).toArray) out.toArray) = (out ++ l.map UInt8.ofNat).toArray
  | [], out, _ => by simp
  | c :: r, out, h => by
    have hc := h c (.head _)
    have e : utf8Codec.bytesOf c = [UInt8.ofNat c] := by
      show Str.utf8Of c = _
      unfold Str.utf8Of
      rw [if_pos hc]
    rw [List.foldl_cons, e]
    have ih := enc_fold r (out ++ [UInt8.ofNat c]) fun d hd => h d (.tail _ hd)
    simpa using ih
theorem enc_bad {c : Nat} (h : c < 128) : utf8Codec.bad c = false := by
  show Str.isSurrogate c = false
  unfold Str.isSurrogate
  simp
  omega
section
variable {M : Model} {A : Around} {E : Value → Shared → Prop} {s : Shared}
theorem loop_enc {x : Str} {f : Nat → Nat × Array UInt8 × Faults → Sem (ForInStep (Nat × Array UInt8 × Faults))} {Q : Nat × Array UInt8 × Faults → Shared → Prop}
    (h1 : 0 < x.length → ∀ k (Q : ForInStep (Nat × Array UInt8 × Faults) → Shared → Prop), Q (.yield (x.length, encA x, {})) s → wpAny M A (f k (0, #[], {})) Q E s)
    (h2 : ∀ k (Q : ForInStep (Nat × Array UInt8 × Faults) → Shared → Prop), Q (.done (x.length, encA x, {})) s → wpAny M A (f k (x.length, encA x, {})) Q E s)
    (h : ∀ i, Q (i, encA x, {}) s) : wpAny M A (forIn ([0:x.length] : Std.Legacy.Range) (0, #[], {}) f) Q E s := by
  rw [Std.Legacy.Range.forIn_eq_forIn_range']
  have hsz : ([0:x.length] : Std.Legacy.Range).size = x.length := by simp [Std.Legacy.Range.size]
  show wpAny M A (forIn (List.range' 0 ([0:x.length] : Std.Legacy.Range).size 1) (0, #[], {}) f) Q E s
  rw [hsz]
  cases hn : x.length with
  | zero =>
    rw [List.range'_zero, List.forIn_nil]
    refine wpAny_pure ?_
    have : encA x = #[] := by
      have h0 : cl x = [] := List.eq_nil_of_length_eq_zero (by rw [cl_len, hn])
      unfold encA
      show ((cl x).map _).toArray = _
      rw [h0]; rfl
    have h' := h 0
    rw [this] at h'
    exact h'
  | succ n =>
    rw [List.range'_succ, List.forIn_cons]
    refine wpAny_bind (h1 (by omega) 0 _ ?_)
    cases n with
    | zero =>
      dsimp only
      rw [List.range'_zero, List.forIn_nil]
      exact wpAny_pure (h _)
    | succ n =>
      dsimp only
      rw [List.range'_succ, List.forIn_cons]
      exact wpAny_bind (h2 _ _ (wpAny_pure (h _)))
theorem wp_narrow {id : String} {x : Str} {self : Value} (hx : Asc x) (hz : x.length ≤ 1000) {Q : Array UInt8 → Shared → Prop} (h : Q (encA x) s) : wpAny M A (encodeNarrow id utf8Codec none self x) Q E s := by
  have hsize : (encA x).size = x.length := by
    unfold encA
    show ((cl x).map _).toArray.size = _
    rw [List.size_toArray, List.length_map, cl_len]
  show wpAny M A (forIn ([0:x.length] : Std.Legacy.Range) ((0 : Nat), (#[] : Array UInt8), ({} : Faults)) _ >>= fun _ => pure _) Q E s
  refine wpAny_bind (loop_enc (x := x) ?_ ?_ ?_)
  · intro hpos k Q hq
    show wpAny M A (if (#[] : Array UInt8).size > sizeLine then _ else _) Q E s
    rw [if_neg (by rw [sizeLine_eq]; decide)]
    have hlt : 0 < x.cps.size := hpos
    have h0 : x.cps[0]? = some x.cps[0] := Array.getElem?_eq_getElem hlt
    have hc0 : x.cps[0] < 128 := hx _ (by
      show x.cps[0] ∈ x.cps.toList
      simp)
    show wpAny M A (match x.cps[0]? with | some c => _ | _ => _) Q E s
    rw [h0]
    show wpAny M A (if (!utf8Codec.bad x.cps[0]) = true then _ else _) Q E s
    rw [if_pos (by rw [enc_bad hc0]; rfl)]
    have hcl : (Array.findIdx? utf8Codec.bad (x.cps.extract 0 x.cps.size)).getD (x.cps.extract 0 x.cps.size).size = x.cps.size := by
      have : Array.findIdx? utf8Codec.bad (x.cps.extract 0 x.cps.size) = none := by
        rw [Array.findIdx?_eq_none_iff]
        intro c hc
        simp only [Array.extract_size] at hc
        exact enc_bad (hx c (by show c ∈ x.cps.toList; simpa using hc))
      rw [this]
      simp
    have hout : Array.foldl (fun acc y => acc ++ (utf8Codec.bytesOf y).toArray) (#[] : Array UInt8) ((x.cps.extract 0 x.cps.size).extract 0 x.cps.size) = encA x := by
      have e : ((x.cps.extract 0 x.cps.size).extract 0 x.cps.size) = x.cps := by simp
      rw [e, ← Array.foldl_toList]
      have := enc_fold (cl x) [] hx
      unfold encA
      rw [List.nil_append] at this
      exact this
    show wpAny M A (pure (ForInStep.yield (0 + (Array.findIdx? utf8Codec.bad (x.cps.extract 0 x.cps.size)).getD (x.cps.extract 0 x.cps.size).size, Array.foldl (fun acc y => acc ++ (utf8Codec.bytesOf y).toArray) (#[] : Array UInt8) ((x.cps.extract 0 x.cps.size).extract 0 ((Array.findIdx? utf8Codec.bad (x.cps.extract 0 x.cps.size)).getD (x.cps.extract 0 x.cps.size).size)), ({} : Faults)))) Q E s
    rw [hcl, hout, Nat.zero_add]
    exact wpAny_pure hq
  · intro k Q hq
    show wpAny M A (if (encA x).size > sizeLine then _ else _) Q E s
    rw [if_neg (by rw [sizeLine_eq, hsize]; omega)]
    have h0 : x.cps[x.length]? = none := Array.getElem?_eq_none (Nat.le_refl _)
    show wpAny M A (match x.cps[x.length]? with | some c => _ | _ => _) Q E s
    rw [h0]
    exact wpAny_pure hq
  · intro i
    exact wpAny_pure h
theorem wp_encode {x : Str} {t u : Tok} (hx : Asc x) (hz : x.length ≤ 1000) {Q : Fin → Shared → Prop} (h : ∀ t' k, Q (.done (.ret (.bytes (encA x) t'))) { s with toks := k }) :
    wpAny M A (Builtin.«str.encode» ⟨[.str x t, .str (Str.ofString "utf-8") u], []⟩) Q E s := by
  have e : Builtin.«str.encode» ⟨[.str x t, .str (Str.ofString "utf-8") u], []⟩ = (Builtin.Str.codecArg "str.encode" "encode" "'encoding'" (some (.str (Str.ofString "utf-8") u)) >>= fun en => do ret (← encodeRoad "str.encode" (.str x t) x (en.getD (Str.ofString "utf-8")) none)) := by
    rfl
  have e2 : Builtin.Str.codecArg "str.encode" "encode" "'encoding'" (some (.str (Str.ofString "utf-8") u)) = pure (some (Str.ofString "utf-8")) := by
    have h1 : ((Str.ofString "utf-8").cps.any (fun x => decide (x ≥ 128))) = false := by decide +kernel
    have h2 : ((Str.ofString "utf-8").cps.contains 0) = false := by decide +kernel
    show (if ((Str.ofString "utf-8").cps.any (fun x => decide (x ≥ 128))) = true then _ else if ((Str.ofString "utf-8").cps.contains 0) = true then _ else _) = _
    rw [h1, h2]
    rfl
  rw [e, e2, pure_bind]
  show wpAny M A (encodeRoad "str.encode" (.str x t) x (Str.ofString "utf-8") none >>= fun v => ret v) Q E s
  rw [encodeRoad_utf8]
  refine wpAny_bind (wpAny_bind (wp_narrow hx hz ?_))
  have hsize : (encA x).size = x.length := by
    unfold encA
    show ((cl x).map _).toArray.size = _
    rw [List.size_toArray, List.length_map, cl_len]
  exact wpAny_mkBytes (wpAny_pure (h _ _)) (by rw [sizeLine_eq, hsize]; omega)
end
section
variable {prog : Program} {w : World} {A : Around} {E : Value → Shared → Prop} {s : Shared} {Q : Value → Shared → Prop}
theorem call_encode {x : Str} {t u : Tok} (hx : Asc x) (hz : x.length ≤ 1000) (h : ∀ t' k, Q (.bytes (encA x) t') { s with toks := k }) :
    wpAny (model prog w) A (call (.builtin "str.encode") [.str x t, .str (Str.ofString "utf-8") u]) Q E s :=
  call_meets F.slot_str_encode (typeIs_str _ _ _) F.entry_str_encode (F.args_str_encode_2 _ _)
    (S := fun _ R s => ∀ t' k, R (.ok (.ret (.bytes (encA x) t'))) { s with toks := k })
    (fun _ _ _ _ _ hS => wp_encode hx hz hS) h
end
end Mine
end
section
open PySem PySem.W PyProof.Rows PySem.Calls
set_option maxRecDepth 100000
namespace Mine
theorem sum_bound {B : Int} (hB : 0 ≤ B) : ∀ (l : List Int), (∀ x ∈ l, 0 ≤ x ∧ x ≤ B) → 0 ≤ l.sum ∧ l.sum ≤ l.length * B
  | [], _ => by simp
  | x :: r, h => by
    have h1 := h x (.head _)
    have h2 := sum_bound hB r fun y hy => h y (.tail _ hy)
    rw [List.sum_cons, List.length_cons]
    have : ((r.length + 1 : Nat) : Int) * B = r.length * B + B := by rw [Int.natCast_add, Int.add_mul]; simp
    omega
theorem pick_len (ns : List Int) (k : Int) : (pickNums ns (some k) none (some 10)).length ≤ ns.length := by
  unfold pickNums
  refine Nat.le_trans (List.length_filterMap_le _ _) ?_
  refine sliceRange_length_le _ _ _ _ ?_ ?_
  · intro _
    simp [sliceBounds]
    omega
  · intro h
    exact absurd (by simp [sliceBounds]) h
theorem pick_sum (ms : List Int) (k : Int) : 0 ≤ (pickNums (List.map (fun k' => k'.fmod (10 ^ Int.toNat 6)) (List.take 63 ms)) (some k) none (some 10)).sum ∧
    (pickNums (List.map (fun k' => k'.fmod (10 ^ Int.toNat 6)) (List.take 63 ms)) (some k) none (some 10)).sum ≤ 63000000 := by
  have hl := pick_len (List.map (fun k' => k'.fmod (10 ^ Int.toNat 6)) (List.take 63 ms)) k
  have hl2 : (List.map (fun k' : Int => k'.fmod (10 ^ Int.toNat 6)) (List.take 63 ms)).length ≤ 63 := by simp; omega
  have hm : ∀ x ∈ pickNums (List.map (fun k' => k'.fmod (10 ^ Int.toNat 6)) (List.take 63 ms)) (some k) none (some 10), 0 ≤ x ∧ x ≤ (1000000 : Int) := by
    intro x hx
    unfold pickNums at hx
    obtain ⟨j, _, hj⟩ := List.mem_filterMap.mp hx
    obtain ⟨y, _, rfl⟩ := List.mem_map.mp (List.mem_of_getElem? hj)
    have e : (10 : Int) ^ Int.toNat 6 = 1000000 := by decide
    rw [e]
    have h1 := Int.fmod_nonneg_of_pos y (b := 1000000) (by decide)
    have h2 := Int.fmod_lt_of_pos y (b := 1000000) (by decide)
    omega
  have hs := sum_bound (by decide) _ hm
  refine ⟨hs.1, Int.le_trans hs.2 ?_⟩
  have : (((pickNums (List.map (fun k' => k'.fmod (10 ^ Int.toNat 6)) (List.take 63 ms)) (some k) none (some 10)).length : Nat) : Int) ≤ 63 := by omega
  omega
section
variable {prog : Program} {w : World} {A : Around} {E : Value → Shared → Prop} {s : Shared} {h₀ : Heap} {L D : Addr} {m : Str → Option Value} {news : List (Addr × Obj)} {Q : Value → Shared → Prop}
theorem sum_pick {ys : List Value} {ms : List Int} {k : Int} (hh : A.handled = none) (F : Fr h₀ L s.heap m) (N : News h₀ L s.heap news) (hm : (D, ({ cls := .type "list", data := .seq (slicePick ys.toArray (some k) none (some 10)) } : Obj)) ∈ news)
    (hI : IntsAre ys (List.map (fun k' => k'.fmod (10 ^ Int.toNat 6)) (List.take 63 ms)))
    (h : ∀ v t h' tk, 0 ≤ v → v ≤ 63000000 → Fr h₀ L h' m → News h₀ L h' news → Q (.int v t) { s with heap := h', toks := tk }) :
    wpAny (model prog w) A (call (.builtin "sum") [.ref D]) Q E s := by
  have hl : s.heap.IsList D (slicePick ys.toArray (some k) none (some 10)) := ⟨_, (N _ hm).1, rfl, _, rfl⟩
  have hi := hI.pick (some k) none (some 10)
  have hb := pick_sum ms k
  exact sumK (vs := (slicePick ys.toArray (some k) none (some 10)).toList) hh F N (by simpa using hl) hi fun h' tk t F' N' => h _ t h' tk hb.1 hb.2 F' N'
/-- an item of a written tuple of texts, whichever -/
theorem item_menu {value slice : PySem.Expr} {vs : List Value} {ws : List Str} {i : Int} {u : Tok} {n : Nat} (N : News h₀ L s.heap news) (hm : (D, ({ cls := .type "tuple", data := .seq vs.toArray n } : Obj)) ∈ news) (hw : StrsAre vs ws) (h0 : 0 ≤ i) (h1 : i < (ws.length : Int)) (hfit : i < 2 ^ 63)
    (h : ∀ r t, r ∈ ws → Q (.str r t) s)
    (hs : subscripted slice false (.ref D) (.int i u) = operate [.ref D, .int i u] (getItem (.ref D) (.int i u)) := by with_unfolding_all rfl) :
    wpAny (model prog w) A (subscriptTail value slice (.ref D) (.int i u)) Q E s :=
  KTb.item_tup (ws := ws) ⟨_, (N _ hm).1, rfl, _, rfl⟩ hw h0 h1 hfit (fun t' hlt => h _ t' (by
    rw [List.getD_eq_getElem?_getD, List.getElem?_eq_getElem hlt]
    exact List.getElem_mem hlt)) hs
end
/-- a comprehension over a range whose elements are texts with a word each -/
def MEl (P : Str → Prop) (news : List (Addr × Obj)) (y : Value) (news' : List (Addr × Obj)) : Prop := news' = news ∧ ∃ r t, y = .str r t ∧ P r
theorem MEl.intro {P : Str → Prop} {news news' : List (Addr × Obj)} {r : Str} {t : Tok} (hn : news' = news) (h : P r) : MEl P news (.str r t) news' := ⟨hn, r, t, rfl, h⟩
section
variable {prog : Program} {w : World} {A : Around} {h₀ : Heap} {L : Addr} {m : Str → Option Value} {env : Env} {elt : PySem.Expr} {x : Str} {scope : Scope} {cl' : List (Str × Addr)} {s : Shared} {S : List (Addr × Obj) → Prop} {Fin : List Value → List (Addr × Obj) → Prop} {news : List (Addr × Obj)}
theorem kcm_range {n : Nat} {a : Int} (P : Str → Prop)
    (turn : ∀ k t I oI C oC D m₂ ys h tk (E' : Value → Shared → Prop), a ≤ k → k < a + (n : Int) → LCg.NsObj oC m₂ → m₂ x = some (.int k t) → Fr h₀ L h m → News h₀ L h ((I, oI) :: (C, oC) :: (D, LCg.lst ys) :: news) → LCg.Off3 I C D news → ((@Ne Nat I C) ∧ (@Ne Nat I D) ∧ (@Ne Nat C D)) →
      wpAny (model prog w) A (eval elt (compEnvC scope cl' C env)) (LCg.CompEnd h₀ L m { s with heap := h, toks := tk } I oI C oC D (LCg.lst ys) S (fun y news' => MEl P news y news')) E' { s with heap := h, toks := tk })
    (fin : ∀ ys zs, Are Value.str ys zs → (∀ z ∈ zs, P z) → zs.length = n → Fin ys news) : LCg.CompRest prog w A h₀ L m env elt x scope cl' s S (fun i v => ∃ t, v = .int (a + (i : Int)) t) Fin n 0 [] news := by
  have key : ∀ (j i : Nat) (ys : List Value) (zs : List Str), i + j = n → zs.length = i → Are Value.str ys zs → (∀ z ∈ zs, P z) → LCg.CompRest prog w A h₀ L m env elt x scope cl' s S (fun i v => ∃ t, v = .int (a + (i : Int)) t) Fin j i ys news := by
    intro j
    induction j with
    | zero =>
      intro i ys zs hi hz ha hp
      exact LCg.CompRest.zero (fin ys zs ha hp (by omega))
    | succ j ih =>
      intro i ys zs hi hz ha hp
      refine LCg.CompRest.succ ?_
      intro v I oI C oC D m₂ h tk E' hv hC hx F N off ne
      obtain ⟨t, rfl⟩ := hv
      refine wpAny_mono (turn _ t I oI C oC D m₂ ys h tk E' (by omega) (by omega) hC hx F N off ne) (fun y s₂ hq => ?_) fun _ _ e => e
      obtain ⟨h', tk', nw, e, F', N', off', hS, hn, r, t', hy', hr⟩ := hq
      rw [hn] at N' off' hS
      refine ⟨h', tk', news, e, F', N', off', hS, ?_⟩
      rw [hy']
      refine ih (i + 1) _ (zs ++ [r]) (by omega) (by simp [hz]) (ha.snoc r t') ?_
      intro z hz'
      rcases List.mem_append.mp hz' with h1 | h1
      · exact hp z h1
      · rw [List.mem_singleton.mp h1]; exact hr
  exact key n 0 [] [] (by omega) rfl .nil (fun z hz => nomatch hz)
end
section
variable {prog : Program} {w : World} {A : Around} {E : Value → Shared → Prop} {s : Shared} {env : Env} {h₀ : Heap} {x : Str} {body : List Stmt} {Q : Flow → Shared → Prop}
def LfEnd (h₀ : Heap) (L : Addr) (m₀ : Str → Option Value) (x y1 y2 : Str) (rest : List (Addr × Obj)) (s₁ s₂ : Shared) : Prop :=
  ∃ h' tk m' all, s₂ = { s₁ with heap := h', toks := tk } ∧ Fr h₀ L h' m' ∧ News h₀ L h' all ∧ (∀ p ∈ rest, p ∈ all) ∧ ∀ z, z ≠ x → z ≠ y1 → z ≠ y2 → m' z = m₀ z
def LfPost (h₀ : Heap) (L : Addr) (m₀ : Str → Option Value) (x y1 y2 : Str) (rest : List (Addr × Obj)) (s₁ : Shared) (Q : Flow → Shared → Prop) (f : Flow) (s₂ : Shared) : Prop :=
  match f with
  | .ret v => Q (.ret v) s₂
  | .brk => Q .next s₂
  | _ => LfEnd h₀ L m₀ x y1 y2 rest s₁ s₂
theorem lf_end {L : Addr} {m₀ m' : Str → Option Value} {y1 y2 : Str} {rest all : List (Addr × Obj)} {s₁ : Shared} {h' : Heap} {tk : Nat} (F : Fr h₀ L h' m') (N : News h₀ L h' all) (hs : ∀ p ∈ rest, p ∈ all) (hm : ∀ z, z ≠ x → z ≠ y1 → z ≠ y2 → m' z = m₀ z) :
    LfEnd h₀ L m₀ x y1 y2 rest s₁ { s₁ with heap := h', toks := tk } := ⟨h', tk, m', all, rfl, F, N, hs, hm⟩
theorem loop_free (y1 y2 : Str) {r : Addr} {a₀ b₀ : Int} {t₀ u₀ v₀ : Tok} {n : Nat} {m₀ : Str → Option Value} {q : Addr × Obj} {all : List (Addr × Obj)}
    (hh : A.handled = none) (hr : IsRange s.heap r a₀ b₀ 1 t₀ u₀ v₀) (hsmall : Builtin.Range.small a₀ b₀ 1 = true) (hn : Builtin.Range.rangeSize a₀ b₀ 1 = (n : Int)) (F : Fr h₀ env.locals s.heap m₀) (N : News h₀ env.locals s.heap all) (hq : q ∈ all)
    (turn : ∀ k t (u1 u2 : Option Value) h tk rest, a₀ ≤ k → k < a₀ + (n : Int) → Fr h₀ env.locals h (fun y => if y = x then some (.int k t) else if y = y1 then u1 else if y = y2 then u2 else m₀ y) → News h₀ env.locals h (q :: rest) →
      wpAny (model prog w) A (execs body env) (LfPost h₀ env.locals m₀ x y1 y2 (q :: rest) { s with heap := h, toks := tk } Q) E { s with heap := h, toks := tk })
    (done : ∀ (u : Str → Option Value) h tk, Fr h₀ env.locals h u → News h₀ env.locals h [q] → Q .next { s with heap := h, toks := tk }) :
    wpAny (model prog w) A (pyIter (.ref r)) (fun it s₂ => LoopAtV prog w A h₀ env x body Q E it s₂) E s := by
  have N1 : News h₀ env.locals s.heap [q] := fun p hp => by rw [List.mem_singleton.mp hp]; exact N q hq
  refine iter_rangeS (σ := Unit) (news := [q]) (fun _ m nx => nx = [q] ∧ ∀ z, z ≠ x → z ≠ y1 → z ≠ y2 → m z = m₀ z) (fun _ _ => ()) () hh hr hsmall hn F N1 ⟨rfl, fun _ _ _ _ => rfl⟩ ?_ ?_
  · rintro k t _ m₁ nx h tk own hk hoff ⟨rfl, hm⟩ F₁ N₁
    have e : (fun y => if y = x then some (Value.int k t) else m₁ y) = fun y => if y = x then some (Value.int k t) else if y = y1 then m₁ y1 else if y = y2 then m₁ y2 else m₀ y := by
      funext z
      by_cases h1 : z = x
      · simp [h1]
      · simp only [if_neg h1]
        by_cases h2 : z = y1
        · simp [h2]
        · simp only [if_neg h2]
          by_cases h3 : z = y2
          · simp [h3]
          · simp only [if_neg h3]; exact hm z h1 h2 h3
    rw [e] at F₁
    have hb := mem_rangeKs hk
    refine wpAny_mono (turn k t _ _ h tk own hb.1 hb.2 F₁ N₁) (fun f s₂ p => ?_) fun _ _ e => e
    have fin : LfEnd h₀ env.locals m₀ x y1 y2 (q :: own) { s with heap := h, toks := tk } s₂ → InvEndN h₀ env.locals (fun m nx => nx = [q] ∧ ∀ z, z ≠ x → z ≠ y1 → z ≠ y2 → m z = m₀ z) own ([q].map (·.1)) { s with heap := h, toks := tk } s₂ := by
      rintro ⟨h', tk', m', all', rfl, F', N', hs', hm'⟩
      exact ⟨h', tk', m', all', [q], rfl, F', N', fun p hp => hs' p (by rw [List.mem_singleton.mp hp]; exact .head _), fun p hp => hs' p (.tail _ hp), rfl, rfl, hm'⟩
    cases f with
    | ret v => exact p
    | brk => exact p
    | next => exact fin p
    | cont => exact fin p
  · rintro m₁ nx h tk ⟨rfl, hm⟩ F₁ N₁
    exact done m₁ h tk F₁ N₁
end
end Mine
end
section
open PySem PySem.W PyProof.Rows
set_option maxRecDepth 100000
set_option pp.deepTerms false
set_option pp.proofs false
set_option pp.maxSteps 3000
namespace Mine
local macro_rules | `(tactic| k_room) => `(tactic| ktr_room)
local macro_rules | `(tactic| k_units) => `(tactic| ktr_units)
local macro_rules | `(tactic| walk_at "call builtin:issubclass") => `(tactic| (k_here; first
  | ((with_reducible show wpAny _ _ (call (Value.builtin "issubclass") [Value.type "str", Value.ref _]) _ _ _); (refine issub_str (by k_asm) (by k_mem) ?_))
  | ((with_reducible show wpAny _ _ (call (Value.builtin "issubclass") [Value.type "bytes", Value.ref _]) _ _ _); (refine issub_bytes (by k_asm) (by k_mem) ?_))))
local macro_rules | `(tactic| walk_at "call type:type") => `(tactic| (k_here; (with_reducible show wpAny _ _ (call (Value.type "type") [Value.bytes _ _]) _ _ _); (refine call_type_of (Tx := "bytes") rfl (by decide +kernel) ?_)))
local macro_rules | `(tactic| walk_at "subscriptTail") => `(tactic| (k_here; (with_reducible show wpAny _ _ (subscriptTail _ (Expr.Slice _ _ none _) (Value.bytes _ _) (Value.ref _)) _ _ _); (with_reducible rename Fr _ _ _ _ => F'); (with_reducible rename News _ _ _ _ => N'); (refine KBc.slice_K (s := ⟨_, _, _, _, _⟩) F' N' rfl (by constructor) (by constructor) (by rw [KBw.ints_length]; omega) ?_); intro _ _ _ _ _ _))
local macro_rules | `(tactic| walk_at "call ref") => `(tactic| (k_here; (with_reducible show wpAny _ _ (call (Value.ref 101) [Value.str _ _]) _ _ _); k_dflt (refine' Con.use (fspath_str _ _) ?k1 ?k2 ?k3 ?k4 ?k5 ?kK ?kp ?kd ?ku ?_; (case k1 => k_asm); (case k2 => k_asm); (case k3 => k_asm); (case k4 => k_asm); (case k5 => k_asm); (case kK => first | exact rfl | assumption); (case kp => trivial); (case kd => ktr_room); (case ku => ktr_units); k_whole; intro t9 h9 tk9 F9 N9; (try dsimp only); (try k_fold))))
local macro_rules | `(tactic| walk_at "call ref") => `(tactic| (k_here; (with_reducible show wpAny _ _ (call (Value.ref 101) [Value.bytes _ _]) _ _ _); k_dflt (refine' Con.use (fspath_bytes _ _) ?k1 ?k2 ?k3 ?k4 ?k5 ?kK ?kp ?kd ?ku ?_; (case k1 => k_asm); (case k2 => k_asm); (case k3 => k_asm); (case k4 => k_asm); (case k5 => k_asm); (case kK => first | exact rfl | assumption); (case kp => trivial); (case kd => ktr_room); (case ku => ktr_units); k_whole; intro t9 h9 tk9 F9 N9; (try dsimp only); (try k_fold))))
local macro_rules | `(tactic| walk_at "call ref") => `(tactic| (k_here; (with_reducible show wpAny _ _ (call (Value.ref 129) [_, _, _]) _ _ _); k_dflt (refine' Con.use (replace_2 _ _ _ _) ?k1 ?k2 ?k3 ?k4 ?k5 ?kK ?kp ?kd ?ku ?_; (case k1 => k_asm); (case k2 => k_asm); (case k3 => k_asm); (case k4 => k_asm); (case k5 => k_asm); (case kK => first | exact rfl | assumption); (case kp => first | with_reducible assumption | omega | exact SInv.len (by with_reducible assumption) | exact Nat.le_trans rep5_len (SInv.len (by with_reducible assumption))); (case kd => ktr_room); (case ku => ktr_units); k_whole; intro t9 h9 tk9 F9 N9; (try dsimp only); (try k_fold))))
local macro_rules | `(tactic| walk_at "call ref") => `(tactic| (k_here; (with_reducible show wpAny _ _ (call (Value.ref 129) [_, _, _, _, _, _, _, _, _, _, _]) _ _ _); k_dflt (refine' Con.use (replace_10 _ _ _ _ _ _ _ _ _ _ _ _) ?k1 ?k2 ?k3 ?k4 ?k5 ?kK ?kp ?kd ?ku ?_; (case k1 => k_asm); (case k2 => k_asm); (case k3 => k_asm); (case k4 => k_asm); (case k5 => k_asm); (case kK => first | exact rfl | assumption); (case kp => first | with_reducible assumption | omega | exact SInv.len (by with_reducible assumption) | exact Nat.le_trans rep5_len (SInv.len (by with_reducible assumption))); (case kd => ktr_room); (case ku => ktr_units); k_whole; intro t9 h9 tk9 F9 N9; (try dsimp only); (try k_fold))))
local macro_rules | `(tactic| walk_at "exec While Compare cons nil") => `(tactic| (k_here; (with_reducible show wpAny _ _ (exec (Stmt.While _ _ _ _) _) _ _ _); k_extra "w85"))

set_option maxHeartbeats 8000000 in
theorem straight_str (x : Str) (t : Tok) : Con 10 (x.length ≤ 100 ∧ OkP x) 136 [.str x t] (fun t => .str (normS x) t) := by
  k_with "w85" => k_while (fun _ before word => word.length ≤ 200 ∧ SInv x before word) (fun _ before word => wordMu before word) "before" "word"
  k_with "state" => first | exact s_turn1 (by with_reducible assumption) (by with_reducible assumption) | exact s_turn2 (by with_reducible assumption) (by first | with_reducible assumption | omega) | exact s_start (by with_reducible assumption)
  k_with "measure" => first | exact s_mu1 (by with_reducible assumption) | exact s_mu2 (by with_reducible assumption)

  unfold Con
  w_top off
  k_fill
  intros
  rename_i hret
  refine wpAny_call ?_
  k_dflt cell_enter
  k_steps
  all_goals refine end1s hret (by k_asm) (by k_asm) (by kcj_all) ?_
  all_goals first
    | exact (s_end1 (by with_reducible assumption) (by with_reducible assumption) (rootN_0 (by with_reducible assumption)) (by with_reducible assumption))
    | exact (s_end1 (by with_reducible assumption) (by with_reducible assumption) (rootN_2 (by with_reducible assumption) (by with_reducible assumption)) (by with_reducible assumption))
    | exact (s_end1 (by with_reducible assumption) (by with_reducible assumption) (rootN_1 (by with_reducible assumption) (by with_reducible assumption)) (by with_reducible assumption))
    | exact (s_end2 (by with_reducible assumption) (by with_reducible assumption) (rootN_0 (by with_reducible assumption)) (by with_reducible assumption))
    | exact (s_end2 (by with_reducible assumption) (by with_reducible assumption) (rootN_2 (by with_reducible assumption) (by with_reducible assumption)) (by with_reducible assumption))
    | exact (s_end2 (by with_reducible assumption) (by with_reducible assumption) (rootN_1 (by with_reducible assumption) (by with_reducible assumption)) (by with_reducible assumption))

end Mine
end
section
open PySem PySem.W PyProof.Rows PySem.Calls
set_option maxRecDepth 100000
namespace Mine
abbrev PMenu (r : Str) : Prop := cl r ∈ menuL
abbrev rootsS : List Str := [Str.ofString "", Str.ofString "/", Str.ofString "//", Str.ofString "///"]
abbrev piecesS : List Str := [Str.ofString "a", Str.ofString "..", Str.ofString "b", Str.ofString ".", Str.ofString "ab", Str.ofString ""]
theorem pieces_menu : ∀ r ∈ piecesS, PMenu r := by
  intro r hr
  have : piecesS.map cl = menuL := by decide +kernel
  rw [PMenu, ← this]
  exact List.mem_map_of_mem hr
theorem roots_rep : ∀ r ∈ rootsS, ∃ j, j ≤ 3 ∧ cl r = List.replicate j 47 := by
  intro r hr
  have : rootsS.map cl = [List.replicate 0 47, List.replicate 1 47, List.replicate 2 47, List.replicate 3 47] := by decide +kernel
  have hm := List.mem_map_of_mem (f := cl) hr
  rw [this] at hm
  simp only [List.mem_cons, List.not_mem_nil, or_false] at hm
  rcases hm with h | h | h | h
  · exact ⟨0, by omega, h⟩
  · exact ⟨1, by omega, h⟩
  · exact ⟨2, by omega, h⟩
  · exact ⟨3, by omega, h⟩
theorem menu_len : ∀ c ∈ menuL, c.length ≤ 2 ∧ 47 ∉ c ∧ ∀ d ∈ c, d < 128 := by decide
theorem wt_menu : ∀ cs : List (List Nat), (∀ c ∈ cs, c ∈ menuL) → wt List.length cs ≤ 3 * cs.length
  | [], _ => by simp [wt_nil]
  | c :: r, h => by
    have h1 := (menu_len c (h c (.head _))).1
    have h2 := wt_menu r fun d hd => h d (.tail _ hd)
    rw [wt_cons, List.length_cons]
    omega
theorem path_ok {root : Str} {zs : List Str} (hr : root ∈ rootsS) (hz : ∀ z ∈ zs, PMenu z) (hn : zs.length ≤ 10) : (root ++ Txt.join (Str.ofString "/") zs).length ≤ 40 ∧ OkP (root ++ Txt.join (Str.ofString "/") zs) := by
  obtain ⟨j, hj, hr'⟩ := roots_rep root hr
  have hc : cl (root ++ Txt.join (Str.ofString "/") zs) = List.replicate j 47 ++ joinL [47] (zs.map cl) := by rw [cl_app, cl_tjoin, hr', cl_sl]
  have hzm : ∀ c ∈ zs.map cl, c ∈ menuL := fun c hc => by
    obtain ⟨z, hz', rfl⟩ := List.mem_map.mp hc
    exact hz z hz'
  constructor
  · rw [← cl_len, hc, List.length_append, List.length_replicate]
    have h1 := len_joinL 47 (zs.map cl)
    have h2 := wt_menu _ hzm
    rw [List.length_map] at h2
    omega
  · unfold OkP
    rw [hc, split_lead]
    intro c hc'
    rcases List.mem_append.mp hc' with h | h
    · rw [(List.mem_replicate.mp h).2]; decide
    · by_cases h0 : zs.map cl = []
      · rw [h0] at h
        rw [List.mem_singleton.mp h]; decide
      · rw [splitL_join 47 _ h0 fun p hp => (menu_len p (hzm p hp)).2.1] at h
        exact hzm c h
theorem joinL_mem {l : List (List Nat)} {d c : Nat} (h : d ∈ joinL [c] l) : d = c ∨ ∃ p ∈ l, d ∈ p := by
  cases l with
  | nil => cases h
  | cons x r =>
    rw [joinL_cons] at h
    rcases List.mem_append.mp h with h | h
    · exact .inr ⟨x, .head _, h⟩
    · obtain ⟨p, hp, hd⟩ := List.mem_flatMap.mp h
      rcases List.mem_append.mp hd with h1 | h1
      · exact .inl (List.mem_singleton.mp h1)
      · exact .inr ⟨p, .tail _ hp, h1⟩
theorem OkP.asc {x : Str} (h : OkP x) : Asc x := by
  intro d hd
  rw [← joinL_split 47 (cl x)] at hd
  rcases joinL_mem hd with rfl | ⟨p, hp, hd'⟩
  · decide
  · exact (menu_len p (h p hp)).2.2 d hd'
theorem split_in {l : List Nat} {p : List Nat} {d : Nat} (hp : p ∈ splitL 47 l) (hd : d ∈ p) : d ∈ l := by
  have h : ∀ (ps : List (List Nat)), p ∈ ps → d ∈ joinL [47] ps := by
    intro ps hps
    cases ps with
    | nil => cases hps
    | cons y r =>
      rw [joinL_cons]
      rcases List.mem_cons.mp hps with rfl | hr
      · exact List.mem_append.mpr (.inl hd)
      · exact List.mem_append.mpr (.inr (List.mem_flatMap.mpr ⟨p, hr, List.mem_append.mpr (.inr hd)⟩))
  have := h _ hp
  rwa [joinL_split] at this
theorem asc_norm {x : Str} (h : Asc x) : Asc (normS x) := by
  obtain ⟨k, r, e, hr, _, _⟩ := lead_of (sl := 47) (cl x)
  intro d hd
  rw [cl_normS] at hd
  unfold normL at hd
  split at hd
  · rw [List.mem_singleton.mp hd]; decide
  · rw [e, lead_glue k r hr] at hd
    rcases List.mem_append.mp hd with h1 | h1
    · have : d = 47 := by
        unfold rootK at h1
        split at h1
        · cases h1
        · split at h1
          · simpa using h1
          · simpa using h1
      rw [this]; decide
    · rcases joinL_mem h1 with rfl | ⟨p, hp, hd'⟩
      · decide
      · refine h d ?_
        rw [e]
        refine List.mem_append.mpr (.inr ?_)
        have : ∀ y ∈ coreL 47 46 (decide (0 < k)) r, ∀ d ∈ y, d ∈ r := fold_all _ _ (by simp) (fun y hy d hd => split_in hy hd)
        exact this p hp d hd'
theorem norm_len {x : Str} (h : x.length ≤ 40) : (normS x).length ≤ 100 := by
  have h1 := rootS_len x
  have h2 := len_join_np (xs := npS x)
  have h3 : wt Str.length (npS x) ≤ x.length + 1 := by
    have h4 := wt_fold Str.length (Str.ofString "") (Str.ofString ".") (Str.ofString "..") ((rootS x).length != 0) (Txt.split (restS x) (Str.ofString "/")) []
    have h5 := wt_splitS (restS x) (Str.ofString "/") (by decide +kernel)
    have h6 := restS_len x
    rw [wt_nil] at h4
    unfold npS
    omega
  unfold normS
  have hd : (Str.ofString ".").length = 1 := by decide +kernel
  split
  · omega
  · split
    · omega
    · rw [Str.length_append]; omega
theorem start_slice (x : Str) : Txt.startswith x (Str.ofString "/") = (Txt.slice x none (some 1) == Str.ofString "/") := by
  rw [Bool.eq_iff_iff, cl_beq]
  have h1 := cl_slice_to x 1
  have h1' : cl (Txt.slice x none (some 1)) = (cl x).take 1 := h1
  rw [h1', cl_sl]
  have hl : (Str.ofString "/").length = 1 := by decide +kernel
  unfold Txt.startswith
  rw [hl, StrLaws.subAt_eq, hl]
  show (decide (0 + 1 ≤ x.length) && (((cl x).drop 0).take 1 == cl (Str.ofString "/"))) = true ↔ _
  rw [cl_sl, List.drop_zero, Bool.and_eq_true, beq_iff_eq, decide_eq_true_eq]
  constructor
  · exact fun h => h.2
  · intro h
    refine ⟨?_, h⟩
    have := congrArg List.length h
    rw [List.length_take, cl_len] at this
    simp at this
    omega
theorem Con.pre {n : Nat} {p p' : Prop} {f : Addr} {vs : List Value} {R R' : Tok → Value} (C : Con n p f vs R) (h : p' → p ∧ R = R') : Con n p' f vs R' := by
  intro w p loose mean mg mb news dp un gd cn cs a ccd cl outer A₀ base h₀ L m s Q E B F X N T hk hp hd hu ret
  obtain ⟨h1, h2⟩ := h hp
  subst h2
  exact C _ _ _ _ _ _ _ _ _ _ _ _ _ _ _ _ _ _ _ _ _ _ _ _ B F X N T hk h1 hd hu ret
theorem law_np1 (x : Str) (t : Tok) : Con 8 (x.length ≤ 40) 122 [.str x t] (fun t => .str (normS x) t) := (normpath_str x t).pre fun h => ⟨by omega, rfl⟩
theorem law_np2 (x : Str) (t : Tok) : Con 8 (x.length ≤ 40) 122 [.str (normS x) t] (fun t => .str (normS x) t) := (normpath_str (normS x) t).pre fun h => ⟨norm_len h, by rw [normS_twice]⟩
theorem law_np3 (x : Str) (t : Tok) : Con 8 (x.length ≤ 40 ∧ OkP x) 122 [.bytes (encA x) t] (fun t => .bytes (encA (normS x)) t) := (normpath_bytes (encA x) t).pre fun h => ⟨by
  have : (encA x).size = x.length := by
    unfold encA
    show ((cl x).map _).toArray.size = _
    rw [List.size_toArray, List.length_map, cl_len]
  omega, by rw [normB_enc h.2.asc (asc_norm h.2.asc)]⟩
theorem law_ia (x : Str) (t : Tok) : Con 6 (x.length ≤ 40) 108 [.str x t] (fun _ => .bool (Txt.slice x none (some 1) == Str.ofString "/")) := (isabs_str x t).pre fun h => ⟨by omega, by rw [start_slice]⟩
theorem law_st (x : Str) (t : Tok) : Con 10 (x.length ≤ 40 ∧ OkP x) 136 [.str x t] (fun t => .str (normS x) t) := (straight_str x t).pre fun h => ⟨⟨by omega, h.2⟩, rfl⟩
theorem Are.take {α : Type} {mk : α → Tok → Value} {vs : List Value} {xs : List α} (h : Are mk vs xs) : ∀ k, Are mk (vs.take k) (xs.take k) := by
  induction h with
  | nil => intro k; simp; exact .nil
  | cons y t _ ih =>
    intro k
    cases k with
    | zero => exact .nil
    | succ k => exact .cons y t (ih k)
section
variable {prog : Program} {w : World} {A : Around} {E : Value → Shared → Prop} {s : Shared} {h₀ : Heap} {L D : Addr} {m : Str → Option Value} {news : List (Addr × Obj)} {Q : Value → Shared → Prop} {t u : Tok}
theorem join_path {ys : List Value} {zs : List Str} {k : Int} {n : Nat} (N : News h₀ L s.heap news) (hm : (D, ({ cls := .type "list", data := .seq (slicePick ys.toArray none (some k) none) n } : Obj)) ∈ news) (ha : Are Value.str ys zs) (hz : ∀ z ∈ zs, PMenu z) (hn : zs.length = 10) (h0 : 0 ≤ k)
    (h : ∀ t' k', Q (.str (Txt.join (Str.ofString "/") (zs.take k.toNat)) t') { s with toks := k' }) : wpAny (model prog w) A (call (.builtin "str.join") [.str (Str.ofString "/") t, .ref D]) Q E s := by
  obtain ⟨j, rfl⟩ := Int.eq_ofNat_of_zero_le h0
  have e : slicePick ys.toArray none (some (j : Int)) none = (ys.take j).toArray := slicePick_upto' ys.toArray j
  have hm' : (D, listOf (ys.take j).toArray n) ∈ news := by
    have : (D, ({ cls := .type "list", data := .seq (slicePick ys.toArray none (some (j : Int)) none) n } : Obj)) ∈ news := hm
    rw [e] at this
    exact this
  refine join_s N hm' (ha.take j) (by decide +kernel) ?_ h
  have h1 : wt Str.length (zs.take j) ≤ wt Str.length zs := wt_take _ _ _
  have h2 : wt List.length (zs.map cl) = wt Str.length zs := wt_map cl _ _ (fun x => cl_len x) zs
  have h3 := wt_menu (zs.map cl) (fun c hc => by
    obtain ⟨z, hz', rfl⟩ := List.mem_map.mp hc
    exact hz z hz')
  rw [List.length_map] at h3
  omega
theorem add_path {root : Str} {zs : List Str} {k : Nat} (hr : root ∈ rootsS) (hz : ∀ z ∈ zs, PMenu z) (hn : zs.length = 10) (h : ∀ p t' k', p.length ≤ 40 → OkP p → Q (.str p t') { s with toks := k' }) :
    wpAny (model prog w) A (binaryOp .Add (.str root t) (.str (Txt.join (Str.ofString "/") (zs.take k)) u)) Q E s := by
  obtain ⟨h1, h2⟩ := path_ok (zs := zs.take k) hr (fun z hz' => hz z (List.mem_of_mem_take hz')) (by rw [List.length_take]; omega)
  have h3 := h1
  rw [Str.length_append] at h3
  exact SBL.add (fun t' k' _ => h _ t' k' h1 h2) (by rw [sizeLine_eq]; omega)
theorem ne_same {x : Str} (h : Q (.bool false) s) : wpAny (model prog w) A (compareOp .NotEq (.str x t) (.str x u)) Q E s :=
  PyProof.Rows.ne_str (by
    have : (x != x) = false := by simp
    rw [this]; exact h)
theorem isnot_same {c : Bool} (h : Q (.bool false) s) : wpAny (model prog w) A (compareOp .IsNot (.bool c) (.bool c)) Q E s := isnot_bool (by cases c <;> exact h)
end
end Mine
end
section
open PySem PySem.W PyProof.Rows PySem.Calls
set_option maxRecDepth 100000
namespace Mine
theorem mel_end {h₀ : Heap} {L I C D : Addr} {m : Str → Option Value} {s₁ : Shared} {oI oC oD : Obj} {P : Str → Prop} {news : List (Addr × Obj)} {r : Str} {t : Tok} {h' : Heap} {tk : Nat} {all : List (Addr × Obj)}
    (F : Fr h₀ L h' m) (N : News h₀ L h' all) (sub : ∀ p ∈ (I, oI) :: (C, oC) :: (D, oD) :: news, p ∈ all) (off : LCg.Off3 I C D news) (hr : P r) :
    LCg.CompEnd h₀ L m s₁ I oI C oC D oD (fun _ => True) (fun y news' => MEl P news y news') (.str r t) { s₁ with heap := h', toks := tk } := LCg.CompEnd.intro F N news sub off True.intro (MEl.intro rfl hr)
section
variable {prog : Program} {w : World} {A : Around} {E : Value → Shared → Prop} {s : Shared} {env : Env} {h₀ : Heap} {x : Str} {body : List Stmt} {Q : Flow → Shared → Prop}
theorem loop_law {ys : List Value} {zs : List Str} (_ : Are Value.str ys zs) {r D : Addr} {a₀ b₀ : Int} {t₀ u₀ v₀ : Tok} {n : Nat} {m₀ : Str → Option Value} {all : List (Addr × Obj)}
    (hh : A.handled = none) (hr : IsRange s.heap r a₀ b₀ 1 t₀ u₀ v₀) (hsmall : Builtin.Range.small a₀ b₀ 1 = true) (hn : Builtin.Range.rangeSize a₀ b₀ 1 = (n : Int)) (F : Fr h₀ env.locals s.heap m₀) (N : News h₀ env.locals s.heap all) (hq : (D, LCg.lst ys) ∈ all)
    (turn : ∀ k t (u1 u2 : Option Value) h tk rest, a₀ ≤ k → k < a₀ + (n : Int) → Fr h₀ env.locals h (fun y => if y = x then some (.int k t) else if y = Str.ofString "path" then u1 else if y = Str.ofString "due" then u2 else m₀ y) → News h₀ env.locals h ((D, LCg.lst ys) :: rest) →
      wpAny (model prog w) A (execs body env) (LfPost h₀ env.locals m₀ x (Str.ofString "path") (Str.ofString "due") ((D, LCg.lst ys) :: rest) { s with heap := h, toks := tk } Q) E { s with heap := h, toks := tk })
    (done : ∀ (u : Str → Option Value) h tk, Fr h₀ env.locals h u → News h₀ env.locals h [(D, LCg.lst ys)] → Q .next { s with heap := h, toks := tk }) :
    wpAny (model prog w) A (pyIter (.ref r)) (fun it s₂ => LoopAtV prog w A h₀ env x body Q E it s₂) E s :=
  loop_free _ _ hh hr hsmall hn F N hq turn done
theorem loop_lawL {ys : List Value} {zs : List Str} (ar : Are Value.str ys zs) {r D L : Addr} {a₀ b₀ : Int} {t₀ u₀ v₀ : Tok} {n : Nat} {m₀ : Str → Option Value} {all : List (Addr × Obj)}
    (hh : A.handled = none) (hr : IsRange s.heap r a₀ b₀ 1 t₀ u₀ v₀) (hsmall : Builtin.Range.small a₀ b₀ 1 = true) (hn : Builtin.Range.rangeSize a₀ b₀ 1 = (n : Int)) (F : Fr h₀ L s.heap m₀) (N : News h₀ L s.heap all) (hL : env.locals = L) (hq : (D, LCg.lst ys) ∈ all)
    (turn : ∀ k t (u1 u2 : Option Value) h tk rest, a₀ ≤ k → k < a₀ + (n : Int) → Fr h₀ L h (fun y => if y = x then some (.int k t) else if y = Str.ofString "path" then u1 else if y = Str.ofString "due" then u2 else m₀ y) → News h₀ L h ((D, LCg.lst ys) :: rest) →
      wpAny (model prog w) A (execs body env) (LfPost h₀ L m₀ x (Str.ofString "path") (Str.ofString "due") ((D, LCg.lst ys) :: rest) { s with heap := h, toks := tk } Q) E { s with heap := h, toks := tk })
    (done : ∀ (u : Str → Option Value) h tk, Fr h₀ L h u → News h₀ L h [(D, LCg.lst ys)] → Q .next { s with heap := h, toks := tk }) :
    wpAny (model prog w) A (pyIter (.ref r)) (fun it s₂ => LoopAtV prog w A h₀ env x body Q E it s₂) E s := by
  subst hL
  exact loop_law ar hh hr hsmall hn F N hq turn done
end
section
variable {prog : Program} {w : World} {A : Around} {E : Value → Shared → Prop} {s : Shared} {h₀ : Heap} {L D : Addr} {m : Str → Option Value} {news : List (Addr × Obj)} {Q : Value → Shared → Prop}
theorem slice_pieces {value slice : PySem.Expr} {ys : List Value} {zs : List Str} {k : Int} {u : Tok} (ar : Are Value.str ys zs) (hn : zs.length = 10) (F : Fr h₀ L s.heap m) (N : News h₀ L s.heap news) (hm : (D, LCg.lst ys) ∈ news)
    (h : ∀ D' h', Fr h₀ L h' m → News h₀ L h' ((D', { cls := .type "list", data := .seq (slicePick ys.toArray none (some k) none) }) :: news) → AllLt D' news → Q (.ref D') { s with heap := h' })
    (hs : subscripted slice false (.ref D) (.ref s.heap.objs.size) = operate [.ref s.heap.objs.size, .ref D] (getItem (.ref D) (.ref s.heap.objs.size)) := by with_unfolding_all rfl)
    (ht : ∀ r, letTemporaryGo value (.ref D) r = pure () := by intro _; with_unfolding_all rfl) :
    wpAny (model prog w) A (subscriptTail value slice (.ref D) (.ref s.heap.objs.size)) Q E { s with heap := s.heap.push { cls := .type "slice", data := .fields #[.none, .int k u, .none] } } :=
  slice_list F N ⟨_, (N _ hm).1, rfl, _, rfl⟩ (by constructor) (by constructor) (fun h' F' N' => h _ h' F' N' (allLt_of fun p hp => Nat.lt_succ_of_lt (Heap.lt_size (N p hp).1))) hs ht (by rw [sizeLine_eq, List.size_toArray, ar.length, hn]; decide)
end
theorem methodE {M : Model} {A : Around} {E : Value → Shared → Prop} {s : Shared} {x : Str} {t : Tok} {pl : Sem Bool} {Q : Value × List Value → Shared → Prop} (h : Q (.builtin "str.encode", [.str x t]) s) : wpAny M A (getMethod (.str x t) "encode" pl) Q E s := by
  exact getMethod_builtin (typeIs_str _ _ _) F.plainAttrs_str F.slot_str_encode F.type_str_encode (fun a e => nomatch e) h
end Mine
end
section
open PySem PySem.W PyProof.Rows
set_option maxRecDepth 100000
set_option pp.deepTerms false
set_option pp.proofs false
set_option pp.maxSteps 3000
namespace Mine
local macro_rules | `(tactic| k_room) => `(tactic| ktr_room)
local macro_rules | `(tactic| k_units) => `(tactic| ktr_units)
local macro_rules | `(tactic| walk_at "call builtin:issubclass") => `(tactic| (k_here; first
  | ((with_reducible show wpAny _ _ (call (Value.builtin "issubclass") [Value.type "str", Value.ref _]) _ _ _); (refine issub_str (by k_asm) (by k_mem) ?_))
  | ((with_reducible show wpAny _ _ (call (Value.builtin "issubclass") [Value.type "bytes", Value.ref _]) _ _ _); (refine issub_bytes (by k_asm) (by k_mem) ?_))))
local macro_rules | `(tactic| walk_at "call type:type") => `(tactic| (k_here; (with_reducible show wpAny _ _ (call (Value.type "type") [Value.bytes _ _]) _ _ _); (refine call_type_of (Tx := "bytes") rfl (by decide +kernel) ?_)))
local macro_rules | `(tactic| walk_at "subscriptTail") => `(tactic| (k_here; (with_reducible show wpAny _ _ (subscriptTail _ (Expr.Slice _ _ none _) (Value.bytes _ _) (Value.ref _)) _ _ _); (with_reducible rename Fr _ _ _ _ => F'); (with_reducible rename News _ _ _ _ => N'); (refine KBc.slice_K (s := ⟨_, _, _, _, _⟩) F' N' rfl (by constructor) (by constructor) (by rw [KBw.ints_length]; omega) ?_); intro _ _ _ _ _ _))
local macro_rules | `(tactic| walk_at "call ref") => `(tactic| (k_here; (with_reducible show wpAny _ _ (call (Value.ref 122) [Value.str _ _]) _ _ _); k_dflt (refine' Con.use (law_np1 _ _) ?k1 ?k2 ?k3 ?k4 ?k5 ?kK ?kp ?kd ?ku ?_; (case k1 => k_asm); (case k2 => k_asm); (case k3 => k_asm); (case k4 => k_asm); (case k5 => k_asm); (case kK => first | exact rfl | assumption); (case kp => with_reducible assumption); (case kd => ktr_room); (case ku => ktr_units); k_whole; intro t9 h9 tk9 F9 N9; (try dsimp only); (try k_fold))))
local macro_rules | `(tactic| walk_at "call ref") => `(tactic| (k_here; (with_reducible show wpAny _ _ (call (Value.ref 122) [Value.str (normS _) _]) _ _ _); k_dflt (refine' Con.use (law_np2 _ _) ?k1 ?k2 ?k3 ?k4 ?k5 ?kK ?kp ?kd ?ku ?_; (case k1 => k_asm); (case k2 => k_asm); (case k3 => k_asm); (case k4 => k_asm); (case k5 => k_asm); (case kK => first | exact rfl | assumption); (case kp => with_reducible assumption); (case kd => ktr_room); (case ku => ktr_units); k_whole; intro t9 h9 tk9 F9 N9; (try dsimp only); (try k_fold))))
local macro_rules | `(tactic| walk_at "call ref") => `(tactic| (k_here; (with_reducible show wpAny _ _ (call (Value.ref 122) [Value.bytes (encA _) _]) _ _ _); k_dflt (refine' Con.use (law_np3 _ _) ?k1 ?k2 ?k3 ?k4 ?k5 ?kK ?kp ?kd ?ku ?_; (case k1 => k_asm); (case k2 => k_asm); (case k3 => k_asm); (case k4 => k_asm); (case k5 => k_asm); (case kK => first | exact rfl | assumption); (case kp => exact ⟨by with_reducible assumption, by with_reducible assumption⟩); (case kd => ktr_room); (case ku => ktr_units); k_whole; intro t9 h9 tk9 F9 N9; (try dsimp only); (try k_fold))))
local macro_rules | `(tactic| walk_at "call ref") => `(tactic| (k_here; (with_reducible show wpAny _ _ (call (Value.ref 108) [Value.str _ _]) _ _ _); k_dflt (refine' Con.use (law_ia _ _) ?k1 ?k2 ?k3 ?k4 ?k5 ?kK ?kp ?kd ?ku ?_; (case k1 => k_asm); (case k2 => k_asm); (case k3 => k_asm); (case k4 => k_asm); (case k5 => k_asm); (case kK => first | exact rfl | assumption); (case kp => with_reducible assumption); (case kd => ktr_room); (case ku => ktr_units); k_whole; intro t9 h9 tk9 F9 N9; (try dsimp only); (try k_fold))))
local macro_rules | `(tactic| walk_at "call ref") => `(tactic| (k_here; (with_reducible show wpAny _ _ (call (Value.ref 136) [Value.str _ _]) _ _ _); k_dflt (refine' Con.use (law_st _ _) ?k1 ?k2 ?k3 ?k4 ?k5 ?kK ?kp ?kd ?ku ?_; (case k1 => k_asm); (case k2 => k_asm); (case k3 => k_asm); (case k4 => k_asm); (case k5 => k_asm); (case kK => first | exact rfl | assumption); (case kp => exact ⟨by with_reducible assumption, by with_reducible assumption⟩); (case kd => ktr_room); (case ku => ktr_units); k_whole; intro t9 h9 tk9 F9 N9; (try dsimp only); (try k_fold))))
local macro_rules | `(tactic| walk_at "call builtin:sum") => `(tactic| (k_here; (with_reducible show wpAny _ _ (call (Value.builtin "sum") [Value.ref _]) _ _ _); (refine sum_pick (s := ⟨_, _, _, _, _⟩) (by with_unfolding_all rfl) (by k_asm) (by k_asm) (by k_mem) (by with_reducible assumption) ?_); intro v9 t9 h9 tk9 lo9 hi9 F9 N9))
local macro_rules | `(tactic| walk_at "subscriptTail") => `(tactic| (k_here; (with_reducible show wpAny _ _ (subscriptTail _ _ (Value.ref _) (Value.int _ _)) _ _ _); k_dflt (refine item_menu (s := ⟨_, _, _, _, _⟩) (by k_asm) (by k_mem) (by repeat constructor) (by ktb_idx) (by ktb_idx) (by ktb_idx) ?_); intro r9 t9 hr9; k_dflt (first | (have hp9 : PMenu r9 := pieces_menu r9 hr9; clear hr9) | (have hp9 : r9 ∈ rootsS := hr9; clear hr9))))
local macro_rules | `(tactic| walk_at "CompSrc") => `(tactic| (k_here; k_dflt (refine LCg.CompSrc.range (by rfl) (by k_asm) (by k_asm) (by assumption) (by first | decide | exact small_one (by l_bnd) (by l_bnd) (by l_bnd) (by l_bnd)) (by first | exact rangeSize_nat _ _ | rfl) (by first | exact Nat.le_of_ble_eq_true rfl | size_fits) ?_; intro g'; (refine' kcm_range PMenu (fun k' t' I' oI' C' oC' D' m' ys' h' tk' E' hlo' hhi' hC' hx' F' N' off' ne' => ?_) (fun ys9 zs9 a9 p9 l9 => ?_)); (all_goals (try ((have off9 := off'); simp only [LCg.Off3, and_true] at off'))); (all_goals (try ((have l10 : zs9.length = 10 := l9); clear l9))); (all_goals (try k_fold)))))
local macro_rules | `(tactic| walk_at "CompEnd") => `(tactic| k_dflt (exact mel_end (by k_asm) (by k_asm) (by kcj_all) (by with_reducible assumption) (by with_reducible assumption)))
local macro_rules | `(tactic| walk_at "pyIter ref") => `(tactic| (k_here; (with_reducible rename Fr _ _ _ _ => F'); (with_reducible rename News _ _ _ _ => N'); (with_reducible rename Are _ _ _ => ar'); (with_unfolding_all refine' loop_lawL (s := ⟨_, _, _, _, _⟩) ar' (by rfl) (by with_reducible assumption) (by first | decide | rfl) (by first | rfl | decide) F' N' (by rfl) (by k_mem) (fun k8 t8 u8 v8 h8 tk8 rest8 lo8 hi8 F8 N8 => ?_) (fun u8 h8 tk8 F8 N8 => ?_)); (all_goals (try clear F' N')); (all_goals (try dsimp only)); (all_goals (try k_fold))))
local macro_rules | `(tactic| walk_at "subscriptTail") => `(tactic| (k_here; (with_reducible show wpAny _ _ (subscriptTail _ (Expr.Slice none (some _) none _) (Value.ref _) (Value.ref _)) _ _ _); (with_reducible rename Fr _ _ _ _ => F'); (with_reducible rename News _ _ _ _ => N'); (with_reducible rename Are _ _ _ => ar'); (refine slice_pieces (s := ⟨_, _, _, _, _⟩) ar' (by with_reducible assumption) F' N' (by k_mem) ?_); intro D9 h9 F9 N9 lt9; (try simp only [AllLt, and_true] at lt9)))
local macro_rules | `(tactic| walk_at "getMethod str") => `(tactic| (k_here; (with_reducible refine methodE ?_)))
local macro_rules | `(tactic| walk_at "LfPost") => `(tactic| (dsimp only [LfPost]))
local macro_rules | `(tactic| walk_at "LfEnd") => `(tactic| ((with_reducible show LfEnd _ _ _ _ _ _ _ _ _); (refine lf_end (by k_asm) (by k_asm) (by kcj_all) ?_); intro z9 z1 z2 z3; simp only [z1, z2, z3, if_false]))
local macro_rules | `(tactic| walk_at "call builtin:str.join") => `(tactic| (k_here; (with_reducible show wpAny _ _ (call (Value.builtin "str.join") [Value.str _ _, Value.ref _]) _ _ _); (refine join_path (s := ⟨_, _, _, _, _⟩) (by k_asm) (by k_mem) (by with_reducible assumption) (by with_reducible assumption) (by with_reducible assumption) (by omega) ?_); intro t7 k7))
local macro_rules | `(tactic| walk_at "binaryOp Add str str") => `(tactic| (k_here; (with_reducible show wpAny _ _ (binaryOp Operator.Add (Value.str _ _) (Value.str (Txt.join _ (List.take _ _)) _)) _ _ _); (refine add_path (s := ⟨_, _, _, _, _⟩) (by with_reducible assumption) (by with_reducible assumption) (by with_reducible assumption) ?_); intro p7 t7 k7 l7 o7))
local macro_rules | `(tactic| walk_at "call builtin:str.encode") => `(tactic| (k_here; (with_reducible show wpAny _ _ (call (Value.builtin "str.encode") [Value.str _ _, Value.str _ _]) _ _ _); first
  | ((refine call_encode (s := ⟨_, _, _, _, _⟩) (OkP.asc (by with_reducible assumption)) (Nat.le_trans (by with_reducible assumption) (Nat.le_of_ble_eq_true rfl)) ?_); intro t7 k7)
  | ((refine call_encode (s := ⟨_, _, _, _, _⟩) (asc_norm (OkP.asc (by with_reducible assumption))) (Nat.le_trans (norm_len (by with_reducible assumption)) (Nat.le_of_ble_eq_true rfl)) ?_); intro t7 k7)))
local macro_rules | `(tactic| walk_at "compareOp NotEq str str") => `(tactic| (k_here; (with_reducible refine ne_same ?_)))
local macro_rules | `(tactic| walk_at "compareOp IsNot bool bool") => `(tactic| (k_here; (with_reducible refine isnot_same ?_)))

set_option maxHeartbeats 2500000 in
theorem law_holds : PySem.Challenge.rw_mj0085_01.Holds := Mine.hd (by (k_go0; (all_goals try k_fold); k_steps))

end Mine
end
theorem PySem.Challenge.cw_mj0085_01_holds : PySem.Challenge.rw_mj0085_01.Holds :=
  Mine.law_holds
