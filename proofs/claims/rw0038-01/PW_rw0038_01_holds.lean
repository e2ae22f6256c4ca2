import PyProof.Rows.All
import Wide.All
import OpenK.AllK
import Wide.FinOn
import PySem.Challenge.RW_rw0038_01
set_option Elab.async false
set_option linter.all false
section
open PySem PySem.W PyProof.Rows
namespace Mine
set_option maxRecDepth 100000 in
set_option maxHeartbeats 8000000 in
open_top hd for PySem.Challenge.rw_rw0038_01
end Mine
end

section
open PySem PySem.W PySem.Calls PyProof.Rows
namespace Mine
noncomputable def Stop (P : Prop) : Prop := P
theorem Stop.go {P : Prop} (h : Stop P) : P := h
theorem Stop.on {P : Prop} (h : P) : Stop P := h

theorem memInl {α : Type} {a : α} {l r : List α} (h : List.Mem a l) : List.Mem a (l ++ r) := List.mem_append.mpr (.inl h)
theorem memInr {α : Type} {a : α} {l r : List α} (h : List.Mem a r) : List.Mem a (l ++ r) := List.mem_append.mpr (.inr h)
theorem memInl' {α : Type} {a : α} {l r : List α} (h : a ∈ l) : a ∈ l ++ r := List.mem_append.mpr (.inl h)
theorem memInr' {α : Type} {a : α} {l r : List α} (h : a ∈ r) : a ∈ l ++ r := List.mem_append.mpr (.inr h)
theorem ltK2 {a b c d n : Nat} (h : a + b < n) (hk : c + d ≤ b) : a + c + d < n := by omega
noncomputable def JnA (Q : Flow → Shared → Prop) : Flow → Shared → Prop := Q
noncomputable def JnV (Q : Value → Shared → Prop) : Value → Shared → Prop := Q
section
variable {M : Model} {A : Around} {E : Value → Shared → Prop} {s : Shared}
theorem isJnA {c : Sem Flow} {Q : Flow → Shared → Prop} (h : wpAny M A c (JnA Q) E s) : wpAny M A c (JnA Q) E s := h
theorem isJnV {c : Sem Value} {Q : Value → Shared → Prop} (h : wpAny M A c (JnV Q) E s) : wpAny M A c (JnV Q) E s := h
theorem eval_join {c : Sem Value} {Q : Value → Shared → Prop} (X : Int) (go : ∀ Q' : Value → Shared → Prop, (∀ t' k', Q' (.int X t') { s with toks := k' }) → wpAny M A c (JnV Q') E s)
    (on : ∀ t' k', Q (.int X t') { s with toks := k' }) : wpAny M A c Q E s := go _ on
theorem flt_join {c : Sem Flow} {Q : Flow → Shared → Prop} {h₀ : Heap} {L : Addr} {m : Str → Option Value} {news : List (Addr × Obj)} (x : Str) (X : UInt64) (_ : Fr h₀ L s.heap m) (_ : News h₀ L s.heap news)
    (go : ∀ Q' : Flow → Shared → Prop, (∀ h tk t, t ≠ 0 → 1 ≤ tk → Fr h₀ L h (fun z => if z = x then some (.float X t) else m z) → News h₀ L h news → Q' .next { s with heap := h, toks := tk }) → wpAny M A c (JnA Q') E s)
    (on : ∀ h tk t, t ≠ 0 → 1 ≤ tk → Fr h₀ L h (fun z => if z = x then some (.float X t) else m z) → News h₀ L h news → Q .next { s with heap := h, toks := tk }) : wpAny M A c Q E s :=
  wpAny_mono (go (fun f s' => f = .next ∧ ∃ h tk t, t ≠ 0 ∧ 1 ≤ tk ∧ s' = { s with heap := h, toks := tk } ∧ Fr h₀ L h (fun z => if z = x then some (.float X t) else m z) ∧ News h₀ L h news) fun h tk t h0 h1 F N => ⟨rfl, h, tk, t, h0, h1, rfl, F, N⟩)
    (fun f s' q => by obtain ⟨rfl, h, tk, t, h0, h1, rfl, F, N⟩ := q; exact on h tk t h0 h1 F N) fun _ _ e => e
end
theorem flt_same {h₀ h : Heap} {L : Addr} {m : Str → Option Value} {x : Str} {v : Value} (F : Fr h₀ L h m) (e : m x = some v) : Fr h₀ L h (fun z => if z = x then some v else m z) := by
  have e' : (fun z => if z = x then some v else m z) = m := by
    funext z
    by_cases h : z = x
    · rw [if_pos h, h, e]
    · rw [if_neg h]
  rw [e']; exact F
theorem kstB_id {m : Str → Option Value} : ∀ {ps : List (Str × Value)}, (∀ p ∈ ps, m p.1 = some p.2) → ∀ y, kstB m ps y = m y
  | [], _, _ => rfl
  | p :: r, h, y => by
    show (if y = p.1 then some p.2 else kstB m r y) = m y
    by_cases e : y = p.1
    · rw [if_pos e, e, h p (.head _)]
    · rw [if_neg e]; exact kstB_id (fun q hq => h q (.tail _ hq)) y
theorem ent_ini {h₀ h : Heap} {L : Addr} {m : Str → Option Value} {ps : List (Str × Value)} (F : Fr h₀ L h m) (hk : ∀ p ∈ ps, m p.1 = some p.2) : ∃ m0, Fr h₀ L h (fun y => kstB m0 ps y) :=
  ⟨m, Eq.mpr (congrArg (Fr h₀ L h) (funext (kstB_id hk))) F⟩
theorem allLt_out {d : Nat} : ∀ {l : List (Addr × Obj)}, AllLt d l → ∀ p ∈ l, p.1 < d
  | [], _, _, h => nomatch h
  | _ :: _, h, p, hp => by
    rcases List.mem_cons.mp hp with rfl | hp
    · exact h.1
    · exact allLt_out h.2 p hp
theorem news_drop2 {h₀ h : Heap} {L : Addr} {x y : Addr × Obj} {l : List (Addr × Obj)} (N : News h₀ L h (x :: y :: l)) : News h₀ L h (x :: l) :=
  fun p hp => N p (by rcases List.mem_cons.mp hp with rfl | hp; exact List.Mem.head _; exact List.Mem.tail _ (List.Mem.tail _ hp))

noncomputable def fmax (x y : UInt64) : UInt64 := if (Float64.cmp x y == some .lt) = true then y else x
noncomputable def fmin (x y : UInt64) : UInt64 := if (Float64.cmp y x == some .lt) = true then y else x

section
variable {prog : Program} {w : World} {A : Around} {E : Value → Shared → Prop} {s : Shared} {Q : Value → Shared → Prop} {a b c : Value}
open PySem.Flt

theorem max3_num (hh : A.handled = none) (ha : NumV a) (hb : NumV b) (hc : NumV c)
    (h : ∀ h' tk, (∀ c o, s.heap.get? c = some o → h'.get? c = some o) → Q (if ltV (if ltV a b then b else a) c then c else (if ltV a b then b else a)) { s with heap := h', toks := tk }) :
    wpAny (model prog w) A (call (.builtin "max") [a, b, c]) Q E s := by
  have hT : (s.heap.push { cls := .type "tuple", data := .seq #[a, b, c] }).IsTuple s.heap.objs.size #[a, b, c] := ⟨_, Heap.get?_push_size _ rfl, rfl, 0, rfl⟩
  refine call_max_three (wpAny_pyIter_tuple hT ?_)
  have hsz : (s.heap.push { cls := .type "tuple", data := .seq #[a, b, c] }).objs.size = s.heap.objs.size + 1 := Heap.size_push ..
  refine ⟨_, [_, s.heap.objs.size], [_], _, _, _, _, rfl, Walks.tuple (A := A.in1) hh _ s.heap.objs.size (by rw [hsz]; exact Nat.ne_of_lt (Nat.lt_succ_self _)) #[a, b, c],
    ⟨⟨_, Heap.get?_push_size _ rfl, rfl, rfl⟩, hT.push _⟩, fun d hd => ?_, by simp, cmpOf_gt #[a, b, c] (by simp [ha, hb, hc]), fun v h' tk hP hk => ?_⟩
  · show d < ((s.heap.push _).push _).objs.size
    rw [Heap.size_push, hsz]
    rcases List.mem_cons.mp hd with rfl | hd
    · rw [hsz]; exact Nat.lt_succ_self _
    · rcases List.mem_cons.mp hd with rfl | hd
      · exact Nat.lt_succ_of_lt (Nat.lt_succ_self _)
      · cases hd
  · have hold : ∀ c o, s.heap.get? c = some o → h'.get? c = some o := fun c o e => by
      refine hk c o (fun hm => ?_) (Heap.get?_push_of_some _ (Heap.get?_push_of_some _ e))
      rcases List.mem_cons.mp hm with e1 | hm
      · have := Heap.lt_size e; rw [e1, hsz] at this; exact Nat.lt_irrefl _ (Nat.lt_of_succ_lt this)
      · cases hm
    have := h h' tk hold
    have hv : v = (if ltV (if ltV a b then b else a) c then c else (if ltV a b then b else a)) := by
      cases h1 : ltV a b <;> cases h2 : ltV b c <;> cases h3 : ltV a c <;> simp [argBest, h1, h2, h3] at hP <;> subst hP <;> simp [*]
    rw [hv]; exact this

theorem min3_num (hh : A.handled = none) (ha : NumV a) (hb : NumV b) (hc : NumV c)
    (h : ∀ h' tk, (∀ c o, s.heap.get? c = some o → h'.get? c = some o) → Q (if ltV c (if ltV b a then b else a) then c else (if ltV b a then b else a)) { s with heap := h', toks := tk }) :
    wpAny (model prog w) A (call (.builtin "min") [a, b, c]) Q E s := by
  have hT : (s.heap.push { cls := .type "tuple", data := .seq #[a, b, c] }).IsTuple s.heap.objs.size #[a, b, c] := ⟨_, Heap.get?_push_size _ rfl, rfl, 0, rfl⟩
  refine call_min_three (wpAny_pyIter_tuple hT ?_)
  have hsz : (s.heap.push { cls := .type "tuple", data := .seq #[a, b, c] }).objs.size = s.heap.objs.size + 1 := Heap.size_push ..
  refine ⟨_, [_, s.heap.objs.size], [_], _, _, _, _, rfl, Walks.tuple (A := A.in1) hh _ s.heap.objs.size (by rw [hsz]; exact Nat.ne_of_lt (Nat.lt_succ_self _)) #[a, b, c],
    ⟨⟨_, Heap.get?_push_size _ rfl, rfl, rfl⟩, hT.push _⟩, fun d hd => ?_, by simp, cmpOf_lt #[a, b, c] (by simp [ha, hb, hc]), fun v h' tk hP hk => ?_⟩
  · show d < ((s.heap.push _).push _).objs.size
    rw [Heap.size_push, hsz]
    rcases List.mem_cons.mp hd with rfl | hd
    · rw [hsz]; exact Nat.lt_succ_self _
    · rcases List.mem_cons.mp hd with rfl | hd
      · exact Nat.lt_succ_of_lt (Nat.lt_succ_self _)
      · cases hd
  · have hold : ∀ c o, s.heap.get? c = some o → h'.get? c = some o := fun c o e => by
      refine hk c o (fun hm => ?_) (Heap.get?_push_of_some _ (Heap.get?_push_of_some _ e))
      rcases List.mem_cons.mp hm with e1 | hm
      · have := Heap.lt_size e; rw [e1, hsz] at this; exact Nat.lt_irrefl _ (Nat.lt_of_succ_lt this)
      · cases hm
    have := h h' tk hold
    have hv : v = (if ltV c (if ltV b a then b else a) then c else (if ltV b a then b else a)) := by
      cases h1 : ltV b a <;> cases h2 : ltV c b <;> cases h3 : ltV c a <;> simp [argBest, h1, h2, h3] at hP <;> subst hP <;> simp [*]
    rw [hv]; exact this

theorem max3_ff {x y z : UInt64} {t u v : Tok} {h₀ : Heap} {L : Addr} {m : Str → Option Value} {news : List (Addr × Obj)}
    (hh : A.handled = none) (h0 : 1 ≤ s.toks) (ht : t ≠ 0) (hu : u ≠ 0) (hv : v ≠ 0) (F : Fr h₀ L s.heap m) (N : News h₀ L s.heap news)
    (h : ∀ h' tk k, 1 ≤ tk → k ≠ 0 → Fr h₀ L h' m → News h₀ L h' news → Q (.float (fmax (fmax x y) z) k) { s with heap := h', toks := tk }) :
    wpAny (model prog w) A (call (.builtin "max") [.float x t, .float y u, .float z v]) Q E s := by
  refine wpAny_with_toks h0 ?_
  refine max3_num hh (.float x t) (.float y u) (.float z v) fun h' tk kp (h1k : 1 ≤ tk) => ?_
  have key := fun k (hk : k ≠ 0) => h h' tk k h1k hk (F.grownK kp) (N.grown kp)
  have e : ∀ a b p q, ltV (.float a p) (.float b q) = (Float64.cmp a b == some .lt) := fun _ _ _ _ => rfl
  unfold fmax at key
  by_cases h1 : (Float64.cmp x y == some .lt) = true
  · simp only [e, if_pos h1] at key ⊢
    by_cases h2 : (Float64.cmp y z == some .lt) = true
    · simp only [if_pos h2] at key ⊢; exact key _ (by assumption)
    · simp only [if_neg h2] at key ⊢; exact key _ (by assumption)
  · simp only [e, if_neg h1] at key ⊢
    by_cases h2 : (Float64.cmp x z == some .lt) = true
    · simp only [if_pos h2] at key ⊢; exact key _ (by assumption)
    · simp only [if_neg h2] at key ⊢; exact key _ (by assumption)

theorem min3_ff {x y z : UInt64} {t u v : Tok} {h₀ : Heap} {L : Addr} {m : Str → Option Value} {news : List (Addr × Obj)}
    (hh : A.handled = none) (h0 : 1 ≤ s.toks) (ht : t ≠ 0) (hu : u ≠ 0) (hv : v ≠ 0) (F : Fr h₀ L s.heap m) (N : News h₀ L s.heap news)
    (h : ∀ h' tk k, 1 ≤ tk → k ≠ 0 → Fr h₀ L h' m → News h₀ L h' news → Q (.float (fmin (fmin x y) z) k) { s with heap := h', toks := tk }) :
    wpAny (model prog w) A (call (.builtin "min") [.float x t, .float y u, .float z v]) Q E s := by
  refine wpAny_with_toks h0 ?_
  refine min3_num hh (.float x t) (.float y u) (.float z v) fun h' tk kp (h1k : 1 ≤ tk) => ?_
  have key := fun k (hk : k ≠ 0) => h h' tk k h1k hk (F.grownK kp) (N.grown kp)
  have e : ∀ a b p q, ltV (.float a p) (.float b q) = (Float64.cmp a b == some .lt) := fun _ _ _ _ => rfl
  unfold fmin at key
  by_cases h1 : (Float64.cmp y x == some .lt) = true
  · simp only [e, if_pos h1] at key ⊢
    by_cases h2 : (Float64.cmp z y == some .lt) = true
    · simp only [if_pos h2] at key ⊢; exact key _ (by assumption)
    · simp only [if_neg h2] at key ⊢; exact key _ (by assumption)
  · simp only [e, if_neg h1] at key ⊢
    by_cases h2 : (Float64.cmp z x == some .lt) = true
    · simp only [if_pos h2] at key ⊢; exact key _ (by assumption)
    · simp only [if_neg h2] at key ⊢; exact key _ (by assumption)
end
end Mine
end

local macro_rules | `(tactic| k_mem) => `(tactic| first | exact List.Mem.head _ | assumption | (refine' List.Mem.tail _ ?_; k_mem) | ((first | with_reducible refine Mine.memInl ?_ | with_reducible refine Mine.memInl' ?_); k_mem) | ((first | with_reducible refine Mine.memInr ?_ | with_reducible refine Mine.memInr' ?_); k_mem))
local macro_rules | `(tactic| walk_at "execs cons") => `(tactic| ((with_reducible refine PySem.wpAny_execs_cons ?_); try dsimp only))
local macro_rules | `(tactic| walk_at "execs nil") => `(tactic| ((with_reducible refine PySem.wpAny_execs_nil ?_); try dsimp only))

section
theorem Mine.fresh_A2 : True := by
  w_top off
  exact trivial
open PySem PySem.W PySem.Calls PyProof.Rows
namespace Mine

noncomputable def rgbL (r g b : UInt64) : Option (UInt64 × UInt64 × UInt64) :=
  let mx := fmax (fmax r g) b
  let mn := fmin (fmin r g) b
  let rg := Float64.sub mx mn
  if (Float64.cmp mn mx == some .eq) = true then some (0, 0, mx)
  else if Float64.isZero mx = true then none
  else if Float64.isZero rg = true then none
  else
    let rc := Float64.div (Float64.sub mx r) rg
    let gc := Float64.div (Float64.sub mx g) rg
    let bc := Float64.div (Float64.sub mx b) rg
    let h := if (Float64.cmp r mx == some .eq) = true then Float64.sub bc gc
      else if (Float64.cmp g mx == some .eq) = true then Float64.sub (Float64.add 4611686018427387904 rc) bc
      else Float64.sub (Float64.add 4616189618054758400 gc) rc
    some ((Float64.divmod (Float64.div h 4618441417868443648) 4607182418800017408).2, Float64.div rg mx, mx)

noncomputable def hueL (r g b : UInt64) : UInt64 :=
  let mx := fmax (fmax r g) b
  let mn := fmin (fmin r g) b
  let rg := Float64.sub mx mn
  let rc := Float64.div (Float64.sub mx r) rg
  let gc := Float64.div (Float64.sub mx g) rg
  let bc := Float64.div (Float64.sub mx b) rg
  if (Float64.cmp r mx == some .eq) = true then Float64.sub bc gc
      else if (Float64.cmp g mx == some .eq) = true then Float64.sub (Float64.add 4611686018427387904 rc) bc
      else Float64.sub (Float64.add 4616189618054758400 gc) rc
theorem rgbL_eq (r g b : UInt64) : rgbL r g b =
    if (Float64.cmp (fmin (fmin r g) b) (fmax (fmax r g) b) == some .eq) = true then some (0, 0, fmax (fmax r g) b)
    else if Float64.isZero (fmax (fmax r g) b) = true then none
    else if Float64.isZero (Float64.sub (fmax (fmax r g) b) (fmin (fmin r g) b)) = true then none
    else some ((Float64.divmod (Float64.div (hueL r g b) 4618441417868443648) 4607182418800017408).2, Float64.div (Float64.sub (fmax (fmax r g) b) (fmin (fmin r g) b)) (fmax (fmax r g) b), fmax (fmax r g) b) := rfl
noncomputable def Joined : Prop := True
theorem stopElse {M : Model} {A : Around} {Q : Flow → Shared → Prop} {E : Value → Shared → Prop} {s : Shared} {c : Expr} {pos : Pos} {b o : List Stmt} {o1 : Stmt} {env : Env} (h : Stop (wpAny M A (PySem.exec (.If c b (o1 :: o) pos) env) Q E s)) : wpAny M A (PySem.exec (.If c b (o1 :: o) pos) env) Q E s := h
section
variable {w : World} {mean : ExcName → Option Value} {mg mb : Str → Option Value}
   {dp un : Nat} {gd : Option (List Code)} {cn : Str} {cs : Scope} {a : Addr} {ccd : Value} {cl : List (Str × Addr)} {outer : List Env} {A₀ : Around} {base h₀ : Heap} {L : Addr} {m : Str → Option Value} {news : List (Addr × Obj)} {s : Shared} {Q E : Value → Shared → Prop}

local macro_rules | `(tactic| walk_at "exec If") => `(tactic| ((fail_if_success (rename Joined => j9)); with_reducible refine stopElse ?_))
local macro_rules | `(tactic| walk_at "call builtin:max") => `(tactic| (refine Stop.go ?_))
local macro_rules | `(tactic| walk_at "call builtin:min") => `(tactic| (refine Stop.go ?_))


set_option maxRecDepth 100000
set_option maxHeartbeats 8000000
theorem c_rgb {r g b x y z : UInt64} {t1 t2 t3 : Tok}
   (hp : rgbL r g b = some (x, y, z)) (ht : 1 ≤ s.toks) (ht1 : t1 ≠ 0) (ht2 : t2 ≠ 0) (ht3 : t3 ≠ 0)
   (B : Below A₀ base outer h₀) (F : Fr h₀ L s.heap m) (X : (Mine.hd.heap_39 w.params).In h₀) (N : News h₀ L s.heap news) (T : Top Mine.hd.view_39 (looseW Mine.hd.view_39 []) mean mg mb h₀) (hk : cs.kind = .function)
   (hd : dp + 1 < recursionLimit)
   (hret : ∀ q h' tk' u1 u2 u3, Fr h₀ L h' m → News h₀ L h' ((q, { cls := .type "tuple", data := .seq #[.float x u1, .float y u2, .float z u3] }) :: news) → (∀ p ∈ news, p.1 < q) → u1 ≠ 0 → u2 ≠ 0 → u3 ≠ 0 → Q (.ref q) { s with heap := h', toks := tk' }) :
   wpAny (model PySem.Challenge.rw_rw0038_01.row.toRowW.1 w) (ktrTop dp un gd cn cs L a ccd cl outer) (call (.ref 28) [.float r t1, .float g t2, .float b t3]) Q E s := by
  have hfill : PySem.Challenge.rw_rw0038_01 = PySem.Challenge.rw_rw0038_01 ∧ Mine.hd.heap_39 = Mine.hd.heap_39 := ⟨rfl, rfl⟩
  revert hfill
  k_fill
  intro _
  refine wpAny_call ?_
  (k_dflt cell_enter)
  rename Fr _ _ _ _ => FE
  obtain ⟨mE, FE2⟩ := ent_ini (ps := [(Str.ofString "r", .float r t1), (Str.ofString "g", .float g t2), (Str.ofString "b", .float b t3)]) FE (by kst_all)
  clear FE
  generalize hkE : s.toks + List.length _ = kE
  have hkE1 : 1 ≤ kE := by rw [← hkE]; exact Nat.le_trans ht (Nat.le_add_right _ _)
  clear hkE
  (k_steps; repeat' ((with_reducible show Stop _); refine Stop.on ?_; (first | with_reducible ((with_reducible show wpAny _ _ (call (PySem.Value.builtin "min") _) _ _ _); ((with_reducible show wpAny _ _ (call _ [Value.float _ _, Value.float _ _, Value.float _ _]) _ _ _); (rename News _ _ _ _ => N'); (rename Fr _ _ _ _ => F'); refine min3_ff rfl (by (try dsimp only); lia) (by assumption) (by assumption) (by assumption) F' N' ?_; clear N'; intro _ _ _ h1k hnk _ _)) | with_reducible ((with_reducible show wpAny _ _ (call (PySem.Value.builtin "max") _) _ _ _); ((with_reducible show wpAny _ _ (call _ [Value.float _ _, Value.float _ _, Value.float _ _]) _ _ _); (rename News _ _ _ _ => N'); (rename Fr _ _ _ _ => F'); refine max3_ff rfl (by (try dsimp only); lia) (by assumption) (by assumption) (by assumption) F' N' ?_; clear N'; intro _ _ _ h1k hnk _ _)) | ((with_reducible show wpAny _ _ (call (PySem.Value.builtin "min") _) _ _ _); ((with_reducible show wpAny _ _ (call _ [Value.float _ _, Value.float _ _, Value.float _ _]) _ _ _); (rename News _ _ _ _ => N'); (rename Fr _ _ _ _ => F'); refine min3_ff rfl (by (try dsimp only); lia) (by assumption) (by assumption) (by assumption) F' N' ?_; clear N'; intro _ _ _ h1k hnk _ _)) | ((with_reducible show wpAny _ _ (call (PySem.Value.builtin "max") _) _ _ _); ((with_reducible show wpAny _ _ (call _ [Value.float _ _, Value.float _ _, Value.float _ _]) _ _ _); (rename News _ _ _ _ => N'); (rename Fr _ _ _ _ => F'); refine max3_ff rfl (by (try dsimp only); lia) (by assumption) (by assumption) (by assumption) F' N' ?_; clear N'; intro _ _ _ h1k hnk _ _))); k_steps))
  all_goals try
    ((with_reducible show Stop _)
     refine Stop.on ?_
     (rename Fr _ _ _ _ => F4)
     (rename News _ _ _ _ => N4)
     refine flt_join (Str.ofString "h") (hueL r g b) F4 N4 ?_ ?_
     focus
       clear hret
       intro Q' hQ
       have hj : Joined := trivial
       (k_steps; repeat' ((with_reducible show Stop _); refine Stop.on ?_; (first | with_reducible ((with_reducible show wpAny _ _ (call (PySem.Value.builtin "min") _) _ _ _); ((with_reducible show wpAny _ _ (call _ [Value.float _ _, Value.float _ _, Value.float _ _]) _ _ _); (rename News _ _ _ _ => N'); (rename Fr _ _ _ _ => F'); refine min3_ff rfl (by (try dsimp only); lia) (by assumption) (by assumption) (by assumption) F' N' ?_; clear N'; intro _ _ _ h1k hnk _ _)) | with_reducible ((with_reducible show wpAny _ _ (call (PySem.Value.builtin "max") _) _ _ _); ((with_reducible show wpAny _ _ (call _ [Value.float _ _, Value.float _ _, Value.float _ _]) _ _ _); (rename News _ _ _ _ => N'); (rename Fr _ _ _ _ => F'); refine max3_ff rfl (by (try dsimp only); lia) (by assumption) (by assumption) (by assumption) F' N' ?_; clear N'; intro _ _ _ h1k hnk _ _)) | ((with_reducible show wpAny _ _ (call (PySem.Value.builtin "min") _) _ _ _); ((with_reducible show wpAny _ _ (call _ [Value.float _ _, Value.float _ _, Value.float _ _]) _ _ _); (rename News _ _ _ _ => N'); (rename Fr _ _ _ _ => F'); refine min3_ff rfl (by (try dsimp only); lia) (by assumption) (by assumption) (by assumption) F' N' ?_; clear N'; intro _ _ _ h1k hnk _ _)) | ((with_reducible show wpAny _ _ (call (PySem.Value.builtin "max") _) _ _ _); ((with_reducible show wpAny _ _ (call _ [Value.float _ _, Value.float _ _, Value.float _ _]) _ _ _); (rename News _ _ _ _ => N'); (rename Fr _ _ _ _ => F'); refine max3_ff rfl (by (try dsimp only); lia) (by assumption) (by assumption) (by assumption) F' N' ?_; clear N'; intro _ _ _ h1k hnk _ _))); k_steps))
       all_goals (simp only [hueL, *, if_true, if_false, Bool.false_eq_true] at hQ; (rename Fr _ _ _ _ => F5); (rename News _ _ _ _ => N5); refine hQ _ _ _ ?_ ?_ F5 N5)
       all_goals first | assumption | exact Nat.succ_ne_zero _ | ((try dsimp only); first | assumption | exact Nat.le_add_left 1 _ | lia | (show @Ne Nat _ _; lia))
     clear F4 N4
     intro h5 k5 t5 ht5 hk5 F4 N4
     have hj : Joined := trivial
     (k_steps; repeat' ((with_reducible show Stop _); refine Stop.on ?_; (first | with_reducible ((with_reducible show wpAny _ _ (call (PySem.Value.builtin "min") _) _ _ _); ((with_reducible show wpAny _ _ (call _ [Value.float _ _, Value.float _ _, Value.float _ _]) _ _ _); (rename News _ _ _ _ => N'); (rename Fr _ _ _ _ => F'); refine min3_ff rfl (by (try dsimp only); lia) (by assumption) (by assumption) (by assumption) F' N' ?_; clear N'; intro _ _ _ h1k hnk _ _)) | with_reducible ((with_reducible show wpAny _ _ (call (PySem.Value.builtin "max") _) _ _ _); ((with_reducible show wpAny _ _ (call _ [Value.float _ _, Value.float _ _, Value.float _ _]) _ _ _); (rename News _ _ _ _ => N'); (rename Fr _ _ _ _ => F'); refine max3_ff rfl (by (try dsimp only); lia) (by assumption) (by assumption) (by assumption) F' N' ?_; clear N'; intro _ _ _ h1k hnk _ _)) | ((with_reducible show wpAny _ _ (call (PySem.Value.builtin "min") _) _ _ _); ((with_reducible show wpAny _ _ (call _ [Value.float _ _, Value.float _ _, Value.float _ _]) _ _ _); (rename News _ _ _ _ => N'); (rename Fr _ _ _ _ => F'); refine min3_ff rfl (by (try dsimp only); lia) (by assumption) (by assumption) (by assumption) F' N' ?_; clear N'; intro _ _ _ h1k hnk _ _)) | ((with_reducible show wpAny _ _ (call (PySem.Value.builtin "max") _) _ _ _); ((with_reducible show wpAny _ _ (call _ [Value.float _ _, Value.float _ _, Value.float _ _]) _ _ _); (rename News _ _ _ _ => N'); (rename Fr _ _ _ _ => F'); refine max3_ff rfl (by (try dsimp only); lia) (by assumption) (by assumption) (by assumption) F' N' ?_; clear N'; intro _ _ _ h1k hnk _ _))); k_steps)))
  all_goals (rw [rgbL_eq] at hp; simp only [*, if_true, if_false, Bool.false_eq_true, reduceCtorEq] at hp)
  all_goals (simp only [Option.some.injEq, Prod.mk.injEq] at hp; obtain ⟨rfl, rfl, rfl⟩ := hp; exact hret _ _ _ _ _ _ (by k_asm) (by k_asm) (by assumption) (by first | assumption | exact Nat.succ_ne_zero _ | (show @Ne Nat _ _; lia)) (by first | assumption | exact Nat.succ_ne_zero _ | (show @Ne Nat _ _; lia)) (by first | assumption | exact Nat.succ_ne_zero _ | (show @Ne Nat _ _; lia)))
end
end Mine
end

section
theorem Mine.fresh_A3 : True := by
  w_top off
  exact trivial
open PySem PySem.W PySem.Calls PyProof.Rows
namespace Mine

noncomputable def hsvL (h z v : UInt64) : Option (UInt64 × UInt64 × UInt64) :=
  if (Float64.cmp z 0 == some .eq) = true then some (v, v, v)
  else
    let x := Float64.mul h 4618441417868443648
    let i := Flt.toInt Float64.truncOf x
    let f := Float64.sub x (Float64.ofInt i)
    let p := Float64.mul v (Float64.sub 4607182418800017408 z)
    let q := Float64.mul v (Float64.sub 4607182418800017408 (Float64.mul z f))
    let t := Float64.mul v (Float64.sub 4607182418800017408 (Float64.mul z (Float64.sub 4607182418800017408 f)))
    if Float64.isFinite x = true then
      if i.natAbs < 2 ^ 1024 - 2 ^ 970 then
        if i.fmod 6 = 0 then some (v, t, p)
        else if i.fmod 6 = 1 then some (q, v, p)
        else if i.fmod 6 = 2 then some (p, v, t)
        else if i.fmod 6 = 3 then some (p, q, v)
        else if i.fmod 6 = 4 then some (t, p, v)
        else if i.fmod 6 = 5 then some (v, p, q)
        else none
      else none
    else none

theorem nfin_nan {x : UInt64} (h : Float64.isNaN x = true) : Float64.isFinite x = false := by rw [Flt.nan_or_inf_or_finite, h]; rfl
theorem nfin_inf {x : UInt64} (h : Float64.isInf x = true) : Float64.isFinite x = false := by rw [Flt.nan_or_inf_or_finite, h]; simp

section
variable {w : World} {mean : ExcName → Option Value} {mg mb : Str → Option Value}
   {dp un : Nat} {gd : Option (List Code)} {cn : Str} {cs : Scope} {a : Addr} {ccd : Value} {cl : List (Str × Addr)} {outer : List Env} {A₀ : Around} {base h₀ : Heap} {L : Addr} {m : Str → Option Value} {news : List (Addr × Obj)} {s : Shared} {Q E : Value → Shared → Prop}


set_option maxRecDepth 100000
set_option maxHeartbeats 8000000
theorem c_hsv {h z v x0 x1 x2 : UInt64} {t1 t2 t3 : Tok}
   (hp : hsvL h z v = some (x0, x1, x2)) (ht : 1 ≤ s.toks) (ht3 : t3 ≠ 0)
   (B : Below A₀ base outer h₀) (F : Fr h₀ L s.heap m) (X : (Mine.hd.heap_39 w.params).In h₀) (N : News h₀ L s.heap news) (T : Top Mine.hd.view_39 (looseW Mine.hd.view_39 []) mean mg mb h₀) (hk : cs.kind = .function)
   (hd : dp + 1 < recursionLimit)
   (hret : ∀ q h' tk' u1 u2 u3, Fr h₀ L h' m → News h₀ L h' ((q, { cls := .type "tuple", data := .seq #[.float x0 u1, .float x1 u2, .float x2 u3] }) :: news) → (∀ p ∈ news, p.1 < q) → u1 ≠ 0 → u2 ≠ 0 → u3 ≠ 0 → Q (.ref q) { s with heap := h', toks := tk' }) :
   wpAny (model PySem.Challenge.rw_rw0038_01.row.toRowW.1 w) (ktrTop dp un gd cn cs L a ccd cl outer) (call (.ref 35) [.float h t1, .float z t2, .float v t3]) Q E s := by
  have hfill : PySem.Challenge.rw_rw0038_01 = PySem.Challenge.rw_rw0038_01 ∧ Mine.hd.heap_39 = Mine.hd.heap_39 := ⟨rfl, rfl⟩
  revert hfill
  k_fill
  intro _
  refine wpAny_call ?_
  (k_dflt cell_enter)
  rename Fr _ _ _ _ => FE
  obtain ⟨mE, FE2⟩ := ent_ini (ps := [(Str.ofString "h", .float h t1), (Str.ofString "s", .float z t2), (Str.ofString "v", .float v t3)]) FE (by kst_all)
  clear FE
  generalize hkE : s.toks + List.length _ = kE
  have hkE1 : 1 ≤ kE := by rw [← hkE]; exact Nat.le_trans ht (Nat.le_add_right _ _)
  clear hkE
  k_steps
  all_goals unfold hsvL at hp
  all_goals (try (rename Float64.isNaN _ = true => hnan; replace hnan := nfin_nan hnan))
  all_goals (try (rename Float64.isInf _ = true => hnan; replace hnan := nfin_inf hnan))
  all_goals (try (rename (_ ≤ Int.natAbs _) => hbig; replace hbig := Nat.not_lt.mpr hbig))
  all_goals (simp only [*, if_true, if_false, Bool.false_eq_true, reduceCtorEq, Int.reduceEq, ↓reduceIte] at hp)
  all_goals (first | (simp only [Option.some.injEq, Prod.mk.injEq] at hp; obtain ⟨rfl, rfl, rfl⟩ := hp; exact hret _ _ _ _ _ _ (by k_asm) (by k_asm) (by assumption) (by first | assumption | exact Nat.succ_ne_zero _ | (show @Ne Nat _ _; lia)) (by first | assumption | exact Nat.succ_ne_zero _ | (show @Ne Nat _ _; lia)) (by first | assumption | exact Nat.succ_ne_zero _ | (show @Ne Nat _ _; lia))) | skip)
end
end Mine
end

section
theorem Mine.fresh_A4 : True := by
  w_top off
  exact trivial
open PySem PySem.W PySem.Calls PyProof.Rows
namespace Mine

noncomputable def chgL (r g b : UInt64) (c0 c1 c2 : Int) : Option (UInt64 × UInt64 × UInt64) :=
  match rgbL r g b with
  | none => none
  | some (h, s, v) => hsvL (Float64.add h (Float64.div (Float64.ofInt c0) 4625196817309499392)) (if c1 < 5 then Float64.div (Float64.ofInt c1) 4616189618054758400 else s) (if 0 < c2 then Float64.div (Float64.ofInt c2) 4616189618054758400 else v)

theorem not_over {n : Int} (h : n.natAbs < 100) : ¬ Flt.Over n := by
  unfold Flt.Over
  have : (100 : Nat) ≤ 2 ^ 1024 - 2 ^ 970 := by decide +kernel
  lia

section
variable {w : World} {mean : ExcName → Option Value} {mg mb : Str → Option Value}
   {dp un : Nat} {gd : Option (List Code)} {cn : Str} {cs : Scope} {a : Addr} {ccd : Value} {cl : List (Str × Addr)} {outer : List Env} {A₀ : Around} {base h₀ : Heap} {L : Addr} {m : Str → Option Value} {news : List (Addr × Obj)} {s : Shared} {Q E : Value → Shared → Prop}

theorem c_rgbT {r g b x y z : UInt64} {t1 t2 t3 : Tok}
   (hp : rgbL r g b = some (x, y, z)) (ht : 1 ≤ s.toks) (ht1 : t1 ≠ 0) (ht2 : t2 ≠ 0) (ht3 : t3 ≠ 0)
   (B : Below A₀ base outer h₀) (F : Fr h₀ L s.heap m) (X : (Mine.hd.heap_39 w.params).In h₀) (N : News h₀ L s.heap news) (T : Top Mine.hd.view_39 (looseW Mine.hd.view_39 []) mean mg mb h₀) (hk : cs.kind = .function)
   (hd : dp + 1 < recursionLimit)
   (hret : ∀ q h' tk' u1 u2 u3, Fr h₀ L h' m → News h₀ L h' ((q, { cls := .type "tuple", data := .seq #[.float x u1, .float y u2, .float z u3] }) :: news) → (∀ p ∈ news, p.1 < q) → u1 ≠ 0 → u2 ≠ 0 → u3 ≠ 0 → 1 ≤ tk' → Q (.ref q) { s with heap := h', toks := tk' }) :
   wpAny (model PySem.Challenge.rw_rw0038_01.row.toRowW.1 w) (ktrTop dp un gd cn cs L a ccd cl outer) (call (.ref 28) [.float r t1, .float g t2, .float b t3]) Q E s :=
  wpAny_with_toks ht (c_rgb hp ht ht1 ht2 ht3 B F X N T hk hd fun q h' tk' u1 u2 u3 F' N' l e1 e2 e3 e4 => hret q h' tk' u1 u2 u3 F' N' l e1 e2 e3 e4)

theorem c_hsvT {h z v x0 x1 x2 : UInt64} {t1 t2 t3 : Tok}
   (hp : hsvL h z v = some (x0, x1, x2)) (ht : 1 ≤ s.toks) (ht3 : t3 ≠ 0)
   (B : Below A₀ base outer h₀) (F : Fr h₀ L s.heap m) (X : (Mine.hd.heap_39 w.params).In h₀) (N : News h₀ L s.heap news) (T : Top Mine.hd.view_39 (looseW Mine.hd.view_39 []) mean mg mb h₀) (hk : cs.kind = .function)
   (hd : dp + 1 < recursionLimit)
   (hret : ∀ q h' tk' u1 u2 u3, Fr h₀ L h' m → News h₀ L h' ((q, { cls := .type "tuple", data := .seq #[.float x0 u1, .float x1 u2, .float x2 u3] }) :: news) → (∀ p ∈ news, p.1 < q) → u1 ≠ 0 → u2 ≠ 0 → u3 ≠ 0 → 1 ≤ tk' → Q (.ref q) { s with heap := h', toks := tk' }) :
   wpAny (model PySem.Challenge.rw_rw0038_01.row.toRowW.1 w) (ktrTop dp un gd cn cs L a ccd cl outer) (call (.ref 35) [.float h t1, .float z t2, .float v t3]) Q E s :=
  wpAny_with_toks ht (c_hsv hp ht ht3 B F X N T hk hd fun q h' tk' u1 u2 u3 F' N' l e1 e2 e3 e4 => hret q h' tk' u1 u2 u3 F' N' l e1 e2 e3 e4)
local macro_rules | `(tactic| walk_at "exec If") => `(tactic| ((fail_if_success with_reducible refine isJnA ?_); refine Stop.go ?_))
local macro_rules | `(tactic| walk_at "call ref") => `(tactic| (refine Stop.go ?_))


set_option maxRecDepth 100000
set_option maxHeartbeats 8000000
theorem c_changed {p q : Addr} {r g b x0 x1 x2 : UInt64} {c0 c1 c2 : Int} {t0 t1 t2 t3 t4 t5 : Tok}
   (hp : chgL r g b c0 c1 c2 = some (x0, x1, x2)) (ht : 1 ≤ s.toks) (ht0 : t0 ≠ 0) (ht1 : t1 ≠ 0) (ht2 : t2 ≠ 0)
   (h0 : 0 ≤ c0 ∧ c0 < 32) (h1 : 0 ≤ c1 ∧ c1 < 6) (h2 : 0 ≤ c2 ∧ c2 < 5)
   (hc : (p, { cls := .type "tuple", data := .seq #[.float r t0, .float g t1, .float b t2] }) ∈ news)
   (hch : (q, { cls := .type "tuple", data := .seq #[.int c0 t3, .int c1 t4, .int c2 t5] }) ∈ news)
   (B : Below A₀ base outer h₀) (F : Fr h₀ L s.heap m) (X : (Mine.hd.heap_39 w.params).In h₀) (N : News h₀ L s.heap news) (T : Top Mine.hd.view_39 (looseW Mine.hd.view_39 []) mean mg mb h₀) (hk : cs.kind = .function)
   (hd : dp + 4 < recursionLimit) (hu : un + 20 < cLine)
   (hret : ∀ q h' tk' u1 u2 u3, Fr h₀ L h' m → News h₀ L h' ((q, { cls := .type "tuple", data := .seq #[.float x0 u1, .float x1 u2, .float x2 u3] }) :: news) → (∀ p ∈ news, p.1 < q) → u1 ≠ 0 → u2 ≠ 0 → u3 ≠ 0 → Q (.ref q) { s with heap := h', toks := tk' }) :
   wpAny (model PySem.Challenge.rw_rw0038_01.row.toRowW.1 w) (ktrTop dp un gd cn cs L a ccd cl outer) (call (.ref 87) [.ref p, .ref q]) Q E s := by
  have hfill : PySem.Challenge.rw_rw0038_01 = PySem.Challenge.rw_rw0038_01 ∧ Mine.hd.heap_39 = Mine.hd.heap_39 := ⟨rfl, rfl⟩
  revert hfill
  k_fill
  intro _
  unfold chgL at hp
  cases hr : rgbL r g b with
  | none => rw [hr] at hp; cases hp
  | some y =>
  obtain ⟨y0, y1, y2⟩ := y
  rw [hr] at hp
  dsimp only at hp
  have no0 : ¬ Flt.Over c0 := not_over (by lia)
  have no1 : ¬ Flt.Over c1 := not_over (by lia)
  have no2 : ¬ Flt.Over c2 := not_over (by lia)
  refine wpAny_call ?_
  (k_dflt cell_enter)
  rename Fr _ _ _ _ => FE
  obtain ⟨mE, FE2⟩ := ent_ini (ps := [(Str.ofString "colour", .ref p), (Str.ofString "change", .ref q)]) FE (by kst_all)
  clear FE
  generalize hkE : s.toks + List.length _ = kE
  have hkE1 : 1 ≤ kE := hkE ▸ Nat.le_trans ht (Nat.le_add_right _ _)
  clear hkE
  (k_steps; repeat' ((with_reducible show Stop _); refine Stop.on ?_; (first | with_reducible ((with_reducible show wpAny _ _ (call (PySem.Value.ref _) _) _ _ _); (k_here; (with_reducible show wpAny _ _ (call (Value.ref 35) _) _ _ _); k_dflt (refine' c_hsvT ?zqhp ?zqht ?zqh3 ?zqk1 ?zqk2 ?zqk3 ?zqk4 ?zqk5 ?zqkK ?zqkd ?_; (case zqk1 => k_asm); (case zqk2 => k_asm); (case zqk3 => k_asm); (case zqk4 => k_asm); (case zqk5 => k_asm); (case zqkK => first | exact rfl | assumption); (case zqhp => assumption); (case zqht => first | assumption | (try dsimp only); lia); (try (case zqh1 => first | assumption | exact Nat.succ_ne_zero _ | (show @Ne Nat _ _; lia))); (try (case zqh2 => first | assumption | exact Nat.succ_ne_zero _ | (show @Ne Nat _ _; lia))); (case zqh3 => first | assumption | exact Nat.succ_ne_zero _ | (show @Ne Nat _ _; lia)); (case zqkd => first | exact ltK2 hd (by decide) | ktr_room); k_whole); intro q' h' tk' u1' u2' u3' F' N' l1 e1' e2' e3' htk'; (try k_lt l1); (try dsimp only); (try k_fold))) | with_reducible ((with_reducible show wpAny _ _ (call (PySem.Value.ref _) _) _ _ _); (k_here; (with_reducible show wpAny _ _ (call (Value.ref 28) _) _ _ _); k_dflt (refine' c_rgbT ?zqhp ?zqht ?zqh1 ?zqh2 ?zqh3 ?zqk1 ?zqk2 ?zqk3 ?zqk4 ?zqk5 ?zqkK ?zqkd ?_; (case zqk1 => k_asm); (case zqk2 => k_asm); (case zqk3 => k_asm); (case zqk4 => k_asm); (case zqk5 => k_asm); (case zqkK => first | exact rfl | assumption); (case zqhp => assumption); (case zqht => first | assumption | (try dsimp only); lia); (try (case zqh1 => first | assumption | exact Nat.succ_ne_zero _ | (show @Ne Nat _ _; lia))); (try (case zqh2 => first | assumption | exact Nat.succ_ne_zero _ | (show @Ne Nat _ _; lia))); (case zqh3 => first | assumption | exact Nat.succ_ne_zero _ | (show @Ne Nat _ _; lia)); (case zqkd => first | exact ltK2 hd (by decide) | ktr_room); k_whole); intro q' h' tk' u1' u2' u3' F' N' l1 e1' e2' e3' htk'; (try k_lt l1); (try dsimp only); (try k_fold))) | ((with_reducible show wpAny _ _ (call (PySem.Value.ref _) _) _ _ _); (k_here; (with_reducible show wpAny _ _ (call (Value.ref 35) _) _ _ _); k_dflt (refine' c_hsvT ?zqhp ?zqht ?zqh3 ?zqk1 ?zqk2 ?zqk3 ?zqk4 ?zqk5 ?zqkK ?zqkd ?_; (case zqk1 => k_asm); (case zqk2 => k_asm); (case zqk3 => k_asm); (case zqk4 => k_asm); (case zqk5 => k_asm); (case zqkK => first | exact rfl | assumption); (case zqhp => assumption); (case zqht => first | assumption | (try dsimp only); lia); (try (case zqh1 => first | assumption | exact Nat.succ_ne_zero _ | (show @Ne Nat _ _; lia))); (try (case zqh2 => first | assumption | exact Nat.succ_ne_zero _ | (show @Ne Nat _ _; lia))); (case zqh3 => first | assumption | exact Nat.succ_ne_zero _ | (show @Ne Nat _ _; lia)); (case zqkd => first | exact ltK2 hd (by decide) | ktr_room); k_whole); intro q' h' tk' u1' u2' u3' F' N' l1 e1' e2' e3' htk'; (try k_lt l1); (try dsimp only); (try k_fold))) | ((with_reducible show wpAny _ _ (call (PySem.Value.ref _) _) _ _ _); (k_here; (with_reducible show wpAny _ _ (call (Value.ref 28) _) _ _ _); k_dflt (refine' c_rgbT ?zqhp ?zqht ?zqh1 ?zqh2 ?zqh3 ?zqk1 ?zqk2 ?zqk3 ?zqk4 ?zqk5 ?zqkK ?zqkd ?_; (case zqk1 => k_asm); (case zqk2 => k_asm); (case zqk3 => k_asm); (case zqk4 => k_asm); (case zqk5 => k_asm); (case zqkK => first | exact rfl | assumption); (case zqhp => assumption); (case zqht => first | assumption | (try dsimp only); lia); (try (case zqh1 => first | assumption | exact Nat.succ_ne_zero _ | (show @Ne Nat _ _; lia))); (try (case zqh2 => first | assumption | exact Nat.succ_ne_zero _ | (show @Ne Nat _ _; lia))); (case zqh3 => first | assumption | exact Nat.succ_ne_zero _ | (show @Ne Nat _ _; lia)); (case zqkd => first | exact ltK2 hd (by decide) | ktr_room); k_whole); intro q' h' tk' u1' u2' u3' F' N' l1 e1' e2' e3' htk'; (try k_lt l1); (try dsimp only); (try k_fold)))); k_steps))
  refine Stop.on ?_
  rename Fr _ _ _ _ => F4
  rename News _ _ _ _ => N4
  refine flt_join (Str.ofString "s") (if c1 < 5 then Float64.div (Float64.ofInt c1) 4616189618054758400 else y1) F4 N4 ?_ ?_
  · clear hret
    intro Q' hQ
    by_cases h : c1 < 5
    · rw [if_pos h] at hQ
      k_steps
      rename Fr _ _ _ _ => F5
      rename News _ _ _ _ => N5
      refine hQ _ _ _ ?_ ?_ F5 N5
      · first | assumption | exact Nat.succ_ne_zero _ | (show @Ne Nat _ _; lia)
      · (try dsimp only); first | assumption | exact Nat.le_add_left 1 _ | lia
    · rw [if_neg h] at hQ
      k_steps
      rename Fr _ _ _ _ => F5
      rename News _ _ _ _ => N5
      refine hQ _ _ _ ?_ ?_ (flt_same F5 (by with_unfolding_all rfl)) N5
      · first | assumption | exact Nat.succ_ne_zero _ | (show @Ne Nat _ _; lia)
      · (try dsimp only); first | assumption | exact Nat.le_add_left 1 _ | lia
  clear F4 N4
  generalize (if c1 < 5 then Float64.div (Float64.ofInt c1) 4616189618054758400 else y1) = X1 at hp ⊢
  intro h5 k5 t5 ht5 hk5 F4 N4
  (k_steps; repeat' ((with_reducible show Stop _); refine Stop.on ?_; (first | with_reducible ((with_reducible show wpAny _ _ (call (PySem.Value.ref _) _) _ _ _); (k_here; (with_reducible show wpAny _ _ (call (Value.ref 35) _) _ _ _); k_dflt (refine' c_hsvT ?zqhp ?zqht ?zqh3 ?zqk1 ?zqk2 ?zqk3 ?zqk4 ?zqk5 ?zqkK ?zqkd ?_; (case zqk1 => k_asm); (case zqk2 => k_asm); (case zqk3 => k_asm); (case zqk4 => k_asm); (case zqk5 => k_asm); (case zqkK => first | exact rfl | assumption); (case zqhp => assumption); (case zqht => first | assumption | (try dsimp only); lia); (try (case zqh1 => first | assumption | exact Nat.succ_ne_zero _ | (show @Ne Nat _ _; lia))); (try (case zqh2 => first | assumption | exact Nat.succ_ne_zero _ | (show @Ne Nat _ _; lia))); (case zqh3 => first | assumption | exact Nat.succ_ne_zero _ | (show @Ne Nat _ _; lia)); (case zqkd => first | exact ltK2 hd (by decide) | ktr_room); k_whole); intro q' h' tk' u1' u2' u3' F' N' l1 e1' e2' e3' htk'; (try k_lt l1); (try dsimp only); (try k_fold))) | with_reducible ((with_reducible show wpAny _ _ (call (PySem.Value.ref _) _) _ _ _); (k_here; (with_reducible show wpAny _ _ (call (Value.ref 28) _) _ _ _); k_dflt (refine' c_rgbT ?zqhp ?zqht ?zqh1 ?zqh2 ?zqh3 ?zqk1 ?zqk2 ?zqk3 ?zqk4 ?zqk5 ?zqkK ?zqkd ?_; (case zqk1 => k_asm); (case zqk2 => k_asm); (case zqk3 => k_asm); (case zqk4 => k_asm); (case zqk5 => k_asm); (case zqkK => first | exact rfl | assumption); (case zqhp => assumption); (case zqht => first | assumption | (try dsimp only); lia); (try (case zqh1 => first | assumption | exact Nat.succ_ne_zero _ | (show @Ne Nat _ _; lia))); (try (case zqh2 => first | assumption | exact Nat.succ_ne_zero _ | (show @Ne Nat _ _; lia))); (case zqh3 => first | assumption | exact Nat.succ_ne_zero _ | (show @Ne Nat _ _; lia)); (case zqkd => first | exact ltK2 hd (by decide) | ktr_room); k_whole); intro q' h' tk' u1' u2' u3' F' N' l1 e1' e2' e3' htk'; (try k_lt l1); (try dsimp only); (try k_fold))) | ((with_reducible show wpAny _ _ (call (PySem.Value.ref _) _) _ _ _); (k_here; (with_reducible show wpAny _ _ (call (Value.ref 35) _) _ _ _); k_dflt (refine' c_hsvT ?zqhp ?zqht ?zqh3 ?zqk1 ?zqk2 ?zqk3 ?zqk4 ?zqk5 ?zqkK ?zqkd ?_; (case zqk1 => k_asm); (case zqk2 => k_asm); (case zqk3 => k_asm); (case zqk4 => k_asm); (case zqk5 => k_asm); (case zqkK => first | exact rfl | assumption); (case zqhp => assumption); (case zqht => first | assumption | (try dsimp only); lia); (try (case zqh1 => first | assumption | exact Nat.succ_ne_zero _ | (show @Ne Nat _ _; lia))); (try (case zqh2 => first | assumption | exact Nat.succ_ne_zero _ | (show @Ne Nat _ _; lia))); (case zqh3 => first | assumption | exact Nat.succ_ne_zero _ | (show @Ne Nat _ _; lia)); (case zqkd => first | exact ltK2 hd (by decide) | ktr_room); k_whole); intro q' h' tk' u1' u2' u3' F' N' l1 e1' e2' e3' htk'; (try k_lt l1); (try dsimp only); (try k_fold))) | ((with_reducible show wpAny _ _ (call (PySem.Value.ref _) _) _ _ _); (k_here; (with_reducible show wpAny _ _ (call (Value.ref 28) _) _ _ _); k_dflt (refine' c_rgbT ?zqhp ?zqht ?zqh1 ?zqh2 ?zqh3 ?zqk1 ?zqk2 ?zqk3 ?zqk4 ?zqk5 ?zqkK ?zqkd ?_; (case zqk1 => k_asm); (case zqk2 => k_asm); (case zqk3 => k_asm); (case zqk4 => k_asm); (case zqk5 => k_asm); (case zqkK => first | exact rfl | assumption); (case zqhp => assumption); (case zqht => first | assumption | (try dsimp only); lia); (try (case zqh1 => first | assumption | exact Nat.succ_ne_zero _ | (show @Ne Nat _ _; lia))); (try (case zqh2 => first | assumption | exact Nat.succ_ne_zero _ | (show @Ne Nat _ _; lia))); (case zqh3 => first | assumption | exact Nat.succ_ne_zero _ | (show @Ne Nat _ _; lia)); (case zqkd => first | exact ltK2 hd (by decide) | ktr_room); k_whole); intro q' h' tk' u1' u2' u3' F' N' l1 e1' e2' e3' htk'; (try k_lt l1); (try dsimp only); (try k_fold)))); k_steps))
  refine Stop.on ?_
  rename Fr _ _ _ _ => F4
  rename News _ _ _ _ => N4
  refine flt_join (Str.ofString "v") (if 0 < c2 then Float64.div (Float64.ofInt c2) 4616189618054758400 else y2) F4 N4 ?_ ?_
  · clear hret
    intro Q' hQ
    by_cases h : 0 < c2
    · rw [if_pos h] at hQ
      k_steps
      rename Fr _ _ _ _ => F5
      rename News _ _ _ _ => N5
      refine hQ _ _ _ ?_ ?_ F5 N5
      · first | assumption | exact Nat.succ_ne_zero _ | (show @Ne Nat _ _; lia)
      · (try dsimp only); first | assumption | exact Nat.le_add_left 1 _ | lia
    · rw [if_neg h] at hQ
      k_steps
      rename Fr _ _ _ _ => F5
      rename News _ _ _ _ => N5
      refine hQ _ _ _ ?_ ?_ (flt_same F5 (by with_unfolding_all rfl)) N5
      · first | assumption | exact Nat.succ_ne_zero _ | (show @Ne Nat _ _; lia)
      · (try dsimp only); first | assumption | exact Nat.le_add_left 1 _ | lia
  clear F4 N4
  generalize (if 0 < c2 then Float64.div (Float64.ofInt c2) 4616189618054758400 else y2) = X2 at hp ⊢
  intro h5 k5 t5 ht5 hk5 F4 N4
  (k_steps; repeat' ((with_reducible show Stop _); refine Stop.on ?_; (first | with_reducible ((with_reducible show wpAny _ _ (call (PySem.Value.ref _) _) _ _ _); (k_here; (with_reducible show wpAny _ _ (call (Value.ref 35) _) _ _ _); k_dflt (refine' c_hsvT ?zqhp ?zqht ?zqh3 ?zqk1 ?zqk2 ?zqk3 ?zqk4 ?zqk5 ?zqkK ?zqkd ?_; (case zqk1 => k_asm); (case zqk2 => k_asm); (case zqk3 => k_asm); (case zqk4 => k_asm); (case zqk5 => k_asm); (case zqkK => first | exact rfl | assumption); (case zqhp => assumption); (case zqht => first | assumption | (try dsimp only); lia); (try (case zqh1 => first | assumption | exact Nat.succ_ne_zero _ | (show @Ne Nat _ _; lia))); (try (case zqh2 => first | assumption | exact Nat.succ_ne_zero _ | (show @Ne Nat _ _; lia))); (case zqh3 => first | assumption | exact Nat.succ_ne_zero _ | (show @Ne Nat _ _; lia)); (case zqkd => first | exact ltK2 hd (by decide) | ktr_room); k_whole); intro q' h' tk' u1' u2' u3' F' N' l1 e1' e2' e3' htk'; (try k_lt l1); (try dsimp only); (try k_fold))) | with_reducible ((with_reducible show wpAny _ _ (call (PySem.Value.ref _) _) _ _ _); (k_here; (with_reducible show wpAny _ _ (call (Value.ref 28) _) _ _ _); k_dflt (refine' c_rgbT ?zqhp ?zqht ?zqh1 ?zqh2 ?zqh3 ?zqk1 ?zqk2 ?zqk3 ?zqk4 ?zqk5 ?zqkK ?zqkd ?_; (case zqk1 => k_asm); (case zqk2 => k_asm); (case zqk3 => k_asm); (case zqk4 => k_asm); (case zqk5 => k_asm); (case zqkK => first | exact rfl | assumption); (case zqhp => assumption); (case zqht => first | assumption | (try dsimp only); lia); (try (case zqh1 => first | assumption | exact Nat.succ_ne_zero _ | (show @Ne Nat _ _; lia))); (try (case zqh2 => first | assumption | exact Nat.succ_ne_zero _ | (show @Ne Nat _ _; lia))); (case zqh3 => first | assumption | exact Nat.succ_ne_zero _ | (show @Ne Nat _ _; lia)); (case zqkd => first | exact ltK2 hd (by decide) | ktr_room); k_whole); intro q' h' tk' u1' u2' u3' F' N' l1 e1' e2' e3' htk'; (try k_lt l1); (try dsimp only); (try k_fold))) | ((with_reducible show wpAny _ _ (call (PySem.Value.ref _) _) _ _ _); (k_here; (with_reducible show wpAny _ _ (call (Value.ref 35) _) _ _ _); k_dflt (refine' c_hsvT ?zqhp ?zqht ?zqh3 ?zqk1 ?zqk2 ?zqk3 ?zqk4 ?zqk5 ?zqkK ?zqkd ?_; (case zqk1 => k_asm); (case zqk2 => k_asm); (case zqk3 => k_asm); (case zqk4 => k_asm); (case zqk5 => k_asm); (case zqkK => first | exact rfl | assumption); (case zqhp => assumption); (case zqht => first | assumption | (try dsimp only); lia); (try (case zqh1 => first | assumption | exact Nat.succ_ne_zero _ | (show @Ne Nat _ _; lia))); (try (case zqh2 => first | assumption | exact Nat.succ_ne_zero _ | (show @Ne Nat _ _; lia))); (case zqh3 => first | assumption | exact Nat.succ_ne_zero _ | (show @Ne Nat _ _; lia)); (case zqkd => first | exact ltK2 hd (by decide) | ktr_room); k_whole); intro q' h' tk' u1' u2' u3' F' N' l1 e1' e2' e3' htk'; (try k_lt l1); (try dsimp only); (try k_fold))) | ((with_reducible show wpAny _ _ (call (PySem.Value.ref _) _) _ _ _); (k_here; (with_reducible show wpAny _ _ (call (Value.ref 28) _) _ _ _); k_dflt (refine' c_rgbT ?zqhp ?zqht ?zqh1 ?zqh2 ?zqh3 ?zqk1 ?zqk2 ?zqk3 ?zqk4 ?zqk5 ?zqkK ?zqkd ?_; (case zqk1 => k_asm); (case zqk2 => k_asm); (case zqk3 => k_asm); (case zqk4 => k_asm); (case zqk5 => k_asm); (case zqkK => first | exact rfl | assumption); (case zqhp => assumption); (case zqht => first | assumption | (try dsimp only); lia); (try (case zqh1 => first | assumption | exact Nat.succ_ne_zero _ | (show @Ne Nat _ _; lia))); (try (case zqh2 => first | assumption | exact Nat.succ_ne_zero _ | (show @Ne Nat _ _; lia))); (case zqh3 => first | assumption | exact Nat.succ_ne_zero _ | (show @Ne Nat _ _; lia)); (case zqkd => first | exact ltK2 hd (by decide) | ktr_room); k_whole); intro q' h' tk' u1' u2' u3' F' N' l1 e1' e2' e3' htk'; (try k_lt l1); (try dsimp only); (try k_fold)))); k_steps))
  all_goals first
    | (exfalso; contradiction)
    | (rename (_ < _ ∧ AllLt _ _) => l9; exact hret _ _ _ _ _ _ (by k_asm) (news_drop2 (by k_asm)) (allLt_out l9.2) (by first | assumption | exact Nat.succ_ne_zero _ | (show @Ne Nat _ _; lia)) (by first | assumption | exact Nat.succ_ne_zero _ | (show @Ne Nat _ _; lia)) (by first | assumption | exact Nat.succ_ne_zero _ | (show @Ne Nat _ _; lia)))
theorem c_changedT {p q : Addr} {r g b x0 x1 x2 : UInt64} {c0 c1 c2 : Int} {t0 t1 t2 t3 t4 t5 : Tok}
   (hp : chgL r g b c0 c1 c2 = some (x0, x1, x2)) (ht : 1 ≤ s.toks) (ht0 : t0 ≠ 0) (ht1 : t1 ≠ 0) (ht2 : t2 ≠ 0)
   (h0 : 0 ≤ c0 ∧ c0 < 32) (h1 : 0 ≤ c1 ∧ c1 < 6) (h2 : 0 ≤ c2 ∧ c2 < 5)
   (hc : (p, { cls := .type "tuple", data := .seq #[.float r t0, .float g t1, .float b t2] }) ∈ news)
   (hch : (q, { cls := .type "tuple", data := .seq #[.int c0 t3, .int c1 t4, .int c2 t5] }) ∈ news)
   (B : Below A₀ base outer h₀) (F : Fr h₀ L s.heap m) (X : (Mine.hd.heap_39 w.params).In h₀) (N : News h₀ L s.heap news) (T : Top Mine.hd.view_39 (looseW Mine.hd.view_39 []) mean mg mb h₀) (hk : cs.kind = .function)
   (hd : dp + 4 < recursionLimit) (hu : un + 20 < cLine)
   (hret : ∀ q h' tk' u1 u2 u3, Fr h₀ L h' m → News h₀ L h' ((q, { cls := .type "tuple", data := .seq #[.float x0 u1, .float x1 u2, .float x2 u3] }) :: news) → (∀ p ∈ news, p.1 < q) → u1 ≠ 0 → u2 ≠ 0 → u3 ≠ 0 → 1 ≤ tk' → Q (.ref q) { s with heap := h', toks := tk' }) :
   wpAny (model PySem.Challenge.rw_rw0038_01.row.toRowW.1 w) (ktrTop dp un gd cn cs L a ccd cl outer) (call (.ref 87) [.ref p, .ref q]) Q E s :=
  wpAny_with_toks ht (c_changed hp ht ht0 ht1 ht2 h0 h1 h2 hc hch B F X N T hk hd hu fun q h' tk' u1 u2 u3 F' N' l e1 e2 e3 e4 => hret q h' tk' u1 u2 u3 F' N' l e1 e2 e3 e4)
end
end Mine
end

section
theorem Mine.fresh_B1 : True := by
  w_top off
  exact trivial
open PySem PySem.W PySem.Calls PyProof.Rows
namespace Mine
noncomputable def turnL (m s v c0 c1 c2 : Int) : Int × Int × Int :=
  let s := if c1 < 5 then c1 else s
  let v := if c2 > 0 then c2 else v
  (if s = 0 then 0 else (m + c0).fmod 16, s, v)
section
variable {w : World} {mean : ExcName → Option Value} {mg mb : Str → Option Value}
   {dp un : Nat} {gd : Option (List Code)} {cn : Str} {cs : Scope} {a : Addr} {ccd : Value} {cl : List (Str × Addr)} {outer : List Env} {A₀ : Around} {base h₀ : Heap} {L : Addr} {m : Str → Option Value} {news : List (Addr × Obj)} {s : Shared} {Q E : Value → Shared → Prop}
set_option maxRecDepth 100000
set_option maxHeartbeats 8000000


theorem c_deed {k y : Int} {t1 t2 : Tok}
   
   (B : Below A₀ base outer h₀) (F : Fr h₀ L s.heap m) (X : (Mine.hd.heap_39 w.params).In h₀) (N : News h₀ L s.heap news) (T : Top Mine.hd.view_39 (looseW Mine.hd.view_39 []) mean mg mb h₀) (hk : cs.kind = .function)
   (hd : dp + 4 < recursionLimit) (hu : un + 20 < cLine)
   (hret : ∀ q p h' tk' u0 u1 u2 u3, Fr h₀ L h' m → News h₀ L h' ((q, { cls := .type "tuple", data := .seq #[.int (if k - 1 - y.fmod 3 > 0 then k - 1 - y.fmod 3 else 0) u0, .ref p] }) :: (p, { cls := .type "tuple", data := .seq #[.int ((y.fdiv 3).fmod 32) u1, .int ((y.fdiv 96).fmod 6) u2, .int ((y.fdiv 576).fmod 5) u3] }) :: news) → (∀ x ∈ news, x.1 < p) → @LT.lt Nat _ p q → Q (.ref q) { s with heap := h', toks := tk' }) :
   wpAny (model PySem.Challenge.rw_rw0038_01.row.toRowW.1 w) (ktrTop dp un gd cn cs L a ccd cl outer) (call (.ref 73) [.int k t1, .int y t2]) Q E s := by
  have hfill : PySem.Challenge.rw_rw0038_01 = PySem.Challenge.rw_rw0038_01 ∧ Mine.hd.heap_39 = Mine.hd.heap_39 := ⟨rfl, rfl⟩
  revert hfill
  k_fill
  intro _
  refine wpAny_call ?_
  (k_dflt cell_enter)
  rename Fr _ _ _ _ => FE
  obtain ⟨mE, FE2⟩ := ent_ini (ps := [(Str.ofString "k", .int k t1), (Str.ofString "y", .int y t2)]) FE (by kst_all)
  clear FE
  generalize hkE : s.toks + List.length _ = kE
  clear hkE
  k_steps
  rename (_ < _ ∧ AllLt _ _) => l9
  rename (∀ p ∈ news, _) => l8
  exact hret _ _ _ _ _ _ _ _ (by k_asm) (by k_asm) l8 l9.1

theorem c_rule {z : Int} {t1 : Tok}
   
   (B : Below A₀ base outer h₀) (F : Fr h₀ L s.heap m) (X : (Mine.hd.heap_39 w.params).In h₀) (N : News h₀ L s.heap news) (T : Top Mine.hd.view_39 (looseW Mine.hd.view_39 []) mean mg mb h₀) (hk : cs.kind = .function)
   (hd : dp + 4 < recursionLimit) (hu : un + 20 < cLine)
   (hret : ∀ q p h' tk' u0 u1 u2 u3 u4 u5, Fr h₀ L h' m → News h₀ L h' ((q, { cls := .type "tuple", data := .seq #[.int (z.fmod 3) u0, .int ((z.fdiv 3).fmod 3) u1, .int ((z.fdiv 9).fmod 8) u2, .ref p] }) :: (p, { cls := .type "tuple", data := .seq #[.int ((z.fdiv 72).fmod 32) u3, .int ((z.fdiv 2304).fmod 6) u4, .int ((z.fdiv 13824).fmod 5) u5] }) :: news) → (∀ x ∈ news, x.1 < p) → @LT.lt Nat _ p q → Q (.ref q) { s with heap := h', toks := tk' }) :
   wpAny (model PySem.Challenge.rw_rw0038_01.row.toRowW.1 w) (ktrTop dp un gd cn cs L a ccd cl outer) (call (.ref 80) [.int z t1]) Q E s := by
  have hfill : PySem.Challenge.rw_rw0038_01 = PySem.Challenge.rw_rw0038_01 ∧ Mine.hd.heap_39 = Mine.hd.heap_39 := ⟨rfl, rfl⟩
  revert hfill
  k_fill
  intro _
  refine wpAny_call ?_
  (k_dflt cell_enter)
  rename Fr _ _ _ _ => FE
  obtain ⟨mE, FE2⟩ := ent_ini (ps := [(Str.ofString "z", .int z t1)]) FE (by kst_all)
  clear FE
  generalize hkE : s.toks + List.length _ = kE
  clear hkE
  k_steps
  rename (_ < _ ∧ AllLt _ _) => l9
  rename (∀ p ∈ news, _) => l8
  exact hret _ _ _ _ _ _ _ _ _ _ (by k_asm) (by k_asm) l8 l9.1

local macro_rules | `(tactic| walk_at "eval IfExp") => `(tactic| ((fail_if_success with_reducible refine isJnV ?_); refine Stop.go ?_))
theorem c_turned {p q : Addr} {mm ss vv c0 c1 c2 : Int} {t0 t1 t2 t3 t4 t5 : Tok}
   (hc : (p, { cls := .type "tuple", data := .seq #[.int mm t0, .int ss t1, .int vv t2] }) ∈ news)
   (hch : (q, { cls := .type "tuple", data := .seq #[.int c0 t3, .int c1 t4, .int c2 t5] }) ∈ news)
   (B : Below A₀ base outer h₀) (F : Fr h₀ L s.heap m) (X : (Mine.hd.heap_39 w.params).In h₀) (N : News h₀ L s.heap news) (T : Top Mine.hd.view_39 (looseW Mine.hd.view_39 []) mean mg mb h₀) (hk : cs.kind = .function)
   (hd : dp + 4 < recursionLimit) (hu : un + 20 < cLine)
   (hret : ∀ q h' tk' u0 u1 u2, Fr h₀ L h' m → News h₀ L h' ((q, { cls := .type "tuple", data := .seq #[.int (turnL mm ss vv c0 c1 c2).1 u0, .int (turnL mm ss vv c0 c1 c2).2.1 u1, .int (turnL mm ss vv c0 c1 c2).2.2 u2] }) :: news) → (∀ p ∈ news, p.1 < q) → Q (.ref q) { s with heap := h', toks := tk' }) :
   wpAny (model PySem.Challenge.rw_rw0038_01.row.toRowW.1 w) (ktrTop dp un gd cn cs L a ccd cl outer) (call (.ref 99) [.ref p, .ref q]) Q E s := by
  have hfill : PySem.Challenge.rw_rw0038_01 = PySem.Challenge.rw_rw0038_01 ∧ Mine.hd.heap_39 = Mine.hd.heap_39 := ⟨rfl, rfl⟩
  revert hfill
  k_fill
  intro _
  have hT : turnL mm ss vv c0 c1 c2 = (if (if c1 < 5 then c1 else ss) = 0 then 0 else (mm + c0).fmod 16, (if c1 < 5 then c1 else ss), (if c2 > 0 then c2 else vv)) := rfl
  rw [hT] at hret
  dsimp only at hret
  clear hT
  refine wpAny_call ?_
  (k_dflt cell_enter)
  rename Fr _ _ _ _ => FE
  obtain ⟨mE, FE2⟩ := ent_ini (ps := [(Str.ofString "paint", .ref p), (Str.ofString "change", .ref q)]) FE (by kst_all)
  clear FE
  generalize hkE : s.toks + List.length _ = kE
  clear hkE
  k_steps
  refine Stop.on ?_
  refine eval_join (if c1 < 5 then c1 else ss) ?_ ?_
  · clear hret
    intro Q' hQ
    by_cases h : c1 < 5
    · rw [if_pos h] at hQ
      k_steps
      exact hQ _ _
    · rw [if_neg h] at hQ
      k_steps
      exact hQ _ _
  intro t' k'
  generalize (if c1 < 5 then c1 else ss) = S1 at hret ⊢
  k_steps
  refine Stop.on ?_
  refine eval_join (if c2 > 0 then c2 else vv) ?_ ?_
  · clear hret
    intro Q' hQ
    by_cases h : c2 > 0
    · rw [if_pos h] at hQ
      k_steps
      exact hQ _ _
    · rw [if_neg h] at hQ
      k_steps
      exact hQ _ _
  intro t' k'
  generalize (if c2 > 0 then c2 else vv) = V1 at hret ⊢
  k_steps
  refine Stop.on ?_
  refine eval_join (if S1 = 0 then 0 else (mm + c0).fmod 16) ?_ ?_
  · clear hret
    intro Q' hQ
    k_steps
    all_goals (simp only [*, if_true, if_false, ↓reduceIte] at hQ; exact hQ _ _)
  intro t' k'
  generalize (if S1 = 0 then 0 else (mm + c0).fmod 16) = M1 at hret ⊢
  k_steps
  exact hret _ _ _ _ _ _ (by k_asm) (by k_asm) (by assumption)
end
end Mine
end

section
open PySem PySem.W PySem.Calls PyProof.Rows
open PySem.StrLaws PySem.Builtin PySem.Builtin.Str
namespace Mine

noncomputable def find4 (x y : PySem.Str) (i j : Int) : Int := match occurrences x y (fromIndex x.length i) (min (fromIndex x.length j) x.length) 1 with | k :: _ => (k : Int) | [] => -1

theorem gives_find4 (x y : PySem.Str) (i j : Int) (t u v v' : Tok) : Gives («str.find» ⟨[.str x t, .str y u, .int i v, .int j v'], []⟩) (.int (find4 x y i j)) := by
  show Gives (match occurrences x y (fromIndex x.length i) (min (fromIndex x.length j) x.length) 1 with | k :: _ => retInt k | [] => (do rule "str.find.not-found"; retInt (-1))) _
  unfold find4
  cases occurrences x y (fromIndex x.length i) (min (fromIndex x.length j) x.length) 1 with
  | nil => exact .rule (.of_eq rfl)
  | cons k _ => exact .of_eq rfl

theorem occ_head_upto (x y : PySem.Str) (lo hi limit : Nat) (hl : 1 ≤ limit) :
    (occurrences x y lo hi limit = [] ∧ ∀ i, lo ≤ i → ¬ At x y hi i) ∨
    ∃ i r, occurrences x y lo hi limit = i :: r ∧ lo ≤ i ∧ At x y hi i ∧ ∀ k, lo ≤ k → k < i → ¬ At x y hi k := by
  rw [occ_eq]
  rcases occ_first x y hi limit hl (List.range' lo (hi + 1 - lo)) lo (fun i hi => by have := List.mem_range'_1.mp hi; lia) with ⟨h0, hn⟩ | ⟨pre, a, post, e, h0, ha, hn⟩
  · refine .inl ⟨by rw [h0], fun i hlo hi => ?_⟩
    exact hn i (by have := hi.1; rw [List.mem_range'_1]; lia) hi
  · have hs := range'_split_from e
    refine .inr ⟨a, ((forIn (List.range' lo (hi + 1 - lo)) ((#[] : Array Nat), lo) (occBody x y hi limit)).run.fst.toList).tail, ?_, hs.1, ha, fun k hk0 hk => hn k (hs.2 k hk0 hk)⟩
    generalize (forIn (List.range' lo (hi + 1 - lo)) ((#[] : Array Nat), lo) (occBody x y hi limit)).run.fst = arr at h0
    have h1 : arr.toList[0]? = some a := by simpa using h0
    cases hL : arr.toList with
    | nil => rw [hL] at h1; cases h1
    | cons b t => rw [hL] at h1; simp at h1; rw [h1]; rfl

theorem find4_spec (x y : PySem.Str) (i j : Nat) (hj : j ≤ x.length) :
    (find4 x y i j = -1 ∧ ∀ k, i ≤ k → ¬ At x y j k) ∨ ∃ k : Nat, find4 x y i j = k ∧ i ≤ k ∧ At x y j k ∧ ∀ k', i ≤ k' → k' < k → ¬ At x y j k' := by
  have e1 : fromIndex x.length (i : Int) = i := by unfold fromIndex; rw [if_neg (by lia)]; lia
  have e2 : min (fromIndex x.length (j : Int)) x.length = j := by unfold fromIndex; rw [if_neg (by lia)]; lia
  unfold find4
  rw [e1, e2]
  rcases occ_head_upto x y i j 1 (Nat.le_refl _) with ⟨h, hn⟩ | ⟨k, r, h, h1, h2, h3⟩
  · rw [h]; exact .inl ⟨rfl, hn⟩
  · rw [h]; exact .inr ⟨k, rfl, h1, h2, h3⟩

section
variable {prog : Program} {w : World} {A : Around} {E : Value → Shared → Prop} {s : Shared} {x y : PySem.Str} {t u v v' : Tok} {i j : Int}
theorem call_find4 {Q : Value → Shared → Prop} (hq : Q (.int (find4 x y i j) s.toks) { s with toks := s.toks + 1 }) : wpAny (model prog w) A (call (.builtin "str.find") [.str x t, .str y u, .int i v, .int j v']) Q E s :=
  call_gives PySem.F.slot_str_find (typeIs_str _ _ _) PySem.F.entry_str_find (PySem.F.args_str_find_4 _ _ _ _) (gives_find4 x y i j t u v v') hq
theorem truthy_some {Q : Bool → Shared → Prop} (hp : 1 ≤ x.length) (hl : x.length ≤ 16777216) (h : ∀ k, Q true { s with toks := k }) : wpAny (model prog w) A (PySem.truthy (.str x t)) Q E s := KXt.truthy_pos hp hl (by decide) h
end
section
variable {prog : Program} {w : World} {A : Around} {E : Value → Shared → Prop} {s : Shared} {h₀ : Heap} {L : Addr} {m : Str → Option Value} {news : List (Addr × Obj)} {x y : PySem.Str} {t u : Tok} {Q : Value → Shared → Prop}
theorem split_known {ps : List PySem.Str} (F : Fr h₀ L s.heap m) (N : News h₀ L s.heap news) (hp : Txt.split x y = ps) (hy : (y.length == 0) = false)
    (h : ∀ D h' tk (l : List (PySem.Str × Tok)), l.map (·.1) = ps → Fr h₀ L h' m → News h₀ L h' ((D, listOf (strValues l).toArray 0) :: news) → (∀ p ∈ news, p.1 < D) → Q (.ref D) { s with heap := h', toks := tk }) 
    (hsz : x.length ≤ sizeLine := by size_fits) (hsz2 : (partsBetween x (occurrences x y 0 x.length (x.length + 1)) y.length).length ≤ sizeLine := by size_fits) :
    wpAny (model prog w) A (call (.builtin "str.split") [.str x t, .str y u]) Q E s := by
  have key : ∀ (l : List (PySem.Str × Tok)) tk, l.map (·.1) = Txt.split x y → Q (.ref s.heap.objs.size) { s with heap := s.heap.push { cls := .type "list", data := .seq (strValues l).toArray }, toks := tk } := by
    intro l tk e
    exact h _ _ _ l (e.trans hp) (F.push _) (N.push F _) (fun p hp => Heap.lt_size (N p hp).1)
  cases h1 : (decide (x.length < y.length) || decide (strKind x < strKind y))
  · cases hf : (occurrences x y 0 x.length (x.length + 1)).isEmpty
    · refine call_meets PySem.F.slot_str_split (typeIs_str _ _ _) PySem.F.entry_str_split (PySem.F.args_str_split_2 _ _) (meets_str_split_sep x y t u h1 hy hf hsz hsz2) ?_
      show wants Q E _ { s with toks := _, heap := s.heap.push { cls := .type "list", data := .seq (strsFrom s.toks (partsBetween x (occurrences x y 0 x.length (x.length + 1)) y.length)).toArray } }
      rw [strsFrom_eq]
      exact key (numbered s.toks _) _ ((numbered_texts _ _).trans ((if_neg (ne_true_of_eq_false h1)).trans (if_neg (ne_true_of_eq_false hf))).symm)
    · exact call_meets PySem.F.slot_str_split (typeIs_str _ _ _) PySem.F.entry_str_split (PySem.F.args_str_split_2 _ _) (meets_str_split_not_found x y t u h1 hy hf)
        (key [(x, t)] _ ((if_neg (ne_true_of_eq_false h1)).trans (if_pos hf)).symm)
  · exact call_meets PySem.F.slot_str_split (typeIs_str _ _ _) PySem.F.entry_str_split (PySem.F.args_str_split_2 _ _) (meets_str_split_cannot_occur x y t u h1)
      (key [(x, t)] _ (if_pos h1).symm)
end
end Mine
end

section
open PySem PySem.W PySem.Calls PyProof.Rows PyProof.V PySem.Spec
namespace Mine
theorem allLt_all {d : Nat} : ∀ {l : List (Addr × Obj)}, AllLt d l → ∀ p ∈ l, p.1 < d
  | [], _, _, h => nomatch h
  | _ :: _, h, p, hp => by
    rcases List.mem_cons.mp hp with rfl | hp
    · exact h.1
    · exact allLt_all h.2 p hp
theorem bnd1 {a d : Nat} {l : List (Addr × Obj)} (h : a < d ∧ AllLt d l) : ∀ p ∈ l, p.1 < d := allLt_all h.2
theorem bnd2 {a b d : Nat} {l : List (Addr × Obj)} (h : a < d ∧ b < d ∧ AllLt d l) : ∀ p ∈ l, p.1 < d := allLt_all h.2.2
theorem newsK {h₀ h : Heap} {L : Addr} {x a b : Addr × Obj} {l : List (Addr × Obj)} (N : News h₀ L h (x :: a :: b :: l)) : News h₀ L h (x :: l) :=
  fun p hp => N p (by rcases List.mem_cons.mp hp with rfl | hp; exact .head _; exact .tail _ (.tail _ (.tail _ hp)))

noncomputable def KS (x : Str) (stored : List Str) (m₀ : Str → Option Value) (J : List (Str × Value) → List (Addr × Obj) → Prop) (m : Str → Option Value) (nx : List (Addr × Obj)) : Prop :=
  ∃ ps, (∀ p ∈ ps, m p.1 = some p.2) ∧ (∀ z, z ≠ x → (∀ p ∈ ps, z ≠ p.1) → stored.contains z = false → m z = m₀ z) ∧ J ps nx

section
variable {prog : Program} {w : World} {A : Around} {E : Value → Shared → Prop} {s : Shared} {env : Env} {h₀ : Heap} {x : Str} {body : List Stmt} {Q : Flow → Shared → Prop}

theorem ks_end {stored : List Str} {m₀ : Str → Option Value} {J : List (Str × Value) → List (Addr × Obj) → Prop} {L : Addr} {m' : Str → Option Value} {own news' : List (Addr × Obj)} {s₁ : Shared} {h' : Heap} {tk : Nat}
    (F : Fr h₀ L h' m') (N : News h₀ L h' news') (ps : List (Str × Value)) (nx : List (Addr × Obj)) (hk : ∀ p ∈ ps, m' p.1 = some p.2) (hr : ∀ z, z ≠ x → (∀ p ∈ ps, z ≠ p.1) → stored.contains z = false → m' z = m₀ z)
    (hn : ∀ p ∈ nx, p ∈ news') (ho : ∀ p ∈ own, p ∈ news') (ha : OwnOff own (nx.map (·.1))) (hj : J ps nx) :
    InvEndG h₀ L (KS x stored m₀ J) own s₁ { s₁ with heap := h', toks := tk } := InvEndG.intro F N ⟨ps, hk, hr, hj⟩ ha hn ho

theorem loop_range {r : Addr} {a₀ b₀ : Int} {t₀ u₀ v₀ : Tok} {n : Nat} {m₀ : Str → Option Value} {news : List (Addr × Obj)} (stored : List Str) (J : Nat → List (Str × Value) → List (Addr × Obj) → Prop)
    (hh : A.handled = none) (hr : IsRange s.heap r a₀ b₀ 1 t₀ u₀ v₀) (hsmall : Builtin.Range.small a₀ b₀ 1 = true) (hsz : Builtin.Range.rangeSize a₀ b₀ 1 = (n : Int)) (F : Fr h₀ env.locals s.heap m₀) (N : News h₀ env.locals s.heap news)
    (ps₀ : List (Str × Value)) (nx₀ : List (Addr × Obj)) (hn : ∀ p ∈ nx₀, p ∈ news) (hk : ∀ p ∈ ps₀, m₀ p.1 = some p.2) (hj : J 0 ps₀ nx₀)
    (turn : ∀ i t ps (u : Str → Option Value) nx h tk own (Q' : Flow → Shared → Prop), (∀ s', InvEndG h₀ env.locals (KS x stored m₀ (J (i + 1))) own { s with heap := h, toks := tk } s' → Q' .next s') → (∀ v s', Q (.ret v) s' → Q' (.ret v) s') → i < n → OwnOff own (nx.map (·.1)) → J i ps nx → Fr h₀ env.locals h (fun y => if y = x then some (.int (a₀ + (i : Int)) t) else kstB (fun z => if stored.contains z then u z else m₀ z) ps y) → News h₀ env.locals h (nx ++ own) →
      wpAny (model prog w) A (execs body env) Q' E { s with heap := h, toks := tk })
    (done : ∀ ps (u : Str → Option Value) nx h tk, J n ps nx → Fr h₀ env.locals h (fun y => if y = x then u y else kstB (fun z => if stored.contains z then u z else m₀ z) ps y) → News h₀ env.locals h nx → Q .next { s with heap := h, toks := tk }) :
    wpAny (model prog w) A (pyIter (.ref r)) (fun it s₂ => LoopAtV prog w A h₀ env x body Q E it s₂) E s := by
  refine wpAny_pyIter_range hr hsmall ?_
  have W : Walks prog w A s.heap.objs.size [s.heap.objs.size] [s.heap.objs.size] n (fun i v => i < n ∧ ∃ t, v = .int (a₀ + i * 1) t)
      (fun i h => IsRangeIter h s.heap.objs.size (a₀ + (i : Nat) * 1) ((n : Int) - (i : Nat)) 1) := (Walks.range hh _ a₀ 1 n).bound
  refine kdr_loop (news := nx₀) (fun i m nx => KS x stored m₀ (J i) m nx) W (fun _ h => h) (fun _ h => h) ?_ ?_ ?_ ?_ (by show IsRangeIter _ _ _ _ _; rw [hsz]; simpa using Heap.get?_push_size _ rfl) (F.push _) (fun p hp => ⟨Heap.get?_push_of_some _ (N p (hn p hp)).1, (N p (hn p hp)).2⟩) ⟨ps₀, hk, fun _ _ _ _ => rfl, hj⟩ ?_ ?_
  · intro i h hi b hb
    rw [List.mem_singleton.mp hb]
    exact ⟨_, hi⟩
  · intro hm
    exact absurd F.ns.lt ((List.mem_singleton.mp hm) ▸ Nat.lt_irrefl _)
  · intro b hb
    rw [List.mem_singleton.mp hb]
    exact next_is_new F
  · intro p hp hI
    exact absurd (Heap.lt_size (N p (hn p hp)).1) ((List.mem_singleton.mp hI) ▸ Nat.lt_irrefl _)
  · rintro i v m₁ nx h tk own hi ⟨_, t, rfl⟩ hoff ⟨ps, h1, h2, hj'⟩ F₁ N₁
    have e1 : a₀ + (i : Int) * 1 = a₀ + (i : Int) := by lia
    rw [e1] at F₁
    exact turn i t ps m₁ nx h tk own _ (fun _ h => h) (fun _ _ h => h) hi hoff hj' (kst_fr h1 h2 F₁) N₁
  · rintro m₁ nx h tk ⟨ps, h1, h2, hj'⟩ F₁ N₁
    exact done ps m₁ nx h tk hj' (kst_frOut h1 h2 F₁) N₁

theorem loop_list {l : Addr} {vs : List Value} {nn : Nat} {m₀ : Str → Option Value} {news : List (Addr × Obj)} (stored : List Str) (J : Nat → List (Str × Value) → List (Addr × Obj) → Prop)
    (hh : A.handled = none) (F : Fr h₀ env.locals s.heap m₀) (N : News h₀ env.locals s.heap news)
    (ps₀ : List (Str × Value)) (nx₀ : List (Addr × Obj)) (hl : (l, listOf vs.toArray nn) ∈ nx₀) (hn : ∀ p ∈ nx₀, p ∈ news) (hk : ∀ p ∈ ps₀, m₀ p.1 = some p.2) (hj : J 0 ps₀ nx₀)
    (turn : ∀ i v ps (u : Str → Option Value) nx h tk own (Q' : Flow → Shared → Prop), (∀ s', InvEndG h₀ env.locals (fun m' nx => (l, listOf vs.toArray nn) ∈ nx ∧ KS x stored m₀ (J (i + 1)) m' nx) own { s with heap := h, toks := tk } s' → Q' .next s') → (∀ v s', Q (.ret v) s' → Q' (.ret v) s') → vs[i]? = some v → OwnOff own (nx.map (·.1)) → (l, listOf vs.toArray nn) ∈ nx → J i ps nx → Fr h₀ env.locals h (fun y => if y = x then some v else kstB (fun z => if stored.contains z then u z else m₀ z) ps y) → News h₀ env.locals h (nx ++ own) →
      wpAny (model prog w) A (execs body env) Q' E { s with heap := h, toks := tk })
    (done : ∀ ps (u : Str → Option Value) nx h tk, J vs.length ps nx → Fr h₀ env.locals h (fun y => if y = x then u y else kstB (fun z => if stored.contains z then u z else m₀ z) ps y) → News h₀ env.locals h nx → Q .next { s with heap := h, toks := tk }) :
    wpAny (model prog w) A (pyIter (.ref l)) (fun it s₂ => LoopAtV prog w A h₀ env x body Q E it s₂) E s := by
  refine kdl_iter (news := nx₀) (fun i m nx => KS x stored m₀ (J i) m nx) hh hl F (fun p hp => N p (hn p hp)) ⟨ps₀, hk, fun _ _ _ _ => rfl, hj⟩ ?_ ?_
  · rintro i v m₁ nx h tk own hv hoff hl' ⟨ps, h1, h2, hj'⟩ F₁ N₁
    exact turn i v ps m₁ nx h tk own _ (fun _ h => h) (fun _ _ h => h) hv hoff hl' hj' (kst_fr h1 h2 F₁) N₁
  · rintro m₁ nx h tk ⟨ps, h1, h2, hj'⟩ F₁ N₁
    exact done ps m₁ nx h tk hj' (kst_frOut h1 h2 F₁) N₁

theorem ksl_fin {l : Addr} {lo : Obj} {stored : List Str} {m₀ : Str → Option Value} {J : List (Str × Value) → List (Addr × Obj) → Prop} {L : Addr} {m' : Str → Option Value} {own : List (Addr × Obj)} {s₁ : Shared} {h' : Heap} {tk : Nat}
    (pre tl : List (Addr × Obj)) (F : Fr h₀ L h' m') (N : News h₀ L h' (pre ++ (tl ++ own))) (ps : List (Str × Value)) (hl : (l, lo) ∈ pre ++ tl) (hk : ∀ p ∈ ps, m' p.1 = some p.2) (hr : ∀ z, z ≠ x → (∀ p ∈ ps, z ≠ p.1) → stored.contains z = false → m' z = m₀ z)
    (ha : OwnOff own ((pre ++ tl).map (·.1))) (hj : J ps (pre ++ tl)) :
    InvEndG h₀ L (fun m' nx => (l, lo) ∈ nx ∧ KS x stored m₀ J m' nx) own s₁ { s₁ with heap := h', toks := tk } :=
  InvEndG.intro F N ⟨hl, ps, hk, hr, hj⟩ ha (fun p hp => by rw [← List.append_assoc]; exact List.mem_append_left _ hp) (fun p hp => List.mem_append_right _ (List.mem_append_right _ hp))

end
theorem ks_same {h₀ : Heap} {L : Addr} {x : Str} {v : Value} {stored : List Str} {m₀ u : Str → Option Value} {J : List (Str × Value) → List (Addr × Obj) → Prop} {own nx : List (Addr × Obj)} {s₁ : Shared} {h' : Heap} {tk : Nat}
    (F : Fr h₀ L h' (fun y => if y = x then some v else kstB (fun z => if stored.contains z then u z else m₀ z) [] y)) (N : News h₀ L h' (nx ++ own)) (ha : OwnOff own (nx.map (·.1))) (hj : J [] nx) :
    InvEndG h₀ L (KS x stored m₀ J) own s₁ { s₁ with heap := h', toks := tk } :=
  ks_end F N [] nx (fun _ h => nomatch h) (fun z h1 _ h3 => by
    show (if z = x then some v else if stored.contains z = true then u z else m₀ z) = m₀ z
    rw [if_neg h1, h3]; rfl) (fun _ hp => List.mem_append_left _ hp) (fun _ hp => List.mem_append_right _ hp) ha hj
theorem stopLoop {prog : Program} {w : World} {A : Around} {h₀ : Heap} {env : Env} {x : Str} {body : List Stmt} {Q : Flow → Shared → Prop} {E : Value → Shared → Prop} {s : Shared} {r : Addr}
    (h : Stop (wpAny (model prog w) A (pyIter (.ref r)) (fun it s₂ => LoopAtV prog w A h₀ env x body Q E it s₂) E s)) : wpAny (model prog w) A (pyIter (.ref r)) (fun it s₂ => LoopAtV prog w A h₀ env x body Q E it s₂) E s := h
end Mine
end

section
open PySem PySem.W PySem.Calls PyProof.Rows PySem.SeqAt
namespace Mine
section
variable {M : Model} {A : Around} {E : Value → Shared → Prop} {s : Shared}
theorem same_ff {a b : UInt64} {t u : Tok} {Q : Bool → Shared → Prop} (ht : t ≠ 0) (hu : u ≠ 0) (hb : NoneBooked s.heap) (hq : ∀ r, Q r s) : wpAny M A (isSame (.float a t) (.float b u)) Q E s := by
  show wpAny M A (isSame.created (a == b && !Float64.isNaN a) t u) Q E s
  unfold isSame.created
  have h0 : (t == 0 || u == 0) = false := by simp [ht, hu]
  rw [h0]
  simp only [Bool.false_eq_true, if_false]
  refine wpAny_ite_split (fun _ => wpAny_pure (hq _)) fun _ => ?_
  refine wpAny_ite_split (fun _ => wpAny_pure (hq _)) fun _ => ?_
  refine wpAny_bind (wpAny_sharingNotTold_none hb ?_)
  simp only [Bool.false_eq_true, if_false]
  refine wpAny_bind (wpAny_sharingNotTold_none hb ?_)
  simp only [Bool.false_eq_true, if_false]
  exact wpAny_bind (wpAny_rule (wpAny_bind (wpAny_askSetting (wpAny_pure (hq _)))))
end
section
variable {A : Around} {s : Shared}
theorem rc_ff (a b : UInt64) (t u : Tok) : RcAt A s (.float a t) (.float b u) (Float64.cmp a b == some .eq) := fun prog w E Q h =>
  richCompare_gives (typeIs_float s a t) (typeIs_float s b u) PySem.F.slot_float_eq PySem.F.entry_float_eq (PySem.F.args_float_eq_2 _ _) (AutoFloatG5.float___eq___float_float_0 a t b u) (fun x => nomatch x) h
theorem eq_ff {a : UInt64} {t u : Tok} (ht : t ≠ 0) (hu : u ≠ 0) (hb : NoneBooked s.heap) (hq : (Float64.cmp a a == some .eq) = true) : EqAt A s (.float a t) (.float a u) true := fun prog w E Q h => by
  unfold eqBool
  refine wpAny_holding ?_
  refine wpAny_ite_split (fun _ => ?_) (fun _ => ?_)
  · exact wpAny_bind (wpAny_rule (wpAny_pure h))
  · refine wpAny_bind (same_ff ht hu hb fun r => ?_)
    cases r with
    | true => exact wpAny_pure h
    | false => exact wpAny_bind (rc_ff a a t u prog w E _ (wpAny_truthy_bool (by rw [hq]; exact h)))
end
end Mine
end

section
open PySem PySem.W PySem.Calls PyProof.Rows PyProof.V PySem.Spec
namespace Mine
noncomputable def KT (stored : List Str) (m₀ : Str → Option Value) (J : List (Str × Value) → List (Addr × Obj) → Prop) (m : Str → Option Value) (nx : List (Addr × Obj)) : Prop :=
  ∃ ps, (∀ p ∈ ps, m p.1 = some p.2) ∧ (∀ z, (∀ p ∈ ps, z ≠ p.1) → stored.contains z = false → m z = m₀ z) ∧ J ps nx
theorem kt_map {ps : List (Str × Value)} {stored : List Str} {m₀ m₁ : Str → Option Value} (h1 : ∀ p ∈ ps, m₁ p.1 = some p.2) (h2 : ∀ z, (∀ p ∈ ps, z ≠ p.1) → stored.contains z = false → m₁ z = m₀ z) :
    m₁ = kstB (fun z => if stored.contains z then m₁ z else m₀ z) ps := by
  funext y
  refine (kstB_eq h1 fun hn => ?_).symm
  show (if stored.contains y = true then m₁ y else m₀ y) = m₁ y
  cases h3 : stored.contains y with
  | true => simp
  | false => simp only [Bool.false_eq_true, if_false]; exact (h2 y hn h3).symm
end Mine
end

section
open PySem PySem.W PySem.Calls PyProof.Rows PyProof.V PySem.Spec
namespace Mine
noncomputable def ForAt (prog : Program) (w : World) (A : Around) (env : Env) (target : Expr) (body : List Stmt) (Q : Flow → Shared → Prop) (E : Value → Shared → Prop) (it : Value) (s₂ : Shared) : Prop :=
  1 ≤ s₂.toks → codeAny (model prog w) A (.forLoop target it body [] env) (fun r s' => match r with | .ok f => Q f s' | .error e => cameBackBy (model prog w) A env E e s') s₂
inductive FtSt (h₀ : Heap) (L I : Addr) (n : Nat) (St : Nat → Heap → Prop) (J : Nat → (Str → Option Value) → List (Addr × Obj) → Prop) (s : Shared) : Nat → Shared → Prop
  | mk {i : Nat} {h : Heap} {tk : Nat} {m : Str → Option Value} {nx : List (Addr × Obj)} : 1 ≤ tk → i ≤ n → St i h → Fr h₀ L h m → News h₀ L h nx → (∀ p ∈ nx, p.1 ≠ I) → J i m nx → FtSt h₀ L I n St J s (n - i) { s with heap := h, toks := tk }
section
variable {prog : Program} {w : World} {A : Around} {E : Value → Shared → Prop} {s : Shared} {env : Env} {h₀ : Heap} {target : Expr} {body : List Stmt} {Q : Flow → Shared → Prop}
theorem for_at {iter : Expr} {pos : Pos} {m : Str → Option Value} (_F : Fr h₀ env.locals s.heap m) (ht : 1 ≤ s.toks)
    (h : wpAny (model prog w) A (eval iter env) (fun xv s₁ => wpAny (model prog w) A (pyIter xv) (fun it s₂ => ForAt prog w A env target body Q E it s₂) E s₁) E s)
    (hs : ∀ x, foldedSetIterable iter env x = pure x := by intro _; rfl) :
    wpAny (model prog w) A (exec (.For target iter body [] pos) env) Q E s :=
  wpAny_For (wpAny_mono (wpAny_toks_of ht h) (fun _ _ q => wpAny_mono (wpAny_toks_of q.1 q.2) (fun _ _ r => r.2 r.1) fun _ _ e => e.2) fun _ _ e => e.2) hs

theorem for_turns {I : Addr} {fp : List Addr} {n : Nat} {P : Nat → Value → Prop} {St : Nat → Heap → Prop} {m₀ : Str → Option Value} {nx₀ keep : List (Addr × Obj)} (J : Nat → (Str → Option Value) → List (Addr × Obj) → Prop)
    (W : Walks prog w A I fp [I] n P St) (hfp : ∀ b ∈ fp, b = I ∨ ∃ o, (b, o) ∈ keep) (hI : h₀.get? I = none) (hL : I ≠ env.locals) (hob : ∀ i h, St i h → ∃ o, h.get? I = some o)
    (hgo : ∀ i v (s : Shared) (Q : Unit → Shared → Prop) (E : Value → Shared → Prop), St i s.heap → Q () s → wpAny (model prog w) A (letOwnedTupleGo target (.ref I) v) Q E s)
    (hst : St 0 s.heap) (F : Fr h₀ env.locals s.heap m₀) (N : News h₀ env.locals s.heap nx₀) (hoff : ∀ p ∈ nx₀, p.1 ≠ I) (hj : J 0 m₀ nx₀) (hkeep : ∀ i m nx, J i m nx → ∀ p ∈ keep, p ∈ nx)
    (turn : ∀ i v m nx h tk own, i < n → P i v → 1 ≤ tk → OwnOff own (nx.map (·.1)) → J i m nx → Fr h₀ env.locals h m → News h₀ env.locals h (nx ++ own) →
      wpAny (model prog w) A (assign target env v) (fun _ s₃ => wpAny (model prog w) A (execs body env) (InvPostG h₀ env.locals (J (i + 1)) own { s with heap := h, toks := tk } Q) E s₃) E { s with heap := h, toks := tk })
    (done : ∀ m nx h tk, 1 ≤ tk → J n m nx → Fr h₀ env.locals h m → News h₀ env.locals h nx → Q .next { s with heap := h, toks := tk })
    (hE : PassesOwn (model prog w) A env E := by passes_own) : ForAt prog w A env target body Q E (.ref I) s := by
  intro ht
  refine codeAny_forLoop_any (FtSt h₀ env.locals I n St J s) ?_ n
    (FtSt.mk (i := 0) ht (Nat.zero_le _) hst F N hoff hj)
  intro k s' hks
  cases hks with
  | @mk i h tk m nx ht hi hst F N off hj =>
  -- what next leaves alone
  have stays : ∀ h₁ : Heap, (∀ b o, b ∉ [I] → h.get? b = some o → h₁.get? b = some o) → Fr h₀ env.locals h₁ m ∧ News h₀ env.locals h₁ nx := by
    intro h₁ hk
    refine ⟨⟨F.ns.at' fun o e => hk _ o (fun q => hL (List.mem_singleton.mp q).symm) e, fun b o e => hk b o (fun q => ?_) (F.keep b o e), F.above⟩, fun p hp => ⟨hk _ _ (fun q => off p hp (List.mem_singleton.mp q)) (N p hp).1, (N p hp).2⟩⟩
    rw [List.mem_singleton.mp q, hI] at e
    cases e
  rcases Nat.lt_or_ge i n with hlt | hge
  · refine wpAny_with_toks ht (W.item i _ _ _ hlt hst fun v h₁ tk₁ hP hst₁ hk₁ ht₁ => ?_)
    have ht₁ : 1 ≤ tk₁ := ht₁
    obtain ⟨F₁, N₁⟩ := stays h₁ hk₁
    obtain ⟨oI, hoI⟩ := hob _ _ hst₁
    refine hgo (i + 1) v _ _ _ hst₁ ?_
    have own : News h₀ env.locals h₁ [(I, oI)] := fun p hp => by rw [List.mem_singleton.mp hp]; exact ⟨hoI, hL, hI⟩
    have apart : OwnOff [(I, oI)] (nx.map (·.1)) := by
      intro p hp b hb e
      obtain ⟨q, hq, rfl⟩ := List.mem_map.mp hb
      rw [List.mem_singleton.mp hp] at e
      exact off q hq e.symm
    have go := turn i v m nx h₁ tk₁ [(I, oI)] hlt hP ht₁ apart hj F₁ (N₁.append own)
    refine wpAny_mono (wpAny_toks_of (n := 1) ht₁ go) (fun _ s₃ q => ?_) (fun e s' q => hE e s' q.2)
    refine wpAny_mono (wpAny_toks_of (n := 1) q.1 q.2) (fun f s₄ r => ?_) (fun e s' q => hE e s' q.2)
    obtain ⟨ht₄, r⟩ := r
    have back : InvEndG h₀ env.locals (J (i + 1)) [(I, oI)] { s with heap := h₁, toks := tk₁ } s₄ → ∃ m, m < n - i ∧ FtSt h₀ env.locals I n St J s m s₄ := by
      rintro ⟨h', tk', m', news', nx', rfl, F', N', hn, ho, ha, hj'⟩
      refine ⟨n - (i + 1), by lia, FtSt.mk (i := i + 1) ht₄ hlt ?_ F' (fun p hp => N' p (hn p hp)) (fun p hp e => ha _ (.head _) p.1 (List.mem_map.mpr ⟨p, hp, rfl⟩) e.symm) hj'⟩
      refine W.frame _ _ _ hst₁ fun b hb o e => ?_
      rcases hfp b hb with rfl | ⟨o₂, hm⟩
      · rw [hoI] at e
        cases e
        exact (N' _ (ho _ (.head _))).1
      · have e₁ := (N₁ _ (hkeep i m nx hj _ hm)).1
        rw [e] at e₁
        cases e₁
        exact (N' _ (hn _ (hkeep (i + 1) m' nx' hj' _ hm))).1
    cases f with
    | ret v => exact r
    | brk => exact r
    | next => exact back r
    | cont => exact back r
  · have e : i = n := Nat.le_antisymm hi hge
    subst e
    refine wpAny_with_toks ht (W.done _ _ _ hst fun h₁ tk₁ hk₁ ht₁ => wpAny_execs_nil ?_)
    obtain ⟨F₁, N₁⟩ := stays h₁ hk₁
    exact done m nx h₁ tk₁ ht₁ hj F₁ N₁

theorem name_turn {x : Str} {px : Pos} {m : Str → Option Value} {nx own : List (Addr × Obj)} {h : Heap} {tk : Nat} {v : Value} {Post : Flow → Shared → Prop} (hx : env.kindOf x = some .local) (hp : (env.scope.kind == .class || (env.scope.kind == .module && env.locals != env.globals)) = false)
    (ht : 1 ≤ tk) (F : Fr h₀ env.locals h m) (N : News h₀ env.locals h (nx ++ own))
    (go : ∀ h' tk', 1 ≤ tk' → Fr h₀ env.locals h' (fun y => if y = x then some v else m y) → News h₀ env.locals h' (nx ++ own) → wpAny (model prog w) A (execs body env) Post E { s with heap := h', toks := tk' }) :
    wpAny (model prog w) A (assign (.Name x px) env v) (fun _ s₃ => wpAny (model prog w) A (execs body env) Post E s₃) E { s with heap := h, toks := tk } :=
  wpAny_assign_Name (wpAny_storeName_local hx F.ns (fun h' hn hs => go h' (tk + 1) (Nat.le_succ_of_le ht) (F.set hn hs) (N.set hs)) hp)
end
end Mine
end

section
open PySem PySem.W PySem.Calls PyProof.Rows PyProof.V PySem.Spec
namespace Mine
section
variable {prog : Program} {w : World} {A : Around} {E : Value → Shared → Prop} {s : Shared} {env : Env} {h₀ : Heap} {target : Expr} {body : List Stmt} {Q : Flow → Shared → Prop} {x : Str} {px : Pos}
theorem go_name {it v : Value} {s : Shared} {Q : Unit → Shared → Prop} {E : Value → Shared → Prop} (h : Q () s) : wpAny (model prog w) A (letOwnedTupleGo (.Name x px) it v) Q E s := wpAny_pure h

theorem for_range {r : Addr} {a₀ b₀ : Int} {t₀ u₀ v₀ : Tok} {n : Nat} {m₀ : Str → Option Value} {news : List (Addr × Obj)} (stored : List Str) (J : Nat → List (Str × Value) → List (Addr × Obj) → Prop)
    (hx : env.kindOf x = some .local) (hp : (env.scope.kind == .class || (env.scope.kind == .module && env.locals != env.globals)) = false)
    (hh : A.handled = none) (hr : IsRange s.heap r a₀ b₀ 1 t₀ u₀ v₀) (hsmall : Builtin.Range.small a₀ b₀ 1 = true) (hsz : Builtin.Range.rangeSize a₀ b₀ 1 = (n : Int)) (F : Fr h₀ env.locals s.heap m₀) (N : News h₀ env.locals s.heap news)
    (ps₀ : List (Str × Value)) (nx₀ : List (Addr × Obj)) (hn : ∀ p ∈ nx₀, p ∈ news) (hk : ∀ p ∈ ps₀, m₀ p.1 = some p.2) (hj : J 0 ps₀ nx₀)
    (turn : ∀ i t ps (u : Str → Option Value) nx h tk own (Q' : Flow → Shared → Prop), (∀ s', InvEndG h₀ env.locals (KS x stored m₀ (J (i + 1))) own { s with heap := h, toks := tk } s' → Q' .next s') → i < n → 1 ≤ tk → OwnOff own (nx.map (·.1)) → J i ps nx → Fr h₀ env.locals h (fun y => if y = x then some (.int (a₀ + (i : Int)) t) else kstB (fun z => if stored.contains z then u z else m₀ z) ps y) → News h₀ env.locals h (nx ++ own) →
      wpAny (model prog w) A (execs body env) Q' E { s with heap := h, toks := tk })
    (done : ∀ ps (u : Str → Option Value) nx h tk, 1 ≤ tk → J n ps nx → Fr h₀ env.locals h (fun y => if y = x then u y else kstB (fun z => if stored.contains z then u z else m₀ z) ps y) → News h₀ env.locals h nx → Q .next { s with heap := h, toks := tk })
    (hE : PassesOwn (model prog w) A env E := by passes_own) :
    wpAny (model prog w) A (pyIter (.ref r)) (fun it s₂ => ForAt prog w A env (.Name x px) body Q E it s₂) E s := by
  refine wpAny_pyIter_range hr hsmall ?_
  have W : Walks prog w A s.heap.objs.size [s.heap.objs.size] [s.heap.objs.size] n (fun i v => i < n ∧ ∃ t, v = .int (a₀ + i * 1) t)
      (fun i h => IsRangeIter h s.heap.objs.size (a₀ + (i : Nat) * 1) ((n : Int) - (i : Nat)) 1) := (Walks.range hh _ a₀ 1 n).bound
  refine for_turns (keep := []) (m₀ := m₀) (nx₀ := nx₀) (fun i m nx => KS x stored m₀ (J i) m nx) W (fun b hb => .inl (List.mem_singleton.mp hb)) (next_is_new F) (fun e => absurd F.ns.lt (e ▸ Nat.lt_irrefl _)) (fun i h e => ⟨_, e⟩) (fun _ _ _ _ _ _ h => go_name h)
    (by show IsRangeIter _ _ _ _ _; rw [hsz]; simpa using Heap.get?_push_size _ rfl) (F.push _) (fun p hp => ⟨Heap.get?_push_of_some _ (N p (hn p hp)).1, (N p (hn p hp)).2⟩) (fun p hp => Nat.ne_of_lt (Heap.lt_size (N p (hn p hp)).1))
    ⟨ps₀, hk, fun _ _ _ _ => rfl, hj⟩ (fun _ _ _ _ _ hp => nomatch hp) ?_ ?_ hE
  · rintro i v m₁ nx h tk own hi ⟨_, t, rfl⟩ htk hoff ⟨ps, h1, h2, hj'⟩ F₁ N₁
    refine name_turn hx hp htk F₁ N₁ fun h' tk' htk' F₂ N₂ => ?_
    have e1 : a₀ + (i : Int) * 1 = a₀ + (i : Int) := by lia
    rw [e1] at F₂
    exact turn i t ps m₁ nx h' tk' own _ (fun _ e => e) hi htk' hoff hj' (kst_fr h1 h2 F₂) N₂
  · rintro m₁ nx h tk htk ⟨ps, h1, h2, hj'⟩ F₁ N₁
    exact done ps m₁ nx h tk htk hj' (kst_frOut h1 h2 F₁) N₁

theorem for_list {l : Addr} {vs : List Value} {nn : Nat} {m₀ : Str → Option Value} {news : List (Addr × Obj)} (stored : List Str) (J : Nat → List (Str × Value) → List (Addr × Obj) → Prop)
    (hh : A.handled = none) (F : Fr h₀ env.locals s.heap m₀) (N : News h₀ env.locals s.heap news)
    (ps₀ : List (Str × Value)) (nx₀ : List (Addr × Obj)) (hl : (l, listOf vs.toArray nn) ∈ nx₀) (hn : ∀ p ∈ nx₀, p ∈ news) (hk : ∀ p ∈ ps₀, m₀ p.1 = some p.2) (hj : J 0 ps₀ nx₀)
    (turn : ∀ i v ps (u : Str → Option Value) nx h tk own (Q' : Flow → Shared → Prop), (∀ s', InvEndG h₀ env.locals (fun m' nx => (l, listOf vs.toArray nn) ∈ nx ∧ KT stored m₀ (J (i + 1)) m' nx) own { s with heap := h, toks := tk } s' → Q' .next s') → vs[i]? = some v → 1 ≤ tk → OwnOff own (nx.map (·.1)) → (l, listOf vs.toArray nn) ∈ nx → J i ps nx → Fr h₀ env.locals h (kstB (fun z => if stored.contains z then u z else m₀ z) ps) → News h₀ env.locals h (nx ++ own) →
      wpAny (model prog w) A (assign target env v) (fun _ s₃ => wpAny (model prog w) A (execs body env) Q' E s₃) E { s with heap := h, toks := tk })
    (done : ∀ ps (u : Str → Option Value) nx h tk, 1 ≤ tk → J vs.length ps nx → Fr h₀ env.locals h (kstB (fun z => if stored.contains z then u z else m₀ z) ps) → News h₀ env.locals h nx → Q .next { s with heap := h, toks := tk })
    (hE : PassesOwn (model prog w) A env E := by passes_own) :
    wpAny (model prog w) A (pyIter (.ref l)) (fun it s₂ => ForAt prog w A env target body Q E it s₂) E s := by
  have hol : s.heap.get? l = some (listOf vs.toArray nn) := (N _ (hn _ hl)).1
  have hls : s.heap.IsList l vs.toArray := ⟨_, hol, rfl, nn, rfl⟩
  refine wpAny_pyIter_list hls ?_
  have W := Walks.list (prog := prog) (w := w) hh s.heap.objs.size l (Nat.ne_of_lt (Heap.lt_size hol)) vs.toArray
  rw [show vs.toArray.size = vs.length by simp] at W
  refine for_turns (keep := [(l, listOf vs.toArray nn)]) (m₀ := m₀) (nx₀ := nx₀) (fun i m nx => (l, listOf vs.toArray nn) ∈ nx ∧ KT stored m₀ (J i) m nx) W ?_ (next_is_new F) (fun e => absurd F.ns.lt (e ▸ Nat.lt_irrefl _))
    (fun i h st => by obtain ⟨⟨o, e, _⟩, _⟩ := st; exact ⟨o, e⟩) (fun i v s Q E st q => letGo_listiter st.1 q)
    ⟨⟨_, Heap.get?_push_size _ rfl, rfl, rfl⟩, hls.at fun o e => Heap.get?_push_of_some _ e⟩ (F.push _) (fun p hp => ⟨Heap.get?_push_of_some _ (N p (hn p hp)).1, (N p (hn p hp)).2⟩) (fun p hp => Nat.ne_of_lt (Heap.lt_size (N p (hn p hp)).1))
    ⟨hl, ps₀, hk, fun _ _ _ => rfl, hj⟩ (fun i m nx h p hp => by rw [List.mem_singleton.mp hp]; exact h.1) ?_ ?_ hE
  · intro b hb
    rcases List.mem_cons.mp hb with e | hb
    · exact .inl e
    · exact .inr ⟨_, by rw [List.mem_singleton.mp hb]; exact .head _⟩
  · rintro i v m₁ nx h tk own _ hP htk hoff ⟨hl₁, ps, h1, h2, hj'⟩ F₁ N₁
    exact turn i v ps m₁ nx h tk own _ (fun _ e => e) (by simpa using hP) htk hoff hl₁ hj' (kt_map h1 h2 ▸ F₁) N₁
  · rintro m₁ nx h tk htk ⟨_, ps, h1, h2, hj'⟩ F₁ N₁
    exact done ps m₁ nx h tk htk hj' (kt_map h1 h2 ▸ F₁) N₁

theorem for_tup {l : Addr} {vs : List Value} {nn : Nat} {m₀ : Str → Option Value} {news : List (Addr × Obj)} (stored : List Str) (J : Nat → List (Str × Value) → List (Addr × Obj) → Prop)
    (hx : env.kindOf x = some .local) (hp : (env.scope.kind == .class || (env.scope.kind == .module && env.locals != env.globals)) = false)
    (hh : A.handled = none) (F : Fr h₀ env.locals s.heap m₀) (N : News h₀ env.locals s.heap news)
    (ps₀ : List (Str × Value)) (nx₀ : List (Addr × Obj)) (hl : (l, ({ cls := .type "tuple", data := .seq vs.toArray nn } : Obj)) ∈ nx₀) (hn : ∀ p ∈ nx₀, p ∈ news) (hk : ∀ p ∈ ps₀, m₀ p.1 = some p.2) (hj : J 0 ps₀ nx₀)
    (turn : ∀ i v ps (u : Str → Option Value) nx h tk own (Q' : Flow → Shared → Prop), (∀ s', InvEndG h₀ env.locals (fun m' nx => (l, ({ cls := .type "tuple", data := .seq vs.toArray nn } : Obj)) ∈ nx ∧ KS x stored m₀ (J (i + 1)) m' nx) own { s with heap := h, toks := tk } s' → Q' .next s') → vs[i]? = some v → 1 ≤ tk → OwnOff own (nx.map (·.1)) → (l, ({ cls := .type "tuple", data := .seq vs.toArray nn } : Obj)) ∈ nx → J i ps nx → Fr h₀ env.locals h (fun y => if y = x then some v else kstB (fun z => if stored.contains z then u z else m₀ z) ps y) → News h₀ env.locals h (nx ++ own) →
      wpAny (model prog w) A (execs body env) Q' E { s with heap := h, toks := tk })
    (done : ∀ ps (u : Str → Option Value) nx h tk, 1 ≤ tk → J vs.length ps nx → Fr h₀ env.locals h (fun y => if y = x then u y else kstB (fun z => if stored.contains z then u z else m₀ z) ps y) → News h₀ env.locals h nx → Q .next { s with heap := h, toks := tk })
    (hE : PassesOwn (model prog w) A env E := by passes_own) :
    wpAny (model prog w) A (pyIter (.ref l)) (fun it s₂ => ForAt prog w A env (.Name x px) body Q E it s₂) E s := by
  have hol : s.heap.get? l = some ({ cls := .type "tuple", data := .seq vs.toArray nn } : Obj) := (N _ (hn _ hl)).1
  have hls : s.heap.IsTuple l vs.toArray := ⟨_, hol, rfl, nn, rfl⟩
  refine wpAny_pyIter_tuple hls ?_
  have W := Walks.tuple (prog := prog) (w := w) hh s.heap.objs.size l (Nat.ne_of_lt (Heap.lt_size hol)) vs.toArray
  rw [show vs.toArray.size = vs.length by simp] at W
  refine for_turns (keep := [(l, ({ cls := .type "tuple", data := .seq vs.toArray nn } : Obj))]) (m₀ := m₀) (nx₀ := nx₀) (fun i m nx => (l, ({ cls := .type "tuple", data := .seq vs.toArray nn } : Obj)) ∈ nx ∧ KS x stored m₀ (J i) m nx) W ?_ (next_is_new F) (fun e => absurd F.ns.lt (e ▸ Nat.lt_irrefl _))
    (fun i h st => by obtain ⟨⟨o, e, _⟩, _⟩ := st; exact ⟨o, e⟩) (fun _ _ _ _ _ _ h => go_name h)
    ⟨⟨_, Heap.get?_push_size _ rfl, rfl, rfl⟩, hls.push _⟩ (F.push _) (fun p hp => ⟨Heap.get?_push_of_some _ (N p (hn p hp)).1, (N p (hn p hp)).2⟩) (fun p hp => Nat.ne_of_lt (Heap.lt_size (N p (hn p hp)).1))
    ⟨hl, ps₀, hk, fun _ _ _ _ => rfl, hj⟩ (fun i m nx h p hp => by rw [List.mem_singleton.mp hp]; exact h.1) ?_ ?_ hE
  · intro b hb
    rcases List.mem_cons.mp hb with e | hb
    · exact .inl e
    · exact .inr ⟨_, by rw [List.mem_singleton.mp hb]; exact .head _⟩
  · rintro i v m₁ nx h tk own _ hP htk hoff ⟨hl₁, ps, h1, h2, hj'⟩ F₁ N₁
    exact name_turn hx hp htk F₁ N₁ fun h' tk' htk' F₂ N₂ => turn i v ps m₁ nx h' tk' own _ (fun _ e => e) (by simpa using hP) htk' hoff hl₁ hj' (kst_fr h1 h2 F₂) N₂
  · rintro m₁ nx h tk htk ⟨_, ps, h1, h2, hj'⟩ F₁ N₁
    exact done ps m₁ nx h tk htk hj' (kst_frOut h1 h2 F₁) N₁
end
theorem stopFor {prog : Program} {w : World} {A : Around} {env : Env} {x : Expr} {body : List Stmt} {Q : Flow → Shared → Prop} {E E' : Value → Shared → Prop} {s : Shared} {r : Addr}
    (h : Stop (wpAny (model prog w) A (pyIter (.ref r)) (fun it s₂ => ForAt prog w A env x body Q E it s₂) E' s)) : wpAny (model prog w) A (pyIter (.ref r)) (fun it s₂ => ForAt prog w A env x body Q E it s₂) E' s := h
end Mine
end

section
theorem Mine.fresh_D1 : True := by
  w_top off
  exact trivial
open PySem PySem.W PySem.Calls PyProof.Rows
namespace Mine

noncomputable def wayL (m c : Int) : Int := if (c - 3 * m).fmod 48 < (3 * m - c).fmod 48 then (c - 3 * m).fmod 48 else (3 * m - c).fmod 48
noncomputable def offL (m c : Int) : Int := if 8 < (if 0 > wayL m c - 8 then 0 else wayL m c - 8) then 8 else (if 0 > wayL m c - 8 then 0 else wayL m c - 8)
noncomputable def partL (m s v c : Int) : UInt64 := Float64.div (Float64.ofInt (v * (32 - s * offL m c))) 4638707616191610880
theorem not_over2 {n : Int} (h : n.natAbs < 1000) : ¬ Flt.Over n := by
  unfold Flt.Over
  have : (1000 : Nat) ≤ 2 ^ 1024 - 2 ^ 970 := by decide +kernel
  lia
theorem offL_bounds (m c : Int) : 0 ≤ offL m c ∧ offL m c ≤ 8 := by
  unfold offL
  split <;> split <;> lia
theorem over_part {m s v c : Int} (h2 : 0 ≤ s ∧ s < 5) (h3 : 0 ≤ v ∧ v < 5) : ¬ Flt.Over (v * (32 - s * offL m c)) := by
  refine not_over2 ?_
  have hb := offL_bounds m c
  generalize offL m c = k at *
  have p0 : 0 ≤ s * k := Int.mul_nonneg h2.1 hb.1
  have p1 : s * k ≤ 4 * 8 := Int.mul_le_mul (Int.le_of_lt_add_one h2.2) hb.2 hb.1 (by decide)
  have q0 : 0 ≤ 32 - s * k := Int.sub_nonneg_of_le p1
  have q1 : v * (32 - s * k) ≤ 4 * 32 := Int.mul_le_mul (Int.le_of_lt_add_one h3.2) (Int.sub_le_self _ p0) q0 (by decide)
  have q2 : 0 ≤ v * (32 - s * k) := Int.mul_nonneg h3.1 q0
  generalize v * (32 - s * k) = y at *
  lia
inductive FlsAre : List Value → List UInt64 → Prop
  | nil : FlsAre [] []
  | cons {x : UInt64} {t : Tok} {vs : List Value} {xs : List UInt64} : t ≠ 0 → FlsAre vs xs → FlsAre (.float x t :: vs) (x :: xs)
theorem FlsAre.snoc {x : UInt64} {t : Tok} (ht : t ≠ 0) : ∀ {vs : List Value} {xs : List UInt64}, FlsAre vs xs → FlsAre (vs ++ [.float x t]) (xs ++ [x])
  | _, _, .nil => .cons ht .nil
  | _, _, .cons h0 h => .cons h0 (h.snoc ht)
theorem FlsAre.three {vs : List Value} {a b c : UInt64} (h : FlsAre vs [a, b, c]) : ∃ t u v, vs = [.float a t, .float b u, .float c v] ∧ t ≠ 0 ∧ u ≠ 0 ∧ v ≠ 0 := by
  cases h with
  | cons h0 h => cases h with
    | cons h1 h => cases h with
      | cons h2 h => cases h; exact ⟨_, _, _, rfl, h0, h1, h2⟩
theorem corner_at {i : Nat} {v : Value} {t0 t1 t2 : Tok} (h : [Value.int 0 t0, .int 16 t1, .int 32 t2][i]? = some v) : ∃ t c, v = .int c t ∧ [(0:Int), 16, 32][i]? = some c := by
  match i, h with
  | 0, h => cases h; exact ⟨_, _, rfl, rfl⟩
  | 1, h => cases h; exact ⟨_, _, rfl, rfl⟩
  | 2, h => cases h; exact ⟨_, _, rfl, rfl⟩
theorem take_step {α β : Type} {l : List α} {i : Nat} {c : α} (f : α → β) (h : l[i]? = some c) : (l.take (i + 1)).map f = (l.take i).map f ++ [f c] := by
  rw [List.take_add_one, h]; simp
section
variable {w : World} {mean : ExcName → Option Value} {mg mb : Str → Option Value}
   {dp un : Nat} {gd : Option (List Code)} {cn : Str} {cs : Scope} {a : Addr} {ccd : Value} {cl : List (Str × Addr)} {outer : List Env} {A₀ : Around} {base h₀ : Heap} {L : Addr} {m : Str → Option Value} {news : List (Addr × Obj)} {s : Shared} {Q E : Value → Shared → Prop}
set_option maxRecDepth 100000
set_option maxHeartbeats 8000000
local macro_rules | `(tactic| walk_at "pyIter ref") => `(tactic| (with_reducible refine stopFor ?_))
local macro_rules | `(tactic| walk_at "exec For Name Tuple cons nil") => `(tactic| (refine Stop.go ?_))

theorem c_light {m1 s1 v1 : Int} {t1 t2 t3 : Tok}
   (ht : 1 ≤ s.toks) (h1 : 0 ≤ m1 ∧ m1 < 16) (h2 : 0 ≤ s1 ∧ s1 < 5) (h3 : 0 ≤ v1 ∧ v1 < 5)
   (B : Below A₀ base outer h₀) (F : Fr h₀ L s.heap m) (X : (Mine.hd.heap_39 w.params).In h₀) (N : News h₀ L s.heap news) (T : Top Mine.hd.view_39 (looseW Mine.hd.view_39 []) mean mg mb h₀) (hk : cs.kind = .function)
   (hd : dp + 20 < recursionLimit) (hu : un + 100 < cLine)
   (hret : ∀ q h' tk' u1 u2 u3, Fr h₀ L h' m → News h₀ L h' ((q, { cls := .type "tuple", data := .seq #[.float (partL m1 s1 v1 0) u1, .float (partL m1 s1 v1 16) u2, .float (partL m1 s1 v1 32) u3] }) :: news) → (∀ p ∈ news, p.1 < q) → u1 ≠ 0 → u2 ≠ 0 → u3 ≠ 0 → Q (.ref q) { s with heap := h', toks := tk' }) :
   wpAny (model PySem.Challenge.rw_rw0038_01.row.toRowW.1 w) (ktrTop dp un gd cn cs L a ccd cl outer) (call (.ref 113) [.int m1 t1, .int s1 t2, .int v1 t3]) Q E s := by
  have hfill : PySem.Challenge.rw_rw0038_01 = PySem.Challenge.rw_rw0038_01 ∧ Mine.hd.heap_39 = Mine.hd.heap_39 := ⟨rfl, rfl⟩
  revert hfill
  k_fill
  intro _
  have hmark : KstMark := kstMark
  
  refine wpAny_call ?_
  (k_dflt cell_enter)
  rename Fr _ _ _ _ => FE
  obtain ⟨mE, FE2⟩ := ent_ini (ps := [(Str.ofString "m", .int m1 t1), (Str.ofString "s", .int s1 t2), (Str.ofString "v", .int v1 t3)]) FE (by kst_all)
  clear FE
  generalize hkE : s.toks + List.length _ = kE
  have hkE1 : 1 ≤ kE := by rw [← hkE]; exact Nat.le_trans ht (Nat.le_add_right _ _)
  clear hkE
  (k_steps; repeat' ((with_reducible show Stop _); refine Stop.on ?_; (first | with_reducible ((with_reducible show wpAny _ _ (PySem.exec (PySem.Stmt.For _ _ _ _ _) _) _ _ _); (k_here; (rename Fr _ _ _ _ => lF'); (with_unfolding_all refine' for_at lF' (by first | exact Nat.le_add_left 1 _ | assumption | ((try dsimp only); first | exact Nat.le_add_left 1 _ | assumption | lia)) ?_; k_whole))) | ((with_reducible show wpAny _ _ (PySem.exec (PySem.Stmt.For _ _ _ _ _) _) _ _ _); (k_here; (rename Fr _ _ _ _ => lF'); (with_unfolding_all refine' for_at lF' (by first | exact Nat.le_add_left 1 _ | assumption | ((try dsimp only); first | exact Nat.le_add_left 1 _ | assumption | lia)) ?_; k_whole)))); k_steps))
  refine Stop.on ?_
  rename (_ < _ ∧ AllLt _ _) => l9
  rename News _ _ _ _ => N1
  rename Fr _ _ _ _ => F1
  refine for_tup ["way"] (fun i ps nx => ps = [] ∧ ∃ vs n, FlsAre vs (([0, 16, 32].take i).map (partL m1 s1 v1)) ∧ vs.length ≤ i ∧ nx = (_, _) :: (_, listOf vs.toArray n) :: news) rfl rfl rfl F1 N1 [] _ (List.Mem.head _) (fun _ hp => hp) (by kst_all) ⟨rfl, [], 0, .nil, Nat.le_refl _, rfl⟩ ?_ ?_
  · rintro i v ps u nx h tk own Q9 hend9 hv htk hoff hl ⟨rfl, vs, n, hfl, hvl, rfl⟩ F2 N2
    simp only [List.cons_append] at N2
    obtain ⟨t9, c9, rfl, hc9⟩ := corner_at hv
    have hi3 : i < 3 := (List.getElem?_eq_some_iff.mp hc9).1
    have hsz9 : vs.toArray.size + 1 ≤ sizeLine := by rw [sizeLine_eq, List.size_toArray]; lia
    have nov := over_part (m := m1) (c := c9) h2 h3
    unfold offL wayL at nov
    (k_steps; repeat' ((with_reducible show Stop _); refine Stop.on ?_; (first | with_reducible ((with_reducible show wpAny _ _ (PySem.exec (PySem.Stmt.For _ _ _ _ _) _) _ _ _); (k_here; (rename Fr _ _ _ _ => lF'); (with_unfolding_all refine' for_at lF' (by first | exact Nat.le_add_left 1 _ | assumption | ((try dsimp only); first | exact Nat.le_add_left 1 _ | assumption | lia)) ?_; k_whole))) | ((with_reducible show wpAny _ _ (PySem.exec (PySem.Stmt.For _ _ _ _ _) _) _ _ _); (k_here; (rename Fr _ _ _ _ => lF'); (with_unfolding_all refine' for_at lF' (by first | exact Nat.le_add_left 1 _ | assumption | ((try dsimp only); first | exact Nat.le_add_left 1 _ | assumption | lia)) ?_; k_whole)))); k_steps))
    rename Fr _ _ _ _ => F3
    rename News _ _ _ _ => N3
    simp only [List.push_toArray] at N3
    refine hend9 _ (ksl_fin [_, _] _ F3 N3 [] (List.Mem.head _) (by kst_all) (by (intro z h1 h2 h3; (try simp only [List.forall_mem_cons, List.not_mem_nil, false_implies, implies_true, and_true, ne_eq] at h2); (try simp only [List.contains_cons, List.contains_nil, Bool.or_false, Bool.or_eq_false_iff, beq_eq_false_iff_ne, ne_eq] at h3); (simp only [kstB, h1, h2, h3, ↓reduceIte, List.contains_cons, List.contains_nil, Bool.or_false, Bool.false_eq_true, beq_iff_eq, Bool.or_eq_true, or_self]))) hoff ⟨rfl, _, _, ?_, ?_, rfl⟩)
    · rw [take_step _ hc9]; exact hfl.snoc (by first | assumption | exact Nat.succ_ne_zero _ | (show @Ne Nat _ _; lia))
    · rw [List.length_append]; exact Nat.succ_le_succ hvl
  · rintro ps u nx h tk htk ⟨rfl, vs, n, hfl, hvl, rfl⟩ F2 N2
    obtain ⟨t7, t8, t9, rfl, e7, e8, e9⟩ := FlsAre.three hfl
    (k_steps; repeat' ((with_reducible show Stop _); refine Stop.on ?_; (first | with_reducible ((with_reducible show wpAny _ _ (PySem.exec (PySem.Stmt.For _ _ _ _ _) _) _ _ _); (k_here; (rename Fr _ _ _ _ => lF'); (with_unfolding_all refine' for_at lF' (by first | exact Nat.le_add_left 1 _ | assumption | ((try dsimp only); first | exact Nat.le_add_left 1 _ | assumption | lia)) ?_; k_whole))) | ((with_reducible show wpAny _ _ (PySem.exec (PySem.Stmt.For _ _ _ _ _) _) _ _ _); (k_here; (rename Fr _ _ _ _ => lF'); (with_unfolding_all refine' for_at lF' (by first | exact Nat.le_add_left 1 _ | assumption | ((try dsimp only); first | exact Nat.le_add_left 1 _ | assumption | lia)) ?_; k_whole)))); k_steps))
    exact hret _ _ _ _ _ _ (by k_asm) (newsK (by assumption)) (bnd2 (by assumption)) e7 e8 e9

end
end Mine
end

section
open PySem PySem.W PySem.Calls PyProof.Rows
namespace Mine

theorem newsL2 {h₀ h : Heap} {L : Addr} {l a b : List (Addr × Obj)} (N : News h₀ L h (l ++ a ++ b)) : News h₀ L h l := fun p hp => N p (List.mem_append_left _ (List.mem_append_left _ hp))
noncomputable def JoinT (b : Bool) (h₀ : Heap) (L : Addr) (m : Str → Option Value) (news : List (Addr × Obj)) (s : Shared) (v : Bool) (s' : Shared) : Prop :=
  v = b ∧ ∃ h' tk', s' = { s with heap := h', toks := tk' } ∧ Fr h₀ L h' m ∧ News h₀ L h' news
theorem join_isTrue {M : Model} {A : Around} {E : Value → Shared → Prop} {s : Shared} {h₀ : Heap} {L : Addr} {m : Str → Option Value} {news : List (Addr × Obj)} {tr : Sem Bool} {Q : Bool → Shared → Prop} (b : Bool)
    (_F : Fr h₀ L s.heap m) (_N : News h₀ L s.heap news) (go : wpAny M A (tr) (JoinT b h₀ L m news s) E s)
    (k : ∀ h' tk', Fr h₀ L h' m → News h₀ L h' news → Q b { s with heap := h', toks := tk' }) : wpAny M A (tr) Q E s :=
  wpAny_mono go (fun v s' h => by obtain ⟨rfl, h', tk', rfl, F', N'⟩ := h; exact k h' tk' F' N') fun _ _ e => e
theorem isJoinT {M : Model} {A : Around} {E : Value → Shared → Prop} {s s₀ : Shared} {h₀ : Heap} {L : Addr} {m : Str → Option Value} {news : List (Addr × Obj)} {tr : Sem Bool} {b : Bool} (h : wpAny M A tr (JoinT b h₀ L m news s₀) E s) : wpAny M A tr (JoinT b h₀ L m news s₀) E s := h
theorem stopOr {M : Model} {A : Around} {E : Value → Shared → Prop} {s : Shared} {Q : Bool → Shared → Prop} {l : List Expr} {p : Pos} {env : Env} {c : Sem Value} (h : Stop (wpAny M A (PySem.isTrue (Expr.BoolOp BoolOp.Or l p) env c) Q E s)) : wpAny M A (PySem.isTrue (Expr.BoolOp BoolOp.Or l p) env c) Q E s := h
noncomputable def condL (x a b : PySem.Str) (d i j : Int) : Bool :=
  (Txt.item x i == a) && (Txt.item x j == b) && (decide (d.fmod 2 = 1) || decide (i = 0)) && (decide ((d.fdiv 2).fmod 2 = 1) || decide (j = i + 1)) && (decide (d.fdiv 4 = 1) || decide (j = (x.length : Int) - 1))
noncomputable def fitsL (x a b : PySem.Str) (d : Int) : Bool :=
  (List.range ((x.length : Int) - 1).toNat).any fun k => (List.range (k + 1)).any fun i => condL x a b d (0 + (i : Int)) (1 + (k : Int))

end Mine
end

section
theorem Mine.fresh_D2 : True := by
  w_top off
  exact trivial
local macro_rules | `(tactic| walk_at "nowhere") => `(tactic| fail)
open PySem PySem.W PySem.Calls PyProof.Rows
namespace Mine
section
variable {w : World} {mean : ExcName → Option Value} {mg mb : Str → Option Value}
   {dp un : Nat} {gd : Option (List Code)} {cn : Str} {cs : Scope} {a : Addr} {ccd : Value} {cl : List (Str × Addr)} {outer : List Env} {A₀ : Around} {base h₀ : Heap} {L : Addr} {m : Str → Option Value} {news : List (Addr × Obj)} {s : Shared} {Q E : Value → Shared → Prop}
set_option maxRecDepth 100000
set_option maxHeartbeats 8000000
local macro_rules | `(tactic| walk_at "pyIter ref") => `(tactic| (with_reducible refine stopLoop ?_))
local macro_rules | `(tactic| walk_at "isTrue BoolOp") => `(tactic| ((fail_if_success with_reducible refine isJoinT ?_); with_reducible refine stopOr ?_))

theorem c_fits {x a1 b1 : PySem.Str} {d : Int} {r : Bool} {t1 t2 t3 t4 : Tok}
   (hp : fitsL x a1 b1 d = r) (hy : x.length ≤ 1000)
   (B : Below A₀ base outer h₀) (F : Fr h₀ L s.heap m) (X : (Mine.hd.heap_39 w.params).In h₀) (N : News h₀ L s.heap news) (T : Top Mine.hd.view_39 (looseW Mine.hd.view_39 []) mean mg mb h₀) (hk : cs.kind = .function)
   (hd : dp + 20 < recursionLimit) (hu : un + 100 < cLine)
   (hret : ∀ h' tk', Fr h₀ L h' m → News h₀ L h' news → Q (.bool r) { s with heap := h', toks := tk' }) :
   wpAny (model PySem.Challenge.rw_rw0038_01.row.toRowW.1 w) (ktrTop dp un gd cn cs L a ccd cl outer) (call (.ref 106) [.str x t1, .str a1 t2, .str b1 t3, .int d t4]) Q E s := by
  have hfill : PySem.Challenge.rw_rw0038_01 = PySem.Challenge.rw_rw0038_01 ∧ Mine.hd.heap_39 = Mine.hd.heap_39 := ⟨rfl, rfl⟩
  revert hfill
  k_fill
  intro _
  have hmark : KstMark := kstMark
  
  refine wpAny_call ?_
  (k_dflt cell_enter)
  rename Fr _ _ _ _ => FE
  obtain ⟨mE, FE2⟩ := ent_ini (ps := [(Str.ofString "row", .str x t1), (Str.ofString "a", .str a1 t2), (Str.ofString "b", .str b1 t3), (Str.ofString "d", .int d t4)]) FE (by kst_all)
  clear FE
  generalize hkE : s.toks + List.length _ = kE
  clear hkE
  k_steps
  refine Stop.on ?_
  rename News _ _ _ _ => N1
  rename Fr _ _ _ _ => F1
  rename IsRange _ _ _ _ _ _ _ _ => R1
  refine loop_range (n := ((x.length : Int) - 1).toNat) ["i"] (fun k ps nx => ps = [] ∧ nx = news ∧ ∀ k' < k, ∀ i ≤ k', condL x a1 b1 d (0 + (i : Int)) (1 + (k' : Int)) = false) rfl R1 (small_one (by lia) (by lia) (by lia) (by lia)) (rangeSize_nat _ _) F1 N1 [] news (fun _ hp => hp) (by kst_all) ⟨rfl, rfl, fun _ h => absurd h (Nat.not_lt_zero _)⟩ ?_ ?_
  · rintro k t ps u nx h tk own Q1 hend1 hq1 hk hoff ⟨rfl, rfl, hno⟩ F2 N2
    (try clear R1); (try clear F1); (try clear N1)
    k_steps
    refine Stop.on ?_
    rename News _ _ _ _ => N3
    rename Fr _ _ _ _ => F3
    rename IsRange _ _ _ _ _ _ _ _ => R3
    refine loop_range (n := (1 + (k : Int) - 0).toNat) [] (fun i ps nx' => ps = [] ∧ nx' = nx ++ own ∧ ∀ i' < i, condL x a1 b1 d (0 + (i' : Int)) (1 + (k : Int)) = false) rfl R3 (small_one (by lia) (by lia) (by lia) (by lia)) (rangeSize_nat _ _) F3 N3 [] (nx ++ own) (fun _ hp => hp) (by kst_all) ⟨rfl, rfl, fun _ h => absurd h (Nat.not_lt_zero _)⟩ ?_ ?_
    · rintro i t' ps u' nx' h tk own' Q2 hend2 hq2 hi hoff' ⟨rfl, rfl, hno'⟩ F4 N4
      have hb1 : 0 ≤ (0 + (i : Int)) ∧ (0 + (i : Int)) < x.length := by lia
      have hb2 : 0 ≤ (1 + (k : Int)) ∧ (1 + (k : Int)) < x.length := by lia
      (try clear R3); (try clear F3); (try clear N3); (try clear F2); (try clear N2)
      k_steps
      all_goals try
        (rename Fr _ _ _ _ => F5
         rename News _ _ _ _ => N5
         refine hend2 _ (ks_same F5 N5 hoff' ⟨rfl, rfl, fun i' hi' => ?_⟩)
         by_cases e : i' = i
         · subst e
           simp only [condL, *, decide_true, decide_false, Bool.or_false, Bool.or_true, Bool.true_or, Bool.false_or, Bool.or_self, Bool.and_true, Bool.true_and, Bool.and_false, Bool.false_and, Bool.and_self, ne_eq, not_false_eq_true, not_true_eq_false]
         · exact hno' i' (by lia))
      refine Stop.on ?_
      rename Fr _ _ _ _ => F7
      rename News _ _ _ _ => N7
      refine join_isTrue (decide (d.fmod 2 = 1) || decide ((0 + (i : Int)) = 0)) F7 N7 ?go ?k
      case go =>
        clear hret hno hno' hend1 hend2 hq1 hq2
        k_steps
        all_goals (rename Fr _ _ _ _ => F5; rename News _ _ _ _ => N5; exact ⟨by simp only [*, decide_true, decide_false, Bool.or_false, Bool.or_true, Bool.true_or, Bool.false_or, Bool.or_self, Bool.and_true, Bool.true_and, Bool.and_false, Bool.false_and, Bool.and_self, ne_eq, not_false_eq_true, not_true_eq_false], _, _, rfl, F5, N5⟩)
      case k =>
        intro h1 tk1 F8 N8
        clear F7 N7
        k_steps
        all_goals try
          (rename Fr _ _ _ _ => F5
           rename News _ _ _ _ => N5
           refine hend2 _ (ks_same F5 N5 hoff' ⟨rfl, rfl, fun i' hi' => ?_⟩)
           by_cases e : i' = i
           · subst e
             simp only [condL, *, decide_true, decide_false, Bool.or_false, Bool.or_true, Bool.true_or, Bool.false_or, Bool.or_self, Bool.and_true, Bool.true_and, Bool.and_false, Bool.false_and, Bool.and_self, ne_eq, not_false_eq_true, not_true_eq_false]
           · exact hno' i' (by lia))
        refine Stop.on ?_
        rename Fr _ _ _ _ => F7
        rename News _ _ _ _ => N7
        refine join_isTrue (decide ((d.fdiv 2).fmod 2 = 1) || decide ((1 + (k : Int)) = (0 + (i : Int)) + 1)) F7 N7 ?go ?k
        case go =>
          clear hret hno hno' hend1 hend2 hq1 hq2
          k_steps
          all_goals (rename Fr _ _ _ _ => F5; rename News _ _ _ _ => N5; exact ⟨by simp only [*, decide_true, decide_false, Bool.or_false, Bool.or_true, Bool.true_or, Bool.false_or, Bool.or_self, Bool.and_true, Bool.true_and, Bool.and_false, Bool.false_and, Bool.and_self, ne_eq, not_false_eq_true, not_true_eq_false], _, _, rfl, F5, N5⟩)
        case k =>
          intro h1 tk1 F8 N8
          clear F7 N7
          k_steps
          all_goals try
            (rename Fr _ _ _ _ => F5
             rename News _ _ _ _ => N5
             refine hend2 _ (ks_same F5 N5 hoff' ⟨rfl, rfl, fun i' hi' => ?_⟩)
             by_cases e : i' = i
             · subst e
               simp only [condL, *, decide_true, decide_false, Bool.or_false, Bool.or_true, Bool.true_or, Bool.false_or, Bool.or_self, Bool.and_true, Bool.true_and, Bool.and_false, Bool.false_and, Bool.and_self, ne_eq, not_false_eq_true, not_true_eq_false]
             · exact hno' i' (by lia))
          refine Stop.on ?_
          rename Fr _ _ _ _ => F7
          rename News _ _ _ _ => N7
          refine join_isTrue (decide (d.fdiv 4 = 1) || decide ((1 + (k : Int)) = (x.length : Int) - 1)) F7 N7 ?go ?k
          case go =>
            clear hret hno hno' hend1 hend2 hq1 hq2
            k_steps
            all_goals (rename Fr _ _ _ _ => F5; rename News _ _ _ _ => N5; exact ⟨by simp only [*, decide_true, decide_false, Bool.or_false, Bool.or_true, Bool.true_or, Bool.false_or, Bool.or_self, Bool.and_true, Bool.true_and, Bool.and_false, Bool.false_and, Bool.and_self, ne_eq, not_false_eq_true, not_true_eq_false], _, _, rfl, F5, N5⟩)
          case k =>
            intro h1 tk1 F8 N8
            clear F7 N7
            k_steps
            all_goals try
              (rename Fr _ _ _ _ => F5
               rename News _ _ _ _ => N5
               refine hend2 _ (ks_same F5 N5 hoff' ⟨rfl, rfl, fun i' hi' => ?_⟩)
               by_cases e : i' = i
               · subst e
                 simp only [condL, *, decide_true, decide_false, Bool.or_false, Bool.or_true, Bool.true_or, Bool.false_or, Bool.or_self, Bool.and_true, Bool.true_and, Bool.and_false, Bool.false_and, Bool.and_self, ne_eq, not_false_eq_true, not_true_eq_false]
               · exact hno' i' (by lia))
            (refine hq2 _ _ ?_
             (try dsimp only)
             refine hq1 _ _ ?_
             (try dsimp only)
             k_steps
             have e9 : r = true := by
               rw [← hp]
               simp only [fitsL, List.any_eq_true, List.mem_range]
               exact ⟨k, hk, i, by lia, by simp only [condL, *, decide_true, decide_false, Bool.or_false, Bool.or_true, Bool.true_or, Bool.false_or, Bool.or_self, Bool.and_true, Bool.true_and, Bool.and_false, Bool.false_and, Bool.and_self, ne_eq, not_false_eq_true, not_true_eq_false]⟩
             subst e9
             exact hret _ _ (by k_asm) (newsL2 (by assumption)))
    · rintro ps u nx' h tk ⟨rfl, rfl, hno'⟩ F4 N4
      (try clear R3); (try clear F3); (try clear N3); (try clear F2); (try clear N2)
      k_steps
      first
        | (rename Fr _ _ _ _ => F5
           rename News _ _ _ _ => N5
           refine hend1 _ <| ks_end F5 N5 [] nx (by kst_all) (by (intro z h1 h2 h3; (try simp only [List.forall_mem_cons, List.not_mem_nil, false_implies, implies_true, and_true, ne_eq] at h2); (try simp only [List.contains_cons, List.contains_nil, Bool.or_false, Bool.or_eq_false_iff, beq_eq_false_iff_ne, ne_eq] at h3); (simp only [kstB, h1, h2, h3, ↓reduceIte, List.contains_cons, List.contains_nil, Bool.or_false, Bool.false_eq_true, beq_iff_eq, Bool.or_eq_true, or_self]))) (fun p hp => List.mem_append_left _ hp) (fun p hp => List.mem_append_right _ hp) hoff ⟨rfl, rfl, fun k' hk' i' hi' => ?_⟩
           by_cases e : k' = k
           · subst e
             exact hno' i' (by lia)
           · exact hno k' (by lia) i' hi')
  · rintro ps u nx h tk ⟨rfl, rfl, hno⟩ F2 N2
    have e9 : r = false := by
      rw [← hp]
      simp only [fitsL, List.any_eq_false, List.mem_range, Bool.not_eq_true]
      intro k hk i hi
      exact hno k hk i (by lia)
    subst e9
    k_steps
    exact hret _ _ (by k_asm) (by k_asm)

end
end Mine
end

section
theorem Mine.fresh_D3 : True := by
  w_top off
  exact trivial
open PySem PySem.W PySem.Calls PyProof.Rows
namespace Mine

noncomputable def loopL (y : PySem.Str) (en : Int) : List PySem.Str → Int → Bool
  | [], _ => true
  | w :: r, st => if find4 y w st en < 0 then false else loopL y en r (find4 y w st en + w.length)
noncomputable def mK (y : PySem.Str) (sw ew : Option PySem.Str) (ws : List PySem.Str) : Bool :=
  (match sw with | some p => Txt.startswith y p | none => true) && (match ew with | some q => Txt.endswith y q | none => true)
    && !(decide ((match sw with | some p => (p.length : Int) | none => 0) > (match ew with | some q => (y.length : Int) - (q.length : Int) | none => (y.length : Int))))
    && loopL y (match ew with | some q => (y.length : Int) - (q.length : Int) | none => (y.length : Int)) ws (match sw with | some p => (p.length : Int) | none => 0)
inductive TxAre : List Value → List PySem.Str → Prop
  | nil : TxAre [] []
  | cons {x : PySem.Str} {t : Tok} {vs : List Value} {xs : List PySem.Str} : TxAre vs xs → TxAre (.str x t :: vs) (x :: xs)
theorem TxAre.get {vs : List Value} {xs : List PySem.Str} {i : Nat} {v : Value} (t : TxAre vs xs) : vs[i]? = some v → ∃ t w, v = .str w t ∧ w ∈ xs ∧ xs.drop i = w :: xs.drop (i + 1) := by
  induction t generalizing i with
  | nil => intro h; cases h
  | @cons x t _ _ _ ih =>
    intro e
    cases i with
    | zero => cases e; exact ⟨t, x, rfl, .head _, rfl⟩
    | succ i =>
      obtain ⟨t, w, e1, e2, e3⟩ := ih (i := i) e
      exact ⟨t, w, e1, .tail _ e2, e3⟩
theorem TxAre.len {vs : List Value} {xs : List PySem.Str} (t : TxAre vs xs) : vs.length = xs.length := by
  induction t with
  | nil => rfl
  | cons _ ih => exact congrArg Nat.succ ih
theorem newsT1 {h₀ h : Heap} {L : Addr} {a : Addr × Obj} {l : List (Addr × Obj)} (N : News h₀ L h (a :: l)) : News h₀ L h l := fun p hp => N p (.tail _ hp)
theorem newsT2 {h₀ h : Heap} {L : Addr} {a b : Addr × Obj} {l : List (Addr × Obj)} (N : News h₀ L h (a :: b :: l)) : News h₀ L h l := fun p hp => N p (.tail _ (.tail _ hp))
theorem newsT2o {h₀ h : Heap} {L : Addr} {a b : Addr × Obj} {l own : List (Addr × Obj)} (N : News h₀ L h (a :: b :: (l ++ own))) : News h₀ L h l := fun p hp => N p (.tail _ (.tail _ (List.mem_append_left _ hp)))

noncomputable def mC (y : PySem.Str) (st en : Int) (ws : List PySem.Str) : Bool := if st > en then false else loopL y en ws st
noncomputable def mB (y : PySem.Str) (st : Int) (ws : List PySem.Str) : Bool :=
  if (ws.getLastD (PySem.Str.ofString "")).length = 0 then mC y st y.length ws
  else if Txt.endswith y (ws.getLastD (PySem.Str.ofString "")) then mC y st ((y.length : Int) - ((ws.getLastD (PySem.Str.ofString "")).length : Int)) ws.dropLast else false
noncomputable def mA (y : PySem.Str) (ws : List PySem.Str) : Bool :=
  if (ws.headD (PySem.Str.ofString "")).length = 0 then mB y 0 ws
  else if Txt.startswith y (ws.headD (PySem.Str.ofString "")) then mB y ((ws.headD (PySem.Str.ofString "")).length : Int) ws.tail else false
theorem txAre_of : ∀ {l : List (PySem.Str × Tok)} {ws : List PySem.Str}, l.map (·.1) = ws → TxAre (strValues l) ws
  | [], _, rfl => .nil
  | _ :: _, _, rfl => .cons (txAre_of rfl)
theorem TxAre.last {vs : List Value} {ws : List PySem.Str} (h : TxAre vs ws) : ws ≠ [] → ∃ t, vs[vs.length - 1]? = some (.str (ws.getLastD (PySem.Str.ofString "")) t) ∧ TxAre vs.dropLast ws.dropLast ∧ ws.getLastD (PySem.Str.ofString "") ∈ ws := by
  induction h with
  | nil => intro h; exact absurd rfl h
  | @cons x t vs xs h ih =>
    intro _
    cases h with
    | nil => exact ⟨t, rfl, .nil, .head _⟩
    | cons h' =>
      obtain ⟨t', e, h'', hm⟩ := ih (List.cons_ne_nil _ _)
      exact ⟨t', e, .cons h'', List.mem_cons_of_mem _ hm⟩
theorem ki_delL_last : ∀ {vs : List Value}, vs ≠ [] → ki_delL vs (vs.length - 1) = some vs.dropLast
  | [], h => absurd rfl h
  | [_], _ => rfl
  | _ :: y :: r, _ => by
    have := ki_delL_last (vs := y :: r) (List.cons_ne_nil _ _)
    simp only [List.length_cons, Nat.add_sub_cancel] at this ⊢
    show (match ki_delL (y :: r) r.length with | some q => some (_ :: q) | none => none) = _
    rw [this]; rfl
theorem seq_last {n : Nat} (h : 1 ≤ n) : seqIndex? (-1) n = some (n - 1) := by
  unfold seqIndex?
  simp
  lia
noncomputable def JoinJ (J : Shared → Prop) (Q : Flow → Shared → Prop) (f : Flow) (s' : Shared) : Prop := match f with | .next => J s' | f => Q f s'
noncomputable def Jn (Q : Flow → Shared → Prop) : Flow → Shared → Prop := Q
theorem isJn {M : Model} {A : Around} {c : Sem Flow} {Q : Flow → Shared → Prop} {E : Value → Shared → Prop} {s : Shared} (h : wpAny M A c (Jn Q) E s) : wpAny M A c (Jn Q) E s := h
theorem stopIf {M : Model} {A : Around} {Q : Flow → Shared → Prop} {E : Value → Shared → Prop} {s : Shared} {x : Str} {p pos : Pos} {b o : List Stmt} {env : Env} (h : Stop (wpAny M A (PySem.exec (.If (.Name x p) b o pos) env) Q E s)) : wpAny M A (PySem.exec (.If (.Name x p) b o pos) env) Q E s := h
noncomputable def JnW (h₀ : Heap) (L : Addr) (m : Str → Option Value) (x : Str) (a : Addr × Obj) (D : Addr) (news : List (Addr × Obj)) (s : Shared) (P : Int → List PySem.Str → Prop) (s' : Shared) : Prop :=
  ∃ h tk vs ws n st t, s' = { s with heap := h, toks := tk } ∧ Fr h₀ L h (fun z => if z = x then some (.int st t) else m z) ∧ News h₀ L h (a :: (D, listOf (List.toArray vs) n) :: news) ∧ TxAre vs ws ∧ P st ws
section
variable {M : Model} {A : Around} {E : Value → Shared → Prop} {s : Shared} {h₀ : Heap} {L D : Addr} {m : Str → Option Value} {a : Addr × Obj} {news : List (Addr × Obj)} {Q : Flow → Shared → Prop} {x : Str} {P : Int → List PySem.Str → Prop}
theorem JnW.join {c : Sem Flow} {lo : Obj} (x : Str) (P : Int → List PySem.Str → Prop) (_ : Fr h₀ L s.heap m) (_ : News h₀ L s.heap (a :: (D, lo) :: news))
    (go : ∀ Q' : Flow → Shared → Prop, (∀ s', JnW h₀ L m x a D news s P s' → Q' .next s') → (∀ v s', Q (.ret v) s' → Q' (.ret v) s') → wpAny M A c (Jn Q') E s)
    (on : ∀ h tk vs ws n st t, Fr h₀ L h (fun z => if z = x then some (.int st t) else m z) → News h₀ L h (a :: (D, listOf (List.toArray vs) n) :: news) → TxAre vs ws → P st ws → Q .next { s with heap := h, toks := tk }) : wpAny M A c Q E s :=
  wpAny_mono (go (JoinJ (JnW h₀ L m x a D news s P) Q) (fun _ h => h) fun _ _ h => h) (fun f s' h => by
    cases f with
    | next => obtain ⟨h, tk, vs, ws, n, st, t, rfl, F, N, T, p⟩ := h; exact on h tk vs ws n st t F N T p
    | _ => exact h) fun _ _ e => e
theorem JnW.next {h : Heap} {tk : Nat} {vs : List Value} {ws : List PySem.Str} {n : Nat} {st : Int} {t : Tok} (F : Fr h₀ L h (fun z => if z = x then some (.int st t) else m z)) (N : News h₀ L h (a :: (D, listOf vs.toArray n) :: news)) (T : TxAre vs ws) (p : P st ws) :
    JnW h₀ L m x a D news s P { s with heap := h, toks := tk } := ⟨h, tk, vs, ws, n, st, t, rfl, F, N, T, p⟩
theorem JnW.same {h : Heap} {tk : Nat} {vs : List Value} {ws : List PySem.Str} {n : Nat} {st : Int} {t : Tok} (e : m x = some (.int st t)) (F : Fr h₀ L h m) (N : News h₀ L h (a :: (D, listOf vs.toArray n) :: news)) (T : TxAre vs ws) (p : P st ws) :
    JnW h₀ L m x a D news s P { s with heap := h, toks := tk } := by
  refine JnW.next (st := st) (t := t) ?_ N T p
  have e' : (fun z => if z = x then some (Value.int st t) else m z) = m := by
    funext z
    by_cases h : z = x
    · rw [if_pos h, h, e]
    · rw [if_neg h]
  rw [e']; exact F
end
theorem str_cases {x : PySem.Str} : x = PySem.Str.ofString "" ∨ 1 ≤ x.length := by
  by_cases h : 1 ≤ x.length
  · exact .inr h
  · refine .inl ?_
    obtain ⟨⟨l⟩⟩ := x
    cases l with
    | nil => decide +kernel
    | cons c l => exact absurd (Nat.succ_le_succ (Nat.zero_le _)) h
theorem joinJ_ret {J : Shared → Prop} {Q : Flow → Shared → Prop} {v : Value} {s' : Shared} (h : Q (.ret v) s') : JoinJ J Q (.ret v) s' := h
section
variable {prog : Program} {w : World} {A : Around} {E : Value → Shared → Prop} {s : Shared} {h₀ : Heap} {L D : Addr} {m : Str → Option Value} {news news' : List (Addr × Obj)}
theorem del_head {v : Value} {vs : List Value} {n : Nat} {u : Tok} {Q : Unit → Shared → Prop} (F : Fr h₀ L s.heap m) (N : News h₀ L s.heap news) (U : Upd D (listOf (v :: vs).toArray n) (listOf vs.toArray (n + 1)) news news')
    (hz : (v :: vs).length ≤ sizeLine) (h : ∀ h', Fr h₀ L h' m → News h₀ L h' news' → Q () { s with heap := h' }) : wpAny (model prog w) A (delItem (.ref D) (.int 0 u)) Q E s :=
  ki_del F N (by decide) (k := 0) (by rw [List.size_toArray]; exact StrLaws.seqIndex_nonneg (by lia) (by simp only [List.length_cons]; lia)) rfl U hz h
theorem del_back {vs : List Value} {n : Nat} {u : Tok} {Q : Unit → Shared → Prop} (F : Fr h₀ L s.heap m) (N : News h₀ L s.heap news) (hv : vs ≠ []) (U : Upd D (listOf vs.toArray n) (listOf vs.dropLast.toArray (n + 1)) news news')
    (hz : vs.length ≤ sizeLine) (h : ∀ h', Fr h₀ L h' m → News h₀ L h' news' → Q () { s with heap := h' }) : wpAny (model prog w) A (delItem (.ref D) (.int (-1) u)) Q E s :=
  ki_del F N (by decide) (k := vs.length - 1) (by rw [List.size_toArray]; exact seq_last (List.length_pos_iff.mpr hv)) (by simpa using ki_delL_last hv) U hz h
end
section
variable {w : World} {mean : ExcName → Option Value} {mg mb : Str → Option Value}
   {dp un : Nat} {gd : Option (List Code)} {cn : Str} {cs : Scope} {a : Addr} {ccd : Value} {cl : List (Str × Addr)} {outer : List Env} {A₀ : Around} {base h₀ : Heap} {L : Addr} {m : Str → Option Value} {news : List (Addr × Obj)} {s : Shared} {Q E : Value → Shared → Prop}
set_option maxRecDepth 100000
set_option maxHeartbeats 8000000
local macro_rules | `(tactic| walk_at "pyIter ref") => `(tactic| (with_reducible refine stopLoop ?_))
local macro_rules | `(tactic| walk_at "call builtin:str.find") => `(tactic| (refine call_find4 ?_))


local macro_rules | `(tactic| walk_at "exec For Name Name cons nil") => `(tactic| (refine Stop.go ?_))
local macro_rules | `(tactic| walk_at "exec If") => `(tactic| ((fail_if_success with_reducible refine isJn ?_); with_reducible refine stopIf ?_))
local macro_rules | `(tactic| walk_at "call builtin:str.split") => `(tactic| (refine Stop.go ?_))
local macro_rules | `(tactic| walk_at "subscriptTail Name Constant ref int") => `(tactic| (refine Stop.go ?_))
local macro_rules | `(tactic| walk_at "subscriptTail Name UnaryOp ref int") => `(tactic| (refine Stop.go ?_))
local macro_rules | `(tactic| walk_at "truthy str") => `(tactic| (refine truthy_some (by assumption) (by assumption) ?_; intro _))
local macro_rules | `(tactic| walk_at "delItem ref int") => `(tactic| (refine Stop.go ?_))
theorem c_match {x y : PySem.Str} {ws : List PySem.Str} {r : Bool} {t1 t2 : Tok}
   (hy : x.length ≤ sizeLine) (hx : y.length ≤ 16777216) (h2 : 2 ≤ ws.length) (h9 : ws.length ≤ 9) (hws : ∀ w ∈ ws, w.length ≤ 16777216)
   (hin : (Builtin.Str.occurrences x (Str.ofString "...") 0 x.length 1).isEmpty = false)
   (hsz2 : (Builtin.Str.partsBetween x (Builtin.Str.occurrences x (Str.ofString "...") 0 x.length (x.length + 1)) (Str.ofString "...").length).length ≤ sizeLine)
   (hs : Txt.split x (Str.ofString "...") = ws)
   (hp : mA y ws = r)
   (B : Below A₀ base outer h₀) (F : Fr h₀ L s.heap m) (X : (Mine.hd.heap_39 w.params).In h₀) (N : News h₀ L s.heap news) (T : Top Mine.hd.view_39 (looseW Mine.hd.view_39 []) mean mg mb h₀) (hk : cs.kind = .function)
   (hd : dp + 20 < recursionLimit) (hu : un + 100 < cLine)
   (hret : ∀ h' tk', Fr h₀ L h' m → News h₀ L h' news → Q (.bool r) { s with heap := h', toks := tk' }) :
   wpAny (model PySem.Challenge.rw_rw0038_01.row.toRowW.1 w) (ktrTop dp un gd cn cs L a ccd cl outer) (call (.ref 21) [.str x t1, .str y t2]) Q E s := by
  have hfill : PySem.Challenge.rw_rw0038_01 = PySem.Challenge.rw_rw0038_01 ∧ Mine.hd.heap_39 = Mine.hd.heap_39 := ⟨rfl, rfl⟩
  revert hfill
  k_fill
  intro _
  have hmark : KstMark := kstMark
  
  refine wpAny_call ?_
  (k_dflt cell_enter)
  rename Fr _ _ _ _ => FE
  obtain ⟨mE, FE2⟩ := ent_ini (ps := [(Str.ofString "want", .str x t1), (Str.ofString "got", .str y t2)]) FE (by kst_all)
  clear FE
  generalize hkE : s.toks + List.length _ = kE
  clear hkE
  k_steps
  refine Stop.on ?_
  rename Fr _ _ _ _ => F1
  rename News _ _ _ _ => N1
  refine split_known F1 N1 hs (by decide +kernel) ?_ (by assumption) (by assumption)
  clear F1 N1
  intro D h1 k1 l1 e1 F1 N1 lt1
  have hT := txAre_of e1
  generalize strValues l1 = vs at hT N1
  clear e1 l1
  (try k_lt lt1)
  k_steps
  refine kun_lenL (k := (ws.length : Int)) (News.isList (by k_asm) (by k_mem)) (by rw [List.size_toArray, hT.len]) (by lia) ?_
  k_whole
  k_steps
  refine Stop.on ?_
  rename News _ _ _ _ => N3
  cases hT with
  | nil => exact absurd h2 (by decide)
  | @cons w0 t0 vs ws hT =>
  refine kim_list N3 (.tail _ (.head _)) rfl rfl (by decide) (by decide) rfl ?_
  k_steps
  refine Stop.on ?_
  rename Fr _ _ _ _ => F4
  rename News _ _ _ _ => N4
  have hw0 := hws _ (.head _)
  refine JnW.join (Str.ofString "startpos") (fun st ws => ws ≠ [] ∧ ws.length ≤ 9 ∧ (∀ w ∈ ws, w.length ≤ 16777216) ∧ mB y st ws = r) F4 N4 ?_ ?_
  · intro Q' hn hr
    rcases str_cases (x := w0) with rfl | hw1
    · k_steps
      rename Fr _ _ _ _ => F5
      rename News _ _ _ _ => N5
      exact hn _ <| JnW.same (st := 0) (by with_unfolding_all rfl) F5 N5 (.cons hT) ⟨List.cons_ne_nil _ _, h9, hws, by rw [← hp]; rfl⟩
    · k_steps
      · refine Stop.on ?_
        rename Fr _ _ _ _ => F5
        rename News _ _ _ _ => N5
        refine del_head F5 N5 (by k_upd) (by rw [sizeLine_eq, List.length_cons, hT.len]; simp only [List.length_cons] at h9; lia) ?_
        clear F5 N5
        intro h5 F5 N5
        k_steps
        rename Fr _ _ _ _ => F6
        rename News _ _ _ _ => N6
        exact hn _ <| JnW.next F6 N6 hT ⟨by rintro rfl; simp at h2, by simp only [List.length_cons] at h9; lia, fun _ h => hws _ (.tail _ h), by rw [← hp]; simp [mA, *]; intro e; lia⟩
      · refine hr _ _ ?_
        dsimp only
        k_steps
        have e9 : r = false := by rw [← hp]; simp [mA, *]; intro e; lia
        subst e9
        rename News _ _ _ _ => N6
        exact hret _ _ (by k_asm) (newsT2 N6)
  · clear F4 N4
    intro h3 k3 vs1 ws1 n1 st ts F4 N4 hT1 ⟨hn1, h91, hws1, hp1⟩
    obtain ⟨t3, e3, hT2, hm3⟩ := hT1.last hn1
    unfold mB at hp1
    have hw3 := hws1 _ hm3
    generalize hwl : ws1.getLastD (PySem.Str.ofString "") = wl at e3 hm3 hw3 hp1
    have hv1 : 1 ≤ vs1.length := by rw [hT1.len]; exact List.length_pos_iff.mpr hn1
    k_steps
    refine Stop.on ?_
    rename News _ _ _ _ => N5
    refine kim_back N5 (.tail _ (.head _)) rfl rfl (by decide) (by lia) (by decide) (x := .str wl t3) (by rw [← e3]; congr 1; lia) ?_

    k_steps
    refine Stop.on ?_
    rename Fr _ _ _ _ => F5
    rename News _ _ _ _ => N5
    refine JnW.join (Str.ofString "endpos") (fun en ws => ws.length ≤ 9 ∧ (∀ w ∈ ws, w.length ≤ 16777216) ∧ mC y st en ws = r) F5 N5 ?_ ?_
    · intro Q' hn hr
      rcases str_cases (x := wl) with rfl | hw1
      · k_steps
        rename Fr _ _ _ _ => F6
        rename News _ _ _ _ => N6
        exact hn _ <| JnW.same (st := (y.length : Int)) (by with_unfolding_all rfl) F6 N6 hT1 ⟨h91, hws1, by rw [← hp1]; rfl⟩
      · k_steps
        · refine Stop.on ?_
          rename Fr _ _ _ _ => F6
          rename News _ _ _ _ => N6
          refine del_back F6 N6 (List.length_pos_iff.mp hv1) (by k_upd) (by rw [sizeLine_eq, hT1.len]; lia) ?_
          clear F6 N6
          intro h5 F6 N6
          k_steps
          rename Fr _ _ _ _ => F7
          rename News _ _ _ _ => N7
          exact hn _ <| JnW.next F7 N7 hT2 ⟨by rw [List.length_dropLast]; lia, fun _ h => hws1 _ (List.dropLast_subset _ h), by rw [← hp1]; simp [*]; intro e; lia⟩
        · refine hr _ _ ?_
          dsimp only
          k_steps
          have e9 : r = false := by rw [← hp1]; simp [*]; intro e; lia
          subst e9
          rename News _ _ _ _ => N6
          exact hret _ _ (by k_asm) (newsT2 N6)
    · clear F5 N5 hT2 e3 hm3 hw3 hp1 hwl hT1 hv1
      intro h5 k5 vs2 ws2 n2 en te F5 N5 hT2 ⟨h92, hws2, hp2⟩
      unfold mC at hp2
      k_steps
      · have e9 : r = false := by rw [← hp2, if_pos (by lia)]
        subst e9
        rename News _ _ _ _ => N6
        exact hret _ _ (by k_asm) (newsT2 N6)
      · rw [if_neg (by lia)] at hp2
        refine Stop.on ?_
        rename Fr _ _ _ _ => lF
        with_unfolding_all refine' For_invVF lF ?zk1 ?zk2 ?_
        case zk1 => exact rfl
        case zk2 => exact rfl
        k_whole
        k_steps
        refine Stop.on ?_
        rename News _ _ _ _ => N1
        rename Fr _ _ _ _ => F1
        refine loop_list ["startpos"] (fun i ps nx => ∃ st t, ps = [(Str.ofString "startpos", .int st t)] ∧ nx = (_, _) :: (_, _) :: news ∧ loopL y en (ws2.drop i) st = r) rfl F1 N1 [(Str.ofString "startpos", .int st _)] _ (List.Mem.tail _ (List.Mem.head _)) (fun _ hp => hp) (by kst_all) ⟨st, _, rfl, rfl, hp2⟩ ?turn ?done
        case turn =>
          rintro i v ps u nx h tk own Q1 hend1 hq1 hv hoff hl ⟨st, t, rfl, rfl, hlp⟩ F2 N2
          simp only [List.cons_append] at N2
          obtain ⟨t9, w9, rfl, hw9, ed⟩ := TxAre.get hT2 hv
          have hwl := hws2 _ hw9
          rw [ed] at hlp
          unfold loopL at hlp
          k_steps
          all_goals first
            | (rename Fr _ _ _ _ => F3
               rename News _ _ _ _ => N3
               refine hend1 _ <| ksl_fin [_, _] _ F3 N3 [(Str.ofString "startpos", .int _ _)] hl (by kst_all) (by (intro z h1 h2 h3; (try simp only [List.forall_mem_cons, List.not_mem_nil, false_implies, implies_true, and_true, ne_eq] at h2); (try simp only [List.contains_cons, List.contains_nil, Bool.or_false, Bool.or_eq_false_iff, beq_eq_false_iff_ne, ne_eq] at h3); (simp only [kstB, h1, h2, h3, ↓reduceIte, List.contains_cons, List.contains_nil, Bool.or_false, Bool.false_eq_true, beq_iff_eq, Bool.or_eq_true, or_self]))) hoff ⟨_, _, rfl, rfl, ?_⟩
               simpa [*] using hlp)
            | (refine hq1 _ _ ?_
               (try dsimp only)
               k_steps
               have e9 : r = false := by rw [← hlp]; simp [*]
               subst e9
               exact hret _ _ (by k_asm) (newsT2o (by assumption)))
        case done =>
          rintro ps u nx h tk ⟨st, t, rfl, rfl, hlp⟩ F2 N2
          have e9 : r = true := by rw [← hlp, hT2.len]; simp [loopL]
          subst e9
          k_steps
          exact hret _ _ (by k_asm) (newsT2 (by assumption))
end
end Mine
end

section
theorem Mine.fresh_D4 : True := by
  w_top off
  exact trivial
open PySem PySem.W PySem.Calls PyProof.Rows
namespace Mine

theorem cut_at {l : List Value} : ∀ {k : Nat} {y : Value}, l[k]? = some y → kl_cut l k = some (l.take k, y, l.drop (k + 1)) := by
  induction l with
  | nil => intro k y h; cases h
  | cons x r ih =>
    intro k y h
    cases k with
    | zero => cases h; rfl
    | succ k =>
      have := ih (k := k) (y := y) (by simpa using h)
      unfold kl_cut
      rw [this]
      rfl
theorem TxAre.drop1 : ∀ {vs : List Value} {xs : List PySem.Str} (k : Nat), TxAre vs xs → TxAre (vs.eraseIdx k) (xs.eraseIdx k)
  | _, _, _, .nil => .nil
  | _, _, 0, .cons h => h
  | _, _, k + 1, .cons h => .cons (h.drop1 k)
theorem TxAre.at : ∀ {vs : List Value} {xs : List PySem.Str} {i : Nat}, TxAre vs xs → i < vs.length → ∃ t w, vs[i]? = some (.str w t) ∧ xs[i]? = some w
  | _, _, _, .nil, h => absurd h (Nat.not_lt_zero _)
  | _, _, 0, .cons (x := x) (t := t) _, _ => ⟨t, x, rfl, rfl⟩
  | _, _, i + 1, .cons h, hi => by
    obtain ⟨t, w, e1, e2⟩ := h.at (i := i) (by simpa using hi)
    exact ⟨t, w, by simpa using e1, by simpa using e2⟩
section
variable {prog : Program} {w : World} {A : Around} {E : Value → Shared → Prop} {s : Shared} {h₀ : Heap} {L D : Addr} {m : Str → Option Value} {news news' : List (Addr × Obj)}
theorem pop_tx {vs : List Value} {xs : List PySem.Str} {i : Int} {u : Tok} {n : Nat} {Q : Value → Shared → Prop} (F : Fr h₀ L s.heap m) (N : News h₀ L s.heap news) (hT : TxAre vs xs) (k : Nat) (hlen : vs.length = k) (hk : k ≤ 8) (h0 : 0 ≤ i) (h1 : i < k)
    (U : Upd D (listOf vs.toArray n) (listOf (vs.eraseIdx i.toNat).toArray (n + 1)) news news')
    (h : ∀ h' t y, xs[i.toNat]? = some y → TxAre (vs.eraseIdx i.toNat) (xs.eraseIdx i.toNat) → (vs.eraseIdx i.toNat).length = k - 1 → Fr h₀ L h' m → News h₀ L h' news' → Q (.str y t) { s with heap := h' }) :
    wpAny (model prog w) A (call (.builtin "list.pop") [.ref D, .int i u]) Q E s := by
  have hi : i.toNat < vs.length := by lia
  obtain ⟨t, y, e1, e2⟩ := hT.at hi
  have ee : vs.eraseIdx i.toNat = vs.take i.toNat ++ vs.drop (i.toNat + 1) := List.eraseIdx_eq_take_drop_succ ..
  refine kl_popAt (p := vs.take i.toNat) (q := vs.drop (i.toNat + 1)) (k := i.toNat) F N (by unfold Builtin.List.listFitsIndex; simp; lia) ?_ (by simpa using cut_at e1) (by rw [← ee]; exact U) (by show vs.length ≤ sizeLine; rw [sizeLine_eq]; lia) (fun h' F' N' => h h' t y e2 (hT.drop1 _) (by rw [List.length_eraseIdx, if_pos hi]; lia) F' N')
  rw [List.size_toArray, hlen]
  exact StrLaws.seqIndex_nonneg h0 h1
end
noncomputable def signs8 : List PySem.Str := [Str.ofString "&", Str.ofString "<", Str.ofString ">", Str.ofString "\"", Str.ofString "\r", Str.ofString "\n", Str.ofString "\t", Str.ofString "b"]
theorem newsJ {h₀ h : Heap} {L : Addr} {x a : Addr × Obj} {l : List (Addr × Obj)} (N : News h₀ L h (x :: a :: l)) : News h₀ L h (x :: l) :=
  fun p hp => N p (by rcases List.mem_cons.mp hp with rfl | hp; exact .head _; exact .tail _ (.tail _ hp))
section
variable {w : World} {mean : ExcName → Option Value} {mg mb : Str → Option Value}
   {dp un : Nat} {gd : Option (List Code)} {cn : Str} {cs : Scope} {a : Addr} {ccd : Value} {cl : List (Str × Addr)} {outer : List Env} {A₀ : Around} {base h₀ : Heap} {L : Addr} {m : Str → Option Value} {news : List (Addr × Obj)} {s : Shared} {Q E : Value → Shared → Prop}
set_option maxRecDepth 100000
set_option maxHeartbeats 8000000
local macro_rules | `(tactic| walk_at "call builtin:list.pop") => `(tactic| (refine Stop.go ?_))

theorem c_signs {z : Int} {t1 : Tok}
   
   (B : Below A₀ base outer h₀) (F : Fr h₀ L s.heap m) (X : (Mine.hd.heap_39 w.params).In h₀) (N : News h₀ L s.heap news) (T : Top Mine.hd.view_39 (looseW Mine.hd.view_39 []) mean mg mb h₀) (hk : cs.kind = .function)
   (hd : dp + 20 < recursionLimit) (hu : un + 100 < cLine)
   (hret : ∀ q h' tk' w0 w1 w2 u0 u1 u2, signs8[(z.fmod 8).toNat]? = some w0 → (signs8.eraseIdx (z.fmod 8).toNat)[((z.fdiv 8).fmod 7).toNat]? = some w1 → ((signs8.eraseIdx (z.fmod 8).toNat).eraseIdx ((z.fdiv 8).fmod 7).toNat)[((z.fdiv 56).fmod 6).toNat]? = some w2 →
     Fr h₀ L h' m → News h₀ L h' ((q, listOf #[.str w0 u0, .str w1 u1, .str w2 u2] 0) :: news) → (∀ p ∈ news, p.1 < q) → Q (.ref q) { s with heap := h', toks := tk' }) :
   wpAny (model PySem.Challenge.rw_rw0038_01.row.toRowW.1 w) (ktrTop dp un gd cn cs L a ccd cl outer) (call (.ref 61) [.int z t1]) Q E s := by
  have hfill : PySem.Challenge.rw_rw0038_01 = PySem.Challenge.rw_rw0038_01 ∧ Mine.hd.heap_39 = Mine.hd.heap_39 := ⟨rfl, rfl⟩
  revert hfill
  k_fill
  intro _
  have hmark : KstMark := kstMark
  
  refine wpAny_call ?_
  (k_dflt cell_enter)
  rename Fr _ _ _ _ => FE
  obtain ⟨mE, FE2⟩ := ent_ini (ps := [(Str.ofString "w", .int z t1)]) FE (by kst_all)
  clear FE
  generalize hkE : s.toks + List.length _ = kE
  clear hkE
  have z0 : 0 ≤ z.fmod 8 ∧ z.fmod 8 < 8 := ⟨fmod_lo _ (by decide), fmod_hi _ (by decide)⟩
  have z1 : 0 ≤ (z.fdiv 8).fmod 7 ∧ (z.fdiv 8).fmod 7 < 7 := ⟨fmod_lo _ (by decide), fmod_hi _ (by decide)⟩
  have z2 : 0 ≤ (z.fdiv 56).fmod 6 ∧ (z.fdiv 56).fmod 6 < 6 := ⟨fmod_lo _ (by decide), fmod_hi _ (by decide)⟩
  (k_steps; repeat' ((with_reducible show Stop _); refine Stop.on ?_; (first | with_reducible ((with_reducible show wpAny _ _ (call (PySem.Value.builtin "list.pop") _) _ _ _); (k_here; (rename Fr _ _ _ _ => F'); (rename News _ _ _ _ => N'); k_dflt (first | (refine' pop_tx (xs := signs8) F' N' ?zqT 8 ?zqlen ?zqk8 ?zqh0 ?zqh1 ?zqU ?_; (case zqU => k_upd); (case zqT => unfold signs8; repeat constructor); (case zqlen => rfl); (case zqk8 => decide); (case zqh0 => lia); (case zqh1 => lia)) | (refine' pop_tx F' N' ?zqT 7 ?zqlen ?zqk8 ?zqh0 ?zqh1 ?zqU ?_; (case zqU => k_upd); (case zqT => assumption); (case zqlen => assumption); (case zqk8 => decide); (case zqh0 => lia); (case zqh1 => lia)) | (refine' pop_tx F' N' ?zqT 6 ?zqlen ?zqk8 ?zqh0 ?zqh1 ?zqU ?_; (case zqU => k_upd); (case zqT => assumption); (case zqlen => assumption); (case zqk8 => decide); (case zqh0 => lia); (case zqh1 => lia))); clear F' N'; intro h' t' y' ey' hT' hl' F' N')) | ((with_reducible show wpAny _ _ (call (PySem.Value.builtin "list.pop") _) _ _ _); (k_here; (rename Fr _ _ _ _ => F'); (rename News _ _ _ _ => N'); k_dflt (first | (refine' pop_tx (xs := signs8) F' N' ?zqT 8 ?zqlen ?zqk8 ?zqh0 ?zqh1 ?zqU ?_; (case zqU => k_upd); (case zqT => unfold signs8; repeat constructor); (case zqlen => rfl); (case zqk8 => decide); (case zqh0 => lia); (case zqh1 => lia)) | (refine' pop_tx F' N' ?zqT 7 ?zqlen ?zqk8 ?zqh0 ?zqh1 ?zqU ?_; (case zqU => k_upd); (case zqT => assumption); (case zqlen => assumption); (case zqk8 => decide); (case zqh0 => lia); (case zqh1 => lia)) | (refine' pop_tx F' N' ?zqT 6 ?zqlen ?zqk8 ?zqh0 ?zqh1 ?zqU ?_; (case zqU => k_upd); (case zqT => assumption); (case zqlen => assumption); (case zqk8 => decide); (case zqh0 => lia); (case zqh1 => lia))); clear F' N'; intro h' t' y' ey' hT' hl' F' N'))); k_steps))
  first
    | exact hret _ _ _ _ _ _ _ _ _ (by assumption) (by assumption) (by assumption) (by k_asm) (newsJ (by assumption)) (bnd1 (by assumption))

end
end Mine
end

section
theorem Mine.fresh_E1 : True := by
  w_top off
  exact trivial
open PySem PySem.W PySem.Calls PyProof.Rows
namespace Mine

open PySem.StrLaws PySem.Builtin PySem.Builtin.Str in
theorem replace_none {x y z : PySem.Str} (h : (occurrences x y 0 x.length 1).isEmpty = true) : Txt.replace x y z = x := by
  have e : (occurrences x y 0 x.length (x.length + 1)).isEmpty = true := by
    rcases occ_head x y 1 (Nat.le_refl _) with ⟨h0, hn⟩ | ⟨i, r, h0, _⟩
    · rcases occ_head x y (x.length + 1) (by lia) with ⟨h1, _⟩ | ⟨j, r', h1, hj, _⟩
      · rw [h1]; rfl
      · exact absurd hj (hn j)
    · rw [h0] at h; cases h
  unfold Txt.replace
  rw [e]; rfl
noncomputable def escOf : List Stmt → PySem.Str → PySem.Str
  | [.Assign _ (.Call _ [.Constant (.str c) _ _, .Constant (.str r) _ _] _ _) _], x => Txt.replace x c r
  | _, x => x
noncomputable def txtM (m0 : Str → Option Value) (x : PySem.Str) (t : Tok) : Str → Option Value := fun y => if y = Str.ofString "text" then some (.str x t) else m0 y
theorem txt_ini {h₀ h : Heap} {L : Addr} {m : Str → Option Value} {x : PySem.Str} {t : Tok} (F : Fr h₀ L h m) (hx : m (Str.ofString "text") = some (.str x t)) : ∃ m0, Fr h₀ L h (txtM m0 x t) := by
  refine ⟨m, ?_⟩
  have e : txtM m x t = m := by
    funext y
    unfold txtM
    by_cases h : y = Str.ofString "text"
    · rw [if_pos h, h, hx]
    · rw [if_neg h]
  rw [e]; exact F
theorem txt_put {h₀ h : Heap} {L : Addr} {m0 : Str → Option Value} {x X : PySem.Str} {t t' : Tok} (F : Fr h₀ L h (fun y => if y = Str.ofString "text" then some (.str X t') else txtM m0 x t y)) : Fr h₀ L h (txtM m0 X t') := by
  have e : (fun y => if y = Str.ofString "text" then some (Value.str X t') else txtM m0 x t y) = txtM m0 X t' := by
    funext y
    unfold txtM
    by_cases h : y = Str.ofString "text"
    · rw [if_pos h, if_pos h]
    · rw [if_neg h, if_neg h, if_neg h]
  rw [← e]; exact F
noncomputable def JoinQ (h₀ : Heap) (L : Addr) (m0 : Str → Option Value) (news : List (Addr × Obj)) (X : PySem.Str) (s : Shared) (s' : Shared) : Prop :=
  ∃ h' tk' t', 1 ≤ tk' ∧ s' = { s with heap := h', toks := tk' } ∧ Fr h₀ L h' (txtM m0 X t') ∧ News h₀ L h' news
noncomputable def JnQ (Q : Flow → Shared → Prop) : Flow → Shared → Prop := Q
section
variable {M : Model} {A : Around} {E : Value → Shared → Prop} {s : Shared} {h₀ : Heap} {L : Addr} {m0 : Str → Option Value} {news : List (Addr × Obj)} {env : Env} {test : Expr} {body : List Stmt} {pos : Pos} {Q : Flow → Shared → Prop} {x : PySem.Str} {t : Tok}
theorem isJnQ {c : Sem Flow} (h : wpAny M A c (JnQ Q) E s) : wpAny M A c (JnQ Q) E s := h
theorem join_text (_ : Fr h₀ L s.heap (txtM m0 x t)) (_ : News h₀ L s.heap news)
    (go : ∀ Q' : Flow → Shared → Prop, (∀ s', JoinQ h₀ L m0 news (escOf body x) s s' → Q' .next s') → wpAny M A (exec (.If test body [] pos) env) (JnQ Q') E s)
    (k : ∀ h' tk' t', 1 ≤ tk' → Fr h₀ L h' (txtM m0 (escOf body x) t') → News h₀ L h' news → Q .next { s with heap := h', toks := tk' }) :
    wpAny M A (exec (.If test body [] pos) env) Q E s :=
  wpAny_mono (go (fun f s' => f = .next ∧ JoinQ h₀ L m0 news (escOf body x) s s') fun _ h => ⟨rfl, h⟩) (fun f s' h => by obtain ⟨rfl, h', tk', t', htk, rfl, F', N'⟩ := h; exact k h' tk' t' htk F' N') fun _ _ e => e
theorem joinQ_taken {X : PySem.Str} {h' : Heap} {tk' : Nat} {t' : Tok} (hk : 1 ≤ tk') (F : Fr h₀ L h' (fun y => if y = Str.ofString "text" then some (.str X t') else txtM m0 x t y)) (N : News h₀ L h' news) :
    JoinQ h₀ L m0 news X s { s with heap := h', toks := tk' } := ⟨h', tk', t', hk, rfl, txt_put F, N⟩
theorem joinQ_not {X : PySem.Str} {h' : Heap} {tk' : Nat} (hX : X = x) (hk : 1 ≤ tk') (F : Fr h₀ L h' (txtM m0 x t)) (N : News h₀ L h' news) :
    JoinQ h₀ L m0 news X s { s with heap := h', toks := tk' } := ⟨h', tk', t, hk, rfl, hX ▸ F, N⟩
end
section
variable {prog : Program} {w : World} {A : Around} {E : Value → Shared → Prop} {s : Shared} {x y z : PySem.Str} {t u v : Tok} {Q : Value → Shared → Prop}
theorem replaceT (hu : u ≠ 0) (hv : v ≠ 0) (huv : u ≠ v) (hyz : (y == z) = false) (hs : 1 ≤ s.toks) (hb : x.length ≤ 1000) (hz : z.length ≤ 10)
    (hq : ∀ t' k, 1 ≤ k → Q (.str (Txt.replace x y z) t') { s with toks := k }) : wpAny (model prog w) A (call (.builtin "str.replace") [.str x t, .str y u, .str z v]) Q E s :=
  wpAny_with_toks hs (SC.replaceW hu hv huv hyz (by lia) (by lia) fun t' k hk => hq t' k hk)
end
noncomputable def esc1 (x : PySem.Str) : PySem.Str := Txt.replace x (Str.ofString "&") (Str.ofString "&amp;")
noncomputable def esc2 (x : PySem.Str) : PySem.Str := Txt.replace (esc1 x) (Str.ofString "<") (Str.ofString "&lt;")
noncomputable def esc3 (x : PySem.Str) : PySem.Str := Txt.replace (esc2 x) (Str.ofString ">") (Str.ofString "&gt;")
noncomputable def esc4 (x : PySem.Str) : PySem.Str := Txt.replace (esc3 x) (Str.ofString "\"") (Str.ofString "&quot;")
noncomputable def esc5 (x : PySem.Str) : PySem.Str := Txt.replace (esc4 x) (Str.ofString "\r") (Str.ofString "&#13;")
noncomputable def esc6 (x : PySem.Str) : PySem.Str := Txt.replace (esc5 x) (Str.ofString "\n") (Str.ofString "&#10;")
noncomputable def esc7 (x : PySem.Str) : PySem.Str := Txt.replace (esc6 x) (Str.ofString "\t") (Str.ofString "&#09;")
section
variable {w : World} {mean : ExcName → Option Value} {mg mb : Str → Option Value}
   {dp un : Nat} {gd : Option (List Code)} {cn : Str} {cs : Scope} {a : Addr} {ccd : Value} {cl : List (Str × Addr)} {outer : List Env} {A₀ : Around} {base h₀ : Heap} {L : Addr} {m : Str → Option Value} {news : List (Addr × Obj)} {s : Shared} {Q E : Value → Shared → Prop}
set_option maxRecDepth 100000
set_option maxHeartbeats 8000000
local macro_rules | `(tactic| walk_at "exec If") => `(tactic| ((fail_if_success with_reducible refine isJnQ ?_); refine Stop.go ?_))
local macro_rules | `(tactic| walk_at "call builtin:str.replace") => `(tactic| (refine Stop.go ?_))

theorem c_esc {x : PySem.Str} {t1 : Tok}
   (ht : 1 ≤ s.toks) (l0 : x.length ≤ 1000) (l1 : (esc1 x).length ≤ 1000) (l2 : (esc2 x).length ≤ 1000) (l3 : (esc3 x).length ≤ 1000) (l4 : (esc4 x).length ≤ 1000) (l5 : (esc5 x).length ≤ 1000) (l6 : (esc6 x).length ≤ 1000)
   (B : Below A₀ base outer h₀) (F : Fr h₀ L s.heap m) (X : (Mine.hd.heap_39 w.params).In h₀) (N : News h₀ L s.heap news) (T : Top Mine.hd.view_39 (looseW Mine.hd.view_39 []) mean mg mb h₀) (hk : cs.kind = .function)
   (hd : dp + 20 < recursionLimit) (hu : un + 100 < cLine)
   (hret : ∀ t h' tk', 1 ≤ tk' → Fr h₀ L h' m → News h₀ L h' news → Q (.str (esc7 x) t) { s with heap := h', toks := tk' }) :
   wpAny (model PySem.Challenge.rw_rw0038_01.row.toRowW.1 w) (ktrTop dp un gd cn cs L a ccd cl outer) (call (.ref 49) [.str x t1]) Q E s := by
  have hfill : PySem.Challenge.rw_rw0038_01 = PySem.Challenge.rw_rw0038_01 ∧ Mine.hd.heap_39 = Mine.hd.heap_39 := ⟨rfl, rfl⟩
  revert hfill
  k_fill
  intro _
  have hmark : KstMark := kstMark
  
  refine wpAny_call ?_
  (k_dflt cell_enter)
  rename Fr _ _ _ _ => FE
  obtain ⟨m0, FE2⟩ := txt_ini FE (by with_unfolding_all rfl)
  clear FE
  generalize hkE : s.toks + List.length _ = kE
  have hkE1 : 1 ≤ kE := by rw [← hkE]; exact Nat.le_trans ht (Nat.le_add_right _ _)
  clear hkE
  simp only [esc1, esc2, esc3, esc4, esc5, esc6, esc7] at l1 l2 l3 l4 l5 l6 hret
  k_steps
  repeat'
    ((with_reducible show Stop _); refine Stop.on ?_; (rename Fr _ _ _ _ => F'); (rename News _ _ _ _ => N'); refine join_text F' N' ?_ ?_;
     focus
       intro Q' hn
       dsimp only [escOf] at hn
       k_steps
       all_goals (try ((with_reducible show Stop _); refine Stop.on ?_; refine replaceT ?_ ?_ ?_ (by decide +kernel) ?_ (by first | assumption | (show PySem.Str.length _ ≤ 1000; assumption)) (by decide +kernel) ?_; (iterate 4 (focus ((try dsimp only); lia))); intro t' k' hk'; k_steps))
       all_goals first
         | exact hn _ (joinQ_taken (by lia) (by k_asm) (by k_asm))
         | exact hn _ (joinQ_not (replace_none (by assumption)) (by lia) (by k_asm) (by k_asm))
     (try dsimp only [escOf])
     clear F'
     intro h' tk' t' hk' F' N'
     k_steps)
  exact hret _ _ _ (by lia) (by k_asm) (by k_asm)

end
end Mine
end

section
theorem Mine.fresh_D3z : True := by
  w_top off
  exact trivial
open PySem PySem.W PySem.Calls PyProof.Rows
namespace Mine
section
variable {w : World} {mean : ExcName → Option Value} {mg mb : Str → Option Value}
   {dp un : Nat} {gd : Option (List Code)} {cn : Str} {cs : Scope} {a : Addr} {ccd : Value} {cl : List (Str × Addr)} {outer : List Env} {A₀ : Around} {base h₀ : Heap} {L : Addr} {m : Str → Option Value} {news : List (Addr × Obj)} {s : Shared} {Q E : Value → Shared → Prop}
set_option maxRecDepth 100000
set_option maxHeartbeats 8000000

theorem c_match0 {x y : PySem.Str} {t1 t2 : Tok}
   (hin : (Builtin.Str.occurrences x (Str.ofString "...") 0 x.length 1).isEmpty = true)
   (B : Below A₀ base outer h₀) (F : Fr h₀ L s.heap m) (X : (Mine.hd.heap_39 w.params).In h₀) (N : News h₀ L s.heap news) (T : Top Mine.hd.view_39 (looseW Mine.hd.view_39 []) mean mg mb h₀) (hk : cs.kind = .function)
   (hd : dp + 20 < recursionLimit) (hu : un + 100 < cLine)
   (hret : ∀ h' tk', Fr h₀ L h' m → News h₀ L h' news → Q (.bool (x == y)) { s with heap := h', toks := tk' }) :
   wpAny (model PySem.Challenge.rw_rw0038_01.row.toRowW.1 w) (ktrTop dp un gd cn cs L a ccd cl outer) (call (.ref 21) [.str x t1, .str y t2]) Q E s := by
  have hfill : PySem.Challenge.rw_rw0038_01 = PySem.Challenge.rw_rw0038_01 ∧ Mine.hd.heap_39 = Mine.hd.heap_39 := ⟨rfl, rfl⟩
  revert hfill
  k_fill
  intro _
  have hmark : KstMark := kstMark
  
  refine wpAny_call ?_
  (k_dflt cell_enter)
  rename Fr _ _ _ _ => FE
  obtain ⟨mE, FE2⟩ := ent_ini (ps := [(Str.ofString "want", .str x t1), (Str.ofString "got", .str y t2)]) FE (by kst_all)
  clear FE
  generalize hkE : s.toks + List.length _ = kE
  clear hkE
  k_steps
  exact hret _ _ (by k_asm) (by k_asm)

end
end Mine
end

section
open PySem PySem.W PySem.Calls PyProof.Rows
namespace Mine
noncomputable def lightL (m s v : Int) : UInt64 × UInt64 × UInt64 := (partL m s v 0, partL m s v 16, partL m s v 32)
noncomputable def seenL (m s v : Int) : UInt64 × UInt64 × UInt64 := (Float64.div (Float64.ofInt m) 4625196817309499392, Float64.div (Float64.ofInt s) 4616189618054758400, Float64.div (Float64.ofInt v) 4616189618054758400)

noncomputable def chkA (m s v : Nat) : Bool := !(decide (s = 0 → m = 0)) || !(decide (1 ≤ v)) || decide (rgbL (partL (m : Nat) (s : Nat) (v : Nat) 0) (partL (m : Nat) (s : Nat) (v : Nat) 16) (partL (m : Nat) (s : Nat) (v : Nat) 32) = some (seenL (m : Nat) (s : Nat) (v : Nat)))
theorem p1a' : ∀ m, m < 16 → ∀ s, s < 5 → ∀ v, v < 5 → chkA m s v = true := by decide +kernel
theorem p1a (m) (hm : m < 16) (s) (hs : s < 5) (v) (hv : v < 5) (h : s = 0 → m = 0) (h1 : 1 ≤ v) :
    rgbL (partL (m : Nat) (s : Nat) (v : Nat) 0) (partL (m : Nat) (s : Nat) (v : Nat) 16) (partL (m : Nat) (s : Nat) (v : Nat) 32) = some (seenL (m : Nat) (s : Nat) (v : Nat)) := by
  have := p1a' m hm s hs v hv
  unfold chkA at this
  rw [decide_eq_true h, decide_eq_true h1] at this
  simpa using this
noncomputable def chkB (n s v : Nat) : Bool := !(decide (1 ≤ v)) || decide (hsvL (Float64.div (Float64.ofInt (n : Nat)) 4625196817309499392) (Float64.div (Float64.ofInt (s : Nat)) 4616189618054758400) (Float64.div (Float64.ofInt (v : Nat)) 4616189618054758400) = some (lightL (if s = 0 then 0 else ((n % 16 : Nat) : Int)) (s : Nat) (v : Nat)))
theorem p1b' : ∀ n, n < 47 → ∀ s, s < 5 → ∀ v, v < 5 → chkB n s v = true := by decide +kernel
theorem p1b (n) (hn : n < 47) (s) (hs : s < 5) (v) (hv : v < 5) (h1 : 1 ≤ v) :
    hsvL (Float64.div (Float64.ofInt (n : Nat)) 4625196817309499392) (Float64.div (Float64.ofInt (s : Nat)) 4616189618054758400) (Float64.div (Float64.ofInt (v : Nat)) 4616189618054758400) = some (lightL (if s = 0 then 0 else ((n % 16 : Nat) : Int)) (s : Nat) (v : Nat)) := by
  have := p1b' n hn s hs v hv
  unfold chkB at this
  rw [decide_eq_true h1] at this
  simpa using this
theorem p1c : ∀ m, m < 16 → ∀ c, c < 32 → Float64.add (Float64.div (Float64.ofInt (m : Nat)) 4625196817309499392) (Float64.div (Float64.ofInt (c : Nat)) 4625196817309499392) = Float64.div (Float64.ofInt ((m + c : Nat) : Int)) 4625196817309499392 := by decide +kernel
theorem p1d : ∀ m, m < 16 → Flt.toInt Float64.truncOf (Float64.mul (Float64.div (Float64.ofInt (m : Nat)) 4625196817309499392) 4625196817309499392) = (m : Int) ∧ Float64.isFinite (Float64.mul (Float64.div (Float64.ofInt (m : Nat)) 4625196817309499392) 4625196817309499392) = true := by decide +kernel

noncomputable def PaintOk (m s v : Int) : Prop := 0 ≤ m ∧ m < 16 ∧ 0 ≤ s ∧ s < 5 ∧ 1 ≤ v ∧ v < 5 ∧ (s = 0 → m = 0)

theorem rgb_light {m s v : Int} (h : PaintOk m s v) : rgbL (partL m s v 0) (partL m s v 16) (partL m s v 32) = some (seenL m s v) := by
  obtain ⟨a, b, c, d, e, f, g⟩ := h
  have := p1a m.toNat (by lia) s.toNat (by lia) v.toNat (by lia) (by lia) (by lia)
  rw [Int.toNat_of_nonneg a, Int.toNat_of_nonneg c, Int.toNat_of_nonneg (by lia : 0 ≤ v)] at this
  exact this

theorem chg_light {m s v c0 c1 c2 : Int} (h : PaintOk m s v) (h0 : 0 ≤ c0 ∧ c0 < 32) (h1 : 0 ≤ c1 ∧ c1 < 6) (h2 : 0 ≤ c2 ∧ c2 < 5) :
    chgL (partL m s v 0) (partL m s v 16) (partL m s v 32) c0 c1 c2 = some (lightL (turnL m s v c0 c1 c2).1 (turnL m s v c0 c1 c2).2.1 (turnL m s v c0 c1 c2).2.2)
    ∧ PaintOk (turnL m s v c0 c1 c2).1 (turnL m s v c0 c1 c2).2.1 (turnL m s v c0 c1 c2).2.2 := by
  have hl := rgb_light h
  obtain ⟨a, b, c, d, e, f, g⟩ := h
  have hadd := p1c m.toNat (by lia) c0.toNat (by lia)
  have em : ((m.toNat : Nat) : Int) = m := Int.toNat_of_nonneg a
  have ec : ((c0.toNat : Nat) : Int) = c0 := Int.toNat_of_nonneg h0.1
  have emc : ((m.toNat + c0.toNat : Nat) : Int) = m + c0 := by lia
  rw [em, ec, emc] at hadd
  have hmod : ((m + c0).fmod 16) = ((m.toNat + c0.toNat) % 16 : Nat) := by
    rw [Int.fmod_eq_emod_of_nonneg _ (by decide)]; lia
  have hmb : 0 ≤ (m + c0).fmod 16 ∧ (m + c0).fmod 16 < 16 := ⟨fmod_lo _ (by decide), fmod_hi _ (by decide)⟩
  unfold chgL
  rw [hl]
  unfold turnL
  dsimp only [seenL]
  rw [hadd]
  have key : ∀ S V : Int, 0 ≤ S → S < 5 → 1 ≤ V → V < 5 →
      hsvL (Float64.div (Float64.ofInt (m + c0)) 4625196817309499392) (Float64.div (Float64.ofInt S) 4616189618054758400) (Float64.div (Float64.ofInt V) 4616189618054758400) = some (lightL (if S = 0 then 0 else (m + c0).fmod 16) S V) := by
    intro S V s0 s1 v0 v1
    have := p1b (m.toNat + c0.toNat) (by lia) S.toNat (by lia) V.toNat (by lia) (by lia)
    rw [emc, Int.toNat_of_nonneg s0, Int.toNat_of_nonneg (by lia : 0 ≤ V), ← hmod] at this
    rw [this]
    by_cases z : S = 0
    · rw [if_pos z, if_pos (by lia)]
    · rw [if_neg z, if_neg (by lia)]
  have hS : 0 ≤ (if c1 < 5 then c1 else s) ∧ (if c1 < 5 then c1 else s) < 5 := by
    by_cases hA : c1 < 5
    · rw [if_pos hA]; exact ⟨h1.1, hA⟩
    · rw [if_neg hA]; exact ⟨c, d⟩
  have hV : 1 ≤ (if 0 < c2 then c2 else v) ∧ (if 0 < c2 then c2 else v) < 5 := by
    by_cases hB : 0 < c2
    · rw [if_pos hB]; exact ⟨hB, h2.2⟩
    · rw [if_neg hB]; exact ⟨e, f⟩
  have es : (if c1 < 5 then Float64.div (Float64.ofInt c1) 4616189618054758400 else Float64.div (Float64.ofInt s) 4616189618054758400) = Float64.div (Float64.ofInt (if c1 < 5 then c1 else s)) 4616189618054758400 := by split <;> rfl
  have ev : (if 0 < c2 then Float64.div (Float64.ofInt c2) 4616189618054758400 else Float64.div (Float64.ofInt v) 4616189618054758400) = Float64.div (Float64.ofInt (if 0 < c2 then c2 else v)) 4616189618054758400 := by split <;> rfl
  rw [es, ev]
  simp only [gt_iff_lt]
  generalize (if c1 < 5 then c1 else s) = S at hS ⊢
  generalize (if 0 < c2 then c2 else v) = V at hV ⊢
  refine ⟨key S V hS.1 hS.2 hV.1 hV.2, ?_⟩
  unfold PaintOk
  by_cases z : S = 0
  · rw [if_pos z]; exact ⟨Int.le_refl _, by decide, hS.1, hS.2, hV.1, hV.2, fun _ => rfl⟩
  · rw [if_neg z]; exact ⟨hmb.1, hmb.2, hS.1, hS.2, hV.1, hV.2, fun y => absurd y z⟩
end Mine
end

section
open PySem PySem.W PySem.Calls PyProof.Rows
open PySem.StrLaws PySem.Builtin PySem.Builtin.Str
namespace Mine

theorem flat_free (c : Nat) (z : List Nat) : ∀ l : List Nat, c ∉ l → l.flatMap (fun d => if d = c then z else [d]) = l
  | [], _ => rfl
  | k :: r, h => by
    have h1 : ¬ k = c := fun e => h (e ▸ List.mem_cons_self ..)
    rw [List.flatMap_cons, if_neg h1, flat_free c z r fun m => h (List.mem_cons_of_mem _ m)]
    rfl
theorem flat_join (c : Nat) (z : PySem.Str) : ∀ parts : List PySem.Str, (∀ p ∈ parts, c ∉ p.cps.toList) → (PySem.Str.join ⟨#[c]⟩ parts).cps.toList.flatMap (fun d => if d = c then z.cps.toList else [d]) = (PySem.Str.join z parts).cps.toList
  | [], _ => rfl
  | [p], h => flat_free c _ _ (h p (List.mem_singleton.mpr rfl))
  | p :: q :: r, h => by
    have ih := flat_join c z (q :: r) fun a ha => h a (List.mem_cons_of_mem _ ha)
    show (p ++ ⟨#[c]⟩ ++ PySem.Str.join ⟨#[c]⟩ (q :: r)).cps.toList.flatMap _ = (p ++ z ++ PySem.Str.join z (q :: r)).cps.toList
    simp only [PySem.Str.cps_append, Array.toList_append, List.flatMap_append]
    rw [ih, flat_free c _ _ (h p (List.mem_cons_self ..))]
    simp
theorem replace_flat (x z : PySem.Str) (c : Nat) : (Txt.replace x ⟨#[c]⟩ z).cps.toList = x.cps.toList.flatMap (fun d => if d = c then z.cps.toList else [d]) := by
  rw [StrLaws.replace_one, ← flat_join c z _ (StrLaws.split_free x c), StrLaws.join_split]

noncomputable def code (c : Nat) : List Nat :=
  if c = 38 then [38, 97, 109, 112, 59] else if c = 60 then [38, 108, 116, 59] else if c = 62 then [38, 103, 116, 59] else if c = 34 then [38, 113, 117, 111, 116, 59]
  else if c = 13 then [38, 35, 49, 51, 59] else if c = 10 then [38, 35, 49, 48, 59] else if c = 9 then [38, 35, 48, 57, 59] else [c]
noncomputable def cstep (c : Nat) (z : List Nat) (d : Nat) : List Nat := if d = c then z else [d]
theorem amp1 : (Str.ofString "&" : PySem.Str) = ⟨#[38]⟩ := by decide +kernel
theorem amp2 : (Str.ofString "<" : PySem.Str) = ⟨#[60]⟩ := by decide +kernel
theorem amp3 : (Str.ofString ">" : PySem.Str) = ⟨#[62]⟩ := by decide +kernel
theorem amp4 : (Str.ofString "\"" : PySem.Str) = ⟨#[34]⟩ := by decide +kernel
theorem amp5 : (Str.ofString "\r" : PySem.Str) = ⟨#[13]⟩ := by decide +kernel
theorem amp6 : (Str.ofString "\n" : PySem.Str) = ⟨#[10]⟩ := by decide +kernel
theorem amp7 : (Str.ofString "\t" : PySem.Str) = ⟨#[9]⟩ := by decide +kernel
theorem amq1 : (Str.ofString "&amp;" : PySem.Str).cps.toList = [38, 97, 109, 112, 59] := by decide +kernel
theorem amq2 : (Str.ofString "&lt;" : PySem.Str).cps.toList = [38, 108, 116, 59] := by decide +kernel
theorem amq3 : (Str.ofString "&gt;" : PySem.Str).cps.toList = [38, 103, 116, 59] := by decide +kernel
theorem amq4 : (Str.ofString "&quot;" : PySem.Str).cps.toList = [38, 113, 117, 111, 116, 59] := by decide +kernel
theorem amq5 : (Str.ofString "&#13;" : PySem.Str).cps.toList = [38, 35, 49, 51, 59] := by decide +kernel
theorem amq6 : (Str.ofString "&#10;" : PySem.Str).cps.toList = [38, 35, 49, 48, 59] := by decide +kernel
theorem amq7 : (Str.ofString "&#09;" : PySem.Str).cps.toList = [38, 35, 48, 57, 59] := by decide +kernel
noncomputable def sgn7 : List Nat := [38, 60, 62, 34, 13, 10, 9]
noncomputable def codeK (k c : Nat) : List Nat := if c ∈ sgn7.take k then code c else [c]
theorem flat_step {l : List Nat} {f g : Nat → List Nat} {c : Nat} {z : List Nat} (h : ∀ d, (f d).flatMap (fun d => if d = c then z else [d]) = g d) :
    (l.flatMap f).flatMap (fun d => if d = c then z else [d]) = l.flatMap g := by
  rw [List.flatMap_assoc]
  congr 1
  funext d
  exact h d
theorem esc1_flat (x : PySem.Str) : (esc1 x).cps.toList = x.cps.toList.flatMap (codeK 1) := by
  unfold esc1
  rw [amp1, replace_flat, amq1]
  congr 1
  funext d
  by_cases h : d = 38
  · subst h; rfl
  · have : d ∉ sgn7.take 1 := fun e => h (List.mem_singleton.mp e)
    rw [if_neg h, codeK, if_neg this]
theorem esc_step {k c : Nat} {l z : List Nat} (hk : sgn7.take (k + 1) = sgn7.take k ++ [c]) (hn : c ∉ sgn7.take k) (hf : ∀ d ∈ sgn7.take k, c ∉ code d) (hz : z = code c) :
    (l.flatMap (codeK k)).flatMap (fun d => if d = c then z else [d]) = l.flatMap (codeK (k + 1)) := by
  subst hz
  refine flat_step fun d => ?_
  have hm : d ∈ sgn7.take (k + 1) ↔ d ∈ sgn7.take k ∨ d = c := by rw [hk, List.mem_append, List.mem_singleton]
  unfold codeK
  by_cases q : d ∈ sgn7.take k
  · rw [if_pos q, if_pos (hm.mpr (.inl q)), flat_free c _ _ (hf d q)]
  · rw [if_neg q]
    by_cases h : d = c
    · subst h
      rw [if_pos (hm.mpr (.inr rfl))]
      simp
    · rw [if_neg fun e => (hm.mp e).elim q h]
      simp [h]
theorem esc2_flat (x : PySem.Str) : (esc2 x).cps.toList = x.cps.toList.flatMap (codeK 2) := by
  unfold esc2; rw [amp2, replace_flat, amq2, esc1_flat, esc_step (by decide) (by decide) (by decide) (by rfl)]
theorem esc3_flat (x : PySem.Str) : (esc3 x).cps.toList = x.cps.toList.flatMap (codeK 3) := by
  unfold esc3; rw [amp3, replace_flat, amq3, esc2_flat, esc_step (by decide) (by decide) (by decide) (by rfl)]
theorem esc4_flat (x : PySem.Str) : (esc4 x).cps.toList = x.cps.toList.flatMap (codeK 4) := by
  unfold esc4; rw [amp4, replace_flat, amq4, esc3_flat, esc_step (by decide) (by decide) (by decide) (by rfl)]
theorem esc5_flat (x : PySem.Str) : (esc5 x).cps.toList = x.cps.toList.flatMap (codeK 5) := by
  unfold esc5; rw [amp5, replace_flat, amq5, esc4_flat, esc_step (by decide) (by decide) (by decide) (by rfl)]
theorem esc6_flat (x : PySem.Str) : (esc6 x).cps.toList = x.cps.toList.flatMap (codeK 6) := by
  unfold esc6; rw [amp6, replace_flat, amq6, esc5_flat, esc_step (by decide) (by decide) (by decide) (by rfl)]
theorem esc7_flat (x : PySem.Str) : (esc7 x).cps.toList = x.cps.toList.flatMap code := by
  unfold esc7; rw [amp7, replace_flat, amq7, esc6_flat, esc_step (by decide) (by decide) (by decide) (by rfl)]
  congr 1
  funext d
  unfold codeK
  split
  · rfl
  · rename_i h
    have hm : ∀ e ∈ sgn7, ¬ d = e := fun e he q => h (q ▸ he)
    unfold code
    rw [if_neg (hm 38 (by decide)), if_neg (hm 60 (by decide)), if_neg (hm 62 (by decide)), if_neg (hm 34 (by decide)), if_neg (hm 13 (by decide)), if_neg (hm 10 (by decide)), if_neg (hm 9 (by decide))]
theorem code_len (d : Nat) : 1 ≤ (code d).length ∧ (code d).length ≤ 6 := by
  unfold code
  repeat' split
  all_goals simp
theorem codeK_len (k d : Nat) : (codeK k d).length ≤ 6 := by
  unfold codeK
  split
  · exact (code_len d).2
  · simp
theorem flat_len {f : Nat → List Nat} (hf : ∀ d, (f d).length ≤ 6) (l : List Nat) : (l.flatMap f).length ≤ 6 * l.length := by
  induction l with
  | nil => simp
  | cons a r ih => rw [List.flatMap_cons, List.length_append, List.length_cons]; have := hf a; lia
theorem len_toList (x : PySem.Str) : x.length = x.cps.toList.length := rfl
theorem esc_lens {x : PySem.Str} (h : x.length ≤ 100) : (esc1 x).length ≤ 1000 ∧ (esc2 x).length ≤ 1000 ∧ (esc3 x).length ≤ 1000 ∧ (esc4 x).length ≤ 1000 ∧ (esc5 x).length ≤ 1000 ∧ (esc6 x).length ≤ 1000 ∧ (esc7 x).length ≤ 1000 := by
  rw [len_toList] at h
  simp only [len_toList, esc1_flat, esc2_flat, esc3_flat, esc4_flat, esc5_flat, esc6_flat, esc7_flat]
  have a := fun k => flat_len (codeK_len k) x.cps.toList
  have b := flat_len (fun d => (code_len d).2) x.cps.toList
  refine ⟨?_, ?_, ?_, ?_, ?_, ?_, ?_⟩
  · have := a 1; lia
  · have := a 2; lia
  · have := a 3; lia
  · have := a 4; lia
  · have := a 5; lia
  · have := a 6; lia
  · lia
end Mine
end

section
open PySem PySem.W PySem.Calls PyProof.Rows
open PySem.StrLaws PySem.Builtin PySem.Builtin.Str
namespace Mine

noncomputable def Sg (c : Nat) : Prop := c = 38 ∨ c = 60 ∨ c = 62 ∨ c = 34 ∨ c = 13 ∨ c = 10 ∨ c = 9 ∨ c = 98
noncomputable def EE (r : List Nat) : List Nat := r.flatMap code
theorem EE_nil : EE [] = [] := rfl
theorem EE_cons (c : Nat) (r : List Nat) : EE (c :: r) = code c ++ EE r := rfl
theorem EE_append (a b : List Nat) : EE (a ++ b) = EE a ++ EE b := by unfold EE; rw [List.flatMap_append]

theorem sg_list {a : Nat} (h : Sg a) : a ∈ [38, 60, 62, 34, 13, 10, 9, 98] := by
  rcases h with rfl | rfl | rfl | rfl | rfl | rfl | rfl | rfl <;> decide
theorem code_chk : ∀ a ∈ [38, 60, 62, 34, 13, 10, 9, 98], ∀ b ∈ [38, 60, 62, 34, 13, 10, 9, 98], (code a).take (min (code a).length (code b).length) = (code b).take (min (code a).length (code b).length) → a = b := by decide +kernel
theorem code_prefix {a b : Nat} {X Y : List Nat} (ha : Sg a) (hb : Sg b) (h : code a ++ X <+: code b ++ Y) : a = b ∧ X <+: Y := by
  obtain ⟨Z, hZ⟩ := h
  have e := congrArg (List.take (min (code a).length (code b).length)) hZ
  rw [List.append_assoc, List.take_append_of_le_length (Nat.min_le_left _ _), List.take_append_of_le_length (Nat.min_le_right _ _)] at e
  have hab := code_chk a (sg_list ha) b (sg_list hb) e
  subst hab
  exact ⟨rfl, (List.prefix_append_right_inj _).mp ⟨Z, hZ⟩⟩
theorem code_head {a : Nat} (ha : Sg a) : ∃ h t, code a = h :: t ∧ (h = 38 ∨ h = 98) := by
  rcases ha with rfl | rfl | rfl | rfl | rfl | rfl | rfl | rfl <;> exact ⟨_, _, rfl, by decide⟩
theorem inside_chk : ∀ c ∈ [38, 60, 62, 34, 13, 10, 9, 98], ∀ p ∈ [1, 2, 3, 4, 5], p < (code c).length → ((code c)[p]?.all fun h => h != 38 && h != 98) = true := by decide +kernel
theorem code_short : ∀ c ∈ [38, 60, 62, 34, 13, 10, 9, 98], (code c).length ≤ 6 := by decide +kernel
theorem code_inside {c p : Nat} (hc : Sg c) (h0 : 0 < p) (h1 : p < (code c).length) : ∃ h t, (code c).drop p = h :: t ∧ h ≠ 38 ∧ h ≠ 98 := by
  have h6 := code_short c (sg_list hc)
  have hp : p ∈ [1, 2, 3, 4, 5] := by
    simp only [List.mem_cons, List.not_mem_nil, or_false]; lia
  have hk := inside_chk c (sg_list hc) p hp h1
  rw [List.getElem?_eq_getElem h1] at hk
  refine ⟨(code c)[p], (code c).drop (p + 1), (List.drop_eq_getElem_cons h1), ?_⟩
  simpa using hk
theorem EE_prefix : ∀ {w r : List Nat}, (∀ c ∈ w, Sg c) → (∀ c ∈ r, Sg c) → (EE w <+: EE r ↔ w <+: r)
  | [], r, _, _ => by simp [EE_nil]
  | a :: w, [], ha, _ => by
    obtain ⟨h, t, e, _⟩ := code_head (ha a (.head _))
    rw [EE_cons, e]
    simp [EE_nil]
  | a :: w, b :: r, ha, hb => by
    rw [EE_cons, EE_cons, List.cons_prefix_cons]
    have ih := EE_prefix (w := w) (r := r) (fun c hc => ha c (.tail _ hc)) fun c hc => hb c (.tail _ hc)
    constructor
    · intro h
      obtain ⟨e, h'⟩ := code_prefix (ha a (.head _)) (hb b (.head _)) h
      exact ⟨e, ih.mp h'⟩
    · rintro ⟨rfl, h⟩
      exact (List.prefix_append_right_inj _).mpr (ih.mpr h)

noncomputable def posL (r : List Nat) (i : Nat) : Nat := (EE (r.take i)).length
theorem posL_zero (r : List Nat) : posL r 0 = 0 := rfl
theorem posL_all (r : List Nat) : posL r r.length = (EE r).length := by unfold posL; rw [List.take_length]
theorem posL_cons (c : Nat) (r : List Nat) (i : Nat) : posL (c :: r) (i + 1) = (code c).length + posL r i := by
  unfold posL; rw [List.take_succ_cons, EE_cons, List.length_append]
theorem posL_mono {r : List Nat} : ∀ {i j : Nat}, i ≤ j → posL r i ≤ posL r j := by
  induction r with
  | nil => intro i j _; simp [posL, EE_nil]
  | cons c r ih =>
    intro i j h
    cases i with
    | zero => rw [posL_zero]; exact Nat.zero_le _
    | succ i =>
      cases j with
      | zero => lia
      | succ j => rw [posL_cons, posL_cons]; have := ih (show i ≤ j by lia); lia
theorem posL_strict {r : List Nat} : ∀ {i j : Nat}, i < j → j ≤ r.length → posL r i < posL r j := by
  induction r with
  | nil => intro i j h h'; simp at h'; lia
  | cons c r ih =>
    intro i j h h'
    cases j with
    | zero => lia
    | succ j =>
      rw [posL_cons]
      have hc := (code_len c).1
      cases i with
      | zero => rw [posL_zero]; lia
      | succ i => rw [posL_cons]; have := ih (show i < j by lia) (by simpa using h'); lia
theorem posL_le_iff {r : List Nat} {i j : Nat} (hi : i ≤ r.length) : posL r i ≤ posL r j ↔ i ≤ j := by
  constructor
  · intro h
    rcases Nat.lt_or_ge j i with h' | h'
    · have := posL_strict h' hi; lia
    · exact h'
  · exact posL_mono
theorem EE_drop (r : List Nat) (i : Nat) : (EE r).drop (posL r i) = EE (r.drop i) := by
  have h := EE_append (r.take i) (r.drop i)
  rw [List.take_append_drop] at h
  rw [h]
  unfold posL
  rw [List.drop_left]
theorem posL_add {w r : List Nat} {i : Nat} (h : w <+: r.drop i) (hi : i ≤ r.length) : posL r (i + w.length) = posL r i + (EE w).length := by
  obtain ⟨t, ht⟩ := h
  have e : r.take (i + w.length) = r.take i ++ w := by
    have h2 := List.take_append_drop i r
    rw [← ht] at h2
    have hl : (r.take i).length = i := by rw [List.length_take]; lia
    rw [← h2, ← List.append_assoc]
    have : i + w.length = (List.take i r ++ w).length := by rw [List.length_append, hl]
    rw [this, List.take_left]
    rw [List.append_assoc, h2]
  unfold posL
  rw [e, EE_append, List.length_append]

theorem EE_occ : ∀ {w r : List Nat} {p : Nat}, w ≠ [] → (∀ c ∈ w, Sg c) → (∀ c ∈ r, Sg c) → EE w <+: (EE r).drop p → ∃ i, i ≤ r.length ∧ p = posL r i ∧ w <+: r.drop i
  | [], _, _, h, _, _, _ => absurd rfl h
  | a :: w, [], p, _, ha, _, h => by
    obtain ⟨x, t, e, _⟩ := code_head (ha a (.head _))
    rw [EE_cons, e] at h
    simp [EE_nil] at h
  | a :: w, c :: r, p, hw, ha, hr, h => by
    by_cases p0 : p = 0
    · subst p0
      exact ⟨0, Nat.zero_le _, rfl, (EE_prefix ha hr).mp h⟩
    by_cases p1 : p < (code c).length
    · exfalso
      obtain ⟨x, t, e, hx⟩ := code_head (ha a (.head _))
      obtain ⟨y, u, e', hy⟩ := code_inside (hr c (.head _)) (by lia) p1
      rw [EE_cons, EE_cons, List.drop_append_of_le_length (by lia), e, e'] at h
      rw [List.cons_append, List.cons_append, List.cons_prefix_cons] at h
      lia
    · have e : p = (code c).length + (p - (code c).length) := by lia
      rw [EE_cons c r, e, ← List.drop_drop, List.drop_left] at h
      obtain ⟨i, hi, hp, hw'⟩ := EE_occ hw ha (fun c hc => hr c (.tail _ hc)) h
      exact ⟨i + 1, by simpa using hi, by rw [posL_cons]; lia, by simpa using hw'⟩

theorem At_iff {y w : PySem.Str} {hi k : Nat} (hh : hi ≤ y.length) : At y w hi k ↔ k + w.length ≤ hi ∧ w.cps.toList <+: y.cps.toList.drop k := by
  unfold At
  constructor
  · rintro ⟨a, b⟩
    refine ⟨a, ?_⟩
    rw [subAt_eq, beq_iff_eq] at b
    rw [← b]
    exact List.take_prefix _ _
  · rintro ⟨a, b⟩
    refine ⟨a, ?_⟩
    rw [subAt_eq, beq_iff_eq]
    rw [List.prefix_iff_eq_take.mp b]
    congr 1
theorem At_nil {y w : PySem.Str} {hi k : Nat} (hw : w.cps.toList = []) : At y w hi k ↔ k ≤ hi := by
  have hl : w.length = 0 := by rw [len_toList, hw]; rfl
  unfold At
  rw [subAt_eq, hw, hl]
  simp

section
variable {y : PySem.Str} {r : List Nat}
theorem find_signs (hy : y.cps.toList = EE r) (hr : ∀ c ∈ r, Sg c) {w : PySem.Str} {u : List Nat} (hw : w.cps.toList = EE u) (hu : ∀ c ∈ u, Sg c) (hu0 : u ≠ []) {i j : Nat} (hi : i ≤ r.length) (hj : j ≤ r.length) :
    (find4 y w (posL r i : Nat) (posL r j : Nat) = -1 ∧ ∀ k, i ≤ k → k + u.length ≤ j → ¬ u <+: r.drop k) ∨
    ∃ k, find4 y w (posL r i : Nat) (posL r j : Nat) = (posL r k : Nat) ∧ i ≤ k ∧ k + u.length ≤ j ∧ u <+: r.drop k ∧ ∀ k', i ≤ k' → k' < k → ¬ u <+: r.drop k' := by
  have hyl : y.length = posL r r.length := by rw [len_toList, hy, posL_all]
  have hjl : posL r j ≤ y.length := by rw [hyl]; exact posL_mono hj
  have hwl : w.length = (EE u).length := by rw [len_toList, hw]
  have key : ∀ k, k ≤ r.length → u <+: r.drop k → (At y w (posL r j) (posL r k) ↔ k + u.length ≤ j) := by
    intro k hk hp
    have hkl : k + u.length ≤ r.length := by
      have := hp.length_le
      rw [List.length_drop] at this
      have : 0 < u.length := List.length_pos_iff.mpr hu0
      lia
    rw [At_iff hjl, hwl, ← posL_add hp hk, posL_le_iff hkl, hw, hy, EE_drop, EE_prefix hu (fun c hc => hr c (List.mem_of_mem_drop hc))]
    exact ⟨fun h => h.1, fun h => ⟨h, hp⟩⟩
  have back : ∀ q, At y w (posL r j) q → ∃ k, k ≤ r.length ∧ q = posL r k ∧ u <+: r.drop k := by
    intro q hq
    have := ((At_iff hjl).mp hq).2
    rw [hw, hy] at this
    exact EE_occ hu0 hu hr this
  rcases find4_spec y w (posL r i) (posL r j) hjl with ⟨h, hn⟩ | ⟨q, h, h1, h2, h3⟩
  · refine .inl ⟨h, fun k hik hkj hp => ?_⟩
    have hkr : k ≤ r.length := by lia
    exact hn _ (posL_mono hik) ((key k hkr hp).mpr hkj)
  · obtain ⟨k, hkr, rfl, hp⟩ := back q h2
    refine .inr ⟨k, h, (posL_le_iff hi).mp h1, (key k hkr hp).mp h2, hp, fun k' hik' hkk' hp' => ?_⟩
    have hkl := (key k hkr hp).mp h2
    exact h3 _ (posL_mono hik') (posL_strict hkk' hkr) ((key k' (by lia) hp').mpr (by lia))
theorem find_none {w : PySem.Str} (hw : w.cps.toList = []) {i j : Nat} (hj : j ≤ y.length) : find4 y w (i : Nat) (j : Nat) = if i ≤ j then (i : Int) else -1 := by
  rcases find4_spec y w i j hj with ⟨h, hn⟩ | ⟨q, h, h1, h2, h3⟩
  · have := hn i (Nat.le_refl _)
    rw [At_nil hw] at this
    rw [h, if_neg this]
  · rw [At_nil hw] at h2
    rw [h, if_pos (by lia)]
    rcases Nat.lt_or_ge i q with hlt | hge
    · have := h3 i (Nat.le_refl _) hlt
      rw [At_nil hw] at this
      lia
    · have : q = i := by lia
      rw [this]
end
end Mine
end

section
open PySem PySem.W PySem.Calls PyProof.Rows
open PySem.StrLaws PySem.Builtin PySem.Builtin.Str
namespace Mine

noncomputable def FitsAt (r : List Nat) (a b : Nat) (d : Int) (i j : Nat) : Prop :=
  i < j ∧ r[i]? = some a ∧ r[j]? = some b ∧ (d.fmod 2 = 1 ∨ i = 0) ∧ ((d.fdiv 2).fmod 2 = 1 ∨ j = i + 1) ∧ (d.fdiv 4 = 1 ∨ j + 1 = r.length)
theorem item_at {x : PySem.Str} {r : List Nat} {a i : Nat} (hx : x.cps.toList = r) (hi : i < r.length) : (Txt.item x (0 + (i : Int)) == ⟨#[a]⟩) = decide (r[i]? = some a) := by
  have hl : x.length = r.length := by rw [len_toList, hx]
  unfold Txt.item Txt.charAt
  rw [show (0 + (i : Int)) = (i : Int) by lia, seqIndex_nonneg (by lia) (by rw [hl]; lia)]
  have e : x.cps[(i : Int).toNat]? = some r[i] := by
    rw [← Array.getElem?_toList, hx]; simp
  rw [show (((some (i : Int).toNat).bind fun z => x.cps[z]?)) = x.cps[(i : Int).toNat]? from rfl, e, List.getElem?_eq_getElem hi]
  simp only [Option.getD_some, Option.some.injEq]
  by_cases h : r[i] = a
  · rw [h]; simp
  · rw [decide_eq_false h]
    rw [beq_eq_false_iff_ne]
    intro e
    apply h
    have := congrArg PySem.Str.cps e
    simpa using this
theorem fits_iff {x : PySem.Str} {r : List Nat} {a b : Nat} {d : Int} (hx : x.cps.toList = r) : fitsL x ⟨#[a]⟩ ⟨#[b]⟩ d = true ↔ ∃ i j, FitsAt r a b d i j := by
  have hl : x.length = r.length := by rw [len_toList, hx]
  unfold fitsL
  simp only [List.any_eq_true, List.mem_range]
  have key : ∀ k i, k + 1 < r.length → i ≤ k → (condL x ⟨#[a]⟩ ⟨#[b]⟩ d (0 + (i : Int)) (1 + (k : Int)) = true ↔ FitsAt r a b d i (k + 1)) := by
    intro k i hk hi
    have e1 := item_at (a := a) hx (show i < r.length by lia)
    have e2 := item_at (a := b) hx hk
    rw [show (0 + ((k + 1 : Nat) : Int)) = 1 + (k : Int) by lia] at e2
    unfold condL FitsAt
    rw [e1, e2]
    simp only [Bool.and_eq_true, Bool.or_eq_true, decide_eq_true_eq]
    constructor
    · rintro ⟨⟨⟨⟨h1, h2⟩, h3⟩, h4⟩, h5⟩
      refine ⟨by lia, h1, h2, h3.imp id (by lia), h4.imp id (by lia), h5.imp id (by lia)⟩
    · rintro ⟨_, h1, h2, h3, h4, h5⟩
      exact ⟨⟨⟨⟨h1, h2⟩, h3.imp id (by lia)⟩, h4.imp id (by lia)⟩, h5.imp id (by lia)⟩
  constructor
  · rintro ⟨k, hk, i, hi, h⟩
    exact ⟨i, k + 1, (key k i (by lia) (by lia)).mp h⟩
  · rintro ⟨i, j, h⟩
    have hj : j < r.length := (List.getElem?_eq_some_iff.mp h.2.2.1).1
    have hij := h.1
    obtain ⟨k, rfl⟩ : ∃ k, j = k + 1 := ⟨j - 1, by lia⟩
    exact ⟨k, by lia, i, by lia, (key k i hj (by lia)).mpr h⟩

theorem prefix_one {a : Nat} {r : List Nat} {k : Nat} : [a] <+: r.drop k ↔ r[k]? = some a := by
  rw [← List.head?_drop]
  cases r.drop k with
  | nil => simp
  | cons c t => simp [List.cons_prefix_cons, eq_comm]
theorem prefix_two {a b : Nat} {r : List Nat} {k : Nat} : [a, b] <+: r.drop k ↔ r[k]? = some a ∧ r[k + 1]? = some b := by
  have e1 : (r.drop k)[0]? = r[k]? := by rw [List.getElem?_drop]; rfl
  have e2 : (r.drop k)[1]? = r[k + 1]? := by rw [List.getElem?_drop]
  rw [← e1, ← e2]
  cases r.drop k with
  | nil => simp
  | cons c t =>
    cases t with
    | nil => simp [List.cons_prefix_cons]
    | cons c' t => simp [List.cons_prefix_cons, eq_comm]

section
variable {y : PySem.Str} {r : List Nat} {a b : Nat}
theorem starts_iff (hy : y.cps.toList = EE r) (hr : ∀ c ∈ r, Sg c) {w : PySem.Str} {u : List Nat} (hw : w.cps.toList = EE u) (hu : ∀ c ∈ u, Sg c) : Txt.startswith y w = true ↔ u <+: r := by
  unfold Txt.startswith
  rw [Bool.and_eq_true, decide_eq_true_eq, Nat.zero_add]
  have h := At_iff (y := y) (w := w) (hi := y.length) (k := 0) (Nat.le_refl _)
  unfold At at h
  rw [Nat.zero_add] at h
  rw [h, List.drop_zero, hw, hy, EE_prefix hu hr]
  constructor
  · exact fun h => h.2
  · intro h
    refine ⟨?_, h⟩
    rw [len_toList, len_toList, hw, hy]
    exact ((EE_prefix hu hr).mpr h).length_le
theorem ends_iff (hy : y.cps.toList = EE r) (hr : ∀ c ∈ r, Sg c) {w : PySem.Str} {u : List Nat} (hw : w.cps.toList = EE u) (hu : ∀ c ∈ u, Sg c) (hu0 : u ≠ []) :
    Txt.endswith y w = true ↔ ∃ k, k + u.length = r.length ∧ u <+: r.drop k := by
  have hyl : y.length = posL r r.length := by rw [len_toList, hy, posL_all]
  have hwl : w.length = (EE u).length := by rw [len_toList, hw]
  unfold Txt.endswith
  rw [Bool.and_eq_true, decide_eq_true_eq, Nat.zero_add]
  constructor
  · rintro ⟨h1, h2⟩
    have hA : At y w y.length (y.length - w.length) := ⟨by lia, h2⟩
    have := ((At_iff (Nat.le_refl _)).mp hA).2
    rw [hw, hy] at this
    obtain ⟨k, hk, e, hp⟩ := EE_occ hu0 hu hr this
    refine ⟨k, ?_, hp⟩
    have e2 := posL_add hp hk
    have hkl : k + u.length ≤ r.length := by
      have := hp.length_le
      rw [List.length_drop] at this
      have : 0 < u.length := List.length_pos_iff.mpr hu0
      lia
    have h3 : posL r r.length ≤ posL r (k + u.length) := by lia
    rw [posL_le_iff (Nat.le_refl _)] at h3
    lia
  · rintro ⟨k, hk, hp⟩
    have hkr : k ≤ r.length := by lia
    have e2 := posL_add hp hkr
    rw [hk] at e2
    have hA : At y w y.length (posL r k) := by
      rw [At_iff (Nat.le_refl _), hw, hy, EE_drop, EE_prefix hu (fun c hc => hr c (List.mem_of_mem_drop hc))]
      exact ⟨by lia, hp⟩
    have e3 : y.length - w.length = posL r k := by lia
    exact ⟨by lia, by rw [e3]; exact hA.2⟩
theorem ends_len (hy : y.cps.toList = EE r) {w : PySem.Str} {u : List Nat} (hw : w.cps.toList = EE u) {k : Nat} (hk : k + u.length = r.length) (hp : u <+: r.drop k) :
    ((y.length : Int) - (w.length : Int)) = (posL r k : Nat) := by
  have hyl : y.length = posL r r.length := by rw [len_toList, hy, posL_all]
  have hwl : w.length = (EE u).length := by rw [len_toList, hw]
  have e2 := posL_add hp (by lia)
  rw [hk] at e2
  lia
theorem loop_e {w : PySem.Str} (hw : w.cps.toList = []) {ws : List PySem.Str} {i j : Nat} (hj : j ≤ y.length) (hij : i ≤ j) : loopL y (j : Nat) (w :: ws) (i : Nat) = loopL y (j : Nat) ws (i : Nat) := by
  have hl : w.length = 0 := by rw [len_toList, hw]; rfl
  rw [loopL, find_none hw hj, if_pos hij, if_neg (by lia), hl]
  simp
theorem loop_u (hy : y.cps.toList = EE r) (hr : ∀ c ∈ r, Sg c) {w : PySem.Str} {u : List Nat} (hw : w.cps.toList = EE u) (hu : ∀ c ∈ u, Sg c) (hu0 : u ≠ []) {ws : List PySem.Str} {i j : Nat} (hi : i ≤ r.length) (hj : j ≤ r.length) :
    loopL y (posL r j : Nat) (w :: ws) (posL r i : Nat) = true ↔ ∃ k, i ≤ k ∧ k + u.length ≤ j ∧ u <+: r.drop k ∧ (∀ k', i ≤ k' → k' < k → ¬ u <+: r.drop k') ∧ loopL y (posL r j : Nat) ws (posL r (k + u.length) : Nat) = true := by
  have hwl : w.length = (EE u).length := by rw [len_toList, hw]
  rw [loopL]
  rcases find_signs hy hr hw hu hu0 hi hj with ⟨h, hn⟩ | ⟨k, h, h1, h2, h3, h4⟩
  · rw [h, if_pos (by decide)]
    constructor
    · intro h; cases h
    · rintro ⟨k, h1, h2, h3, _⟩; exact absurd h3 (hn k h1 h2)
  · have e := posL_add h3 (by lia)
    rw [h, if_neg (by lia)]
    rw [show ((posL r k : Nat) : Int) + (w.length : Int) = (posL r (k + u.length) : Nat) by lia]
    constructor
    · intro h'; exact ⟨k, h1, h2, h3, h4, h'⟩
    · rintro ⟨k', a1, a2, a3, a4, a5⟩
      have : k' = k := by
        rcases Nat.lt_trichotomy k' k with hlt | he | hgt
        · exact absurd a3 (h4 k' a1 hlt)
        · exact he
        · exact absurd h3 (a4 k h1 hgt)
      rw [← this]; exact a5
theorem loop_last (hy : y.cps.toList = EE r) (hr : ∀ c ∈ r, Sg c) {w : PySem.Str} {u : List Nat} (hw : w.cps.toList = EE u) (hu : ∀ c ∈ u, Sg c) (hu0 : u ≠ []) {ws : List PySem.Str} {i j : Nat} (hi : i ≤ r.length) (hj : j ≤ r.length)
    (hws : ∀ k, k ≤ j → loopL y (posL r j : Nat) ws (posL r k : Nat) = true) :
    loopL y (posL r j : Nat) (w :: ws) (posL r i : Nat) = true ↔ ∃ k, i ≤ k ∧ k + u.length ≤ j ∧ u <+: r.drop k := by
  rw [loop_u hy hr hw hu hu0 hi hj]
  constructor
  · rintro ⟨k, a, b, c, _⟩; exact ⟨k, a, b, c⟩
  · intro h
    -- the least such place
    have : ∃ k, (i ≤ k ∧ k + u.length ≤ j ∧ u <+: r.drop k) ∧ ∀ k', i ≤ k' → k' < k → ¬ u <+: r.drop k' := by
      obtain ⟨k, hk⟩ := h
      have go : ∀ n k, k ≤ n → (i ≤ k ∧ k + u.length ≤ j ∧ u <+: r.drop k) → ∃ k, (i ≤ k ∧ k + u.length ≤ j ∧ u <+: r.drop k) ∧ ∀ k', i ≤ k' → k' < k → ¬ u <+: r.drop k' := by
        intro n
        induction n with
        | zero => intro k hk h; exact ⟨k, h, fun k' _ h' => by lia⟩
        | succ n ih =>
          intro k hk h
          by_cases hc : ∃ k', i ≤ k' ∧ k' < k ∧ u <+: r.drop k'
          · obtain ⟨k', a, b, c⟩ := hc
            exact ih k' (by lia) ⟨a, by lia, c⟩
          · exact ⟨k, h, fun k' a b c => hc ⟨k', a, b, c⟩⟩
      exact go k k (Nat.le_refl _) hk
    obtain ⟨k, ⟨a, b, c⟩, d⟩ := this
    exact ⟨k, a, b, c, d, hws _ b⟩
end
end Mine
end

section
open PySem PySem.W PySem.Calls PyProof.Rows
open PySem.StrLaws PySem.Builtin PySem.Builtin.Str
namespace Mine
section
variable {x y A B AB E : PySem.Str} {r : List Nat} {a b : Nat}

theorem sg1 {a : Nat} (ha : Sg a) : ∀ c ∈ [a], Sg c := by
  intro c hc; rw [List.mem_singleton.mp hc]; exact ha
theorem sg2 {a b : Nat} (ha : Sg a) (hb : Sg b) : ∀ c ∈ [a, b], Sg c := by
  intro c hc
  rcases List.mem_cons.mp hc with rfl | hc
  · exact ha
  · rw [List.mem_singleton.mp hc]; exact hb
theorem lenR (hy : y.cps.toList = EE r) : (y.length : Int) = (posL r r.length : Nat) := by rw [len_toList, hy, posL_all]
theorem posOne {w : PySem.Str} {u : List Nat} (hw : w.cps.toList = EE u) (h : u <+: r) : (w.length : Int) = (posL r u.length : Nat) := by
  have := posL_add (w := u) (r := r) (i := 0) h (Nat.zero_le _)
  rw [Nat.zero_add, posL_zero] at this
  rw [len_toList, hw]
  lia
theorem len_drop {u : List Nat} {k : Nat} (h : u <+: r.drop k) (hu : u ≠ []) : k + u.length ≤ r.length := by
  have := h.length_le
  rw [List.length_drop] at this
  have : 0 < u.length := List.length_pos_iff.mpr hu
  lia

variable (hx : x.cps.toList = r) (hy : y.cps.toList = EE r) (hr : ∀ c ∈ r, Sg c) (ha : Sg a) (hb : Sg b) (hA : A.cps.toList = EE [a]) (hB : B.cps.toList = EE [b]) (hAB : AB.cps.toList = EE [a, b]) (hE : E.cps.toList = [])
include hx hy hr ha hb

include hAB in
theorem m0 : (AB == y) = fitsL x ⟨#[a]⟩ ⟨#[b]⟩ 0 := by
  rw [Bool.eq_iff_iff, fits_iff hx, beq_iff_eq]
  constructor
  · intro h
    have e : EE [a, b] = EE r := by rw [← hAB, ← hy, h]
    have p1 : [a, b] <+: r := (EE_prefix (sg2 ha hb) hr).mp (by rw [e]; exact List.prefix_rfl)
    have p2 : r <+: [a, b] := (EE_prefix hr (sg2 ha hb)).mp (by rw [e]; exact List.prefix_rfl)
    have : r = [a, b] := p2.eq_of_length_le p1.length_le
    subst this
    exact ⟨0, 1, by decide, rfl, rfl, .inr rfl, .inr rfl, .inr rfl⟩
  · rintro ⟨i, j, h0, h1, h2, h3, h4, h5⟩
    have hi : i = 0 := h3.resolve_left (by decide)
    have hj : j = i + 1 := h4.resolve_left (by decide)
    have hn : j + 1 = r.length := h5.resolve_left (by decide)
    subst hi; subst hj
    have : r = [a, b] := by
      match r, hn, h1, h2 with
      | [c, d], _, h1, h2 => simp at h1 h2; rw [h1, h2]
    apply PySem.Str.ext'
    rw [← Array.toList_inj, hAB, hy, this]

include hAB hE in
theorem m1 : mK y none (some AB) [E] = fitsL x ⟨#[a]⟩ ⟨#[b]⟩ 1 := by
  rw [Bool.eq_iff_iff, fits_iff hx]
  unfold mK
  simp only [Bool.and_eq_true, Bool.true_and, Bool.not_eq_true', decide_eq_false_iff_not]
  rw [ends_iff hy hr hAB (sg2 ha hb) (by simp)]
  constructor
  · rintro ⟨⟨⟨k, hk, hp⟩, _⟩, _⟩
    obtain ⟨h1, h2⟩ := prefix_two.mp hp
    exact ⟨k, k + 1, by lia, h1, h2, .inl (by decide), .inr rfl, .inr (by simpa using hk)⟩
  · rintro ⟨i, j, h0, h1, h2, h3, h4, h5⟩
    have hj : j = i + 1 := h4.resolve_left (by decide)
    have hn : j + 1 = r.length := h5.resolve_left (by decide)
    subst hj
    have hp := prefix_two.mpr ⟨h1, h2⟩
    have hk : i + [a, b].length = r.length := by simpa using hn
    have e := ends_len hy hAB hk hp
    have hl := lenR hy
    refine ⟨⟨⟨i, hk, hp⟩, ?_⟩, ?_⟩
    · rw [e]; lia
    · rw [e, show (0 : Int) = ((0 : Nat) : Int) from rfl, loop_e hE (by have := posL_mono (r := r) (show i ≤ r.length by lia); lia) (Nat.zero_le _)]
      rfl

include hA hB in
theorem m2 : mK y (some A) (some B) [] = fitsL x ⟨#[a]⟩ ⟨#[b]⟩ 2 := by
  rw [Bool.eq_iff_iff, fits_iff hx]
  unfold mK
  simp only [Bool.and_eq_true, Bool.not_eq_true', decide_eq_false_iff_not]
  rw [starts_iff hy hr hA (sg1 ha), ends_iff hy hr hB (sg1 hb) (by simp)]
  constructor
  · rintro ⟨⟨⟨h1, k, hk, hp⟩, h2⟩, _⟩
    rw [ends_len hy hB hk hp, posOne hA h1] at h2
    have e1 := (prefix_one (r := r) (k := 0)).mp (by simpa using h1)
    have e2 := prefix_one.mp hp
    have hk' : k + 1 = r.length := by simpa using hk
    have h3 : posL r 1 ≤ posL r k := by simpa using h2
    rw [posL_le_iff (by lia)] at h3
    exact ⟨0, k, by lia, e1, e2, .inr rfl, .inl (by decide), .inr hk'⟩
  · rintro ⟨i, j, h0, h1, h2, h3, h4, h5⟩
    have hi : i = 0 := h3.resolve_left (by decide)
    have hn : j + 1 = r.length := h5.resolve_left (by decide)
    subst hi
    have p1 : [a] <+: r := by simpa using (prefix_one (r := r) (k := 0)).mpr h1
    have p2 := prefix_one.mpr h2
    have hk : j + [b].length = r.length := by simpa using hn
    refine ⟨⟨⟨p1, j, hk, p2⟩, ?_⟩, rfl⟩
    rw [ends_len hy hB hk p2, posOne hA p1]
    have := posL_mono (r := r) (show 1 ≤ j by lia)
    simp only [List.length_cons, List.length_nil, Nat.zero_add]
    lia

include hA hB hE in
theorem m3 : mK y none (some B) [E, A] = fitsL x ⟨#[a]⟩ ⟨#[b]⟩ 3 := by
  rw [Bool.eq_iff_iff, fits_iff hx]
  unfold mK
  simp only [Bool.and_eq_true, Bool.true_and, Bool.not_eq_true', decide_eq_false_iff_not]
  rw [ends_iff hy hr hB (sg1 hb) (by simp)]
  have hl := lenR hy
  constructor
  · rintro ⟨⟨⟨k, hk, hp⟩, _⟩, h⟩
    have hk' : k + 1 = r.length := by simpa using hk
    have hm := posL_mono (r := r) (show k ≤ r.length by lia)
    rw [ends_len hy hB hk hp, show (0 : Int) = ((0 : Nat) : Int) from rfl, loop_e hE (by lia) (Nat.zero_le _), ← posL_zero r,
      loop_last hy hr hA (sg1 ha) (by simp) (Nat.zero_le _) (by lia) (fun _ _ => rfl)] at h
    obtain ⟨i, _, hi, hpi⟩ := h
    have hi' : i + 1 ≤ k := by simpa using hi
    exact ⟨i, k, by lia, prefix_one.mp hpi, prefix_one.mp hp, .inl (by decide), .inl (by decide), .inr hk'⟩
  · rintro ⟨i, j, h0, h1, h2, h3, h4, h5⟩
    have hn : j + 1 = r.length := h5.resolve_left (by decide)
    have p1 := prefix_one.mpr h1
    have p2 := prefix_one.mpr h2
    have hk : j + [b].length = r.length := by simpa using hn
    have hm := posL_mono (r := r) (show j ≤ r.length by lia)
    refine ⟨⟨⟨j, hk, p2⟩, ?_⟩, ?_⟩
    · rw [ends_len hy hB hk p2]; lia
    · rw [ends_len hy hB hk p2, show (0 : Int) = ((0 : Nat) : Int) from rfl, loop_e hE (by lia) (Nat.zero_le _), ← posL_zero r,
        loop_last hy hr hA (sg1 ha) (by simp) (Nat.zero_le _) (by lia) (fun _ _ => rfl)]
      exact ⟨i, Nat.zero_le _, by simp; lia, p1⟩

include hAB hE in
theorem m4 : mK y (some AB) none [E] = fitsL x ⟨#[a]⟩ ⟨#[b]⟩ 4 := by
  rw [Bool.eq_iff_iff, fits_iff hx]
  unfold mK
  simp only [Bool.and_eq_true, Bool.and_true, Bool.not_eq_true', decide_eq_false_iff_not]
  rw [starts_iff hy hr hAB (sg2 ha hb)]
  have hl := lenR hy
  constructor
  · rintro ⟨⟨h1, _⟩, _⟩
    obtain ⟨e1, e2⟩ := (prefix_two (r := r) (k := 0)).mp (by simpa using h1)
    exact ⟨0, 1, by decide, e1, e2, .inr rfl, .inr rfl, .inl (by decide)⟩
  · rintro ⟨i, j, h0, h1, h2, h3, h4, h5⟩
    have hi : i = 0 := h3.resolve_left (by decide)
    have hj : j = i + 1 := h4.resolve_left (by decide)
    subst hi; subst hj
    have p1 : [a, b] <+: r := by simpa using (prefix_two (r := r) (k := 0)).mpr ⟨h1, h2⟩
    have e := posOne hAB p1
    have hm := posL_mono (r := r) p1.length_le
    refine ⟨⟨p1, by lia⟩, ?_⟩
    rw [e, hl, loop_e hE (by lia) hm]
    rfl

include hAB hE in
theorem m5 : mK y none none [E, AB, E] = fitsL x ⟨#[a]⟩ ⟨#[b]⟩ 5 := by
  rw [Bool.eq_iff_iff, fits_iff hx]
  unfold mK
  simp only [Bool.and_eq_true, Bool.true_and, Bool.not_eq_true', decide_eq_false_iff_not]
  have hl := lenR hy
  have hws : ∀ k, k ≤ r.length → loopL y (posL r r.length : Nat) [E] (posL r k : Nat) = true := by
    intro k hk
    rw [loop_e hE (by lia) (posL_mono hk)]
    rfl
  rw [hl, show (0 : Int) = ((0 : Nat) : Int) from rfl, loop_e hE (by lia) (Nat.zero_le _), ← posL_zero r,
    loop_last hy hr hAB (sg2 ha hb) (by simp) (Nat.zero_le _) (Nat.le_refl _) hws]
  constructor
  · rintro ⟨_, k, _, hk, hp⟩
    obtain ⟨h1, h2⟩ := prefix_two.mp hp
    exact ⟨k, k + 1, by lia, h1, h2, .inl (by decide), .inr rfl, .inl (by decide)⟩
  · rintro ⟨i, j, h0, h1, h2, h3, h4, h5⟩
    have hj : j = i + 1 := h4.resolve_left (by decide)
    subst hj
    have hp := prefix_two.mpr ⟨h1, h2⟩
    refine ⟨by rw [posL_zero]; lia, i, Nat.zero_le _, len_drop hp (by simp), hp⟩

include hA hB hE in
theorem m6 : mK y (some A) none [B, E] = fitsL x ⟨#[a]⟩ ⟨#[b]⟩ 6 := by
  rw [Bool.eq_iff_iff, fits_iff hx]
  unfold mK
  simp only [Bool.and_eq_true, Bool.and_true, Bool.not_eq_true', decide_eq_false_iff_not]
  rw [starts_iff hy hr hA (sg1 ha)]
  have hl := lenR hy
  have hws : ∀ k, k ≤ r.length → loopL y (posL r r.length : Nat) [E] (posL r k : Nat) = true := by
    intro k hk
    rw [loop_e hE (by lia) (posL_mono hk)]
    rfl
  constructor
  · rintro ⟨⟨h1, _⟩, h⟩
    have hlen : 1 ≤ r.length := by simpa using h1.length_le
    rw [posOne hA h1, hl, loop_last hy hr hB (sg1 hb) (by simp) (by simpa using hlen) (Nat.le_refl _) hws] at h
    obtain ⟨k, hk, _, hp⟩ := h
    have hk' : 1 ≤ k := by simpa using hk
    have e1 := (prefix_one (r := r) (k := 0)).mp (by simpa using h1)
    exact ⟨0, k, by lia, e1, prefix_one.mp hp, .inr rfl, .inl (by decide), .inl (by decide)⟩
  · rintro ⟨i, j, h0, h1, h2, h3, h4, h5⟩
    have hi : i = 0 := h3.resolve_left (by decide)
    subst hi
    have p1 : [a] <+: r := by simpa using (prefix_one (r := r) (k := 0)).mpr h1
    have p2 := prefix_one.mpr h2
    have hlen : 1 ≤ r.length := by simpa using p1.length_le
    have hm := posL_mono (r := r) p1.length_le
    have e := posOne hA p1
    refine ⟨⟨p1, by lia⟩, ?_⟩
    rw [e, hl, loop_last hy hr hB (sg1 hb) (by simp) (by simpa using hlen) (Nat.le_refl _) hws]
    exact ⟨j, by simp; lia, len_drop p2 (by simp), p2⟩

include hA hB hE in
theorem m7 : mK y none none [E, A, B, E] = fitsL x ⟨#[a]⟩ ⟨#[b]⟩ 7 := by
  rw [Bool.eq_iff_iff, fits_iff hx]
  unfold mK
  simp only [Bool.and_eq_true, Bool.true_and, Bool.not_eq_true', decide_eq_false_iff_not]
  have hl := lenR hy
  have hws : ∀ k, k ≤ r.length → loopL y (posL r r.length : Nat) [E] (posL r k : Nat) = true := by
    intro k hk
    rw [loop_e hE (by lia) (posL_mono hk)]
    rfl
  rw [hl, show (0 : Int) = ((0 : Nat) : Int) from rfl, loop_e hE (by lia) (Nat.zero_le _), ← posL_zero r,
    loop_u hy hr hA (sg1 ha) (by simp) (Nat.zero_le _) (Nat.le_refl _)]
  constructor
  · rintro ⟨_, k, _, hk, hp, _, h⟩
    rw [loop_last hy hr hB (sg1 hb) (by simp) hk (Nat.le_refl _) hws] at h
    obtain ⟨j, hj, _, hpj⟩ := h
    have hj' : k + 1 ≤ j := by simpa using hj
    exact ⟨k, j, by lia, prefix_one.mp hp, prefix_one.mp hpj, .inl (by decide), .inl (by decide), .inl (by decide)⟩
  · rintro ⟨i, j, h0, h1, h2, h3, h4, h5⟩
    have p1 := prefix_one.mpr h1
    have p2 := prefix_one.mpr h2
    refine ⟨by rw [posL_zero]; lia, ?_⟩
    have go : ∀ n i, i ≤ n → i < j → [a] <+: r.drop i → ∃ k, k ≤ i ∧ [a] <+: r.drop k ∧ ∀ k', 0 ≤ k' → k' < k → ¬ [a] <+: r.drop k' := by
      intro n
      induction n with
      | zero => intro i hi _ h; exact ⟨i, Nat.le_refl _, h, fun k' _ h' => by lia⟩
      | succ n ih =>
        intro i hi hij h
        by_cases hc : ∃ k', k' < i ∧ [a] <+: r.drop k'
        · obtain ⟨k', u, v⟩ := hc
          obtain ⟨k, k1, k2, k3⟩ := ih k' (by lia) (by lia) v
          exact ⟨k, by lia, k2, k3⟩
        · exact ⟨i, Nat.le_refl _, h, fun k' _ u v => hc ⟨k', u, v⟩⟩
    obtain ⟨k, k1, k2, k3⟩ := go i i (Nat.le_refl _) h0 p1
    have hkl := len_drop k2 (by simp)
    refine ⟨k, Nat.zero_le _, hkl, k2, k3, ?_⟩
    rw [loop_last hy hr hB (sg1 hb) (by simp) hkl (Nat.le_refl _) hws]
    exact ⟨j, by simp; lia, len_drop p2 (by simp), p2⟩
end
end Mine
end

section
open PySem PySem.W PySem.Calls PyProof.Rows
open PySem.StrLaws PySem.Builtin PySem.Builtin.Str
namespace Mine
noncomputable def dotsL (n : Nat) : List Nat := if n = 0 then [] else [46, 46, 46]
noncomputable def wantL (a b d : Nat) : List Nat := dotsL (d % 2) ++ code a ++ dotsL (d / 2 % 2) ++ code b ++ dotsL (d / 4)
noncomputable def wantS (a b d : Nat) : PySem.Str := ⟨(wantL a b d).toArray⟩
noncomputable def codeS (u : List Nat) : PySem.Str := ⟨(EE u).toArray⟩
noncomputable def shapeS (a b d : Nat) : List PySem.Str :=
  if d = 1 then [Str.ofString "", codeS [a, b]] else if d = 2 then [codeS [a], codeS [b]] else if d = 3 then [Str.ofString "", codeS [a], codeS [b]]
  else if d = 4 then [codeS [a, b], Str.ofString ""] else if d = 5 then [Str.ofString "", codeS [a, b], Str.ofString ""] else if d = 6 then [codeS [a], codeS [b], Str.ofString ""]
  else [Str.ofString "", codeS [a], codeS [b], Str.ofString ""]
noncomputable def sgs : List Nat := [38, 60, 62, 34, 13, 10, 9, 98]
theorem sg_mem {a : Nat} (h : Sg a) : a ∈ sgs := by
  rcases h with rfl | rfl | rfl | rfl | rfl | rfl | rfl | rfl <;> decide
noncomputable def chkW (a b d : Nat) : Bool :=
  if d = 0 then (occurrences (wantS a b d) (Str.ofString "...") 0 (wantS a b d).length 1).isEmpty
  else decide (Txt.split (wantS a b d) (Str.ofString "...") = shapeS a b d)
theorem want_all : ∀ a ∈ sgs, ∀ b ∈ sgs, ∀ d, d < 8 → chkW a b d = true := by decide +kernel
theorem split_found {x y : PySem.Str} (h : (Txt.split x y).length ≠ 1) : (occurrences x y 0 x.length 1).isEmpty = false := by
  rcases occ_head x y 1 (Nat.le_refl _) with ⟨h0, hn⟩ | ⟨i, r, h0, _⟩
  · exfalso
    apply h
    unfold Txt.split
    split
    · rfl
    · rcases occ_head x y (x.length + 1) (by lia) with ⟨h1, _⟩ | ⟨j, r', h1, hj, _⟩
      · rw [h1]; rfl
      · exact absurd hj (hn j)
  · rw [h0]; rfl
theorem parts_few (x y : PySem.Str) (w : Nat) (h : x.length ≤ 100) : (partsBetween x (occurrences x y 0 x.length (x.length + 1)) w).length ≤ sizeLine := by
  rw [length_partsBetween, sizeLine_eq]
  have := StrLaws.occ_length_le x y 0 x.length (x.length + 1)
  lia
theorem want_len (a b d : Nat) : (wantS a b d).length ≤ 100 := by
  show (wantL a b d).length ≤ 100
  unfold wantL dotsL
  simp only [List.length_append]
  have := (code_len a).2
  have := (code_len b).2
  split <;> split <;> split <;> simp <;> lia
end Mine
end

section
open PySem PySem.W PySem.Calls PyProof.Rows
open PySem.StrLaws PySem.Builtin PySem.Builtin.Str
namespace Mine
section
variable {y p q : PySem.Str}
theorem e0 : (Str.ofString "" : PySem.Str).length = 0 := by decide +kernel
theorem mC_eq {a b : Bool} {st en : Int} {ws : List PySem.Str} (h : b = (a && !(decide (st > en)) && loopL y en ws st)) : (if a then mC y st en ws else false) = b := by
  subst h; unfold mC; cases a <;> by_cases h : st > en <;> simp [h]
theorem mB_e {st : Int} {ws : List PySem.Str} (h : (ws.getLastD (Str.ofString "")).length = 0) : mB y st ws = mC y st y.length ws := if_pos h
theorem mB_p {st : Int} {ws : List PySem.Str} (h : (ws.getLastD (Str.ofString "")).length ≠ 0) : mB y st ws = (if Txt.endswith y (ws.getLastD (Str.ofString "")) then mC y st ((y.length : Int) - ((ws.getLastD (Str.ofString "")).length : Int)) ws.dropLast else false) := if_neg h
theorem mA_e {ws : List PySem.Str} (h : (ws.headD (Str.ofString "")).length = 0) : mA y ws = mB y 0 ws := if_pos h
theorem mA_p {ws : List PySem.Str} (h : (ws.headD (Str.ofString "")).length ≠ 0) : mA y ws = (if Txt.startswith y (ws.headD (Str.ofString "")) then mB y ((ws.headD (Str.ofString "")).length : Int) ws.tail else false) := if_neg h
theorem s1 (hp : 1 ≤ p.length) : mA y [Str.ofString "", p] = mK y none (some p) [Str.ofString ""] := by
  rw [mA_e (by exact e0), mB_p (by show p.length ≠ 0; lia)]
  exact mC_eq (by simp [mK])
theorem s2 (hp : 1 ≤ p.length) (hq : 1 ≤ q.length) : mA y [p, q] = mK y (some p) (some q) [] := by
  rw [mA_p (by show p.length ≠ 0; lia), mB_p (by show q.length ≠ 0; lia)]
  unfold mK
  cases h : Txt.startswith y p
  · simp [h]
  · simp only [List.headD_cons, h, if_true]; exact mC_eq (by simp)
theorem s3 (hq : 1 ≤ q.length) : mA y [Str.ofString "", p, q] = mK y none (some q) [Str.ofString "", p] := by
  rw [mA_e (by exact e0), mB_p (by show q.length ≠ 0; lia)]
  exact mC_eq (by simp [mK])
theorem s4 (hp : 1 ≤ p.length) : mA y [p, Str.ofString ""] = mK y (some p) none [Str.ofString ""] := by
  rw [mA_p (by show p.length ≠ 0; lia), mB_e (by exact e0)]
  exact mC_eq (by simp [mK])
theorem s5 : mA y [Str.ofString "", p, Str.ofString ""] = mK y none none [Str.ofString "", p, Str.ofString ""] := by
  rw [mA_e (by exact e0), mB_e (by exact e0)]
  have h := mC_eq (y := y) (a := true) (st := 0) (en := y.length) (ws := [Str.ofString "", p, Str.ofString ""]) (b := mK y none none [Str.ofString "", p, Str.ofString ""]) (by simp [mK])
  simpa using h
theorem s6 (hp : 1 ≤ p.length) : mA y [p, q, Str.ofString ""] = mK y (some p) none [q, Str.ofString ""] := by
  rw [mA_p (by show p.length ≠ 0; lia), mB_e (by exact e0)]
  exact mC_eq (by simp [mK])
theorem s7 : mA y [Str.ofString "", p, q, Str.ofString ""] = mK y none none [Str.ofString "", p, q, Str.ofString ""] := by
  rw [mA_e (by exact e0), mB_e (by exact e0)]
  have h := mC_eq (y := y) (a := true) (st := 0) (en := y.length) (ws := [Str.ofString "", p, q, Str.ofString ""]) (b := mK y none none [Str.ofString "", p, q, Str.ofString ""]) (by simp [mK])
  simpa using h
end
section
variable {w : World} {mean : ExcName → Option Value} {mg mb : Str → Option Value}
   {dp un : Nat} {gd : Option (List Code)} {cn : Str} {cs : Scope} {a : Addr} {ccd : Value} {cl : List (Str × Addr)} {outer : List Env} {A₀ : Around} {base h₀ : Heap} {L : Addr} {m : Str → Option Value} {news : List (Addr × Obj)} {s : Shared} {Q E : Value → Shared → Prop}
theorem c_ellipsis {p q : Nat} {d : Int} {x y : PySem.Str} {r : List Nat} {t1 t2 : Tok} (hp : Sg p) (hq : Sg q) (hd8 : 0 ≤ d ∧ d < 8) (hx : x.cps.toList = r) (hy : y.cps.toList = EE r) (hr : ∀ c ∈ r, Sg c) (hl : y.length ≤ 1000)
   (B : Below A₀ base outer h₀) (F : Fr h₀ L s.heap m) (X : (Mine.hd.heap_39 w.params).In h₀) (N : News h₀ L s.heap news) (T : Top Mine.hd.view_39 (looseW Mine.hd.view_39 []) mean mg mb h₀) (hk : cs.kind = .function)
   (hd : dp + 20 < recursionLimit) (hu : un + 100 < cLine)
   (hret : ∀ h' tk', Fr h₀ L h' m → News h₀ L h' news → Q (.bool (fitsL x ⟨#[p]⟩ ⟨#[q]⟩ d)) { s with heap := h', toks := tk' }) :
   wpAny (model PySem.Challenge.rw_rw0038_01.row.toRowW.1 w) (ktrTop dp un gd cn cs L a ccd cl outer) (call (.ref 21) [.str (wantS p q d.toNat) t1, .str y t2]) Q E s := by
  have hW := want_all p (sg_mem hp) q (sg_mem hq) d.toNat (by lia)
  have hwl := want_len p q d.toNat
  have hwl2 : (wantS p q d.toNat).length ≤ sizeLine := by rw [sizeLine_eq]; lia
  have hP : ∀ u : List Nat, (codeS u).cps.toList = EE u := fun u => by simp [codeS]
  have hlen : ∀ u : List Nat, u ≠ [] → u.length ≤ 2 → 1 ≤ (codeS u).length ∧ (codeS u).length ≤ 16777216 := by
    intro u h0 h2
    rw [len_toList, hP]
    have := flat_len (fun d => (code_len d).2) u
    unfold EE
    refine ⟨?_, by lia⟩
    cases u with
    | nil => exact absurd rfl h0
    | cons c t => rw [List.flatMap_cons, List.length_append]; have := (code_len c).1; lia
  have hE : (Str.ofString "" : PySem.Str).cps.toList = [] := by decide +kernel
  have hE16 : (PySem.Str.ofString "").length ≤ 16777216 := by decide +kernel
  obtain ⟨lp1, lp2⟩ := hlen [p] (by simp) (by simp)
  obtain ⟨lq1, lq2⟩ := hlen [q] (by simp) (by simp)
  obtain ⟨lr1, lr2⟩ := hlen [p, q] (by simp) (by simp)
  have hyl : y.length ≤ 16777216 := by lia
  have hcase : d = 0 ∨ d = 1 ∨ d = 2 ∨ d = 3 ∨ d = 4 ∨ d = 5 ∨ d = 6 ∨ d = 7 := by lia
  rcases hcase with rfl | rfl | rfl | rfl | rfl | rfl | rfl | rfl
  · have e : wantS p q (0 : Int).toNat = codeS [p, q] := by
      unfold wantS codeS wantL EE dotsL
      simp
    refine c_match0 ?_ B F X N T hk hd hu ?_
    · exact hW
    · rw [e, m0 (hx := hx) (hy := hy) (hr := hr) (ha := hp) (hb := hq) (hAB := hP [p, q])]
      exact hret
  · have hs : Txt.split (wantS p q (1 : Int).toNat) (Str.ofString "...") = [Str.ofString "", codeS [p, q]] := by simpa [chkW, shapeS] using hW
    exact c_match hwl2 hyl (by simp) (by simp) (by intro w hw; simp only [List.mem_cons, List.not_mem_nil, or_false] at hw; rcases hw with rfl | rfl <;> assumption) (split_found (by rw [hs]; simp)) (parts_few _ _ _ hwl) hs ((s1 lr1).trans (m1 (hx := hx) (hy := hy) (hr := hr) (ha := hp) (hb := hq) (hAB := hP [p, q]) (hE := hE))) B F X N T hk hd hu hret
  · have hs : Txt.split (wantS p q (2 : Int).toNat) (Str.ofString "...") = [codeS [p], codeS [q]] := by simpa [chkW, shapeS] using hW
    exact c_match hwl2 hyl (by simp) (by simp) (by intro w hw; simp only [List.mem_cons, List.not_mem_nil, or_false] at hw; rcases hw with rfl | rfl <;> assumption) (split_found (by rw [hs]; simp)) (parts_few _ _ _ hwl) hs ((s2 lp1 lq1).trans (m2 (hx := hx) (hy := hy) (hr := hr) (ha := hp) (hb := hq) (hA := hP [p]) (hB := hP [q]))) B F X N T hk hd hu hret
  · have hs : Txt.split (wantS p q (3 : Int).toNat) (Str.ofString "...") = [Str.ofString "", codeS [p], codeS [q]] := by simpa [chkW, shapeS] using hW
    exact c_match hwl2 hyl (by simp) (by simp) (by intro w hw; simp only [List.mem_cons, List.not_mem_nil, or_false] at hw; rcases hw with rfl | rfl | rfl <;> assumption) (split_found (by rw [hs]; simp)) (parts_few _ _ _ hwl) hs ((s3 lq1).trans (m3 (hx := hx) (hy := hy) (hr := hr) (ha := hp) (hb := hq) (hA := hP [p]) (hB := hP [q]) (hE := hE))) B F X N T hk hd hu hret
  · have hs : Txt.split (wantS p q (4 : Int).toNat) (Str.ofString "...") = [codeS [p, q], Str.ofString ""] := by simpa [chkW, shapeS] using hW
    exact c_match hwl2 hyl (by simp) (by simp) (by intro w hw; simp only [List.mem_cons, List.not_mem_nil, or_false] at hw; rcases hw with rfl | rfl <;> assumption) (split_found (by rw [hs]; simp)) (parts_few _ _ _ hwl) hs ((s4 lr1).trans (m4 (hx := hx) (hy := hy) (hr := hr) (ha := hp) (hb := hq) (hAB := hP [p, q]) (hE := hE))) B F X N T hk hd hu hret
  · have hs : Txt.split (wantS p q (5 : Int).toNat) (Str.ofString "...") = [Str.ofString "", codeS [p, q], Str.ofString ""] := by simpa [chkW, shapeS] using hW
    exact c_match hwl2 hyl (by simp) (by simp) (by intro w hw; simp only [List.mem_cons, List.not_mem_nil, or_false] at hw; rcases hw with rfl | rfl | rfl <;> assumption) (split_found (by rw [hs]; simp)) (parts_few _ _ _ hwl) hs (s5.trans (m5 (hx := hx) (hy := hy) (hr := hr) (ha := hp) (hb := hq) (hAB := hP [p, q]) (hE := hE))) B F X N T hk hd hu hret
  · have hs : Txt.split (wantS p q (6 : Int).toNat) (Str.ofString "...") = [codeS [p], codeS [q], Str.ofString ""] := by simpa [chkW, shapeS] using hW
    exact c_match hwl2 hyl (by simp) (by simp) (by intro w hw; simp only [List.mem_cons, List.not_mem_nil, or_false] at hw; rcases hw with rfl | rfl | rfl <;> assumption) (split_found (by rw [hs]; simp)) (parts_few _ _ _ hwl) hs ((s6 lp1).trans (m6 (hx := hx) (hy := hy) (hr := hr) (ha := hp) (hb := hq) (hA := hP [p]) (hB := hP [q]) (hE := hE))) B F X N T hk hd hu hret
  · have hs : Txt.split (wantS p q (7 : Int).toNat) (Str.ofString "...") = [Str.ofString "", codeS [p], codeS [q], Str.ofString ""] := by simpa [chkW, shapeS] using hW
    exact c_match hwl2 hyl (by simp) (by simp) (by intro w hw; simp only [List.mem_cons, List.not_mem_nil, or_false] at hw; rcases hw with rfl | rfl | rfl | rfl <;> assumption) (split_found (by rw [hs]; simp)) (parts_few _ _ _ hwl) hs (s7.trans (m7 (hx := hx) (hy := hy) (hr := hr) (ha := hp) (hb := hq) (hA := hP [p]) (hB := hP [q]) (hE := hE))) B F X N T hk hd hu hret
end
end Mine
end

section
open PySem PySem.W PySem.Calls PyProof.Rows PyProof.V PySem.Spec
namespace Mine
section
variable {w : World} {prog : Program} {A : Around} {E : Value → Shared → Prop} {s : Shared} {h₀ : Heap} {L : Addr} {m : Str → Option Value}
theorem compEnd2 {s₁ : Shared} {I C D : Addr} {oI oC oD : Obj} {S : List (Addr × Obj) → Prop} {rest : Value → List (Addr × Obj) → Prop} {y : Value} {h' : Heap} {tk : Nat} {p q : Addr} {op oq : Obj} {nw : List (Addr × Obj)}
    (F : Fr h₀ L h' m) (N : News h₀ L h' ((q, oq) :: (p, op) :: (I, oI) :: (C, oC) :: (D, oD) :: nw)) (l1 : ∀ x ∈ (I, oI) :: (C, oC) :: (D, oD) :: nw, x.1 < p) (l2 : @LT.lt Nat _ p q) (off : LCg.Off3 I C D nw)
    (hS : S ((q, oq) :: (p, op) :: nw)) (r : rest y ((q, oq) :: (p, op) :: nw)) : LCg.CompEnd h₀ L m s₁ I oI C oC D oD S rest y { s₁ with heap := h', toks := tk } := by
  have eI : @LT.lt Nat _ I p := l1 (I, oI) (.head _)
  have eC : @LT.lt Nat _ C p := l1 (C, oC) (.tail _ (.head _))
  have eD : @LT.lt Nat _ D p := l1 (D, oD) (.tail _ (.tail _ (.head _)))
  refine LCg.CompEnd.intro F N ((q, oq) :: (p, op) :: nw) ?_ ⟨⟨?_, ?_, ?_⟩, ⟨?_, ?_, ?_⟩, off⟩ hS r
  · intro x hx
    rcases List.mem_cons.mp hx with rfl | hx
    · exact .tail _ (.tail _ (.head _))
    rcases List.mem_cons.mp hx with rfl | hx
    · exact .tail _ (.tail _ (.tail _ (.head _)))
    rcases List.mem_cons.mp hx with rfl | hx
    · exact .tail _ (.tail _ (.tail _ (.tail _ (.head _))))
    rcases List.mem_cons.mp hx with rfl | hx
    · exact .head _
    rcases List.mem_cons.mp hx with rfl | hx
    · exact .tail _ (.head _)
    · exact .tail _ (.tail _ (.tail _ (.tail _ (.tail _ hx))))
  all_goals (dsimp only; lia)
end
end Mine
end

section
open PySem PySem.W PySem.Calls PyProof.Rows PyProof.V PySem.Spec PyProof.Rows.LCg
namespace Mine
section
variable {prog : Program} {w : World} {A : Around} {E : Value → Shared → Prop} {s : Shared} {h₀ : Heap} {L : Addr} {m : Str → Option Value} {env : Env}
theorem compRest_all {elt : Expr} {x : Str} {scope : Scope} {cl : List (Str × Addr)} {S : List (Addr × Obj) → Prop} {P : Nat → Value → Prop} {Fin : List Value → List (Addr × Obj) → Prop} {n : Nat} (J : Nat → List Value → List (Addr × Obj) → Prop)
    (step : ∀ i ys news v I oI C oC D m₂ h tk (E' : Value → Shared → Prop), i < n → J i ys news → P i v → NsObj oC m₂ → m₂ x = some v → Fr h₀ L h m → News h₀ L h ((I, oI) :: (C, oC) :: (D, lst ys) :: news) → Off3 I C D news → ((@Ne Nat I C) ∧ (@Ne Nat I D) ∧ (@Ne Nat C D)) →
      wpAny (model prog w) A (eval elt (compEnvC scope cl C env)) (CompEnd h₀ L m { s with heap := h, toks := tk } I oI C oC D (lst ys) S (fun y news' => J (i + 1) (ys ++ [y]) news')) E' { s with heap := h, toks := tk })
    (fin : ∀ ys news, J n ys news → Fin ys news) : ∀ k i ys news, i + k = n → J i ys news → CompRest prog w A h₀ L m env elt x scope cl s S P Fin k i ys news
  | 0, i, ys, news, e, hj => by
    have : i = n := by lia
    exact fin ys news (this ▸ hj)
  | k + 1, i, ys, news, e, hj => by
    refine CompRest.succ fun v I oI C oC D m₂ h tk E' hP hC hx F N off ne => ?_
    refine wpAny_mono (step i ys news v I oI C oC D m₂ h tk E' (by lia) hj hP hC hx F N off ne) (fun y s₂ q => ?_) fun _ _ e => e
    obtain ⟨h', tk', news', e', F', N', off', hS, hj'⟩ := q
    exact ⟨h', tk', news', e', F', N', off', hS, compRest_all J step fin k (i + 1) _ _ (by lia) hj'⟩

theorem ListComp_S {elt iter : Expr} {x : Str} {px : Pos} {scope : Scope} {cl : List (Str × Addr)} {pos : Pos} {Q : Value → Shared → Prop}
    (hclos : closureFor scope env = pure cl) (hcell : ∀ y ∈ scope.names, y.2 ≠ .cell) (hkind : scope.kind = .function)
    (hnames : ∀ y ∈ scope.names, y.2 = .local → scope.names.lookup y.1 = some .local) (hx : scope.names.lookup x = some .local)
    (h : wpAny (model prog w) A (eval iter env) (fun xv s₁ => ∃ str t news, xv = .str str t ∧ A.handled = none ∧ Fr h₀ L s₁.heap m ∧ News h₀ L s₁.heap news ∧ str.cps.size ≤ sizeLine ∧
      ∀ g, CompRest prog w A h₀ L m env elt x scope cl { s₁ with heap := g } (fun _ => True) (SignAt str) (FinE h₀ L m { s₁ with heap := g } Q) str.cps.size 0 [] news) E s)
    (hs : ∀ x, foldedSetIterable iter env x = pure x := by intro _; rfl) :
    wpAny (model prog w) A (eval (.ListComp elt [⟨.Name x px, iter, [], 0⟩] scope pos) env) Q E s := by
  rw [eval_ListComp]
  refine wpAny_comprehension_free (use := none) rfl hs hclos hkind hnames (wpAny_mono h (fun xv s₁ h₁ => ?_) fun _ _ e => e)
  obtain ⟨str, t, news, rfl, hh, F, N, hsz, R⟩ := h₁
  have up : ∀ (o : Obj) b o', s₁.heap.get? b = some o' → (s₁.heap.push o).get? b = some o' := fun _ _ _ e => Heap.get?_push_of_some _ e
  have key : ∀ (ty : String) (o : Obj), o.isFreed = false → o.cls = .type ty → o.data = .fields #[.str str t, .int 0 0] →
      Walks prog w A s₁.heap.objs.size [s₁.heap.objs.size] [s₁.heap.objs.size] str.cps.size (SignAt str) (fun i h => h.IsStrIter s₁.heap.objs.size ty str t i) →
      ∀ (RR : Value → Addr → Result → Shared → Prop) (_hRR : ∀ D C h tk m' ys news', Fr h₀ L h m → News h₀ L h ((D, lst ys) :: news') → Off1 D news' → h.Ns C m' → h₀.get? C = none → h₀.get? D = none → C ≠ L → D ≠ L → C ≠ D → (∀ p ∈ news', p.1 ≠ C) → FinE h₀ L m { s₁ with heap := s₁.heap.push o } Q ys news' → RR (.ref D) C (.ok .next) { { s₁ with heap := s₁.heap.push o } with heap := h, toks := tk }),
      wpAny (model prog w) A (newList []) (fun acc s₃ => wpAny (model prog w) A (newFunctionEnv scope env.globals cl [] env.qual none .none (some env)) (fun cenv s₄ =>
        codeAny (model prog w) A (.compStart (.ListComp elt [⟨.Name x px, iter, [], 0⟩] scope pos) 0 (.ref s₁.heap.objs.size) acc { cenv with scope := relabel scope env }) (RR acc cenv.locals) s₄) E s₃) E { s₁ with heap := s₁.heap.push o } := by
    intro ty o hfree hc hd W RR hRR
    refine block_U W hsz (fun i h st => by obtain ⟨o, e, _⟩ := st; exact ⟨o, e⟩) (fun i h h' o nw st e e' _ _ _ => by obtain ⟨o', q, r⟩ := st; rw [e] at q; cases q; exact ⟨o, e', r⟩) hcell hkind hx ⟨o, Heap.get?_push_size _ hfree, hc, hd⟩ (fun b hb => ?_)
      (F.keeps (up o)) (N.grown (up o)) (Nat.ne_of_lt F.ns.lt) (next_is_new F) (fun p hp => Nat.ne_of_lt (Heap.lt_size (N p hp).1)) trivial (R _) hRR
    rw [List.mem_singleton.mp hb]
    show s₁.heap.objs.size < (s₁.heap.push o).objs.size
    rw [Heap.size_push]; exact Nat.lt_succ_self _
  cases ha : str.cps.all (· < 128)
  · refine wpAny_pyIter_wide ha ?_
    refine key _ _ rfl rfl rfl (Walks.strWide hh _ str t) _ ?_
    intro D C h tk m' ys news' F' N' o1 hn hC₀ hD₀ hCL hDL hCD offC fin
    refine ⟨m', hn, fun h'' hs'' => fin D h'' tk (F'.change hs'' hCL hC₀) (fun p hp => ?_) o1⟩
    refine ⟨hs''.extBut _ _ ?_ (N' p hp).1, (N' p hp).2⟩
    rcases List.mem_cons.mp hp with rfl | hp
    · exact Ne.symm hCD
    · exact offC p hp
  · refine wpAny_pyIter_ascii ha ?_
    refine key _ _ rfl rfl rfl (Walks.strAscii hh _ str t) _ ?_
    intro D C h tk m' ys news' F' N' o1 hn hC₀ hD₀ hCL hDL hCD offC fin
    refine ⟨m', hn, fun h'' hs'' => fin D h'' tk (F'.change hs'' hCL hC₀) (fun p hp => ?_) o1⟩
    refine ⟨hs''.extBut _ _ ?_ (N' p hp).1, (N' p hp).2⟩
    rcases List.mem_cons.mp hp with rfl | hp
    · exact Ne.symm hCD
    · exact offC p hp
end
end Mine
end

section
theorem Mine.fresh_S1 : True := by
  w_top off
  exact trivial
open PySem PySem.W PySem.Calls PyProof.Rows
namespace Mine

section
variable {prog : Program} {w : World} {A : Around} {E : Value → Shared → Prop} {s : Shared} {h₀ : Heap} {L : Addr} {m : Str → Option Value} {env : Env}
open PyProof.Rows.LCg in
theorem ListComp_T {elt iter : Expr} {x : Str} {px : Pos} {scope : Scope} {cl : List (Str × Addr)} {pos : Pos} {Q : Value → Shared → Prop} (_F₀ : Fr h₀ L s.heap m)
    (hclos : closureFor scope env = pure cl) (hcell : ∀ y ∈ scope.names, y.2 ≠ .cell) (hkind : scope.kind = .function)
    (hnames : ∀ y ∈ scope.names, y.2 = .local → scope.names.lookup y.1 = some .local) (hx : scope.names.lookup x = some .local)
    (h : wpAny (model prog w) A (eval iter env) (fun xv s₁ => Stop (∃ str t news, xv = .str str t ∧ A.handled = none ∧ Fr h₀ L s₁.heap m ∧ News h₀ L s₁.heap news ∧ str.cps.size ≤ sizeLine ∧
      ∀ g, CompRest prog w A h₀ L m env elt x scope cl { s₁ with heap := g } (fun _ => True) (SignAt str) (FinE h₀ L m { s₁ with heap := g } Q) str.cps.size 0 [] news)) E s)
    (hs : ∀ x, foldedSetIterable iter env x = pure x := by intro _; rfl) :
    wpAny (model prog w) A (eval (.ListComp elt [⟨.Name x px, iter, [], 0⟩] scope pos) env) Q E s := ListComp_S hclos hcell hkind hnames hx h hs
end
theorem newsT3 {h₀ h : Heap} {L : Addr} {a b c : Addr × Obj} {l : List (Addr × Obj)} (N : News h₀ L h (a :: b :: c :: l)) : News h₀ L h l := fun p hp => N p (.tail _ (.tail _ (.tail _ hp)))
theorem TxAre.strs : ∀ {vs : List Value} {xs : List PySem.Str}, TxAre vs xs → ∃ l : List (PySem.Str × Tok), vs = strValues l ∧ l.map (·.1) = xs
  | _, _, .nil => ⟨[], rfl, rfl⟩
  | _, _, .cons (x := x) (t := t) h => by
    obtain ⟨l, e1, e2⟩ := h.strs
    exact ⟨(x, t) :: l, by rw [e1]; rfl, by rw [← e2]; rfl⟩
theorem TxAre.snoc {x : PySem.Str} {t : Tok} : ∀ {vs : List Value} {xs : List PySem.Str}, TxAre vs xs → TxAre (vs ++ [.str x t]) (xs ++ [x])
  | _, _, .nil => .cons .nil
  | _, _, .cons h => .cons h.snoc
theorem stopSign {M : Model} {A : Around} {Q : Value → Shared → Prop} {E : Value → Shared → Prop} {s : Shared} {a b : Expr} {d : Addr} {c : Nat} {t : Tok} (h : Stop (wpAny M A (subscriptTail a b (.ref d) (.str ⟨#[c]⟩ t)) Q E s)) : wpAny M A (subscriptTail a b (.ref d) (.str ⟨#[c]⟩ t)) Q E s := h
theorem sub_join {M : Model} {A : Around} {Q : Value → Shared → Prop} {E : Value → Shared → Prop} {s : Shared} {c : Sem Value} (X : PySem.Str) (go : ∀ Q' : Value → Shared → Prop, (∀ t' k', Q' (.str X t') { s with toks := k' }) → wpAny M A c Q' E s)
    (on : ∀ t' k', Q (.str X t') { s with toks := k' }) : wpAny M A c Q E s := go _ on
theorem ampb : (Str.ofString "b" : PySem.Str) = ⟨#[98]⟩ := by decide +kernel
theorem cs1 : codeS [38] = Str.ofString "&amp;" := by decide +kernel
theorem cs2 : codeS [60] = Str.ofString "&lt;" := by decide +kernel
theorem cs3 : codeS [62] = Str.ofString "&gt;" := by decide +kernel
theorem cs4 : codeS [34] = Str.ofString "&quot;" := by decide +kernel
theorem cs5 : codeS [13] = Str.ofString "&#13;" := by decide +kernel
theorem cs6 : codeS [10] = Str.ofString "&#10;" := by decide +kernel
theorem cs7 : codeS [9] = Str.ofString "&#09;" := by decide +kernel
theorem csb : codeS [98] = Str.ofString "b" := by decide +kernel
theorem join_codes : ∀ r : List Nat, (PySem.Str.join (Str.ofString "") (r.map fun c => codeS [c])).cps.toList = EE r
  | [] => by decide +kernel
  | [c] => by
    show (codeS [c]).cps.toList = EE [c]
    simp [codeS]
  | c :: d :: r => by
    have ih := join_codes (d :: r)
    show (codeS [c] ++ Str.ofString "" ++ PySem.Str.join (Str.ofString "") ((d :: r).map fun c => codeS [c])).cps.toList = EE (c :: d :: r)
    have e : (Str.ofString "" : PySem.Str).cps.toList = [] := by decide +kernel
    simp only [PySem.Str.cps_append, Array.toList_append, ih, e]
    simp [codeS, EE]
section
variable {w : World} {mean : ExcName → Option Value} {mg mb : Str → Option Value}
   {dp un : Nat} {gd : Option (List Code)} {cn : Str} {cs : Scope} {a : Addr} {ccd : Value} {cl : List (Str × Addr)} {outer : List Env} {A₀ : Around} {base h₀ : Heap} {L : Addr} {m : Str → Option Value} {news : List (Addr × Obj)} {s : Shared} {Q E : Value → Shared → Prop}
set_option maxRecDepth 100000
set_option maxHeartbeats 8000000
local macro_rules | `(tactic| walk_at "subscriptTail Name Name ref str") => `(tactic| (with_reducible refine stopSign ?_))
local macro_rules | `(tactic| walk_at "eval ListComp") => `(tactic| (refine Stop.go ?_))

theorem c_spell {x : PySem.Str} {t1 : Tok}
   (hx : ∀ c ∈ x.cps.toList, Sg c) (hxl : x.length ≤ 100)
   (B : Below A₀ base outer h₀) (F : Fr h₀ L s.heap m) (X : (Mine.hd.heap_39 w.params).In h₀) (N : News h₀ L s.heap news) (T : Top Mine.hd.view_39 (looseW Mine.hd.view_39 []) mean mg mb h₀) (hk : cs.kind = .function)
   (hd : dp + 20 < recursionLimit) (hu : un + 100 < cLine)
   (hret : ∀ t h' tk', Fr h₀ L h' m → News h₀ L h' news → Q (.str (esc7 x) t) { s with heap := h', toks := tk' }) :
   wpAny (model PySem.Challenge.rw_rw0038_01.row.toRowW.1 w) (ktrTop dp un gd cn cs L a ccd cl outer) (call (.ref 66) [.str x t1]) Q E s := by
  have hfill : PySem.Challenge.rw_rw0038_01 = PySem.Challenge.rw_rw0038_01 ∧ Mine.hd.heap_39 = Mine.hd.heap_39 := ⟨rfl, rfl⟩
  revert hfill
  k_fill
  intro _
  have hmark : KstMark := kstMark
  
  refine wpAny_call ?_
  (k_dflt (refine' code_defC ?k1 ?k2 ?k3 ?k4 ?k5 ?kA ?kF ?kK ?k6 ?k7 ?k8 ?k9 ?kB ?kD ?_ ?c2 ?c3 ?c4; (case kA => exact rfl); (case kF => exact rfl); (case kK => assumption); (case k1 => k_asm); (case k2 => k_asm); (case k3 => k_asm); (case k4 => k_asm); (case k5 => k_asm); (case k6 => k_is); (case k7 => k_is); (case k8 => ktr_room); (case k9 => exact BindsTo.of_eq rfl); (case kB => exact rfl); (case kD => decide +kernel); (case c2 => exact rfl); (case c3 => exact rfl); (case c4 => exact rfl); k_whole; intro g' L' h' tk' cells' FG' F' N' Y' B' X' T' l1; (try k_lt l1); k_cells Y'; (try simp only [List.cons_append, List.nil_append] at N'); (try dsimp only); (try k_lift B'); (try k_fold)))
  have l1b : ∀ p ∈ news, p.1 < L' + 1 := fun p hp => Nat.lt_succ_of_lt (l1 p hp)
  have l1c : ∀ p ∈ news, p.1 < L' + 1 + 1 := fun p hp => Nat.lt_succ_of_lt (l1b p hp)
  
  (k_steps; repeat' ((with_reducible show Stop _); refine Stop.on ?_; (first | with_reducible ((with_reducible show wpAny _ _ (PySem.eval _ _) _ _ _); (k_here; k_dflt (refine ListComp_T (by k_asm) (by with_unfolding_all rfl) (by decide) (by rfl) (by decide) (by rfl) ?_)))); k_steps))
  refine Stop.on ?_
  rename News _ _ _ _ => N1
  rename Fr _ _ _ _ => F1
  refine ⟨x, t1, _, rfl, rfl, F1, N1, (by rw [sizeLine_eq]; show x.length ≤ _; lia), fun g0 => ?_⟩
  refine compRest_all (n := x.cps.size) (fun i ys nw => nw = _ ∧ TxAre ys ((x.cps.toList.take i).map (fun c => codeS [c]))) ?step ?fin _ 0 [] _ (Nat.zero_add _) ⟨rfl, .nil⟩
  case step =>
    rintro i ys nw v I oI C oC D m₂ h9 tk9 E' hi ⟨rfl, hys⟩ ⟨c, u, hcx, rfl⟩ hC hm F2 N2 off ne
    have hct : x.cps.toList[i]? = some c := by rw [Array.getElem?_toList]; exact hcx
    have hcs := hx c (List.mem_of_getElem? hct)
    have e9 : (x.cps.toList.take (i + 1)).map (fun c => codeS [c]) = (x.cps.toList.take i).map (fun c => codeS [c]) ++ [codeS [c]] := take_step _ hct
    rw [e9]
    clear hret e9 hct hcx
    (try dsimp only)
    k_steps
    refine Stop.on ?_
    refine sub_join (codeS [c]) ?_ ?_
    · clear hys
      intro Q' hQ
      rcases hcs with rfl | rfl | rfl | rfl | rfl | rfl | rfl | rfl
      · rw [← amp1]; rw [cs1] at hQ; k_steps; exact hQ _ _
      · rw [← amp2]; rw [cs2] at hQ; k_steps; exact hQ _ _
      · rw [← amp3]; rw [cs3] at hQ; k_steps; exact hQ _ _
      · rw [← amp4]; rw [cs4] at hQ; k_steps; exact hQ _ _
      · rw [← amp5]; rw [cs5] at hQ; k_steps; exact hQ _ _
      · rw [← amp6]; rw [cs6] at hQ; k_steps; exact hQ _ _
      · rw [← amp7]; rw [cs7] at hQ; k_steps; exact hQ _ _
      · rw [← ampb]; rw [csb] at hQ; k_steps; exact hQ _ _
    · intro t' k'
      k_steps
      rename News _ _ _ _ => N9
      exact LCg.CompEnd.intro (by k_asm) N9 _ (fun _ h => h) off trivial ⟨rfl, hys.snoc⟩
  case fin =>
    rintro ys nw ⟨rfl, hys⟩
    obtain ⟨l9, rfl, e9⟩ := hys.strs
    (k_steps; repeat' ((with_reducible show Stop _); refine Stop.on ?_; (first | with_reducible ((with_reducible show wpAny _ _ (PySem.eval _ _) _ _ _); (k_here; k_dflt (refine ListComp_T (by k_asm) (by with_unfolding_all rfl) (by decide) (by rfl) (by decide) (by rfl) ?_)))); k_steps))
    rename News _ _ _ _ => N9
    refine SC.join (l := l9) (N9.isList (List.Mem.head _)) e9 ?ok ?_
    case ok =>
      unfold JoinOk
      have hB : ∀ y ∈ (x.cps.toList.take x.cps.size).map (fun c => codeS [c]), y.length ≤ 6 := by
        intro y hy
        obtain ⟨c, _, rfl⟩ := List.mem_map.mp hy
        show (codeS [c]).cps.toList.length ≤ 6
        simp [codeS, EE]
        exact (code_len c).2
      have hn : ((x.cps.toList.take x.cps.size).map fun c => codeS [c]).length ≤ 100 := by
        rw [List.length_map, List.length_take]
        have : x.cps.toList.length ≤ 100 := hxl
        lia
      have he : (Str.ofString "" : PySem.Str).length = 0 := by decide +kernel
      rw [StrLaws.joinFits hB (by rw [he]; lia)]
      rfl
    intro t9 k9
    rw [show Txt.join (Str.ofString "") ((x.cps.toList.take x.cps.size).map fun c => codeS [c]) = esc7 x from by
      apply PySem.Str.ext'
      rw [← Array.toList_inj, esc7_flat]
      show (Txt.join (Str.ofString "") _).cps.toList = EE _
      rw [← join_codes, show x.cps.toList.take x.cps.size = x.cps.toList from List.take_of_length_le (by simp)]
      unfold Txt.join
      rw [StrLaws.glued_eq_join]]
    (k_steps; repeat' ((with_reducible show Stop _); refine Stop.on ?_; (first | with_reducible ((with_reducible show wpAny _ _ (PySem.eval _ _) _ _ _); (k_here; k_dflt (refine ListComp_T (by k_asm) (by with_unfolding_all rfl) (by decide) (by rfl) (by decide) (by rfl) ?_)))); k_steps))
    exact hret _ _ _ (by k_asm) (newsT3 (by assumption))

end
end Mine
end

section
open PySem PySem.W PySem.Calls PyProof.Rows PyProof.V PySem.Spec
namespace Mine

section
variable {prog : Program} {w : World} {A : Around} {E : Value → Shared → Prop} {s : Shared} {env : Env} {h₀ : Heap} {target : Expr} {body : List Stmt} {Q : Flow → Shared → Prop}
theorem kt_fin {l : Addr} {lo : Obj} {stored : List Str} {m₀ : Str → Option Value} {J : List (Str × Value) → List (Addr × Obj) → Prop} {L : Addr} {m' : Str → Option Value} {own news' : List (Addr × Obj)} {s₁ : Shared} {h' : Heap} {tk : Nat}
    (F : Fr h₀ L h' m') (N : News h₀ L h' news') (ps : List (Str × Value)) (nx : List (Addr × Obj)) (hl : (l, lo) ∈ nx) (hk : ∀ p ∈ ps, m' p.1 = some p.2) (hr : ∀ z, (∀ p ∈ ps, z ≠ p.1) → stored.contains z = false → m' z = m₀ z)
    (hn : ∀ p ∈ nx, p ∈ news') (ho : ∀ p ∈ own, p ∈ news') (ha : OwnOff own (nx.map (·.1))) (hj : J ps nx) :
    InvEndG h₀ L (fun m' nx => (l, lo) ∈ nx ∧ KT stored m₀ J m' nx) own s₁ { s₁ with heap := h', toks := tk } := InvEndG.intro F N ⟨hl, ps, hk, hr, hj⟩ ha hn ho
end

inductive AllR {α : Type} (R : Value → α → Prop) : List Value → List α → Prop
  | nil : AllR R [] []
  | cons {v : Value} {x : α} {vs : List Value} {xs : List α} : R v x → AllR R vs xs → AllR R (v :: vs) (x :: xs)
section
variable {α : Type} {R R' : Value → α → Prop}
theorem AllR.mono (hs : ∀ v x, R v x → R' v x) {vs : List Value} {xs : List α} (h : AllR R vs xs) : AllR R' vs xs := by
  induction h with
  | nil => exact .nil
  | cons h _ ih => exact .cons (hs _ _ h) ih
theorem AllR.snoc {v : Value} {x : α} (h : R v x) {vs : List Value} {xs : List α} (t : AllR R vs xs) : AllR R (vs ++ [v]) (xs ++ [x]) := by
  induction t with
  | nil => exact .cons h .nil
  | cons h' _ ih => exact .cons h' ih
theorem AllR.len {vs : List Value} {xs : List α} (t : AllR R vs xs) : vs.length = xs.length := by
  induction t with
  | nil => rfl
  | cons _ _ ih => exact congrArg Nat.succ ih
theorem AllR.at {vs : List Value} {xs : List α} {i : Nat} (t : AllR R vs xs) : i < xs.length → ∃ v x, vs[i]? = some v ∧ xs[i]? = some x ∧ R v x := by
  induction t generalizing i with
  | nil => intro h; exact absurd h (Nat.not_lt_zero _)
  | @cons v x _ _ h _ ih =>
    intro hi
    cases i with
    | zero => exact ⟨v, x, rfl, rfl, h⟩
    | succ i => exact ih (i := i) (Nat.lt_of_succ_lt_succ hi)
end

noncomputable abbrev tupO (vs : List Value) : Obj := { cls := .type "tuple", data := .seq vs.toArray }
inductive Ent
  | say (x : PySem.Str) (b : Bool)
  | pic (m s v : Int)
inductive EntIn (news : List (Addr × Obj)) : Value → Ent → Prop
  | say {p : Addr} {x : PySem.Str} {b : Bool} {t : Tok} : (p, tupO [.str x t, .bool b, .bool (!b)]) ∈ news → EntIn news (.ref p) (.say x b)
  | pic {p q1 q2 : Addr} {m s v : Int} {t0 t1 t2 t3 t4 t5 : Tok} : (p, tupO [.ref q1, .ref q2]) ∈ news → (q1, tupO [.float (lightL m s v).1 t0, .float (lightL m s v).2.1 t1, .float (lightL m s v).2.2 t2]) ∈ news →
      (q2, tupO [.float (seenL m s v).1 t3, .float (seenL m s v).2.1 t4, .float (seenL m s v).2.2 t5]) ∈ news → (t0 ≠ 0 ∧ t1 ≠ 0 ∧ t2 ≠ 0) → (t3 ≠ 0 ∧ t4 ≠ 0 ∧ t5 ≠ 0) → EntIn news (.ref p) (.pic m s v)
inductive PtIn (news : List (Addr × Obj)) : Value → Int × Int × Int → Prop
  | mk {p : Addr} {m s v : Int} {t0 t1 t2 : Tok} : (p, tupO [.int m t0, .int s t1, .int v t2]) ∈ news → PtIn news (.ref p) (m, s, v)
inductive ClIn (news : List (Addr × Obj)) : Value → Int × Int × Int → Prop
  | mk {p : Addr} {m s v : Int} {t0 t1 t2 : Tok} : (p, tupO [.float (lightL m s v).1 t0, .float (lightL m s v).2.1 t1, .float (lightL m s v).2.2 t2]) ∈ news → t0 ≠ 0 → t1 ≠ 0 → t2 ≠ 0 → ClIn news (.ref p) (m, s, v)
inductive StIn : Value → PySem.Str → Prop
  | mk {x : PySem.Str} {t : Tok} : StIn (.str x t) x
theorem EntIn.mono {news news' : List (Addr × Obj)} (hs : ∀ p ∈ news, p ∈ news') : ∀ v e, EntIn news v e → EntIn news' v e
  | _, _, .say h => .say (hs _ h)
  | _, _, .pic h h1 h2 h3 h4 => .pic (hs _ h) (hs _ h1) (hs _ h2) h3 h4
theorem PtIn.mono {news news' : List (Addr × Obj)} (hs : ∀ p ∈ news, p ∈ news') : ∀ v e, PtIn news v e → PtIn news' v e
  | _, _, .mk h => .mk (hs _ h)
theorem ClIn.mono {news news' : List (Addr × Obj)} (hs : ∀ p ∈ news, p ∈ news') : ∀ v e, ClIn news v e → ClIn news' v e
  | _, _, .mk h h0 h1 h2 => .mk (hs _ h) h0 h1 h2

structure Sheet where
  pts : List (Int × Int × Int)
  rows : List PySem.Str
  told : List Ent
noncomputable def sgn3 (σ : List PySem.Str) (i : Int) : PySem.Str := σ.getD i.toNat (Str.ofString "")
noncomputable def markL (m : Int) : Int := (m * 3).fdiv 16
noncomputable def innerStep (σ : List PySem.Str) (row : PySem.Str) (st : (Int × Int × Int) × List Ent) (z : Int) : (Int × Int × Int) × List Ent :=
  let rx := row ++ sgn3 σ (markL st.1.1)
  let f := fitsL rx (sgn3 σ (z.fmod 3)) (sgn3 σ ((z.fdiv 3).fmod 3)) ((z.fdiv 9).fmod 8)
  (if f = true then turnL st.1.1 st.1.2.1 st.1.2.2 ((z.fdiv 72).fmod 32) ((z.fdiv 2304).fmod 6) ((z.fdiv 13824).fmod 5) else st.1, st.2 ++ [.say (esc7 rx) f])
noncomputable def upL (k y : Int) : Int := if k - 1 - y.fmod 3 > 0 then k - 1 - y.fmod 3 else 0
noncomputable def outerStep (σ : List PySem.Str) (zs : List Int) (k y : Int) (S : Sheet) : Sheet :=
  let p0 := S.pts.getD (upL k y).toNat (0, 4, 4)
  let row := S.rows.getD (upL k y).toNat (Str.ofString "")
  let r := zs.foldl (innerStep σ row) (turnL p0.1 p0.2.1 p0.2.2 ((y.fdiv 3).fmod 32) ((y.fdiv 96).fmod 6) ((y.fdiv 576).fmod 5), S.told)
  ⟨S.pts ++ [r.1], S.rows ++ [row ++ sgn3 σ (markL r.1.1)], r.2 ++ [.pic r.1.1 r.1.2.1 r.1.2.2]⟩
noncomputable def sheetL (σ : List PySem.Str) (ys zs : List Int) : Nat → Sheet
  | 0 => ⟨[(0, 4, 4)], [Str.ofString ""], []⟩
  | n + 1 => outerStep σ zs (1 + (n : Int)) (ys.getD n 0) (sheetL σ ys zs n)
noncomputable def SigOk (σ : List PySem.Str) : Prop := ∃ a b c, σ = [⟨#[a]⟩, ⟨#[b]⟩, ⟨#[c]⟩] ∧ Sg a ∧ Sg b ∧ Sg c
noncomputable def RowOk (n : Nat) (x : PySem.Str) : Prop := x.length ≤ n ∧ ∀ c ∈ x.cps.toList, Sg c
noncomputable def PtOk (p : Int × Int × Int) : Prop := PaintOk p.1 p.2.1 p.2.2
structure SheetOk (n : Nat) (S : Sheet) : Prop where
  plen : S.pts.length = n + 1
  rlen : S.rows.length = n + 1
  pok : ∀ p ∈ S.pts, PtOk p
  rok : ∀ x ∈ S.rows, RowOk n x
theorem sgn3_ok {σ : List PySem.Str} (h : SigOk σ) {i : Int} (h0 : 0 ≤ i) (h3 : i < 3) : ∃ a, sgn3 σ i = ⟨#[a]⟩ ∧ Sg a := by
  obtain ⟨a, b, c, rfl, ha, hb, hc⟩ := h
  have : i = 0 ∨ i = 1 ∨ i = 2 := by lia
  rcases this with rfl | rfl | rfl
  · exact ⟨a, rfl, ha⟩
  · exact ⟨b, rfl, hb⟩
  · exact ⟨c, rfl, hc⟩
theorem markL_lt {m s v : Int} (h : PaintOk m s v) : 0 ≤ markL m ∧ markL m < 3 := by
  unfold markL
  have := h.1
  have := h.2.1
  rw [Int.fdiv_eq_ediv_of_nonneg _ (by decide)]
  lia
theorem rowOk_add {σ : List PySem.Str} (h : SigOk σ) {n : Nat} {x : PySem.Str} (hx : RowOk n x) {i : Int} (h0 : 0 ≤ i) (h3 : i < 3) : RowOk (n + 1) (x ++ sgn3 σ i) := by
  obtain ⟨a, e, ha⟩ := sgn3_ok h h0 h3
  rw [e]
  refine ⟨?_, ?_⟩
  · rw [PySem.Str.length_append]; have := hx.1; show x.length + 1 ≤ n + 1; lia
  · intro c hc
    rw [PySem.Str.cps_append, Array.toList_append] at hc
    rcases List.mem_append.mp hc with hc | hc
    · exact hx.2 c hc
    · simp at hc; rw [hc]; exact ha
theorem turn_ok {m s v c0 c1 c2 : Int} (h : PaintOk m s v) (y0 y1 y2 : Int) (e0 : c0 = y0.fmod 32) (e1 : c1 = y1.fmod 6) (e2 : c2 = y2.fmod 5) :
    chgL (lightL m s v).1 (lightL m s v).2.1 (lightL m s v).2.2 c0 c1 c2 = some (lightL (turnL m s v c0 c1 c2).1 (turnL m s v c0 c1 c2).2.1 (turnL m s v c0 c1 c2).2.2) ∧ PtOk (turnL m s v c0 c1 c2) := by
  subst e0 e1 e2
  exact chg_light h ⟨fmod_lo _ (by decide), fmod_hi _ (by decide)⟩ ⟨fmod_lo _ (by decide), fmod_hi _ (by decide)⟩ ⟨fmod_lo _ (by decide), fmod_hi _ (by decide)⟩
theorem innerStep_ok {σ : List PySem.Str} {row : PySem.Str} {st : (Int × Int × Int) × List Ent} (z : Int) (h : PtOk st.1) : PtOk (innerStep σ row st z).1 := by
  unfold innerStep
  dsimp only
  split
  · exact (turn_ok h _ _ _ rfl rfl rfl).2
  · exact h
theorem inner_ok {σ : List PySem.Str} {row : PySem.Str} : ∀ (zs : List Int) {st : (Int × Int × Int) × List Ent}, PtOk st.1 → PtOk (zs.foldl (innerStep σ row) st).1
  | [], _, h => h
  | z :: zs, _, h => inner_ok zs (innerStep_ok z h)
theorem upL_bounds (k y : Int) (n : Nat) (hk : k = 1 + (n : Int)) : 0 ≤ upL k y ∧ (upL k y).toNat < n + 1 := by
  have := fmod_lo y (n := 3) (by decide)
  unfold upL
  split <;> lia
theorem sheet_ok {σ : List PySem.Str} (hσ : SigOk σ) (ys zs : List Int) : ∀ n, SheetOk n (sheetL σ ys zs n)
  | 0 => ⟨rfl, rfl, by
      intro p hp
      rw [List.mem_singleton.mp hp]
      unfold PtOk PaintOk
      decide, by
      intro x hx
      rw [List.mem_singleton.mp hx]
      exact ⟨by decide +kernel, by
        intro c hc
        rw [show (Str.ofString "" : PySem.Str).cps.toList = [] from by decide +kernel] at hc
        cases hc⟩⟩
  | n + 1 => by
    have ih := sheet_ok hσ ys zs n
    have hu := upL_bounds (1 + (n : Int)) (ys.getD n 0) n rfl
    generalize hS : sheetL σ ys zs n = S at ih
    show SheetOk (n + 1) (outerStep σ zs (1 + (n : Int)) (ys.getD n 0) (sheetL σ ys zs n))
    rw [hS]
    generalize ys.getD n 0 = y at hu
    have hp0 : PtOk (S.pts.getD (upL (1 + (n : Int)) y).toNat (0, 4, 4)) := by
      rw [List.getD_eq_getElem?_getD, List.getElem?_eq_getElem (by rw [ih.plen]; lia)]
      exact ih.pok _ (List.getElem_mem _)
    have hr0 : RowOk n (S.rows.getD (upL (1 + (n : Int)) y).toNat (Str.ofString "")) := by
      rw [List.getD_eq_getElem?_getD, List.getElem?_eq_getElem (by rw [ih.rlen]; lia)]
      exact ih.rok _ (List.getElem_mem _)
    unfold outerStep
    dsimp only
    generalize S.pts.getD (upL (1 + (n : Int)) y).toNat (0, 4, 4) = p0 at hp0
    generalize S.rows.getD (upL (1 + (n : Int)) y).toNat (Str.ofString "") = row at hr0
    have hp1 := (turn_ok hp0 (y.fdiv 3) (y.fdiv 96) (y.fdiv 576) rfl rfl rfl).2
    have hr := inner_ok (σ := σ) (row := row) zs (st := (turnL p0.1 p0.2.1 p0.2.2 ((y.fdiv 3).fmod 32) ((y.fdiv 96).fmod 6) ((y.fdiv 576).fmod 5), S.told)) hp1
    generalize List.foldl (innerStep σ row) (turnL p0.1 p0.2.1 p0.2.2 ((y.fdiv 3).fmod 32) ((y.fdiv 96).fmod 6) ((y.fdiv 576).fmod 5), S.told) zs = r at hr
    have hm := markL_lt hr
    refine ⟨by simp [ih.plen], by simp [ih.rlen], ?_, ?_⟩
    · intro p hp
      rcases List.mem_append.mp hp with hp | hp
      · exact ih.pok p hp
      · rw [List.mem_singleton.mp hp]; exact hr
    · intro x hx
      rcases List.mem_append.mp hx with hx | hx
      · exact ⟨Nat.le_succ_of_le (ih.rok x hx).1, (ih.rok x hx).2⟩
      · rw [List.mem_singleton.mp hx]; exact rowOk_add hσ hr0 hm.1 hm.2
end Mine
end

section
open PySem PySem.W PySem.Calls PyProof.Rows PyProof.V PySem.Spec
namespace Mine

theorem newsPerm {h₀ h : Heap} {L : Addr} {a b c d : Addr × Obj} {l : List (Addr × Obj)} (N : News h₀ L h (a :: b :: c :: d :: l)) : News h₀ L h (b :: c :: d :: a :: l) :=
  fun p hp => N p (by simp only [List.mem_cons] at hp ⊢; rcases hp with h | h | h | h | h <;> simp [h])
structure Led (x y z : Addr) (own tl : List (Addr × Obj)) : Prop where
  off : OwnOff tl [x, y, z]
  own3 : OwnOff own [x, y, z]
  ownT : OwnOff own (tl.map (·.1))
theorem Led.grow {x y z : Addr} {own tl : List (Addr × Obj)} (D : Led x y z own tl) : ∀ (new : List (Addr × Obj)), (∀ e ∈ new, (∀ p ∈ own, p.1 ≠ e.1) ∧ e.1 ≠ x ∧ e.1 ≠ y ∧ e.1 ≠ z) → Led x y z own (new ++ tl)
  | [], _ => D
  | e :: new, h => by
    have ih := D.grow new fun e he => h e (.tail _ he)
    obtain ⟨h1, h2, h3, h4⟩ := h e (.head _)
    refine ⟨?_, ih.own3, ?_⟩
    · intro p hp b hb
      rcases List.mem_cons.mp hp with rfl | hp
      · simp only [List.mem_cons, List.not_mem_nil, or_false] at hb
        rcases hb with rfl | rfl | rfl
        · exact h2
        · exact h3
        · exact h4
      · exact ih.off p hp b hb
    · intro p hp b hb
      rcases List.mem_cons.mp hb with rfl | hb
      · exact h1 p hp
      · exact ih.ownT p hp b hb
theorem Led.own {x y z : Addr} {own tl : List (Addr × Obj)} {ox oy oz : Obj} (D : Led x y z own tl) : OwnOff own (((x, ox) :: (y, oy) :: (z, oz) :: tl).map (·.1)) := by
  intro p hp b hb
  simp only [List.map_cons] at hb
  rcases List.mem_cons.mp hb with rfl | hb
  · exact D.own3 p hp _ (.head _)
  rcases List.mem_cons.mp hb with rfl | hb
  · exact D.own3 p hp _ (.tail _ (.head _))
  rcases List.mem_cons.mp hb with rfl | hb
  · exact D.own3 p hp _ (.tail _ (.tail _ (.head _)))
  · exact D.ownT p hp b hb
theorem Led.of {x y z : Addr} {own tl : List (Addr × Obj)} {ox oy oz : Obj} (h1 : OwnOff tl [x, y, z]) (h2 : OwnOff own (((x, ox) :: (y, oy) :: (z, oz) :: tl).map (·.1))) : Led x y z own tl := by
  refine ⟨h1, fun p hp b hb => h2 p hp b ?_, fun p hp b hb => h2 p hp b ?_⟩
  · simp only [List.mem_cons, List.not_mem_nil, or_false] at hb
    simp only [List.map_cons, List.mem_cons]
    rcases hb with rfl | rfl | rfl <;> simp
  · simp only [List.map_cons]
    exact .tail _ (.tail _ (.tail _ hb))
theorem cell_at {i : Nat} {c0 c1 c2 c3 c4 c5 c6 c7 c8 : Int} {t0 t1 t2 t3 t4 t5 t6 t7 t8 : Tok} (h : i < 5) : ∃ y t, [Value.int c0 t0, .int c1 t1, .int c2 t2, .int c3 t3, .int c4 t4, .int c5 t5, .int c6 t6, .int c7 t7, .int c8 t8][(1 + (i : Int)).toNat]? = some (.int y t) ∧ [c1, c2, c3, c4, c5].getD i 0 = y := by
  have : i = 0 ∨ i = 1 ∨ i = 2 ∨ i = 3 ∨ i = 4 := by lia
  rcases this with rfl | rfl | rfl | rfl | rfl <;> exact ⟨_, _, rfl, rfl⟩
theorem sign_at {x0 x1 x2 : PySem.Str} {u0 u1 u2 : Tok} {k : Int} (h0 : 0 ≤ k) (h3 : k < 3) : ∃ t, [Value.str x0 u0, .str x1 u1, .str x2 u2][k.toNat]? = some (.str (sgn3 [x0, x1, x2] k) t) := by
  have : k = 0 ∨ k = 1 ∨ k = 2 := by lia
  rcases this with rfl | rfl | rfl <;> exact ⟨_, rfl⟩
inductive RuIn (news : List (Addr × Obj)) : Value → Int → Prop
  | mk {q p : Addr} {z : Int} {t0 t1 t2 t3 t4 t5 : Tok} : (q, tupO [.int (z.fmod 3) t0, .int ((z.fdiv 3).fmod 3) t1, .int ((z.fdiv 9).fmod 8) t2, .ref p]) ∈ news → (p, tupO [.int ((z.fdiv 72).fmod 32) t3, .int ((z.fdiv 2304).fmod 6) t4, .int ((z.fdiv 13824).fmod 5) t5]) ∈ news → RuIn news (.ref q) z
theorem RuIn.mono {news news' : List (Addr × Obj)} (hs : ∀ p ∈ news, p ∈ news') : ∀ v e, RuIn news v e → RuIn news' v e
  | _, _, .mk h h1 => .mk (hs _ h) (hs _ h1)
theorem take_snoc {l : List Int} {i : Nat} {z : Int} (h : l[i]? = some z) : l.take (i + 1) = l.take i ++ [z] := by
  rw [List.take_add_one, h]; rfl

theorem offOf {x y z d : Addr} {od : Obj} {tl : List (Addr × Obj)} (hz : AllLt z tl) (hy : @LT.lt Nat _ z y ∧ AllLt y tl) (hx : @LT.lt Nat _ y x ∧ @LT.lt Nat _ z x ∧ AllLt x tl) (hd : @LT.lt Nat _ x d ∧ @LT.lt Nat _ y d ∧ @LT.lt Nat _ z d ∧ AllLt d tl) : OwnOff ((d, od) :: tl) [x, y, z] := by
  intro p hp b hb
  simp only [List.mem_cons, List.not_mem_nil, or_false] at hb
  rcases List.mem_cons.mp hp with rfl | hp
  · rcases hb with rfl | rfl | rfl
    · exact Nat.ne_of_gt hd.1
    · exact Nat.ne_of_gt hd.2.1
    · exact Nat.ne_of_gt hd.2.2.1
  · rcases hb with rfl | rfl | rfl
    · exact Nat.ne_of_lt (allLt_all hx.2.2 p hp)
    · exact Nat.ne_of_lt (allLt_all hy.2 p hp)
    · exact Nat.ne_of_lt (allLt_all hz p hp)
theorem offZY {y z : Addr} {tl : List (Addr × Obj)} (hy : @LT.lt Nat _ z y ∧ AllLt y tl) : @LT.lt Nat _ z y := hy.1
theorem offYX {x y z : Addr} {tl : List (Addr × Obj)} (hx : @LT.lt Nat _ y x ∧ @LT.lt Nat _ z x ∧ AllLt x tl) : @LT.lt Nat _ y x := hx.1
noncomputable def OutJ (x y z : Addr) (TL0 : List (Addr × Obj)) (rv : List Value) (σ : List PySem.Str) (ys zs : List Int) (i : Nat) (ps : List (Str × Value)) (nx : List (Addr × Obj)) : Prop :=
  ps = [] ∧ ∃ TV RV PV n1 n2 n3 tl, nx = (x, listOf (List.toArray TV) n1) :: (y, listOf (List.toArray RV) n2) :: (z, listOf (List.toArray PV) n3) :: tl ∧ OwnOff tl [x, y, z] ∧ (∀ p ∈ TL0, p ∈ tl) ∧ AllR (RuIn TL0) rv zs ∧
    AllR (EntIn tl) TV (sheetL σ ys zs i).told ∧ AllR StIn RV (sheetL σ ys zs i).rows ∧ AllR (PtIn tl) PV (sheetL σ ys zs i).pts ∧ TV.length ≤ 4 * i ∧ @LT.lt Nat _ z y ∧ @LT.lt Nat _ y x
theorem OutJ.ini {x y z : Addr} {TL0 : List (Addr × Obj)} {rv : List Value} {σ : List PySem.Str} {ys zs : List Int} {p : Value} {t : Tok} (hoff : OwnOff TL0 [x, y, z]) (hzy : @LT.lt Nat _ z y) (hyx : @LT.lt Nat _ y x) (hru : AllR (RuIn TL0) rv zs) (hp0 : PtIn TL0 p (0, 4, 4)) :
    OutJ x y z TL0 rv σ ys zs 0 [] ((x, listOf #[] 0) :: (y, listOf #[.str (Str.ofString "") t] 0) :: (z, listOf #[p] 0) :: TL0) :=
  ⟨rfl, [], [_], [_], 0, 0, 0, TL0, rfl, hoff, fun _ h => h, hru, .nil, .cons .mk .nil, .cons hp0 .nil, Nat.le_refl _, hzy, hyx⟩

theorem bndUp {p q : Addr} {l : List (Addr × Obj)} (h : ∀ x ∈ l, x.1 < p) (e : @LT.lt Nat _ p q) : ∀ x ∈ l, x.1 < q := fun x hx => Nat.lt_trans (h x hx) e
section
variable {w : World} {mean : ExcName → Option Value} {mg mb : Str → Option Value}
   {dp un : Nat} {gd : Option (List Code)} {cn : Str} {cs : Scope} {a : Addr} {ccd : Value} {cl : List (Str × Addr)} {outer : List Env} {A₀ : Around} {base h₀ : Heap} {L : Addr} {m : Str → Option Value} {news : List (Addr × Obj)} {s : Shared} {Q E : Value → Shared → Prop}
theorem c_turnedE {p q : Addr} {mm ss vv c0 c1 c2 y0 y1 y2 : Int} {t0 t1 t2 t3 t4 t5 : Tok} (hp : turnL mm ss vv c0 c1 c2 = (y0, y1, y2))
   (hc : (p, { cls := .type "tuple", data := .seq #[.int mm t0, .int ss t1, .int vv t2] }) ∈ news) (hch : (q, { cls := .type "tuple", data := .seq #[.int c0 t3, .int c1 t4, .int c2 t5] }) ∈ news)
   (B : Below A₀ base outer h₀) (F : Fr h₀ L s.heap m) (X : (Mine.hd.heap_39 w.params).In h₀) (N : News h₀ L s.heap news) (T : Top Mine.hd.view_39 (looseW Mine.hd.view_39 []) mean mg mb h₀) (hk : cs.kind = .function)
   (hd : dp + 4 < recursionLimit) (hu : un + 20 < cLine)
   (hret : ∀ q h' tk' u0 u1 u2, Fr h₀ L h' m → News h₀ L h' ((q, { cls := .type "tuple", data := .seq #[.int y0 u0, .int y1 u1, .int y2 u2] }) :: news) → (∀ p ∈ news, p.1 < q) → Q (.ref q) { s with heap := h', toks := tk' }) :
   wpAny (model PySem.Challenge.rw_rw0038_01.row.toRowW.1 w) (ktrTop dp un gd cn cs L a ccd cl outer) (call (.ref 99) [.ref p, .ref q]) Q E s :=
  c_turned hc hch B F X N T hk hd hu (by rw [hp]; exact hret)
end
section
variable {w : World} {mean : ExcName → Option Value} {mg mb : Str → Option Value}
   {dp un : Nat} {gd : Option (List Code)} {cn : Str} {cs : Scope} {a : Addr} {ccd : Value} {cl : List (Str × Addr)} {outer : List Env} {A₀ : Around} {base h₀ : Heap} {L : Addr} {m : Str → Option Value} {news : List (Addr × Obj)} {s : Shared} {Q E : Value → Shared → Prop}
theorem c_deedE {k y up : Int} {t1 t2 : Tok} (hp : upL k y = up)
   (B : Below A₀ base outer h₀) (F : Fr h₀ L s.heap m) (X : (Mine.hd.heap_39 w.params).In h₀) (N : News h₀ L s.heap news) (T : Top Mine.hd.view_39 (looseW Mine.hd.view_39 []) mean mg mb h₀) (hk : cs.kind = .function)
   (hd : dp + 4 < recursionLimit) (hu : un + 20 < cLine)
   (hret : ∀ q p h' tk' u0 u1 u2 u3, Fr h₀ L h' m → News h₀ L h' ((q, { cls := .type "tuple", data := .seq #[.int up u0, .ref p] }) :: (p, { cls := .type "tuple", data := .seq #[.int ((y.fdiv 3).fmod 32) u1, .int ((y.fdiv 96).fmod 6) u2, .int ((y.fdiv 576).fmod 5) u3] }) :: news) → (∀ x ∈ news, x.1 < p) → @LT.lt Nat _ p q → Q (.ref q) { s with heap := h', toks := tk' }) :
   wpAny (model PySem.Challenge.rw_rw0038_01.row.toRowW.1 w) (ktrTop dp un gd cn cs L a ccd cl outer) (call (.ref 73) [.int k t1, .int y t2]) Q E s := by
  subst hp
  exact c_deed B F X N T hk hd hu hret
end
theorem newsPerm2 {h₀ h : Heap} {L : Addr} {a b c x y z : Addr × Obj} {l : List (Addr × Obj)} (N : News h₀ L h (a :: b :: c :: x :: y :: z :: l)) : News h₀ L h (x :: y :: z :: a :: b :: c :: l) :=
  fun p hp => N p (by simp only [List.mem_cons] at hp ⊢; rcases hp with h | h | h | h | h | h | h <;> simp [h])
noncomputable def stL (σ : List PySem.Str) (row : PySem.Str) (zs : List Int) (st : (Int × Int × Int) × List Ent) (j : Nat) : (Int × Int × Int) × List Ent := (zs.take j).foldl (innerStep σ row) st
noncomputable def InJ (x y z : Addr) (own TL : List (Addr × Obj)) (RV PV : List Value) (n2 n3 B : Nat) (σ : List PySem.Str) (row : PySem.Str) (zs : List Int) (st : (Int × Int × Int) × List Ent) (j : Nat) (ps : List (Str × Value)) (nx : List (Addr × Obj)) : Prop :=
  ∃ q TV n1 tl, ps = [(Str.ofString "paint", .ref q)] ∧ nx = (x, listOf (List.toArray TV) n1) :: (y, listOf (List.toArray RV) n2) :: (z, listOf (List.toArray PV) n3) :: (tl ++ own) ∧ Led x y z own tl ∧ (∀ p ∈ TL, p ∈ tl) ∧
    PtIn tl (.ref q) (stL σ row zs st j).1 ∧ AllR (EntIn tl) TV (stL σ row zs st j).2 ∧ TV.length ≤ B + j
theorem InJ.ini {x y z q : Addr} {own TL tl : List (Addr × Obj)} {TV RV PV : List Value} {n1 n2 n3 B : Nat} {σ : List PySem.Str} {row : PySem.Str} {zs : List Int} {st : (Int × Int × Int) × List Ent}
    (D : Led x y z own tl) (hTL : ∀ p ∈ TL, p ∈ tl) (hp : PtIn tl (.ref q) st.1) (hT : AllR (EntIn tl) TV st.2) (hl : TV.length ≤ B) :
    InJ x y z own TL RV PV n2 n3 B σ row zs st 0 [(Str.ofString "paint", .ref q)] ((x, listOf (List.toArray TV) n1) :: (y, listOf (List.toArray RV) n2) :: (z, listOf (List.toArray PV) n3) :: (tl ++ own)) :=
  ⟨q, TV, n1, tl, rfl, rfl, D, hTL, hp, hT, hl⟩

theorem Led.grow3 {h₀ h : Heap} {L x y z : Addr} {own tl : List (Addr × Obj)} {a b c : Addr × Obj} {ox oy oz : Obj} (D : Led x y z own tl) (_N : News h₀ L h ((x, ox) :: (y, oy) :: (z, oz) :: a :: b :: c :: (tl ++ own)))
    (ha : (∀ p ∈ own, p.1 ≠ a.1) ∧ a.1 ≠ x ∧ a.1 ≠ y ∧ a.1 ≠ z) (hb : (∀ p ∈ own, p.1 ≠ b.1) ∧ b.1 ≠ x ∧ b.1 ≠ y ∧ b.1 ≠ z) (hc : (∀ p ∈ own, p.1 ≠ c.1) ∧ c.1 ≠ x ∧ c.1 ≠ y ∧ c.1 ≠ z) : Led x y z own (a :: b :: c :: tl) :=
  D.grow [a, b, c] (List.forall_mem_cons.mpr ⟨ha, List.forall_mem_cons.mpr ⟨hb, List.forall_mem_cons.mpr ⟨hc, List.forall_mem_nil _⟩⟩⟩)
theorem Led.tail3 {x y z : Addr} {own tl : List (Addr × Obj)} {a b c : Addr × Obj} (_ : Led x y z own (a :: b :: c :: tl)) : ∀ p ∈ tl, p ∈ a :: b :: c :: tl := fun _ hp => .tail _ (.tail _ (.tail _ hp))
theorem rulesMem {D : Addr} {vs : List Value} {tl own : List (Addr × Obj)} {a b c : Addr × Obj} (h : (D, LCg.lst vs) ∈ tl) : (D, listOf vs.toArray vs.length) ∈ a :: b :: c :: (tl ++ own) := .tail _ (.tail _ (.tail _ (List.mem_append_left _ h)))
theorem AllR.at2 {α : Type} {R : Value → α → Prop} {vs : List Value} {xs : List α} {i : Nat} {v : Value} (t : AllR R vs xs) : vs[i]? = some v → ∃ x, xs[i]? = some x ∧ R v x := by
  induction t generalizing i with
  | nil => intro h; cases h
  | @cons v' x _ _ h _ ih =>
    intro e
    cases i with
    | zero => cases e; exact ⟨x, rfl, h⟩
    | succ i => exact ih (i := i) e
theorem off3 {own l : List (Addr × Obj)} {a b c : Addr × Obj} (h : OwnOff own ((a :: b :: c :: l).map (·.1))) : OwnOff own [a.1, b.1, c.1] := by
  intro p hp x hx
  refine h p hp x ?_
  simp only [List.mem_cons, List.not_mem_nil, or_false] at hx
  simp only [List.map_cons, List.mem_cons]
  rcases hx with rfl | rfl | rfl <;> simp
theorem stL_ok {σ : List PySem.Str} {row : PySem.Str} {zs : List Int} {st : (Int × Int × Int) × List Ent} (h : PtOk st.1) (j : Nat) : PtOk (stL σ row zs st j).1 := inner_ok _ h
theorem stL_succ {σ : List PySem.Str} {row : PySem.Str} {zs : List Int} {st : (Int × Int × Int) × List Ent} {j : Nat} {z : Int} (h : zs[j]? = some z) : stL σ row zs st (j + 1) = innerStep σ row (stL σ row zs st j) z := by
  unfold stL
  rw [take_snoc h, List.foldl_append]; rfl
theorem sgn3_len {σ : List PySem.Str} (h : SigOk σ) {i : Int} (h0 : 0 ≤ i) (h3 : i < 3) : (sgn3 σ i).length = 1 := by
  obtain ⟨a, e, _⟩ := sgn3_ok h h0 h3
  rw [e]; rfl
theorem tupMem {l : Addr} {o : Obj} {tl own : List (Addr × Obj)} {a b c : Addr × Obj} (h : (l, o) ∈ tl) : (l, o) ∈ a :: b :: c :: (tl ++ own) := .tail _ (.tail _ (.tail _ (List.mem_append_left _ h)))

theorem in_end {h₀ h' : Heap} {L x y z l d q : Addr} {lo : Obj} {own own9 TL tl new : List (Addr × Obj)} {TV RV PV : List Value} {n1 n2 n3 B j tk : Nat} {σ : List PySem.Str} {row : PySem.Str} {zs : List Int} {st : (Int × Int × Int) × List Ent} {told2 : List Ent} {zz m2 s2 v2 : Int} {r : Bool}
    {m' m₀ : Str → Option Value} {s₁ : Shared} {stored : List Str} {ox oy oz : Obj}
    (F : Fr h₀ L h' m') (N : News h₀ L h' (new ++ ((x, listOf (TV.toArray.push (.ref d)) n1) :: (y, listOf (List.toArray RV) n2) :: (z, listOf (List.toArray PV) n3) :: (tl ++ own ++ own9))))
    (D : Led x y z own tl) (hoff : OwnOff own9 (((x, ox) :: (y, oy) :: (z, oz) :: (tl ++ own)).map (·.1)))
    (hnew : ∀ e ∈ new, @LT.lt Nat _ x e.1 ∧ @LT.lt Nat _ y e.1 ∧ @LT.lt Nat _ z e.1 ∧ AllLt e.1 (tl ++ own ++ own9))
    (hl : (l, lo) ∈ tl) (hTL : ∀ p ∈ TL, p ∈ tl) (hT : AllR (EntIn tl) TV told2) (hlT : TV.length ≤ B + j) (hz : zs[j]? = some zz) (hst : stL σ row zs st j = ((m2, s2, v2), told2))
    (hf : fitsL (row ++ sgn3 σ (markL m2)) (sgn3 σ (zz.fmod 3)) (sgn3 σ ((zz.fdiv 3).fmod 3)) ((zz.fdiv 9).fmod 8) = r)
    (hd : EntIn (new ++ tl) (.ref d) (.say (esc7 (row ++ sgn3 σ (markL m2))) r))
    (hq : PtIn (new ++ tl) (.ref q) (if r = true then turnL m2 s2 v2 ((zz.fdiv 72).fmod 32) ((zz.fdiv 2304).fmod 6) ((zz.fdiv 13824).fmod 5) else (m2, s2, v2)))
    (hk : ∀ p ∈ [(Str.ofString "paint", Value.ref q)], m' p.1 = some p.2) (hr : ∀ z, (∀ p ∈ [(Str.ofString "paint", Value.ref q)], z ≠ p.1) → stored.contains z = false → m' z = m₀ z) :
    InvEndG h₀ L (fun m' nx => (l, lo) ∈ nx ∧ KT stored m₀ (InJ x y z own TL RV PV n2 n3 B σ row zs st (j + 1)) m' nx) own9 s₁ { s₁ with heap := h', toks := tk } := by
  have below : ∀ e ∈ new, ∀ p ∈ tl ++ own ++ own9, p.1 < e.1 := fun e he => allLt_all (hnew e he).2.2.2
  have hD : Led x y z own (new ++ tl) := by
    refine D.grow new fun e he => ⟨fun p hp => Nat.ne_of_lt (below e he p (List.mem_append_left _ (List.mem_append_right _ hp))), Nat.ne_of_gt (hnew e he).1, Nat.ne_of_gt (hnew e he).2.1, Nat.ne_of_gt (hnew e he).2.2.1⟩
  have up : ∀ p ∈ tl, p ∈ new ++ tl := fun p hp => List.mem_append_right _ hp
  refine kt_fin F N [(Str.ofString "paint", .ref q)] ((x, listOf (List.toArray (TV ++ [.ref d])) n1) :: (y, listOf (List.toArray RV) n2) :: (z, listOf (List.toArray PV) n3) :: ((new ++ tl) ++ own)) (.tail _ (.tail _ (.tail _ (List.mem_append_left _ (up _ hl))))) hk hr ?_ ?_ ?_ ?_
  · intro p hp
    rw [← List.push_toArray] at hp
    simp only [List.mem_cons, List.mem_append] at hp ⊢
    rcases hp with h | h | h | (h | h) | h
    · exact .inr (.inl h)
    · exact .inr (.inr (.inl h))
    · exact .inr (.inr (.inr (.inl h)))
    · exact .inl h
    · exact .inr (.inr (.inr (.inr (.inl (.inl h)))))
    · exact .inr (.inr (.inr (.inr (.inl (.inr h)))))
  · intro p hp
    exact List.mem_append_right _ (.tail _ (.tail _ (.tail _ (List.mem_append_right _ hp))))
  · intro p hp b hb
    simp only [List.map_cons, List.map_append, List.mem_cons, List.mem_append, List.mem_map] at hb
    have ho := hoff p hp b
    simp only [List.map_cons, List.map_append, List.mem_cons, List.mem_append, List.mem_map] at ho
    rcases hb with h | h | h | (⟨e, he, rfl⟩ | h) | h
    · exact ho (.inl h)
    · exact ho (.inr (.inl h))
    · exact ho (.inr (.inr (.inl h)))
    · exact Nat.ne_of_lt (below e he p (List.mem_append_right _ hp))
    · exact ho (.inr (.inr (.inr (.inl h))))
    · exact ho (.inr (.inr (.inr (.inr h))))
  · have e1 : stL σ row zs st (j + 1) = (if r = true then turnL m2 s2 v2 ((zz.fdiv 72).fmod 32) ((zz.fdiv 2304).fmod 6) ((zz.fdiv 13824).fmod 5) else (m2, s2, v2), told2 ++ [.say (esc7 (row ++ sgn3 σ (markL m2))) r]) := by
      rw [stL_succ hz, hst]
      unfold innerStep
      dsimp only
      rw [hf]
    refine ⟨q, TV ++ [.ref d], n1, new ++ tl, rfl, rfl, hD, fun p hp => up p (hTL p hp), ?_, ?_, ?_⟩
    · rw [e1]; exact hq
    · rw [e1]; exact (hT.mono (EntIn.mono up)).snoc hd
    · rw [List.length_append]; exact Nat.succ_le_succ hlT

theorem out_end0 {h₀ h' : Heap} {L x y z d q : Addr} {E1 E2 E3 : Addr × Obj} {own TL0 tl : List (Addr × Obj)} {TV RV PV rv : List Value} {n1 n2 n3 i tk : Nat} {σ : List PySem.Str} {row : PySem.Str} {ys zs : List Int} {S : Sheet} {told2 : List Ent} {m2 s2 v2 : Int} {t ta tb tc : Tok}
    {m' m₀ : Str → Option Value} {s₁ : Shared} {stored : List Str} {k : Str}
    (F : Fr h₀ L h' m') (N : News h₀ L h' (E1 :: E2 :: E3 ::
      (x, listOf (TV.toArray.push (.ref d)) n1) :: (y, listOf (RV.toArray.push (.str (row ++ sgn3 σ (markL m2)) t)) n2) :: (z, listOf (PV.toArray.push (.ref q)) n3) :: (tl ++ own)))
    (D : Led x y z own tl) (b1 : @LT.lt Nat _ x E3.1 ∧ @LT.lt Nat _ y E3.1 ∧ @LT.lt Nat _ z E3.1 ∧ AllLt E3.1 (tl ++ own)) (b2 : @LT.lt Nat _ x E2.1 ∧ @LT.lt Nat _ y E2.1 ∧ @LT.lt Nat _ z E2.1 ∧ AllLt E2.1 (tl ++ own)) (b3 : @LT.lt Nat _ x E1.1 ∧ @LT.lt Nat _ y E1.1 ∧ @LT.lt Nat _ z E1.1 ∧ AllLt E1.1 (tl ++ own))
    (h0 : ∀ p ∈ TL0, p ∈ tl) (hru : AllR (RuIn TL0) rv zs) (hT : AllR (EntIn tl) TV told2) (hR : AllR StIn RV S.rows) (hP : AllR (PtIn tl) PV S.pts) (hlT : TV.length ≤ 4 * i + 3) (hzy : @LT.lt Nat _ z y) (hyx : @LT.lt Nat _ y x)
    (hq : (q, tupO [.int m2 ta, .int s2 tb, .int v2 tc]) ∈ tl) (hpic : EntIn (E1 :: E2 :: E3 :: tl) (.ref d) (.pic m2 s2 v2))
    (hS : sheetL σ ys zs (i + 1) = ⟨S.pts ++ [(m2, s2, v2)], S.rows ++ [row ++ sgn3 σ (markL m2)], told2 ++ [.pic m2 s2 v2]⟩)
    (hr : ∀ z, z ≠ k → (∀ p ∈ ([] : List (Str × Value)), z ≠ p.1) → stored.contains z = false → m' z = m₀ z) :
    InvEndG h₀ L (KS k stored m₀ (OutJ x y z TL0 rv σ ys zs (i + 1))) own s₁ { s₁ with heap := h', toks := tk } := by
  have tight : ∀ e : Addr × Obj, (@LT.lt Nat _ x e.1 ∧ @LT.lt Nat _ y e.1 ∧ @LT.lt Nat _ z e.1 ∧ AllLt e.1 (tl ++ own)) → (∀ p ∈ own, p.1 ≠ e.1) ∧ e.1 ≠ x ∧ e.1 ≠ y ∧ e.1 ≠ z := fun e he =>
    ⟨fun p hp => Nat.ne_of_lt (allLt_all he.2.2.2 p (List.mem_append_right _ hp)), Nat.ne_of_gt he.1, Nat.ne_of_gt he.2.1, Nat.ne_of_gt he.2.2.1⟩
  have hD := D.grow [E1, E2, E3] (List.forall_mem_cons.mpr ⟨tight _ b3, List.forall_mem_cons.mpr ⟨tight _ b2, List.forall_mem_cons.mpr ⟨tight _ b1, List.forall_mem_nil _⟩⟩⟩)
  have up : ∀ p ∈ tl, p ∈ E1 :: E2 :: E3 :: tl := fun p hp => .tail _ (.tail _ (.tail _ hp))
  rw [List.push_toArray, List.push_toArray, List.push_toArray] at N
  refine ks_end F N [] ((x, listOf (List.toArray (TV ++ [.ref d])) n1) :: (y, listOf (List.toArray (RV ++ [.str (row ++ sgn3 σ (markL m2)) t])) n2) :: (z, listOf (List.toArray (PV ++ [.ref q])) n3) :: E1 :: E2 :: E3 :: tl)
    (List.forall_mem_nil _) hr ?_ ?_ hD.own ?_
  · intro p hp
    rcases List.mem_cons.mp hp with rfl | hp
    · exact .tail _ (.tail _ (.tail _ (.head _)))
    rcases List.mem_cons.mp hp with rfl | hp
    · exact .tail _ (.tail _ (.tail _ (.tail _ (.head _))))
    rcases List.mem_cons.mp hp with rfl | hp
    · exact .tail _ (.tail _ (.tail _ (.tail _ (.tail _ (.head _)))))
    rcases List.mem_cons.mp hp with rfl | hp
    · exact .head _
    rcases List.mem_cons.mp hp with rfl | hp
    · exact .tail _ (.head _)
    rcases List.mem_cons.mp hp with rfl | hp
    · exact .tail _ (.tail _ (.head _))
    exact .tail _ (.tail _ (.tail _ (.tail _ (.tail _ (.tail _ (List.mem_append_left _ hp))))))
  · intro p hp
    exact .tail _ (.tail _ (.tail _ (.tail _ (.tail _ (.tail _ (List.mem_append_right _ hp))))))
  · refine ⟨rfl, TV ++ [.ref d], RV ++ [.str (row ++ sgn3 σ (markL m2)) t], PV ++ [.ref q], n1, n2, n3, _, rfl, hD.off, fun p hp => up p (h0 p hp), hru, ?_, ?_, ?_, ?_, hzy, hyx⟩
    · rw [hS]; exact (hT.mono (EntIn.mono up)).snoc hpic
    · rw [hS]; exact hR.snoc .mk
    · rw [hS]; exact (hP.mono (PtIn.mono up)).snoc (.mk (up _ hq))
    · rw [List.length_append]; show TV.length + 1 ≤ 4 * (i + 1); lia
theorem out_end {h₀ h' : Heap} {L x y z d q q1 q2 : Addr} {own TL0 tl : List (Addr × Obj)} {TV RV PV rv : List Value} {n1 n2 n3 i tk : Nat} {σ : List PySem.Str} {row : PySem.Str} {ys zs : List Int} {S : Sheet} {told2 : List Ent} {m2 s2 v2 : Int} {t ta tb tc t0 t1 t2 t3 t4 t5 : Tok}
    {m' m₀ : Str → Option Value} {s₁ : Shared} {stored : List Str} {k : Str}
    (F : Fr h₀ L h' m') (N : News h₀ L h' ((d, tupO [.ref q1, .ref q2]) :: (q2, tupO [.float (seenL m2 s2 v2).1 t3, .float (seenL m2 s2 v2).2.1 t4, .float (seenL m2 s2 v2).2.2 t5]) :: (q1, tupO [.float (lightL m2 s2 v2).1 t0, .float (lightL m2 s2 v2).2.1 t1, .float (lightL m2 s2 v2).2.2 t2]) ::
      (x, listOf (TV.toArray.push (.ref d)) n1) :: (y, listOf (RV.toArray.push (.str (row ++ sgn3 σ (markL m2)) t)) n2) :: (z, listOf (PV.toArray.push (.ref q)) n3) :: (tl ++ own)))
    (D : Led x y z own tl) (b1 : @LT.lt Nat _ x q1 ∧ @LT.lt Nat _ y q1 ∧ @LT.lt Nat _ z q1 ∧ AllLt q1 (tl ++ own)) (b2 : @LT.lt Nat _ x q2 ∧ @LT.lt Nat _ y q2 ∧ @LT.lt Nat _ z q2 ∧ AllLt q2 (tl ++ own)) (b3 : @LT.lt Nat _ x d ∧ @LT.lt Nat _ y d ∧ @LT.lt Nat _ z d ∧ AllLt d (tl ++ own))
    (h0 : ∀ p ∈ TL0, p ∈ tl) (hru : AllR (RuIn TL0) rv zs) (hT : AllR (EntIn tl) TV told2) (hR : AllR StIn RV S.rows) (hP : AllR (PtIn tl) PV S.pts) (hlT : TV.length ≤ 4 * i + 3) (hzy : @LT.lt Nat _ z y) (hyx : @LT.lt Nat _ y x)
    (hq : (q, tupO [.int m2 ta, .int s2 tb, .int v2 tc]) ∈ tl) (e1 : t0 ≠ 0 ∧ t1 ≠ 0 ∧ t2 ≠ 0) (e2 : t3 ≠ 0 ∧ t4 ≠ 0 ∧ t5 ≠ 0)
    (hS : sheetL σ ys zs (i + 1) = ⟨S.pts ++ [(m2, s2, v2)], S.rows ++ [row ++ sgn3 σ (markL m2)], told2 ++ [.pic m2 s2 v2]⟩)
    (hr : ∀ z, z ≠ k → (∀ p ∈ ([] : List (Str × Value)), z ≠ p.1) → stored.contains z = false → m' z = m₀ z) :
    InvEndG h₀ L (KS k stored m₀ (OutJ x y z TL0 rv σ ys zs (i + 1))) own s₁ { s₁ with heap := h', toks := tk } :=
  out_end0 F N D b1 b2 b3 h0 hru hT hR hP hlT hzy hyx hq (.pic (.head _) (.tail _ (.tail _ (.head _))) (.tail _ (.head _)) e1 e2) hS hr
end Mine
end

section
open PySem PySem.W PySem.Calls PyProof.Rows PyProof.V PySem.Spec PyProof.Rows.LCg PyProof.Rows.LCp
namespace Mine
open PyProof.Rows.LCg in
inductive CtSt (h₀ : Heap) (L : Addr) (m : Str → Option Value) (I C D ax : Addr) (s : Shared) (its : List Value) (J : Nat → List Value → List (Addr × Obj) → Prop) : Nat → Shared → Prop
  | mk {i : Nat} {h : Heap} {tk : Nat} {ys : List Value} {mC : Str → Option Value} {nx : List (Addr × Obj)} : 1 ≤ tk → i ≤ its.length → ys.length = i → h.IsListIter I ax i → Fr h₀ L h m → h.Ns C mC → News h₀ L h ((D, lst ys) :: nx) →
      (∀ p ∈ nx, p.1 ≠ I ∧ p.1 ≠ C ∧ p.1 ≠ D) → J i ys nx → CtSt h₀ L m I C D ax s its J (its.length - i) { s with heap := h, toks := tk }
section
variable {prog : Program} {w : World} {A : Around} {E : Value → Shared → Prop} {s : Shared} {h₀ : Heap} {L : Addr} {m : Str → Option Value} {env : Env}
theorem led_keep {h h' : Heap} {X : Addr} {nw : List (Addr × Obj)} (F : Fr h₀ L h m) (N : News h₀ L h nw) (hX : X ≠ L) (hX0 : h₀.get? X = none) (off : ∀ p ∈ nw, p.1 ≠ X) (k : ∀ b o, b ≠ X → h.get? b = some o → h'.get? b = some o) :
    Fr h₀ L h' m ∧ News h₀ L h' nw := by
  refine ⟨⟨F.ns.at' fun o e => k _ o (fun q => hX q.symm) e, fun b o e => k b o (fun q => ?_) (F.keep b o e), F.above⟩, fun p hp => ⟨k _ _ (off p hp) (N p hp).1, (N p hp).2⟩⟩
  rw [q, hX0] at e
  cases e
theorem store4 {e : Env} {x1 x2 x3 x4 : Str} {p1 p2 p3 p4 : Pos} {v1 v2 v3 v4 : Value} {mC : Str → Option Value} {Q : Unit → Shared → Prop}
    (k1 : e.kindOf x1 = some .local) (k2 : e.kindOf x2 = some .local) (k3 : e.kindOf x3 = some .local) (k4 : e.kindOf x4 = some .local) (hp : (e.scope.kind == .class || (e.scope.kind == .module && e.locals != e.globals)) = false)
    (n12 : x1 ≠ x2) (n13 : x1 ≠ x3) (n14 : x1 ≠ x4) (n23 : x2 ≠ x3) (n24 : x2 ≠ x4) (n34 : x3 ≠ x4) (hn : s.heap.Ns e.locals mC)
    (h : ∀ h' tk mC', h'.Ns e.locals mC' → mC' x1 = some v1 → mC' x2 = some v2 → mC' x3 = some v3 → mC' x4 = some v4 → (∀ b o, b ≠ e.locals → s.heap.get? b = some o → h'.get? b = some o) → Q () { s with heap := h', toks := tk }) :
    wpAny (model prog w) A (assignInOrder ((assignEach [.Name x1 p1, .Name x2 p2, .Name x3 p3, .Name x4 p4] e).map (·.2)) [v1, v2, v3, v4]) Q E s := by
  refine assignInOrder_cons (wpAny_assign_Name (wpAny_storeName_local k1 hn (fun h₁ hn₁ hs₁ => ?_) hp))
  refine assignInOrder_cons (wpAny_assign_Name (wpAny_storeName_local k2 hn₁ (fun h₂ hn₂ hs₂ => ?_) hp))
  refine assignInOrder_cons (wpAny_assign_Name (wpAny_storeName_local k3 hn₂ (fun h₃ hn₃ hs₃ => ?_) hp))
  refine assignInOrder_cons (wpAny_assign_Name (wpAny_storeName_local k4 hn₃ (fun h₄ hn₄ hs₄ => ?_) hp))
  refine assignInOrder_nil (h _ _ _ hn₄ ?_ ?_ ?_ ?_ fun b o hb e => hs₄.extBut b o hb (hs₃.extBut b o hb (hs₂.extBut b o hb (hs₁.extBut b o hb e))))
  · simp [n12, n13, n14]
  · simp [n23, n24]
  · simp [n34]
  · simp

theorem comp_turns {elt iter : Expr} {x1 x2 x3 x4 : Str} {p1 p2 p3 p4 tp : Pos} {xk} {scope : Scope} {pos : Pos} {cenv : Env} {R : Result → Shared → Prop} {I D ax : Addr} {its : List Value} {nn : Nat} {mC₀ : Str → Option Value} {nx₀ : List (Addr × Obj)} (J : Nat → List Value → List (Addr × Obj) → Prop)
    (hh : A.handled = none) (k1 : cenv.kindOf x1 = some .local) (k2 : cenv.kindOf x2 = some .local) (k3 : cenv.kindOf x3 = some .local) (k4 : cenv.kindOf x4 = some .local) (hp : (cenv.scope.kind == .class || (cenv.scope.kind == .module && cenv.locals != cenv.globals)) = false)
    (n12 : x1 ≠ x2) (n13 : x1 ≠ x3) (n14 : x1 ≠ x4) (n23 : x2 ≠ x3) (n24 : x2 ≠ x4) (n34 : x3 ≠ x4)
    (hIC : I ≠ cenv.locals) (hID : I ≠ D) (hCD : cenv.locals ≠ D) (hIL : I ≠ L) (hCL : cenv.locals ≠ L) (hDL : D ≠ L) (hI₀ : h₀.get? I = none) (hC₀ : h₀.get? cenv.locals = none) (hD₀ : h₀.get? D = none)
    (hit : s.heap.IsListIter I ax 0) (hn : s.heap.Ns cenv.locals mC₀) (F : Fr h₀ L s.heap m) (N : News h₀ L s.heap ((D, lst []) :: nx₀)) (off : ∀ p ∈ nx₀, p.1 ≠ I ∧ p.1 ≠ cenv.locals ∧ p.1 ≠ D) (hax : ∀ i ys nx, J i ys nx → (ax, listOf its.toArray nn) ∈ nx) (hsz : its.length ≤ sizeLine)
    (htup : ∀ i ys nx v, J i ys nx → its[i]? = some v → ∃ t v1 v2 v3 v4, v = .ref t ∧ (t, ({ cls := .type "tuple", data := .seq #[v1, v2, v3, v4] } : Obj)) ∈ nx) (hj : J 0 [] nx₀) (ht : 1 ≤ s.toks)
    (turn : ∀ i t v1 v2 v3 v4 ys nx oI oC mC h tk (E' : Value → Shared → Prop), its[i]? = some (.ref t) → (t, ({ cls := .type "tuple", data := .seq #[v1, v2, v3, v4] } : Obj)) ∈ nx → J i ys nx → 1 ≤ tk → NsObj oC mC → mC x1 = some v1 → mC x2 = some v2 → mC x3 = some v3 → mC x4 = some v4 →
      Fr h₀ L h m → News h₀ L h ((I, oI) :: (cenv.locals, oC) :: (D, lst ys) :: nx) → Off3 I cenv.locals D nx →
      wpAny (model prog w) A (eval elt cenv) (CompEnd h₀ L m { s with heap := h, toks := tk } I oI cenv.locals oC D (lst ys) (fun _ => True) (fun y nx' => J (i + 1) (ys ++ [y]) nx')) E' { s with heap := h, toks := tk })
    (done : ∀ h tk mC ys nx, 1 ≤ tk → J its.length ys nx → Fr h₀ L h m → h.Ns cenv.locals mC → News h₀ L h ((D, lst ys) :: nx) → (∀ p ∈ nx, p.1 ≠ cenv.locals) → (∀ p ∈ nx, p.1 ≠ D) → R (.ok .next) { s with heap := h, toks := tk }) :
    codeAny (model prog w) A (.compLoop (.ListComp elt [⟨.Tuple [.Name x1 p1, .Name x2 p2, .Name x3 p3, .Name x4 p4] xk tp, iter, [], 0⟩] scope pos) 0 (.ref I) (.ref D) cenv) R s := by
  refine codeAny_compLoop_pair (CtSt h₀ L m I cenv.locals D ax s its J)
    ?_ its.length (CtSt.mk (i := 0) ht (Nat.zero_le _) rfl hit F hn N off hj)
  intro k s' hst
  cases hst with
  | @mk i h tk ys mC nx ht hi hyl hit F hn N off hj =>
  have hls : ∀ g, News h₀ L g ((D, lst ys) :: nx) → g.IsList ax its.toArray := fun g M => ⟨_, (M _ (.tail _ (hax _ _ _ hj))).1, rfl, nn, rfl⟩
  have hxI : ax ≠ I := (off _ (hax _ _ _ hj)).1
  have W := Walks.list (prog := prog) (w := w) hh I ax hxI its.toArray
  rw [show its.toArray.size = its.length by simp] at W
  have offD : ∀ p ∈ (D, lst ys) :: nx, p.1 ≠ I := by
    intro p hp
    rcases List.mem_cons.mp hp with rfl | hp
    · exact Ne.symm hID
    · exact (off p hp).1
  have offC : ∀ p ∈ (D, lst ys) :: nx, p.1 ≠ cenv.locals := by
    intro p hp
    rcases List.mem_cons.mp hp with rfl | hp
    · exact Ne.symm hCD
    · exact (off p hp).2.1
  rcases Nat.lt_or_ge i its.length with hlt | hge
  · refine wpAny_with_toks ht (W.item i _ _ _ hlt ⟨hit, hls _ N⟩ fun v h₁ tk₁ hP hst₁ hk₁ ht₁ => ?_)
    have ht₁ : 1 ≤ tk₁ := ht₁
    have hv : its[i]? = some v := by simpa using hP
    obtain ⟨t, v1, v2, v3, v4, rfl, hmt⟩ := htup i ys nx v hj hv
    obtain ⟨F₁, N₁⟩ := led_keep F N hIL hI₀ offD fun b o hb e => hk₁ b o (fun q => hb (List.mem_singleton.mp q)) e
    have hn₁ : h₁.Ns cenv.locals mC := hn.at' fun o e => hk₁ _ o (fun q => hIC (List.mem_singleton.mp q).symm) e
    refine wpAny_letOwnedTupleGo_listiter hst₁.1 ?_
    refine assign_Tuple_tuple hh ⟨_, (N₁ _ (.tail _ hmt)).1, rfl, 0, rfl⟩ rfl rfl fun h₂ he => ?_
    have old2 : ∀ b o, h₁.get? b = some o → h₂.get? b = some o := fun b o e => he b o (Nat.ne_of_lt (Heap.lt_size e)) e
    refine wpAny_with_toks (n := 1) ht₁ (store4 k1 k2 k3 k4 hp n12 n13 n14 n23 n24 n34 (hn₁.at' fun o e => old2 _ o e) fun h₃ tk₃ mC' hn₃ e1 e2 e3 e4 hk₃ ht₃ => ?_)
    have ht₃ : 1 ≤ tk₃ := ht₃
    have old3 : ∀ b o, b ≠ cenv.locals → h₁.get? b = some o → h₃.get? b = some o := fun b o hb e => hk₃ b o hb (old2 b o e)
    obtain ⟨F₃, N₃⟩ := led_keep F₁ N₁ hCL hC₀ offC old3
    obtain ⟨oC, heC, hoC⟩ := ns_obj hn₃
    obtain ⟨oI, heI, hcI, hdI⟩ := hst₁.1
    have heI₃ := old3 I oI hIC heI
    have full : News h₀ L h₃ ((I, oI) :: (cenv.locals, oC) :: (D, lst ys) :: nx) := by
      intro p hp
      rcases List.mem_cons.mp hp with rfl | hp
      · exact ⟨heI₃, hIL, hI₀⟩
      rcases List.mem_cons.mp hp with rfl | hp
      · exact ⟨heC, hCL, hC₀⟩
      · exact N₃ p hp
    refine wpAny_mono (wpAny_toks_of (n := 1) ht₃ (turn i t v1 v2 v3 v4 ys nx oI oC mC' h₃ tk₃ _ hv hmt hj ht₃ hoC e1 e2 e3 e4 F₃ full (Off3.of off))) (fun y s₄ q => ?_) fun _ _ e => e.2
    obtain ⟨ht₄, h₄, tk₄, nx', rfl, F₄, N₄, off₄, -, hj₄⟩ := q
    have off4 := off₄.mem
    have zD := (N₄ _ (.tail _ (.tail _ (.head _)))).1
    have zC := (N₄ _ (.tail _ (.head _))).1
    have zI := (N₄ _ (.head _)).1
    refine append_at (hsz := by show ys.toArray.size ≤ sizeLine; rw [List.size_toArray, hyl]; lia) zD fun h₅ hs₅ hD₅ => ?_
    refine ⟨its.length - (i + 1), by lia, CtSt.mk (i := i + 1) ht₄ hlt (by rw [List.length_append, hyl]; rfl) ⟨oI, hs₅.extBut _ _ hID zI, hcI, hdI⟩ (F₄.change hs₅ hDL hD₀) ((hoC.ns zC).sameBut hs₅ hCD) ?_ off4 hj₄⟩
    intro p hp
    rcases List.mem_cons.mp hp with rfl | hp
    · exact ⟨hD₅.trans (congrArg some (lst_snoc ys y)), hDL, hD₀⟩
    · exact ⟨hs₅.extBut _ _ (off4 p hp).2.2 (N₄ p (.tail _ (.tail _ (.tail _ hp)))).1, (N₄ p (.tail _ (.tail _ (.tail _ hp)))).2⟩
  · have e : i = its.length := Nat.le_antisymm hi hge
    subst e
    refine wpAny_with_toks ht (W.done _ _ _ ⟨hit, hls _ N⟩ fun h₁ tk₁ hk₁ ht₁ => ?_)
    obtain ⟨F₁, N₁⟩ := led_keep F N hIL hI₀ offD fun b o hb e => hk₁ b o (fun q => hb (List.mem_singleton.mp q)) e
    exact done h₁ tk₁ mC ys nx ht₁ hj F₁ (hn.at' fun o e => hk₁ _ o (fun q => hIC (List.mem_singleton.mp q).symm) e) N₁ (fun p hp => (off p hp).2.1) fun p hp => (off p hp).2.2
end
end Mine
end

section
open PySem PySem.W PySem.Calls PyProof.Rows PyProof.V PySem.Spec PyProof.Rows.LCg PyProof.Rows.LCp
namespace Mine
section
variable {prog : Program} {w : World} {A : Around} {E : Value → Shared → Prop} {s : Shared} {h₀ : Heap} {L : Addr} {m : Str → Option Value} {env : Env}
inductive Comp4 (prog : Program) (w : World) (A : Around) (h₀ : Heap) (L : Addr) (m : Str → Option Value) (env : Env) (elt : Expr) (scope : Scope) (cl : List (Str × Addr)) (x1 x2 x3 x4 y : Str) (Q : Flow → Shared → Prop) : Value → Shared → Prop
  | mk {ax : Addr} {its : List Value} {nn : Nat} {nx₀ : List (Addr × Obj)} {s₁ : Shared} (J : Nat → List Value → List (Addr × Obj) → Prop) : A.handled = none → Fr h₀ L s₁.heap m → News h₀ L s₁.heap nx₀ → its.length ≤ sizeLine → (∀ i ys nx, J i ys nx → (ax, listOf its.toArray nn) ∈ nx) →
      (∀ i ys nx v, J i ys nx → its[i]? = some v → ∃ t v1 v2 v3 v4, v = .ref t ∧ (t, ({ cls := .type "tuple", data := .seq #[v1, v2, v3, v4] } : Obj)) ∈ nx) → J 0 [] nx₀ →
      (∀ I C D i t v1 v2 v3 v4 ys nx oI oC mC h tk (E' : Value → Shared → Prop) (Q' : Value → Shared → Prop), (∀ y s', CompEnd h₀ L m { s₁ with heap := h, toks := tk } I oI C oC D (lst ys) (fun _ => True) (fun y nx' => J (i + 1) (ys ++ [y]) nx') y s' → Q' y s') → its[i]? = some (.ref t) → (t, ({ cls := .type "tuple", data := .seq #[v1, v2, v3, v4] } : Obj)) ∈ nx → J i ys nx → 1 ≤ tk → NsObj oC mC → mC x1 = some v1 → mC x2 = some v2 → mC x3 = some v3 → mC x4 = some v4 →
        Fr h₀ L h m → News h₀ L h ((I, oI) :: (C, oC) :: (D, lst ys) :: nx) → Off3 I C D nx → ((@Ne Nat I C) ∧ (@Ne Nat I D) ∧ (@Ne Nat C D)) →
        wpAny (model prog w) A (eval elt (compEnvC scope cl C env)) Q' E' { s₁ with heap := h, toks := tk }) →
      (∀ D h tk ys nx, 1 ≤ tk → J its.length ys nx → Fr h₀ L h (fun z => if z = y then some (.ref D) else m z) → News h₀ L h ((D, lst ys) :: nx) → (∀ p ∈ nx, p.1 ≠ D) → Q .next { s₁ with heap := h, toks := tk }) →
      Comp4 prog w A h₀ L m env elt scope cl x1 x2 x3 x4 y Q (.ref ax) s₁
theorem assign_comp4 {elt iter : Expr} {x1 x2 x3 x4 y : Str} {p1 p2 p3 p4 tp py : Pos} {xk} {scope : Scope} {cl : List (Str × Addr)} {pos spos : Pos} {Q : Flow → Shared → Prop} (_F₀ : Fr h₀ L s.heap m) (hLe : env.locals = L) (ht : 1 ≤ s.toks)
    (hsw : swapsWith (.ListComp elt [⟨.Tuple [.Name x1 p1, .Name x2 p2, .Name x3 p3, .Name x4 p4] xk tp, iter, [], 0⟩] scope pos) (some (.Name y py)) spos.line env = pure true)
    (hclos : closureFor scope env = pure cl) (hcell : ∀ z ∈ scope.names, z.2 ≠ .cell) (hkind : scope.kind = .function)
    (hnames : ∀ z ∈ scope.names, z.2 = .local → scope.names.lookup z.1 = some .local) (k1 : scope.names.lookup x1 = some .local) (k2 : scope.names.lookup x2 = some .local) (k3 : scope.names.lookup x3 = some .local) (k4 : scope.names.lookup x4 = some .local)
    (n12 : x1 ≠ x2) (n13 : x1 ≠ x3) (n14 : x1 ≠ x4) (n23 : x2 ≠ x3) (n24 : x2 ≠ x4) (n34 : x3 ≠ x4)
    (hy : env.kindOf y = some .local) (hp : (env.scope.kind == .class || (env.scope.kind == .module && env.locals != env.globals)) = false)
    (h : wpAny (model prog w) A (eval iter env) (fun xv s₁ => Stop (1 ≤ s₁.toks → Comp4 prog w A h₀ L m env elt scope cl x1 x2 x3 x4 y Q xv s₁)) E s)
    (hs : ∀ x, foldedSetIterable iter env x = pure x := by intro _; rfl) :
    wpAny (model prog w) A (exec (.Assign [.Name y py] (.ListComp elt [⟨.Tuple [.Name x1 p1, .Name x2 p2, .Name x3 p3, .Name x4 p4] xk tp, iter, [], 0⟩] scope pos) spos) env) Q E s := by
  subst hLe
  rw [exec_Assign_Name_used _ _ _ _ hsw]
  refine wpAny_bind (wpAny_standAt (wpAny_bind ?_))
  show wpAny _ A (do let _ ← comprehension (.ListComp elt [⟨.Tuple [.Name x1 p1, .Name x2 p2, .Name x3 p3, .Name x4 p4] xk tp, iter, [], 0⟩] scope pos) scope env _ (newList []) false (eval iter env) (some (assign (.Name y py) env))) _ _ s
  refine wpAny_bind (wpAny_mono (wpAny_comprehension_free (use := some (assign (.Name y py) env)) (Q := fun _ s' => Q .next s') rfl hs hclos hkind hnames
    (wpAny_mono (wpAny_toks_of ht h) (fun xv s₁ h₁ => ?_) fun _ _ e => e.2)) (fun _ s' hq => wpAny_pure (wpAny_pure hq)) fun _ _ e => e)
  obtain ⟨ht₁, h₁⟩ := h₁
  cases h₁ ht₁ with
  | @mk ax its nn nx _ J hh F N hsz hax htup hj turn done =>
  have hol := (N _ (hax _ _ _ hj)).1
  refine wpAny_pyIter_list ⟨_, hol, rfl, nn, rfl⟩ ?_
  refine wpAny_newObj_type (wpAny_newFunctionEnv hcell (by intro y hy; simp at hy) (fun h₃ hn₃ hs₃ => ?_) hkind)
  dsimp only at hn₃ hs₃ ⊢
  -- the three new objects lie above all that was
  have e2 : (s₁.heap.push { cls := .type "list_iterator", data := .fields #[.ref ax, .int 0 0] }).objs.size = s₁.heap.objs.size + 1 := Heap.size_push ..
  generalize hH2 : s₁.heap.push { cls := .type "list_iterator", data := .fields #[.ref ax, .int 0 0] } = H2 at hn₃ hs₃ e2 ⊢
  have e3 : (H2.push { cls := .type "list", dict := none, data := .seq ([] : List Value).toArray }).objs.size = H2.objs.size + 1 := Heap.size_push ..
  generalize hH3 : H2.push { cls := .type "list", dict := none, data := .seq ([] : List Value).toArray } = H3 at hn₃ hs₃ e3 ⊢
  have ne : ∀ {a b : Nat}, a < b → a ≠ b := fun h => Nat.ne_of_lt h
  have ne' : ∀ {a b : Nat}, a < b → b ≠ a := fun h => Nat.ne_of_gt h
  have hL : @LT.lt Nat _ env.locals s₁.heap.objs.size := F.ns.lt
  have a2 : @LT.lt Nat _ s₁.heap.objs.size H2.objs.size := by lia
  have a3 : @LT.lt Nat _ H2.objs.size H3.objs.size := by lia
  have a4 : @LT.lt Nat _ s₁.heap.objs.size H3.objs.size := by lia
  have old : ∀ b o, s₁.heap.get? b = some o → h₃.get? b = some o := by
    intro b o e
    have hb := Heap.lt_size e
    refine hs₃.extBut b o (ne (Nat.lt_trans hb a4)) (Heap.get?_push_of_some _ ?_)
    rw [← hH3]
    refine Heap.get?_push_of_some _ ?_
    rw [← hH2]
    exact Heap.get?_push_of_some _ e
  have gI : h₃.get? s₁.heap.objs.size = some { cls := .type "list_iterator", data := .fields #[.ref ax, .int 0 0] } := by
    refine hs₃.extBut _ _ (ne a4) (Heap.get?_push_of_some _ ?_)
    rw [← hH3]
    refine Heap.get?_push_of_some _ ?_
    rw [← hH2]
    exact Heap.get?_push_size _ rfl
  have gD : h₃.get? H2.objs.size = some (lst []) := by
    refine hs₃.extBut _ _ (ne a3) (Heap.get?_push_of_some _ ?_)
    rw [← hH3]
    exact Heap.get?_push_size _ rfl
  have fresh : ∀ a, s₁.heap.objs.size ≤ a → h₀.get? a = none := by
    intro a ha
    cases e : h₀.get? a with
    | none => rfl
    | some o => exact absurd (Heap.lt_size (F.keep a o e)) (Nat.not_lt.mpr ha)
  have lo : ∀ p ∈ nx, p.1 < s₁.heap.objs.size := fun p hp => Heap.lt_size (N p hp).1
  have N₃ : News h₀ env.locals h₃ ((H2.objs.size, lst []) :: nx) := by
    intro p hp
    rcases List.mem_cons.mp hp with rfl | hp
    · exact ⟨gD, ne' (Nat.lt_trans hL a2), fresh _ (Nat.le_of_lt a2)⟩
    · exact ⟨old _ _ (N p hp).1, (N p hp).2⟩
  have loop : ∀ s₃ : Shared, s₃ = { s₁ with heap := h₃, toks := s₁.toks + ([] : List (Str × Value)).length } →
      codeAny (model prog w) A (.compLoop (.ListComp elt [⟨.Tuple [.Name x1 p1, .Name x2 p2, .Name x3 p3, .Name x4 p4] xk tp, iter, [], 0⟩] scope pos) 0 (.ref s₁.heap.objs.size) (.ref H2.objs.size) (compEnvC scope cl H3.objs.size env))
        (compPost (model prog w) A E (some (assign (.Name y py) env)) (fun _ s' => Q .next s') (.ref H2.objs.size) H3.objs.size) s₃ := by
    rintro s₃ rfl
    refine comp_turns (cenv := compEnvC scope cl H3.objs.size env) (m := m) (L := env.locals) (h₀ := h₀) (nx₀ := nx) J hh (lookup_relabel_local k1) (lookup_relabel_local k2) (lookup_relabel_local k3) (lookup_relabel_local k4) (by simp [compEnvC, relabel, hkind]) n12 n13 n14 n23 n24 n34
      (ne a4) (ne a2) (ne' a3) (ne' hL) (ne' (Nat.lt_trans hL a4)) (ne' (Nat.lt_trans hL a2)) (fresh _ (Nat.le_refl _)) (fresh _ (Nat.le_of_lt a4)) (fresh _ (Nat.le_of_lt a2))
      ⟨_, gI, rfl, rfl⟩ hn₃ (F.keeps old) N₃ (fun p hp => ⟨ne (lo p hp), ne (Nat.lt_trans (lo p hp) a4), ne (Nat.lt_trans (lo p hp) a2)⟩) hax hsz htup hj (Nat.le_trans ht₁ (Nat.le_add_right _ _)) ?_ ?_
    · intro i t v1 v2 v3 v4 ys nx' oI oC mC g tk E' a b c d e f1 f2 f3 f4 F' N' off'
      exact turn s₁.heap.objs.size H3.objs.size H2.objs.size i t v1 v2 v3 v4 ys nx' oI oC mC g tk E' _ (fun _ _ h => h) a b c d e f1 f2 f3 f4 F' N' off' ⟨ne a4, ne a2, ne' a3⟩
    · intro g tk mC ys nx' htk hj' F' hC N' offC offD
      show wpAny _ A (assign (.Name y py) env (.ref H2.objs.size)) _ _ _
      refine wpAny_assign_Name (wpAny_storeName_local hy F'.ns (fun g₂ hn₂ hs₂ => ?_) hp)
      have hCL : (compEnvC scope cl H3.objs.size env).locals ≠ env.locals := ne' (Nat.lt_trans hL a4)
      refine ⟨mC, hC.sameBut hs₂ hCL, fun g₃ hs₃ => ?_⟩
      have F₂ := F'.set hn₂ hs₂
      have N₂ : News h₀ env.locals g₂ ((H2.objs.size, lst ys) :: nx') := fun p hp => ⟨(hs₂.2 p.1 (N' p hp).2.1).trans (N' p hp).1, (N' p hp).2⟩
      have offC' : ∀ p ∈ (H2.objs.size, lst ys) :: nx', p.1 ≠ H3.objs.size := by
        intro p hp
        rcases List.mem_cons.mp hp with rfl | hp
        · exact ne a3
        · exact offC p hp
      obtain ⟨F₃, N₄⟩ := led_keep (X := H3.objs.size) F₂ N₂ hCL (fresh _ (Nat.le_of_lt a4)) offC' fun b o hb e => hs₃.extBut b o hb e
      exact done _ g₃ (tk + 1) ys nx' (Nat.le_succ_of_le htk) hj' F₃ N₄ offD
  have W := Walks.list (prog := prog) (w := w) hh s₁.heap.objs.size ax (Nat.ne_of_lt (Heap.lt_size hol)) its.toArray
  exact codeAny_compStart_list (loop _ rfl) (W.self 0 _ _ _ ⟨⟨_, gI, rfl, rfl⟩, ⟨_, old _ _ hol, rfl, nn, rfl⟩⟩ (loop _ rfl))
end
end Mine
end

section
open PySem PySem.W PySem.Calls PyProof.Rows PyProof.V PySem.Spec PyProof.Rows.LCg PyProof.Rows.LCp
namespace Mine
section
variable {prog : Program} {w : World} {A : Around} {E : Value → Shared → Prop} {s : Shared} {h₀ : Heap} {L : Addr} {m : Str → Option Value} {env : Env}
theorem comp_turns1 {elt iter : Expr} {x1 : Str} {p1 : Pos} {scope : Scope} {pos : Pos} {cenv : Env} {R : Result → Shared → Prop} {I D ax : Addr} {its : List Value} {nn : Nat} {mC₀ : Str → Option Value} {nx₀ : List (Addr × Obj)} (J : Nat → List Value → List (Addr × Obj) → Prop)
    (hh : A.handled = none) (k1 : cenv.kindOf x1 = some .local) (hp : (cenv.scope.kind == .class || (cenv.scope.kind == .module && cenv.locals != cenv.globals)) = false)
    (hIC : I ≠ cenv.locals) (hID : I ≠ D) (hCD : cenv.locals ≠ D) (hIL : I ≠ L) (hCL : cenv.locals ≠ L) (hDL : D ≠ L) (hI₀ : h₀.get? I = none) (hC₀ : h₀.get? cenv.locals = none) (hD₀ : h₀.get? D = none)
    (hit : s.heap.IsListIter I ax 0) (hn : s.heap.Ns cenv.locals mC₀) (F : Fr h₀ L s.heap m) (N : News h₀ L s.heap ((D, lst []) :: nx₀)) (off : ∀ p ∈ nx₀, p.1 ≠ I ∧ p.1 ≠ cenv.locals ∧ p.1 ≠ D) (hax : ∀ i ys nx, J i ys nx → (ax, listOf its.toArray nn) ∈ nx) (hsz : its.length ≤ sizeLine)
    (hj : J 0 [] nx₀) (ht : 1 ≤ s.toks)
    (turn : ∀ i v ys nx oI oC mC h tk (E' : Value → Shared → Prop), its[i]? = some v → J i ys nx → 1 ≤ tk → NsObj oC mC → mC x1 = some v →
      Fr h₀ L h m → News h₀ L h ((I, oI) :: (cenv.locals, oC) :: (D, lst ys) :: nx) → Off3 I cenv.locals D nx →
      wpAny (model prog w) A (eval elt cenv) (CompEnd h₀ L m { s with heap := h, toks := tk } I oI cenv.locals oC D (lst ys) (fun _ => True) (fun y nx' => J (i + 1) (ys ++ [y]) nx')) E' { s with heap := h, toks := tk })
    (done : ∀ h tk mC ys nx, 1 ≤ tk → J its.length ys nx → Fr h₀ L h m → h.Ns cenv.locals mC → News h₀ L h ((D, lst ys) :: nx) → (∀ p ∈ nx, p.1 ≠ cenv.locals) → (∀ p ∈ nx, p.1 ≠ D) → R (.ok .next) { s with heap := h, toks := tk }) :
    codeAny (model prog w) A (.compLoop (.ListComp elt [⟨.Name x1 p1, iter, [], 0⟩] scope pos) 0 (.ref I) (.ref D) cenv) R s := by
  refine codeAny_compLoop_list (CtSt h₀ L m I cenv.locals D ax s its J)
    ?_ its.length (CtSt.mk (i := 0) ht (Nat.zero_le _) rfl hit F hn N off hj)
  intro k s' hst
  cases hst with
  | @mk i h tk ys mC nx ht hi hyl hit F hn N off hj =>
  have hls : ∀ g, News h₀ L g ((D, lst ys) :: nx) → g.IsList ax its.toArray := fun g M => ⟨_, (M _ (.tail _ (hax _ _ _ hj))).1, rfl, nn, rfl⟩
  have hxI : ax ≠ I := (off _ (hax _ _ _ hj)).1
  have W := Walks.list (prog := prog) (w := w) hh I ax hxI its.toArray
  rw [show its.toArray.size = its.length by simp] at W
  have offD : ∀ p ∈ (D, lst ys) :: nx, p.1 ≠ I := by
    intro p hp
    rcases List.mem_cons.mp hp with rfl | hp
    · exact Ne.symm hID
    · exact (off p hp).1
  have offC : ∀ p ∈ (D, lst ys) :: nx, p.1 ≠ cenv.locals := by
    intro p hp
    rcases List.mem_cons.mp hp with rfl | hp
    · exact Ne.symm hCD
    · exact (off p hp).2.1
  rcases Nat.lt_or_ge i its.length with hlt | hge
  · refine wpAny_with_toks ht (W.item i _ _ _ hlt ⟨hit, hls _ N⟩ fun v h₁ tk₁ hP hst₁ hk₁ ht₁ => ?_)
    have ht₁ : 1 ≤ tk₁ := ht₁
    have hv : its[i]? = some v := by simpa using hP
    obtain ⟨F₁, N₁⟩ := led_keep F N hIL hI₀ offD fun b o hb e => hk₁ b o (fun q => hb (List.mem_singleton.mp q)) e
    have hn₁ : h₁.Ns cenv.locals mC := hn.at' fun o e => hk₁ _ o (fun q => hIC (List.mem_singleton.mp q).symm) e
    refine wpAny_assign_Name (wpAny_storeName_local k1 hn₁ (fun h₃ hn₃ hs₃ => ?_) hp)
    have ht₃ : 1 ≤ tk₁ + 1 := Nat.le_succ_of_le ht₁
    have old3 : ∀ b o, b ≠ cenv.locals → h₁.get? b = some o → h₃.get? b = some o := fun b o hb e => hs₃.extBut b o hb e
    obtain ⟨F₃, N₃⟩ := led_keep F₁ N₁ hCL hC₀ offC old3
    obtain ⟨oC, heC, hoC⟩ := ns_obj hn₃
    obtain ⟨oI, heI, hcI, hdI⟩ := hst₁.1
    have heI₃ := old3 I oI hIC heI
    have full : News h₀ L h₃ ((I, oI) :: (cenv.locals, oC) :: (D, lst ys) :: nx) := by
      intro p hp
      rcases List.mem_cons.mp hp with rfl | hp
      · exact ⟨heI₃, hIL, hI₀⟩
      rcases List.mem_cons.mp hp with rfl | hp
      · exact ⟨heC, hCL, hC₀⟩
      · exact N₃ p hp
    refine wpAny_mono (wpAny_toks_of (n := 1) ht₃ (turn i v ys nx oI oC _ h₃ (tk₁ + 1) _ hv hj ht₃ hoC (by simp) F₃ full (Off3.of off))) (fun y s₄ q => ?_) fun _ _ e => e.2
    obtain ⟨ht₄, h₄, tk₄, nx', rfl, F₄, N₄, off₄, -, hj₄⟩ := q
    have off4 := off₄.mem
    have zD := (N₄ _ (.tail _ (.tail _ (.head _)))).1
    have zC := (N₄ _ (.tail _ (.head _))).1
    have zI := (N₄ _ (.head _)).1
    refine append_at (hsz := by show ys.toArray.size ≤ sizeLine; rw [List.size_toArray, hyl]; lia) zD fun h₅ hs₅ hD₅ => ?_
    refine ⟨its.length - (i + 1), by lia, CtSt.mk (i := i + 1) ht₄ hlt (by rw [List.length_append, hyl]; rfl) ⟨oI, hs₅.extBut _ _ hID zI, hcI, hdI⟩ (F₄.change hs₅ hDL hD₀) ((hoC.ns zC).sameBut hs₅ hCD) ?_ off4 hj₄⟩
    intro p hp
    rcases List.mem_cons.mp hp with rfl | hp
    · exact ⟨hD₅.trans (congrArg some (lst_snoc ys y)), hDL, hD₀⟩
    · exact ⟨hs₅.extBut _ _ (off4 p hp).2.2 (N₄ p (.tail _ (.tail _ (.tail _ hp)))).1, (N₄ p (.tail _ (.tail _ (.tail _ hp)))).2⟩
  · have e : i = its.length := Nat.le_antisymm hi hge
    subst e
    refine wpAny_with_toks ht (W.done _ _ _ ⟨hit, hls _ N⟩ fun h₁ tk₁ hk₁ ht₁ => ?_)
    obtain ⟨F₁, N₁⟩ := led_keep F N hIL hI₀ offD fun b o hb e => hk₁ b o (fun q => hb (List.mem_singleton.mp q)) e
    exact done h₁ tk₁ mC ys nx ht₁ hj F₁ (hn.at' fun o e => hk₁ _ o (fun q => hIC (List.mem_singleton.mp q).symm) e) N₁ (fun p hp => (off p hp).2.1) fun p hp => (off p hp).2.2
inductive Comp1 (prog : Program) (w : World) (A : Around) (h₀ : Heap) (L : Addr) (m : Str → Option Value) (env : Env) (elt : Expr) (scope : Scope) (cl : List (Str × Addr)) (x1 y : Str) (Q : Flow → Shared → Prop) : Value → Shared → Prop
  | mk {ax : Addr} {its : List Value} {nn : Nat} {nx₀ : List (Addr × Obj)} {s₁ : Shared} (J : Nat → List Value → List (Addr × Obj) → Prop) : 1 ≤ s₁.toks → A.handled = none → Fr h₀ L s₁.heap m → News h₀ L s₁.heap nx₀ → its.length ≤ sizeLine → (∀ i ys nx, J i ys nx → (ax, listOf its.toArray nn) ∈ nx) →
      J 0 [] nx₀ →
      (∀ I C D i v ys nx oI oC mC h tk (E' : Value → Shared → Prop) (Q' : Value → Shared → Prop), (∀ y s', CompEnd h₀ L m { s₁ with heap := h, toks := tk } I oI C oC D (lst ys) (fun _ => True) (fun y nx' => J (i + 1) (ys ++ [y]) nx') y s' → Q' y s') → its[i]? = some v → J i ys nx → 1 ≤ tk → NsObj oC mC → mC x1 = some v →
        Fr h₀ L h m → News h₀ L h ((I, oI) :: (C, oC) :: (D, lst ys) :: nx) → Off3 I C D nx → ((@Ne Nat I C) ∧ (@Ne Nat I D) ∧ (@Ne Nat C D)) →
        wpAny (model prog w) A (eval elt (compEnvC scope cl C env)) Q' E' { s₁ with heap := h, toks := tk }) →
      (∀ D h tk ys nx, 1 ≤ tk → J its.length ys nx → Fr h₀ L h (fun z => if z = y then some (.ref D) else m z) → News h₀ L h ((D, lst ys) :: nx) → (∀ p ∈ nx, p.1 ≠ D) → Q .next { s₁ with heap := h, toks := tk }) →
      Comp1 prog w A h₀ L m env elt scope cl x1 y Q (.ref ax) s₁
theorem assign_comp1 {elt iter : Expr} {x1 y : Str} {p1 py : Pos} {scope : Scope} {cl : List (Str × Addr)} {pos spos : Pos} {Q : Flow → Shared → Prop} (_F₀ : Fr h₀ L s.heap m) (hLe : env.locals = L)
    (hsw : swapsWith (.ListComp elt [⟨.Name x1 p1, iter, [], 0⟩] scope pos) (some (.Name y py)) spos.line env = pure true)
    (hclos : closureFor scope env = pure cl) (hcell : ∀ z ∈ scope.names, z.2 ≠ .cell) (hkind : scope.kind = .function)
    (hnames : ∀ z ∈ scope.names, z.2 = .local → scope.names.lookup z.1 = some .local) (k1 : scope.names.lookup x1 = some .local)
    (hy : env.kindOf y = some .local) (hp : (env.scope.kind == .class || (env.scope.kind == .module && env.locals != env.globals)) = false)
    (h : wpAny (model prog w) A (eval iter env) (fun xv s₁ => Stop (Comp1 prog w A h₀ L m env elt scope cl x1 y Q xv s₁)) E s)
    (hs : ∀ x, foldedSetIterable iter env x = pure x := by intro _; rfl) :
    wpAny (model prog w) A (exec (.Assign [.Name y py] (.ListComp elt [⟨.Name x1 p1, iter, [], 0⟩] scope pos) spos) env) Q E s := by
  subst hLe
  rw [exec_Assign_Name_used _ _ _ _ hsw]
  refine wpAny_bind (wpAny_standAt (wpAny_bind ?_))
  show wpAny _ A (do let _ ← comprehension (.ListComp elt [⟨.Name x1 p1, iter, [], 0⟩] scope pos) scope env _ (newList []) false (eval iter env) (some (assign (.Name y py) env))) _ _ s
  refine wpAny_bind (wpAny_mono (wpAny_comprehension_free (use := some (assign (.Name y py) env)) (Q := fun _ s' => Q .next s') rfl hs hclos hkind hnames
    (wpAny_mono h (fun xv s₁ h₁ => ?_) fun _ _ e => e)) (fun _ s' hq => wpAny_pure (wpAny_pure hq)) fun _ _ e => e)
  cases h₁ with
  | @mk ax its nn nx _ J ht₁ hh F N hsz hax hj turn done =>
  have hol := (N _ (hax _ _ _ hj)).1
  refine wpAny_pyIter_list ⟨_, hol, rfl, nn, rfl⟩ ?_
  refine wpAny_newObj_type (wpAny_newFunctionEnv hcell (by intro y hy; simp at hy) (fun h₃ hn₃ hs₃ => ?_) hkind)
  dsimp only at hn₃ hs₃ ⊢
  -- the three new objects lie above all that was
  have e2 : (s₁.heap.push { cls := .type "list_iterator", data := .fields #[.ref ax, .int 0 0] }).objs.size = s₁.heap.objs.size + 1 := Heap.size_push ..
  generalize hH2 : s₁.heap.push { cls := .type "list_iterator", data := .fields #[.ref ax, .int 0 0] } = H2 at hn₃ hs₃ e2 ⊢
  have e3 : (H2.push { cls := .type "list", dict := none, data := .seq ([] : List Value).toArray }).objs.size = H2.objs.size + 1 := Heap.size_push ..
  generalize hH3 : H2.push { cls := .type "list", dict := none, data := .seq ([] : List Value).toArray } = H3 at hn₃ hs₃ e3 ⊢
  have ne : ∀ {a b : Nat}, a < b → a ≠ b := fun h => Nat.ne_of_lt h
  have ne' : ∀ {a b : Nat}, a < b → b ≠ a := fun h => Nat.ne_of_gt h
  have hL : @LT.lt Nat _ env.locals s₁.heap.objs.size := F.ns.lt
  have a2 : @LT.lt Nat _ s₁.heap.objs.size H2.objs.size := by lia
  have a3 : @LT.lt Nat _ H2.objs.size H3.objs.size := by lia
  have a4 : @LT.lt Nat _ s₁.heap.objs.size H3.objs.size := by lia
  have old : ∀ b o, s₁.heap.get? b = some o → h₃.get? b = some o := by
    intro b o e
    have hb := Heap.lt_size e
    refine hs₃.extBut b o (ne (Nat.lt_trans hb a4)) (Heap.get?_push_of_some _ ?_)
    rw [← hH3]
    refine Heap.get?_push_of_some _ ?_
    rw [← hH2]
    exact Heap.get?_push_of_some _ e
  have gI : h₃.get? s₁.heap.objs.size = some { cls := .type "list_iterator", data := .fields #[.ref ax, .int 0 0] } := by
    refine hs₃.extBut _ _ (ne a4) (Heap.get?_push_of_some _ ?_)
    rw [← hH3]
    refine Heap.get?_push_of_some _ ?_
    rw [← hH2]
    exact Heap.get?_push_size _ rfl
  have gD : h₃.get? H2.objs.size = some (lst []) := by
    refine hs₃.extBut _ _ (ne a3) (Heap.get?_push_of_some _ ?_)
    rw [← hH3]
    exact Heap.get?_push_size _ rfl
  have fresh : ∀ a, s₁.heap.objs.size ≤ a → h₀.get? a = none := by
    intro a ha
    cases e : h₀.get? a with
    | none => rfl
    | some o => exact absurd (Heap.lt_size (F.keep a o e)) (Nat.not_lt.mpr ha)
  have lo : ∀ p ∈ nx, p.1 < s₁.heap.objs.size := fun p hp => Heap.lt_size (N p hp).1
  have N₃ : News h₀ env.locals h₃ ((H2.objs.size, lst []) :: nx) := by
    intro p hp
    rcases List.mem_cons.mp hp with rfl | hp
    · exact ⟨gD, ne' (Nat.lt_trans hL a2), fresh _ (Nat.le_of_lt a2)⟩
    · exact ⟨old _ _ (N p hp).1, (N p hp).2⟩
  have loop : ∀ s₃ : Shared, s₃ = { s₁ with heap := h₃, toks := s₁.toks + ([] : List (Str × Value)).length } →
      codeAny (model prog w) A (.compLoop (.ListComp elt [⟨.Name x1 p1, iter, [], 0⟩] scope pos) 0 (.ref s₁.heap.objs.size) (.ref H2.objs.size) (compEnvC scope cl H3.objs.size env))
        (compPost (model prog w) A E (some (assign (.Name y py) env)) (fun _ s' => Q .next s') (.ref H2.objs.size) H3.objs.size) s₃ := by
    rintro s₃ rfl
    refine comp_turns1 (cenv := compEnvC scope cl H3.objs.size env) (m := m) (L := env.locals) (h₀ := h₀) (nx₀ := nx) J hh (lookup_relabel_local k1) (by simp [compEnvC, relabel, hkind])
      (ne a4) (ne a2) (ne' a3) (ne' hL) (ne' (Nat.lt_trans hL a4)) (ne' (Nat.lt_trans hL a2)) (fresh _ (Nat.le_refl _)) (fresh _ (Nat.le_of_lt a4)) (fresh _ (Nat.le_of_lt a2))
      ⟨_, gI, rfl, rfl⟩ hn₃ (F.keeps old) N₃ (fun p hp => ⟨ne (lo p hp), ne (Nat.lt_trans (lo p hp) a4), ne (Nat.lt_trans (lo p hp) a2)⟩) hax hsz hj (Nat.le_trans ht₁ (Nat.le_add_right _ _)) ?_ ?_
    · intro i v ys nx' oI oC mC g tk E' a c d e f1 F' N' off'
      exact turn s₁.heap.objs.size H3.objs.size H2.objs.size i v ys nx' oI oC mC g tk E' _ (fun _ _ h => h) a c d e f1 F' N' off' ⟨ne a4, ne a2, ne' a3⟩
    · intro g tk mC ys nx' htk hj' F' hC N' offC offD
      show wpAny _ A (assign (.Name y py) env (.ref H2.objs.size)) _ _ _
      refine wpAny_assign_Name (wpAny_storeName_local hy F'.ns (fun g₂ hn₂ hs₂ => ?_) hp)
      have hCL : (compEnvC scope cl H3.objs.size env).locals ≠ env.locals := ne' (Nat.lt_trans hL a4)
      refine ⟨mC, hC.sameBut hs₂ hCL, fun g₃ hs₃ => ?_⟩
      have F₂ := F'.set hn₂ hs₂
      have N₂ : News h₀ env.locals g₂ ((H2.objs.size, lst ys) :: nx') := fun p hp => ⟨(hs₂.2 p.1 (N' p hp).2.1).trans (N' p hp).1, (N' p hp).2⟩
      have offC' : ∀ p ∈ (H2.objs.size, lst ys) :: nx', p.1 ≠ H3.objs.size := by
        intro p hp
        rcases List.mem_cons.mp hp with rfl | hp
        · exact ne a3
        · exact offC p hp
      obtain ⟨F₃, N₄⟩ := led_keep (X := H3.objs.size) F₂ N₂ hCL (fresh _ (Nat.le_of_lt a4)) offC' fun b o hb e => hs₃.extBut b o hb e
      exact done _ g₃ (tk + 1) ys nx' (Nat.le_succ_of_le htk) hj' F₃ N₄ offD
  have W := Walks.list (prog := prog) (w := w) hh s₁.heap.objs.size ax (Nat.ne_of_lt (Heap.lt_size hol)) its.toArray
  exact codeAny_compStart_list (loop _ rfl) (W.self 0 _ _ _ ⟨⟨_, gI, rfl, rfl⟩, ⟨_, old _ _ hol, rfl, nn, rfl⟩⟩ (loop _ rfl))
end
end Mine
end

section
open PySem PySem.W PySem.Calls PyProof.Rows PyProof.V PySem.Spec
namespace Mine
noncomputable def sgc (σ : List PySem.Str) (i : Int) : Nat := (sgn3 σ i).cps.toList.headD 0
theorem sgc_eq {σ : List PySem.Str} (h : SigOk σ) {i : Int} (h0 : 0 ≤ i) (h3 : i < 3) : sgn3 σ i = ⟨#[sgc σ i]⟩ ∧ Sg (sgc σ i) := by
  obtain ⟨a, e, ha⟩ := sgn3_ok h h0 h3
  unfold sgc
  rw [e]
  exact ⟨rfl, ha⟩
noncomputable def wantZ (σ : List PySem.Str) (z : Int) : PySem.Str := wantS (sgc σ (z.fmod 3)) (sgc σ ((z.fdiv 3).fmod 3)) ((z.fdiv 9).fmod 8).toNat
noncomputable def preZ (σ : List PySem.Str) (a b d : Int) : PySem.Str :=
  Txt.mul (Str.ofString "...") (d.fmod 2) ++ sgn3 σ a ++ Txt.mul (Str.ofString "...") ((d.fdiv 2).fmod 2) ++ sgn3 σ b ++ Txt.mul (Str.ofString "...") (d.fdiv 4)
theorem dots0 : (Txt.mul (Str.ofString "...") 0).cps.toList = [] := by decide +kernel
theorem dots1 : (Txt.mul (Str.ofString "...") 1).cps.toList = [46, 46, 46] := by decide +kernel
theorem pre_list {σ : List PySem.Str} (h : SigOk σ) {a b d : Int} (a0 : 0 ≤ a) (a3 : a < 3) (b0 : 0 ≤ b) (b3 : b < 3) (d0 : 0 ≤ d) (d8 : d < 8) :
    (preZ σ a b d).cps.toList = dotsL (d.toNat % 2) ++ [sgc σ a] ++ dotsL (d.toNat / 2 % 2) ++ [sgc σ b] ++ dotsL (d.toNat / 4) := by
  have ea := (sgc_eq h a0 a3).1
  have eb := (sgc_eq h b0 b3).1
  unfold preZ
  rw [ea, eb]
  have hc : d = 0 ∨ d = 1 ∨ d = 2 ∨ d = 3 ∨ d = 4 ∨ d = 5 ∨ d = 6 ∨ d = 7 := by lia
  simp only [PySem.Str.cps_append, Array.toList_append]
  rcases hc with rfl | rfl | rfl | rfl | rfl | rfl | rfl | rfl <;> simp [dots0, dots1, dotsL]
theorem pre_len {σ : List PySem.Str} (h : SigOk σ) {a b d : Int} (a0 : 0 ≤ a) (a3 : a < 3) (b0 : 0 ≤ b) (b3 : b < 3) (d0 : 0 ≤ d) (d8 : d < 8) : (preZ σ a b d).length ≤ 100 := by
  rw [len_toList, pre_list h a0 a3 b0 b3 d0 d8]
  have hl : ∀ n, (dotsL n).length ≤ 3 := fun n => by unfold dotsL; split <;> simp
  simp only [List.length_append, List.length_singleton]
  have := hl (d.toNat % 2)
  have := hl (d.toNat / 2 % 2)
  have := hl (d.toNat / 4)
  lia
theorem code_dots (n : Nat) : (dotsL n).flatMap code = dotsL n := by
  unfold dotsL
  split
  · rfl
  · decide +kernel
theorem esc_pre {σ : List PySem.Str} (h : SigOk σ) {a b d : Int} (a0 : 0 ≤ a) (a3 : a < 3) (b0 : 0 ≤ b) (b3 : b < 3) (d0 : 0 ≤ d) (d8 : d < 8) : esc7 (preZ σ a b d) = wantS (sgc σ a) (sgc σ b) d.toNat := by
  apply PySem.Str.ext'
  rw [← Array.toList_inj, esc7_flat, pre_list h a0 a3 b0 b3 d0 d8]
  show _ = (wantL (sgc σ a) (sgc σ b) d.toNat)
  unfold wantL
  simp only [List.flatMap_append, code_dots, List.flatMap_cons, List.flatMap_nil, List.append_nil]
end Mine
end

section
open PySem PySem.W PySem.Calls PyProof.Rows PyProof.V PySem.Spec
namespace Mine

inductive SeIn (news : List (Addr × Obj)) : Value → Int × Int × Int → Prop
  | mk {p : Addr} {m s v : Int} {t0 t1 t2 : Tok} : (p, tupO [.float (seenL m s v).1 t0, .float (seenL m s v).2.1 t1, .float (seenL m s v).2.2 t2]) ∈ news → t0 ≠ 0 → t1 ≠ 0 → t2 ≠ 0 → SeIn news (.ref p) (m, s, v)
theorem SeIn.mono {news news' : List (Addr × Obj)} (hs : ∀ p ∈ news, p ∈ news') : ∀ v e, SeIn news v e → SeIn news' v e
  | _, _, .mk h h0 h1 h2 => .mk (hs _ h) h0 h1 h2
theorem red_light : lightL 0 4 4 = (4607182418800017408, 0, 0) := by decide +kernel
theorem red_in {q : Addr} {t0 t1 t2 : Tok} {l : List (Addr × Obj)} (h : (q, tupO [.float 4607182418800017408 t0, .float 0 t1, .float 0 t2]) ∈ l) (h0 : t0 ≠ 0) (h1 : t1 ≠ 0) (h2 : t2 ≠ 0) : ClIn l (.ref q) (0, 4, 4) :=
  .mk (m := 0) (s := 4) (v := 4) (by rw [red_light]; exact h) h0 h1 h2
noncomputable def psM (q q2 : Addr) : List (Str × Value) := [(Str.ofString "colour", .ref q), (Str.ofString "seen", .ref q2)]
noncomputable def InM (x y z : Addr) (own TL : List (Addr × Obj)) (RV PV : List Value) (n2 n3 B : Nat) (σ : List PySem.Str) (row : PySem.Str) (zs : List Int) (st : (Int × Int × Int) × List Ent) (j : Nat) (ps : List (Str × Value)) (nx : List (Addr × Obj)) : Prop :=
  ∃ q q2 TV n1 tl, ps = [(Str.ofString "colour", .ref q), (Str.ofString "seen", .ref q2)] ∧ nx = (x, listOf (List.toArray TV) n1) :: (y, listOf (List.toArray RV) n2) :: (z, listOf (List.toArray PV) n3) :: (tl ++ own) ∧ Led x y z own tl ∧ (∀ p ∈ TL, p ∈ tl) ∧
    ClIn tl (.ref q) (stL σ row zs st j).1 ∧ SeIn tl (.ref q2) (stL σ row zs st j).1 ∧ AllR (EntIn tl) TV (stL σ row zs st j).2 ∧ TV.length ≤ B + j
theorem InM.ini {x y z q q2 : Addr} {own TL tl : List (Addr × Obj)} {TV RV PV : List Value} {n1 n2 n3 B : Nat} {σ : List PySem.Str} {row : PySem.Str} {zs : List Int} {st : (Int × Int × Int) × List Ent}
    (D : Led x y z own tl) (hTL : ∀ p ∈ TL, p ∈ tl) (hp : ClIn tl (.ref q) st.1) (hs : SeIn tl (.ref q2) st.1) (hT : AllR (EntIn tl) TV st.2) (hl : TV.length ≤ B) :
    InM x y z own TL RV PV n2 n3 B σ row zs st 0 [(Str.ofString "colour", .ref q), (Str.ofString "seen", .ref q2)] ((x, listOf (List.toArray TV) n1) :: (y, listOf (List.toArray RV) n2) :: (z, listOf (List.toArray PV) n3) :: (tl ++ own)) :=
  ⟨q, q2, TV, n1, tl, rfl, rfl, D, hTL, hp, hs, hT, hl⟩
noncomputable def OutM (x y z : Addr) (TL0 : List (Addr × Obj)) (rv : List Value) (σ : List PySem.Str) (ys zs : List Int) (i : Nat) (ps : List (Str × Value)) (nx : List (Addr × Obj)) : Prop :=
  ps = [] ∧ ∃ TV RV PV n1 n2 n3 tl, nx = (x, listOf (List.toArray TV) n1) :: (y, listOf (List.toArray RV) n2) :: (z, listOf (List.toArray PV) n3) :: tl ∧ OwnOff tl [x, y, z] ∧ (∀ p ∈ TL0, p ∈ tl) ∧ AllR (RuIn TL0) rv zs ∧
    AllR (EntIn tl) TV (sheetL σ ys zs i).told ∧ AllR StIn RV (sheetL σ ys zs i).rows ∧ AllR (ClIn tl) PV (sheetL σ ys zs i).pts ∧ TV.length ≤ 4 * i ∧ @LT.lt Nat _ z y ∧ @LT.lt Nat _ y x
theorem OutM.ini {x y z : Addr} {TL0 : List (Addr × Obj)} {rv : List Value} {σ : List PySem.Str} {ys zs : List Int} {p : Value} {t : Tok} (hoff : OwnOff TL0 [x, y, z]) (hzy : @LT.lt Nat _ z y) (hyx : @LT.lt Nat _ y x) (hru : AllR (RuIn TL0) rv zs) (hp0 : ClIn TL0 p (0, 4, 4)) :
    OutM x y z TL0 rv σ ys zs 0 [] ((x, listOf #[] 0) :: (y, listOf #[.str (Str.ofString "") t] 0) :: (z, listOf #[p] 0) :: TL0) :=
  ⟨rfl, [], [_], [_], 0, 0, 0, TL0, rfl, hoff, fun _ h => h, hru, .nil, .cons .mk .nil, .cons hp0 .nil, Nat.le_refl _, hzy, hyx⟩

theorem in_endM {h₀ h' : Heap} {L x y z d q q2 : Addr} {r0 : Str} {own own9 TL tl new : List (Addr × Obj)} {TV RV PV : List Value} {n1 n2 n3 B j tk : Nat} {σ : List PySem.Str} {row : PySem.Str} {zs : List Int} {st : (Int × Int × Int) × List Ent} {told2 : List Ent} {zz m2 s2 v2 : Int} {r : Bool}
    {m' m₀ : Str → Option Value} {s₁ : Shared} {stored : List Str} {ox oy oz : Obj}
    (F : Fr h₀ L h' m') (N : News h₀ L h' (new ++ ((x, listOf (TV.toArray.push (.ref d)) n1) :: (y, listOf (List.toArray RV) n2) :: (z, listOf (List.toArray PV) n3) :: (tl ++ own ++ own9))))
    (D : Led x y z own tl) (hoff : OwnOff own9 (((x, ox) :: (y, oy) :: (z, oz) :: (tl ++ own)).map (·.1)))
    (hnew : ∀ e ∈ new, @LT.lt Nat _ x e.1 ∧ @LT.lt Nat _ y e.1 ∧ @LT.lt Nat _ z e.1 ∧ AllLt e.1 (tl ++ own ++ own9))
    (hTL : ∀ p ∈ TL, p ∈ tl) (hT : AllR (EntIn tl) TV told2) (hlT : TV.length ≤ B + j) (hz : zs[j]? = some zz) (hst : stL σ row zs st j = ((m2, s2, v2), told2))
    (hf : fitsL (row ++ sgn3 σ (markL m2)) (sgn3 σ (zz.fmod 3)) (sgn3 σ ((zz.fdiv 3).fmod 3)) ((zz.fdiv 9).fmod 8) = r)
    (hd : EntIn (new ++ tl) (.ref d) (.say (esc7 (row ++ sgn3 σ (markL m2))) r))
    (hq : ClIn (new ++ tl) (.ref q) (if r = true then turnL m2 s2 v2 ((zz.fdiv 72).fmod 32) ((zz.fdiv 2304).fmod 6) ((zz.fdiv 13824).fmod 5) else (m2, s2, v2)))
    (hs : SeIn (new ++ tl) (.ref q2) (if r = true then turnL m2 s2 v2 ((zz.fdiv 72).fmod 32) ((zz.fdiv 2304).fmod 6) ((zz.fdiv 13824).fmod 5) else (m2, s2, v2)))
    (hk : ∀ p ∈ [(Str.ofString "colour", Value.ref q), (Str.ofString "seen", Value.ref q2)], m' p.1 = some p.2) (hr : ∀ z, z ≠ r0 → (∀ p ∈ [(Str.ofString "colour", Value.ref q), (Str.ofString "seen", Value.ref q2)], z ≠ p.1) → stored.contains z = false → m' z = m₀ z) :
    InvEndG h₀ L (KS r0 stored m₀ (InM x y z own TL RV PV n2 n3 B σ row zs st (j + 1))) own9 s₁ { s₁ with heap := h', toks := tk } := by
  have below : ∀ e ∈ new, ∀ p ∈ tl ++ own ++ own9, p.1 < e.1 := fun e he => allLt_all (hnew e he).2.2.2
  have hD : Led x y z own (new ++ tl) := by
    refine D.grow new fun e he => ⟨fun p hp => Nat.ne_of_lt (below e he p (List.mem_append_left _ (List.mem_append_right _ hp))), Nat.ne_of_gt (hnew e he).1, Nat.ne_of_gt (hnew e he).2.1, Nat.ne_of_gt (hnew e he).2.2.1⟩
  have up : ∀ p ∈ tl, p ∈ new ++ tl := fun p hp => List.mem_append_right _ hp
  refine ks_end F N [(Str.ofString "colour", Value.ref q), (Str.ofString "seen", Value.ref q2)] ((x, listOf (List.toArray (TV ++ [.ref d])) n1) :: (y, listOf (List.toArray RV) n2) :: (z, listOf (List.toArray PV) n3) :: ((new ++ tl) ++ own)) hk hr ?_ ?_ ?_ ?_
  · intro p hp
    rw [← List.push_toArray] at hp
    simp only [List.mem_cons, List.mem_append] at hp ⊢
    rcases hp with h | h | h | (h | h) | h
    · exact .inr (.inl h)
    · exact .inr (.inr (.inl h))
    · exact .inr (.inr (.inr (.inl h)))
    · exact .inl h
    · exact .inr (.inr (.inr (.inr (.inl (.inl h)))))
    · exact .inr (.inr (.inr (.inr (.inl (.inr h)))))
  · intro p hp
    exact List.mem_append_right _ (.tail _ (.tail _ (.tail _ (List.mem_append_right _ hp))))
  · intro p hp b hb
    simp only [List.map_cons, List.map_append, List.mem_cons, List.mem_append, List.mem_map] at hb
    have ho := hoff p hp b
    simp only [List.map_cons, List.map_append, List.mem_cons, List.mem_append, List.mem_map] at ho
    rcases hb with h | h | h | (⟨e, he, rfl⟩ | h) | h
    · exact ho (.inl h)
    · exact ho (.inr (.inl h))
    · exact ho (.inr (.inr (.inl h)))
    · exact Nat.ne_of_lt (below e he p (List.mem_append_right _ hp))
    · exact ho (.inr (.inr (.inr (.inl h))))
    · exact ho (.inr (.inr (.inr (.inr h))))
  · have e1 : stL σ row zs st (j + 1) = (if r = true then turnL m2 s2 v2 ((zz.fdiv 72).fmod 32) ((zz.fdiv 2304).fmod 6) ((zz.fdiv 13824).fmod 5) else (m2, s2, v2), told2 ++ [.say (esc7 (row ++ sgn3 σ (markL m2))) r]) := by
      rw [stL_succ hz, hst]
      unfold innerStep
      dsimp only
      rw [hf]
    refine ⟨q, q2, TV ++ [.ref d], n1, new ++ tl, rfl, rfl, hD, fun p hp => up p (hTL p hp), ?_, ?_, ?_, ?_⟩
    · rw [e1]; exact hq
    · rw [e1]; exact hs
    · rw [e1]; exact (hT.mono (EntIn.mono up)).snoc hd
    · rw [List.length_append]; exact Nat.succ_le_succ hlT

theorem out_endM {h₀ h' : Heap} {L x y z d q q2 : Addr} {own TL0 tl : List (Addr × Obj)} {TV RV PV rv : List Value} {n1 n2 n3 i tk : Nat} {σ : List PySem.Str} {row : PySem.Str} {ys zs : List Int} {S : Sheet} {told2 : List Ent} {m2 s2 v2 : Int} {t t0 t1 t2 t3 t4 t5 : Tok}
    {m' m₀ : Str → Option Value} {s₁ : Shared} {stored : List Str} {k : Str}
    (F : Fr h₀ L h' m') (N : News h₀ L h' ((d, tupO [.ref q, .ref q2]) ::
      (x, listOf (TV.toArray.push (.ref d)) n1) :: (y, listOf (RV.toArray.push (.str (row ++ sgn3 σ (markL m2)) t)) n2) :: (z, listOf (PV.toArray.push (.ref q)) n3) :: (tl ++ own)))
    (D : Led x y z own tl) (b3 : @LT.lt Nat _ x d ∧ @LT.lt Nat _ y d ∧ @LT.lt Nat _ z d ∧ AllLt d (tl ++ own))
    (h0 : ∀ p ∈ TL0, p ∈ tl) (hru : AllR (RuIn TL0) rv zs) (hT : AllR (EntIn tl) TV told2) (hR : AllR StIn RV S.rows) (hP : AllR (ClIn tl) PV S.pts) (hlT : TV.length ≤ 4 * i + 3) (hzy : @LT.lt Nat _ z y) (hyx : @LT.lt Nat _ y x)
    (hq : (q, tupO [.float (lightL m2 s2 v2).1 t0, .float (lightL m2 s2 v2).2.1 t1, .float (lightL m2 s2 v2).2.2 t2]) ∈ tl) (hs : (q2, tupO [.float (seenL m2 s2 v2).1 t3, .float (seenL m2 s2 v2).2.1 t4, .float (seenL m2 s2 v2).2.2 t5]) ∈ tl) (e1 : t0 ≠ 0 ∧ t1 ≠ 0 ∧ t2 ≠ 0) (e2 : t3 ≠ 0 ∧ t4 ≠ 0 ∧ t5 ≠ 0)
    (hS : sheetL σ ys zs (i + 1) = ⟨S.pts ++ [(m2, s2, v2)], S.rows ++ [row ++ sgn3 σ (markL m2)], told2 ++ [.pic m2 s2 v2]⟩)
    (hr : ∀ z, z ≠ k → (∀ p ∈ ([] : List (Str × Value)), z ≠ p.1) → stored.contains z = false → m' z = m₀ z) :
    InvEndG h₀ L (KS k stored m₀ (OutM x y z TL0 rv σ ys zs (i + 1))) own s₁ { s₁ with heap := h', toks := tk } := by
  have hD := D.grow [(d, tupO [.ref q, .ref q2])] (List.forall_mem_cons.mpr ⟨⟨fun p hp => Nat.ne_of_lt (allLt_all b3.2.2.2 p (List.mem_append_right _ hp)), Nat.ne_of_gt b3.1, Nat.ne_of_gt b3.2.1, Nat.ne_of_gt b3.2.2.1⟩, List.forall_mem_nil _⟩)
  have up : ∀ p ∈ tl, p ∈ (d, tupO [.ref q, .ref q2]) :: tl := fun p hp => .tail _ hp
  refine ks_end F N [] ((x, listOf (List.toArray (TV ++ [.ref d])) n1) :: (y, listOf (List.toArray (RV ++ [.str (row ++ sgn3 σ (markL m2)) t])) n2) :: (z, listOf (List.toArray (PV ++ [.ref q])) n3) :: (d, tupO [.ref q, .ref q2]) :: tl)
    (List.forall_mem_nil _) hr ?_ ?_ hD.own ?_
  · intro p hp
    simp only [← List.push_toArray, List.mem_cons, List.mem_append] at hp ⊢
    rcases hp with h | h | h | h | h <;> simp [h]
  · intro p hp
    exact .tail _ (.tail _ (.tail _ (.tail _ (List.mem_append_right _ hp))))
  · refine ⟨rfl, TV ++ [.ref d], RV ++ [.str (row ++ sgn3 σ (markL m2)) t], PV ++ [.ref q], n1, n2, n3, _, rfl, hD.off, fun p hp => up p (h0 p hp), hru, ?_, ?_, ?_, ?_, hzy, hyx⟩
    · rw [hS]; exact (hT.mono (EntIn.mono up)).snoc (.pic (.head _) (up _ hq) (up _ hs) e1 e2)
    · rw [hS]; exact hR.snoc .mk
    · rw [hS]; exact (hP.mono (ClIn.mono up)).snoc (.mk (up _ hq) e1.1 e1.2.1 e1.2.2)
    · rw [List.length_append]; show TV.length + 1 ≤ 4 * (i + 1); lia
end Mine
end

section
open PySem PySem.W PySem.Calls PyProof.Rows PyProof.V PySem.Spec
namespace Mine
theorem newsPerm3 {h₀ h : Heap} {L : Addr} {a b c d x y z : Addr × Obj} {l : List (Addr × Obj)} (N : News h₀ L h (a :: b :: c :: d :: x :: y :: z :: l)) : News h₀ L h (x :: y :: z :: a :: b :: c :: d :: l) :=
  fun p hp => N p (by simp only [List.mem_cons] at hp ⊢; rcases hp with h | h | h | h | h | h | h | h <;> simp [h])
theorem Led.grow4 {h₀ h : Heap} {L x y z : Addr} {own tl : List (Addr × Obj)} {a b c d : Addr × Obj} {ox oy oz : Obj} (D : Led x y z own tl) (_N : News h₀ L h ((x, ox) :: (y, oy) :: (z, oz) :: a :: b :: c :: d :: (tl ++ own)))
    (ha : (∀ p ∈ own, p.1 ≠ a.1) ∧ a.1 ≠ x ∧ a.1 ≠ y ∧ a.1 ≠ z) (hb : (∀ p ∈ own, p.1 ≠ b.1) ∧ b.1 ≠ x ∧ b.1 ≠ y ∧ b.1 ≠ z) (hc : (∀ p ∈ own, p.1 ≠ c.1) ∧ c.1 ≠ x ∧ c.1 ≠ y ∧ c.1 ≠ z) (hd : (∀ p ∈ own, p.1 ≠ d.1) ∧ d.1 ≠ x ∧ d.1 ≠ y ∧ d.1 ≠ z) : Led x y z own (a :: b :: c :: d :: tl) :=
  D.grow [a, b, c, d] (List.forall_mem_cons.mpr ⟨ha, List.forall_mem_cons.mpr ⟨hb, List.forall_mem_cons.mpr ⟨hc, List.forall_mem_cons.mpr ⟨hd, List.forall_mem_nil _⟩⟩⟩⟩)
theorem Led.tail4 {x y z : Addr} {own tl : List (Addr × Obj)} {a b c d : Addr × Obj} (_ : Led x y z own (a :: b :: c :: d :: tl)) : ∀ p ∈ tl, p ∈ a :: b :: c :: d :: tl := fun _ hp => .tail _ (.tail _ (.tail _ (.tail _ hp)))
theorem chg_eq {m s v m1 s1 v1 y0 y1 y2 : Int} (h : PtOk (m, s, v)) (e : turnL m s v (y0.fmod 32) (y1.fmod 6) (y2.fmod 5) = (m1, s1, v1)) :
    chgL (lightL m s v).1 (lightL m s v).2.1 (lightL m s v).2.2 (y0.fmod 32) (y1.fmod 6) (y2.fmod 5) = some ((lightL m1 s1 v1).1, (lightL m1 s1 v1).2.1, (lightL m1 s1 v1).2.2) := by
  have := (turn_ok h y0 y1 y2 rfl rfl rfl).1
  rw [e] at this
  exact this
theorem rgb_eq {m s v : Int} (h : PaintOk m s v) : rgbL (lightL m s v).1 (lightL m s v).2.1 (lightL m s v).2.2 = some ((seenL m s v).1, (seenL m s v).2.1, (seenL m s v).2.2) := rgb_light h
theorem int_seen {m s v : Int} (h : PaintOk m s v) : Flt.toInt Float64.truncOf (Float64.mul (seenL m s v).1 4625196817309499392) = m ∧ Float64.isFinite (Float64.mul (seenL m s v).1 4625196817309499392) = true := by
  have := p1d m.toNat (by have := h.1; have := h.2.1; lia)
  rw [Int.toNat_of_nonneg h.1] at this
  exact this
theorem fin_nan {x : UInt64} (h : Float64.isFinite x = true) : Float64.isNaN x = false := by
  cases e : Float64.isNaN x with
  | false => rfl
  | true => rw [nfin_nan e] at h; cases h
theorem fin_inf {x : UInt64} (h : Float64.isFinite x = true) : Float64.isInf x = false := by
  cases e : Float64.isInf x with
  | false => rfl
  | true => rw [nfin_inf e] at h; cases h
theorem TxAre.at2 : ∀ {vs : List Value} {xs : List PySem.Str} {i : Nat} {x : PySem.Str}, TxAre vs xs → xs[i]? = some x → ∃ t, vs[i]? = some (.str x t)
  | _, _, _, _, .nil, h => nomatch h
  | _, _, 0, _, .cons (t := t) _, e => by cases e; exact ⟨t, rfl⟩
  | _, _, i + 1, x, .cons h, e => by
    obtain ⟨t, e2⟩ := h.at2 (i := i) (x := x) (by simpa using e)
    exact ⟨t, by simpa using e2⟩
section
variable {w : World} {mean : ExcName → Option Value} {mg mb : Str → Option Value}
   {dp un : Nat} {gd : Option (List Code)} {cn : Str} {cs : Scope} {a : Addr} {ccd : Value} {cl : List (Str × Addr)} {outer : List Env} {A₀ : Around} {base h₀ : Heap} {L : Addr} {m : Str → Option Value} {news : List (Addr × Obj)} {s : Shared} {Q E : Value → Shared → Prop}
theorem c_ellE {p q : Nat} {d : Int} {x y : PySem.Str} {r : List Nat} {b : Bool} {t1 t2 : Tok} (hf : fitsL x ⟨#[p]⟩ ⟨#[q]⟩ d = b) (hp : Sg p) (hq : Sg q) (hd8 : 0 ≤ d ∧ d < 8) (hx : x.cps.toList = r) (hy : y.cps.toList = EE r) (hr : ∀ c ∈ r, Sg c) (hl : y.length ≤ 1000)
   (B : Below A₀ base outer h₀) (F : Fr h₀ L s.heap m) (X : (Mine.hd.heap_39 w.params).In h₀) (N : News h₀ L s.heap news) (T : Top Mine.hd.view_39 (looseW Mine.hd.view_39 []) mean mg mb h₀) (hk : cs.kind = .function)
   (hd : dp + 20 < recursionLimit) (hu : un + 100 < cLine)
   (hret : ∀ h' tk', Fr h₀ L h' m → News h₀ L h' news → Q (.bool b) { s with heap := h', toks := tk' }) :
   wpAny (model PySem.Challenge.rw_rw0038_01.row.toRowW.1 w) (ktrTop dp un gd cn cs L a ccd cl outer) (call (.ref 21) [.str (wantS p q d.toNat) t1, .str y t2]) Q E s := by
  subst hf
  exact c_ellipsis hp hq hd8 hx hy hr hl B F X N T hk hd hu hret
end
noncomputable def RuJ (TL : List (Addr × Obj)) (zs : List Int) (i : Nat) (ys : List Value) (nx : List (Addr × Obj)) : Prop := AllR (RuIn nx) ys (zs.take i) ∧ ∀ p ∈ TL, p ∈ nx
theorem int3_at {i : Nat} {v : Value} {a b c : Int} {t u w : Tok} (h : [Value.int a t, .int b u, .int c w][i]? = some v) : ∃ z k, v = .int z k ∧ [a, b, c][i]? = some z := by
  match i, h with
  | 0, h => cases h; exact ⟨_, _, rfl, rfl⟩
  | 1, h => cases h; exact ⟨_, _, rfl, rfl⟩
  | 2, h => cases h; exact ⟨_, _, rfl, rfl⟩
theorem RuJ.snoc {TL nx : List (Addr × Obj)} {zs : List Int} {i : Nat} {ys : List Value} {z : Int} {q p : Addr} {t0 t1 t2 t3 t4 t5 : Tok} (h : RuJ TL zs i ys nx) (hz : zs[i]? = some z) :
    RuJ TL zs (i + 1) (ys ++ [.ref q]) ((q, tupO [.int (z.fmod 3) t0, .int ((z.fdiv 3).fmod 3) t1, .int ((z.fdiv 9).fmod 8) t2, .ref p]) :: (p, tupO [.int ((z.fdiv 72).fmod 32) t3, .int ((z.fdiv 2304).fmod 6) t4, .int ((z.fdiv 13824).fmod 5) t5]) :: nx) := by
  refine ⟨?_, fun e he => .tail _ (.tail _ (h.2 e he))⟩
  rw [take_snoc hz]
  exact (h.1.mono (RuIn.mono fun e he => .tail _ (.tail _ he))).snoc (.mk (.head _) (.tail _ (.head _)))
end Mine
end

section
open PySem PySem.W PySem.Calls PyProof.Rows PyProof.V PySem.Spec
namespace Mine
theorem contains_ne {l : List Str} {z k : Str} (h : l.contains z = false) (hk : List.Mem k l) : z ≠ k := by
  rintro rfl
  have h' : z ∈ l := hk
  have e : l.contains z = true := by simpa using h'
  rw [h] at e
  cases e
theorem contains_off {l : List Str} {z : Str} {a b : Option Value} (h : l.contains z = false) : (if l.contains z = true then a else b) = b := by rw [h]; rfl
theorem ks_off {l : List Str} {z : Str} {u m₀ : Str → Option Value} (h : l.contains z = false) : kstB (fun z => if l.contains z = true then u z else m₀ z) [] z = m₀ z := by
  show (if l.contains z = true then u z else m₀ z) = m₀ z
  rw [h]; rfl
theorem tightL {x y z a : Addr} {tl own : List (Addr × Obj)} (h : @LT.lt Nat _ x a ∧ @LT.lt Nat _ y a ∧ @LT.lt Nat _ z a ∧ AllLt a (tl ++ own)) : (∀ p ∈ own, p.1 ≠ a) ∧ a ≠ x ∧ a ≠ y ∧ a ≠ z :=
  ⟨fun p hp => Nat.ne_of_lt (allLt_all h.2.2.2 p (List.mem_append_right _ hp)), Nat.ne_of_gt h.1, Nat.ne_of_gt h.2.1, Nat.ne_of_gt h.2.2.1⟩
theorem Led.up3 {h₀ h : Heap} {L x y z a b c : Addr} {oa ob oc : Obj} {own tl : List (Addr × Obj)} {ox oy oz : Obj} (D : Led x y z own tl) (N : News h₀ L h ((x, ox) :: (y, oy) :: (z, oz) :: (a, oa) :: (b, ob) :: (c, oc) :: (tl ++ own)))
    (ha : @LT.lt Nat _ b a ∧ @LT.lt Nat _ c a ∧ @LT.lt Nat _ x a ∧ @LT.lt Nat _ y a ∧ @LT.lt Nat _ z a ∧ AllLt a (tl ++ own)) (hb : @LT.lt Nat _ x b ∧ @LT.lt Nat _ y b ∧ @LT.lt Nat _ z b ∧ AllLt b (tl ++ own)) (hc : @LT.lt Nat _ x c ∧ @LT.lt Nat _ y c ∧ @LT.lt Nat _ z c ∧ AllLt c (tl ++ own)) :
    Led x y z own ((a, oa) :: (b, ob) :: (c, oc) :: tl) := D.grow3 N (tightL ha.2.2) (tightL hb) (tightL hc)
theorem Led.up4 {h₀ h : Heap} {L x y z a b c d : Addr} {oa ob oc od : Obj} {own tl : List (Addr × Obj)} {ox oy oz : Obj} (D : Led x y z own tl) (N : News h₀ L h ((x, ox) :: (y, oy) :: (z, oz) :: (a, oa) :: (b, ob) :: (c, oc) :: (d, od) :: (tl ++ own)))
    (ha : @LT.lt Nat _ b a ∧ @LT.lt Nat _ c a ∧ @LT.lt Nat _ d a ∧ @LT.lt Nat _ x a ∧ @LT.lt Nat _ y a ∧ @LT.lt Nat _ z a ∧ AllLt a (tl ++ own)) (hb : @LT.lt Nat _ c b ∧ @LT.lt Nat _ d b ∧ @LT.lt Nat _ x b ∧ @LT.lt Nat _ y b ∧ @LT.lt Nat _ z b ∧ AllLt b (tl ++ own))
    (hc : @LT.lt Nat _ x c ∧ @LT.lt Nat _ y c ∧ @LT.lt Nat _ z c ∧ AllLt c (tl ++ own)) (hd : @LT.lt Nat _ x d ∧ @LT.lt Nat _ y d ∧ @LT.lt Nat _ z d ∧ AllLt d (tl ++ own)) :
    Led x y z own ((a, oa) :: (b, ob) :: (c, oc) :: (d, od) :: tl) := D.grow4 N (tightL ha.2.2.2) (tightL hb.2.2) (tightL hc) (tightL hd)
theorem OutJ.turn {C : Prop} {h₀ h : Heap} {L l g d x y z : Addr} {oc og orr : Obj} {TL0 own : List (Addr × Obj)} {rv CL : List Value} {σ : List PySem.Str} {ys zs : List Int} {i : Nat} {ps : List (Str × Value)} {nx : List (Addr × Obj)} {kx : Str} {vx : Value} {m₀ : Str → Option Value}
    (hJ : OutJ x y z TL0 rv σ ys zs i ps nx) (hi : i < 5) (hσ : SigOk σ) (hCL : ∀ i : Nat, i < 5 → ∃ y t, CL[(1 + (i : Int)).toNat]? = some (.int y t) ∧ ys.getD i 0 = y)
    (hcT : (l, oc) ∈ TL0) (hgT : (g, og) ∈ TL0) (hrT : (d, orr) ∈ TL0) (hoff : OwnOff own (nx.map (·.1)))
    (F : Fr h₀ L h (fun q => if q = kx then some vx else kstB m₀ ps q)) (N : News h₀ L h (nx ++ own))
    (k : ∀ (TV RV PV : List Value) (n1 n2 n3 : Nat) (tl : List (Addr × Obj)) (yy : Int) (ty : Tok) (S : Sheet) (up m0 s0 v0 m1 s1 v1 : Int) (p0 : Addr) (ta tb tc : Tok) (rx : PySem.Str) (tr : Tok),
      CL[(1 + (i : Int)).toNat]? = some (.int yy ty) → upL (1 + (i : Int)) yy = up → 0 ≤ up → up < 2 ^ 63 →
      PV[up.toNat]? = some (.ref p0) → (p0, tupO [.int m0 ta, .int s0 tb, .int v0 tc]) ∈ tl → RV[up.toNat]? = some (.str rx tr) →
      RowOk i rx → turnL m0 s0 v0 ((yy.fdiv 3).fmod 32) ((yy.fdiv 96).fmod 6) ((yy.fdiv 576).fmod 5) = (m1, s1, v1) → PtOk (m1, s1, v1) →
      (∀ m2 s2 v2 told2, zs.foldl (innerStep σ rx) ((m1, s1, v1), S.told) = ((m2, s2, v2), told2) → sheetL σ ys zs (i + 1) = ⟨S.pts ++ [(m2, s2, v2)], S.rows ++ [rx ++ sgn3 σ (markL m2)], told2 ++ [.pic m2 s2 v2]⟩) →
      RV.toArray.size + 1 ≤ sizeLine → PV.toArray.size + 1 ≤ sizeLine → Led x y z own tl → OwnOff own [x, y, z] →
      (l, oc) ∈ tl → (g, og) ∈ tl → (d, orr) ∈ tl → (∀ p ∈ TL0, p ∈ tl) → AllR (RuIn TL0) rv zs → AllR (EntIn tl) TV S.told → AllR StIn RV S.rows → AllR (PtIn tl) PV S.pts → TV.length ≤ 4 * i → @LT.lt Nat _ z y → @LT.lt Nat _ y x →
      Fr h₀ L h (fun q => if q = kx then some vx else m₀ q) → News h₀ L h ((x, listOf (List.toArray TV) n1) :: (y, listOf (List.toArray RV) n2) :: (z, listOf (List.toArray PV) n3) :: (tl ++ own)) → C) : C := by
  obtain ⟨rfl, TV, RV, PV, n1, n2, n3, tl, rfl, hoT, hfix, hru, hT, hR, hP, hTl, hzy, hyx⟩ := hJ
  have hok := sheet_ok hσ ys zs i
  obtain ⟨yy, ty, hcell, hy⟩ := hCL i hi
  have hstep : sheetL σ ys zs (i + 1) = outerStep σ zs (1 + (i : Int)) yy (sheetL σ ys zs i) := by
    rw [← hy]; rfl
  generalize hS : sheetL σ ys zs i = S at hok hT hR hP hstep
  have hub := upL_bounds (1 + (i : Int)) yy i rfl
  obtain ⟨pv, ⟨m0, s0, v0⟩, hpv, hpt, hpin⟩ := hP.at (i := (upL (1 + (i : Int)) yy).toNat) (by rw [hok.plen]; exact hub.2)
  obtain ⟨rv2, rx, hrv, hrx, hrin⟩ := hR.at (i := (upL (1 + (i : Int)) yy).toNat) (by rw [hok.rlen]; exact hub.2)
  have ep0 : S.pts.getD (upL (1 + (i : Int)) yy).toNat (0, 4, 4) = (m0, s0, v0) := by rw [List.getD_eq_getElem?_getD, hpt]; rfl
  have er0 : S.rows.getD (upL (1 + (i : Int)) yy).toNat (Str.ofString "") = rx := by rw [List.getD_eq_getElem?_getD, hrx]; rfl
  have hp0 : PtOk (m0, s0, v0) := hok.pok _ (List.mem_of_getElem? hpt)
  have hr0 : RowOk i rx := hok.rok _ (List.mem_of_getElem? hrx)
  obtain ⟨m1, s1, v1, hp1⟩ : ∃ m1 s1 v1, turnL m0 s0 v0 ((yy.fdiv 3).fmod 32) ((yy.fdiv 96).fmod 6) ((yy.fdiv 576).fmod 5) = (m1, s1, v1) := ⟨_, _, _, rfl⟩
  have hp1ok : PtOk (m1, s1, v1) := hp1 ▸ (turn_ok hp0 (yy.fdiv 3) (yy.fdiv 96) (yy.fdiv 576) rfl rfl rfl).2
  have hD := Led.of hoT hoff
  cases hpin with
  | mk hpm =>
  cases hrin
  refine k TV RV PV n1 n2 n3 tl yy ty S _ m0 s0 v0 m1 s1 v1 _ _ _ _ rx _ hcell rfl hub.1 (by lia) hpv hpm hrv hr0 hp1 hp1ok ?_ ?_ ?_ hD hD.own3 (hfix _ hcT) (hfix _ hgT) (hfix _ hrT) hfix hru hT hR hP hTl hzy hyx F N
  · intro m2 s2 v2 told2 h2
    rw [hstep]; unfold outerStep; rw [ep0, er0]; dsimp only; rw [hp1, h2]
  · rw [sizeLine_eq, List.size_toArray, hR.len, hok.rlen]; lia
  · rw [sizeLine_eq, List.size_toArray, hP.len, hok.plen]; lia
set_option maxHeartbeats 2000000 in
theorem InJ.turn {C : Prop} {h₀ h : Heap} {L g x y z d : Addr} {og orr : Obj} {TL0 TL tl0 own own9 : List (Addr × Obj)} {rv SL RV PV : List Value} {σ : List PySem.Str} {zs : List Int} {n2 n3 B i j : Nat} {rx : PySem.Str} {m1 s1 v1 : Int} {told1 : List Ent} {ps : List (Str × Value)} {nx : List (Addr × Obj)} {v : Value} {F0 : List (Str × Value) → Str → Option Value}
    (hJ : InJ x y z own TL RV PV n2 n3 B σ rx zs ((m1, s1, v1), told1) j ps nx) (hv : rv[j]? = some v) (hB : B ≤ 16) (hzl : zs.length = 3) (hσ : SigOk σ) (hr0 : RowOk i rx) (hi : i < 5) (hp1ok : PtOk (m1, s1, v1))
    (hSL : ∀ k : Int, 0 ≤ k → k < 3 → ∃ t, SL[k.toNat]? = some (.str (sgn3 σ k) t))
    (hru : AllR (RuIn TL0) rv zs) (hfix : ∀ p ∈ TL0, p ∈ tl0) (hTL0 : ∀ p ∈ tl0, p ∈ TL) (hg : (g, og) ∈ tl0) (hd : (d, orr) ∈ tl0) (hoff : OwnOff own9 (nx.map (·.1)))
    (F : Fr h₀ L h (F0 ps)) (N : News h₀ L h (nx ++ own9))
    (k : ∀ (q9 : Addr) (TV9 : List Value) (n9 : Nat) (tl9 : List (Addr × Obj)) (zz za zb zd zc0 zc1 zc2 m2 s2 v2 m3 s3 v3 : Int) (told2 : List Ent) (g9 : PySem.Str) (r9 : Bool) (q p : Addr) (ta tb ts k0 k1 k2 e0 e1 e2 e3 e4 e5 : Tok),
      v = .ref q → (q, tupO [.int za e0, .int zb e1, .int zd e2, .ref p]) ∈ tl9 → (p, tupO [.int zc0 e3, .int zc1 e4, .int zc2 e5]) ∈ tl9 → (g, og) ∈ tl9 → (d, orr) ∈ tl9 →
      (q9, tupO [.int m2 k0, .int s2 k1, .int v2 k2]) ∈ tl9 → 0 ≤ za → za < 2 ^ 63 → SL[za.toNat]? = some (.str (sgn3 σ za) ta) → 0 ≤ zb → zb < 2 ^ 63 → SL[zb.toNat]? = some (.str (sgn3 σ zb) tb) →
      0 ≤ (m2 * 3).fdiv 16 → (m2 * 3).fdiv 16 < 2 ^ 63 → SL[((m2 * 3).fdiv 16).toNat]? = some (.str g9 ts) → g9.length = 1 → rx.length ≤ 100 → (rx ++ g9).length ≤ 100 → (rx ++ g9).length ≤ 1000 → (∀ c ∈ (rx ++ g9).cps.toList, Sg c) →
      fitsL (rx ++ g9) (sgn3 σ za) (sgn3 σ zb) zd = r9 → turnL m2 s2 v2 zc0 zc1 zc2 = (m3, s3, v3) → TV9.toArray.size + 1 ≤ sizeLine → 0 ≤ m2 → m2 < 16 → PaintOk m2 s2 v2 →
      (Unit → fitsL (rx ++ sgn3 σ (markL m2)) (sgn3 σ (zz.fmod 3)) (sgn3 σ ((zz.fdiv 3).fmod 3)) ((zz.fdiv 9).fmod 8) = r9) → (Unit → turnL m2 s2 v2 ((zz.fdiv 72).fmod 32) ((zz.fdiv 2304).fmod 6) ((zz.fdiv 13824).fmod 5) = (m3, s3, v3)) → sgn3 σ (markL m2) = g9 →
      zs[j]? = some zz → stL σ rx zs ((m1, s1, v1), told1) j = ((m2, s2, v2), told2) → (∀ p ∈ TL, p ∈ tl9) → AllR (EntIn tl9) TV9 told2 → TV9.length ≤ B + j → Led x y z own tl9 → OwnOff tl9 [x, y, z] → OwnOff own [x, y, z] → OwnOff own9 [x, y, z] →
      OwnOff own9 (((x, listOf (List.toArray TV9) n9) :: (y, listOf (List.toArray RV) n2) :: (z, listOf (List.toArray PV) n3) :: (tl9 ++ own)).map (·.1)) →
      Fr h₀ L h (F0 [(Str.ofString "paint", .ref q9)]) → News h₀ L h ((x, listOf (List.toArray TV9) n9) :: (y, listOf (List.toArray RV) n2) :: (z, listOf (List.toArray PV) n3) :: (tl9 ++ own ++ own9)) → C) : C := by
  obtain ⟨q9, TV9, n9, tl9, rfl, rfl, hD9, hTL9, hpt9, hT9, hlT9⟩ := hJ
  obtain ⟨zz, hz, hru9⟩ := hru.at2 hv
  cases hru9 with
  | mk hq9 hc9 =>
  have hok9 := stL_ok (σ := σ) (row := rx) (zs := zs) (st := ((m1, s1, v1), told1)) hp1ok j
  generalize hst9 : stL σ rx zs ((m1, s1, v1), told1) j = st9 at hpt9 hT9 hok9
  obtain ⟨⟨m2, s2, v2⟩, told2⟩ := st9
  have hok9 : PaintOk m2 s2 v2 := hok9
  cases hpt9 with
  | mk hpm9 =>
  have hmk := markL_lt hok9
  obtain ⟨ts, hts⟩ := hSL _ hmk.1 hmk.2
  have ha0 : 0 ≤ zz.fmod 3 := fmod_lo _ (by decide)
  have ha1 : zz.fmod 3 < 3 := fmod_hi _ (by decide)
  have hb0 : 0 ≤ (zz.fdiv 3).fmod 3 := fmod_lo _ (by decide)
  have hb1 : (zz.fdiv 3).fmod 3 < 3 := fmod_hi _ (by decide)
  obtain ⟨ta, hta⟩ := hSL _ ha0 ha1
  obtain ⟨tb, htb⟩ := hSL _ hb0 hb1
  have hrow9 := rowOk_add hσ hr0 hmk.1 hmk.2
  have hlen9 := sgn3_len hσ hmk.1 hmk.2
  have hj3 : j < 3 := hzl ▸ (List.getElem?_eq_some_iff.mp hz).1
  have hrl := hr0.1
  have hgl := hrow9.1
  obtain ⟨m3, s3, v3, hp3⟩ : ∃ m3 s3 v3, turnL m2 s2 v2 ((zz.fdiv 72).fmod 32) ((zz.fdiv 2304).fmod 6) ((zz.fdiv 13824).fmod 5) = (m3, s3, v3) := ⟨_, _, _, rfl⟩
  have hm2 := hmk.2
  unfold markL at hm2
  refine k q9 TV9 n9 tl9 zz (zz.fmod 3) ((zz.fdiv 3).fmod 3) ((zz.fdiv 9).fmod 8) ((zz.fdiv 72).fmod 32) ((zz.fdiv 2304).fmod 6) ((zz.fdiv 13824).fmod 5) m2 s2 v2 m3 s3 v3 told2 (sgn3 σ (markL m2)) (fitsL (rx ++ sgn3 σ (markL m2)) (sgn3 σ (zz.fmod 3)) (sgn3 σ ((zz.fdiv 3).fmod 3)) ((zz.fdiv 9).fmod 8)) _ _ ta tb ts _ _ _ _ _ _ _ _ _ rfl (hTL9 _ (hTL0 _ (hfix _ hq9))) (hTL9 _ (hTL0 _ (hfix _ hc9))) (hTL9 _ (hTL0 _ hg)) (hTL9 _ (hTL0 _ hd)) hpm9
    ha0 (Int.lt_trans ha1 (by decide)) hta hb0 (Int.lt_trans hb1 (by decide)) htb hmk.1 (Int.lt_trans hm2 (by decide)) hts hlen9 (by lia) (by lia) (by lia) hrow9.2 rfl hp3 ?_ hok9.1 hok9.2.1 hok9 (fun _ => rfl) (fun _ => hp3) rfl hz hst9 hTL9 hT9 hlT9 hD9 hD9.off hD9.own3 (off3 hoff) hoff F N
  rw [sizeLine_eq, List.size_toArray]; lia
theorem InJ.done {C : Prop} {h₀ h : Heap} {L g x y z : Addr} {og : Obj} {TL tl0 own : List (Addr × Obj)} {SL RV PV rv : List Value} {σ : List PySem.Str} {zs : List Int} {n2 n3 B i : Nat} {rx : PySem.Str} {m1 s1 v1 : Int} {told1 : List Ent} {ps : List (Str × Value)} {nx : List (Addr × Obj)} {F0 : List (Str × Value) → Str → Option Value}
    (hJ : InJ x y z own TL RV PV n2 n3 B σ rx zs ((m1, s1, v1), told1) rv.length ps nx) (hrl : rv.length = zs.length) (hzl : zs.length = 3) (hB : B ≤ 16) (hσ : SigOk σ) (hr0 : RowOk i rx) (hi : i < 5) (hp1ok : PtOk (m1, s1, v1))
    (hSL : ∀ k : Int, 0 ≤ k → k < 3 → ∃ t, SL[k.toNat]? = some (.str (sgn3 σ k) t)) (hTL0 : ∀ p ∈ tl0, p ∈ TL) (hg : (g, og) ∈ tl0)
    (F : Fr h₀ L h (F0 ps)) (N : News h₀ L h nx)
    (k : ∀ (q9 : Addr) (TV9 : List Value) (n9 : Nat) (tl9 : List (Addr × Obj)) (m2 s2 v2 : Int) (told2 : List Ent) (g9 : PySem.Str) (ts k0 k1 k2 : Tok),
      (g, og) ∈ tl9 → (q9, tupO [.int m2 k0, .int s2 k1, .int v2 k2]) ∈ tl9 → 0 ≤ (m2 * 3).fdiv 16 → (m2 * 3).fdiv 16 < 2 ^ 63 → SL[((m2 * 3).fdiv 16).toNat]? = some (.str g9 ts) → g9.length = 1 → rx.length ≤ 100 →
      TV9.toArray.size + 1 ≤ sizeLine → (0 ≤ m2 ∧ m2 < 16) → (0 ≤ s2 ∧ s2 < 5) → (0 ≤ v2 ∧ v2 < 5) → ¬ Flt.Over m2 → ¬ Flt.Over s2 → ¬ Flt.Over v2 → sgn3 σ (markL m2) = g9 →
      zs.foldl (innerStep σ rx) ((m1, s1, v1), told1) = ((m2, s2, v2), told2) → (∀ p ∈ TL, p ∈ tl9) → AllR (EntIn tl9) TV9 told2 → TV9.length ≤ B + 3 → Led x y z own tl9 → OwnOff tl9 [x, y, z] → OwnOff own [x, y, z] →
      Fr h₀ L h (F0 [(Str.ofString "paint", .ref q9)]) → News h₀ L h ((x, listOf (List.toArray TV9) n9) :: (y, listOf (List.toArray RV) n2) :: (z, listOf (List.toArray PV) n3) :: (tl9 ++ own)) → C) : C := by
  obtain ⟨q9, TV9, n9, tl9, rfl, rfl, hD9, hTL9, hpt9, hT9, hlT9⟩ := hJ
  have hok9 := stL_ok (σ := σ) (row := rx) (zs := zs) (st := ((m1, s1, v1), told1)) hp1ok rv.length
  have hst8 : stL σ rx zs ((m1, s1, v1), told1) rv.length = zs.foldl (innerStep σ rx) ((m1, s1, v1), told1) := by unfold stL; rw [List.take_of_length_le (Nat.le_of_eq hrl.symm)]
  rw [hst8] at hpt9 hT9 hok9
  generalize hst9 : zs.foldl (innerStep σ rx) ((m1, s1, v1), told1) = st9 at hpt9 hT9 hok9 hst8
  obtain ⟨⟨m2, s2, v2⟩, told2⟩ := st9
  have hok9 : PaintOk m2 s2 v2 := hok9
  cases hpt9 with
  | mk hpm9 =>
  have hmk := markL_lt hok9
  obtain ⟨ts, hts⟩ := hSL _ hmk.1 hmk.2
  have hlen9 := sgn3_len hσ hmk.1 hmk.2
  have hrl2 := hr0.1
  have hm2 := hmk.2
  unfold markL at hm2
  obtain ⟨hm0, hm16, hs0, hs5, hv1, hv5, _⟩ := id hok9
  have hlT9 : TV9.length ≤ B + 3 := by rw [hrl, hzl] at hlT9; exact hlT9
  refine k q9 TV9 n9 tl9 m2 s2 v2 told2 _ ts _ _ _ (hTL9 _ (hTL0 _ hg)) hpm9 hmk.1 (by lia) hts hlen9 (by lia) ?_ ⟨hm0, hm16⟩ ⟨hs0, hs5⟩ ⟨by lia, hv5⟩ (not_over (by lia)) (not_over (by lia)) (not_over (by lia)) rfl hst9 hTL9 hT9 hlT9 hD9 hD9.off hD9.own3 F N
  rw [sizeLine_eq, List.size_toArray]; lia
end Mine
end

section
open PySem PySem.W PySem.Calls PyProof.Rows PyProof.V PySem.Spec
namespace Mine
theorem ClIn.of {l : List (Addr × Obj)} {q : Addr} {m s v : Int} {a0 a1 a2 : UInt64} {t0 t1 t2 : Tok} (e : lightL m s v = (a0, a1, a2)) (h : (q, tupO [.float a0 t0, .float a1 t1, .float a2 t2]) ∈ l) (h0 : t0 ≠ 0) (h1 : t1 ≠ 0) (h2 : t2 ≠ 0) : ClIn l (.ref q) (m, s, v) :=
  .mk (m := m) (s := s) (v := v) (by rw [e]; exact h) h0 h1 h2
theorem SeIn.of {l : List (Addr × Obj)} {q : Addr} {m s v : Int} {a0 a1 a2 : UInt64} {t0 t1 t2 : Tok} (e : seenL m s v = (a0, a1, a2)) (h : (q, tupO [.float a0 t0, .float a1 t1, .float a2 t2]) ∈ l) (h0 : t0 ≠ 0) (h1 : t1 ≠ 0) (h2 : t2 ≠ 0) : SeIn l (.ref q) (m, s, v) :=
  .mk (m := m) (s := s) (v := v) (by rw [e]; exact h) h0 h1 h2
theorem OutM.turn {C : Prop} {h₀ h : Heap} {L l g d x y z : Addr} {oc og orr : Obj} {TL0 own : List (Addr × Obj)} {rv CL : List Value} {σ : List PySem.Str} {ys zs : List Int} {i : Nat} {ps : List (Str × Value)} {nx : List (Addr × Obj)} {kx : Str} {vx : Value} {m₀ : Str → Option Value}
    (hJ : OutM x y z TL0 rv σ ys zs i ps nx) (hi : i < 5) (hσ : SigOk σ) (hCL : ∀ i : Nat, i < 5 → ∃ y t, CL[(1 + (i : Int)).toNat]? = some (.int y t) ∧ ys.getD i 0 = y)
    (hcT : (l, oc) ∈ TL0) (hgT : (g, og) ∈ TL0) (hrT : (d, orr) ∈ TL0) (hoff : OwnOff own (nx.map (·.1)))
    (F : Fr h₀ L h (fun q => if q = kx then some vx else kstB m₀ ps q)) (N : News h₀ L h (nx ++ own))
    (k : ∀ (TV RV PV : List Value) (n1 n2 n3 : Nat) (tl : List (Addr × Obj)) (yy : Int) (ty : Tok) (S : Sheet) (up m0 s0 v0 m1 s1 v1 : Int) (p0 : Addr) (ta tb tc : Tok) (a0 a1 a2 b0 b1 b2 d0 d1 d2 : UInt64) (rx : PySem.Str) (tr : Tok),
      CL[(1 + (i : Int)).toNat]? = some (.int yy ty) → upL (1 + (i : Int)) yy = up → 0 ≤ up → up < 2 ^ 63 →
      PV[up.toNat]? = some (.ref p0) → (p0, tupO [.float a0 ta, .float a1 tb, .float a2 tc]) ∈ tl → ta ≠ 0 → tb ≠ 0 → tc ≠ 0 → RV[up.toNat]? = some (.str rx tr) →
      RowOk i rx → chgL a0 a1 a2 ((yy.fdiv 3).fmod 32) ((yy.fdiv 96).fmod 6) ((yy.fdiv 576).fmod 5) = some (b0, b1, b2) → rgbL b0 b1 b2 = some (d0, d1, d2) →
      0 ≤ (yy.fdiv 3).fmod 32 ∧ (yy.fdiv 3).fmod 32 < 32 → 0 ≤ (yy.fdiv 96).fmod 6 ∧ (yy.fdiv 96).fmod 6 < 6 → 0 ≤ (yy.fdiv 576).fmod 5 ∧ (yy.fdiv 576).fmod 5 < 5 → (Unit → lightL m1 s1 v1 = (b0, b1, b2)) → (Unit → seenL m1 s1 v1 = (d0, d1, d2)) → PtOk (m1, s1, v1) →
      (∀ m2 s2 v2 told2, zs.foldl (innerStep σ rx) ((m1, s1, v1), S.told) = ((m2, s2, v2), told2) → sheetL σ ys zs (i + 1) = ⟨S.pts ++ [(m2, s2, v2)], S.rows ++ [rx ++ sgn3 σ (markL m2)], told2 ++ [.pic m2 s2 v2]⟩) →
      RV.toArray.size + 1 ≤ sizeLine → PV.toArray.size + 1 ≤ sizeLine → Led x y z own tl → OwnOff own [x, y, z] →
      (l, oc) ∈ tl → (g, og) ∈ tl → (d, orr) ∈ tl → (∀ p ∈ TL0, p ∈ tl) → AllR (RuIn TL0) rv zs → AllR (EntIn tl) TV S.told → AllR StIn RV S.rows → AllR (ClIn tl) PV S.pts → TV.length ≤ 4 * i → @LT.lt Nat _ z y → @LT.lt Nat _ y x →
      Fr h₀ L h (fun q => if q = kx then some vx else m₀ q) → News h₀ L h ((x, listOf (List.toArray TV) n1) :: (y, listOf (List.toArray RV) n2) :: (z, listOf (List.toArray PV) n3) :: (tl ++ own)) → C) : C := by
  obtain ⟨rfl, TV, RV, PV, n1, n2, n3, tl, rfl, hoT, hfix, hru, hT, hR, hP, hTl, hzy, hyx⟩ := hJ
  have hok := sheet_ok hσ ys zs i
  obtain ⟨yy, ty, hcell, hy⟩ := hCL i hi
  have hstep : sheetL σ ys zs (i + 1) = outerStep σ zs (1 + (i : Int)) yy (sheetL σ ys zs i) := by
    rw [← hy]; rfl
  generalize hS : sheetL σ ys zs i = S at hok hT hR hP hstep
  have hub := upL_bounds (1 + (i : Int)) yy i rfl
  obtain ⟨pv, ⟨m0, s0, v0⟩, hpv, hpt, hpin⟩ := hP.at (i := (upL (1 + (i : Int)) yy).toNat) (by rw [hok.plen]; exact hub.2)
  obtain ⟨rv2, rx, hrv, hrx, hrin⟩ := hR.at (i := (upL (1 + (i : Int)) yy).toNat) (by rw [hok.rlen]; exact hub.2)
  have ep0 : S.pts.getD (upL (1 + (i : Int)) yy).toNat (0, 4, 4) = (m0, s0, v0) := by rw [List.getD_eq_getElem?_getD, hpt]; rfl
  have er0 : S.rows.getD (upL (1 + (i : Int)) yy).toNat (Str.ofString "") = rx := by rw [List.getD_eq_getElem?_getD, hrx]; rfl
  have hp0 : PtOk (m0, s0, v0) := hok.pok _ (List.mem_of_getElem? hpt)
  have hr0 : RowOk i rx := hok.rok _ (List.mem_of_getElem? hrx)
  obtain ⟨m1, s1, v1, hp1⟩ : ∃ m1 s1 v1, turnL m0 s0 v0 ((yy.fdiv 3).fmod 32) ((yy.fdiv 96).fmod 6) ((yy.fdiv 576).fmod 5) = (m1, s1, v1) := ⟨_, _, _, rfl⟩
  have hp1ok : PtOk (m1, s1, v1) := hp1 ▸ (turn_ok hp0 (yy.fdiv 3) (yy.fdiv 96) (yy.fdiv 576) rfl rfl rfl).2
  have hD := Led.of hoT hoff
  cases hpin with
  | mk hpm ht0 ht1 ht2 =>
  have hchg := chg_eq hp0 hp1
  have hrgb := rgb_eq (m := m1) (s := s1) (v := v1) hp1ok
  cases hrin
  refine k TV RV PV n1 n2 n3 tl yy ty S _ m0 s0 v0 m1 s1 v1 _ _ _ _ _ _ _ _ _ _ _ _ _ rx _ hcell rfl hub.1 (by lia) hpv hpm ht0 ht1 ht2 hrv hr0 hchg hrgb ⟨fmod_lo _ (by decide), fmod_hi _ (by decide)⟩ ⟨fmod_lo _ (by decide), fmod_hi _ (by decide)⟩ ⟨fmod_lo _ (by decide), fmod_hi _ (by decide)⟩ (fun _ => rfl) (fun _ => rfl) hp1ok ?_ ?_ ?_ hD hD.own3 (hfix _ hcT) (hfix _ hgT) (hfix _ hrT) hfix hru hT hR hP hTl hzy hyx F N
  · intro m2 s2 v2 told2 h2
    rw [hstep]; unfold outerStep; rw [ep0, er0]; dsimp only; rw [hp1, h2]
  · rw [sizeLine_eq, List.size_toArray, hR.len, hok.rlen]; lia
  · rw [sizeLine_eq, List.size_toArray, hP.len, hok.plen]; lia
theorem seen_all {m s v : Int} {σ : List PySem.Str} {SL : List Value} {b0 b1 b2 : UInt64} (hok : PaintOk m s v) (e : seenL m s v = (b0, b1, b2)) (hSL : ∀ k : Int, 0 ≤ k → k < 3 → ∃ t, SL[k.toNat]? = some (.str (sgn3 σ k) t)) :
    Float64.isFinite (Float64.mul b0 4625196817309499392) = true ∧ 0 ≤ (Flt.toInt Float64.truncOf (Float64.mul b0 4625196817309499392)) ∧ (Flt.toInt Float64.truncOf (Float64.mul b0 4625196817309499392)) < 16 ∧ 0 ≤ (((Flt.toInt Float64.truncOf (Float64.mul b0 4625196817309499392)) * 3).fdiv 16).fmod 3 ∧ (((Flt.toInt Float64.truncOf (Float64.mul b0 4625196817309499392)) * 3).fdiv 16).fmod 3 < 2 ^ 63 ∧ ∃ ts, SL[((((Flt.toInt Float64.truncOf (Float64.mul b0 4625196817309499392)) * 3).fdiv 16).fmod 3).toNat]? = some (.str (sgn3 σ (markL m)) ts) := by
  have hX := int_seen hok
  rw [e] at hX
  have hmk := markL_lt hok
  obtain ⟨ts, hts⟩ := hSL _ hmk.1 hmk.2
  have hmf : (markL m).fmod 3 = markL m := by rw [Int.fmod_eq_emod_of_nonneg _ (by decide)]; exact Int.emod_eq_of_lt hmk.1 hmk.2
  refine ⟨hX.2, by rw [hX.1]; exact hok.1, by rw [hX.1]; exact hok.2.1, fmod_lo _ (by decide), Int.lt_trans (fmod_hi _ (by decide)) (by decide), ts, ?_⟩
  rw [hX.1]
  show SL[((markL m).fmod 3).toNat]? = _
  rw [hmf]; exact hts
set_option maxHeartbeats 2000000 in
theorem InM.turn {C : Prop} {h₀ h : Heap} {L g x y z dr dw : Addr} {og or1 or2 : Obj} {TL tl0 own own9 nx0 : List (Addr × Obj)} {rv SL RV PV wv : List Value} {σ : List PySem.Str} {zs : List Int} {n2 n3 B i j : Nat} {rx : PySem.Str} {m1 s1 v1 : Int} {told1 : List Ent} {ps : List (Str × Value)} {nx : List (Addr × Obj)} {kx : Str} {vx : Value} {m₀ : Str → Option Value}
    (hJ : InM x y z own TL RV PV n2 n3 B σ rx zs ((m1, s1, v1), told1) j ps nx) (hj : j < 3) (hB : B ≤ 16) (hzl : zs.length = 3) (hσ : SigOk σ) (hr0 : RowOk i rx) (hi : i < 5) (hp1ok : PtOk (m1, s1, v1))
    (hSL : ∀ k : Int, 0 ≤ k → k < 3 → ∃ t, SL[k.toNat]? = some (.str (sgn3 σ k) t)) (hw : TxAre wv (zs.map (wantZ σ)))
    (hru : AllR (RuIn nx0) rv zs) (hfix : ∀ p ∈ nx0, p ∈ tl0) (hTL0 : ∀ p ∈ tl0, p ∈ TL) (hg : (g, og) ∈ tl0) (hd1 : (dr, or1) ∈ tl0) (hd2 : (dw, or2) ∈ tl0) (hoff : OwnOff own9 (nx.map (·.1)))
    (F : Fr h₀ L h (fun q => if q = kx then some vx else kstB m₀ ps q)) (N : News h₀ L h (nx ++ own9))
    (k : ∀ (q9 q8 : Addr) (TV9 : List Value) (n9 : Nat) (tl9 : List (Addr × Obj)) (zz za zb zd zc0 zc1 zc2 m2 s2 v2 m3 s3 v3 : Int) (a0 a1 a2 b0 b1 b2 c0 c1 c2 d0 d1 d2 : UInt64) (told2 : List Ent) (g9 : PySem.Str) (pa pb : Nat) (rr : List Nat) (r9 : Bool) (q p : Addr) (ts tw k0 k1 k2 k3 k4 k5 e0 e1 e2 e3 e4 e5 : Tok),
      rv[(0 + (j : Int)).toNat]? = some (.ref q) → wv[(0 + (j : Int)).toNat]? = some (.str (wantS pa pb zd.toNat) tw) → 0 ≤ 0 + (j : Int) → 0 + (j : Int) < 2 ^ 63 →
      (q, tupO [.int za e0, .int zb e1, .int zd e2, .ref p]) ∈ tl9 → (p, tupO [.int zc0 e3, .int zc1 e4, .int zc2 e5]) ∈ tl9 → (g, og) ∈ tl9 → (dr, or1) ∈ tl9 → (dw, or2) ∈ tl9 →
      (q9, tupO [.float a0 k0, .float a1 k1, .float a2 k2]) ∈ tl9 → k0 ≠ 0 → k1 ≠ 0 → k2 ≠ 0 → (q8, tupO [.float b0 k3, .float b1 k4, .float b2 k5]) ∈ tl9 → k3 ≠ 0 → k4 ≠ 0 → k5 ≠ 0 →
      Float64.isFinite (Float64.mul b0 4625196817309499392) = true → Float64.isNaN (Float64.mul b0 4625196817309499392) = false → Float64.isInf (Float64.mul b0 4625196817309499392) = false → 0 ≤ (Flt.toInt Float64.truncOf (Float64.mul b0 4625196817309499392)) → (Flt.toInt Float64.truncOf (Float64.mul b0 4625196817309499392)) < 16 →
      0 ≤ (((Flt.toInt Float64.truncOf (Float64.mul b0 4625196817309499392)) * 3).fdiv 16).fmod 3 → (((Flt.toInt Float64.truncOf (Float64.mul b0 4625196817309499392)) * 3).fdiv 16).fmod 3 < 2 ^ 63 → SL[((((Flt.toInt Float64.truncOf (Float64.mul b0 4625196817309499392)) * 3).fdiv 16).fmod 3).toNat]? = some (.str g9 ts) → g9.length = 1 → g9.length ≤ 100 → rx.length ≤ 100 →
      Sg pa → Sg pb → 0 ≤ zd ∧ zd < 8 → (rx ++ g9).length ≤ 1000 → (esc1 (rx ++ g9)).length ≤ 1000 → (esc2 (rx ++ g9)).length ≤ 1000 → (esc3 (rx ++ g9)).length ≤ 1000 → (esc4 (rx ++ g9)).length ≤ 1000 → (esc5 (rx ++ g9)).length ≤ 1000 → (esc6 (rx ++ g9)).length ≤ 1000 → (esc7 (rx ++ g9)).length ≤ 1000 →
      (rx ++ g9).cps.toList = rr → (esc7 (rx ++ g9)).cps.toList = EE rr → (∀ c ∈ rr, Sg c) → fitsL (rx ++ g9) ⟨#[pa]⟩ ⟨#[pb]⟩ zd = r9 →
      chgL a0 a1 a2 zc0 zc1 zc2 = some (c0, c1, c2) → rgbL c0 c1 c2 = some (d0, d1, d2) → 0 ≤ zc0 ∧ zc0 < 32 → 0 ≤ zc1 ∧ zc1 < 6 → 0 ≤ zc2 ∧ zc2 < 5 → TV9.toArray.size + 1 ≤ sizeLine →
      (Unit → fitsL (rx ++ sgn3 σ (markL m2)) (sgn3 σ (zz.fmod 3)) (sgn3 σ ((zz.fdiv 3).fmod 3)) ((zz.fdiv 9).fmod 8) = r9) → (Unit → turnL m2 s2 v2 ((zz.fdiv 72).fmod 32) ((zz.fdiv 2304).fmod 6) ((zz.fdiv 13824).fmod 5) = (m3, s3, v3)) → sgn3 σ (markL m2) = g9 →
      (Unit → lightL m2 s2 v2 = (a0, a1, a2)) → (Unit → seenL m2 s2 v2 = (b0, b1, b2)) → (Unit → lightL m3 s3 v3 = (c0, c1, c2)) → (Unit → seenL m3 s3 v3 = (d0, d1, d2)) →
      zs[j]? = some zz → stL σ rx zs ((m1, s1, v1), told1) j = ((m2, s2, v2), told2) → (∀ p ∈ TL, p ∈ tl9) → AllR (EntIn tl9) TV9 told2 → TV9.length ≤ B + j → Led x y z own tl9 → OwnOff tl9 [x, y, z] → OwnOff own [x, y, z] → OwnOff own9 [x, y, z] →
      OwnOff own9 (((x, listOf (List.toArray TV9) n9) :: (y, listOf (List.toArray RV) n2) :: (z, listOf (List.toArray PV) n3) :: (tl9 ++ own)).map (·.1)) →
      Fr h₀ L h (fun q => if q = kx then some vx else kstB m₀ [(Str.ofString "colour", .ref q9), (Str.ofString "seen", .ref q8)] q) → News h₀ L h ((x, listOf (List.toArray TV9) n9) :: (y, listOf (List.toArray RV) n2) :: (z, listOf (List.toArray PV) n3) :: (tl9 ++ own ++ own9)) → C) : C := by
  obtain ⟨q9, q8, TV9, n9, tl9, rfl, rfl, hD9, hTL9, hcl9, hse9, hT9, hlT9⟩ := hJ
  obtain ⟨rvj, zz, hrvj, hz, hrj⟩ := hru.at (i := j) (by rw [hzl]; exact hj)
  cases hrj with
  | mk hq9 hc9 =>
  have ej : (0 + (j : Int)).toNat = j := by lia
  obtain ⟨tw, hwj⟩ := hw.at2 (i := j) (x := wantZ σ zz) (by rw [List.getElem?_map, hz]; rfl)
  unfold wantZ at hwj
  have hok9 := stL_ok (σ := σ) (row := rx) (zs := zs) (st := ((m1, s1, v1), told1)) hp1ok j
  generalize hst9 : stL σ rx zs ((m1, s1, v1), told1) j = st9 at hcl9 hse9 hT9 hok9
  obtain ⟨⟨m2, s2, v2⟩, told2⟩ := st9
  have hok9 : PaintOk m2 s2 v2 := hok9
  cases hcl9 with
  | mk hpm9 hq0 hq1 hq2 =>
  cases hse9 with
  | mk hsm9 hs0 hs1 hs2 =>
  obtain ⟨hfin, hX0, hX16, hk0, hk63, ts, hts⟩ := seen_all hok9 rfl hSL
  have hmk := markL_lt hok9
  have ha0 : 0 ≤ zz.fmod 3 := fmod_lo _ (by decide)
  have ha1 : zz.fmod 3 < 3 := fmod_hi _ (by decide)
  have hb0 : 0 ≤ (zz.fdiv 3).fmod 3 := fmod_lo _ (by decide)
  have hb1 : (zz.fdiv 3).fmod 3 < 3 := fmod_hi _ (by decide)
  obtain ⟨esa, sga⟩ := sgc_eq hσ ha0 ha1
  obtain ⟨esb, sgb⟩ := sgc_eq hσ hb0 hb1
  have hrow9 := rowOk_add hσ hr0 hmk.1 hmk.2
  have hlen9 := sgn3_len hσ hmk.1 hmk.2
  have hrl := hr0.1
  have hl100 : (rx ++ sgn3 σ (markL m2)).length ≤ 100 := by have := hrow9.1; lia
  obtain ⟨l1, l2, l3, l4, l5, l6, l7⟩ := esc_lens hl100
  have hye : (esc7 (rx ++ sgn3 σ (markL m2))).cps.toList = EE (rx ++ sgn3 σ (markL m2)).cps.toList := by rw [esc7_flat]; rfl
  obtain ⟨m3, s3, v3, hp3⟩ : ∃ m3 s3 v3, turnL m2 s2 v2 ((zz.fdiv 72).fmod 32) ((zz.fdiv 2304).fmod 6) ((zz.fdiv 13824).fmod 5) = (m3, s3, v3) := ⟨_, _, _, rfl⟩
  have hok3 : PaintOk m3 s3 v3 := by
    have h := (turn_ok (c0 := (zz.fdiv 72).fmod 32) (c1 := (zz.fdiv 2304).fmod 6) (c2 := (zz.fdiv 13824).fmod 5) hok9 (zz.fdiv 72) (zz.fdiv 2304) (zz.fdiv 13824) rfl rfl rfl).2
    rw [hp3] at h
    exact h
  have hchg3 := chg_eq (m := m2) (s := s2) (v := v2) hok9 hp3
  have hrgb3 := rgb_eq hok3
  have hr8 : fitsL (rx ++ sgn3 σ (markL m2)) ⟨#[sgc σ (zz.fmod 3)]⟩ ⟨#[sgc σ ((zz.fdiv 3).fmod 3)]⟩ ((zz.fdiv 9).fmod 8) = fitsL (rx ++ sgn3 σ (markL m2)) (sgn3 σ (zz.fmod 3)) (sgn3 σ ((zz.fdiv 3).fmod 3)) ((zz.fdiv 9).fmod 8) := by rw [← esa, ← esb]
  refine k q9 q8 TV9 n9 tl9 zz (zz.fmod 3) ((zz.fdiv 3).fmod 3) ((zz.fdiv 9).fmod 8) ((zz.fdiv 72).fmod 32) ((zz.fdiv 2304).fmod 6) ((zz.fdiv 13824).fmod 5) m2 s2 v2 m3 s3 v3 _ _ _ _ _ _ _ _ _ _ _ _ told2 (sgn3 σ (markL m2)) _ _ _ _ _ _ ts tw _ _ _ _ _ _ _ _ _ _ _ _
    (by rw [ej]; exact hrvj) (by rw [ej]; exact hwj) (by lia) (by lia) (hTL9 _ (hTL0 _ (hfix _ hq9))) (hTL9 _ (hTL0 _ (hfix _ hc9))) (hTL9 _ (hTL0 _ hg)) (hTL9 _ (hTL0 _ hd1)) (hTL9 _ (hTL0 _ hd2)) hpm9 hq0 hq1 hq2 hsm9 hs0 hs1 hs2
    hfin (fin_nan hfin) (fin_inf hfin) hX0 hX16 hk0 hk63 hts hlen9 (by lia) (by lia) sga sgb ⟨fmod_lo _ (by decide), fmod_hi _ (by decide)⟩ (Nat.le_trans hl100 (by decide)) l1 l2 l3 l4 l5 l6 l7
    rfl hye hrow9.2 hr8 hchg3 hrgb3 ⟨fmod_lo _ (by decide), fmod_hi _ (by decide)⟩ ⟨fmod_lo _ (by decide), fmod_hi _ (by decide)⟩ ⟨fmod_lo _ (by decide), fmod_hi _ (by decide)⟩ ?_ (fun _ => rfl) (fun _ => hp3) rfl (fun _ => rfl) (fun _ => rfl) (fun _ => rfl) (fun _ => rfl) hz hst9 hTL9 hT9 hlT9 hD9 hD9.off hD9.own3 (off3 hoff) hoff F N
  rw [sizeLine_eq, List.size_toArray]; lia
set_option maxHeartbeats 2000000 in
theorem InM.done {C : Prop} {h₀ h : Heap} {L g x y z : Addr} {og : Obj} {TL tl0 own : List (Addr × Obj)} {SL RV PV : List Value} {σ : List PySem.Str} {zs : List Int} {n2 n3 B i n : Nat} {rx : PySem.Str} {m1 s1 v1 : Int} {told1 : List Ent} {ps : List (Str × Value)} {nx : List (Addr × Obj)} {kx : Str} {ux m₀ : Str → Option Value}
    (hJ : InM x y z own TL RV PV n2 n3 B σ rx zs ((m1, s1, v1), told1) n ps nx) (hn : n = 3) (hzl : zs.length = 3) (hB : B ≤ 16) (hσ : SigOk σ) (hr0 : RowOk i rx) (hi : i < 5) (hp1ok : PtOk (m1, s1, v1))
    (hSL : ∀ k : Int, 0 ≤ k → k < 3 → ∃ t, SL[k.toNat]? = some (.str (sgn3 σ k) t)) (hTL0 : ∀ p ∈ tl0, p ∈ TL) (hg : (g, og) ∈ tl0)
    (F : Fr h₀ L h (fun q => if q = kx then ux q else kstB m₀ ps q)) (N : News h₀ L h nx)
    (k : ∀ (q9 q8 : Addr) (TV9 : List Value) (n9 : Nat) (tl9 : List (Addr × Obj)) (m2 s2 v2 : Int) (a0 a1 a2 b0 b1 b2 : UInt64) (told2 : List Ent) (g9 : PySem.Str) (ts k0 k1 k2 k3 k4 k5 : Tok),
      (g, og) ∈ tl9 → (q9, tupO [.float a0 k0, .float a1 k1, .float a2 k2]) ∈ tl9 → k0 ≠ 0 → k1 ≠ 0 → k2 ≠ 0 → (q8, tupO [.float b0 k3, .float b1 k4, .float b2 k5]) ∈ tl9 → k3 ≠ 0 → k4 ≠ 0 → k5 ≠ 0 →
      Float64.isFinite (Float64.mul b0 4625196817309499392) = true → Float64.isNaN (Float64.mul b0 4625196817309499392) = false → Float64.isInf (Float64.mul b0 4625196817309499392) = false → 0 ≤ (Flt.toInt Float64.truncOf (Float64.mul b0 4625196817309499392)) → (Flt.toInt Float64.truncOf (Float64.mul b0 4625196817309499392)) < 16 →
      0 ≤ (((Flt.toInt Float64.truncOf (Float64.mul b0 4625196817309499392)) * 3).fdiv 16).fmod 3 → (((Flt.toInt Float64.truncOf (Float64.mul b0 4625196817309499392)) * 3).fdiv 16).fmod 3 < 2 ^ 63 → SL[((((Flt.toInt Float64.truncOf (Float64.mul b0 4625196817309499392)) * 3).fdiv 16).fmod 3).toNat]? = some (.str g9 ts) → g9.length = 1 → g9.length ≤ 100 → rx.length ≤ 100 →
      TV9.toArray.size + 1 ≤ sizeLine → sgn3 σ (markL m2) = g9 → (Unit → lightL m2 s2 v2 = (a0, a1, a2)) → (Unit → seenL m2 s2 v2 = (b0, b1, b2)) →
      zs.foldl (innerStep σ rx) ((m1, s1, v1), told1) = ((m2, s2, v2), told2) → (∀ p ∈ TL, p ∈ tl9) → AllR (EntIn tl9) TV9 told2 → TV9.length ≤ B + 3 → Led x y z own tl9 → OwnOff tl9 [x, y, z] → OwnOff own [x, y, z] →
      Fr h₀ L h (fun q => if q = kx then ux q else kstB m₀ [(Str.ofString "colour", .ref q9), (Str.ofString "seen", .ref q8)] q) → News h₀ L h ((x, listOf (List.toArray TV9) n9) :: (y, listOf (List.toArray RV) n2) :: (z, listOf (List.toArray PV) n3) :: (tl9 ++ own)) → C) : C := by
  obtain ⟨q9, q8, TV9, n9, tl9, rfl, rfl, hD9, hTL9, hcl9, hse9, hT9, hlT9⟩ := hJ
  have hok9 := stL_ok (σ := σ) (row := rx) (zs := zs) (st := ((m1, s1, v1), told1)) hp1ok n
  have hst8 : stL σ rx zs ((m1, s1, v1), told1) n = zs.foldl (innerStep σ rx) ((m1, s1, v1), told1) := by unfold stL; rw [List.take_of_length_le (by rw [hn, hzl]; exact Nat.le_refl _)]
  rw [hst8] at hcl9 hse9 hT9 hok9
  generalize hst9 : zs.foldl (innerStep σ rx) ((m1, s1, v1), told1) = st9 at hcl9 hse9 hT9 hok9 hst8
  obtain ⟨⟨m2, s2, v2⟩, told2⟩ := st9
  have hok9 : PaintOk m2 s2 v2 := hok9
  cases hcl9 with
  | mk hpm9 hq0 hq1 hq2 =>
  cases hse9 with
  | mk hsm9 hs0 hs1 hs2 =>
  obtain ⟨hfin, hX0, hX16, hk0, hk63, ts, hts⟩ := seen_all hok9 rfl hSL
  have hmk := markL_lt hok9
  have hlen9 := sgn3_len hσ hmk.1 hmk.2
  have hrl := hr0.1
  have hlT9 : TV9.length ≤ B + 3 := by rw [hn] at hlT9; exact hlT9
  refine k q9 q8 TV9 n9 tl9 m2 s2 v2 _ _ _ _ _ _ told2 (sgn3 σ (markL m2)) ts _ _ _ _ _ _ (hTL9 _ (hTL0 _ hg)) hpm9 hq0 hq1 hq2 hsm9 hs0 hs1 hs2 hfin (fin_nan hfin) (fin_inf hfin) hX0 hX16 hk0 hk63 hts hlen9 (by lia) (by lia) ?_ rfl (fun _ => rfl) (fun _ => rfl) hst9 hTL9 hT9 hlT9 hD9 hD9.off hD9.own3 F N
  rw [sizeLine_eq, List.size_toArray]; lia
end Mine
end

section
theorem Mine.fresh_W1 : True := by
  w_top off
  exact trivial
open PySem PySem.W PySem.Calls PyProof.Rows
namespace Mine
section
variable {w : World} {mean : ExcName → Option Value} {mg mb : Str → Option Value}
   {dp un : Nat} {gd : Option (List Code)} {cn : Str} {cs : Scope} {a : Addr} {ccd : Value} {cl : List (Str × Addr)} {outer : List Env} {A₀ : Around} {base h₀ : Heap} {L : Addr} {m : Str → Option Value} {news : List (Addr × Obj)} {s : Shared} {Q E : Value → Shared → Prop}
set_option maxRecDepth 100000
set_option maxHeartbeats 8000000
local macro_rules | `(tactic| walk_at "pyIter ref") => `(tactic| (with_reducible refine stopFor ?_))
local macro_rules | `(tactic| walk_at "exec Assign cons ListComp") => `(tactic| (refine Stop.go ?_))
local macro_rules | `(tactic| walk_at "exec For Tuple Name cons nil") => `(tactic| (refine Stop.go ?_))
local macro_rules | `(tactic| walk_at "exec For Name Call cons nil") => `(tactic| (refine Stop.go ?_))
local macro_rules | `(tactic| walk_at "call ref") => `(tactic| (refine Stop.go ?_))
local macro_rules | `(tactic| walk_at "CompEnd") => `(tactic| (refine Stop.go ?_))
local macro_rules | `(tactic| walk_at "subscriptTail Name Name ref int") => `(tactic| (refine Stop.go ?_))
local macro_rules | `(tactic| walk_at "subscriptTail Name BinOp ref int") => `(tactic| (refine Stop.go ?_))
local macro_rules | `(tactic| walk_at "subscriptTail Name Constant ref int") => `(tactic| (refine Stop.go ?_))

noncomputable def mapW (mE : Str → Option Value) (l g ru pa ro du : Addr) : Str → Option Value := fun y => if y = Str.ofString "paints" then some (.ref pa) else if y = Str.ofString "rows" then some (.ref ro) else if y = Str.ofString "due" then some (.ref du) else if y = Str.ofString "rules" then some (.ref ru) else kstB mE [(Str.ofString "cells", .ref l), (Str.ofString "signs", .ref g)] y
theorem c_whole {l g : Addr} {c0 c1 c2 c3 c4 c5 c6 c7 c8 : Int} {t0 t1 t2 t3 t4 t5 t6 t7 t8 u0 u1 u2 : Tok} {x0 x1 x2 : PySem.Str}
   
 (ht : 1 ≤ s.toks) (hσ : SigOk [x0, x1, x2])
 (hc : (l, listOf #[.int c0 t0, .int c1 t1, .int c2 t2, .int c3 t3, .int c4 t4, .int c5 t5, .int c6 t6, .int c7 t7, .int c8 t8] 9) ∈ news)
 (hg : (g, listOf #[.str x0 u0, .str x1 u1, .str x2 u2] 0) ∈ news)
   (B : Below A₀ base outer h₀) (F : Fr h₀ L s.heap m) (X : (Mine.hd.heap_39 w.params).In h₀) (N : News h₀ L s.heap news) (T : Top Mine.hd.view_39 (looseW Mine.hd.view_39 []) mean mg mb h₀) (hk : cs.kind = .function)
   (hd : dp + 60 < recursionLimit) (hu : un + 400 < cLine)
   (hret : ∀ q n TV tl h' tk', Fr h₀ L h' m → News h₀ L h' ((q, listOf (List.toArray TV) n) :: tl) → (∀ p ∈ news, p ∈ tl) → AllR (EntIn tl) TV (sheetL [x0, x1, x2] [c1, c2, c3, c4, c5] [c6, c7, c8] 5).told → 1 ≤ tk' → Q (.ref q) { s with heap := h', toks := tk' }) :
   wpAny (model PySem.Challenge.rw_rw0038_01.row.toRowW.1 w) (ktrTop dp un gd cn cs L a ccd cl outer) (call (.ref 118) [.ref l, .ref g]) Q E s := by
  have hfill : PySem.Challenge.rw_rw0038_01 = PySem.Challenge.rw_rw0038_01 ∧ Mine.hd.heap_39 = Mine.hd.heap_39 := ⟨rfl, rfl⟩
  revert hfill
  k_fill
  intro _
  have hmark : KstMark := kstMark
  
  refine wpAny_call ?_
  (k_dflt cell_enter)
  rename Fr _ _ _ _ => FE
  obtain ⟨mE, FE2⟩ := ent_ini (ps := [(Str.ofString "cells", .ref l), (Str.ofString "signs", .ref g)]) FE (by kst_all)
  clear FE
  generalize hkE : s.toks + List.length _ = kE
  have hkE1 : 1 ≤ kE := by rw [← hkE]; exact Nat.le_trans ht (Nat.le_add_right _ _)
  clear hkE
  k_steps
  refine Stop.on ?_
  k_here
  k_dflt (refine assign_comp1 (by k_asm) (by rfl) (by with_unfolding_all rfl) (by with_unfolding_all rfl) (by decide) (by rfl) (by decide) (by rfl) (by rfl) (by rfl) ?_)
  k_steps
  refine Stop.on ?_
  rename News _ _ _ _ => N1
  rename Fr _ _ _ _ => F1
  refine Comp1.mk (its := [_, _, _]) (nn := 0) (RuJ _ [c6, c7, c8]) (by (try dsimp only); first | with_reducible assumption | exact Nat.le_add_left 1 _ | lia) rfl F1 N1 (by exact Nat.le_of_ble_eq_true rfl) (fun i ys nx h => h.2 _ (.head _)) ⟨.nil, fun _ h => h⟩ ?hturn ?hdone
  case hturn =>
    rintro I C D i v ys nx oI oC mC h9 tk9 E' Q7 hq7 hv hJ htk9 hC hx F2 N2 off ne
    obtain ⟨z, kz, rfl, hz⟩ := int3_at hv
    (try clear N1); (try clear F1); (try clear hret)
    (k_steps; repeat' ((with_reducible show Stop _); refine Stop.on ?_; (first | with_reducible ((with_reducible show wpAny _ _ (subscriptTail _ _ _ _) _ _ _); (k_here; (with_reducible show wpAny _ _ (subscriptTail _ _ (Value.ref _) (Value.int _ _)) _ _ _); (with_reducible rename News _ _ _ _ => N'); (with_unfolding_all refine' kim_tup N' ?zqsm ?zqsc ?zqsd ?zqs0 ?zqsf ?zqsj ?zqsx ?_); (case zqsm => k_dflt k_mem); (case zqsc => with_unfolding_all rfl); (case zqsd => with_unfolding_all rfl); (case zqs0 => decide); (case zqsf => decide); (case zqsj => with_unfolding_all rfl); (case zqsx => with_unfolding_all rfl))) | with_reducible ((with_reducible show wpAny _ _ (subscriptTail _ _ _ _) _ _ _); (k_here; (with_reducible show wpAny _ _ (subscriptTail _ _ (Value.ref _) (Value.int _ _)) _ _ _); (with_reducible rename News _ _ _ _ => N'); (with_unfolding_all refine' kim_list N' ?zqsm ?zqsc ?zqsd ?zqs0 ?zqsf ?zqsx ?_); (case zqsm => k_dflt k_mem); (case zqsc => with_unfolding_all rfl); (case zqsd => with_unfolding_all rfl); (case zqsx => with_reducible assumption); (case zqs0 => first | with_reducible assumption | lia); (case zqsf => first | with_reducible assumption | lia))) | with_reducible ((with_reducible show wpAny _ _ (call (PySem.Value.ref _) _) _ _ _); (k_here; (with_reducible show wpAny _ _ (call (Value.ref 66) _) _ _ _); k_dflt (refine wpAny_with_toks (n := 1) (by (try dsimp only); first | with_reducible assumption | exact Nat.le_add_left 1 _ | lia) ?_; refine' c_spell ?zqhx ?zqhxl ?zqk1 ?zqk2 ?zqk3 ?zqk4 ?zqk5 ?zqkK ?zqkd ?zqku ?_; (case zqk1 => k_asm); (case zqk2 => k_asm); (case zqk3 => k_asm); (case zqk4 => k_asm); (case zqk5 => k_asm); (case zqkK => first | exact rfl | assumption); (case zqhx => assumption); (case zqhxl => assumption); (case zqkd => first | exact ltK2 hd (by decide) | ktr_room); (case zqku => first | (with_unfolding_all exact ltK2 hu (by decide)) | ((try simp only [units_in1, units_deeper, Around.mark_units]); lia)); k_whole); intro t' h' tk' F' N' htk'; (try dsimp only at htk'); (try dsimp only); (try k_fold))) | with_reducible ((with_reducible show wpAny _ _ (call (PySem.Value.ref _) _) _ _ _); (k_here; (with_reducible show wpAny _ _ (call (Value.ref 106) _) _ _ _); k_dflt (refine wpAny_with_toks (n := 1) (by (try dsimp only); first | with_reducible assumption | exact Nat.le_add_left 1 _ | lia) ?_; refine' c_fits ?zqhp ?zqhy ?zqk1 ?zqk2 ?zqk3 ?zqk4 ?zqk5 ?zqkK ?zqkd ?zqku ?_; (case zqk1 => k_asm); (case zqk2 => k_asm); (case zqk3 => k_asm); (case zqk4 => k_asm); (case zqk5 => k_asm); (case zqkK => first | exact rfl | assumption); (case zqhp => assumption); (case zqhy => assumption); (case zqkd => first | exact ltK2 hd (by decide) | ktr_room); (case zqku => first | (with_unfolding_all exact ltK2 hu (by decide)) | ((try simp only [units_in1, units_deeper, Around.mark_units]); lia)); k_whole); intro h' tk' F' N' htk'; (try dsimp only at htk'); (try dsimp only); (try k_fold))) | with_reducible ((with_reducible show wpAny _ _ (call (PySem.Value.ref _) _) _ _ _); (k_here; (with_reducible show wpAny _ _ (call (Value.ref 113) _) _ _ _); k_dflt (refine wpAny_with_toks (n := 1) (by (try dsimp only); first | with_reducible assumption | exact Nat.le_add_left 1 _ | lia) ?_; refine' c_light ?zqht ?zqh1 ?zqh2 ?zqh3 ?zqk1 ?zqk2 ?zqk3 ?zqk4 ?zqk5 ?zqkK ?zqkd ?zqku ?_; (case zqk1 => k_asm); (case zqk2 => k_asm); (case zqk3 => k_asm); (case zqk4 => k_asm); (case zqk5 => k_asm); (case zqkK => first | exact rfl | assumption); (case zqht => (try dsimp only); first | with_reducible assumption | exact Nat.le_add_left 1 _ | lia); (case zqh1 => assumption); (case zqh2 => assumption); (case zqh3 => assumption); (case zqkd => first | exact ltK2 hd (by decide) | ktr_room); (case zqku => first | (with_unfolding_all exact ltK2 hu (by decide)) | ((try simp only [units_in1, units_deeper, Around.mark_units]); lia)); k_whole); intro q' h' tk' u0' u1' u2' F' N' l1 e0' e1' e2' htk'; (try dsimp only at htk'); (try k_lt l1); (try dsimp only); (try k_fold))) | with_reducible ((with_reducible show wpAny _ _ (call (PySem.Value.ref _) _) _ _ _); (k_here; (with_reducible show wpAny _ _ (call (Value.ref 99) _) _ _ _); k_dflt (refine wpAny_with_toks (n := 1) (by (try dsimp only); first | with_reducible assumption | exact Nat.le_add_left 1 _ | lia) ?_; refine' c_turnedE ?zqhp ?zqhc ?zqhch ?zqk1 ?zqk2 ?zqk3 ?zqk4 ?zqk5 ?zqkK ?zqkd ?zqku ?_; (case zqk1 => k_asm); (case zqk2 => k_asm); (case zqk3 => k_asm); (case zqk4 => k_asm); (case zqk5 => k_asm); (case zqkK => first | exact rfl | assumption); (case zqhp => assumption); (case zqhc => k_mem); (case zqhch => k_mem); (case zqkd => first | exact ltK2 hd (by decide) | ktr_room); (case zqku => first | (with_unfolding_all exact ltK2 hu (by decide)) | ((try simp only [units_in1, units_deeper, Around.mark_units]); lia)); k_whole); intro q' h' tk' u0' u1' u2' F' N' l1 htk'; (try dsimp only at htk'); (try k_lt l1); (try dsimp only); (try k_fold))) | with_reducible ((with_reducible show wpAny _ _ (call (PySem.Value.ref _) _) _ _ _); (k_here; (with_reducible show wpAny _ _ (call (Value.ref 73) _) _ _ _); k_dflt (refine wpAny_with_toks (n := 1) (by (try dsimp only); first | with_reducible assumption | exact Nat.le_add_left 1 _ | lia) ?_; refine' c_deedE ?zqhp ?zqk1 ?zqk2 ?zqk3 ?zqk4 ?zqk5 ?zqkK ?zqkd ?zqku ?_; (case zqk1 => k_asm); (case zqk2 => k_asm); (case zqk3 => k_asm); (case zqk4 => k_asm); (case zqk5 => k_asm); (case zqkK => first | exact rfl | assumption); (case zqhp => assumption); (case zqkd => first | exact ltK2 hd (by decide) | ktr_room); (case zqku => first | (with_unfolding_all exact ltK2 hu (by decide)) | ((try simp only [units_in1, units_deeper, Around.mark_units]); lia)); k_whole); intro q' p' h' tk' u0' u1' u2' u3' F' N' l1 l2 htk'; (try dsimp only at htk'); have l3 := bndUp l1 l2; (try k_lt l1); (try k_lt l3); (try k_lt2 l2); (try dsimp only); (try k_fold))) | with_reducible ((fail_if_success (with_reducible show wpAny _ _ _ _ _ _)); ((rename Fr _ _ _ _ => F'); (rename News _ _ _ _ => N'); (with_unfolding_all refine compEnd2 F' N' (by assumption) (by assumption) (by assumption) (Or.inr ⟨_, by k_mem, rfl, _, rfl⟩) ?_))) | with_reducible ((with_reducible show wpAny _ _ (call (PySem.Value.ref _) _) _ _ _); (k_here; (with_reducible show wpAny _ _ (call (Value.ref 80) _) _ _ _); k_dflt (refine' c_rule  ?zqk1 ?zqk2 ?zqk3 ?zqk4 ?zqk5 ?zqkK ?zqkd ?zqku ?_; (case zqk1 => k_asm); (case zqk2 => k_asm); (case zqk3 => k_asm); (case zqk4 => k_asm); (case zqk5 => k_asm); (case zqkK => first | exact rfl | assumption);  (case zqkd => first | exact ltK2 hd (by decide) | ktr_room); (case zqku => first | (with_unfolding_all exact ltK2 hu (by decide)) | ((try simp only [units_in1, units_deeper, Around.mark_units]); lia)); k_whole); intro q' p' h' tk' u0' u1' u2' u3' u4' u5' F' N' l1 l2; (try dsimp only))) | with_reducible ((with_reducible show wpAny _ _ (PySem.exec (PySem.Stmt.For _ _ _ _ _) _) _ _ _); (k_here; (rename Fr _ _ _ _ => lF'); (with_unfolding_all refine' for_at lF' (by (try dsimp only); first | with_reducible assumption | exact Nat.le_add_left 1 _ | lia) ?_; k_whole)))); k_steps))
    rename News _ _ _ _ => N8
    rename Fr _ _ _ _ => F8
    exact hq7 _ _ <| compEnd2 F8 N8 (by assumption) (by assumption) off trivial (hJ.snoc hz)
  rintro D2 h9 tk9 rv nx htk9 ⟨hru, hfix0⟩ F2 N2 offD
  (try clear N1); (try clear F1)
  have hfix1 : ∀ p ∈ news, p ∈ nx := fun p hp => hfix0 p (.tail _ hp)
  clear hfix0
  have hru : AllR (RuIn nx) rv [c6, c7, c8] := hru
  have hSL : ∀ k : Int, 0 ≤ k → k < 3 → ∃ t, [Value.str x0 u0, .str x1 u1, .str x2 u2][k.toNat]? = some (.str (sgn3 [x0, x1, x2] k) t) := fun k h0 h3 => sign_at h0 h3
  have hCL : ∀ i : Nat, i < 5 → ∃ y t, [Value.int c0 t0, .int c1 t1, .int c2 t2, .int c3 t3, .int c4 t4, .int c5 t5, .int c6 t6, .int c7 t7, .int c8 t8][(1 + (i : Int)).toNat]? = some (.int y t) ∧ [c1, c2, c3, c4, c5].getD i 0 = y := fun i h => cell_at h
  have hzl : [c6, c7, c8].length = 3 := rfl
  generalize [Value.str x0 u0, .str x1 u1, .str x2 u2] = SL at hg hSL
  generalize [Value.int c0 t0, .int c1 t1, .int c2 t2, .int c3 t3, .int c4 t4, .int c5 t5, .int c6 t6, .int c7 t7, .int c8 t8] = CL at hc hCL
  generalize [x0, x1, x2] = σ at hσ hret hSL
  generalize [c1, c2, c3, c4, c5] = ys at hret hCL
  generalize [c6, c7, c8] = zs at hret hru hzl
  (k_steps; repeat' ((with_reducible show Stop _); refine Stop.on ?_; (first | with_reducible ((with_reducible show wpAny _ _ (subscriptTail _ _ _ _) _ _ _); (k_here; (with_reducible show wpAny _ _ (subscriptTail _ _ (Value.ref _) (Value.int _ _)) _ _ _); (with_reducible rename News _ _ _ _ => N'); (with_unfolding_all refine' kim_tup N' ?zqsm ?zqsc ?zqsd ?zqs0 ?zqsf ?zqsj ?zqsx ?_); (case zqsm => k_dflt k_mem); (case zqsc => with_unfolding_all rfl); (case zqsd => with_unfolding_all rfl); (case zqs0 => decide); (case zqsf => decide); (case zqsj => with_unfolding_all rfl); (case zqsx => with_unfolding_all rfl))) | with_reducible ((with_reducible show wpAny _ _ (subscriptTail _ _ _ _) _ _ _); (k_here; (with_reducible show wpAny _ _ (subscriptTail _ _ (Value.ref _) (Value.int _ _)) _ _ _); (with_reducible rename News _ _ _ _ => N'); (with_unfolding_all refine' kim_list N' ?zqsm ?zqsc ?zqsd ?zqs0 ?zqsf ?zqsx ?_); (case zqsm => k_dflt k_mem); (case zqsc => with_unfolding_all rfl); (case zqsd => with_unfolding_all rfl); (case zqsx => with_reducible assumption); (case zqs0 => first | with_reducible assumption | lia); (case zqsf => first | with_reducible assumption | lia))) | with_reducible ((with_reducible show wpAny _ _ (call (PySem.Value.ref _) _) _ _ _); (k_here; (with_reducible show wpAny _ _ (call (Value.ref 66) _) _ _ _); k_dflt (refine wpAny_with_toks (n := 1) (by (try dsimp only); first | with_reducible assumption | exact Nat.le_add_left 1 _ | lia) ?_; refine' c_spell ?zqhx ?zqhxl ?zqk1 ?zqk2 ?zqk3 ?zqk4 ?zqk5 ?zqkK ?zqkd ?zqku ?_; (case zqk1 => k_asm); (case zqk2 => k_asm); (case zqk3 => k_asm); (case zqk4 => k_asm); (case zqk5 => k_asm); (case zqkK => first | exact rfl | assumption); (case zqhx => assumption); (case zqhxl => assumption); (case zqkd => first | exact ltK2 hd (by decide) | ktr_room); (case zqku => first | (with_unfolding_all exact ltK2 hu (by decide)) | ((try simp only [units_in1, units_deeper, Around.mark_units]); lia)); k_whole); intro t' h' tk' F' N' htk'; (try dsimp only at htk'); (try dsimp only); (try k_fold))) | with_reducible ((with_reducible show wpAny _ _ (call (PySem.Value.ref _) _) _ _ _); (k_here; (with_reducible show wpAny _ _ (call (Value.ref 106) _) _ _ _); k_dflt (refine wpAny_with_toks (n := 1) (by (try dsimp only); first | with_reducible assumption | exact Nat.le_add_left 1 _ | lia) ?_; refine' c_fits ?zqhp ?zqhy ?zqk1 ?zqk2 ?zqk3 ?zqk4 ?zqk5 ?zqkK ?zqkd ?zqku ?_; (case zqk1 => k_asm); (case zqk2 => k_asm); (case zqk3 => k_asm); (case zqk4 => k_asm); (case zqk5 => k_asm); (case zqkK => first | exact rfl | assumption); (case zqhp => assumption); (case zqhy => assumption); (case zqkd => first | exact ltK2 hd (by decide) | ktr_room); (case zqku => first | (with_unfolding_all exact ltK2 hu (by decide)) | ((try simp only [units_in1, units_deeper, Around.mark_units]); lia)); k_whole); intro h' tk' F' N' htk'; (try dsimp only at htk'); (try dsimp only); (try k_fold))) | with_reducible ((with_reducible show wpAny _ _ (call (PySem.Value.ref _) _) _ _ _); (k_here; (with_reducible show wpAny _ _ (call (Value.ref 113) _) _ _ _); k_dflt (refine wpAny_with_toks (n := 1) (by (try dsimp only); first | with_reducible assumption | exact Nat.le_add_left 1 _ | lia) ?_; refine' c_light ?zqht ?zqh1 ?zqh2 ?zqh3 ?zqk1 ?zqk2 ?zqk3 ?zqk4 ?zqk5 ?zqkK ?zqkd ?zqku ?_; (case zqk1 => k_asm); (case zqk2 => k_asm); (case zqk3 => k_asm); (case zqk4 => k_asm); (case zqk5 => k_asm); (case zqkK => first | exact rfl | assumption); (case zqht => (try dsimp only); first | with_reducible assumption | exact Nat.le_add_left 1 _ | lia); (case zqh1 => assumption); (case zqh2 => assumption); (case zqh3 => assumption); (case zqkd => first | exact ltK2 hd (by decide) | ktr_room); (case zqku => first | (with_unfolding_all exact ltK2 hu (by decide)) | ((try simp only [units_in1, units_deeper, Around.mark_units]); lia)); k_whole); intro q' h' tk' u0' u1' u2' F' N' l1 e0' e1' e2' htk'; (try dsimp only at htk'); (try k_lt l1); (try dsimp only); (try k_fold))) | with_reducible ((with_reducible show wpAny _ _ (call (PySem.Value.ref _) _) _ _ _); (k_here; (with_reducible show wpAny _ _ (call (Value.ref 99) _) _ _ _); k_dflt (refine wpAny_with_toks (n := 1) (by (try dsimp only); first | with_reducible assumption | exact Nat.le_add_left 1 _ | lia) ?_; refine' c_turnedE ?zqhp ?zqhc ?zqhch ?zqk1 ?zqk2 ?zqk3 ?zqk4 ?zqk5 ?zqkK ?zqkd ?zqku ?_; (case zqk1 => k_asm); (case zqk2 => k_asm); (case zqk3 => k_asm); (case zqk4 => k_asm); (case zqk5 => k_asm); (case zqkK => first | exact rfl | assumption); (case zqhp => assumption); (case zqhc => k_mem); (case zqhch => k_mem); (case zqkd => first | exact ltK2 hd (by decide) | ktr_room); (case zqku => first | (with_unfolding_all exact ltK2 hu (by decide)) | ((try simp only [units_in1, units_deeper, Around.mark_units]); lia)); k_whole); intro q' h' tk' u0' u1' u2' F' N' l1 htk'; (try dsimp only at htk'); (try k_lt l1); (try dsimp only); (try k_fold))) | with_reducible ((with_reducible show wpAny _ _ (call (PySem.Value.ref _) _) _ _ _); (k_here; (with_reducible show wpAny _ _ (call (Value.ref 73) _) _ _ _); k_dflt (refine wpAny_with_toks (n := 1) (by (try dsimp only); first | with_reducible assumption | exact Nat.le_add_left 1 _ | lia) ?_; refine' c_deedE ?zqhp ?zqk1 ?zqk2 ?zqk3 ?zqk4 ?zqk5 ?zqkK ?zqkd ?zqku ?_; (case zqk1 => k_asm); (case zqk2 => k_asm); (case zqk3 => k_asm); (case zqk4 => k_asm); (case zqk5 => k_asm); (case zqkK => first | exact rfl | assumption); (case zqhp => assumption); (case zqkd => first | exact ltK2 hd (by decide) | ktr_room); (case zqku => first | (with_unfolding_all exact ltK2 hu (by decide)) | ((try simp only [units_in1, units_deeper, Around.mark_units]); lia)); k_whole); intro q' p' h' tk' u0' u1' u2' u3' F' N' l1 l2 htk'; (try dsimp only at htk'); have l3 := bndUp l1 l2; (try k_lt l1); (try k_lt l3); (try k_lt2 l2); (try dsimp only); (try k_fold))) | with_reducible ((fail_if_success (with_reducible show wpAny _ _ _ _ _ _)); ((rename Fr _ _ _ _ => F'); (rename News _ _ _ _ => N'); (with_unfolding_all refine compEnd2 F' N' (by assumption) (by assumption) (by assumption) (Or.inr ⟨_, by k_mem, rfl, _, rfl⟩) ?_))) | with_reducible ((with_reducible show wpAny _ _ (call (PySem.Value.ref _) _) _ _ _); (k_here; (with_reducible show wpAny _ _ (call (Value.ref 80) _) _ _ _); k_dflt (refine' c_rule  ?zqk1 ?zqk2 ?zqk3 ?zqk4 ?zqk5 ?zqkK ?zqkd ?zqku ?_; (case zqk1 => k_asm); (case zqk2 => k_asm); (case zqk3 => k_asm); (case zqk4 => k_asm); (case zqk5 => k_asm); (case zqkK => first | exact rfl | assumption);  (case zqkd => first | exact ltK2 hd (by decide) | ktr_room); (case zqku => first | (with_unfolding_all exact ltK2 hu (by decide)) | ((try simp only [units_in1, units_deeper, Around.mark_units]); lia)); k_whole); intro q' p' h' tk' u0' u1' u2' u3' u4' u5' F' N' l1 l2; (try dsimp only))) | with_reducible ((with_reducible show wpAny _ _ (PySem.exec (PySem.Stmt.For _ _ _ _ _) _) _ _ _); (k_here; (rename Fr _ _ _ _ => lF'); (with_unfolding_all refine' for_at lF' (by (try dsimp only); first | with_reducible assumption | exact Nat.le_add_left 1 _ | lia) ?_; k_whole)))); k_steps))
  refine Stop.on ?_
  rename News _ _ _ _ => N1
  rename Fr _ _ _ _ => F1
  rename IsRange _ _ _ _ _ _ _ _ => R1
  have N2 := newsPerm N1
  have F1' : Fr _ _ _ (mapW mE l g _ _ _ _) := F1
  refine for_range (n := ((6 : Int) - 1).toNat) ["up", "change", "paint", "a", "b", "d", "row", "fits"] (OutJ _ _ _ _ _ σ ys zs) rfl rfl rfl R1 (small_one (by lia) (by lia) (by lia) (by lia)) (rangeSize_nat _ _) F1' N2 [] _ (fun _ hp => hp) (by kst_all)
    (OutJ.ini ?off ?zy ?yx (hru.mono (RuIn.mono fun p hp => .tail _ (.tail _ (.tail _ hp)))) (.mk (.tail _ (.head _)))) ?turn ?done
  case off => with_unfolding_all exact offOf (by assumption) (by assumption) (by assumption) (by assumption)
  case zy => exact And.left (by assumption)
  case yx => exact And.left (by assumption)
  case turn =>
    repeat (rename (_ ∧ _) => z1; clear z1)
    repeat (rename (∀ x ∈ _, _ < _) => z1; clear z1)
    rintro i tt ps u nx h tk own Q9 hend9 hi htk hoff hJ F2 N2
    have hi5 : i < 5 := by lia
    refine OutJ.turn hJ hi5 hσ hCL (.tail _ (.tail _ (.tail _ (hfix1 _ hc)))) (.tail _ (.tail _ (.tail _ (hfix1 _ hg)))) (.tail _ (.tail _ (.head _))) hoff F2 N2 ?_
    clear hJ hoff F2 N2 N1 F1 F1'
    intro TV RV PV n1 n2 n3 tl y ty S up m0 s0 v0 m1 s1 v1 p0 ta tb tc rx tr hcell hUP hup0 hup63 hpv hpm hrv hr0 hp1 hp1ok hsh hlR hlP hD hob hcells hsigns hrules hfix hru0 hT hR hP hTl hzy hyx F2 N2
    have hz1 : (1 + (i : Int)) < 2 ^ 63 := by lia
    (k_steps; repeat' ((with_reducible show Stop _); refine Stop.on ?_; (first | with_reducible ((with_reducible show wpAny _ _ (subscriptTail _ _ _ _) _ _ _); (k_here; (with_reducible show wpAny _ _ (subscriptTail _ _ (Value.ref _) (Value.int _ _)) _ _ _); (with_reducible rename News _ _ _ _ => N'); (with_unfolding_all refine' kim_tup N' ?zqsm ?zqsc ?zqsd ?zqs0 ?zqsf ?zqsj ?zqsx ?_); (case zqsm => k_dflt k_mem); (case zqsc => with_unfolding_all rfl); (case zqsd => with_unfolding_all rfl); (case zqs0 => decide); (case zqsf => decide); (case zqsj => with_unfolding_all rfl); (case zqsx => with_unfolding_all rfl))) | with_reducible ((with_reducible show wpAny _ _ (subscriptTail _ _ _ _) _ _ _); (k_here; (with_reducible show wpAny _ _ (subscriptTail _ _ (Value.ref _) (Value.int _ _)) _ _ _); (with_reducible rename News _ _ _ _ => N'); (with_unfolding_all refine' kim_list N' ?zqsm ?zqsc ?zqsd ?zqs0 ?zqsf ?zqsx ?_); (case zqsm => k_dflt k_mem); (case zqsc => with_unfolding_all rfl); (case zqsd => with_unfolding_all rfl); (case zqsx => with_reducible assumption); (case zqs0 => first | with_reducible assumption | lia); (case zqsf => first | with_reducible assumption | lia))) | with_reducible ((with_reducible show wpAny _ _ (call (PySem.Value.ref _) _) _ _ _); (k_here; (with_reducible show wpAny _ _ (call (Value.ref 66) _) _ _ _); k_dflt (refine wpAny_with_toks (n := 1) (by (try dsimp only); first | with_reducible assumption | exact Nat.le_add_left 1 _ | lia) ?_; refine' c_spell ?zqhx ?zqhxl ?zqk1 ?zqk2 ?zqk3 ?zqk4 ?zqk5 ?zqkK ?zqkd ?zqku ?_; (case zqk1 => k_asm); (case zqk2 => k_asm); (case zqk3 => k_asm); (case zqk4 => k_asm); (case zqk5 => k_asm); (case zqkK => first | exact rfl | assumption); (case zqhx => assumption); (case zqhxl => assumption); (case zqkd => first | exact ltK2 hd (by decide) | ktr_room); (case zqku => first | (with_unfolding_all exact ltK2 hu (by decide)) | ((try simp only [units_in1, units_deeper, Around.mark_units]); lia)); k_whole); intro t' h' tk' F' N' htk'; (try dsimp only at htk'); (try dsimp only); (try k_fold))) | with_reducible ((with_reducible show wpAny _ _ (call (PySem.Value.ref _) _) _ _ _); (k_here; (with_reducible show wpAny _ _ (call (Value.ref 106) _) _ _ _); k_dflt (refine wpAny_with_toks (n := 1) (by (try dsimp only); first | with_reducible assumption | exact Nat.le_add_left 1 _ | lia) ?_; refine' c_fits ?zqhp ?zqhy ?zqk1 ?zqk2 ?zqk3 ?zqk4 ?zqk5 ?zqkK ?zqkd ?zqku ?_; (case zqk1 => k_asm); (case zqk2 => k_asm); (case zqk3 => k_asm); (case zqk4 => k_asm); (case zqk5 => k_asm); (case zqkK => first | exact rfl | assumption); (case zqhp => assumption); (case zqhy => assumption); (case zqkd => first | exact ltK2 hd (by decide) | ktr_room); (case zqku => first | (with_unfolding_all exact ltK2 hu (by decide)) | ((try simp only [units_in1, units_deeper, Around.mark_units]); lia)); k_whole); intro h' tk' F' N' htk'; (try dsimp only at htk'); (try dsimp only); (try k_fold))) | with_reducible ((with_reducible show wpAny _ _ (call (PySem.Value.ref _) _) _ _ _); (k_here; (with_reducible show wpAny _ _ (call (Value.ref 113) _) _ _ _); k_dflt (refine wpAny_with_toks (n := 1) (by (try dsimp only); first | with_reducible assumption | exact Nat.le_add_left 1 _ | lia) ?_; refine' c_light ?zqht ?zqh1 ?zqh2 ?zqh3 ?zqk1 ?zqk2 ?zqk3 ?zqk4 ?zqk5 ?zqkK ?zqkd ?zqku ?_; (case zqk1 => k_asm); (case zqk2 => k_asm); (case zqk3 => k_asm); (case zqk4 => k_asm); (case zqk5 => k_asm); (case zqkK => first | exact rfl | assumption); (case zqht => (try dsimp only); first | with_reducible assumption | exact Nat.le_add_left 1 _ | lia); (case zqh1 => assumption); (case zqh2 => assumption); (case zqh3 => assumption); (case zqkd => first | exact ltK2 hd (by decide) | ktr_room); (case zqku => first | (with_unfolding_all exact ltK2 hu (by decide)) | ((try simp only [units_in1, units_deeper, Around.mark_units]); lia)); k_whole); intro q' h' tk' u0' u1' u2' F' N' l1 e0' e1' e2' htk'; (try dsimp only at htk'); (try k_lt l1); (try dsimp only); (try k_fold))) | with_reducible ((with_reducible show wpAny _ _ (call (PySem.Value.ref _) _) _ _ _); (k_here; (with_reducible show wpAny _ _ (call (Value.ref 99) _) _ _ _); k_dflt (refine wpAny_with_toks (n := 1) (by (try dsimp only); first | with_reducible assumption | exact Nat.le_add_left 1 _ | lia) ?_; refine' c_turnedE ?zqhp ?zqhc ?zqhch ?zqk1 ?zqk2 ?zqk3 ?zqk4 ?zqk5 ?zqkK ?zqkd ?zqku ?_; (case zqk1 => k_asm); (case zqk2 => k_asm); (case zqk3 => k_asm); (case zqk4 => k_asm); (case zqk5 => k_asm); (case zqkK => first | exact rfl | assumption); (case zqhp => assumption); (case zqhc => k_mem); (case zqhch => k_mem); (case zqkd => first | exact ltK2 hd (by decide) | ktr_room); (case zqku => first | (with_unfolding_all exact ltK2 hu (by decide)) | ((try simp only [units_in1, units_deeper, Around.mark_units]); lia)); k_whole); intro q' h' tk' u0' u1' u2' F' N' l1 htk'; (try dsimp only at htk'); (try k_lt l1); (try dsimp only); (try k_fold))) | with_reducible ((with_reducible show wpAny _ _ (call (PySem.Value.ref _) _) _ _ _); (k_here; (with_reducible show wpAny _ _ (call (Value.ref 73) _) _ _ _); k_dflt (refine wpAny_with_toks (n := 1) (by (try dsimp only); first | with_reducible assumption | exact Nat.le_add_left 1 _ | lia) ?_; refine' c_deedE ?zqhp ?zqk1 ?zqk2 ?zqk3 ?zqk4 ?zqk5 ?zqkK ?zqkd ?zqku ?_; (case zqk1 => k_asm); (case zqk2 => k_asm); (case zqk3 => k_asm); (case zqk4 => k_asm); (case zqk5 => k_asm); (case zqkK => first | exact rfl | assumption); (case zqhp => assumption); (case zqkd => first | exact ltK2 hd (by decide) | ktr_room); (case zqku => first | (with_unfolding_all exact ltK2 hu (by decide)) | ((try simp only [units_in1, units_deeper, Around.mark_units]); lia)); k_whole); intro q' p' h' tk' u0' u1' u2' u3' F' N' l1 l2 htk'; (try dsimp only at htk'); have l3 := bndUp l1 l2; (try k_lt l1); (try k_lt l3); (try k_lt2 l2); (try dsimp only); (try k_fold))) | with_reducible ((fail_if_success (with_reducible show wpAny _ _ _ _ _ _)); ((rename Fr _ _ _ _ => F'); (rename News _ _ _ _ => N'); (with_unfolding_all refine compEnd2 F' N' (by assumption) (by assumption) (by assumption) (Or.inr ⟨_, by k_mem, rfl, _, rfl⟩) ?_))) | with_reducible ((with_reducible show wpAny _ _ (call (PySem.Value.ref _) _) _ _ _); (k_here; (with_reducible show wpAny _ _ (call (Value.ref 80) _) _ _ _); k_dflt (refine' c_rule  ?zqk1 ?zqk2 ?zqk3 ?zqk4 ?zqk5 ?zqkK ?zqkd ?zqku ?_; (case zqk1 => k_asm); (case zqk2 => k_asm); (case zqk3 => k_asm); (case zqk4 => k_asm); (case zqk5 => k_asm); (case zqkK => first | exact rfl | assumption);  (case zqkd => first | exact ltK2 hd (by decide) | ktr_room); (case zqku => first | (with_unfolding_all exact ltK2 hu (by decide)) | ((try simp only [units_in1, units_deeper, Around.mark_units]); lia)); k_whole); intro q' p' h' tk' u0' u1' u2' u3' u4' u5' F' N' l1 l2; (try dsimp only))) | with_reducible ((with_reducible show wpAny _ _ (PySem.exec (PySem.Stmt.For _ _ _ _ _) _) _ _ _); (k_here; (rename Fr _ _ _ _ => lF'); (with_unfolding_all refine' for_at lF' (by (try dsimp only); first | with_reducible assumption | exact Nat.le_add_left 1 _ | lia) ?_; k_whole)))); k_steps))
    refine Stop.on ?_
    rename News _ _ _ _ => N3
    rename Fr _ _ _ _ => F3
    have N4 := newsPerm2 N3
    have hD2 := hD.up3 N4 (by assumption) (by assumption) (by assumption)
    have hTL0 := hD2.tail3
    refine for_list ["a", "b", "d", "change", "row", "fits", "paint"] (InJ _ _ _ own _ RV PV n2 n3 (4 * i) σ rx zs ((m1, s1, v1), S.told)) rfl F3 N4 [(Str.ofString "paint", .ref _)] _ (rulesMem (hTL0 _ hrules)) (fun _ hp => hp) ?hk (InJ.ini hD2 (fun _ hp => hp) (.mk (.head _)) (hT.mono (EntIn.mono hTL0)) hTl) ?tn ?dn
    case hk => kst_all
    case tn =>
      (try clear hret); (try clear N2); (try clear F2); (try clear N3); (try clear F3); (try clear N4); (try clear hD); (try clear hD2); (try clear hoT); (try clear hoff); (try clear hob); (try clear hp0); (try clear ep0); (try clear er0); (try clear hpt); (try clear hrx); (try clear hub); (try clear hpv); (try clear hpm); (try clear hp1); (try clear hcell); (try clear hstep); (try clear hP); (try clear hR); (try clear hT); (try clear hok); (try clear hcells)
      rintro j v ps u9 nx h9 tk9 own9 Q8 hend8 hv htk9 hoff9 hl9 hJ9 F9 N9
      refine InJ.turn hJ9 hv (by lia) hzl hσ hr0 hi5 hp1ok hSL hru0 hfix hTL0 hsigns hrules hoff9 F9 N9 ?_
      clear hJ9 F9 N9 hv hl9 hoff9
      intro q9 TV9 n9 tl9 zz za zb zd zc0 zc1 zc2 m2 s2 v2 m3 s3 v3 told2 g9 r9 q p ta9 tb9 ts k0 k1 k2 e0 e1 e2 e3 e4 e5 hve hq8 hc8 hg8 hr8 hpm9 ha0 ha63 hta hb0 hb63 htb hk0 hk63 hts hlen9 hlr9 hl100 hl1000 hsg9 hr9 hp3 hTs hm0 hm16 hok9 hr9z hp3z hg9 hz hst9 hTL9 hT9 hlT9 hD9 ho1 ho2 ho3 hoff9 F9 N9
      subst hve
      (try clear hp1ok); (try clear hTL0); (try clear hfix); (try clear hru); (try clear hru0); (try clear hsh); (try clear hSL); (try clear hCL)
      (k_steps; repeat' ((with_reducible show Stop _); refine Stop.on ?_; (first | with_reducible ((with_reducible show wpAny _ _ (subscriptTail _ _ _ _) _ _ _); (k_here; (with_reducible show wpAny _ _ (subscriptTail _ _ (Value.ref _) (Value.int _ _)) _ _ _); (with_reducible rename News _ _ _ _ => N'); (with_unfolding_all refine' kim_tup N' ?zqsm ?zqsc ?zqsd ?zqs0 ?zqsf ?zqsj ?zqsx ?_); (case zqsm => k_dflt k_mem); (case zqsc => with_unfolding_all rfl); (case zqsd => with_unfolding_all rfl); (case zqs0 => decide); (case zqsf => decide); (case zqsj => with_unfolding_all rfl); (case zqsx => with_unfolding_all rfl))) | with_reducible ((with_reducible show wpAny _ _ (subscriptTail _ _ _ _) _ _ _); (k_here; (with_reducible show wpAny _ _ (subscriptTail _ _ (Value.ref _) (Value.int _ _)) _ _ _); (with_reducible rename News _ _ _ _ => N'); (with_unfolding_all refine' kim_list N' ?zqsm ?zqsc ?zqsd ?zqs0 ?zqsf ?zqsx ?_); (case zqsm => k_dflt k_mem); (case zqsc => with_unfolding_all rfl); (case zqsd => with_unfolding_all rfl); (case zqsx => with_reducible assumption); (case zqs0 => first | with_reducible assumption | lia); (case zqsf => first | with_reducible assumption | lia))) | with_reducible ((with_reducible show wpAny _ _ (call (PySem.Value.ref _) _) _ _ _); (k_here; (with_reducible show wpAny _ _ (call (Value.ref 66) _) _ _ _); k_dflt (refine wpAny_with_toks (n := 1) (by (try dsimp only); first | with_reducible assumption | exact Nat.le_add_left 1 _ | lia) ?_; refine' c_spell ?zqhx ?zqhxl ?zqk1 ?zqk2 ?zqk3 ?zqk4 ?zqk5 ?zqkK ?zqkd ?zqku ?_; (case zqk1 => k_asm); (case zqk2 => k_asm); (case zqk3 => k_asm); (case zqk4 => k_asm); (case zqk5 => k_asm); (case zqkK => first | exact rfl | assumption); (case zqhx => assumption); (case zqhxl => assumption); (case zqkd => first | exact ltK2 hd (by decide) | ktr_room); (case zqku => first | (with_unfolding_all exact ltK2 hu (by decide)) | ((try simp only [units_in1, units_deeper, Around.mark_units]); lia)); k_whole); intro t' h' tk' F' N' htk'; (try dsimp only at htk'); (try dsimp only); (try k_fold))) | with_reducible ((with_reducible show wpAny _ _ (call (PySem.Value.ref _) _) _ _ _); (k_here; (with_reducible show wpAny _ _ (call (Value.ref 106) _) _ _ _); k_dflt (refine wpAny_with_toks (n := 1) (by (try dsimp only); first | with_reducible assumption | exact Nat.le_add_left 1 _ | lia) ?_; refine' c_fits ?zqhp ?zqhy ?zqk1 ?zqk2 ?zqk3 ?zqk4 ?zqk5 ?zqkK ?zqkd ?zqku ?_; (case zqk1 => k_asm); (case zqk2 => k_asm); (case zqk3 => k_asm); (case zqk4 => k_asm); (case zqk5 => k_asm); (case zqkK => first | exact rfl | assumption); (case zqhp => assumption); (case zqhy => assumption); (case zqkd => first | exact ltK2 hd (by decide) | ktr_room); (case zqku => first | (with_unfolding_all exact ltK2 hu (by decide)) | ((try simp only [units_in1, units_deeper, Around.mark_units]); lia)); k_whole); intro h' tk' F' N' htk'; (try dsimp only at htk'); (try dsimp only); (try k_fold))) | with_reducible ((with_reducible show wpAny _ _ (call (PySem.Value.ref _) _) _ _ _); (k_here; (with_reducible show wpAny _ _ (call (Value.ref 113) _) _ _ _); k_dflt (refine wpAny_with_toks (n := 1) (by (try dsimp only); first | with_reducible assumption | exact Nat.le_add_left 1 _ | lia) ?_; refine' c_light ?zqht ?zqh1 ?zqh2 ?zqh3 ?zqk1 ?zqk2 ?zqk3 ?zqk4 ?zqk5 ?zqkK ?zqkd ?zqku ?_; (case zqk1 => k_asm); (case zqk2 => k_asm); (case zqk3 => k_asm); (case zqk4 => k_asm); (case zqk5 => k_asm); (case zqkK => first | exact rfl | assumption); (case zqht => (try dsimp only); first | with_reducible assumption | exact Nat.le_add_left 1 _ | lia); (case zqh1 => assumption); (case zqh2 => assumption); (case zqh3 => assumption); (case zqkd => first | exact ltK2 hd (by decide) | ktr_room); (case zqku => first | (with_unfolding_all exact ltK2 hu (by decide)) | ((try simp only [units_in1, units_deeper, Around.mark_units]); lia)); k_whole); intro q' h' tk' u0' u1' u2' F' N' l1 e0' e1' e2' htk'; (try dsimp only at htk'); (try k_lt l1); (try dsimp only); (try k_fold))) | with_reducible ((with_reducible show wpAny _ _ (call (PySem.Value.ref _) _) _ _ _); (k_here; (with_reducible show wpAny _ _ (call (Value.ref 99) _) _ _ _); k_dflt (refine wpAny_with_toks (n := 1) (by (try dsimp only); first | with_reducible assumption | exact Nat.le_add_left 1 _ | lia) ?_; refine' c_turnedE ?zqhp ?zqhc ?zqhch ?zqk1 ?zqk2 ?zqk3 ?zqk4 ?zqk5 ?zqkK ?zqkd ?zqku ?_; (case zqk1 => k_asm); (case zqk2 => k_asm); (case zqk3 => k_asm); (case zqk4 => k_asm); (case zqk5 => k_asm); (case zqkK => first | exact rfl | assumption); (case zqhp => assumption); (case zqhc => k_mem); (case zqhch => k_mem); (case zqkd => first | exact ltK2 hd (by decide) | ktr_room); (case zqku => first | (with_unfolding_all exact ltK2 hu (by decide)) | ((try simp only [units_in1, units_deeper, Around.mark_units]); lia)); k_whole); intro q' h' tk' u0' u1' u2' F' N' l1 htk'; (try dsimp only at htk'); (try k_lt l1); (try dsimp only); (try k_fold))) | with_reducible ((with_reducible show wpAny _ _ (call (PySem.Value.ref _) _) _ _ _); (k_here; (with_reducible show wpAny _ _ (call (Value.ref 73) _) _ _ _); k_dflt (refine wpAny_with_toks (n := 1) (by (try dsimp only); first | with_reducible assumption | exact Nat.le_add_left 1 _ | lia) ?_; refine' c_deedE ?zqhp ?zqk1 ?zqk2 ?zqk3 ?zqk4 ?zqk5 ?zqkK ?zqkd ?zqku ?_; (case zqk1 => k_asm); (case zqk2 => k_asm); (case zqk3 => k_asm); (case zqk4 => k_asm); (case zqk5 => k_asm); (case zqkK => first | exact rfl | assumption); (case zqhp => assumption); (case zqkd => first | exact ltK2 hd (by decide) | ktr_room); (case zqku => first | (with_unfolding_all exact ltK2 hu (by decide)) | ((try simp only [units_in1, units_deeper, Around.mark_units]); lia)); k_whole); intro q' p' h' tk' u0' u1' u2' u3' F' N' l1 l2 htk'; (try dsimp only at htk'); have l3 := bndUp l1 l2; (try k_lt l1); (try k_lt l3); (try k_lt2 l2); (try dsimp only); (try k_fold))) | with_reducible ((fail_if_success (with_reducible show wpAny _ _ _ _ _ _)); ((rename Fr _ _ _ _ => F'); (rename News _ _ _ _ => N'); (with_unfolding_all refine compEnd2 F' N' (by assumption) (by assumption) (by assumption) (Or.inr ⟨_, by k_mem, rfl, _, rfl⟩) ?_))) | with_reducible ((with_reducible show wpAny _ _ (call (PySem.Value.ref _) _) _ _ _); (k_here; (with_reducible show wpAny _ _ (call (Value.ref 80) _) _ _ _); k_dflt (refine' c_rule  ?zqk1 ?zqk2 ?zqk3 ?zqk4 ?zqk5 ?zqkK ?zqkd ?zqku ?_; (case zqk1 => k_asm); (case zqk2 => k_asm); (case zqk3 => k_asm); (case zqk4 => k_asm); (case zqk5 => k_asm); (case zqkK => first | exact rfl | assumption);  (case zqkd => first | exact ltK2 hd (by decide) | ktr_room); (case zqku => first | (with_unfolding_all exact ltK2 hu (by decide)) | ((try simp only [units_in1, units_deeper, Around.mark_units]); lia)); k_whole); intro q' p' h' tk' u0' u1' u2' u3' u4' u5' F' N' l1 l2; (try dsimp only))) | with_reducible ((with_reducible show wpAny _ _ (PySem.exec (PySem.Stmt.For _ _ _ _ _) _) _ _ _); (k_here; (rename Fr _ _ _ _ => lF'); (with_unfolding_all refine' for_at lF' (by (try dsimp only); first | with_reducible assumption | exact Nat.le_add_left 1 _ | lia) ?_; k_whole)))); k_steps))
      · rename r9 = true => er
        rename Fr _ _ _ _ => F8
        rename News _ _ _ _ => N8
        subst er hg9
        refine hend8 _ (in_end (new := [_, _]) F8 N8 hD9 hoff9 (List.forall_mem_cons.mpr ⟨?n1, List.forall_mem_cons.mpr ⟨?n2, List.forall_mem_nil _⟩⟩) hr8 hTL9 hT9 hlT9 hz hst9 (hr9z ()) (.say (List.mem_append_left _ (.tail _ (.head _)))) (by rw [if_pos rfl, hp3z ()]; exact .mk (List.mem_append_left _ (.head _))) ?hk ?hr)
        case n1 => exact And.right (by assumption)
        case n2 => assumption
        case hk => kst_all
        case hr => (intro z h2 h3; have h4 := h2 _ (List.Mem.head _); dsimp only at h4; (repeat (first | refine (if_neg h4).trans ?_ | refine (if_neg (contains_ne h3 (by k_mem))).trans ?_)); first | exact contains_off h3 | exact ks_off h3)
      · rename r9 = false => er
        rename Fr _ _ _ _ => F8
        rename News _ _ _ _ => N8
        subst er hg9
        refine hend8 _ (in_end (new := [_]) (q := q9) F8 N8 hD9 hoff9 (List.forall_mem_cons.mpr ⟨?fn1, List.forall_mem_nil _⟩) hr8 hTL9 hT9 hlT9 hz hst9 (hr9z ()) (.say (List.mem_append_left _ (.head _))) ?fhq ?fhk ?fhr)
        case fhq => rw [if_neg (by decide)]; exact .mk (List.mem_append_right _ hpm9)
        case fn1 => assumption
        case fhk => kst_all
        case fhr => (intro z h2 h3; have h4 := h2 _ (List.Mem.head _); dsimp only at h4; (repeat (first | refine (if_neg h4).trans ?_ | refine (if_neg (contains_ne h3 (by k_mem))).trans ?_)); first | exact contains_off h3 | exact ks_off h3)
    case dn =>
      rintro ps u9 nx h9 tk9 htk9 hJ9 F9 N9
      refine InJ.done hJ9 hru0.len hzl (by lia) hσ hr0 hi5 hp1ok hSL hTL0 hsigns F9 N9 ?_
      (try clear hret); (try clear N2); (try clear F2); (try clear N3); (try clear F3); (try clear N4); (try clear hD); (try clear hD2); (try clear hob); (try clear hpv); (try clear hpm); (try clear hcell); (try clear hcells); (try clear hT); (try clear hi); (try clear hJ9); (try clear F9); (try clear N9); (try clear hSL); (try clear hCL)
      intro q9 TV9 n9 tl9 m2 s2 v2 told2 g9 ts k0 k1 k2 hg8 hpm9 hk0 hk63 hts hlen9 hlr9 hTs hh1 hh2 hh3 no1 no2 no3 hg9 hfold hTL9 hT9 hlT9 hD9 ho1 ho2 F9 N9
      have hsh9 := hsh _ _ _ _ hfold
      clear hsh hfold
      (try clear hp1ok)
      (k_steps; repeat' ((with_reducible show Stop _); refine Stop.on ?_; (first | with_reducible ((with_reducible show wpAny _ _ (subscriptTail _ _ _ _) _ _ _); (k_here; (with_reducible show wpAny _ _ (subscriptTail _ _ (Value.ref _) (Value.int _ _)) _ _ _); (with_reducible rename News _ _ _ _ => N'); (with_unfolding_all refine' kim_tup N' ?zqsm ?zqsc ?zqsd ?zqs0 ?zqsf ?zqsj ?zqsx ?_); (case zqsm => k_dflt k_mem); (case zqsc => with_unfolding_all rfl); (case zqsd => with_unfolding_all rfl); (case zqs0 => decide); (case zqsf => decide); (case zqsj => with_unfolding_all rfl); (case zqsx => with_unfolding_all rfl))) | with_reducible ((with_reducible show wpAny _ _ (subscriptTail _ _ _ _) _ _ _); (k_here; (with_reducible show wpAny _ _ (subscriptTail _ _ (Value.ref _) (Value.int _ _)) _ _ _); (with_reducible rename News _ _ _ _ => N'); (with_unfolding_all refine' kim_list N' ?zqsm ?zqsc ?zqsd ?zqs0 ?zqsf ?zqsx ?_); (case zqsm => k_dflt k_mem); (case zqsc => with_unfolding_all rfl); (case zqsd => with_unfolding_all rfl); (case zqsx => with_reducible assumption); (case zqs0 => first | with_reducible assumption | lia); (case zqsf => first | with_reducible assumption | lia))) | with_reducible ((with_reducible show wpAny _ _ (call (PySem.Value.ref _) _) _ _ _); (k_here; (with_reducible show wpAny _ _ (call (Value.ref 66) _) _ _ _); k_dflt (refine wpAny_with_toks (n := 1) (by (try dsimp only); first | with_reducible assumption | exact Nat.le_add_left 1 _ | lia) ?_; refine' c_spell ?zqhx ?zqhxl ?zqk1 ?zqk2 ?zqk3 ?zqk4 ?zqk5 ?zqkK ?zqkd ?zqku ?_; (case zqk1 => k_asm); (case zqk2 => k_asm); (case zqk3 => k_asm); (case zqk4 => k_asm); (case zqk5 => k_asm); (case zqkK => first | exact rfl | assumption); (case zqhx => assumption); (case zqhxl => assumption); (case zqkd => first | exact ltK2 hd (by decide) | ktr_room); (case zqku => first | (with_unfolding_all exact ltK2 hu (by decide)) | ((try simp only [units_in1, units_deeper, Around.mark_units]); lia)); k_whole); intro t' h' tk' F' N' htk'; (try dsimp only at htk'); (try dsimp only); (try k_fold))) | with_reducible ((with_reducible show wpAny _ _ (call (PySem.Value.ref _) _) _ _ _); (k_here; (with_reducible show wpAny _ _ (call (Value.ref 106) _) _ _ _); k_dflt (refine wpAny_with_toks (n := 1) (by (try dsimp only); first | with_reducible assumption | exact Nat.le_add_left 1 _ | lia) ?_; refine' c_fits ?zqhp ?zqhy ?zqk1 ?zqk2 ?zqk3 ?zqk4 ?zqk5 ?zqkK ?zqkd ?zqku ?_; (case zqk1 => k_asm); (case zqk2 => k_asm); (case zqk3 => k_asm); (case zqk4 => k_asm); (case zqk5 => k_asm); (case zqkK => first | exact rfl | assumption); (case zqhp => assumption); (case zqhy => assumption); (case zqkd => first | exact ltK2 hd (by decide) | ktr_room); (case zqku => first | (with_unfolding_all exact ltK2 hu (by decide)) | ((try simp only [units_in1, units_deeper, Around.mark_units]); lia)); k_whole); intro h' tk' F' N' htk'; (try dsimp only at htk'); (try dsimp only); (try k_fold))) | with_reducible ((with_reducible show wpAny _ _ (call (PySem.Value.ref _) _) _ _ _); (k_here; (with_reducible show wpAny _ _ (call (Value.ref 113) _) _ _ _); k_dflt (refine wpAny_with_toks (n := 1) (by (try dsimp only); first | with_reducible assumption | exact Nat.le_add_left 1 _ | lia) ?_; refine' c_light ?zqht ?zqh1 ?zqh2 ?zqh3 ?zqk1 ?zqk2 ?zqk3 ?zqk4 ?zqk5 ?zqkK ?zqkd ?zqku ?_; (case zqk1 => k_asm); (case zqk2 => k_asm); (case zqk3 => k_asm); (case zqk4 => k_asm); (case zqk5 => k_asm); (case zqkK => first | exact rfl | assumption); (case zqht => (try dsimp only); first | with_reducible assumption | exact Nat.le_add_left 1 _ | lia); (case zqh1 => assumption); (case zqh2 => assumption); (case zqh3 => assumption); (case zqkd => first | exact ltK2 hd (by decide) | ktr_room); (case zqku => first | (with_unfolding_all exact ltK2 hu (by decide)) | ((try simp only [units_in1, units_deeper, Around.mark_units]); lia)); k_whole); intro q' h' tk' u0' u1' u2' F' N' l1 e0' e1' e2' htk'; (try dsimp only at htk'); (try k_lt l1); (try dsimp only); (try k_fold))) | with_reducible ((with_reducible show wpAny _ _ (call (PySem.Value.ref _) _) _ _ _); (k_here; (with_reducible show wpAny _ _ (call (Value.ref 99) _) _ _ _); k_dflt (refine wpAny_with_toks (n := 1) (by (try dsimp only); first | with_reducible assumption | exact Nat.le_add_left 1 _ | lia) ?_; refine' c_turnedE ?zqhp ?zqhc ?zqhch ?zqk1 ?zqk2 ?zqk3 ?zqk4 ?zqk5 ?zqkK ?zqkd ?zqku ?_; (case zqk1 => k_asm); (case zqk2 => k_asm); (case zqk3 => k_asm); (case zqk4 => k_asm); (case zqk5 => k_asm); (case zqkK => first | exact rfl | assumption); (case zqhp => assumption); (case zqhc => k_mem); (case zqhch => k_mem); (case zqkd => first | exact ltK2 hd (by decide) | ktr_room); (case zqku => first | (with_unfolding_all exact ltK2 hu (by decide)) | ((try simp only [units_in1, units_deeper, Around.mark_units]); lia)); k_whole); intro q' h' tk' u0' u1' u2' F' N' l1 htk'; (try dsimp only at htk'); (try k_lt l1); (try dsimp only); (try k_fold))) | with_reducible ((with_reducible show wpAny _ _ (call (PySem.Value.ref _) _) _ _ _); (k_here; (with_reducible show wpAny _ _ (call (Value.ref 73) _) _ _ _); k_dflt (refine wpAny_with_toks (n := 1) (by (try dsimp only); first | with_reducible assumption | exact Nat.le_add_left 1 _ | lia) ?_; refine' c_deedE ?zqhp ?zqk1 ?zqk2 ?zqk3 ?zqk4 ?zqk5 ?zqkK ?zqkd ?zqku ?_; (case zqk1 => k_asm); (case zqk2 => k_asm); (case zqk3 => k_asm); (case zqk4 => k_asm); (case zqk5 => k_asm); (case zqkK => first | exact rfl | assumption); (case zqhp => assumption); (case zqkd => first | exact ltK2 hd (by decide) | ktr_room); (case zqku => first | (with_unfolding_all exact ltK2 hu (by decide)) | ((try simp only [units_in1, units_deeper, Around.mark_units]); lia)); k_whole); intro q' p' h' tk' u0' u1' u2' u3' F' N' l1 l2 htk'; (try dsimp only at htk'); have l3 := bndUp l1 l2; (try k_lt l1); (try k_lt l3); (try k_lt2 l2); (try dsimp only); (try k_fold))) | with_reducible ((fail_if_success (with_reducible show wpAny _ _ _ _ _ _)); ((rename Fr _ _ _ _ => F'); (rename News _ _ _ _ => N'); (with_unfolding_all refine compEnd2 F' N' (by assumption) (by assumption) (by assumption) (Or.inr ⟨_, by k_mem, rfl, _, rfl⟩) ?_))) | with_reducible ((with_reducible show wpAny _ _ (call (PySem.Value.ref _) _) _ _ _); (k_here; (with_reducible show wpAny _ _ (call (Value.ref 80) _) _ _ _); k_dflt (refine' c_rule  ?zqk1 ?zqk2 ?zqk3 ?zqk4 ?zqk5 ?zqkK ?zqkd ?zqku ?_; (case zqk1 => k_asm); (case zqk2 => k_asm); (case zqk3 => k_asm); (case zqk4 => k_asm); (case zqk5 => k_asm); (case zqkK => first | exact rfl | assumption);  (case zqkd => first | exact ltK2 hd (by decide) | ktr_room); (case zqku => first | (with_unfolding_all exact ltK2 hu (by decide)) | ((try simp only [units_in1, units_deeper, Around.mark_units]); lia)); k_whole); intro q' p' h' tk' u0' u1' u2' u3' u4' u5' F' N' l1 l2; (try dsimp only))) | with_reducible ((with_reducible show wpAny _ _ (PySem.exec (PySem.Stmt.For _ _ _ _ _) _) _ _ _); (k_here; (rename Fr _ _ _ _ => lF'); (with_unfolding_all refine' for_at lF' (by (try dsimp only); first | with_reducible assumption | exact Nat.le_add_left 1 _ | lia) ?_; k_whole)))); k_steps))
      rename News _ _ _ _ => N8
      rename Fr _ _ _ _ => F8
      subst hg9
      refine hend9 _ (out_end F8 N8 hD9 ?b1 ?b2 ?b3 (fun p hp => hTL9 _ (hTL0 _ (hfix _ hp))) hru0 hT9 hR (hP.mono (PtIn.mono fun p hp => hTL9 _ (hTL0 _ hp))) hlT9 hzy hyx hpm9 ⟨by first | assumption | exact Nat.succ_ne_zero _ | (show @Ne Nat _ _; lia), by first | assumption | exact Nat.succ_ne_zero _ | (show @Ne Nat _ _; lia), by first | assumption | exact Nat.succ_ne_zero _ | (show @Ne Nat _ _; lia)⟩ ⟨by first | assumption | exact Nat.succ_ne_zero _ | (show @Ne Nat _ _; lia), by first | assumption | exact Nat.succ_ne_zero _ | (show @Ne Nat _ _; lia), by first | assumption | exact Nat.succ_ne_zero _ | (show @Ne Nat _ _; lia)⟩ hsh9 ?ohr)
      case b1 => assumption
      case b2 => exact And.right (by assumption)
      case b3 => exact And.right (And.right (by assumption))
      case ohr => (intro z h1 h2 h3; (try simp only [List.forall_mem_cons, List.not_mem_nil, false_implies, implies_true, and_true, ne_eq] at h2); (try simp only [List.contains_cons, List.contains_nil, Bool.or_false, Bool.or_eq_false_iff, beq_eq_false_iff_ne, ne_eq] at h3); (simp only [kstB, h1, h2, h3, ↓reduceIte, List.contains_cons, List.contains_nil, Bool.or_false, Bool.false_eq_true, beq_iff_eq, Bool.or_eq_true, or_self]))

  case done =>
    rintro ps u nx h tk htk ⟨rfl, TV, RV, PV, n1, n2, n3, tl, rfl, hoT, hfix, hru, hT, hR, hP, hTl, hzy, hyx⟩ F2 N2
    (k_steps; repeat' ((with_reducible show Stop _); refine Stop.on ?_; (first | with_reducible ((with_reducible show wpAny _ _ (subscriptTail _ _ _ _) _ _ _); (k_here; (with_reducible show wpAny _ _ (subscriptTail _ _ (Value.ref _) (Value.int _ _)) _ _ _); (with_reducible rename News _ _ _ _ => N'); (with_unfolding_all refine' kim_tup N' ?zqsm ?zqsc ?zqsd ?zqs0 ?zqsf ?zqsj ?zqsx ?_); (case zqsm => k_dflt k_mem); (case zqsc => with_unfolding_all rfl); (case zqsd => with_unfolding_all rfl); (case zqs0 => decide); (case zqsf => decide); (case zqsj => with_unfolding_all rfl); (case zqsx => with_unfolding_all rfl))) | with_reducible ((with_reducible show wpAny _ _ (subscriptTail _ _ _ _) _ _ _); (k_here; (with_reducible show wpAny _ _ (subscriptTail _ _ (Value.ref _) (Value.int _ _)) _ _ _); (with_reducible rename News _ _ _ _ => N'); (with_unfolding_all refine' kim_list N' ?zqsm ?zqsc ?zqsd ?zqs0 ?zqsf ?zqsx ?_); (case zqsm => k_dflt k_mem); (case zqsc => with_unfolding_all rfl); (case zqsd => with_unfolding_all rfl); (case zqsx => with_reducible assumption); (case zqs0 => first | with_reducible assumption | lia); (case zqsf => first | with_reducible assumption | lia))) | with_reducible ((with_reducible show wpAny _ _ (call (PySem.Value.ref _) _) _ _ _); (k_here; (with_reducible show wpAny _ _ (call (Value.ref 66) _) _ _ _); k_dflt (refine wpAny_with_toks (n := 1) (by (try dsimp only); first | with_reducible assumption | exact Nat.le_add_left 1 _ | lia) ?_; refine' c_spell ?zqhx ?zqhxl ?zqk1 ?zqk2 ?zqk3 ?zqk4 ?zqk5 ?zqkK ?zqkd ?zqku ?_; (case zqk1 => k_asm); (case zqk2 => k_asm); (case zqk3 => k_asm); (case zqk4 => k_asm); (case zqk5 => k_asm); (case zqkK => first | exact rfl | assumption); (case zqhx => assumption); (case zqhxl => assumption); (case zqkd => first | exact ltK2 hd (by decide) | ktr_room); (case zqku => first | (with_unfolding_all exact ltK2 hu (by decide)) | ((try simp only [units_in1, units_deeper, Around.mark_units]); lia)); k_whole); intro t' h' tk' F' N' htk'; (try dsimp only at htk'); (try dsimp only); (try k_fold))) | with_reducible ((with_reducible show wpAny _ _ (call (PySem.Value.ref _) _) _ _ _); (k_here; (with_reducible show wpAny _ _ (call (Value.ref 106) _) _ _ _); k_dflt (refine wpAny_with_toks (n := 1) (by (try dsimp only); first | with_reducible assumption | exact Nat.le_add_left 1 _ | lia) ?_; refine' c_fits ?zqhp ?zqhy ?zqk1 ?zqk2 ?zqk3 ?zqk4 ?zqk5 ?zqkK ?zqkd ?zqku ?_; (case zqk1 => k_asm); (case zqk2 => k_asm); (case zqk3 => k_asm); (case zqk4 => k_asm); (case zqk5 => k_asm); (case zqkK => first | exact rfl | assumption); (case zqhp => assumption); (case zqhy => assumption); (case zqkd => first | exact ltK2 hd (by decide) | ktr_room); (case zqku => first | (with_unfolding_all exact ltK2 hu (by decide)) | ((try simp only [units_in1, units_deeper, Around.mark_units]); lia)); k_whole); intro h' tk' F' N' htk'; (try dsimp only at htk'); (try dsimp only); (try k_fold))) | with_reducible ((with_reducible show wpAny _ _ (call (PySem.Value.ref _) _) _ _ _); (k_here; (with_reducible show wpAny _ _ (call (Value.ref 113) _) _ _ _); k_dflt (refine wpAny_with_toks (n := 1) (by (try dsimp only); first | with_reducible assumption | exact Nat.le_add_left 1 _ | lia) ?_; refine' c_light ?zqht ?zqh1 ?zqh2 ?zqh3 ?zqk1 ?zqk2 ?zqk3 ?zqk4 ?zqk5 ?zqkK ?zqkd ?zqku ?_; (case zqk1 => k_asm); (case zqk2 => k_asm); (case zqk3 => k_asm); (case zqk4 => k_asm); (case zqk5 => k_asm); (case zqkK => first | exact rfl | assumption); (case zqht => (try dsimp only); first | with_reducible assumption | exact Nat.le_add_left 1 _ | lia); (case zqh1 => assumption); (case zqh2 => assumption); (case zqh3 => assumption); (case zqkd => first | exact ltK2 hd (by decide) | ktr_room); (case zqku => first | (with_unfolding_all exact ltK2 hu (by decide)) | ((try simp only [units_in1, units_deeper, Around.mark_units]); lia)); k_whole); intro q' h' tk' u0' u1' u2' F' N' l1 e0' e1' e2' htk'; (try dsimp only at htk'); (try k_lt l1); (try dsimp only); (try k_fold))) | with_reducible ((with_reducible show wpAny _ _ (call (PySem.Value.ref _) _) _ _ _); (k_here; (with_reducible show wpAny _ _ (call (Value.ref 99) _) _ _ _); k_dflt (refine wpAny_with_toks (n := 1) (by (try dsimp only); first | with_reducible assumption | exact Nat.le_add_left 1 _ | lia) ?_; refine' c_turnedE ?zqhp ?zqhc ?zqhch ?zqk1 ?zqk2 ?zqk3 ?zqk4 ?zqk5 ?zqkK ?zqkd ?zqku ?_; (case zqk1 => k_asm); (case zqk2 => k_asm); (case zqk3 => k_asm); (case zqk4 => k_asm); (case zqk5 => k_asm); (case zqkK => first | exact rfl | assumption); (case zqhp => assumption); (case zqhc => k_mem); (case zqhch => k_mem); (case zqkd => first | exact ltK2 hd (by decide) | ktr_room); (case zqku => first | (with_unfolding_all exact ltK2 hu (by decide)) | ((try simp only [units_in1, units_deeper, Around.mark_units]); lia)); k_whole); intro q' h' tk' u0' u1' u2' F' N' l1 htk'; (try dsimp only at htk'); (try k_lt l1); (try dsimp only); (try k_fold))) | with_reducible ((with_reducible show wpAny _ _ (call (PySem.Value.ref _) _) _ _ _); (k_here; (with_reducible show wpAny _ _ (call (Value.ref 73) _) _ _ _); k_dflt (refine wpAny_with_toks (n := 1) (by (try dsimp only); first | with_reducible assumption | exact Nat.le_add_left 1 _ | lia) ?_; refine' c_deedE ?zqhp ?zqk1 ?zqk2 ?zqk3 ?zqk4 ?zqk5 ?zqkK ?zqkd ?zqku ?_; (case zqk1 => k_asm); (case zqk2 => k_asm); (case zqk3 => k_asm); (case zqk4 => k_asm); (case zqk5 => k_asm); (case zqkK => first | exact rfl | assumption); (case zqhp => assumption); (case zqkd => first | exact ltK2 hd (by decide) | ktr_room); (case zqku => first | (with_unfolding_all exact ltK2 hu (by decide)) | ((try simp only [units_in1, units_deeper, Around.mark_units]); lia)); k_whole); intro q' p' h' tk' u0' u1' u2' u3' F' N' l1 l2 htk'; (try dsimp only at htk'); have l3 := bndUp l1 l2; (try k_lt l1); (try k_lt l3); (try k_lt2 l2); (try dsimp only); (try k_fold))) | with_reducible ((fail_if_success (with_reducible show wpAny _ _ _ _ _ _)); ((rename Fr _ _ _ _ => F'); (rename News _ _ _ _ => N'); (with_unfolding_all refine compEnd2 F' N' (by assumption) (by assumption) (by assumption) (Or.inr ⟨_, by k_mem, rfl, _, rfl⟩) ?_))) | with_reducible ((with_reducible show wpAny _ _ (call (PySem.Value.ref _) _) _ _ _); (k_here; (with_reducible show wpAny _ _ (call (Value.ref 80) _) _ _ _); k_dflt (refine' c_rule  ?zqk1 ?zqk2 ?zqk3 ?zqk4 ?zqk5 ?zqkK ?zqkd ?zqku ?_; (case zqk1 => k_asm); (case zqk2 => k_asm); (case zqk3 => k_asm); (case zqk4 => k_asm); (case zqk5 => k_asm); (case zqkK => first | exact rfl | assumption);  (case zqkd => first | exact ltK2 hd (by decide) | ktr_room); (case zqku => first | (with_unfolding_all exact ltK2 hu (by decide)) | ((try simp only [units_in1, units_deeper, Around.mark_units]); lia)); k_whole); intro q' p' h' tk' u0' u1' u2' u3' u4' u5' F' N' l1 l2; (try dsimp only))) | with_reducible ((with_reducible show wpAny _ _ (PySem.exec (PySem.Stmt.For _ _ _ _ _) _) _ _ _); (k_here; (rename Fr _ _ _ _ => lF'); (with_unfolding_all refine' for_at lF' (by (try dsimp only); first | with_reducible assumption | exact Nat.le_add_left 1 _ | lia) ?_; k_whole)))); k_steps))
    rename News _ _ _ _ => N9
    exact hret _ _ _ _ _ _ (by k_asm) (fun p hp => N9 p (by rcases List.mem_cons.mp hp with rfl | hp; exact .head _; exact .tail _ (.tail _ (.tail _ hp)))) (fun p hp => hfix p (.tail _ (.tail _ (.tail _ (hfix1 _ hp))))) hT htk

end
end Mine
end

section
theorem Mine.fresh_W2 : True := by
  w_top off
  exact trivial
open PySem PySem.W PySem.Calls PyProof.Rows
namespace Mine
section
variable {w : World} {mean : ExcName → Option Value} {mg mb : Str → Option Value}
   {dp un : Nat} {gd : Option (List Code)} {cn : Str} {cs : Scope} {a : Addr} {ccd : Value} {cl : List (Str × Addr)} {outer : List Env} {A₀ : Around} {base h₀ : Heap} {L : Addr} {m : Str → Option Value} {news : List (Addr × Obj)} {s : Shared} {Q E : Value → Shared → Prop}
set_option maxRecDepth 100000
set_option maxHeartbeats 8000000

theorem mul_dots {prog : Program} {w : World} {A : Around} {E : Value → Shared → Prop} {s : Shared} {n : Int} {t u : Tok} {Q : Value → Shared → Prop} (ht : 1 ≤ s.toks) (h0 : 0 ≤ n) (h1 : n < 2) (h : ∀ t' k, 1 ≤ k → Q (.str (Txt.mul (Str.ofString "...") n) t') { s with toks := k }) :
    wpAny (model prog w) A (binaryOp Operator.Mult (.str (Str.ofString "...") t) (.int n u)) Q E s :=
  wpAny_with_toks ht (SB.mul (mulOk_of 16 1048576 (by decide) (by lia) (by lia) (by decide) (by decide)) fun t' k hk => h t' k hk)
theorem dots_len {n : Int} (h0 : 0 ≤ n) (h1 : n < 2) : (Txt.mul (Str.ofString "...") n).length ≤ 3 := by
  have : n = 0 ∨ n = 1 := by lia
  rcases this with rfl | rfl <;> rw [len_toList]
  · rw [dots0]; decide
  · rw [dots1]; decide
theorem add_lim {prog : Program} {w : World} {A : Around} {E : Value → Shared → Prop} {s : Shared} {x y : PySem.Str} {t u : Tok} {Q : Value → Shared → Prop} (ht : 1 ≤ s.toks) (hx : x.length ≤ 100) (hy : y.length ≤ 100) (h : ∀ t' k, 1 ≤ k → Q (.str (x ++ y) t') { s with toks := k }) :
    wpAny (model prog w) A (binaryOp Operator.Add (.str x t) (.str y u)) Q E s :=
  wpAny_with_toks ht (PyProof.Rows.add_str (fun t' k hk => h t' k hk) (by rw [sizeLine_eq]; lia))
noncomputable def WaJ (NX : List (Addr × Obj)) (σ : List PySem.Str) (zs : List Int) (i : Nat) (ys : List Value) (nx : List (Addr × Obj)) : Prop := nx = NX ∧ TxAre ys ((zs.take i).map (wantZ σ))
theorem tup_same {h₀ h : Heap} {L t : Addr} {nw : List (Addr × Obj)} {vs us : List Value} (N : News h₀ L h nw) (a : (t, tupO vs) ∈ nw) (b : (t, tupO us) ∈ nw) : vs = us := by
  have e := (N _ a).1.symm.trans (N _ b).1
  simpa [tupO] using e
local macro_rules | `(tactic| walk_at "pyIter ref") => `(tactic| (with_reducible refine stopFor ?_))
local macro_rules | `(tactic| walk_at "exec For Tuple Name cons nil") => `(tactic| (refine Stop.go ?_))
local macro_rules | `(tactic| walk_at "exec For Name Call cons nil") => `(tactic| (refine Stop.go ?_))
local macro_rules | `(tactic| walk_at "call ref") => `(tactic| (refine Stop.go ?_))
local macro_rules | `(tactic| walk_at "binaryOp Mult str int") => `(tactic| (refine Stop.go ?_))
local macro_rules | `(tactic| walk_at "binaryOp Add str str") => `(tactic| (refine Stop.go ?_))
local macro_rules | `(tactic| walk_at "subscriptTail Name Name ref int") => `(tactic| (refine Stop.go ?_))
local macro_rules | `(tactic| walk_at "subscriptTail Name BinOp ref int") => `(tactic| (refine Stop.go ?_))
local macro_rules | `(tactic| walk_at "subscriptTail Name Constant ref int") => `(tactic| (refine Stop.go ?_))
local macro_rules | `(tactic| walk_at "subscriptTail Subscript Constant ref int") => `(tactic| (refine Stop.go ?_))
local macro_rules | `(tactic| walk_at "exec Assign cons ListComp") => `(tactic| (refine Stop.go ?_))

noncomputable def mapM (l ru wa co ro tol : Addr) : Str → Option Value := fun y => if y = Str.ofString "colours" then some (.ref co) else if y = Str.ofString "rows" then some (.ref ro) else if y = Str.ofString "told" then some (.ref tol) else if y = Str.ofString "wants" then some (.ref wa) else if y = Str.ofString "rules" then some (.ref ru) else if y = Str.ofString "cells" then some (.ref l) else none
theorem c_mods {l g : Addr} {c0 c1 c2 c3 c4 c5 c6 c7 c8 : Int} {t0 t1 t2 t3 t4 t5 t6 t7 t8 u0 u1 u2 : Tok} {x0 x1 x2 : PySem.Str}
   
 (ht : 1 ≤ s.toks) (hσ : SigOk [x0, x1, x2])
 (hc : (l, listOf #[.int c0 t0, .int c1 t1, .int c2 t2, .int c3 t3, .int c4 t4, .int c5 t5, .int c6 t6, .int c7 t7, .int c8 t8] 9) ∈ news)
 (hg : (g, listOf #[.str x0 u0, .str x1 u1, .str x2 u2] 0) ∈ news)
   (B : Below A₀ base outer h₀) (F : Fr h₀ L s.heap m) (X : (Mine.hd.heap_39 w.params).In h₀) (N : News h₀ L s.heap news) (T : Top Mine.hd.view_39 (looseW Mine.hd.view_39 []) mean mg mb h₀) (hk : cs.kind = .function)
   (hd : dp + 60 < recursionLimit) (hu : un + 400 < cLine)
   (hret : ∀ q n TV tl h' tk', Fr h₀ L h' m → News h₀ L h' ((q, listOf (List.toArray TV) n) :: tl) → (∀ p ∈ news, p ∈ tl) → AllR (EntIn tl) TV (sheetL [x0, x1, x2] [c1, c2, c3, c4, c5] [c6, c7, c8] 5).told → 1 ≤ tk' → Q (.ref q) { s with heap := h', toks := tk' }) :
   wpAny (model PySem.Challenge.rw_rw0038_01.row.toRowW.1 w) (ktrTop dp un gd cn cs L a ccd cl outer) (call (.ref 92) [.ref l, .ref g]) Q E s := by
  have hfill : PySem.Challenge.rw_rw0038_01 = PySem.Challenge.rw_rw0038_01 ∧ Mine.hd.heap_39 = Mine.hd.heap_39 := ⟨rfl, rfl⟩
  revert hfill
  k_fill
  intro _
  have hmark : KstMark := kstMark
  
  refine wpAny_call ?_
  (k_dflt (refine' code_defC ?k1 ?k2 ?k3 ?k4 ?k5 ?kA ?kF ?kK ?k6 ?k7 ?k8 ?k9 ?kB ?kD ?_ ?c2 ?c3 ?c4; (case kA => exact rfl); (case kF => exact rfl); (case kK => assumption); (case k1 => k_asm); (case k2 => k_asm); (case k3 => k_asm); (case k4 => k_asm); (case k5 => k_asm); (case k6 => k_is); (case k7 => k_is); (case k8 => ktr_room); (case k9 => exact BindsTo.of_eq rfl); (case kB => exact rfl); (case kD => decide +kernel); (case c2 => exact rfl); (case c3 => exact rfl); (case c4 => exact rfl); k_whole; intro g' L' h' tk' cells' FG' F' N' Y' B' X' T' l1; (try k_lt l1); k_cells Y'; (try simp only [List.cons_append, List.nil_append] at N'); (try dsimp only); (try k_lift B'); (try k_fold)))
  with_reducible show wpAny _ _ _ _ _ _
  k_fold
  (k_steps; repeat' ((with_reducible show Stop _); refine Stop.on ?_; (first | with_reducible ((with_reducible show wpAny _ _ (PySem.exec _ _) _ _ _); (k_here; (with_reducible show wpAny _ _ (PySem.exec (PySem.Stmt.Assign _ (PySem.Expr.ListComp _ [PySem.Comprehension.mk (PySem.Expr.Tuple _ _ _) _ _ _] _ _) _) _) _ _ _); k_dflt (refine assign_comp4 (by k_asm) (by rfl) (by (try dsimp only); first | with_reducible assumption | exact Nat.le_add_left 1 _ | lia) (by with_unfolding_all rfl) (by with_unfolding_all rfl) (by decide) (by rfl) (by decide) (by rfl) (by rfl) (by rfl) (by rfl) (by decide) (by decide) (by decide) (by decide) (by decide) (by decide) (by rfl) (by rfl) ?_))) | with_reducible ((with_reducible show wpAny _ _ (PySem.exec _ _) _ _ _); (k_here; (with_reducible show wpAny _ _ (PySem.exec (PySem.Stmt.Assign _ (PySem.Expr.ListComp _ [PySem.Comprehension.mk (PySem.Expr.Name _ _) _ _ _] _ _) _) _) _ _ _); k_dflt (refine assign_comp1 (by k_asm) (by rfl) (by with_unfolding_all rfl) (by with_unfolding_all rfl) (by decide) (by rfl) (by decide) (by rfl) (by rfl) (by rfl) ?_))) | with_reducible ((with_reducible show wpAny _ _ (subscriptTail _ _ _ _) _ _ _); (k_here; (with_reducible show wpAny _ _ (subscriptTail _ _ (Value.ref _) (Value.int _ _)) _ _ _); (with_reducible rename News _ _ _ _ => N'); (with_unfolding_all refine' kim_tup N' ?zqsm ?zqsc ?zqsd ?zqs0 ?zqsf ?zqsj ?zqsx ?_); (case zqsm => k_dflt k_mem); (case zqsc => with_unfolding_all rfl); (case zqsd => with_unfolding_all rfl); (case zqs0 => decide); (case zqsf => decide); (case zqsj => with_unfolding_all rfl); (case zqsx => with_unfolding_all rfl))) | with_reducible ((with_reducible show wpAny _ _ (subscriptTail _ _ _ _) _ _ _); (k_here; (with_reducible show wpAny _ _ (subscriptTail _ _ (Value.ref _) (Value.int _ _)) _ _ _); (with_reducible rename News _ _ _ _ => N'); (with_unfolding_all refine' kim_list N' ?zqsm ?zqsc ?zqsd ?zqs0 ?zqsf ?zqsx ?_); (case zqsm => k_dflt k_mem); (case zqsc => with_unfolding_all rfl); (case zqsd => with_unfolding_all rfl); (case zqsx => with_reducible assumption); (case zqs0 => first | with_reducible assumption | lia); (case zqsf => first | with_reducible assumption | lia))) | with_reducible ((with_reducible show wpAny _ _ (PySem.binaryOp PySem.Operator.Add (PySem.Value.str _ _) (PySem.Value.str _ _)) _ _ _); (k_here; k_dflt (refine add_lim (by (try dsimp only); first | with_reducible assumption | exact Nat.le_add_left 1 _ | lia) (by with_reducible assumption) (by with_reducible assumption) ?_); intro _ _ htk')) | with_reducible ((with_reducible show wpAny _ _ (PySem.binaryOp PySem.Operator.Mult (PySem.Value.str _ _) (PySem.Value.int _ _)) _ _ _); (k_here; k_dflt (refine mul_dots (by (try dsimp only); first | with_reducible assumption | exact Nat.le_add_left 1 _ | lia) (by with_reducible assumption) (by with_reducible assumption) ?_); intro _ _ htk')) | with_reducible ((with_reducible show wpAny _ _ (call (PySem.Value.ref _) _) _ _ _); (k_here; (with_reducible show wpAny _ _ (call (Value.ref 21) _) _ _ _); k_dflt (refine wpAny_with_toks (n := 1) (by (try dsimp only); first | with_reducible assumption | exact Nat.le_add_left 1 _ | lia) ?_; refine' c_ellE ?zqhf ?zqhp ?zqhq ?zqhd8 ?zqhx ?zqhy ?zqhr ?zqhl ?zqk1 ?zqk2 ?zqk3 ?zqk4 ?zqk5 ?zqkK ?zqkd ?zqku ?_; (case zqk1 => k_asm); (case zqk2 => k_asm); (case zqk3 => k_asm); (case zqk4 => k_asm); (case zqk5 => k_asm); (case zqkK => first | exact rfl | assumption); (case zqhf => assumption); (case zqhp => assumption); (case zqhq => assumption); (case zqhd8 => assumption); (case zqhy => assumption); (case zqhx => assumption); (case zqhr => assumption); (case zqhl => assumption); (case zqkd => first | exact ltK2 hd (by decide) | ktr_room); (case zqku => first | (with_unfolding_all exact ltK2 hu (by decide)) | ((try simp only [units_in1, units_deeper, Around.mark_units]); lia)); k_whole); intro h' tk' F' N' htk'; (try dsimp only at htk'); (try dsimp only); (try k_fold))) | with_reducible ((with_reducible show wpAny _ _ (call (PySem.Value.ref _) _) _ _ _); (k_here; (with_reducible show wpAny _ _ (call (Value.ref 28) _) _ _ _); k_dflt (refine' c_rgbT ?zqhp ?zqht ?zqh1 ?zqh2 ?zqh3 ?zqk1 ?zqk2 ?zqk3 ?zqk4 ?zqk5 ?zqkK ?zqkd ?_; (case zqk1 => k_asm); (case zqk2 => k_asm); (case zqk3 => k_asm); (case zqk4 => k_asm); (case zqk5 => k_asm); (case zqkK => first | exact rfl | assumption); (case zqhp => assumption); (case zqht => (try dsimp only); first | with_reducible assumption | exact Nat.le_add_left 1 _ | lia); (case zqh1 => assumption); (case zqh2 => assumption); (case zqh3 => assumption); (case zqkd => first | exact ltK2 hd (by decide) | ktr_room); k_whole); intro q' h' tk' u1' u2' u3' F' N' l1 e1' e2' e3' htk'; (try k_lt l1); (try dsimp only); (try k_fold))) | with_reducible ((with_reducible show wpAny _ _ (call (PySem.Value.ref _) _) _ _ _); (k_here; (with_reducible show wpAny _ _ (call (Value.ref 87) _) _ _ _); k_dflt (refine' c_changedT ?zqhp ?zqht ?zqht0 ?zqht1 ?zqht2 ?zqh0 ?zqh1 ?zqh2 ?zqhc ?zqhch ?zqk1 ?zqk2 ?zqk3 ?zqk4 ?zqk5 ?zqkK ?zqkd ?zqku ?_; (case zqk1 => k_asm); (case zqk2 => k_asm); (case zqk3 => k_asm); (case zqk4 => k_asm); (case zqk5 => k_asm); (case zqkK => first | exact rfl | assumption); (case zqhp => assumption); (case zqht => (try dsimp only); first | with_reducible assumption | exact Nat.le_add_left 1 _ | lia); (case zqh0 => assumption); (case zqh1 => assumption); (case zqh2 => assumption); (case zqhc => k_mem); (case zqhch => k_mem); (case zqht0 => assumption); (case zqht1 => assumption); (case zqht2 => assumption); (case zqkd => first | exact ltK2 hd (by decide) | ktr_room); (case zqku => first | (with_unfolding_all exact ltK2 hu (by decide)) | ((try simp only [units_in1, units_deeper, Around.mark_units]); lia)); k_whole); intro q' h' tk' u1' u2' u3' F' N' l1 e1' e2' e3' htk'; (try k_lt l1); (try dsimp only); (try k_fold))) | with_reducible ((with_reducible show wpAny _ _ (call (PySem.Value.ref _) _) _ _ _); (k_here; (with_reducible show wpAny _ _ (call (Value.ref 73) _) _ _ _); k_dflt (refine wpAny_with_toks (n := 1) (by (try dsimp only); first | with_reducible assumption | exact Nat.le_add_left 1 _ | lia) ?_; refine' c_deedE ?zqhp ?zqk1 ?zqk2 ?zqk3 ?zqk4 ?zqk5 ?zqkK ?zqkd ?zqku ?_; (case zqk1 => k_asm); (case zqk2 => k_asm); (case zqk3 => k_asm); (case zqk4 => k_asm); (case zqk5 => k_asm); (case zqkK => first | exact rfl | assumption); (case zqhp => assumption); (case zqkd => first | exact ltK2 hd (by decide) | ktr_room); (case zqku => first | (with_unfolding_all exact ltK2 hu (by decide)) | ((try simp only [units_in1, units_deeper, Around.mark_units]); lia)); k_whole); intro q' p' h' tk' u0' u1' u2' u3' F' N' l1 l2 htk'; (try dsimp only at htk'); have l3 := bndUp l1 l2; (try k_lt l1); (try k_lt l3); (try k_lt2 l2); (try dsimp only); (try k_fold))) | with_reducible ((with_reducible show wpAny _ _ (call (PySem.Value.ref _) _) _ _ _); (k_here; (with_reducible show wpAny _ _ (call (Value.ref 49) _) _ _ _); k_dflt (refine' c_esc ?zqht ?zql0 ?zql1 ?zql2 ?zql3 ?zql4 ?zql5 ?zql6 ?zqk1 ?zqk2 ?zqk3 ?zqk4 ?zqk5 ?zqkK ?zqkd ?zqku ?_; (case zqk1 => k_asm); (case zqk2 => k_asm); (case zqk3 => k_asm); (case zqk4 => k_asm); (case zqk5 => k_asm); (case zqkK => first | exact rfl | assumption); (case zqht => (try dsimp only); first | with_reducible assumption | exact Nat.le_add_left 1 _ | lia); (case zql0 => assumption); (case zql1 => assumption); (case zql2 => assumption); (case zql3 => assumption); (case zql4 => assumption); (case zql5 => assumption); (case zql6 => assumption); (case zqkd => first | exact ltK2 hd (by decide) | ktr_room); (case zqku => first | (with_unfolding_all exact ltK2 hu (by decide)) | ((try simp only [units_in1, units_deeper, Around.mark_units]); lia)); k_whole); intro t' h' tk' htk' F' N'; (try dsimp only); (try k_fold))) | with_reducible ((with_reducible show wpAny _ _ (call (PySem.Value.ref _) _) _ _ _); (k_here; (with_reducible show wpAny _ _ (call (Value.ref 80) _) _ _ _); k_dflt (refine' c_rule  ?zqk1 ?zqk2 ?zqk3 ?zqk4 ?zqk5 ?zqkK ?zqkd ?zqku ?_; (case zqk1 => k_asm); (case zqk2 => k_asm); (case zqk3 => k_asm); (case zqk4 => k_asm); (case zqk5 => k_asm); (case zqkK => first | exact rfl | assumption);  (case zqkd => first | exact ltK2 hd (by decide) | ktr_room); (case zqku => first | (with_unfolding_all exact ltK2 hu (by decide)) | ((try simp only [units_in1, units_deeper, Around.mark_units]); lia)); k_whole); intro q' p' h' tk' u0' u1' u2' u3' u4' u5' F' N' l1 l2; (try dsimp only))) | with_reducible ((with_reducible show wpAny _ _ (PySem.exec (PySem.Stmt.For _ _ _ _ _) _) _ _ _); (k_here; (rename Fr _ _ _ _ => lF'); (with_unfolding_all refine' for_at lF' (by (try dsimp only); first | with_reducible assumption | exact Nat.le_add_left 1 _ | lia) ?_; k_whole)))); k_steps))
  refine Stop.on ?_
  rename News _ _ _ _ => N1
  rename Fr _ _ _ _ => F1
  refine Comp1.mk (its := [_, _, _]) (nn := 0) (RuJ _ [c6, c7, c8]) (by (try dsimp only); first | with_reducible assumption | exact Nat.le_add_left 1 _ | lia) rfl F1 N1 (by exact Nat.le_of_ble_eq_true rfl) (fun i ys nx h => h.2 _ (.head _)) ⟨.nil, fun _ h => h⟩ ?turn ?done
  case turn =>
    rintro I C D i v ys nx oI oC mC h9 tk9 E' Q7 hq7 hv hJ htk9 hC hx F2 N2 off ne
    obtain ⟨z, kz, rfl, hz⟩ := int3_at hv
    (try clear N1); (try clear F1)
    (k_steps; repeat' ((with_reducible show Stop _); refine Stop.on ?_; (first | with_reducible ((with_reducible show wpAny _ _ (PySem.exec _ _) _ _ _); (k_here; (with_reducible show wpAny _ _ (PySem.exec (PySem.Stmt.Assign _ (PySem.Expr.ListComp _ [PySem.Comprehension.mk (PySem.Expr.Tuple _ _ _) _ _ _] _ _) _) _) _ _ _); k_dflt (refine assign_comp4 (by k_asm) (by rfl) (by (try dsimp only); first | with_reducible assumption | exact Nat.le_add_left 1 _ | lia) (by with_unfolding_all rfl) (by with_unfolding_all rfl) (by decide) (by rfl) (by decide) (by rfl) (by rfl) (by rfl) (by rfl) (by decide) (by decide) (by decide) (by decide) (by decide) (by decide) (by rfl) (by rfl) ?_))) | with_reducible ((with_reducible show wpAny _ _ (PySem.exec _ _) _ _ _); (k_here; (with_reducible show wpAny _ _ (PySem.exec (PySem.Stmt.Assign _ (PySem.Expr.ListComp _ [PySem.Comprehension.mk (PySem.Expr.Name _ _) _ _ _] _ _) _) _) _ _ _); k_dflt (refine assign_comp1 (by k_asm) (by rfl) (by with_unfolding_all rfl) (by with_unfolding_all rfl) (by decide) (by rfl) (by decide) (by rfl) (by rfl) (by rfl) ?_))) | with_reducible ((with_reducible show wpAny _ _ (subscriptTail _ _ _ _) _ _ _); (k_here; (with_reducible show wpAny _ _ (subscriptTail _ _ (Value.ref _) (Value.int _ _)) _ _ _); (with_reducible rename News _ _ _ _ => N'); (with_unfolding_all refine' kim_tup N' ?zqsm ?zqsc ?zqsd ?zqs0 ?zqsf ?zqsj ?zqsx ?_); (case zqsm => k_dflt k_mem); (case zqsc => with_unfolding_all rfl); (case zqsd => with_unfolding_all rfl); (case zqs0 => decide); (case zqsf => decide); (case zqsj => with_unfolding_all rfl); (case zqsx => with_unfolding_all rfl))) | with_reducible ((with_reducible show wpAny _ _ (subscriptTail _ _ _ _) _ _ _); (k_here; (with_reducible show wpAny _ _ (subscriptTail _ _ (Value.ref _) (Value.int _ _)) _ _ _); (with_reducible rename News _ _ _ _ => N'); (with_unfolding_all refine' kim_list N' ?zqsm ?zqsc ?zqsd ?zqs0 ?zqsf ?zqsx ?_); (case zqsm => k_dflt k_mem); (case zqsc => with_unfolding_all rfl); (case zqsd => with_unfolding_all rfl); (case zqsx => with_reducible assumption); (case zqs0 => first | with_reducible assumption | lia); (case zqsf => first | with_reducible assumption | lia))) | with_reducible ((with_reducible show wpAny _ _ (PySem.binaryOp PySem.Operator.Add (PySem.Value.str _ _) (PySem.Value.str _ _)) _ _ _); (k_here; k_dflt (refine add_lim (by (try dsimp only); first | with_reducible assumption | exact Nat.le_add_left 1 _ | lia) (by with_reducible assumption) (by with_reducible assumption) ?_); intro _ _ htk')) | with_reducible ((with_reducible show wpAny _ _ (PySem.binaryOp PySem.Operator.Mult (PySem.Value.str _ _) (PySem.Value.int _ _)) _ _ _); (k_here; k_dflt (refine mul_dots (by (try dsimp only); first | with_reducible assumption | exact Nat.le_add_left 1 _ | lia) (by with_reducible assumption) (by with_reducible assumption) ?_); intro _ _ htk')) | with_reducible ((with_reducible show wpAny _ _ (call (PySem.Value.ref _) _) _ _ _); (k_here; (with_reducible show wpAny _ _ (call (Value.ref 21) _) _ _ _); k_dflt (refine wpAny_with_toks (n := 1) (by (try dsimp only); first | with_reducible assumption | exact Nat.le_add_left 1 _ | lia) ?_; refine' c_ellE ?zqhf ?zqhp ?zqhq ?zqhd8 ?zqhx ?zqhy ?zqhr ?zqhl ?zqk1 ?zqk2 ?zqk3 ?zqk4 ?zqk5 ?zqkK ?zqkd ?zqku ?_; (case zqk1 => k_asm); (case zqk2 => k_asm); (case zqk3 => k_asm); (case zqk4 => k_asm); (case zqk5 => k_asm); (case zqkK => first | exact rfl | assumption); (case zqhf => assumption); (case zqhp => assumption); (case zqhq => assumption); (case zqhd8 => assumption); (case zqhy => assumption); (case zqhx => assumption); (case zqhr => assumption); (case zqhl => assumption); (case zqkd => first | exact ltK2 hd (by decide) | ktr_room); (case zqku => first | (with_unfolding_all exact ltK2 hu (by decide)) | ((try simp only [units_in1, units_deeper, Around.mark_units]); lia)); k_whole); intro h' tk' F' N' htk'; (try dsimp only at htk'); (try dsimp only); (try k_fold))) | with_reducible ((with_reducible show wpAny _ _ (call (PySem.Value.ref _) _) _ _ _); (k_here; (with_reducible show wpAny _ _ (call (Value.ref 28) _) _ _ _); k_dflt (refine' c_rgbT ?zqhp ?zqht ?zqh1 ?zqh2 ?zqh3 ?zqk1 ?zqk2 ?zqk3 ?zqk4 ?zqk5 ?zqkK ?zqkd ?_; (case zqk1 => k_asm); (case zqk2 => k_asm); (case zqk3 => k_asm); (case zqk4 => k_asm); (case zqk5 => k_asm); (case zqkK => first | exact rfl | assumption); (case zqhp => assumption); (case zqht => (try dsimp only); first | with_reducible assumption | exact Nat.le_add_left 1 _ | lia); (case zqh1 => assumption); (case zqh2 => assumption); (case zqh3 => assumption); (case zqkd => first | exact ltK2 hd (by decide) | ktr_room); k_whole); intro q' h' tk' u1' u2' u3' F' N' l1 e1' e2' e3' htk'; (try k_lt l1); (try dsimp only); (try k_fold))) | with_reducible ((with_reducible show wpAny _ _ (call (PySem.Value.ref _) _) _ _ _); (k_here; (with_reducible show wpAny _ _ (call (Value.ref 87) _) _ _ _); k_dflt (refine' c_changedT ?zqhp ?zqht ?zqht0 ?zqht1 ?zqht2 ?zqh0 ?zqh1 ?zqh2 ?zqhc ?zqhch ?zqk1 ?zqk2 ?zqk3 ?zqk4 ?zqk5 ?zqkK ?zqkd ?zqku ?_; (case zqk1 => k_asm); (case zqk2 => k_asm); (case zqk3 => k_asm); (case zqk4 => k_asm); (case zqk5 => k_asm); (case zqkK => first | exact rfl | assumption); (case zqhp => assumption); (case zqht => (try dsimp only); first | with_reducible assumption | exact Nat.le_add_left 1 _ | lia); (case zqh0 => assumption); (case zqh1 => assumption); (case zqh2 => assumption); (case zqhc => k_mem); (case zqhch => k_mem); (case zqht0 => assumption); (case zqht1 => assumption); (case zqht2 => assumption); (case zqkd => first | exact ltK2 hd (by decide) | ktr_room); (case zqku => first | (with_unfolding_all exact ltK2 hu (by decide)) | ((try simp only [units_in1, units_deeper, Around.mark_units]); lia)); k_whole); intro q' h' tk' u1' u2' u3' F' N' l1 e1' e2' e3' htk'; (try k_lt l1); (try dsimp only); (try k_fold))) | with_reducible ((with_reducible show wpAny _ _ (call (PySem.Value.ref _) _) _ _ _); (k_here; (with_reducible show wpAny _ _ (call (Value.ref 73) _) _ _ _); k_dflt (refine wpAny_with_toks (n := 1) (by (try dsimp only); first | with_reducible assumption | exact Nat.le_add_left 1 _ | lia) ?_; refine' c_deedE ?zqhp ?zqk1 ?zqk2 ?zqk3 ?zqk4 ?zqk5 ?zqkK ?zqkd ?zqku ?_; (case zqk1 => k_asm); (case zqk2 => k_asm); (case zqk3 => k_asm); (case zqk4 => k_asm); (case zqk5 => k_asm); (case zqkK => first | exact rfl | assumption); (case zqhp => assumption); (case zqkd => first | exact ltK2 hd (by decide) | ktr_room); (case zqku => first | (with_unfolding_all exact ltK2 hu (by decide)) | ((try simp only [units_in1, units_deeper, Around.mark_units]); lia)); k_whole); intro q' p' h' tk' u0' u1' u2' u3' F' N' l1 l2 htk'; (try dsimp only at htk'); have l3 := bndUp l1 l2; (try k_lt l1); (try k_lt l3); (try k_lt2 l2); (try dsimp only); (try k_fold))) | with_reducible ((with_reducible show wpAny _ _ (call (PySem.Value.ref _) _) _ _ _); (k_here; (with_reducible show wpAny _ _ (call (Value.ref 49) _) _ _ _); k_dflt (refine' c_esc ?zqht ?zql0 ?zql1 ?zql2 ?zql3 ?zql4 ?zql5 ?zql6 ?zqk1 ?zqk2 ?zqk3 ?zqk4 ?zqk5 ?zqkK ?zqkd ?zqku ?_; (case zqk1 => k_asm); (case zqk2 => k_asm); (case zqk3 => k_asm); (case zqk4 => k_asm); (case zqk5 => k_asm); (case zqkK => first | exact rfl | assumption); (case zqht => (try dsimp only); first | with_reducible assumption | exact Nat.le_add_left 1 _ | lia); (case zql0 => assumption); (case zql1 => assumption); (case zql2 => assumption); (case zql3 => assumption); (case zql4 => assumption); (case zql5 => assumption); (case zql6 => assumption); (case zqkd => first | exact ltK2 hd (by decide) | ktr_room); (case zqku => first | (with_unfolding_all exact ltK2 hu (by decide)) | ((try simp only [units_in1, units_deeper, Around.mark_units]); lia)); k_whole); intro t' h' tk' htk' F' N'; (try dsimp only); (try k_fold))) | with_reducible ((with_reducible show wpAny _ _ (call (PySem.Value.ref _) _) _ _ _); (k_here; (with_reducible show wpAny _ _ (call (Value.ref 80) _) _ _ _); k_dflt (refine' c_rule  ?zqk1 ?zqk2 ?zqk3 ?zqk4 ?zqk5 ?zqkK ?zqkd ?zqku ?_; (case zqk1 => k_asm); (case zqk2 => k_asm); (case zqk3 => k_asm); (case zqk4 => k_asm); (case zqk5 => k_asm); (case zqkK => first | exact rfl | assumption);  (case zqkd => first | exact ltK2 hd (by decide) | ktr_room); (case zqku => first | (with_unfolding_all exact ltK2 hu (by decide)) | ((try simp only [units_in1, units_deeper, Around.mark_units]); lia)); k_whole); intro q' p' h' tk' u0' u1' u2' u3' u4' u5' F' N' l1 l2; (try dsimp only))) | with_reducible ((with_reducible show wpAny _ _ (PySem.exec (PySem.Stmt.For _ _ _ _ _) _) _ _ _); (k_here; (rename Fr _ _ _ _ => lF'); (with_unfolding_all refine' for_at lF' (by (try dsimp only); first | with_reducible assumption | exact Nat.le_add_left 1 _ | lia) ?_; k_whole)))); k_steps))
    rename News _ _ _ _ => N8
    rename Fr _ _ _ _ => F8
    exact hq7 _ _ <| compEnd2 F8 N8 (by assumption) (by assumption) off trivial (hJ.snoc hz)
  case done =>
    rintro D2 h9 tk9 rv nx htk9 ⟨hru, hfix⟩ F2 N2 offD
    have hfix2 := fun p hp => hfix p (.tail _ (.tail _ hp))
    have hcel := hfix _ (.tail _ (.head _))
    (try clear N1); (try clear F1)
    (k_steps; repeat' ((with_reducible show Stop _); refine Stop.on ?_; (first | with_reducible ((with_reducible show wpAny _ _ (PySem.exec _ _) _ _ _); (k_here; (with_reducible show wpAny _ _ (PySem.exec (PySem.Stmt.Assign _ (PySem.Expr.ListComp _ [PySem.Comprehension.mk (PySem.Expr.Tuple _ _ _) _ _ _] _ _) _) _) _ _ _); k_dflt (refine assign_comp4 (by k_asm) (by rfl) (by (try dsimp only); first | with_reducible assumption | exact Nat.le_add_left 1 _ | lia) (by with_unfolding_all rfl) (by with_unfolding_all rfl) (by decide) (by rfl) (by decide) (by rfl) (by rfl) (by rfl) (by rfl) (by decide) (by decide) (by decide) (by decide) (by decide) (by decide) (by rfl) (by rfl) ?_))) | with_reducible ((with_reducible show wpAny _ _ (PySem.exec _ _) _ _ _); (k_here; (with_reducible show wpAny _ _ (PySem.exec (PySem.Stmt.Assign _ (PySem.Expr.ListComp _ [PySem.Comprehension.mk (PySem.Expr.Name _ _) _ _ _] _ _) _) _) _ _ _); k_dflt (refine assign_comp1 (by k_asm) (by rfl) (by with_unfolding_all rfl) (by with_unfolding_all rfl) (by decide) (by rfl) (by decide) (by rfl) (by rfl) (by rfl) ?_))) | with_reducible ((with_reducible show wpAny _ _ (subscriptTail _ _ _ _) _ _ _); (k_here; (with_reducible show wpAny _ _ (subscriptTail _ _ (Value.ref _) (Value.int _ _)) _ _ _); (with_reducible rename News _ _ _ _ => N'); (with_unfolding_all refine' kim_tup N' ?zqsm ?zqsc ?zqsd ?zqs0 ?zqsf ?zqsj ?zqsx ?_); (case zqsm => k_dflt k_mem); (case zqsc => with_unfolding_all rfl); (case zqsd => with_unfolding_all rfl); (case zqs0 => decide); (case zqsf => decide); (case zqsj => with_unfolding_all rfl); (case zqsx => with_unfolding_all rfl))) | with_reducible ((with_reducible show wpAny _ _ (subscriptTail _ _ _ _) _ _ _); (k_here; (with_reducible show wpAny _ _ (subscriptTail _ _ (Value.ref _) (Value.int _ _)) _ _ _); (with_reducible rename News _ _ _ _ => N'); (with_unfolding_all refine' kim_list N' ?zqsm ?zqsc ?zqsd ?zqs0 ?zqsf ?zqsx ?_); (case zqsm => k_dflt k_mem); (case zqsc => with_unfolding_all rfl); (case zqsd => with_unfolding_all rfl); (case zqsx => with_reducible assumption); (case zqs0 => first | with_reducible assumption | lia); (case zqsf => first | with_reducible assumption | lia))) | with_reducible ((with_reducible show wpAny _ _ (PySem.binaryOp PySem.Operator.Add (PySem.Value.str _ _) (PySem.Value.str _ _)) _ _ _); (k_here; k_dflt (refine add_lim (by (try dsimp only); first | with_reducible assumption | exact Nat.le_add_left 1 _ | lia) (by with_reducible assumption) (by with_reducible assumption) ?_); intro _ _ htk')) | with_reducible ((with_reducible show wpAny _ _ (PySem.binaryOp PySem.Operator.Mult (PySem.Value.str _ _) (PySem.Value.int _ _)) _ _ _); (k_here; k_dflt (refine mul_dots (by (try dsimp only); first | with_reducible assumption | exact Nat.le_add_left 1 _ | lia) (by with_reducible assumption) (by with_reducible assumption) ?_); intro _ _ htk')) | with_reducible ((with_reducible show wpAny _ _ (call (PySem.Value.ref _) _) _ _ _); (k_here; (with_reducible show wpAny _ _ (call (Value.ref 21) _) _ _ _); k_dflt (refine wpAny_with_toks (n := 1) (by (try dsimp only); first | with_reducible assumption | exact Nat.le_add_left 1 _ | lia) ?_; refine' c_ellE ?zqhf ?zqhp ?zqhq ?zqhd8 ?zqhx ?zqhy ?zqhr ?zqhl ?zqk1 ?zqk2 ?zqk3 ?zqk4 ?zqk5 ?zqkK ?zqkd ?zqku ?_; (case zqk1 => k_asm); (case zqk2 => k_asm); (case zqk3 => k_asm); (case zqk4 => k_asm); (case zqk5 => k_asm); (case zqkK => first | exact rfl | assumption); (case zqhf => assumption); (case zqhp => assumption); (case zqhq => assumption); (case zqhd8 => assumption); (case zqhy => assumption); (case zqhx => assumption); (case zqhr => assumption); (case zqhl => assumption); (case zqkd => first | exact ltK2 hd (by decide) | ktr_room); (case zqku => first | (with_unfolding_all exact ltK2 hu (by decide)) | ((try simp only [units_in1, units_deeper, Around.mark_units]); lia)); k_whole); intro h' tk' F' N' htk'; (try dsimp only at htk'); (try dsimp only); (try k_fold))) | with_reducible ((with_reducible show wpAny _ _ (call (PySem.Value.ref _) _) _ _ _); (k_here; (with_reducible show wpAny _ _ (call (Value.ref 28) _) _ _ _); k_dflt (refine' c_rgbT ?zqhp ?zqht ?zqh1 ?zqh2 ?zqh3 ?zqk1 ?zqk2 ?zqk3 ?zqk4 ?zqk5 ?zqkK ?zqkd ?_; (case zqk1 => k_asm); (case zqk2 => k_asm); (case zqk3 => k_asm); (case zqk4 => k_asm); (case zqk5 => k_asm); (case zqkK => first | exact rfl | assumption); (case zqhp => assumption); (case zqht => (try dsimp only); first | with_reducible assumption | exact Nat.le_add_left 1 _ | lia); (case zqh1 => assumption); (case zqh2 => assumption); (case zqh3 => assumption); (case zqkd => first | exact ltK2 hd (by decide) | ktr_room); k_whole); intro q' h' tk' u1' u2' u3' F' N' l1 e1' e2' e3' htk'; (try k_lt l1); (try dsimp only); (try k_fold))) | with_reducible ((with_reducible show wpAny _ _ (call (PySem.Value.ref _) _) _ _ _); (k_here; (with_reducible show wpAny _ _ (call (Value.ref 87) _) _ _ _); k_dflt (refine' c_changedT ?zqhp ?zqht ?zqht0 ?zqht1 ?zqht2 ?zqh0 ?zqh1 ?zqh2 ?zqhc ?zqhch ?zqk1 ?zqk2 ?zqk3 ?zqk4 ?zqk5 ?zqkK ?zqkd ?zqku ?_; (case zqk1 => k_asm); (case zqk2 => k_asm); (case zqk3 => k_asm); (case zqk4 => k_asm); (case zqk5 => k_asm); (case zqkK => first | exact rfl | assumption); (case zqhp => assumption); (case zqht => (try dsimp only); first | with_reducible assumption | exact Nat.le_add_left 1 _ | lia); (case zqh0 => assumption); (case zqh1 => assumption); (case zqh2 => assumption); (case zqhc => k_mem); (case zqhch => k_mem); (case zqht0 => assumption); (case zqht1 => assumption); (case zqht2 => assumption); (case zqkd => first | exact ltK2 hd (by decide) | ktr_room); (case zqku => first | (with_unfolding_all exact ltK2 hu (by decide)) | ((try simp only [units_in1, units_deeper, Around.mark_units]); lia)); k_whole); intro q' h' tk' u1' u2' u3' F' N' l1 e1' e2' e3' htk'; (try k_lt l1); (try dsimp only); (try k_fold))) | with_reducible ((with_reducible show wpAny _ _ (call (PySem.Value.ref _) _) _ _ _); (k_here; (with_reducible show wpAny _ _ (call (Value.ref 73) _) _ _ _); k_dflt (refine wpAny_with_toks (n := 1) (by (try dsimp only); first | with_reducible assumption | exact Nat.le_add_left 1 _ | lia) ?_; refine' c_deedE ?zqhp ?zqk1 ?zqk2 ?zqk3 ?zqk4 ?zqk5 ?zqkK ?zqkd ?zqku ?_; (case zqk1 => k_asm); (case zqk2 => k_asm); (case zqk3 => k_asm); (case zqk4 => k_asm); (case zqk5 => k_asm); (case zqkK => first | exact rfl | assumption); (case zqhp => assumption); (case zqkd => first | exact ltK2 hd (by decide) | ktr_room); (case zqku => first | (with_unfolding_all exact ltK2 hu (by decide)) | ((try simp only [units_in1, units_deeper, Around.mark_units]); lia)); k_whole); intro q' p' h' tk' u0' u1' u2' u3' F' N' l1 l2 htk'; (try dsimp only at htk'); have l3 := bndUp l1 l2; (try k_lt l1); (try k_lt l3); (try k_lt2 l2); (try dsimp only); (try k_fold))) | with_reducible ((with_reducible show wpAny _ _ (call (PySem.Value.ref _) _) _ _ _); (k_here; (with_reducible show wpAny _ _ (call (Value.ref 49) _) _ _ _); k_dflt (refine' c_esc ?zqht ?zql0 ?zql1 ?zql2 ?zql3 ?zql4 ?zql5 ?zql6 ?zqk1 ?zqk2 ?zqk3 ?zqk4 ?zqk5 ?zqkK ?zqkd ?zqku ?_; (case zqk1 => k_asm); (case zqk2 => k_asm); (case zqk3 => k_asm); (case zqk4 => k_asm); (case zqk5 => k_asm); (case zqkK => first | exact rfl | assumption); (case zqht => (try dsimp only); first | with_reducible assumption | exact Nat.le_add_left 1 _ | lia); (case zql0 => assumption); (case zql1 => assumption); (case zql2 => assumption); (case zql3 => assumption); (case zql4 => assumption); (case zql5 => assumption); (case zql6 => assumption); (case zqkd => first | exact ltK2 hd (by decide) | ktr_room); (case zqku => first | (with_unfolding_all exact ltK2 hu (by decide)) | ((try simp only [units_in1, units_deeper, Around.mark_units]); lia)); k_whole); intro t' h' tk' htk' F' N'; (try dsimp only); (try k_fold))) | with_reducible ((with_reducible show wpAny _ _ (call (PySem.Value.ref _) _) _ _ _); (k_here; (with_reducible show wpAny _ _ (call (Value.ref 80) _) _ _ _); k_dflt (refine' c_rule  ?zqk1 ?zqk2 ?zqk3 ?zqk4 ?zqk5 ?zqkK ?zqkd ?zqku ?_; (case zqk1 => k_asm); (case zqk2 => k_asm); (case zqk3 => k_asm); (case zqk4 => k_asm); (case zqk5 => k_asm); (case zqkK => first | exact rfl | assumption);  (case zqkd => first | exact ltK2 hd (by decide) | ktr_room); (case zqku => first | (with_unfolding_all exact ltK2 hu (by decide)) | ((try simp only [units_in1, units_deeper, Around.mark_units]); lia)); k_whole); intro q' p' h' tk' u0' u1' u2' u3' u4' u5' F' N' l1 l2; (try dsimp only))) | with_reducible ((with_reducible show wpAny _ _ (PySem.exec (PySem.Stmt.For _ _ _ _ _) _) _ _ _); (k_here; (rename Fr _ _ _ _ => lF'); (with_unfolding_all refine' for_at lF' (by (try dsimp only); first | with_reducible assumption | exact Nat.le_add_left 1 _ | lia) ?_; k_whole)))); k_steps))
    refine Stop.on ?_
    intro htk8
    rename News _ _ _ _ => N3
    rename Fr _ _ _ _ => F3
    have hru : AllR (RuIn nx) rv [c6, c7, c8] := hru
    refine Comp4.mk (its := rv) (nn := rv.length) (WaJ _ [x0, x1, x2] [c6, c7, c8]) rfl F3 N3 (by rw [hru.len, sizeLine_eq]; exact Nat.le_of_ble_eq_true rfl) (fun i ys nx' h => h.1 ▸ .head _) ?htup ⟨rfl, .nil⟩ ?tn ?dn
    case htup =>
      rintro i ys nx' v ⟨rfl, -⟩ hv
      obtain ⟨z, hz, hr⟩ := hru.at2 hv
      cases hr with
      | mk hq hp => exact ⟨_, _, _, _, _, rfl, .tail _ hq⟩
    case tn =>
      rintro I C D i t v1 v2 v3 v4 ys nx' oI oC mC h8 tk8 E' Q7 hq7 hv hm ⟨rfl, hw⟩ htk7 hC e1 e2 e3 e4 F4 N4 off ne
      obtain ⟨z, hz, hr⟩ := hru.at2 hv
      cases hr with
      | mk hq hp =>
      have hsame := tup_same (vs := [v1, v2, v3, v4]) N4 (.tail _ (.tail _ (.tail _ hm))) (.tail _ (.tail _ (.tail _ (.tail _ hq))))
      simp only [List.cons.injEq, and_true] at hsame
      obtain ⟨rfl, rfl, rfl, rfl⟩ := hsame
      have hg8 := hfix2 _ hg
      have ha0 : 0 ≤ z.fmod 3 := fmod_lo _ (by decide)
      have ha1 : z.fmod 3 < 3 := fmod_hi _ (by decide)
      have hb0 : 0 ≤ (z.fdiv 3).fmod 3 := fmod_lo _ (by decide)
      have hb1 : (z.fdiv 3).fmod 3 < 3 := fmod_hi _ (by decide)
      have hd0 : 0 ≤ (z.fdiv 9).fmod 8 := fmod_lo _ (by decide)
      have hd1 : (z.fdiv 9).fmod 8 < 8 := fmod_hi _ (by decide)
      obtain ⟨ta, hta⟩ := sign_at (x0 := x0) (x1 := x1) (x2 := x2) (u0 := u0) (u1 := u1) (u2 := u2) ha0 ha1
      obtain ⟨tb, htb⟩ := sign_at (x0 := x0) (x1 := x1) (x2 := x2) (u0 := u0) (u1 := u1) (u2 := u2) hb0 hb1
      have ha63 : z.fmod 3 < 2 ^ 63 := by lia
      have hb63 : (z.fdiv 3).fmod 3 < 2 ^ 63 := by lia
      have hla := sgn3_len hσ ha0 ha1
      have hlb := sgn3_len hσ hb0 hb1
      have hd4 : ((z.fdiv 9).fmod 8).fdiv 4 < 2 := by rw [Int.fdiv_eq_ediv_of_nonneg _ (by decide)]; lia
      have hd40 : 0 ≤ ((z.fdiv 9).fmod 8).fdiv 4 := by rw [Int.fdiv_eq_ediv_of_nonneg _ (by decide)]; lia
      have hm10 : 0 ≤ ((z.fdiv 9).fmod 8).fmod 2 := fmod_lo _ (by decide)
      have hm12 : ((z.fdiv 9).fmod 8).fmod 2 < 2 := fmod_hi _ (by decide)
      have hm20 : 0 ≤ (((z.fdiv 9).fmod 8).fdiv 2).fmod 2 := fmod_lo _ (by decide)
      have hm22 : (((z.fdiv 9).fmod 8).fdiv 2).fmod 2 < 2 := fmod_hi _ (by decide)
      have hL1 := dots_len hm10 hm12
      have hL2 := dots_len hm20 hm22
      have hL3 := dots_len hd40 hd4
      have g1 : (Txt.mul (Str.ofString "...") (((z.fdiv 9).fmod 8).fmod 2)).length ≤ 100 := by lia
      have g2 : (sgn3 [x0, x1, x2] (z.fmod 3)).length ≤ 100 := by lia
      have g3 : (Txt.mul (Str.ofString "...") (((z.fdiv 9).fmod 8).fmod 2) ++ sgn3 [x0, x1, x2] (z.fmod 3)).length ≤ 100 := by rw [PySem.Str.length_append]; lia
      have g4 : (Txt.mul (Str.ofString "...") ((((z.fdiv 9).fmod 8).fdiv 2).fmod 2)).length ≤ 100 := by lia
      have g5 : (Txt.mul (Str.ofString "...") (((z.fdiv 9).fmod 8).fmod 2) ++ sgn3 [x0, x1, x2] (z.fmod 3) ++ Txt.mul (Str.ofString "...") ((((z.fdiv 9).fmod 8).fdiv 2).fmod 2)).length ≤ 100 := by rw [PySem.Str.length_append, PySem.Str.length_append]; lia
      have g6 : (sgn3 [x0, x1, x2] ((z.fdiv 3).fmod 3)).length ≤ 100 := by lia
      have g7 : (Txt.mul (Str.ofString "...") (((z.fdiv 9).fmod 8).fmod 2) ++ sgn3 [x0, x1, x2] (z.fmod 3) ++ Txt.mul (Str.ofString "...") ((((z.fdiv 9).fmod 8).fdiv 2).fmod 2) ++ sgn3 [x0, x1, x2] ((z.fdiv 3).fmod 3)).length ≤ 100 := by rw [PySem.Str.length_append, PySem.Str.length_append, PySem.Str.length_append]; lia
      have g8 : (Txt.mul (Str.ofString "...") (((z.fdiv 9).fmod 8).fdiv 4)).length ≤ 100 := by lia
      have hpl := pre_len hσ ha0 ha1 hb0 hb1 hd0 hd1
      have hpe := esc_pre hσ ha0 ha1 hb0 hb1 hd0 hd1
      obtain ⟨l1, l2, l3, l4, l5, l6, -⟩ := esc_lens hpl
      have l0 := Nat.le_trans hpl (by decide : 100 ≤ 1000)
      unfold preZ at hpl hpe l0 l1 l2 l3 l4 l5 l6
      have hw2 : ((([c6, c7, c8].take (i + 1)).map (wantZ [x0, x1, x2])) : List PySem.Str) = ([c6, c7, c8].take i).map (wantZ [x0, x1, x2]) ++ [wantZ [x0, x1, x2] z] := take_step _ hz
      (try clear hret); (try clear N3); (try clear F3); (try clear N2); (try clear F2)
      (k_steps; repeat' ((with_reducible show Stop _); refine Stop.on ?_; (first | with_reducible ((with_reducible show wpAny _ _ (PySem.exec _ _) _ _ _); (k_here; (with_reducible show wpAny _ _ (PySem.exec (PySem.Stmt.Assign _ (PySem.Expr.ListComp _ [PySem.Comprehension.mk (PySem.Expr.Tuple _ _ _) _ _ _] _ _) _) _) _ _ _); k_dflt (refine assign_comp4 (by k_asm) (by rfl) (by (try dsimp only); first | with_reducible assumption | exact Nat.le_add_left 1 _ | lia) (by with_unfolding_all rfl) (by with_unfolding_all rfl) (by decide) (by rfl) (by decide) (by rfl) (by rfl) (by rfl) (by rfl) (by decide) (by decide) (by decide) (by decide) (by decide) (by decide) (by rfl) (by rfl) ?_))) | with_reducible ((with_reducible show wpAny _ _ (PySem.exec _ _) _ _ _); (k_here; (with_reducible show wpAny _ _ (PySem.exec (PySem.Stmt.Assign _ (PySem.Expr.ListComp _ [PySem.Comprehension.mk (PySem.Expr.Name _ _) _ _ _] _ _) _) _) _ _ _); k_dflt (refine assign_comp1 (by k_asm) (by rfl) (by with_unfolding_all rfl) (by with_unfolding_all rfl) (by decide) (by rfl) (by decide) (by rfl) (by rfl) (by rfl) ?_))) | with_reducible ((with_reducible show wpAny _ _ (subscriptTail _ _ _ _) _ _ _); (k_here; (with_reducible show wpAny _ _ (subscriptTail _ _ (Value.ref _) (Value.int _ _)) _ _ _); (with_reducible rename News _ _ _ _ => N'); (with_unfolding_all refine' kim_tup N' ?zqsm ?zqsc ?zqsd ?zqs0 ?zqsf ?zqsj ?zqsx ?_); (case zqsm => k_dflt k_mem); (case zqsc => with_unfolding_all rfl); (case zqsd => with_unfolding_all rfl); (case zqs0 => decide); (case zqsf => decide); (case zqsj => with_unfolding_all rfl); (case zqsx => with_unfolding_all rfl))) | with_reducible ((with_reducible show wpAny _ _ (subscriptTail _ _ _ _) _ _ _); (k_here; (with_reducible show wpAny _ _ (subscriptTail _ _ (Value.ref _) (Value.int _ _)) _ _ _); (with_reducible rename News _ _ _ _ => N'); (with_unfolding_all refine' kim_list N' ?zqsm ?zqsc ?zqsd ?zqs0 ?zqsf ?zqsx ?_); (case zqsm => k_dflt k_mem); (case zqsc => with_unfolding_all rfl); (case zqsd => with_unfolding_all rfl); (case zqsx => with_reducible assumption); (case zqs0 => first | with_reducible assumption | lia); (case zqsf => first | with_reducible assumption | lia))) | with_reducible ((with_reducible show wpAny _ _ (PySem.binaryOp PySem.Operator.Add (PySem.Value.str _ _) (PySem.Value.str _ _)) _ _ _); (k_here; k_dflt (refine add_lim (by (try dsimp only); first | with_reducible assumption | exact Nat.le_add_left 1 _ | lia) (by with_reducible assumption) (by with_reducible assumption) ?_); intro _ _ htk')) | with_reducible ((with_reducible show wpAny _ _ (PySem.binaryOp PySem.Operator.Mult (PySem.Value.str _ _) (PySem.Value.int _ _)) _ _ _); (k_here; k_dflt (refine mul_dots (by (try dsimp only); first | with_reducible assumption | exact Nat.le_add_left 1 _ | lia) (by with_reducible assumption) (by with_reducible assumption) ?_); intro _ _ htk')) | with_reducible ((with_reducible show wpAny _ _ (call (PySem.Value.ref _) _) _ _ _); (k_here; (with_reducible show wpAny _ _ (call (Value.ref 21) _) _ _ _); k_dflt (refine wpAny_with_toks (n := 1) (by (try dsimp only); first | with_reducible assumption | exact Nat.le_add_left 1 _ | lia) ?_; refine' c_ellE ?zqhf ?zqhp ?zqhq ?zqhd8 ?zqhx ?zqhy ?zqhr ?zqhl ?zqk1 ?zqk2 ?zqk3 ?zqk4 ?zqk5 ?zqkK ?zqkd ?zqku ?_; (case zqk1 => k_asm); (case zqk2 => k_asm); (case zqk3 => k_asm); (case zqk4 => k_asm); (case zqk5 => k_asm); (case zqkK => first | exact rfl | assumption); (case zqhf => assumption); (case zqhp => assumption); (case zqhq => assumption); (case zqhd8 => assumption); (case zqhy => assumption); (case zqhx => assumption); (case zqhr => assumption); (case zqhl => assumption); (case zqkd => first | exact ltK2 hd (by decide) | ktr_room); (case zqku => first | (with_unfolding_all exact ltK2 hu (by decide)) | ((try simp only [units_in1, units_deeper, Around.mark_units]); lia)); k_whole); intro h' tk' F' N' htk'; (try dsimp only at htk'); (try dsimp only); (try k_fold))) | with_reducible ((with_reducible show wpAny _ _ (call (PySem.Value.ref _) _) _ _ _); (k_here; (with_reducible show wpAny _ _ (call (Value.ref 28) _) _ _ _); k_dflt (refine' c_rgbT ?zqhp ?zqht ?zqh1 ?zqh2 ?zqh3 ?zqk1 ?zqk2 ?zqk3 ?zqk4 ?zqk5 ?zqkK ?zqkd ?_; (case zqk1 => k_asm); (case zqk2 => k_asm); (case zqk3 => k_asm); (case zqk4 => k_asm); (case zqk5 => k_asm); (case zqkK => first | exact rfl | assumption); (case zqhp => assumption); (case zqht => (try dsimp only); first | with_reducible assumption | exact Nat.le_add_left 1 _ | lia); (case zqh1 => assumption); (case zqh2 => assumption); (case zqh3 => assumption); (case zqkd => first | exact ltK2 hd (by decide) | ktr_room); k_whole); intro q' h' tk' u1' u2' u3' F' N' l1 e1' e2' e3' htk'; (try k_lt l1); (try dsimp only); (try k_fold))) | with_reducible ((with_reducible show wpAny _ _ (call (PySem.Value.ref _) _) _ _ _); (k_here; (with_reducible show wpAny _ _ (call (Value.ref 87) _) _ _ _); k_dflt (refine' c_changedT ?zqhp ?zqht ?zqht0 ?zqht1 ?zqht2 ?zqh0 ?zqh1 ?zqh2 ?zqhc ?zqhch ?zqk1 ?zqk2 ?zqk3 ?zqk4 ?zqk5 ?zqkK ?zqkd ?zqku ?_; (case zqk1 => k_asm); (case zqk2 => k_asm); (case zqk3 => k_asm); (case zqk4 => k_asm); (case zqk5 => k_asm); (case zqkK => first | exact rfl | assumption); (case zqhp => assumption); (case zqht => (try dsimp only); first | with_reducible assumption | exact Nat.le_add_left 1 _ | lia); (case zqh0 => assumption); (case zqh1 => assumption); (case zqh2 => assumption); (case zqhc => k_mem); (case zqhch => k_mem); (case zqht0 => assumption); (case zqht1 => assumption); (case zqht2 => assumption); (case zqkd => first | exact ltK2 hd (by decide) | ktr_room); (case zqku => first | (with_unfolding_all exact ltK2 hu (by decide)) | ((try simp only [units_in1, units_deeper, Around.mark_units]); lia)); k_whole); intro q' h' tk' u1' u2' u3' F' N' l1 e1' e2' e3' htk'; (try k_lt l1); (try dsimp only); (try k_fold))) | with_reducible ((with_reducible show wpAny _ _ (call (PySem.Value.ref _) _) _ _ _); (k_here; (with_reducible show wpAny _ _ (call (Value.ref 73) _) _ _ _); k_dflt (refine wpAny_with_toks (n := 1) (by (try dsimp only); first | with_reducible assumption | exact Nat.le_add_left 1 _ | lia) ?_; refine' c_deedE ?zqhp ?zqk1 ?zqk2 ?zqk3 ?zqk4 ?zqk5 ?zqkK ?zqkd ?zqku ?_; (case zqk1 => k_asm); (case zqk2 => k_asm); (case zqk3 => k_asm); (case zqk4 => k_asm); (case zqk5 => k_asm); (case zqkK => first | exact rfl | assumption); (case zqhp => assumption); (case zqkd => first | exact ltK2 hd (by decide) | ktr_room); (case zqku => first | (with_unfolding_all exact ltK2 hu (by decide)) | ((try simp only [units_in1, units_deeper, Around.mark_units]); lia)); k_whole); intro q' p' h' tk' u0' u1' u2' u3' F' N' l1 l2 htk'; (try dsimp only at htk'); have l3 := bndUp l1 l2; (try k_lt l1); (try k_lt l3); (try k_lt2 l2); (try dsimp only); (try k_fold))) | with_reducible ((with_reducible show wpAny _ _ (call (PySem.Value.ref _) _) _ _ _); (k_here; (with_reducible show wpAny _ _ (call (Value.ref 49) _) _ _ _); k_dflt (refine' c_esc ?zqht ?zql0 ?zql1 ?zql2 ?zql3 ?zql4 ?zql5 ?zql6 ?zqk1 ?zqk2 ?zqk3 ?zqk4 ?zqk5 ?zqkK ?zqkd ?zqku ?_; (case zqk1 => k_asm); (case zqk2 => k_asm); (case zqk3 => k_asm); (case zqk4 => k_asm); (case zqk5 => k_asm); (case zqkK => first | exact rfl | assumption); (case zqht => (try dsimp only); first | with_reducible assumption | exact Nat.le_add_left 1 _ | lia); (case zql0 => assumption); (case zql1 => assumption); (case zql2 => assumption); (case zql3 => assumption); (case zql4 => assumption); (case zql5 => assumption); (case zql6 => assumption); (case zqkd => first | exact ltK2 hd (by decide) | ktr_room); (case zqku => first | (with_unfolding_all exact ltK2 hu (by decide)) | ((try simp only [units_in1, units_deeper, Around.mark_units]); lia)); k_whole); intro t' h' tk' htk' F' N'; (try dsimp only); (try k_fold))) | with_reducible ((with_reducible show wpAny _ _ (call (PySem.Value.ref _) _) _ _ _); (k_here; (with_reducible show wpAny _ _ (call (Value.ref 80) _) _ _ _); k_dflt (refine' c_rule  ?zqk1 ?zqk2 ?zqk3 ?zqk4 ?zqk5 ?zqkK ?zqkd ?zqku ?_; (case zqk1 => k_asm); (case zqk2 => k_asm); (case zqk3 => k_asm); (case zqk4 => k_asm); (case zqk5 => k_asm); (case zqkK => first | exact rfl | assumption);  (case zqkd => first | exact ltK2 hd (by decide) | ktr_room); (case zqku => first | (with_unfolding_all exact ltK2 hu (by decide)) | ((try simp only [units_in1, units_deeper, Around.mark_units]); lia)); k_whole); intro q' p' h' tk' u0' u1' u2' u3' u4' u5' F' N' l1 l2; (try dsimp only))) | with_reducible ((with_reducible show wpAny _ _ (PySem.exec (PySem.Stmt.For _ _ _ _ _) _) _ _ _); (k_here; (rename Fr _ _ _ _ => lF'); (with_unfolding_all refine' for_at lF' (by (try dsimp only); first | with_reducible assumption | exact Nat.le_add_left 1 _ | lia) ?_; k_whole)))); k_steps))
      rename News _ _ _ _ => N8
      rename Fr _ _ _ _ => F8
      refine hq7 _ _ <| LCg.CompEnd.intro F8 N8 _ (fun _ h => h) off trivial ⟨rfl, ?_⟩
      rw [hw2]
      unfold wantZ at hw ⊢
      rw [← hpe]
      exact hw.snoc
    case dn =>
      rintro D3 h8 tk8 wv nx' htk7 ⟨rfl, hw⟩ F4 N4 offD3
      have hw : TxAre wv ([c6, c7, c8].map (wantZ [x0, x1, x2])) := by
        have e : rv.length = 3 := hru.len
        rw [e] at hw
        exact hw
      have hSL : ∀ k : Int, 0 ≤ k → k < 3 → ∃ t, [Value.str x0 u0, .str x1 u1, .str x2 u2][k.toNat]? = some (.str (sgn3 [x0, x1, x2] k) t) := fun k h0 h3 => sign_at h0 h3
      have hCL : ∀ i : Nat, i < 5 → ∃ y t, [Value.int c0 t0, .int c1 t1, .int c2 t2, .int c3 t3, .int c4 t4, .int c5 t5, .int c6 t6, .int c7 t7, .int c8 t8][(1 + (i : Int)).toNat]? = some (.int y t) ∧ [c1, c2, c3, c4, c5].getD i 0 = y := fun i h => cell_at h
      have hzl : [c6, c7, c8].length = 3 := rfl
      generalize [Value.str x0 u0, .str x1 u1, .str x2 u2] = SL at hg hSL
      generalize [Value.int c0 t0, .int c1 t1, .int c2 t2, .int c3 t3, .int c4 t4, .int c5 t5, .int c6 t6, .int c7 t7, .int c8 t8] = CL at hc hCL
      generalize [x0, x1, x2] = σ at hσ hret hSL hw
      generalize [c1, c2, c3, c4, c5] = ys at hret hCL
      generalize [c6, c7, c8] = zs at hret hru hzl hw
      have hcel8 : _ ∈ (D2, listOf rv.toArray rv.length) :: nx := .tail _ hcel
      (try clear N3); (try clear F3); (try clear N2); (try clear F2)
      (k_steps; repeat' ((with_reducible show Stop _); refine Stop.on ?_; (first | with_reducible ((with_reducible show wpAny _ _ (PySem.exec _ _) _ _ _); (k_here; (with_reducible show wpAny _ _ (PySem.exec (PySem.Stmt.Assign _ (PySem.Expr.ListComp _ [PySem.Comprehension.mk (PySem.Expr.Tuple _ _ _) _ _ _] _ _) _) _) _ _ _); k_dflt (refine assign_comp4 (by k_asm) (by rfl) (by (try dsimp only); first | with_reducible assumption | exact Nat.le_add_left 1 _ | lia) (by with_unfolding_all rfl) (by with_unfolding_all rfl) (by decide) (by rfl) (by decide) (by rfl) (by rfl) (by rfl) (by rfl) (by decide) (by decide) (by decide) (by decide) (by decide) (by decide) (by rfl) (by rfl) ?_))) | with_reducible ((with_reducible show wpAny _ _ (PySem.exec _ _) _ _ _); (k_here; (with_reducible show wpAny _ _ (PySem.exec (PySem.Stmt.Assign _ (PySem.Expr.ListComp _ [PySem.Comprehension.mk (PySem.Expr.Name _ _) _ _ _] _ _) _) _) _ _ _); k_dflt (refine assign_comp1 (by k_asm) (by rfl) (by with_unfolding_all rfl) (by with_unfolding_all rfl) (by decide) (by rfl) (by decide) (by rfl) (by rfl) (by rfl) ?_))) | with_reducible ((with_reducible show wpAny _ _ (subscriptTail _ _ _ _) _ _ _); (k_here; (with_reducible show wpAny _ _ (subscriptTail _ _ (Value.ref _) (Value.int _ _)) _ _ _); (with_reducible rename News _ _ _ _ => N'); (with_unfolding_all refine' kim_tup N' ?zqsm ?zqsc ?zqsd ?zqs0 ?zqsf ?zqsj ?zqsx ?_); (case zqsm => k_dflt k_mem); (case zqsc => with_unfolding_all rfl); (case zqsd => with_unfolding_all rfl); (case zqs0 => decide); (case zqsf => decide); (case zqsj => with_unfolding_all rfl); (case zqsx => with_unfolding_all rfl))) | with_reducible ((with_reducible show wpAny _ _ (subscriptTail _ _ _ _) _ _ _); (k_here; (with_reducible show wpAny _ _ (subscriptTail _ _ (Value.ref _) (Value.int _ _)) _ _ _); (with_reducible rename News _ _ _ _ => N'); (with_unfolding_all refine' kim_list N' ?zqsm ?zqsc ?zqsd ?zqs0 ?zqsf ?zqsx ?_); (case zqsm => k_dflt k_mem); (case zqsc => with_unfolding_all rfl); (case zqsd => with_unfolding_all rfl); (case zqsx => with_reducible assumption); (case zqs0 => first | with_reducible assumption | lia); (case zqsf => first | with_reducible assumption | lia))) | with_reducible ((with_reducible show wpAny _ _ (PySem.binaryOp PySem.Operator.Add (PySem.Value.str _ _) (PySem.Value.str _ _)) _ _ _); (k_here; k_dflt (refine add_lim (by (try dsimp only); first | with_reducible assumption | exact Nat.le_add_left 1 _ | lia) (by with_reducible assumption) (by with_reducible assumption) ?_); intro _ _ htk')) | with_reducible ((with_reducible show wpAny _ _ (PySem.binaryOp PySem.Operator.Mult (PySem.Value.str _ _) (PySem.Value.int _ _)) _ _ _); (k_here; k_dflt (refine mul_dots (by (try dsimp only); first | with_reducible assumption | exact Nat.le_add_left 1 _ | lia) (by with_reducible assumption) (by with_reducible assumption) ?_); intro _ _ htk')) | with_reducible ((with_reducible show wpAny _ _ (call (PySem.Value.ref _) _) _ _ _); (k_here; (with_reducible show wpAny _ _ (call (Value.ref 21) _) _ _ _); k_dflt (refine wpAny_with_toks (n := 1) (by (try dsimp only); first | with_reducible assumption | exact Nat.le_add_left 1 _ | lia) ?_; refine' c_ellE ?zqhf ?zqhp ?zqhq ?zqhd8 ?zqhx ?zqhy ?zqhr ?zqhl ?zqk1 ?zqk2 ?zqk3 ?zqk4 ?zqk5 ?zqkK ?zqkd ?zqku ?_; (case zqk1 => k_asm); (case zqk2 => k_asm); (case zqk3 => k_asm); (case zqk4 => k_asm); (case zqk5 => k_asm); (case zqkK => first | exact rfl | assumption); (case zqhf => assumption); (case zqhp => assumption); (case zqhq => assumption); (case zqhd8 => assumption); (case zqhy => assumption); (case zqhx => assumption); (case zqhr => assumption); (case zqhl => assumption); (case zqkd => first | exact ltK2 hd (by decide) | ktr_room); (case zqku => first | (with_unfolding_all exact ltK2 hu (by decide)) | ((try simp only [units_in1, units_deeper, Around.mark_units]); lia)); k_whole); intro h' tk' F' N' htk'; (try dsimp only at htk'); (try dsimp only); (try k_fold))) | with_reducible ((with_reducible show wpAny _ _ (call (PySem.Value.ref _) _) _ _ _); (k_here; (with_reducible show wpAny _ _ (call (Value.ref 28) _) _ _ _); k_dflt (refine' c_rgbT ?zqhp ?zqht ?zqh1 ?zqh2 ?zqh3 ?zqk1 ?zqk2 ?zqk3 ?zqk4 ?zqk5 ?zqkK ?zqkd ?_; (case zqk1 => k_asm); (case zqk2 => k_asm); (case zqk3 => k_asm); (case zqk4 => k_asm); (case zqk5 => k_asm); (case zqkK => first | exact rfl | assumption); (case zqhp => assumption); (case zqht => (try dsimp only); first | with_reducible assumption | exact Nat.le_add_left 1 _ | lia); (case zqh1 => assumption); (case zqh2 => assumption); (case zqh3 => assumption); (case zqkd => first | exact ltK2 hd (by decide) | ktr_room); k_whole); intro q' h' tk' u1' u2' u3' F' N' l1 e1' e2' e3' htk'; (try k_lt l1); (try dsimp only); (try k_fold))) | with_reducible ((with_reducible show wpAny _ _ (call (PySem.Value.ref _) _) _ _ _); (k_here; (with_reducible show wpAny _ _ (call (Value.ref 87) _) _ _ _); k_dflt (refine' c_changedT ?zqhp ?zqht ?zqht0 ?zqht1 ?zqht2 ?zqh0 ?zqh1 ?zqh2 ?zqhc ?zqhch ?zqk1 ?zqk2 ?zqk3 ?zqk4 ?zqk5 ?zqkK ?zqkd ?zqku ?_; (case zqk1 => k_asm); (case zqk2 => k_asm); (case zqk3 => k_asm); (case zqk4 => k_asm); (case zqk5 => k_asm); (case zqkK => first | exact rfl | assumption); (case zqhp => assumption); (case zqht => (try dsimp only); first | with_reducible assumption | exact Nat.le_add_left 1 _ | lia); (case zqh0 => assumption); (case zqh1 => assumption); (case zqh2 => assumption); (case zqhc => k_mem); (case zqhch => k_mem); (case zqht0 => assumption); (case zqht1 => assumption); (case zqht2 => assumption); (case zqkd => first | exact ltK2 hd (by decide) | ktr_room); (case zqku => first | (with_unfolding_all exact ltK2 hu (by decide)) | ((try simp only [units_in1, units_deeper, Around.mark_units]); lia)); k_whole); intro q' h' tk' u1' u2' u3' F' N' l1 e1' e2' e3' htk'; (try k_lt l1); (try dsimp only); (try k_fold))) | with_reducible ((with_reducible show wpAny _ _ (call (PySem.Value.ref _) _) _ _ _); (k_here; (with_reducible show wpAny _ _ (call (Value.ref 73) _) _ _ _); k_dflt (refine wpAny_with_toks (n := 1) (by (try dsimp only); first | with_reducible assumption | exact Nat.le_add_left 1 _ | lia) ?_; refine' c_deedE ?zqhp ?zqk1 ?zqk2 ?zqk3 ?zqk4 ?zqk5 ?zqkK ?zqkd ?zqku ?_; (case zqk1 => k_asm); (case zqk2 => k_asm); (case zqk3 => k_asm); (case zqk4 => k_asm); (case zqk5 => k_asm); (case zqkK => first | exact rfl | assumption); (case zqhp => assumption); (case zqkd => first | exact ltK2 hd (by decide) | ktr_room); (case zqku => first | (with_unfolding_all exact ltK2 hu (by decide)) | ((try simp only [units_in1, units_deeper, Around.mark_units]); lia)); k_whole); intro q' p' h' tk' u0' u1' u2' u3' F' N' l1 l2 htk'; (try dsimp only at htk'); have l3 := bndUp l1 l2; (try k_lt l1); (try k_lt l3); (try k_lt2 l2); (try dsimp only); (try k_fold))) | with_reducible ((with_reducible show wpAny _ _ (call (PySem.Value.ref _) _) _ _ _); (k_here; (with_reducible show wpAny _ _ (call (Value.ref 49) _) _ _ _); k_dflt (refine' c_esc ?zqht ?zql0 ?zql1 ?zql2 ?zql3 ?zql4 ?zql5 ?zql6 ?zqk1 ?zqk2 ?zqk3 ?zqk4 ?zqk5 ?zqkK ?zqkd ?zqku ?_; (case zqk1 => k_asm); (case zqk2 => k_asm); (case zqk3 => k_asm); (case zqk4 => k_asm); (case zqk5 => k_asm); (case zqkK => first | exact rfl | assumption); (case zqht => (try dsimp only); first | with_reducible assumption | exact Nat.le_add_left 1 _ | lia); (case zql0 => assumption); (case zql1 => assumption); (case zql2 => assumption); (case zql3 => assumption); (case zql4 => assumption); (case zql5 => assumption); (case zql6 => assumption); (case zqkd => first | exact ltK2 hd (by decide) | ktr_room); (case zqku => first | (with_unfolding_all exact ltK2 hu (by decide)) | ((try simp only [units_in1, units_deeper, Around.mark_units]); lia)); k_whole); intro t' h' tk' htk' F' N'; (try dsimp only); (try k_fold))) | with_reducible ((with_reducible show wpAny _ _ (call (PySem.Value.ref _) _) _ _ _); (k_here; (with_reducible show wpAny _ _ (call (Value.ref 80) _) _ _ _); k_dflt (refine' c_rule  ?zqk1 ?zqk2 ?zqk3 ?zqk4 ?zqk5 ?zqkK ?zqkd ?zqku ?_; (case zqk1 => k_asm); (case zqk2 => k_asm); (case zqk3 => k_asm); (case zqk4 => k_asm); (case zqk5 => k_asm); (case zqkK => first | exact rfl | assumption);  (case zqkd => first | exact ltK2 hd (by decide) | ktr_room); (case zqku => first | (with_unfolding_all exact ltK2 hu (by decide)) | ((try simp only [units_in1, units_deeper, Around.mark_units]); lia)); k_whole); intro q' p' h' tk' u0' u1' u2' u3' u4' u5' F' N' l1 l2; (try dsimp only))) | with_reducible ((with_reducible show wpAny _ _ (PySem.exec (PySem.Stmt.For _ _ _ _ _) _) _ _ _); (k_here; (rename Fr _ _ _ _ => lF'); (with_unfolding_all refine' for_at lF' (by (try dsimp only); first | with_reducible assumption | exact Nat.le_add_left 1 _ | lia) ?_; k_whole)))); k_steps))
      refine Stop.on ?_
      rename News _ _ _ _ => N1
      rename Fr _ _ _ _ => F1
      rename IsRange _ _ _ _ _ _ _ _ => R1
      have N2 := newsPerm N1
      have F1' : Fr _ _ _ (mapM l _ _ _ _ _) := F1
      have n0 : tk8 ≠ 0 := by lia
      refine for_range (n := ((6 : Int) - 1).toNat) ["up", "change", "colour", "seen", "r", "written", "said"] (OutM _ _ _ _ _ σ ys zs) rfl rfl rfl R1 (small_one (by lia) (by lia) (by lia) (by lia)) (rangeSize_nat _ _) F1' N2 [] _ (fun _ hp => hp) (by kst_all)
        (OutM.ini ?off ?zy ?yx (hru.mono (RuIn.mono fun p hp => .tail _ (.tail _ (.tail _ (.tail _ (hp)))))) (red_in (.tail _ (.head _)) n0 (Nat.succ_ne_zero _) (Nat.succ_ne_zero _))) ?turn2 ?done2
      case off => with_unfolding_all exact offOf (by assumption) (by assumption) (by assumption) (by assumption)
      case zy => exact And.left (by assumption)
      case yx => exact And.left (by assumption)
      case turn2 =>
        repeat (rename (_ ∧ _) => z1; clear z1)
        repeat (rename (∀ x ∈ _, _ < _) => z1; clear z1)
        rintro i tt ps u nx2 h tk own Q9 hend9 hi htk hoff hJ F2 N2
        have hi5 : i < 5 := by lia
        refine OutM.turn hJ hi5 hσ hCL (.tail _ (.tail _ (.tail _ (.tail _ (hfix2 _ hc))))) (.tail _ (.tail _ (.tail _ (.tail _ (hfix2 _ hg))))) (.tail _ (.tail _ (.tail _ (.head _)))) hoff F2 N2 ?_
        clear hJ hoff F2 N2 F1'
        intro TV RV PV n1 n2 n3 tl y ty S up m0 s0 v0 m1 s1 v1 p0 ta tb tc a0 a1 a2 b0 b1 b2 d0 d1 d2 rx tr hcell hUP hup0 hup63 hpv hpm hta0 htb0 htc0 hrv hr0 hchg hrgb hf32 hf6 hf5 hli1 hse1 hp1ok hsh hlR hlP hD hob hcells hsigns hrulesL hfixO hru0 hT hR hP hTl hzy hyx F2 N2
        have hwantsL := hfixO _ (.tail _ (.tail _ (.head _)))
        have hcel9 := hfixO _ (.tail _ (.tail _ (.tail _ (.tail _ (hcel)))))
        have hz1 : (1 + (i : Int)) < 2 ^ 63 := by lia
        (try clear N1); (try clear F1);
        (k_steps; repeat' ((with_reducible show Stop _); refine Stop.on ?_; (first | with_reducible ((with_reducible show wpAny _ _ (PySem.exec _ _) _ _ _); (k_here; (with_reducible show wpAny _ _ (PySem.exec (PySem.Stmt.Assign _ (PySem.Expr.ListComp _ [PySem.Comprehension.mk (PySem.Expr.Tuple _ _ _) _ _ _] _ _) _) _) _ _ _); k_dflt (refine assign_comp4 (by k_asm) (by rfl) (by (try dsimp only); first | with_reducible assumption | exact Nat.le_add_left 1 _ | lia) (by with_unfolding_all rfl) (by with_unfolding_all rfl) (by decide) (by rfl) (by decide) (by rfl) (by rfl) (by rfl) (by rfl) (by decide) (by decide) (by decide) (by decide) (by decide) (by decide) (by rfl) (by rfl) ?_))) | with_reducible ((with_reducible show wpAny _ _ (PySem.exec _ _) _ _ _); (k_here; (with_reducible show wpAny _ _ (PySem.exec (PySem.Stmt.Assign _ (PySem.Expr.ListComp _ [PySem.Comprehension.mk (PySem.Expr.Name _ _) _ _ _] _ _) _) _) _ _ _); k_dflt (refine assign_comp1 (by k_asm) (by rfl) (by with_unfolding_all rfl) (by with_unfolding_all rfl) (by decide) (by rfl) (by decide) (by rfl) (by rfl) (by rfl) ?_))) | with_reducible ((with_reducible show wpAny _ _ (subscriptTail _ _ _ _) _ _ _); (k_here; (with_reducible show wpAny _ _ (subscriptTail _ _ (Value.ref _) (Value.int _ _)) _ _ _); (with_reducible rename News _ _ _ _ => N'); (with_unfolding_all refine' kim_tup N' ?zqsm ?zqsc ?zqsd ?zqs0 ?zqsf ?zqsj ?zqsx ?_); (case zqsm => k_dflt k_mem); (case zqsc => with_unfolding_all rfl); (case zqsd => with_unfolding_all rfl); (case zqs0 => decide); (case zqsf => decide); (case zqsj => with_unfolding_all rfl); (case zqsx => with_unfolding_all rfl))) | with_reducible ((with_reducible show wpAny _ _ (subscriptTail _ _ _ _) _ _ _); (k_here; (with_reducible show wpAny _ _ (subscriptTail _ _ (Value.ref _) (Value.int _ _)) _ _ _); (with_reducible rename News _ _ _ _ => N'); (with_unfolding_all refine' kim_list N' ?zqsm ?zqsc ?zqsd ?zqs0 ?zqsf ?zqsx ?_); (case zqsm => k_dflt k_mem); (case zqsc => with_unfolding_all rfl); (case zqsd => with_unfolding_all rfl); (case zqsx => with_reducible assumption); (case zqs0 => first | with_reducible assumption | lia); (case zqsf => first | with_reducible assumption | lia))) | with_reducible ((with_reducible show wpAny _ _ (PySem.binaryOp PySem.Operator.Add (PySem.Value.str _ _) (PySem.Value.str _ _)) _ _ _); (k_here; k_dflt (refine add_lim (by (try dsimp only); first | with_reducible assumption | exact Nat.le_add_left 1 _ | lia) (by with_reducible assumption) (by with_reducible assumption) ?_); intro _ _ htk')) | with_reducible ((with_reducible show wpAny _ _ (PySem.binaryOp PySem.Operator.Mult (PySem.Value.str _ _) (PySem.Value.int _ _)) _ _ _); (k_here; k_dflt (refine mul_dots (by (try dsimp only); first | with_reducible assumption | exact Nat.le_add_left 1 _ | lia) (by with_reducible assumption) (by with_reducible assumption) ?_); intro _ _ htk')) | with_reducible ((with_reducible show wpAny _ _ (call (PySem.Value.ref _) _) _ _ _); (k_here; (with_reducible show wpAny _ _ (call (Value.ref 21) _) _ _ _); k_dflt (refine wpAny_with_toks (n := 1) (by (try dsimp only); first | with_reducible assumption | exact Nat.le_add_left 1 _ | lia) ?_; refine' c_ellE ?zqhf ?zqhp ?zqhq ?zqhd8 ?zqhx ?zqhy ?zqhr ?zqhl ?zqk1 ?zqk2 ?zqk3 ?zqk4 ?zqk5 ?zqkK ?zqkd ?zqku ?_; (case zqk1 => k_asm); (case zqk2 => k_asm); (case zqk3 => k_asm); (case zqk4 => k_asm); (case zqk5 => k_asm); (case zqkK => first | exact rfl | assumption); (case zqhf => assumption); (case zqhp => assumption); (case zqhq => assumption); (case zqhd8 => assumption); (case zqhy => assumption); (case zqhx => assumption); (case zqhr => assumption); (case zqhl => assumption); (case zqkd => first | exact ltK2 hd (by decide) | ktr_room); (case zqku => first | (with_unfolding_all exact ltK2 hu (by decide)) | ((try simp only [units_in1, units_deeper, Around.mark_units]); lia)); k_whole); intro h' tk' F' N' htk'; (try dsimp only at htk'); (try dsimp only); (try k_fold))) | with_reducible ((with_reducible show wpAny _ _ (call (PySem.Value.ref _) _) _ _ _); (k_here; (with_reducible show wpAny _ _ (call (Value.ref 28) _) _ _ _); k_dflt (refine' c_rgbT ?zqhp ?zqht ?zqh1 ?zqh2 ?zqh3 ?zqk1 ?zqk2 ?zqk3 ?zqk4 ?zqk5 ?zqkK ?zqkd ?_; (case zqk1 => k_asm); (case zqk2 => k_asm); (case zqk3 => k_asm); (case zqk4 => k_asm); (case zqk5 => k_asm); (case zqkK => first | exact rfl | assumption); (case zqhp => assumption); (case zqht => (try dsimp only); first | with_reducible assumption | exact Nat.le_add_left 1 _ | lia); (case zqh1 => assumption); (case zqh2 => assumption); (case zqh3 => assumption); (case zqkd => first | exact ltK2 hd (by decide) | ktr_room); k_whole); intro q' h' tk' u1' u2' u3' F' N' l1 e1' e2' e3' htk'; (try k_lt l1); (try dsimp only); (try k_fold))) | with_reducible ((with_reducible show wpAny _ _ (call (PySem.Value.ref _) _) _ _ _); (k_here; (with_reducible show wpAny _ _ (call (Value.ref 87) _) _ _ _); k_dflt (refine' c_changedT ?zqhp ?zqht ?zqht0 ?zqht1 ?zqht2 ?zqh0 ?zqh1 ?zqh2 ?zqhc ?zqhch ?zqk1 ?zqk2 ?zqk3 ?zqk4 ?zqk5 ?zqkK ?zqkd ?zqku ?_; (case zqk1 => k_asm); (case zqk2 => k_asm); (case zqk3 => k_asm); (case zqk4 => k_asm); (case zqk5 => k_asm); (case zqkK => first | exact rfl | assumption); (case zqhp => assumption); (case zqht => (try dsimp only); first | with_reducible assumption | exact Nat.le_add_left 1 _ | lia); (case zqh0 => assumption); (case zqh1 => assumption); (case zqh2 => assumption); (case zqhc => k_mem); (case zqhch => k_mem); (case zqht0 => assumption); (case zqht1 => assumption); (case zqht2 => assumption); (case zqkd => first | exact ltK2 hd (by decide) | ktr_room); (case zqku => first | (with_unfolding_all exact ltK2 hu (by decide)) | ((try simp only [units_in1, units_deeper, Around.mark_units]); lia)); k_whole); intro q' h' tk' u1' u2' u3' F' N' l1 e1' e2' e3' htk'; (try k_lt l1); (try dsimp only); (try k_fold))) | with_reducible ((with_reducible show wpAny _ _ (call (PySem.Value.ref _) _) _ _ _); (k_here; (with_reducible show wpAny _ _ (call (Value.ref 73) _) _ _ _); k_dflt (refine wpAny_with_toks (n := 1) (by (try dsimp only); first | with_reducible assumption | exact Nat.le_add_left 1 _ | lia) ?_; refine' c_deedE ?zqhp ?zqk1 ?zqk2 ?zqk3 ?zqk4 ?zqk5 ?zqkK ?zqkd ?zqku ?_; (case zqk1 => k_asm); (case zqk2 => k_asm); (case zqk3 => k_asm); (case zqk4 => k_asm); (case zqk5 => k_asm); (case zqkK => first | exact rfl | assumption); (case zqhp => assumption); (case zqkd => first | exact ltK2 hd (by decide) | ktr_room); (case zqku => first | (with_unfolding_all exact ltK2 hu (by decide)) | ((try simp only [units_in1, units_deeper, Around.mark_units]); lia)); k_whole); intro q' p' h' tk' u0' u1' u2' u3' F' N' l1 l2 htk'; (try dsimp only at htk'); have l3 := bndUp l1 l2; (try k_lt l1); (try k_lt l3); (try k_lt2 l2); (try dsimp only); (try k_fold))) | with_reducible ((with_reducible show wpAny _ _ (call (PySem.Value.ref _) _) _ _ _); (k_here; (with_reducible show wpAny _ _ (call (Value.ref 49) _) _ _ _); k_dflt (refine' c_esc ?zqht ?zql0 ?zql1 ?zql2 ?zql3 ?zql4 ?zql5 ?zql6 ?zqk1 ?zqk2 ?zqk3 ?zqk4 ?zqk5 ?zqkK ?zqkd ?zqku ?_; (case zqk1 => k_asm); (case zqk2 => k_asm); (case zqk3 => k_asm); (case zqk4 => k_asm); (case zqk5 => k_asm); (case zqkK => first | exact rfl | assumption); (case zqht => (try dsimp only); first | with_reducible assumption | exact Nat.le_add_left 1 _ | lia); (case zql0 => assumption); (case zql1 => assumption); (case zql2 => assumption); (case zql3 => assumption); (case zql4 => assumption); (case zql5 => assumption); (case zql6 => assumption); (case zqkd => first | exact ltK2 hd (by decide) | ktr_room); (case zqku => first | (with_unfolding_all exact ltK2 hu (by decide)) | ((try simp only [units_in1, units_deeper, Around.mark_units]); lia)); k_whole); intro t' h' tk' htk' F' N'; (try dsimp only); (try k_fold))) | with_reducible ((with_reducible show wpAny _ _ (call (PySem.Value.ref _) _) _ _ _); (k_here; (with_reducible show wpAny _ _ (call (Value.ref 80) _) _ _ _); k_dflt (refine' c_rule  ?zqk1 ?zqk2 ?zqk3 ?zqk4 ?zqk5 ?zqkK ?zqkd ?zqku ?_; (case zqk1 => k_asm); (case zqk2 => k_asm); (case zqk3 => k_asm); (case zqk4 => k_asm); (case zqk5 => k_asm); (case zqkK => first | exact rfl | assumption);  (case zqkd => first | exact ltK2 hd (by decide) | ktr_room); (case zqku => first | (with_unfolding_all exact ltK2 hu (by decide)) | ((try simp only [units_in1, units_deeper, Around.mark_units]); lia)); k_whole); intro q' p' h' tk' u0' u1' u2' u3' u4' u5' F' N' l1 l2; (try dsimp only))) | with_reducible ((with_reducible show wpAny _ _ (PySem.exec (PySem.Stmt.For _ _ _ _ _) _) _ _ _); (k_here; (rename Fr _ _ _ _ => lF'); (with_unfolding_all refine' for_at lF' (by (try dsimp only); first | with_reducible assumption | exact Nat.le_add_left 1 _ | lia) ?_; k_whole)))); k_steps))
        refine Stop.on ?_
        rename News _ _ _ _ => N3
        rename Fr _ _ _ _ => F3
        rename IsRange _ _ _ _ _ _ _ _ => R3
        have N4 := newsPerm3 N3
        have hD2 := hD.up4 N4 (by assumption) (by assumption) (by assumption) (by assumption)
        have hTL0 := hD2.tail4
        refine for_range (n := ((3 : Int) - 0).toNat) ["written", "said"] (InM _ _ _ own _ RV PV n2 n3 (4 * i) σ rx zs ((m1, s1, v1), S.told)) rfl rfl rfl R3 (small_one (by lia) (by lia) (by lia) (by lia)) (rangeSize_nat _ _) F3 N4 [(Str.ofString "colour", .ref _), (Str.ofString "seen", .ref _)] _ (fun _ hp => hp) ?hk2
          (InM.ini hD2 (fun _ hp => hp) (ClIn.of (hli1 ()) (.tail _ (.head _)) (by assumption) (by assumption) (by assumption)) (SeIn.of (hse1 ()) (.head _) (by assumption) (by assumption) (by assumption)) (hT.mono (EntIn.mono hTL0)) hTl) ?tn2 ?dn2
        case hk2 => kst_all
        case tn2 =>
          (try clear hret); (try clear N2); (try clear F2); (try clear N3); (try clear F3); (try clear N4); (try clear hD); (try clear hD2); (try clear hoT); (try clear hoff); (try clear hob); (try clear hp0); (try clear ep0); (try clear er0); (try clear hpt); (try clear hrx); (try clear hub); (try clear hpv); (try clear hpm); (try clear hp1); (try clear hcell); (try clear hstep); (try clear hP); (try clear hR); (try clear hT); (try clear hok); (try clear hcells); (try clear hchg); (try clear hrgb); (try clear hf32); (try clear hf6); (try clear hf5); (try clear R1); (try clear R3); (try clear ha0); (try clear ha1); (try clear ha2); (try clear hpl)
          rintro j tj ps u9 nx9 h9 tk9 own9 Q8 hend8 hj3 htk9 hoff9 hJ9 F9 N9
          refine InM.turn hJ9 hj3 (by lia) hzl hσ hr0 hi5 hp1ok hSL hw hru (fun p hp => hfixO _ (.tail _ (.tail _ (.tail _ (.tail _ hp))))) hTL0 hsigns hrulesL hwantsL hoff9 F9 N9 ?_
          clear hJ9 F9 N9 hoff9
          intro q9 q8 TV9 n9 tl9 zz za zb zd zc0 zc1 zc2 m2 s2 v2 m3 s3 v3 f0 f1 f2 g0 g1 g2 x3 x4 x5 y3 y4 y5 told2 g9 pa pb rr r9 q p ts tw k0 k1 k2 k3 k4 k5 e0 e1 e2 e3 e4 e5 hrvj hwj hj0 hj63 hq8 hc8 hg8 hrl8 hwl8 hpm9 hq0 hq1 hq2 hsm9 hs0 hs1 hs2 hfin hnan hinf hX0 hX16 hk0 hk63 hts hlen9 hlg9 hlr9 sga sgb hd8 l0 l1 l2 l3 l4 l5 l6 l7 hrr hye hsg9 hr8 hchg3 hrgb3 hf32' hf6' hf5' hTs hr9z hp3z hg9 hli2 hse2 hli3 hse3 hz hst9 hTL9 hT9 hlT9 hD9 ho1 ho2 ho3 hoff9 F9 N9
          have hce8 := hTL9 _ (hTL0 _ hcel9)
          (try clear hp1ok); (try clear hTL0); (try clear hfixO); (try clear hfix); (try clear hfix2); (try clear hru); (try clear hru0); (try clear hw); (try clear hsh); (try clear hSL); (try clear hCL); (try clear hfin); (try clear hli1); (try clear hse1)
          (k_steps; repeat' ((with_reducible show Stop _); refine Stop.on ?_; (first | with_reducible ((with_reducible show wpAny _ _ (PySem.exec _ _) _ _ _); (k_here; (with_reducible show wpAny _ _ (PySem.exec (PySem.Stmt.Assign _ (PySem.Expr.ListComp _ [PySem.Comprehension.mk (PySem.Expr.Tuple _ _ _) _ _ _] _ _) _) _) _ _ _); k_dflt (refine assign_comp4 (by k_asm) (by rfl) (by (try dsimp only); first | with_reducible assumption | exact Nat.le_add_left 1 _ | lia) (by with_unfolding_all rfl) (by with_unfolding_all rfl) (by decide) (by rfl) (by decide) (by rfl) (by rfl) (by rfl) (by rfl) (by decide) (by decide) (by decide) (by decide) (by decide) (by decide) (by rfl) (by rfl) ?_))) | with_reducible ((with_reducible show wpAny _ _ (PySem.exec _ _) _ _ _); (k_here; (with_reducible show wpAny _ _ (PySem.exec (PySem.Stmt.Assign _ (PySem.Expr.ListComp _ [PySem.Comprehension.mk (PySem.Expr.Name _ _) _ _ _] _ _) _) _) _ _ _); k_dflt (refine assign_comp1 (by k_asm) (by rfl) (by with_unfolding_all rfl) (by with_unfolding_all rfl) (by decide) (by rfl) (by decide) (by rfl) (by rfl) (by rfl) ?_))) | with_reducible ((with_reducible show wpAny _ _ (subscriptTail _ _ _ _) _ _ _); (k_here; (with_reducible show wpAny _ _ (subscriptTail _ _ (Value.ref _) (Value.int _ _)) _ _ _); (with_reducible rename News _ _ _ _ => N'); (with_unfolding_all refine' kim_tup N' ?zqsm ?zqsc ?zqsd ?zqs0 ?zqsf ?zqsj ?zqsx ?_); (case zqsm => k_dflt k_mem); (case zqsc => with_unfolding_all rfl); (case zqsd => with_unfolding_all rfl); (case zqs0 => decide); (case zqsf => decide); (case zqsj => with_unfolding_all rfl); (case zqsx => with_unfolding_all rfl))) | with_reducible ((with_reducible show wpAny _ _ (subscriptTail _ _ _ _) _ _ _); (k_here; (with_reducible show wpAny _ _ (subscriptTail _ _ (Value.ref _) (Value.int _ _)) _ _ _); (with_reducible rename News _ _ _ _ => N'); (with_unfolding_all refine' kim_list N' ?zqsm ?zqsc ?zqsd ?zqs0 ?zqsf ?zqsx ?_); (case zqsm => k_dflt k_mem); (case zqsc => with_unfolding_all rfl); (case zqsd => with_unfolding_all rfl); (case zqsx => with_reducible assumption); (case zqs0 => first | with_reducible assumption | lia); (case zqsf => first | with_reducible assumption | lia))) | with_reducible ((with_reducible show wpAny _ _ (PySem.binaryOp PySem.Operator.Add (PySem.Value.str _ _) (PySem.Value.str _ _)) _ _ _); (k_here; k_dflt (refine add_lim (by (try dsimp only); first | with_reducible assumption | exact Nat.le_add_left 1 _ | lia) (by with_reducible assumption) (by with_reducible assumption) ?_); intro _ _ htk')) | with_reducible ((with_reducible show wpAny _ _ (PySem.binaryOp PySem.Operator.Mult (PySem.Value.str _ _) (PySem.Value.int _ _)) _ _ _); (k_here; k_dflt (refine mul_dots (by (try dsimp only); first | with_reducible assumption | exact Nat.le_add_left 1 _ | lia) (by with_reducible assumption) (by with_reducible assumption) ?_); intro _ _ htk')) | with_reducible ((with_reducible show wpAny _ _ (call (PySem.Value.ref _) _) _ _ _); (k_here; (with_reducible show wpAny _ _ (call (Value.ref 21) _) _ _ _); k_dflt (refine wpAny_with_toks (n := 1) (by (try dsimp only); first | with_reducible assumption | exact Nat.le_add_left 1 _ | lia) ?_; refine' c_ellE ?zqhf ?zqhp ?zqhq ?zqhd8 ?zqhx ?zqhy ?zqhr ?zqhl ?zqk1 ?zqk2 ?zqk3 ?zqk4 ?zqk5 ?zqkK ?zqkd ?zqku ?_; (case zqk1 => k_asm); (case zqk2 => k_asm); (case zqk3 => k_asm); (case zqk4 => k_asm); (case zqk5 => k_asm); (case zqkK => first | exact rfl | assumption); (case zqhf => assumption); (case zqhp => assumption); (case zqhq => assumption); (case zqhd8 => assumption); (case zqhy => assumption); (case zqhx => assumption); (case zqhr => assumption); (case zqhl => assumption); (case zqkd => first | exact ltK2 hd (by decide) | ktr_room); (case zqku => first | (with_unfolding_all exact ltK2 hu (by decide)) | ((try simp only [units_in1, units_deeper, Around.mark_units]); lia)); k_whole); intro h' tk' F' N' htk'; (try dsimp only at htk'); (try dsimp only); (try k_fold))) | with_reducible ((with_reducible show wpAny _ _ (call (PySem.Value.ref _) _) _ _ _); (k_here; (with_reducible show wpAny _ _ (call (Value.ref 28) _) _ _ _); k_dflt (refine' c_rgbT ?zqhp ?zqht ?zqh1 ?zqh2 ?zqh3 ?zqk1 ?zqk2 ?zqk3 ?zqk4 ?zqk5 ?zqkK ?zqkd ?_; (case zqk1 => k_asm); (case zqk2 => k_asm); (case zqk3 => k_asm); (case zqk4 => k_asm); (case zqk5 => k_asm); (case zqkK => first | exact rfl | assumption); (case zqhp => assumption); (case zqht => (try dsimp only); first | with_reducible assumption | exact Nat.le_add_left 1 _ | lia); (case zqh1 => assumption); (case zqh2 => assumption); (case zqh3 => assumption); (case zqkd => first | exact ltK2 hd (by decide) | ktr_room); k_whole); intro q' h' tk' u1' u2' u3' F' N' l1 e1' e2' e3' htk'; (try k_lt l1); (try dsimp only); (try k_fold))) | with_reducible ((with_reducible show wpAny _ _ (call (PySem.Value.ref _) _) _ _ _); (k_here; (with_reducible show wpAny _ _ (call (Value.ref 87) _) _ _ _); k_dflt (refine' c_changedT ?zqhp ?zqht ?zqht0 ?zqht1 ?zqht2 ?zqh0 ?zqh1 ?zqh2 ?zqhc ?zqhch ?zqk1 ?zqk2 ?zqk3 ?zqk4 ?zqk5 ?zqkK ?zqkd ?zqku ?_; (case zqk1 => k_asm); (case zqk2 => k_asm); (case zqk3 => k_asm); (case zqk4 => k_asm); (case zqk5 => k_asm); (case zqkK => first | exact rfl | assumption); (case zqhp => assumption); (case zqht => (try dsimp only); first | with_reducible assumption | exact Nat.le_add_left 1 _ | lia); (case zqh0 => assumption); (case zqh1 => assumption); (case zqh2 => assumption); (case zqhc => k_mem); (case zqhch => k_mem); (case zqht0 => assumption); (case zqht1 => assumption); (case zqht2 => assumption); (case zqkd => first | exact ltK2 hd (by decide) | ktr_room); (case zqku => first | (with_unfolding_all exact ltK2 hu (by decide)) | ((try simp only [units_in1, units_deeper, Around.mark_units]); lia)); k_whole); intro q' h' tk' u1' u2' u3' F' N' l1 e1' e2' e3' htk'; (try k_lt l1); (try dsimp only); (try k_fold))) | with_reducible ((with_reducible show wpAny _ _ (call (PySem.Value.ref _) _) _ _ _); (k_here; (with_reducible show wpAny _ _ (call (Value.ref 73) _) _ _ _); k_dflt (refine wpAny_with_toks (n := 1) (by (try dsimp only); first | with_reducible assumption | exact Nat.le_add_left 1 _ | lia) ?_; refine' c_deedE ?zqhp ?zqk1 ?zqk2 ?zqk3 ?zqk4 ?zqk5 ?zqkK ?zqkd ?zqku ?_; (case zqk1 => k_asm); (case zqk2 => k_asm); (case zqk3 => k_asm); (case zqk4 => k_asm); (case zqk5 => k_asm); (case zqkK => first | exact rfl | assumption); (case zqhp => assumption); (case zqkd => first | exact ltK2 hd (by decide) | ktr_room); (case zqku => first | (with_unfolding_all exact ltK2 hu (by decide)) | ((try simp only [units_in1, units_deeper, Around.mark_units]); lia)); k_whole); intro q' p' h' tk' u0' u1' u2' u3' F' N' l1 l2 htk'; (try dsimp only at htk'); have l3 := bndUp l1 l2; (try k_lt l1); (try k_lt l3); (try k_lt2 l2); (try dsimp only); (try k_fold))) | with_reducible ((with_reducible show wpAny _ _ (call (PySem.Value.ref _) _) _ _ _); (k_here; (with_reducible show wpAny _ _ (call (Value.ref 49) _) _ _ _); k_dflt (refine' c_esc ?zqht ?zql0 ?zql1 ?zql2 ?zql3 ?zql4 ?zql5 ?zql6 ?zqk1 ?zqk2 ?zqk3 ?zqk4 ?zqk5 ?zqkK ?zqkd ?zqku ?_; (case zqk1 => k_asm); (case zqk2 => k_asm); (case zqk3 => k_asm); (case zqk4 => k_asm); (case zqk5 => k_asm); (case zqkK => first | exact rfl | assumption); (case zqht => (try dsimp only); first | with_reducible assumption | exact Nat.le_add_left 1 _ | lia); (case zql0 => assumption); (case zql1 => assumption); (case zql2 => assumption); (case zql3 => assumption); (case zql4 => assumption); (case zql5 => assumption); (case zql6 => assumption); (case zqkd => first | exact ltK2 hd (by decide) | ktr_room); (case zqku => first | (with_unfolding_all exact ltK2 hu (by decide)) | ((try simp only [units_in1, units_deeper, Around.mark_units]); lia)); k_whole); intro t' h' tk' htk' F' N'; (try dsimp only); (try k_fold))) | with_reducible ((with_reducible show wpAny _ _ (call (PySem.Value.ref _) _) _ _ _); (k_here; (with_reducible show wpAny _ _ (call (Value.ref 80) _) _ _ _); k_dflt (refine' c_rule  ?zqk1 ?zqk2 ?zqk3 ?zqk4 ?zqk5 ?zqkK ?zqkd ?zqku ?_; (case zqk1 => k_asm); (case zqk2 => k_asm); (case zqk3 => k_asm); (case zqk4 => k_asm); (case zqk5 => k_asm); (case zqkK => first | exact rfl | assumption);  (case zqkd => first | exact ltK2 hd (by decide) | ktr_room); (case zqku => first | (with_unfolding_all exact ltK2 hu (by decide)) | ((try simp only [units_in1, units_deeper, Around.mark_units]); lia)); k_whole); intro q' p' h' tk' u0' u1' u2' u3' u4' u5' F' N' l1 l2; (try dsimp only))) | with_reducible ((with_reducible show wpAny _ _ (PySem.exec (PySem.Stmt.For _ _ _ _ _) _) _ _ _); (k_here; (rename Fr _ _ _ _ => lF'); (with_unfolding_all refine' for_at lF' (by (try dsimp only); first | with_reducible assumption | exact Nat.le_add_left 1 _ | lia) ?_; k_whole)))); k_steps))
          · rename r9 = true => er
            rename Fr _ _ _ _ => F8
            rename News _ _ _ _ => N8
            subst er hg9
            refine hend8 _ (in_endM (new := [_, _, _]) F8 N8 hD9 hoff9 (List.forall_mem_cons.mpr ⟨?n1, List.forall_mem_cons.mpr ⟨?n2, List.forall_mem_cons.mpr ⟨?n3, List.forall_mem_nil _⟩⟩⟩) hTL9 hT9 hlT9 hz hst9 (hr9z ()) (.say (List.mem_append_left _ (.tail _ (.tail _ (.head _))))) (by rw [if_pos rfl, hp3z ()]; exact ClIn.of (hli3 ()) (List.mem_append_left _ (.tail _ (.head _))) (by assumption) (by assumption) (by assumption)) (by rw [if_pos rfl, hp3z ()]; exact SeIn.of (hse3 ()) (List.mem_append_left _ (.head _)) (by assumption) (by assumption) (by assumption)) ?hk ?hr)
            case n1 => exact And.right (And.right (by assumption))
            case n2 => exact And.right (by assumption)
            case n3 => assumption
            case hk => kst_all
            case hr => (intro z h1 h2 h3; have h4 := h2 _ (List.Mem.head _); dsimp only at h4; have h5 := h2 _ (List.Mem.tail _ (List.Mem.head _)); dsimp only at h5; (repeat (first | refine (if_neg h1).trans ?_ | refine (if_neg h4).trans ?_ | refine (if_neg h5).trans ?_ | refine (if_neg (contains_ne h3 (by k_mem))).trans ?_)); first | exact contains_off h3 | exact ks_off h3)
          · rename r9 = false => er
            rename Fr _ _ _ _ => F8
            rename News _ _ _ _ => N8
            subst er hg9
            refine hend8 _ (in_endM (new := [_]) (q := q9) (q2 := q8) F8 N8 hD9 hoff9 (List.forall_mem_cons.mpr ⟨?fn1, List.forall_mem_nil _⟩) hTL9 hT9 hlT9 hz hst9 (hr9z ()) (.say (List.mem_append_left _ (.head _))) ?fhq ?fhs ?fhk ?fhr)
            case fhq => rw [if_neg (by decide)]; exact ClIn.of (hli2 ()) (List.mem_append_right _ hpm9) hq0 hq1 hq2
            case fhs => rw [if_neg (by decide)]; exact SeIn.of (hse2 ()) (List.mem_append_right _ hsm9) hs0 hs1 hs2
            case fn1 => assumption
            case fhk => kst_all
            case fhr => (intro z h1 h2 h3; have h4 := h2 _ (List.Mem.head _); dsimp only at h4; have h5 := h2 _ (List.Mem.tail _ (List.Mem.head _)); dsimp only at h5; (repeat (first | refine (if_neg h1).trans ?_ | refine (if_neg h4).trans ?_ | refine (if_neg h5).trans ?_ | refine (if_neg (contains_ne h3 (by k_mem))).trans ?_)); first | exact contains_off h3 | exact ks_off h3)
        case dn2 =>
          rintro ps u9 nx9 h9 tk9 htk9 hJ9 F9 N9
          refine InM.done hJ9 rfl hzl (by lia) hσ hr0 hi5 hp1ok hSL hTL0 hsigns F9 N9 ?_
          (try clear hret); (try clear N2); (try clear F2); (try clear N3); (try clear F3); (try clear N4); (try clear hD); (try clear hD2); (try clear hob); (try clear hpv); (try clear hpm); (try clear hcell); (try clear hcells); (try clear hT); (try clear hchg); (try clear hrgb); (try clear hf32); (try clear hf6); (try clear hf5); (try clear R1); (try clear R3); (try clear hpl); (try clear hru); (try clear hw); (try clear hJ9); (try clear F9); (try clear N9); (try clear hSL); (try clear hCL); (try clear hrulesL); (try clear hwantsL); (try clear hfix); (try clear hfix2); (try clear hli1); (try clear hse1); (try clear hp1ok)
          intro q9 q8 TV9 n9 tl9 m2 s2 v2 f0 f1 f2 g0 g1 g2 told2 g9 ts k0 k1 k2 k3 k4 k5 hg8 hpm9 hq0 hq1 hq2 hsm9 hs0 hs1 hs2 hfin hnan hinf hX0 hX16 hk0 hk63 hts hlen9 hlg9 hlr9 hTs hg9 hli2 hse2 hfold hTL9 hT9 hlT9 hD9 ho1 ho2 F9 N9
          have hce8 := hTL9 _ (hTL0 _ hcel9)
          have hsh9 := hsh _ _ _ _ hfold
          clear hsh hfold hfin
          (k_steps; repeat' ((with_reducible show Stop _); refine Stop.on ?_; (first | with_reducible ((with_reducible show wpAny _ _ (PySem.exec _ _) _ _ _); (k_here; (with_reducible show wpAny _ _ (PySem.exec (PySem.Stmt.Assign _ (PySem.Expr.ListComp _ [PySem.Comprehension.mk (PySem.Expr.Tuple _ _ _) _ _ _] _ _) _) _) _ _ _); k_dflt (refine assign_comp4 (by k_asm) (by rfl) (by (try dsimp only); first | with_reducible assumption | exact Nat.le_add_left 1 _ | lia) (by with_unfolding_all rfl) (by with_unfolding_all rfl) (by decide) (by rfl) (by decide) (by rfl) (by rfl) (by rfl) (by rfl) (by decide) (by decide) (by decide) (by decide) (by decide) (by decide) (by rfl) (by rfl) ?_))) | with_reducible ((with_reducible show wpAny _ _ (PySem.exec _ _) _ _ _); (k_here; (with_reducible show wpAny _ _ (PySem.exec (PySem.Stmt.Assign _ (PySem.Expr.ListComp _ [PySem.Comprehension.mk (PySem.Expr.Name _ _) _ _ _] _ _) _) _) _ _ _); k_dflt (refine assign_comp1 (by k_asm) (by rfl) (by with_unfolding_all rfl) (by with_unfolding_all rfl) (by decide) (by rfl) (by decide) (by rfl) (by rfl) (by rfl) ?_))) | with_reducible ((with_reducible show wpAny _ _ (subscriptTail _ _ _ _) _ _ _); (k_here; (with_reducible show wpAny _ _ (subscriptTail _ _ (Value.ref _) (Value.int _ _)) _ _ _); (with_reducible rename News _ _ _ _ => N'); (with_unfolding_all refine' kim_tup N' ?zqsm ?zqsc ?zqsd ?zqs0 ?zqsf ?zqsj ?zqsx ?_); (case zqsm => k_dflt k_mem); (case zqsc => with_unfolding_all rfl); (case zqsd => with_unfolding_all rfl); (case zqs0 => decide); (case zqsf => decide); (case zqsj => with_unfolding_all rfl); (case zqsx => with_unfolding_all rfl))) | with_reducible ((with_reducible show wpAny _ _ (subscriptTail _ _ _ _) _ _ _); (k_here; (with_reducible show wpAny _ _ (subscriptTail _ _ (Value.ref _) (Value.int _ _)) _ _ _); (with_reducible rename News _ _ _ _ => N'); (with_unfolding_all refine' kim_list N' ?zqsm ?zqsc ?zqsd ?zqs0 ?zqsf ?zqsx ?_); (case zqsm => k_dflt k_mem); (case zqsc => with_unfolding_all rfl); (case zqsd => with_unfolding_all rfl); (case zqsx => with_reducible assumption); (case zqs0 => first | with_reducible assumption | lia); (case zqsf => first | with_reducible assumption | lia))) | with_reducible ((with_reducible show wpAny _ _ (PySem.binaryOp PySem.Operator.Add (PySem.Value.str _ _) (PySem.Value.str _ _)) _ _ _); (k_here; k_dflt (refine add_lim (by (try dsimp only); first | with_reducible assumption | exact Nat.le_add_left 1 _ | lia) (by with_reducible assumption) (by with_reducible assumption) ?_); intro _ _ htk')) | with_reducible ((with_reducible show wpAny _ _ (PySem.binaryOp PySem.Operator.Mult (PySem.Value.str _ _) (PySem.Value.int _ _)) _ _ _); (k_here; k_dflt (refine mul_dots (by (try dsimp only); first | with_reducible assumption | exact Nat.le_add_left 1 _ | lia) (by with_reducible assumption) (by with_reducible assumption) ?_); intro _ _ htk')) | with_reducible ((with_reducible show wpAny _ _ (call (PySem.Value.ref _) _) _ _ _); (k_here; (with_reducible show wpAny _ _ (call (Value.ref 21) _) _ _ _); k_dflt (refine wpAny_with_toks (n := 1) (by (try dsimp only); first | with_reducible assumption | exact Nat.le_add_left 1 _ | lia) ?_; refine' c_ellE ?zqhf ?zqhp ?zqhq ?zqhd8 ?zqhx ?zqhy ?zqhr ?zqhl ?zqk1 ?zqk2 ?zqk3 ?zqk4 ?zqk5 ?zqkK ?zqkd ?zqku ?_; (case zqk1 => k_asm); (case zqk2 => k_asm); (case zqk3 => k_asm); (case zqk4 => k_asm); (case zqk5 => k_asm); (case zqkK => first | exact rfl | assumption); (case zqhf => assumption); (case zqhp => assumption); (case zqhq => assumption); (case zqhd8 => assumption); (case zqhy => assumption); (case zqhx => assumption); (case zqhr => assumption); (case zqhl => assumption); (case zqkd => first | exact ltK2 hd (by decide) | ktr_room); (case zqku => first | (with_unfolding_all exact ltK2 hu (by decide)) | ((try simp only [units_in1, units_deeper, Around.mark_units]); lia)); k_whole); intro h' tk' F' N' htk'; (try dsimp only at htk'); (try dsimp only); (try k_fold))) | with_reducible ((with_reducible show wpAny _ _ (call (PySem.Value.ref _) _) _ _ _); (k_here; (with_reducible show wpAny _ _ (call (Value.ref 28) _) _ _ _); k_dflt (refine' c_rgbT ?zqhp ?zqht ?zqh1 ?zqh2 ?zqh3 ?zqk1 ?zqk2 ?zqk3 ?zqk4 ?zqk5 ?zqkK ?zqkd ?_; (case zqk1 => k_asm); (case zqk2 => k_asm); (case zqk3 => k_asm); (case zqk4 => k_asm); (case zqk5 => k_asm); (case zqkK => first | exact rfl | assumption); (case zqhp => assumption); (case zqht => (try dsimp only); first | with_reducible assumption | exact Nat.le_add_left 1 _ | lia); (case zqh1 => assumption); (case zqh2 => assumption); (case zqh3 => assumption); (case zqkd => first | exact ltK2 hd (by decide) | ktr_room); k_whole); intro q' h' tk' u1' u2' u3' F' N' l1 e1' e2' e3' htk'; (try k_lt l1); (try dsimp only); (try k_fold))) | with_reducible ((with_reducible show wpAny _ _ (call (PySem.Value.ref _) _) _ _ _); (k_here; (with_reducible show wpAny _ _ (call (Value.ref 87) _) _ _ _); k_dflt (refine' c_changedT ?zqhp ?zqht ?zqht0 ?zqht1 ?zqht2 ?zqh0 ?zqh1 ?zqh2 ?zqhc ?zqhch ?zqk1 ?zqk2 ?zqk3 ?zqk4 ?zqk5 ?zqkK ?zqkd ?zqku ?_; (case zqk1 => k_asm); (case zqk2 => k_asm); (case zqk3 => k_asm); (case zqk4 => k_asm); (case zqk5 => k_asm); (case zqkK => first | exact rfl | assumption); (case zqhp => assumption); (case zqht => (try dsimp only); first | with_reducible assumption | exact Nat.le_add_left 1 _ | lia); (case zqh0 => assumption); (case zqh1 => assumption); (case zqh2 => assumption); (case zqhc => k_mem); (case zqhch => k_mem); (case zqht0 => assumption); (case zqht1 => assumption); (case zqht2 => assumption); (case zqkd => first | exact ltK2 hd (by decide) | ktr_room); (case zqku => first | (with_unfolding_all exact ltK2 hu (by decide)) | ((try simp only [units_in1, units_deeper, Around.mark_units]); lia)); k_whole); intro q' h' tk' u1' u2' u3' F' N' l1 e1' e2' e3' htk'; (try k_lt l1); (try dsimp only); (try k_fold))) | with_reducible ((with_reducible show wpAny _ _ (call (PySem.Value.ref _) _) _ _ _); (k_here; (with_reducible show wpAny _ _ (call (Value.ref 73) _) _ _ _); k_dflt (refine wpAny_with_toks (n := 1) (by (try dsimp only); first | with_reducible assumption | exact Nat.le_add_left 1 _ | lia) ?_; refine' c_deedE ?zqhp ?zqk1 ?zqk2 ?zqk3 ?zqk4 ?zqk5 ?zqkK ?zqkd ?zqku ?_; (case zqk1 => k_asm); (case zqk2 => k_asm); (case zqk3 => k_asm); (case zqk4 => k_asm); (case zqk5 => k_asm); (case zqkK => first | exact rfl | assumption); (case zqhp => assumption); (case zqkd => first | exact ltK2 hd (by decide) | ktr_room); (case zqku => first | (with_unfolding_all exact ltK2 hu (by decide)) | ((try simp only [units_in1, units_deeper, Around.mark_units]); lia)); k_whole); intro q' p' h' tk' u0' u1' u2' u3' F' N' l1 l2 htk'; (try dsimp only at htk'); have l3 := bndUp l1 l2; (try k_lt l1); (try k_lt l3); (try k_lt2 l2); (try dsimp only); (try k_fold))) | with_reducible ((with_reducible show wpAny _ _ (call (PySem.Value.ref _) _) _ _ _); (k_here; (with_reducible show wpAny _ _ (call (Value.ref 49) _) _ _ _); k_dflt (refine' c_esc ?zqht ?zql0 ?zql1 ?zql2 ?zql3 ?zql4 ?zql5 ?zql6 ?zqk1 ?zqk2 ?zqk3 ?zqk4 ?zqk5 ?zqkK ?zqkd ?zqku ?_; (case zqk1 => k_asm); (case zqk2 => k_asm); (case zqk3 => k_asm); (case zqk4 => k_asm); (case zqk5 => k_asm); (case zqkK => first | exact rfl | assumption); (case zqht => (try dsimp only); first | with_reducible assumption | exact Nat.le_add_left 1 _ | lia); (case zql0 => assumption); (case zql1 => assumption); (case zql2 => assumption); (case zql3 => assumption); (case zql4 => assumption); (case zql5 => assumption); (case zql6 => assumption); (case zqkd => first | exact ltK2 hd (by decide) | ktr_room); (case zqku => first | (with_unfolding_all exact ltK2 hu (by decide)) | ((try simp only [units_in1, units_deeper, Around.mark_units]); lia)); k_whole); intro t' h' tk' htk' F' N'; (try dsimp only); (try k_fold))) | with_reducible ((with_reducible show wpAny _ _ (call (PySem.Value.ref _) _) _ _ _); (k_here; (with_reducible show wpAny _ _ (call (Value.ref 80) _) _ _ _); k_dflt (refine' c_rule  ?zqk1 ?zqk2 ?zqk3 ?zqk4 ?zqk5 ?zqkK ?zqkd ?zqku ?_; (case zqk1 => k_asm); (case zqk2 => k_asm); (case zqk3 => k_asm); (case zqk4 => k_asm); (case zqk5 => k_asm); (case zqkK => first | exact rfl | assumption);  (case zqkd => first | exact ltK2 hd (by decide) | ktr_room); (case zqku => first | (with_unfolding_all exact ltK2 hu (by decide)) | ((try simp only [units_in1, units_deeper, Around.mark_units]); lia)); k_whole); intro q' p' h' tk' u0' u1' u2' u3' u4' u5' F' N' l1 l2; (try dsimp only))) | with_reducible ((with_reducible show wpAny _ _ (PySem.exec (PySem.Stmt.For _ _ _ _ _) _) _ _ _); (k_here; (rename Fr _ _ _ _ => lF'); (with_unfolding_all refine' for_at lF' (by (try dsimp only); first | with_reducible assumption | exact Nat.le_add_left 1 _ | lia) ?_; k_whole)))); k_steps))
          rename News _ _ _ _ => N8
          rename Fr _ _ _ _ => F8
          subst hg9
          refine hend9 _ (out_endM F8 N8 hD9 ?b3 (fun p hp => hTL9 _ (hTL0 _ (hfixO _ hp))) hru0 hT9 hR (hP.mono (ClIn.mono fun p hp => hTL9 _ (hTL0 _ hp))) hlT9 hzy hyx (by rw [hli2 ()]; exact hpm9) (by rw [hse2 ()]; exact hsm9) ⟨hq0, hq1, hq2⟩ ⟨hs0, hs1, hs2⟩ hsh9 ?ohr)
          case b3 => assumption
          case ohr => (intro z h1 h2 h3; (try simp only [List.forall_mem_cons, List.not_mem_nil, false_implies, implies_true, and_true, ne_eq] at h2); (try simp only [List.contains_cons, List.contains_nil, Bool.or_false, Bool.or_eq_false_iff, beq_eq_false_iff_ne, ne_eq] at h3); (simp only [kstB, h1, h2, h3, ↓reduceIte, List.contains_cons, List.contains_nil, Bool.or_false, Bool.false_eq_true, beq_iff_eq, Bool.or_eq_true, or_self]))
      case done2 =>
        rintro ps u nx2 h tk htk ⟨rfl, TV, RV, PV, n1, n2, n3, tl, rfl, hoT, hfixO, hru0, hT, hR, hP, hTl, hzy, hyx⟩ F2 N2
        (k_steps; repeat' ((with_reducible show Stop _); refine Stop.on ?_; (first | with_reducible ((with_reducible show wpAny _ _ (PySem.exec _ _) _ _ _); (k_here; (with_reducible show wpAny _ _ (PySem.exec (PySem.Stmt.Assign _ (PySem.Expr.ListComp _ [PySem.Comprehension.mk (PySem.Expr.Tuple _ _ _) _ _ _] _ _) _) _) _ _ _); k_dflt (refine assign_comp4 (by k_asm) (by rfl) (by (try dsimp only); first | with_reducible assumption | exact Nat.le_add_left 1 _ | lia) (by with_unfolding_all rfl) (by with_unfolding_all rfl) (by decide) (by rfl) (by decide) (by rfl) (by rfl) (by rfl) (by rfl) (by decide) (by decide) (by decide) (by decide) (by decide) (by decide) (by rfl) (by rfl) ?_))) | with_reducible ((with_reducible show wpAny _ _ (PySem.exec _ _) _ _ _); (k_here; (with_reducible show wpAny _ _ (PySem.exec (PySem.Stmt.Assign _ (PySem.Expr.ListComp _ [PySem.Comprehension.mk (PySem.Expr.Name _ _) _ _ _] _ _) _) _) _ _ _); k_dflt (refine assign_comp1 (by k_asm) (by rfl) (by with_unfolding_all rfl) (by with_unfolding_all rfl) (by decide) (by rfl) (by decide) (by rfl) (by rfl) (by rfl) ?_))) | with_reducible ((with_reducible show wpAny _ _ (subscriptTail _ _ _ _) _ _ _); (k_here; (with_reducible show wpAny _ _ (subscriptTail _ _ (Value.ref _) (Value.int _ _)) _ _ _); (with_reducible rename News _ _ _ _ => N'); (with_unfolding_all refine' kim_tup N' ?zqsm ?zqsc ?zqsd ?zqs0 ?zqsf ?zqsj ?zqsx ?_); (case zqsm => k_dflt k_mem); (case zqsc => with_unfolding_all rfl); (case zqsd => with_unfolding_all rfl); (case zqs0 => decide); (case zqsf => decide); (case zqsj => with_unfolding_all rfl); (case zqsx => with_unfolding_all rfl))) | with_reducible ((with_reducible show wpAny _ _ (subscriptTail _ _ _ _) _ _ _); (k_here; (with_reducible show wpAny _ _ (subscriptTail _ _ (Value.ref _) (Value.int _ _)) _ _ _); (with_reducible rename News _ _ _ _ => N'); (with_unfolding_all refine' kim_list N' ?zqsm ?zqsc ?zqsd ?zqs0 ?zqsf ?zqsx ?_); (case zqsm => k_dflt k_mem); (case zqsc => with_unfolding_all rfl); (case zqsd => with_unfolding_all rfl); (case zqsx => with_reducible assumption); (case zqs0 => first | with_reducible assumption | lia); (case zqsf => first | with_reducible assumption | lia))) | with_reducible ((with_reducible show wpAny _ _ (PySem.binaryOp PySem.Operator.Add (PySem.Value.str _ _) (PySem.Value.str _ _)) _ _ _); (k_here; k_dflt (refine add_lim (by (try dsimp only); first | with_reducible assumption | exact Nat.le_add_left 1 _ | lia) (by with_reducible assumption) (by with_reducible assumption) ?_); intro _ _ htk')) | with_reducible ((with_reducible show wpAny _ _ (PySem.binaryOp PySem.Operator.Mult (PySem.Value.str _ _) (PySem.Value.int _ _)) _ _ _); (k_here; k_dflt (refine mul_dots (by (try dsimp only); first | with_reducible assumption | exact Nat.le_add_left 1 _ | lia) (by with_reducible assumption) (by with_reducible assumption) ?_); intro _ _ htk')) | with_reducible ((with_reducible show wpAny _ _ (call (PySem.Value.ref _) _) _ _ _); (k_here; (with_reducible show wpAny _ _ (call (Value.ref 21) _) _ _ _); k_dflt (refine wpAny_with_toks (n := 1) (by (try dsimp only); first | with_reducible assumption | exact Nat.le_add_left 1 _ | lia) ?_; refine' c_ellE ?zqhf ?zqhp ?zqhq ?zqhd8 ?zqhx ?zqhy ?zqhr ?zqhl ?zqk1 ?zqk2 ?zqk3 ?zqk4 ?zqk5 ?zqkK ?zqkd ?zqku ?_; (case zqk1 => k_asm); (case zqk2 => k_asm); (case zqk3 => k_asm); (case zqk4 => k_asm); (case zqk5 => k_asm); (case zqkK => first | exact rfl | assumption); (case zqhf => assumption); (case zqhp => assumption); (case zqhq => assumption); (case zqhd8 => assumption); (case zqhy => assumption); (case zqhx => assumption); (case zqhr => assumption); (case zqhl => assumption); (case zqkd => first | exact ltK2 hd (by decide) | ktr_room); (case zqku => first | (with_unfolding_all exact ltK2 hu (by decide)) | ((try simp only [units_in1, units_deeper, Around.mark_units]); lia)); k_whole); intro h' tk' F' N' htk'; (try dsimp only at htk'); (try dsimp only); (try k_fold))) | with_reducible ((with_reducible show wpAny _ _ (call (PySem.Value.ref _) _) _ _ _); (k_here; (with_reducible show wpAny _ _ (call (Value.ref 28) _) _ _ _); k_dflt (refine' c_rgbT ?zqhp ?zqht ?zqh1 ?zqh2 ?zqh3 ?zqk1 ?zqk2 ?zqk3 ?zqk4 ?zqk5 ?zqkK ?zqkd ?_; (case zqk1 => k_asm); (case zqk2 => k_asm); (case zqk3 => k_asm); (case zqk4 => k_asm); (case zqk5 => k_asm); (case zqkK => first | exact rfl | assumption); (case zqhp => assumption); (case zqht => (try dsimp only); first | with_reducible assumption | exact Nat.le_add_left 1 _ | lia); (case zqh1 => assumption); (case zqh2 => assumption); (case zqh3 => assumption); (case zqkd => first | exact ltK2 hd (by decide) | ktr_room); k_whole); intro q' h' tk' u1' u2' u3' F' N' l1 e1' e2' e3' htk'; (try k_lt l1); (try dsimp only); (try k_fold))) | with_reducible ((with_reducible show wpAny _ _ (call (PySem.Value.ref _) _) _ _ _); (k_here; (with_reducible show wpAny _ _ (call (Value.ref 87) _) _ _ _); k_dflt (refine' c_changedT ?zqhp ?zqht ?zqht0 ?zqht1 ?zqht2 ?zqh0 ?zqh1 ?zqh2 ?zqhc ?zqhch ?zqk1 ?zqk2 ?zqk3 ?zqk4 ?zqk5 ?zqkK ?zqkd ?zqku ?_; (case zqk1 => k_asm); (case zqk2 => k_asm); (case zqk3 => k_asm); (case zqk4 => k_asm); (case zqk5 => k_asm); (case zqkK => first | exact rfl | assumption); (case zqhp => assumption); (case zqht => (try dsimp only); first | with_reducible assumption | exact Nat.le_add_left 1 _ | lia); (case zqh0 => assumption); (case zqh1 => assumption); (case zqh2 => assumption); (case zqhc => k_mem); (case zqhch => k_mem); (case zqht0 => assumption); (case zqht1 => assumption); (case zqht2 => assumption); (case zqkd => first | exact ltK2 hd (by decide) | ktr_room); (case zqku => first | (with_unfolding_all exact ltK2 hu (by decide)) | ((try simp only [units_in1, units_deeper, Around.mark_units]); lia)); k_whole); intro q' h' tk' u1' u2' u3' F' N' l1 e1' e2' e3' htk'; (try k_lt l1); (try dsimp only); (try k_fold))) | with_reducible ((with_reducible show wpAny _ _ (call (PySem.Value.ref _) _) _ _ _); (k_here; (with_reducible show wpAny _ _ (call (Value.ref 73) _) _ _ _); k_dflt (refine wpAny_with_toks (n := 1) (by (try dsimp only); first | with_reducible assumption | exact Nat.le_add_left 1 _ | lia) ?_; refine' c_deedE ?zqhp ?zqk1 ?zqk2 ?zqk3 ?zqk4 ?zqk5 ?zqkK ?zqkd ?zqku ?_; (case zqk1 => k_asm); (case zqk2 => k_asm); (case zqk3 => k_asm); (case zqk4 => k_asm); (case zqk5 => k_asm); (case zqkK => first | exact rfl | assumption); (case zqhp => assumption); (case zqkd => first | exact ltK2 hd (by decide) | ktr_room); (case zqku => first | (with_unfolding_all exact ltK2 hu (by decide)) | ((try simp only [units_in1, units_deeper, Around.mark_units]); lia)); k_whole); intro q' p' h' tk' u0' u1' u2' u3' F' N' l1 l2 htk'; (try dsimp only at htk'); have l3 := bndUp l1 l2; (try k_lt l1); (try k_lt l3); (try k_lt2 l2); (try dsimp only); (try k_fold))) | with_reducible ((with_reducible show wpAny _ _ (call (PySem.Value.ref _) _) _ _ _); (k_here; (with_reducible show wpAny _ _ (call (Value.ref 49) _) _ _ _); k_dflt (refine' c_esc ?zqht ?zql0 ?zql1 ?zql2 ?zql3 ?zql4 ?zql5 ?zql6 ?zqk1 ?zqk2 ?zqk3 ?zqk4 ?zqk5 ?zqkK ?zqkd ?zqku ?_; (case zqk1 => k_asm); (case zqk2 => k_asm); (case zqk3 => k_asm); (case zqk4 => k_asm); (case zqk5 => k_asm); (case zqkK => first | exact rfl | assumption); (case zqht => (try dsimp only); first | with_reducible assumption | exact Nat.le_add_left 1 _ | lia); (case zql0 => assumption); (case zql1 => assumption); (case zql2 => assumption); (case zql3 => assumption); (case zql4 => assumption); (case zql5 => assumption); (case zql6 => assumption); (case zqkd => first | exact ltK2 hd (by decide) | ktr_room); (case zqku => first | (with_unfolding_all exact ltK2 hu (by decide)) | ((try simp only [units_in1, units_deeper, Around.mark_units]); lia)); k_whole); intro t' h' tk' htk' F' N'; (try dsimp only); (try k_fold))) | with_reducible ((with_reducible show wpAny _ _ (call (PySem.Value.ref _) _) _ _ _); (k_here; (with_reducible show wpAny _ _ (call (Value.ref 80) _) _ _ _); k_dflt (refine' c_rule  ?zqk1 ?zqk2 ?zqk3 ?zqk4 ?zqk5 ?zqkK ?zqkd ?zqku ?_; (case zqk1 => k_asm); (case zqk2 => k_asm); (case zqk3 => k_asm); (case zqk4 => k_asm); (case zqk5 => k_asm); (case zqkK => first | exact rfl | assumption);  (case zqkd => first | exact ltK2 hd (by decide) | ktr_room); (case zqku => first | (with_unfolding_all exact ltK2 hu (by decide)) | ((try simp only [units_in1, units_deeper, Around.mark_units]); lia)); k_whole); intro q' p' h' tk' u0' u1' u2' u3' u4' u5' F' N' l1 l2; (try dsimp only))) | with_reducible ((with_reducible show wpAny _ _ (PySem.exec (PySem.Stmt.For _ _ _ _ _) _) _ _ _); (k_here; (rename Fr _ _ _ _ => lF'); (with_unfolding_all refine' for_at lF' (by (try dsimp only); first | with_reducible assumption | exact Nat.le_add_left 1 _ | lia) ?_; k_whole)))); k_steps))
        rename News _ _ _ _ => N9
        exact hret _ _ _ _ _ _ (by k_asm) (fun p hp => N9 p (by rcases List.mem_cons.mp hp with rfl | hp; exact .head _; exact .tail _ (.tail _ (.tail _ hp)))) (fun p hp => hfixO p (.tail _ (.tail _ (.tail _ (.tail _ (hfix2 _ hp)))))) hT htk

end
end Mine
end

section
theorem Mine.fresh_C2 : True := by
  w_top off
  exact trivial
open PySem PySem.W PySem.Calls PyProof.Rows
namespace Mine
noncomputable def KOuter : Prop := True

theorem slice3_ints {prog : Program} {w : World} {A : Around} {E : Value → Shared → Prop} {s : Shared} {h₀ : Heap} {L l : Addr} {m : Str → Option Value} {news : List (Addr × Obj)} {value slice : Expr} {vs : List Value} {ns : List Int} {vl vu vk : Value} {lo hi st : Option Int} {ops : List Value} {Q : Value → Shared → Prop}
    (F : Fr h₀ L s.heap m) (N : News h₀ L s.heap news) (hl : s.heap.IsList l vs.toArray) (hi' : IntsAre vs ns) (h63 : ns.length ≤ 63) (pl : IsPart vl lo) (pu : IsPart vu hi) (pk : IsPart vk st) (h0 : st ≠ some 0)
    (h : ∀ D ws ms h', Fr h₀ L h' m → News h₀ L h' ((D, listOf (List.toArray ws) 0) :: news) → (∀ p ∈ news, p.1 < D) → IntsAre ws ms → ms.length ≤ 63 → Q (.ref D) { s with heap := h' })
    (hs : subscripted slice false (.ref l) (.ref s.heap.objs.size) = operate ops (getItem (.ref l) (.ref s.heap.objs.size))) (ht : ∀ r, letTemporaryGo value (.ref l) r = pure ()) :
    wpAny (model prog w) A (subscriptTail value slice (.ref l) (.ref s.heap.objs.size)) Q E { s with heap := s.heap.push { cls := .type "slice", data := .fields #[vl, vu, vk] } } := by
  have hp := hi'.pick lo hi st
  have hle := length_pickNums_le hi' lo hi st
  refine kmk_slice3_lit (zs := (slicePick vs.toArray lo hi st).toList) F N hl pl pu pk h0 rfl (fun D h' F' N' l1 => h D _ _ h' F' N' l1 hp (by lia)) hs ht ?_
  rw [List.size_toArray, hi'.length, sizeLine_eq]; lia
theorem ints_snoc {y : Int} {t : Tok} : ∀ {vs : List Value} {ks : List Int}, IntsAre vs ks → IntsAre (vs ++ [.int y t]) (ks ++ [y])
  | _, _, .nil => .cons _ _ .nil
  | _, _, .cons _ _ h => .cons _ _ (ints_snoc h)
theorem ints_pop {C : Prop} {vs : List Value} {ks : List Int} {n : Nat} (h : IntsAre vs ks) (hl : ks.length = n + 1) (k : ∀ c t vs' ks', vs = .int c t :: vs' → IntsAre vs' ks' → ks'.length = n → C) : C := by
  cases h with
  | nil => cases hl
  | cons _ _ h => exact k _ _ _ _ rfl h (by simpa using hl)
theorem nine_of {C : Prop} {vs : List Value} {ks : List Int} (h : IntsAre vs ks) (hl : ks.length = 9) (k : ∀ c0 c1 c2 c3 c4 c5 c6 c7 c8 t0 t1 t2 t3 t4 t5 t6 t7 t8, vs = [.int c0 t0, .int c1 t1, .int c2 t2, .int c3 t3, .int c4 t4, .int c5 t5, .int c6 t6, .int c7 t7, .int c8 t8] → C) : C :=
  ints_pop h hl fun c0 t0 v0 k0 e0 h hl => ints_pop h hl fun c1 t1 v1 k1 e1 h hl => ints_pop h hl fun c2 t2 v2 k2 e2 h hl => ints_pop h hl fun c3 t3 v3 k3 e3 h hl => ints_pop h hl fun c4 t4 v4 k4 e4 h hl => ints_pop h hl fun c5 t5 v5 k5 e5 h hl => ints_pop h hl fun c6 t6 v6 k6 e6 h hl => ints_pop h hl fun c7 t7 v7 k7 e7 h hl => ints_pop h hl fun c8 t8 v8 k8 e8 h hl =>
  by
    cases h with
    | nil => exact k c0 c1 c2 c3 c4 c5 c6 c7 c8 t0 t1 t2 t3 t4 t5 t6 t7 t8 (by rw [e0, e1, e2, e3, e4, e5, e6, e7, e8])
    | cons _ _ h => simp at hl
theorem nine_at {i : Nat} {c0 c1 c2 c3 c4 c5 c6 c7 c8 : Int} {t0 t1 t2 t3 t4 t5 t6 t7 t8 : Tok} (h : i < 9) : ∃ y t, [Value.int c0 t0, .int c1 t1, .int c2 t2, .int c3 t3, .int c4 t4, .int c5 t5, .int c6 t6, .int c7 t7, .int c8 t8][(0 + (i : Int)).toNat]? = some (.int y t) := by
  have e : (0 + (i : Int)).toNat = i := by lia
  rw [e]
  have : i = 0 ∨ i = 1 ∨ i = 2 ∨ i = 3 ∨ i = 4 ∨ i = 5 ∨ i = 6 ∨ i = 7 ∨ i = 8 := by lia
  rcases this with rfl | rfl | rfl | rfl | rfl | rfl | rfl | rfl | rfl <;> exact ⟨_, _, rfl⟩
section
variable {w : World} {mean : ExcName → Option Value} {mg mb : Str → Option Value}
   {dp un : Nat} {gd : Option (List Code)} {cn : Str} {cs : Scope} {a : Addr} {ccd : Value} {cl : List (Str × Addr)} {outer : List Env} {A₀ : Around} {base h₀ : Heap} {L : Addr} {m : Str → Option Value} {news : List (Addr × Obj)} {s : Shared} {Q E : Value → Shared → Prop}
set_option maxRecDepth 100000
set_option maxHeartbeats 8000000
local macro_rules | `(tactic| walk_at "subscriptTail") => `(tactic| (k_here; (with_reducible show wpAny _ _ (subscriptTail _ _ (Value.ref _) (Value.int _ _)) _ _ _); (with_reducible rename News _ _ _ _ => N'); (with_unfolding_all refine' kim_list N' ?sm ?sc ?sd ?s0 ?sf ?sx ?_); (case sm => k_dflt k_mem); (case sc => with_unfolding_all rfl); (case sd => with_unfolding_all rfl); (case sx => with_reducible assumption); (case s0 => first | with_reducible assumption | lia); (case sf => first | with_reducible assumption | lia)))
local macro_rules | `(tactic| walk_at "subscriptTail Name Name ref int") => `(tactic| walk_at "subscriptTail")
local macro_rules | `(tactic| walk_at "subscriptTail Name BinOp ref int") => `(tactic| walk_at "subscriptTail")
local macro_rules | `(tactic| walk_at "subscriptTail Name Constant ref int") => `(tactic| (k_here; (with_reducible show wpAny _ _ (subscriptTail _ _ (Value.ref _) (Value.int _ _)) _ _ _); (with_reducible rename News _ _ _ _ => N'); (with_unfolding_all refine' kim_tup N' ?sm ?sc ?sd ?s0 ?sf ?sj ?sx ?_); (case sm => k_dflt k_mem); (case sc => with_unfolding_all rfl); (case sd => with_unfolding_all rfl); (case s0 => decide); (case sf => decide); (case sj => with_unfolding_all rfl); (case sx => with_unfolding_all rfl)))
local macro_rules | `(tactic| walk_at "CompSrc") => `(tactic| (k_here; (rename KOuter => kO'); refine Stop.go ?_))
local macro_rules | `(tactic| walk_at "subscriptTail Name Slice ref ref") => `(tactic| (k_here; (with_reducible show wpAny _ _ (subscriptTail _ (PySem.Expr.Slice _ _ (some _) _) (Value.ref _) (Value.ref _)) _ _ _); k_dflt (refine' slice3_ints ?F ?N ?l ?i ?z ?p ?q ?k ?o ?_ ?s ?t; (case F => k_asm); (case N => k_asm); (case l => kmk_list); (case i => assumption); (case z => assumption); (case p => kmk_part); (case q => kmk_part); (case k => kmk_part); (case o => decide); (case s => with_unfolding_all rfl); (case t => kmk_pure)); intro D' ws' ms' h' F' N' l1 hI' hC'; (try k_lt l1)))

theorem c_cells {l : Addr} {vs : List Value} {ns : List Int}
   (ht : 1 ≤ s.toks) (hl : h₀.IsList l vs.toArray) (hi : IntsAre vs ns) (h63 : ns.length ≤ 63)
   (B : Below A₀ base outer h₀) (F : Fr h₀ L s.heap m) (X : (Mine.hd.heap_39 w.params).In h₀) (N : News h₀ L s.heap news) (T : Top Mine.hd.view_39 (looseW Mine.hd.view_39 []) mean mg mb h₀) (hk : cs.kind = .function)
   (hd : dp + 60 < recursionLimit) (hu : un + 400 < cLine)
   (hret : ∀ q c0 c1 c2 c3 c4 c5 c6 c7 c8 t0 t1 t2 t3 t4 t5 t6 t7 t8 h' tk', Fr h₀ L h' m → News h₀ L h' ((q, listOf #[.int c0 t0, .int c1 t1, .int c2 t2, .int c3 t3, .int c4 t4, .int c5 t5, .int c6 t6, .int c7 t7, .int c8 t8] 9) :: news) → Q (.ref q) { s with heap := h', toks := tk' }) :
   wpAny (model PySem.Challenge.rw_rw0038_01.row.toRowW.1 w) (ktrTop dp un gd cn cs L a ccd cl outer) (call (.ref 54) [.ref l]) Q E s := by
  have hfill : PySem.Challenge.rw_rw0038_01 = PySem.Challenge.rw_rw0038_01 ∧ Mine.hd.heap_39 = Mine.hd.heap_39 := ⟨rfl, rfl⟩
  revert hfill
  k_fill
  intro _
  have hmark : KstMark := kstMark
  
  refine wpAny_call ?_
  (k_dflt (refine' code_defC ?k1 ?k2 ?k3 ?k4 ?k5 ?kA ?kF ?kK ?k6 ?k7 ?k8 ?k9 ?kB ?kD ?_ ?c2 ?c3 ?c4; (case kA => exact rfl); (case kF => exact rfl); (case kK => assumption); (case k1 => k_asm); (case k2 => k_asm); (case k3 => k_asm); (case k4 => k_asm); (case k5 => k_asm); (case k6 => k_is); (case k7 => k_is); (case k8 => ktr_room); (case k9 => exact BindsTo.of_eq rfl); (case kB => exact rfl); (case kD => decide +kernel); (case c2 => exact rfl); (case c3 => exact rfl); (case c4 => exact rfl); k_whole; intro g' L' h' tk' cells' FG' F' N' Y' B' X' T' l1; (try k_lt l1); k_cells Y'; (try simp only [List.cons_append, List.nil_append] at N'); (try dsimp only); (try k_lift B'); (try k_fold)))
  have l1b : ∀ p ∈ news, p.1 < L' + 1 := fun p hp => Nat.lt_succ_of_lt (l1 p hp)
  have l1c : ∀ p ∈ news, p.1 < L' + 1 + 1 := fun p hp => Nat.lt_succ_of_lt (l1b p hp)
  have kO : KOuter := trivial
  rename Fr h₀ L _ m => FG9
  have hl2 := hl.at fun o e => FG9.keep _ _ e
  k_steps
  refine Stop.on ?_
  rename KOuter => kO1
  clear kO1
  rename News _ _ _ _ => N1
  rename Fr _ _ _ _ => F1
  rename IsRange _ _ _ _ _ _ _ _ => R1
  refine LCg.CompSrc.range rfl F1 N1 R1 (small_one (by lia) (by lia) (by lia) (by lia)) (rangeSize_nat _ _) (by exact Nat.le_of_ble_eq_true rfl) fun g0 => ?_
  refine compRest_all (n := ((9 : Int) - 0).toNat) (fun i ys nw => nw = _ ∧ ∃ ks, IntsAre ys ks ∧ ks.length = i) ?step ?fin _ 0 [] _ (Nat.zero_add _) ⟨rfl, [], .nil, rfl⟩
  case step =>
    rintro i ys nw v I oI C oC D m₂ h9 tk9 E' hi9 ⟨rfl, ks, hks, hkl⟩ ⟨u, rfl⟩ hC hm F2 N2 off ne
    have hi9 : i < 9 := hi9
    obtain ⟨yb, tb, hyb⟩ := nine_at (c0 := 57) (c1 := 489) (c2 := 2220) (c3 := 486) (c4 := 2515) (c5 := 483) (c6 := 666) (c7 := 7284) (c8 := 40677) (t0 := tk') (t1 := tk' + 1) (t2 := tk' + 1 + 1) (t3 := tk' + 1 + 1 + 1) (t4 := tk' + 1 + 1 + 1 + 1) (t5 := tk' + 1 + 1 + 1 + 1 + 1) (t6 := tk' + 1 + 1 + 1 + 1 + 1 + 1) (t7 := tk' + 1 + 1 + 1 + 1 + 1 + 1 + 1) (t8 := tk' + 1 + 1 + 1 + 1 + 1 + 1 + 1 + 1) hi9
    have hi0 : 0 ≤ 0 + (i : Int) := by lia
    have hi63 : 0 + (i : Int) < 2 ^ 63 := by lia
    (try clear N1); (try clear F1); (try clear R1); (try clear hret)
    (try dsimp only)
    k_steps
    rename News _ _ _ _ => N8
    rename Fr _ _ _ _ => F8
    refine LCg.CompEnd.intro F8 N8 _ ?sub off trivial ⟨rfl, _, ints_snoc hks, by rw [List.length_append, hkl]; rfl⟩
    case sub => exact fun p hp => by first | exact hp | exact .tail _ hp | exact .tail _ (.tail _ hp) | exact .tail _ (.tail _ (.tail _ hp))
  case fin =>
    rintro ys nw ⟨rfl, ks, hks, hkl⟩
    (try clear N1); (try clear F1); (try clear R1)
    (try dsimp only)
    refine nine_of hks hkl fun c0 c1 c2 c3 c4 c5 c6 c7 c8 t0 t1 t2 t3 t4 t5 t6 t7 t8 e9 => ?_
    subst e9
    k_steps
    rename News _ _ _ _ => N8
    exact hret _ _ _ _ _ _ _ _ _ _ _ _ _ _ _ _ _ _ _ _ _ (by k_asm) (fun p hp => N8 p (by rcases List.mem_cons.mp hp with rfl | hp; exact .head _; exact .tail _ (.tail _ (.tail _ (.tail _ hp)))))

end
end Mine
end

section
open PySem PySem.W PySem.Calls PyProof.Rows PyProof.V PySem.Spec PySem.SeqAt
namespace Mine
inductive EqAll (A : Around) (s : Shared) : List Value → List Value → Prop
  | nil : EqAll A s [] []
  | cons {v u : Value} {vs us : List Value} : EqAt A s v u true → EqAll A s vs us → EqAll A s (v :: vs) (u :: us)
theorem EqAll.at {A : Around} {s : Shared} {vs us : List Value} (h : EqAll A s vs us) : ∀ j (h1 : j < vs.length) (h2 : j < us.length), EqAt A s vs[j] us[j] true := by
  induction h with
  | nil => intro j h1; exact absurd h1 (Nat.not_lt_zero _)
  | cons h _ ih =>
    intro j h1 h2
    cases j with
    | zero => exact h
    | succ j => exact ih j (Nat.lt_of_succ_lt_succ h1) (Nat.lt_of_succ_lt_succ h2)
theorem EqAll.len {A : Around} {s : Shared} {vs us : List Value} (h : EqAll A s vs us) : vs.length = us.length := by
  induction h with
  | nil => rfl
  | cons _ _ ih => exact congrArg Nat.succ ih
theorem all_true (n : Nat) : (List.range n).all (fun _ => true) = true := by simp
theorem tup_eq {A : Around} {s : Shared} {p q : Addr} {vs us : List Value} (hp : s.heap.IsTuple p vs.toArray) (hq : s.heap.IsTuple q us.toArray) (hu : A.units < cLine) (h : EqAll A.in1 s vs us) : EqAt A s (.ref p) (.ref q) true := by
  by_cases e : p = q
  · subst e; exact EqAt.same _
  · have r := RcAt.tuples (e := fun _ => true) hp hq hu (fun j h1 h2 => by simpa using h.at j (by simpa using h1) (by simpa using h2))
    have l := h.len
    have e2 : ((List.range (min vs.toArray.size us.toArray.size)).all (fun _ => true) && vs.toArray.size == us.toArray.size) = true := by simp [l]
    rw [e2] at r
    exact EqAt.of_refs e r
noncomputable def chkE (m s v : Nat) : Bool :=
  let ok (x : UInt64) : Bool := Float64.cmp x x == some .eq
  ok (lightL (m : Nat) (s : Nat) (v : Nat)).1 && ok (lightL (m : Nat) (s : Nat) (v : Nat)).2.1 && ok (lightL (m : Nat) (s : Nat) (v : Nat)).2.2 &&
  ok (seenL (m : Nat) (s : Nat) (v : Nat)).1 && ok (seenL (m : Nat) (s : Nat) (v : Nat)).2.1 && ok (seenL (m : Nat) (s : Nat) (v : Nat)).2.2
theorem chkE_all : ∀ m, m < 16 → ∀ s, s < 5 → ∀ v, v < 5 → chkE m s v = true := by decide +kernel
theorem no_nan {m s v : Int} (h : PaintOk m s v) : (Float64.cmp (lightL m s v).1 (lightL m s v).1 == some .eq) = true ∧ (Float64.cmp (lightL m s v).2.1 (lightL m s v).2.1 == some .eq) = true ∧ (Float64.cmp (lightL m s v).2.2 (lightL m s v).2.2 == some .eq) = true ∧
    (Float64.cmp (seenL m s v).1 (seenL m s v).1 == some .eq) = true ∧ (Float64.cmp (seenL m s v).2.1 (seenL m s v).2.1 == some .eq) = true ∧ (Float64.cmp (seenL m s v).2.2 (seenL m s v).2.2 == some .eq) = true := by
  obtain ⟨a, b, c, d, e, f, _⟩ := h
  have := chkE_all m.toNat (by lia) s.toNat (by lia) v.toNat (by lia)
  unfold chkE at this
  rw [Int.toNat_of_nonneg a, Int.toNat_of_nonneg c, Int.toNat_of_nonneg (by lia : 0 ≤ v)] at this
  simp only [Bool.and_eq_true] at this
  obtain ⟨⟨⟨⟨⟨h1, h2⟩, h3⟩, h4⟩, h5⟩, h6⟩ := this
  exact ⟨h1, h2, h3, h4, h5, h6⟩
noncomputable def EntOk : Ent → Prop
  | .say _ _ => True
  | .pic m s v => PaintOk m s v
theorem str_same {A : Around} {s : Shared} (x : PySem.Str) (t u : Tok) : EqAt A s (.str x t) (.str x u) true := by
  have h := EqAt.str_str (A := A) (s := s) x t x u
  rwa [beq_self_eq_true] at h
theorem bool_same {A : Around} {s : Shared} (b : Bool) : EqAt A s (.bool b) (.bool b) true := EqAt.same _
theorem ent_eq {A : Around} {s : Shared} {h₀ : Heap} {L : Addr} {nA nB news : List (Addr × Obj)} (N : News h₀ L s.heap news) (sA : ∀ p ∈ nA, p ∈ news) (sB : ∀ p ∈ nB, p ∈ news) (hb : NoneBooked s.heap) (hu : A.units + 2 < cLine) {v u : Value} {e : Ent} (ok : EntOk e)
    (a : EntIn nA v e) (b : EntIn nB u e) : EqAt A s v u true := by
  have tp : ∀ {p : Addr} {vs : List Value}, (p, tupO vs) ∈ news → s.heap.IsTuple p vs.toArray := fun h => ⟨_, (N _ h).1, rfl, 0, rfl⟩
  have u1 : A.in1.units < cLine := by rw [units_in1]; lia
  have u0 : A.units < cLine := by lia
  cases a with
  | say ha =>
    cases b with
    | say hb' =>
      refine tup_eq (tp (sA _ ha)) (tp (sB _ hb')) u0 (.cons ?_ (.cons ?_ (.cons ?_ .nil)))
      · exact str_same _ _ _
      · exact bool_same _
      · exact bool_same _
  | pic h1 h2 h3 t1 t2 =>
    cases b with
    | pic k1 k2 k3 w1 w2 =>
      obtain ⟨a1, a2, a3, a4, a5, a6⟩ := no_nan ok
      refine tup_eq (tp (sA _ h1)) (tp (sB _ k1)) u0 (.cons (tup_eq (tp (sA _ h2)) (tp (sB _ k2)) u1 ?_) (.cons (tup_eq (tp (sA _ h3)) (tp (sB _ k3)) u1 ?_) .nil))
      · exact .cons (eq_ff t1.1 w1.1 hb a1) (.cons (eq_ff t1.2.1 w1.2.1 hb a2) (.cons (eq_ff t1.2.2 w1.2.2 hb a3) .nil))
      · exact .cons (eq_ff t2.1 w2.1 hb a4) (.cons (eq_ff t2.2.1 w2.2.1 hb a5) (.cons (eq_ff t2.2.2 w2.2.2 hb a6) .nil))
theorem ents_eq {A : Around} {s : Shared} {h₀ : Heap} {L : Addr} {nA nB news : List (Addr × Obj)} (N : News h₀ L s.heap news) (sA : ∀ p ∈ nA, p ∈ news) (sB : ∀ p ∈ nB, p ∈ news) (hb : NoneBooked s.heap) (hu : A.units + 2 < cLine)
    {vs us : List Value} {es : List Ent} (ok : ∀ e ∈ es, EntOk e) (ha : AllR (EntIn nA) vs es) (hb' : AllR (EntIn nB) us es) : EqAll A s vs us := by
  induction ha generalizing us with
  | nil => cases hb'; exact .nil
  | cons a _ ih =>
    cases hb' with
    | cons b bs => exact .cons (ent_eq N sA sB hb hu (ok _ (.head _)) a b) (ih (fun e he => ok e (.tail _ he)) bs)
theorem inner_told {σ : List PySem.Str} {row : PySem.Str} : ∀ (zs : List Int) {st : (Int × Int × Int) × List Ent}, (∀ e ∈ st.2, EntOk e) → ∀ e ∈ (zs.foldl (innerStep σ row) st).2, EntOk e
  | [], _, h => h
  | z :: zs, st, h => inner_told zs (st := innerStep σ row st z) (by
      intro e he
      unfold innerStep at he
      dsimp only at he
      rcases List.mem_append.mp he with he | he
      · exact h e he
      · rw [List.mem_singleton.mp he]; trivial)
theorem told_ok {σ : List PySem.Str} (hσ : SigOk σ) (ys zs : List Int) : ∀ n, ∀ e ∈ (sheetL σ ys zs n).told, EntOk e
  | 0 => fun e he => nomatch he
  | n + 1 => by
    have ih := told_ok hσ ys zs n
    have hok := sheet_ok hσ ys zs n
    have hu := upL_bounds (1 + (n : Int)) (ys.getD n 0) n rfl
    show ∀ e ∈ (outerStep σ zs (1 + (n : Int)) (ys.getD n 0) (sheetL σ ys zs n)).told, EntOk e
    generalize sheetL σ ys zs n = S at ih hok
    generalize ys.getD n 0 = y at hu
    have hp0 : PtOk (S.pts.getD (upL (1 + (n : Int)) y).toNat (0, 4, 4)) := by
      rw [List.getD_eq_getElem?_getD, List.getElem?_eq_getElem (by rw [hok.plen]; lia)]
      exact hok.pok _ (List.getElem_mem _)
    unfold outerStep
    dsimp only
    intro e he
    rcases List.mem_append.mp he with he | he
    · exact inner_told zs ih e he
    · rw [List.mem_singleton.mp he]
      exact inner_ok zs (turn_ok hp0 (y.fdiv 3) (y.fdiv 96) (y.fdiv 576) rfl rfl rfl).2
theorem sheets_eq {prog : Program} {w : World} {A : Around} {E : Value → Shared → Prop} {s : Shared} {h₀ : Heap} {L a b : Addr} {na nb : Nat} {nA nB news : List (Addr × Obj)} {VA VB : List Value} {σ : List PySem.Str} {ys zs : List Int} {n : Nat} {Q : Value → Shared → Prop} (hσ : SigOk σ)
    (N : News h₀ L s.heap news) (ha : (a, listOf (List.toArray VA) na) ∈ news) (hb : (b, listOf (List.toArray VB) nb) ∈ news) (sA : ∀ p ∈ nA, p ∈ news) (sB : ∀ p ∈ nB, p ∈ news) (hnb : NoneBooked s.heap) (hu : A.units + 3 < cLine)
    (hA : AllR (EntIn nA) VA (sheetL σ ys zs n).told) (hB : AllR (EntIn nB) VB (sheetL σ ys zs n).told) (h : Q (.bool true) s) : wpAny (model prog w) A (compareOp .Eq (.ref a) (.ref b)) Q E s := by
  have all := ents_eq (A := A.in1) N sA sB hnb (by rw [units_in1]; lia) (told_ok hσ ys zs n) hA hB
  have l := all.len
  refine eq_listAt (e := fun _ => true) ⟨_, (N _ ha).1, rfl, na, rfl⟩ ⟨_, (N _ hb).1, rfl, nb, rfl⟩ (by simpa using l) (by lia) (fun j h1 h2 => by simpa using all.at j (by simpa using h1) (by simpa using h2)) ?_
  rw [all_true]; exact h
end Mine
end

section
open PySem PySem.W PySem.Calls PyProof.Rows
namespace Mine
theorem none_booked_of {P : Params} {h : Heap} (X : (Mine.hd.heap_39 P).In h) : NoneBooked h := by
  have e := X 2 _ rfl
  refine ⟨fun _ => none, ⟨_, #[], 0, e, rfl, ?_, ?_⟩, rfl⟩
  · intro e he
    simp at he
  · intro name
    rfl
theorem sig_of {z : Int} {w0 w1 w2 : PySem.Str} (h0 : signs8[(z.fmod 8).toNat]? = some w0) (h1 : (signs8.eraseIdx (z.fmod 8).toNat)[((z.fdiv 8).fmod 7).toNat]? = some w1)
    (h2 : ((signs8.eraseIdx (z.fmod 8).toNat).eraseIdx ((z.fdiv 8).fmod 7).toNat)[((z.fdiv 56).fmod 6).toNat]? = some w2) : SigOk [w0, w1, w2] := by
  have all : ∀ x ∈ signs8, ∃ a, x = ⟨#[a]⟩ ∧ Sg a := by
    intro x hx
    have : x = ⟨#[38]⟩ ∨ x = ⟨#[60]⟩ ∨ x = ⟨#[62]⟩ ∨ x = ⟨#[34]⟩ ∨ x = ⟨#[13]⟩ ∨ x = ⟨#[10]⟩ ∨ x = ⟨#[9]⟩ ∨ x = ⟨#[98]⟩ := by
      unfold signs8 at hx
      rw [amp1, amp2, amp3, amp4, amp5, amp6, amp7, show (Str.ofString "b" : PySem.Str) = ⟨#[98]⟩ from by decide +kernel] at hx
      simpa using hx
    rcases this with rfl | rfl | rfl | rfl | rfl | rfl | rfl | rfl <;> exact ⟨_, rfl, by unfold Sg; simp⟩
  obtain ⟨a, rfl, ha⟩ := all _ (List.mem_of_getElem? h0)
  obtain ⟨b, rfl, hb⟩ := all _ (List.mem_of_mem_eraseIdx (List.mem_of_getElem? h1))
  obtain ⟨c, rfl, hc⟩ := all _ (List.mem_of_mem_eraseIdx (List.mem_of_mem_eraseIdx (List.mem_of_getElem? h2)))
  exact ⟨a, b, c, rfl, ha, hb, hc⟩
end Mine
end

section
theorem Mine.fresh_LW : True := by
  w_top off
  exact trivial
open PySem PySem.W PySem.Calls PyProof.Rows
set_option maxRecDepth 100000
set_option maxHeartbeats 1000000
namespace Mine
local macro_rules | `(tactic| walk_at "call ref") => `(tactic| (refine Stop.go ?_))

local macro_rules | `(tactic| walk_at "compareOp Eq ref ref") => `(tactic| (refine Stop.go ?_))

theorem lawT : PySem.Challenge.rw_rw0038_01.Holds := hd (by
  k_go0; (all_goals try k_fold)
  (k_steps; repeat' ((with_reducible show Stop _); refine Stop.on ?_; (first | with_reducible ((with_reducible show wpAny _ _ (call (PySem.Value.ref _) _) _ _ _); (k_here; (with_reducible show wpAny _ _ (call (Value.ref 61) _) _ _ _); k_dflt (refine wpAny_with_toks (n := 1) (by (try dsimp only); first | with_reducible assumption | exact Nat.le_add_left 1 _ | lia) ?_; refine' c_signs  ?zqk1 ?zqk2 ?zqk3 ?zqk4 ?zqk5 ?zqkK ?zqkd ?zqku ?_; (case zqk1 => k_asm); (case zqk2 => k_asm); (case zqk3 => k_asm); (case zqk4 => k_asm); (case zqk5 => k_asm); (case zqkK => first | exact rfl | assumption);  (case zqkd => first | exact ltK2 hd (by decide) | ktr_room); (case zqku => (first | exact Nat.le_of_ble_eq_true rfl | units_room | ((try simp only [units_in1, units_deeper, Around.mark_units]); lia))); k_whole); intro q' h' tk' w0' w1' w2' u0' u1' u2' s0' s1' s2' F' N' l1 htk'; have hsig' := sig_of s0' s1' s2'; (try k_lt l1); (try dsimp only); (try k_fold))) | with_reducible ((with_reducible show wpAny _ _ (call (PySem.Value.ref _) _) _ _ _); (k_here; (with_reducible show wpAny _ _ (call (Value.ref 54) _) _ _ _); k_dflt (refine wpAny_with_toks (n := 1) (by first | (with_reducible assumption) | exact Nat.le_add_left 1 _ | ((try dsimp only); first | with_reducible assumption | exact Nat.le_add_left 1 _ | lia)) ?_; refine' c_cells ?zqht ?zqhl ?zqhi ?zqh63 ?zqk1 ?zqk2 ?zqk3 ?zqk4 ?zqk5 ?zqkK ?zqkd ?zqku ?_; (case zqk1 => k_asm); (case zqk2 => k_asm); (case zqk3 => k_asm); (case zqk4 => k_asm); (case zqk5 => k_asm); (case zqkK => first | exact rfl | assumption); (case zqht => first | (with_reducible assumption) | exact Nat.le_add_left 1 _ | ((try dsimp only); first | with_reducible assumption | exact Nat.le_add_left 1 _ | lia)); (case zqhl => k_asm); (case zqhi => assumption); (case zqh63 => lia); (case zqkd => first | exact ltK2 hd (by decide) | ktr_room); (case zqku => (first | exact Nat.le_of_ble_eq_true rfl | units_room | ((try simp only [units_in1, units_deeper, Around.mark_units]); lia))); k_whole); intro q' c0' c1' c2' c3' c4' c5' c6' c7' c8' t0' t1' t2' t3' t4' t5' t6' t7' t8' h' tk' F' N' htk'; (try dsimp only); (try k_fold)))); k_steps))
  refine Stop.on ?_
  (k_here; (with_reducible show wpAny _ _ (call (Value.ref 92) _) _ _ _); k_dflt (refine' c_mods ?ht ?hs ?hc ?hg ?k1 ?k2 ?k3 ?k4 ?k5 ?kK ?kd ?ku ?_; (case k1 => k_asm); (case k2 => k_asm); (case k3 => k_asm); (case k4 => k_asm); (case k5 => k_asm); (case kK => first | exact rfl | assumption); (case ht => first | (with_reducible assumption) | exact Nat.le_add_left 1 _ | ((try dsimp only); first | with_reducible assumption | exact Nat.le_add_left 1 _ | lia)); (case hs => assumption); (case hc => k_mem); (case hg => k_mem); (case kd => first | exact ltK2 hd (by decide) | ktr_room); (case ku => (first | exact Nat.le_of_ble_eq_true rfl | units_room | ((try simp only [units_in1, units_deeper, Around.mark_units]); lia))); k_whole); intro q' n' TV' tl' h' tk' F' N' sub' ha' htk'; have hgg' := sub' _ (.head _); have hcc' := sub' _ (.tail _ (.head _)); (try dsimp only); (try k_fold))
  (k_steps; repeat' ((with_reducible show Stop _); refine Stop.on ?_; (first | with_reducible ((with_reducible show wpAny _ _ (call (PySem.Value.ref _) _) _ _ _); (k_here; (with_reducible show wpAny _ _ (call (Value.ref 61) _) _ _ _); k_dflt (refine wpAny_with_toks (n := 1) (by (try dsimp only); first | with_reducible assumption | exact Nat.le_add_left 1 _ | lia) ?_; refine' c_signs  ?zqk1 ?zqk2 ?zqk3 ?zqk4 ?zqk5 ?zqkK ?zqkd ?zqku ?_; (case zqk1 => k_asm); (case zqk2 => k_asm); (case zqk3 => k_asm); (case zqk4 => k_asm); (case zqk5 => k_asm); (case zqkK => first | exact rfl | assumption);  (case zqkd => first | exact ltK2 hd (by decide) | ktr_room); (case zqku => (first | exact Nat.le_of_ble_eq_true rfl | units_room | ((try simp only [units_in1, units_deeper, Around.mark_units]); lia))); k_whole); intro q' h' tk' w0' w1' w2' u0' u1' u2' s0' s1' s2' F' N' l1 htk'; have hsig' := sig_of s0' s1' s2'; (try k_lt l1); (try dsimp only); (try k_fold))) | with_reducible ((with_reducible show wpAny _ _ (call (PySem.Value.ref _) _) _ _ _); (k_here; (with_reducible show wpAny _ _ (call (Value.ref 54) _) _ _ _); k_dflt (refine wpAny_with_toks (n := 1) (by first | (with_reducible assumption) | exact Nat.le_add_left 1 _ | ((try dsimp only); first | with_reducible assumption | exact Nat.le_add_left 1 _ | lia)) ?_; refine' c_cells ?zqht ?zqhl ?zqhi ?zqh63 ?zqk1 ?zqk2 ?zqk3 ?zqk4 ?zqk5 ?zqkK ?zqkd ?zqku ?_; (case zqk1 => k_asm); (case zqk2 => k_asm); (case zqk3 => k_asm); (case zqk4 => k_asm); (case zqk5 => k_asm); (case zqkK => first | exact rfl | assumption); (case zqht => first | (with_reducible assumption) | exact Nat.le_add_left 1 _ | ((try dsimp only); first | with_reducible assumption | exact Nat.le_add_left 1 _ | lia)); (case zqhl => k_asm); (case zqhi => assumption); (case zqh63 => lia); (case zqkd => first | exact ltK2 hd (by decide) | ktr_room); (case zqku => (first | exact Nat.le_of_ble_eq_true rfl | units_room | ((try simp only [units_in1, units_deeper, Around.mark_units]); lia))); k_whole); intro q' c0' c1' c2' c3' c4' c5' c6' c7' c8' t0' t1' t2' t3' t4' t5' t6' t7' t8' h' tk' F' N' htk'; (try dsimp only); (try k_fold)))); k_steps))
  refine Stop.on ?_
  (k_here; (with_reducible show wpAny _ _ (call (Value.ref 118) _) _ _ _); k_dflt (refine' c_whole ?ht ?hs ?hc ?hg ?k1 ?k2 ?k3 ?k4 ?k5 ?kK ?kd ?ku ?_; (case k1 => k_asm); (case k2 => k_asm); (case k3 => k_asm); (case k4 => k_asm); (case k5 => k_asm); (case kK => first | exact rfl | assumption); (case ht => first | (with_reducible assumption) | exact Nat.le_add_left 1 _ | ((try dsimp only); first | with_reducible assumption | exact Nat.le_add_left 1 _ | lia)); (case hs => assumption); (case hc => k_mem); (case hg => k_mem); (case kd => first | exact ltK2 hd (by decide) | ktr_room); (case ku => (first | exact Nat.le_of_ble_eq_true rfl | units_room | ((try simp only [units_in1, units_deeper, Around.mark_units]); lia))); k_whole); intro q2 n2 TV2 tl2 h2 tk2 F2 N2 sub2 ha2 htk2; (try dsimp only); (try k_fold))
  (k_steps; repeat' ((with_reducible show Stop _); refine Stop.on ?_; (first | with_reducible ((with_reducible show wpAny _ _ (call (PySem.Value.ref _) _) _ _ _); (k_here; (with_reducible show wpAny _ _ (call (Value.ref 61) _) _ _ _); k_dflt (refine wpAny_with_toks (n := 1) (by (try dsimp only); first | with_reducible assumption | exact Nat.le_add_left 1 _ | lia) ?_; refine' c_signs  ?zqk1 ?zqk2 ?zqk3 ?zqk4 ?zqk5 ?zqkK ?zqkd ?zqku ?_; (case zqk1 => k_asm); (case zqk2 => k_asm); (case zqk3 => k_asm); (case zqk4 => k_asm); (case zqk5 => k_asm); (case zqkK => first | exact rfl | assumption);  (case zqkd => first | exact ltK2 hd (by decide) | ktr_room); (case zqku => (first | exact Nat.le_of_ble_eq_true rfl | units_room | ((try simp only [units_in1, units_deeper, Around.mark_units]); lia))); k_whole); intro q' h' tk' w0' w1' w2' u0' u1' u2' s0' s1' s2' F' N' l1 htk'; have hsig' := sig_of s0' s1' s2'; (try k_lt l1); (try dsimp only); (try k_fold))) | with_reducible ((with_reducible show wpAny _ _ (call (PySem.Value.ref _) _) _ _ _); (k_here; (with_reducible show wpAny _ _ (call (Value.ref 54) _) _ _ _); k_dflt (refine wpAny_with_toks (n := 1) (by first | (with_reducible assumption) | exact Nat.le_add_left 1 _ | ((try dsimp only); first | with_reducible assumption | exact Nat.le_add_left 1 _ | lia)) ?_; refine' c_cells ?zqht ?zqhl ?zqhi ?zqh63 ?zqk1 ?zqk2 ?zqk3 ?zqk4 ?zqk5 ?zqkK ?zqkd ?zqku ?_; (case zqk1 => k_asm); (case zqk2 => k_asm); (case zqk3 => k_asm); (case zqk4 => k_asm); (case zqk5 => k_asm); (case zqkK => first | exact rfl | assumption); (case zqht => first | (with_reducible assumption) | exact Nat.le_add_left 1 _ | ((try dsimp only); first | with_reducible assumption | exact Nat.le_add_left 1 _ | lia)); (case zqhl => k_asm); (case zqhi => assumption); (case zqh63 => lia); (case zqkd => first | exact ltK2 hd (by decide) | ktr_room); (case zqku => (first | exact Nat.le_of_ble_eq_true rfl | units_room | ((try simp only [units_in1, units_deeper, Around.mark_units]); lia))); k_whole); intro q' c0' c1' c2' c3' c4' c5' c6' c7' c8' t0' t1' t2' t3' t4' t5' t6' t7' t8' h' tk' F' N' htk'; (try dsimp only); (try k_fold)))); k_steps))
  refine Stop.on ?_
  rename News _ _ _ _ => N8
  rename Fr _ _ _ _ => F8
  rename Frag.In _ _ => X8
  refine sheets_eq (n := 5) (by assumption) N8 (.tail _ (sub2 _ (.head _))) (.head _) (fun p hp => .tail _ (sub2 _ (.tail _ hp))) (fun p hp => .tail _ hp) (none_booked_of (X8.keeps F8.keep)) (by first | exact Nat.le_of_ble_eq_true rfl | units_room) ha' ha2 ?_
  (k_steps; repeat' ((with_reducible show Stop _); refine Stop.on ?_; (first | with_reducible ((with_reducible show wpAny _ _ (call (PySem.Value.ref _) _) _ _ _); (k_here; (with_reducible show wpAny _ _ (call (Value.ref 61) _) _ _ _); k_dflt (refine wpAny_with_toks (n := 1) (by (try dsimp only); first | with_reducible assumption | exact Nat.le_add_left 1 _ | lia) ?_; refine' c_signs  ?zqk1 ?zqk2 ?zqk3 ?zqk4 ?zqk5 ?zqkK ?zqkd ?zqku ?_; (case zqk1 => k_asm); (case zqk2 => k_asm); (case zqk3 => k_asm); (case zqk4 => k_asm); (case zqk5 => k_asm); (case zqkK => first | exact rfl | assumption);  (case zqkd => first | exact ltK2 hd (by decide) | ktr_room); (case zqku => (first | exact Nat.le_of_ble_eq_true rfl | units_room | ((try simp only [units_in1, units_deeper, Around.mark_units]); lia))); k_whole); intro q' h' tk' w0' w1' w2' u0' u1' u2' s0' s1' s2' F' N' l1 htk'; have hsig' := sig_of s0' s1' s2'; (try k_lt l1); (try dsimp only); (try k_fold))) | with_reducible ((with_reducible show wpAny _ _ (call (PySem.Value.ref _) _) _ _ _); (k_here; (with_reducible show wpAny _ _ (call (Value.ref 54) _) _ _ _); k_dflt (refine wpAny_with_toks (n := 1) (by first | (with_reducible assumption) | exact Nat.le_add_left 1 _ | ((try dsimp only); first | with_reducible assumption | exact Nat.le_add_left 1 _ | lia)) ?_; refine' c_cells ?zqht ?zqhl ?zqhi ?zqh63 ?zqk1 ?zqk2 ?zqk3 ?zqk4 ?zqk5 ?zqkK ?zqkd ?zqku ?_; (case zqk1 => k_asm); (case zqk2 => k_asm); (case zqk3 => k_asm); (case zqk4 => k_asm); (case zqk5 => k_asm); (case zqkK => first | exact rfl | assumption); (case zqht => first | (with_reducible assumption) | exact Nat.le_add_left 1 _ | ((try dsimp only); first | with_reducible assumption | exact Nat.le_add_left 1 _ | lia)); (case zqhl => k_asm); (case zqhi => assumption); (case zqh63 => lia); (case zqkd => first | exact ltK2 hd (by decide) | ktr_room); (case zqku => (first | exact Nat.le_of_ble_eq_true rfl | units_room | ((try simp only [units_in1, units_deeper, Around.mark_units]); lia))); k_whole); intro q' c0' c1' c2' c3' c4' c5' c6' c7' c8' t0' t1' t2' t3' t4' t5' t6' t7' t8' h' tk' F' N' htk'; (try dsimp only); (try k_fold)))); k_steps))
  all_goals (try k_data)
)
end Mine
end

theorem PySem.Challenge.cw_rw0038_01_holds : PySem.Challenge.rw_rw0038_01.Holds :=
  Mine.lawT
