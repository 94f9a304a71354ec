import PyProof.Rows.All
import Wide.All
import OpenK.AllK
import Wide.FinOn
import Lean
import PySem.Challenge.RW_nb0146_01
open PySem PySem.W PyProof.Rows
set_option Elab.async false
set_option maxRecDepth 100000
set_option maxHeartbeats 8000000
set_option linter.unusedVariables false
set_option linter.unusedSimpArgs false

/-! Top1 -/
namespace Mine
open_top hd for PySem.Challenge.rw_nb0146_01
end Mine

/-! Base -/
namespace Mine
open PySem.Calls


section
variable {prog : Program} {w : World} {A₀ A : Around} {s : Shared} {base h₀ : Heap} {outer : List Env} {L : Addr} {m : Str → Option Value} {env : Env} {K : Frag}
  {R : Result → Shared → Prop} {name qual : Str} {params : Arguments} {body : List Stmt} {scope : Scope} {dV kV doc pm cdv ct oc : Value} {an od : Option Addr} {osl : Array (Option Value)} {f : Addr} {args : Args} {binds : List (Str × Value)}
  {p : Program} {loose : List Str} {mean : ExcName → Option Value} {mg mb : Str → Option Value}

/-- a def entered upon the whole heap of the call: all that stood stays -/
theorem enter_whole (B : Below A₀ base outer h₀) (F : Fr h₀ L s.heap m) (X₀ : K.In h₀) (T : Top p loose mean mg mb h₀) (hA : A.frames = some (env :: outer)) (hf : env.frame = some L) (hke : env.scope.kind = .function)
    (ho : K.lookup f = some ⟨oc, od, .func (fnOf name qual params body scope dV kV doc pm an cdv ct), osl⟩) (hcd : codeIn K cdv qual = true) (hroom : A.depth < recursionLimit)
    (hbind : BindsTo s (fnOf name qual params body scope dV kV doc pm an cdv ct) args binds) (hloc : ∀ y ∈ binds, scope.names.lookup y.1 = some .local)
    (h : ∀ g L' h₁, g = s.heap → Fr g L' h₁ (fun y => binds.reverse.lookup y) → News g L' h₁ [] → Below A base (env :: outer) g → K.In g → Top p loose mean mg mb g →
      wpAny (model prog w) (A.deeper (envOf qual scope L' f cdv)) (execs body (envOf qual scope L' f cdv))
        (fun fl s' => R (.ok (.ret (match fl with | .ret v => v | _ => .none))) s')
        (fun _ _ => False)
        { s with heap := h₁, toks := s.toks + binds.length })
    (hco : scope.isCoroutine = false) (hgen : scope.isGenerator = false) (hk : scope.kind = .function)
    (hcell : ∀ x ∈ scope.names, x.2 ≠ .cell) : codeAny (model prog w) A (.call (.ref f) args) R s := by
  have N : News h₀ L s.heap [] := News.nil
  obtain ⟨_, BG, st, _⟩ := groundX (R := R) (A := A) B F N hA hf hke
  have X₁ : K.In s.heap := X₀.keeps F.keep
  refine codeAny_call_def (fd := fnOf name qual params body scope dV kV doc pm an cdv ct) (body := body) (binds := binds) hroom (X₁ _ _ ho) rfl ((T.nolimit).keeps F.keep) (codeRec_of X₁ hcd) rfl hbind hcell hloc (fun h₁ hns hk₁ => ?_) hco hgen hk
  exact wpAny_mono (h s.heap s.heap.objs.size h₁ rfl ⟨hns, hk₁, Nat.le_refl _⟩ News.nil BG X₁ (T.keeps F.keep)) (fun _ _ x => x) fun _ _ x => x.elim

/-- the same, of a def whose locals are captured -/
theorem enter_cells (B : Below A₀ base outer h₀) (F : Fr h₀ L s.heap m) (X₀ : K.In h₀) (T : Top p loose mean mg mb h₀) (hA : A.frames = some (env :: outer)) (hf : env.frame = some L) (hke : env.scope.kind = .function)
    (ho : K.lookup f = some ⟨oc, od, .func (fnOf name qual params body scope dV kV doc pm an cdv ct), osl⟩) (hcd : codeIn K cdv qual = true) (hroom : A.depth < recursionLimit)
    (hbind : BindsTo s (fnOf name qual params body scope dV kV doc pm an cdv ct) args binds) (hkind : (binds.all fun y => scope.names.lookup y.1 == some .local || scope.names.lookup y.1 == some .cell) = true)
    (hnd : ((cellsFrom 0 scope.names []).map (·.1)).Nodup)
    (h : ∀ g L' h₁ tk cells, g = s.heap → Fr g L' h₁ (bindL (envOfC qual scope L' f cdv).kindOf binds fun _ => none) → News g L' h₁ cells →
      CellsAre (bindC (envOfC qual scope L' f cdv).kindOf binds fun _ => none) (cellsFrom (L' + 1) scope.names []) cells → Below A base (env :: outer) g → K.In g → Top p loose mean mg mb g →
      wpAny (model prog w) (A.deeper (envOfC qual scope L' f cdv)) (execs body (envOfC qual scope L' f cdv))
        (fun fl s' => R (.ok (.ret (match fl with | .ret v => v | _ => .none))) s')
        (fun _ _ => False)
        { s with heap := h₁, toks := tk })
    (hco : scope.isCoroutine = false) (hgen : scope.isGenerator = false) (hk : scope.kind = .function) : codeAny (model prog w) A (.call (.ref f) args) R s := by
  have N : News h₀ L s.heap [] := News.nil
  obtain ⟨_, BG, st, _⟩ := groundX (R := R) (A := A) B F N hA hf hke
  have X₁ : K.In s.heap := X₀.keeps F.keep
  refine codeAny_call_function hroom (X₁ _ _ ho) rfl hco hgen rfl (codeRec_of X₁ hcd) (hbind _ _ _ _ ?_)
  refine wpAny_newFunctionEnv_cells hk (kindsX hkind _) fun env' he s' x => ?_
  subst he
  refine ⟨((T.nolimit).keeps F.keep).keeps x.toInCall.keep, codeAny_func ?_⟩
  obtain ⟨h₁, tk, rfl, _⟩ := x.done
  have hk₁ := x.toInCall.keep
  obtain ⟨cells, NC, Y⟩ := Cl.news (h₀ := s.heap) (Nat.le_refl _) fun n c hm => ⟨x.cell n c (lookup_of_mem_nodup (cellsFrom_names scope.names 0 (s.heap.objs.size + 1) [] [] rfl ▸ hnd) hm), x.above n c hm⟩
  exact wpAny_mono (h s.heap s.heap.objs.size h₁ tk cells rfl ⟨x.toInCall.ns, hk₁, Nat.le_refl _⟩ NC Y BG X₁ (T.keeps F.keep)) (fun _ _ x => x) fun _ _ x => x.elim
end

/-- what a call of the def at f says: nothing that stood is changed; Post of what comes back -/
def Says (w : World) (mean : ExcName → Option Value) (mg mb : Str → Option Value) (f : Addr) (d u : Nat) (vals : List Value) (Pre : Heap → Prop) (Post : Heap → Value → Heap → Prop) : Prop :=
  ∀ (dp un : Nat) (gd : Option (List Code)) (cn : Str) (cs : Scope) (a : Addr) (ccd : Value) (cl : List (Str × Addr)) (outer : List Env) (A₀ : Around) (base h₀ : Heap) (L : Addr) (m : Str → Option Value) (s : Shared) (Q E : Value → Shared → Prop),
    Below A₀ base outer h₀ → Fr h₀ L s.heap m → (hd.heap_39 w.params).In h₀ → Top hd.view_39 (looseW hd.view_39 []) mean mg mb h₀ → cs.kind = .function → Pre s.heap → dp + d < recursionLimit → un + u < cLine →
    (∀ v h' tk', s.heap.StaysIn h' → Post s.heap v h' → Q v { s with heap := h', toks := tk' }) →
    wpAny (model PySem.Challenge.rw_nb0146_01.row.prog w) (ktrTop dp un gd cn cs L a ccd cl outer) (call (.ref f) vals) Q E s

section
variable {w : World} {mean : ExcName → Option Value} {mg mb : Str → Option Value} {f : Addr} {d u : Nat} {vals : List Value} {Pre : Heap → Prop} {Post : Heap → Value → Heap → Prop}
  {dp un : Nat} {gd : Option (List Code)} {cn : Str} {cs : Scope} {a : Addr} {ccd : Value} {cl : List (Str × Addr)} {outer : List Env} {A₀ : Around} {base h₀ : Heap} {L : Addr} {m : Str → Option Value} {news : List (Addr × Obj)} {s : Shared} {Q E : Value → Shared → Prop}
theorem fr_stays {h h' : Heap} (F : Fr h₀ L h m) (st : h.StaysIn h') : Fr h₀ L h' m := F.keeps st
theorem news_stays {h h' : Heap} (N : News h₀ L h news) (st : h.StaysIn h') : News h₀ L h' news := fun p hp => ⟨st _ _ (N p hp).1, (N p hp).2⟩
theorem news_more {h h' : Heap} {l : Addr} {o : Obj} (F : Fr h₀ L h m) (N : News h₀ L h news) (st : h.StaysIn h') (hl : h'.get? l = some o) (hn : h.get? l = none) : News h₀ L h' ((l, o) :: news) := fun p hp => by
  rcases List.mem_cons.mp hp with rfl | hp
  · refine ⟨hl, fun q => ?_, ?_⟩
    · obtain ⟨oL, _, _, hL, _⟩ := F.ns
      have q' : l = L := q
      rw [q', hL] at hn; cases hn
    · cases q : h₀.get? l with
      | none => rfl
      | some o' => rw [F.keep _ _ q] at hn; cases hn
  · exact news_stays N st p hp
theorem stays_of {g h h' : Heap} {L' : Addr} {m' : Str → Option Value} (e : g = h) (F : Fr g L' h' m') : h.StaysIn h' := e ▸ F.keep
theorem int_is {i j : Int} {t : Tok} (e : i = j) : ∃ t', Value.int i t = Value.int j t' := ⟨t, by rw [e]⟩
theorem str_is {i j : Str} {t : Tok} (e : i = j) : ∃ t', Value.str i t = Value.str j t' := ⟨t, by rw [e]⟩
/-- a call that hands back a plain value -/
theorem Says.use (C : Says w mean mg mb f d u vals Pre Post) (B : Below A₀ base outer h₀) (F : Fr h₀ L s.heap m) (N : News h₀ L s.heap news) (X : (hd.heap_39 w.params).In h₀) (T : Top hd.view_39 (looseW hd.view_39 []) mean mg mb h₀) (hk : cs.kind = .function)
    (hp : Pre s.heap) (hd : dp + d < recursionLimit) (hu : un + u < cLine)
    (ret : ∀ v h' tk', Fr h₀ L h' m → News h₀ L h' news → Post s.heap v h' → Q v { s with heap := h', toks := tk' }) :
    wpAny (model PySem.Challenge.rw_nb0146_01.row.prog w) (ktrTop dp un gd cn cs L a ccd cl outer) (call (.ref f) vals) Q E s :=
  C _ _ _ _ _ _ _ _ _ _ _ _ _ _ _ _ _ B F X T hk hp hd hu fun v h' tk' st post => ret v h' tk' (fr_stays F st) (news_stays N st) post
end
end Mine

/-! C1 -/
namespace Mine
open PySem.Calls
/-- _substitution_cost, plainly -/
def costS (x y : Str) : Int := if (x == y) = true then 0 else if (Txt.lower x == Txt.lower y) = true then 1 else 2
theorem says_cost {w : World} {mean : ExcName → Option Value} {mg mb : Str → Option Value} (x y : Str) (tx ty : Tok) (hx : x.length ≤ 1000) (hy : y.length ≤ 1000) :
    Says w mean mg mb 70 1 8 [.str x tx, .str y ty] (fun _ => True) (fun _ v _ => ∃ t, v = .int (costS x y) t) := by
  unfold Says
  k_fill
  w_on
  intro dp un gd cn cs a ccd cl outer A₀ base h₀ L m s Q E B F X T hk hp hd hu hret
  refine wpAny_call ?_
  refine' enter_whole ?k1 ?k2 ?k3 ?k5 ?kA ?kF ?kK ?k6 ?k7 ?k8 ?k9 ?kB ?_ ?c2 ?c3 ?c4 ?c5
  (case kA => exact rfl)
  (case kF => exact rfl)
  (case kK => assumption)
  (case k1 => k_asm)
  (case k2 => k_asm)
  (case k3 => k_asm)
  (case k5 => k_asm)
  (case k6 => k_is)
  (case k7 => k_is)
  (case k8 => ktr_room)
  (case k9 => exact BindsTo.of_eq rfl)
  (case c5 => decide)
  (case kB => exact locs rfl)
  (case c2 => exact rfl)
  (case c3 => exact rfl)
  (case c4 => exact rfl)
  intro g' L' h' eg F' N' B' X' T'
  (try dsimp only)
  (try k_lift B')
  (try k_fold)
  w_strict k_steps
  all_goals refine hret _ _ _ (stays_of eg (by assumption)) ?_
  all_goals refine int_is ?_
  all_goals simp_all [costS]
end Mine

/-! Loops -/
namespace Mine
open PySem.Calls
/-- the walk halts here -/
def Held (P : Prop) : Prop := P
theorem held {P : Prop} (h : Held P) : P := h
theorem unheld {P : Prop} (h : P) : Held P := h
theorem ite_ne_pos {x y : Int} {P Q : Prop} (h : x ≠ y) (p : P) : if (x != y) = true then P else Q := by rw [if_pos (by simp [h])]; exact p
theorem split_streq {x y : Str} {P Q : Prop} (h1 : (x == y) = true → P) (h2 : (x == y) = false → Q) : if (x == y) = true then P else Q := by
  cases h : (x == y) with
  | true => rw [if_pos rfl]; exact h1 h
  | false => rw [if_neg (by simp)]; exact h2 h
theorem ite_ne_neg {x y : Int} {P Q : Prop} (h : x = y) (p : Q) : if (x != y) = true then P else Q := by rw [if_neg (by simp [h])]; exact p

section
variable {prog : Program} {w : World} {A : Around} {E : Value → Shared → Prop} {s : Shared} {value slice : Expr} {x : Str} {t u : Tok} {Q : Value → Shared → Prop}
/-- an item of a text, as a letter -/
theorem item_var {i : Int} (hr : fitsSsize i = true) (h1 : -(x.length : Int) ≤ i) (h2 : i < x.length)
    (h : ∀ y t' k, y = Txt.item x i → y.length = 1 → Q (.str y t') { s with toks := k })
    (hs : subscripted slice false (.str x t) (.int i u) = operate [.str x t, .int i u] (getItem (.str x t) (.int i u)) := by with_unfolding_all rfl)
    (ht : ∀ r, letTemporaryGo value (.str x t) r = pure () := by intro _; with_unfolding_all rfl) :
    wpAny (model prog w) A (subscriptTail value slice (.str x t) (.int i u)) Q E s :=
  item_str hr h1 h2 (fun hl => h _ _ _ rfl (Nat.le_antisymm hl.2 hl.1)) hs ht
/-- the lesser of two ints, as a letter -/
theorem min_var {h₀ : Heap} {L : Addr} {m : Str → Option Value} {news : List (Addr × Obj)} {a b : Int} (hh : A.handled = none) (F : Fr h₀ L s.heap m) (N : News h₀ L s.heap news)
    (h : ∀ z tz h' tk, z = min a b → Fr h₀ L h' m → News h₀ L h' news → Q (.int z tz) { s with heap := h', toks := tk }) : wpAny (model prog w) A (call (.builtin "min") [.int a t, .int b u]) Q E s :=
  min_two_N hh F N fun h' tk F' N' => h _ _ h' tk (by rw [Int.min_def]; split <;> split <;> omega) F' N'
end
section
variable {prog : Program} {w : World} {A : Around} {E : Value → Shared → Prop} {Q : Flow → Shared → Prop} {s : Shared} {env : Env} {h₀ : Heap} {L : Addr}
/-- a statement that stores one name, and goes on -/
def Assigned (h₀ : Heap) (L : Addr) (m : Str → Option Value) (news : List (Addr × Obj)) (x : Str) (v : Tok → Value) (s : Shared) (f : Flow) (s' : Shared) : Prop :=
  f = .next ∧ ∃ t h tk, s' = { s with heap := h, toks := tk } ∧ Fr h₀ L h (fun z => if z = x then some (v t) else m z) ∧ News h₀ L h news
theorem assign_cut {m : Str → Option Value} {news : List (Addr × Obj)} {t : Sem Flow} (x : Str) (v : Tok → Value) (_F : Fr h₀ L s.heap m) (_N : News h₀ L s.heap news)
    (first : wpAny (model prog w) A t (Assigned h₀ L m news x v s) E s)
    (rest : ∀ t h tk, Fr h₀ L h (fun z => if z = x then some (v t) else m z) → News h₀ L h news → Q .next { s with heap := h, toks := tk }) : wpAny (model prog w) A t Q E s :=
  wpAny_mono first (fun _ _ p => by obtain ⟨rfl, t, h, tk, rfl, F, N⟩ := p; exact rest t h tk F N) fun _ _ e => e
/-- a while is left here -/
def OutAt {σ : Type} (h₀ : Heap) (L : Addr) (s : Shared) (Led : σ → List (Addr × Obj)) (ps : σ → List (Str × Value)) (stored : List Str) (m₀ u : Str → Option Value) (Exit : σ → Prop) (c : σ) (s₂ : Shared) : Prop :=
  Exit c ∧ ∃ h tk, s₂ = { s with heap := h, toks := tk } ∧ Fr h₀ L h (kstB (fun z => if stored.contains z then u z else m₀ z) (ps c)) ∧ News h₀ L h (Led c)
theorem while_cut {σ : Type} {test : Expr} {body : List Stmt} {pos : Pos} {m₀ : Str → Option Value} (Led : σ → List (Addr × Obj)) (ps : σ → List (Str × Value)) (Facts : σ → Prop) (stored : List Str) (P : σ → Prop) (μ : σ → Nat) (Exit : σ → Prop) (c₀ : σ)
    (F : Fr h₀ L s.heap m₀) (N : News h₀ L s.heap (Led c₀)) (hf : Facts c₀) (hk : ∀ p ∈ ps c₀, m₀ p.1 = some p.2) (hp : P c₀)
    (turn : ∀ (c : σ) (u : Str → Option Value) h tk, Facts c → P c → Fr h₀ L h (kstB (fun z => if stored.contains z then u z else m₀ z) (ps c)) → News h₀ L h (Led c) →
      wpAny (model prog w) A (isTrue test env (eval test env)) (fun b s₂ =>
        if b = true then wpAny (model prog w) A (execs body env) (KswPost h₀ L s Led ps Facts stored m₀ P μ Q c) E s₂ else OutAt h₀ L s Led ps stored m₀ u Exit c s₂) E { s with heap := h, toks := tk })
    (rest : ∀ (c : σ) (u : Str → Option Value) h tk, Exit c → Fr h₀ L h (kstB (fun z => if stored.contains z then u z else m₀ z) (ps c)) → News h₀ L h (Led c) → Q .next { s with heap := h, toks := tk })
    (hE : PassesOwn (model prog w) A env E := by passes_own) :
    wpAny (model prog w) A (exec (.While test body [] pos) env) Q E s := by
  refine ksw_while (σ := σ) Led ps Facts stored P μ c₀ F N hf hk hp (fun c u h tk hf' hp' F' N' => ?_) hE
  refine wpAny_mono (turn c u h tk hf' hp' F' N') (fun b s₂ p => ?_) fun _ _ x => x
  cases b with
  | true => simpa using p
  | false =>
    simp only [Bool.false_eq_true, if_false] at p ⊢
    obtain ⟨hx, h1, tk1, rfl, F1, N1⟩ := p
    exact rest c u h1 tk1 hx F1 N1
end
end Mine

/-! Plain -/
namespace Mine
open PySem.Calls

/-! texts as lists of signs -/
def mk (l : List Nat) : Str := ⟨l.toArray⟩
theorem mk_chars (l : List Nat) : (mk l).cps.toList = l := rfl
theorem mk_len (l : List Nat) : (mk l).length = l.length := by simp [mk, Str.length]
theorem mk_inj {a b : List Nat} (h : mk a = mk b) : a = b := by
  have := congrArg (fun x : Str => x.cps.toList) h
  simpa [mk] using this
theorem mk_beq (a b : List Nat) : (mk a == mk b) = decide (a = b) := by
  by_cases h : a = b
  · subst h; simp
  · have h' : mk a ≠ mk b := fun e => h (mk_inj e)
    simp [h, h']
theorem mk_of (x : Str) : x = mk x.cps.toList := by cases x; simp [mk]
theorem slice_all (x : Str) : Txt.slice x none none = x := by
  have e : Txt.slice x none none = StrLaws.sliceText x none none := rfl
  have e2 : StrLaws.sliceText x none none = StrLaws.sliceText x none (some (x.cps.toList.length : Int)) := by
    unfold StrLaws.sliceText; rw [StrLaws.sliceIdx_none_hi]; simp [Str.length]
  rw [e, e2, StrLaws.sliceText_to ⟨by omega, by omega⟩]
  obtain ⟨c⟩ := x
  simp only [List.drop_zero, Int.sub_zero, Int.toNat_natCast, List.take_length]
theorem slice_from (l : List Nat) {i : Int} (h0 : 0 ≤ i) (h1 : i ≤ l.length) : Txt.slice (mk l) (some i) none = mk (l.drop i.toNat) := by
  have e := StrLaws.sliceText_from (x := mk l) (i := i) ⟨h0, by rw [mk_chars]; exact h1⟩
  rw [show Txt.slice (mk l) (some i) none = StrLaws.sliceText (mk l) (some i) none from rfl, e, mk_chars]
  unfold mk
  congr 1
  congr 1
  apply List.take_of_length_le
  simp only [List.length_drop]; omega
theorem slice_to (l : List Nat) {j : Int} (h0 : 0 ≤ j) (h1 : j ≤ l.length) : Txt.slice (mk l) none (some j) = mk (l.take j.toNat) := by
  have e := StrLaws.sliceText_to (x := mk l) (j := j) ⟨h0, by rw [mk_chars]; exact h1⟩
  rw [show Txt.slice (mk l) none (some j) = StrLaws.sliceText (mk l) none (some j) from rfl, e, mk_chars]
  simp [mk]
theorem slice_mid (l : List Nat) {i j : Int} (h0 : 0 ≤ i) (h : i ≤ j) (h1 : j ≤ l.length) : Txt.slice (mk l) (some i) (some j) = mk ((l.drop i.toNat).take (j - i).toNat) := by
  have e := StrLaws.sliceText_plain (x := mk l) (i := i) (j := j) ⟨h0, h, by rw [mk_chars]; exact h1⟩
  rw [show Txt.slice (mk l) (some i) (some j) = StrLaws.sliceText (mk l) (some i) (some j) from rfl, e, mk_chars]
  rfl
theorem slice_back (l : List Nat) {k : Nat} (h0 : 0 < k) (h1 : k ≤ l.length) : Txt.slice (mk l) none (some (-(k : Int))) = mk (l.take (l.length - k)) := by
  have e : Txt.slice (mk l) none (some (-(k : Int))) = Txt.slice (mk l) none (some (((l.length - k : Nat) : Int))) := by
    have hs : Builtin.Str.strSliceIndices none (some (-(k : Int))) 1 (mk l).length = Builtin.Str.strSliceIndices none (some ((l.length - k : Nat) : Int)) 1 (mk l).length := by
      rw [mk_len]
      unfold Builtin.Str.strSliceIndices
      have a : -(k : Int) < 0 := by omega
      have b : ¬ (((l.length - k : Nat) : Int) < 0) := by omega
      simp only [a, b]
      congr 1
      simp
      omega
    unfold Txt.slice
    rw [hs]
  rw [e, slice_to l (by omega) (by omega)]
  simp
theorem item_nat (l : List Nat) {i : Nat} (h : i < l.length) : Txt.item (mk l) (i : Int) = mk [l[i]] := by
  unfold Txt.item Txt.charAt
  rw [mk_len, StrLaws.seqIndex_nonneg (by omega) (by omega)]
  simp [mk, h]
theorem item_back (l : List Nat) {k : Nat} (h : k < l.length) : Txt.item (mk l) (-(k : Int) - 1) = mk [l[l.length - 1 - k]'(by omega)] := by
  unfold Txt.item Txt.charAt
  rw [mk_len, StrLaws.seqIndex_neg (by omega) (by omega)]
  have e : (-(k : Int) - 1 + l.length).toNat = l.length - 1 - k := by omega
  rw [e]
  have h' : l.length - 1 - k < l.length := by omega
  simp [mk, h']

/-! the two loops that strip -/
/-- the length of the common start -/
def cpl : List Nat → List Nat → Nat
  | a :: r, b :: q => if a = b then cpl r q + 1 else 0
  | _, _ => 0
theorem cpl_le : ∀ a b : List Nat, cpl a b ≤ a.length ∧ cpl a b ≤ b.length
  | [], _ => ⟨Nat.le_refl _, Nat.zero_le _⟩
  | _ :: _, [] => ⟨Nat.zero_le _, Nat.le_refl _⟩
  | a :: r, b :: q => by
    unfold cpl
    split
    · have := cpl_le r q; simp; omega
    · simp
/-- where the starts agree so far and then end or part, the common start ends -/
theorem cpl_is : ∀ {i : Nat} {a b : List Nat}, i ≤ a.length → i ≤ b.length → a.take i = b.take i → (i = a.length ∨ i = b.length ∨ ∃ (h1 : i < a.length) (h2 : i < b.length), a[i] ≠ b[i]) → i = cpl a b
  | 0, [], _, _, _, _, _ => by simp [cpl]
  | 0, _ :: _, [], _, _, _, _ => by simp [cpl]
  | 0, a :: r, b :: q, _, _, _, h => by
    unfold cpl
    rcases h with h | h | ⟨_, _, h⟩
    · simp at h
    · simp at h
    · rw [if_neg (by simpa using h)]
  | i + 1, a :: r, b :: q, h1, h2, he, h => by
    simp only [List.take_succ_cons, List.cons.injEq] at he
    unfold cpl
    rw [if_pos he.1, ← cpl_is (i := i) (a := r) (b := q) (by simpa using h1) (by simpa using h2) he.2 ?_]
    rcases h with h | h | ⟨g1, g2, h⟩
    · left; simpa using h
    · right; left; simpa using h
    · right; right; exact ⟨by simpa using g1, by simpa using g2, by simpa using h⟩
  | _ + 1, [], _, h1, _, _, _ => by simp at h1
  | _ + 1, _ :: _, [], _, h2, _, _ => by simp at h2

theorem signs_eq {a b : Nat} {y z : Str} (hy : y = mk [a]) (hz : z = mk [b]) (h : (y == z) = true) : a = b := by
  subst hy hz; rw [mk_beq] at h; simpa using h
theorem signs_ne {a b : Nat} {y z : Str} (hy : y = mk [a]) (hz : z = mk [b]) (h : (y == z) = false) : a ≠ b := by
  subst hy hz; rw [mk_beq] at h; simpa using h
theorem take_more {a b : List Nat} {i : Nat} (h1 : i < a.length) (h2 : i < b.length) (he : a.take i = b.take i) (e : a[i] = b[i]) : a.take (i + 1) = b.take (i + 1) := by
  rw [List.take_add_one, List.take_add_one, he, List.getElem?_eq_getElem h1, List.getElem?_eq_getElem h2, e]
/-! the distance, plainly -/
def subC (c d : Nat) : Int := costS (mk [c]) (mk [d])
/-- one turn of the inner loop: distance, result, minimum, row -/
def inStep (c : Nat) (a : List Nat) (st : Int × Int × Int × List Int) (i : Nat) : Int × Int × Int × List Int :=
  let d := st.2.2.2.getD i 0
  let r := min (min st.2.1 d + 2) (st.1 + subC c (a.getD i 0))
  (d, r, (if r < st.2.2.1 then r else st.2.2.1), st.2.2.2.set i r)
def inner (c : Nat) (a : List Nat) (st : Int × Int × Int × List Int) : Nat → Int × Int × Int × List Int
  | 0 => st
  | i + 1 => inStep c a (inner c a st i) i
def start (j : Nat) (row : List Int) : Int × Int × Int × List Int := (2 * (j : Int), 2 * (j : Int), 9223372036854775807, row)
/-- the outer loop from sign j on -/
def outerL (a : List Nat) (mc : Int) : List Nat → Nat → List Int → Int → Int
  | [], _, _, r => r
  | c :: q, j, row, _ => if (inner c a (start j row) a.length).2.2.1 > mc then mc + 1 else outerL a mc q (j + 1) (inner c a (start j row) a.length).2.2.2 (inner c a (start j row) a.length).2.1
def row0 (n : Nat) : List Int := (List.range n).map fun (i : Nat) => 2 * ((i : Int) + 1)
def core (a b : List Nat) (mc : Int) : Int :=
  if a.length = 0 ∨ b.length = 0 then 2 * ((a.length : Int) + b.length)
  else if ((b.length : Int) - a.length) * 2 > mc then mc + 1
  else outerL a mc b 0 (row0 a.length) 0
def stripA (a b : List Nat) : List Nat := (a.drop (cpl a b)).take ((a.drop (cpl a b)).length - cpl (a.drop (cpl a b)).reverse (b.drop (cpl a b)).reverse)
def stripB (a b : List Nat) : List Nat := (b.drop (cpl a b)).take ((b.drop (cpl a b)).length - cpl (a.drop (cpl a b)).reverse (b.drop (cpl a b)).reverse)
def lev (a b : List Nat) (mc : Int) : Int := if a = b then 0 else core (stripA a b) (stripB a b) mc
theorem inStep_is {c : Nat} {a : List Nat} {d r mn z z1 : Int} {row : List Int} {i : Nat} {y1 y : Str} (hi : i < a.length) (ez1 : z1 = min r (row.getD i 0)) (ez2 : z = min (z1 + 2) (d + costS y1 y)) (ey : y1 = mk [c]) (ey2 : y = mk [a[i]]) :
    inStep c a (d, r, mn, row) i = (row.getD i 0, z, if z < mn then z else mn, row.set i z) := by
  have e : z = min (min r (row.getD i 0) + 2) (d + subC c (a.getD i 0)) := by
    have ea : a.getD i 0 = a[i] := by simp [List.getD, hi]
    rw [ez2, ez1, ey, ey2, subC, ea]
  rw [inStep, e]
theorem inner_len (c : Nat) (a : List Nat) (st : Int × Int × Int × List Int) : ∀ i, (inner c a st i).2.2.2.length = st.2.2.2.length
  | 0 => rfl
  | i + 1 => by
    show (inStep c a (inner c a st i) i).2.2.2.length = _
    simp only [inStep, List.length_set]
    exact inner_len c a st i
end Mine

/-! Rng -/
namespace Mine
open PySem.Calls
theorem size_two (n : Nat) (hn : n ≤ 40) : Builtin.Range.rangeSize 2 (2 * ((n : Int) + 1)) 2 = (n : Int) := by
  unfold Builtin.Range.rangeSize
  simp only [show (2 : Int) > 0 by decide, if_true]
  split <;> omega
theorem small_two (n : Nat) (hn : n ≤ 40) : Builtin.Range.small 2 (2 * ((n : Int) + 1)) 2 = true :=
  (by decide +kernel : ∀ n : Nat, n < 41 → Builtin.Range.small 2 (2 * ((n : Int) + 1)) 2 = true) n (by omega)
theorem row_ints (n : Nat) : rangeInts 2 2 n = row0 n := by
  unfold rangeInts row0
  apply List.map_congr_left
  intro i _
  omega
section
variable {prog : Program} {w : World} {A : Around} {E : Value → Shared → Prop} {s : Shared} {h₀ : Heap} {L : Addr} {m : Str → Option Value} {Q : Value → Shared → Prop} {news : List (Addr × Obj)}
theorem row_made {r : Addr} {b : Int} {t u v : Tok} {n : Nat} (hh : A.handled = none) (F : Fr h₀ L s.heap m) (N : News h₀ L s.heap news) (hr : IsRange s.heap r 2 b 2 t u v) (hb : b = 2 * ((n : Int) + 1)) (hn : n ≤ 40)
    (h : ∀ D c h' tk (ys : List Value), Fr h₀ L h' m → News h₀ L h' ((D, W.listOf ys.toArray c) :: news) → IntsAre ys (row0 n) → (∀ p ∈ news, p.1 < D) → Q (.ref D) { s with heap := h', toks := tk }) :
    wpAny (model prog w) A (call (.type "list") [.ref r]) Q E s := by
  subst hb
  refine list_rangeD hh F N hr (small_two n hn) (size_two n hn) (by omega) fun h' tk ys F' N' _ hnone _ hp hc => ?_
  obtain ⟨c, hc'⟩ := hp.1
  refine h _ c h' tk ys F' (fun p hq => ?_) ?_ (fun p hq => Heap.lt_size (N p hq).1)
  · rcases List.mem_cons.mp hq with rfl | hq
    · exact ⟨hc', Nat.ne_of_gt F.ns.lt, hnone⟩
    · exact N' p hq
  · have := CarriedAll.intsOf hc
    rw [row_ints] at this
    simpa using this
end
end Mine

/-! C2 -/
namespace Mine
open PySem.Calls
local macro_rules | `(tactic| walk_at "exec While BoolOp cons nil") => `(tactic| (refine held ?_))
local macro_rules | `(tactic| walk_at "subscriptTail Name Slice str ref") => `(tactic| ((with_reducible show wpAny _ _ (subscriptTail _ (Expr.Slice none (some _) none _) _ _) _ _ _); (with_reducible rename Fr _ _ _ _ => F'); (with_reducible rename News _ _ _ _ => N'); (refine slice_strN_nn_len (s := ⟨_, _, _, _, _⟩) F' N' ?_); intro _ _ _ _ _ _))
local macro_rules | `(tactic| walk_at "ite") => `(tactic| first | (with_reducible refine ite_tt ?_) | (with_reducible refine ite_ff ?_) | (with_reducible refine ite_ne_pos (by omega) ?_) | (with_reducible refine ite_ne_neg (by omega) ?_) | (with_reducible refine split_streq ?_ ?_ <;> intro _))
local macro_rules | `(tactic| walk_at "subscriptTail Name BinOp str int") => `(tactic| (refine item_var (fitsSsize_of (N := 9223372036854775808) (by omega) (by omega) (Int.le_refl _)) (by omega) (by omega) ?_; intro _ _ _ _ _))
local macro_rules | `(tactic| walk_at "subscriptTail Name Name str int") => `(tactic| (refine item_var (fitsSsize_of (N := 9223372036854775808) (by omega) (by omega) (Int.le_refl _)) (by omega) (by omega) ?_; intro _ _ _ _ _))
local macro_rules | `(tactic| walk_at "exec For Name Call cons nil") => `(tactic| (refine held ?_))
local macro_rules | `(tactic| walk_at "call type:list") => `(tactic| ((with_reducible show wpAny _ _ (call (Value.type _) [Value.ref _]) _ _ _); (with_reducible rename IsRange _ _ _ _ _ _ _ _ => rg); (with_reducible rename Fr _ _ _ _ => F'); (with_reducible rename News _ _ _ _ => N'); (refine' row_made rfl F' N' rg ?hb ?hn ?_); (case hb => assumption); (case hn => assumption); intro D' c' h' tk' ys' F' N' I' l'))
local macro_rules | `(tactic| walk_at "pyIter ref") => `(tactic| (refine held ?_))
local macro_rules | `(tactic| k_all) => `(tactic| assumption)
local macro_rules | `(tactic| walk_at "call ref") => `(tactic| (k_here; (with_reducible show wpAny _ _ (call (Value.ref 70) [Value.str _ _, Value.str _ _]) _ _ _); (refine' Says.use (says_cost _ _ _ _ ?l1 ?l2) ?k1 ?k2 ?k3 ?k4 ?k5 ?k6 ?k7 ?k8 ?k9 ?_; (case l1 => omega); (case l2 => omega); (case k1 => k_asm); (case k2 => k_asm); (case k3 => k_asm); (case k4 => k_asm); (case k5 => k_asm); (case k6 => first | exact rfl | assumption); (case k7 => exact trivial); (case k8 => ktr_room); (case k9 => ktr_units)); intro v9 h9 tk9 F9 N9 P9; obtain ⟨t9, e9⟩ := P9; subst e9; (try dsimp only); (try k_fold)))
local macro_rules | `(tactic| walk_at "call builtin:min") => `(tactic| (k_here; (with_reducible show wpAny _ _ (call (Value.builtin "min") [Value.int _ _, Value.int _ _]) _ _ _); k_dflt (refine' min_var ?k0 ?k1 ?k2 ?_; (case k0 => exact rfl); (case k1 => k_asm); (case k2 => k_asm)); intro z9 tz9 h' tk' ez9 F' N'; (try k_sweep)))
theorem says_lev {w : World} {mean : ExcName → Option Value} {mg mb : Str → Option Value} (la lb : List Nat) (tx ty : Tok) (mc : Int) (tm : Tok) (hx : la.length ≤ lb.length) (hy : lb.length ≤ 40) :
    Says w mean mg mb 77 2 16 [.str (mk la) tx, .str (mk lb) ty, .int mc tm] (fun _ => True) (fun _ v _ => ∃ t, v = .int (lev la lb mc) t) := by
  unfold Says
  k_fill
  w_on
  intro dp un gd cn cs a ccd cl outer A₀ base h₀ L m s Q E B F X T hk hp hd hu hret
  refine wpAny_call ?_
  refine' enter_whole ?k1 ?k2 ?k3 ?k5 ?kA ?kF ?kK ?k6 ?k7 ?k8 ?k9 ?kB ?_ ?c2 ?c3 ?c4 ?c5
  (case kA => exact rfl)
  (case kF => exact rfl)
  (case kK => assumption)
  (case k1 => k_asm)
  (case k2 => k_asm)
  (case k3 => k_asm)
  (case k5 => k_asm)
  (case k6 => k_is)
  (case k7 => k_is)
  (case k8 => ktr_room)
  (case k9 => exact BindsTo.of_eq rfl)
  (case c5 => decide)
  (case kB => exact locs rfl)
  (case c2 => exact rfl)
  (case c3 => exact rfl)
  (case c4 => exact rfl)
  intro g' L' h' eg F' N' B' X' T'
  (try dsimp only)
  (try k_lift B')
  (try k_fold)
  have hlx : (mk la).length = la.length := mk_len la
  have hly : (mk lb).length = lb.length := mk_len lb
  w_strict k_steps
  · rename (mk la == mk lb) = true => e1
    refine hret _ _ _ (stays_of eg (by assumption)) ?_
    rw [mk_beq] at e1
    refine int_is ?_
    rw [lev, if_pos (by simpa using e1)]
  refine unheld ?_
  rename Fr _ _ _ _ => F1
  rename News _ _ _ _ => N1
  rename (mk la == mk lb) = false => e1
  have hne : la ≠ lb := by rw [mk_beq] at e1; simpa using e1
  refine' while_cut (σ := Nat × Tok) (fun _ => []) (fun c => [(Str.ofString "pre", .int c.1 c.2)]) (fun _ => True) [] (fun c => c.1 ≤ la.length ∧ la.take c.1 = lb.take c.1) (fun c => la.length - c.1) (fun c => c.1 = cpl la lb) (0, tk) F1 N1 trivial ?wk ?wp ?wt ?wr (PassesOwn.never)
  case wk => exact List.forall_mem_cons.mpr ⟨rfl, List.forall_mem_nil _⟩
  case wp => simp
  case wt =>
    rintro ⟨i, ti⟩ u h2 tk2 - ⟨hi, he⟩ F2 N2
    dsimp only at hi he
    w_strict k_steps
    · rename (_ == _) = true => e2
      rename _ = Txt.item (mk la) _ => ey
      rename _ = Txt.item (mk lb) _ => ez
      have h1 : i < la.length := by omega
      have h2 : i < lb.length := by omega
      have e3 := signs_eq (ey.trans (item_nat _ h1)) (ez.trans (item_nat _ h2)) e2
      refine ksw_end (i + 1, _) (by assumption) (by assumption) (List.forall_mem_nil _) trivial (List.forall_mem_cons.mpr ⟨rfl, List.forall_mem_nil _⟩) ?_ ⟨h1, take_more h1 h2 he e3⟩ ?_
      · intro z hz _
        have hz' : z ≠ Str.ofString "pre" := hz _ (List.Mem.head _)
        simp [hz', kstB]
      · show la.length - (i + 1) < la.length - i
        omega
    · rename (_ == _) = false => e2
      rename _ = Txt.item (mk la) _ => ey
      rename _ = Txt.item (mk lb) _ => ez
      have h1 : i < la.length := by omega
      have h2 : i < lb.length := by omega
      have e3 := signs_ne (ey.trans (item_nat _ h1)) (ez.trans (item_nat _ h2)) e2
      exact ⟨cpl_is hi (by omega) he (.inr (.inr ⟨h1, h2, e3⟩)), _, _, rfl, by assumption, by assumption⟩
    · have h1 : i = la.length := by omega
      exact ⟨cpl_is hi (by omega) he (.inl h1), _, _, rfl, by assumption, by assumption⟩
  case wr =>
    rintro ⟨i, ti⟩ u h2 tk2 hi F2 N2
    dsimp only at hi F2 N2
    have hcp := cpl_le la lb
    rw [← hi] at hcp
    w_strict k_steps
    refine unheld ?_
    rename Fr _ _ _ _ => F3
    rename News _ _ _ _ => N3
    rw [slice_from la (by omega) (by omega), slice_from lb (by omega) (by omega)] at F3
    have hxl : (la.drop (i : Int).toNat).length + i = la.length := by simp; omega
    have hyl : (lb.drop (i : Int).toNat).length + i = lb.length := by simp; omega
    have hlev : lev la lb mc = core ((la.drop (i : Int).toNat).take ((la.drop (i : Int).toNat).length - cpl (la.drop (i : Int).toNat).reverse (lb.drop (i : Int).toNat).reverse)) ((lb.drop (i : Int).toNat).take ((lb.drop (i : Int).toNat).length - cpl (la.drop (i : Int).toNat).reverse (lb.drop (i : Int).toNat).reverse)) mc := by
      rw [lev, if_neg hne, stripA, stripB, ← hi]; simp only [Int.toNat_natCast]
    generalize la.drop (i : Int).toNat = xa at *
    generalize lb.drop (i : Int).toNat = xb at *
    have hlx2 : (mk xa).length = xa.length := mk_len xa
    have hly2 : (mk xb).length = xb.length := mk_len xb
    clear hne hi e1 
    refine' while_cut (σ := Int × Tok) (fun _ => []) (fun c => [(Str.ofString "post", .int c.1 c.2)]) (fun _ => True) [] (fun c => ∃ j : Nat, c.1 = -(j : Int) ∧ j ≤ xa.length ∧ xa.reverse.take j = xb.reverse.take j) (fun c => ((xa.length : Int) + c.1).toNat) (fun c => c.1 = -((cpl xa.reverse xb.reverse : Nat) : Int)) (0, _) F3 N3 trivial ?wk ?wp ?wt ?wr (PassesOwn.never)
    case wk => exact List.forall_mem_cons.mpr ⟨by rfl, List.forall_mem_nil _⟩
    case wp => exact ⟨0, by simp⟩
    case wt =>
      clear F3 N3
      rintro ⟨p, tj⟩ u3 h4 tk4 - ⟨j, hp, hj, he⟩ F4 N4
      dsimp only at hp hj he F4 N4
      subst hp
      have last : j < xa.length → ∀ (y z : Str), y = Txt.item (mk xa) (-(j : Int) - 1) → z = Txt.item (mk xb) (-(j : Int) - 1) → ∃ (h1 : j < xa.reverse.length) (h2 : j < xb.reverse.length), y = mk [xa.reverse[j]] ∧ z = mk [xb.reverse[j]] := fun h1 y z hy hz => by
        have h2 : j < xb.length := by omega
        refine ⟨by simpa using h1, by simpa using h2, ?_, ?_⟩
        · rw [hy, item_back xa h1]; simp
        · rw [hz, item_back xb h2]; simp
      rcases Nat.eq_zero_or_pos j with hj0 | hj0
      · have hna : (Txt.slice (mk xa) none none).length = xa.length := by rw [slice_all, mk_len]
        have hnb : (Txt.slice (mk xb) none none).length = xb.length := by rw [slice_all, mk_len]
        w_strict k_steps
        · rename (_ == _) = true => e2
          rename _ = Txt.item (mk xa) _ => ey
          rename _ = Txt.item (mk xb) _ => ez
          obtain ⟨h1, h2, ey', ez'⟩ := last (by omega) _ _ ey ez
          have e3 := signs_eq ey' ez' e2
          refine ksw_end (-(j : Int) - 1, _) (by assumption) (by assumption) (List.forall_mem_nil _) trivial (List.forall_mem_cons.mpr ⟨rfl, List.forall_mem_nil _⟩) ?_ ⟨j + 1, by simp; omega, by omega, take_more h1 h2 he e3⟩ ?_
          · intro z hz _
            have hz' : z ≠ Str.ofString "post" := hz _ (List.Mem.head _)
            simp [hz', kstB]
          · show ((xa.length : Int) + (-(j : Int) - 1)).toNat < ((xa.length : Int) + -(j : Int)).toNat
            omega
        · rename (_ == _) = false => e2
          rename _ = Txt.item (mk xa) _ => ey
          rename _ = Txt.item (mk xb) _ => ez
          obtain ⟨h1, h2, ey', ez'⟩ := last (by omega) _ _ ey ez
          have e3 := signs_ne ey' ez' e2
          exact ⟨congrArg (fun n : Nat => -(n : Int)) (cpl_is (by simp; omega) (by simp; omega) he (.inr (.inr ⟨h1, h2, e3⟩))), _, _, rfl, by assumption, by assumption⟩
        · exact ⟨congrArg (fun n : Nat => -(n : Int)) (cpl_is (by simp; omega) (by simp; omega) he (.inl (by simp; omega))), _, _, rfl, by assumption, by assumption⟩
      · have hsa : (Txt.slice (mk xa) none (some (-(j : Int)))).length + j = xa.length := by rw [slice_back xa hj0 hj, mk_len]; simp; omega
        have hsb : (Txt.slice (mk xb) none (some (-(j : Int)))).length + j = xb.length := by rw [slice_back xb hj0 (by omega), mk_len]; simp; omega
        w_strict k_steps
        · rename (_ == _) = true => e2
          rename _ = Txt.item (mk xa) _ => ey
          rename _ = Txt.item (mk xb) _ => ez
          obtain ⟨h1, h2, ey', ez'⟩ := last (by omega) _ _ ey ez
          have e3 := signs_eq ey' ez' e2
          refine ksw_end (-(j : Int) - 1, _) (by assumption) (by assumption) (List.forall_mem_nil _) trivial (List.forall_mem_cons.mpr ⟨rfl, List.forall_mem_nil _⟩) ?_ ⟨j + 1, by simp; omega, by omega, take_more h1 h2 he e3⟩ ?_
          · intro z hz _
            have hz' : z ≠ Str.ofString "post" := hz _ (List.Mem.head _)
            simp [hz', kstB]
          · show ((xa.length : Int) + (-(j : Int) - 1)).toNat < ((xa.length : Int) + -(j : Int)).toNat
            omega
        · rename (_ == _) = false => e2
          rename _ = Txt.item (mk xa) _ => ey
          rename _ = Txt.item (mk xb) _ => ez
          obtain ⟨h1, h2, ey', ez'⟩ := last (by omega) _ _ ey ez
          have e3 := signs_ne ey' ez' e2
          exact ⟨congrArg (fun n : Nat => -(n : Int)) (cpl_is (by simp; omega) (by simp; omega) he (.inr (.inr ⟨h1, h2, e3⟩))), _, _, rfl, by assumption, by assumption⟩
        · exact ⟨congrArg (fun n : Nat => -(n : Int)) (cpl_is (by simp; omega) (by simp; omega) he (.inl (by simp; omega))), _, _, rfl, by assumption, by assumption⟩
    case wr =>
      clear F3 N3
      rintro ⟨p, tj⟩ u3 h4 tk4 hp F4 N4
      dsimp only at hp F4 N4
      subst hp
      have hcq := cpl_le xa.reverse xb.reverse
      simp only [List.length_reverse] at hcq
      generalize cpl xa.reverse xb.reverse = j at *
      have hcutA : ∀ y : Str, (y = Txt.slice (mk xa) none none ∧ j = 0 ∨ y = Txt.slice (mk xa) none (some (-(j : Int))) ∧ 0 < j) → y = mk (xa.take (xa.length - j)) := by
        rintro y (⟨rfl, h⟩ | ⟨rfl, h⟩)
        · rw [slice_all, h]; simp
        · exact slice_back xa h hcq.1
      have hcutB : ∀ y : Str, (y = Txt.slice (mk xb) none none ∧ j = 0 ∨ y = Txt.slice (mk xb) none (some (-(j : Int))) ∧ 0 < j) → y = mk (xb.take (xb.length - j)) := by
        rintro y (⟨rfl, h⟩ | ⟨rfl, h⟩)
        · rw [slice_all, h]; simp
        · exact slice_back xb h hcq.2
      (try dsimp only)
      w_strict walk1
      refine assign_cut (Str.ofString "a") (fun t => .str (mk (xa.take (xa.length - j))) t) F4 N4 ?_ ?_
      · rcases Nat.eq_zero_or_pos j with hj0 | hj0
        · w_strict k_steps
          rename Fr _ _ _ _ => F5
          rw [hcutA _ (.inl ⟨rfl, hj0⟩)] at F5
          exact ⟨rfl, _, _, _, rfl, F5, by assumption⟩
        · w_strict k_steps
          rename Fr _ _ _ _ => F5
          rw [hcutA _ (.inr ⟨rfl, hj0⟩)] at F5
          exact ⟨rfl, _, _, _, rfl, F5, by assumption⟩
      intro ta h5 tk5 F5 N5
      clear F4 N4
      (try dsimp only)
      w_strict walk1
      refine assign_cut (Str.ofString "b") (fun t => .str (mk (xb.take (xb.length - j))) t) F5 N5 ?_ ?_
      · rcases Nat.eq_zero_or_pos j with hj0 | hj0
        · w_strict k_steps
          rename Fr _ _ _ _ => F6
          rw [hcutB _ (.inl ⟨rfl, hj0⟩)] at F6
          exact ⟨rfl, _, _, _, rfl, F6, by assumption⟩
        · w_strict k_steps
          rename Fr _ _ _ _ => F6
          rw [hcutB _ (.inr ⟨rfl, hj0⟩)] at F6
          exact ⟨rfl, _, _, _, rfl, F6, by assumption⟩
      intro tb h6 tk6 F6 N6
      clear F5 N5 hcutA hcutB
      (try dsimp only)
      have hzl : (xa.take (xa.length - j)).length + j = xa.length := by rw [List.length_take]; omega
      have hwl : (xb.take (xb.length - j)).length + j = xb.length := by rw [List.length_take]; omega
      generalize xa.take (xa.length - j) = za at *
      generalize xb.take (xb.length - j) = zb at *
      have hlz : (mk za).length = za.length := mk_len za
      have hlw : (mk zb).length = zb.length := mk_len zb
      have hzw : za.length ≤ zb.length := by omega
      have hw40 : zb.length ≤ 40 := by omega
      clear hzl hwl hcq hxl hyl hlx2 hly2 hlx hly hcp
      have hza : (2 : Int) * (((mk za).length : Nat) + 1) = 2 * ((za.length : Nat) + 1) := by rw [hlz]
      have hz40 : za.length ≤ 40 := by omega
      w_strict k_steps
      · rename mc < _ => e7
        refine hret _ _ _ (stays_of eg F6) ?_
        refine int_is ?_
        rw [hlev, core, if_neg (by omega), if_pos (by omega)]
      rotate_left
      · rename _ = (0 : Int) => e7
        refine hret _ _ _ (stays_of eg F6) ?_
        refine int_is ?_
        rw [hlev, core, if_pos (by omega), hlz, hlw]
      refine unheld ?_
      rename ¬ mc < _ => e7
      rename _ ≠ (0 : Int) => e8
      have hlev2 : lev la lb mc = outerL za mc zb 0 (row0 za.length) 0 := by rw [hlev, core, if_neg (by omega), if_neg (by omega)]
      clear hlev
      rename Fr _ _ _ _ => F7
      rename News _ _ _ _ => N7
      rename IntsAre _ _ => I7
      refine' For_invVF F7 ?k1 ?k2 ?_ (by intro _; rfl) PassesOwn.never
      (case k1 => exact rfl)
      (case k2 => exact rfl)
      w_strict k_steps
      refine unheld ?_
      (try clear F7); (try clear N7)
      rename IsRange _ _ _ _ _ _ _ _ => rg
      rename Fr _ _ _ _ => F8
      rename News _ _ _ _ => N8
      refine' kst_range (σ := Int × Tok × List Int × List Value) (fun c => [(_, W.listOf c.2.2.2.toArray _)]) (fun c => [(Str.ofString "result", .int c.1 c.2.1)]) (fun c => IntsAre c.2.2.2 c.2.2.1)
        [Str.ofString "bchar", Str.ofString "distance", Str.ofString "minimum", Str.ofString "index", Str.ofString "substitute", Str.ofString "insert_delete"]
        (fun pre c => c.2.2.1.length = za.length ∧ lev la lb mc = outerL za mc (zb.drop pre.length) pre.length c.2.2.1 c.1)
        (0, _, row0 za.length, _) rfl rg (small_one (by omega) (by omega) (by omega) (by omega)) (rangeSize_nat _ _) F8 N8 (by assumption) ?rk ?rp ?rt ?rd
      case rk => exact List.forall_mem_cons.mpr ⟨by rfl, List.forall_mem_nil _⟩
      case rp => exact ⟨by simp [row0], by simpa using hlev2⟩
      case rt =>
        clear F8 N8
        rintro ⟨res, tr, row, ys⟩ pre k tkk u4 h9 tk9 own hk9 hpre hoff hI9 ⟨hrow, hl9⟩ F9 N9
        dsimp only at hI9 hrow hl9 F9 N9
        have hpl : pre.length < zb.length := by omega
        have hoff2 : ∀ p ∈ own, p.1 ≠ _ := hoff.ne (List.Mem.head _)
        have hdrop : zb.drop pre.length = zb[pre.length] :: zb.drop (pre.length + 1) := List.drop_eq_getElem_cons hpl
        w_strict k_steps
        refine unheld ?_
        rename _ = Txt.item (mk zb) _ => ey
        rename Fr _ _ _ _ => F10
        rename News _ _ _ _ => N10
        rw [hk9, Int.zero_add] at ey
        rw [item_nat zb hpl] at ey
        refine' For_invVF F10 ?k1 ?k2 ?_ (by intro _; rfl) PassesOwn.never
        (case k1 => exact rfl)
        (case k2 => exact rfl)
        w_strict k_steps
        refine unheld ?_
        (try clear F10)
        (try clear N10)
        rename IsRange _ _ _ _ _ _ _ _ => rg2
        rename Fr _ _ _ _ => F11
        rename News _ _ _ _ => N11
        refine' kst_range (σ := (Int × Tok) × (Int × Tok) × (Int × Tok) × List Int × List Value) (fun c => (_, W.listOf c.2.2.2.2.toArray _) :: own) (fun c => [(Str.ofString "distance", .int c.1.1 c.1.2), (Str.ofString "result", .int c.2.1.1 c.2.1.2), (Str.ofString "minimum", .int c.2.2.1.1 c.2.2.1.2)]) (fun c => IntsAre c.2.2.2.2 c.2.2.2.1)
          [Str.ofString "substitute", Str.ofString "insert_delete"]
          (fun pre2 c => inner zb[pre.length] za (start pre.length row) pre2.length = (c.1.1, c.2.1.1, c.2.2.1.1, c.2.2.2.1))
          ((_, _), (_, _), (_, _), row, ys) rfl rg2 (small_one (by omega) (by omega) (by omega) (by omega)) (rangeSize_nat _ _) F11 N11 (by assumption) ?sk ?sp ?st ?sd
        case sk => exact List.forall_mem_cons.mpr ⟨by rfl, List.forall_mem_cons.mpr ⟨by rfl, List.forall_mem_cons.mpr ⟨by rfl, List.forall_mem_nil _⟩⟩⟩
        case sp =>
          show start pre.length row = _
          rw [start, hk9]
          simp [Int.mul_comm]
        case st =>
          clear F11 N11
          rintro ⟨⟨d, td⟩, ⟨r, tr2⟩, ⟨mn, tm2⟩, row2, ys2⟩ pre2 k2 tkk2 u5 h12 tk12 own2 hk12 hpre2 hoff12 hI12 hin F12 N12
          dsimp only at hI12 hin F12 N12
          have hal : pre2.length < za.length := by omega
          have hrl : row2.length = za.length := by have := congrArg (fun z => z.2.2.2.length) hin; simp only [inner_len, start] at this; omega
          have hoff13 : ∀ p ∈ own ++ own2, p.1 ≠ _ := fun p hp => (List.mem_append.mp hp).elim (hoff2 p) (fun h => hoff12.ne (List.Mem.head _) p h)
          simp only [List.cons_append] at N12
          have hkt : k2.toNat = pre2.length := by omega
          w_strict k_steps
          all_goals (rename _ = Txt.item (mk za) _ => ey2)
          all_goals (rw [hk12, Int.zero_add, item_nat za hal] at ey2)
          · rename _ < mn => em
            rename _ = min r _ => ez1
            rename _ = min (_ + 2) _ => ez2
            refine' kst_end ((_, _), (_, _), (_, _), _, _) (by assumption) (by assumption) ?qn ?qo ?qa ?qf ?qk ?qr ?qp
            case qk => exact List.forall_mem_cons.mpr ⟨by rfl, List.forall_mem_cons.mpr ⟨by rfl, List.forall_mem_cons.mpr ⟨by rfl, List.forall_mem_nil _⟩⟩⟩
            case qf => assumption
            case qn => exact fun p hp => (List.mem_cons.mp hp).elim (fun e => e ▸ List.Mem.head _) (fun h => List.Mem.tail _ (List.mem_append.mpr (.inl h)))
            case qo => exact fun p hp => List.Mem.tail _ (List.mem_append.mpr (.inr hp))
            case qa => rfl
            case qr =>
              intro z h1 h2 h3
              have a1 := h2 _ (List.Mem.head _)
              have a2 := h2 _ (List.Mem.tail _ (List.Mem.head _))
              have a3 := h2 _ (List.Mem.tail _ (List.Mem.tail _ (List.Mem.head _)))
              simp only [List.contains_cons, List.contains_nil, Bool.or_false, Bool.or_eq_false_iff, beq_eq_false_iff_ne, ne_eq] at h3
              simp [a1, a2, a3, h1, h3, kstB]
            case qp =>
              show inner _ _ _ (pre2 ++ [k2]).length = _
              rw [List.length_append, List.length_singleton, inner, hin]
              rw [hkt] at ez1
              rw [inStep_is hal ez1 ez2 ey ey2, if_pos em, hkt]
              rfl
          · rename ¬ _ < mn => em
            rename _ = min r _ => ez1
            rename _ = min (_ + 2) _ => ez2
            refine' kst_end ((_, _), (_, _), (_, _), _, _) (by assumption) (by assumption) ?qn ?qo ?qa ?qf ?qk ?qr ?qp
            case qk => exact List.forall_mem_cons.mpr ⟨by rfl, List.forall_mem_cons.mpr ⟨by rfl, List.forall_mem_cons.mpr ⟨by rfl, List.forall_mem_nil _⟩⟩⟩
            case qf => assumption
            case qn => exact fun p hp => (List.mem_cons.mp hp).elim (fun e => e ▸ List.Mem.head _) (fun h => List.Mem.tail _ (List.mem_append.mpr (.inl h)))
            case qo => exact fun p hp => List.Mem.tail _ (List.mem_append.mpr (.inr hp))
            case qa => rfl
            case qr =>
              intro z h1 h2 h3
              have a1 := h2 _ (List.Mem.head _)
              have a2 := h2 _ (List.Mem.tail _ (List.Mem.head _))
              have a3 := h2 _ (List.Mem.tail _ (List.Mem.tail _ (List.Mem.head _)))
              simp only [List.contains_cons, List.contains_nil, Bool.or_false, Bool.or_eq_false_iff, beq_eq_false_iff_ne, ne_eq] at h3
              simp [a1, a2, a3, h1, h3, kstB]
            case qp =>
              show inner _ _ _ (pre2 ++ [k2]).length = _
              rw [List.length_append, List.length_singleton, inner, hin]
              rw [hkt] at ez1
              rw [inStep_is hal ez1 ez2 ey ey2, if_neg em, hkt]
              rfl
        case sd =>
          clear F11 N11
          rintro ⟨⟨d, td⟩, ⟨r, tr2⟩, ⟨mn, tm2⟩, row2, ys2⟩ u5 h12 tk12 hI12 hin F12 N12
          dsimp only at hI12 hin F12 N12
          have en : ((za.length : Int) - 0).toNat = za.length := by omega
          rw [rangeKs_length, hlz, en] at hin
          have hrl : row2.length = za.length := by have := congrArg (fun z => z.2.2.2.length) hin; simp only [inner_len, start] at this; omega
          rw [hdrop, outerL, hin] at hl9
          w_strict k_steps
          · rename mc < mn => em
            rw [if_pos em] at hl9
            exact hret _ _ _ (stays_of eg F12) (int_is hl9.symm)
          · rename ¬ mc < mn => em
            rw [if_neg em] at hl9
            refine' kst_end (_, _, _, _) F12 N12 ?qn ?qo ?qa ?qf ?qk ?qr ?qp
            case qk => exact List.forall_mem_cons.mpr ⟨by rfl, List.forall_mem_nil _⟩
            case qf => exact hI12
            case qn => exact List.forall_mem_cons.mpr ⟨List.Mem.head _, List.forall_mem_nil _⟩
            case qo => exact fun p hp => List.Mem.tail _ hp
            case qa => rfl
            case qr =>
              intro z h1 h2 h3
              have a1 := h2 _ (List.Mem.head _)
              simp only [List.contains_cons, List.contains_nil, Bool.or_false, Bool.or_eq_false_iff, beq_eq_false_iff_ne, ne_eq] at h3
              simp [a1, h1, h3, kstB]
            case qp =>
              refine ⟨hrl, ?_⟩
              rw [List.length_append, List.length_singleton]
              exact hl9
      case rd =>
        clear F8 N8
        rintro ⟨res, tr, row, ys⟩ u4 h9 tk9 hI9 ⟨hrow, hl9⟩ F9 N9
        dsimp only at hI9 hrow hl9 F9 N9
        w_strict k_steps
        refine hret _ _ _ (stays_of eg F9) ?_
        refine int_is ?_
        have en : ((zb.length : Int) - 0).toNat = zb.length := by omega
        rw [hl9, rangeKs_length, hlw, en, List.drop_length, outerL]
end Mine

/-! Comp -/
namespace Mine
open PySem.Calls
/-- two lists, item by item -/
inductive All2 {α β : Type} (R : α → β → Prop) : List α → List β → Prop
  | nil : All2 R [] []
  | cons {a : α} {b : β} {l : List α} {r : List β} : R a b → All2 R l r → All2 R (a :: l) (b :: r)
theorem All2.snoc {α β : Type} {R : α → β → Prop} {a : α} {b : β} (h : R a b) : ∀ {l : List α} {r : List β}, All2 R l r → All2 R (l ++ [a]) (r ++ [b])
  | _, _, .nil => .cons h .nil
  | _, _, .cons x q => .cons x (All2.snoc h q)
theorem All2.length {α β : Type} {R : α → β → Prop} : ∀ {l : List α} {r : List β}, All2 R l r → l.length = r.length
  | _, _, .nil => rfl
  | _, _, .cons _ q => by simp [All2.length q]
theorem All2.strs {α : Type} (f : α → Str) {R : α → Value → Prop} (h : ∀ a v, R a v → ∃ t, v = .str (f a) t) : ∀ {l : List α} {r : List Value}, All2 R l r → StrsAre r (l.map f)
  | _, _, .nil => .nil
  | _, _, .cons x q => by obtain ⟨t, rfl⟩ := h _ _ x; exact .cons _ t (All2.strs f h q)
theorem All2.ints {α : Type} (f : α → Int) {R : α → Value → Prop} (h : ∀ a v, R a v → ∃ t, v = .int (f a) t) : ∀ {l : List α} {r : List Value}, All2 R l r → IntsAre r (l.map f)
  | _, _, .nil => .nil
  | _, _, .cons x q => by obtain ⟨t, rfl⟩ := h _ _ x; exact .cons _ t (All2.ints f h q)
theorem strs_get : ∀ {vs : List Value} {ss : List Str}, StrsAre vs ss → ∀ (i : Nat) (v : Value), vs[i]? = some v → ∃ y t, ss[i]? = some y ∧ v = .str y t
  | _, _, .nil, i, v, h => by simp at h
  | _, _, .cons y t q, 0, v, h => by simp at h; exact ⟨y, t, by simp, h.symm⟩
  | _, _, .cons y t q, i + 1, v, h => by simpa using strs_get q i v (by simpa using h)
theorem strs_len : ∀ {vs : List Value} {ss : List Str}, StrsAre vs ss → vs.length = ss.length
  | _, _, .nil => rfl
  | _, _, .cons _ _ q => by simp [strs_len q]

/-- the end of a turn of a comprehension: nothing is kept but the item -/
def MyEl (news : List (Addr × Obj)) (R : Value → Prop) (y : Value) (news' : List (Addr × Obj)) : Prop := news' = news ∧ R y
section
variable {prog : Program} {w : World} {A : Around} {h₀ : Heap} {L : Addr} {m : Str → Option Value} {env : Env} {elt : Expr} {x : Str} {scope : Scope} {cl : List (Str × Addr)} {s : Shared} {S : List (Addr × Obj) → Prop} {P : Nat → Value → Prop} {Fin : List Value → List (Addr × Obj) → Prop} {news : List (Addr × Obj)}
theorem comp_rest {α : Type} {n : Nat} (xs : List α) (In Out : α → Value → Prop) (hxs : xs.length = n) (hP : ∀ i v, i < n → P i v → ∃ a, xs[i]? = some a ∧ In a v)
    (turn : ∀ a v I oI C oC D m₂ ys h tk (E' : Value → Shared → Prop), a ∈ xs → In a v → LCg.NsObj oC m₂ → m₂ x = some v → Fr h₀ L h m → News h₀ L h ((I, oI) :: (C, oC) :: (D, LCg.lst ys) :: news) → LCg.Off3 I C D news → ((@Ne Nat I C) ∧ (@Ne Nat I D) ∧ (@Ne Nat C D)) → S news →
      wpAny (model prog w) A (eval elt (compEnvC scope cl C env)) (LCg.CompEnd h₀ L m { s with heap := h, toks := tk } I oI C oC D (LCg.lst ys) S (fun y news' => MyEl news (Out a) y news')) E' { s with heap := h, toks := tk }) (hS : S news)
    (fin : ∀ ys, All2 Out xs ys → Fin ys news) : LCg.CompRest prog w A h₀ L m env elt x scope cl s S P Fin n 0 [] news := by
  have key : ∀ (j i : Nat) (ys : List Value), i + j = n → All2 Out (xs.take i) ys → LCg.CompRest prog w A h₀ L m env elt x scope cl s S P Fin j i ys news := by
    intro j
    induction j with
    | zero =>
      intro i ys hi hy
      have e : i = xs.length := by omega
      subst e
      rw [List.take_length] at hy
      exact LCg.CompRest.zero (fin ys hy)
    | succ j ih =>
      intro i ys hi hy
      refine LCg.CompRest.succ ?_
      intro v I oI C oC D m₂ h tk E' hv hC hx F N off ne
      obtain ⟨a, ha, hv'⟩ := hP i v (by omega) hv
      refine wpAny_mono (turn a v I oI C oC D m₂ ys h tk E' (List.mem_of_getElem? ha) hv' hC hx F N off ne hS) (fun y s₂ hq => ?_) fun _ _ e => e
      obtain ⟨h', tk', nw, e, F', N', off', hS', hn, hy'⟩ := hq
      rw [hn] at N' off' hS'
      refine ⟨h', tk', news, e, F', N', off', hS', ?_⟩
      refine ih (i + 1) _ (by omega) ?_
      rw [List.take_add_one, ha]
      exact All2.snoc hy' hy
  exact key n 0 [] (by omega) .nil
theorem comp_range {n : Nat} {a : Int} (Out : Int → Value → Prop)
    (turn : ∀ k t I oI C oC D m₂ ys h tk (E' : Value → Shared → Prop), a ≤ k → k < a + (n : Int) → LCg.NsObj oC m₂ → m₂ x = some (.int k t) → Fr h₀ L h m → News h₀ L h ((I, oI) :: (C, oC) :: (D, LCg.lst ys) :: news) → LCg.Off3 I C D news → ((@Ne Nat I C) ∧ (@Ne Nat I D) ∧ (@Ne Nat C D)) →
      wpAny (model prog w) A (eval elt (compEnvC scope cl C env)) (LCg.CompEnd h₀ L m { s with heap := h, toks := tk } I oI C oC D (LCg.lst ys) (fun _ => True) (fun y news' => MyEl news (Out k) y news')) E' { s with heap := h, toks := tk })
    (fin : ∀ ys, All2 Out (rangeKs a n) ys → Fin ys news) : LCg.CompRest prog w A h₀ L m env elt x scope cl s (fun _ => True) (fun i v => ∃ t, v = .int (a + (i : Int)) t) Fin n 0 [] news :=
  comp_rest (rangeKs a n) (fun k v => ∃ t, v = .int k t) Out (rangeKs_length a n) (fun i v hi hv => ⟨a + (i : Int), by simp [rangeKs, hi], hv⟩)
    (fun k v I oI C oC D m₂ ys h tk E' hk hv hC hx F N off ne _ => by
      obtain ⟨t, rfl⟩ := hv
      exact turn k t I oI C oC D m₂ ys h tk E' (mem_rangeKs hk).1 (mem_rangeKs hk).2 hC hx F N off ne) trivial fin
theorem comp_strs {vs : List Value} {ss : List Str} (Out : Str → Value → Prop) (hi : StrsAre vs ss)
    (turn : ∀ k t I oI C oC D m₂ ys h tk (E' : Value → Shared → Prop), k ∈ ss → LCg.NsObj oC m₂ → m₂ x = some (.str k t) → Fr h₀ L h m → News h₀ L h ((I, oI) :: (C, oC) :: (D, LCg.lst ys) :: news) → LCg.Off3 I C D news → ((@Ne Nat I C) ∧ (@Ne Nat I D) ∧ (@Ne Nat C D)) → S news →
      wpAny (model prog w) A (eval elt (compEnvC scope cl C env)) (LCg.CompEnd h₀ L m { s with heap := h, toks := tk } I oI C oC D (LCg.lst ys) S (fun y news' => MyEl news (Out k) y news')) E' { s with heap := h, toks := tk }) (hS : S news)
    (fin : ∀ ys, All2 Out ss ys → Fin ys news) : LCg.CompRest prog w A h₀ L m env elt x scope cl s S (fun i v => vs.toArray[i]? = some v) Fin vs.toArray.size 0 [] news :=
  comp_rest ss (fun k v => ∃ t, v = .str k t) Out (by rw [List.size_toArray]; exact (strs_len hi).symm) (fun i v _ hv => by
      obtain ⟨y, t, hy, e⟩ := strs_get hi i v (by simpa using hv)
      exact ⟨y, hy, t, e⟩)
    (fun k v I oI C oC D m₂ ys h tk E' hk hv hC hx F N off ne hS => by
      obtain ⟨t, rfl⟩ := hv
      exact turn k t I oI C oC D m₂ ys h tk E' hk hC hx F N off ne hS) hS fin
theorem comp_ints {vs : List Value} {ss : List Int} (Out : Int → Value → Prop) (hi : IntsAre vs ss)
    (turn : ∀ k t I oI C oC D m₂ ys h tk (E' : Value → Shared → Prop), k ∈ ss → LCg.NsObj oC m₂ → m₂ x = some (.int k t) → Fr h₀ L h m → News h₀ L h ((I, oI) :: (C, oC) :: (D, LCg.lst ys) :: news) → LCg.Off3 I C D news → ((@Ne Nat I C) ∧ (@Ne Nat I D) ∧ (@Ne Nat C D)) → S news →
      wpAny (model prog w) A (eval elt (compEnvC scope cl C env)) (LCg.CompEnd h₀ L m { s with heap := h, toks := tk } I oI C oC D (LCg.lst ys) S (fun y news' => MyEl news (Out k) y news')) E' { s with heap := h, toks := tk }) (hS : S news)
    (fin : ∀ ys, All2 Out ss ys → Fin ys news) : LCg.CompRest prog w A h₀ L m env elt x scope cl s S (fun i v => vs.toArray[i]? = some v) Fin vs.toArray.size 0 [] news :=
  comp_rest ss (fun k v => ∃ t, v = .int k t) Out (by rw [List.size_toArray]; exact hi.length.symm) (fun i v _ hv => by
      obtain ⟨k, t, e, hk⟩ := IntsAre.at hi i v (by simpa using hv)
      exact ⟨k, hk, t, e⟩)
    (fun k v I oI C oC D m₂ ys h tk E' hk hv hC hx F N off ne hS => by
      obtain ⟨t, rfl⟩ := hv
      exact turn k t I oI C oC D m₂ ys h tk E' hk hC hx F N off ne hS) hS fin
theorem el_end {I C D : Addr} {s₁ : Shared} {oI oC oD : Obj} {R : Value → Prop} {y : Value} {h' : Heap} {tk : Nat} (F : Fr h₀ L h' m) (N : News h₀ L h' ((I, oI) :: (C, oC) :: (D, oD) :: news)) (off : LCg.Off3 I C D news) (hS : S news) (r : R y) :
    LCg.CompEnd h₀ L m s₁ I oI C oC D oD S (fun y news' => MyEl news R y news') y { s₁ with heap := h', toks := tk } :=
  LCg.CompEnd.intro F N news (fun _ hp => hp) off hS ⟨rfl, r⟩
end
end Mine

/-! W1 -/
namespace Mine
open PySem.Calls
def Alpha (l : List Nat) : Prop := ∀ c ∈ l, c = 97 ∨ c = 98 ∨ c = 65 ∨ c = 66 ∨ c = 42 ∨ c = 47
theorem pow_six (k : Int) (h0 : 0 ≤ k) (h : k < 6) : (6 : Int) ^ k.toNat ≠ 0 ∧ ((6 : Int) ^ k.toNat).natAbs < 1073741824 := by
  obtain ⟨j, rfl⟩ := Int.eq_ofNat_of_zero_le h0
  have h' : j < 6 := by omega
  simp only [Int.toNat_natCast]
  exact (by decide : ∀ j : Nat, j < 6 → (6 : Int) ^ j ≠ 0 ∧ ((6 : Int) ^ j).natAbs < 1073741824) j h'
theorem len_six : (Str.ofString "abAB*/").length = 6 := by decide +kernel
section
variable {prog : Program} {w : World} {A : Around} {E : Value → Shared → Prop} {s : Shared} {Q : Value → Shared → Prop}
theorem div_six {x k : Int} {t u : Tok} (h0 : 0 ≤ k) (h6 : k < 6) (h : ∀ q tk, Q (.int q tk) { s with toks := s.toks + 1 }) : wpAny (model prog w) A (binaryOp .FloorDiv (.int x t) (.int (6 ^ k.toNat) u)) Q E s :=
  floordiv_int (pow_six k h0 h6).1 (h _ _) (Or.inl (PyProof.noPylong_small (pow_six k h0 h6).2))
theorem mod_six {x : Int} {t u : Tok} (h : ∀ q tk, 0 ≤ q → q < 6 → Q (.int q tk) { s with toks := s.toks + 1 }) : wpAny (model prog w) A (binaryOp .Mod (.int x t) (.int 6 u)) Q E s :=
  mod_int' (by decide) (h _ _ (Int.fmod_nonneg_of_pos _ (by decide)) (Int.fmod_lt_of_pos _ (by decide)))
end
theorem sign_is {q : Int} (h0 : 0 ≤ q) (h6 : q < 6) : ∃ c, Txt.item (Str.ofString "abAB*/") q = mk [c] ∧ Alpha [c] := by
  have e : Str.ofString "abAB*/" = mk [97, 98, 65, 66, 42, 47] := by decide +kernel
  obtain ⟨j, rfl⟩ := Int.eq_ofNat_of_zero_le h0
  have h' : j < 6 := by omega
  refine ⟨([97, 98, 65, 66, 42, 47] : List Nat)[j]'(by simpa using h'), ?_, ?_⟩
  · rw [e]; exact item_nat _ (by simpa using h')
  · intro c hc
    rw [List.mem_singleton] at hc
    subst hc
    exact (by decide : ∀ j (h : j < 6), ([97, 98, 65, 66, 42, 47] : List Nat)[j]'(by simpa using h) = 97 ∨ ([97, 98, 65, 66, 42, 47] : List Nat)[j]'(by simpa using h) = 98 ∨ ([97, 98, 65, 66, 42, 47] : List Nat)[j]'(by simpa using h) = 65 ∨ ([97, 98, 65, 66, 42, 47] : List Nat)[j]'(by simpa using h) = 66 ∨ ([97, 98, 65, 66, 42, 47] : List Nat)[j]'(by simpa using h) = 42 ∨ ([97, 98, 65, 66, 42, 47] : List Nat)[j]'(by simpa using h) = 47) j h'
theorem mk_app (a b : List Nat) : mk a ++ mk b = mk (a ++ b) := by
  show Str.append _ _ = _
  unfold Str.append mk
  simp
theorem join_mk (cs : List Nat) : Txt.join (Str.ofString "") (cs.map fun c => mk [c]) = mk cs := by
  show Builtin.Str.glued (PySem.Str.ofString "") _ = _
  rw [StrLaws.glued_eq_join]
  have e : Str.ofString "" = mk [] := by decide +kernel
  rw [e]
  induction cs with
  | nil => rfl
  | cons a r ih =>
    cases r with
    | nil => rfl
    | cons b q =>
      show mk [a] ++ mk [] ++ Str.join (mk []) ((b :: q).map fun c => mk [c]) = _
      rw [ih, mk_app, mk_app]; rfl
theorem words_all {ks : List Int} {ys : List Value} (h : All2 (fun _ v => ∃ c t, v = .str (mk [c]) t ∧ Alpha [c]) ks ys) : ∃ cs : List Nat, StrsAre ys (cs.map fun c => mk [c]) ∧ cs.length = ks.length ∧ Alpha cs := by
  induction h with
  | nil => exact ⟨[], .nil, rfl, fun _ h => nomatch h⟩
  | cons x _ ih =>
    obtain ⟨cs, h1, h2, h3⟩ := ih
    obtain ⟨c, t, rfl, hc⟩ := x
    refine ⟨c :: cs, .cons _ _ h1, by simp [h2], fun d hd => ?_⟩
    rcases List.mem_cons.mp hd with rfl | hd
    · exact hc _ (List.Mem.head _)
    · exact h3 d hd
local macro_rules | `(tactic| walk_at "binaryOp FloorDiv int int") => `(tactic| (refine div_six (by omega) (by omega) ?_; intro _ _))
local macro_rules | `(tactic| walk_at "binaryOp Mod int int") => `(tactic| (refine mod_six ?_; intro _ _ _ _))
local macro_rules | `(tactic| walk_at "subscriptTail Constant BinOp str int") => `(tactic| (refine item_var (fitsSsize_of (N := 9223372036854775808) (by omega) (by omega) (Int.le_refl _)) (by simp only [len_six]; omega) (by simp only [len_six]; omega) ?_; intro _ _ _ ey9 _))
local macro_rules | `(tactic| walk_at "CompSrc") => `(tactic| (refine held ?_))
local macro_rules | `(tactic| walk_at "CompEnd") => `(tactic| (refine held ?_))
theorem says_word {w : World} {mean : ExcName → Option Value} {mg mb : Str → Option Value} (x : Int) (n : Nat) (tx tn : Tok) (hn : n ≤ 6) :
    Says w mean mg mb 82 1 16 [.int x tx, .int n tn] (fun _ => True) (fun _ v _ => ∃ l t, v = .str (mk l) t ∧ l.length = n ∧ Alpha l) := by
  unfold Says
  k_fill
  w_on
  intro dp un gd cn cs a ccd cl outer A₀ base h₀ L m s Q E B F X T hk hp hd hu hret
  refine wpAny_call ?_
  refine' enter_cells ?k1 ?k2 ?k3 ?k5 ?kA ?kF ?kK ?k6 ?k7 ?k8 ?k9 ?kB ?kN ?_ ?c2 ?c3 ?c4
  (case kA => exact rfl)
  (case kF => exact rfl)
  (case kK => assumption)
  (case k1 => k_asm)
  (case k2 => k_asm)
  (case k3 => k_asm)
  (case k5 => k_asm)
  (case k6 => k_is)
  (case k7 => k_is)
  (case k8 => ktr_room)
  (case k9 => exact BindsTo.of_eq rfl)
  (case kB => rfl)
  (case kN => decide)
  (case c2 => exact rfl)
  (case c3 => exact rfl)
  (case c4 => exact rfl)
  intro g' L' h' tk' cells eg F' N' Y' B' X' T'
  k_cells Y'
  (try dsimp only)
  (try k_lift B')
  (try k_fold)
  w_strict k_steps
  refine unheld ?_
  rename IsRange _ _ _ _ _ _ _ _ => rg
  rename Fr _ _ _ _ => F1
  rename News _ _ _ _ => N1
  refine LCg.CompSrc.range rfl F1 N1 rg (small_one (by omega) (by omega) (by omega) (by omega)) (rangeSize_nat _ _) (by rw [PySem.sizeLine_eq]; omega) ?_
  intro g1
  refine comp_range (fun _ v => ∃ c t, v = .str (mk [c]) t ∧ Alpha [c]) ?_ ?_
  · intro k tk I oI C oC D m₂ ys h1 tk1 E' hlo hhi hC hx F2 N2 off ne
    clear F1 N1
    w_strict k_steps
    refine unheld ?_
    refine el_end (by assumption) (by assumption) off trivial ?_
    obtain ⟨c, hc, hc'⟩ := sign_is (by assumption) (by assumption)
    rw [hc]
    exact ⟨c, _, rfl, hc'⟩
  · intro ys hys
    clear F1 N1
    w_strict k_steps
    rename Fr _ _ _ _ => F3
    rename News _ _ _ _ => N3
    obtain ⟨cs, h1, h2, h3⟩ := words_all hys
    have h4 : cs.length = n := by rw [h2, rangeKs_length]; omega
    have hc := h1.carried
    rw [List.map_map] at hc
    refine KT.join_1 (g := fun c => mk [c]) (News.isList N3 (List.Mem.head _)) hc (fun c _ => mk_len [c]) (by omega) ?_
    intro t' k' _
    rw [join_mk]
    exact hret _ _ _ (stays_of eg F3) ⟨cs, t', rfl, h4, h3⟩
end Mine

/-! W2 -/
namespace Mine
open PySem.Calls
/-- a new list comes back -/
def NewList (h h' : Heap) (v : Value) (P : List Value → Prop) : Prop := ∃ D c ys, v = .ref D ∧ h'.get? D = some (W.listOf ys.toArray c) ∧ h.get? D = none ∧ P ys
theorem newList_of {g h h' : Heap} {L : Addr} {D : Addr} {ys : List Value} {news : List (Addr × Obj)} {P : List Value → Prop} (e : g = h) (N : News g L h' ((D, LCg.lst ys) :: news)) (p : P ys) : NewList h h' (.ref D) P :=
  ⟨D, ys.length, ys, rfl, (N _ (List.Mem.head _)).1, e ▸ (N _ (List.Mem.head _)).2.2, p⟩
def pieces (l : List Nat) (n : Nat) : List (List Nat) := (List.range (l.length + 1 - n)).map fun k => (l.drop k).take n
theorem range_map {α : Type} (f : Nat → α) (n : Nat) : (rangeKs 0 n).map (fun k => f k.toNat) = (List.range n).map f := by
  unfold rangeKs
  rw [List.map_map]
  apply List.map_congr_left
  intro i _
  simp
local macro_rules | `(tactic| walk_at "CompSrc") => `(tactic| (refine held ?_))
local macro_rules | `(tactic| walk_at "CompEnd") => `(tactic| (refine held ?_))
theorem says_pieces {w : World} {mean : ExcName → Option Value} {mg mb : Str → Option Value} (l : List Nat) (n : Nat) (tx tn : Tok) (hl : l.length ≤ 6) (hn : n ≤ 4) :
    Says w mean mg mb 94 1 16 [.str (mk l) tx, .int n tn] (fun _ => True) (fun h v h' => NewList h h' v fun ys => StrsAre ys ((pieces l n).map mk)) := by
  unfold Says
  k_fill
  w_on
  intro dp un gd cn cs a ccd cl outer A₀ base h₀ L m s Q E B F X T hk hp hd hu hret
  refine wpAny_call ?_
  refine' enter_cells ?k1 ?k2 ?k3 ?k5 ?kA ?kF ?kK ?k6 ?k7 ?k8 ?k9 ?kB ?kN ?_ ?c2 ?c3 ?c4
  (case kA => exact rfl)
  (case kF => exact rfl)
  (case kK => assumption)
  (case k1 => k_asm)
  (case k2 => k_asm)
  (case k3 => k_asm)
  (case k5 => k_asm)
  (case k6 => k_is)
  (case k7 => k_is)
  (case k8 => ktr_room)
  (case k9 => exact BindsTo.of_eq rfl)
  (case kB => rfl)
  (case kN => decide)
  (case c2 => exact rfl)
  (case c3 => exact rfl)
  (case c4 => exact rfl)
  intro g' L' h' tk' cells eg F' N' Y' B' X' T'
  k_cells Y'
  (try dsimp only)
  (try k_lift B')
  (try k_fold)
  have hlx : (mk l).length = l.length := mk_len l
  w_strict k_steps
  refine unheld ?_
  rename IsRange _ _ _ _ _ _ _ _ => rg
  rename Fr _ _ _ _ => F1
  rename News _ _ _ _ => N1
  refine LCg.CompSrc.range rfl F1 N1 rg (small_one (by omega) (by omega) (by omega) (by omega)) (rangeSize_nat _ _) (by rw [PySem.sizeLine_eq]; omega) ?_
  intro g1
  refine comp_range (fun k v => ∃ t, v = .str (mk ((l.drop k.toNat).take n)) t) ?_ ?_
  · intro k tk I oI C oC D m₂ ys h1 tk1 E' hlo hhi hC hx F2 N2 off ne
    clear F1 N1
    w_strict k_steps
    refine unheld ?_
    refine el_end (by assumption) (by assumption) off trivial ?_
    rw [slice_mid l (by omega) (by omega) (by omega)]
    have e : (k + (n : Int) - k).toNat = n := by omega
    rw [e]
    exact ⟨_, rfl⟩
  · intro ys hys
    clear F1 N1
    w_strict k_steps
    rename Fr _ _ _ _ => F3
    rename News _ _ _ _ => N3
    refine hret _ _ _ (stays_of eg F3) (newList_of eg N3 ?_)
    have e := All2.strs (fun k : Int => mk ((l.drop k.toNat).take n)) (fun a v h => h) hys
    have en : (((mk l).length : Int) - (n : Int) + 1 - 0).toNat = l.length + 1 - n := by rw [hlx]; omega
    rw [en, range_map (fun k => mk ((l.drop k).take n))] at e
    rw [pieces, List.map_map]
    exact e
def shorter (l : List Nat) : List (List Nat) := (List.range l.length).map fun k => l.take k ++ l.drop (k + 1)
theorem says_shorter {w : World} {mean : ExcName → Option Value} {mg mb : Str → Option Value} (l : List Nat) (tx : Tok) (hl : l.length ≤ 6) :
    Says w mean mg mb 99 1 16 [.str (mk l) tx] (fun _ => True) (fun h v h' => NewList h h' v fun ys => StrsAre ys ((shorter l).map mk)) := by
  unfold Says
  k_fill
  w_on
  intro dp un gd cn cs a ccd cl outer A₀ base h₀ L m s Q E B F X T hk hp hd hu hret
  refine wpAny_call ?_
  refine' enter_cells ?k1 ?k2 ?k3 ?k5 ?kA ?kF ?kK ?k6 ?k7 ?k8 ?k9 ?kB ?kN ?_ ?c2 ?c3 ?c4
  (case kA => exact rfl)
  (case kF => exact rfl)
  (case kK => assumption)
  (case k1 => k_asm)
  (case k2 => k_asm)
  (case k3 => k_asm)
  (case k5 => k_asm)
  (case k6 => k_is)
  (case k7 => k_is)
  (case k8 => ktr_room)
  (case k9 => exact BindsTo.of_eq rfl)
  (case kB => rfl)
  (case kN => decide)
  (case c2 => exact rfl)
  (case c3 => exact rfl)
  (case c4 => exact rfl)
  intro g' L' h' tk' cells eg F' N' Y' B' X' T'
  k_cells Y'
  (try dsimp only)
  (try k_lift B')
  (try k_fold)
  have hlx : (mk l).length = l.length := mk_len l
  w_strict k_steps
  refine unheld ?_
  rename IsRange _ _ _ _ _ _ _ _ => rg
  rename Fr _ _ _ _ => F1
  rename News _ _ _ _ => N1
  refine LCg.CompSrc.range rfl F1 N1 rg (small_one (by omega) (by omega) (by omega) (by omega)) (rangeSize_nat _ _) (by rw [PySem.sizeLine_eq]; omega) ?_
  intro g1
  refine comp_range (fun k v => ∃ t, v = .str (mk (l.take k.toNat ++ l.drop (k.toNat + 1))) t) ?_ ?_
  · intro k tk I oI C oC D m₂ ys h1 tk1 E' hlo hhi hC hx F2 N2 off ne
    clear F1 N1
    w_strict k_steps
    refine unheld ?_
    refine el_end (by assumption) (by assumption) off trivial ?_
    rw [slice_to l (by omega) (by omega), slice_from l (by omega) (by omega), mk_app]
    have e : (k + 1).toNat = k.toNat + 1 := by omega
    rw [e]
    exact ⟨_, rfl⟩
  · intro ys hys
    clear F1 N1
    w_strict k_steps
    rename Fr _ _ _ _ => F3
    rename News _ _ _ _ => N3
    refine hret _ _ _ (stays_of eg F3) (newList_of eg N3 ?_)
    have e := All2.strs (fun k : Int => mk (l.take k.toNat ++ l.drop (k.toNat + 1))) (fun a v h => h) hys
    have en : (((mk l).length : Int) - 0).toNat = l.length := by rw [hlx]; omega
    rw [en, range_map (fun k => mk (l.take k ++ l.drop (k + 1)))] at e
    rw [shorter, List.map_map]
    exact e
end Mine

/-! Cas -/
namespace Mine
def low (c : Nat) : Nat := if c = 65 then 97 else if c = 66 then 98 else c
def upp (c : Nat) : Nat := if c = 97 then 65 else if c = 98 then 66 else c
def swp (c : Nat) : Nat := if c = 97 then 65 else if c = 98 then 66 else if c = 65 then 97 else if c = 66 then 98 else c
theorem flat_one (g : Nat → Nat) (l : List Nat) : (l.map fun c => [g c]).flatten = l.map g := by
  induction l with
  | nil => rfl
  | cons a r ih => simp [ih]
theorem placed_map (l : List Nat) (f : Nat → Nat → List Nat) (g : Nat → Nat) (h : ∀ i (hi : i < l.length), f i l[i] = [g l[i]]) : (((mk l).cps.mapIdx fun i c => (f i c).toArray).flatten) = (l.map g).toArray := by
  have e : ((mk l).cps.mapIdx fun i c => (f i c).toArray) = (l.map fun c => #[g c]).toArray := by
    apply Array.ext
    · simp [mk]
    · intro i h1 h2
      have h3 : i < l.length := by simpa [mk] using h1
      simp [mk, h i h3]
  rw [e]
  apply Array.toList_inj.mp
  rw [Array.toList_flatten]
  simp only [List.map_map]
  exact flat_one g l
def alphaB : List Nat := [97, 98, 65, 66, 42, 47]
theorem alpha_mem {l : List Nat} (h : Alpha l) : ∀ c ∈ l, c ∈ alphaB := fun c hc => by
  rcases h c hc with h | h | h | h | h | h <;> subst h <;> decide
theorem low_of : ∀ c ∈ alphaB, Unicode.lowerOf c = [low c] := by decide +kernel
theorem upp_of : ∀ c ∈ alphaB, Unicode.upperOf c = [upp c] := by decide +kernel
theorem isU : ∀ c ∈ alphaB, Unicode.isUpper c = (c == 65 || c == 66) := by decide +kernel
theorem isL : ∀ c ∈ alphaB, Unicode.isLower c = (c == 97 || c == 98) := by decide +kernel
theorem low_at {l : List Nat} (h : Alpha l) (i : Nat) (hi : i < l.length) : Unicode.lowerAt (mk l).cps i = [low l[i]] := by
  have hm := alpha_mem h l[i] (List.getElem_mem hi)
  unfold Unicode.lowerAt
  have e : (mk l).cps[i]? = some l[i] := by simp [mk, hi]
  rw [e]
  have n : (l[i] == 0x3A3) = false := (by decide : ∀ c ∈ alphaB, (c == 0x3A3) = false) _ hm
  simp only [n, Bool.false_and, Bool.false_eq_true, if_false]
  exact low_of _ hm
theorem lower_mk {l : List Nat} (h : Alpha l) : Txt.lower (mk l) = mk (l.map low) :=
  congrArg Str.mk (placed_map l (fun i _ => Unicode.lowerAt (mk l).cps i) low fun i hi => low_at h i hi)
theorem upper_mk {l : List Nat} (h : Alpha l) : Txt.upper (mk l) = mk (l.map upp) :=
  congrArg Str.mk (placed_map l (fun _ c => Unicode.upperOf c) upp fun i hi => upp_of _ (alpha_mem h _ (List.getElem_mem hi)))
theorem swap_mk {l : List Nat} (h : Alpha l) : Txt.swapcase (mk l) = mk (l.map swp) :=
  congrArg Str.mk (placed_map l (fun i c => if Unicode.isUpper c then Unicode.lowerAt (mk l).cps i else if Unicode.isLower c then Unicode.upperOf c else [c]) swp fun i hi => by
    have hm := alpha_mem h _ (List.getElem_mem hi)
    rw [low_at h i hi, upp_of _ hm, isU _ hm, isL _ hm]
    exact (by decide : ∀ c ∈ alphaB, (if (c == 65 || c == 66) = true then [low c] else if (c == 97 || c == 98) = true then [upp c] else [c]) = [swp c]) _ hm)
theorem alpha_low {l : List Nat} (h : Alpha l) : Alpha (l.map low) := fun c hc => by
  obtain ⟨d, hd, rfl⟩ := List.mem_map.mp hc
  rcases h d hd with h | h | h | h | h | h <;> subst h <;> decide
theorem alpha_upp {l : List Nat} (h : Alpha l) : Alpha (l.map upp) := fun c hc => by
  obtain ⟨d, hd, rfl⟩ := List.mem_map.mp hc
  rcases h d hd with h | h | h | h | h | h <;> subst h <;> decide
theorem alpha_swp {l : List Nat} (h : Alpha l) : Alpha (l.map swp) := fun c hc => by
  obtain ⟨d, hd, rfl⟩ := List.mem_map.mp hc
  rcases h d hd with h | h | h | h | h | h <;> subst h <;> decide
end Mine

/-! W3 -/
namespace Mine
open PySem.Calls
theorem says_lev2 {w : World} {mean : ExcName → Option Value} {mg mb : Str → Option Value} {x p : List Nat} {tx ty : Tok} {mc : Int} {tm : Tok} (hx : Alpha x) (hp : Alpha p) (h : x.length ≤ p.length) (h4 : p.length ≤ 40) :
    Says w mean mg mb 77 2 16 [.str (Txt.lower (mk x)) tx, .str (Txt.upper (mk p)) ty, .int mc tm] (fun _ => True) (fun _ v _ => ∃ t, v = .int (lev (x.map low) (p.map upp) mc) t) := by
  rw [lower_mk hx, upper_mk hp]
  exact says_lev _ _ _ _ _ _ (by simpa using h) (by simpa using h4)
def overL (x : List Nat) (ps : List (List Nat)) (least spare : Int) : List Int := ps.map fun p => lev (x.map low) (p.map upp) (least + spare) - least
def IsStrs (a : Addr) (ps : List (List Nat)) (h : Heap) : Prop := ∃ c vs, h.get? a = some (W.listOf vs.toArray c) ∧ StrsAre vs (ps.map mk)
local macro_rules | `(tactic| walk_at "CompSrc") => `(tactic| (refine held ?_))
local macro_rules | `(tactic| walk_at "CompEnd") => `(tactic| (refine held ?_))
local macro_rules | `(tactic| walk_at "call ref") => `(tactic| (k_here; (with_reducible show wpAny _ _ (call (Value.ref 77) [Value.str (Txt.lower (mk _)) _, Value.str (Txt.upper (mk _)) _, Value.int _ _]) _ _ _); (refine' Says.use (says_lev2 ?l1 ?l2 ?l3 ?l4) ?k1 ?k2 ?k3 ?k4 ?k5 ?k6 ?k7 ?k8 ?k9 ?_; (case l1 => assumption); (case l2 => assumption); (case l3 => assumption); (case l4 => omega); (case k1 => k_asm); (case k2 => k_asm); (case k3 => k_asm); (case k4 => k_asm); (case k5 => k_asm); (case k6 => first | exact rfl | assumption); (case k7 => exact trivial); (case k8 => ktr_room); (case k9 => ktr_units)); intro v9 h9 tk9 F9 N9 P9; obtain ⟨t9, e9⟩ := P9; subst e9; (try dsimp only); (try k_fold)))
theorem says_over {w : World} {mean : ExcName → Option Value} {mg mb : Str → Option Value} (x : List Nat) (ps : List (List Nat)) (P : Addr) (least spare : Int) (t1 t2 t3 : Tok) (hx : Alpha x) (hx3 : x.length ≤ 3) (hps : ∀ p ∈ ps, Alpha p ∧ x.length ≤ p.length ∧ p.length ≤ 6) (hpl : ps.length ≤ 7) :
    Says w mean mg mb 104 3 32 [.str (mk x) t1, .ref P, .int least t2, .int spare t3] (IsStrs P ps) (fun h v h' => NewList h h' v fun ys => IntsAre ys (overL x ps least spare)) := by
  unfold Says
  k_fill
  w_on
  intro dp un gd cn cs a ccd cl outer A₀ base h₀ L m s Q E B F X T hk hp hd hu hret
  refine wpAny_call ?_
  refine' enter_cells ?k1 ?k2 ?k3 ?k5 ?kA ?kF ?kK ?k6 ?k7 ?k8 ?k9 ?kB ?kN ?_ ?c2 ?c3 ?c4
  (case kA => exact rfl)
  (case kF => exact rfl)
  (case kK => assumption)
  (case k1 => k_asm)
  (case k2 => k_asm)
  (case k3 => k_asm)
  (case k5 => k_asm)
  (case k6 => k_is)
  (case k7 => k_is)
  (case k8 => ktr_room)
  (case k9 => exact BindsTo.of_eq rfl)
  (case kB => rfl)
  (case kN => decide)
  (case c2 => exact rfl)
  (case c3 => exact rfl)
  (case c4 => exact rfl)
  intro g' L' h' tk' cells eg F' N' Y' B' X' T'
  k_cells Y'
  (try dsimp only)
  (try k_lift B')
  (try k_fold)
  have hlx : (mk x).length = x.length := mk_len x
  obtain ⟨c, vs, hvs, hst⟩ := hp
  have hL : g'.IsList P vs.toArray := by rw [eg]; exact ⟨_, hvs, rfl, _, rfl⟩
  w_strict k_steps
  refine unheld ?_
  rename Fr _ _ _ _ => F1
  rename News _ _ _ _ => N1
  refine LCg.CompSrc.base rfl F1 N1 hL (by rw [PySem.sizeLine_eq, List.size_toArray, strs_len hst, List.length_map]; omega) ?_
  intro g1
  refine comp_strs (fun k v => ∃ t, v = .int (lev (x.map low) (k.cps.toList.map upp) (least + spare) - least) t) hst ?_ (.inl hL) ?_
  · intro k tk I oI C oC D m₂ ys h1 tk1 E' hk hC hx F2 N2 off ne hS
    clear F1 N1
    obtain ⟨p, hp, rfl⟩ := List.mem_map.mp hk
    obtain ⟨ha, hle, hl6⟩ := hps p hp
    have hlp : (mk p).length = p.length := mk_len p
    w_strict k_steps
    refine unheld ?_
    exact el_end (by assumption) (by assumption) off hS ⟨_, rfl⟩
  · intro ys hys
    clear F1 N1
    w_strict k_steps
    rename Fr _ _ _ _ => F3
    rename News _ _ _ _ => N3
    refine hret _ _ _ (stays_of eg F3) (newList_of eg N3 ?_)
    have e := All2.ints (fun k : Str => lev (x.map low) (k.cps.toList.map upp) (least + spare) - least) (fun a v h => h) hys
    rw [List.map_map] at e
    exact e
end Mine

/-! CompT -/
namespace Mine
open PySem.Calls
section
variable {prog : Program} {w : World} {A : Around} {h₀ : Heap} {L : Addr} {m : Str → Option Value} {env : Env} {ct elt : Expr} {x : Str} {scope : Scope} {cl : List (Str × Addr)} {s : Shared} {S : List (Addr × Obj) → Prop} {P : Nat → Value → Prop} {Fin : List Value → List (Addr × Obj) → Prop} {news : List (Addr × Obj)} {E : Value → Shared → Prop}
theorem comp_restT {α : Type} {n : Nat} (xs : List α) (In Out : α → Value → Prop) (b : α → Bool) (hxs : xs.length = n) (hP : ∀ i v, i < n → P i v → ∃ a, xs[i]? = some a ∧ In a v)
    (turn : ∀ a v I oI C oC D m₂ ys h tk (E' : Value → Shared → Prop), a ∈ xs → In a v → LCg.NsObj oC m₂ → m₂ x = some v → Fr h₀ L h m → News h₀ L h ((I, oI) :: (C, oC) :: (D, LCg.lst ys) :: news) → LCg.Off3 I C D news → ((@Ne Nat I C) ∧ (@Ne Nat I D) ∧ (@Ne Nat C D)) → S news →
      wpAny (model prog w) A (isTrue ct (compEnvC scope cl C env) (eval ct (compEnvC scope cl C env))) (fun ok s' => if ok = true then
        wpAny (model prog w) A (eval elt (compEnvC scope cl C env)) (LCg.CompEnd h₀ L m { s with heap := h, toks := tk } I oI C oC D (LCg.lst ys) S (fun y news' => MyEl news (fun y => b a = true ∧ Out a y) y news')) E' s'
        else LCg.CompEnd h₀ L m { s with heap := h, toks := tk } I oI C oC D (LCg.lst ys) S (fun y news' => MyEl news (fun _ => b a = false) y news') Value.none s') E' { s with heap := h, toks := tk }) (hS : S news)
    (fin : ∀ ys, All2 Out (xs.filter b) ys → Fin ys news) : LCt.CompRestT prog w A h₀ L m env ct elt x scope cl s S P Fin n 0 [] news := by
  have key : ∀ (j i : Nat) (ys : List Value), i + j = n → All2 Out ((xs.take i).filter b) ys → LCt.CompRestT prog w A h₀ L m env ct elt x scope cl s S P Fin j i ys news := by
    intro j
    induction j with
    | zero =>
      intro i ys hi hy
      have e : i = xs.length := by omega
      subst e
      rw [List.take_length] at hy
      exact LCt.CompRestT.zero (fin ys hy)
    | succ j ih =>
      intro i ys hi hy
      refine LCt.CompRestT.succ ?_
      intro v I oI C oC D m₂ h tk E' hv hC hx F N off ne
      obtain ⟨a, ha, hv'⟩ := hP i v (by omega) hv
      have et : (xs.take (i + 1)) = xs.take i ++ [a] := by rw [List.take_add_one, ha]; rfl
      refine wpAny_mono (turn a v I oI C oC D m₂ ys h tk E' (List.mem_of_getElem? ha) hv' hC hx F N off ne hS) (fun ok s₂ hq => ?_) fun _ _ e => e
      cases ok with
      | true =>
        simp only [if_true] at hq ⊢
        refine wpAny_mono hq (fun y s₃ hq => ?_) fun _ _ e => e
        obtain ⟨h', tk', nw, e, F', N', off', hS', hn, hb, hy'⟩ := hq
        rw [hn] at N' off' hS'
        refine ⟨h', tk', news, e, F', N', off', hS', ?_⟩
        refine ih (i + 1) _ (by omega) ?_
        rw [et, List.filter_append]
        have eb : [a].filter b = [a] := by simp [hb]
        rw [eb]
        exact All2.snoc hy' hy
      | false =>
        simp only [Bool.false_eq_true, if_false] at hq ⊢
        obtain ⟨h', tk', nw, e, F', N', off', hS', hn, hb⟩ := hq
        rw [hn] at N' off' hS'
        refine ⟨h', tk', news, e, F', N', off', hS', ?_⟩
        refine ih (i + 1) _ (by omega) ?_
        rw [et, List.filter_append]
        have eb : [a].filter b = [] := by simp [hb]
        rw [eb, List.append_nil]
        exact hy
  exact key n 0 [] (by omega) (by simpa using All2.nil)
theorem comp_signs (l : List Nat) (Out : Nat → Value → Prop) (b : Nat → Bool)
    (turn : ∀ c t I oI C oC D m₂ ys h tk (E' : Value → Shared → Prop), c ∈ l → LCg.NsObj oC m₂ → m₂ x = some (.str (mk [c]) t) → Fr h₀ L h m → News h₀ L h ((I, oI) :: (C, oC) :: (D, LCg.lst ys) :: news) → LCg.Off3 I C D news → ((@Ne Nat I C) ∧ (@Ne Nat I D) ∧ (@Ne Nat C D)) →
      wpAny (model prog w) A (isTrue ct (compEnvC scope cl C env) (eval ct (compEnvC scope cl C env))) (fun ok s' => if ok = true then
        wpAny (model prog w) A (eval elt (compEnvC scope cl C env)) (LCg.CompEnd h₀ L m { s with heap := h, toks := tk } I oI C oC D (LCg.lst ys) (fun _ => True) (fun y news' => MyEl news (fun y => b c = true ∧ Out c y) y news')) E' s'
        else LCg.CompEnd h₀ L m { s with heap := h, toks := tk } I oI C oC D (LCg.lst ys) (fun _ => True) (fun y news' => MyEl news (fun _ => b c = false) y news') Value.none s') E' { s with heap := h, toks := tk })
    (fin : ∀ ys, All2 Out (l.filter b) ys → Fin ys news) : LCt.CompRestT prog w A h₀ L m env ct elt x scope cl s (fun _ => True) (SignAt (mk l)) Fin (mk l).cps.size 0 [] news :=
  comp_restT l (fun c v => ∃ t, v = .str (mk [c]) t) Out b (by simp [mk]) (fun i v hi hv => by
      obtain ⟨c, u, hc, e⟩ := hv
      exact ⟨c, by simpa [mk] using hc, u, e⟩)
    (fun k v I oI C oC D m₂ ys h tk E' hk hv hC hx F N off ne _ => by
      obtain ⟨t, rfl⟩ := hv
      exact turn k t I oI C oC D m₂ ys h tk E' hk hC hx F N off ne) trivial fin
def SrcTx (prog : Program) (w : World) (A : Around) (h₀ : Heap) (L : Addr) (m : Str → Option Value) (env : Env) (ct elt : Expr) (x : Str) (scope : Scope) (cl : List (Str × Addr)) (Fin : Shared → List Value → List (Addr × Obj) → Prop) (xv : Value) (s₁ : Shared) : Prop :=
  ∃ y t news, xv = .str y t ∧ y.cps.all (· < 128) = true ∧ y.cps.size ≤ sizeLine ∧ A.handled = none ∧ Fr h₀ L s₁.heap m ∧ News h₀ L s₁.heap news ∧
    ∀ g, LCt.CompRestT prog w A h₀ L m env ct elt x scope cl { s₁ with heap := g } (fun _ => True) (SignAt y) (Fin { s₁ with heap := g }) y.cps.size 0 [] news
theorem comp_text {iter : Expr} {px pos : Pos} {Q : Value → Shared → Prop} (_F₀ : Fr h₀ L s.heap m)
    (hclos : closureFor scope env = pure cl) (hcell : ∀ y ∈ scope.names, y.2 ≠ .cell) (hkind : scope.kind = .function)
    (hnames : ∀ y ∈ scope.names, y.2 = .local → scope.names.lookup y.1 = some .local) (hx : scope.names.lookup x = some .local)
    (h : wpAny (model prog w) A (eval iter env) (SrcTx prog w A h₀ L m env ct elt x scope cl (fun s₂ => LCg.FinE h₀ L m s₂ Q)) E s)
    (hs : ∀ x, foldedSetIterable iter env x = pure x := by intro _; rfl) :
    wpAny (model prog w) A (eval (.ListComp elt [⟨.Name x px, iter, [ct], 0⟩] scope pos) env) Q E s := by
  rw [eval_ListComp]
  refine wpAny_comprehension_free (use := none) rfl hs hclos hkind hnames (wpAny_mono h (fun xv s₁ h₁ => ?_) fun _ _ e => e)
  obtain ⟨y, t, news, rfl, ha, hsz, hh, F, N, R⟩ := h₁
  refine wpAny_pyIter_ascii ha ?_
  refine LCt.block_T (Walks.strAscii hh s₁.heap.objs.size y t) hsz (fun i h st => by obtain ⟨o, e, _⟩ := st; exact ⟨o, e⟩)
    (fun i h h' o nw st e e' _ _ _ => by obtain ⟨o', q, r⟩ := st; rw [e] at q; cases q; exact ⟨o, e', r⟩) hcell hkind hx ⟨_, Heap.get?_push_size _ rfl, rfl, rfl⟩ (fun b hb => ?_)
    (F.keeps fun _ _ e => Heap.get?_push_of_some _ e) (N.grown fun _ _ e => Heap.get?_push_of_some _ e) (Nat.ne_of_lt F.ns.lt) (next_is_new F) (fun p hp => Nat.ne_of_lt (Heap.lt_size (N p hp).1)) trivial (R _) ?_
  · rw [List.mem_singleton.mp hb]
    show s₁.heap.objs.size < (s₁.heap.push _).objs.size
    rw [Heap.size_push]; exact Nat.lt_succ_self _
  · intro D C h tk m' ys news' F' N' o1 hn hC₀ hD₀ hCL hDL hCD offC fin
    refine ⟨m', hn, fun h'' hs'' => fin D h'' tk (F'.change hs'' hCL hC₀) (fun p hp => ?_) o1⟩
    refine ⟨hs''.extBut _ _ ?_ (N' p hp).1, (N' p hp).2⟩
    rcases List.mem_cons.mp hp with rfl | hp
    · exact Ne.symm hCD
    · exact offC p hp
end
end Mine

/-! Dist -/
namespace Mine
/-- signs of an agent in small letters; of a piece in great ones -/
def Small (l : List Nat) : Prop := ∀ c ∈ l, c = 97 ∨ c = 98 ∨ c = 42 ∨ c = 47
def Great (l : List Nat) : Prop := ∀ c ∈ l, c = 65 ∨ c = 66 ∨ c = 42 ∨ c = 47
def letter (c : Nat) : Bool := c == 97 || c == 98 || c == 65 || c == 66
def few (x : List Nat) : Int := ((x.filter letter).length : Nat)
theorem few_nil : few [] = 0 := rfl
theorem few_cons (c : Nat) (l : List Nat) : few (c :: l) = (if letter c then 1 else 0) + few l := by
  unfold few
  rw [List.filter_cons]
  split <;> simp <;> omega
theorem subC_range (y x : Nat) : 0 ≤ subC y x ∧ subC y x ≤ 2 := by
  unfold subC costS
  split
  · omega
  · split <;> omega
/-- what a sign of the agent costs at least, and when just that -/
theorem subC_is {x y : Nat} (hx : x = 97 ∨ x = 98 ∨ x = 42 ∨ x = 47) (hy : y = 65 ∨ y = 66 ∨ y = 42 ∨ y = 47) : (if letter x then 1 else 0) ≤ subC y x ∧ (subC y x = (if letter x then 1 else 0) ↔ x = low y) := by
  rcases hx with rfl | rfl | rfl | rfl <;> rcases hy with rfl | rfl | rfl | rfl <;> decide +kernel
/-- the price of turning one text into another, from their ends -/
def E : List Nat → List Nat → Int
  | [], bs => 2 * (bs.length : Int)
  | x :: as, [] => 2 * ((x :: as).length : Int)
  | x :: as, y :: bs => min (min (E (x :: as) bs) (E as (y :: bs)) + 2) (E as bs + subC y x)
termination_by as bs => as.length + bs.length
theorem E_nil (bs : List Nat) : E [] bs = 2 * (bs.length : Int) := by unfold E; rfl
theorem E_cons_nil (x : Nat) (as : List Nat) : E (x :: as) [] = 2 * ((x :: as).length : Int) := by unfold E; rfl
theorem E_cons (x y : Nat) (as bs : List Nat) : E (x :: as) (y :: bs) = min (min (E (x :: as) bs) (E as (y :: bs)) + 2) (E as bs + subC y x) := by conv => lhs; unfold E
theorem E_nil_right (as : List Nat) : E as [] = 2 * (as.length : Int) := by
  cases as with
  | nil => rw [E_nil]
  | cons x r => rw [E_cons_nil]
/-- the bound, and when it is met -/
theorem E_bound : ∀ (n : Nat) (as bs : List Nat), as.length + bs.length = n → Small as → Great bs →
    few as + 2 * ((bs.length : Int) - as.length) ≤ E as bs ∧ (E as bs = few as + 2 * ((bs.length : Int) - as.length) ↔ as.Sublist (bs.map low)) := by
  intro n
  induction n using Nat.strongRecOn with
  | ind n ih =>
    intro as bs hn ha hb
    match as, bs with
    | [], bs =>
      rw [E_nil, few_nil]
      simp
    | x :: as, [] =>
      rw [E_cons_nil, few_cons]
      have hf : few as ≤ as.length := by unfold few; have := List.length_filter_le letter as; omega
      have hl : (if letter x then (1 : Int) else 0) ≤ 1 := by split <;> omega
      refine ⟨by simp; omega, ⟨fun h => ?_, fun h => by simp at h⟩⟩
      simp at h
      omega
    | x :: as, y :: bs =>
      have hx : x = 97 ∨ x = 98 ∨ x = 42 ∨ x = 47 := ha x (List.Mem.head _)
      have hy : y = 65 ∨ y = 66 ∨ y = 42 ∨ y = 47 := hb y (List.Mem.head _)
      have ha' : Small as := fun c hc => ha c (List.Mem.tail _ hc)
      have hb' : Great bs := fun c hc => hb c (List.Mem.tail _ hc)
      simp only [List.length_cons] at hn
      have i1 := ih (as.length + 1 + bs.length) (by omega) (x :: as) bs (by simp) ha hb'
      have i2 := ih (as.length + (bs.length + 1)) (by omega) as (y :: bs) (by simp) ha' hb
      have i3 := ih (as.length + bs.length) (by omega) as bs rfl ha' hb'
      have s := subC_is hx hy
      rw [E_cons]
      have hl : (if letter x then (1 : Int) else 0) ≤ 1 ∧ 0 ≤ (if letter x then (1 : Int) else 0) := by split <;> omega
      rw [few_cons] at i1 ⊢
      generalize (if letter x then (1 : Int) else 0) = lx at *
      simp only [List.length_cons] at *
      generalize E (x :: as) bs = e1 at *
      generalize E as (y :: bs) = e2 at *
      generalize E as bs = e3 at *
      generalize subC y x = sb at *
      have hsub : (x :: as).Sublist ((y :: bs).map low) ↔ (x :: as).Sublist (bs.map low) ∨ (x = low y ∧ as.Sublist (bs.map low)) := by
        rw [List.map_cons]
        constructor
        · intro h
          cases h with
          | cons _ h => exact .inl h
          | cons_cons _ h => exact .inr ⟨rfl, h⟩
        · rintro (h | ⟨h, h'⟩)
          · exact .cons _ h
          · rw [h]; exact .cons_cons _ h'
      rw [hsub, ← i1.2, ← i3.2, ← s.2]
      refine ⟨by omega, ?_⟩
      constructor
      · intro h
        by_cases h1 : e1 = lx + few as + 2 * ((bs.length : Int) - (as.length + 1))
        · exact .inl (by omega)
        · right
          omega
      · rintro (h | ⟨h, h'⟩) <;> omega
end Mine

/-! Dist2 -/
namespace Mine
theorem take_rev (a : List Nat) (i : Nat) (h : i < a.length) : (a.take (i + 1)).reverse = a[i] :: (a.take i).reverse := by
  rw [List.take_add_one, List.getElem?_eq_getElem h]
  simp
/-- row of prices -/
def eRow (a bs : List Nat) : Nat → Int := fun k => E (a.take (k + 1)).reverse bs
theorem inner_is (c : Nat) (a bs : List Nat) (row : List Int) (hl : row.length = a.length) (hr : ∀ k, k < a.length → row.getD k 0 = eRow a bs k) : ∀ i, i ≤ a.length →
    (inner c a (start bs.length row) i).1 = E (a.take i).reverse bs ∧
    (inner c a (start bs.length row) i).2.1 = (if i = 0 then 2 * (bs.length : Int) else E (a.take i).reverse (c :: bs)) ∧
    (∀ k, k < i → (inner c a (start bs.length row) i).2.2.1 ≤ eRow a (c :: bs) k) ∧
    (∀ k, k < a.length → (inner c a (start bs.length row) i).2.2.2.getD k 0 = if k < i then eRow a (c :: bs) k else eRow a bs k) := by
  intro i
  induction i with
  | zero =>
    intro _
    refine ⟨?_, rfl, fun k hk => absurd hk (by omega), fun k hk => ?_⟩
    · show 2 * (bs.length : Int) = _
      rw [List.take_zero, List.reverse_nil, E_nil]
    · rw [if_neg (Nat.not_lt_zero k)]
      exact hr k hk
  | succ i ih =>
    intro hi
    have hi' : i < a.length := by omega
    obtain ⟨h1, h2, h3, h4⟩ := ih (by omega)
    have hlen : (inner c a (start bs.length row) i).2.2.2.length = a.length := by rw [inner_len]; exact hl
    have e : inner c a (start bs.length row) (i + 1) = inStep c a (inner c a (start bs.length row) i) i := rfl
    rw [e]
    generalize inner c a (start bs.length row) i = st at *
    obtain ⟨d, r, mn, rw'⟩ := st
    simp only at h1 h2 h3 h4 hlen
    have hd := h4 i hi'
    simp only [Nat.lt_irrefl, if_false] at hd
    have hx : a.getD i 0 = a[i] := by simp [List.getD, hi']
    have hnew : min (min r (rw'.getD i 0) + 2) (d + subC c (a.getD i 0)) = eRow a (c :: bs) i := by
      unfold eRow
      rw [hd, h1, h2, hx, take_rev a i hi', E_cons]
      unfold eRow
      rw [take_rev a i hi']
      have sr := subC_range c a[i]
      by_cases h0 : i = 0
      · subst h0
        rw [if_pos rfl, List.take_zero, List.reverse_nil, E_nil, E_nil]
        simp only [List.length_cons]
        omega
      · rw [if_neg h0, Int.min_comm (E _ (c :: bs))]
    unfold inStep
    simp only
    rw [hnew]
    refine ⟨?_, ?_, ?_, ?_⟩
    · rw [hd]; rfl
    · rw [if_neg (by omega)]; rfl
    · intro k hk
      by_cases hki : k = i
      · subst hki
        split <;> omega
      · have := h3 k (by omega)
        split <;> omega
    · intro k hk
      by_cases hki : k = i
      · subst hki
        rw [if_pos (by omega)]
        simp [List.getD, hlen, hk]
      · have e2 : (rw'.set i (eRow a (c :: bs) i)).getD k 0 = rw'.getD k 0 := by
          simp only [List.getD]
          rw [List.getElem?_set_ne (by omega)]
        rw [e2, h4 k hk]
        by_cases hk2 : k < i
        · rw [if_pos hk2, if_pos (by omega)]
        · rw [if_neg hk2, if_neg (by omega)]
theorem E_one (x y : Nat) (bs : List Nat) : E [x] (y :: bs) ≤ 2 * (((y :: bs).length : Nat) : Int) := by
  rw [E_cons, E_nil, E_nil]
  have := subC_range y x
  simp only [List.length_cons]
  omega
/-- where every price of a row is over the bound, so is every price of the next -/
theorem row_over (a bs : List Nat) (y : Nat) (mc : Int) (hb : bs ≠ []) (h : ∀ k, k < a.length → mc < eRow a bs k) : ∀ k, k < a.length → mc < eRow a (y :: bs) k := by
  intro k
  induction k with
  | zero =>
    intro hk
    have h0 := h 0 hk
    unfold eRow at h0 ⊢
    rw [take_rev a 0 hk] at h0 ⊢
    rw [List.take_zero, List.reverse_nil] at h0 ⊢
    obtain ⟨z, q, rfl⟩ := List.exists_cons_of_ne_nil hb
    have h1 := E_one a[0] z q
    have sr := subC_range y a[0]
    rw [E_cons, E_nil, E_nil]
    simp only [List.length_cons] at *
    omega
  | succ k ih =>
    intro hk
    have h1 := h (k + 1) hk
    have h2 := ih (by omega)
    have h3 := h k (by omega)
    unfold eRow at *
    rw [take_rev a (k + 1) hk] at h1 ⊢
    have sr := subC_range y a[k + 1]
    rw [E_cons]
    omega
theorem rows_over (a : List Nat) (mc : Int) : ∀ (q bs : List Nat), bs ≠ [] → (∀ k, k < a.length → mc < eRow a bs k) → ∀ k, k < a.length → mc < eRow a (q.reverse ++ bs) k
  | [], bs, _, h => by simpa using h
  | y :: q, bs, hb, h => by
    have := rows_over a mc q (y :: bs) (by simp) (row_over a bs y mc hb h)
    simpa using this
theorem eRow_last (a bs : List Nat) (h : 0 < a.length) : eRow a bs (a.length - 1) = E a.reverse bs := by
  unfold eRow
  rw [show a.length - 1 + 1 = a.length by omega, List.take_length]
theorem outer_is (a : List Nat) (mc : Int) (h0 : 0 < a.length) : ∀ (q bs : List Nat) (row : List Int) (res : Int), row.length = a.length → (∀ k, k < a.length → row.getD k 0 = eRow a bs k) → (q = [] → res = E a.reverse bs) →
    outerL a mc q bs.length row res = E a.reverse (q.reverse ++ bs) ∨ (outerL a mc q bs.length row res = mc + 1 ∧ mc < E a.reverse (q.reverse ++ bs))
  | [], bs, row, res, _, _, hres => by
    left
    rw [outerL, hres rfl]
    simp
  | c :: q, bs, row, res, hl, hr, _ => by
    obtain ⟨h1, h2, h3, h4⟩ := inner_is c a bs row hl hr a.length (Nat.le_refl _)
    rw [outerL]
    have er : (c :: q).reverse ++ bs = q.reverse ++ (c :: bs) := by simp
    rw [er]
    by_cases hm : (inner c a (start bs.length row) a.length).2.2.1 > mc
    · right
      rw [if_pos hm]
      refine ⟨rfl, ?_⟩
      have := rows_over a mc q (c :: bs) (by simp) (fun k hk => Int.lt_of_lt_of_le hm (h3 k hk)) (a.length - 1) (by omega)
      rwa [eRow_last a _ h0] at this
    · rw [if_neg hm]
      have := outer_is a mc h0 q (c :: bs) (inner c a (start bs.length row) a.length).2.2.2 (inner c a (start bs.length row) a.length).2.1 (by rw [inner_len]; exact hl)
        (fun k hk => by rw [h4 k hk, if_pos hk]) (fun _ => by rw [h2, if_neg (by omega), List.take_length])
      simpa using this
theorem row0_is (a : List Nat) : (row0 a.length).length = a.length ∧ ∀ k, k < a.length → (row0 a.length).getD k 0 = eRow a [] k := by
  refine ⟨by simp [row0], fun k hk => ?_⟩
  unfold eRow
  rw [E_nil_right]
  simp [row0, List.getD, hk]
  omega
end Mine

/-! Dist3 -/
namespace Mine
theorem few_app (a b : List Nat) : few (a ++ b) = few a + few b := by
  unfold few
  rw [List.filter_append, List.length_append]
  omega
theorem few_rev (a : List Nat) : few a.reverse = few a := by
  unfold few
  rw [List.filter_reverse, List.length_reverse]
/-- the stripped texts -/
theorem core_is {a b : List Nat} {d : Nat} {mc : Int} (ha : Small a) (hb : Great b) (hd : b.length = a.length + d) (hmc : few a + 2 * d ≤ mc) :
    few a + 2 * d ≤ core a b mc ∧ (core a b mc = few a + 2 * d ↔ a.Sublist (b.map low)) := by
  have hf : 0 ≤ few a := by unfold few; omega
  unfold core
  by_cases h0 : a.length = 0
  · have e : a = [] := List.length_eq_zero_iff.mp h0
    subst e
    rw [if_pos (.inl rfl), few_nil]
    simp at *
    omega
  · rw [if_neg (by omega), if_neg (by omega)]
    have ho := outer_is a mc (by omega) b [] (row0 a.length) 0 (row0_is a).1 (row0_is a).2 (fun e => by subst e; simp at hd; omega)
    rw [List.append_nil] at ho
    have hE := E_bound _ a.reverse b.reverse rfl (fun c hc => ha c (List.mem_reverse.mp hc)) (fun c hc => hb c (List.mem_reverse.mp hc))
    rw [few_rev, List.length_reverse, List.length_reverse, List.map_reverse, List.reverse_sublist] at hE
    rw [show ((b.length : Int) - a.length) = d by omega] at hE
    simp only [List.length_nil] at ho
    rcases ho with h | ⟨h, hgt⟩
    · rw [h]
      exact hE
    · rw [h, ← hE.2]
      constructor
      · omega
      · constructor <;> intro _ <;> omega
theorem cpl_take : ∀ a b : List Nat, a.take (cpl a b) = b.take (cpl a b)
  | [], _ => by simp [cpl]
  | _ :: _, [] => by simp [cpl]
  | a :: r, b :: q => by
    unfold cpl
    split
    · next h => simp [h, cpl_take r q]
    · simp
theorem split_ends (a b : List Nat) : ∃ p s, a = p ++ stripA a b ++ s ∧ b = p ++ stripB a b ++ s := by
  have hp := cpl_take a b
  have hle := cpl_le (a.drop (cpl a b)).reverse (b.drop (cpl a b)).reverse
  have hs := cpl_take (a.drop (cpl a b)).reverse (b.drop (cpl a b)).reverse
  unfold stripA stripB
  have ea : a = a.take (cpl a b) ++ a.drop (cpl a b) := (List.take_append_drop _ _).symm
  have eb : b = a.take (cpl a b) ++ b.drop (cpl a b) := by rw [hp]; exact (List.take_append_drop _ _).symm
  generalize cpl a b = n at *
  generalize a.take n = p at *
  generalize a.drop n = a' at *
  generalize b.drop n = b' at *
  generalize cpl a'.reverse b'.reverse = k at *
  rw [List.length_reverse, List.length_reverse] at hle
  refine ⟨p, (a'.reverse.take k).reverse, ?_, ?_⟩
  · rw [ea, List.append_assoc, List.take_reverse, List.reverse_reverse, List.take_append_drop]
  · rw [eb, List.append_assoc, hs, List.take_reverse, List.reverse_reverse, List.take_append_drop]
theorem both_plain {l : List Nat} (h1 : Small l) (h2 : Great l) : few l = 0 ∧ l.map low = l := by
  induction l with
  | nil => exact ⟨rfl, rfl⟩
  | cons c r ih =>
    have := ih (fun d hd => h1 d (List.Mem.tail _ hd)) (fun d hd => h2 d (List.Mem.tail _ hd))
    have hc : c = 42 ∨ c = 47 := by
      have a := h1 c (List.Mem.head _)
      have b := h2 c (List.Mem.head _)
      omega
    rw [few_cons, this.1, List.map_cons, this.2]
    rcases hc with rfl | rfl <;> exact ⟨by decide, by simp [low]⟩
theorem lev_is {a b : List Nat} {d : Nat} {mc : Int} (ha : Small a) (hb : Great b) (hd : b.length = a.length + d) (hmc : few a + 2 * d ≤ mc) :
    few a + 2 * d ≤ lev a b mc ∧ (lev a b mc = few a + 2 * d ↔ a.Sublist (b.map low)) := by
  unfold lev
  by_cases hab : a = b
  · subst hab
    have := both_plain ha hb
    have d0 : d = 0 := by omega
    rw [if_pos rfl, this.1, this.2, d0]
    simp
  · rw [if_neg hab]
    obtain ⟨p, s, ea, eb⟩ := split_ends a b
    generalize stripA a b = za at *
    generalize stripB a b = zb at *
    subst ea eb
    have hp := both_plain (l := p) (fun c hc => ha c (by simp [hc])) (fun c hc => hb c (by simp [hc]))
    have hs := both_plain (l := s) (fun c hc => ha c (by simp [hc])) (fun c hc => hb c (by simp [hc]))
    have hl : zb.length = za.length + d := by simp at hd; omega
    rw [few_app, few_app, hp.1, hs.1] at hmc ⊢
    have := core_is (a := za) (b := zb) (d := d) (mc := mc) (fun c hc => ha c (by simp [hc])) (fun c hc => hb c (by simp [hc])) hl (by omega)
    rw [List.map_append, List.map_append, hp.2, hs.2, List.append_sublist_append_right, List.append_sublist_append_left]
    simpa using this
theorem small_low {x : List Nat} (h : Alpha x) : Small (x.map low) := fun c hc => by
  obtain ⟨d, hd, rfl⟩ := List.mem_map.mp hc
  rcases h d hd with h | h | h | h | h | h <;> subst h <;> decide
theorem great_upp {x : List Nat} (h : Alpha x) : Great (x.map upp) := fun c hc => by
  obtain ⟨d, hd, rfl⟩ := List.mem_map.mp hc
  rcases h d hd with h | h | h | h | h | h <;> subst h <;> decide
theorem few_low {x : List Nat} (h : Alpha x) : few (x.map low) = few x := by
  induction x with
  | nil => rfl
  | cons c r ih =>
    rw [List.map_cons, few_cons, few_cons, ih fun d hd => h d (List.Mem.tail _ hd)]
    have := h c (List.Mem.head _)
    rcases this with h | h | h | h | h | h <;> subst h <;> rfl
theorem low_upp {x : List Nat} (h : Alpha x) : (x.map upp).map low = x.map low := by
  rw [List.map_map]
  apply List.map_congr_left
  intro c hc
  rcases h c hc with h | h | h | h | h | h <;> subst h <;> decide
/-- the price of a piece -/
theorem price {x p : List Nat} {d : Nat} {spare : Int} (hx : Alpha x) (hp : Alpha p) (hd : p.length = x.length + d) (hs : 0 ≤ spare) :
    0 ≤ lev (x.map low) (p.map upp) (few x + 2 * d + spare) - (few x + 2 * d) ∧ (lev (x.map low) (p.map upp) (few x + 2 * d + spare) - (few x + 2 * d) = 0 ↔ (x.map low).Sublist (p.map low)) := by
  have := lev_is (mc := few x + 2 * d + spare) (small_low hx) (great_upp hp) (by simpa using hd) (by rw [few_low hx]; omega)
  rw [few_low hx, low_upp hp] at this
  refine ⟨by omega, ?_⟩
  rw [← this.2]
  omega
theorem pieces_at {f p : List Nat} {n : Nat} (hf : Alpha f) (h : p ∈ pieces f n) : Alpha p ∧ p.length = n := by
  obtain ⟨k, hk, rfl⟩ := List.mem_map.mp h
  rw [List.mem_range] at hk
  refine ⟨fun c hc => hf c (List.mem_of_mem_drop (List.mem_of_mem_take hc)), ?_⟩
  rw [List.length_take, List.length_drop]
  omega
theorem shorter_cons (c : Nat) (l : List Nat) : shorter (c :: l) = l :: (shorter l).map (c :: ·) := by
  unfold shorter
  rw [List.length_cons, List.range_succ_eq_map, List.map_cons, List.map_map, List.map_map]
  simp [Function.comp_def]
theorem shorter_iff : ∀ (l x : List Nat), l.length = x.length + 1 → (x.Sublist l ↔ x ∈ shorter l)
  | [], x, h => by simp at h
  | c :: l, x, h => by
    rw [shorter_cons, List.mem_cons]
    have hl : l.length = x.length := by simpa using h
    constructor
    · intro hs
      cases hs with
      | cons _ hs => exact .inl (hs.eq_of_length hl.symm)
      | cons_cons _ hs =>
        right
        rename_i y
        exact List.mem_map.mpr ⟨y, (shorter_iff l y (by simpa using hl)).mp hs, rfl⟩
    · rintro (rfl | hm)
      · exact List.sublist_cons_self _ _
      · obtain ⟨y, hy, rfl⟩ := List.mem_map.mp hm
        exact .cons_cons _ ((shorter_iff l y (by simpa using hl)).mpr hy)
theorem mk_any (ls : List (List Nat)) (x : List Nat) : (ls.map mk).any (· == mk x) = decide (x ∈ ls) := by
  induction ls with
  | nil => simp
  | cons a r ih =>
    rw [List.map_cons, List.any_cons, ih, mk_beq]
    by_cases h : a = x
    · simp [h]
    · have h' : ¬ x = a := fun e => h e.symm
      simp [h, h']
theorem wide_fact {x f : List Nat} {spare : Int} (hx : Alpha x) (hf : Alpha f) (hs : 0 ≤ spare) (i : Nat) (hi : i < (pieces f (x.length + 1)).length) :
    ((overL x (pieces f (x.length + 1)) (few x + 2) spare).getD i 0 == 0) = ((shorter ((pieces f (x.length + 1))[i].map low)).map mk).any (· == mk (x.map low)) := by
  have hm := pieces_at hf (List.getElem_mem hi)
  have e : (overL x (pieces f (x.length + 1)) (few x + 2) spare).getD i 0 = lev (x.map low) ((pieces f (x.length + 1))[i].map upp) (few x + 2 + spare) - (few x + 2) := by
    simp [overL, List.getD, hi]
  rw [e, mk_any]
  have hp := price (d := 1) (spare := spare) hx hm.1 hm.2 hs
  have hq := shorter_iff ((pieces f (x.length + 1))[i].map low) (x.map low) (by simp [hm.2])
  have h2 := hp.2
  simp only [Int.natCast_one, Int.mul_one] at h2
  rw [hq] at h2
  by_cases hh : x.map low ∈ shorter ((pieces f (x.length + 1))[i].map low)
  · rw [h2.mpr hh]
    simp [hh]
  · have : ¬ (lev (x.map low) ((pieces f (x.length + 1))[i].map upp) (few x + 2 + spare) - (few x + 2) = 0) := fun q => hh (h2.mp q)
    simp only [hh, decide_false]
    simpa using this
theorem neg_fact {x f : List Nat} {spare : Int} (hx : Alpha x) (hf : Alpha f) (hs : 0 ≤ spare) :
    ∀ z ∈ overL x (pieces f x.length) (few x) spare ++ overL x (pieces f (x.length + 1)) (few x + 2) spare, ¬ z < 0 := by
  intro z hz
  rcases List.mem_append.mp hz with hz | hz
  · obtain ⟨p, hp, rfl⟩ := List.mem_map.mp hz
    have hm := pieces_at hf hp
    have := (price (d := 0) (spare := spare) hx hm.1 hm.2 hs).1
    simp only [Int.natCast_zero, Int.mul_zero, Int.add_zero] at this
    omega
  · obtain ⟨p, hp, rfl⟩ := List.mem_map.mp hz
    have hm := pieces_at hf hp
    have := (price (d := 1) (spare := spare) hx hm.1 hm.2 hs).1
    simp only [Int.natCast_one, Int.mul_one] at this
    omega
theorem found_fact {x f : List Nat} {spare : Int} (hx : Alpha x) (hf : Alpha f) (hs : 0 ≤ spare) :
    (overL x (pieces f x.length) (few x) spare).any (· == 0) = decide (∃ p ∈ pieces f x.length, p.map low = x.map low) := by
  have key : ∀ p ∈ pieces f x.length, (lev (x.map low) (p.map upp) (few x + spare) - few x = 0 ↔ p.map low = x.map low) := fun p hp => by
    have hm := pieces_at hf hp
    have := (price (d := 0) (spare := spare) hx hm.1 hm.2 hs).2
    simp only [Int.natCast_zero, Int.mul_zero, Int.add_zero] at this
    rw [this]
    exact ⟨fun h => (h.eq_of_length (by simp [hm.2])).symm, fun h => by rw [h]; exact List.Sublist.refl _⟩
  by_cases hh : ∃ p ∈ pieces f x.length, p.map low = x.map low
  · simp only [hh, decide_true]
    obtain ⟨p, hp, e⟩ := hh
    rw [List.any_eq_true]
    exact ⟨_, List.mem_map.mpr ⟨p, hp, rfl⟩, by simpa using (key p hp).mpr e⟩
  · simp only [hh, decide_false]
    rw [List.any_eq_false]
    intro z hz
    obtain ⟨p, hp, rfl⟩ := List.mem_map.mp hz
    intro q
    exact hh ⟨p, hp, (key p hp).mp (by simpa using q)⟩
end Mine

/-! P1 -/
namespace Mine
open PySem.Calls
section
variable {w : World} {mean : ExcName → Option Value} {mg mb : Str → Option Value} {f : Addr} {d u : Nat} {vals : List Value} {Pre : Heap → Prop} {P : List Value → Prop}
  {dp un : Nat} {gd : Option (List Code)} {cn : Str} {cs : Scope} {a : Addr} {ccd : Value} {cl : List (Str × Addr)} {outer : List Env} {A₀ : Around} {base h₀ : Heap} {L : Addr} {m : Str → Option Value} {news : List (Addr × Obj)} {s : Shared} {Q E : Value → Shared → Prop}
/-- a call that hands back a new list -/
theorem Says.useList (C : Says w mean mg mb f d u vals Pre (fun h v h' => NewList h h' v P)) (B : Below A₀ base outer h₀) (F : Fr h₀ L s.heap m) (N : News h₀ L s.heap news) (X : (hd.heap_39 w.params).In h₀) (T : Top hd.view_39 (looseW hd.view_39 []) mean mg mb h₀) (hk : cs.kind = .function)
    (hp : Pre s.heap) (hd : dp + d < recursionLimit) (hu : un + u < cLine)
    (ret : ∀ D c ys h' tk', P ys → Fr h₀ L h' m → News h₀ L h' ((D, W.listOf ys.toArray c) :: news) → LCg.Off1 D news → Q (.ref D) { s with heap := h', toks := tk' }) :
    wpAny (model PySem.Challenge.rw_nb0146_01.row.prog w) (ktrTop dp un gd cn cs L a ccd cl outer) (call (.ref f) vals) Q E s :=
  C _ _ _ _ _ _ _ _ _ _ _ _ _ _ _ _ _ B F X T hk hp hd hu fun v h' tk' st post => by
    obtain ⟨D, c, ys, rfl, h1, h2, h3⟩ := post
    refine ret D c ys h' tk' h3 (fr_stays F st) (news_more F N st h1 h2) ?_
    have hm : ∀ p ∈ news, p.1 ≠ D := fun p hp e => by
      have := (N p hp).1; rw [e, h2] at this; cases this
    clear N hp ret C h1 h3
    induction news with
    | nil => trivial
    | cons p r ih => exact ⟨hm p (List.Mem.head _), ih fun q hq => hm q (List.Mem.tail _ hq)⟩
theorem isStrs_of {h : Heap} {A : Addr} {vs : List Value} {c : Nat} {ps : List (List Nat)} (N : News h₀ L h news) (hm : (A, W.listOf vs.toArray c) ∈ news) (hs : StrsAre vs (ps.map mk)) : IsStrs A ps h := ⟨c, vs, (N _ hm).1, hs⟩
end
theorem says_pieces2 {w : World} {mean : ExcName → Option Value} {mg mb : Str → Option Value} {l : List Nat} {n : Nat} {i : Int} {tx tn : Tok} (e : i = (n : Int)) (hl : l.length ≤ 6) (hn : n ≤ 4) :
    Says w mean mg mb 94 1 16 [.str (mk l) tx, .int i tn] (fun _ => True) (fun h v h' => NewList h h' v fun ys => StrsAre ys ((pieces l n).map mk)) := e ▸ says_pieces l n tx tn hl hn
theorem alpha_ascii {x : List Nat} (h : Alpha x) : (mk x).cps.all (· < 128) = true := by
  rw [Array.all_eq_true]
  intro i hi
  have := h ((mk x).cps[i]) (show (mk x).cps[i] ∈ (mk x).cps.toList from Array.getElem_mem_toList hi)
  simp only [decide_eq_true_eq]
  omega
theorem in_letters : ∀ c ∈ alphaB, (Builtin.Str.occurrences (Str.ofString "abAB") (mk [c]) 0 (Str.ofString "abAB").length 1).isEmpty = !letter c := by decide +kernel
theorem pieces_len {f : List Nat} (h : f.length ≤ 6) (n : Nat) : (pieces f n).length ≤ 7 := by
  rw [pieces, List.length_map, List.length_range]; omega
theorem pieces_ok {f : List Nat} (hf : Alpha f) (h6 : f.length ≤ 6) {k : Nat} (n : Nat) (hk : k ≤ n) (hn : n ≤ 4) : ∀ p ∈ pieces f n, Alpha p ∧ k ≤ p.length ∧ p.length ≤ 6 := by
  intro p hp
  obtain ⟨i, hi, rfl⟩ := List.mem_map.mp hp
  rw [List.mem_range] at hi
  refine ⟨fun c hc => hf c (List.mem_of_mem_drop (List.mem_of_mem_take hc)), ?_, ?_⟩
  · rw [List.length_take, List.length_drop]; omega
  · rw [List.length_take, List.length_drop]; omega
theorem strs_len2 {vs : List Value} {ps : List (List Nat)} (h : StrsAre vs (ps.map mk)) : vs.length = ps.length := by rw [strs_len h, List.length_map]
theorem says_shorter2 {w : World} {mean : ExcName → Option Value} {mg mb : Str → Option Value} {l : List Nat} {tx : Tok} (ha : Alpha l) (hl : l.length ≤ 6) :
    Says w mean mg mb 99 1 16 [.str (Txt.lower (mk l)) tx] (fun _ => True) (fun h v h' => NewList h h' v fun ys => StrsAre ys ((shorter (l.map low)).map mk)) := by
  rw [lower_mk ha]
  exact says_shorter _ _ (by simpa using hl)
section
variable {prog : Program} {w : World} {A : Around} {E : Value → Shared → Prop} {s : Shared}
theorem item_piece {value slice : Expr} {a : Addr} {l : List Value} {ps : List (List Nat)} {k : Int} {u : Tok} {n : Nat} {Q : Value → Shared → Prop} (hl : s.heap.IsList a l.toArray) (hi : StrsAre l (ps.map mk))
    (h0 : 0 ≤ k) (hk : k < ps.length) (hfit : k < 2 ^ 63) (hok : ∀ p ∈ ps, Alpha p ∧ n ≤ p.length ∧ p.length ≤ 6) (h : ∀ p t', p = ps.getD k.toNat [] → Alpha p → p.length ≤ 6 → (mk p).length ≤ 6 → Q (.str (mk p) t') s)
    (hs : subscripted slice false (.ref a) (.int k u) = operate [.ref a, .int k u] (getItem (.ref a) (.int k u)) := by with_unfolding_all rfl) (hg : ∀ r, letTemporaryGo value (.ref a) r = pure () := by intro _; with_unfolding_all rfl) :
    wpAny (model prog w) A (subscriptTail value slice (.ref a) (.int k u)) Q E s := by
  have hlt : k.toNat < ps.length := by omega
  have e : (ps.map mk).getD k.toNat Str.empty = mk (ps.getD k.toNat []) := by simp [List.getD, hlt]
  have hm : ps.getD k.toNat [] ∈ ps := by simp [List.getD, hlt]
  refine item_strsA hl hi h0 (by rw [List.length_map]; exact hk) hfit (fun t' => ?_) hs hg
  rw [e]
  exact h _ t' rfl (hok _ hm).1 (hok _ hm).2.2 (by rw [mk_len]; exact (hok _ hm).2.2)
end
local macro_rules | `(tactic| walk_at "call builtin:len") => `(tactic| (k_here; (with_reducible show wpAny _ _ (call (Value.builtin "len") [Value.ref _]) _ _ _); (refine' kst_len ?k1 ?k2 ?k3 ?k4 ?_; (case k1 => k_asm); (case k2 => k_mem); (case k3 => first | assumption | exact strs_len2 (by assumption)); (case k4 => omega))))
local macro_rules | `(tactic| walk_at "eval ListComp") => `(tactic| (k_here; (with_reducible show wpAny _ _ (eval (Expr.ListComp _ [⟨_, Expr.Name _ _, _, _⟩] _ _) _) _ _ _); k_dflt (refine comp_text (by k_asm) (by with_unfolding_all rfl) (by decide) (by rfl) (by decide) (by rfl) ?_)))
local macro_rules | `(tactic| walk_at "eval ListComp") => `(tactic| (k_here; (with_reducible show wpAny _ _ (eval (Expr.ListComp _ [⟨_, Expr.BinOp _ _ _ _, _, _⟩] _ _) _) _ _ _); k_dflt (refine LCt.ListComp_T (by k_asm) (by with_unfolding_all rfl) (by decide) (by rfl) (by decide) (by rfl) ?_)))
local macro_rules | `(tactic| walk_at "CompEnd") => `(tactic| (refine held ?_))
local macro_rules | `(tactic| walk_at "CompSrcT") => `(tactic| (refine held ?_))
local macro_rules | `(tactic| walk_at "exec For Name Call cons nil") => `(tactic| (refine held ?_))
local macro_rules | `(tactic| walk_at "call ref") => `(tactic| (k_here; (with_reducible show wpAny _ _ (call (Value.ref 94) [Value.str (mk _) _, Value.int _ _]) _ _ _); (refine' Says.useList (says_pieces2 ?l1 ?l2 ?l3) ?k1 ?k2 ?k3 ?k4 ?k5 ?k6 ?k7 ?k8 ?k9 ?_; (case l1 => assumption); (case l2 => omega); (case l3 => omega); (case k1 => k_asm); (case k2 => k_asm); (case k3 => k_asm); (case k4 => k_asm); (case k5 => k_asm); (case k6 => first | exact rfl | assumption); (case k7 => exact trivial); (case k8 => ktr_room); (case k9 => ktr_units)); intro D9 c9 ys9 h9 tk9 P9 F9 N9 o9; (simp only [LCg.Off1, and_true] at o9); (try dsimp only); (try k_fold)))
local macro_rules | `(tactic| walk_at "call ref") => `(tactic| (k_here; (with_reducible show wpAny _ _ (call (Value.ref 104) [Value.str (mk _) _, Value.ref _, Value.int _ _, Value.int _ _]) _ _ _); (refine' Says.useList (says_over _ _ _ _ _ _ _ _ ?l1 ?l2 ?l3 ?l4) ?k1 ?k2 ?k3 ?k4 ?k5 ?k6 ?k7 ?k8 ?k9 ?_; (case k7 => exact isStrs_of (by k_asm) (by k_mem) (by assumption)); (case l1 => assumption); (case l2 => omega); (case l3 => assumption); (case l4 => assumption); (case k1 => k_asm); (case k2 => k_asm); (case k3 => k_asm); (case k4 => k_asm); (case k5 => k_asm); (case k6 => first | exact rfl | assumption);  (case k8 => ktr_room); (case k9 => ktr_units)); intro D9 c9 ys9 h9 tk9 P9 F9 N9 o9; (simp only [LCg.Off1, and_true] at o9); (try dsimp only); (try k_fold)))
local macro_rules | `(tactic| walk_at "call type:range") => `(tactic| ((rename Fr _ _ _ _ => F'); (rename News _ _ _ _ => N'); (with_unfolding_all refine range1_rows F' N' ?_; intro _ _ _ _ _ _ _ _ _)))
local macro_rules | `(tactic| walk_at "subscriptTail Name Name ref int") => `(tactic| (k_here; (with_reducible show wpAny _ _ (subscriptTail _ _ (Value.ref _) (Value.int _ _)) _ _ _); (refine' item_list_ints ?k1 ?k2 ?k3 ?k4 ?k5 ?_; (case k1 => exact News.isList (by k_asm) (by k_mem)); (case k2 => assumption); (case k3 => omega); (case k4 => omega); (case k5 => omega)); intro t9))
local macro_rules | `(tactic| walk_at "subscriptTail Name Name ref int") => `(tactic| (k_here; (with_reducible show wpAny _ _ (subscriptTail _ _ (Value.ref _) (Value.int _ _)) _ _ _); (refine' item_piece ?k1 ?k2 ?k3 ?k4 ?k5 ?k6 ?_; (case k1 => exact News.isList (by k_asm) (by k_mem)); (case k2 => assumption); (case k6 => assumption); (case k3 => omega); (case k4 => omega); (case k5 => omega)); intro p9 t9 ep9 ap9 lp9 mp9))
local macro_rules | `(tactic| walk_at "call ref") => `(tactic| (k_here; (with_reducible show wpAny _ _ (call (Value.ref 99) [Value.str (Txt.lower (mk _)) _]) _ _ _); (refine' Says.useList (says_shorter2 ?l1 ?l2) ?k1 ?k2 ?k3 ?k4 ?k5 ?k6 ?k7 ?k8 ?k9 ?_; (case l1 => assumption); (case l2 => omega); (case k1 => k_asm); (case k2 => k_asm); (case k3 => k_asm); (case k4 => k_asm); (case k5 => k_asm); (case k6 => first | exact rfl | assumption); (case k7 => exact trivial); (case k8 => ktr_room); (case k9 => ktr_units)); intro D9 c9 ys9 h9 tk9 P9 F9 N9 o9; (try dsimp only); (try k_fold)))
local macro_rules | `(tactic| walk_at "compareOp In str ref") => `(tactic| (k_here; (with_reducible show wpAny _ _ (compareOp CmpOp.In (Value.str _ _) (Value.ref _)) _ _ _); (refine' in_list_strs ?k1 ?k2 ?_; (case k1 => exact News.isList (by k_asm) (by k_mem)); (case k2 => assumption))))
local macro_rules | `(tactic| walk_at "compareOp In int ref") => `(tactic| (k_here; (with_reducible show wpAny _ _ (compareOp CmpOp.In (Value.int _ _) (Value.ref _)) _ _ _); (refine' in_list_ints ?k1 ?k2 ?_; (case k1 => exact News.isList (by k_asm) (by k_mem)); (case k2 => assumption))))
local macro_rules | `(tactic| walk_at "binaryOp Add ref ref") => `(tactic| (k_here; (with_reducible show wpAny _ _ (binaryOp _ (Value.ref _) (Value.ref _)) _ _ _); (refine' kmk_add_ints ?F ?N ?a ?b ?i ?j ?_ ?z; (case F => k_asm); (case N => k_asm); (case a => exact News.isList (by k_asm) (by k_mem)); (case b => exact News.isList (by k_asm) (by k_mem)); (case i => assumption); (case j => assumption); (case z => (rw [PySem.sizeLine_eq]; omega))); intro D' ws' h' F' N' l1 hI'))
local macro_rules | `(tactic| walk_at "compareOp NotEq ref ref") => `(tactic| (k_here; (with_reducible show wpAny _ _ (compareOp CmpOp.NotEq (Value.ref _) (Value.ref _)) _ _ _); (refine' ke_ne_ints ?k1 ?k2 ?k3 ?k4 ?k5 ?_; (case k1 => exact News.isList (by k_asm) (by k_mem)); (case k2 => exact News.isList (by k_asm) (by k_mem)); (case k3 => exact IntsAre.nil); (case k4 => exact IntsAre.nil); (case k5 => ktr_units))))
local macro_rules | `(tactic| walk_at "pyIter ref") => `(tactic| (refine held ?_))
theorem says_priced {w : World} {mean : ExcName → Option Value} {mg mb : Str → Option Value} (x f : List Nat) (spare : Int) (t1 t2 t3 : Tok) (hx : Alpha x) (hf : Alpha f) (hx3 : x.length ≤ 3) (hf6 : f.length ≤ 6) (hs0 : 0 ≤ spare) :
    Says w mean mg mb 109 4 160 [.str (mk x) t1, .str (mk f) t2, .int spare t3] (fun _ => True) (fun _ v _ => v = .bool (decide (∃ p ∈ pieces f x.length, p.map low = x.map low))) := by
  unfold Says
  k_fill
  w_on
  intro dp un gd cn cs a ccd cl outer A₀ base h₀ L m s Q E B F X T hk hp hd hu hret
  refine wpAny_call ?_
  refine' enter_whole ?k1 ?k2 ?k3 ?k5 ?kA ?kF ?kK ?k6 ?k7 ?k8 ?k9 ?kB ?_ ?c2 ?c3 ?c4 ?c5
  (case kA => exact rfl)
  (case kF => exact rfl)
  (case kK => assumption)
  (case k1 => k_asm)
  (case k2 => k_asm)
  (case k3 => k_asm)
  (case k5 => k_asm)
  (case k6 => k_is)
  (case k7 => k_is)
  (case k8 => ktr_room)
  (case k9 => exact BindsTo.of_eq rfl)
  (case c5 => decide)
  (case kB => exact locs rfl)
  (case c2 => exact rfl)
  (case c3 => exact rfl)
  (case c4 => exact rfl)
  intro g' L' h' eg F' N' B' X' T'
  (try dsimp only)
  (try k_lift B')
  (try k_fold)
  have hlx : (mk x).length = x.length := mk_len x
  have hlf : (mk f).length = f.length := mk_len f
  w_strict k_steps
  rename Fr _ _ _ _ => F1
  rename News _ _ _ _ => N1
  refine ⟨_, _, _, rfl, alpha_ascii hx, by rw [PySem.sizeLine_eq]; exact Nat.le_trans (Nat.le_of_eq hlx) (by omega), rfl, F1, N1, fun g1 => ?_⟩
  refine comp_signs x (fun _ _ => True) letter ?_ ?_
  · intro c t I oI C oC D m₂ ys h1 tk1 E' hc hC hxx F2 N2 off ne
    clear F1 N1
    have hlc : (mk [c]).length = 1 := mk_len [c]
    have hcm : (Builtin.Str.occurrences (Str.ofString "abAB") (mk [c]) 0 (Str.ofString "abAB").length 1).isEmpty = !letter c := in_letters c (alpha_mem hx c hc)
    w_strict k_steps
    · rename _ = true => e9
      refine unheld (el_end (by assumption) (by assumption) off trivial ?_)
      rw [hcm] at e9
      simpa using e9
    · refine unheld (el_end (by assumption) (by assumption) off trivial ⟨?_, trivial⟩)
      simp_all
  · intro ys hys
    clear F1 N1
    have hl0 : ((mk x).length : Int) = (x.length : Nat) := by rw [hlx]
    have hl1 : ((mk x).length : Int) + 1 = ((x.length + 1 : Nat) : Int) := by rw [hlx]; rfl
    have hyl : ys.length = (x.filter letter).length := (All2.length hys).symm
    have hfl : (x.filter letter).length ≤ 3 := Nat.le_trans (List.length_filter_le _ _) hx3
    have hps1 := pieces_ok hf hf6 x.length (Nat.le_refl _) (by omega)
    have hps2 := pieces_ok hf hf6 (x.length + 1) (Nat.le_succ _) (by omega)
    have hpl1 : (pieces f x.length).length ≤ 7 := pieces_len hf6 _
    have hpl2 : (pieces f (x.length + 1)).length ≤ 7 := pieces_len hf6 _
    have hL1 : ∀ b, (overL x (pieces f x.length) b spare).length = (pieces f x.length).length := fun b => List.length_map _
    have hL2 : ∀ b, (overL x (pieces f (x.length + 1)) b spare).length = (pieces f (x.length + 1)).length := fun b => List.length_map _
    have hL1' := hL1 ((x.filter letter).length : Nat)
    have hL2' := hL2 (((x.filter letter).length : Nat) + 2)
    w_strict k_steps
    refine unheld ?_
    rename Fr _ _ _ _ => F2
    rename News _ _ _ _ => N2
    refine' For_invVF F2 ?k1 ?k2 ?_ (by intro _; rfl) PassesOwn.never
    (case k1 => exact rfl)
    (case k2 => exact rfl)
    w_strict k_steps
    refine unheld ?_
    (try clear F2); (try clear N2)
    rename IsRange _ _ _ _ _ _ _ _ => rg
    rename Fr _ _ _ _ => F3
    rename News _ _ _ _ => N3
    refine' kst_range (σ := Unit) (fun _ => _) (fun _ => []) (fun _ => True) [] (fun _ _ => True) () rfl rg (small_one (by omega) (by omega) (by omega) (by omega)) (rangeSize_nat _ _) F3 N3 trivial (List.forall_mem_nil _) trivial ?rt ?rd
    case rt =>
      clear F3 N3
      rintro ⟨⟩ pre k tkk u4 h4 tk4 own hk4 hpre hoff - - F4 N4
      simp only [List.cons_append] at N4
      dsimp only at F4 N4
      have hkn : k.toNat = pre.length := by omega
      have hpl3 : pre.length < (pieces f (x.length + 1)).length := by omega
      have hwf := wide_fact hx hf hs0 pre.length hpl3
      w_strict k_steps
      · rename (_ != _) = true => e9
        rename _ = List.getD _ _ _ => ep
        rw [hkn] at e9 ep
        have eg : (pieces f (x.length + 1)).getD pre.length [] = (pieces f (x.length + 1))[pre.length] := by simp [List.getD, hpl3]
        rw [lower_mk hx, ep, eg] at e9
        exact absurd e9 (by rw [show ((((x.filter letter).length : Nat) : Int) + 2) = few x + 2 from rfl, hwf]; simp)
      · refine' kst_end () (by assumption) (by assumption) ?qn ?qo ?qa trivial (List.forall_mem_nil _) ?qr trivial
        case qn => exact fun p hp => List.Mem.tail _ (List.mem_append_left own hp)
        case qo => exact fun p hp => List.Mem.tail _ (List.mem_append_right [_, _, _, _, _] hp)
        case qa => rfl
        case qr =>
          intro z h1 _ _
          simp [h1, kstB]
    case rd =>
      clear F3 N3
      rintro ⟨⟩ u4 h4 tk4 - - F4 N4
      dsimp only at F4 N4
      w_strict k_steps
      refine unheld ?_
      rename Fr _ _ _ _ => F5
      rename News _ _ _ _ => N5
      rename IntsAre _ (_ ++ _) => I5
      refine LCt.CompSrcT.ledger rfl F5 N5 (List.Mem.head _) (by rw [PySem.sizeLine_eq, List.size_toArray, I5.length, List.length_append]; omega) ?_
      intro g6
      have hng : ∀ z ∈ overL x (pieces f x.length) ((x.filter letter).length : Nat) spare ++ overL x (pieces f (x.length + 1)) (((x.filter letter).length : Nat) + 2) spare, ¬ z < 0 := neg_fact hx hf hs0
      refine comp_restT _ (fun z v => ∃ t, v = .int z t) (fun _ _ => True) (fun _ => false) (by rw [List.size_toArray]; exact I5.length.symm) (fun i v _ hv => ?_) ?_ (.inr ⟨_, List.Mem.head _, rfl, _, rfl⟩) ?_
      · obtain ⟨k, t, e, hk⟩ := IntsAre.at I5 i v (by simpa using hv)
        exact ⟨k, hk, t, e⟩
      · rintro z v I oI C oC D m₂ ys h1 tk1 E' hz ⟨tz, rfl⟩ hC hxx F6 N6 off ne hS
        clear F5 N5
        have hnz := hng z hz
        w_strict k_steps
        exact unheld (el_end (by assumption) (by assumption) off hS rfl)
      · intro zs hzs
        have ezs : ((overL x (pieces f x.length) ((x.filter letter).length : Nat) spare ++ overL x (pieces f (x.length + 1)) (((x.filter letter).length : Nat) + 2) spare).filter fun _ => false) = [] := by simp
        rw [ezs] at hzs
        cases hzs
        clear F5 N5
        w_strict k_steps
        rename Fr _ _ _ _ => F7
        refine hret _ _ _ (stays_of eg F7) ?_
        exact congrArg Value.bool (found_fact hx hf hs0)
end Mine

/-! R1 -/
namespace Mine
open PySem.Calls
section
variable {prog : Program} {w : World} {A : Around} {E : Value → Shared → Prop} {s : Shared} {h₀ h : Heap} {L D b : Addr} {m : Str → Option Value} {news : List (Addr × Obj)} {n n2 : Nat}
/-- an empty list is extended by a list that stands -/
theorem ext_base {Q : Value → Shared → Prop} {vs : List Value} {news' : Nat → List (Addr × Obj)} (F : Fr h₀ L s.heap m) (N : News h₀ L s.heap news) (hb : s.heap.get? b = some (W.listOf vs.toArray n2)) (hv : vs.length ≤ 8)
    (U : ∀ k, Upd D (W.listOf #[] n) (W.listOf vs.toArray k) news (news' k))
    (h : ∀ h' k, Fr h₀ L h' m → News h₀ L h' (news' k) → Q .none { s with heap := h' }) : wpAny (model prog w) A (call (.builtin "list.extend") [.ref D, .ref b]) Q E s := by
  have hd : ¬(!(#[] : Array Value).isEmpty && Builtin.List.listTooLong ((#[] : Array Value).size + vs.toArray.size)) = true := by simp
  have hz2 : (#[] : Array Value).size + vs.toArray.size ≤ sizeLine + 1 := by rw [PySem.sizeLine_eq, List.size_toArray]; simp; omega
  cases vs with
  | nil =>
    obtain ⟨pre, post, rfl, e, a, c⟩ := (U n).split
    have h' := fun h' => h h' n
    rw [e] at h'
    have z := N (D, W.listOf #[] n) (List.mem_append.mpr (.inr (.head _)))
    exact call_meets PySem.F.slot_list_extend ⟨_, z.1, rfl⟩ PySem.F.entry_list_extend (PySem.F.args_list_extend_2 _ _) (PySem.AutoSeq1.list_extend_list_list_0 D #[] n b #[] n2 hd (by simp) hz2) ⟨z.1, hb, h' _ (F.change (Heap.SameBut.update ..) z.2.1 z.2.2) (kl_turn0 (fun x => x ++ #[]) N a c (by simp) rfl)⟩
  | cons v r =>
    obtain ⟨pre, post, rfl, e, a, c⟩ := (U (n + 1)).split
    have h' := fun h' => h h' (n + 1)
    rw [e] at h'
    have z := N (D, W.listOf #[] n) (List.mem_append.mpr (.inr (.head _)))
    refine call_meets PySem.F.slot_list_extend ⟨_, z.1, rfl⟩ PySem.F.entry_list_extend (PySem.F.args_list_extend_2 _ _) (PySem.AutoSeq1.list_extend_list_list_0 D #[] n b (v :: r).toArray n2 hd (by simp) hz2) ⟨z.1, hb, h' _ (F.change (Heap.SameBut.update ..) z.2.1 z.2.2) (kl_turn _ N a c ?_ ?_)⟩
    · apply Array.toList_inj.mp
      simp
    · simp
end
local macro_rules | `(tactic| walk_at "call builtin:list.extend") => `(tactic| (k_here; (show wpAny _ _ (call (Value.builtin "list.extend") [Value.ref _, Value.ref _]) _ _ _); (refine' ext_base ?F ?N ?b ?z ?U ?_; (case F => k_asm); (case N => k_asm); (case b => exact Fr.keep (by k_asm) _ _ (by assumption)); (case z => assumption); (case U => (intro k9; k_upd))); intro h' k' F' N'; (try dsimp only at N'); (try k_sweep)))
local macro_rules | `(tactic| k_room) => `(tactic| ktr_room)
def recDict (w : World) (U r : Addr) (t1 t2 t3 t4 : Tok) : Obj :=
  W.dictOf [{ hash := PyData.keyHash w.params (Str.ofString "useragents"), key := Value.str (Str.ofString "useragents") t1, val := Value.ref U },
            { hash := PyData.keyHash w.params (Str.ofString "rulelines"), key := Value.str (Str.ofString "rulelines") t2, val := Value.ref r },
            { hash := PyData.keyHash w.params (Str.ofString "delay"), key := Value.str (Str.ofString "delay") t3, val := Value.none },
            { hash := PyData.keyHash w.params (Str.ofString "req_rate"), key := Value.str (Str.ofString "req_rate") t4, val := Value.none }] 4
/-- a new record comes back -/
def NewRec (w : World) (vs : List Value) (h h' : Heap) (v : Value) : Prop :=
  ∃ R d U r k t1 t2 t3 t4, v = .ref R ∧ (h'.get? U = some (W.listOf vs.toArray k) ∧ h.get? U = none) ∧ (h'.get? R = some (instObj 59 d) ∧ h.get? R = none) ∧ (h'.get? d = some (recDict w U r t1 t2 t3 t4) ∧ h.get? d = none)
theorem newRec_of {w : World} {vs : List Value} {g h h' : Heap} {L r U R d : Addr} {k c : Nat} {t1 t2 t3 t4 : Tok} (e : g = h) (N : News g L h' [(r, W.listOf #[] c), (U, W.listOf vs.toArray k), (R, instObj 59 d), (d, recDict w U r t1 t2 t3 t4)]) : NewRec w vs h h' (.ref R) :=
  ⟨R, d, U, r, k, t1, t2, t3, t4, rfl, e ▸ ⟨(N _ (List.Mem.tail _ (List.Mem.head _))).1, (N _ (List.Mem.tail _ (List.Mem.head _))).2.2⟩,
    e ▸ ⟨(N _ (List.Mem.tail _ (List.Mem.tail _ (List.Mem.head _)))).1, (N _ (List.Mem.tail _ (List.Mem.tail _ (List.Mem.head _)))).2.2⟩,
    e ▸ ⟨(N _ (List.Mem.tail _ (List.Mem.tail _ (List.Mem.tail _ (List.Mem.head _))))).1, (N _ (List.Mem.tail _ (List.Mem.tail _ (List.Mem.tail _ (List.Mem.head _))))).2.2⟩⟩
theorem says_record {w : World} {mean : ExcName → Option Value} {mg mb : Str → Option Value} (P : Addr) (vs : List Value) (hl : vs.length ≤ 8) :
    Says w mean mg mb 89 3 48 [.ref P] (fun h => ∃ c, h.get? P = some (W.listOf vs.toArray c)) (fun h v h' => NewRec w vs h h' v) := by
  unfold Says
  k_fill
  w_on
  intro dp un gd cn cs a ccd cl outer A₀ base h₀ L m s Q E B F X T hk hp hd hu hret
  refine wpAny_call ?_
  refine' enter_whole ?k1 ?k2 ?k3 ?k5 ?kA ?kF ?kK ?k6 ?k7 ?k8 ?k9 ?kB ?_ ?c2 ?c3 ?c4 ?c5
  (case kA => exact rfl)
  (case kF => exact rfl)
  (case kK => assumption)
  (case k1 => k_asm)
  (case k2 => k_asm)
  (case k3 => k_asm)
  (case k5 => k_asm)
  (case k6 => k_is)
  (case k7 => k_is)
  (case k8 => ktr_room)
  (case k9 => exact BindsTo.of_eq rfl)
  (case c5 => decide)
  (case kB => exact locs rfl)
  (case c2 => exact rfl)
  (case c3 => exact rfl)
  (case c4 => exact rfl)
  intro g' L' h' eg F' N' B' X' T'
  (try dsimp only)
  (try k_lift B')
  (try k_fold)
  obtain ⟨c, hvs⟩ := hp
  have hvg : g'.get? P = some (W.listOf vs.toArray c) := by rw [eg]; exact hvs
  w_strict k_steps
  rename News _ _ _ _ => N9
  rename Fr _ _ _ _ => F9
  exact hret _ _ _ (stays_of eg F9) (newRec_of eg N9)
end Mine

/-! ForS -/
namespace Mine
open PySem.Calls
section
variable {prog : Program} {w : World} {A : Around} {E : Value → Shared → Prop} {s : Shared} {env : Env} {h₀ : Heap} {x : Str} {body : List Stmt} {Q : Flow → Shared → Prop}
/-- between the turns of a search: the ledger is as it was, the names too, but for the loop's own; G of the number of turns -/
def Srch (x : Str) (m₀ : Str → Option Value) (news : List (Addr × Obj)) (G : Nat → Prop) (i : Nat) (m : Str → Option Value) (nx : List (Addr × Obj)) : Prop := nx = news ∧ (∀ z, z ≠ x → m z = m₀ z) ∧ G i
theorem for_strs {l : Addr} {vs : List Value} {ss : List Str} {m₀ : Str → Option Value} {news : List (Addr × Obj)} (G : Nat → Prop)
    (hh : A.handled = none) (hl : h₀.IsList l vs.toArray) (hi : StrsAre vs ss) (F : Fr h₀ env.locals s.heap m₀) (N : News h₀ env.locals s.heap news) (hg : G 0)
    (turn : ∀ i y t (u : Option Value) h tk own, ss[i]? = some y → OwnOff own (news.map (·.1)) → G i → Fr h₀ env.locals h (fun z => if z = x then some (.str y t) else m₀ z) → News h₀ env.locals h (news ++ own) →
      wpAny (model prog w) A (execs body env) (InvPostN h₀ env.locals (Srch x m₀ news G (i + 1)) own (news.map (·.1)) { s with heap := h, toks := tk } Q) E { s with heap := h, toks := tk })
    (done : ∀ (u : Str → Option Value) h tk, G ss.length → Fr h₀ env.locals h (fun z => if z = x then u z else m₀ z) → News h₀ env.locals h news → Q .next { s with heap := h, toks := tk }) :
    wpAny (model prog w) A (pyIter (.ref l)) (fun it s₂ => LoopAtV prog w A h₀ env x body Q E it s₂) E s := by
  have hls : s.heap.IsList l vs.toArray := hl.at fun o e => F.keep l o e
  obtain ⟨ol, hol, _⟩ := id hl
  have hlt : l < h₀.objs.size := Heap.lt_size hol
  have hne : l ≠ s.heap.objs.size := Nat.ne_of_lt (Nat.lt_trans (Nat.lt_of_lt_of_le hlt F.above) F.ns.lt)
  refine wpAny_pyIter_list hls ?_
  have W := Walks.list (prog := prog) (w := w) hh s.heap.objs.size l hne vs.toArray
  have hlen : vs.length = ss.length := strs_len hi
  refine loop_invN (fun i m nx => Srch x m₀ news G i m nx) W ?_ ?_ ?_ ?_ ⟨⟨_, Heap.get?_push_size _ rfl, rfl, rfl⟩, hls.at fun o e => Heap.get?_push_of_some _ e⟩ (F.push _) (fun p hp => ⟨Heap.get?_push_of_some _ (N p hp).1, (N p hp).2⟩) ⟨rfl, fun _ _ => rfl, hg⟩ ?_ ?_
  · intro hm
    rcases List.mem_cons.mp hm with e | hm
    · exact absurd F.ns.lt (e ▸ Nat.lt_irrefl _)
    · exact absurd (Nat.lt_of_lt_of_le hlt F.above) ((List.mem_singleton.mp hm) ▸ Nat.lt_irrefl _)
  · intro b hb
    rw [List.mem_singleton.mp hb]
    exact next_is_new F
  · intro p hp hI
    exact absurd (Heap.lt_size (N p hp).1) ((List.mem_singleton.mp hI) ▸ Nat.lt_irrefl _)
  · intro p hp hm
    rcases List.mem_cons.mp hm with e | hm
    · exact absurd (Heap.lt_size (N p hp).1) (e ▸ Nat.lt_irrefl _)
    · have h3 := (N p hp).2.2
      rw [List.mem_singleton.mp hm, hol] at h3
      cases h3
  · rintro i v m₁ nx h tk own hin hP _ hoff ⟨rfl, hm, hG⟩ F₁ N₁
    obtain ⟨y, t, hy, rfl⟩ := strs_get hi i v (by simpa using hP)
    have em : (fun z => if z = x then some (Value.str y t) else m₁ z) = fun z => if z = x then some (Value.str y t) else m₀ z := by
      funext z
      by_cases hz : z = x
      · simp [hz]
      · simp [hz, hm z hz]
    rw [em] at F₁
    exact turn i y t none h tk own hy hoff hG F₁ N₁
  · rintro m₁ nx h tk ⟨rfl, hm, hG⟩ F₁ N₁
    rw [List.size_toArray, hlen] at hG
    have em : m₁ = fun z => if z = x then m₁ z else m₀ z := by
      funext z
      by_cases hz : z = x
      · simp [hz]
      · simp [hz, hm z hz]
    rw [em] at F₁
    exact done m₁ h tk hG F₁ N₁
theorem srch_end {m₀ m' : Str → Option Value} {news news' own : List (Addr × Obj)} {G : Nat → Prop} {i : Nat} {L : Addr} {s₁ : Shared} {h' : Heap} {tk : Nat} (F : Fr h₀ L h' m') (N : News h₀ L h' news') (hn : ∀ p ∈ news ++ own, p ∈ news') (hm : ∀ z, z ≠ x → m' z = m₀ z) (hg : G i) :
    InvEndN h₀ L (Srch x m₀ news G i) own (news.map (·.1)) s₁ { s₁ with heap := h', toks := tk } :=
  InvEndN.intro F N ⟨rfl, hm, hg⟩ rfl (fun p hp => hn p (List.mem_append_left _ hp)) (fun p hp => hn p (List.mem_append_right _ hp))
end
end Mine

/-! Front -/
namespace Mine
open PySem.Builtin.Str
/-- what stands ahead of the first slash -/
def front (l : List Nat) : List Nat := l.takeWhile (· != 47)
theorem takeWhile_none {c : Nat} : ∀ {l : List Nat}, c ∉ l → l.takeWhile (· != c) = l
  | [], _ => rfl
  | a :: r, h => by
    have h1 : a ≠ c := fun e => h (e ▸ List.Mem.head _)
    have h2 : c ∉ r := fun m => h (List.Mem.tail _ m)
    simp [h1, takeWhile_none h2]
theorem takeWhile_at {c : Nat} : ∀ {l : List Nat} {i : Nat}, l[i]? = some c → (∀ k, k < i → l[k]? ≠ some c) → l.takeWhile (· != c) = l.take i
  | [], _, h, _ => by simp at h
  | a :: r, 0, h, _ => by
    have h1 : a = c := by simpa using h
    simp [h1]
  | a :: r, i + 1, h, hk => by
    have h1 : a ≠ c := by have := hk 0 (by omega); simpa using this
    simp only [List.takeWhile_cons, List.take_succ_cons]
    rw [takeWhile_at (i := i) (by simpa using h) (fun k hk' => by have := hk (k + 1) (by omega); simpa using this)]
    simp [h1]
theorem slash_is : Str.ofString "/" = ⟨#[47]⟩ := by decide +kernel
theorem at_slash (l : List Nat) (i : Nat) : StrLaws.At (mk l) (Str.ofString "/") (mk l).length i ↔ l[i]? = some 47 := by
  rw [slash_is]
  exact StrLaws.subAt_one (mk l) 47 i
theorem sub_take (l : List Nat) (i : Nat) : strSub (mk l) 0 i = mk (l.take i) := by
  unfold strSub mk
  simp
theorem front_sub {l : List Nat} {i : Nat} (h : StrLaws.At (mk l) (Str.ofString "/") (mk l).length i) (hk : ∀ k, k < i → ¬ StrLaws.At (mk l) (Str.ofString "/") (mk l).length k) : strSub (mk l) 0 i = mk (front l) := by
  rw [sub_take, front, takeWhile_at ((at_slash l i).mp h) fun k hk' e => hk k hk' ((at_slash l k).mpr e)]
theorem front_none {l : List Nat} (h : ∀ i, ¬ StrLaws.At (mk l) (Str.ofString "/") (mk l).length i) : front l = l := by
  refine takeWhile_none fun hm => ?_
  obtain ⟨i, hi, e⟩ := List.mem_iff_getElem.mp hm
  exact h i ((at_slash l i).mpr (by simp [hi, e]))
theorem part_front (l : List Nat) : (Txt.partition (mk l) (Str.ofString "/")).1 = mk (front l) := by
  rcases partition_head (mk l) (Str.ofString "/") with ⟨e, h⟩ | ⟨i, e, h, hk⟩
  · rw [e, front_none h]
  · rw [e, front_sub h hk]
theorem split_front (l : List Nat) : (Txt.split (mk l) (Str.ofString "/"))[0]? = some (mk (front l)) := by
  have k1 : strKind (Str.ofString "/") = 1 := by decide +kernel
  have k2 : 1 ≤ strKind (mk l) := by
    unfold Builtin.Str.strKind
    split
    · decide
    · split <;> decide
  have k3 : (Str.ofString "/").length = 1 := by decide +kernel
  unfold Txt.split
  rw [k1, k3]
  have k4 : decide (Builtin.Str.strKind (mk l) < 1) = false := by simp; omega
  rw [k4, Bool.or_false]
  rcases StrLaws.occ_head (mk l) (Str.ofString "/") ((mk l).length + 1) (by omega) with ⟨e, h⟩ | ⟨i, r, e, h, hk⟩
  · rw [e, front_none h]
    split <;> simp
  · have hlt : ¬ (mk l).length < 1 := by have := h.1; rw [k3] at this; omega
    rw [e, ← front_sub h hk, if_neg (by simpa using hlt)]
    simp [partsBetween]
theorem front_alpha {l : List Nat} (h : Alpha l) : Alpha (front l) := fun c hc => h c ((List.takeWhile_sublist _).mem hc)
theorem front_len (l : List Nat) : (front l).length ≤ l.length := (List.takeWhile_sublist _).length_le
theorem swp_slash {c : Nat} : (swp c != 47) = (c != 47) := by
  unfold swp
  by_cases h1 : c = 97
  · subst h1; decide
  by_cases h2 : c = 98
  · subst h2; decide
  by_cases h3 : c = 65
  · subst h3; decide
  by_cases h4 : c = 66
  · subst h4; decide
  simp [h1, h2, h3, h4]
theorem front_swp : ∀ l : List Nat, front (l.map swp) = (front l).map swp
  | [] => rfl
  | a :: r => by
    unfold front
    rw [List.map_cons, List.takeWhile_cons, List.takeWhile_cons, swp_slash]
    cases h : (a != 47)
    · rfl
    · exact congrArg (swp a :: ·) (front_swp r)
theorem low_swp {l : List Nat} (h : Alpha l) : (l.map swp).map low = l.map low := by
  rw [List.map_map]
  apply List.map_congr_left
  intro c hc
  rcases h c hc with h | h | h | h | h | h <;> subst h <;> decide
/-- a text within a text: one of its pieces -/
theorem in_pieces (u a : List Nat) : (!(occurrences (mk u) (mk a) 0 (mk u).length 1).isEmpty) = decide (∃ p ∈ pieces u a.length, p = a) := by
  have key : (!(occurrences (mk u) (mk a) 0 (mk u).length 1).isEmpty) = true ↔ ∃ p ∈ pieces u a.length, p = a := by
    rw [StrLaws.found_iff, mk_len, mk_len]
    constructor
    · rintro ⟨i, hi, hs⟩
      refine ⟨(u.drop i).take a.length, List.mem_map.mpr ⟨i, List.mem_range.mpr (by omega), rfl⟩, ?_⟩
      unfold subAt at hs
      rw [mk_len] at hs
      have hs' := eq_of_beq hs
      have := congrArg Array.toList hs'
      simpa [mk, List.take_drop] using this
    · rintro ⟨p, hp, rfl⟩
      obtain ⟨i, hi, e⟩ := List.mem_map.mp hp
      rw [List.mem_range] at hi
      refine ⟨i, by omega, ?_⟩
      unfold subAt
      rw [mk_len]
      have : (mk u).cps.extract i (i + p.length) = (mk p).cps := by
        apply Array.toList_inj.mp
        rw [mk_chars]
        conv => rhs; rw [← e]
        simp [mk, List.take_drop]
      rw [this]
      exact beq_self_eq_true _
  cases h : (!(occurrences (mk u) (mk a) 0 (mk u).length 1).isEmpty)
  · have : ¬ ∃ p ∈ pieces u a.length, p = a := fun q => by rw [← key, h] at q; cases q
    simp only [this, decide_false]
  · have := key.mp h
    simp only [this, decide_true]
end Mine

/-! A1 -/
namespace Mine
open PySem.Calls
/-- a record of these agents stands at R -/
def RecAt (w : World) (R : Addr) (ss : List Str) (h : Heap) : Prop :=
  ∃ d U r k t1 t2 t3 t4 vs, h.get? U = some (W.listOf vs.toArray k) ∧ h.get? R = some (instObj 59 d) ∧ h.get? d = some (recDict w U r t1 t2 t3 t4) ∧ StrsAre vs ss
theorem inst_base {w : World} {g h : Heap} {L R d U r : Addr} {m : Str → Option Value} {t1 t2 t3 t4 : Tok} (F : Fr g L h m) (hR : g.get? R = some (instObj 59 d)) (hd : g.get? d = some (recDict w U r t1 t2 t3 t4)) : InstAt h R (instObj 59 d) 59 (some (recDict w U r t1 t2 t3 t4)) :=
  ⟨F.keep _ _ hR, rfl, rfl, F.keep _ _ hd⟩
local macro_rules | `(tactic| k_room) => `(tactic| ktr_room)
local macro_rules | `(tactic| k_inst) => `(tactic| exact inst_base (by k_asm) (by assumption) (by assumption))
local macro_rules | `(tactic| walk_at "compareOp In str ref") => `(tactic| (k_here; (with_reducible show wpAny _ _ (compareOp CmpOp.In (Value.str _ _) (Value.ref _)) _ _ _); (refine' in_list_strs ?k1 ?k2 ?_; (case k1 => exact ⟨_, Fr.keep (by k_asm) _ _ (by assumption), rfl, _, rfl⟩); (case k2 => assumption))))
local macro_rules | `(tactic| walk_at "pyIter ref") => `(tactic| (refine held ?_))
theorem says_none {w : World} {mean : ExcName → Option Value} {mg mb : Str → Option Value} (R : Addr) (ss : List Str) :
    Says w mean mg mb 49 1 48 [.ref R, .none] (RecAt w R ss) (fun _ v _ => v = .bool (ss.any (· == Str.ofString "*"))) := by
  unfold Says
  k_fill
  w_on
  intro dp un gd cn cs a ccd cl outer A₀ base h₀ L m s Q E B F X T hk hp hd hu hret
  refine wpAny_call ?_
  refine' enter_whole ?k1 ?k2 ?k3 ?k5 ?kA ?kF ?kK ?k6 ?k7 ?k8 ?k9 ?kB ?_ ?c2 ?c3 ?c4 ?c5
  (case kA => exact rfl)
  (case kF => exact rfl)
  (case kK => assumption)
  (case k1 => k_asm)
  (case k2 => k_asm)
  (case k3 => k_asm)
  (case k5 => k_asm)
  (case k6 => k_is)
  (case k7 => k_is)
  (case k8 => ktr_room)
  (case k9 => exact BindsTo.of_eq rfl)
  (case c5 => decide)
  (case kB => exact locs rfl)
  (case c2 => exact rfl)
  (case c3 => exact rfl)
  (case c4 => exact rfl)
  intro g' L' h' eg F' N' B' X' T'
  (try dsimp only)
  (try k_lift B')
  (try k_fold)
  obtain ⟨d, U, r, k, t1, t2, t3, t4, vs, hU, hR, hD, hss⟩ := hp
  rw [← eg] at hU hR hD
  w_strict k_steps
  rename Fr _ _ _ _ => F9
  exact hret _ _ _ (stays_of eg F9) rfl
/-- an agent is found in a name's front -/
def hit (u : Str) (y : Str) : Bool := !(y == Str.ofString "*") && !(Builtin.Str.occurrences u (Txt.lower y) 0 u.length 1).isEmpty
theorem hit_more {uu y : Str} {ss : List Str} {i : Nat} (hy : ss[i]? = some y) (h : ∀ z ∈ ss.take i, hit uu z = false) (hh : hit uu y = false) : ∀ z ∈ ss.take (i + 1), hit uu z = false := by
  intro z hz
  rw [List.take_add_one, hy] at hz
  rcases List.mem_append.mp hz with hz | hz
  · exact h z hz
  · have : z = y := by simpa using hz
    rw [this]; exact hh
local macro_rules | `(tactic| walk_at "exec For Name Attribute cons nil") => `(tactic| (refine held ?_))
theorem says_applies {w : World} {mean : ExcName → Option Value} {mg mb : Str → Option Value} (R : Addr) (ss : List Str) (nm : List Nat) (tn : Tok) (hn6 : nm.length ≤ 6) (hsl : ∀ y ∈ ss, y.length ≤ 6) :
    Says w mean mg mb 49 1 48 [.ref R, .str (mk nm) tn] (RecAt w R ss) (fun _ v _ => v = .bool (ss.any (hit (Txt.lower (mk (front nm)))))) := by
  unfold Says
  k_fill
  w_on
  intro dp un gd cn cs a ccd cl outer A₀ base h₀ L m s Q E B F X T hk hp hd hu hret
  refine wpAny_call ?_
  refine' enter_whole ?k1 ?k2 ?k3 ?k5 ?kA ?kF ?kK ?k6 ?k7 ?k8 ?k9 ?kB ?_ ?c2 ?c3 ?c4 ?c5
  (case kA => exact rfl)
  (case kF => exact rfl)
  (case kK => assumption)
  (case k1 => k_asm)
  (case k2 => k_asm)
  (case k3 => k_asm)
  (case k5 => k_asm)
  (case k6 => k_is)
  (case k7 => k_is)
  (case k8 => ktr_room)
  (case k9 => exact BindsTo.of_eq rfl)
  (case c5 => decide)
  (case kB => exact locs rfl)
  (case c2 => exact rfl)
  (case c3 => exact rfl)
  (case c4 => exact rfl)
  intro g' L' h' eg F' N' B' X' T'
  (try dsimp only)
  (try k_lift B')
  (try k_fold)
  obtain ⟨d, U, r, k, t1, t2, t3, t4, vs, hU, hR, hD, hss⟩ := hp
  rw [← eg] at hU hR hD
  have hln : (mk nm).length = nm.length := mk_len nm
  w_strict k_steps
  rename _[_]? = some _ => ey
  rename List.map _ _ = Txt.split _ _ => es
  rw [es] at ey
  have ey2 := Option.some.inj (ey.symm.trans (split_front nm))
  subst ey2
  have hlf : (mk (front nm)).length ≤ 6 := by rw [mk_len]; exact Nat.le_trans (front_len nm) hn6
  clear ey es
  w_strict k_steps
  refine unheld ?_
  have hul : (Txt.lower (mk (front nm))).length ≤ 18 := by omega
  generalize Txt.lower (mk (front nm)) = uu at *
  rename Fr _ _ _ _ => F2
  rename News _ _ _ _ => N2
  refine' For_invVF F2 ?k1 ?k2 ?_ (by intro _; rfl) PassesOwn.never
  (case k1 => exact rfl)
  (case k2 => exact rfl)
  w_strict k_steps
  refine unheld ?_
  refine for_strs (fun i => ∀ y ∈ ss.take i, hit uu y = false) rfl ⟨_, hU, rfl, _, rfl⟩ hss F2 N2 (by simp) ?_ ?_
  · intro i y ty _ h4 tk4 own hy hoff hG F4 N4
    clear F2 N2
    have hyl : y.length ≤ 6 := hsl y (List.mem_of_getElem? hy)
    w_strict k_steps
    · rename (_ != _) = true => e1
      rename List.isEmpty _ = true => e2
      refine srch_end (by assumption) (by assumption) (fun p hp => hp) ?_ (hit_more hy hG ?_)
      · intro z hz
        simp [hz]
      · simp [hit, e2]
    · rename (_ != _) = true => e1
      rename List.isEmpty _ = false => e2
      refine hret _ _ _ (stays_of eg (by assumption)) ?_
      have hh : hit uu y = true := by simp only [hit, e2]; simpa using e1
      rw [List.any_eq_true.mpr ⟨y, List.mem_of_getElem? hy, hh⟩]
    · rename (_ != _) = false => e1
      refine srch_end (by assumption) (by assumption) (fun p hp => hp) ?_ (hit_more hy hG ?_)
      · intro z hz
        simp [hz]
      · have : y = Str.ofString "*" := by simpa using e1
        simp [hit, this]
  · intro u4 h4 tk4 hG F4 N4
    clear F2 N2
    w_strict k_steps
    refine hret _ _ _ (stays_of eg F4) ?_
    rw [List.take_length] at hG
    rw [List.any_eq_false.mpr fun y hy => by rw [hG y hy]; exact Bool.false_ne_true]
end Mine

/-! L0 -/
namespace Mine
open PySem.Calls
def ArgOf {A B : Prop} (_ : A → B) : Prop := A
/-- the agent is found, plainly -/
def fnd (x f : List Nat) : Bool := decide (∃ p ∈ pieces f x.length, p.map low = x.map low)
theorem pieces_map (g : Nat → Nat) (f : List Nat) (n : Nat) : pieces (f.map g) n = (pieces f n).map (List.map g) := by
  unfold pieces
  rw [List.map_map, List.length_map]
  apply List.map_congr_left
  intro k _
  simp [List.map_take, List.map_drop]
theorem hit_is {x f : List Nat} (hx : Alpha x) (hf : Alpha f) : hit (Txt.lower (mk f)) (mk x) = ((mk x != Str.ofString "*") && fnd x f) := by
  unfold hit
  rw [lower_mk hx, lower_mk hf, in_pieces, pieces_map, List.length_map]
  unfold fnd
  congr 1
  simp
theorem hit_swp {x f : List Nat} (hx : Alpha x) (hf : Alpha f) : hit (Txt.lower (mk (f.map swp))) (mk x) = ((mk x != Str.ofString "*") && fnd x f) := by
  rw [← hit_is hx hf, lower_mk hf, lower_mk (alpha_swp hf), low_swp hf]
section
variable {w : World} {mean : ExcName → Option Value} {mg mb : Str → Option Value}
theorem says_word2 {x i : Int} {tx tn : Tok} (h0 : 0 ≤ i) (h6 : i ≤ 6) :
    Says w mean mg mb 82 1 16 [.int x tx, .int i tn] (fun _ => True) (fun _ v _ => ∃ l t, v = .str (mk l) t ∧ (l.length : Int) = i ∧ Alpha l) := by
  obtain ⟨n, rfl⟩ := Int.eq_ofNat_of_zero_le h0
  have := says_word (w := w) (mean := mean) (mg := mg) (mb := mb) x n tx tn (by omega)
  simpa only [Int.ofNat_inj] using this
theorem says_priced2 {x nm : List Nat} {y : Str} {spare : Int} {t1 t2 t3 : Tok} (e : y = (Txt.partition (mk nm) (Str.ofString "/")).1) (hx : Alpha x) (hf : Alpha nm) (hx3 : x.length ≤ 3) (hf6 : nm.length ≤ 6) (hs0 : 0 ≤ spare) :
    Says w mean mg mb 109 4 160 [.str (mk x) t1, .str y t2, .int spare t3] (fun _ => True) (fun _ v _ => v = .bool (fnd x (front nm))) := by
  rw [e, part_front]
  exact says_priced x (front nm) spare t1 t2 t3 hx (front_alpha hf) hx3 (Nat.le_trans (front_len nm) hf6) hs0
theorem says_app1 {R : Addr} {x nm : List Nat} {t : Tok} (hx : Alpha x) (hf : Alpha nm) (hx3 : x.length ≤ 3) (hf6 : nm.length ≤ 6) :
    Says w mean mg mb 49 1 48 [.ref R, .str (mk nm) t] (RecAt w R [mk x]) (fun _ v _ => v = .bool ((mk x != Str.ofString "*") && fnd x (front nm))) := by
  have := says_applies (w := w) (mean := mean) (mg := mg) (mb := mb) R [mk x] nm t hf6 (fun y hy => by rw [List.mem_singleton.mp hy, mk_len]; omega)
  simpa only [List.any_cons, List.any_nil, Bool.or_false, hit_is hx (front_alpha hf)] using this
theorem says_app3 {R : Addr} {x y z nm : List Nat} {t : Tok} (hx : Alpha x) (hy : Alpha y) (hz : Alpha z) (hf : Alpha nm) (hx3 : x.length ≤ 3) (hy3 : y.length ≤ 3) (hz3 : z.length ≤ 3) (hf6 : nm.length ≤ 6) :
    Says w mean mg mb 49 1 48 [.ref R, .str (mk nm) t] (RecAt w R [mk x, mk y, mk z]) (fun _ v _ => v = .bool (((mk x != Str.ofString "*") && fnd x (front nm)) || (((mk y != Str.ofString "*") && fnd y (front nm)) || ((mk z != Str.ofString "*") && fnd z (front nm))))) := by
  have := says_applies (w := w) (mean := mean) (mg := mg) (mb := mb) R [mk x, mk y, mk z] nm t hf6 (fun y hy => by
    simp only [List.mem_cons, List.not_mem_nil, or_false] at hy
    rcases hy with rfl | rfl | rfl <;> rw [mk_len] <;> omega)
  simpa only [List.any_cons, List.any_nil, Bool.or_false, hit_is hx (front_alpha hf), hit_is hy (front_alpha hf), hit_is hz (front_alpha hf)] using this
theorem says_app3s {R : Addr} {x y z nm : List Nat} {t : Tok} (hx : Alpha x) (hy : Alpha y) (hz : Alpha z) (hf : Alpha nm) (hx3 : x.length ≤ 3) (hy3 : y.length ≤ 3) (hz3 : z.length ≤ 3) (hf6 : nm.length ≤ 6) :
    Says w mean mg mb 49 1 48 [.ref R, .str (Txt.swapcase (mk nm)) t] (RecAt w R [mk x, mk y, mk z]) (fun _ v _ => v = .bool (((mk x != Str.ofString "*") && fnd x (front nm)) || (((mk y != Str.ofString "*") && fnd y (front nm)) || ((mk z != Str.ofString "*") && fnd z (front nm))))) := by
  rw [swap_mk hf]
  have := says_applies (w := w) (mean := mean) (mg := mg) (mb := mb) R [mk x, mk y, mk z] (nm.map swp) t (by simpa using hf6) (fun y hy => by
    simp only [List.mem_cons, List.not_mem_nil, or_false] at hy
    rcases hy with rfl | rfl | rfl <;> rw [mk_len] <;> omega)
  rw [front_swp] at this
  simpa only [List.any_cons, List.any_nil, Bool.or_false, hit_swp hx (front_alpha hf), hit_swp hy (front_alpha hf), hit_swp hz (front_alpha hf)] using this
theorem says_app0 {R : Addr} {nm : List Nat} {t : Tok} (hf6 : nm.length ≤ 6) :
    Says w mean mg mb 49 1 48 [.ref R, .str (mk nm) t] (RecAt w R []) (fun _ v _ => v = .bool false) :=
  says_applies (w := w) (mean := mean) (mg := mg) (mb := mb) R [] nm t hf6 (fun y hy => nomatch hy)
end
section
variable {w : World} {mean : ExcName → Option Value} {mg mb : Str → Option Value} {f : Addr} {d u : Nat} {vals : List Value} {Pre : Heap → Prop} {P : List Value → Prop} {vs : List Value}
  {dp un : Nat} {gd : Option (List Code)} {cn : Str} {cs : Scope} {a : Addr} {ccd : Value} {cl : List (Str × Addr)} {outer : List Env} {A₀ : Around} {base h₀ : Heap} {L : Addr} {m : Str → Option Value} {news : List (Addr × Obj)} {s : Shared} {Q E : Value → Shared → Prop}
theorem off1_of {h : Heap} {D : Addr} (N : News h₀ L h news) (h2 : h.get? D = none) : LCg.Off1 D news := by
  have hm : ∀ p ∈ news, p.1 ≠ D := fun p hp e => by
    have := (N p hp).1; rw [e, h2] at this; cases this
  clear N
  induction news with
  | nil => trivial
  | cons p r ih => exact ⟨hm p (List.Mem.head _), ih fun q hq => hm q (List.Mem.tail _ hq)⟩
/-- a call that hands back a new record -/
theorem Says.useRec (C : Says w mean mg mb f d u vals Pre (fun h v h' => NewRec w vs h h' v)) (B : Below A₀ base outer h₀) (F : Fr h₀ L s.heap m) (N : News h₀ L s.heap news) (X : (hd.heap_39 w.params).In h₀) (T : Top hd.view_39 (looseW hd.view_39 []) mean mg mb h₀) (hk : cs.kind = .function)
    (hp : Pre s.heap) (hd : dp + d < recursionLimit) (hu : un + u < cLine)
    (ret : ∀ R d' U r k t1 t2 t3 t4 h' tk', Fr h₀ L h' m → News h₀ L h' ((U, W.listOf vs.toArray k) :: (R, instObj 59 d') :: (d', recDict w U r t1 t2 t3 t4) :: news) → LCg.Off1 U news → LCg.Off1 R news → LCg.Off1 d' news → Q (.ref R) { s with heap := h', toks := tk' }) :
    wpAny (model PySem.Challenge.rw_nb0146_01.row.prog w) (ktrTop dp un gd cn cs L a ccd cl outer) (call (.ref f) vals) Q E s :=
  C _ _ _ _ _ _ _ _ _ _ _ _ _ _ _ _ _ B F X T hk hp hd hu fun v h' tk' st post => by
    obtain ⟨R, d', U, r, k, t1, t2, t3, t4, rfl, ⟨hU, nU⟩, ⟨hR, nR⟩, ⟨hD, nD⟩⟩ := post
    have N1 := news_more F N st hD nD
    have F1 := fr_stays F st
    refine ret R d' U r k t1 t2 t3 t4 h' tk' F1 ?_ (off1_of N nU) (off1_of N nR) (off1_of N nD)
    intro p hp
    rcases List.mem_cons.mp hp with rfl | hp
    · exact news_more F N st hU nU _ (List.Mem.head _)
    rcases List.mem_cons.mp hp with rfl | hp
    · exact news_more F N st hR nR _ (List.Mem.head _)
    · exact N1 p hp
theorem recAt_of {h : Heap} {R d' U r : Addr} {k : Nat} {t1 t2 t3 t4 : Tok} {ss : List Str} (N : News h₀ L h news) (mR : (R, instObj 59 d') ∈ news) (mD : (d', recDict w U r t1 t2 t3 t4) ∈ news) (mU : (U, W.listOf vs.toArray k) ∈ news) (hs : StrsAre vs ss) : RecAt w R ss h :=
  ⟨d', U, r, k, t1, t2, t3, t4, vs, (N _ mU).1, (N _ mR).1, (N _ mD).1, hs⟩
theorem stands_of {h : Heap} {P : Addr} {c : Nat} (N : News h₀ L h news) (hm : (P, W.listOf vs.toArray c) ∈ news) : ∃ c, h.get? P = some (W.listOf vs.toArray c) := ⟨c, (N _ hm).1⟩
end
section
variable {prog : Program} {w : World} {A : Around} {E : Value → Shared → Prop} {s : Shared} {Q : Value → Shared → Prop}
theorem div_four {x : Int} {t u : Tok} (h : ∀ q tk, Q (.int q tk) { s with toks := s.toks + 1 }) : wpAny (model prog w) A (binaryOp .FloorDiv (.int x t) (.int 4 u)) Q E s :=
  floordiv_int (by decide) (h _ _) (Or.inl (PyProof.noPylong_small (by decide)))
theorem mod_four {x : Int} {t u : Tok} (h : ∀ q tk, 0 ≤ q → q < 4 → Q (.int q tk) { s with toks := s.toks + 1 }) : wpAny (model prog w) A (binaryOp .Mod (.int x t) (.int 4 u)) Q E s :=
  mod_int' (by decide) (h _ _ (Int.fmod_nonneg_of_pos _ (by decide)) (Int.fmod_lt_of_pos _ (by decide)))
/-- the first part of an and is walked -/
def AndEnd (Q : Value → Shared → Prop) (b2 : Bool) (h : Heap) (v : Value) (s₁ : Shared) : Prop := ∃ b1, v = .bool b1 ∧ s₁.heap = h ∧ Q (.bool (b1 && b2)) s₁
theorem andEnd {b1 b2 : Bool} {h : Heap} {s₁ : Shared} (e : s₁.heap = h) (hq : Q (.bool (b1 && b2)) s₁) : AndEnd Q b2 h (.bool b1) s₁ := ⟨b1, rfl, e, hq⟩
theorem and_join {e₁ : Expr} {x name : Str} {scope : Scope} {L a : Addr} {cd : Value} {px pos : Pos} {h₀ : Heap} {m : Str → Option Value} (b2 : Bool) (F : Fr h₀ L s.heap m) (hv : m x = some (.bool b2))
    (h : wpAny (model prog w) A (eval e₁ (envOf name scope L a cd)) (AndEnd Q b2 s.heap) E s)
    (hk : scope.kind = .function := by rfl) (hl : (envOf name scope L a cd).kindOf x = some .local := by rfl) (hd : (x == ("__debug__" : Str)) = false := by decide) :
    wpAny (model prog w) A (eval (.BoolOp .And [e₁, .Name x px] pos) (envOf name scope L a cd)) Q E s := by
  refine BoolOp_and (wpAny_mono h (fun v s₁ p => ?_) fun _ _ e => e)
  obtain ⟨b1, rfl, e, hq⟩ := p
  refine wpAny_truthy_bool ?_
  cases b1 with
  | true => exact BoolOp_one (ld (e ▸ F) hv (by simpa using hq) hk hl hd)
  | false => simpa using hq
theorem unr_end {h₀ : Heap} {L I : Addr} {it : Obj} {rest : (Str → Option Value) → List (Addr × Obj) → Prop} {s₁ : Shared} {h' : Heap} {tk : Nat} {m' : Str → Option Value} {a b c d : Addr × Obj} {tail : List (Addr × Obj)}
    (F : Fr h₀ L h' m') (N : News h₀ L h' (a :: b :: c :: d :: (I, it) :: tail)) (off : OffI I it tail) (r : rest m' tail) : UnrEnd h₀ L s₁ I it rest { s₁ with heap := h', toks := tk } :=
  UnrEnd.intro F N tail (fun _ hp => List.Mem.tail _ (List.Mem.tail _ (List.Mem.tail _ (List.Mem.tail _ hp)))) (fun p hp e => by
    rcases off.at p hp with h | h
    · exact h e
    · have h1 := (N p (List.Mem.tail _ (List.Mem.tail _ (List.Mem.tail _ (List.Mem.tail _ (List.Mem.tail _ hp)))))).1
      have h2 := (N _ (List.Mem.tail _ (List.Mem.tail _ (List.Mem.tail _ (List.Mem.tail _ (List.Mem.head _)))))).1
      rw [e] at h1
      exact h (congrArg Obj.cls (Option.some.inj (h1.symm.trans h2)))) r
theorem eqg_bool (a b : Bool) : MeetsSeq.EqGives (.bool a) (.bool b) (a == b) := fun prog w A E s Q h => SeqAt.EqAt.bool_bool (A := A) (s := s) a b prog w E Q h
def boolV : Value → Bool
  | .bool b => b == true
  | _ => false
theorem in_three {l : Addr} {b1 b2 b3 : Bool} (hl : s.heap.IsList l [Value.bool b1, Value.bool b2, Value.bool b3].toArray) (h : Q (.bool (b1 || (b2 || b3))) s) : wpAny (model prog w) A (compareOp .In (.bool true) (.ref l)) Q E s :=
  SeqInW.in_listW boolV (fun y hy => by
    have hy' : y = .bool b1 ∨ y = .bool b2 ∨ y = .bool b3 := by simpa using hy
    rcases hy' with rfl | rfl | rfl
    · exact eqg_bool b1 true
    · exact eqg_bool b2 true
    · exact eqg_bool b3 true) hl (by simpa [boolV] using h)
theorem strOk_mk {l : List Nat} (h : Alpha l) : PyData.strOk (mk l) = true := by
  unfold PyData.strOk
  rw [Array.all_eq_true]
  intro i hi
  have := h ((mk l).cps[i]) (show (mk l).cps[i] ∈ (mk l).cps.toList from Array.getElem_mem_toList hi)
  simp only [decide_eq_true_eq]
  omega
theorem eq_texts {a b : Addr} {x y z : List Nat} {t1 t2 t3 u1 u2 u3 : Tok} (ax : Alpha x) (ay : Alpha y) (az : Alpha z) (ha : s.heap.IsList a [Value.str (mk x) t1, Value.str (mk y) t2, Value.str (mk z) t3].toArray) (hb : s.heap.IsList b [Value.str (mk x) u1, Value.str (mk y) u2, Value.str (mk z) u3].toArray) (hu : A.units + 64 < cLine) (h : Q (.bool true) s) :
    wpAny (model prog w) A (compareOp .Eq (.ref a) (.ref b)) Q E s := by
  have r1 := reads_newData ha (StrsAre.carried (.cons (mk x) t1 (.cons (mk y) t2 (.cons (mk z) t3 .nil))))
  have r2 := reads_newData hb (StrsAre.carried (.cons (mk x) u1 (.cons (mk y) u2 (.cons (mk z) u3 .nil))))
  have sh : SeqAt.shaped (.list ([mk x, mk y, mk z].map PyData.str)) = true := by simp [SeqAt.shaped, PyData.canLay0, PyData.canLayAll0, PyData.depth, PyData.depthAll, strOk_mk ax, strOk_mk ay, strOk_mk az]
  refine eq_dataH r1 r2 sh sh hu ?_
  simpa [PyData.eqv, PyData.eqvAll] using h
theorem ite_same {b : Bool} {P Q : Prop} (q : Q) : if (b != b) = true then P else Q := by simpa using q
end
end Mine

/-! L1 -/
namespace Mine
open PySem.Calls
local macro_rules | `(tactic| walk_at "call ref") => `(tactic| (refine held ?_))
local macro_rules | `(tactic| walk_at "binaryOp FloorDiv int int") => `(tactic| (refine div_four ?_; intro _ _))
local macro_rules | `(tactic| walk_at "binaryOp Mod int int") => `(tactic| (refine mod_four ?_; intro _ _ _ _))
local macro_rules | `(tactic| walk_at "call ref") => `(tactic| (k_here; (with_reducible show wpAny _ _ (call (Value.ref 82) [Value.int _ _, Value.int _ _]) _ _ _); k_dflt (refine' Says.use (says_word2 ?l1 ?l2) ?k1 ?k2 ?k3 ?k4 ?k5 ?k6 ?k7 ?k8 ?k9 ?_; (case l1 => omega); (case l2 => omega); (case k1 => k_asm); (case k2 => k_asm); (case k3 => k_asm); (case k4 => k_asm); (case k5 => k_asm); (case k6 => first | exact rfl | assumption); (case k7 => exact trivial); (case k8 => ktr_room); (case k9 => ktr_units)); intro v9 h9 tk9 F9 N9 P9; obtain ⟨l9, t9, e9, ll9, la9⟩ := P9; subst e9; (have lm9 := mk_len l9); (try dsimp only); (try k_fold)))
local macro_rules | `(tactic| walk_at "call ref") => `(tactic| (k_here; (with_reducible show wpAny _ _ (call (Value.ref 109) [Value.str (mk _) _, Value.str _ _, Value.int _ _]) _ _ _); k_dflt (refine' Says.use (says_priced2 ?l0 ?l1 ?l2 ?l3 ?l4 ?l5) ?k1 ?k2 ?k3 ?k4 ?k5 ?k6 ?k7 ?k8 ?k9 ?_; (case l0 => exact rfl); (case l1 => assumption); (case l2 => assumption); (case l3 => omega); (case l4 => omega); (case l5 => omega); (case k1 => k_asm); (case k2 => k_asm); (case k3 => k_asm); (case k4 => k_asm); (case k5 => k_asm); (case k6 => first | exact rfl | assumption); (case k7 => exact trivial); (case k8 => ktr_room); (case k9 => ktr_units)); intro v9 h9 tk9 F9 N9 P9; subst P9; (try dsimp only); (try k_fold)))
local macro_rules | `(tactic| walk_at "CompSrc") => `(tactic| (refine held ?_))
local macro_rules | `(tactic| walk_at "CompEnd") => `(tactic| (refine held ?_))
local macro_rules | `(tactic| walk_at "eval BoolOp") => `(tactic| (k_here; (with_reducible show wpAny _ _ (eval (Expr.BoolOp BoolOp.And [_, Expr.Name _ _] _) _) _ _ _); k_dflt (refine' and_join _ ?k1 ?k2 ?_; (case k1 => k_asm); (case k2 => exact rfl))))
local macro_rules | `(tactic| walk_at "AndEnd") => `(tactic| (refine andEnd rfl ?_))
local macro_rules | `(tactic| walk_at "call ref") => `(tactic| (k_here; (with_reducible show wpAny _ _ (call (Value.ref 89) [Value.ref _]) _ _ _); k_dflt (refine' Says.useRec (says_record _ _ ?l1) ?k1 ?k2 ?k3 ?k4 ?k5 ?k6 ?k7 ?k8 ?k9 ?_; (case k7 => exact stands_of (by k_asm) (by k_mem)); (case l1 => exact Nat.le_of_ble_eq_true rfl); (case k1 => k_asm); (case k2 => k_asm); (case k3 => k_asm); (case k4 => k_asm); (case k5 => k_asm); (case k6 => first | exact rfl | assumption); (case k8 => ktr_room); (case k9 => ktr_units)); intro R9 d9 U9 r9 k9 ta9 tb9 tc9 td9 h9 tk9 F9 N9 oU9 oR9 oD9; clear oU9 oR9 oD9; (dsimp only [recDict] at N9); (try dsimp only); (try k_fold)))
local macro_rules | `(tactic| walk_at "call ref") => `(tactic| (k_here; (with_reducible show wpAny _ _ (call (Value.ref 49) [Value.ref _, Value.str (mk _) _]) _ _ _); k_dflt (refine' Says.use (says_app1 ?l1 ?l2 ?l3 ?l4) ?k1 ?k2 ?k3 ?k4 ?k5 ?k6 ?k7 ?k8 ?k9 ?_; (case k7 => (refine' recAt_of ?a1 ?a2 ?a3 ?a4 ?a5; (case a1 => k_asm); (case a2 => k_mem); (case a3 => k_mem); (case a4 => k_mem); (case a5 => exact (StrsAre.cons _ _ StrsAre.nil)))); (case l1 => first | assumption | omega); (case l2 => first | assumption | omega); (case l3 => first | assumption | omega); (case l4 => first | assumption | omega); (case k1 => k_asm); (case k2 => k_asm); (case k3 => k_asm); (case k4 => k_asm); (case k5 => k_asm); (case k6 => first | exact rfl | assumption); (case k8 => ktr_room); (case k9 => ktr_units)); intro v9 h9 tk9 F9 N9 P9; subst P9; (try dsimp only); (try k_fold)))
local macro_rules | `(tactic| walk_at "call ref") => `(tactic| (k_here; (with_reducible show wpAny _ _ (call (Value.ref 49) [Value.ref _, Value.str (mk _) _]) _ _ _); k_dflt (refine' Says.use (says_app3 ?l1 ?l2 ?l3 ?l4 ?l5 ?l6 ?l7 ?l8) ?k1 ?k2 ?k3 ?k4 ?k5 ?k6 ?k7 ?k8 ?k9 ?_; (case k7 => (refine' recAt_of ?a1 ?a2 ?a3 ?a4 ?a5; (case a1 => k_asm); (case a2 => k_mem); (case a3 => k_mem); (case a4 => k_mem); (case a5 => exact (StrsAre.cons _ _ (StrsAre.cons _ _ (StrsAre.cons _ _ StrsAre.nil)))))); (case l1 => first | assumption | omega); (case l2 => first | assumption | omega); (case l3 => first | assumption | omega); (case l4 => first | assumption | omega); (case l5 => first | assumption | omega); (case l6 => first | assumption | omega); (case l7 => first | assumption | omega); (case l8 => first | assumption | omega); (case k1 => k_asm); (case k2 => k_asm); (case k3 => k_asm); (case k4 => k_asm); (case k5 => k_asm); (case k6 => first | exact rfl | assumption); (case k8 => ktr_room); (case k9 => ktr_units)); intro v9 h9 tk9 F9 N9 P9; subst P9; (try dsimp only); (try k_fold)))
local macro_rules | `(tactic| walk_at "call ref") => `(tactic| (k_here; (with_reducible show wpAny _ _ (call (Value.ref 49) [Value.ref _, Value.str (Txt.swapcase (mk _)) _]) _ _ _); k_dflt (refine' Says.use (says_app3s ?l1 ?l2 ?l3 ?l4 ?l5 ?l6 ?l7 ?l8) ?k1 ?k2 ?k3 ?k4 ?k5 ?k6 ?k7 ?k8 ?k9 ?_; (case k7 => (refine' recAt_of ?a1 ?a2 ?a3 ?a4 ?a5; (case a1 => k_asm); (case a2 => k_mem); (case a3 => k_mem); (case a4 => k_mem); (case a5 => exact (StrsAre.cons _ _ (StrsAre.cons _ _ (StrsAre.cons _ _ StrsAre.nil)))))); (case l1 => first | assumption | omega); (case l2 => first | assumption | omega); (case l3 => first | assumption | omega); (case l4 => first | assumption | omega); (case l5 => first | assumption | omega); (case l6 => first | assumption | omega); (case l7 => first | assumption | omega); (case l8 => first | assumption | omega); (case k1 => k_asm); (case k2 => k_asm); (case k3 => k_asm); (case k4 => k_asm); (case k5 => k_asm); (case k6 => first | exact rfl | assumption); (case k8 => ktr_room); (case k9 => ktr_units)); intro v9 h9 tk9 F9 N9 P9; subst P9; (try dsimp only); (try k_fold)))
local macro_rules | `(tactic| walk_at "call ref") => `(tactic| (k_here; (with_reducible show wpAny _ _ (call (Value.ref 49) [Value.ref _, Value.str (mk _) _]) _ _ _); k_dflt (refine' Says.use (says_app0 ?l1) ?k1 ?k2 ?k3 ?k4 ?k5 ?k6 ?k7 ?k8 ?k9 ?_; (case k7 => (refine' recAt_of ?a1 ?a2 ?a3 ?a4 ?a5; (case a1 => k_asm); (case a2 => k_mem); (case a3 => k_mem); (case a4 => k_mem); (case a5 => exact StrsAre.nil))); (case l1 => first | assumption | omega); (case k1 => k_asm); (case k2 => k_asm); (case k3 => k_asm); (case k4 => k_asm); (case k5 => k_asm); (case k6 => first | exact rfl | assumption); (case k8 => ktr_room); (case k9 => ktr_units)); intro v9 h9 tk9 F9 N9 P9; subst P9; (try dsimp only); (try k_fold)))
local macro_rules | `(tactic| walk_at "call ref") => `(tactic| (k_here; (with_reducible show wpAny _ _ (call (Value.ref 49) [Value.ref _, Value.none]) _ _ _); k_dflt (refine' Says.use (says_none _ _) ?k1 ?k2 ?k3 ?k4 ?k5 ?k6 ?k7 ?k8 ?k9 ?_; (case k7 => (refine' recAt_of ?a1 ?a2 ?a3 ?a4 ?a5; (case a1 => k_asm); (case a2 => k_mem); (case a3 => k_mem); (case a4 => k_mem); (case a5 => exact (StrsAre.cons _ _ (StrsAre.cons _ _ (StrsAre.cons _ _ StrsAre.nil)))))); (case k1 => k_asm); (case k2 => k_asm); (case k3 => k_asm); (case k4 => k_asm); (case k5 => k_asm); (case k6 => first | exact rfl | assumption); (case k8 => ktr_room); (case k9 => ktr_units)); intro v9 h9 tk9 F9 N9 P9; subst P9; (try dsimp only); (try k_fold)))
local macro_rules | `(tactic| walk_at "call ref") => `(tactic| (k_here; (with_reducible show wpAny _ _ (call (Value.ref 49) [Value.ref _, Value.none]) _ _ _); k_dflt (refine' Says.use (says_none _ _) ?k1 ?k2 ?k3 ?k4 ?k5 ?k6 ?k7 ?k8 ?k9 ?_; (case k7 => (refine' recAt_of ?a1 ?a2 ?a3 ?a4 ?a5; (case a1 => k_asm); (case a2 => k_mem); (case a3 => k_mem); (case a4 => k_mem); (case a5 => exact StrsAre.nil))); (case k1 => k_asm); (case k2 => k_asm); (case k3 => k_asm); (case k4 => k_asm); (case k5 => k_asm); (case k6 => first | exact rfl | assumption); (case k8 => ktr_room); (case k9 => ktr_units)); intro v9 h9 tk9 F9 N9 P9; subst P9; (try dsimp only); (try k_fold)))
local macro_rules | `(tactic| walk_at "ite") => `(tactic| (with_reducible refine ite_same ?_))
local macro_rules | `(tactic| walk_at "UnrEnd") => `(tactic| (k_here; (with_reducible rename Fr _ _ _ _ => F9); (with_reducible rename News _ _ _ _ => N9); k_dflt (refine' unr_end F9 N9 ?O ⟨?M, ?_⟩; (case O => k_offL); (case M => k_mem))))
local macro_rules | `(tactic| walk_at "compareOp In bool ref") => `(tactic| (k_here; (with_reducible show wpAny _ _ (compareOp CmpOp.In (Value.bool true) (Value.ref _)) _ _ _); k_dflt (refine' in_three ?k1 ?_; (case k1 => exact News.isList (by k_asm) (by k_mem)))))
local macro_rules | `(tactic| walk_at "compareOp In str ref") => `(tactic| (k_here; (with_reducible show wpAny _ _ (compareOp CmpOp.In (Value.str _ _) (Value.ref _)) _ _ _); k_dflt (refine' in_list_strs ?k1 ?k2 ?_; (case k1 => exact News.isList (by k_asm) (by k_mem)); (case k2 => exact (StrsAre.cons _ _ (StrsAre.cons _ _ (StrsAre.cons _ _ StrsAre.nil)))))))
local macro_rules | `(tactic| walk_at "compareOp Eq ref ref") => `(tactic| (k_here; (with_reducible show wpAny _ _ (compareOp CmpOp.Eq (Value.ref _) (Value.ref _)) _ _ _); k_dflt (refine' eq_texts ?l1 ?l2 ?l3 ?k1 ?k2 ?k3 ?_; (case k1 => exact News.isList (by k_asm) (by k_mem)); (case k2 => exact News.isList (by k_asm) (by k_mem)); (case l1 => assumption); (case l2 => assumption); (case l3 => assumption); (case k3 => first | ke_room | ktr_units))))
theorem len_three {vs : List Value} {ns : List Int} (_ : IntsAre vs (List.drop 1 (List.take 4 (ns ++ [4538, 78, 58, 17])))) : (List.drop 1 (List.take 4 (ns ++ [4538, 78, 58, 17]))).length = 3 := by simp
theorem three_of {ns : List Int} {ys : List Value} (hn : ns.length = 3) (h : All2 (fun _ v => ∃ l t, v = .str (mk l) t ∧ Alpha l ∧ l.length ≤ 3) ns ys) :
    ∃ x y z tx ty tz, ys = [.str (mk x) tx, .str (mk y) ty, .str (mk z) tz] ∧ Alpha x ∧ Alpha y ∧ Alpha z ∧ x.length ≤ 3 ∧ y.length ≤ 3 ∧ z.length ≤ 3 := by
  match ns, ys, hn, h with
  | [_, _, _], _, _, .cons ⟨x, tx, e1, a1, b1⟩ (.cons ⟨y, ty, e2, a2, b2⟩ (.cons ⟨z, tz, e3, a3, b3⟩ .nil)) => exact ⟨x, y, z, tx, ty, tz, by rw [e1, e2, e3], a1, a2, a3, b1, b2, b3⟩
theorem walk : ArgOf hd := by
  w_on
  unfold ArgOf
  w_strict (k_go0; (all_goals try k_fold); k_steps)
  refine unheld ?_
  rename Fr _ _ _ _ => F1
  rename News _ _ _ _ => N1
  rename IntsAre _ (List.drop _ _) => I1
  have h3 := len_three I1
  refine LCg.CompSrc.ledger rfl F1 N1 (List.Mem.head _) (by rw [PySem.sizeLine_eq, List.size_toArray, I1.length, h3]; decide) ?_
  intro g1
  refine comp_ints (fun _ v => ∃ l t, v = .str (mk l) t ∧ Alpha l ∧ l.length ≤ 3) I1 ?_ (.inr ⟨_, List.Mem.head _, rfl, _, rfl⟩) ?_
  · intro k tk I oI C oC D m₂ ys h1 tk1 E' hk hC hx F2 N2 off ne hS
    clear F1 N1
    w_strict k_steps
    refine unheld (el_end (by assumption) (by assumption) off hS ⟨_, _, rfl, by assumption, by omega⟩)
  · intro ys hys
    clear F1 N1
    obtain ⟨x, y, z, tx, ty, tz, rfl, ax, ay, az, lx, ly, lz⟩ := three_of h3 hys
    have mx := mk_len x
    have my := mk_len y
    have mz := mk_len z
    w_strict k_steps
end Mine

theorem PySem.Challenge.cw_nb0146_01_holds : PySem.Challenge.rw_nb0146_01.Holds :=
  Mine.hd Mine.walk
