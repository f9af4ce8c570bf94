import PyProof.Rows.All
import Wide.All
import OpenK.AllK
import Wide.FinOn
import PySem.Challenge.RW_tr0022_01
open PySem PySem.W PyProof.Rows
set_option Elab.async false
set_option linter.unusedVariables false
set_option maxRecDepth 100000
set_option maxHeartbeats 8000000
namespace Mine
open_top hd for PySem.Challenge.rw_tr0022_01
end Mine

-- En
namespace Mine
/-- the around of the calls here: no handler, a depth, C units -/
abbrev AA (dp un : Nat) (fr : Option (List Env)) (gd : Option (List Code)) : Around := { handled := none, depth := dp, frames := fr, guards := gd, units := un }
section
variable {prog : Program} {w : World} {A : Around} {s : Shared} {K : Frag} {p : Program} {loose : List Str} {mean : ExcName → Option Value} {mg mb : Str → Option Value} {R : Result → Shared → Prop} {name qual : Str} {params : Arguments} {body : List Stmt} {scope : Scope} {dV kV doc pm cdv ct oc : Value} {an od : Option Addr} {osl : Array (Option Value)} {f : Addr} {args : Args} {binds : List (Str × Value)} {mm : Str → Option Value}
theorem enterB (X : K.In s.heap) (T : Top p loose mean mg mb s.heap)
    (ho : K.lookup f = some ⟨oc, od, .func (fnOf name qual params body scope dV kV doc pm an cdv ct), osl⟩) (hcd : codeIn K cdv qual = true) (hroom : A.depth < recursionLimit)
    (hbind : BindsTo s (fnOf name qual params body scope dV kV doc pm an cdv ct) args binds) (hloc : ∀ y ∈ binds, scope.names.lookup y.1 = some .local)
    (hmm : (fun y => binds.reverse.lookup y) = mm) (hcell : ∀ x ∈ scope.names, x.2 ≠ .cell)
    (h : ∀ L' h₁ tk, Fr s.heap L' h₁ mm → News s.heap L' h₁ [] →
      wpAny (model prog w) (A.deeper (envOf qual scope L' f cdv)) (execs body (envOf qual scope L' f cdv))
        (fun fl s' => R (.ok (.ret (match fl with | .ret v => v | _ => .none))) s') (fun _ _ => False) { s with heap := h₁, toks := tk })
    (hco : scope.isCoroutine = false) (hgen : scope.isGenerator = false) (hk : scope.kind = .function) : codeAny (model prog w) A (.call (.ref f) args) R s := by
  subst hmm
  refine codeAny_call_def (fd := fnOf name qual params body scope dV kV doc pm an cdv ct) (body := body) (binds := binds) hroom (X _ _ ho) rfl T.nolimit (codeRec_of X hcd) rfl hbind hcell hloc (fun h₁ hns hk₁ => ?_) hco hgen hk
  exact wpAny_mono (h _ h₁ _ ⟨hns, hk₁, Nat.le_refl _⟩ (fun _ hp => nomatch hp)) (fun _ _ x => x) fun _ _ x => x.elim
end
end Mine
namespace Mine
theorem news_add {g h h' : Heap} {L D : Addr} {o : Obj} {m : Str → Option Value} {news : List (Addr × Obj)} (F : Fr g L h m) (N : News g L h news) (kp : ∀ b o, h.get? b = some o → h'.get? b = some o) (hn : h.get? D = none) (hg : h'.get? D = some o) : News g L h' ((D, o) :: news) := by
  intro p hp
  rcases List.mem_cons.mp hp with rfl | hp
  · refine ⟨hg, ?_, ?_⟩
    · rintro rfl
      obtain ⟨oL, _, _, hL, _⟩ := F.ns
      rw [hn] at hL
      cases hL
    · cases q : g.get? D with
      | none => rfl
      | some o' => rw [F.keep _ _ q] at hn; cases hn
  · exact ⟨kp _ _ (N p hp).1, (N p hp).2⟩
end Mine
namespace Mine
/-- a goal that the walk is to leave alone -/
def Hold (P : Prop) : Prop := P
theorem Hold.out {P : Prop} (h : Hold P) : P := h
theorem Hold.mk {P : Prop} (h : P) : Hold P := h
theorem strK {s : Shared} {R : Result → Shared → Prop} {x y : Str} {L' : Addr} {h' : Heap} {m : Str → Option Value} {t : Tok} {tk' : Nat} (hret : ∀ (t : Tok) (h' : Heap) (tk' : Nat), (∀ b o, s.heap.get? b = some o → h'.get? b = some o) → R (.ok (.ret (.str x t))) { s with heap := h', toks := tk' })
    (F : Fr s.heap L' h' m) (e : y = x) : R (.ok (.ret (.str y t))) { s with heap := h', toks := tk' } := by
  subst e
  exact hret t h' tk' F.keep
end Mine

-- Fl
namespace Mine
open PySem.Flt
def fmax2 (x y : UInt64) : UInt64 := if (Float64.cmp x y == some .lt) = true then y else x
def fmin2 (x y : UInt64) : UInt64 := if (Float64.cmp y x == some .lt) = true then y else x
def fmax3 (x y z : UInt64) : UInt64 := fmax2 (fmax2 x y) z
def fmin3 (x y z : UInt64) : UInt64 := fmin2 (fmin2 x y) z
theorem best2 (p q r : Bool) (bt : Nat → Nat → Bool) (h1 : bt 1 0 = p) (h2 : bt 2 1 = q) (h3 : bt 2 0 = r) :
    argBest bt 2 = if p then (if q then 2 else 1) else (if r then 2 else 0) := by
  subst h1 h2 h3
  have e1 : argBest bt 1 = if bt 1 0 then 1 else 0 := rfl
  have e2 : argBest bt 2 = if bt 2 (argBest bt 1) then 2 else argBest bt 1 := rfl
  rw [e2, e1]
  cases bt 1 0 <;> simp
section
variable {prog : Program} {w : World} {A : Around} {E : Value → Shared → Prop} {s : Shared} {Q : Value → Shared → Prop} {x y z : UInt64} {t u v : Tok} {h₀ : Heap} {L : Addr} {m : Str → Option Value} {news : List (Addr × Obj)}
theorem three_old {c : Addr} (hc : c ∈ [((s.heap.push { cls := .type "tuple", data := .seq #[.float x t, .float y u, .float z v] }).objs.size), s.heap.objs.size]) (o : Obj) :
    c < ((s.heap.push { cls := .type "tuple", data := .seq #[.float x t, .float y u, .float z v] }).push o).objs.size := by
  rw [Heap.size_push, Heap.size_push]
  simp only [Heap.size_push, List.mem_cons, List.not_mem_nil, or_false] at hc
  rcases hc with rfl | rfl
  · exact Nat.lt_succ_self _
  · exact Nat.lt_succ_of_lt (Nat.lt_succ_self _)
theorem three_keep {h' : Heap} {o : Obj} (hk : ∀ b o', b ∉ [((s.heap.push { cls := .type "tuple", data := .seq #[.float x t, .float y u, .float z v] }).objs.size)] → ((s.heap.push { cls := .type "tuple", data := .seq #[.float x t, .float y u, .float z v] }).push o).get? b = some o' → h'.get? b = some o') :
    ∀ c o', s.heap.get? c = some o' → h'.get? c = some o' := fun c o' e => by
  refine hk c o' (fun hm => ?_) (Heap.get?_push_of_some _ (Heap.get?_push_of_some _ e))
  have h1 := Heap.lt_size e
  simp only [Heap.size_push, List.mem_cons, List.not_mem_nil, or_false] at hm
  exact Nat.lt_irrefl _ (Nat.lt_of_succ_lt (hm ▸ h1))
theorem max_three_ff (hh : A.handled = none) (F : Fr h₀ L s.heap m) (N : News h₀ L s.heap news)
    (h : ∀ h' tk k, Fr h₀ L h' m → News h₀ L h' news → Q (.float (fmax3 x y z) k) { s with heap := h', toks := tk }) :
    wpAny (model prog w) A (call (.builtin "max") [.float x t, .float y u, .float z v]) Q E s := by
  have hT : (s.heap.push { cls := .type "tuple", data := .seq #[.float x t, .float y u, .float z v] }).IsTuple s.heap.objs.size #[.float x t, .float y u, .float z v] := ⟨_, Heap.get?_push_size _ rfl, rfl, 0, rfl⟩
  have hn : ∀ c ∈ #[Value.float x t, .float y u, .float z v], NumV c := by
    intro c hc
    simp only [List.mem_toArray, List.mem_cons, List.not_mem_nil, or_false] at hc
    rcases hc with rfl | rfl | rfl <;> exact .float _ _
  refine call_max_three (wpAny_pyIter_tuple hT ?_)
  refine ⟨_, [_, s.heap.objs.size], [_], _, _, _, _, rfl, Walks.tuple (A := A.in1) hh _ s.heap.objs.size (by rw [Heap.size_push]; exact Nat.ne_of_lt (Nat.lt_succ_self _)) #[.float x t, .float y u, .float z v],
    ⟨⟨_, Heap.get?_push_size _ rfl, rfl, rfl⟩, hT.push _⟩, fun c hc => three_old hc _, by simp, cmpOf_gt #[.float x t, .float y u, .float z v] hn, fun b h' tk hP hk => ?_⟩
  have kp := three_keep hk
  have hb := best2 _ _ _ (fun i j => ltV (#[Value.float x t, .float y u, .float z v].getD j .none) (#[Value.float x t, .float y u, .float z v].getD i .none)) rfl rfl rfl
  have hP' : #[Value.float x t, .float y u, .float z v][argBest (fun i j => ltV (#[Value.float x t, .float y u, .float z v].getD j .none) (#[Value.float x t, .float y u, .float z v].getD i .none)) 2]? = some b := hP
  have : ∃ k, b = .float (fmax3 x y z) k := by
    rw [hb] at hP'
    unfold fmax3 fmax2
    have l1 : ∀ a b s t, ltV (.float a s) (.float b t) = (Float64.cmp a b == some .lt) := fun _ _ _ _ => rfl
    simp only [Array.getD, List.size_toArray, List.length_cons, List.length_nil] at hP'
    simp [l1] at hP'
    cases h1 : (Float64.cmp x y == some .lt) <;> cases h2 : (Float64.cmp y z == some .lt) <;> cases h3 : (Float64.cmp x z == some .lt) <;> (simp_all; first | done | exact ⟨_, Eq.symm (by assumption)⟩)
  obtain ⟨k, rfl⟩ := this
  exact h h' tk k (F.grownK kp) (N.grown kp)
theorem min_three_ff (hh : A.handled = none) (F : Fr h₀ L s.heap m) (N : News h₀ L s.heap news)
    (h : ∀ h' tk k, Fr h₀ L h' m → News h₀ L h' news → Q (.float (fmin3 x y z) k) { s with heap := h', toks := tk }) :
    wpAny (model prog w) A (call (.builtin "min") [.float x t, .float y u, .float z v]) Q E s := by
  have hT : (s.heap.push { cls := .type "tuple", data := .seq #[.float x t, .float y u, .float z v] }).IsTuple s.heap.objs.size #[.float x t, .float y u, .float z v] := ⟨_, Heap.get?_push_size _ rfl, rfl, 0, rfl⟩
  have hn : ∀ c ∈ #[Value.float x t, .float y u, .float z v], NumV c := by
    intro c hc
    simp only [List.mem_toArray, List.mem_cons, List.not_mem_nil, or_false] at hc
    rcases hc with rfl | rfl | rfl <;> exact .float _ _
  refine call_min_three (wpAny_pyIter_tuple hT ?_)
  refine ⟨_, [_, s.heap.objs.size], [_], _, _, _, _, rfl, Walks.tuple (A := A.in1) hh _ s.heap.objs.size (by rw [Heap.size_push]; exact Nat.ne_of_lt (Nat.lt_succ_self _)) #[.float x t, .float y u, .float z v],
    ⟨⟨_, Heap.get?_push_size _ rfl, rfl, rfl⟩, hT.push _⟩, fun c hc => three_old hc _, by simp, cmpOf_lt #[.float x t, .float y u, .float z v] hn, fun b h' tk hP hk => ?_⟩
  have kp := three_keep hk
  have hb := best2 _ _ _ (fun i j => ltV (#[Value.float x t, .float y u, .float z v].getD i .none) (#[Value.float x t, .float y u, .float z v].getD j .none)) rfl rfl rfl
  have hP' : #[Value.float x t, .float y u, .float z v][argBest (fun i j => ltV (#[Value.float x t, .float y u, .float z v].getD i .none) (#[Value.float x t, .float y u, .float z v].getD j .none)) 2]? = some b := hP
  have : ∃ k, b = .float (fmin3 x y z) k := by
    rw [hb] at hP'
    unfold fmin3 fmin2
    have l1 : ∀ a b s t, ltV (.float a s) (.float b t) = (Float64.cmp a b == some .lt) := fun _ _ _ _ => rfl
    simp only [Array.getD, List.size_toArray, List.length_cons, List.length_nil] at hP'
    simp [l1] at hP'
    cases h1 : (Float64.cmp y x == some .lt) <;> cases h2 : (Float64.cmp z y == some .lt) <;> cases h3 : (Float64.cmp z x == some .lt) <;> (simp_all; first | done | exact ⟨_, Eq.symm (by assumption)⟩)
  obtain ⟨k, rfl⟩ := this
  exact h h' tk k (F.grownK kp) (N.grown kp)
end
end Mine

-- Rgb
local macro_rules | `(tactic| walk_at "call builtin:max") => `(tactic| ((with_reducible show wpAny _ _ (call _ [Value.float _ _, Value.float _ _, Value.float _ _]) _ _ _); (rename News _ _ _ _ => N'); (rename Fr _ _ _ _ => F'); refine Mine.max_three_ff rfl F' N' ?_; clear N'; intro _ _ _ _ _))
local macro_rules | `(tactic| walk_at "call builtin:min") => `(tactic| ((with_reducible show wpAny _ _ (call _ [Value.float _ _, Value.float _ _, Value.float _ _]) _ _ _); (rename News _ _ _ _ => N'); (rename Fr _ _ _ _ => F'); refine Mine.min_three_ff rfl F' N' ?_; clear N'; intro _ _ _ _ _))
namespace Mine
abbrev one : UInt64 := 4607182418800017408
abbrev rng (r g b : UInt64) : UInt64 := Float64.sub (fmax3 r g b) (fmin3 r g b)
abbrev sat (r g b : UInt64) : UInt64 := Float64.div (rng r g b) (fmax3 r g b)
abbrev far (x r g b : UInt64) : UInt64 := Float64.div (Float64.sub (fmax3 r g b) x) (rng r g b)
abbrev hueOf (x : UInt64) : UInt64 := (Float64.divmod (Float64.div x 4618441417868443648) 4607182418800017408).snd
inductive RgbRel (r g b : UInt64) : UInt64 → UInt64 → UInt64 → Prop
  | grey : (Float64.cmp (fmin3 r g b) (fmax3 r g b) == some Ordering.eq) = true → RgbRel r g b 0 0 (fmax3 r g b)
  | red : (Float64.cmp (fmin3 r g b) (fmax3 r g b) == some Ordering.eq) = false → (Float64.cmp r (fmax3 r g b) == some Ordering.eq) = true →
      RgbRel r g b (hueOf (Float64.sub (far b r g b) (far g r g b))) (sat r g b) (fmax3 r g b)
  | green : (Float64.cmp (fmin3 r g b) (fmax3 r g b) == some Ordering.eq) = false → (Float64.cmp r (fmax3 r g b) == some Ordering.eq) = false → (Float64.cmp g (fmax3 r g b) == some Ordering.eq) = true →
      RgbRel r g b (hueOf (Float64.sub (Float64.add 4611686018427387904 (far r r g b)) (far b r g b))) (sat r g b) (fmax3 r g b)
  | blue : (Float64.cmp (fmin3 r g b) (fmax3 r g b) == some Ordering.eq) = false → (Float64.cmp r (fmax3 r g b) == some Ordering.eq) = false → (Float64.cmp g (fmax3 r g b) == some Ordering.eq) = false →
      RgbRel r g b (hueOf (Float64.sub (Float64.add 4616189618054758400 (far g r g b)) (far r r g b))) (sat r g b) (fmax3 r g b)
theorem rgb_end {s : Shared} {R : Result → Shared → Prop} {r g b : UInt64} {L' D : Addr} {hs sa v : UInt64} {t1 t2 t3 : Tok} {h' : Heap} {m : Str → Option Value} {tk' : Nat} 
    (hret : ∀ (D : Addr) (hs sa v : UInt64) (t1 t2 t3 : Tok) (h' : Heap) (tk' : Nat), RgbRel r g b hs sa v → (∀ b o, s.heap.get? b = some o → h'.get? b = some o) → s.heap.get? D = none → h'.get? D = some { cls := .type "tuple", data := .seq #[.float hs t1, .float sa t2, .float v t3] } → R (.ok (.ret (.ref D))) { s with heap := h', toks := tk' })
    (F : Fr s.heap L' h' m) (N : News s.heap L' h' [(D, { cls := .type "tuple", data := .seq #[.float hs t1, .float sa t2, .float v t3] })]) (hr : RgbRel r g b hs sa v) : R (.ok (.ret (.ref D))) { s with heap := h', toks := tk' } :=
  hret D hs sa v t1 t2 t3 h' tk' hr F.keep (N _ (.head _)).2.2 (N _ (.head _)).1
theorem b_rgb (w : World) (mean : ExcName → Option Value) (mg mb : Str → Option Value) (dp un : Nat) (fr : Option (List Env)) (gd : Option (List Code)) (s : Shared) (R : Result → Shared → Prop)
    (r g b : UInt64) (t1 t2 t3 : Tok) : (hd.heap_39 w.params).In s.heap → Top hd.view_39 (looseW hd.view_39 []) mean mg mb s.heap → dp + 5 < recursionLimit → un + 40 < cLine → 
    (¬ Float64.isZero (fmax3 r g b) = true) → ((Float64.cmp (fmin3 r g b) (fmax3 r g b) == some Ordering.eq) = false → ¬ Float64.isZero (rng r g b) = true) →
    (∀ (D : Addr) (hs sa v : UInt64) (t1 t2 t3 : Tok) (h' : Heap) (tk' : Nat), RgbRel r g b hs sa v → (∀ b o, s.heap.get? b = some o → h'.get? b = some o) → s.heap.get? D = none → h'.get? D = some { cls := .type "tuple", data := .seq #[.float hs t1, .float sa t2, .float v t3] } → R (.ok (.ret (.ref D))) { s with heap := h', toks := tk' }) →
    codeAny (model PySem.Challenge.rw_tr0022_01.row.prog w) (AA dp un fr gd) (.call (.ref 21) ⟨[.float r t1, .float g t2, .float b t3], []⟩) R s := by
  w_top off
  k_fill
  intro X T h1 h2 hz1 hz2 hret
  k_dflt (refine' enterB (mm := fun y => List.lookup y [("b", .float b t3), ("g", .float g t2), ("r", .float r t1)]) X T ?k6 ?k7 ?k8 ?k9 ?kB ?kM ?c5 ?_ ?c2 ?c3 ?c4; (case k6 => k_is); (case k7 => k_is); (case k8 => show dp < _; omega); (case k9 => exact BindsTo.of_eq rfl); (case c5 => decide); (case kB => exact locs rfl); (case kM => exact rfl); (case c2 => exact rfl); (case c3 => exact rfl); (case c4 => exact rfl); k_whole; intro L' h' tk' F' N')
  k_steps
  all_goals first
    | exact hz1 (by assumption)
    | exact hz2 (by assumption) (by assumption)
    | exact rgb_end (s := s) hret (by assumption) (by assumption) (.grey (by assumption))
    | exact rgb_end (s := s) hret (by assumption) (by assumption) (.red (by assumption) (by assumption))
    | exact rgb_end (s := s) hret (by assumption) (by assumption) (.green (by assumption) (by assumption) (by assumption))
    | exact rgb_end (s := s) hret (by assumption) (by assumption) (.blue (by assumption) (by assumption) (by assumption))
end Mine

-- Name
namespace Mine
def hueB (x : Int) : UInt64 := if x = 1 then 4604180019048437077 else if x = 2 then 4599676419421066581 else if x = 3 then 4602678819172646912 else if x = 5 then 4605681218924227243 else if x = 6 then 4595172819793696085 else 0
def satB (x : Int) : UInt64 := if x = 7 then 0 else 4607182418800017408
/-- the letter of a light -/
def lawName (k : Int) : Str := if k = 1 then "e" else if k = 2 then "c" else if k = 3 then "d" else if k = 4 then "a" else if k = 5 then "f" else if k = 6 then "b" else "g"
theorem seven {x : Int} {P : Int → Prop} (h1 : 1 ≤ x) (h7 : x ≤ 7) (p1 : P 1) (p2 : P 2) (p3 : P 3) (p4 : P 4) (p5 : P 5) (p6 : P 6) (p7 : P 7) : P x := by
  have : x = 1 ∨ x = 2 ∨ x = 3 ∨ x = 4 ∨ x = 5 ∨ x = 6 ∨ x = 7 := by omega
  rcases this with rfl | rfl | rfl | rfl | rfl | rfl | rfl <;> assumption
abbrev fr4 (x : Int) : UInt64 := Float64.mul (Float64.ofInt (x.fdiv 4)) 4607182418800017408
abbrev fr2 (x : Int) : UInt64 := Float64.mul (Float64.ofInt ((x.fdiv 2).fmod 2)) 4607182418800017408
abbrev fr1 (x : Int) : UInt64 := Float64.mul (Float64.ofInt (x.fmod 2)) 4607182418800017408
theorem nm_small {x : Int} (h1 : 1 ≤ x) (h7 : x ≤ 7) : (x.fdiv 4).natAbs < 2 ^ 64 ∧ ((x.fdiv 2).fmod 2).natAbs < 2 ^ 64 ∧ (x.fmod 2).natAbs < 2 ^ 64 :=
  seven (P := fun x => (x.fdiv 4).natAbs < 2 ^ 64 ∧ ((x.fdiv 2).fmod 2).natAbs < 2 ^ 64 ∧ (x.fmod 2).natAbs < 2 ^ 64) h1 h7 (by decide) (by decide) (by decide) (by decide) (by decide) (by decide) (by decide)
theorem pow_big : (2 : Nat) ^ 64 ≤ 2 ^ 1024 - 2 ^ 970 := by decide +kernel
theorem nm_no {n : Nat} (h : n < 2 ^ 64) (h' : 2 ^ 1024 - 2 ^ 970 ≤ n) : False := Nat.lt_irrefl _ (Nat.lt_of_lt_of_le (Nat.lt_of_lt_of_le h pow_big) h')
theorem nm_z1 {x : Int} (h1 : 1 ≤ x) (h7 : x ≤ 7) : ¬ Float64.isZero (fmax3 (fr4 x) (fr2 x) (fr1 x)) = true :=
  seven (P := fun x => ¬ Float64.isZero (fmax3 (fr4 x) (fr2 x) (fr1 x)) = true) h1 h7 (by decide +kernel) (by decide +kernel) (by decide +kernel) (by decide +kernel) (by decide +kernel) (by decide +kernel) (by decide +kernel)
theorem nm_z2 {x : Int} (h1 : 1 ≤ x) (h7 : x ≤ 7) : (Float64.cmp (fmin3 (fr4 x) (fr2 x) (fr1 x)) (fmax3 (fr4 x) (fr2 x) (fr1 x)) == some Ordering.eq) = false → ¬ Float64.isZero (rng (fr4 x) (fr2 x) (fr1 x)) = true :=
  seven (P := fun x => (Float64.cmp (fmin3 (fr4 x) (fr2 x) (fr1 x)) (fmax3 (fr4 x) (fr2 x) (fr1 x)) == some Ordering.eq) = false → ¬ Float64.isZero (rng (fr4 x) (fr2 x) (fr1 x)) = true) h1 h7 (by decide +kernel) (by decide +kernel) (by decide +kernel) (by decide +kernel) (by decide +kernel) (by decide +kernel) (by decide +kernel)
theorem rgb_of {r g b H S V : UInt64}
    (c1 : (Float64.cmp (fmin3 r g b) (fmax3 r g b) == some Ordering.eq) = true → H = 0 ∧ S = 0 ∧ V = fmax3 r g b)
    (c2 : (Float64.cmp (fmin3 r g b) (fmax3 r g b) == some Ordering.eq) = false → (Float64.cmp r (fmax3 r g b) == some Ordering.eq) = true → H = hueOf (Float64.sub (far b r g b) (far g r g b)) ∧ S = sat r g b ∧ V = fmax3 r g b)
    (c3 : (Float64.cmp (fmin3 r g b) (fmax3 r g b) == some Ordering.eq) = false → (Float64.cmp r (fmax3 r g b) == some Ordering.eq) = false → (Float64.cmp g (fmax3 r g b) == some Ordering.eq) = true → H = hueOf (Float64.sub (Float64.add 4611686018427387904 (far r r g b)) (far b r g b)) ∧ S = sat r g b ∧ V = fmax3 r g b)
    (c4 : (Float64.cmp (fmin3 r g b) (fmax3 r g b) == some Ordering.eq) = false → (Float64.cmp r (fmax3 r g b) == some Ordering.eq) = false → (Float64.cmp g (fmax3 r g b) == some Ordering.eq) = false → H = hueOf (Float64.sub (Float64.add 4616189618054758400 (far g r g b)) (far r r g b)) ∧ S = sat r g b ∧ V = fmax3 r g b)
    {hs sa v : UInt64} (h : RgbRel r g b hs sa v) : hs = H ∧ sa = S ∧ v = V := by
  cases h with
  | grey a => obtain ⟨rfl, rfl, rfl⟩ := c1 a; exact ⟨rfl, rfl, rfl⟩
  | red a b => obtain ⟨rfl, rfl, rfl⟩ := c2 a b; exact ⟨rfl, rfl, rfl⟩
  | green a b c => obtain ⟨rfl, rfl, rfl⟩ := c3 a b c; exact ⟨rfl, rfl, rfl⟩
  | blue a b c => obtain ⟨rfl, rfl, rfl⟩ := c4 a b c; exact ⟨rfl, rfl, rfl⟩
theorem nm_rel {x : Int} (h1 : 1 ≤ x) (h7 : x ≤ 7) : ∀ {hs sa v : UInt64}, RgbRel (fr4 x) (fr2 x) (fr1 x) hs sa v → hs = hueB x ∧ sa = satB x ∧ v = 4607182418800017408 :=
  seven (P := fun x => ∀ {hs sa v : UInt64}, RgbRel (fr4 x) (fr2 x) (fr1 x) hs sa v → hs = hueB x ∧ sa = satB x ∧ v = 4607182418800017408) h1 h7
    (rgb_of (by decide +kernel) (by decide +kernel) (by decide +kernel) (by decide +kernel))
    (rgb_of (by decide +kernel) (by decide +kernel) (by decide +kernel) (by decide +kernel))
    (rgb_of (by decide +kernel) (by decide +kernel) (by decide +kernel) (by decide +kernel))
    (rgb_of (by decide +kernel) (by decide +kernel) (by decide +kernel) (by decide +kernel))
    (rgb_of (by decide +kernel) (by decide +kernel) (by decide +kernel) (by decide +kernel))
    (rgb_of (by decide +kernel) (by decide +kernel) (by decide +kernel) (by decide +kernel))
    (rgb_of (by decide +kernel) (by decide +kernel) (by decide +kernel) (by decide +kernel))
abbrev nmK (x : Int) : Int := Flt.toInt Float64.nearestOf (Float64.mul (Float64.ofInt 6) (hueB x))
theorem nm_fits {x : Int} (h1 : 1 ≤ x) (h7 : x ≤ 7) : fitsSsize (nmK x) = true :=
  seven (P := fun x => fitsSsize (nmK x) = true) h1 h7 (by decide +kernel) (by decide +kernel) (by decide +kernel) (by decide +kernel) (by decide +kernel) (by decide +kernel) (by decide +kernel)
theorem nm_lo {x : Int} (h1 : 1 ≤ x) (h7 : x ≤ 7) : -((Str.ofString "abcdef").length : Int) ≤ nmK x :=
  seven (P := fun x => -((Str.ofString "abcdef").length : Int) ≤ nmK x) h1 h7 (by decide +kernel) (by decide +kernel) (by decide +kernel) (by decide +kernel) (by decide +kernel) (by decide +kernel) (by decide +kernel)
theorem nm_hi {x : Int} (h1 : 1 ≤ x) (h7 : x ≤ 7) : nmK x < (Str.ofString "abcdef").length :=
  seven (P := fun x => nmK x < (Str.ofString "abcdef").length) h1 h7 (by decide +kernel) (by decide +kernel) (by decide +kernel) (by decide +kernel) (by decide +kernel) (by decide +kernel) (by decide +kernel)
theorem nm_item {x : Int} (h1 : 1 ≤ x) (h7 : x ≤ 7) : (Float64.cmp (satB x) 0 == some Ordering.eq) = false → Txt.item (Str.ofString "abcdef") (nmK x) = lawName x :=
  seven (P := fun x => (Float64.cmp (satB x) 0 == some Ordering.eq) = false → Txt.item (Str.ofString "abcdef") (nmK x) = lawName x) h1 h7 (by decide +kernel) (by decide +kernel) (by decide +kernel) (by decide +kernel) (by decide +kernel) (by decide +kernel) (by decide +kernel)
theorem nm_g {x : Int} (h1 : 1 ≤ x) (h7 : x ≤ 7) : (Float64.cmp (satB x) 0 == some Ordering.eq) = true → Str.ofString "g" = lawName x :=
  seven (P := fun x => (Float64.cmp (satB x) 0 == some Ordering.eq) = true → Str.ofString "g" = lawName x) h1 h7 (by decide +kernel) (by decide +kernel) (by decide +kernel) (by decide +kernel) (by decide +kernel) (by decide +kernel) (by decide +kernel)
theorem nm_fin {x : Int} (h1 : 1 ≤ x) (h7 : x ≤ 7) : Float64.isNaN (Float64.mul (Float64.ofInt 6) (hueB x)) = false ∧ Float64.isInf (Float64.mul (Float64.ofInt 6) (hueB x)) = false :=
  seven (P := fun x => Float64.isNaN (Float64.mul (Float64.ofInt 6) (hueB x)) = false ∧ Float64.isInf (Float64.mul (Float64.ofInt 6) (hueB x)) = false) h1 h7 (by decide +kernel) (by decide +kernel) (by decide +kernel) (by decide +kernel) (by decide +kernel) (by decide +kernel) (by decide +kernel)
end Mine

-- NameW
namespace Mine
section
local macro_rules | `(tactic| walk_at "subscriptTail Name Call str int") => `(tactic| (refine item_str (nm_fits (by assumption) (by assumption)) (nm_lo (by assumption) (by assumption)) (nm_hi (by assumption) (by assumption)) ?_; intro _))
theorem b_name (w : World) (mean : ExcName → Option Value) (mg mb : Str → Option Value) (dp un : Nat) (fr : Option (List Env)) (gd : Option (List Code)) (s : Shared) (R : Result → Shared → Prop)
    (x : Int) (t1 : Tok) : (hd.heap_39 w.params).In s.heap → Top hd.view_39 (looseW hd.view_39 []) mean mg mb s.heap → dp + 15 < recursionLimit → un + 100 < cLine → 1 ≤ x → x ≤ 7 →
    (∀ (t : Tok) (h' : Heap) (tk' : Nat), (∀ b o, s.heap.get? b = some o → h'.get? b = some o) → R (.ok (.ret (.str (lawName x) t))) { s with heap := h', toks := tk' }) →
    codeAny (model PySem.Challenge.rw_tr0022_01.row.prog w) (AA dp un fr gd) (.call (.ref 81) ⟨[.int x t1], []⟩) R s := by
  w_top off
  k_fill
  intro X T h1 h2 h3 h4 hret
  k_dflt (refine' enterB (mm := fun y => List.lookup y [("light", .int x t1)]) X T ?k6 ?k7 ?k8 ?k9 ?kB ?kM ?c5 ?_ ?c2 ?c3 ?c4; (case k6 => k_is); (case k7 => k_is); (case k8 => show dp < _; omega); (case k9 => exact BindsTo.of_eq rfl); (case c5 => decide); (case kB => exact locs rfl); (case kM => exact rfl); (case c2 => exact rfl); (case c3 => exact rfl); (case c4 => exact rfl); k_whole; intro L' h' tk' F' N')
  k_steps
  all_goals first
    | exact (nm_no (nm_small h3 h4).1 (by assumption)).elim
    | exact (nm_no (nm_small h3 h4).2.1 (by assumption)).elim
    | exact (nm_no (nm_small h3 h4).2.2 (by assumption)).elim
    | skip
  refine' wpAny_call (b_rgb _ _ _ _ _ _ _ _ _ _ _ _ _ _ _ _ ?x1 ?x2 ?x3 ?x4 ?x5 ?x6 ?_)
  (case x1 => k_in)
  (case x2 => exact T.keeps F'.keep)
  (case x3 => show dp + 1 + 5 < recursionLimit; omega)
  (case x4 => show un + 3 + 40 < cLine; omega)
  (case x5 => exact nm_z1 h3 h4)
  (case x6 => exact nm_z2 h3 h4)
  intro D' hu' sa' v' t1' t2' t3' h2' tk2' hr' kp' hn' hg'
  obtain ⟨rfl, rfl, rfl⟩ := nm_rel h3 h4 hr'
  replace N' := news_add F' N' kp' hn' hg'
  replace F' := F'.grownK kp'
  clear hr' hn' hg' kp'
  dsimp only
  k_steps
  all_goals first
    | exact Bool.false_ne_true ((nm_fin h3 h4).1.symm.trans (by assumption))
    | exact Bool.false_ne_true ((nm_fin h3 h4).2.symm.trans (by assumption))
    | (dsimp only; exact strK (s := s) hret (by assumption) (nm_g h3 h4 (by assumption)))
    | (dsimp only; exact strK (s := s) hret (by assumption) (nm_item h3 h4 (by assumption)))
end
end Mine

-- Hsv
namespace Mine
abbrev sx (h : UInt64) : Int := Flt.toInt Float64.truncOf (Float64.mul h 4618441417868443648)
abbrev fx (h : UInt64) : UInt64 := Float64.sub (Float64.mul h 4618441417868443648) (Float64.ofInt (sx h))
abbrev px (sa v : UInt64) : UInt64 := Float64.mul v (Float64.sub 4607182418800017408 sa)
abbrev qx (h sa v : UInt64) : UInt64 := Float64.mul v (Float64.sub 4607182418800017408 (Float64.mul sa (fx h)))
abbrev tx (h sa v : UInt64) : UInt64 := Float64.mul v (Float64.sub 4607182418800017408 (Float64.mul sa (Float64.sub 4607182418800017408 (fx h))))
inductive HsvRel (h sa v : UInt64) : UInt64 → UInt64 → UInt64 → Prop
  | grey : (Float64.cmp sa 0 == some Ordering.eq) = true → HsvRel h sa v v v v
  | s0 : (Float64.cmp sa 0 == some Ordering.eq) = false → (sx h).fmod 6 = 0 → HsvRel h sa v v (tx h sa v) (px sa v)
  | s1 : (Float64.cmp sa 0 == some Ordering.eq) = false → (sx h).fmod 6 = 1 → HsvRel h sa v (qx h sa v) v (px sa v)
  | s2 : (Float64.cmp sa 0 == some Ordering.eq) = false → (sx h).fmod 6 = 2 → HsvRel h sa v (px sa v) v (tx h sa v)
  | s3 : (Float64.cmp sa 0 == some Ordering.eq) = false → (sx h).fmod 6 = 3 → HsvRel h sa v (px sa v) (qx h sa v) v
  | s4 : (Float64.cmp sa 0 == some Ordering.eq) = false → (sx h).fmod 6 = 4 → HsvRel h sa v (tx h sa v) (px sa v) v
  | s5 : (Float64.cmp sa 0 == some Ordering.eq) = false → (sx h).fmod 6 = 5 → HsvRel h sa v v (px sa v) (qx h sa v)
theorem six {z : Int} (h0 : z.fmod 6 ≠ 0) (h1 : z.fmod 6 ≠ 1) (h2 : z.fmod 6 ≠ 2) (h3 : z.fmod 6 ≠ 3) (h4 : z.fmod 6 ≠ 4) (h5 : z.fmod 6 ≠ 5) : False := by
  rw [Int.fmod_eq_emod_of_nonneg z (by decide : (0:Int) ≤ 6)] at h0 h1 h2 h3 h4 h5
  omega
theorem hsv_end {s : Shared} {R : Result → Shared → Prop} {h sa v : UInt64} {L' D : Addr} {p0 p1 p2 : UInt64} {t1 t2 t3 : Tok} {h' : Heap} {m : Str → Option Value} {tk' : Nat} 
    (hret : ∀ (D : Addr) (p0 p1 p2 : UInt64) (t1 t2 t3 : Tok) (h' : Heap) (tk' : Nat), HsvRel h sa v p0 p1 p2 → (∀ b o, s.heap.get? b = some o → h'.get? b = some o) → s.heap.get? D = none → h'.get? D = some { cls := .type "tuple", data := .seq #[.float p0 t1, .float p1 t2, .float p2 t3] } → R (.ok (.ret (.ref D))) { s with heap := h', toks := tk' })
    (F : Fr s.heap L' h' m) (N : News s.heap L' h' [(D, { cls := .type "tuple", data := .seq #[.float p0 t1, .float p1 t2, .float p2 t3] })]) (hr : HsvRel h sa v p0 p1 p2) : R (.ok (.ret (.ref D))) { s with heap := h', toks := tk' } :=
  hret D p0 p1 p2 t1 t2 t3 h' tk' hr F.keep (N _ (.head _)).2.2 (N _ (.head _)).1
theorem b_hsv (w : World) (mean : ExcName → Option Value) (mg mb : Str → Option Value) (dp un : Nat) (fr : Option (List Env)) (gd : Option (List Code)) (s : Shared) (R : Result → Shared → Prop)
    (h sa v : UInt64) (t1 t2 t3 : Tok) : (hd.heap_39 w.params).In s.heap → Top hd.view_39 (looseW hd.view_39 []) mean mg mb s.heap → dp + 5 < recursionLimit → un + 40 < cLine → 
    ((Float64.cmp sa 0 == some Ordering.eq) = false → ¬ Float64.isNaN (Float64.mul h 4618441417868443648) = true ∧ ¬ Float64.isInf (Float64.mul h 4618441417868443648) = true ∧ ¬ (2 ^ 1024 - 2 ^ 970 ≤ (sx h).natAbs)) →
    (∀ (D : Addr) (p0 p1 p2 : UInt64) (t1 t2 t3 : Tok) (h' : Heap) (tk' : Nat), HsvRel h sa v p0 p1 p2 → (∀ b o, s.heap.get? b = some o → h'.get? b = some o) → s.heap.get? D = none → h'.get? D = some { cls := .type "tuple", data := .seq #[.float p0 t1, .float p1 t2, .float p2 t3] } → R (.ok (.ret (.ref D))) { s with heap := h', toks := tk' }) →
    codeAny (model PySem.Challenge.rw_tr0022_01.row.prog w) (AA dp un fr gd) (.call (.ref 28) ⟨[.float h t1, .float sa t2, .float v t3], []⟩) R s := by
  w_top off
  k_fill
  intro X T h1 h2 hz hret
  k_dflt (refine' enterB (mm := fun y => List.lookup y [("v", .float v t3), ("s", .float sa t2), ("h", .float h t1)]) X T ?k6 ?k7 ?k8 ?k9 ?kB ?kM ?c5 ?_ ?c2 ?c3 ?c4; (case k6 => k_is); (case k7 => k_is); (case k8 => show dp < _; omega); (case k9 => exact BindsTo.of_eq rfl); (case c5 => decide); (case kB => exact locs rfl); (case kM => exact rfl); (case c2 => exact rfl); (case c3 => exact rfl); (case c4 => exact rfl); k_whole; intro L' h' tk' F' N')
  k_steps
  all_goals first
    | exact (hz (by assumption)).1 (by assumption)
    | exact (hz (by assumption)).2.1 (by assumption)
    | exact (hz (by assumption)).2.2 (by assumption)
    | exact hsv_end (s := s) hret (by assumption) (by assumption) (.grey (by assumption))
    | exact hsv_end (s := s) hret (by assumption) (by assumption) (.s0 (by assumption) (by assumption))
    | exact hsv_end (s := s) hret (by assumption) (by assumption) (.s1 (by assumption) (by assumption))
    | exact hsv_end (s := s) hret (by assumption) (by assumption) (.s2 (by assumption) (by assumption))
    | exact hsv_end (s := s) hret (by assumption) (by assumption) (.s3 (by assumption) (by assumption))
    | exact hsv_end (s := s) hret (by assumption) (by assumption) (.s4 (by assumption) (by assumption))
    | exact hsv_end (s := s) hret (by assumption) (by assumption) (.s5 (by assumption) (by assumption))
    | exact (six (z := sx h) (by assumption) (by assumption) (by assumption) (by assumption) (by assumption) (by assumption)).elim
end Mine

-- Light
namespace Mine
theorem intK {s : Shared} {R : Result → Shared → Prop} {x y : Int} {L' : Addr} {h' : Heap} {m : Str → Option Value} {t : Tok} {tk' : Nat} (hret : ∀ (t : Tok) (h' : Heap) (tk' : Nat), (∀ b o, s.heap.get? b = some o → h'.get? b = some o) → R (.ok (.ret (.int x t))) { s with heap := h', toks := tk' })
    (F : Fr s.heap L' h' m) (e : y = x) : R (.ok (.ret (.int y t))) { s with heap := h', toks := tk' } := by
  subst e
  exact hret t h' tk' F.keep
/-- the light of a letter, by its sign's number -/
def lightOf (c : Nat) : Int := if c = 97 then 4 else if c = 98 then 6 else if c = 99 then 2 else if c = 100 then 3 else if c = 101 then 1 else if c = 102 then 5 else 7
def lp0 (c : Nat) : UInt64 := if c = 97 ∨ c = 98 ∨ c = 102 ∨ c = 103 then 4607182418800017408 else 0
def lp1 (c : Nat) : UInt64 := if c = 98 ∨ c = 99 ∨ c = 100 ∨ c = 103 then 4607182418800017408 else 0
def lp2 (c : Nat) : UInt64 := if c = 100 ∨ c = 101 ∨ c = 102 ∨ c = 103 then 4607182418800017408 else 0
theorem sevenN {c : Nat} {P : Nat → Prop} (h1 : 97 ≤ c) (h7 : c ≤ 103) (p1 : P 97) (p2 : P 98) (p3 : P 99) (p4 : P 100) (p5 : P 101) (p6 : P 102) (p7 : P 103) : P c := by
  have : c = 97 ∨ c = 98 ∨ c = 99 ∨ c = 100 ∨ c = 101 ∨ c = 102 ∨ c = 103 := by omega
  rcases this with rfl | rfl | rfl | rfl | rfl | rfl | rfl <;> assumption
abbrev ch (c : Nat) : Str := { cps := #[c] }
abbrev fd (c : Nat) : Int := Txt.find (Str.ofString "abcdef") (ch c)
abbrev hB (c : Nat) : UInt64 := Float64.ofFrac (decide (fd c < 0) != decide (6 < 0)) (fd c).natAbs (Int.natAbs 6)
theorem hsv_of {h sa v P0 P1 P2 : UInt64}
    (c0 : (Float64.cmp sa 0 == some Ordering.eq) = true → P0 = v ∧ P1 = v ∧ P2 = v)
    (c1 : (Float64.cmp sa 0 == some Ordering.eq) = false → (sx h).fmod 6 = 0 → P0 = v ∧ P1 = tx h sa v ∧ P2 = px sa v)
    (c2 : (Float64.cmp sa 0 == some Ordering.eq) = false → (sx h).fmod 6 = 1 → P0 = qx h sa v ∧ P1 = v ∧ P2 = px sa v)
    (c3 : (Float64.cmp sa 0 == some Ordering.eq) = false → (sx h).fmod 6 = 2 → P0 = px sa v ∧ P1 = v ∧ P2 = tx h sa v)
    (c4 : (Float64.cmp sa 0 == some Ordering.eq) = false → (sx h).fmod 6 = 3 → P0 = px sa v ∧ P1 = qx h sa v ∧ P2 = v)
    (c5 : (Float64.cmp sa 0 == some Ordering.eq) = false → (sx h).fmod 6 = 4 → P0 = tx h sa v ∧ P1 = px sa v ∧ P2 = v)
    (c6 : (Float64.cmp sa 0 == some Ordering.eq) = false → (sx h).fmod 6 = 5 → P0 = v ∧ P1 = px sa v ∧ P2 = qx h sa v)
    {p0 p1 p2 : UInt64} (hr : HsvRel h sa v p0 p1 p2) : p0 = P0 ∧ p1 = P1 ∧ p2 = P2 := by
  cases hr with
  | grey a => obtain ⟨rfl, rfl, rfl⟩ := c0 a; exact ⟨rfl, rfl, rfl⟩
  | s0 a b => obtain ⟨rfl, rfl, rfl⟩ := c1 a b; exact ⟨rfl, rfl, rfl⟩
  | s1 a b => obtain ⟨rfl, rfl, rfl⟩ := c2 a b; exact ⟨rfl, rfl, rfl⟩
  | s2 a b => obtain ⟨rfl, rfl, rfl⟩ := c3 a b; exact ⟨rfl, rfl, rfl⟩
  | s3 a b => obtain ⟨rfl, rfl, rfl⟩ := c4 a b; exact ⟨rfl, rfl, rfl⟩
  | s4 a b => obtain ⟨rfl, rfl, rfl⟩ := c5 a b; exact ⟨rfl, rfl, rfl⟩
  | s5 a b => obtain ⟨rfl, rfl, rfl⟩ := c6 a b; exact ⟨rfl, rfl, rfl⟩
theorem li_rel {c : Nat} (h1 : 97 ≤ c) (h7 : c ≤ 103) : c ≠ 103 → ∀ {p0 p1 p2 : UInt64}, HsvRel (hB c) 4607182418800017408 4607182418800017408 p0 p1 p2 → p0 = lp0 c ∧ p1 = lp1 c ∧ p2 = lp2 c :=
  sevenN (P := fun c => c ≠ 103 → ∀ {p0 p1 p2 : UInt64}, HsvRel (hB c) 4607182418800017408 4607182418800017408 p0 p1 p2 → p0 = lp0 c ∧ p1 = lp1 c ∧ p2 = lp2 c) h1 h7
    (fun _ => hsv_of (by decide +kernel) (by decide +kernel) (by decide +kernel) (by decide +kernel) (by decide +kernel) (by decide +kernel) (by decide +kernel))
    (fun _ => hsv_of (by decide +kernel) (by decide +kernel) (by decide +kernel) (by decide +kernel) (by decide +kernel) (by decide +kernel) (by decide +kernel))
    (fun _ => hsv_of (by decide +kernel) (by decide +kernel) (by decide +kernel) (by decide +kernel) (by decide +kernel) (by decide +kernel) (by decide +kernel))
    (fun _ => hsv_of (by decide +kernel) (by decide +kernel) (by decide +kernel) (by decide +kernel) (by decide +kernel) (by decide +kernel) (by decide +kernel))
    (fun _ => hsv_of (by decide +kernel) (by decide +kernel) (by decide +kernel) (by decide +kernel) (by decide +kernel) (by decide +kernel) (by decide +kernel))
    (fun _ => hsv_of (by decide +kernel) (by decide +kernel) (by decide +kernel) (by decide +kernel) (by decide +kernel) (by decide +kernel) (by decide +kernel))
    (fun h => absurd rfl h)
theorem li_relg : ∀ {p0 p1 p2 : UInt64}, HsvRel 0 0 4607182418800017408 p0 p1 p2 → p0 = lp0 103 ∧ p1 = lp1 103 ∧ p2 = lp2 103 :=
  hsv_of (by decide +kernel) (by decide +kernel) (by decide +kernel) (by decide +kernel) (by decide +kernel) (by decide +kernel) (by decide +kernel)
theorem li_ok {c : Nat} (h1 : 97 ≤ c) (h7 : c ≤ 103) : c ≠ 103 → ¬ Float64.isNaN (Float64.mul (hB c) 4618441417868443648) = true ∧ ¬ Float64.isInf (Float64.mul (hB c) 4618441417868443648) = true ∧ (sx (hB c)).natAbs < 2 ^ 64 :=
  sevenN (P := fun c => c ≠ 103 → ¬ Float64.isNaN (Float64.mul (hB c) 4618441417868443648) = true ∧ ¬ Float64.isInf (Float64.mul (hB c) 4618441417868443648) = true ∧ (sx (hB c)).natAbs < 2 ^ 64) h1 h7
   (by decide +kernel) (by decide +kernel) (by decide +kernel) (by decide +kernel) (by decide +kernel) (by decide +kernel) (by decide +kernel)
theorem li_find {c : Nat} (h1 : 97 ≤ c) (h7 : c ≤ 103) : c ≠ 103 → (Builtin.Str.occurrences (Str.ofString "abcdef") (ch c) 0 (Str.ofString "abcdef").length 1).isEmpty = false ∧ Float64.isInf (hB c) = false ∧ ¬ fd c = -1 :=
  sevenN (P := fun c => c ≠ 103 → (Builtin.Str.occurrences (Str.ofString "abcdef") (ch c) 0 (Str.ofString "abcdef").length 1).isEmpty = false ∧ Float64.isInf (hB c) = false ∧ ¬ fd c = -1) h1 h7
   (by decide +kernel) (by decide +kernel) (by decide +kernel) (by decide +kernel) (by decide +kernel) (by decide +kernel) (by decide +kernel)
abbrev lsum (c : Nat) : UInt64 := Float64.add (Float64.add (Float64.mul (Float64.ofInt 4) (lp0 c)) (Float64.mul (Float64.ofInt 2) (lp1 c))) (lp2 c)
theorem li_end {c : Nat} (h1 : 97 ≤ c) (h7 : c ≤ 103) : Flt.toInt Float64.truncOf (lsum c) = lightOf c ∧ Float64.isNaN (lsum c) = false ∧ Float64.isInf (lsum c) = false :=
  sevenN (P := fun c => Flt.toInt Float64.truncOf (lsum c) = lightOf c ∧ Float64.isNaN (lsum c) = false ∧ Float64.isInf (lsum c) = false) h1 h7
   (by decide +kernel) (by decide +kernel) (by decide +kernel) (by decide +kernel) (by decide +kernel) (by decide +kernel) (by decide +kernel)
end Mine

-- LightW
namespace Mine
theorem li_g {c : Nat} (h1 : 97 ≤ c) (h7 : c ≤ 103) : (({ cps := #[c] } : Str) == Str.ofString "g") = decide (c = 103) :=
  sevenN (P := fun c => (({ cps := #[c] } : Str) == Str.ofString "g") = decide (c = 103)) h1 h7 (by decide +kernel) (by decide +kernel) (by decide +kernel) (by decide +kernel) (by decide +kernel) (by decide +kernel) (by decide +kernel)
theorem li_yes {c : Nat} (h1 : 97 ≤ c) (h7 : c ≤ 103) (h : (({ cps := #[c] } : Str) == Str.ofString "g") = true) : c = 103 := of_decide_eq_true ((li_g h1 h7).symm.trans h)
theorem li_not {c : Nat} (h1 : 97 ≤ c) (h7 : c ≤ 103) (h : (({ cps := #[c] } : Str) == Str.ofString "g") = false) : c ≠ 103 := of_decide_eq_false ((li_g h1 h7).symm.trans h)
theorem li_no {n : Nat} (h : n < 2 ^ 64) (h' : 2 ^ 1024 - 2 ^ 970 ≤ n) : False := Nat.lt_irrefl _ (Nat.lt_of_lt_of_le (Nat.lt_of_lt_of_le h (by decide +kernel : (2 : Nat) ^ 64 ≤ 2 ^ 1024 - 2 ^ 970)) h')
theorem li_okg : (Float64.cmp 0 0 == some Ordering.eq) = false → ¬ Float64.isNaN (Float64.mul 0 4618441417868443648) = true ∧ ¬ Float64.isInf (Float64.mul 0 4618441417868443648) = true ∧ ¬ (2 ^ 1024 - 2 ^ 970 ≤ (sx 0).natAbs) :=
  fun h => absurd h (by decide +kernel)
theorem b_light (w : World) (mean : ExcName → Option Value) (mg mb : Str → Option Value) (dp un : Nat) (fr : Option (List Env)) (gd : Option (List Code)) (s : Shared) (R : Result → Shared → Prop)
    (c : Nat) (t1 : Tok) : (hd.heap_39 w.params).In s.heap → Top hd.view_39 (looseW hd.view_39 []) mean mg mb s.heap → dp + 15 < recursionLimit → un + 100 < cLine → 97 ≤ c → c ≤ 103 →
    (∀ (t : Tok) (h' : Heap) (tk' : Nat), (∀ b o, s.heap.get? b = some o → h'.get? b = some o) → R (.ok (.ret (.int (lightOf c) t))) { s with heap := h', toks := tk' }) →
    codeAny (model PySem.Challenge.rw_tr0022_01.row.prog w) (AA dp un fr gd) (.call (.ref 88) ⟨[.str ⟨#[c]⟩ t1], []⟩) R s := by
  w_top off
  k_fill
  intro X T h1 h2 h3 h4 hret
  k_dflt (refine' enterB (mm := fun y => List.lookup y [("name", .str ⟨#[c]⟩ t1)]) X T ?k6 ?k7 ?k8 ?k9 ?kB ?kM ?c5 ?_ ?c2 ?c3 ?c4; (case k6 => k_is); (case k7 => k_is); (case k8 => show dp < _; omega); (case k9 => exact BindsTo.of_eq rfl); (case c5 => decide); (case kB => exact locs rfl); (case kM => exact rfl); (case c2 => exact rfl); (case c3 => exact rfl); (case c4 => exact rfl); k_whole; intro L' h' tk' F' N')
  k_steps
  all_goals first
    | exact Bool.false_ne_true ((li_find h3 h4 (li_not h3 h4 (by assumption))).1.symm.trans (by assumption))
    | exact Bool.false_ne_true ((li_find h3 h4 (li_not h3 h4 (by assumption))).2.1.symm.trans (by assumption))
    | skip
  · have hc := li_yes h3 h4 (by assumption)
    subst hc
    refine' wpAny_call (b_hsv _ _ _ _ _ _ _ _ _ _ _ _ _ _ _ _ ?x1 ?x2 ?x3 ?x4 ?x5 ?_)
    (case x1 => k_in)
    (case x2 => exact T.keeps F'.keep)
    (case x3 => show dp + 1 + 5 < recursionLimit; omega)
    (case x4 => show un + 3 + 40 < cLine; omega)
    (case x5 => exact li_okg)
    intro D' p0' p1' p2' t1' t2' t3' h2' tk2' hr' kp' hn' hg'
    obtain ⟨rfl, rfl, rfl⟩ := li_relg hr'
    replace N' := news_add F' N' kp' hn' hg'
    replace F' := F'.grownK kp'
    clear hr' hn' hg' kp'
    dsimp only
    k_steps
    all_goals first
      | exact Bool.false_ne_true ((li_end h3 h4).2.1.symm.trans (by assumption))
      | exact Bool.false_ne_true ((li_end h3 h4).2.2.symm.trans (by assumption))
      | ((try dsimp only); exact intK (s := s) hret (by assumption) (li_end h3 h4).1)
  · have hc := li_not h3 h4 (by assumption)
    refine' wpAny_call (b_hsv _ _ _ _ _ _ _ _ _ _ _ _ _ _ _ _ ?x1 ?x2 ?x3 ?x4 ?x5 ?_)
    (case x1 => k_in)
    (case x2 => exact T.keeps F'.keep)
    (case x3 => show dp + 1 + 5 < recursionLimit; omega)
    (case x4 => show un + 3 + 40 < cLine; omega)
    (case x5 => exact fun _ => ⟨(li_ok h3 h4 hc).1, (li_ok h3 h4 hc).2.1, fun q => li_no (li_ok h3 h4 hc).2.2 q⟩)
    intro D' p0' p1' p2' t1' t2' t3' h2' tk2' hr' kp' hn' hg'
    obtain ⟨rfl, rfl, rfl⟩ := li_rel h3 h4 hc hr'
    replace N' := news_add F' N' kp' hn' hg'
    replace F' := F'.grownK kp'
    clear hr' hn' hg' kp'
    dsimp only
    k_steps
    all_goals first
      | exact Bool.false_ne_true ((li_end h3 h4).2.1.symm.trans (by assumption))
      | exact Bool.false_ne_true ((li_end h3 h4).2.2.symm.trans (by assumption))
      | ((try dsimp only); exact intK (s := s) hret (by assumption) (li_end h3 h4).1)
end Mine

-- Reply
namespace Mine
/-- one sign of the reply: a mark where the visible part begins or ends, then the sign -/
def rstepB (st : Str × Bool) (c : Int) (vis : Bool) : Str × Bool :=
  if ((!vis) != st.2) = true then (st.1 ++ Str.ofString "\"" ++ { cps := #[c.toNat] }, !st.2) else (st.1 ++ { cps := #[c.toNat] }, st.2)
def rstep (ls : List Str) (st : Str × Bool) (c : Int) : Str × Bool := rstepB st c (ls.any (· == ({ cps := #[c.toNat] } : Str)))
def rfin (b0 b1 b2 b3 b4 b5 b6 : Bool) : Str × Bool := rstepB (rstepB (rstepB (rstepB (rstepB (rstepB (rstepB (Str.ofString "", false) 97 b0) 98 b1) 99 b2) 100 b3) 101 b4) 102 b5) 103 b6
abbrev dbl (x : Str) : Str := Txt.replace x (Str.ofString "\"") (Str.ofString "\"\"")
def shut (st : Str × Bool) : Str := if st.2 = true then st.1 ++ Str.ofString "\"" else st.1
def wrapS (x : Str) : Str := Str.ofString "257 \"" ++ x ++ Str.ofString "\""
/-- what _law_reply hands back -/
def replyB (b0 b1 b2 b3 b4 b5 b6 : Bool) : Str := wrapS (dbl (shut (rfin b0 b1 b2 b3 b4 b5 b6)))
abbrev has (ls : List Str) (c : Nat) : Bool := ls.any (· == ({ cps := #[c] } : Str))
abbrev replyL (ls : List Str) : Str := replyB (has ls 97) (has ls 98) (has ls 99) (has ls 100) (has ls 101) (has ls 102) (has ls 103)
theorem codes7 : KStt.codes (Str.ofString "abcdefg") = [97, 98, 99, 100, 101, 102, 103] := by decide +kernel
theorem rfin_eq (ls : List Str) : (KStt.codes (Str.ofString "abcdefg")).foldl (rstep ls) (Str.ofString "", false) = rfin (has ls 97) (has ls 98) (has ls 99) (has ls 100) (has ls 101) (has ls 102) (has ls 103) := by
  rw [codes7]
  rfl
theorem dblL_len : ∀ l : List Nat, (StrLaws.dbl 34 l).length ≤ 2 * l.length
  | [] => Nat.le_refl _
  | k :: r => by
    have ih := dblL_len r
    show (if k = 34 then k :: k :: StrLaws.dbl 34 r else k :: StrLaws.dbl 34 r).length ≤ _
    split <;> simp only [List.length_cons] <;> omega
theorem shut_len : ∀ b0 b1 b2 b3 b4 b5 b6 : Bool, (shut (rfin b0 b1 b2 b3 b4 b5 b6)).cps.size ≤ 32 := by decide +kernel
theorem one_q : Str.ofString "\"" = ⟨#[34]⟩ := by decide +kernel
theorem two_q : Str.ofString "\"\"" = ⟨#[34, 34]⟩ := by decide +kernel
theorem rlen (b0 b1 b2 b3 b4 b5 b6 : Bool) : (dbl (shut (rfin b0 b1 b2 b3 b4 b5 b6))).length ≤ 64 := by
  have h := shut_len b0 b1 b2 b3 b4 b5 b6
  generalize shut (rfin b0 b1 b2 b3 b4 b5 b6) = x at h ⊢
  have e : (dbl x).length = (StrLaws.dbl 34 x.cps.toList).length := by
    rw [show dbl x = ⟨(StrLaws.dbl 34 x.cps.toList).toArray⟩ from replace_dbl x _ _ 34 one_q two_q]
    exact List.size_toArray
  have h2 := dblL_len x.cps.toList
  have h3 : x.cps.toList.length = x.cps.size := Array.length_toList
  rw [e]
  omega
theorem rlen_of {ls : List Str} {st : Str × Bool} (h : st = (KStt.codes (Str.ofString "abcdefg")).foldl (rstep ls) (Str.ofString "", false)) : (dbl (shut st)).length ≤ 64 := by
  rw [h, rfin_eq]; exact rlen _ _ _ _ _ _ _
theorem rlen_t {ls : List Str} {t : Str} {hd : Bool} (h : (t, hd) = (KStt.codes (Str.ofString "abcdefg")).foldl (rstep ls) (Str.ofString "", false)) (e : hd = true) : (dbl (t ++ Str.ofString "\"")).length ≤ 64 := by
  have := rlen_of h; subst e; exact this
theorem rlen_f {ls : List Str} {t : Str} {hd : Bool} (h : (t, hd) = (KStt.codes (Str.ofString "abcdefg")).foldl (rstep ls) (Str.ofString "", false)) (e : hd = false) : (dbl t).length ≤ 64 := by
  have := rlen_of h; subst e; exact this
theorem rend_t {ls : List Str} {t : Str} {hd : Bool} (h : (t, hd) = (KStt.codes (Str.ofString "abcdefg")).foldl (rstep ls) (Str.ofString "", false)) (e : hd = true) : Str.ofString "257 \"" ++ dbl (t ++ Str.ofString "\"") ++ Str.ofString "\"" = replyL ls := by
  rw [rfin_eq] at h; subst e; unfold replyL replyB; rw [← h]; rfl
theorem rend_f {ls : List Str} {t : Str} {hd : Bool} (h : (t, hd) = (KStt.codes (Str.ofString "abcdefg")).foldl (rstep ls) (Str.ofString "", false)) (e : hd = false) : Str.ofString "257 \"" ++ dbl t ++ Str.ofString "\"" = replyL ls := by
  rw [rfin_eq] at h; subst e; unfold replyL replyB; rw [← h]; rfl
theorem rs_0 (ls : List Str) : (Str.ofString "", false) = ([] : List Int).foldl (rstep ls) (Str.ofString "", false) ∧ (Str.ofString "").length ≤ 2 * ([] : List Int).length := ⟨rfl, by decide +kernel⟩
theorem len1 (k : Nat) : ({ cps := #[k] } : Str).length = 1 := rfl
theorem rs_1 {ls : List Str} {t : Str} {hd : Bool} {pre : List Int} {k : Nat} (h : (t, hd) = pre.foldl (rstep ls) (Str.ofString "", false)) (hl : t.length ≤ 2 * pre.length) (c : ((!ls.any fun x => x == { cps := #[k] }) != hd) = true) :
    (t ++ Str.ofString "\"" ++ { cps := #[k] }, !hd) = (pre ++ [(k : Int)]).foldl (rstep ls) (Str.ofString "", false) ∧ (t ++ Str.ofString "\"" ++ { cps := #[k] }).length ≤ 2 * (pre ++ [(k : Int)]).length := by
  constructor
  · rw [List.foldl_append, List.foldl_cons, List.foldl_nil, ← h]
    show _ = rstepB (t, hd) (k : Int) (ls.any fun x => x == { cps := #[k] })
    unfold rstepB
    rw [if_pos c]
    rfl
  · rw [Str.length_append, Str.length_append, List.length_append, len1, show (Str.ofString "\"").length = 1 by decide +kernel]
    simp only [List.length_cons, List.length_nil]
    omega
theorem rs_2 {ls : List Str} {t : Str} {hd : Bool} {pre : List Int} {k : Nat} (h : (t, hd) = pre.foldl (rstep ls) (Str.ofString "", false)) (hl : t.length ≤ 2 * pre.length) (c : ((!ls.any fun x => x == { cps := #[k] }) != hd) = false) :
    (t ++ { cps := #[k] }, hd) = (pre ++ [(k : Int)]).foldl (rstep ls) (Str.ofString "", false) ∧ (t ++ { cps := #[k] }).length ≤ 2 * (pre ++ [(k : Int)]).length := by
  constructor
  · rw [List.foldl_append, List.foldl_cons, List.foldl_nil, ← h]
    show _ = rstepB (t, hd) (k : Int) (ls.any fun x => x == { cps := #[k] })
    unfold rstepB
    rw [if_neg (by rw [c]; exact Bool.false_ne_true)]
    rfl
  · rw [Str.length_append, List.length_append, len1]
    simp only [List.length_cons, List.length_nil]
    omega
section
local macro_rules | `(tactic| walk_at "compareOp NotIn") => `(tactic| (refine notin_list_strs (by assumption) (by assumption) ?_))
theorem b_reply (w : World) (mean : ExcName → Option Value) (mg mb : Str → Option Value) (dp un : Nat) (fr : Option (List Env)) (gd : Option (List Code)) (s : Shared) (R : Result → Shared → Prop)
    (a : Addr) (vs : List Value) (ls : List Str) : (hd.heap_39 w.params).In s.heap → Top hd.view_39 (looseW hd.view_39 []) mean mg mb s.heap → dp + 15 < recursionLimit → un + 100 < cLine → s.heap.IsList a vs.toArray → StrsAre vs ls →
    (∀ (t : Tok) (h' : Heap) (tk' : Nat), (∀ b o, s.heap.get? b = some o → h'.get? b = some o) → R (.ok (.ret (.str (replyL ls) t))) { s with heap := h', toks := tk' }) →
    codeAny (model PySem.Challenge.rw_tr0022_01.row.prog w) (AA dp un fr gd) (.call (.ref 95) ⟨[.ref a], []⟩) R s := by
  w_top off
  k_fill
  intro X T h1 h2 h3 h4 hret
  k_dflt (refine' enterB (mm := fun y => List.lookup y [("letters", .ref a)]) X T ?k6 ?k7 ?k8 ?k9 ?kB ?kM ?c5 ?_ ?c2 ?c3 ?c4; (case k6 => k_is); (case k7 => k_is); (case k8 => show dp < _; omega); (case k9 => exact BindsTo.of_eq rfl); (case c5 => decide); (case kB => exact locs rfl); (case kM => exact rfl); (case c2 => exact rfl); (case c3 => exact rfl); (case c4 => exact rfl); k_whole; intro L' h' tk' F' N')
  have hl7 : (Str.ofString "abcdefg").length = 7 := by decide +kernel
  have hl1 : (Str.ofString "\"").length = 1 := by decide +kernel
  have hl0 : (Str.ofString "").length = 0 := by decide +kernel
  (k_with "pyIter str" => k_state (fun pre text hidden => (text, hidden) = pre.foldl (rstep ls) (Str.ofString "", false) ∧ text.length ≤ 2 * pre.length) "text" "hidden")
  k_with "state" => first | exact rs_0 _ | exact rs_1 (by assumption) (by assumption) (by assumption) | exact rs_2 (by assumption) (by assumption) (by assumption)
  k_steps
  · have hz := rlen_t (by assumption) (by assumption)
    unfold dbl at hz
    k_steps
    exact strK (s := s) hret (by assumption) (rend_t (by assumption) (by assumption))
  · have hz := rlen_f (by assumption) (by assumption)
    unfold dbl at hz
    k_steps
    exact strK (s := s) hret (by assumption) (rend_f (by assumption) (by assumption))
end
end Mine

-- Parse
namespace Mine
/-- what the loop of parse257 makes of the rest -/
def ploop : Str → List Nat → Str
  | d, [] => d
  | d, [c] => if c = 34 then d else d ++ { cps := #[c] }
  | d, c :: c' :: r => if c = 34 then (if c' = 34 then ploop (d ++ { cps := #[c] }) r else d) else ploop (d ++ { cps := #[c] }) (c' :: r)
theorem it_at {x : Str} {i c : Nat} (h : x.cps[i]? = some c) : Txt.item x (i : Int) = { cps := #[c] } := item_meets (Int.natCast_nonneg _) (by simpa using h)
theorem it_at1 {x : Str} {i c : Nat} (h : x.cps[i + 1]? = some c) : Txt.item x ((i : Int) + 1) = { cps := #[c] } := it_at (i := i + 1) h
theorem q_is (c : Nat) : ((({ cps := #[c] } : Str)) == Str.ofString "\"") = decide (c = 34) := by
  rw [show Str.ofString "\"" = ({ cps := #[34] } : Str) by decide +kernel]
  by_cases h : c = 34
  · subst h; rfl
  · rw [decide_eq_false h]
    apply beq_false_of_ne
    intro e
    apply h
    injection e with e
    have e2 := congrArg (fun a : Array Nat => a.toList) e
    simpa using e2
theorem cps_some {x : Str} {i : Nat} (h : (i : Int) < (x.length : Int)) : ∃ c, x.cps[i]? = some c := by
  have h' : i < x.cps.size := Int.ofNat_lt.mp h
  exact ⟨x.cps[i], by simp [h']⟩
theorem drop_at {x : Str} {i c : Nat} (h : x.cps[i]? = some c) : x.cps.toList.drop i = c :: x.cps.toList.drop (i + 1) := by
  have h' : x.cps.toList[i]? = some c := by simpa using h
  obtain ⟨hl, he⟩ := List.getElem?_eq_some_iff.mp h'
  rw [← he]; exact List.drop_eq_getElem_cons hl
theorem drop_end {x : Str} {i : Nat} (h : (x.length : Int) ≤ (i : Int)) : x.cps.toList.drop i = [] := by
  apply List.drop_eq_nil_of_le
  rw [Array.length_toList]
  show x.length ≤ i
  omega
theorem pl_stop {x : Str} {d T : Str} {i : Nat} (hp : ploop d (x.cps.toList.drop i) = T) (h : ¬ (i : Int) < (x.length : Int)) : d = T := by
  rw [drop_end (by omega)] at hp; exact hp
theorem pl_last {x : Str} {d T : Str} {i : Nat} (hp : ploop d (x.cps.toList.drop i) = T) (h : (i : Int) < (x.length : Int)) (hq : (Txt.item x (i : Int) == Str.ofString "\"") = true) (he : (x.length : Int) ≤ (i : Int) + 1) : d = T := by
  obtain ⟨c, hc⟩ := cps_some h
  rw [it_at hc, q_is] at hq
  have hq := of_decide_eq_true hq
  rw [drop_at hc, drop_end (i := i + 1) (by omega)] at hp
  unfold ploop at hp
  rw [if_pos hq] at hp
  exact hp
theorem pl_break {x : Str} {d T : Str} {i : Nat} (hp : ploop d (x.cps.toList.drop i) = T) (h : (i : Int) < (x.length : Int)) (hq : (Txt.item x (i : Int) == Str.ofString "\"") = true) (he : ¬ (x.length : Int) ≤ (i : Int) + 1) (hn : (Txt.item x ((i : Int) + 1) != Str.ofString "\"") = true) : d = T := by
  obtain ⟨c, hc⟩ := cps_some h
  obtain ⟨c', hc'⟩ := cps_some (x := x) (i := i + 1) (by omega)
  rw [it_at hc, q_is] at hq
  rw [it_at1 hc', bne, q_is] at hn
  have hq := of_decide_eq_true hq
  have hn : ¬ c' = 34 := by simpa using hn
  rw [drop_at hc, drop_at hc'] at hp
  unfold ploop at hp
  rw [if_pos hq, if_neg hn] at hp
  exact hp
theorem pl_two {x : Str} {d T : Str} {i : Nat} (hp : ploop d (x.cps.toList.drop i) = T) (h : (i : Int) < (x.length : Int)) (hq : (Txt.item x (i : Int) == Str.ofString "\"") = true) (he : ¬ (x.length : Int) ≤ (i : Int) + 1) (hn : (Txt.item x ((i : Int) + 1) != Str.ofString "\"") = false) : ploop (d ++ Txt.item x (i : Int)) (x.cps.toList.drop (i + 2)) = T := by
  obtain ⟨c, hc⟩ := cps_some h
  obtain ⟨c', hc'⟩ := cps_some (x := x) (i := i + 1) (by omega)
  rw [it_at hc, q_is] at hq
  rw [it_at1 hc', bne, q_is] at hn
  have hq := of_decide_eq_true hq
  have hn : c' = 34 := by simpa using hn
  rw [drop_at hc, drop_at hc'] at hp
  unfold ploop at hp
  rw [if_pos hq, if_pos hn] at hp
  rw [it_at hc]
  exact hp
theorem pl_one {x : Str} {d T : Str} {i : Nat} (hp : ploop d (x.cps.toList.drop i) = T) (h : (i : Int) < (x.length : Int)) (hq : (Txt.item x (i : Int) == Str.ofString "\"") = false) : ploop (d ++ Txt.item x (i : Int)) (x.cps.toList.drop (i + 1)) = T := by
  obtain ⟨c, hc⟩ := cps_some h
  rw [it_at hc, q_is] at hq
  have hq := of_decide_eq_false hq
  rw [drop_at hc] at hp
  rw [it_at hc]
  generalize x.cps.toList.drop (i + 1) = r at hp
  cases r with
  | nil => unfold ploop at hp; rw [if_neg hq] at hp; unfold ploop; exact hp
  | cons c' r => unfold ploop at hp; rw [if_neg hq] at hp; exact hp
abbrev PSt := Str × Nat × Tok × Tok
section
local macro_rules | `(tactic| walk_at "none of these") => `(tactic| skip)
local macro_rules | `(tactic| walk_at "exec While Compare cons nil") => `(tactic| refine Hold.out ?_)
theorem b_parse (w : World) (mean : ExcName → Option Value) (mg mb : Str → Option Value) (dp un : Nat) (fr : Option (List Env)) (gd : Option (List Code)) (s : Shared) (R : Result → Shared → Prop)
    (x : Str) (t1 : Tok) : (hd.heap_39 w.params).In s.heap → Top hd.view_39 (looseW hd.view_39 []) mean mg mb s.heap → dp + 15 < recursionLimit → un + 100 < cLine → x.length ≤ 100 → 5 ≤ x.length → (Txt.slice x none (some 3) != Str.ofString "257") = false → (Txt.slice x (some 3) (some 5) != Str.ofString " \"") = false →
    (∀ (t : Tok) (h' : Heap) (tk' : Nat), (∀ b o, s.heap.get? b = some o → h'.get? b = some o) → R (.ok (.ret (.str (ploop (Str.ofString "") (x.cps.toList.drop 5)) t))) { s with heap := h', toks := tk' }) →
    codeAny (model PySem.Challenge.rw_tr0022_01.row.prog w) (AA dp un fr gd) (.call (.ref 74) ⟨[.str x t1], []⟩) R s := by
  w_top off
  k_fill
  intro X T h1 h2 h3 h4 h5 h6 hret
  k_dflt (refine' enterB (mm := fun y => List.lookup y [("resp", .str x t1)]) X T ?k6 ?k7 ?k8 ?k9 ?kB ?kM ?c5 ?_ ?c2 ?c3 ?c4; (case k6 => k_is); (case k7 => k_is); (case k8 => show dp < _; omega); (case k9 => exact BindsTo.of_eq rfl); (case c5 => decide); (case kB => exact locs rfl); (case kM => exact rfl); (case c2 => exact rfl); (case c3 => exact rfl); (case c4 => exact rfl); k_whole; intro L' h' tk' F' N')
  k_steps
  all_goals first
    | exact absurd (h5.symm.trans (by assumption)) Bool.false_ne_true
    | exact absurd (h6.symm.trans (by assumption)) Bool.false_ne_true
    | skip
  refine Hold.mk ?_
  refine' ksw_while (σ := PSt) (Led := fun _ => []) (ps := fun c => [("dirname", .str c.1 c.2.2.1), ("i", .int (c.2.1 : Int) c.2.2.2)]) (Facts := fun _ => True) (stored := ["c"])
    (P := fun c => 5 ≤ c.2.1 ∧ c.2.1 ≤ x.length ∧ c.1.length ≤ c.2.1 ∧ ploop c.1 (x.cps.toList.drop c.2.1) = ploop (Str.ofString "") (x.cps.toList.drop 5)) (μ := fun c => x.length - c.2.1) (c₀ := (Str.ofString "", 5, ?ta, ?tb)) (by assumption) (by assumption) trivial ?_ ?_ ?_ ?_
  rotate_left 2
  · intro p hp
    simp only [List.mem_cons, List.not_mem_nil, or_false] at hp
    rcases hp with rfl | rfl <;> rfl
  · exact ⟨Nat.le_refl _, h4, (by decide +kernel : (Str.ofString "").length ≤ 5), rfl⟩
  · rintro ⟨d, i, td, ti⟩ u h tk _ ⟨p1, p2, p3, p4⟩ F' N'
    dsimp only at p1 p2 p3 p4 F' N' ⊢
    k_steps
    all_goals first
      | ((try dsimp only); exact strK (s := s) hret (by assumption) (pl_last p4 (by assumption) (by assumption) (by assumption)))
      | ((try dsimp only); exact strK (s := s) hret (by assumption) (pl_break p4 (by assumption) (by assumption) (by assumption) (by assumption)))
      | ((try dsimp only); exact strK (s := s) hret (by assumption) (pl_stop p4 (by assumption)))
      | skip
    · refine' ksw_end (d ++ Txt.item x (i : Int), i + 2, ?ua, ?ub) (by assumption) (by assumption) (fun p hp => nomatch hp) trivial ?k1 ?k2 ?k3 ?k4
      (case k1 => kst_all)
      (case k2 =>
        intro z hz hs
        have e1 : z ≠ Str.ofString "dirname" := hz _ (.head _)
        have e2 : z ≠ Str.ofString "i" := hz _ (.tail _ (.head _))
        have e3 : z ≠ Str.ofString "c" := by rintro rfl; exact absurd hs (by decide)
        have e4 : ¬ (([Str.ofString "c"].contains z) = true) := by rw [hs]; exact Bool.false_ne_true
        simp only [kstB, if_neg e1, if_neg e2, if_neg e3, if_neg e4])
      (case k3 => exact ⟨by dsimp only; omega, by dsimp only; omega, by dsimp only; rw [Str.length_append, len_item]; omega, pl_two p4 (by assumption) (by assumption) (by assumption) (by assumption)⟩)
      (case k4 => dsimp only; omega)
    · refine' ksw_end (d ++ Txt.item x (i : Int), i + 1, ?va, ?vb) (by assumption) (by assumption) (fun p hp => nomatch hp) trivial ?k1 ?k2 ?k3 ?k4
      (case k1 => kst_all)
      (case k2 =>
        intro z hz hs
        have e1 : z ≠ Str.ofString "dirname" := hz _ (.head _)
        have e2 : z ≠ Str.ofString "i" := hz _ (.tail _ (.head _))
        have e3 : z ≠ Str.ofString "c" := by rintro rfl; exact absurd hs (by decide)
        have e4 : ¬ (([Str.ofString "c"].contains z) = true) := by rw [hs]; exact Bool.false_ne_true
        simp only [kstB, if_neg e1, if_neg e2, if_neg e3, if_neg e4])
      (case k3 => exact ⟨by dsimp only; omega, by dsimp only; omega, by dsimp only; rw [Str.length_append, len_item]; omega, pl_one p4 (by assumption) (by assumption)⟩)
      (case k4 => dsimp only; omega)
  · exact PassesOwn.never
end
end Mine

-- Gen
namespace Mine
/-- what lay below n -/
def trunc (h : Heap) (n : Nat) : Heap := ⟨h.objs.extract 0 n, h.life⟩
theorem tr_of {h : Heap} {n b : Nat} {o : Obj} (q : (trunc h n).get? b = some o) : h.get? b = some o := by
  unfold trunc Heap.get? at *
  by_cases hb : b < n
  · have e : (h.objs.extract 0 n)[b]? = h.objs[b]? := by
      rw [Array.getElem?_extract]; simp; omega
    dsimp only at q
    rw [e] at q; exact q
  · have e : (h.objs.extract 0 n)[b]? = none := by
      rw [Array.getElem?_eq_none]; simp; omega
    dsimp only at q
    rw [e] at q; cases q
theorem tr_lt {h : Heap} {n b : Nat} {o : Obj} (hb : b < n) (q : h.get? b = some o) : (trunc h n).get? b = some o := by
  unfold trunc Heap.get? at *
  have e : (h.objs.extract 0 n)[b]? = h.objs[b]? := by
    rw [Array.getElem?_extract]; simp; omega
  dsimp only
  rw [e]; exact q
theorem tr_size (h : Heap) (n : Nat) : (trunc h n).objs.size ≤ n := by
  unfold trunc; simp; omega
theorem tr_none {h : Heap} {n b : Nat} (hb : n ≤ b) : (trunc h n).get? b = none := Heap.get?_none_of_le (Nat.le_trans (tr_size h n) hb)
theorem tr_keep {base h : Heap} {n : Nat} (hb : ∀ b o, base.get? b = some o → h.get? b = some o) (hz : base.objs.size ≤ n) : ∀ b o, base.get? b = some o → (trunc h n).get? b = some o :=
  fun b o q => tr_lt (Nat.lt_of_lt_of_le (Heap.lt_size q) hz) (hb b o q)
/-- only heap and marks moved, and what lay below N, and a, stayed -/
def Since (N a : Addr) (s₀ s : Shared) : Prop := ∃ h' tk, s = { s₀ with heap := h', toks := tk } ∧ ∀ b o, (b < N ∨ b = a) → s₀.heap.get? b = some o → h'.get? b = some o
theorem Since.refl (N a : Addr) (s : Shared) : Since N a s s := ⟨s.heap, s.toks, rfl, fun _ _ _ e => e⟩
theorem Since.step {N a : Addr} {s₀ s : Shared} (x : Since N a s₀ s) {h' : Heap} {tk : Nat} (hk : ∀ b o, (b < N ∨ b = a) → s.heap.get? b = some o → h'.get? b = some o) : Since N a s₀ { s with heap := h', toks := tk } := by
  obtain ⟨h₁, tk₁, rfl, hk₁⟩ := x
  exact ⟨h', tk, rfl, fun b o hb e => hk b o hb (hk₁ b o hb e)⟩
/-- what a generator of (place, sign) tells at its end -/
def GR (N a : Addr) : GenEnd := fun n s₀ r s₁ => r = .ok (.ret .none) ∧ (n = 0 ∧ Since N a s₀ s₁)
/-- what it hands out, and what wakes it -/
def GY (g : Heap) (N a : Addr) (x : Str) : Protocol := fun m s₀ v s kap =>
  (∃ (i c : Nat) (T : Addr) (tk u : Tok), i + 1 + m = x.cps.size ∧ x.cps[i]? = some c ∧ v = .ref T ∧ s.heap.get? T = some { cls := .type "tuple", data := .seq #[.int (i : Int) tk, .str ⟨#[c]⟩ u] } ∧ ∀ b o, b < N → s₀.heap.get? b = some o → b ≠ T) ∧
    Since N a s₀ s ∧ (∀ b o, g.get? b = some o → s.heap.get? b = some o) ∧
    ∃ own : List (Addr × Obj), (∀ p ∈ own, N ≤ p.1 ∧ s.heap.get? p.1 = some p.2) ∧ (∃ oa, (a, oa) ∈ own) ∧ ∀ s'' : Shared, (∀ p ∈ own, s''.heap.get? p.1 = some p.2) → (∀ b o, g.get? b = some o → s''.heap.get? b = some o) → kap (.send .none) s''
section
variable {M : Model} {A : Around} {R : GenEnd} {Y : Protocol} {n : Nat} {s₀ : Shared} {c : Code} {fs : List Frame} {s : Shared} {env : Env}
  {K : Flow → Sem Fin} {H : Value → Sem Fin} {gd : Bool → Bool} {lv : List Value → List Value}
theorem seg_If {test : Expr} {body orelse : List Stmt} {pos : Pos}
    (h : wpAny M (A.over c fs) (isTrue test env (eval test env)) (fun b s' => if b = true then Seg M A R Y n s₀ c ((execs body env).wrap K H gd lv) fs s' else Seg M A R Y n s₀ c ((execs orelse env).wrap K H gd lv) fs s') (fun x s' => Seg M A R Y n s₀ c (H x) fs s') s) :
    Seg M A R Y n s₀ c ((exec (.If test body orelse pos) env).wrap K H gd lv) fs s := by
  rw [arm_exec_If]
  refine seg_bind_wrap (wpAny_standAt (seg_bind_wrap (wpAny_mono h (fun b s' hb => ?_) fun _ _ e => e)))
  cases b with
  | true => rw [if_pos rfl] at hb; exact hb
  | false => rw [if_neg Bool.false_ne_true] at hb; exact hb
theorem seg_stmt {st : Stmt} {rest : List Stmt} (h : wpAny M (A.over c fs) (exec st env) (fun f s' => f = .next ∧ Seg M A R Y n s₀ c ((execs rest env).wrap K H gd lv) fs s') (fun x s' => Seg M A R Y n s₀ c (H x) fs s') s) :
    Seg M A R Y n s₀ c ((execs (st :: rest) env).wrap K H gd lv) fs s := by
  refine seg_execs_cons (seg_wrap (wpAny_mono h (fun f s' hf => ?_) fun _ _ e => e))
  obtain ⟨rfl, hf⟩ := hf
  exact hf
end
section
variable {prog : Program} {w : World} {A : Around} {g : Heap} {N a C e : Addr} {wr fp : List Addr} {x : Str} {env : Env} {St : Nat → Heap → Prop} {Mid : Nat → Addr → Heap → Prop} {Pt : Nat → Array Value → Prop}
abbrev GSeg (prog : Program) (w : World) (A : Around) (g : Heap) (N a : Addr) (x : Str) := Seg (model prog w) A (GR N a) (GY g N a x)
/-- the loop of such a generator: its body hands out (place, sign) and goes on -/
theorem gen_for {xi xc : Str} {pi pc pt : Pos} {x1 : Nat} {body : List Stmt} {kk : Result → Sem Fin} {c₁ : Code} {p₁ : Pos} {J : (Str → Option Value) → Prop}
    (hh : A.handled = none) (W : ∀ A' : Around, A'.handled = none → WalksT prog w A' e fp wr x.cps.size Pt St Mid)
    (hPt : ∀ i vals, Pt i vals → ∃ c tk u, x.cps[i]? = some c ∧ vals = #[.int (i : Int) tk, .str ⟨#[c]⟩ u])
    (hne : xi ≠ xc) (hxi : env.kindOf xi = some .local) (hxc : env.kindOf xc = some .local) (hp : (env.scope.kind == .class || (env.scope.kind == .module && env.locals != env.globals)) = false)
    (hC : env.locals = C) (hCf : C ∉ fp) (hgw : ∀ b ∈ wr, g.get? b = none) (hgC : g.objs.size ≤ C) (hNC : N ≤ C) (hCa : C ≠ a) (hNf : ∀ b ∈ fp, N ≤ b ∧ b ≠ a) (hNa : N ≤ a) (oa : Obj) (hlive : ∀ i h, St i h → ∀ b ∈ fp, ∃ o, h.get? b = some o)
    (hJ : ∀ m i tk c u, J m → J (fun y => if y = xc then some (.str ⟨#[c]⟩ u) else if y = xi then some (.int i tk) else m y))
    (turn : ∀ (i c : Nat) (tk u : Tok) (m : Str → Option Value) (n : Nat) (s₀ s : Shared) (Kf : Flow → Sem Fin) (Hf : Value → Sem Fin), x.cps[i]? = some c → n + 1 + i = x.cps.size → J m → m xi = some (.int (i : Int) tk) → m xc = some (.str ⟨#[c]⟩ u) →
      Fr g C s.heap m → Since N a s₀ s → s.heap.get? a = some oa →
      (∀ b ∈ fp, ∃ o, s.heap.get? b = some o) →
      (∀ s'' : Shared, (∀ b ∈ fp, ∀ o, s.heap.get? b = some o → s''.heap.get? b = some o) → s''.heap.Ns C m → s''.heap.get? a = some oa → (∀ b o, g.get? b = some o → s''.heap.get? b = some o) → GSeg prog w A g N a x n s'' (.forLoop (.Tuple [.Name xi pi, .Name xc pc] x1 pt) (.ref e) body [] env) (Kf .next) (.ret kk none false [] c₁ p₁ [] :: []) s'') →
      GSeg prog w A g N a x (n + 1) s₀ (.forLoop (.Tuple [.Name xi pi, .Name xc pc] x1 pt) (.ref e) body [] env) ((execs body env).wrap Kf Hf id id) (.ret kk none false [] c₁ p₁ [] :: []) s)
    (after : ∀ (s₀ s : Shared) (m : Str → Option Value), J m → Fr g C s.heap m → Since N a s₀ s → s.heap.get? a = some oa → GSeg prog w A g N a x 0 s₀ c₁ (kk (.ok .next)) [] s) :
    ∀ (k i : Nat) (s₀ s : Shared) (m : Str → Option Value), x.cps.size - i = k → i ≤ x.cps.size → St i s.heap → J m → Fr g C s.heap m → Since N a s₀ s → s.heap.get? a = some oa →
      GSeg prog w A g N a x (x.cps.size - i) s₀ (.forLoop (.Tuple [.Name xi pi, .Name xc pc] x1 pt) (.ref e) body [] env)
        ((model prog w).den (.forLoop (.Tuple [.Name xi pi, .Name xc pc] x1 pt) (.ref e) body [] env)) (.ret kk none false [] c₁ p₁ [] :: []) s := by
  have hh' : ∀ c fs, (A.over c (.ret kk none false [] c₁ p₁ [] :: fs)).handled = (A.over c fs).handled := fun _ _ => rfl
  have hho : (A.over (.forLoop (.Tuple [.Name xi pi, .Name xc pc] x1 pt) (.ref e) body [] env) (.ret kk none false [] c₁ p₁ [] :: [])).handled = none := hh
  have hCw : C ∉ wr := fun h => hCf ((W A hh).sub _ h)
  have nC : ∀ b, (b < N ∨ b = a) → b ≠ C := fun b hb q => by subst q; rcases hb with hb | hb; exact absurd hNC (Nat.not_le.mpr hb); exact hCa hb
  have nW : ∀ b, (b < N ∨ b = a) → b ∉ wr := fun b hb q => by obtain ⟨q1, q2⟩ := hNf b ((W A hh).sub _ q); rcases hb with hb | hb; exact absurd q1 (Nat.not_le.mpr hb); exact q2 hb
  intro k
  induction k with
  | zero =>
    intro i s₀ s m hk hi hst hj F hsince ha
    have hin : i = x.cps.size := by omega
    subst hin
    rw [Nat.sub_self]
    show Seg _ A _ _ _ s₀ _ ((forTurn (.Tuple [.Name xi pi, .Name xc pc] x1 pt) (.ref e) body [] env).onRaise (fun x => do noteFrame x env; theTreesLotGoes x)) _ s
    rw [Sem.onRaise_eq_wrap]
    unfold forTurn
    refine seg_bind_wrap (wpAny_standAt (seg_bind_wrap (wpAny_onRaise ((W _ hho).done s _ _ hst fun h' tk hk' => ?_))))
    refine seg_again rfl ?_
    show Seg _ A _ _ _ s₀ _ ((model prog w).den (.block [] env)) _ _
    have F' : Fr g C h' m := ⟨F.ns.at' fun o q => hk' _ o hCw q, fun b o q => hk' b o (fun hm => by rw [hgw b hm] at q; cases q) (F.keep b o q), F.above⟩
    refine seg_leaf (.ok .next) ?_
    exact after s₀ { s with heap := h', toks := tk } m hj F' (hsince.step fun b o hb q => hk' b o (nW b hb) q) (hk' a oa (nW a (.inr rfl)) ha)
  | succ k ih =>
    intro i s₀ s m hk hi hst hj F hsince ha
    have hlt : i < x.cps.size := by omega
    have hn : x.cps.size - i = (x.cps.size - (i + 1)) + 1 := by omega
    show Seg _ A _ _ _ s₀ _ ((forTurn (.Tuple [.Name xi pi, .Name xc pc] x1 pt) (.ref e) body [] env).onRaise (fun x => do noteFrame x env; theTreesLotGoes x)) _ s
    rw [Sem.onRaise_eq_wrap]
    unfold forTurn
    refine seg_bind_wrap (wpAny_standAt (seg_bind_wrap (wpAny_onRaise ((W _ hho).item i s _ _ hlt hst fun T vals h₁ tk₁ hP hT hIT hMid hk₁ => ?_))))
    obtain ⟨cc, tk, u, hc, rfl⟩ := hPt i vals hP
    refine seg_bind_wrap ((W _ hho).go _ _ _ i T _ _ _ hMid fun h₂ hst₂ hk₂ => ?_)
    have hTw := (W _ hho).apart i T h₁ hMid
    have hIT₂ : h₂.IsTuple T #[.int (i : Int) tk, .str ⟨#[cc]⟩ u] := by
      obtain ⟨o, ho, r⟩ := hIT
      exact ⟨o, hk₂ T o hTw ho, r⟩
    refine seg_bind_wrap (wpAny_assign_Tuple hho hIT₂ rfl rfl fun h₃ hx₃ => ?_)
    replace hx₃ : Heap.ExtBut h₂.objs.size h₂ h₃ := hx₃
    have up₂ : ∀ b o, b ∉ wr → s.heap.get? b = some o → h₂.get? b = some o := fun b o hb q => hk₂ b o hb (hk₁ b o hb q)
    have old₃ : ∀ b o, h₂.get? b = some o → h₃.get? b = some o := fun b o q => hx₃ b o (Nat.ne_of_lt (Heap.lt_size q)) q
    have hn₃ : h₃.Ns env.locals m := by
      rw [hC]
      exact (F.ns.at' fun o q => up₂ _ o hCw q).at' fun o q => old₃ _ o q
    show wpAny _ _ (do holding [.str ⟨#[cc]⟩ u] (assign (.Name xi pi) env (.int (i : Int) tk)); do holding [] (assign (.Name xc pc) env (.str ⟨#[cc]⟩ u)); pure ()) _ _ _
    refine wpAny_bind (wpAny_holding (wpAny_assign_Name (wpAny_storeName_local hxi hn₃ (fun h₄ hn₄ hs₄ => ?_) hp)))
    replace hs₄ : Heap.SameBut env.locals h₃ h₄ := hs₄
    refine wpAny_bind (wpAny_holding (wpAny_assign_Name (wpAny_storeName_local hxc hn₄ (fun h₅ hn₅ hs₅ => wpAny_pure ?_) hp)))
    replace hs₅ : Heap.SameBut env.locals h₄ h₅ := hs₅
    rw [hC] at hn₅ hs₄ hs₅
    have up₅ : ∀ b o, b ≠ C → h₂.get? b = some o → h₅.get? b = some o := fun b o hb q => hs₅.extBut b o hb (hs₄.extBut b o hb (old₃ b o q))
    have hst₅ : St (i + 1) h₅ := (W A hh).frame _ _ _ hst₂ fun b hb o q => up₅ b o (fun q' => hCf (q' ▸ hb)) q
    have F₅ : Fr g C h₅ (fun y => if y = xc then some (.str ⟨#[cc]⟩ u) else if y = xi then some (.int (i : Int) tk) else m y) :=
      ⟨hn₅, fun b o q => up₅ b o (fun q' => by have := Heap.lt_size q; rw [q'] at this; exact Nat.lt_irrefl _ (Nat.lt_of_lt_of_le this hgC)) (up₂ b o (fun hm => by rw [hgw b hm] at q; cases q) (F.keep b o q)), hgC⟩
    have hs5 : Since N a s₀ { s with heap := h₅, toks := tk₁ + 1 + 1 } := hsince.step fun b o hb q => up₅ b o (nC b hb) (up₂ b o (nW b hb) q)
    rw [hn, Sem.bind_eq_wrap', Sem.wrap_wrap]
    refine turn i cc tk u _ _ s₀ _ _ _ hc (by omega) (hJ _ _ _ _ _ hj) ?_ ?_ F₅ hs5 (up₅ a oa (nC a (.inr rfl)) (up₂ a oa (nW a (.inr rfl)) ha)) (fun b hb => hlive _ _ hst₅ b hb) ?_
    · rw [if_neg hne, if_pos rfl]
    · rw [if_pos rfl]
    · intro s'' hk'' hns'' ha'' hg''
      refine seg_again rfl ?_
      refine ih (i + 1) s'' s'' _ (by omega) (by omega) ?_ (hJ m i tk cc u hj) ?_ (Since.refl _ _ _) ha''
      · exact (W A hh).frame _ _ _ hst₅ fun b hb o q => hk'' b hb o q
      · exact ⟨hns'', hg'', hgC⟩
end
abbrev EPt (x : Str) (i : Nat) (vals : Array Value) : Prop := ∃ t y, (∃ c u, x.cps[i]? = some c ∧ y = .str ⟨#[c]⟩ u) ∧ vals = #[.int (i : Int) t, y]
abbrev ESt (x : Str) (t1 : Tok) (it : Addr) (i : Nat) (h : Heap) : Prop := (∃ old, IsEnum h (it + 1) it i old) ∧ h.IsStrIter it (strIterType x) x t1 i
theorem enumD (prog : Program) (w : World) (x : Str) (t1 : Tok) (it : Addr) (A : Around) (hA : A.handled = none) : Draws prog w A it [it] x.cps.size (fun i v => ∃ c u, x.cps[i]? = some c ∧ v = .str ⟨#[c]⟩ u) (fun i h => h.IsStrIter it (strIterType x) x t1 i) := by
  unfold strIterType
  split
  · exact Draws.strAscii hA it x t1
  · exact Draws.strWide hA it x t1
theorem enumW (prog : Program) (w : World) (x : Str) (t1 : Tok) (it : Addr) (A : Around) (hA : A.handled = none) : WalksT prog w A (it + 1) [it + 1, it] [it + 1, it] x.cps.size (EPt x) (ESt x t1 it)
    (fun i T h => (∃ x, IsEnumOut h (it + 1) it ((i : Int) + 1) x T) ∧ h.IsStrIter it (strIterType x) x t1 (i + 1) ∧ T ≠ it + 1 ∧ T ≠ it) :=
  WalksT.enumerateD (enumD prog w x t1 it A.in1 hA) (it + 1) (Nat.succ_ne_self _) (fun q => Nat.succ_ne_self _ (List.mem_singleton.mp q)) (List.mem_singleton.mpr rfl)
end Mine

-- GenW
namespace Mine
section
variable {prog : Program} {w : World} {A : Around} {s : Shared} {K : Frag} {p : Program} {loose : List Str} {mean : ExcName → Option Value} {mg mb : Str → Option Value} {R : Result → Shared → Prop} {name qual : Str} {params : Arguments} {body : List Stmt} {scope : Scope} {dV kV doc pm cdv ct oc : Value} {an od : Option Addr} {osl : Array (Option Value)} {f : Addr} {args : Args} {binds : List (Str × Value)} {mm : Str → Option Value}
theorem enterG (X : K.In s.heap) (T : Top p loose mean mg mb s.heap)
    (ho : K.lookup f = some ⟨oc, od, .func (fnOf name qual params body scope dV kV doc pm an cdv ct), osl⟩) (hcd : codeIn K cdv qual = true) (hroom : A.depth < recursionLimit)
    (hbind : BindsTo s (fnOf name qual params body scope dV kV doc pm an cdv ct) args binds) (hloc : ∀ y ∈ binds, scope.names.lookup y.1 = some .local)
    (hmm : (fun y => binds.reverse.lookup y) = mm) (hcell : ∀ x ∈ scope.names, x.2 ≠ .cell)
    (h : ∀ L' h₁ tk t1 t2, Fr s.heap L' h₁ mm → L' = s.heap.objs.size → h₁.NoLimit → 
      R (.ok (.ret (.ref h₁.objs.size))) { s with gens := s.gens.push (.fresh (.func body (envOf qual scope L' f cdv))), toks := tk, heap := h₁.push { cls := .type "generator", data := .fields #[.int s.gens.size 0, .str name t1, .str qual t2] } })
    (hco : scope.isCoroutine = false) (hgen : scope.isGenerator = true) (hk : scope.kind = .function) : codeAny (model prog w) A (.call (.ref f) args) R s := by
  subst hmm
  refine codeAny_call_generator (fd := fnOf name qual params body scope dV kV doc pm an cdv ct) (body := body) hroom (X _ _ ho) rfl hco hgen rfl (codeRec_of X hcd) (hbind _ _ _ _ ?_)
  refine wpAny_newFunctionEnv hcell hloc (fun h₀ hns₀ hsb₀ => ?_) hk
  have kp : ∀ b o, s.heap.get? b = some o → h₀.get? b = some o := fun b o e => hsb₀.extBut b o (Nat.ne_of_lt (Heap.lt_size e)) (Heap.get?_push_of_some _ e)
  have nl : h₀.NoLimit := T.nolimit.keeps kp
  exact ⟨nl, h _ h₀ _ _ _ ⟨hns₀, kp, Nat.le_refl _⟩ rfl nl⟩
end
def GA (prog : Program) (w : World) (A : Around) (a : Addr) (g N : Nat) (base : Heap) (x : Str) (j : Nat) (s : Shared) : Prop :=
  s.heap.IsGen a g ∧ ∃ gs, s.gens[g]? = some gs ∧ ∃ own : List (Addr × Obj), (∀ p ∈ own, N ≤ p.1 ∧ s.heap.get? p.1 = some p.2) ∧ ∀ (s'' : Shared), (∀ p ∈ own, s''.heap.get? p.1 = some p.2) → (∀ b o, base.get? b = some o → s''.heap.get? b = some o) →
    gs.Goes (model prog w) A (GR N a) (GY base N a x) (x.cps.size - j) (.send .none) s''
theorem bs_no {c : Nat} (h : c ≠ 92) : (({ cps := #[c] } : Str) == Str.ofString "\\") = false := by
  rw [show Str.ofString "\\" = ({ cps := #[92] } : Str) by decide +kernel]
  apply beq_false_of_ne
  intro e
  apply h
  injection e with e
  have e2 := congrArg (fun a : Array Nat => a.toList) e
  simpa using e2
theorem gen_ctx {K : Frag} {base h : Heap} {C a n : Addr} {oa : Obj} {m : Str → Option Value} {p : Program} {loose : List Str} {mean : ExcName → Option Value} {mg mb : Str → Option Value} (Xb : K.In base) (Tb : Top p loose mean mg mb base) (hbz : base.objs.size ≤ n)
    (F : Fr base C h m) (ha : h.get? a = some oa) (hnC : n ≤ C) (hCa : C < a) : ∃ g, trunc h n = g ∧ Fr g C h m ∧ News g C h [(a, oa)] ∧ K.In g ∧ Top p loose mean mg mb g := by
  have kB := tr_keep (n := n) F.keep hbz
  refine ⟨_, rfl, ⟨F.ns, fun b o q => tr_of q, Nat.le_trans (tr_size _ _) hnC⟩, fun p hp => ?_, fun b o q => kB b o (Xb b o q), Tb.keeps kB⟩
  rw [List.mem_singleton.mp hp]
  exact ⟨ha, Nat.ne_of_gt hCa, tr_none (Nat.le_of_lt (Nat.lt_of_le_of_lt hnC hCa))⟩
theorem gen_kept {g h h' : Heap} {C a n : Addr} {oa : Obj} {m : Str → Option Value} (hg : trunc h n = g) (F : Fr g C h' m) (ha : h.get? a = some oa) (ha' : h'.get? a = some oa) : ∀ b o, (b < n ∨ b = a) → h.get? b = some o → h'.get? b = some o := by
  subst hg
  rintro b o (hb | rfl) q
  · exact F.keep b o (tr_lt hb q)
  · rw [ha] at q; cases q; exact ha'
theorem gen_news {g h : Heap} {C a it n : Addr} {oa oe oi : Obj} (hg : trunc h n = g) (N : News g C h [(a, oa)]) (hnC : n ≤ C) (hC : C < it) (he : h.get? (it + 1) = some oe) (hi : h.get? it = some oi) : News g C h [(it + 1, oe), (it, oi), (a, oa)] := by
  subst hg
  have hni : n ≤ it := Nat.le_of_lt (Nat.lt_of_le_of_lt hnC hC)
  intro p hp
  rcases List.mem_cons.mp hp with rfl | hp
  · exact ⟨he, Nat.ne_of_gt (Nat.lt_succ_of_lt hC), tr_none (Nat.le_succ_of_le hni)⟩
  rcases List.mem_cons.mp hp with rfl | hp
  · exact ⟨hi, Nat.ne_of_gt hC, tr_none hni⟩
  · exact N p hp
theorem since_lt {N a : Addr} {s₀ s : Shared} (x : Since N a s₀ s) {b : Addr} {o : Obj} (hb : b < N) (q : s₀.heap.get? b = some o) : s.heap.get? b = some o := by
  obtain ⟨h', tk, rfl, k⟩ := x
  exact k b o (.inl hb) q
theorem gen_apart {g h : Heap} {n D b : Addr} {o : Obj} (hg : trunc h n = g) (hn : g.get? D = none) (q : h.get? b = some o) (hb : b < n) : b ≠ D := by
  subst hg
  rintro rfl
  rw [tr_lt hb q] at hn; cases hn
theorem own_two {h : Heap} {C a n : Addr} {oC oa : Obj} (h1 : h.get? C = some oC) (h2 : h.get? a = some oa) (z1 : n ≤ C) (z2 : n ≤ a) : ∀ p ∈ [(C, oC), (a, oa)], n ≤ p.1 ∧ h.get? p.1 = some p.2 := by
  intro p hp
  rcases List.mem_cons.mp hp with rfl | hp
  · exact ⟨z1, h1⟩
  · rw [List.mem_singleton.mp hp]; exact ⟨z2, h2⟩
theorem own_four {h : Heap} {C it a n : Addr} {oC oi oe oa : Obj} (h1 : h.get? C = some oC) (h2 : h.get? it = some oi) (h3 : h.get? (it + 1) = some oe) (h4 : h.get? a = some oa) (z1 : n ≤ C) (z2 : n ≤ it) (z4 : n ≤ a) :
    ∀ p ∈ [(C, oC), (it, oi), (it + 1, oe), (a, oa)], n ≤ p.1 ∧ h.get? p.1 = some p.2 := by
  intro p hp
  rcases List.mem_cons.mp hp with rfl | hp
  · exact ⟨z1, h1⟩
  rcases List.mem_cons.mp hp with rfl | hp
  · exact ⟨z2, h2⟩
  rcases List.mem_cons.mp hp with rfl | hp
  · exact ⟨Nat.le_succ_of_le z2, h3⟩
  · rw [List.mem_singleton.mp hp]; exact ⟨z4, h4⟩
theorem at3_eq {m : Str → Option Value} {x y z : Str} {a b c : Value} (ha : m x = some a) (hb : m y = some b) (hc : m z = some c) : m = fun n => List.lookup n [(x, a), (y, b), (z, c)] <|> m n := by
  funext n
  by_cases q1 : n = x
  · subst q1; simp [List.lookup, ha]
  · by_cases q2 : n = y
    · subst q2; simp [List.lookup, hb, beq_eq_false_iff_ne.mpr q1]
    · by_cases q3 : n = z
      · subst q3; simp [List.lookup, hc, beq_eq_false_iff_ne.mpr q1, beq_eq_false_iff_ne.mpr q2]
      · simp [List.lookup, beq_eq_false_iff_ne.mpr q1, beq_eq_false_iff_ne.mpr q2, beq_eq_false_iff_ne.mpr q3]
theorem b_gen (w : World) (mean : ExcName → Option Value) (mg mb : Str → Option Value) (dp un : Nat) (fr : Option (List Env)) (gd : Option (List Code)) (s : Shared) (R : Result → Shared → Prop)
    (base : Heap) (x : Str) (t1 : Tok) : (hd.heap_39 w.params).In base → Top hd.view_39 (looseW hd.view_39 []) mean mg mb base → (∀ b o, base.get? b = some o → s.heap.get? b = some o) → base.objs.size ≤ s.heap.objs.size → dp + 5 < recursionLimit → un + 40 < cLine →
    (∀ c ∈ x.cps.toList, c ≠ 92) →
    (∀ (a : Addr) (h' : Heap) (tk' : Nat) gs, (∀ b o, s.heap.get? b = some o → h'.get? b = some o) → s.heap.get? a = none →
      (∀ A : Around, A.handled = none → GA PySem.Challenge.rw_tr0022_01.row.prog w A a s.gens.size s.heap.objs.size base x 0 { s with heap := h', toks := tk', gens := s.gens.push gs }) → R (.ok (.ret (.ref a))) { s with heap := h', toks := tk', gens := s.gens.push gs }) →
    codeAny (model PySem.Challenge.rw_tr0022_01.row.prog w) (AA dp un fr gd) (.call (.ref 35) ⟨[.str x t1], []⟩) R s := by
  w_top off
  k_fill
  intro Xb Tb kb hbz h1 h2 hx hret
  have X : Frag.In _ s.heap := fun b o e => kb b o (Xb b o e)
  have T := Tb.keeps kb
  k_dflt (refine' enterG (mm := fun y => List.lookup y [("addr", .str x t1)]) X T ?k6 ?k7 ?k8 ?k9 ?kB ?kM ?c5 ?_ ?c2 ?c3 ?c4; (case k6 => k_is); (case k7 => k_is); (case k8 => show dp < _; omega); (case k9 => exact BindsTo.of_eq rfl); (case c5 => decide); (case kB => exact locs rfl); (case kM => exact rfl); (case c2 => exact rfl); (case c3 => exact rfl); (case c4 => exact rfl); k_whole; intro L' h' tk' u1 u2 F' hL' hl')
  have haN : s.heap.objs.size ≤ L' := by rw [hL']; exact Nat.le_refl _
  have hLa : L' < h'.objs.size := let ⟨o, _, _, q, _⟩ := F'.ns; Heap.lt_size q
  have hbs : base.objs.size ≤ L' := Nat.le_trans hbz haN
  refine hret _ _ _ _ (fun b o q => Heap.get?_push_of_some _ (F'.keep b o q)) ?_ ?_
  · exact Heap.get?_none_of_le (Nat.le_of_lt (Nat.lt_of_le_of_lt haN hLa))
  intro A hA
  obtain ⟨oC, hoC⟩ : ∃ o, h'.get? L' = some o := let ⟨o, _, _, q, _⟩ := F'.ns; ⟨o, q⟩
  refine ⟨⟨_, _, _, Heap.get?_push_size _ rfl, rfl, rfl, rfl⟩, _, Array.getElem?_push_size, _, own_two (Heap.get?_push_of_some _ hoC) (Heap.get?_push_size _ rfl) haN (Nat.le_of_lt (Nat.lt_of_le_of_lt haN hLa)), ?_⟩
  intro s'' hN hb
  refine ⟨rfl, seg_func ?_⟩
  have kB := tr_keep (n := s.heap.objs.size) hb hbz
  have hga : s''.heap.get? h'.objs.size = some _ := hN _ (List.mem_cons_of_mem _ List.mem_cons_self)
  have ha₂ : h'.objs.size < s''.heap.objs.size := Heap.lt_size hga
  have hns₂ : s''.heap.Ns L' (fun y => List.lookup y [(Str.ofString "addr", .str x t1)]) := F'.ns.at' fun o q => by rw [hoC] at q; cases q; exact hN _ List.mem_cons_self
  clear X T F' hret hN hl'
  generalize h'.objs.size = a at *
  generalize ({ cls := Value.type "generator", data := _ } : Obj) = oa at *
  generalize hgg : trunc s''.heap s.heap.objs.size = g at *
  have X₂ : (hd.heap_39 w.params).In g := fun b o q => kB b o (Xb b o q)
  have T₂ := Tb.keeps kB
  have F₂ : Fr g L' s''.heap (fun y => List.lookup y [(Str.ofString "addr", .str x t1)]) := ⟨hns₂, fun b o q => by subst hgg; exact tr_of q, by subst hgg; exact Nat.le_trans (tr_size _ _) haN⟩
  have N₂ : News g L' s''.heap [(a, oa)] := fun p hp => by
    rw [List.mem_singleton.mp hp]
    exact ⟨hga, Nat.ne_of_gt hLa, by subst hgg; exact tr_none (Nat.le_of_lt (Nat.lt_of_le_of_lt haN hLa))⟩
  clear kb
  refine seg_stmt ?_
  k_steps
  refine seg_stmt ?_
  k_steps
  refine seg_execs_cons ?_
  rw [arm_exec_For]
  refine seg_bind_wrap (wpAny_standAt (seg_bind_wrap ?_))
  k_steps
  refine call_enumerate_str fun h₁ hen hit hsz hk₁ => ?_
  have hF := (by assumption : Fr g L' _ _)
  have hN := (by assumption : News g L' _ _)
  obtain ⟨hgh, -, hgn⟩ := hN _ List.mem_cons_self
  dsimp only at hgh hgn hen hit hsz hk₁ ⊢
  have hit_lt := Heap.lt_size hgh
  have hLit := hF.ns.lt
  generalize Array.size _ = it at hit_lt hen hit hLit ⊢
  have F₁ := hF.grownK hk₁
  have hga₁ := hk₁ _ _ hgh
  clear hF hN hsz hk₁ hgh
  refine seg_bind_wrap (wpAny_of_eq (show foldedSetIterable _ _ _ = pure _ from rfl) ?_)
  refine seg_bind_wrap (wpAny_standAt ?_)
  refine seg_bind_wrap (wpAny_holding ((enumW _ w x t1 it _ ?hA0).self 0 _ _ _ ⟨⟨_, hen⟩, hit⟩ ?_))
  case hA0 => exact hA
  refine seg_call fun pp => ?_
  have hz : s.heap.objs.size ≤ a := Nat.le_of_lt (Nat.lt_of_le_of_lt haN hLa)
  have hkb : ∀ b o, base.get? b = some o → h₁.get? b = some o := fun b o q => F₁.keep b o (kB b o q)
  have e2 : Fr base L' h₁ _ := ⟨F₁.ns, hkb, hbs⟩
  refine gen_for (g := base) (C := L') (wr := [it + 1, it]) (fp := [it + 1, it]) (oa := oa) (J := fun m => m (Str.ofString "escape") = some (.bool false)) hA (fun A' hA' => enumW _ w x t1 it A' hA') ?pt ?n1 ?n2 ?n3 ?n4 ?n5 ?n6 ?n7 ?n8 ?n9 ?n10 ?n11 ?n12 ?n14 ?n13 ?turn ?after _ 0 _ _ _ rfl (Nat.zero_le _) ⟨⟨_, hen⟩, hit⟩ ?e1 e2 ?e3 hga₁
  case pt => rintro i vals ⟨tk, y, ⟨c, u, hc, rfl⟩, rfl⟩; exact ⟨c, tk, u, hc, rfl⟩
  case n1 => decide
  case n2 => rfl
  case n3 => rfl
  case n4 => rfl
  case n5 => rfl
  case n6 => intro q; rcases List.mem_cons.mp q with q | q; exact absurd q (Nat.ne_of_lt (Nat.lt_succ_of_lt hLit)); exact absurd (List.mem_singleton.mp q) (Nat.ne_of_lt hLit)
  case n7 =>
    have hbi : base.objs.size ≤ it := Nat.le_of_lt (Nat.lt_of_le_of_lt hbs hLit)
    intro b hb'
    rcases List.mem_cons.mp hb' with rfl | hb'
    · exact Heap.get?_none_of_le (Nat.le_succ_of_le hbi)
    · rw [List.mem_singleton.mp hb']; exact Heap.get?_none_of_le hbi
  case n8 => exact hbs
  case n9 => exact haN
  case n10 => exact Nat.ne_of_lt hLa
  case n11 =>
    have hzi : s.heap.objs.size ≤ it := Nat.le_of_lt (Nat.lt_of_le_of_lt hz hit_lt)
    intro b hb'
    rcases List.mem_cons.mp hb' with rfl | hb'
    · exact ⟨Nat.le_succ_of_le hzi, Nat.ne_of_gt (Nat.lt_succ_of_lt hit_lt)⟩
    · rw [List.mem_singleton.mp hb']; exact ⟨hzi, Nat.ne_of_gt hit_lt⟩
  case n12 => exact hz
  case n14 =>
    rintro i h ⟨⟨old, he⟩, ⟨o, ho, -⟩⟩ b hb'
    rcases List.mem_cons.mp hb' with rfl | hb'
    · exact ⟨_, he⟩
    · rw [List.mem_singleton.mp hb']; exact ⟨o, ho⟩
  case n13 => intro m i tk c u hm; show (if _ then _ else if _ then _ else _) = _; rw [if_neg (by decide), if_neg (by decide)]; exact hm
  case e1 => rfl
  case e3 => exact (Since.refl _ _ _).step (gen_kept hgg F₁ hga hga₁)
  case after =>
    clear F₁ e2 hga₁ hkb hen hit T₂ X₂ hgg hgn kB hga ha₂ hns₂ hb
    intro s₀ s m hj Fm hsin hga
    obtain ⟨g, hgg, F, N, X, T⟩ := gen_ctx Xb Tb hbz Fm hga haN hLa
    show Seg _ A _ _ _ s₀ _ ((execs [_] _).wrap _ _ _ _) [] s
    refine seg_execs_cons (seg_If ?_)
    rw [at3_eq hj hj hj] at F
    k_steps
    exact seg_execs_nil (seg_execs_nil (seg_end (.ok (.ret .none)) ⟨rfl, rfl, hsin⟩))
  case turn =>
    clear F₁ e2 hga₁ hkb hen hit T₂ X₂ hgg hgn kB hga ha₂ hns₂ hb
    intro i c tk u m n s₀ s Kf Hf hc hn hj hm1 hm2 Fm hsin hga hlv next
    obtain ⟨g, hgg, F, N, X, T⟩ := gen_ctx Xb Tb hbz Fm hga haN hLa
    obtain ⟨oe, hoe⟩ := hlv (it + 1) List.mem_cons_self
    obtain ⟨oi, hoi⟩ := hlv it (List.mem_cons_of_mem _ List.mem_cons_self)
    have N := gen_news hgg N haN hLit hoe hoi
    have hkg : ∀ b o, base.get? b = some o → g.get? b = some o := by subst hgg; exact tr_keep Fm.keep hbz
    refine seg_execs_cons (seg_If ?_)
    rw [at3_eq hj hm1 hm2] at F
    k_steps
    refine seg_execs_cons (seg_If ?_)
    have hcq := bs_no (hx c (List.mem_of_getElem? (by simpa using hc : x.cps.toList[i]? = some c)))
    k_steps
    refine seg_execs_cons (seg_Expr_Yield rfl rfl rfl ?_)
    k_steps
    rename_i go
    have hF := (by assumption : Fr g L' _ _)
    have hN := (by assumption : News g L' _ _)
    rw [← at3_eq hj hm1 hm2] at hF
    obtain ⟨hgD, hDL, hDn⟩ := hN _ List.mem_cons_self
    have h1' := (hN (it + 1, oe) (by simp)).1
    have h2' := (hN (it, oi) (by simp)).1
    have h3' := (hN (a, oa) (by simp)).1
    obtain ⟨oC, hoC⟩ : ∃ o, Heap.get? _ L' = some o := let ⟨o, _, _, q, _⟩ := hF.ns; ⟨o, q⟩
    refine ⟨⟨i, c, _, tk, u, by omega, hc, rfl, hgD, fun b o hb' q q2 => gen_apart hgg hDn (since_lt hsin hb' q) hb' q2⟩, hsin.step (gen_kept hgg hF hga h3'), fun b o q => hF.keep b o (hkg b o q), _,
      own_four hoC h2' h1' h3' haN (Nat.le_of_lt (Nat.lt_of_le_of_lt haN hLit)) hz, ⟨oa, by simp⟩, fun s'' q1 q2 => go .none s'' (next s'' ?_ ?_ ?_ q2)⟩
    · intro b hb' o q
      rcases List.mem_cons.mp hb' with rfl | hb'
      · rw [hoe] at q; cases q
        exact q1 (it + 1, oe) (by simp)
      · rw [List.mem_singleton.mp hb'] at q ⊢
        rw [hoi] at q; cases q
        exact q1 (it, oi) (by simp)
    · exact hF.ns.at' fun o q => by rw [hoC] at q; cases q; exact q1 (L', oC) (by simp)
    · exact q1 (a, oa) (by simp)
end Mine

-- Strip
namespace Mine
def sstep (x : Str) (st : Int × Option Int × List Str) (i c : Nat) : Int × Option Int × List Str :=
  if c = 34 then
    match st.2.1 with
    | none => (st.1, some (i : Int), st.2.2)
    | some p => ((i : Int) + 1, none, if st.1 ≠ p then st.2.2 ++ [Txt.slice x (some st.1) (some p)] else st.2.2)
  else st
def sfold (x : Str) : Nat → Int × Option Int × List Str
  | 0 => (0, none, [])
  | i + 1 => sstep x (sfold x i) i (x.cps.getD i 0)
def stripL (x : Str) : List Str := if (sfold x x.cps.size).1 < (x.length : Int) then (sfold x x.cps.size).2.2 ++ [Txt.slice x (some (sfold x x.cps.size).1) none] else (sfold x x.cps.size).2.2
/-- what _strip_quoted_realnames hands back -/
def stripS (x : Str) : Str := if (Builtin.Str.occurrences x (Str.ofString "\"") 0 x.length 1).isEmpty = true then x else Txt.join (Str.ofString "") (stripL x)
def OpIs : Option Int → Value → Prop
  | none, v => v = .none
  | some p, v => ∃ t, v = .int p t
theorem at_around {M : Model} {A : Around} {c : Code} {R : Result → Shared → Prop} {s : Shared} (h : ∀ A0, A0 = A → codeAny M A c R s) : codeAny M A c R s := h A rfl
theorem go_gen {prog : Program} {w : World} {A : Around} {E : Value → Shared → Prop} {s : Shared} {elts : List Expr} {x1} {pos : Pos} {a T : Addr} {g : Nat} {Q : Unit → Shared → Prop} (hg : s.heap.IsGen a g) (hQ : Q () s) :
    wpAny (model prog w) A (letOwnedTupleGo (.Tuple elts x1 pos) (.ref a) (.ref T)) Q E s := by
  obtain ⟨o, nm, qn, ho, hc, hd, hsl⟩ := hg
  unfold letOwnedTupleGo
  refine wpAny_bind (wpAny_load ho ?_)
  rw [hc, hd]
  show wpAny _ A (if (["enumerate", "zip", "dict_itemiterator", "dict_reverseitemiterator", "odict_iterator", "itertools.zip_longest", "itertools.pairwise"].contains "generator" &&
      (#[.int g 0, nm, qn] : Array Value)[0]? == some (rawInt T)) = true then _ else _) Q E s
  rw [if_neg (by
    intro h
    rw [show (["enumerate", "zip", "dict_itemiterator", "dict_reverseitemiterator", "odict_iterator", "itertools.zip_longest", "itertools.pairwise"].contains "generator") = false from by decide, Bool.false_and] at h
    cases h)]
  exact wpAny_pure hQ
def SI (w : World) (A : Around) (a : Addr) (N : Nat) (s : Shared) (L' D : Addr) (x : Str) (t1 : Tok) (i : Nat) (s' : Shared) : Prop :=
  ∃ (m : Str → Option Value) (its : Array Value) (n : Nat) (t2 : Tok) (ov : Value), Fr s.heap L' s'.heap m ∧ News s.heap L' s'.heap [(D, W.listOf its n)] ∧ GA PySem.Challenge.rw_tr0022_01.row.prog w A a s.gens.size N s.heap x i s' ∧
    (∃ h' tk gs, s' = { s with heap := h', toks := tk, gens := s.gens.push gs }) ∧ L' < N ∧ D < N ∧ s.heap.objs.size ≤ N ∧
    m (Str.ofString "addr") = some (.str x t1) ∧ m (Str.ofString "start") = some (.int (sfold x i).1 t2) ∧ m (Str.ofString "open_pos") = some ov ∧ OpIs (sfold x i).2.1 ov ∧ m (Str.ofString "result") = some (.ref D) ∧
    StrsAre its.toList (sfold x i).2.2 ∧ its.size ≤ i
def LoopI (w : World) (A : Around) (a : Addr) (N : Nat) (s : Shared) (L' D : Addr) (x : Str) (t1 : Tok) (k : Nat) (s' : Shared) : Prop := ∃ i, k = x.cps.size + 1 - i ∧ i ≤ x.cps.size ∧ SI w A a N s L' D x t1 i s'
def Turned (I : Nat → Shared → Prop) (n : Nat) (B : Shared → Prop) (V : Value → Shared → Prop) (f : Flow) (s₃ : Shared) : Prop := match f with
  | .next | .cont => ∃ m, m < n ∧ I m s₃
  | .brk => B s₃
  | .ret v => V v s₃
theorem body_held {M : Model} {A : Around} {env : Env} {target : Expr} {v : Value} {body : List Stmt} {I : Nat → Shared → Prop} {n : Nat} {B : Shared → Prop} {V : Value → Shared → Prop} {E E' : Value → Shared → Prop} {s : Shared}
    (h : wpAny M A (assign target env v) (fun _ s₂ => wpAny M A (execs body env) (fun f s₃ => Turned I n B V f s₃) E s₂) E' s) :
    wpAny M A (assign target env v) (fun _ s₂ => wpAny M A (execs body env) (fun f s₃ => match f with
      | .next | .cont => ∃ m, m < n ∧ I m s₃
      | .brk => B s₃
      | .ret v => V v s₃) E s₂) E' s := h
theorem atL_eq {m : Str → Option Value} {l : List (Str × Value)} (h : ∀ p ∈ l, m p.1 = some p.2) : m = fun n => l.lookup n <|> m n := by
  funext n
  induction l with
  | nil => rfl
  | cons p l ih =>
    obtain ⟨y, v⟩ := p
    have ih := ih fun p hp => h p (List.mem_cons_of_mem _ hp)
    by_cases q : n = y
    · subst q
      have := h _ List.mem_cons_self
      simp only [List.lookup, beq_self_eq_true]
      exact this
    · simp only [List.lookup, beq_eq_false_iff_ne.mpr q]
      exact ih
theorem all4 {m : Str → Option Value} {x y z u : Str} {a b c d : Value} (h1 : m x = some a) (h2 : m y = some b) (h3 : m z = some c) (h4 : m u = some d) : ∀ p ∈ [(x, a), (y, b), (z, c), (u, d)], m p.1 = some p.2 := by
  intro p hp
  simp only [List.mem_cons, List.not_mem_nil, or_false] at hp
  rcases hp with rfl | rfl | rfl | rfl <;> assumption
theorem strip_news {g h h2 : Heap} {L D T a n : Addr} {oD oT : Obj} {own : List (Addr × Obj)} (N : News g L h [(D, oD)]) (hk : ∀ b o, (b < n ∨ b = a) → h.get? b = some o → h2.get? b = some o) (hD : D < n) (hT : h2.get? T = some oT) (hTL : T ≠ L) (hTg : ∀ o, g.get? T = some o → False)
    (hown : ∀ p ∈ own, n ≤ p.1 ∧ h2.get? p.1 = some p.2) (hL : L < n) (hg : g.objs.size ≤ n) : News g L h2 ((T, oT) :: (D, oD) :: own) := by
  intro p hp
  rcases List.mem_cons.mp hp with rfl | hp
  · refine ⟨hT, hTL, ?_⟩
    cases q : g.get? T with
    | none => rfl
    | some o => exact (hTg o q).elim
  rcases List.mem_cons.mp hp with rfl | hp
  · obtain ⟨q1, q2, q3⟩ := N _ List.mem_cons_self
    exact ⟨hk _ _ (.inl hD) q1, q2, q3⟩
  · obtain ⟨q1, q2⟩ := hown p hp
    exact ⟨q2, Nat.ne_of_gt (Nat.lt_of_lt_of_le hL q1), Heap.get?_none_of_le (Nat.le_trans hg q1)⟩
theorem set_two {s : Shared} {h1 h2 : Heap} {t1 t2 : Nat} {g1 g2 g3 : GenState} :
    Shared.setGen { heap := h2, gens := (Shared.setGen { heap := h1, gens := s.gens.push g1, drawn := s.drawn, toks := t1, os := s.os } s.gens.size g2).gens, drawn := (Shared.setGen { heap := h1, gens := s.gens.push g1, drawn := s.drawn, toks := t1, os := s.os } s.gens.size g2).drawn, toks := t2, os := (Shared.setGen { heap := h1, gens := s.gens.push g1, drawn := s.drawn, toks := t1, os := s.os } s.gens.size g2).os } s.gens.size g3 = { s with heap := h2, toks := t2, gens := s.gens.push g3 } := by
  have e : (s.gens.push g1).setIfInBounds s.gens.size g3 = s.gens.push g3 := by
    apply Array.ext_getElem?
    intro i
    by_cases q : i = s.gens.size
    · subst q; simp
    · simp [Array.getElem?_push, Ne.symm q, q]
  simp [Shared.setGen, e]
theorem strip_next {w : World} {A : Around} {a : Addr} {n0 : Nat} {s : Shared} {L' D TT : Addr} {x : Str} {t1 t2 : Tok} {i mm : Nat} {B : Shared → Prop} {V : Value → Shared → Prop} {h2 h' : Heap} {tk' : Nat} {gs' : GenState} {m : Str → Option Value} {its : Array Value} {n : Nat} {oT oa : Obj} {own2 : List (Addr × Obj)}
    {st : Int} {op : Option Int} {ls : List Str} {ov : Value} (F : Fr s.heap L' h' m) (N : News s.heap L' h' ((TT, oT) :: (D, W.listOf its n) :: own2)) (hg2 : h2.IsGen a s.gens.size) (hoa : (a, oa) ∈ own2)
    (hown2 : ∀ p ∈ own2, n0 ≤ p.1 ∧ h2.get? p.1 = some p.2)
    (hkap : ∀ s'' : Shared, (∀ p ∈ own2, s''.heap.get? p.1 = some p.2) → (∀ b o, s.heap.get? b = some o → s''.heap.get? b = some o) → GenState.Goes (model PySem.Challenge.rw_tr0022_01.row.prog w) A (GR n0 a) (GY s.heap n0 a x) mm gs' (.send .none) s'')
    (hlt : i < x.cps.size) (hmm : x.cps.size - i = mm + 1) (hLN : L' < n0) (hDN : D < n0) (hbN : s.heap.objs.size ≤ n0)
    (hs : sfold x (i + 1) = (st, op, ls)) (hm1 : m (Str.ofString "addr") = some (.str x t1)) (hm2 : m (Str.ofString "start") = some (.int st t2)) (hm3 : m (Str.ofString "open_pos") = some ov) (hop : OpIs op ov) (hm4 : m (Str.ofString "result") = some (.ref D))
    (hst : StrsAre its.toList ls) (hsz : its.size ≤ i + 1) :
    Turned (LoopI w A a n0 s L' D x t1) (x.cps.size + 1 - i) B V .next { s with heap := h', toks := tk', gens := s.gens.push gs' } := by
  have hN : ∀ p ∈ own2, h'.get? p.1 = some p.2 := fun p hp => (N p (List.mem_cons_of_mem _ (List.mem_cons_of_mem _ hp))).1
  have hDn := N (D, W.listOf its n) (List.mem_cons_of_mem _ List.mem_cons_self)
  refine ⟨x.cps.size + 1 - (i + 1), by omega, i + 1, rfl, hlt, m, its, n, t2, ov, F, fun p hp => by rw [List.mem_singleton.mp hp]; exact hDn, ⟨?_, gs', Array.getElem?_push_size, own2, fun p hp => ⟨(hown2 p hp).1, hN p hp⟩, fun s'' k1 k2 => ?_⟩, ⟨h', tk', gs', rfl⟩, hLN, hDN, hbN, hm1, by rw [hs]; exact hm2, hm3, by rw [hs]; exact hop, hm4, by rw [hs]; exact hst, hsz⟩
  · obtain ⟨o, nm, qn, ho, r⟩ := hg2
    have e : o = oa := by
      have := (hown2 _ hoa).2
      dsimp only at this
      rw [ho] at this; exact Option.some.inj this
    subst e
    exact ⟨o, nm, qn, hN _ hoa, r⟩
  · have := hkap s'' k1 k2
    rw [show x.cps.size - (i + 1) = mm by omega]
    exact this
theorem cq {c : Nat} (h : (({ cps := #[c] } : Str) == Str.ofString "\"") = true) : c = 34 := by
  rw [show Str.ofString "\"" = ({ cps := #[34] } : Str) by decide +kernel] at h
  have e := eq_of_beq h
  injection e with e
  have e2 := congrArg (fun a : Array Nat => a.toList) e
  simpa using e2
theorem cqn {c : Nat} (h : (({ cps := #[c] } : Str) == Str.ofString "\"") = false) : c ≠ 34 := by
  rintro rfl
  rw [show (({ cps := #[34] } : Str) == Str.ofString "\"") = true by decide +kernel] at h
  cases h
theorem sf_suc {x : Str} {i c : Nat} (hc : x.cps[i]? = some c) : sfold x (i + 1) = sstep x (sfold x i) i c := by
  rw [sfold, Array.getD_eq_getD_getElem?, hc]; rfl
theorem sf_open {x : Str} {i c : Nat} (hc : x.cps[i]? = some c) (h : c = 34) (ho : (sfold x i).2.1 = none) : sfold x (i + 1) = ((sfold x i).1, some (i : Int), (sfold x i).2.2) := by
  rw [sf_suc hc, sstep, if_pos h, ho]
theorem sf_stay {x : Str} {i c : Nat} (hc : x.cps[i]? = some c) (h : c ≠ 34) {o : Option Int} (ho : (sfold x i).2.1 = o) : sfold x (i + 1) = ((sfold x i).1, o, (sfold x i).2.2) := by
  rw [sf_suc hc, sstep, if_neg h, ← ho]
theorem sf_cut {x : Str} {i c : Nat} (hc : x.cps[i]? = some c) (h : c = 34) {p : Int} (ho : (sfold x i).2.1 = some p) (hn : (sfold x i).1 ≠ p) : sfold x (i + 1) = ((i : Int) + 1, none, (sfold x i).2.2 ++ [Txt.slice x (some (sfold x i).1) (some p)]) := by
  rw [sf_suc hc, sstep, if_pos h, ho]
  simp only [if_pos hn]
theorem sf_skip {x : Str} {i c : Nat} (hc : x.cps[i]? = some c) (h : c = 34) {p : Int} (ho : (sfold x i).2.1 = some p) (hn : (sfold x i).1 = p) : sfold x (i + 1) = ((i : Int) + 1, none, (sfold x i).2.2) := by
  rw [sf_suc hc, sstep, if_pos h, ho]
  simp only [hn, ne_eq, not_true_eq_false, if_false]
theorem append_mid {prog : Program} {w : World} {A : Around} {E : Value → Shared → Prop} {s : Shared} {h₀ : Heap} {L D : Addr} {m : Str → Option Value} {p0 : Addr × Obj} {own : List (Addr × Obj)} {its : Array Value} {n : Nat} {x : Value} {Q : Value → Shared → Prop}
    (F : Fr h₀ L s.heap m) (N : News h₀ L s.heap (p0 :: (D, W.listOf its n) :: own)) (a : p0.1 ≠ D) (b : ∀ p ∈ own, p.1 ≠ D) (hsz : its.size ≤ sizeLine)
    (h : ∀ h', Fr h₀ L h' m → News h₀ L h' (p0 :: (D, W.listOf (its.push x) (n + 1)) :: own) → Q .none { s with heap := h' }) : wpAny (model prog w) A (call (.builtin "list.append") [.ref D, x]) Q E s := by
  have z := N (D, W.listOf its n) (List.mem_cons_of_mem _ List.mem_cons_self)
  exact append_at (hsz := hsz) z.1 fun h' hs ho' => h h' (F.change hs z.2.1 z.2.2) (news_set (pre := [p0]) (post := own) N (fun p hp => by rw [List.mem_singleton.mp hp]; exact a) b hs ho')
theorem strsAre_push {its : Array Value} {ls : List Str} {y : Str} {t : Tok} (h : StrsAre its.toList ls) : StrsAre (its.push (.str y t)).toList (ls ++ [y]) := by
  rw [Array.toList_push]
  generalize its.toList = l at h
  induction h with
  | nil => exact .cons _ _ .nil
  | cons z u _ ih => exact .cons z u ih
theorem sf_ne {a b : Int} (h : ¬ a = b) : a ≠ b := h
theorem sf_eq {a b : Int} (h : a = b) : a = b := h
theorem sf_sum (x : Str) : ∀ i, ((sfold x i).2.2.map (·.length)).sum ≤ i * x.length
  | 0 => Nat.le_of_eq (by simp [sfold])
  | i + 1 => by
    have ih := sf_sum x i
    rw [Nat.succ_mul]
    show ((sstep x (sfold x i) i (x.cps.getD i 0)).2.2.map (·.length)).sum ≤ _
    unfold sstep
    split
    · split
      · exact Nat.le_trans ih (Nat.le_add_right _ _)
      · dsimp only
        split
        · have := Txt.slice_le x (some (sfold x i).1) (some ‹Int›)
          rw [List.map_append, List.sum_append]
          simp only [List.map_cons, List.map_nil, List.sum_cons, List.sum_nil, Nat.add_zero]
          exact Nat.add_le_add ih this
        · exact Nat.le_trans ih (Nat.le_add_right _ _)
    · exact Nat.le_trans ih (Nat.le_add_right _ _)
theorem strip_end {s : Shared} {R : Result → Shared → Prop} {x y : Str} {h' : Heap} {tk : Nat} {t : Tok} {G : Array GenState} {L : Addr} {m : Str → Option Value} (hret : ∀ (t : Tok) (h' : Heap) (tk' : Nat) (G : Array GenState), (∀ b o, s.heap.get? b = some o → h'.get? b = some o) → (AllBare s.gens → AllBare G) → R (.ok (.ret (.str x t))) { s with heap := h', toks := tk', gens := G })
    (F : Fr s.heap L h' m) (hG : AllBare s.gens → AllBare G) (e : y = x) : R (.ok (.ret (.str y t))) { s with heap := h', toks := tk, gens := G } := by
  subst e
  exact hret _ _ _ _ F.keep hG
theorem strip_bound {x : Str} (hl : x.length ≤ 100) : ((sfold x x.cps.size).2.2.map (·.length)).sum ≤ 10000 :=
  Nat.le_trans (sf_sum x _) (Nat.le_trans (Nat.mul_le_mul hl hl) (by decide))
theorem stripS_quick {x : Str} (h : (Builtin.Str.occurrences x (Str.ofString "\"") 0 x.length 1).isEmpty = true) : x = stripS x := by unfold stripS; rw [if_pos h]
theorem stripS_app {x : Str} (h : (Builtin.Str.occurrences x (Str.ofString "\"") 0 x.length 1).isEmpty = false) (hlt : (sfold x x.cps.size).1 < (x.length : Int)) : Txt.join (Str.ofString "") ((sfold x x.cps.size).2.2 ++ [Txt.slice x (some (sfold x x.cps.size).1) none]) = stripS x := by
  unfold stripS stripL; rw [if_neg (by rw [h]; exact Bool.false_ne_true), if_pos hlt]
theorem stripS_not {x : Str} (h : (Builtin.Str.occurrences x (Str.ofString "\"") 0 x.length 1).isEmpty = false) (hlt : ¬ (sfold x x.cps.size).1 < (x.length : Int)) : Txt.join (Str.ofString "") (sfold x x.cps.size).2.2 = stripS x := by
  unfold stripS stripL; rw [if_neg (by rw [h]; exact Bool.false_ne_true), if_neg hlt]
theorem join_fit {ls : List Str} {c : Str} (h : (ls.map (·.length)).sum ≤ 10000) (hc : c.length ≤ 100) (z : (Str.ofString "").length = 0) : ((ls ++ [c]).map (·.length)).sum + (ls ++ [c]).length * (Str.ofString "").length ≤ 16777216 := by
  rw [z, List.map_append, List.sum_append]
  simp only [List.map_cons, List.map_nil, List.sum_cons, List.sum_nil, Nat.add_zero, Nat.mul_zero]
  omega
theorem join_fit0 {ls : List Str} (h : (ls.map (·.length)).sum ≤ 10000) (z : (Str.ofString "").length = 0) : (ls.map (·.length)).sum + ls.length * (Str.ofString "").length ≤ 16777216 := by
  rw [z]; omega
theorem b_strip (w : World) (mean : ExcName → Option Value) (mg mb : Str → Option Value) (dp un : Nat) (fr : Option (List Env)) (gd : Option (List Code)) (s : Shared) (R : Result → Shared → Prop)
    (x : Str) (t1 : Tok) : (hd.heap_39 w.params).In s.heap → Top hd.view_39 (looseW hd.view_39 []) mean mg mb s.heap → dp + 15 < recursionLimit → un + 100 < cLine →
    (∀ c ∈ x.cps.toList, c ≠ 92) → x.length ≤ 100 →
    (∀ (t : Tok) (h' : Heap) (tk' : Nat) (G : Array GenState), (∀ b o, s.heap.get? b = some o → h'.get? b = some o) → (AllBare s.gens → AllBare G) → R (.ok (.ret (.str (stripS x) t))) { s with heap := h', toks := tk', gens := G }) →
    codeAny (model PySem.Challenge.rw_tr0022_01.row.prog w) (AA dp un fr gd) (.call (.ref 42) ⟨[.str x t1], []⟩) R s := by
  w_top off
  k_fill
  intro X T h1 h2 hx hl hret
  k_dflt (refine' enterB (mm := fun y => List.lookup y [("addr", .str x t1)]) X T ?k6 ?k7 ?k8 ?k9 ?kB ?kM ?c5 ?_ ?c2 ?c3 ?c4; (case k6 => k_is); (case k7 => k_is); (case k8 => show dp < _; omega); (case k9 => exact BindsTo.of_eq rfl); (case c5 => decide); (case kB => exact locs rfl); (case kM => exact rfl); (case c2 => exact rfl); (case c3 => exact rfl); (case c4 => exact rfl); k_whole; intro L' h' tk' F' N')
  k_steps
  · exact strip_end (s := s) (R := R) hret (by assumption) id (stripS_quick (by assumption))
  refine wpAny_For ?_ (by intro _; rfl)
  k_steps
  have F := (by assumption : Fr s.heap L' _ _)
  have N := (by assumption : News s.heap L' _ _)
  obtain ⟨hD, hDL, hDn⟩ := N _ List.mem_cons_self
  dsimp only at hD hDL hDn
  refine' wpAny_call (b_gen w mean mg mb _ _ _ _ _ _ s.heap x t1 X T F.keep (Nat.le_trans F.above (Nat.le_of_lt F.ns.lt)) ?x3 ?x4 hx ?_)
  (case x3 => show dp + 1 + 5 < recursionLimit; omega)
  (case x4 => show un + 3 + 40 < cLine; omega)
  intro a h2' tk2' gs kp han hGA
  dsimp only at hGA ⊢
  have hLN := F.ns.lt
  have hDN := Heap.lt_size hD
  have hbN : s.heap.objs.size ≤ _ := Nat.le_trans F.above (Nat.le_of_lt F.ns.lt)
  have hDk := kp _ _ hD
  have F := F.grownK kp
  generalize Array.size (Heap.objs _) = n0 at hGA hLN hDN hbN
  refine wpAny_pyIter_gen (hGA (AA 0 0 none none) rfl).1 ?_
  refine at_around fun A0 hA0 => ?_
  have hGA := hGA A0.in1 (by subst hA0; rfl)
  refine codeAny_forLoop_any (LoopI w A0.in1 a n0 s L' _ x t1) ?turn (x.cps.size + 1) ⟨0, rfl, Nat.zero_le _, _, #[], 0, _, _, F, ?z1, hGA, ⟨_, _, _, rfl⟩, hLN, hDN, hbN, rfl, rfl, rfl, rfl, rfl, StrsAre.nil, Nat.le_refl _⟩
  case z1 =>
    intro p hp
    rw [List.mem_singleton.mp hp]; exact ⟨hDk, hDL, hDn⟩
  case turn =>
    rintro k s₁ ⟨i, rfl, hi, m, its, n, t2, ov, F, N, ⟨hg, gs, hgs, own, hown, hgo⟩, ⟨h1', tk1', gs1, rfl⟩, hLN, hDN, hbN, hm1, hm2, hm3, hop, hm4, hst, hsz⟩
    subst hA0
    have hnl := (T.keeps F.keep).nolimit
    rcases Nat.lt_or_eq_of_le hi with hlt | rfl
    · obtain ⟨m', hm'⟩ : ∃ m', x.cps.size - i = m' + 1 := ⟨x.cps.size - i - 1, by omega⟩
      rw [hm'] at hgo
      refine wpAny_pyNext_gen (P := fun n s₀ s₁ => n = 0 ∧ Since n0 a s₀ s₁) rfl hnl (show dp + 1 < _ by omega) hg hgs (hgo _ (fun p hp => (hown p hp).2) F.keep) (fun v s₂ gs' hv => ?_) (fun s₂ hp => ?_)
      rotate_left
      · exact absurd hp.1 (Nat.succ_ne_zero _)
      obtain ⟨⟨i', c, TT, tk, u, hi', hc, rfl, hTT, hap⟩, ⟨h2, tk2, rfl, hk2⟩, hb2, own2, hown2, ⟨oa, hoa⟩, hkap⟩ := hv
      have : i' = i := by omega
      subst this
      dsimp only at hk2 hTT hap hown2 hb2 ⊢
      obtain ⟨oL, hoL⟩ : ∃ o, Heap.get? _ L' = some o := let ⟨o, _, _, q, _⟩ := F.ns; ⟨o, q⟩
      have F₂ : Fr s.heap L' h2 m := ⟨F.ns.at' fun o q => hk2 _ o (.inl hLN) q, hb2, F.above⟩
      have N₂ := strip_news N hk2 hDN hTT (hap _ _ hLN hoL).symm (fun o q => (hap _ _ (Nat.lt_of_lt_of_le (Heap.lt_size q) hbN) (F.keep _ _ q)) rfl) hown2 hLN hbN
      have hTD := (hap _ _ hDN (N _ List.mem_cons_self).1).symm
      have hoD : ∀ p ∈ own2, p.1 ≠ _ := fun p hp => Nat.ne_of_gt (Nat.lt_of_lt_of_le hDN (hown2 p hp).1)
      have hg2 : h2.IsGen a _ := let ⟨o, nm, qn, ho, r⟩ := hg; ⟨o, nm, qn, hk2 a o (.inr rfl) ho, r⟩
      refine go_gen hg2 ?_
      rw [set_two]
      refine body_held ?_
      clear hk2 hb2 hap hoL hTT N F hgs hgo hg hown
      cases hopen : (sfold x i').2.1 with
      | none =>
        rw [hopen] at hop
        cases hop
        have F := F₂
        rw [atL_eq (l := [(Str.ofString "addr", _), (Str.ofString "start", _), (Str.ofString "open_pos", _), (Str.ofString "result", _)]) (all4 hm1 hm2 hm3 hm4)] at F
        clear F₂
        k_steps
        · exact strip_next (by assumption) (by assumption) hg2 hoa hown2 (fun s'' k1 k2 => hkap s'' k1 k2) hlt hm' hLN hDN hbN (sf_open hc (cq (by assumption)) hopen) rfl rfl rfl ⟨_, rfl⟩ rfl hst (Nat.le_succ_of_le hsz)
        · exact strip_next (by assumption) (by assumption) hg2 hoa hown2 (fun s'' k1 k2 => hkap s'' k1 k2) hlt hm' hLN hDN hbN (sf_stay hc (cqn (by assumption)) hopen) rfl rfl rfl rfl rfl hst (Nat.le_succ_of_le hsz)
      | some p =>
        rw [hopen] at hop
        obtain ⟨t3, rfl⟩ := hop
        have F := F₂
        rw [atL_eq (l := [(Str.ofString "addr", _), (Str.ofString "start", _), (Str.ofString "open_pos", _), (Str.ofString "result", _)]) (all4 hm1 hm2 hm3 hm4)] at F
        clear F₂
        k_steps
        · refine append_mid (by assumption) (by assumption) hTD hoD (Nat.le_trans hsz (Nat.le_trans (Nat.le_trans hi hl) (by decide))) ?_
          intro h3 F3 N3
          k_steps
          refine strip_next (by assumption) (by assumption) hg2 hoa hown2 (fun s'' k1 k2 => hkap s'' k1 k2) hlt hm' hLN hDN hbN (sf_cut hc (cq (by assumption)) hopen (sf_ne (by assumption))) rfl rfl rfl rfl rfl (strsAre_push hst) ?_
          rw [Array.size_push]; exact Nat.succ_le_succ hsz
        · exact strip_next (by assumption) (by assumption) hg2 hoa hown2 (fun s'' k1 k2 => hkap s'' k1 k2) hlt hm' hLN hDN hbN (sf_skip hc (cq (by assumption)) hopen (sf_eq (by assumption))) rfl rfl rfl rfl rfl hst (Nat.le_succ_of_le hsz)
        · exact strip_next (by assumption) (by assumption) hg2 hoa hown2 (fun s'' k1 k2 => hkap s'' k1 k2) hlt hm' hLN hDN hbN (sf_stay hc (cqn (by assumption)) hopen) rfl rfl rfl ⟨_, rfl⟩ rfl hst (Nat.le_succ_of_le hsz)
    · rw [Nat.sub_self] at hgo
      refine wpAny_pyNext_gen (P := fun n s₀ s₁ => n = 0 ∧ Since n0 a s₀ s₁) rfl hnl (show dp + 1 < _ by omega) hg hgs (hgo _ (fun p hp => (hown p hp).2) F.keep) (fun v s₂ gs' hv => ?_) (fun s₂ hp h3 k3 => ?_)
      · exact (hv.2.2.2.choose_spec.2.2 _ (fun p hp => (hv.2.2.2.choose_spec.1 p hp).2) hv.2.2.1).elim
      obtain ⟨-, h2, tk2, rfl, hk2⟩ := hp
      have e2 := set_two (s := s) (h1 := h1') (h2 := h2) (t1 := tk1') (t2 := tk2) (g1 := gs1) (g2 := .running) (g3 := .finished)
      dsimp only at hk2 k3 ⊢
      rw [e2]
      have F₂ : Fr s.heap L' h3 m := ⟨F.ns.at' fun o q => k3 _ o (hk2 _ o (.inl hLN) q), fun b o q => k3 b o (hk2 b o (.inl (Nat.lt_of_lt_of_le (Heap.lt_size q) hbN)) (F.keep b o q)), F.above⟩
      have N₂ : News s.heap L' h3 [(_, W.listOf its n)] := fun p hp => by
        obtain ⟨q1, q2⟩ := N p hp
        rw [List.mem_singleton.mp hp] at q1 q2 ⊢
        exact ⟨k3 _ _ (hk2 _ _ (.inl hDN) q1), q2⟩
      have hG : AllBare s.gens → AllBare (s.gens.push .finished) := fun h => h.push rfl
      generalize s.gens.push GenState.finished = G at hG ⊢
      clear hk2 k3 e2 F N hgo hgs hown hg
      have F := F₂
      rw [atL_eq (l := [(Str.ofString "addr", _), (Str.ofString "start", _), (Str.ofString "open_pos", _), (Str.ofString "result", _)]) (all4 hm1 hm2 hm3 hm4)] at F
      clear F₂
      k_steps
      · refine W.append_K (by assumption) (by assumption) (U := by k_upd) (hsz := Nat.le_trans hsz (Nat.le_trans hl (by decide))) ?_
        intro h4 F4 N4
        k_steps
        refine join_list (N4.isList List.mem_cons_self) (strsAre_push hst) (join_fit (strip_bound hl) (Nat.le_trans (Txt.slice_le _ _ _) hl) (by decide +kernel)) ?_
        intro t4 k4
        exact strip_end (s := s) (R := R) hret F4 hG (stripS_app (by assumption) (by assumption))
      · refine join_list (N₂.isList List.mem_cons_self) hst (join_fit0 (strip_bound hl) (by decide +kernel)) ?_
        intro t4 k4
        exact strip_end (s := s) (R := R) hret F hG (stripS_not (by assumption) (by assumption))
end Mine

-- Vis
namespace Mine
def nmS (j : Nat) : Str := ([Str.ofString "e", Str.ofString "c", Str.ofString "d", Str.ofString "a", Str.ofString "f", Str.ofString "b", Str.ofString "g"] : List Str).getD j (Str.ofString "")
abbrev LB (k : Nat) : List Str := ((List.range 7).filter (fun j => k.testBit j)).map nmS
def leftL (k : Nat) : List Nat := ((List.range 7).filter fun j => k.testBit (([3, 5, 1, 2, 0, 4, 6] : List Nat).getD j 0)).map (97 + ·)
def leftS (k : Nat) : Str := { cps := (leftL k).toArray }
/-- a row and its text with the marks: printed by a program, held by the kernel below -/
noncomputable def tbl : List (Nat × List Nat) := [(0, [34,97,98,99,100,101,102,103,34]), (1, [34,97,98,99,100,34,101,34,102,103,34]), (2, [34,97,98,34,99,34,100,101,102,103,34]), (3, [34,97,98,34,99,34,100,34,101,34,102,103,34]), (4, [34,97,98,99,34,100,34,101,102,103,34]), (5, [34,97,98,99,34,100,101,34,102,103,34]), (6, [34,97,98,34,99,100,34,101,102,103,34]), (7, [34,97,98,34,99,100,101,34,102,103,34]), (8, [97,34,98,99,100,101,102,103,34]), (9, [97,34,98,99,100,34,101,34,102,103,34]), (10, [97,34,98,34,99,34,100,101,102,103,34]), (11, [97,34,98,34,99,34,100,34,101,34,102,103,34]), (12, [97,34,98,99,34,100,34,101,102,103,34]), (13, [97,34,98,99,34,100,101,34,102,103,34]), (14, [97,34,98,34,99,100,34,101,102,103,34]), (15, [97,34,98,34,99,100,101,34,102,103,34]), (16, [34,97,98,99,100,101,34,102,34,103,34]), (17, [34,97,98,99,100,34,101,102,34,103,34]), (18, [34,97,98,34,99,34,100,101,34,102,34,103,34]), (19, [34,97,98,34,99,34,100,34,101,102,34,103,34]), (20, [34,97,98,99,34,100,34,101,34,102,34,103,34]), (21, [34,97,98,99,34,100,101,102,34,103,34]), (22, [34,97,98,34,99,100,34,101,34,102,34,103,34]), (23, [34,97,98,34,99,100,101,102,34,103,34]), (24, [97,34,98,99,100,101,34,102,34,103,34]), (25, [97,34,98,99,100,34,101,102,34,103,34]), (26, [97,34,98,34,99,34,100,101,34,102,34,103,34]), (27, [97,34,98,34,99,34,100,34,101,102,34,103,34]), (28, [97,34,98,99,34,100,34,101,34,102,34,103,34]), (29, [97,34,98,99,34,100,101,102,34,103,34]), (30, [97,34,98,34,99,100,34,101,34,102,34,103,34]), (31, [97,34,98,34,99,100,101,102,34,103,34]), (32, [34,97,34,98,34,99,100,101,102,103,34]), (33, [34,97,34,98,34,99,100,34,101,34,102,103,34]), (34, [34,97,34,98,99,34,100,101,102,103,34]), (35, [34,97,34,98,99,34,100,34,101,34,102,103,34]), (36, [34,97,34,98,34,99,34,100,34,101,102,103,34]), (37, [34,97,34,98,34,99,34,100,101,34,102,103,34]), (38, [34,97,34,98,99,100,34,101,102,103,34]), (39, [34,97,34,98,99,100,101,34,102,103,34]), (40, [97,98,34,99,100,101,102,103,34]), (41, [97,98,34,99,100,34,101,34,102,103,34]), (42, [97,98,99,34,100,101,102,103,34]), (43, [97,98,99,34,100,34,101,34,102,103,34]), (44, [97,98,34,99,34,100,34,101,102,103,34]), (45, [97,98,34,99,34,100,101,34,102,103,34]), (46, [97,98,99,100,34,101,102,103,34]), (47, [97,98,99,100,101,34,102,103,34]), (48, [34,97,34,98,34,99,100,101,34,102,34,103,34]), (49, [34,97,34,98,34,99,100,34,101,102,34,103,34]), (50, [34,97,34,98,99,34,100,101,34,102,34,103,34]), (51, [34,97,34,98,99,34,100,34,101,102,34,103,34]), (52, [34,97,34,98,34,99,34,100,34,101,34,102,34,103,34]), (53, [34,97,34,98,34,99,34,100,101,102,34,103,34]), (54, [34,97,34,98,99,100,34,101,34,102,34,103,34]), (55, [34,97,34,98,99,100,101,102,34,103,34]), (56, [97,98,34,99,100,101,34,102,34,103,34]), (57, [97,98,34,99,100,34,101,102,34,103,34]), (58, [97,98,99,34,100,101,34,102,34,103,34]), (59, [97,98,99,34,100,34,101,102,34,103,34]), (60, [97,98,34,99,34,100,34,101,34,102,34,103,34]), (61, [97,98,34,99,34,100,101,102,34,103,34]), (62, [97,98,99,100,34,101,34,102,34,103,34]), (63, [97,98,99,100,101,102,34,103,34]), (64, [34,97,98,99,100,101,102,34,103]), (65, [34,97,98,99,100,34,101,34,102,34,103]), (66, [34,97,98,34,99,34,100,101,102,34,103]), (67, [34,97,98,34,99,34,100,34,101,34,102,34,103]), (68, [34,97,98,99,34,100,34,101,102,34,103]), (69, [34,97,98,99,34,100,101,34,102,34,103]), (70, [34,97,98,34,99,100,34,101,102,34,103]), (71, [34,97,98,34,99,100,101,34,102,34,103]), (72, [97,34,98,99,100,101,102,34,103]), (73, [97,34,98,99,100,34,101,34,102,34,103]), (74, [97,34,98,34,99,34,100,101,102,34,103]), (75, [97,34,98,34,99,34,100,34,101,34,102,34,103]), (76, [97,34,98,99,34,100,34,101,102,34,103]), (77, [97,34,98,99,34,100,101,34,102,34,103]), (78, [97,34,98,34,99,100,34,101,102,34,103]), (79, [97,34,98,34,99,100,101,34,102,34,103]), (80, [34,97,98,99,100,101,34,102,103]), (81, [34,97,98,99,100,34,101,102,103]), (82, [34,97,98,34,99,34,100,101,34,102,103]), (83, [34,97,98,34,99,34,100,34,101,102,103]), (84, [34,97,98,99,34,100,34,101,34,102,103]), (85, [34,97,98,99,34,100,101,102,103]), (86, [34,97,98,34,99,100,34,101,34,102,103]), (87, [34,97,98,34,99,100,101,102,103]), (88, [97,34,98,99,100,101,34,102,103]), (89, [97,34,98,99,100,34,101,102,103]), (90, [97,34,98,34,99,34,100,101,34,102,103]), (91, [97,34,98,34,99,34,100,34,101,102,103]), (92, [97,34,98,99,34,100,34,101,34,102,103]), (93, [97,34,98,99,34,100,101,102,103]), (94, [97,34,98,34,99,100,34,101,34,102,103]), (95, [97,34,98,34,99,100,101,102,103]), (96, [34,97,34,98,34,99,100,101,102,34,103]), (97, [34,97,34,98,34,99,100,34,101,34,102,34,103]), (98, [34,97,34,98,99,34,100,101,102,34,103]), (99, [34,97,34,98,99,34,100,34,101,34,102,34,103]), (100, [34,97,34,98,34,99,34,100,34,101,102,34,103]), (101, [34,97,34,98,34,99,34,100,101,34,102,34,103]), (102, [34,97,34,98,99,100,34,101,102,34,103]), (103, [34,97,34,98,99,100,101,34,102,34,103]), (104, [97,98,34,99,100,101,102,34,103]), (105, [97,98,34,99,100,34,101,34,102,34,103]), (106, [97,98,99,34,100,101,102,34,103]), (107, [97,98,99,34,100,34,101,34,102,34,103]), (108, [97,98,34,99,34,100,34,101,102,34,103]), (109, [97,98,34,99,34,100,101,34,102,34,103]), (110, [97,98,99,100,34,101,102,34,103]), (111, [97,98,99,100,101,34,102,34,103]), (112, [34,97,34,98,34,99,100,101,34,102,103]), (113, [34,97,34,98,34,99,100,34,101,102,103]), (114, [34,97,34,98,99,34,100,101,34,102,103]), (115, [34,97,34,98,99,34,100,34,101,102,103]), (116, [34,97,34,98,34,99,34,100,34,101,34,102,103]), (117, [34,97,34,98,34,99,34,100,101,102,103]), (118, [34,97,34,98,99,100,34,101,34,102,103]), (119, [34,97,34,98,99,100,101,102,103]), (120, [97,98,34,99,100,101,34,102,103]), (121, [97,98,34,99,100,34,101,102,103]), (122, [97,98,99,34,100,101,34,102,103]), (123, [97,98,99,34,100,34,101,102,103]), (124, [97,98,34,99,34,100,34,101,34,102,103]), (125, [97,98,34,99,34,100,101,102,103]), (126, [97,98,99,100,34,101,34,102,103]), (127, [97,98,99,100,101,102,103])]
/-- the reply's signs -/
def repC (l : List Nat) : List Nat := [50, 53, 55, 32, 34] ++ StrLaws.dbl 34 l ++ [34]
theorem tbl_k : tbl.map (·.1) = List.range 128 := by decide +kernel
theorem tbl_p : (tbl.all fun e => decide (shut (rfin (has (LB e.1) 97) (has (LB e.1) 98) (has (LB e.1) 99) (has (LB e.1) 100) (has (LB e.1) 101) (has (LB e.1) 102) (has (LB e.1) 103)) = ⟨e.2.toArray⟩)) = true := by decide +kernel
theorem str_257 : Str.ofString "257 \"" = ⟨#[50, 53, 55, 32, 34]⟩ := by decide +kernel
theorem wrap_dbl (l : List Nat) : wrapS (dbl ⟨l.toArray⟩) = ⟨(repC l).toArray⟩ := by
  unfold wrapS
  rw [show dbl ⟨l.toArray⟩ = ⟨(StrLaws.dbl 34 l).toArray⟩ from by
    have := replace_dbl (⟨l.toArray⟩ : Str) _ _ 34 one_q two_q
    rw [List.toList_toArray] at this
    exact this, one_q, str_257]
  show (⟨(#[50, 53, 55, 32, 34] ++ (StrLaws.dbl 34 l).toArray) ++ #[34]⟩ : Str) = _
  congr 1
  simp [repC]
theorem tbl_n : (tbl.all fun e => decide (ploop (Str.ofString "") ((repC e.2).drop 5) = ⟨e.2.toArray⟩)) = true := by decide +kernel
theorem tbl_s : (tbl.all fun e => decide (stripS ⟨e.2.toArray⟩ = leftS e.1)) = true := by decide +kernel
theorem tbl_o : (tbl.all fun e => e.2.all (fun c => c != 92) && decide ((⟨e.2.toArray⟩ : Str).length ≤ 100)) = true := by decide +kernel
theorem tbl_c : (tbl.all fun e => decide (((⟨(repC e.2).toArray⟩ : Str).length ≤ 100 ∧ 5 ≤ (⟨(repC e.2).toArray⟩ : Str).length) ∧ (Txt.slice ⟨(repC e.2).toArray⟩ none (some 3) != "257") = false ∧ (Txt.slice ⟨(repC e.2).toArray⟩ (some 3) (some 5) != " \"") = false)) = true := by decide +kernel
theorem tbl_at {k : Nat} (hk : k < 128) : ∃ e ∈ tbl, e.1 = k := by
  have h : k ∈ tbl.map (·.1) := by rw [tbl_k]; exact List.mem_range.mpr hk
  exact List.mem_map.mp h
theorem rep_eq {e : Nat × List Nat} (he : e ∈ tbl) : replyL (LB e.1) = ⟨(repC e.2).toArray⟩ := by
  have h1 := of_decide_eq_true (List.all_eq_true.mp tbl_p e he)
  show wrapS (dbl (shut (rfin (has (LB e.1) 97) (has (LB e.1) 98) (has (LB e.1) 99) (has (LB e.1) 100) (has (LB e.1) 101) (has (LB e.1) 102) (has (LB e.1) 103)))) = _
  rw [h1]; exact wrap_dbl _
theorem nam_eq {e : Nat × List Nat} (he : e ∈ tbl) : ploop (Str.ofString "") ((replyL (LB e.1)).cps.toList.drop 5) = ⟨e.2.toArray⟩ := by
  rw [rep_eq he]
  show ploop (Str.ofString "") ((repC e.2).toArray.toList.drop 5) = _
  rw [List.toList_toArray]
  exact of_decide_eq_true (List.all_eq_true.mp tbl_n e he)
theorem vis_reply (k : Nat) (hk : k < 128) : ((replyL (LB k)).length ≤ 100 ∧ 5 ≤ (replyL (LB k)).length) ∧ (Txt.slice (replyL (LB k)) none (some 3) != "257") = false ∧ (Txt.slice (replyL (LB k)) (some 3) (some 5) != " \"") = false := by
  obtain ⟨e, he, rfl⟩ := tbl_at hk
  rw [rep_eq he]
  exact of_decide_eq_true (List.all_eq_true.mp tbl_c e he)
theorem vis_no92 (k : Nat) (hk : k < 128) : ∀ c ∈ (ploop (Str.ofString "") ((replyL (LB k)).cps.toList.drop 5)).cps.toList, c ≠ 92 := by
  obtain ⟨e, he, rfl⟩ := tbl_at hk
  rw [nam_eq he]
  have h := (Bool.and_eq_true_iff.mp (List.all_eq_true.mp tbl_o e he)).1
  intro c hc
  have hc : c ∈ e.2 := by
    have : c ∈ e.2.toArray.toList := hc
    rwa [List.toList_toArray] at this
  have := List.all_eq_true.mp h c hc
  simpa using this
theorem vis_len (k : Nat) (hk : k < 128) : (ploop (Str.ofString "") ((replyL (LB k)).cps.toList.drop 5)).length ≤ 100 := by
  obtain ⟨e, he, rfl⟩ := tbl_at hk
  rw [nam_eq he]
  exact of_decide_eq_true (Bool.and_eq_true_iff.mp (List.all_eq_true.mp tbl_o e he)).2
theorem left_is (k : Nat) (hk : k < 128) : stripS (ploop (Str.ofString "") ((replyL (LB k)).cps.toList.drop 5)) = leftS k := by
  obtain ⟨e, he, rfl⟩ := tbl_at hk
  rw [nam_eq he]
  exact of_decide_eq_true (List.all_eq_true.mp tbl_s e he)
end Mine

-- Led
namespace Mine
section
open PySem.Calls PyProof.Rows.LCg
abbrev tstFold (ifs : List Expr) (cenv : Env) : Sem Bool := forIn ifs true fun c r => if r = true then do let ok ← isTrue c cenv (eval c cenv); pure (ForInStep.yield ok) else pure (ForInStep.yield r)
/-- how an expression of a block ends: what it says, and that the ledger stands -/
def EndE (s₃ : Shared) (g : Heap) (C : Addr) (m : Str → Option Value) (led : List (Addr × Obj)) (Post : Prop) (s₄ : Shared) : Prop :=
  Post ∧ ∃ h₄ tk₄, s₄ = { s₃ with heap := h₄, toks := tk₄ } ∧ Fr g C h₄ m ∧ News g C h₄ led
variable {prog : Program} {w : World} {A : Around} {g : Heap} {L : Addr} {m : Str → Option Value} {env : Env} {news : List (Addr × Obj)}
/-- one turn of a block: the tests, and the value where they hold -/
def TurnE (prog : Program) (w : World) (A : Around) (E : Value → Shared → Prop) (g : Heap) (C : Addr) (m₃ : Str → Option Value) (led : List (Addr × Obj)) (cenv : Env) (ifs : List Expr) (elt : Expr) (skip : Prop) (take : Value → Prop) (s₃ : Shared) : Prop :=
  wpAny (model prog w) A (tstFold ifs cenv) (fun ok s₄ => if ok = true then wpAny (model prog w) A (eval elt cenv) (fun y s₅ => EndE s₃ g C m₃ led (take y) s₅) E s₄ else EndE s₃ g C m₃ led skip s₄) E s₃
theorem loop_L {elt iter : Expr} {x : Str} {px : Pos} {ifs : List Expr} {scope : Scope} {cl : List (Str × Addr)} {pos : Pos} {s₂ : Shared} {I C D : Addr} {fp : List Addr} {n : Nat} {P : Nat → Value → Prop} {St : Nat → Heap → Prop} {Rel : Nat → List Value → Prop} {R : Result → Shared → Prop}
    (W : Walks prog w A I fp [I] n P St) (hsz : n ≤ sizeLine) (hIo : ∀ i h, St i h → ∃ o, h.get? I = some o)
    (hfp : ∀ b ∈ fp, b = I ∨ (∃ o, g.get? b = some o) ∨ ∃ o, (b, o) ∈ news) (hcx : (compEnvC scope cl C env).kindOf x = some .local) (hkind : scope.kind = .function)
    (hst : St 0 s₂.heap) (F : Fr g L s₂.heap m) (hC : ∃ m', Fr g C s₂.heap m') (N : News g L s₂.heap news) (hD : s₂.heap.get? D = some (lst [])) (hRel : Rel 0 [])
    (hIL : I ≠ L) (hIC : I ≠ C) (hID : I ≠ D) (hCL : C ≠ L) (hDL : D ≠ L) (hDC : D ≠ C) (hIg : g.get? I = none) (hCg : g.get? C = none) (hDg : g.get? D = none) (hLg : g.get? L = none) (off : ∀ p ∈ news, p.1 ≠ I ∧ p.1 ≠ C ∧ p.1 ≠ D)
    (turn : ∀ i v ys h₃ tk₃ m₃ oI oL (E' : Value → Shared → Prop), i < n → P i v → Rel i ys → m₃ x = some v → Fr g C h₃ m₃ → News g C h₃ ((I, oI) :: (D, lst ys) :: (L, oL) :: news) →
      TurnE prog w A E' g C m₃ ((I, oI) :: (D, lst ys) :: (L, oL) :: news) (compEnvC scope cl C env) ifs elt (Rel (i + 1) ys) (fun y => Rel (i + 1) (ys ++ [y])) { s₂ with heap := h₃, toks := tk₃ })
    (hlen : ∀ i ys, Rel i ys → ys.length ≤ i)
    (done : ∀ h tk ys m', Rel n ys → Fr g L h m → Fr g C h m' → News g L h ((D, lst ys) :: news) → R (.ok .next) { s₂ with heap := h, toks := tk }) :
    codeAny (model prog w) A (.compLoop (.ListComp elt [⟨.Name x px, iter, ifs, 0⟩] scope pos) 0 (.ref I) (.ref D) (compEnvC scope cl C env)) R s₂ := by
  have hLs : ∀ h m', Fr g L h m' → ∃ o, h.get? L = some o := fun h m' F => let ⟨o, _, _, e, _⟩ := F.ns; ⟨o, e⟩
  refine codeAny_compLoop_tests
    (fun k s' => ∃ h' tk i ys m', s' = { s₂ with heap := h', toks := tk } ∧ i ≤ n ∧ k = n + 1 - i ∧ St i h' ∧ Fr g L h' m ∧ Fr g C h' m' ∧ News g L h' ((D, lst ys) :: news) ∧ Rel i ys) ?_ (n + 1)
    ⟨s₂.heap, s₂.toks, 0, [], _, rfl, Nat.zero_le _, rfl, hst, F, hC.choose_spec, fun p hp => ?_, hRel⟩
  · rintro k s' ⟨h', tk, i, ys, m', rfl, hi, rfl, hst', F', FC, N', hR⟩
    by_cases hlt : i < n
    · refine W.item i _ _ _ hlt hst' fun v h₂ tk₂ hPv hst₂ hk₂ => ?_
      refine wpAny_assign_Name (wpAny_storeName_local hcx (FC.ns.at' fun o e => hk₂ _ o (by simpa using Ne.symm hIC) e) (fun h₃ hn₃ hs₃ => ?_) (by simp [compEnvC, relabel, hkind]))
      have hs₃ : Heap.SameBut C h₂ h₃ := hs₃
      have up : ∀ b o, b ≠ I → b ≠ C → h'.get? b = some o → h₃.get? b = some o := fun b o h1 h2 e => hs₃.extBut b o h2 (hk₂ b o (by simpa using h1) e)
      have hst₃ : St (i + 1) h₃ := W.frame _ _ _ hst₂ fun b hb o e => by
        rcases hfp b hb with rfl | ⟨o', q⟩ | ⟨o', q⟩
        · exact hs₃.extBut _ _ hIC e
        · exact hs₃.extBut _ _ (fun q' => by rw [q', hCg] at q; cases q) e
        · exact hs₃.extBut _ _ (off _ q).2.1 e
      obtain ⟨oI, heI⟩ := hIo _ _ hst₃
      obtain ⟨oL, heL'⟩ := hLs _ _ F'
      have heL : h₃.get? L = some oL := up _ _ (Ne.symm hIL) (Ne.symm hCL) heL'
      have keep₃ : ∀ b o, g.get? b = some o → h₃.get? b = some o := fun b o e => up b o (fun q => by rw [q, hIg] at e; cases e) (fun q => by rw [q, hCg] at e; cases e) (F'.keep b o e)
      have hn₃' : h₃.Ns C _ := hn₃
      have F₃ : Fr g C h₃ _ := ⟨hn₃', keep₃, FC.above⟩
      have N₃ : News g C h₃ ((I, oI) :: (D, lst ys) :: (L, oL) :: news) := fun p hp => by
        rcases List.mem_cons.mp hp with rfl | hp
        · exact ⟨heI, hIC, hIg⟩
        rcases List.mem_cons.mp hp with rfl | hp
        · exact ⟨up _ _ (Ne.symm hID) hDC (N' _ List.mem_cons_self).1, hDC, hDg⟩
        rcases List.mem_cons.mp hp with rfl | hp
        · exact ⟨heL, Ne.symm hCL, hLg⟩
        · have z := N' p (List.mem_cons_of_mem _ hp)
          exact ⟨up _ _ (off p hp).1 (off p hp).2.1 z.1, (off p hp).2.1, z.2.2⟩
      -- after the turn
      have after : ∀ (s₄ : Shared) (Post : Prop), EndE { s₂ with heap := h₃, toks := tk₂ + 1 } g C (fun y => if y = x then some v else m' y) ((I, oI) :: (D, lst ys) :: (L, oL) :: news) Post s₄ →
          Post ∧ ∃ h₄ tk₄, s₄ = { s₂ with heap := h₄, toks := tk₄ } ∧ St (i + 1) h₄ ∧ Fr g L h₄ m ∧ Fr g C h₄ (fun y => if y = x then some v else m' y) ∧ News g L h₄ ((D, lst ys) :: news) := by
        rintro s₄ Post ⟨hp, h₄, tk₄, rfl, FC₄, N₄⟩
        have zL := (N₄ (L, oL) (by simp)).1
        have zI := (N₄ (I, oI) (by simp)).1
        refine ⟨hp, h₄, tk₄, rfl, W.frame _ _ _ hst₃ fun b hb o e => ?_, ⟨(F'.ns.at' fun o e => by rw [heL'] at e; cases e; exact heL).at' fun o e => by rw [heL] at e; cases e; exact zL, FC₄.keep, F'.above⟩, FC₄, fun p hp => ?_⟩
        · rcases hfp b hb with rfl | ⟨o', q⟩ | ⟨o', q⟩
          · rw [heI] at e; cases e; exact zI
          · have := keep₃ _ _ q; rw [e] at this; cases this; exact FC₄.keep _ _ q
          · have := (N₃ (b, o') (List.mem_cons_of_mem _ (List.mem_cons_of_mem _ (List.mem_cons_of_mem _ q)))).1
            dsimp only at this
            rw [e] at this; cases this
            exact (N₄ (b, _) (List.mem_cons_of_mem _ (List.mem_cons_of_mem _ (List.mem_cons_of_mem _ q)))).1
        · rcases List.mem_cons.mp hp with rfl | hp
          · exact ⟨(N₄ (D, lst ys) (by simp)).1, hDL, hDg⟩
          · exact ⟨(N₄ p (List.mem_cons_of_mem _ (List.mem_cons_of_mem _ (List.mem_cons_of_mem _ hp)))).1, (N' p (List.mem_cons_of_mem _ hp)).2⟩
      refine wpAny_mono (turn i v ys h₃ _ _ oI oL _ hlt hPv hR (by simp) F₃ N₃) (fun ok s₄ h₄ => ?_) fun _ _ e => e
      cases ok with
      | false =>
        rw [if_neg Bool.false_ne_true] at h₄ ⊢
        obtain ⟨hp, h₅, tk₅, rfl, st₅, F₅, FC₅, N₅⟩ := after _ _ h₄
        exact ⟨n + 1 - (i + 1), by omega, h₅, tk₅, i + 1, ys, _, rfl, hlt, rfl, st₅, F₅, FC₅, N₅, hp⟩
      | true =>
        rw [if_pos rfl] at h₄ ⊢
        refine wpAny_mono h₄ (fun y s₅ h₅ => ?_) fun _ _ e => e
        obtain ⟨hp, h₅, tk₅, rfl, st₅, F₅, FC₅, N₅⟩ := after _ _ h₅
        have zD := (N₅ (D, lst ys) List.mem_cons_self).1
        refine append_at (hsz := by show ys.toArray.size ≤ sizeLine; rw [List.size_toArray]; exact Nat.le_trans (hlen _ _ hR) (Nat.le_trans hi hsz)) zD fun h₆ hs₆ hD₆ => ?_
        refine ⟨n + 1 - (i + 1), by omega, h₆, tk₅, i + 1, ys ++ [y], _, rfl, hlt, rfl, W.frame _ _ _ st₅ fun b hb o e => hs₆.extBut b o (fun q => ?_) e, F₅.change hs₆ hDL hDg, FC₅.change hs₆ hDC hDg, fun p hq => ?_, hp⟩
        · rcases hfp b hb with rfl | ⟨o', q'⟩ | ⟨o', q'⟩
          · exact hID q
          · rw [q, hDg] at q'; cases q'
          · exact (off _ q').2.2 q
        · rcases List.mem_cons.mp hq with rfl | hq
          · exact ⟨hD₆.trans (congrArg some (lst_snoc ys y)), hDL, hDg⟩
          · exact ⟨hs₆.extBut _ _ (off p hq).2.2 (N₅ p (List.mem_cons_of_mem _ hq)).1, (N₅ p (List.mem_cons_of_mem _ hq)).2⟩
    · obtain rfl : i = n := Nat.le_antisymm hi (Nat.not_lt.mp hlt)
      refine W.done _ _ _ hst' fun h₂ tk₂ hk₂ => ?_
      exact done h₂ tk₂ ys _ hR (fr_but F' hk₂ (Ne.symm hIL) hIg) (fr_but FC hk₂ (Ne.symm hIC) hIg) (news_but N' hk₂ fun p hp => by
        rcases List.mem_cons.mp hp with rfl | hp
        · exact Ne.symm hID
        · exact (off p hp).1)
  · rcases List.mem_cons.mp hp with rfl | hp
    · exact ⟨hD, hDL, hDg⟩
    · exact N p hp
end
end Mine
namespace Mine
section
open PySem.Calls PyProof.Rows.LCg
variable {prog : Program} {w : World} {A : Around} {E : Value → Shared → Prop} {g : Heap} {L : Addr} {m : Str → Option Value} {env : Env} {news : List (Addr × Obj)}
theorem block_L {elt iter : Expr} {x : Str} {px : Pos} {ifs : List Expr} {scope : Scope} {cl : List (Str × Addr)} {pos : Pos} {s₂ : Shared} {I : Addr} {fp : List Addr} {n : Nat} {P : Nat → Value → Prop} {St : Nat → Heap → Prop} {Rel : Nat → List Value → Prop} {RR : Value → Addr → Result → Shared → Prop}
    (W : Walks prog w A I fp [I] n P St) (hsz : n ≤ sizeLine) (hIo : ∀ i h, St i h → ∃ o, h.get? I = some o)
    (hfp : ∀ b ∈ fp, b = I ∨ (∃ o, g.get? b = some o) ∨ ∃ o, (b, o) ∈ news) (hcell : ∀ y ∈ scope.names, y.2 ≠ .cell) (hkind : scope.kind = .function) (hx : scope.names.lookup x = some .local)
    (hst : St 0 s₂.heap) (F : Fr g L s₂.heap m) (N : News g L s₂.heap news) (hRel : Rel 0 [])
    (hIL : I ≠ L) (hIg : g.get? I = none) (off : ∀ p ∈ news, p.1 ≠ I)
    (turn : ∀ C D i v ys h₃ tk₃ m₃ oI oL (E' : Value → Shared → Prop), i < n → P i v → Rel i ys → m₃ x = some v → Fr g C h₃ m₃ → News g C h₃ ((I, oI) :: (D, lst ys) :: (L, oL) :: news) →
      TurnE prog w A E' g C m₃ ((I, oI) :: (D, lst ys) :: (L, oL) :: news) (compEnvC scope cl C env) ifs elt (Rel (i + 1) ys) (fun y => Rel (i + 1) (ys ++ [y])) { s₂ with heap := h₃, toks := tk₃ })
    (hlen : ∀ i ys, Rel i ys → ys.length ≤ i)
    (hRR : ∀ D C h tk ys m', Rel n ys → Fr g L h m → Fr g C h m' → News g L h ((D, lst ys) :: news) → C ≠ L → D ≠ C → g.get? C = none → (∀ p ∈ news, p.1 ≠ C) → (∀ p ∈ news, p.1 < D) → RR (.ref D) C (.ok .next) { s₂ with heap := h, toks := tk }) :
    wpAny (model prog w) A (newList []) (fun acc s₃ => wpAny (model prog w) A (newFunctionEnv scope env.globals cl [] env.qual none .none (some env)) (fun cenv s₄ =>
      codeAny (model prog w) A (.compStart (.ListComp elt [⟨.Name x px, iter, ifs, 0⟩] scope pos) 0 (.ref I) acc { cenv with scope := relabel scope env }) (RR acc cenv.locals) s₄) E s₃) E s₂ := by
  refine wpAny_newObj_type (wpAny_newFunctionEnv hcell (by intro y hy; simp at hy) (fun h₁ hns₁ hsb₁ => ?_) hkind)
  dsimp only at hns₁ hsb₁ ⊢
  generalize hH2 : s₂.heap.push { cls := .type "list", dict := none, data := .seq ([] : List Value).toArray } = H2 at hns₁ hsb₁ ⊢
  have hC : H2.objs.size = s₂.heap.objs.size + 1 := by rw [← hH2, Heap.size_push]
  have hDC : s₂.heap.objs.size ≠ H2.objs.size := by rw [hC]; exact Nat.ne_of_lt (Nat.lt_succ_self _)
  have below : ∀ b, b < s₂.heap.objs.size → b ≠ H2.objs.size ∧ b ≠ s₂.heap.objs.size := fun b hb => ⟨by rw [hC]; exact Nat.ne_of_lt (Nat.lt_succ_of_lt hb), Nat.ne_of_lt hb⟩
  have hIlt : I < s₂.heap.objs.size := let ⟨_, e⟩ := hIo 0 _ hst; Heap.lt_size e
  have old : ∀ b o, s₂.heap.get? b = some o → h₁.get? b = some o := fun b o e => hsb₁.extBut b o (below b (Heap.lt_size e)).1 (Heap.get?_push_of_some _ (hH2 ▸ Heap.get?_push_of_some _ e))
  have hacc : h₁.get? s₂.heap.objs.size = some (lst []) := hsb₁.extBut _ _ hDC (Heap.get?_push_of_some _ (hH2 ▸ Heap.get?_push_size _ rfl))
  have hst₁ : St 0 h₁ := W.frame _ _ _ hst fun b _ o e => old b o e
  have fresh : ∀ a, s₂.heap.objs.size ≤ a → s₂.heap.get? a = none := fun a ha => Heap.get?_none_of_le ha
  have fresh₀ : ∀ a, s₂.heap.objs.size ≤ a → g.get? a = none := fun a ha => by
    cases e : g.get? a with
    | none => rfl
    | some o' => have := F.keep a o' e; rw [fresh a ha] at this; cases this
  have hLlt : L < s₂.heap.objs.size := F.ns.lt
  have hC₀ : g.get? H2.objs.size = none := fresh₀ _ (by rw [hC]; exact Nat.le_succ _)
  have hgL : g.objs.size ≤ H2.objs.size := Nat.le_trans F.above (by rw [hC]; exact Nat.le_succ_of_le (Nat.le_of_lt hLlt))
  have loop : ∀ s₃ : Shared, s₃ = { s₂ with heap := h₁, toks := s₂.toks + ([] : List (Str × Value)).length } →
      codeAny (model prog w) A (.compLoop (.ListComp elt [⟨.Name x px, iter, ifs, 0⟩] scope pos) 0 (.ref I) (.ref s₂.heap.objs.size) (compEnvC scope cl H2.objs.size env))
        (RR (.ref s₂.heap.objs.size) H2.objs.size) s₃ := by
    rintro s₃ rfl
    refine loop_L (C := H2.objs.size) (m := m) (news := news) (Rel := Rel) W hsz hIo hfp (lookup_relabel_local hx) hkind hst₁ (F.keeps old) ⟨_, hns₁, fun b o e => old b o (F.keep b o e), hgL⟩ (fun p hp => ⟨old _ _ (N p hp).1, (N p hp).2⟩) hacc hRel
      hIL (below I hIlt).1 (below I hIlt).2 (Ne.symm (below L hLlt).1) (Ne.symm (below L hLlt).2) hDC hIg hC₀ (fresh₀ _ (Nat.le_refl _)) (Heap.get?_none_of_le F.above)
      (fun p hp => ⟨off p hp, (below _ (Heap.lt_size (N p hp).1)).1, (below _ (Heap.lt_size (N p hp).1)).2⟩) (fun i v ys h₃ tk₃ m₃ oI oL E' => turn _ _ i v ys h₃ tk₃ m₃ oI oL E') hlen ?_
    intro h tk ys m' hR F' FC N'
    exact hRR _ _ h tk ys m' hR F' FC N' (Ne.symm (below L hLlt).1) hDC hC₀ (fun p hp => (below _ (Heap.lt_size (N p hp).1)).1) fun p hp => Heap.lt_size (N p hp).1
  exact codeAny_compStart_list (loop _ rfl) (W.self 0 _ _ _ hst₁ (loop _ rfl))
/-- what the iterator of a block brings -/
def SrcIt (prog : Program) (w : World) (A : Around) (g : Heap) (L : Addr) (m : Str → Option Value) (news : List (Addr × Obj)) (n : Nat) (P : Nat → Value → Prop) (s₁ : Shared) (it : Value) (s₂ : Shared) : Prop :=
  ∃ I fp St h, it = .ref I ∧ s₂ = { s₁ with heap := h } ∧ Walks prog w A I fp [I] n P St ∧ (∀ i h, St i h → ∃ o, h.get? I = some o) ∧ (∀ b ∈ fp, b = I ∨ (∃ o, g.get? b = some o) ∨ ∃ o, (b, o) ∈ news) ∧ St 0 h ∧
    Fr g L h m ∧ News g L h news ∧ I ≠ L ∧ g.get? I = none ∧ (∀ p ∈ news, p.1 ≠ I)
/-- the turns of a block over n things -/
def Turns (prog : Program) (w : World) (A : Around) (g : Heap) (L : Addr) (news : List (Addr × Obj)) (env : Env) (elt : Expr) (x : Str) (ifs : List Expr) (scope : Scope) (cl : List (Str × Addr)) (n : Nat) (P : Nat → Value → Prop) (Rel : Nat → List Value → Prop) (s₁ : Shared) : Prop :=
  ∀ C D I i v ys h₃ tk₃ m₃ oI oL (E' : Value → Shared → Prop), i < n → P i v → Rel i ys → m₃ x = some v → Fr g C h₃ m₃ → News g C h₃ ((I, oI) :: (D, lst ys) :: (L, oL) :: news) →
      TurnE prog w A E' g C m₃ ((I, oI) :: (D, lst ys) :: (L, oL) :: news) (compEnvC scope cl C env) ifs elt (Rel (i + 1) ys) (fun y => Rel (i + 1) (ys ++ [y])) { s₁ with heap := h₃, toks := tk₃ }
theorem ListComp_L {elt iter : Expr} {x : Str} {px : Pos} {ifs : List Expr} {scope : Scope} {cl : List (Str × Addr)} {pos : Pos} {s : Shared} {Q : Value → Shared → Prop} 
    (hclos : closureFor scope env = pure cl) (hcell : ∀ y ∈ scope.names, y.2 ≠ .cell) (hkind : scope.kind = .function)
    (hnames : ∀ y ∈ scope.names, y.2 = .local → scope.names.lookup y.1 = some .local) (hx : scope.names.lookup x = some .local)
    (h : wpAny (model prog w) A (eval iter env) (fun xv s₁ => ∃ n P Rel m news, n ≤ sizeLine ∧ Rel 0 [] ∧ (∀ i ys, Rel i ys → ys.length ≤ i) ∧ (∀ Q' : Value → Shared → Prop, (∀ it s₂, SrcIt prog w A g L m news n P s₁ it s₂ → Q' it s₂) → wpAny (model prog w) A (pyIter xv) Q' E s₁) ∧
      Turns prog w A g L news env elt x ifs scope cl n P Rel s₁ ∧
      ∀ D h tk ys, Rel n ys → Fr g L h m → News g L h ((D, lst ys) :: news) → (∀ p ∈ news, p.1 < D) → Q (.ref D) { s₁ with heap := h, toks := tk }) E s)
    (hs : ∀ x, foldedSetIterable iter env x = pure x := by intro _; rfl) :
    wpAny (model prog w) A (eval (.ListComp elt [⟨.Name x px, iter, ifs, 0⟩] scope pos) env) Q E s := by
  rw [eval_ListComp]
  refine wpAny_comprehension_free (use := none) rfl hs hclos hkind hnames (wpAny_mono h (fun xv s₁ h₁ => ?_) fun _ _ e => e)
  obtain ⟨n, P, Rel, m, news, hsz, hRel, hlen, hit, turns, fin⟩ := h₁
  refine hit _ ?_
  rintro it s₂ ⟨I, fp, St, hh, rfl, rfl, W, hIo, hfp, hst, F, N, hIL, hIg, off⟩
  refine block_L W hsz hIo hfp hcell hkind hx hst F N hRel hIL hIg off (fun C D i v ys h₃ tk₃ m₃ oI oL E' => turns C D I i v ys h₃ tk₃ m₃ oI oL E') hlen ?_
  intro D C h tk ys m' hR F' FC N' hCL hDC hCg offC hlt
  refine ⟨m', FC.ns, fun h'' hs'' => fin D h'' tk ys hR (F'.change hs'' hCL hCg) (fun p hp => ?_) hlt⟩
  refine ⟨hs''.extBut _ _ ?_ (N' p hp).1, (N' p hp).2⟩
  rcases List.mem_cons.mp hp with rfl | hp
  · exact hDC
  · exact offC p hp
theorem Assign_L {elt iter : Expr} {x y : Str} {px py : Pos} {ifs : List Expr} {scope : Scope} {cl : List (Str × Addr)} {pos spos : Pos} {s : Shared} {Q : Flow → Shared → Prop} (hLe : env.locals = L)
    (hsw : swapsWith (.ListComp elt [⟨.Name x px, iter, ifs, 0⟩] scope pos) (some (.Name y py)) spos.line env = pure true)
    (hclos : closureFor scope env = pure cl) (hcell : ∀ y ∈ scope.names, y.2 ≠ .cell) (hkind : scope.kind = .function)
    (hnames : ∀ y ∈ scope.names, y.2 = .local → scope.names.lookup y.1 = some .local) (hx : scope.names.lookup x = some .local)
    (hy : env.kindOf y = some .local) (hp : (env.scope.kind == .class || (env.scope.kind == .module && env.locals != env.globals)) = false)
    (h : wpAny (model prog w) A (eval iter env) (fun xv s₁ => ∃ n P Rel m news, n ≤ sizeLine ∧ Rel 0 [] ∧ (∀ i ys, Rel i ys → ys.length ≤ i) ∧ (∀ Q' : Value → Shared → Prop, (∀ it s₂, SrcIt prog w A g L m news n P s₁ it s₂ → Q' it s₂) → wpAny (model prog w) A (pyIter xv) Q' E s₁) ∧
      Turns prog w A g L news env elt x ifs scope cl n P Rel s₁ ∧
      ∀ D h tk ys, Rel n ys → Fr g L h (fun z => if z = y then some (.ref D) else m z) → News g L h ((D, lst ys) :: news) → (∀ p ∈ news, p.1 < D) → Q .next { s₁ with heap := h, toks := tk }) E s)
    (hs : ∀ x, foldedSetIterable iter env x = pure x := by intro _; rfl) :
    wpAny (model prog w) A (exec (.Assign [.Name y py] (.ListComp elt [⟨.Name x px, iter, ifs, 0⟩] scope pos) spos) env) Q E s := by
  subst hLe
  rw [exec_Assign_Name_used _ _ _ _ hsw]
  refine wpAny_bind (wpAny_standAt (wpAny_bind ?_))
  show wpAny _ A (do let _ ← comprehension (.ListComp elt [⟨.Name x px, iter, ifs, 0⟩] scope pos) scope env _ (newList []) false (eval iter env) (some (assign (.Name y py) env))) _ _ s
  refine wpAny_bind (wpAny_mono (wpAny_comprehension_free (use := some (assign (.Name y py) env)) (Q := fun _ s' => Q .next s') rfl hs hclos hkind hnames
    (wpAny_mono h (fun xv s₁ h₁ => ?_) fun _ _ e => e)) (fun _ s' hq => wpAny_pure (wpAny_pure hq)) fun _ _ e => e)
  obtain ⟨n, P, Rel, m, news, hsz, hRel, hlen, hit, turns, fin⟩ := h₁
  refine hit _ ?_
  rintro it s₂ ⟨I, fp, St, hh, rfl, rfl, W, hIo, hfp, hst, F, N, hIL, hIg, off⟩
  refine block_L W hsz hIo hfp hcell hkind hx hst F N hRel hIL hIg off (fun C D i v ys h₃ tk₃ m₃ oI oL E' => turns C D I i v ys h₃ tk₃ m₃ oI oL E') hlen ?_
  intro D C h tk ys m' hR F' FC N' hCL hDC hCg offC hlt
  show wpAny _ A (assign (.Name y py) env (.ref D)) _ _ _
  refine wpAny_assign_Name (wpAny_storeName_local hy F'.ns (fun h₂ hn₂ hs₂ => ?_) hp)
  have hL₀ : g.get? env.locals = none := Heap.get?_none_of_le F'.above
  have F₂ : Fr g env.locals h₂ (fun z => if z = y then some (.ref D) else m z) := ⟨hn₂, fun b o e => hs₂.extBut b o (fun q => by rw [q, hL₀] at e; cases e) (F'.keep b o e), F'.above⟩
  refine ⟨m', FC.ns.sameBut hs₂ hCL, fun h'' hs'' => fin D h'' _ ys hR (F₂.change hs'' hCL hCg) (fun p hp => ?_) hlt⟩
  have z : h₂.get? p.1 = some p.2 := hs₂.extBut _ _ (N' p hp).2.1 (N' p hp).1
  refine ⟨hs''.extBut _ _ ?_ z, (N' p hp).2⟩
  rcases List.mem_cons.mp hp with rfl | hp
  · exact hDC
  · exact offC p hp
end
end Mine

-- Led2
namespace Mine
section
open PySem.Calls PyProof.Rows.LCg
variable {prog : Program} {w : World} {A : Around} {E : Value → Shared → Prop} {g : Heap} {L : Addr} {m : Str → Option Value} {env : Env} {news : List (Addr × Obj)}
theorem led_apart {s : Shared} (N : News g L s.heap news) : ∀ p ∈ news, p.1 ≠ s.heap.objs.size := fun p hp => Nat.ne_of_lt (Heap.lt_size (N p hp).1)
theorem src_list {s₁ : Shared} {ax : Addr} {its : Array Value} (hh : A.handled = none) (F : Fr g L s₁.heap m) (N : News g L s₁.heap news) (hl : s₁.heap.IsList ax its) (hax : (∃ o, g.get? ax = some o) ∨ ∃ o, (ax, o) ∈ news) (Q' : Value → Shared → Prop)
    (h : ∀ it s₂, SrcIt prog w A g L m news its.size (fun i v => its[i]? = some v) s₁ it s₂ → Q' it s₂) : wpAny (model prog w) A (pyIter (.ref ax)) Q' E s₁ := by
  have hlt : ax < s₁.heap.objs.size := by obtain ⟨_, e, _⟩ := hl; exact Heap.lt_size e
  refine wpAny_pyIter_list hl (h _ _ ⟨_, [s₁.heap.objs.size, ax], _, _, rfl, rfl, Walks.list hh s₁.heap.objs.size ax (Nat.ne_of_lt hlt) its, fun i h st => ?_, fun b hb => ?_, ⟨⟨_, Heap.get?_push_size _ rfl, rfl, rfl⟩, hl.push _⟩, F.keeps fun b o e => Heap.get?_push_of_some _ e, N.grown fun b o e => Heap.get?_push_of_some _ e, Nat.ne_of_gt F.ns.lt, next_is_new F, led_apart N⟩)
  · obtain ⟨o, e, _⟩ := st.1; exact ⟨o, e⟩
  · rcases List.mem_cons.mp hb with rfl | hb
    · exact .inl rfl
    · rw [List.mem_singleton.mp hb]; exact .inr hax
theorem src_range {s₁ : Shared} {r : Addr} {a b : Int} {t u v : Tok} {n : Nat} (hh : A.handled = none) (F : Fr g L s₁.heap m) (N : News g L s₁.heap news) (hr : IsRange s₁.heap r a b 1 t u v) (hsm : Builtin.Range.small a b 1 = true) (hn : Builtin.Range.rangeSize a b 1 = ((n : Nat) : Int)) (Q' : Value → Shared → Prop)
    (h : ∀ it s₂, SrcIt prog w A g L m news n (fun i v => ∃ t, v = .int (a + (i : Int)) t) s₁ it s₂ → Q' it s₂) : wpAny (model prog w) A (pyIter (.ref r)) Q' E s₁ := by
  refine wpAny_pyIter_range hr hsm (h _ _ ⟨_, [s₁.heap.objs.size], _, _, rfl, rfl, range_walks hh a n, fun i h st => ⟨_, st⟩, fun b hb => .inl (List.mem_singleton.mp hb), ?_, F.keeps fun b o e => Heap.get?_push_of_some _ e, N.grown fun b o e => Heap.get?_push_of_some _ e, Nat.ne_of_gt F.ns.lt, next_is_new F, led_apart N⟩)
  show IsRangeIter _ _ _ _ _
  rw [hn]; simpa using Heap.get?_push_size _ rfl
theorem src_str {s₁ : Shared} {x : Str} {t : Tok} (hh : A.handled = none) (F : Fr g L s₁.heap m) (N : News g L s₁.heap news) (Q' : Value → Shared → Prop)
    (h : ∀ it s₂, SrcIt prog w A g L m news x.cps.size (SignAt x) s₁ it s₂ → Q' it s₂) : wpAny (model prog w) A (pyIter (.str x t)) Q' E s₁ := by
  cases ha : x.cps.all (· < 128)
  · exact wpAny_pyIter_wide ha (h _ _ ⟨_, [s₁.heap.objs.size], _, _, rfl, rfl, Walks.strWide hh _ x t, fun i h st => let ⟨o, e, _⟩ := st; ⟨o, e⟩, fun b hb => .inl (List.mem_singleton.mp hb), ⟨_, Heap.get?_push_size _ rfl, rfl, rfl⟩, F.keeps fun b o e => Heap.get?_push_of_some _ e, N.grown fun b o e => Heap.get?_push_of_some _ e, Nat.ne_of_gt F.ns.lt, next_is_new F, led_apart N⟩)
  · exact wpAny_pyIter_ascii ha (h _ _ ⟨_, [s₁.heap.objs.size], _, _, rfl, rfl, Walks.strAscii hh _ x t, fun i h st => let ⟨o, e, _⟩ := st; ⟨o, e⟩, fun b hb => .inl (List.mem_singleton.mp hb), ⟨_, Heap.get?_push_size _ rfl, rfl, rfl⟩, F.keeps fun b o e => Heap.get?_push_of_some _ e, N.grown fun b o e => Heap.get?_push_of_some _ e, Nat.ne_of_gt F.ns.lt, next_is_new F, led_apart N⟩)
theorem src_strN {s₁ : Shared} {x : Str} {t : Tok} {n : Nat} (hn : x.cps.size = n) (hh : A.handled = none) (F : Fr g L s₁.heap m) (N : News g L s₁.heap news) (Q' : Value → Shared → Prop)
    (h : ∀ it s₂, SrcIt prog w A g L m news n (SignAt x) s₁ it s₂ → Q' it s₂) : wpAny (model prog w) A (pyIter (.str x t)) Q' E s₁ := by
  subst hn
  exact src_str hh F N Q' h
theorem turn0 {C : Addr} {m₃ : Str → Option Value} {led : List (Addr × Obj)} {cenv : Env} {elt : Expr} {skip : Prop} {take : Value → Prop} {s₃ : Shared} (h : wpAny (model prog w) A (eval elt cenv) (fun y s₅ => EndE s₃ g C m₃ led (take y) s₅) E s₃) :
    TurnE prog w A E g C m₃ led cenv [] elt skip take s₃ := wpAny_tests_nil (by rw [if_pos rfl]; exact h)
theorem turn1 {C : Addr} {m₃ : Str → Option Value} {led : List (Addr × Obj)} {cenv : Env} {c elt : Expr} {skip : Prop} {take : Value → Prop} {s₃ : Shared}
    (h : wpAny (model prog w) A (isTrue c cenv (eval c cenv)) (fun b s₄ => if b = true then wpAny (model prog w) A (eval elt cenv) (fun y s₅ => EndE s₃ g C m₃ led (take y) s₅) E s₄ else EndE s₃ g C m₃ led skip s₄) E s₃) :
    TurnE prog w A E g C m₃ led cenv [c] elt skip take s₃ := wpAny_tests_one h
theorem end_e {s : Shared} {C : Addr} {h₃ h₄ : Heap} {tk₃ tk₄ : Nat} {m₃ m' : Str → Option Value} {led led' : List (Addr × Obj)} {Post : Prop} (hp : Post) (F : Fr g C h₄ m') (e : m₃ = m') (N : News g C h₄ led') (sub : ∀ p ∈ led, p ∈ led') :
    EndE { s with heap := h₃, toks := tk₃ } g C m₃ led Post { s with heap := h₄, toks := tk₄ } := by
  subst e
  exact ⟨hp, h₄, tk₄, rfl, F, fun p q => N p (sub p q)⟩
/-- what a block's source must bring (a value wanted) -/
def CompE (prog : Program) (w : World) (A : Around) (E : Value → Shared → Prop) (g : Heap) (L : Addr) (env : Env) (elt : Expr) (x : Str) (ifs : List Expr) (scope : Scope) (cl : List (Str × Addr)) (Q : Value → Shared → Prop) (xv : Value) (s₁ : Shared) : Prop :=
  ∃ n P Rel m news, n ≤ sizeLine ∧ Rel 0 [] ∧ (∀ i ys, Rel i ys → ys.length ≤ i) ∧ (∀ Q' : Value → Shared → Prop, (∀ it s₂, SrcIt prog w A g L m news n P s₁ it s₂ → Q' it s₂) → wpAny (model prog w) A (pyIter xv) Q' E s₁) ∧
      Turns prog w A g L news env elt x ifs scope cl n P Rel s₁ ∧
      ∀ D h tk ys, Rel n ys → Fr g L h m → News g L h ((D, lst ys) :: news) → (∀ p ∈ news, p.1 < D) → Q (.ref D) { s₁ with heap := h, toks := tk }
/-- the same, a local wanted -/
def CompA (prog : Program) (w : World) (A : Around) (E : Value → Shared → Prop) (g : Heap) (L : Addr) (env : Env) (elt : Expr) (x y : Str) (ifs : List Expr) (scope : Scope) (cl : List (Str × Addr)) (Q : Flow → Shared → Prop) (xv : Value) (s₁ : Shared) : Prop :=
  ∃ n P Rel m news, n ≤ sizeLine ∧ Rel 0 [] ∧ (∀ i ys, Rel i ys → ys.length ≤ i) ∧ (∀ Q' : Value → Shared → Prop, (∀ it s₂, SrcIt prog w A g L m news n P s₁ it s₂ → Q' it s₂) → wpAny (model prog w) A (pyIter xv) Q' E s₁) ∧
      Turns prog w A g L news env elt x ifs scope cl n P Rel s₁ ∧
      ∀ D h tk ys, Rel n ys → Fr g L h (fun z => if z = y then some (.ref D) else m z) → News g L h ((D, lst ys) :: news) → (∀ p ∈ news, p.1 < D) → Q .next { s₁ with heap := h, toks := tk }
theorem ListComp_M {elt iter : Expr} {x : Str} {px : Pos} {ifs : List Expr} {scope : Scope} {cl : List (Str × Addr)} {pos : Pos} {s : Shared} {Q : Value → Shared → Prop} 
    (hclos : closureFor scope env = pure cl) (hcell : ∀ y ∈ scope.names, y.2 ≠ .cell) (hkind : scope.kind = .function)
    (hnames : ∀ y ∈ scope.names, y.2 = .local → scope.names.lookup y.1 = some .local) (hx : scope.names.lookup x = some .local)
    (h : wpAny (model prog w) A (eval iter env) (fun xv s₁ => CompE prog w A E g L env elt x ifs scope cl Q xv s₁) E s)
    (hs : ∀ x, foldedSetIterable iter env x = pure x := by intro _; rfl) :
    wpAny (model prog w) A (eval (.ListComp elt [⟨.Name x px, iter, ifs, 0⟩] scope pos) env) Q E s := ListComp_L hclos hcell hkind hnames hx h hs
theorem Assign_M {elt iter : Expr} {x y : Str} {px py : Pos} {ifs : List Expr} {scope : Scope} {cl : List (Str × Addr)} {pos spos : Pos} {s : Shared} {Q : Flow → Shared → Prop} (hLe : env.locals = L)
    (hsw : swapsWith (.ListComp elt [⟨.Name x px, iter, ifs, 0⟩] scope pos) (some (.Name y py)) spos.line env = pure true)
    (hclos : closureFor scope env = pure cl) (hcell : ∀ y ∈ scope.names, y.2 ≠ .cell) (hkind : scope.kind = .function)
    (hnames : ∀ y ∈ scope.names, y.2 = .local → scope.names.lookup y.1 = some .local) (hx : scope.names.lookup x = some .local)
    (hy : env.kindOf y = some .local) (hp : (env.scope.kind == .class || (env.scope.kind == .module && env.locals != env.globals)) = false)
    (h : wpAny (model prog w) A (eval iter env) (fun xv s₁ => CompA prog w A E g L env elt x y ifs scope cl Q xv s₁) E s)
    (hs : ∀ x, foldedSetIterable iter env x = pure x := by intro _; rfl) :
    wpAny (model prog w) A (exec (.Assign [.Name y py] (.ListComp elt [⟨.Name x px, iter, ifs, 0⟩] scope pos) spos) env) Q E s := Assign_L hLe hsw hclos hcell hkind hnames hx hy hp h hs
end
end Mine

-- LawH
namespace Mine
section
variable {prog : Program} {w : World} {A : Around} {s : Shared} {K : Frag} {p : Program} {loose : List Str} {mean : ExcName → Option Value} {mg mb : Str → Option Value} {R : Result → Shared → Prop} {name qual : Str} {params : Arguments} {body : List Stmt} {scope : Scope} {dV kV doc pm cdv ct oc : Value} {an od : Option Addr} {osl : Array (Option Value)} {f : Addr} {args : Args} {binds : List (Str × Value)}
theorem enterC (X : K.In s.heap) (T : Top p loose mean mg mb s.heap)
    (ho : K.lookup f = some ⟨oc, od, .func (fnOf name qual params body scope dV kV doc pm an cdv ct), osl⟩) (hcd : codeIn K cdv qual = true) (hroom : A.depth < recursionLimit)
    (hbind : BindsTo s (fnOf name qual params body scope dV kV doc pm an cdv ct) args binds) (hkind : (binds.all fun y => scope.names.lookup y.1 == some .local || scope.names.lookup y.1 == some .cell) = true)
    (hnd : ((cellsFrom 0 scope.names []).map (·.1)).Nodup)
    (h : ∀ h₁ tk cells, Fr s.heap s.heap.objs.size h₁ (bindL (envOfC qual scope s.heap.objs.size f cdv).kindOf binds fun _ => none) → News s.heap s.heap.objs.size h₁ cells →
      CellsAre (bindC (envOfC qual scope s.heap.objs.size f cdv).kindOf binds fun _ => none) (cellsFrom (s.heap.objs.size + 1) scope.names []) cells →
      wpAny (model prog w) (A.deeper (envOfC qual scope s.heap.objs.size f cdv)) (execs body (envOfC qual scope s.heap.objs.size f cdv))
        (fun fl s' => R (.ok (.ret (match fl with | .ret v => v | _ => .none))) s') (fun _ _ => False) { s with heap := h₁, toks := tk })
    (hco : scope.isCoroutine = false) (hgen : scope.isGenerator = false) (hk : scope.kind = .function) : codeAny (model prog w) A (.call (.ref f) args) R s := by
  refine codeAny_call_function hroom (X _ _ ho) rfl hco hgen rfl (codeRec_of X hcd) (hbind _ _ _ _ ?_)
  refine wpAny_newFunctionEnv_cells hk (kindsX hkind _) fun env he s' hx => ?_
  subst he
  obtain ⟨h', tk', rfl, kp⟩ := hx.done
  have F : Fr s.heap s.heap.objs.size h' (bindL (envOfC qual scope s.heap.objs.size f cdv).kindOf binds fun _ => none) := ⟨hx.toInCall.ns, kp, Nat.le_refl _⟩
  obtain ⟨cells, N, Y⟩ := Cl.news (h₀ := s.heap) (L := s.heap.objs.size) (Nat.le_refl _) fun n c hm => ⟨hx.cell n c (lookup_of_mem_nodup (cellsFrom_names scope.names 0 (s.heap.objs.size + 1) [] [] rfl ▸ hnd) hm), hx.above n c hm⟩
  refine ⟨T.nolimit.keeps kp, codeAny_func (wpAny_mono (h h' tk' cells F N Y) (fun _ _ x => x) fun _ _ x => x.elim)⟩
end
theorem strsAre_snoc {vs : List Value} {ls : List Str} {y : Str} {t : Tok} (h : StrsAre vs ls) : StrsAre (vs ++ [.str y t]) (ls ++ [y]) := by
  induction h with
  | nil => exact .cons _ _ .nil
  | cons z u _ ih => exact .cons z u ih
theorem strs_range {f : Nat → Str} {i : Nat} {vs : List Value} {t : Tok} (h : StrsAre vs ((List.range i).map f)) : StrsAre (vs ++ [.str (f i) t]) ((List.range (i + 1)).map f) := by
  rw [List.range_succ, List.map_append]; exact strsAre_snoc h
theorem strs_len {f : Nat → Str} (i : Nat) (vs : List Value) (h : StrsAre vs ((List.range i).map f)) : vs.length ≤ i := by
  rw [StrsAre.length h]; simp
theorem all1 {m : Str → Option Value} {x : Str} {a : Value} (h1 : m x = some a) : ∀ p ∈ [(x, a)], m p.1 = some p.2 := by
  intro p hp
  rw [List.mem_singleton.mp hp]; exact h1
theorem strs7 {vs : List Value} {a b c d e f g : Str} (h : StrsAre vs [a, b, c, d, e, f, g]) : ∃ t1 t2 t3 t4 t5 t6 t7, vs = [.str a t1, .str b t2, .str c t3, .str d t4, .str e t5, .str f t6, .str g t7] := by
  rcases h with _ | ⟨_, t1, h⟩; rcases h with _ | ⟨_, t2, h⟩; rcases h with _ | ⟨_, t3, h⟩; rcases h with _ | ⟨_, t4, h⟩; rcases h with _ | ⟨_, t5, h⟩; rcases h with _ | ⟨_, t6, h⟩; rcases h with _ | ⟨_, t7, h⟩; cases h
  exact ⟨t1, t2, t3, t4, t5, t6, t7, rfl⟩
theorem ints7 {vs : List Value} {a b c d e f g : Int} (h : IntsAre vs [a, b, c, d, e, f, g]) : ∃ t1 t2 t3 t4 t5 t6 t7, vs = [.int a t1, .int b t2, .int c t3, .int d t4, .int e t5, .int f t6, .int g t7] := by
  rcases h with _ | ⟨_, t1, h⟩; rcases h with _ | ⟨_, t2, h⟩; rcases h with _ | ⟨_, t3, h⟩; rcases h with _ | ⟨_, t4, h⟩; rcases h with _ | ⟨_, t5, h⟩; rcases h with _ | ⟨_, t6, h⟩; rcases h with _ | ⟨_, t7, h⟩; cases h
  exact ⟨t1, t2, t3, t4, t5, t6, t7, rfl⟩
set_option maxRecDepth 100000 in
theorem names7 {vs : List Value} (h : StrsAre vs ((List.range 7).map (fun k : Nat => lawName (1 + (k : Int))))) : ∃ t1 t2 t3 t4 t5 t6 t7, vs = [.str "e" t1, .str "c" t2, .str "d" t3, .str "a" t4, .str "f" t5, .str "b" t6, .str "g" t7] := by
  rw [show (List.range 7).map (fun k : Nat => lawName (1 + (k : Int))) = [Str.ofString "e", Str.ofString "c", Str.ofString "d", Str.ofString "a", Str.ofString "f", Str.ofString "b", Str.ofString "g"] by decide +kernel] at h
  exact strs7 h
theorem lights7 {vs : List Value} (h : IntsAre vs ((List.range 7).map (fun k : Nat => lightOf (97 + k)))) : ∃ t1 t2 t3 t4 t5 t6 t7, vs = [.int 4 t1, .int 6 t2, .int 2 t3, .int 3 t4, .int 1 t5, .int 5 t6, .int 7 t7] := by
  rw [show (List.range 7).map (fun k : Nat => lightOf (97 + k)) = [4, 6, 2, 3, 1, 5, 7] by decide +kernel] at h
  exact ints7 h
theorem intsAre_snoc {vs : List Value} {ls : List Int} {y : Int} {t : Tok} (h : IntsAre vs ls) : IntsAre (vs ++ [.int y t]) (ls ++ [y]) := by
  induction h with
  | nil => exact .cons _ _ .nil
  | cons z u _ ih => exact .cons z u ih
theorem ints_range {f : Nat → Int} {i : Nat} {vs : List Value} {t : Tok} (h : IntsAre vs ((List.range i).map f)) : IntsAre (vs ++ [.int (f i) t]) ((List.range (i + 1)).map f) := by
  rw [List.range_succ, List.map_append]; exact intsAre_snoc h
theorem ints_len {f : Nat → Int} (i : Nat) (vs : List Value) (h : IntsAre vs ((List.range i).map f)) : vs.length ≤ i := by
  rw [IntsAre.length h]; simp
theorem sign7 : ∀ i, i < 7 → (Str.ofString "abcdefg").cps[i]? = some (97 + i) := by decide +kernel
end Mine

-- LawB
namespace Mine
/-- the law's own function, read from the written heap -/
noncomputable def lawFd (w : World) : Option FuncData := match (hd.heap_39 w.params).lookup 100 with
  | some o => (match o.data with | .func fd => some fd | _ => none)
  | none => none
noncomputable def lawBody (w : World) : List Stmt := match lawFd w with
  | some fd => (match fd.body with | .stmts b => b | _ => [])
  | none => []
noncomputable def lawScope (w : World) : Scope := match lawFd w with
  | some fd => fd.scope
  | none => default
noncomputable abbrev lawEnv (w : World) (L : Addr) : Env := envOfC (Str.ofString "law") (lawScope w) L 100 (.ref 99)
end Mine

-- LawS1
namespace Mine
section
local macro_rules | `(tactic| walk_at "eval ListComp") => `(tactic| ((first | (with_reducible show wpAny _ _ (eval (Expr.ListComp (Expr.Call (Expr.Name (Str.ofString "_law_name") _) _ _ _) _ _ _) _) _ _ _) | (with_reducible show wpAny _ _ (eval (Expr.ListComp (Expr.Call (Expr.Name (Str.ofString "_law_light") _) _ _ _) _ _ _) _) _ _ _)); refine Hold.out ?_))
local macro_rules | `(tactic| walk_at "exec Assign cons ListComp") => `(tactic| ((first | (with_reducible show wpAny _ _ (exec (Stmt.Assign [Expr.Name (Str.ofString "drawn") _] _ _) _) _ _ _) | (with_reducible show wpAny _ _ (exec (Stmt.Assign [Expr.Name (Str.ofString "letters") _] _ _) _) _ _ _) | (with_reducible show wpAny _ _ (exec (Stmt.Assign [Expr.Name (Str.ofString "shared") _] _ _) _) _ _ _) | (with_reducible show wpAny _ _ (exec (Stmt.Assign [Expr.Name (Str.ofString "pairs") _] _ _) _) _ _ _) | (with_reducible show wpAny _ _ (exec (Stmt.Assign [Expr.Name (Str.ofString "apart") _] _ _) _) _ _ _)); refine Hold.out ?_))
/-- where the law stands after its names and lights -/
structure St2 (g : Heap) (L a D D2 : Addr) (n1 n2 n3 n4 n5 n6 n7 u1 u2 u3 u4 u5 u6 u7 : Tok) (o1 o2 o3 o4 o5 o6 : Obj) (h : Heap) : Prop where
  F : Fr g L h (fun y => if y = Str.ofString "script" then some (.ref a) else none)
  N : News g L h [(D2, LCg.lst [.int 4 u1, .int 6 u2, .int 2 u3, .int 3 u4, .int 1 u5, .int 5 u6, .int 7 u7]), (D, LCg.lst [.str (Str.ofString "e") n1, .str (Str.ofString "c") n2, .str (Str.ofString "d") n3, .str (Str.ofString "a") n4, .str (Str.ofString "f") n5, .str (Str.ofString "b") n6, .str (Str.ofString "g") n7]),
    (L + 1 + 1 + 1 + 1 + 1 + 1, o6), (L + 1 + 1 + 1 + 1 + 1, o5), (L + 1 + 1 + 1 + 1, o4), (L + 1 + 1 + 1, o3), (L + 1 + 1, o2), (L + 1, o1)]
  d1 : o1.data = .cell (some (.ref D))
  d2 : o2.data = .cell (some (.ref D2))
  d3 : o3.data = .cell none
  d4 : o4.data = .cell none
  d5 : o5.data = .cell none
  d6 : o6.data = .cell none
  lD : @LT.lt Nat _ (L + 1 + 1 + 1 + 1 + 1 + 1) D
  lD2 : @LT.lt Nat _ D D2
noncomputable abbrev lawGo (w : World) (dp un : Nat) (fr : Option (List Env)) (gd : Option (List Code)) (L : Addr) (k : Nat) (R : Result → Shared → Prop) (s' : Shared) : Prop :=
  wpAny (model PySem.Challenge.rw_tr0022_01.row.prog w) ((AA dp un fr gd).deeper (lawEnv w L)) (execs ((lawBody w).drop k) (lawEnv w L)) (fun fl s' => R (.ok (.ret (match fl with | .ret v => v | _ => .none))) s') (fun _ _ => False) s'
local macro_rules | `(tactic| walk_at "exec If") => `(tactic| refine Hold.out ?_)
local macro_rules | `(tactic| walk_at "execs cons") => `(tactic| ((with_reducible show wpAny _ _ (execs (Stmt.If _ _ _ _ :: _) _) _ _ _); refine Hold.out ?_))
theorem law_s1 (w : World) (mean : ExcName → Option Value) (mg mb : Str → Option Value) (dp un : Nat) (fr : Option (List Env)) (gd : Option (List Code)) (s : Shared) (R : Result → Shared → Prop)
    (a : Addr) : (hd.heap_39 w.params).In s.heap → Top hd.view_39 (looseW hd.view_39 []) mean mg mb s.heap → dp + 40 < recursionLimit → un + 300 < cLine →
    (∀ (h' : Heap) (tk' : Nat) D D2 n1 n2 n3 n4 n5 n6 n7 u1 u2 u3 u4 u5 u6 u7 o1 o2 o3 o4 o5 o6, St2 s.heap s.heap.objs.size a D D2 n1 n2 n3 n4 n5 n6 n7 u1 u2 u3 u4 u5 u6 u7 o1 o2 o3 o4 o5 o6 h' → lawGo w dp un fr gd s.heap.objs.size 2 R { s with heap := h', toks := tk' }) →
    codeAny (model PySem.Challenge.rw_tr0022_01.row.prog w) (AA dp un fr gd) (.call (.ref 100) ⟨[.ref a], []⟩) R s := by
  w_top off
  k_fill
  intro X T h1 h2 hnext
  k_dflt (refine' enterC X T ?k6 ?k7 ?k8 ?k9 ?kB ?c5 ?_ ?c2 ?c3 ?c4; (case k6 => k_is); (case k7 => k_is); (case k8 => show dp < _; omega); (case k9 => exact BindsTo.of_eq rfl); (case c5 => decide); (case kB => exact rfl); (case c2 => exact rfl); (case c3 => exact rfl); (case c4 => exact rfl); k_whole; intro h' tk' cells F' N' Y')
  obtain ⟨o6, o5, o4, o3, o2, o1, hc, d6, d5, d4, d3, d2, d1⟩ := kc_six Y'
  subst hc
  clear Y'
  replace d1 : o1.data = .cell none := d1
  replace d2 : o2.data = .cell none := d2
  replace d3 : o3.data = .cell none := d3
  replace d4 : o4.data = .cell none := d4
  replace d5 : o5.data = .cell none := d5
  replace d6 : o6.data = .cell none := d6
  replace F' : Fr s.heap s.heap.objs.size h' (fun y => if y = Str.ofString "script" then some (.ref a) else none) := F'
  k_steps
  refine Hold.mk ?_
  refine' ListComp_M (g := s.heap) (L := s.heap.objs.size) (cl := []) ?x1 ?x2 ?x3 ?x4 ?x5 ?_ ?x6
  (case x1 => rfl)
  (case x2 => decide)
  (case x3 => rfl)
  (case x4 => decide)
  (case x5 => rfl)
  (case x6 => intro _; rfl)
  k_steps
  refine ⟨7, _, fun i ys => StrsAre ys ((List.range i).map (fun k : Nat => lawName (1 + (k : Int)))), _, _, by decide, StrsAre.nil, strs_len, src_range rfl (by assumption) (by assumption) (by assumption) (by decide) (by decide), ?_, ?_⟩
  · rintro C D I i v ys h₃ tk₃ m₃ oI oL E' hi ⟨t, rfl⟩ hR hm F N
    refine turn0 ?_
    have e := atL_eq (all1 hm)
    rw [e] at F
    k_steps
    all_goals (try k_data)
    refine' wpAny_call (b_name w mean mg mb _ _ _ _ _ _ _ _ ?x1 ?x2 ?x3 ?x4 ?x5 ?x6 ?_)
    (case x1 => k_in)
    (case x2 => exact T.keeps F.keep)
    (case x3 => show dp + 1 + 15 < recursionLimit; omega)
    (case x4 => show un + 3 + 100 < cLine; omega)
    (case x5 => omega)
    (case x6 => omega)
    intro t4 h4 tk4 kp
    exact end_e (strs_range hR) (F.grownK kp) e (N.grown kp) fun p hp => hp
  intro D h₅ tk₅ ys hR F₅ N₅ lD
  k_lt lD
  obtain ⟨n1, n2, n3, n4, n5, n6, n7, rfl⟩ := names7 hR
  clear hR
  k_steps
  refine Hold.mk ?_
  refine' ListComp_M (g := s.heap) (L := s.heap.objs.size) (cl := []) ?x1 ?x2 ?x3 ?x4 ?x5 ?_ ?x6
  (case x1 => rfl)
  (case x2 => decide)
  (case x3 => rfl)
  (case x4 => decide)
  (case x5 => rfl)
  (case x6 => intro _; rfl)
  k_steps
  refine ⟨7, _, fun i ys => IntsAre ys ((List.range i).map (fun k : Nat => lightOf (97 + k))), _, _, by decide, IntsAre.nil, ints_len, src_strN (by decide +kernel) rfl (by assumption) (by assumption), ?_, ?_⟩
  · rintro C D I i v ys h₃ tk₃ m₃ oI oL E' hi ⟨c, t, hc, rfl⟩ hR hm F N
    rw [sign7 i hi] at hc
    cases hc
    refine turn0 ?_
    have e := atL_eq (all1 hm)
    rw [e] at F
    k_steps
    all_goals (try k_data)
    refine' wpAny_call (b_light w mean mg mb _ _ _ _ _ _ _ _ ?x1 ?x2 ?x3 ?x4 ?x5 ?x6 ?_)
    (case x1 => k_in)
    (case x2 => exact T.keeps F.keep)
    (case x3 => show dp + 1 + 15 < recursionLimit; omega)
    (case x4 => show un + 3 + 100 < cLine; omega)
    (case x5 => omega)
    (case x6 => omega)
    intro t4 h4 tk4 kp
    exact end_e (ints_range hR) (F.grownK kp) e (N.grown kp) fun p hp => hp
  intro D2 h₆ tk₆ ys hR F₆ N₆ lD2
  k_lt lD2
  obtain ⟨u1, u2, u3, u4, u5, u6, u7, rfl⟩ := lights7 hR
  clear hR
  k_steps
  refine Hold.mk ?_
  refine hnext _ _ _ _ _ _ _ _ _ _ _ _ _ _ _ _ _ _ _ _ _ _ _ _ ⟨by assumption, by assumption, by assumption, by assumption, d3, d4, d5, d6, ?_, ?_⟩
  · exact lD.1
  · exact lD2.1
end
end Mine

-- LawS2
namespace Mine
section
open PySem.Calls PyProof.Rows.LCg
theorem src_listN {prog : Program} {w : World} {A : Around} {E : Value → Shared → Prop} {g : Heap} {L : Addr} {m : Str → Option Value} {news : List (Addr × Obj)} {s₁ : Shared} {ax : Addr} {ys : List Value} {n : Nat} (hh : A.handled = none) (F : Fr g L s₁.heap m) (N : News g L s₁.heap news) (hax : (ax, lst ys) ∈ news) (hn : ys.length = n) (Q' : Value → Shared → Prop)
    (h : ∀ it s₂, SrcIt prog w A g L m news n (fun i v => ys[i]? = some v) s₁ it s₂ → Q' it s₂) : wpAny (model prog w) A (pyIter (.ref ax)) Q' E s₁ := by
  subst hn
  have := src_list (E := E) (prog := prog) (w := w) hh F N (N.isList hax) (.inr ⟨_, hax⟩) Q'
  simp only [List.size_toArray, List.getElem?_toArray] at this
  exact this h
end
def letS (k : Nat) : Str := ([Str.ofString "a", Str.ofString "b", Str.ofString "c", Str.ofString "d", Str.ofString "e", Str.ofString "f", Str.ofString "g"] : List Str).getD k (Str.ofString "")
def sevenL : List Str := (List.range 7).map letS
theorem seven_shaped : SeqAt.shaped (.list (sevenL.map PyData.str)) = true := by decide +kernel
theorem seven_signs : signs (Str.ofString "abcdefg") = sevenL := by decide +kernel
theorem seven_same : PySem.Spec.same (.list (sevenL.map PyData.str)) (.list (sevenL.map PyData.str)) = true := by decide +kernel
theorem strs_carried : ∀ {vs : List Value} {ls : List Str}, StrsAre vs ls → CarriedAll vs (ls.map PyData.str)
  | _, _, .nil => .nil
  | _, _, .cons _ t r => .cons (.str _ t) (strs_carried r)
theorem ne_seven {prog : Program} {w : World} {A : Around} {E : Value → Shared → Prop} {s : Shared} {a b : Addr} {xs ys : List Value} {Q : Value → Shared → Prop} (ha : s.heap.IsList a xs.toArray) (hb : s.heap.IsList b ys.toArray) (hi : CarriedAll xs (sevenL.map PyData.str)) (hj : CarriedAll ys (sevenL.map PyData.str)) (hu : A.units + 64 < cLine) (h : Q (.bool false) s) :
    wpAny (model prog w) A (compareOp .NotEq (.ref a) (.ref b)) Q E s :=
  ne_dataH_same (reads_newData ha hi) (reads_newData hb hj) seven_shaped seven_shaped hu (SeqAt.noMix_of_shape (.list .str) rfl _ _ (list_str_has _) (list_str_has _)) (by rw [seven_same]; exact h)
section
local macro_rules | `(tactic| walk_at "eval ListComp") => `(tactic| refine Hold.out ?_)
local macro_rules | `(tactic| walk_at "execs cons") => `(tactic| ((with_reducible show wpAny _ _ (execs (Stmt.Assign [Expr.Name (Str.ofString "drawn") _] _ _ :: _) _) _ _ _); refine Hold.out ?_))
local macro_rules | `(tactic| walk_at "callWith type:list") => `(tactic| refine Hold.out ?_)
local macro_rules | `(tactic| walk_at "compareOp NotEq") => `(tactic| refine Hold.out ?_)
local macro_rules | `(tactic| walk_at "compareOp NotEq ref ref") => `(tactic| refine Hold.out ?_)
local macro_rules | `(tactic| walk_at "call type:list") => `(tactic| refine Hold.out ?_)
theorem law_s2 (w : World) (mean : ExcName → Option Value) (mg mb : Str → Option Value) (dp un : Nat) (fr : Option (List Env)) (gd : Option (List Code)) (s : Shared) (R : Result → Shared → Prop)
    (a : Addr) (h' : Heap) (tk' : Nat) (D D2 : Addr) (n1 n2 n3 n4 n5 n6 n7 u1 u2 u3 u4 u5 u6 u7 : Tok) (o1 o2 o3 o4 o5 o6 : Obj) : (hd.heap_39 w.params).In s.heap → Top hd.view_39 (looseW hd.view_39 []) mean mg mb s.heap → dp + 40 < recursionLimit → un + 300 < cLine →
    St2 s.heap s.heap.objs.size a D D2 n1 n2 n3 n4 n5 n6 n7 u1 u2 u3 u4 u5 u6 u7 o1 o2 o3 o4 o5 o6 h' →
    (∀ (h'' : Heap) (tk'' : Nat), St2 s.heap s.heap.objs.size a D D2 n1 n2 n3 n4 n5 n6 n7 u1 u2 u3 u4 u5 u6 u7 o1 o2 o3 o4 o5 o6 h'' → lawGo w dp un fr gd s.heap.objs.size 3 R { s with heap := h'', toks := tk'' }) →
    lawGo w dp un fr gd s.heap.objs.size 2 R { s with heap := h', toks := tk' } := by
  delta lawGo
  w_top off
  k_fill
  intro X T h1 h2 S hnext
  obtain ⟨F, N, d1, d2, d3, d4, d5, d6, lD, lD2⟩ := S
  show wpAny _ (Around.deeper _ (envOfC _ (Scope.mk _ _ _ _ _) _ _ _)) (execs (_ :: _ :: _ :: _ :: _ :: _ :: _ :: _ :: _ :: _ :: []) (envOfC _ (Scope.mk _ _ _ _ _) _ _ _)) _ _ _
  k_steps
  refine Hold.mk ?_
  refine' ListComp_M (g := s.heap) (L := s.heap.objs.size) (cl := _) ?x1 ?x2 ?x3 ?x4 ?x5 ?_ ?x6
  (case x1 => with_unfolding_all rfl)
  (case x2 => decide)
  (case x3 => rfl)
  (case x4 => decide)
  (case x5 => rfl)
  (case x6 => intro _; rfl)
  k_steps
  refine ⟨7, _, fun i ys => StrsAre ys ((List.range i).map letS), _, _, by decide, StrsAre.nil, strs_len, src_listN rfl F N List.mem_cons_self rfl, ?_, ?_⟩
  · rintro C D I i v ys h₃ tk₃ m₃ oI oL E' hi hP hR hm F N
    have e := atL_eq (all1 hm)
    refine turn0 ?_
    have key : ∀ k : Nat, i = k → k = 0 ∨ k = 1 ∨ k = 2 ∨ k = 3 ∨ k = 4 ∨ k = 5 ∨ k = 6 := fun k hk => by omega
    rcases key i rfl with rfl | rfl | rfl | rfl | rfl | rfl | rfl <;> cases hP <;> (rw [e] at F) <;> k_steps
    all_goals (try k_data)
    all_goals exact end_e (strs_range hR) (by assumption) e (by assumption) fun p hp => hp
  intro D3 h₇ tk₇ ys hR F₇ N₇ lD3
  k_lt lD3
  have h7 : StrsAre ys sevenL := hR
  clear hR
  k_steps
  refine Hold.mk ?_
  refine PySem.Pv.callWith_type1 ?_
  k_steps
  refine Hold.mk ?_
  refine list_strD rfl F₇ N₇ ?_
  intro h₈ tk₈ zs F₈ N₈ k8 hn8 hl8 hp8 hc8
  obtain ⟨hg8, ha8⟩ := hp8
  obtain ⟨c8, hg8⟩ := hg8
  k_steps
  refine Hold.mk ?_
  refine ne_seven (N₈.isList List.mem_cons_self) hl8 (strs_carried h7) (seven_signs ▸ hc8) (show un + 3 + 64 < cLine by omega) ?_
  k_steps
  refine Hold.mk ?_
  exact hnext _ _ ⟨F₈, fun p hp => N₈ p (List.mem_cons_of_mem _ hp), d1, d2, d3, d4, d5, d6, lD, lD2⟩
end
end Mine

-- LawS3
namespace Mine
theorem intsAre_get {vs : List Value} {ks : List Int} (h : IntsAre vs ks) : ∀ {i : Nat} {v : Value}, vs.toArray[i]? = some v → ∃ k t, ks[i]? = some k ∧ v = .int k t := by
  induction h with
  | nil => intro i v h; simp at h
  | cons z u _ ih =>
    intro i v h
    cases i with
    | zero => simp at h; exact ⟨z, u, rfl, h.symm⟩
    | succ i => exact ih (by simpa using h)
theorem take_snoc {f : Int → Int} {ks : List Int} {i : Nat} {k : Int} {ys : List Value} {t : Tok} (hk : ks[i]? = some k) (h : IntsAre ys ((ks.take i).map f)) : IntsAre (ys ++ [.int (f k) t]) ((ks.take (i + 1)).map f) := by
  rw [List.take_add_one, hk, List.map_append]; exact intsAre_snoc h
theorem take_len {f : Int → Int} {ks : List Int} (i : Nat) (ys : List Value) (h : IntsAre ys ((ks.take i).map f)) : ys.length ≤ i := by
  rw [IntsAre.length h]; simp; omega
section
local macro_rules | `(tactic| walk_at "exec Assign cons ListComp") => `(tactic| refine Hold.out ?_)
local macro_rules | `(tactic| walk_at "execs cons") => `(tactic| ((with_reducible show wpAny _ _ (execs (Stmt.Assign [Expr.Name (Str.ofString "rows") _] _ _ :: _) _) _ _ _); refine Hold.out ?_))
theorem law_s3 (w : World) (mean : ExcName → Option Value) (mg mb : Str → Option Value) (dp un : Nat) (fr : Option (List Env)) (gd : Option (List Code)) (s : Shared) (R : Result → Shared → Prop)
    (a : Addr) (vs : List Value) (ns : List Int) (h' : Heap) (tk' : Nat) (D D2 : Addr) (n1 n2 n3 n4 n5 n6 n7 u1 u2 u3 u4 u5 u6 u7 : Tok) (o1 o2 o3 o4 o5 o6 : Obj) : (hd.heap_39 w.params).In s.heap → Top hd.view_39 (looseW hd.view_39 []) mean mg mb s.heap → dp + 40 < recursionLimit → un + 300 < cLine →
    s.heap.IsList a vs.toArray → IntsAre vs ns → ns.length ≤ 63 →
    (∀ (h'' : Heap) (tk'' : Nat) (D5 : Addr) (ds : List Value), IntsAre ds ((ns.take 6).map (fun k => Int.fmod k 128)) → Fr s.heap s.heap.objs.size h'' (fun z => if z = Str.ofString "drawn" then some (.ref D5) else if z = Str.ofString "script" then some (.ref a) else none) →
      News s.heap s.heap.objs.size h'' ((D5, LCg.lst ds) :: [(D2, LCg.lst [.int 4 u1, .int 6 u2, .int 2 u3, .int 3 u4, .int 1 u5, .int 5 u6, .int 7 u7]), (D, LCg.lst [.str (Str.ofString "e") n1, .str (Str.ofString "c") n2, .str (Str.ofString "d") n3, .str (Str.ofString "a") n4, .str (Str.ofString "f") n5, .str (Str.ofString "b") n6, .str (Str.ofString "g") n7]),
        (s.heap.objs.size + 1 + 1 + 1 + 1 + 1 + 1, o6), (s.heap.objs.size + 1 + 1 + 1 + 1 + 1, o5), (s.heap.objs.size + 1 + 1 + 1 + 1, o4), (s.heap.objs.size + 1 + 1 + 1, o3), (s.heap.objs.size + 1 + 1, o2), (s.heap.objs.size + 1, o1)]) → @LT.lt Nat _ D2 D5 →
      lawGo w dp un fr gd s.heap.objs.size 4 R { s with heap := h'', toks := tk'' }) → St2 s.heap s.heap.objs.size a D D2 n1 n2 n3 n4 n5 n6 n7 u1 u2 u3 u4 u5 u6 u7 o1 o2 o3 o4 o5 o6 h' →
    lawGo w dp un fr gd s.heap.objs.size 3 R { s with heap := h', toks := tk' } := by
  delta lawGo
  w_top off
  k_fill
  intro X T h1 h2 hl hI hlen hnext S
  obtain ⟨F, N, d1, d2, d3, d4, d5, d6, lD, lD2⟩ := S
  show wpAny _ (Around.deeper _ (envOfC _ (Scope.mk _ _ _ _ _) _ _ _)) (execs (_ :: _ :: _ :: _ :: _ :: _ :: _ :: _ :: _ :: []) (envOfC _ (Scope.mk _ _ _ _ _) _ _ _)) _ _ _
  k_steps
  refine Hold.mk ?_
  refine' Assign_M (g := s.heap) (L := s.heap.objs.size) (cl := []) ?x0 ?x9 ?x1 ?x2 ?x3 ?x4 ?x5 ?x7 ?x8 ?_ ?x6
  (case x0 => rfl)
  (case x9 => rfl)
  (case x1 => with_unfolding_all rfl)
  (case x2 => decide)
  (case x3 => rfl)
  (case x4 => decide)
  (case x5 => rfl)
  (case x7 => rfl)
  (case x8 => rfl)
  (case x6 => intro _; rfl)
  k_steps
  rename_i D3 ws h₃ F₃ N₃ hW hC hL l3
  have hsz : ws.toArray.size ≤ sizeLine := by
    rw [List.size_toArray, IntsAre.length hW]
    exact Nat.le_trans hL (Nat.le_trans hlen (by decide))
  refine ⟨_, _, fun i ys => IntsAre ys (((ns.take 6).take i).map (fun k => Int.fmod k 128)), _, _, hsz, IntsAre.nil, take_len, src_list rfl F₃ N₃ (N₃.isList List.mem_cons_self) (.inr ⟨_, List.mem_cons_self⟩), ?_, ?_⟩
  · rintro C D' I i v ys h₃ tk₃ m₃ oI oL E' hi hP hR hm F N
    obtain ⟨k, t, hk, rfl⟩ := intsAre_get hW hP
    have e := atL_eq (all1 hm)
    refine turn0 ?_
    rw [e] at F
    k_steps
    all_goals (try k_data)
    exact end_e (take_snoc hk hR) (by assumption) e (by assumption) fun p hp => hp
  intro D5 h₅ tk₅ ds hR F₅ N₅ l5
  have hR' : IntsAre ds ((ns.take 6).map (fun k => Int.fmod k 128)) := by
    have e : (ns.take 6).take ws.toArray.size = ns.take 6 := List.take_of_length_le (by rw [List.size_toArray, IntsAre.length hW]; exact Nat.le_refl _)
    rw [← e]; exact hR
  k_steps
  refine Hold.mk ?_
  refine hnext _ _ D5 ds hR' F₅ (fun p hp => N₅ p ?_) (l5 _ (List.mem_cons_of_mem _ List.mem_cons_self))
  rcases List.mem_cons.mp hp with rfl | hp
  · exact List.mem_cons_self
  · exact List.mem_cons_of_mem _ (List.mem_cons_of_mem _ hp)
end
end Mine

-- LawS4
namespace Mine
/-- where the law stands before its loop, and after each turn -/
structure St5 (g : Heap) (L D D2 D5 l : Addr) (n1 n2 n3 n4 n5 n6 n7 u1 u2 u3 u4 u5 u6 u7 : Tok) (ds : List Value) (rs : Array Value) (c : Nat) (o1 o2 o3 o4 o5 o6 : Obj) (m : Str → Option Value) (h : Heap) : Prop where
  F : Fr g L h m
  N : News g L h [(l, W.listOf rs c), (D5, LCg.lst ds), (D2, LCg.lst [.int 4 u1, .int 6 u2, .int 2 u3, .int 3 u4, .int 1 u5, .int 5 u6, .int 7 u7]), (D, LCg.lst [.str (Str.ofString "e") n1, .str (Str.ofString "c") n2, .str (Str.ofString "d") n3, .str (Str.ofString "a") n4, .str (Str.ofString "f") n5, .str (Str.ofString "b") n6, .str (Str.ofString "g") n7]),
    (L + 1 + 1 + 1 + 1 + 1 + 1, o6), (L + 1 + 1 + 1 + 1 + 1, o5), (L + 1 + 1 + 1 + 1, o4), (L + 1 + 1 + 1, o3), (L + 1 + 1, o2), (L + 1, o1)]
  d1 : o1.data = .cell (some (.ref D))
  d2 : o2.data = .cell (some (.ref D2))
  d3 : o3.data = .cell (some (.ref l))
  d4 : ∃ v, o4.data = .cell v
  d5 : ∃ v, o5.data = .cell v
  d6 : o6.data = .cell none
  lD : @LT.lt Nat _ (L + 1 + 1 + 1 + 1 + 1 + 1) D
  lD2 : @LT.lt Nat _ D D2
  lD5 : @LT.lt Nat _ D2 D5
  ll : @LT.lt Nat _ D5 l
section
local macro_rules | `(tactic| walk_at "execs cons") => `(tactic| ((with_reducible show wpAny _ _ (execs (Stmt.For _ _ _ _ _ :: _) _) _ _ _); refine Hold.out ?_))
theorem law_s4 (w : World) (mean : ExcName → Option Value) (mg mb : Str → Option Value) (dp un : Nat) (fr : Option (List Env)) (gd : Option (List Code)) (s : Shared) (R : Result → Shared → Prop)
    (a : Addr) (ns : List Int) (h' : Heap) (tk' : Nat) (D D2 D5 : Addr) (ds : List Value) (n1 n2 n3 n4 n5 n6 n7 u1 u2 u3 u4 u5 u6 u7 : Tok) (o1 o2 o3 o4 o5 o6 : Obj) : (hd.heap_39 w.params).In s.heap → Top hd.view_39 (looseW hd.view_39 []) mean mg mb s.heap → dp + 40 < recursionLimit → un + 300 < cLine →
    IntsAre ds ((ns.take 6).map (fun k => Int.fmod k 128)) → Fr s.heap s.heap.objs.size h' (fun z => if z = Str.ofString "drawn" then some (.ref D5) else if z = Str.ofString "script" then some (.ref a) else none) →
      News s.heap s.heap.objs.size h' ((D5, LCg.lst ds) :: [(D2, LCg.lst [.int 4 u1, .int 6 u2, .int 2 u3, .int 3 u4, .int 1 u5, .int 5 u6, .int 7 u7]), (D, LCg.lst [.str (Str.ofString "e") n1, .str (Str.ofString "c") n2, .str (Str.ofString "d") n3, .str (Str.ofString "a") n4, .str (Str.ofString "f") n5, .str (Str.ofString "b") n6, .str (Str.ofString "g") n7]),
        (s.heap.objs.size + 1 + 1 + 1 + 1 + 1 + 1, o6), (s.heap.objs.size + 1 + 1 + 1 + 1 + 1, o5), (s.heap.objs.size + 1 + 1 + 1 + 1, o4), (s.heap.objs.size + 1 + 1 + 1, o3), (s.heap.objs.size + 1 + 1, o2), (s.heap.objs.size + 1, o1)]) → @LT.lt Nat _ D2 D5 → @LT.lt Nat _ (s.heap.objs.size + 1 + 1 + 1 + 1 + 1 + 1) D → @LT.lt Nat _ D D2 →
    (∀ (h'' : Heap) (tk'' : Nat) (l : Addr) (o3' : Obj), St5 s.heap s.heap.objs.size D D2 D5 l n1 n2 n3 n4 n5 n6 n7 u1 u2 u3 u4 u5 u6 u7 ds #[] 0 o1 o2 o3' o4 o5 o6 (fun z => if z = Str.ofString "drawn" then some (.ref D5) else if z = Str.ofString "script" then some (.ref a) else none) h'' →
      lawGo w dp un fr gd s.heap.objs.size 5 R { s with heap := h'', toks := tk'' }) →
    o1.data = .cell (some (.ref D)) → o2.data = .cell (some (.ref D2)) → o3.data = .cell none → o4.data = .cell none → o5.data = .cell none → o6.data = .cell none →
    lawGo w dp un fr gd s.heap.objs.size 4 R { s with heap := h', toks := tk' } := by
  delta lawGo
  w_top off
  k_fill
  intro X T h1 h2 hds F N l5 lD lD2 hnext d1 d2 d3 d4 d5 d6
  show wpAny _ (Around.deeper _ (envOfC _ (Scope.mk _ _ _ _ _) _ _ _)) (execs (_ :: _ :: _ :: _ :: _ :: _ :: _ :: _ :: []) (envOfC _ (Scope.mk _ _ _ _ _) _ _ _)) _ _ _
  k_steps
  refine Hold.mk ?_
  refine hnext _ _ _ _ ⟨by assumption, by assumption, d1, d2, by assumption, ⟨_, d4⟩, ⟨_, d5⟩, d6, lD, lD2, l5, ?_⟩
  omega
end
end Mine

-- LawLH
namespace Mine
/-- the body of the law's loop -/
noncomputable def lawLoop (w : World) : List Stmt := match (lawBody w).drop 5 with
  | .For _ _ b _ _ :: _ => b
  | _ => []
noncomputable abbrev loopGo (w : World) (dp un : Nat) (fr : Option (List Env)) (gd : Option (List Code)) (L : Addr) (k : Nat) (Q : Flow → Shared → Prop) (E : Value → Shared → Prop) (s' : Shared) : Prop :=
  wpAny (model PySem.Challenge.rw_tr0022_01.row.prog w) ((AA dp un fr gd).deeper (lawEnv w L)) (execs ((lawLoop w).drop k) (lawEnv w L)) Q E s'
theorem bit_all : ∀ k, k < 128 → ∀ i, i < 7 → decide (Builtin.bitAnd (((k : Nat) : Int).fdiv (2 ^ ((0 : Int) + ((i : Nat) : Int)).toNat)) 1 = 0) = !k.testBit i := by decide +kernel
theorem bit_yes {k i : Nat} (hk : k < 128) (hi : i < 7) (h : Builtin.bitAnd ((k : Int).fdiv (2 ^ ((0 : Int) + (i : Int)).toNat)) 1 ≠ 0) : k.testBit i = true := by
  have := bit_all k hk i hi
  rw [decide_eq_false h] at this
  cases q : k.testBit i with
  | true => rfl
  | false => rw [q] at this; cases this
theorem bit_no {k i : Nat} (hk : k < 128) (hi : i < 7) (h : Builtin.bitAnd ((k : Int).fdiv (2 ^ ((0 : Int) + (i : Int)).toNat)) 1 = 0) : k.testBit i = false := by
  have := bit_all k hk i hi
  rw [decide_eq_true h] at this
  cases q : k.testBit i with
  | false => rfl
  | true => rw [q] at this; cases this
theorem bits_take {k i : Nat} {ys : List Value} {t : Tok} (hb : k.testBit i = true) (h : StrsAre ys (((List.range i).filter (fun j => k.testBit j)).map nmS)) : StrsAre (ys ++ [.str (nmS i) t]) (((List.range (i + 1)).filter (fun j => k.testBit j)).map nmS) := by
  rw [List.range_succ, List.filter_append, List.filter_cons_of_pos hb, List.filter_nil, List.map_append]; exact strsAre_snoc h
theorem bits_skip {k i : Nat} {ys : List Value} (hb : k.testBit i = false) (h : StrsAre ys (((List.range i).filter (fun j => k.testBit j)).map nmS)) : StrsAre ys (((List.range (i + 1)).filter (fun j => k.testBit j)).map nmS) := by
  rw [List.range_succ, List.filter_append, List.filter_cons_of_neg (by rw [hb]; exact Bool.false_ne_true), List.filter_nil, List.append_nil]; exact h
theorem take_snocN {f : Nat → Int} {ks : List Nat} {i k : Nat} {ys : List Value} {t : Tok} (hk : ks[i]? = some k) (h : IntsAre ys ((ks.take i).map f)) : IntsAre (ys ++ [.int (f k) t]) ((ks.take (i + 1)).map f) := by
  rw [List.take_add_one, hk, List.map_append]; exact intsAre_snoc h
theorem take_snocE {f : Nat → Int} {ks : List Nat} {i k : Nat} {z : Int} {ys : List Value} {t : Tok} (hk : ks[i]? = some k) (h : IntsAre ys ((ks.take i).map f)) (hz : z = f k) : IntsAre (ys ++ [.int z t]) ((ks.take (i + 1)).map f) := by
  subst hz; exact take_snocN hk h
theorem take_lenN {f : Nat → Int} {ks : List Nat} (i : Nat) (ys : List Value) (h : IntsAre ys ((ks.take i).map f)) : ys.length ≤ i := by
  rw [IntsAre.length h]; simp; omega
def rowBit (c : Nat) : Int := ([8, 32, 2, 4, 1, 16, 64] : List Int).getD (c - 97) 0
theorem left_sum : ∀ k, k < 128 → ((leftL k).map rowBit).sum = (k : Int) := by decide +kernel
theorem left_in : ∀ k, k < 128 → ∀ c ∈ leftL k, 97 ≤ c ∧ c ≤ 103 := by decide +kernel
theorem left_len : ∀ k, k < 128 → (leftL k).length ≤ 7 := by decide +kernel
/-- where the law stands inside its loop: DI the list that it runs over, I the iterator -/
structure StL (g : Heap) (L D D2 D5 l DI I : Addr) (n1 n2 n3 n4 n5 n6 n7 u1 u2 u3 u4 u5 u6 u7 : Tok) (ds ws : List Value) (rs : Array Value) (c : Nat) (oI o1 o2 o3 o4 o5 o6 : Obj) (m : Str → Option Value) (h : Heap) : Prop where
  F : Fr g L h m
  N : News g L h [(I, oI), (DI, W.listOf ws.toArray 0), (l, W.listOf rs c), (D5, LCg.lst ds), (D2, LCg.lst [.int 4 u1, .int 6 u2, .int 2 u3, .int 3 u4, .int 1 u5, .int 5 u6, .int 7 u7]), (D, LCg.lst [.str (Str.ofString "e") n1, .str (Str.ofString "c") n2, .str (Str.ofString "d") n3, .str (Str.ofString "a") n4, .str (Str.ofString "f") n5, .str (Str.ofString "b") n6, .str (Str.ofString "g") n7]),
    (L + 1 + 1 + 1 + 1 + 1 + 1, o6), (L + 1 + 1 + 1 + 1 + 1, o5), (L + 1 + 1 + 1 + 1, o4), (L + 1 + 1 + 1, o3), (L + 1 + 1, o2), (L + 1, o1)]
  d1 : o1.data = .cell (some (.ref D))
  d2 : o2.data = .cell (some (.ref D2))
  d3 : o3.data = .cell (some (.ref l))
  d4 : ∃ v, o4.data = .cell v
  d5 : ∃ v, o5.data = .cell v
  d6 : o6.data = .cell none
  lD : @LT.lt Nat _ (L + 1 + 1 + 1 + 1 + 1 + 1) D
  lD2 : @LT.lt Nat _ D D2
  lD5 : @LT.lt Nat _ D2 D5
  ll : @LT.lt Nat _ D5 l
  lDI : @LT.lt Nat _ l DI
  lI : @LT.lt Nat _ DI I
end Mine

-- LawL1
namespace Mine
section
local macro_rules | `(tactic| walk_at "execs cons") => `(tactic| ((with_reducible show wpAny _ _ (execs (Stmt.If _ _ _ _ :: _) _) _ _ _); refine Hold.out ?_))
local macro_rules | `(tactic| walk_at "exec Assign cons ListComp") => `(tactic| refine Hold.out ?_)
local macro_rules | `(tactic| walk_at "eval ListComp") => `(tactic| refine Hold.out ?_)
theorem loop_1 (w : World) (mean : ExcName → Option Value) (mg mb : Str → Option Value) (dp un : Nat) (fr : Option (List Env)) (gd : Option (List Code)) (s s1 : Shared) (Q : Flow → Shared → Prop) (E : Value → Shared → Prop)
    (k : Nat) (t0 : Tok) (D D2 D5 l DI I : Addr) (ds ws : List Value) (rs : Array Value) (c : Nat) (n1 n2 n3 n4 n5 n6 n7 u1 u2 u3 u4 u5 u6 u7 : Tok) (oI o1 o2 o3 o4 o5 o6 : Obj) (m : Str → Option Value) : (hd.heap_39 w.params).In s.heap → Top hd.view_39 (looseW hd.view_39 []) mean mg mb s.heap → dp + 40 < recursionLimit → un + 300 < cLine →
    k < 128 → StL s.heap s.heap.objs.size D D2 D5 l DI I n1 n2 n3 n4 n5 n6 n7 u1 u2 u3 u4 u5 u6 u7 ds ws rs c oI o1 o2 o3 o4 o5 o6 m s1.heap → o4.data = .cell (some (.int (k : Int) t0)) →
    (∀ h' tk' (G9 : Array GenState) (o5' : Obj) (t5 t9 : Tok) (m' : Str → Option Value), (AllBare s1.gens → AllBare G9) → StL s.heap s.heap.objs.size D D2 D5 l DI I n1 n2 n3 n4 n5 n6 n7 u1 u2 u3 u4 u5 u6 u7 ds ws rs c oI o1 o2 o3 o4 o5' o6 (fun y => if y = Str.ofString "left" then some (.str (leftS k) t9) else m' y) h' → o5'.data = .cell (some (.int (k : Int) t5)) →
      loopGo w dp un fr gd s.heap.objs.size 3 Q E { s1 with heap := h', toks := tk', gens := G9 }) →
    loopGo w dp un fr gd s.heap.objs.size 0 Q E s1 := by
  delta loopGo
  w_top off
  k_fill
  intro X T h1 h2 hk S d4' hnext
  obtain ⟨F, N, d1, d2, d3, d4, d5, d6, lD, lD2, lD5, ll, lDI, lI⟩ := S
  clear d4
  obtain ⟨x5, d5⟩ := d5
  show wpAny _ (Around.deeper _ (envOfC _ (Scope.mk _ _ _ _ _) _ _ _)) (execs (_ :: _ :: _ :: _ :: _ :: _ :: []) (envOfC _ (Scope.mk _ _ _ _ _) _ _ _)) _ _ _
  k_steps
  refine Hold.mk ?_
  refine' Assign_M (g := s.heap) (L := s.heap.objs.size) (cl := _) ?x0 ?x9 ?x1 ?x2 ?x3 ?x4 ?x5 ?x7 ?x8 ?_ ?x6
  (case x0 => rfl)
  (case x9 => rfl)
  (case x1 => with_unfolding_all rfl)
  (case x2 => decide)
  (case x3 => rfl)
  (case x4 => decide)
  (case x5 => rfl)
  (case x7 => rfl)
  (case x8 => rfl)
  (case x6 => intro _; rfl)
  k_steps
  refine ⟨7, _, fun i ys => StrsAre ys (((List.range i).filter (fun j => k.testBit j)).map nmS), _, _, by decide, StrsAre.nil, ?len, src_range rfl (by assumption) (by assumption) (by assumption) (by decide) (by decide), ?_, ?_⟩
  case len => intro i ys h; rw [StrsAre.length h]; simp only [List.length_map]; exact Nat.le_trans (List.length_filter_le _ _) (by simp)
  · rintro C D' I' i v ys h₃ tk₃ m₃ oI' oL E' hi ⟨t, rfl⟩ hR hm F N
    have e := atL_eq (all1 hm)
    refine turn1 ?_
    have key : ∀ k : Nat, i = k → k = 0 ∨ k = 1 ∨ k = 2 ∨ k = 3 ∨ k = 4 ∨ k = 5 ∨ k = 6 := fun k hk => by omega
    rcases key i rfl with rfl | rfl | rfl | rfl | rfl | rfl | rfl <;> (rw [e] at F) <;> k_steps
    all_goals (try k_data)
    all_goals first
      | exact end_e (bits_take (bit_yes hk hi (by assumption)) hR) (by assumption) e (by assumption) fun p hp => hp
      | exact end_e (bits_skip (bit_no hk hi (by assumption)) hR) (by assumption) e (by assumption) fun p hp => hp
  intro D6 h6 tk6 ls hR F6 N6 l6
  k_lt l6
  k_steps
  refine' wpAny_call (b_reply w mean mg mb _ _ _ _ _ _ D6 ls _ ?x1 ?x2 ?x3 ?x4 (N6.isList List.mem_cons_self) hR ?_)
  (case x1 => k_in)
  (case x2 => exact T.keeps F6.keep)
  (case x3 => show dp + 1 + 15 < recursionLimit; omega)
  (case x4 => show un + 3 + 100 < cLine; omega)
  intro t7 h7 tk7 k7
  have F7 := F6.grownK k7
  have N7 := N6.grown k7
  clear k7
  dsimp only
  k_steps
  refine' wpAny_call (b_parse w mean mg mb _ _ _ _ _ _ _ _ ?x1 ?x2 ?x3 ?x4 (vis_reply k hk).1.1 (vis_reply k hk).1.2 (vis_reply k hk).2.1 (vis_reply k hk).2.2 ?_)
  (case x1 => k_in)
  (case x2 => exact T.keeps F7.keep)
  (case x3 => show dp + 1 + 15 < recursionLimit; omega)
  (case x4 => show un + 3 + 100 < cLine; omega)
  intro t8 h8 tk8 k8
  have F8 := F7.grownK k8
  have N8 := N7.grown k8
  clear k8
  dsimp only
  k_steps
  refine' wpAny_call (b_strip w mean mg mb _ _ _ _ _ _ _ _ ?x1 ?x2 ?x3 ?x4 (vis_no92 k hk) (vis_len k hk) ?_)
  (case x1 => k_in)
  (case x2 => exact T.keeps F8.keep)
  (case x3 => show dp + 1 + 15 < recursionLimit; omega)
  (case x4 => show un + 3 + 100 < cLine; omega)
  intro t9 h9 tk9 G9 k9 hG9
  have F9 := F8.grownK k9
  have N9 := N8.grown k9
  clear k9
  dsimp only
  rw [show stripS _ = leftS k from left_is k hk]
  k_steps
  refine Hold.mk ?_
  refine' ListComp_M (g := s.heap) (L := s.heap.objs.size) (cl := _) ?x1 ?x2 ?x3 ?x4 ?x5 ?_ ?x6
  (case x1 => with_unfolding_all rfl)
  (case x2 => decide)
  (case x3 => rfl)
  (case x4 => decide)
  (case x5 => rfl)
  (case x6 => intro _; rfl)
  k_steps
  refine ⟨(leftL k).length, _, fun i ys => IntsAre ys (((leftL k).take i).map rowBit), _, _, Nat.le_trans (left_len k hk) (by decide), IntsAre.nil, take_lenN, src_strN (by simp [leftS]) rfl (by assumption) (by assumption), ?_, ?_⟩
  · rintro C D' I' i v ys h₃ tk₃ m₃ oI' oL E' hi ⟨c, t, hc, rfl⟩ hR hm F N
    have hc' : (leftL k)[i]? = some c := by simpa [leftS] using hc
    obtain ⟨c1, c2⟩ := left_in k hk c (List.mem_of_getElem? hc')
    have e := atL_eq (all1 hm)
    refine turn0 ?_
    have key : c = 97 ∨ c = 98 ∨ c = 99 ∨ c = 100 ∨ c = 101 ∨ c = 102 ∨ c = 103 := by omega
    rcases key with rfl | rfl | rfl | rfl | rfl | rfl | rfl <;> (rw [e] at F) <;> k_steps
    all_goals (try k_data)
    all_goals first
      | exact absurd (by assumption : Txt.find _ _ = -1) (by decide +kernel)
      | (refine end_e (s := { s1 with gens := G9 }) (take_snocE (f := rowBit) hc' hR ?_) (by assumption) e (by assumption) (fun p hp => hp); decide +kernel)
  intro D7 h10 tk10 qs hR F10 N10 l10
  k_lt l10
  rw [List.take_length] at hR
  k_steps
  rename_i h11 tk11 t11 F11 N11 h12 o5' F12 N12 d5'
  rw [left_sum k hk] at d5'
  refine Hold.mk ?_
  refine hnext _ _ G9 o5' _ t9 _ hG9 ⟨F12, fun p hp => N12 p (List.mem_cons_of_mem _ (List.mem_cons_of_mem _ hp)), d1, d2, d3, ⟨_, d4'⟩, ⟨_, d5'⟩, d6, lD, lD2, lD5, ll, lDI, lI⟩ d5'
end
end Mine

-- Comb
namespace Mine
/-- bits on -/
def pc (n : Nat) : Nat := n % 2 + n / 2 % 2 + n / 4 % 2 + n / 8 % 2 + n / 16 % 2 + n / 32 % 2 + n / 64 % 2
def nz (n : Nat) : Bool := !(Nat.beq n 0)
/-- one light at most in both -/
def meetsB (a b : Nat) : Bool := Nat.beq (Nat.land (Nat.land a b) (Nat.land a b - 1)) 0
def pairsN : List Nat := [3, 5, 6, 9, 10, 12, 17, 18, 20, 24, 33, 34, 36, 40, 48, 65, 66, 68, 72, 80, 96]
def coverB (k p : Nat) : Bool := Nat.beq (Nat.land k p) p
def uncov (rows : List Nat) (p : Nat) : Bool := rows.all fun k => !coverB k p
def missing (rows : List Nat) : List Nat := pairsN.filter (uncov rows)
def touchB (a b : Nat) : Bool := nz (Nat.land a b)
def allTouch : List Nat → Bool
  | [] => true
  | a :: r => r.all (touchB a) && allTouch r
def sizesB (ls : List Nat) : Bool := ls.all (fun n => Nat.beq (pc n) 3) || (ls.all (fun n => Nat.beq (pc n) 2 || Nat.beq (pc n) 6) && Nat.beq (ls.countP (fun n => Nat.beq (pc n) 6)) 1)
def goodL (ls : List Nat) (n : Nat) : Bool := Nat.ble 7 n && ((Nat.beq n 7 == allTouch ls) && (Nat.beq n 7 == (Nat.beq n 7 && sizesB ls)))
def goodB (rows : List Nat) : Bool := goodL (rows ++ missing rows) (rows ++ missing rows).length
def masks : List Nat := [7, 11, 13, 14, 15, 19, 21, 22, 23, 25, 26, 27, 28, 29, 30, 31, 35, 37, 38, 39, 41, 42, 43, 44, 45, 46, 47, 49, 50, 51, 52, 53, 54, 55, 56, 57, 58, 59, 60, 61, 62, 63, 67, 69, 70, 71, 73, 74, 75, 76, 77, 78, 79, 81, 82, 83, 84, 85, 86, 87, 88, 89, 90, 91, 92, 93, 94, 95, 97, 98, 99, 100, 101, 102, 103, 104, 105, 106, 107, 108, 109, 110, 111, 112, 113, 114, 115, 116, 117, 118, 119, 120, 121, 122, 123, 124, 125, 126]
def chk : Nat → List Nat → List Nat → Bool
  | 0, _, _ => false
  | _ + 1, [], cur => goodB cur
  | f + 1, m :: ms, cur => chk f ms cur && chk f (ms.filter (meetsB m)) (m :: cur)
/-! the same check written by the recursors themselves: the kernel runs it some eight times faster -/
noncomputable def filt (p : Nat → Bool) (l : List Nat) : List Nat := List.rec [] (fun a _ ih => Bool.rec ih (a :: ih) (p a)) l
noncomputable def allR (p : Nat → Bool) (l : List Nat) : Bool := List.rec true (fun a _ ih => Bool.rec false ih (p a)) l
noncomputable def touchR (l : List Nat) : Bool := List.rec true (fun a r ih => Bool.rec false ih (allR (fun b => nz (Nat.land a b)) r)) l
noncomputable def lenR (l : List Nat) : Nat := List.rec 0 (fun _ _ ih => Nat.add ih 1) l
noncomputable def sixR (l : List Nat) : Nat := List.rec 0 (fun a _ ih => Bool.rec ih (Nat.add ih 1) (Nat.beq (pc a) 6)) l
noncomputable def sizesR (l : List Nat) : Bool := Bool.rec (Bool.rec false (Nat.beq (sixR l) 1) (allR (fun n => Nat.beq (pc n) 2 || Nat.beq (pc n) 6) l)) true (allR (fun n => Nat.beq (pc n) 3) l)
noncomputable def leafR (l : List Nat) (n : Nat) : Bool := Bool.rec (Bool.rec (Bool.rec true false (touchR l)) false (Nat.ble n 7)) (Bool.rec false (sizesR l) (touchR l)) (Nat.beq n 7)
noncomputable def appR (l r : List Nat) : List Nat := List.rec r (fun a _ ih => a :: ih) l
noncomputable def chkR (f : Nat) : List Nat → List Nat → List Nat → Bool :=
  Nat.rec (fun _ _ _ => false) (fun _ ih ms cur u => List.rec (leafR (appR cur u) (Nat.add (lenR cur) (lenR u))) (fun m ms _ => Bool.rec false (ih (filt (fun b => Nat.beq (Nat.land (Nat.land m b) (Nat.sub (Nat.land m b) 1)) 0) ms) (m :: cur) (filt (fun p => !(Nat.beq (Nat.land m p) p)) u)) (ih ms cur u)) ms) f
theorem filt_eq (p : Nat → Bool) : ∀ l, filt p l = l.filter p
  | [] => rfl
  | a :: l => by
    have ih := filt_eq p l
    show (Bool.rec (filt p l) (a :: filt p l) (p a) : List Nat) = _
    rw [ih, List.filter_cons]
    cases p a <;> rfl
theorem allR_eq (p : Nat → Bool) : ∀ l, allR p l = l.all p
  | [] => rfl
  | a :: l => by
    have ih := allR_eq p l
    show (Bool.rec false (allR p l) (p a) : Bool) = _
    rw [ih, List.all_cons]
    cases p a <;> rfl
theorem touchR_eq : ∀ l, touchR l = allTouch l
  | [] => rfl
  | a :: l => by
    have ih := touchR_eq l
    show (Bool.rec false (touchR l) (allR (fun b => nz (Nat.land a b)) l) : Bool) = (l.all (touchB a) && allTouch l)
    rw [ih, allR_eq]
    show (Bool.rec false (allTouch l) (l.all (touchB a)) : Bool) = _
    cases l.all (touchB a) <;> rfl
theorem lenR_eq : ∀ l, lenR l = l.length
  | [] => rfl
  | a :: l => by
    have ih := lenR_eq l
    show Nat.add (lenR l) 1 = _
    rw [ih]; rfl
theorem sixR_eq : ∀ l, sixR l = l.countP (fun n => Nat.beq (pc n) 6)
  | [] => rfl
  | a :: l => by
    have ih := sixR_eq l
    show (Bool.rec (sixR l) (Nat.add (sixR l) 1) (Nat.beq (pc a) 6) : Nat) = _
    rw [ih, List.countP_cons]
    cases Nat.beq (pc a) 6 <;> rfl
theorem sizesR_eq (l : List Nat) : sizesR l = sizesB l := by
  unfold sizesR sizesB
  rw [allR_eq, allR_eq, sixR_eq]
  cases l.all (fun n => Nat.beq (pc n) 3) <;> cases l.all (fun n => Nat.beq (pc n) 2 || Nat.beq (pc n) 6) <;> rfl
theorem appR_eq (r : List Nat) : ∀ l, appR l r = l ++ r
  | [] => rfl
  | a :: l => by
    have ih := appR_eq r l
    show a :: appR l r = _
    rw [ih]; rfl
theorem leafR_good {l : List Nat} {n : Nat} (h : leafR l n = true) : goodL l n = true := by
  unfold leafR at h
  rw [sizesR_eq, touchR_eq] at h
  unfold goodL
  cases q : Nat.beq n 7 with
  | true =>
    rw [q] at h
    have e : n = 7 := Nat.eq_of_beq_eq_true q
    subst e
    cases q1 : allTouch l with
    | false => rw [q1] at h; cases h
    | true => rw [q1] at h; rw [show sizesB l = true from h]; rfl
  | false =>
    rw [q] at h
    cases q2 : Nat.ble n 7 with
    | true => rw [q2] at h; cases h
    | false =>
      rw [q2] at h
      have e : Nat.ble 7 n = true := by
        refine Nat.ble_eq.mpr ?_
        refine Nat.le_of_not_le fun hn => ?_
        rw [Nat.ble_eq.mpr hn] at q2; cases q2
      cases q1 : allTouch l with
      | true => rw [q1] at h; cases h
      | false => rw [e]; rfl
theorem missing_cons (m : Nat) (cur : List Nat) : missing (m :: cur) = (missing cur).filter (fun p => !(Nat.beq (Nat.land m p) p)) := by
  unfold missing
  rw [List.filter_filter]
  apply List.filter_congr
  intro p _
  show (!coverB m p && uncov cur p) = _
  rfl
theorem chkR_chk : ∀ (f : Nat) (ms cur : List Nat), chkR f ms cur (missing cur) = true → chk f ms cur = true := by
  intro f
  induction f with
  | zero => intro ms cur h; cases h
  | succ f ih =>
    intro ms cur h
    cases ms with
    | nil =>
      have h2 : leafR (appR cur (missing cur)) (Nat.add (lenR cur) (lenR (missing cur))) = true := h
      rw [appR_eq, lenR_eq, lenR_eq] at h2
      have h3 := leafR_good h2
      show goodB cur = true
      unfold goodB
      rw [List.length_append]
      exact h3
    | cons m ms =>
      have h2 : (Bool.rec false (chkR f (filt (meetsB m) ms) (m :: cur) (filt (fun p => !(Nat.beq (Nat.land m p) p)) (missing cur))) (chkR f ms cur (missing cur)) : Bool) = true := h
      rw [filt_eq, filt_eq, ← missing_cons] at h2
      rw [chk, Bool.and_eq_true]
      cases q : chkR f ms cur (missing cur) with
      | false => rw [q] at h2; cases h2
      | true =>
        rw [q] at h2
        exact ⟨ih _ _ q, ih _ _ h2⟩
theorem chkR_all : chkR 99 masks [] pairsN = true := by decide +kernel
theorem missing_nil : missing [] = pairsN := by decide +kernel
theorem chk_all : chk 99 masks [] = true := chkR_chk 99 masks [] (by rw [missing_nil]; exact chkR_all)
end Mine

-- Comb2
namespace Mine
theorem land_sw (a b : Nat) : Nat.land a b = Nat.land b a := Nat.and_comm a b
theorem meets_comm (a b : Nat) : meetsB a b = meetsB b a := by unfold meetsB; rw [land_sw a b]
theorem touch_comm (a b : Nat) : touchB a b = touchB b a := by unfold touchB; rw [land_sw a b]
theorem all_perm {α : Type} {l l' : List α} (h : l.Perm l') (p : α → Bool) : l.all p = l'.all p := by
  rw [Bool.eq_iff_iff, List.all_eq_true, List.all_eq_true]
  exact ⟨fun q x hx => q x (h.mem_iff.mpr hx), fun q x hx => q x (h.mem_iff.mp hx)⟩
theorem allTouch_iff : ∀ l : List Nat, allTouch l = true ↔ l.Pairwise (fun a b => touchB a b = true)
  | [] => ⟨fun _ => .nil, fun _ => rfl⟩
  | a :: r => by
    rw [List.pairwise_cons, allTouch, Bool.and_eq_true, List.all_eq_true, allTouch_iff r]
theorem allTouch_perm {l l' : List Nat} (h : l.Perm l') : allTouch l = allTouch l' := by
  rw [Bool.eq_iff_iff, allTouch_iff, allTouch_iff]
  exact h.pairwise_iff (fun {a b} q => by rw [touch_comm]; exact q)
theorem goodL_perm {l l' : List Nat} (h : l.Perm l') (n : Nat) : goodL l n = goodL l' n := by
  unfold goodL sizesB
  rw [allTouch_perm h, all_perm h, all_perm h, h.countP_eq]
theorem missing_perm {l l' : List Nat} (h : l.Perm l') : missing l = missing l' := by
  unfold missing
  apply List.filter_congr
  intro p _
  exact all_perm h _
theorem goodB_perm {l l' : List Nat} (h : l.Perm l') : goodB l = goodB l' := by
  unfold goodB
  rw [missing_perm h]
  have q : (l ++ missing l').Perm (l' ++ missing l') := h.append_right _
  rw [goodL_perm q, q.length_eq]
theorem chk_sound : ∀ (f : Nat) (ms cur : List Nat), chk f ms cur = true → ∀ T : List Nat, T.Sublist ms → T.Pairwise (fun a b => meetsB a b = true) → goodB (T.reverse ++ cur) = true := by
  intro f
  induction f with
  | zero => intro ms cur h; cases h
  | succ f ih =>
    intro ms cur h T hs hp
    cases ms with
    | nil =>
      rw [List.sublist_nil.mp hs]
      exact h
    | cons m ms =>
      rw [chk, Bool.and_eq_true] at h
      cases hs with
      | cons _ hs => exact ih _ _ h.1 T hs hp
      | cons_cons _ hs =>
        rename_i T'
        rw [List.pairwise_cons] at hp
        have hs' : T'.Sublist (ms.filter (meetsB m)) := by
          have e : T'.filter (meetsB m) = T' := List.filter_eq_self.mpr hp.1
          rw [← e]; exact hs.filter _
        have := ih _ _ h.2 T' hs' hp.2
        rw [List.reverse_cons, List.append_assoc]
        exact this
theorem count_one {a : Nat} : ∀ {l : List Nat}, l.Nodup → a ∈ l → l.count a = 1
  | [], _, h => nomatch h
  | b :: l, hn, h => by
    rw [List.nodup_cons] at hn
    by_cases q : b = a
    · subst q
      rw [List.count_cons_self, List.count_eq_zero.mpr hn.1]
    · rw [List.count_cons_of_ne q, count_one hn.2 ((List.mem_cons.mp h).resolve_left fun e => q e.symm)]
theorem masks_self : ∀ a ∈ masks, meetsB a a = false := by decide +kernel
theorem masks_nodup : masks.Nodup := by decide +kernel
/-- every list of rows of three to six lights, each two of which share one light at most, is good -/
theorem good_rows (rows : List Nat) (hm : ∀ r ∈ rows, r ∈ masks) (hp : rows.Pairwise (fun a b => meetsB a b = true)) : goodB rows = true := by
  have hn : rows.Nodup := by
    refine List.Pairwise.imp_of_mem (fun {a b} ha _ h => ?_) hp
    rintro rfl
    rw [masks_self a (hm a ha)] at h; cases h
  have hperm : rows.Perm (masks.filter (fun a => decide (a ∈ rows))) := by
    rw [List.perm_iff_count]
    intro a
    have hn' : (masks.filter (fun a => decide (a ∈ rows))).Nodup := masks_nodup.filter _
    by_cases ha : a ∈ rows
    · rw [count_one hn ha, count_one hn' (List.mem_filter.mpr ⟨hm a ha, decide_eq_true ha⟩)]
    · have h2 : a ∉ masks.filter (fun a => decide (a ∈ rows)) := fun q => ha (of_decide_eq_true (List.mem_filter.mp q).2)
      rw [List.count_eq_zero.mpr ha, List.count_eq_zero.mpr h2]
  have hT := chk_sound 99 masks [] chk_all (masks.filter (fun a => decide (a ∈ rows))) List.filter_sublist
    (hperm.pairwise hp (fun {a b} q => by rw [meets_comm]; exact q))
  rw [List.append_nil] at hT
  rw [goodB_perm (hperm.trans (List.reverse_perm _).symm)]
  exact hT
end Mine

-- LawL2
namespace Mine
def stepR (rows : List Nat) (k : Nat) : List Nat := if (decide (k ∈ masks) && rows.all (meetsB k)) = true then rows ++ [k] else rows
theorem masks_len : ∀ k, k < 128 → decide (k ∈ masks) = decide (2 < ((leftL k).length : Int) ∧ ((leftL k).length : Int) < 7) := by decide +kernel
theorem meets_all : ∀ o : Nat, o < 128 → decide (Builtin.bitAnd (o : Int) ((o : Int) - 1) = 0) = Nat.beq (Nat.land o (o - 1)) 0 := by decide +kernel
theorem land_lt {k r : Nat} (hk : k < 128) : Nat.land k r < 128 := Nat.lt_of_le_of_lt (Nat.and_le_left (n := k) (m := r)) hk
theorem meets_yes {k r : Nat} (hk : k < 128) (h : Builtin.bitAnd ((Nat.land k r : Nat) : Int) (((Nat.land k r : Nat) : Int) - 1) = 0) : meetsB k r = true := by
  have := meets_all _ (land_lt (r := r) hk)
  rw [decide_eq_true h] at this
  exact this.symm
theorem meets_no {k r : Nat} (hk : k < 128) (h : Builtin.bitAnd ((Nat.land k r : Nat) : Int) (((Nat.land k r : Nat) : Int) - 1) ≠ 0) : meetsB k r = false := by
  have := meets_all _ (land_lt (r := r) hk)
  rw [decide_eq_false h] at this
  exact this.symm
theorem filt_take {p : Nat → Bool} {f : Nat → Int} {ks : List Nat} {i r : Nat} {ys : List Value} {t : Tok} (hr : ks[i]? = some r) (hp : p r = true) (h : IntsAre ys (((ks.take i).filter p).map f)) : IntsAre (ys ++ [.int (f r) t]) (((ks.take (i + 1)).filter p).map f) := by
  rw [List.take_add_one, hr, List.filter_append, Option.toList, List.filter_cons_of_pos hp, List.filter_nil, List.map_append]; exact intsAre_snoc h
theorem filt_skip {p : Nat → Bool} {f : Nat → Int} {ks : List Nat} {i r : Nat} {ys : List Value} (hr : ks[i]? = some r) (hp : p r = false) (h : IntsAre ys (((ks.take i).filter p).map f)) : IntsAre ys (((ks.take (i + 1)).filter p).map f) := by
  rw [List.take_add_one, hr, List.filter_append, Option.toList, List.filter_cons_of_neg (by rw [hp]; exact Bool.false_ne_true), List.filter_nil, List.append_nil]; exact h
theorem filt_len {p : Nat → Bool} {f : Nat → Int} {ks : List Nat} (i : Nat) (ys : List Value) (h : IntsAre ys (((ks.take i).filter p).map f)) : ys.length ≤ i := by
  rw [IntsAre.length h, List.length_map]
  exact Nat.le_trans (List.length_filter_le _ _) (List.length_take_le _ _)
theorem step_add {k : Nat} {rows : List Nat} {f : Nat → Int} (hk : k < 128) (h2 : 2 < ((leftL k).length : Int)) (h7 : ((leftL k).length : Int) < 7) (h : decide (List.map f (rows.filter (fun r => !meetsB k r)) = []) = true) : stepR rows k = rows ++ [k] := by
  have h := of_decide_eq_true h
  rw [List.map_eq_nil_iff, List.filter_eq_nil_iff] at h
  unfold stepR
  rw [if_pos]
  rw [Bool.and_eq_true, masks_len k hk]
  refine ⟨decide_eq_true ⟨h2, h7⟩, List.all_eq_true.mpr fun r hr => ?_⟩
  have := h r hr
  cases q : meetsB k r with
  | true => rfl
  | false => rw [q] at this; exact absurd rfl this
theorem step_not {k : Nat} {rows : List Nat} {f : Nat → Int} (h : decide (List.map f (rows.filter (fun r => !meetsB k r)) = []) = false) : stepR rows k = rows := by
  have h := of_decide_eq_false h
  unfold stepR
  rw [if_neg]
  rw [Bool.and_eq_true]
  rintro ⟨-, q⟩
  refine h ?_
  rw [List.map_eq_nil_iff, List.filter_eq_nil_iff]
  intro r hr
  rw [List.all_eq_true.mp q r hr]
  exact Bool.false_ne_true
theorem step_few {k : Nat} {rows : List Nat} (hk : k < 128) (h2 : ¬ (2 < ((leftL k).length : Int) ∧ ((leftL k).length : Int) < 7)) : stepR rows k = rows := by
  unfold stepR
  rw [if_neg]
  rw [Bool.and_eq_true, masks_len k hk]
  rintro ⟨q, -⟩
  exact h2 (of_decide_eq_true q)
section
local macro_rules | `(tactic| walk_at "exec Assign cons ListComp") => `(tactic| refine Hold.out ?_)
local macro_rules | `(tactic| walk_at "eval ListComp") => `(tactic| refine Hold.out ?_)
theorem loop_2 (w : World) (mean : ExcName → Option Value) (mg mb : Str → Option Value) (dp un : Nat) (fr : Option (List Env)) (gd : Option (List Code)) (s s1 : Shared) (Q : Flow → Shared → Prop) (E : Value → Shared → Prop)
    (k : Nat) (t0 t5 t9 : Tok) (D D2 D5 l DI I : Addr) (ds ws : List Value) (rs : Array Value) (rows : List Nat) (c : Nat) (n1 n2 n3 n4 n5 n6 n7 u1 u2 u3 u4 u5 u6 u7 : Tok) (oI o1 o2 o3 o4 o5 o6 : Obj) (m : Str → Option Value) : (hd.heap_39 w.params).In s.heap → Top hd.view_39 (looseW hd.view_39 []) mean mg mb s.heap → dp + 40 < recursionLimit → un + 300 < cLine →
    k < 128 → StL s.heap s.heap.objs.size D D2 D5 l DI I n1 n2 n3 n4 n5 n6 n7 u1 u2 u3 u4 u5 u6 u7 ds ws rs c oI o1 o2 o3 o4 o5 o6 (fun y => if y = Str.ofString "left" then some (.str (leftS k) t9) else m y) s1.heap → o4.data = .cell (some (.int (k : Int) t0)) → o5.data = .cell (some (.int (k : Int) t5)) →
    IntsAre rs.toList (rows.map (fun r : Nat => (r : Int))) → (∀ r ∈ rows, r < 128) → rows.length ≤ 60 →
    (∀ (h' : Heap) (tk' : Nat) (rs' : Array Value) (c' : Nat) (m' : Str → Option Value), IntsAre rs'.toList ((stepR rows k).map (fun r : Nat => (r : Int))) → StL s.heap s.heap.objs.size D D2 D5 l DI I n1 n2 n3 n4 n5 n6 n7 u1 u2 u3 u4 u5 u6 u7 ds ws rs' c' oI o1 o2 o3 o4 o5 o6 m' h' → Q .next { s1 with heap := h', toks := tk' }) →
    loopGo w dp un fr gd s.heap.objs.size 3 Q E s1 := by
  delta loopGo
  w_top off
  k_fill
  intro X T h1 h2 hk S d4' d5' hrs hr128 hrl hnext
  obtain ⟨F, N, d1, d2, d3, d4, d5, d6, lD, lD2, lD5, ll, lDI, lI⟩ := S
  clear d4 d5
  show wpAny _ (Around.deeper _ (envOfC _ (Scope.mk _ _ _ _ _) _ _ _)) (execs (_ :: _ :: _ :: []) (envOfC _ (Scope.mk _ _ _ _ _) _ _ _)) _ _ _
  k_steps
  · exact absurd rfl (by assumption)
  refine Hold.mk ?_
  refine' Assign_M (g := s.heap) (L := s.heap.objs.size) (cl := _) ?x0 ?x9 ?x1 ?x2 ?x3 ?x4 ?x5 ?x7 ?x8 ?_ ?x6
  (case x0 => rfl)
  (case x9 => rfl)
  (case x1 => with_unfolding_all rfl)
  (case x2 => decide)
  (case x3 => rfl)
  (case x4 => decide)
  (case x5 => rfl)
  (case x7 => rfl)
  (case x8 => rfl)
  (case x6 => intro _; rfl)
  k_steps
  have hrsz : rs.size = rows.length := by have := IntsAre.length hrs; simpa using this
  refine ⟨rs.size, _, fun i ys => IntsAre ys ((rows.take i).map (fun r : Nat => ((Nat.land k r : Nat) : Int))), _, _, Nat.le_trans (hrsz ▸ hrl) (by decide), IntsAre.nil, take_lenN, src_list rfl (by assumption) (by assumption) ⟨_, (N _ (List.mem_cons_of_mem _ (List.mem_cons_of_mem _ List.mem_cons_self))).1, rfl, _, rfl⟩ (.inr ⟨_, List.mem_cons_of_mem _ (List.mem_cons_of_mem _ List.mem_cons_self)⟩), ?_, ?_⟩
  · rintro C D' I' i v ys h₃ tk₃ m₃ oI' oL E' hi hP hR hm F N
    obtain ⟨z, t, hz, rfl⟩ := intsAre_get hrs (by simpa using hP)
    obtain ⟨r, hr, rfl⟩ : ∃ r : Nat, rows[i]? = some r ∧ (r : Int) = z := by simpa using hz
    have e := atL_eq (all1 hm)
    refine turn0 ?_
    rw [e] at F
    k_steps
    all_goals (try k_data)
    exact end_e (take_snocE (f := fun r : Nat => ((Nat.land k r : Nat) : Int)) hr hR rfl) (by assumption) e (by assumption) (fun p hp => hp)
  intro D6 h6 tk6 sh hR F6 N6 l6
  k_lt l6
  rw [hrsz, List.take_length] at hR
  k_steps
  have hll : (leftS k).length = (leftL k).length := by simp [leftS, Str.length]
  have hl7 := left_len k hk
  refine len_str (by rw [hll]; omega) ?_
  rw [hll]
  k_steps
  · refine Hold.mk ?_
    refine' ListComp_M (g := s.heap) (L := s.heap.objs.size) (cl := _) ?x1 ?x2 ?x3 ?x4 ?x5 ?_ ?x6
    (case x1 => with_unfolding_all rfl)
    (case x2 => decide)
    (case x3 => rfl)
    (case x4 => decide)
    (case x5 => rfl)
    (case x6 => intro _; rfl)
    k_steps
    have hshsz : sh.length = rows.length := by have := IntsAre.length hR; simpa using this
    refine ⟨sh.toArray.size, _, fun i ys => IntsAre ys (((rows.take i).filter (fun r => !meetsB k r)).map (fun r : Nat => ((Nat.land k r : Nat) : Int))), _, _, by rw [List.size_toArray, hshsz]; exact Nat.le_trans hrl (by decide), IntsAre.nil, filt_len, src_list rfl (by assumption) (by assumption) ⟨_, (N6 _ List.mem_cons_self).1, rfl, _, rfl⟩ (.inr ⟨_, List.mem_cons_self⟩), ?_, ?_⟩
    · rintro C D' I' i v ys h₃ tk₃ m₃ oI' oL E' hi hP hR' hm F N
      obtain ⟨z, t, hz, rfl⟩ := intsAre_get hR (by simpa using hP)
      obtain ⟨r, hr, rfl⟩ : ∃ r : Nat, rows[i]? = some r ∧ ((Nat.land k r : Nat) : Int) = z := by simpa using hz
      have e := atL_eq (all1 hm)
      refine turn1 ?_
      rw [e] at F
      k_steps
      all_goals (try k_data)
      all_goals first
        | exact end_e (filt_take (p := fun r => !meetsB k r) (f := fun r : Nat => ((Nat.land k r : Nat) : Int)) hr (by show (!meetsB k r) = true; rw [meets_no hk (by assumption)]; rfl) hR') (by assumption) e (by assumption) fun p hp => hp
        | exact end_e (filt_skip (p := fun r => !meetsB k r) (f := fun r : Nat => ((Nat.land k r : Nat) : Int)) hr (by show (!meetsB k r) = false; rw [meets_yes hk (by assumption)]; rfl) hR') (by assumption) e (by assumption) fun p hp => hp
    intro D7 h7 tk7 ot hR' F7 N7 l7
    k_lt l7
    rw [List.size_toArray, hshsz, List.take_length] at hR'
    k_steps
    · rename_i hlt2 hlt7 l' h8 l1' hd h9 F9 N9
      refine hnext _ _ _ _ _ ?_ ⟨F9, fun p hp => N9 p (List.mem_cons_of_mem _ (List.mem_cons_of_mem _ (List.mem_cons_of_mem _ hp))), d1, d2, d3, ⟨_, d4'⟩, ⟨_, d5'⟩, d6, lD, lD2, lD5, ll, lDI, lI⟩
      rw [step_add hk hlt2 hlt7 hd, List.map_append, Array.toList_push]
      exact intsAre_snoc hrs
    · rename_i hlt2 hlt7 l' h8 F9 N9 l1' hd
      refine hnext _ _ _ _ _ ?_ ⟨F9, fun p hp => N9 p (List.mem_cons_of_mem _ (List.mem_cons_of_mem _ (List.mem_cons_of_mem _ hp))), d1, d2, d3, ⟨_, d4'⟩, ⟨_, d5'⟩, d6, lD, lD2, lD5, ll, lDI, lI⟩
      rw [step_not hd]
      exact hrs
  · rename_i hlt2 hlt7
    refine hnext _ _ _ _ _ ?_ ⟨F6, fun p hp => N6 p (List.mem_cons_of_mem _ hp), d1, d2, d3, ⟨_, d4'⟩, ⟨_, d5'⟩, d6, lD, lD2, lD5, ll, lDI, lI⟩
    rw [step_few hk (fun q => hlt7 q.2)]
    exact hrs
  · rename_i hlt2
    refine hnext _ _ _ _ _ ?_ ⟨F6, fun p hp => N6 p (List.mem_cons_of_mem _ hp), d1, d2, d3, ⟨_, d4'⟩, ⟨_, d5'⟩, d6, lD, lD2, lD5, ll, lDI, lI⟩
    rw [step_few hk (fun q => hlt2 q.1)]
    exact hrs
end
end Mine

-- LawF
namespace Mine
theorem loop_b (w : World) (mean : ExcName → Option Value) (mg mb : Str → Option Value) (dp un : Nat) (fr : Option (List Env)) (gd : Option (List Code)) (s s1 : Shared) (Q : Flow → Shared → Prop) (E : Value → Shared → Prop)
    (k : Nat) (t0 : Tok) (D D2 D5 l DI I : Addr) (ds ws : List Value) (rs : Array Value) (rows : List Nat) (c : Nat) (n1 n2 n3 n4 n5 n6 n7 u1 u2 u3 u4 u5 u6 u7 : Tok) (oI o1 o2 o3 o4 o5 o6 : Obj) (m : Str → Option Value) (X : (hd.heap_39 w.params).In s.heap) (T : Top hd.view_39 (looseW hd.view_39 []) mean mg mb s.heap) (h1 : dp + 40 < recursionLimit) (h2 : un + 300 < cLine)
    (hk : k < 128) (S : StL s.heap s.heap.objs.size D D2 D5 l DI I n1 n2 n3 n4 n5 n6 n7 u1 u2 u3 u4 u5 u6 u7 ds ws rs c oI o1 o2 o3 o4 o5 o6 m s1.heap) (d4 : o4.data = .cell (some (.int (k : Int) t0)))
    (hrs : IntsAre rs.toList (rows.map (fun r : Nat => (r : Int)))) (hr : ∀ r ∈ rows, r < 128) (hl : rows.length ≤ 60)
    (hnext : ∀ (h' : Heap) (tk' : Nat) (G : Array GenState) (rs' : Array Value) (c' : Nat) (o5' : Obj) (m' : Str → Option Value), (AllBare s1.gens → AllBare G) → IntsAre rs'.toList ((stepR rows k).map (fun r : Nat => (r : Int))) → StL s.heap s.heap.objs.size D D2 D5 l DI I n1 n2 n3 n4 n5 n6 n7 u1 u2 u3 u4 u5 u6 u7 ds ws rs' c' oI o1 o2 o3 o4 o5' o6 m' h' → Q .next { s1 with heap := h', toks := tk', gens := G }) :
    loopGo w dp un fr gd s.heap.objs.size 0 Q E s1 := by
  refine loop_1 w mean mg mb dp un fr gd s s1 Q E k t0 D D2 D5 l DI I ds ws rs c n1 n2 n3 n4 n5 n6 n7 u1 u2 u3 u4 u5 u6 u7 oI o1 o2 o3 o4 o5 o6 m X T h1 h2 hk S d4 ?_
  intro h' tk' G9 o5' t5 t9 m' hG S' d5
  refine loop_2 w mean mg mb dp un fr gd s { s1 with heap := h', toks := tk', gens := G9 } Q E k t0 t5 t9 D D2 D5 l DI I ds ws rs rows c n1 n2 n3 n4 n5 n6 n7 u1 u2 u3 u4 u5 u6 u7 oI o1 o2 o3 o4 o5' o6 m' X T h1 h2 hk S' d4 d5 hrs hr hl ?_
  intro h2 tk2 rs' c' m2 hrs' S2
  exact hnext h2 tk2 G9 rs' c' o5' m2 hG hrs' S2
section
variable {g h h₁ : Heap} {L D D2 D5 l DI I : Addr} {n1 n2 n3 n4 n5 n6 n7 u1 u2 u3 u4 u5 u6 u7 : Tok} {ds ws : List Value} {rs : Array Value} {c : Nat} {oI oI' o1 o2 o3 o4 o5 o6 : Obj} {m : Str → Option Value}
theorem stl_off (S : StL g L D D2 D5 l DI I n1 n2 n3 n4 n5 n6 n7 u1 u2 u3 u4 u5 u6 u7 ds ws rs c oI o1 o2 o3 o4 o5 o6 m h) : ∀ p ∈ [(DI, W.listOf ws.toArray 0), (l, W.listOf rs c), (D5, LCg.lst ds), (D2, LCg.lst [.int 4 u1, .int 6 u2, .int 2 u3, .int 3 u4, .int 1 u5, .int 5 u6, .int 7 u7]), (D, LCg.lst [.str (Str.ofString "e") n1, .str (Str.ofString "c") n2, .str (Str.ofString "d") n3, .str (Str.ofString "a") n4, .str (Str.ofString "f") n5, .str (Str.ofString "b") n6, .str (Str.ofString "g") n7]),
    (L + 1 + 1 + 1 + 1 + 1 + 1, o6), (L + 1 + 1 + 1 + 1 + 1, o5), (L + 1 + 1 + 1 + 1, o4), (L + 1 + 1 + 1, o3), (L + 1 + 1, o2), (L + 1, o1)], p.1 ≠ I := by
  have a1 := S.lI
  have a2 := S.lDI
  have a3 := S.ll
  have a4 := S.lD5
  have a5 := S.lD2
  have a6 := S.lD
  intro p hp
  simp only [List.mem_cons, List.not_mem_nil, or_false] at hp
  rcases hp with rfl | rfl | rfl | rfl | rfl | rfl | rfl | rfl | rfl | rfl | rfl <;> (dsimp only; refine Nat.ne_of_lt ?_; omega)
theorem stl_iter (S : StL g L D D2 D5 l DI I n1 n2 n3 n4 n5 n6 n7 u1 u2 u3 u4 u5 u6 u7 ds ws rs c oI o1 o2 o3 o4 o5 o6 m h) (hk : ∀ b o, b ∉ [I] → h.get? b = some o → h₁.get? b = some o) (hI : h₁.get? I = some oI') :
    StL g L D D2 D5 l DI I n1 n2 n3 n4 n5 n6 n7 u1 u2 u3 u4 u5 u6 u7 ds ws rs c oI' o1 o2 o3 o4 o5 o6 m h₁ := by
  have z := S.N (I, oI) List.mem_cons_self
  refine ⟨LCg.fr_but S.F hk z.2.1.symm z.2.2, fun p hp => ?_, S.d1, S.d2, S.d3, S.d4, S.d5, S.d6, S.lD, S.lD2, S.lD5, S.ll, S.lDI, S.lI⟩
  rcases List.mem_cons.mp hp with rfl | hp
  · exact ⟨hI, z.2⟩
  · exact LCg.news_but (fun p hp => S.N p (List.mem_cons_of_mem _ hp)) hk (stl_off S) p hp
theorem stl_out (S : StL g L D D2 D5 l DI I n1 n2 n3 n4 n5 n6 n7 u1 u2 u3 u4 u5 u6 u7 ds ws rs c oI o1 o2 o3 o4 o5 o6 m h) (hk : ∀ b o, b ∉ [I] → h.get? b = some o → h₁.get? b = some o) :
    St5 g L D D2 D5 l n1 n2 n3 n4 n5 n6 n7 u1 u2 u3 u4 u5 u6 u7 ds rs c o1 o2 o3 o4 o5 o6 m h₁ := by
  have z := S.N (I, oI) List.mem_cons_self
  refine ⟨LCg.fr_but S.F hk z.2.1.symm z.2.2, fun p hp => ?_, S.d1, S.d2, S.d3, S.d4, S.d5, S.d6, S.lD, S.lD2, S.lD5, S.ll⟩
  exact LCg.news_but (fun p hp => S.N p (List.mem_cons_of_mem _ hp)) hk (stl_off S) p (List.mem_cons_of_mem _ hp)
end
def rowsAt (ks : List Nat) (i : Nat) : List Nat := (ks.take i).foldl stepR []
theorem rowsAt_suc {ks : List Nat} {i k : Nat} (h : ks[i]? = some k) : rowsAt ks (i + 1) = stepR (rowsAt ks i) k := by
  unfold rowsAt
  rw [List.take_add_one, h, List.foldl_append]; rfl
/-- what the kept rows are -/
structure Kept (rows : List Nat) : Prop where
  sub : ∀ r ∈ rows, r ∈ masks
  apart : rows.Pairwise (fun a b => meetsB a b = true)
theorem kept_step {rows : List Nat} {k : Nat} (h : Kept rows) : Kept (stepR rows k) := by
  unfold stepR
  split
  · rename_i q
    rw [Bool.and_eq_true, decide_eq_true_eq, List.all_eq_true] at q
    refine ⟨fun r hr => ?_, ?_⟩
    · rcases List.mem_append.mp hr with hr | hr
      · exact h.sub r hr
      · rw [List.mem_singleton.mp hr]; exact q.1
    · rw [List.pairwise_append]
      refine ⟨h.apart, List.pairwise_singleton _ _, fun a ha b hb => ?_⟩
      rw [List.mem_singleton.mp hb, meets_comm]; exact q.2 a ha
  · exact h
theorem kept_fold : ∀ (ks rows : List Nat), Kept rows → Kept (ks.foldl stepR rows)
  | [], _, h => h
  | k :: ks, _, h => kept_fold ks _ (kept_step h)
theorem kept_at (ks : List Nat) (i : Nat) : Kept (rowsAt ks i) := kept_fold _ _ ⟨(fun _ h => nomatch h), List.Pairwise.nil⟩
theorem step_len (rows : List Nat) (k : Nat) : (stepR rows k).length ≤ rows.length + 1 := by
  unfold stepR; split
  · simp
  · omega
theorem fold_len : ∀ (ks rows : List Nat), (ks.foldl stepR rows).length ≤ rows.length + ks.length
  | [], _ => Nat.le_refl _
  | k :: ks, rows => by
    have := fold_len ks (stepR rows k)
    have h2 := step_len rows k
    rw [List.foldl_cons, List.length_cons]; omega
theorem at_len (ks : List Nat) (i : Nat) : (rowsAt ks i).length ≤ i := by
  have := fold_len (ks.take i) []
  unfold rowsAt
  rw [List.length_take, List.length_nil] at this
  omega
theorem masks_lt : ∀ r ∈ masks, r < 128 := by decide +kernel
def ksOf (ns : List Int) : List Nat := (ns.take 6).map (fun z => (Int.fmod z 128).toNat) ++ [7, 25, 97, 42, 82, 76, 52]
theorem ks_ints (ns : List Int) : (ksOf ns).map (fun k : Nat => (k : Int)) = (ns.take 6).map (fun k => Int.fmod k 128) ++ [7, 25, 97, 42, 82, 76, 52] := by
  unfold ksOf
  rw [List.map_append, List.map_map]
  congr 1
  apply List.map_congr_left
  intro z _
  exact Int.toNat_of_nonneg (Int.fmod_nonneg_of_pos z (by decide))
theorem seven_lt : ∀ k ∈ ([7, 25, 97, 42, 82, 76, 52] : List Nat), k < 128 := by decide
theorem ks_lt (ns : List Int) : ∀ k ∈ ksOf ns, k < 128 := by
  intro k hk
  rcases List.mem_append.mp hk with hk | hk
  · obtain ⟨z, -, rfl⟩ := List.mem_map.mp hk
    have h1 : 0 ≤ Int.fmod z 128 := Int.fmod_nonneg_of_pos z (by decide)
    have h2 : Int.fmod z 128 < 128 := Int.fmod_lt_of_pos z (by decide)
    omega
  · exact seven_lt k hk
theorem ks_len (ns : List Int) : (ksOf ns).length ≤ 13 := by
  unfold ksOf
  rw [List.length_append, List.length_map, List.length_take]
  simp only [List.length_cons, List.length_nil]
  omega
end Mine

-- LawS5
namespace Mine
def LawI (s : Shared) (D D2 D5 l DI I : Addr) (n1 n2 n3 n4 n5 n6 n7 u1 u2 u3 u4 u5 u6 u7 : Tok) (ds ws : List Value) (o1 o2 o3 o6 : Obj) (ks : List Nat) (k : Nat) (s' : Shared) : Prop :=
  ∃ (i : Nat) (h' : Heap) (tk' : Nat) (G : Array GenState) (rs : Array Value) (c : Nat) (oI o4 o5 : Obj) (m : Str → Option Value), k = ks.length + 1 - i ∧ i ≤ ks.length ∧ s' = { s with heap := h', toks := tk', gens := G } ∧ (AllBare s.gens → AllBare G) ∧
    StL s.heap s.heap.objs.size D D2 D5 l DI I n1 n2 n3 n4 n5 n6 n7 u1 u2 u3 u4 u5 u6 u7 ds ws rs c oI o1 o2 o3 o4 o5 o6 m h' ∧ IntsAre rs.toList ((rowsAt ks i).map (fun r : Nat => (r : Int))) ∧ h'.IsListIter I DI i
section
local macro_rules | `(tactic| walk_at "exec For") => `(tactic| refine Hold.out ?_)
local macro_rules | `(tactic| walk_at "pyIter ref") => `(tactic| refine Hold.out ?_)
local macro_rules | `(tactic| walk_at "execs cons") => `(tactic| ((with_reducible show wpAny _ _ (execs (Stmt.Assign [Expr.Name (Str.ofString "letters") _] _ _ :: _) _) _ _ _); refine Hold.out ?_))
theorem law_s5 (w : World) (mean : ExcName → Option Value) (mg mb : Str → Option Value) (dp un : Nat) (fr : Option (List Env)) (gd : Option (List Code)) (s : Shared) (R : Result → Shared → Prop)
    (a : Addr) (ns : List Int) (h' : Heap) (tk' : Nat) (D D2 D5 l : Addr) (ds : List Value) (n1 n2 n3 n4 n5 n6 n7 u1 u2 u3 u4 u5 u6 u7 : Tok) (o1 o2 o3 o4 o5 o6 : Obj) : (hd.heap_39 w.params).In s.heap → Top hd.view_39 (looseW hd.view_39 []) mean mg mb s.heap → dp + 40 < recursionLimit → un + 300 < cLine →
    IntsAre ds ((ns.take 6).map (fun k => Int.fmod k 128)) → St5 s.heap s.heap.objs.size D D2 D5 l n1 n2 n3 n4 n5 n6 n7 u1 u2 u3 u4 u5 u6 u7 ds #[] 0 o1 o2 o3 o4 o5 o6 (fun z => if z = Str.ofString "drawn" then some (.ref D5) else if z = Str.ofString "script" then some (.ref a) else none) h' →
    (∀ (h'' : Heap) (tk'' : Nat) (G : Array GenState) (rows : List Nat) (rs : Array Value) (c : Nat) (o4' o5' : Obj) (m : Str → Option Value), (AllBare s.gens → AllBare G) → Kept rows → rows.length ≤ 13 → IntsAre rs.toList (rows.map (fun r : Nat => (r : Int))) → St5 s.heap s.heap.objs.size D D2 D5 l n1 n2 n3 n4 n5 n6 n7 u1 u2 u3 u4 u5 u6 u7 ds rs c o1 o2 o3 o4' o5' o6 m h'' →
      lawGo w dp un fr gd s.heap.objs.size 6 R { s with heap := h'', toks := tk'', gens := G }) →
    lawGo w dp un fr gd s.heap.objs.size 5 R { s with heap := h', toks := tk' } := by
  delta lawGo
  w_top off
  k_fill
  intro X T h1 h2 hds S hnext
  obtain ⟨F, N, d1, d2, d3, d4, d5, d6, lD, lD2, lD5, ll⟩ := S
  show wpAny _ (Around.deeper _ (envOfC _ (Scope.mk _ _ _ _ _) _ _ _)) (execs (_ :: _ :: _ :: _ :: _ :: _ :: _ :: []) (envOfC _ (Scope.mk _ _ _ _ _) _ _ _)) _ _ _
  k_steps
  refine Hold.mk ?_
  refine wpAny_For ?_ (by intro _; rfl)
  k_steps
  rename_i l2 h3 l3 DI ws h4 F4 N4 hI l4
  rw [← ks_ints] at hI
  have hwl : ws.toArray.size = (ksOf ns).length := by have := IntsAre.length hI; simpa using this
  refine Hold.mk ?_
  have hDI : h4.IsList DI ws.toArray := ⟨_, (N4 _ List.mem_cons_self).1, rfl, _, rfl⟩
  refine wpAny_pyIter_list hDI ?_
  have hlt : @LT.lt Nat _ DI h4.objs.size := Heap.lt_size (N4 _ List.mem_cons_self).1
  have hne : DI ≠ h4.objs.size := Nat.ne_of_lt hlt
  have hIg : s.heap.get? h4.objs.size = none := Heap.get?_none_of_le (Nat.le_trans F4.above (Nat.le_of_lt F4.ns.lt))
  dsimp only
  have up : ∀ b o, h4.get? b = some o → (h4.push { cls := .type "list_iterator", data := .fields #[.ref DI, .int 0 0] }).get? b = some o := fun b o e => Heap.get?_push_of_some _ e
  have hIt : (h4.push { cls := .type "list_iterator", data := .fields #[.ref DI, .int 0 0] }).get? h4.objs.size = some _ := Heap.get?_push_size _ rfl
  have hF5 := F4.keeps up
  have hN5 := N4.grown up
  have hS : StL s.heap s.heap.objs.size D D2 D5 l DI h4.objs.size n1 n2 n3 n4 n5 n6 n7 u1 u2 u3 u4 u5 u6 u7 ds ws #[] 0 _ o1 o2 o3 o4 o5 o6 _ _ := ⟨hF5, fun p hp => by
    rcases List.mem_cons.mp hp with rfl | hp
    · exact ⟨hIt, Nat.ne_of_gt F4.ns.lt, hIg⟩
    rcases List.mem_cons.mp hp with rfl | hp
    · exact hN5 _ List.mem_cons_self
    · exact hN5 _ (List.mem_cons_of_mem _ (List.mem_cons_of_mem _ hp)), d1, d2, d3, d4, d5, d6, lD, lD2, lD5, ll, l4.2.1, hlt⟩
  refine codeAny_forLoop_any (LawI s D D2 D5 l DI h4.objs.size n1 n2 n3 n4 n5 n6 n7 u1 u2 u3 u4 u5 u6 u7 ds ws o1 o2 o3 o6 (ksOf ns)) ?turn ((ksOf ns).length + 1) ⟨0, _, _, s.gens, #[], 0, _, o4, o5, _, rfl, Nat.zero_le _, rfl, id, hS, IntsAre.nil, ⟨_, hIt, rfl, rfl⟩⟩
  case turn =>
    clear hS hF5 hN5 hIt up F4 N4 hDI d4 d5 hlt
    generalize h4.objs.size = I at hne hIg ⊢
    rintro k s₁ ⟨i, h', tk', G, rs, c, oI, o4, o5, m, rfl, hi, rfl, hG, S, hrs, hit⟩
    have hlst : h'.IsList DI ws.toArray := ⟨_, (S.N (DI, _) (List.mem_cons_of_mem _ List.mem_cons_self)).1, rfl, _, rfl⟩
    rcases Nat.lt_or_eq_of_le hi with hlt | rfl
    · refine (Walks.list rfl I DI hne ws.toArray).item i _ _ _ (by rw [hwl]; exact hlt) ⟨hit, hlst⟩ fun v h2' tk2 hv st2 hk2 => ?_
      obtain ⟨oI', hI', hc', hd'⟩ := st2.1
      have S2 := stl_iter S hk2 hI'
      obtain ⟨z, t, hz, rfl⟩ := intsAre_get hI (by simpa using hv)
      obtain ⟨k, hk, rfl⟩ : ∃ k : Nat, (ksOf ns)[i]? = some k ∧ (k : Int) = z := by simpa using hz
      refine wpAny_pure ?_
      refine body_held ?_
      clear S hk2 st2 hlst hit hI'
      obtain ⟨F, N, d1, d2, d3, ⟨x4, d4⟩, d5, d6, lD, lD2, lD5, ll, lDI, lI⟩ := S2
      k_steps
      rename_i h5 o4' F5 N5 d4'
      refine Hold.mk ?_
      refine loop_b w mean mg mb dp un fr gd s { s with heap := h5, toks := tk2, gens := G } _ _ k _ D D2 D5 l DI I ds ws rs (rowsAt (ksOf ns) i) c n1 n2 n3 n4 n5 n6 n7 u1 u2 u3 u4 u5 u6 u7 oI' o1 o2 o3 o4' o5 o6 m X T h1 h2 (ks_lt ns k (List.mem_of_getElem? hk)) ⟨F5, N5, d1, d2, d3, ⟨_, d4'⟩, d5, d6, lD, lD2, lD5, ll, lDI, lI⟩ d4' hrs (fun r hr => masks_lt r ((kept_at _ _).sub r hr)) (Nat.le_trans (at_len _ _) (Nat.le_trans hi (Nat.le_trans (ks_len ns) (by decide)))) ?_
      intro h6 tk6 G6 rs6 c6 o56 m6 hG6 hrs6 S6
      exact ⟨(ksOf ns).length + 1 - (i + 1), by omega, i + 1, h6, tk6, G6, rs6, c6, oI', o4', o56, m6, rfl, hlt, rfl, fun h => hG6 (hG h), S6, by rw [rowsAt_suc hk]; exact hrs6, ⟨oI', (S6.N _ List.mem_cons_self).1, hc', hd'⟩⟩
    · refine (Walks.list rfl I DI hne ws.toArray).done _ _ _ (by rw [hwl]; exact ⟨hit, hlst⟩) fun h6 tk6 hk6 => ?_
      refine wpAny_execs_nil ?_
      exact hnext h6 tk6 G (rowsAt (ksOf ns) (ksOf ns).length) rs c o4 o5 m hG (kept_at _ _) (Nat.le_trans (at_len _ _) (ks_len ns)) hrs (stl_out S hk6)
end
end Mine

-- Two
namespace Mine
section
open PySem.Calls PyProof.Rows.LCg
theorem turn_in (elt t1 i1 t2 i2 : Expr) (scope : Scope) (pos : Pos) (it acc : Value) (env : Env) :
    compTurn (.ListComp elt [⟨t1, i1, [], 0⟩, ⟨t2, i2, [], 0⟩] scope pos) 1 it acc env = (standAt i2.pos >>= fun _ => pyNext it >>= fun r => match r with
      | none => pure (.done .next)
      | some v => letOwnedTupleGo t2 it v >>= fun _ => assign t2 env v >>= fun _ =>
        (eval elt env >>= fun x => call (.builtin "list.append") [acc, x] >>= fun _ => pure ()) >>= fun _ =>
          again (.compLoop (.ListComp elt [⟨t1, i1, [], 0⟩, ⟨t2, i2, [], 0⟩] scope pos) 1 it acc env)) := by rfl
theorem turn_out (elt t1 i1 t2 i2 : Expr) (scope : Scope) (pos : Pos) (it acc : Value) (env : Env) :
    compTurn (.ListComp elt [⟨t1, i1, [], 0⟩, ⟨t2, i2, [], 0⟩] scope pos) 0 it acc env = (standAt i1.pos >>= fun _ => pyNext it >>= fun r => match r with
      | none => pure (.done .next)
      | some v => letOwnedTupleGo t1 it v >>= fun _ => assign t1 env v >>= fun _ =>
        (eval i2 env >>= fun x => standAt i2.pos >>= fun _ => foldedSetIterable i2 env x >>= fun x => holding [x] (pyIter x) >>= fun it2 => runOwn (.compStart (.ListComp elt [⟨t1, i1, [], 0⟩, ⟨t2, i2, [], 0⟩] scope pos) 1 it2 acc env) env >>= fun _ =>
          again (.compLoop (.ListComp elt [⟨t1, i1, [], 0⟩, ⟨t2, i2, [], 0⟩] scope pos) 0 it acc env))) := by rfl
variable {prog : Program} {w : World} {A : Around} {E : Value → Shared → Prop} {R : Result → Shared → Prop} {s : Shared}
theorem start_in {elt t1 i1 t2 i2 : Expr} {scope : Scope} {pos : Pos} {it acc : Value} {env : Env}
    (h0 : codeAny (model prog w) A (.compLoop (.ListComp elt [⟨t1, i1, [], 0⟩, ⟨t2, i2, [], 0⟩] scope pos) 1 it acc env) R s)
    (h : wpAny (model prog w) A (pyIter it) (fun it' s' => codeAny (model prog w) A (.compLoop (.ListComp elt [⟨t1, i1, [], 0⟩, ⟨t2, i2, [], 0⟩] scope pos) 1 it' acc env) R s')
      (notedBy (model prog w) A env fun x s' => R (.error x) s') s) :
    codeAny (model prog w) A (.compStart (.ListComp elt [⟨t1, i1, [], 0⟩, ⟨t2, i2, [], 0⟩] scope pos) 1 it acc env) R s := by
  refine codeAny_of_tree ?_
  show wpAny _ _ ((compStart (.ListComp elt [⟨t1, i1, [], 0⟩, ⟨t2, i2, [], 0⟩] scope pos) 1 it acc env).onRaise (fun x => do noteFrame x env; standAt theWindowsPlace)) _ _ s
  refine wpAny_notedAt ?_
  unfold compStart
  show wpAny _ _ (ask >>= _) _ _ s
  refine wpAny_bind (wpAny_askSetting (wpAny_ite ?_))
  split
  · first
      | exact wpAny_bind (wpAny_pure (wpAny_pure (And.intro rfl h0)))
      | exact wpAny_pure (And.intro rfl h0)
  · first
      | exact wpAny_bind (wpAny_rule (wpAny_bind (wpAny_standAt (wpAny_bind (wpAny_mono h (fun it' s' h' => wpAny_pure (And.intro rfl h')) fun _ _ x => x)))))
      | (refine wpAny_bind (wpAny_rule ?_); show wpAny _ _ (standAt i2.pos >>= _) _ _ s; exact wpAny_bind (wpAny_standAt (wpAny_bind (wpAny_mono h (fun it' s' h' => wpAny_pure (And.intro rfl h')) fun _ _ x => x))))
theorem loop_in {elt t1 i1 t2 i2 : Expr} {scope : Scope} {pos : Pos} {it acc : Value} {env : Env} (I : Nat → Shared → Prop)
    (turn : ∀ n s, I n s → wpAny (model prog w) A (pyNext it) (fun r s₁ => match r with
      | none => R (.ok .next) s₁
      | some v => wpAny (model prog w) A (assign t2 env v) (fun _ s₂ => wpAny (model prog w) A (eval elt env) (fun x s₃ =>
          wpAny (model prog w) A (call (.builtin "list.append") [acc, x]) (fun _ s₄ => ∃ m, m < n ∧ I m s₄) (notedBy (model prog w) A env fun e s' => R (.error e) s') s₃)
          (notedBy (model prog w) A env fun e s' => R (.error e) s') s₂) (notedBy (model prog w) A env fun e s' => R (.error e) s') s₁) (notedBy (model prog w) A env fun e s' => R (.error e) s') s)
    (n : Nat) (h : I n s) (ht : ∀ v, letOwnedTupleGo t2 it v = pure () := by intro _; rfl) :
    codeAny (model prog w) A (.compLoop (.ListComp elt [⟨t1, i1, [], 0⟩, ⟨t2, i2, [], 0⟩] scope pos) 1 it acc env) R s := by
  refine codeAny_loop rfl I (fun n s hI => ?_) n h
  show wpAny _ _ ((compTurn (.ListComp elt [⟨t1, i1, [], 0⟩, ⟨t2, i2, [], 0⟩] scope pos) 1 it acc env).onRaise (fun x => do noteFrame x env; theTreesLotGoes x)) _ _ s
  refine wpAny_noted ?_
  rw [turn_in]
  refine wpAny_bind (wpAny_standAt (wpAny_bind (wpAny_mono (turn n s hI) (fun r s₁ h₁ => ?_) fun _ _ h' => h')))
  cases r with
  | none => exact wpAny_pure h₁
  | some v =>
    refine wpAny_bind (wpAny_of_eq (ht v) ?_)
    exact wpAny_bind (wpAny_mono h₁ (fun _ s₂ h₂ => wpAny_bind (wpAny_bind (wpAny_mono h₂ (fun x s₃ h₃ => wpAny_bind (wpAny_mono h₃
      (fun _ s₄ h₄ => wpAny_pure (wpAny_pure ⟨rfl, h₄⟩)) fun _ _ h' => h')) fun _ _ h' => h'))) fun _ _ h' => h')
theorem loop_out {elt t1 i1 t2 i2 : Expr} {scope : Scope} {pos : Pos} {it acc : Value} {env : Env} (I : Nat → Shared → Prop) (hs : ∀ x, foldedSetIterable i2 env x = pure x)
    (turn : ∀ n s (E' : Value → Shared → Prop) (R' : Value → Shared → Prop), I n s → wpAny (model prog w) A (pyNext it) (fun r s₁ => match r with
      | none => R (.ok .next) s₁
      | some v => wpAny (model prog w) A (assign t1 env v) (fun _ s₂ => wpAny (model prog w) A (eval i2 env) (fun x s₃ =>
          wpAny (model prog w) A (pyIter x) (fun it2 s₄ => codeAny (model prog w) A (.compStart (.ListComp elt [⟨t1, i1, [], 0⟩, ⟨t2, i2, [], 0⟩] scope pos) 1 it2 acc env) (fun r s₅ => match r with | .ok _ => ∃ m, m < n ∧ I m s₅ | .error e => R' e s₅) s₄) E' s₃) E' s₂) E' s₁) E' s)
    (n : Nat) (h : I n s) (ht : ∀ v, letOwnedTupleGo t1 it v = pure () := by intro _; rfl) :
    codeAny (model prog w) A (.compLoop (.ListComp elt [⟨t1, i1, [], 0⟩, ⟨t2, i2, [], 0⟩] scope pos) 0 it acc env) R s := by
  refine codeAny_loop rfl I (fun n s hI => ?_) n h
  show wpAny _ _ ((compTurn (.ListComp elt [⟨t1, i1, [], 0⟩, ⟨t2, i2, [], 0⟩] scope pos) 0 it acc env).onRaise (fun x => do noteFrame x env; theTreesLotGoes x)) _ _ s
  refine wpAny_noted ?_
  rw [turn_out]
  refine wpAny_bind (wpAny_standAt (wpAny_bind (wpAny_mono (turn n s _ (cameBackBy (model prog w) A env (notedBy (model prog w) A env fun e s' => R (.error e) s')) hI) (fun r s₁ h₁ => ?_) fun _ _ h' => h')))
  cases r with
  | none => exact wpAny_pure h₁
  | some v =>
    refine wpAny_bind (wpAny_of_eq (ht v) ?_)
    refine wpAny_bind (wpAny_mono h₁ (fun _ s₂ h₂ => wpAny_bind (wpAny_mono h₂ (fun x s₃ h₃ => wpAny_bind (wpAny_standAt (wpAny_bind (wpAny_of_eq (hs x) (wpAny_bind (wpAny_holding (wpAny_mono h₃ (fun it2 s₄ h₄ => ?_) fun _ _ h' => h')))))))
      fun _ _ h' => h')) fun _ _ h' => h')
    refine wpAny_bind (wpAny_runOwn (codeAny_mono h₄ fun r s₅ h₅ => ?_))
    cases r with
    | ok f => exact wpAny_pure ⟨rfl, h₅⟩
    | error e => exact h₅
/-- a comprehension of two clauses -/
abbrev two (elt : Expr) (x1 : Str) (p1 : Pos) (i1 : Expr) (x2 : Str) (p2 : Pos) (i2 : Expr) (scope : Scope) (pos : Pos) : Expr := .ListComp elt [⟨.Name x1 p1, i1, [], 0⟩, ⟨.Name x2 p2, i2, [], 0⟩] scope pos
variable {g : Heap}
theorem in_L {elt i1 i2 : Expr} {x1 x2 : Str} {p1 p2 : Pos} {scope : Scope} {pos : Pos} {env : Env} {C D I : Addr} {pre post : List (Addr × Obj)} {ys0 : List Value} {n : Nat} {P : Nat → Value → Prop} {St : Nat → Heap → Prop} {Rel : Nat → List Value → Prop} {Pm : (Str → Option Value) → Prop} {m : Str → Option Value}
    (W : Walks prog w A I [I] [I] n P St) (hIo : ∀ i h, St i h → ∃ o, h.get? I = some o) (hsz : ∀ i ys, Rel i ys → ys.length ≤ sizeLine)
    (hx : env.kindOf x2 = some .local) (hp : (env.scope.kind == .class || (env.scope.kind == .module && env.locals != env.globals)) = false) (hC : env.locals = C)
    (hst : St 0 s.heap) (F : Fr g C s.heap m) (hPm : Pm m) (hPmc : ∀ m v, Pm m → Pm (fun y => if y = x2 then some v else m y)) (N : News g C s.heap (pre ++ (D, lst ys0) :: post))
    (hIC : I ≠ C) (hIg : g.get? I = none) (hID : I ≠ D) (off1 : ∀ p ∈ pre, p.1 ≠ I) (off2 : ∀ p ∈ post, p.1 ≠ I) (h1 : ∀ p ∈ pre, p.1 ≠ D) (h2 : ∀ p ∈ post, p.1 ≠ D) (hRel : Rel 0 ys0)
    (turn : ∀ i v ys h₃ tk₃ m₃ o2 (E' : Value → Shared → Prop), i < n → P i v → Rel i ys → Pm m₃ → m₃ x2 = some v → Fr g C h₃ m₃ → News g C h₃ ((I, o2) :: (pre ++ (D, lst ys) :: post)) →
      wpAny (model prog w) A (eval elt env) (fun y s₅ => EndE { s with heap := h₃, toks := tk₃ } g C m₃ ((I, o2) :: (pre ++ (D, lst ys) :: post)) (Rel (i + 1) (ys ++ [y])) s₅) E' { s with heap := h₃, toks := tk₃ })
    (done : ∀ h tk ys m', Rel n ys → Pm m' → Fr g C h m' → News g C h (pre ++ (D, lst ys) :: post) → R (.ok .next) { s with heap := h, toks := tk }) :
    codeAny (model prog w) A (.compLoop (two elt x1 p1 i1 x2 p2 i2 scope pos) 1 (.ref I) (.ref D) env) R s := by
  subst hC
  refine loop_in
    (fun k s' => ∃ h' tk i ys m', s' = { s with heap := h', toks := tk } ∧ i ≤ n ∧ k = n + 1 - i ∧ St i h' ∧ Fr g env.locals h' m' ∧ Pm m' ∧ News g env.locals h' (pre ++ (D, lst ys) :: post) ∧ Rel i ys) ?_ (n + 1)
    ⟨s.heap, s.toks, 0, ys0, m, rfl, Nat.zero_le _, rfl, hst, F, hPm, N, hRel⟩
  rintro k s' ⟨h', tk, i, ys, m', rfl, hi, rfl, hst', F', hPm', N', hR⟩
  have offA : ∀ ys, ∀ p ∈ pre ++ (D, lst ys) :: post, p.1 ≠ I := fun ys p hp => by
    rcases List.mem_append.mp hp with hp | hp
    · exact off1 p hp
    rcases List.mem_cons.mp hp with rfl | hp
    · exact Ne.symm hID
    · exact off2 p hp
  by_cases hlt : i < n
  · refine W.item i _ _ _ hlt hst' fun v h₂ tk₂ hPv hst₂ hk₂ => ?_
    refine wpAny_assign_Name (wpAny_storeName_local hx (F'.ns.at' fun o e => hk₂ _ o (by simpa using Ne.symm hIC) e) (fun h₃ hn₃ hs₃ => ?_) hp)
    have hs₃ : Heap.SameBut env.locals h₂ h₃ := hs₃
    have up : ∀ b o, b ≠ I → b ≠ env.locals → h'.get? b = some o → h₃.get? b = some o := fun b o h1 h2 e => hs₃.extBut b o h2 (hk₂ b o (by simpa using h1) e)
    have hst₃ : St (i + 1) h₃ := W.frame _ _ _ hst₂ fun b hb o e => by
      rw [List.mem_singleton.mp hb] at e ⊢
      exact hs₃.extBut _ _ hIC e
    obtain ⟨oI, heI⟩ := hIo _ _ hst₃
    have hCg : g.get? env.locals = none := Heap.get?_none_of_le F'.above
    have keep₃ : ∀ b o, g.get? b = some o → h₃.get? b = some o := fun b o e => up b o (fun q => by rw [q, hIg] at e; cases e) (fun q => by rw [q, hCg] at e; cases e) (F'.keep b o e)
    have hn₃' : h₃.Ns env.locals _ := hn₃
    have F₃ : Fr g env.locals h₃ _ := ⟨hn₃', keep₃, F'.above⟩
    have N₃ : News g env.locals h₃ ((I, oI) :: (pre ++ (D, lst ys) :: post)) := fun p hp => by
      rcases List.mem_cons.mp hp with rfl | hp
      · exact ⟨heI, hIC, hIg⟩
      · exact ⟨up _ _ (offA _ _ hp) (N' p hp).2.1 (N' p hp).1, (N' p hp).2⟩
    refine wpAny_mono (turn i v ys h₃ _ _ oI _ hlt hPv hR (hPmc _ _ hPm') (by simp) F₃ N₃) (fun y s₅ h₅ => ?_) fun _ _ e => e
    obtain ⟨hp5, h₄, tk₄, rfl, F₄, N₄⟩ := h₅
    have zI := (N₄ (I, oI) List.mem_cons_self).1
    have hst₄ : St (i + 1) h₄ := W.frame _ _ _ hst₃ fun b hb o e => by
      rw [List.mem_singleton.mp hb] at e ⊢
      dsimp only at zI
      rw [heI] at e; cases e; exact zI
    have N₄' : News g env.locals h₄ (pre ++ (D, lst ys) :: post) := fun p hp => N₄ p (List.mem_cons_of_mem _ hp)
    have zD := N₄' (D, lst ys) (List.mem_append_right _ List.mem_cons_self)
    refine append_at (hsz := by show ys.toArray.size ≤ sizeLine; rw [List.size_toArray]; exact hsz _ _ hR) zD.1 fun h₆ hs₆ hD₆ => ?_
    refine ⟨n + 1 - (i + 1), by omega, h₆, _, i + 1, ys ++ [y], _, rfl, hlt, rfl, W.frame _ _ _ hst₄ fun b hb o e => ?_, F₄.change hs₆ zD.2.1 zD.2.2, hPmc _ _ hPm', ?_, hp5⟩
    · rw [List.mem_singleton.mp hb] at e ⊢
      exact hs₆.extBut _ _ hID e
    · exact news_set N₄' h1 h2 hs₆ (hD₆.trans (congrArg some (lst_snoc ys y)))
  · obtain rfl : i = n := Nat.le_antisymm hi (Nat.not_lt.mp hlt)
    refine W.done _ _ _ hst' fun h₂ tk₂ hk₂ => ?_
    exact done h₂ tk₂ ys _ hR hPm' (fr_but F' hk₂ (Ne.symm hIC) hIg) (news_but N' hk₂ (offA _))
/-- the inner clause's range -/
def RangeAt (g : Heap) (C : Addr) (m₃ : Str → Option Value) (led : List (Addr × Obj)) (n2 : Nat) (s : Shared) (xv : Value) (s₄ : Shared) : Prop :=
  ∃ r b t u v' h₄ tk₄, xv = .ref r ∧ s₄ = { s with heap := h₄, toks := tk₄ } ∧ Fr g C h₄ m₃ ∧ News g C h₄ led ∧ IsRange h₄ r 0 b 1 t u v' ∧ Builtin.Range.small 0 b 1 = true ∧ Builtin.Range.rangeSize 0 b 1 = ((n2 : Nat) : Int)
/-- the inner turns, and how the two clauses hang together -/
structure TwoI (prog : Program) (w : World) (A : Around) (g : Heap) (env : Env) (elt i2 : Expr) (x1 x2 : Str) (n : Nat) (P : Nat → Value → Prop) (sz : Nat → Nat) (Rel : Nat → List Value → Prop) (Rel2 : Nat → Nat → List Value → Prop) (post : List (Addr × Obj)) (s : Shared) (C D I1 : Addr) : Prop where
  len : ∀ i j ys, Rel2 i j ys → ys.length ≤ sizeLine
  open' : ∀ i ys, i < n → Rel i ys → Rel2 i 0 ys
  shut : ∀ i ys, i < n → Rel2 i (sz i) ys → Rel (i + 1) ys
  src : ∀ i v ys h₃ tk₃ m₃ o1 (E' : Value → Shared → Prop), i < n → P i v → Rel i ys → m₃ x1 = some v → Fr g C h₃ m₃ → News g C h₃ ((I1, o1) :: (D, lst ys) :: post) →
    wpAny (model prog w) A (eval i2 env) (fun xv s₄ => RangeAt g C m₃ ((I1, o1) :: (D, lst ys) :: post) (sz i) s xv s₄) E' { s with heap := h₃, toks := tk₃ }
  inner : ∀ i v j v2 ys h₃ tk₃ m₃ o1 I2 o2 (E' : Value → Shared → Prop), i < n → P i v → j < sz i → (∃ t, v2 = .int ((0 : Int) + (j : Int)) t) → Rel2 i j ys → m₃ x1 = some v → m₃ x2 = some v2 → Fr g C h₃ m₃ → News g C h₃ ((I2, o2) :: (I1, o1) :: (D, lst ys) :: post) →
    wpAny (model prog w) A (eval elt env) (fun y s₅ => EndE { s with heap := h₃, toks := tk₃ } g C m₃ ((I2, o2) :: (I1, o1) :: (D, lst ys) :: post) (Rel2 i (j + 1) (ys ++ [y])) s₅) E' { s with heap := h₃, toks := tk₃ }
theorem out_L {elt i1 i2 : Expr} {x1 x2 : Str} {p1 p2 : Pos} {scope : Scope} {pos : Pos} {env : Env} {C D I : Addr} {post : List (Addr × Obj)} {n : Nat} {P : Nat → Value → Prop} {St : Nat → Heap → Prop} {sz : Nat → Nat} {Rel : Nat → List Value → Prop} {Rel2 : Nat → Nat → List Value → Prop} {m : Str → Option Value}
    (hh : A.handled = none) (W : Walks prog w A I [I] [I] n P St) (hIo : ∀ i h, St i h → ∃ o, h.get? I = some o)
    (hx1 : env.kindOf x1 = some .local) (hx2 : env.kindOf x2 = some .local) (h12 : x1 ≠ x2) (hp : (env.scope.kind == .class || (env.scope.kind == .module && env.locals != env.globals)) = false) (hC : env.locals = C)
    (hs2 : ∀ x, foldedSetIterable i2 env x = pure x)
    (hst : St 0 s.heap) (F : Fr g C s.heap m) (N : News g C s.heap ((D, lst []) :: post))
    (hIC : I ≠ C) (hIg : g.get? I = none) (hID : I ≠ D) (off : ∀ p ∈ post, p.1 ≠ I) (offD : ∀ p ∈ post, p.1 ≠ D) (hRel : Rel 0 [])
    (T2 : TwoI prog w A g env elt i2 x1 x2 n P sz Rel Rel2 post s C D I)
    (done : ∀ h tk ys m', Rel n ys → Fr g C h m' → News g C h ((D, lst ys) :: post) → R (.ok .next) { s with heap := h, toks := tk }) :
    codeAny (model prog w) A (.compLoop (two elt x1 p1 i1 x2 p2 i2 scope pos) 0 (.ref I) (.ref D) env) R s := by
  subst hC
  refine loop_out
    (fun k s' => ∃ h' tk i ys m', s' = { s with heap := h', toks := tk } ∧ i ≤ n ∧ k = n + 1 - i ∧ St i h' ∧ Fr g env.locals h' m' ∧ News g env.locals h' ((D, lst ys) :: post) ∧ Rel i ys) hs2 ?_ (n + 1)
    ⟨s.heap, s.toks, 0, [], m, rfl, Nat.zero_le _, rfl, hst, F, N, hRel⟩
  rintro k s' E' R' ⟨h', tk, i, ys, m', rfl, hi, rfl, hst', F', N', hR⟩
  have offA : ∀ ys, ∀ p ∈ (D, lst ys) :: post, p.1 ≠ I := fun ys p hp => by
    rcases List.mem_cons.mp hp with rfl | hp
    · exact Ne.symm hID
    · exact off p hp
  by_cases hlt : i < n
  · refine W.item i _ _ _ hlt hst' fun v h₂ tk₂ hPv hst₂ hk₂ => ?_
    refine wpAny_assign_Name (wpAny_storeName_local hx1 (F'.ns.at' fun o e => hk₂ _ o (by simpa using Ne.symm hIC) e) (fun h₃ hn₃ hs₃ => ?_) hp)
    have hs₃ : Heap.SameBut env.locals h₂ h₃ := hs₃
    have up : ∀ b o, b ≠ I → b ≠ env.locals → h'.get? b = some o → h₃.get? b = some o := fun b o h1 h2 e => hs₃.extBut b o h2 (hk₂ b o (by simpa using h1) e)
    have hst₃ : St (i + 1) h₃ := W.frame _ _ _ hst₂ fun b hb o e => by
      rw [List.mem_singleton.mp hb] at e ⊢
      exact hs₃.extBut _ _ hIC e
    obtain ⟨oI, heI⟩ := hIo _ _ hst₃
    have hCg : g.get? env.locals = none := Heap.get?_none_of_le F'.above
    have keep₃ : ∀ b o, g.get? b = some o → h₃.get? b = some o := fun b o e => up b o (fun q => by rw [q, hIg] at e; cases e) (fun q => by rw [q, hCg] at e; cases e) (F'.keep b o e)
    have hn₃' : h₃.Ns env.locals _ := hn₃
    have F₃ : Fr g env.locals h₃ _ := ⟨hn₃', keep₃, F'.above⟩
    have N₃ : News g env.locals h₃ ((I, oI) :: (D, lst ys) :: post) := fun p hp => by
      rcases List.mem_cons.mp hp with rfl | hp
      · exact ⟨heI, hIC, hIg⟩
      · exact ⟨up _ _ (offA _ _ hp) (N' p hp).2.1 (N' p hp).1, (N' p hp).2⟩
    refine wpAny_mono (T2.src i v ys h₃ _ _ oI _ hlt hPv hR (by simp) F₃ N₃) (fun xv s₄ h₄ => ?_) fun _ _ e => e
    obtain ⟨r, b, t, u, v', h₄, tk₄, rfl, rfl, F₄, N₄, hr, hsm, hsz⟩ := h₄
    refine wpAny_pyIter_range hr hsm ?_
    have hIl : I < h₄.objs.size := Heap.lt_size (N₄ _ List.mem_cons_self).1
    have hDl : D < h₄.objs.size := Heap.lt_size (N₄ _ (List.mem_cons_of_mem _ List.mem_cons_self)).1
    have W2 := range_walks (prog := prog) (w := w) (A := A) (I := h₄.objs.size) hh 0 (sz i)
    have lp : ∀ s₆ : Shared, s₆ = { s with heap := h₄.push { cls := .type "range_iterator", data := .fields #[rawInt 0, rawInt (Builtin.Range.rangeSize 0 b 1), rawInt 1] }, toks := tk₄ } → codeAny (model prog w) A (.compLoop (two elt x1 p1 i1 x2 p2 i2 scope pos) 1 (.ref h₄.objs.size) (.ref D) env) (fun r s₅ => match r with
        | .ok _ => ∃ m, m < n + 1 - i ∧ ∃ h' tk i ys m', s₅ = { s with heap := h', toks := tk } ∧ i ≤ n ∧ m = n + 1 - i ∧ St i h' ∧ Fr g env.locals h' m' ∧ News g env.locals h' ((D, lst ys) :: post) ∧ Rel i ys
        | .error e => R' e s₅) s₆ := by
      rintro s₆ rfl
      refine in_L (I := h₄.objs.size) (D := D) (C := env.locals) (g := g) (pre := [(I, oI)]) (post := post) (ys0 := ys) (n := sz i) (Rel := Rel2 i) (Pm := fun m => m x1 = some v) W2 (fun i h st => ⟨_, st⟩) (T2.len i) hx2 hp rfl ?_ (F₄.keeps fun b o e => Heap.get?_push_of_some _ e) (by simp) (fun m v' q => by dsimp only; rw [if_neg h12]; exact q)
        (N₄.grown fun b o e => Heap.get?_push_of_some _ e) (Nat.ne_of_gt F₄.ns.lt) (next_is_new F₄) (Nat.ne_of_gt hDl) (fun p hp => by rw [List.mem_singleton.mp hp]; exact Nat.ne_of_lt hIl) (fun p hp => Nat.ne_of_lt (Heap.lt_size (N₄ p (List.mem_cons_of_mem _ (List.mem_cons_of_mem _ hp))).1))
        (fun p hp => by rw [List.mem_singleton.mp hp]; exact hID) offD (T2.open' i ys hlt hR) ?_ ?_
      · show IsRangeIter _ _ _ _ _
        rw [hsz]; simpa using Heap.get?_push_size _ rfl
      · intro j v2 ys2 h₇ tk₇ m₇ o2 E7 hj hP2 hR2 hPm hm2 F₇ N₇
        exact T2.inner i v j v2 ys2 h₇ tk₇ m₇ oI _ o2 E7 hlt hPv hj hP2 hR2 hPm hm2 F₇ N₇
      · intro h₇ tk₇ ys7 m7 hR7 hPm7 F₇ N₇
        refine ⟨n + 1 - (i + 1), by omega, h₇, tk₇, i + 1, ys7, m7, rfl, hlt, rfl, W.frame _ _ _ hst₃ fun b hb o e => ?_, F₇, fun p hp => N₇ p (List.mem_cons_of_mem _ hp), T2.shut i ys7 hlt hR7⟩
        rw [List.mem_singleton.mp hb] at e ⊢
        rw [heI] at e; cases e
        exact (N₇ (I, oI) List.mem_cons_self).1
    refine start_in (lp _ rfl) (W2.self 0 _ _ _ ?_ (lp _ rfl))
    show IsRangeIter _ _ _ _ _
    rw [hsz]; simpa using Heap.get?_push_size _ rfl
  · obtain rfl : i = n := Nat.le_antisymm hi (Nat.not_lt.mp hlt)
    refine W.done _ _ _ hst' fun h₂ tk₂ hk₂ => ?_
    exact done h₂ tk₂ ys _ hR (fr_but F' hk₂ (Ne.symm hIC) hIg) (news_but N' hk₂ (offA _))
theorem TwoI.move {env : Env} {elt i2 : Expr} {x1 x2 : Str} {n : Nat} {P : Nat → Value → Prop} {sz : Nat → Nat} {Rel : Nat → List Value → Prop} {Rel2 : Nat → Nat → List Value → Prop} {post : List (Addr × Obj)} {C D I : Addr} {h : Heap} {tk : Nat}
    (T : TwoI prog w A g env elt i2 x1 x2 n P sz Rel Rel2 post s C D I) : TwoI prog w A g env elt i2 x1 x2 n P sz Rel Rel2 post { s with heap := h, toks := tk } C D I := ⟨T.len, T.open', T.shut, T.src, T.inner⟩
theorem block_T {L : Addr} {m : Str → Option Value} {env : Env} {news : List (Addr × Obj)} {elt i1 i2 : Expr} {x1 x2 : Str} {p1 p2 : Pos} {scope : Scope} {cl : List (Str × Addr)} {pos : Pos} {s₂ : Shared} {I : Addr} {n : Nat} {P : Nat → Value → Prop} {St : Nat → Heap → Prop} {sz : Nat → Nat} {Rel : Nat → List Value → Prop} {Rel2 : Nat → Nat → List Value → Prop} {RR : Value → Addr → Result → Shared → Prop}
    (hh : A.handled = none) (W : Walks prog w A I [I] [I] n P St) (hIo : ∀ i h, St i h → ∃ o, h.get? I = some o)
    (hcell : ∀ y ∈ scope.names, y.2 ≠ .cell) (hkind : scope.kind = .function) (hx1 : scope.names.lookup x1 = some .local) (hx2 : scope.names.lookup x2 = some .local) (h12 : x1 ≠ x2)
    (hs2 : ∀ C x, foldedSetIterable i2 (compEnvC scope cl C env) x = pure x)
    (hst : St 0 s₂.heap) (F : Fr g L s₂.heap m) (N : News g L s₂.heap news) (hRel : Rel 0 [])
    (hIL : I ≠ L) (hIg : g.get? I = none) (off : ∀ p ∈ news, p.1 ≠ I)
    (T2 : ∀ C D oL, TwoI prog w A g (compEnvC scope cl C env) elt i2 x1 x2 n P sz Rel Rel2 ((L, oL) :: news) s₂ C D I)
    (hRR : ∀ D C h tk ys m', Rel n ys → Fr g L h m → Fr g C h m' → News g L h ((D, lst ys) :: news) → C ≠ L → D ≠ C → g.get? C = none → (∀ p ∈ news, p.1 ≠ C) → (∀ p ∈ news, p.1 < D) → RR (.ref D) C (.ok .next) { s₂ with heap := h, toks := tk }) :
    wpAny (model prog w) A (newList []) (fun acc s₃ => wpAny (model prog w) A (newFunctionEnv scope env.globals cl [] env.qual none .none (some env)) (fun cenv s₄ =>
      codeAny (model prog w) A (.compStart (two elt x1 p1 i1 x2 p2 i2 scope pos) 0 (.ref I) acc { cenv with scope := relabel scope env }) (RR acc cenv.locals) s₄) E s₃) E s₂ := by
  refine wpAny_newObj_type (wpAny_newFunctionEnv hcell (by intro y hy; simp at hy) (fun h₁ hns₁ hsb₁ => ?_) hkind)
  dsimp only at hns₁ hsb₁ ⊢
  generalize hH2 : s₂.heap.push { cls := .type "list", dict := none, data := .seq ([] : List Value).toArray } = H2 at hns₁ hsb₁ ⊢
  have hC : H2.objs.size = s₂.heap.objs.size + 1 := by rw [← hH2, Heap.size_push]
  have hDC : s₂.heap.objs.size ≠ H2.objs.size := by rw [hC]; exact Nat.ne_of_lt (Nat.lt_succ_self _)
  have below : ∀ b, b < s₂.heap.objs.size → b ≠ H2.objs.size ∧ b ≠ s₂.heap.objs.size := fun b hb => ⟨by rw [hC]; exact Nat.ne_of_lt (Nat.lt_succ_of_lt hb), Nat.ne_of_lt hb⟩
  have hIlt : I < s₂.heap.objs.size := let ⟨_, e⟩ := hIo 0 _ hst; Heap.lt_size e
  have old : ∀ b o, s₂.heap.get? b = some o → h₁.get? b = some o := fun b o e => hsb₁.extBut b o (below b (Heap.lt_size e)).1 (Heap.get?_push_of_some _ (hH2 ▸ Heap.get?_push_of_some _ e))
  have hacc : h₁.get? s₂.heap.objs.size = some (lst []) := hsb₁.extBut _ _ hDC (Heap.get?_push_of_some _ (hH2 ▸ Heap.get?_push_size _ rfl))
  have hst₁ : St 0 h₁ := W.frame _ _ _ hst fun b _ o e => old b o e
  have fresh : ∀ a, s₂.heap.objs.size ≤ a → s₂.heap.get? a = none := fun a ha => Heap.get?_none_of_le ha
  have fresh₀ : ∀ a, s₂.heap.objs.size ≤ a → g.get? a = none := fun a ha => by
    cases e : g.get? a with
    | none => rfl
    | some o' => have := F.keep a o' e; rw [fresh a ha] at this; cases this
  have hLlt : L < s₂.heap.objs.size := F.ns.lt
  have hC₀ : g.get? H2.objs.size = none := fresh₀ _ (by rw [hC]; exact Nat.le_succ _)
  have hgL : g.objs.size ≤ H2.objs.size := Nat.le_trans F.above (by rw [hC]; exact Nat.le_succ_of_le (Nat.le_of_lt hLlt))
  obtain ⟨oL, heL⟩ : ∃ o, s₂.heap.get? L = some o := let ⟨o, _, _, e, _⟩ := F.ns; ⟨o, e⟩
  have hLg : g.get? L = none := Heap.get?_none_of_le F.above
  have loop : ∀ s₃ : Shared, s₃ = { s₂ with heap := h₁, toks := s₂.toks + ([] : List (Str × Value)).length } →
      codeAny (model prog w) A (.compLoop (two elt x1 p1 i1 x2 p2 i2 scope pos) 0 (.ref I) (.ref s₂.heap.objs.size) (compEnvC scope cl H2.objs.size env))
        (RR (.ref s₂.heap.objs.size) H2.objs.size) s₃ := by
    rintro s₃ rfl
    refine out_L (C := H2.objs.size) (D := s₂.heap.objs.size) (g := g) (post := (L, oL) :: news) (sz := sz) (Rel := Rel) (Rel2 := Rel2) hh W hIo (lookup_relabel_local hx1) (lookup_relabel_local hx2) h12 (by simp [compEnvC, relabel, hkind]) rfl (hs2 _) hst₁ ⟨hns₁, fun b o e => old b o (F.keep b o e), hgL⟩
      (fun p hp => ?_) (below I hIlt).1 hIg (below I hIlt).2 (fun p hp => ?_) (fun p hp => ?_) hRel (TwoI.move (T2 _ _ oL)) ?_
    · rcases List.mem_cons.mp hp with rfl | hp
      · exact ⟨hacc, hDC, fresh₀ _ (Nat.le_refl _)⟩
      rcases List.mem_cons.mp hp with rfl | hp
      · exact ⟨old _ _ heL, (below L hLlt).1, hLg⟩
      · exact ⟨old _ _ (N p hp).1, (below _ (Heap.lt_size (N p hp).1)).1, (N p hp).2.2⟩
    · rcases List.mem_cons.mp hp with rfl | hp
      · exact Ne.symm hIL
      · exact off p hp
    · rcases List.mem_cons.mp hp with rfl | hp
      · exact (below L hLlt).2
      · exact (below _ (Heap.lt_size (N p hp).1)).2
    intro h tk ys m' hR FC N'
    have zL := (N' (L, oL) (List.mem_cons_of_mem _ List.mem_cons_self)).1
    refine hRR _ _ h tk ys m' hR ⟨F.ns.at' fun o e => by rw [heL] at e; cases e; exact zL, FC.keep, F.above⟩ FC (fun p hp => ?_) (Ne.symm (below L hLlt).1) hDC hC₀ (fun p hp => (below _ (Heap.lt_size (N p hp).1)).1) fun p hp => Heap.lt_size (N p hp).1
    rcases List.mem_cons.mp hp with rfl | hp
    · have z := N' (s₂.heap.objs.size, lst ys) List.mem_cons_self
      exact ⟨z.1, Ne.symm (below L hLlt).2, z.2.2⟩
    · exact ⟨(N' p (List.mem_cons_of_mem _ (List.mem_cons_of_mem _ hp))).1, (N p hp).2⟩
  exact codeAny_compStart_list (loop _ rfl) (W.self 0 _ _ _ hst₁ (loop _ rfl))
/-- what the source of a comprehension of two ranges must bring, a local wanted -/
def CompT (prog : Program) (w : World) (A : Around) (g : Heap) (L : Addr) (env : Env) (elt i2 : Expr) (x1 x2 y : Str) (scope : Scope) (cl : List (Str × Addr)) (Q : Flow → Shared → Prop) (xv : Value) (s₁ : Shared) : Prop :=
  ∃ (r : Addr) (b : Int) (t u v : Tok) (n : Nat) (sz : Nat → Nat) (Rel : Nat → List Value → Prop) (Rel2 : Nat → Nat → List Value → Prop) (m : Str → Option Value) (news : List (Addr × Obj)), xv = .ref r ∧ IsRange s₁.heap r 0 b 1 t u v ∧ Builtin.Range.small 0 b 1 = true ∧ Builtin.Range.rangeSize 0 b 1 = ((n : Nat) : Int) ∧ Fr g L s₁.heap m ∧ News g L s₁.heap news ∧ Rel 0 [] ∧
      (∀ C D I oL, TwoI prog w A g (compEnvC scope cl C env) elt i2 x1 x2 n (fun i v => ∃ t, v = .int ((0 : Int) + (i : Int)) t) sz Rel Rel2 ((L, oL) :: news) s₁ C D I) ∧
      ∀ D h tk ys, Rel n ys → Fr g L h (fun z => if z = y then some (.ref D) else m z) → News g L h ((D, lst ys) :: news) → (∀ p ∈ news, p.1 < D) → Q .next { s₁ with heap := h, toks := tk }
theorem Assign_T {L : Addr} {env : Env} {elt i1 i2 : Expr} {x1 x2 y : Str} {p1 p2 py : Pos} {scope : Scope} {cl : List (Str × Addr)} {pos spos : Pos} {s : Shared} {Q : Flow → Shared → Prop} (hLe : env.locals = L) (hh : A.handled = none)
    (hsw : swapsWith (two elt x1 p1 i1 x2 p2 i2 scope pos) (some (.Name y py)) spos.line env = pure true)
    (hclos : closureFor scope env = pure cl) (hcell : ∀ y ∈ scope.names, y.2 ≠ .cell) (hkind : scope.kind = .function)
    (hnames : ∀ y ∈ scope.names, y.2 = .local → scope.names.lookup y.1 = some .local) (hx1 : scope.names.lookup x1 = some .local) (hx2 : scope.names.lookup x2 = some .local) (h12 : x1 ≠ x2)
    (hy : env.kindOf y = some .local) (hp : (env.scope.kind == .class || (env.scope.kind == .module && env.locals != env.globals)) = false)
    (hs2 : ∀ C x, foldedSetIterable i2 (compEnvC scope cl C env) x = pure x)
    (h : wpAny (model prog w) A (eval i1 env) (fun xv s₁ => CompT prog w A g L env elt i2 x1 x2 y scope cl Q xv s₁) E s)
    (hs : ∀ x, foldedSetIterable i1 env x = pure x := by intro _; rfl) :
    wpAny (model prog w) A (exec (.Assign [.Name y py] (two elt x1 p1 i1 x2 p2 i2 scope pos) spos) env) Q E s := by
  subst hLe
  rw [exec_Assign_Name_used _ _ _ _ hsw]
  refine wpAny_bind (wpAny_standAt (wpAny_bind ?_))
  show wpAny _ A (do let _ ← comprehension (two elt x1 p1 i1 x2 p2 i2 scope pos) scope env _ (newList []) false (eval i1 env) (some (assign (.Name y py) env))) _ _ s
  refine wpAny_bind (wpAny_mono (wpAny_comprehension_free (use := some (assign (.Name y py) env)) (Q := fun _ s' => Q .next s') rfl hs hclos hkind hnames
    (wpAny_mono h (fun xv s₁ h₁ => ?_) fun _ _ e => e)) (fun _ s' hq => wpAny_pure (wpAny_pure hq)) fun _ _ e => e)
  obtain ⟨r, b, t, u, v, n, sz, Rel, Rel2, m, news, rfl, hr, hsm, hn, F, N, hRel, T2, fin⟩ := h₁
  refine wpAny_pyIter_range hr hsm ?_
  have W := range_walks (prog := prog) (w := w) (A := A) (I := s₁.heap.objs.size) hh 0 n
  refine block_T (g := g) (L := env.locals) (m := m) (news := news) (I := s₁.heap.objs.size) (sz := sz) (Rel := Rel) (Rel2 := Rel2) hh W (fun i h st => ⟨_, st⟩) hcell hkind hx1 hx2 h12 hs2 ?_ (F.keeps fun b o e => Heap.get?_push_of_some _ e) (N.grown fun b o e => Heap.get?_push_of_some _ e) hRel
    (Nat.ne_of_gt F.ns.lt) (next_is_new F) (led_apart N) (fun C D oL => let T := T2 C D s₁.heap.objs.size oL; ⟨T.len, T.open', T.shut, T.src, T.inner⟩) ?_
  · show IsRangeIter _ _ _ _ _
    rw [hn]; simpa using Heap.get?_push_size _ rfl
  intro D C h tk ys m' hR F' FC N' hCL hDC hCg offC hlt
  show wpAny _ A (assign (.Name y py) env (.ref D)) _ _ _
  refine wpAny_assign_Name (wpAny_storeName_local hy F'.ns (fun h₂ hn₂ hs₂ => ?_) hp)
  have hL₀ : g.get? env.locals = none := Heap.get?_none_of_le F'.above
  have F₂ : Fr g env.locals h₂ (fun z => if z = y then some (.ref D) else m z) := ⟨hn₂, fun b o e => hs₂.extBut b o (fun q => by rw [q, hL₀] at e; cases e) (F'.keep b o e), F'.above⟩
  refine ⟨m', FC.ns.sameBut hs₂ hCL, fun h'' hs'' => fin D h'' _ ys hR (F₂.change hs'' hCL hCg) (fun p hp => ?_) hlt⟩
  have z : h₂.get? p.1 = some p.2 := hs₂.extBut _ _ (N' p hp).2.1 (N' p hp).1
  refine ⟨hs''.extBut _ _ ?_ z, (N' p hp).2⟩
  rcases List.mem_cons.mp hp with rfl | hp
  · exact hDC
  · exact offC p hp
end
end Mine

-- LawS6
namespace Mine
/-- where the law stands once its pairs are there -/
structure St7 (g : Heap) (L D D2 D5 l D6 : Addr) (n1 n2 n3 n4 n5 n6 n7 u1 u2 u3 u4 u5 u6 u7 : Tok) (ds ps : List Value) (rs : Array Value) (c : Nat) (o1 o2 o3 o4 o5 o6 : Obj) (m : Str → Option Value) (h : Heap) : Prop where
  F : Fr g L h (fun z => if z = Str.ofString "pairs" then some (.ref D6) else m z)
  N : News g L h [(D6, LCg.lst ps), (l, W.listOf rs c), (D5, LCg.lst ds), (D2, LCg.lst [.int 4 u1, .int 6 u2, .int 2 u3, .int 3 u4, .int 1 u5, .int 5 u6, .int 7 u7]), (D, LCg.lst [.str (Str.ofString "e") n1, .str (Str.ofString "c") n2, .str (Str.ofString "d") n3, .str (Str.ofString "a") n4, .str (Str.ofString "f") n5, .str (Str.ofString "b") n6, .str (Str.ofString "g") n7]),
    (L + 1 + 1 + 1 + 1 + 1 + 1, o6), (L + 1 + 1 + 1 + 1 + 1, o5), (L + 1 + 1 + 1 + 1, o4), (L + 1 + 1 + 1, o3), (L + 1 + 1, o2), (L + 1, o1)]
  d1 : o1.data = .cell (some (.ref D))
  d2 : o2.data = .cell (some (.ref D2))
  d3 : o3.data = .cell (some (.ref l))
  d6 : o6.data = .cell none
  lD : @LT.lt Nat _ (L + 1 + 1 + 1 + 1 + 1 + 1) D
  lD2 : @LT.lt Nat _ D D2
  lD5 : @LT.lt Nat _ D2 D5
  ll : @LT.lt Nat _ D5 l
  l6 : @LT.lt Nat _ l D6
def prI (j i : Nat) : Int := ((Nat.lor (2 ^ i) (2 ^ j) : Nat) : Int)
def prTo (n : Nat) : List Int := (List.range n).flatMap fun j => (List.range j).map (prI j)
theorem prTo_suc (n : Nat) : prTo (n + 1) = prTo n ++ (List.range n).map (prI n) := by
  unfold prTo
  rw [List.range_succ, List.flatMap_append]; simp
theorem pr_all : prTo 7 = pairsN.map (fun r : Nat => (r : Int)) := by decide +kernel
theorem pr_take {i j : Nat} {z : Int} {ys : List Value} {t : Tok} (h : IntsAre ys (prTo i ++ (List.range j).map (prI i))) (hz : z = prI i j) : IntsAre (ys ++ [.int z t]) (prTo i ++ (List.range (j + 1)).map (prI i)) := by
  subst hz
  rw [List.range_succ, List.map_append, ← List.append_assoc]; exact intsAre_snoc h
theorem flat_len (f : Nat → Nat → Int) : ∀ n, ((List.range n).flatMap fun j => (List.range j).map (f j)).length ≤ n * n := by
  intro n
  induction n with
  | zero => exact Nat.le_refl _
  | succ n ih =>
    rw [List.range_succ, List.flatMap_append, List.length_append]
    have : ([n].flatMap fun j => (List.range j).map (f j)).length = n := by simp
    rw [this]
    have : (n + 1) * (n + 1) = n * n + n + n + 1 := by rw [Nat.succ_mul, Nat.mul_succ]; omega
    omega
theorem all2 {m : Str → Option Value} {x y : Str} {a b : Value} (h1 : m x = some a) (h2 : m y = some b) : ∀ p ∈ [(x, a), (y, b)], m p.1 = some p.2 := by
  intro p hp
  simp only [List.mem_cons, List.not_mem_nil, or_false] at hp
  rcases hp with rfl | rfl <;> assumption
section
local macro_rules | `(tactic| walk_at "execs cons") => `(tactic| ((with_reducible show wpAny _ _ (execs (Stmt.Assign [Expr.Name (Str.ofString "lines") _] _ _ :: _) _) _ _ _); refine Hold.out ?_))
theorem law_s6 (w : World) (mean : ExcName → Option Value) (mg mb : Str → Option Value) (dp un : Nat) (fr : Option (List Env)) (gd : Option (List Code)) (s s1 : Shared) (R : Result → Shared → Prop)
    (D D2 D5 l : Addr) (ds : List Value) (rs : Array Value) (c : Nat) (n1 n2 n3 n4 n5 n6 n7 u1 u2 u3 u4 u5 u6 u7 : Tok) (o1 o2 o3 o4 o5 o6 : Obj) (m : Str → Option Value) : (hd.heap_39 w.params).In s.heap → Top hd.view_39 (looseW hd.view_39 []) mean mg mb s.heap → dp + 40 < recursionLimit → un + 300 < cLine →
    St5 s.heap s.heap.objs.size D D2 D5 l n1 n2 n3 n4 n5 n6 n7 u1 u2 u3 u4 u5 u6 u7 ds rs c o1 o2 o3 o4 o5 o6 m s1.heap →
    (∀ (h' : Heap) (tk' : Nat) (D6 : Addr) (ps : List Value), IntsAre ps (pairsN.map (fun r : Nat => (r : Int))) → St7 s.heap s.heap.objs.size D D2 D5 l D6 n1 n2 n3 n4 n5 n6 n7 u1 u2 u3 u4 u5 u6 u7 ds ps rs c o1 o2 o3 o4 o5 o6 m h' → lawGo w dp un fr gd s.heap.objs.size 7 R { s1 with heap := h', toks := tk' }) →
    lawGo w dp un fr gd s.heap.objs.size 6 R s1 := by
  delta lawGo
  w_top off
  k_fill
  intro X T h1 h2 S hnext
  obtain ⟨F, N, d1, d2, d3, d4, d5, d6, lD, lD2, lD5, ll⟩ := S
  clear d4 d5
  show wpAny _ (Around.deeper _ (envOfC _ (Scope.mk _ _ _ _ _) _ _ _)) (execs (_ :: _ :: _ :: _ :: _ :: _ :: []) (envOfC _ (Scope.mk _ _ _ _ _) _ _ _)) _ _ _
  k_steps
  refine' Assign_T (g := s.heap) (L := s.heap.objs.size) (cl := _) ?x0 ?xh ?x9 ?x1 ?x2 ?x3 ?x4 ?x5 ?xb ?xc ?x7 ?x8 ?xs ?_ ?x6
  (case x0 => rfl)
  (case xh => rfl)
  (case x9 => rfl)
  (case x1 => with_unfolding_all rfl)
  (case x2 => decide)
  (case x3 => rfl)
  (case x4 => decide)
  (case x5 => rfl)
  (case xb => rfl)
  (case xc => decide)
  (case x7 => rfl)
  (case x8 => rfl)
  (case xs => intro _ _; rfl)
  (case x6 => intro _; rfl)
  k_steps
  refine ⟨_, 7, _, _, _, 7, fun i => i, fun i ys => IntsAre ys (prTo i), fun i j ys => i < 7 ∧ j ≤ i ∧ IntsAre ys (prTo i ++ (List.range j).map (prI i)), _, _, rfl, by assumption, by decide, by decide, by assumption, by assumption, IntsAre.nil, ?_, ?_⟩
  · intro C D' I oL
    refine ⟨?len, ?opn, ?sht, ?src, ?inn⟩
    case len =>
      rintro i j ys ⟨hi, hj, h⟩
      rw [IntsAre.length h, List.length_append, List.length_map, List.length_range]
      have := flat_len prI i
      have h2 : i * i ≤ 7 * 7 := Nat.mul_le_mul (Nat.le_of_lt hi) (Nat.le_of_lt hi)
      unfold prTo
      exact Nat.le_trans (m := 100) (by omega) (by decide)
    case opn =>
      rintro i ys hi h
      refine ⟨hi, Nat.zero_le _, ?_⟩
      rw [List.range_zero, List.map_nil, List.append_nil]; exact h
    case sht =>
      rintro i ys hi ⟨-, -, h⟩
      rw [prTo_suc]
      exact h
    case src =>
      rintro i v ys h₃ tk₃ m₃ o1' E' hi ⟨t, rfl⟩ hR hm F N
      have e := atL_eq (all1 hm)
      have key : ∀ k : Nat, i = k → k = 0 ∨ k = 1 ∨ k = 2 ∨ k = 3 ∨ k = 4 ∨ k = 5 ∨ k = 6 := fun k hk => by omega
      rcases key i rfl with rfl | rfl | rfl | rfl | rfl | rfl | rfl <;> (rw [e] at F) <;> k_steps
      all_goals (try k_data)
      all_goals exact ⟨_, _, _, _, _, _, _, rfl, rfl, by rw [e]; assumption, by assumption, by assumption, by decide, by decide⟩
    case inn =>
      rintro i v j v2 ys h₃ tk₃ m₃ o1' I2 o2' E' hi ⟨t, rfl⟩ hj ⟨t2, rfl⟩ ⟨hi7, hji, h⟩ hm hm2 F N
      have hj : j < i := hj
      have e := atL_eq (all2 hm hm2)
      have keyi : ∀ k : Nat, i = k → k = 0 ∨ k = 1 ∨ k = 2 ∨ k = 3 ∨ k = 4 ∨ k = 5 ∨ k = 6 := fun k hk => by omega
      have keyj : ∀ k : Nat, j = k → k = 0 ∨ k = 1 ∨ k = 2 ∨ k = 3 ∨ k = 4 ∨ k = 5 := fun k hk => by omega
      rcases keyi i rfl with rfl | rfl | rfl | rfl | rfl | rfl | rfl <;> rcases keyj j rfl with rfl | rfl | rfl | rfl | rfl | rfl <;> (try (exact absurd hj (by decide))) <;> (rw [e] at F) <;> k_steps
      all_goals (try k_data)
      all_goals exact end_e ⟨hi7, hj, pr_take h (by decide +kernel)⟩ (by assumption) e (by assumption) fun p hp => hp
  intro D6 h6 tk6 ps hR F6 N6 l6
  k_lt l6
  rw [pr_all] at hR
  k_steps
  refine Hold.mk ?_
  refine hnext _ _ D6 ps hR ⟨F6, N6, d1, d2, d3, d6, lD, lD2, lD5, ll, l6.1⟩
end
end Mine

-- Cel
namespace Mine
section
open PySem.Calls PyProof.Rows.LCg
variable {prog : Program} {w : World} {A : Around} {E : Value → Shared → Prop} {g : Heap}
abbrev cellNew : Obj := { cls := .type "cell", data := .cell none }
theorem newEnv_one {M : Model} {s : Shared} {scope : Scope} {globals : Addr} {cl : List (Str × Addr)} {x qual : Str} {func : Option Addr} {code : Value} {builtins : Addr} {env : Env} {Q : Env → Shared → Prop}
    (hone : ∀ n acc, cellsFrom n scope.names acc = (x, n) :: acc) (hpush : ∀ h, pushCells h scope.names = h.push cellNew)
    (hQ : ∀ h', h'.Ns s.heap.objs.size (fun _ => none) → (∀ b o, s.heap.get? b = some o → h'.get? b = some o) → h'.get? (s.heap.objs.size + 1) = some cellNew →
      Q (newEnv scope s.heap.objs.size globals ((x, s.heap.objs.size + 1) :: cl) qual func code (some env) builtins) { s with heap := h' }) :
    wpAny M A (newFunctionEnv scope globals cl [] qual func code (some env) builtins) Q E s := by
  simp only [newFunctionEnv, Option.isSome_some, if_true]
  refine wpAny_bind (wpAny_alloc ?_)
  refine wpAny_bind (wpAny_layCells _ (fun name kind cells => by cases hkc : kind == NameKind.cell <;> simp [hkc]) _ _ _ _ ?_)
  rw [hone, hpush]
  refine wpAny_bind ?_
  rw [List.forIn_nil]
  refine wpAny_pure (wpAny_pure ?_)
  have hsz : (s.heap.push { cls := .type "dict", data := .dict #[] }).objs.size = s.heap.objs.size + 1 := Heap.size_push ..
  dsimp only
  rw [hsz]
  refine hQ _ ((Heap.Ns.new s.heap (.type "dict")).keeps fun b o e => Heap.get?_push_of_some _ e) (fun b o e => Heap.get?_push_of_some _ (Heap.get?_push_of_some _ e)) ?_
  rw [← hsz]
  exact Heap.get?_push_size _ rfl
theorem loop_C {elt iter : Expr} {x : Str} {px : Pos} {ifs : List Expr} {scope : Scope} {pos : Pos} {env : Env} {s : Shared} {I C D K : Addr} {fp : List Addr} {n : Nat} {P : Nat → Value → Prop} {St : Nat → Heap → Prop} {Rel : Nat → List Value → Prop} {R : Result → Shared → Prop} {mC : Str → Option Value} {oK0 : Obj} {post : List (Addr × Obj)}
    (W : Walks prog w A I fp [I] n P St) (hsz : n ≤ sizeLine) (hIo : ∀ i h, St i h → ∃ o, h.get? I = some o) (hfp : ∀ b ∈ fp, b = I ∨ (∃ o, g.get? b = some o) ∨ ∃ o, (b, o) ∈ post)
    (hkind : env.scope.kind = .function) (hcx : env.kindOf x = some .cell) (hlk : env.cells.lookup x = some K) (hC : env.locals = C)
    (hst : St 0 s.heap) (F : Fr g C s.heap mC) (N : News g C s.heap ((D, lst []) :: (K, oK0) :: post)) (hK0 : ∃ v, oK0.data = .cell v) (hRel : Rel 0 [])
    (hIC : I ≠ C) (hIg : g.get? I = none) (hID : I ≠ D) (hIK : I ≠ K) (hDK : D ≠ K) (off : ∀ p ∈ post, p.1 ≠ I ∧ p.1 ≠ D ∧ p.1 ≠ K)
    (turn : ∀ i v ys h₃ tk₃ oI oK (E' : Value → Shared → Prop), i < n → P i v → Rel i ys → oK.data = .cell (some v) → Fr g C h₃ mC → News g C h₃ ((I, oI) :: (D, lst ys) :: (K, oK) :: post) →
      TurnE prog w A E' g C mC ((I, oI) :: (D, lst ys) :: (K, oK) :: post) env ifs elt (Rel (i + 1) ys) (fun y => Rel (i + 1) (ys ++ [y])) { s with heap := h₃, toks := tk₃ })
    (hlen : ∀ i ys, Rel i ys → ys.length ≤ i)
    (done : ∀ h tk ys oK, Rel n ys → Fr g C h mC → News g C h ((D, lst ys) :: (K, oK) :: post) → R (.ok .next) { s with heap := h, toks := tk }) :
    codeAny (model prog w) A (.compLoop (.ListComp elt [⟨.Name x px, iter, ifs, 0⟩] scope pos) 0 (.ref I) (.ref D) env) R s := by
  subst hC
  refine codeAny_compLoop_tests
    (fun k s' => ∃ h' tk i ys oK, s' = { s with heap := h', toks := tk } ∧ i ≤ n ∧ k = n + 1 - i ∧ St i h' ∧ Fr g env.locals h' mC ∧ News g env.locals h' ((D, lst ys) :: (K, oK) :: post) ∧ (∃ v, oK.data = .cell v) ∧ Rel i ys) ?_ (n + 1)
    ⟨s.heap, s.toks, 0, [], oK0, rfl, Nat.zero_le _, rfl, hst, F, N, hK0, hRel⟩
  rintro k s' ⟨h', tk, i, ys, oK, rfl, hi, rfl, hst', F', N', ⟨v0, hv0⟩, hR⟩
  have offI : ∀ ys oK, ∀ p ∈ (D, lst ys) :: (K, oK) :: post, p.1 ≠ I := fun ys oK p hp => by
    rcases List.mem_cons.mp hp with rfl | hp
    · exact Ne.symm hID
    rcases List.mem_cons.mp hp with rfl | hp
    · exact Ne.symm hIK
    · exact (off p hp).1
  by_cases hlt : i < n
  · refine W.item i _ _ _ hlt hst' fun v h₂ tk₂ hPv hst₂ hk₂ => ?_
    have zK := N' (K, oK) (List.mem_cons_of_mem _ List.mem_cons_self)
    refine wpAny_assign_Name (wpAny_storeName_cell hkind hcx hlk ⟨oK, hk₂ _ _ (by simpa using Ne.symm hIK) zK.1, hv0⟩ fun h₃ hc₃ hs₃ => ?_)
    have hs₃ : Heap.SameBut K h₂ h₃ := hs₃
    obtain ⟨oK', hoK', hdK'⟩ := hc₃
    have up : ∀ b o, b ≠ I → b ≠ K → h'.get? b = some o → h₃.get? b = some o := fun b o h1 h2 e => hs₃.extBut b o h2 (hk₂ b o (by simpa using h1) e)
    have hst₃ : St (i + 1) h₃ := W.frame _ _ _ hst₂ fun b hb o e => by
      rcases hfp b hb with rfl | ⟨o', q⟩ | ⟨o', q⟩
      · exact hs₃.extBut _ _ hIK e
      · exact hs₃.extBut _ _ (fun q' => by rw [q', zK.2.2] at q; cases q) e
      · exact hs₃.extBut _ _ (off _ q).2.2 e
    obtain ⟨oI, heI⟩ := hIo _ _ hst₃
    have keep₃ : ∀ b o, g.get? b = some o → h₃.get? b = some o := fun b o e => up b o (fun q => by rw [q, hIg] at e; cases e) (fun q => by rw [q, zK.2.2] at e; cases e) (F'.keep b o e)
    have F₃ : Fr g env.locals h₃ mC := ⟨F'.ns.at' fun o e => up _ _ (Ne.symm hIC) (Ne.symm zK.2.1) e, keep₃, F'.above⟩
    have N₃ : News g env.locals h₃ ((I, oI) :: (D, lst ys) :: (K, oK') :: post) := fun p hp => by
      rcases List.mem_cons.mp hp with rfl | hp
      · exact ⟨heI, hIC, hIg⟩
      rcases List.mem_cons.mp hp with rfl | hp
      · exact ⟨up _ _ (Ne.symm hID) hDK (N' _ List.mem_cons_self).1, (N' (D, lst ys) List.mem_cons_self).2⟩
      rcases List.mem_cons.mp hp with rfl | hp
      · exact ⟨hoK', zK.2⟩
      · have z := N' p (List.mem_cons_of_mem _ (List.mem_cons_of_mem _ hp))
        exact ⟨up _ _ (off p hp).1 (off p hp).2.2 z.1, z.2⟩
    have after : ∀ (s₄ : Shared) (Post : Prop), EndE { s with heap := h₃, toks := tk₂ } g env.locals mC ((I, oI) :: (D, lst ys) :: (K, oK') :: post) Post s₄ →
        Post ∧ ∃ h₄ tk₄, s₄ = { s with heap := h₄, toks := tk₄ } ∧ St (i + 1) h₄ ∧ Fr g env.locals h₄ mC ∧ News g env.locals h₄ ((D, lst ys) :: (K, oK') :: post) := by
      rintro s₄ Post ⟨hp, h₄, tk₄, rfl, F₄, N₄⟩
      have zI := (N₄ (I, oI) List.mem_cons_self).1
      refine ⟨hp, h₄, tk₄, rfl, W.frame _ _ _ hst₃ fun b hb o e => ?_, F₄, fun p hp => N₄ p (List.mem_cons_of_mem _ hp)⟩
      rcases hfp b hb with rfl | ⟨o', q⟩ | ⟨o', q⟩
      · rw [heI] at e; cases e; exact zI
      · have := keep₃ _ _ q; rw [e] at this; cases this; exact F₄.keep _ _ q
      · have hq : (b, o') ∈ (I, oI) :: (D, lst ys) :: (K, oK') :: post := List.mem_cons_of_mem _ (List.mem_cons_of_mem _ (List.mem_cons_of_mem _ q))
        have := (N₃ _ hq).1
        dsimp only at this
        rw [e] at this; cases this
        exact (N₄ _ hq).1
    refine wpAny_mono (turn i v ys h₃ _ oI oK' _ hlt hPv hR hdK' F₃ N₃) (fun ok s₄ h₄ => ?_) fun _ _ e => e
    cases ok with
    | false =>
      rw [if_neg Bool.false_ne_true] at h₄ ⊢
      obtain ⟨hp, h₅, tk₅, rfl, st₅, F₅, N₅⟩ := after _ _ h₄
      exact ⟨n + 1 - (i + 1), by omega, h₅, tk₅, i + 1, ys, _, rfl, hlt, rfl, st₅, F₅, N₅, ⟨_, hdK'⟩, hp⟩
    | true =>
      rw [if_pos rfl] at h₄ ⊢
      refine wpAny_mono h₄ (fun y s₅ h₅ => ?_) fun _ _ e => e
      obtain ⟨hp, h₅, tk₅, rfl, st₅, F₅, N₅⟩ := after _ _ h₅
      have zD := N₅ (D, lst ys) List.mem_cons_self
      refine append_at (hsz := by show ys.toArray.size ≤ sizeLine; rw [List.size_toArray]; exact Nat.le_trans (hlen _ _ hR) (Nat.le_trans hi hsz)) zD.1 fun h₆ hs₆ hD₆ => ?_
      refine ⟨n + 1 - (i + 1), by omega, h₆, tk₅, i + 1, ys ++ [y], _, rfl, hlt, rfl, W.frame _ _ _ st₅ fun b hb o e => hs₆.extBut b o (fun q => ?_) e, F₅.change hs₆ zD.2.1 zD.2.2, fun p hq => ?_, ⟨_, hdK'⟩, hp⟩
      · rcases hfp b hb with rfl | ⟨o', q'⟩ | ⟨o', q'⟩
        · exact hID q
        · rw [q, zD.2.2] at q'; cases q'
        · exact (off _ q').2.1 q
      · rcases List.mem_cons.mp hq with rfl | hq
        · exact ⟨hD₆.trans (congrArg some (lst_snoc ys y)), zD.2⟩
        rcases List.mem_cons.mp hq with rfl | hq
        · exact ⟨hs₆.extBut _ _ (Ne.symm hDK) (N₅ _ (List.mem_cons_of_mem _ List.mem_cons_self)).1, (N₅ _ (List.mem_cons_of_mem _ List.mem_cons_self)).2⟩
        · have z := N₅ p (List.mem_cons_of_mem _ (List.mem_cons_of_mem _ hq))
          exact ⟨hs₆.extBut _ _ (off p hq).2.1 z.1, z.2⟩
  · obtain rfl : i = n := Nat.le_antisymm hi (Nat.not_lt.mp hlt)
    refine W.done _ _ _ hst' fun h₂ tk₂ hk₂ => ?_
    exact done h₂ tk₂ ys oK hR (fr_but F' hk₂ (Ne.symm hIC) hIg) (news_but N' hk₂ (offI _ _))
theorem TurnE.move {E : Value → Shared → Prop} {C : Addr} {m₃ : Str → Option Value} {led : List (Addr × Obj)} {cenv : Env} {ifs : List Expr} {elt : Expr} {skip : Prop} {take : Value → Prop} {s₃ s₄ : Shared} (h : TurnE prog w A E g C m₃ led cenv ifs elt skip take s₃) (e : s₃ = s₄) : TurnE prog w A E g C m₃ led cenv ifs elt skip take s₄ := e ▸ h
/-- the turns of a block whose own target is a cell -/
def TurnsC (prog : Program) (w : World) (A : Around) (g : Heap) (L : Addr) (news : List (Addr × Obj)) (env : Env) (elt : Expr) (x : Str) (ifs : List Expr) (scope : Scope) (cl : List (Str × Addr)) (n : Nat) (P : Nat → Value → Prop) (Rel : Nat → List Value → Prop) (s₁ : Shared) : Prop :=
  ∀ C D K I i v ys h₃ tk₃ oI oK oL (E' : Value → Shared → Prop), i < n → P i v → Rel i ys → oK.data = .cell (some v) → Fr g C h₃ (fun _ => none) → News g C h₃ ((I, oI) :: (D, lst ys) :: (K, oK) :: (L, oL) :: news) →
      TurnE prog w A E' g C (fun _ => none) ((I, oI) :: (D, lst ys) :: (K, oK) :: (L, oL) :: news) (compEnvC scope ((x, K) :: cl) C env) ifs elt (Rel (i + 1) ys) (fun y => Rel (i + 1) (ys ++ [y])) { s₁ with heap := h₃, toks := tk₃ }
theorem block_C {L : Addr} {m : Str → Option Value} {env : Env} {news : List (Addr × Obj)} {elt iter : Expr} {x : Str} {px : Pos} {ifs : List Expr} {scope : Scope} {cl : List (Str × Addr)} {pos : Pos} {s₂ : Shared} {I : Addr} {fp : List Addr} {n : Nat} {P : Nat → Value → Prop} {St : Nat → Heap → Prop} {Rel : Nat → List Value → Prop} {RR : Value → Addr → Result → Shared → Prop}
    (W : Walks prog w A I fp [I] n P St) (hsz : n ≤ sizeLine) (hIo : ∀ i h, St i h → ∃ o, h.get? I = some o)
    (hfp : ∀ b ∈ fp, b = I ∨ (∃ o, g.get? b = some o) ∨ ∃ o, (b, o) ∈ news) (hone : ∀ n acc, cellsFrom n scope.names acc = (x, n) :: acc) (hpush : ∀ h, pushCells h scope.names = h.push cellNew) (hkind : scope.kind = .function) (hx : (relabel scope env).names.lookup x = some .cell)
    (hst : St 0 s₂.heap) (F : Fr g L s₂.heap m) (N : News g L s₂.heap news) (hRel : Rel 0 [])
    (hIL : I ≠ L) (hIg : g.get? I = none) (off : ∀ p ∈ news, p.1 ≠ I)
    (turn : TurnsC prog w A g L news env elt x ifs scope cl n P Rel s₂)
    (hlen : ∀ i ys, Rel i ys → ys.length ≤ i)
    (hRR : ∀ D C h tk ys m', Rel n ys → Fr g L h m → Fr g C h m' → News g L h ((D, lst ys) :: news) → C ≠ L → D ≠ C → g.get? C = none → (∀ p ∈ news, p.1 ≠ C) → (∀ p ∈ news, p.1 < D) → RR (.ref D) C (.ok .next) { s₂ with heap := h, toks := tk }) :
    wpAny (model prog w) A (newList []) (fun acc s₃ => wpAny (model prog w) A (newFunctionEnv scope env.globals cl [] env.qual none .none (some env)) (fun cenv s₄ =>
      codeAny (model prog w) A (.compStart (.ListComp elt [⟨.Name x px, iter, ifs, 0⟩] scope pos) 0 (.ref I) acc { cenv with scope := relabel scope env }) (RR acc cenv.locals) s₄) E s₃) E s₂ := by
  refine wpAny_newObj_type (newEnv_one hone hpush fun h₁ hns₁ up₁ hK₁ => ?_)
  dsimp only at hns₁ up₁ hK₁ ⊢
  generalize hH2 : s₂.heap.push { cls := .type "list", dict := none, data := .seq ([] : List Value).toArray } = H2 at hns₁ up₁ hK₁ ⊢
  have hC : H2.objs.size = s₂.heap.objs.size + 1 := by rw [← hH2, Heap.size_push]
  have hDC : s₂.heap.objs.size ≠ H2.objs.size := by rw [hC]; exact Nat.ne_of_lt (Nat.lt_succ_self _)
  have hDK : s₂.heap.objs.size ≠ H2.objs.size + 1 := by rw [hC]; exact Nat.ne_of_lt (Nat.lt_succ_of_lt (Nat.lt_succ_self _))
  have below : ∀ b, b < s₂.heap.objs.size → b ≠ H2.objs.size ∧ b ≠ s₂.heap.objs.size ∧ b ≠ H2.objs.size + 1 := fun b hb => ⟨by rw [hC]; exact Nat.ne_of_lt (Nat.lt_succ_of_lt hb), Nat.ne_of_lt hb, by rw [hC]; exact Nat.ne_of_lt (Nat.lt_succ_of_lt (Nat.lt_succ_of_lt hb))⟩
  have hIlt : I < s₂.heap.objs.size := let ⟨_, e⟩ := hIo 0 _ hst; Heap.lt_size e
  have old : ∀ b o, s₂.heap.get? b = some o → h₁.get? b = some o := fun b o e => up₁ b o (hH2 ▸ Heap.get?_push_of_some _ e)
  have hacc : h₁.get? s₂.heap.objs.size = some (lst []) := up₁ _ _ (hH2 ▸ Heap.get?_push_size _ rfl)
  have hst₁ : St 0 h₁ := W.frame _ _ _ hst fun b _ o e => old b o e
  have fresh₀ : ∀ a, s₂.heap.objs.size ≤ a → g.get? a = none := fun a ha => by
    cases e : g.get? a with
    | none => rfl
    | some o' => have := F.keep a o' e; rw [Heap.get?_none_of_le ha] at this; cases this
  have hLlt : L < s₂.heap.objs.size := F.ns.lt
  have hC₀ : g.get? H2.objs.size = none := fresh₀ _ (by rw [hC]; exact Nat.le_succ _)
  have hK₀ : g.get? (H2.objs.size + 1) = none := fresh₀ _ (by rw [hC]; exact Nat.le_succ_of_le (Nat.le_succ _))
  have hgL : g.objs.size ≤ H2.objs.size := Nat.le_trans F.above (by rw [hC]; exact Nat.le_succ_of_le (Nat.le_of_lt hLlt))
  obtain ⟨oL, heL⟩ : ∃ o, s₂.heap.get? L = some o := let ⟨o, _, _, e, _⟩ := F.ns; ⟨o, e⟩
  have hLg : g.get? L = none := Heap.get?_none_of_le F.above
  have loop : ∀ s₃ : Shared, s₃ = { s₂ with heap := h₁ } →
      codeAny (model prog w) A (.compLoop (.ListComp elt [⟨.Name x px, iter, ifs, 0⟩] scope pos) 0 (.ref I) (.ref s₂.heap.objs.size) (compEnvC scope ((x, H2.objs.size + 1) :: cl) H2.objs.size env))
        (RR (.ref s₂.heap.objs.size) H2.objs.size) s₃ := by
    rintro s₃ rfl
    refine loop_C (C := H2.objs.size) (D := s₂.heap.objs.size) (K := H2.objs.size + 1) (g := g) (post := (L, oL) :: news) (mC := fun _ => none) (oK0 := cellNew) (Rel := Rel) W hsz hIo (fun b hb => ?_) hkind hx (by simp [compEnvC]) rfl hst₁ ⟨hns₁, fun b o e => old b o (F.keep b o e), hgL⟩
      (fun p hp => ?_) ⟨_, rfl⟩ hRel (below I hIlt).1 hIg (below I hIlt).2.1 (below I hIlt).2.2 hDK (fun p hp => ?_) (fun i v ys h₃ tk₃ oI oK E' a1 a2 a3 a4 a5 a6 => turn _ _ _ _ i v ys h₃ tk₃ oI oK oL E' a1 a2 a3 a4 a5 a6) hlen ?_
    · rcases hfp b hb with q | q | ⟨o, q⟩
      · exact .inl q
      · exact .inr (.inl q)
      · exact .inr (.inr ⟨o, List.mem_cons_of_mem _ q⟩)
    · rcases List.mem_cons.mp hp with rfl | hp
      · exact ⟨hacc, hDC, fresh₀ _ (Nat.le_refl _)⟩
      rcases List.mem_cons.mp hp with rfl | hp
      · exact ⟨hK₁, Nat.succ_ne_self _, hK₀⟩
      rcases List.mem_cons.mp hp with rfl | hp
      · exact ⟨old _ _ heL, (below L hLlt).1, hLg⟩
      · exact ⟨old _ _ (N p hp).1, (below _ (Heap.lt_size (N p hp).1)).1, (N p hp).2.2⟩
    · rcases List.mem_cons.mp hp with rfl | hp
      · exact ⟨Ne.symm hIL, (below L hLlt).2⟩
      · exact ⟨off p hp, (below _ (Heap.lt_size (N p hp).1)).2⟩
    intro h tk ys oK hR FC N'
    have zL := (N' (L, oL) (List.mem_cons_of_mem _ (List.mem_cons_of_mem _ List.mem_cons_self))).1
    refine hRR _ _ h tk ys _ hR ⟨F.ns.at' fun o e => by rw [heL] at e; cases e; exact zL, FC.keep, F.above⟩ FC (fun p hp => ?_) (Ne.symm (below L hLlt).1) hDC hC₀ (fun p hp => (below _ (Heap.lt_size (N p hp).1)).1) fun p hp => Heap.lt_size (N p hp).1
    rcases List.mem_cons.mp hp with rfl | hp
    · have z := N' (s₂.heap.objs.size, lst ys) List.mem_cons_self
      exact ⟨z.1, Ne.symm (below L hLlt).2.1, z.2.2⟩
    · exact ⟨(N' p (List.mem_cons_of_mem _ (List.mem_cons_of_mem _ (List.mem_cons_of_mem _ hp)))).1, (N p hp).2⟩
  exact codeAny_compStart_list (loop _ rfl) (W.self 0 _ _ _ hst₁ (loop _ rfl))
/-- what a block's source must bring (a value wanted), the own target a cell -/
def CompEC (prog : Program) (w : World) (A : Around) (E : Value → Shared → Prop) (g : Heap) (L : Addr) (env : Env) (elt : Expr) (x : Str) (ifs : List Expr) (scope : Scope) (cl : List (Str × Addr)) (Q : Value → Shared → Prop) (xv : Value) (s₁ : Shared) : Prop :=
  ∃ n P Rel m news, n ≤ sizeLine ∧ Rel 0 [] ∧ (∀ i ys, Rel i ys → ys.length ≤ i) ∧ (∀ Q' : Value → Shared → Prop, (∀ it s₂, SrcIt prog w A g L m news n P s₁ it s₂ → Q' it s₂) → wpAny (model prog w) A (pyIter xv) Q' E s₁) ∧
      TurnsC prog w A g L news env elt x ifs scope cl n P Rel s₁ ∧
      ∀ D h tk ys, Rel n ys → Fr g L h m → News g L h ((D, lst ys) :: news) → (∀ p ∈ news, p.1 < D) → Q (.ref D) { s₁ with heap := h, toks := tk }
def CompAC (prog : Program) (w : World) (A : Around) (E : Value → Shared → Prop) (g : Heap) (L : Addr) (env : Env) (elt : Expr) (x y : Str) (ifs : List Expr) (scope : Scope) (cl : List (Str × Addr)) (Q : Flow → Shared → Prop) (xv : Value) (s₁ : Shared) : Prop :=
  ∃ n P Rel m news, n ≤ sizeLine ∧ Rel 0 [] ∧ (∀ i ys, Rel i ys → ys.length ≤ i) ∧ (∀ Q' : Value → Shared → Prop, (∀ it s₂, SrcIt prog w A g L m news n P s₁ it s₂ → Q' it s₂) → wpAny (model prog w) A (pyIter xv) Q' E s₁) ∧
      TurnsC prog w A g L news env elt x ifs scope cl n P Rel s₁ ∧
      ∀ D h tk ys, Rel n ys → Fr g L h (fun z => if z = y then some (.ref D) else m z) → News g L h ((D, lst ys) :: news) → (∀ p ∈ news, p.1 < D) → Q .next { s₁ with heap := h, toks := tk }
theorem ListComp_C {L : Addr} {env : Env} {elt iter : Expr} {x : Str} {px : Pos} {ifs : List Expr} {scope : Scope} {cl : List (Str × Addr)} {pos : Pos} {s : Shared} {Q : Value → Shared → Prop} 
    (hclos : closureFor scope env = pure cl) (hone : ∀ n acc, cellsFrom n scope.names acc = (x, n) :: acc) (hpush : ∀ h, pushCells h scope.names = h.push cellNew) (hkind : scope.kind = .function)
    (hnames : ∀ y ∈ scope.names, y.2 = .local → scope.names.lookup y.1 = some .local) (hx : (relabel scope env).names.lookup x = some .cell)
    (h : wpAny (model prog w) A (eval iter env) (fun xv s₁ => CompEC prog w A E g L env elt x ifs scope cl Q xv s₁) E s)
    (hs : ∀ x, foldedSetIterable iter env x = pure x := by intro _; rfl) :
    wpAny (model prog w) A (eval (.ListComp elt [⟨.Name x px, iter, ifs, 0⟩] scope pos) env) Q E s := by
  rw [eval_ListComp]
  refine wpAny_comprehension_free (use := none) rfl hs hclos hkind hnames (wpAny_mono h (fun xv s₁ h₁ => ?_) fun _ _ e => e)
  obtain ⟨n, P, Rel, m, news, hsz, hRel, hlen, hit, turns, fin⟩ := h₁
  refine hit _ ?_
  rintro it s₂ ⟨I, fp, St, hh, rfl, rfl, W, hIo, hfp, hst, F, N, hIL, hIg, off⟩
  refine block_C W hsz hIo hfp hone hpush hkind hx hst F N hRel hIL hIg off (fun C D K I i v ys h₃ tk₃ oI oK oL E' => turns C D K I i v ys h₃ tk₃ oI oK oL E') hlen ?_
  intro D C h tk ys m' hR F' FC N' hCL hDC hCg offC hlt
  refine ⟨m', FC.ns, fun h'' hs'' => fin D h'' tk ys hR (F'.change hs'' hCL hCg) (fun p hp => ?_) hlt⟩
  refine ⟨hs''.extBut _ _ ?_ (N' p hp).1, (N' p hp).2⟩
  rcases List.mem_cons.mp hp with rfl | hp
  · exact hDC
  · exact offC p hp
theorem Assign_C {L : Addr} {env : Env} {elt iter : Expr} {x y : Str} {px py : Pos} {ifs : List Expr} {scope : Scope} {cl : List (Str × Addr)} {pos spos : Pos} {s : Shared} {Q : Flow → Shared → Prop} (hLe : env.locals = L)
    (hsw : swapsWith (.ListComp elt [⟨.Name x px, iter, ifs, 0⟩] scope pos) (some (.Name y py)) spos.line env = pure true)
    (hclos : closureFor scope env = pure cl) (hone : ∀ n acc, cellsFrom n scope.names acc = (x, n) :: acc) (hpush : ∀ h, pushCells h scope.names = h.push cellNew) (hkind : scope.kind = .function)
    (hnames : ∀ y ∈ scope.names, y.2 = .local → scope.names.lookup y.1 = some .local) (hx : (relabel scope env).names.lookup x = some .cell)
    (hy : env.kindOf y = some .local) (hp : (env.scope.kind == .class || (env.scope.kind == .module && env.locals != env.globals)) = false)
    (h : wpAny (model prog w) A (eval iter env) (fun xv s₁ => CompAC prog w A E g L env elt x y ifs scope cl Q xv s₁) E s)
    (hs : ∀ x, foldedSetIterable iter env x = pure x := by intro _; rfl) :
    wpAny (model prog w) A (exec (.Assign [.Name y py] (.ListComp elt [⟨.Name x px, iter, ifs, 0⟩] scope pos) spos) env) Q E s := by
  subst hLe
  rw [exec_Assign_Name_used _ _ _ _ hsw]
  refine wpAny_bind (wpAny_standAt (wpAny_bind ?_))
  show wpAny _ A (do let _ ← comprehension (.ListComp elt [⟨.Name x px, iter, ifs, 0⟩] scope pos) scope env _ (newList []) false (eval iter env) (some (assign (.Name y py) env))) _ _ s
  refine wpAny_bind (wpAny_mono (wpAny_comprehension_free (use := some (assign (.Name y py) env)) (Q := fun _ s' => Q .next s') rfl hs hclos hkind hnames
    (wpAny_mono h (fun xv s₁ h₁ => ?_) fun _ _ e => e)) (fun _ s' hq => wpAny_pure (wpAny_pure hq)) fun _ _ e => e)
  obtain ⟨n, P, Rel, m, news, hsz, hRel, hlen, hit, turns, fin⟩ := h₁
  refine hit _ ?_
  rintro it s₂ ⟨I, fp, St, hh, rfl, rfl, W, hIo, hfp, hst, F, N, hIL, hIg, off⟩
  refine block_C W hsz hIo hfp hone hpush hkind hx hst F N hRel hIL hIg off (fun C D K I i v ys h₃ tk₃ oI oK oL E' => turns C D K I i v ys h₃ tk₃ oI oK oL E') hlen ?_
  intro D C h tk ys m' hR F' FC N' hCL hDC hCg offC hlt
  show wpAny _ A (assign (.Name y py) env (.ref D)) _ _ _
  refine wpAny_assign_Name (wpAny_storeName_local hy F'.ns (fun h₂ hn₂ hs₂ => ?_) hp)
  have hL₀ : g.get? env.locals = none := Heap.get?_none_of_le F'.above
  have F₂ : Fr g env.locals h₂ (fun z => if z = y then some (.ref D) else m z) := ⟨hn₂, fun b o e => hs₂.extBut b o (fun q => by rw [q, hL₀] at e; cases e) (F'.keep b o e), F'.above⟩
  refine ⟨m', FC.ns.sameBut hs₂ hCL, fun h'' hs'' => fin D h'' _ ys hR (F₂.change hs'' hCL hCg) (fun p hp => ?_) hlt⟩
  have z : h₂.get? p.1 = some p.2 := hs₂.extBut _ _ (N' p hp).2.1 (N' p hp).1
  refine ⟨hs''.extBut _ _ ?_ z, (N' p hp).2⟩
  rcases List.mem_cons.mp hp with rfl | hp
  · exact hDC
  · exact offC p hp
end
end Mine

-- LawS7
namespace Mine
/-- where the law stands once its lines are there -/
structure St8 (g : Heap) (L D8 : Addr) (us : List Value) (o6 : Obj) (m : Str → Option Value) (h : Heap) : Prop where
  F : Fr g L h m
  N : News g L h [(D8, W.listOf us.toArray 0), (L + 1 + 1 + 1 + 1 + 1 + 1, o6)]
  d6 : o6.data = .cell (some (.ref D8))
  l8 : @LT.lt Nat _ (L + 1 + 1 + 1 + 1 + 1 + 1) D8
theorem mem2 {α : Type} {a b x : α} {r : List α} : x ∈ a :: b :: x :: r := List.mem_cons_of_mem _ (List.mem_cons_of_mem _ List.mem_cons_self)
theorem mem5 {α : Type} {a b c d e x : α} {r : List α} : x ∈ a :: b :: c :: d :: e :: x :: r := List.mem_cons_of_mem _ (List.mem_cons_of_mem _ (List.mem_cons_of_mem _ mem2))
theorem sub2 {α : Type} {a b x : α} {r : List α} (h : x ∈ r) : x ∈ a :: b :: r := List.mem_cons_of_mem _ (List.mem_cons_of_mem _ h)
theorem cov_yes {r p : Nat} (h : Builtin.bitAnd (r : Int) (p : Int) = (p : Int)) : coverB r p = true := by
  have h2 : ((Nat.land r p : Nat) : Int) = (p : Int) := h
  unfold coverB
  rw [Nat.beq_eq]
  exact Int.ofNat.inj h2
theorem cov_no {r p : Nat} (h : ¬ Builtin.bitAnd (r : Int) (p : Int) = (p : Int)) : coverB r p = false := by
  cases q : coverB r p with
  | false => rfl
  | true =>
    refine absurd ?_ h
    unfold coverB at q
    rw [Nat.beq_eq] at q
    show ((Nat.land r p : Nat) : Int) = (p : Int)
    rw [q]
theorem unc_yes {rows : List Nat} {p : Nat} {f : Nat → Int} (h : decide ((rows.filter (fun k => coverB k p)).map f = []) = true) : uncov rows p = true := by
  have h := of_decide_eq_true h
  rw [List.map_eq_nil_iff, List.filter_eq_nil_iff] at h
  refine List.all_eq_true.mpr fun r hr => ?_
  have := h r hr
  cases q : coverB r p with
  | false => rfl
  | true => exact absurd q this
theorem unc_no {rows : List Nat} {p : Nat} {f : Nat → Int} (h : decide ((rows.filter (fun k => coverB k p)).map f = []) = false) : uncov rows p = false := by
  have h := of_decide_eq_false h
  cases q : uncov rows p with
  | false => rfl
  | true =>
    refine absurd ?_ h
    rw [List.map_eq_nil_iff, List.filter_eq_nil_iff]
    intro r hr
    have := List.all_eq_true.mp q r hr
    cases q2 : coverB r p with
    | false => exact Bool.false_ne_true
    | true => rw [q2] at this; cases this
section
local macro_rules | `(tactic| walk_at "eval ListComp") => `(tactic| refine Hold.out ?_)
local macro_rules | `(tactic| walk_at "execs cons") => `(tactic| ((with_reducible show wpAny _ _ (execs (Stmt.Assign [Expr.Name (Str.ofString "apart") _] _ _ :: _) _) _ _ _); refine Hold.out ?_))
theorem law_s7 (w : World) (mean : ExcName → Option Value) (mg mb : Str → Option Value) (dp un : Nat) (fr : Option (List Env)) (gd : Option (List Code)) (s s1 : Shared) (R : Result → Shared → Prop)
    (D D2 D5 l D6 : Addr) (ds ps : List Value) (rs : Array Value) (rows : List Nat) (c : Nat) (n1 n2 n3 n4 n5 n6 n7 u1 u2 u3 u4 u5 u6 u7 : Tok) (o1 o2 o3 o4 o5 o6 : Obj) (m : Str → Option Value) : (hd.heap_39 w.params).In s.heap → Top hd.view_39 (looseW hd.view_39 []) mean mg mb s.heap → dp + 40 < recursionLimit → un + 300 < cLine →
    IntsAre ps (pairsN.map (fun r : Nat => (r : Int))) → IntsAre rs.toList (rows.map (fun r : Nat => (r : Int))) → rows.length ≤ 13 → St7 s.heap s.heap.objs.size D D2 D5 l D6 n1 n2 n3 n4 n5 n6 n7 u1 u2 u3 u4 u5 u6 u7 ds ps rs c o1 o2 o3 o4 o5 o6 m s1.heap →
    (∀ (h' : Heap) (tk' : Nat) (D8 : Addr) (us : List Value) (o6' : Obj) (m' : Str → Option Value), IntsAre us ((rows ++ missing rows).map (fun r : Nat => (r : Int))) → St8 s.heap s.heap.objs.size D8 us o6' m' h' → lawGo w dp un fr gd s.heap.objs.size 8 R { s1 with heap := h', toks := tk' }) →
    lawGo w dp un fr gd s.heap.objs.size 7 R s1 := by
  delta lawGo
  w_top off
  k_fill
  intro X T h1 h2 hps hrs hrl S hnext
  obtain ⟨F, N, d1, d2, d3, d6, lD, lD2, lD5, ll, l6⟩ := S
  show wpAny _ (Around.deeper _ (envOfC _ (Scope.mk _ _ _ _ _) _ _ _)) (execs (_ :: _ :: _ :: _ :: _ :: []) (envOfC _ (Scope.mk _ _ _ _ _) _ _ _)) _ _ _
  k_steps
  refine Hold.mk ?_
  refine' ListComp_C (g := s.heap) (L := s.heap.objs.size) (cl := _) ?x1 ?x2 ?x3 ?x4 ?x5 ?x6 ?_ ?x7
  (case x1 => with_unfolding_all rfl)
  (case x2 => intro _ _; rfl)
  (case x3 => intro _; rfl)
  (case x4 => rfl)
  (case x5 => decide)
  (case x6 => rfl)
  (case x7 => intro _; rfl)
  k_steps
  have hrsz : rs.size = rows.length := by have := IntsAre.length hrs; simpa using this
  have hrfit : rs.size ≤ sizeLine := Nat.le_trans (hrsz ▸ hrl) (by decide)
  refine ⟨21, _, fun i ys => IntsAre ys (((pairsN.take i).filter (uncov rows)).map (fun r : Nat => (r : Int))), _, _, by decide, IntsAre.nil, filt_len, src_listN rfl F N List.mem_cons_self (by rw [IntsAre.length hps]; rfl), ?_, ?_⟩
  · rintro C D' K I i v ys h₃ tk₃ oI oK oL E' hi hP hR hK F N
    obtain ⟨z, t, hz, rfl⟩ := intsAre_get hps (by simpa using hP)
    obtain ⟨p, hp, rfl⟩ : ∃ p : Nat, pairsN[i]? = some p ∧ (p : Int) = z := by simpa using hz
    refine turn1 ?_
    k_steps
    refine Hold.mk ?_
    refine' ListComp_M (g := s.heap) (L := C) (cl := _) ?y1 ?y2 ?y3 ?y4 ?y5 ?_ ?y6
    (case y1 => with_unfolding_all rfl)
    (case y2 => decide)
    (case y3 => rfl)
    (case y4 => decide)
    (case y5 => rfl)
    (case y6 => intro _; rfl)
    k_steps
    refine ⟨rs.size, _, fun j zs => IntsAre zs (((rows.take j).filter (fun k => coverB k p)).map (fun r : Nat => (r : Int))), _, _, hrfit, IntsAre.nil, filt_len, src_list rfl (by assumption) (by assumption) ⟨_, (N _ mem5).1, rfl, _, rfl⟩ (.inr ⟨_, mem5⟩), ?_, ?_⟩
    · rintro C2 D2' I2 j v2 zs h₄ tk₄ m₄ oI2 oL2 E2 hj hP2 hR2 hm F N
      obtain ⟨z, t2, hz2, rfl⟩ := intsAre_get hrs (by simpa using hP2)
      obtain ⟨r, hr, rfl⟩ : ∃ r : Nat, rows[j]? = some r ∧ (r : Int) = z := by simpa using hz2
      have e := atL_eq (all1 hm)
      refine turn1 ?_
      rw [e] at F
      k_steps
      all_goals (try k_data)
      all_goals first
        | exact end_e (filt_take (p := fun k => coverB k p) (f := fun r : Nat => (r : Int)) hr (cov_yes (by assumption)) hR2) (by assumption) e (by assumption) fun p hp => hp
        | exact end_e (filt_skip (p := fun k => coverB k p) (f := fun r : Nat => (r : Int)) hr (cov_no (by assumption)) hR2) (by assumption) e (by assumption) fun p hp => hp
    intro D7 h7 tk7 ot hR' F7 N7 l7
    k_lt l7
    rw [hrsz, List.take_length] at hR'
    k_steps
    all_goals first
      | exact end_e (filt_take (p := uncov rows) (f := fun r : Nat => (r : Int)) hp (unc_yes (by assumption)) hR) (by assumption) rfl (by assumption) fun p hp => sub2 hp
      | exact end_e (filt_skip (p := uncov rows) (f := fun r : Nat => (r : Int)) hp (unc_no (by assumption)) hR) (by assumption) rfl (by assumption) fun p hp => sub2 hp
  intro D7 h7 tk7 us hR7 F7 N7 l7
  k_lt l7
  rw [show pairsN.take 21 = pairsN from rfl] at hR7
  refine kmk_add_ints F7 N7 (vs := rs.toList) (by rw [Array.toArray_toList]; exact ⟨_, (N7 _ mem2).1, rfl, _, rfl⟩) (N7.isList List.mem_cons_self) hrs hR7 ?_ ?_
  · intro D8 us8 h8 F8 N8 l8 hI8
    k_lt l8
    k_steps
    rename_i h9 o6' F9 N9 d9
    refine Hold.mk ?_
    rw [← List.map_append] at hI8
    refine hnext _ _ D8 us8 o6' _ hI8 ⟨F9, fun p hp => N9 p ?_, d9, ?_⟩
    · rcases List.mem_cons.mp hp with rfl | hp
      · exact List.mem_cons_self
      · rw [List.mem_singleton.mp hp]
        simp
    · omega
  · rw [List.length_map, List.length_map]
    have := List.length_filter_le (uncov rows) pairsN
    have e : pairsN.length = 21 := rfl
    exact Nat.le_trans (m := 100) (by omega) (by decide)
end
end Mine

-- LawS8
namespace Mine
def apartB (ls : List Nat) (i : Nat) : Bool := (ls.take i).any fun a => Nat.beq (Nat.land a (ls.getD i 0)) 0
theorem sub3 {α : Type} {a b c x : α} {r : List α} (h : x ∈ r) : x ∈ a :: b :: c :: r := List.mem_cons_of_mem _ (sub2 h)
theorem get_cast (ls : List Nat) (i : Nat) : (ls.map (fun r : Nat => (r : Int))).getD ((i : Nat) : Int).toNat 0 = ((ls.getD i 0 : Nat) : Int) := by
  rw [Int.toNat_natCast, List.getD_eq_getElem?_getD, List.getD_eq_getElem?_getD, List.getElem?_map]
  cases ls[i]? <;> rfl
theorem ap_yes {ls : List Nat} {i r : Nat} (h : Builtin.bitAnd (r : Int) ((ls.map (fun r : Nat => (r : Int))).getD ((i : Nat) : Int).toNat 0) = 0) : Nat.beq (Nat.land r (ls.getD i 0)) 0 = true := by
  rw [get_cast] at h
  have h2 : ((Nat.land r (ls.getD i 0) : Nat) : Int) = ((0 : Nat) : Int) := h
  rw [Nat.beq_eq]
  exact Int.ofNat.inj h2
theorem ap_no {ls : List Nat} {i r : Nat} (h : ¬ Builtin.bitAnd (r : Int) ((ls.map (fun r : Nat => (r : Int))).getD ((i : Nat) : Int).toNat 0) = 0) : Nat.beq (Nat.land r (ls.getD i 0)) 0 = false := by
  rw [get_cast] at h
  cases q : Nat.beq (Nat.land r (ls.getD i 0)) 0 with
  | false => rfl
  | true =>
    refine absurd ?_ h
    rw [Nat.beq_eq] at q
    show ((Nat.land r (ls.getD i 0) : Nat) : Int) = ((0 : Nat) : Int)
    rw [q]
theorem aps_yes {ls : List Nat} {i : Nat} {f : Nat → Int} (h : decide (((ls.take i).filter (fun a => Nat.beq (Nat.land a (ls.getD i 0)) 0)).map f = []) = false) : apartB ls i = true := by
  have h := of_decide_eq_false h
  rw [List.map_eq_nil_iff, List.filter_eq_nil_iff] at h
  cases q : apartB ls i with
  | true => rfl
  | false =>
    refine absurd (fun r hr hb => ?_) h
    have := List.any_eq_false.mp q r hr
    exact this hb
theorem aps_no {ls : List Nat} {i : Nat} {f : Nat → Int} (h : decide (((ls.take i).filter (fun a => Nat.beq (Nat.land a (ls.getD i 0)) 0)).map f = []) = true) : apartB ls i = false := by
  have h := of_decide_eq_true h
  rw [List.map_eq_nil_iff, List.filter_eq_nil_iff] at h
  exact List.any_eq_false.mpr fun r hr => h r hr
/-- where the law stands once apart is there -/
structure St9 (g : Heap) (L D8 D7 : Addr) (us as : List Value) (o6 : Obj) (m : Str → Option Value) (h : Heap) : Prop where
  F : Fr g L h (fun z => if z = Str.ofString "apart" then some (.ref D7) else m z)
  N : News g L h [(D7, LCg.lst as), (D8, W.listOf us.toArray 0), (L + 1 + 1 + 1 + 1 + 1 + 1, o6)]
  d6 : o6.data = .cell (some (.ref D8))
  l8 : @LT.lt Nat _ (L + 1 + 1 + 1 + 1 + 1 + 1) D8
  l7 : @LT.lt Nat _ D8 D7
theorem small_n : ∀ n : Nat, n < 35 → Builtin.Range.small 0 (n : Int) 1 = true ∧ Builtin.Range.rangeSize 0 (n : Int) 1 = (n : Int) := by decide +kernel
section
local macro_rules | `(tactic| walk_at "eval ListComp") => `(tactic| refine Hold.out ?_)
local macro_rules | `(tactic| walk_at "exec Assign cons ListComp") => `(tactic| refine Hold.out ?_)
local macro_rules | `(tactic| walk_at "execs cons") => `(tactic| ((with_reducible show wpAny _ _ (execs (Stmt.Assign [Expr.Name (Str.ofString "sizes") _] _ _ :: _) _) _ _ _); refine Hold.out ?_))
theorem law_s8 (w : World) (mean : ExcName → Option Value) (mg mb : Str → Option Value) (dp un : Nat) (fr : Option (List Env)) (gd : Option (List Code)) (s s1 : Shared) (R : Result → Shared → Prop)
    (D8 : Addr) (us : List Value) (ls : List Nat) (o6 : Obj) (m : Str → Option Value) : (hd.heap_39 w.params).In s.heap → Top hd.view_39 (looseW hd.view_39 []) mean mg mb s.heap → dp + 40 < recursionLimit → un + 300 < cLine →
    IntsAre us (ls.map (fun r : Nat => (r : Int))) → ls.length ≤ 34 → St8 s.heap s.heap.objs.size D8 us o6 m s1.heap →
    (∀ (h' : Heap) (tk' : Nat) (D7 : Addr) (as : List Value), IntsAre as (((List.range ls.length).filter (apartB ls)).map (fun r : Nat => (r : Int))) → St9 s.heap s.heap.objs.size D8 D7 us as o6 m h' → lawGo w dp un fr gd s.heap.objs.size 9 R { s1 with heap := h', toks := tk' }) →
    lawGo w dp un fr gd s.heap.objs.size 8 R s1 := by
  delta lawGo
  w_top off
  k_fill
  intro X T h1 h2 hus hll S hnext
  obtain ⟨F, N, d6, l8⟩ := S
  have hn : us.length = ls.length := by have := IntsAre.length hus; simpa using this
  show wpAny _ (Around.deeper _ (envOfC _ (Scope.mk _ _ _ _ _) _ _ _)) (execs (_ :: _ :: _ :: _ :: []) (envOfC _ (Scope.mk _ _ _ _ _) _ _ _)) _ _ _
  k_steps
  refine Hold.mk ?_
  refine' Assign_C (g := s.heap) (L := s.heap.objs.size) (cl := _) ?x0 ?x9 ?x1 ?x2 ?x3 ?x4 ?x5 ?x6 ?xa ?xb ?_ ?x7
  (case x0 => rfl)
  (case x9 => rfl)
  (case x1 => with_unfolding_all rfl)
  (case x2 => intro _ _; rfl)
  (case x3 => intro _; rfl)
  (case x4 => rfl)
  (case x5 => decide)
  (case x6 => rfl)
  (case xa => rfl)
  (case xb => rfl)
  (case x7 => intro _; rfl)
  k_steps
  rename_i h3 tk3 t3 u3' v3 hr3 F3 N3 k3
  rw [List.length_map] at hr3
  obtain ⟨hsm, hsz⟩ := small_n ls.length (by omega)
  refine ⟨ls.length, _, fun i ys => IntsAre ys ((((List.range ls.length).take i).filter (apartB ls)).map (fun r : Nat => (r : Int))), _, _, Nat.le_trans hll (by decide), IntsAre.nil, filt_len, src_range rfl F3 N3 hr3 hsm hsz, ?_, ?_⟩
  · rintro C D' K I i v ys h₃ tk₃ oI oK oL E' hi ⟨t, rfl⟩ hR hK F N
    have hir : (List.range ls.length)[i]? = some i := by rw [List.getElem?_range hi]
    rw [Int.zero_add] at hK
    refine turn1 ?_
    k_steps
    refine Hold.mk ?_
    refine' ListComp_M (g := s.heap) (L := C) (cl := _) ?y1 ?y2 ?y3 ?y4 ?y5 ?_ ?y6
    (case y1 => with_unfolding_all rfl)
    (case y2 => decide)
    (case y3 => rfl)
    (case y4 => decide)
    (case y5 => rfl)
    (case y6 => intro _; rfl)
    k_steps
    rename_i Ds ws hs Fs Ns hIs hCs hLs ls'
    have hW : IntsAre ws ((ls.take i).map (fun r : Nat => (r : Int))) := by rw [List.map_take]; exact hIs
    clear hIs hCs hLs
    have hwl : ws.toArray.size = (ls.take i).length := by have := IntsAre.length hW; simpa using this
    refine ⟨ws.toArray.size, _, fun j zs => IntsAre zs ((((ls.take i).take j).filter (fun a => Nat.beq (Nat.land a (ls.getD i 0)) 0)).map (fun r : Nat => (r : Int))), _, _, by rw [hwl]; exact Nat.le_trans (List.length_take_le _ _) (Nat.le_trans (Nat.le_of_lt hi) (Nat.le_trans hll (by decide))), IntsAre.nil, filt_len, src_list rfl Fs Ns (Ns.isList List.mem_cons_self) (.inr ⟨_, List.mem_cons_self⟩), ?_, ?_⟩
    · rintro C2 D2' I2 j v2 zs h₄ tk₄ m₄ oI2 oL2 E2 hj hP2 hR2 hm F N
      obtain ⟨z, t2, hz2, rfl⟩ := intsAre_get hW hP2
      obtain ⟨r, hr, rfl⟩ : ∃ r : Nat, (ls.take i)[j]? = some r ∧ (r : Int) = z := by rw [List.getElem?_map] at hz2; simpa using hz2
      have e := atL_eq (all1 hm)
      refine turn1 ?_
      rw [e] at F
      k_steps
      all_goals (try k_data)
      all_goals first
        | exact end_e (filt_take (p := fun a => Nat.beq (Nat.land a (ls.getD i 0)) 0) (f := fun r : Nat => (r : Int)) hr (ap_yes (by assumption)) hR2) (by assumption) e (by assumption) fun p hp => hp
        | exact end_e (filt_skip (p := fun a => Nat.beq (Nat.land a (ls.getD i 0)) 0) (f := fun r : Nat => (r : Int)) hr (ap_no (by assumption)) hR2) (by assumption) e (by assumption) fun p hp => hp
    intro D7 h7 tk7 ot hR' F7 N7 l7
    k_lt l7
    rw [hwl, List.take_length] at hR'
    k_steps
    all_goals first
      | exact end_e (filt_take (p := apartB ls) (f := fun r : Nat => (r : Int)) hir (aps_yes (by assumption)) hR) (by assumption) rfl (by assumption) fun p hp => sub3 hp
      | exact end_e (filt_skip (p := apartB ls) (f := fun r : Nat => (r : Int)) hir (aps_no (by assumption)) hR) (by assumption) rfl (by assumption) fun p hp => sub3 hp
  intro D7 h7 tk7 as hR7 F7 N7 l7
  k_lt l7
  rw [show (List.range ls.length).take ls.length = List.range ls.length from List.take_of_length_le (by rw [List.length_range]; exact Nat.le_refl _)] at hR7
  k_steps
  refine Hold.mk ?_
  exact hnext _ _ D7 as hR7 ⟨F7, N7, d6, l8, l7.1⟩
end
end Mine

-- LawS9
namespace Mine
theorem bin_len : ∀ r : Nat, r < 128 → (baseText "0b" 2 (r : Int)).length ≤ 20 := by decide +kernel
theorem bin_count : ∀ r : Nat, r < 128 → (Txt.count (baseText "0b" 2 (r : Int)) (Str.ofString "1") : Int) = ((pc r : Nat) : Int) := by decide +kernel
/-- where the law stands once sizes is there -/
structure St10 (g : Heap) (L D8 D7 D9 : Addr) (us as zs : List Value) (c : Nat) (o6 : Obj) (m : Str → Option Value) (h : Heap) : Prop where
  F : Fr g L h (fun y => if y = Str.ofString "sizes" then some (.ref D9) else if y = Str.ofString "apart" then some (.ref D7) else m y)
  N : News g L h [(D9, W.listOf zs.toArray c), (D7, LCg.lst as), (D8, W.listOf us.toArray 0), (L + 1 + 1 + 1 + 1 + 1 + 1, o6)]
  d6 : o6.data = .cell (some (.ref D8))
  l8 : @LT.lt Nat _ (L + 1 + 1 + 1 + 1 + 1 + 1) D8
  l7 : @LT.lt Nat _ D8 D7
  l9 : @LT.lt Nat _ D7 D9
section
local macro_rules | `(tactic| walk_at "none of these") => `(tactic| skip)
local macro_rules | `(tactic| walk_at "eval ListComp") => `(tactic| refine Hold.out ?_)
local macro_rules | `(tactic| walk_at "exec Assign cons ListComp") => `(tactic| refine Hold.out ?_)
local macro_rules | `(tactic| walk_at "execs cons") => `(tactic| ((with_reducible show wpAny _ _ (execs (Stmt.Assign [Expr.Name (Str.ofString "few") _] _ _ :: _) _) _ _ _); refine Hold.out ?_))
theorem law_s9 (w : World) (mean : ExcName → Option Value) (mg mb : Str → Option Value) (dp un : Nat) (fr : Option (List Env)) (gd : Option (List Code)) (s s1 : Shared) (R : Result → Shared → Prop)
    (D8 D7 : Addr) (us as : List Value) (ls : List Nat) (o6 : Obj) (m : Str → Option Value) : (hd.heap_39 w.params).In s.heap → Top hd.view_39 (looseW hd.view_39 []) mean mg mb s.heap → dp + 40 < recursionLimit → un + 300 < cLine →
    IntsAre us (ls.map (fun r : Nat => (r : Int))) → ls.length ≤ 34 → (∀ r ∈ ls, r < 128) → St9 s.heap s.heap.objs.size D8 D7 us as o6 m s1.heap →
    (∀ (h' : Heap) (tk' : Nat) (D9 : Addr) (vz : List Value) (nz : List Int) (cz : Nat), IntsAre vz nz → nz.Perm (ls.map (fun r : Nat => ((pc r : Nat) : Int))) → nz.Pairwise (fun x y => x ≤ y) → St10 s.heap s.heap.objs.size D8 D7 D9 us as vz cz o6 m h' → lawGo w dp un fr gd s.heap.objs.size 10 R { s1 with heap := h', toks := tk' }) →
    lawGo w dp un fr gd s.heap.objs.size 9 R s1 := by
  delta lawGo
  w_top off
  k_fill
  intro X T h1 h2 hus hll hlt S hnext
  obtain ⟨F, N, d6, l8, l7⟩ := S
  have hn : us.toArray.size = ls.length := by have := IntsAre.length hus; simpa using this
  show wpAny _ (Around.deeper _ (envOfC _ (Scope.mk _ _ _ _ _) _ _ _)) (execs (_ :: _ :: _ :: []) (envOfC _ (Scope.mk _ _ _ _ _) _ _ _)) _ _ _
  k_steps
  refine Hold.mk ?_
  refine' ListComp_M (g := s.heap) (L := s.heap.objs.size) (cl := _) ?x1 ?x2 ?x3 ?x4 ?x5 ?_ ?x6
  (case x1 => with_unfolding_all rfl)
  (case x2 => decide)
  (case x3 => rfl)
  (case x4 => decide)
  (case x5 => rfl)
  (case x6 => intro _; rfl)
  k_steps
  refine ⟨us.toArray.size, _, fun i ys => IntsAre ys ((ls.take i).map (fun r : Nat => ((pc r : Nat) : Int))), _, _, by rw [hn]; exact Nat.le_trans hll (by decide), IntsAre.nil, take_lenN, src_list rfl F N (N.isList (List.mem_cons_of_mem _ List.mem_cons_self)) (.inr ⟨_, List.mem_cons_of_mem _ List.mem_cons_self⟩), ?_, ?_⟩
  · rintro C D' I i v ys h₃ tk₃ m₃ oI oL E' hi hP hR hm F N
    obtain ⟨z, t, hz, rfl⟩ := intsAre_get hus hP
    obtain ⟨r, hr, rfl⟩ : ∃ r : Nat, ls[i]? = some r ∧ (r : Int) = z := by simpa using hz
    have e := atL_eq (all1 hm)
    refine turn0 ?_
    rw [e] at F
    k_steps
    all_goals (try k_data)
    refine P.bin_of_int ?_ (Nat.le_trans (bin_len r (hlt r (List.mem_of_getElem? hr))) (by decide))
    k_steps
    all_goals (try k_data)
    exact end_e (take_snocE (f := fun r : Nat => ((pc r : Nat) : Int)) hr hR (bin_count r (hlt r (List.mem_of_getElem? hr)))) (by assumption) e (by assumption) fun p hp => hp
  intro D6 h6 tk6 zs hR6 F6 N6 l6
  k_lt l6
  rw [hn, List.take_length] at hR6
  k_steps
  rename_i D9 vz nz cz h8 hz ez pz oz bz p0 l9 h9 F9 N9
  refine Hold.mk ?_
  refine hnext _ _ D9 vz nz cz hz pz oz ⟨F9, fun p hp => N9 p ?_, d6, l8, l7, l9.2.1⟩
  rcases List.mem_cons.mp hp with rfl | hp
  · exact List.mem_cons_self
  · exact sub2 hp
end
end Mine

-- LawT
namespace Mine
theorem datInts {news : List (Addr × Obj)} : ∀ {vs : List Value} {ns : List Int}, IntsAre vs ns → DatAll news vs (ns.map Dat.int)
  | _, _, .nil => .nil
  | _, _, .cons z t r => .cons (.int z t) (datInts r)
theorem lit7 (a b c d e f g : Int) (t1 t2 t3 t4 t5 t6 t7 : Tok) : IntsAre [.int a t1, .int b t2, .int c t3, .int d t4, .int e t5, .int f t6, .int g t7] [a, b, c, d, e, f, g] := .cons _ _ (.cons _ _ (.cons _ _ (.cons _ _ (.cons _ _ (.cons _ _ (.cons _ _ .nil))))))
theorem seven_cast (ls : List Nat) : (((ls.map (fun r : Nat => (r : Int))).length : Int) == 7) = decide (ls.length = 7) := by
  rw [List.length_map]
  by_cases q : ls.length = 7
  · rw [q]; rfl
  · rw [decide_eq_false q]
    exact beq_eq_false_iff_ne.mpr fun h => q (by omega)
theorem dat_inj : ∀ {a b : List Int}, a.map Dat.int = b.map Dat.int → a = b
  | [], [], _ => rfl
  | [], _ :: _, h => by cases h
  | _ :: _, [], h => by cases h
  | x :: a, y :: b, h => by
    rw [List.map_cons, List.map_cons, List.cons.injEq, Dat.int.injEq] at h
    rw [h.1, dat_inj h.2]
theorem ok_ints (ns : List Int) : kqdOk 8 (Dat.list (ns.map Dat.int)) = true := by
  show (ns.map Dat.int).all (kqdOk 7) = true
  rw [List.all_eq_true]
  intro d hd
  obtain ⟨x, -, rfl⟩ := List.mem_map.mp hd
  rfl
theorem ok_two (a b : List Int) : ∀ d ∈ [Dat.list (a.map Dat.int), Dat.list (b.map Dat.int)], kqdOk 8 d = true := by
  intro d hd
  simp only [List.mem_cons, List.not_mem_nil, or_false] at hd
  rcases hd with rfl | rfl
  · exact ok_ints _
  · exact ok_ints _
theorem dat_two (ns a b : List Int) : Dat.list (ns.map Dat.int) ∈ [Dat.list (a.map Dat.int), Dat.list (b.map Dat.int)] ↔ ns = a ∨ ns = b := by
  simp only [List.mem_cons, List.not_mem_nil, or_false, Dat.list.injEq]
  exact ⟨fun h => h.imp dat_inj dat_inj, fun h => h.imp (congrArg _) (congrArg _)⟩
theorem fin_true {s s1 : Shared} {R : Result → Shared → Prop} {b : Bool} {h' : Heap} {tk' : Nat} {L : Addr} {m : Str → Option Value} (hret : ∀ (h' : Heap) (tk' : Nat), (∀ b o, s.heap.get? b = some o → h'.get? b = some o) → R (.ok (.ret (.bool true))) { s1 with heap := h', toks := tk' })
    (F : Fr s.heap L h' m) (hb : b = true) : R (.ok (.ret (.bool b))) { s1 with heap := h', toks := tk' } := by
  subst hb
  exact hret _ _ F.keep
section
theorem law_s10 (w : World) (mean : ExcName → Option Value) (mg mb : Str → Option Value) (dp un : Nat) (fr : Option (List Env)) (gd : Option (List Code)) (s s1 : Shared) (R : Result → Shared → Prop)
    (D8 D7 D9 : Addr) (us as zs : List Value) (ls : List Nat) (ns ms : List Int) (c : Nat) (o6 : Obj) (m : Str → Option Value) : (hd.heap_39 w.params).In s.heap → Top hd.view_39 (looseW hd.view_39 []) mean mg mb s.heap → dp + 40 < recursionLimit → un + 300 < cLine →
    IntsAre us (ls.map (fun r : Nat => (r : Int))) → ls.length ≤ 34 → IntsAre as ms → IntsAre zs ns → ns.length ≤ 34 → St10 s.heap s.heap.objs.size D8 D7 D9 us as zs c o6 m s1.heap →
    7 ≤ ls.length → (decide (ls.length = 7) = decide (ms = [])) → (decide (ls.length = 7) = decide (ns = [3, 3, 3, 3, 3, 3, 3] ∨ ns = [2, 2, 2, 2, 2, 2, 6])) →
    (∀ (h' : Heap) (tk' : Nat), (∀ b o, s.heap.get? b = some o → h'.get? b = some o) → R (.ok (.ret (.bool true))) { s1 with heap := h', toks := tk' }) →
    lawGo w dp un fr gd s.heap.objs.size 10 R s1 := by
  delta lawGo
  w_top off
  k_fill
  intro X T h1 h2 hus hll has hzs hnl S p1 p2 p3 hret
  obtain ⟨F, N, d6, l8, l7, l9⟩ := S
  show wpAny _ (Around.deeper _ (envOfC _ (Scope.mk _ _ _ _ _) _ _ _)) (execs (_ :: _ :: []) (envOfC _ (Scope.mk _ _ _ _ _) _ _ _)) _ _ _
  k_steps
  · rename_i hx lz hz1 hz2 hz3 hz4
    refine kqd_isIn hz3 (.head _) rfl rfl (DatAll.cons (DatIn.list (.tail _ (.tail _ (.tail _ (.tail _ (.tail _ (.head _)))))) (datInts (by assumption))) (DatAll.cons (DatIn.list (.tail _ (.head _)) (datInts (lit7 2 2 2 2 2 2 6 _ _ _ _ _ _ _))) DatAll.nil)) (fun _ h => h)
      (DatIn.list (.tail _ (.tail _ (.tail _ (.tail _ (.tail _ (.tail _ (.tail _ (.tail _ (.head _))))))))) (datInts hzs)) (fun _ h => h) (ok_two _ _) (ok_ints _) ?u ?_
    (case u => show un + 3 + 64 < cLine; omega)
    k_steps
    refine fin_true hret hz2 ?_
    rw [seven_cast, p3]
    exact beq_iff_eq.mpr (decide_eq_decide.mpr (dat_two ns [3, 3, 3, 3, 3, 3, 3] [2, 2, 2, 2, 2, 2, 6]).symm)
  · refine fin_true hret (by assumption) ?_
    rw [seven_cast, p2]
    exact beq_self_eq_true _
  · rename_i q
    rw [List.length_map] at q
    exact absurd p1 (by omega)
end
end Mine

-- Plain
namespace Mine
theorem ap_touch (ls : List Nat) : ((List.range ls.length).filter (apartB ls)).map (fun r : Nat => (r : Int)) = [] ↔ allTouch ls = true := by
  rw [List.map_eq_nil_iff, List.filter_eq_nil_iff, allTouch_iff, List.pairwise_iff_getElem]
  constructor
  · intro h i j hi hj hij
    have q := h j (List.mem_range.mpr hj)
    cases q2 : touchB ls[i] ls[j] with
    | true => rfl
    | false =>
      refine absurd (List.any_eq_true.mpr ⟨ls[i], List.mem_take_iff_getElem.mpr ⟨i, by omega, rfl⟩, ?_⟩) q
      unfold touchB nz at q2
      rw [List.getD_eq_getElem?_getD, List.getElem?_eq_getElem hj, Option.getD_some]
      cases q3 : Nat.beq (Nat.land ls[i] ls[j]) 0 with
      | true => rfl
      | false => rw [q3] at q2; cases q2
  · intro h i hi q
    have hi := List.mem_range.mp hi
    obtain ⟨a, ha, hb⟩ := List.any_eq_true.mp q
    obtain ⟨j, hj, rfl⟩ := List.mem_take_iff_getElem.mp ha
    have := h j i (by omega) hi (by omega)
    unfold touchB nz at this
    rw [List.getD_eq_getElem?_getD, List.getElem?_eq_getElem hi, Option.getD_some] at hb
    rw [hb] at this
    cases this
theorem two_six : ∀ l : List Int, (∀ x ∈ l, x = 2 ∨ x = 6) → l.count 6 = 0 → l = List.replicate l.length 2
  | [], _, _ => rfl
  | x :: r, h, hc => by
    rcases h x List.mem_cons_self with rfl | rfl
    · rw [List.count_cons_of_ne (by decide)] at hc
      have := two_six r (fun y hy => h y (List.mem_cons_of_mem _ hy)) hc
      rw [List.length_cons, List.replicate_succ, ← this]
    · rw [List.count_cons_self] at hc; cases hc
theorem one_six : ∀ l : List Int, (∀ x ∈ l, x = 2 ∨ x = 6) → l.count 6 = 1 → l.Perm (List.replicate (l.length - 1) 2 ++ [6])
  | [], _, hc => by cases hc
  | x :: r, h, hc => by
    rcases h x List.mem_cons_self with rfl | rfl
    · rw [List.count_cons_of_ne (by decide)] at hc
      have ih := one_six r (fun y hy => h y (List.mem_cons_of_mem _ hy)) hc
      have hl : r.length = r.length - 1 + 1 := by
        cases r with
        | nil => cases hc
        | cons a r => simp
      rw [List.length_cons, Nat.add_sub_cancel, hl, List.replicate_succ]
      exact ih.cons 2
    · rw [List.count_cons_self] at hc
      have := two_six r (fun y hy => h y (List.mem_cons_of_mem _ hy)) (by omega)
      rw [List.length_cons, Nat.add_sub_cancel, ← this]
      exact (List.perm_append_comm (l₁ := [6]) (l₂ := r))
theorem count_map (ls : List Nat) : (ls.map (fun r : Nat => ((pc r : Nat) : Int))).count 6 = ls.countP (fun n => Nat.beq (pc n) 6) := by
  rw [List.count_eq_countP, List.countP_map]
  apply List.countP_congr
  intro x _
  rw [Function.comp, beq_iff_eq, Nat.beq_eq]
  omega
theorem sizes_are {ls : List Nat} {ns : List Int} (hp : ns.Perm (ls.map (fun r : Nat => ((pc r : Nat) : Int)))) (ho : ns.Pairwise (fun x y => x ≤ y)) (hs : sizesB ls = true) (hl : ls.length = 7) : ns = [3, 3, 3, 3, 3, 3, 3] ∨ ns = [2, 2, 2, 2, 2, 2, 6] := by
  unfold sizesB at hs
  rw [Bool.or_eq_true, Bool.and_eq_true] at hs
  rcases hs with hs | ⟨hs, hc⟩
  · left
    have e : ls.map (fun r : Nat => ((pc r : Nat) : Int)) = List.replicate 7 3 := by
      rw [List.eq_replicate_iff]
      refine ⟨by rw [List.length_map, hl], fun b hb => ?_⟩
      obtain ⟨r, hr, rfl⟩ := List.mem_map.mp hb
      have := List.all_eq_true.mp hs r hr
      rw [Nat.beq_eq] at this
      rw [this]; rfl
    rw [e] at hp
    exact List.perm_replicate.mp hp
  · right
    rw [Nat.beq_eq, ← count_map] at hc
    have h2 := one_six _ (fun x hx => by
      obtain ⟨r, hr, rfl⟩ := List.mem_map.mp hx
      have := List.all_eq_true.mp hs r hr
      rw [Bool.or_eq_true, Nat.beq_eq, Nat.beq_eq] at this
      omega) hc
    rw [List.length_map, hl] at h2
    refine List.Perm.eq_of_pairwise (le := fun x y : Int => x ≤ y) (fun a b _ _ h1 h2 => Int.le_antisymm h1 h2) ho (by decide) (hp.trans h2)
theorem good_end {rows : List Nat} {ns : List Int} (hk : Kept rows) (hp : ns.Perm ((rows ++ missing rows).map (fun r : Nat => ((pc r : Nat) : Int)))) (ho : ns.Pairwise (fun x y => x ≤ y)) :
    7 ≤ (rows ++ missing rows).length ∧ (decide ((rows ++ missing rows).length = 7) = decide (((List.range (rows ++ missing rows).length).filter (apartB (rows ++ missing rows))).map (fun r : Nat => (r : Int)) = [])) ∧
      (decide ((rows ++ missing rows).length = 7) = decide (ns = [3, 3, 3, 3, 3, 3, 3] ∨ ns = [2, 2, 2, 2, 2, 2, 6])) := by
  have hg := good_rows rows hk.sub hk.apart
  unfold goodB at hg
  generalize rows ++ missing rows = ls at hg hp ⊢
  unfold goodL at hg
  rw [Bool.and_eq_true, Bool.and_eq_true, beq_iff_eq, beq_iff_eq] at hg
  obtain ⟨g1, g2, g3⟩ := hg
  have hb : decide (ls.length = 7) = Nat.beq ls.length 7 := by
    rw [Bool.eq_iff_iff, decide_eq_true_eq, Nat.beq_eq]
  refine ⟨Nat.le_of_ble_eq_true g1, ?_, ?_⟩
  · rw [hb, g2, Bool.eq_iff_iff, decide_eq_true_eq]
    exact (ap_touch ls).symm
  · rw [Bool.eq_iff_iff, decide_eq_true_eq, decide_eq_true_eq]
    constructor
    · intro h
      have h7 : Nat.beq ls.length 7 = true := by rw [← hb]; exact decide_eq_true h
      rw [h7, Bool.true_and] at g3
      exact sizes_are hp ho g3.symm h
    · intro h
      have e := hp.length_eq
      rw [List.length_map] at e
      rcases h with rfl | rfl
      · exact e.symm
      · exact e.symm
end Mine

-- LawAll
namespace Mine
theorem pairs_lt : ∀ r ∈ pairsN, r < 128 := by decide +kernel
theorem lines_lt {rows : List Nat} (hk : Kept rows) : ∀ r ∈ rows ++ missing rows, r < 128 := by
  intro r hr
  rcases List.mem_append.mp hr with hr | hr
  · exact masks_lt r (hk.sub r hr)
  · exact pairs_lt r (List.mem_filter.mp hr).1
theorem lines_len {rows : List Nat} (hl : rows.length ≤ 13) : (rows ++ missing rows).length ≤ 34 := by
  rw [List.length_append]
  have := List.length_filter_le (uncov rows) pairsN
  have e : pairsN.length = 21 := rfl
  unfold missing
  omega
theorem b_law (w : World) (mean : ExcName → Option Value) (mg mb : Str → Option Value) (dp un : Nat) (fr : Option (List Env)) (gd : Option (List Code)) (s : Shared) (R : Result → Shared → Prop)
    (a : Addr) (vs : List Value) (ns : List Int) (X : (hd.heap_39 w.params).In s.heap) (T : Top hd.view_39 (looseW hd.view_39 []) mean mg mb s.heap) (h1 : dp + 40 < recursionLimit) (h2 : un + 300 < cLine)
    (hl : s.heap.IsList a vs.toArray) (hI : IntsAre vs ns) (hlen : ns.length ≤ 63)
    (hret : ∀ (h' : Heap) (tk' : Nat) (G : Array GenState), (∀ b o, s.heap.get? b = some o → h'.get? b = some o) → (AllBare s.gens → AllBare G) → R (.ok (.ret (.bool true))) { s with heap := h', toks := tk', gens := G }) :
    codeAny (model PySem.Challenge.rw_tr0022_01.row.prog w) (AA dp un fr gd) (.call (.ref 100) ⟨[.ref a], []⟩) R s := by
  refine law_s1 w mean mg mb dp un fr gd s R a X T h1 h2 ?_
  intro h' tk' D D2 n1 n2 n3 n4 n5 n6 n7 u1 u2 u3 u4 u5 u6 u7 o1 o2 o3 o4 o5 o6 S
  refine law_s2 w mean mg mb dp un fr gd s R a h' tk' D D2 n1 n2 n3 n4 n5 n6 n7 u1 u2 u3 u4 u5 u6 u7 o1 o2 o3 o4 o5 o6 X T h1 h2 S ?_
  intro h'' tk'' S2
  refine law_s3 w mean mg mb dp un fr gd s R a vs ns h'' tk'' D D2 n1 n2 n3 n4 n5 n6 n7 u1 u2 u3 u4 u5 u6 u7 o1 o2 o3 o4 o5 o6 X T h1 h2 hl hI hlen ?_ S2
  intro h3 tk3 D5 ds hds F3 N3 l5
  refine law_s4 w mean mg mb dp un fr gd s R a ns h3 tk3 D D2 D5 ds n1 n2 n3 n4 n5 n6 n7 u1 u2 u3 u4 u5 u6 u7 o1 o2 o3 o4 o5 o6 X T h1 h2 hds F3 N3 l5 S2.lD S2.lD2 ?_ S2.d1 S2.d2 S2.d3 S2.d4 S2.d5 S2.d6
  intro h4 tk4 l o3' S4
  refine law_s5 w mean mg mb dp un fr gd s R a ns h4 tk4 D D2 D5 l ds n1 n2 n3 n4 n5 n6 n7 u1 u2 u3 u4 u5 u6 u7 o1 o2 o3' o4 o5 o6 X T h1 h2 hds S4 ?_
  intro h5 tk5 G rows rs c o4' o5' m hG hk hrl hrs S5
  refine law_s6 w mean mg mb dp un fr gd s { s with heap := h5, toks := tk5, gens := G } R D D2 D5 l ds rs c n1 n2 n3 n4 n5 n6 n7 u1 u2 u3 u4 u5 u6 u7 o1 o2 o3' o4' o5' o6 m X T h1 h2 S5 ?_
  intro h6 tk6 D6 ps hps S6
  refine law_s7 w mean mg mb dp un fr gd s { s with heap := h6, toks := tk6, gens := G } R D D2 D5 l D6 ds ps rs rows c n1 n2 n3 n4 n5 n6 n7 u1 u2 u3 u4 u5 u6 u7 o1 o2 o3' o4' o5' o6 m X T h1 h2 hps hrs hrl S6 ?_
  intro h7 tk7 D8 us o6' m' hus S7
  refine law_s8 w mean mg mb dp un fr gd s { s with heap := h7, toks := tk7, gens := G } R D8 us (rows ++ missing rows) o6' m' X T h1 h2 hus (lines_len hrl) S7 ?_
  intro h8 tk8 D7 as has S8
  refine law_s9 w mean mg mb dp un fr gd s { s with heap := h8, toks := tk8, gens := G } R D8 D7 us as (rows ++ missing rows) o6' m' X T h1 h2 hus (lines_len hrl) (lines_lt hk) S8 ?_
  intro h9 tk9 D9 vz nz cz hz hp ho S9
  obtain ⟨p1, p2, p3⟩ := good_end hk hp ho
  refine law_s10 w mean mg mb dp un fr gd s { s with heap := h9, toks := tk9, gens := G } R D8 D7 D9 us as vz (rows ++ missing rows) nz _ cz o6' m' X T h1 h2 hus (lines_len hrl) has hz ?_ S9 p1 p2 p3 ?_
  · have e := hp.length_eq
    rw [List.length_map] at e
    rw [e]; exact lines_len hrl
  intro h10 tk10 kp
  exact hret h10 tk10 G kp hG
end Mine

-- FinL
namespace Mine
theorem fin : PySem.Challenge.rw_tr0022_01.Holds := by
  refine hd ?_
  w_top off
  k_fill
  intro w s₀ s₁ mg mb G Y fa o pm cd doc dV kV ho hd' hcd hD hmg hg args vals as hpre hlay hrd hwl hlo
  have KX := kIn_of Y
  have X := (Ground.X G).1
  have V := (Ground.X G).2
  refine Ground.open G ?_
  intro T B D TE TW
  try (refine guard_noD D (by decide +kernel) ?_; clear D)
  obtain ⟨_, _, M⟩ := bmod_of_top T
  have TA := at_of_top T
  try (obtain ⟨_, _, he, B0⟩ := based_of_top T rfl hmg ho hd'; have he' : cd = _ := he; subst he'; clear he)
  wrow_args hpre hlay hrd hwl hlo
  rename_i ns hs hlay0 hL1 hr1 hl2 as1 as2 a vs as3 hL ra w1 r0 hI hr hcond hcond2
  have e := mg_of KX T.g (n := Str.ofString "law") (v := .ref 100) (by k_is)
  have hfa : Value.ref 100 = Value.ref fa := Option.some.inj (e.symm.trans hmg)
  have hfa : 100 = fa := by injection hfa
  subst hfa
  have hlen : ns.length ≤ 63 := by omega
  clear hmg hD hcd hd' ho
  refine enter_call ?_
  refine b_law w _ mg mb (1 + claimMargin) 4 (some []) (some []) s₁ _ a vs ns KX T (by decide) (by decide) hL hI hlen ?_
  intro h' tk' Gs kp hGs
  refine ⟨.inl ⟨_, _, [], rfl, fun _ => rfl, ReadsW.bool true, ?_, fun _ => ⟨List.nodup_nil, fun _ hm => (nomatch hm)⟩⟩, OldK.of_keep kp, rfl, hGs ?_⟩
  · first | rfl | wrow_post
  · rw [hg]; exact AllBare.empty
end Mine

theorem PySem.Challenge.cw_tr0022_01_holds : PySem.Challenge.rw_tr0022_01.Holds := by
  exact Mine.fin
