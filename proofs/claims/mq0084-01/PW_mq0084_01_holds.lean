import PyProof.Rows.All
import Wide.All
import OpenK.AllK
import Wide.FinOn
import PySem.Challenge.RW_mq0084_01
section
open PySem PySem.W PyProof.Rows
set_option Elab.async false
namespace Mine
set_option maxRecDepth 100000
set_option maxHeartbeats 8000000
open_top hd for PySem.Challenge.rw_mq0084_01
end Mine
end
section
open PySem PySem.W PySem.Calls PySem.Spec PyProof.Rows
set_option Elab.async false
namespace Mine
set_option maxRecDepth 100000
abbrev PR : Program := PySem.Challenge.rw_mq0084_01.row.prog
noncomputable abbrev KK (w : World) : Frag := hd.heap_39 w.params
def Ret (g : Heap) (Q : Value → Shared → Prop) (v : Value) (s' : Shared) : Prop := (∃ L' m', Fr g L' s'.heap m') ∧ Q v s'
section
variable {prog : Program} {w : World} {A₀ : Around} {s : Shared} {base h₀ : Heap} {outer : List Env} {L : Addr} {m : Str → Option Value} {K : Frag}
  {p : Program} {loose : List Str} {mean : ExcName → Option Value} {mg mb : Str → Option Value}
  {dp un : Nat} {gd : Option (List Code)} {cn : Str} {cs : Scope} {a : Addr} {ccd : Value} {cl : List (Str × Addr)}
  {Q E : Value → Shared → Prop} {name qual : Str} {params : Arguments} {body : List Stmt} {scope : Scope} {dV kV doc pm cdv ct oc : Value} {an od : Option Addr} {osl : Array (Option Value)} {f : Addr} {vs : List Value} {binds : List (Str × Value)}
theorem enter0 (B : Below A₀ base outer h₀) (F : Fr h₀ L s.heap m) (X₀ : K.In h₀) (T : Top p loose mean mg mb h₀) (hke : cs.kind = .function)
    (ho : K.lookup f = some ⟨oc, od, .func (fnOf name qual params body scope dV kV doc pm an cdv ct), osl⟩) (hcd : codeIn K cdv qual = true) (hroom : dp < recursionLimit)
    (hbind : BindsTo s (fnOf name qual params body scope dV kV doc pm an cdv ct) ⟨vs, []⟩ binds) (hloc : ∀ y ∈ binds, scope.names.lookup y.1 = some .local)
    (h : ∀ L' h₁, Fr s.heap L' h₁ (fun y => binds.reverse.lookup y) → News s.heap L' h₁ [] → Below (ktrTop dp un gd cn cs L a ccd cl outer) base (envX cn cs L a ccd cl :: outer) s.heap → K.In s.heap → Top p loose mean mg mb s.heap →
      wpAny (model prog w) ((ktrTop dp un gd cn cs L a ccd cl outer).deeper (envOf qual scope L' f cdv)) (execs body (envOf qual scope L' f cdv))
        (fun fl s' => Ret s.heap Q (match fl with | .ret v => v | _ => .none) s') (fun _ _ => False)
        { s with heap := h₁, toks := s.toks + binds.length })
    (hco : scope.isCoroutine = false) (hgen : scope.isGenerator = false) (hk : scope.kind = .function) (hcell : ∀ x ∈ scope.names, x.2 ≠ .cell) :
    wpAny (model prog w) (ktrTop dp un gd cn cs L a ccd cl outer) (call (.ref f) vs) Q E s := by
  refine wpAny_call ?_
  have hX := X₀.keeps F.keep
  obtain ⟨FG, BG, st, lv⟩ := groundX (A := ktrTop dp un gd cn cs L a ccd cl outer) (env := envX cn cs L a ccd cl) (R := fun _ _ => True) B F (News.nil) rfl rfl hke
  refine codeAny_call_def (fd := fnOf name qual params body scope dV kV doc pm an cdv ct) (body := body) (binds := binds) hroom (hX _ _ ho) rfl (T.nolimit.keeps F.keep) (codeRec_of hX hcd) rfl hbind hcell hloc (fun h₁ hns hk₁ => ?_) hco hgen hk
  exact wpAny_mono (h s.heap.objs.size h₁ ⟨hns, hk₁, Nat.le_refl _⟩ News.nil BG hX (T.keeps st)) (fun fl s' hl => hl.2) fun _ _ y => y.elim
end
end Mine
end
section
open PySem PySem.W PySem.Calls PySem.Spec PyProof.Rows
set_option Elab.async false
namespace Mine
set_option maxRecDepth 100000
def maxF (a b c : UInt64) : UInt64 := if Float64.cmp b a == some Ordering.gt then (if Float64.cmp c b == some Ordering.gt then c else b) else (if Float64.cmp c a == some Ordering.gt then c else a)
def minF (a b c : UInt64) : UInt64 := if Float64.cmp b a == some Ordering.lt then (if Float64.cmp c b == some Ordering.lt then c else b) else (if Float64.cmp c a == some Ordering.lt then c else a)
def fIt (a b c : UInt64) (i : Nat) : UInt64 := if i = 0 then a else if i = 1 then b else c
theorem cmpF_gt {prog : Program} {w : World} {A : Around} {P : Nat → Value → Prop} (val : Nat → UInt64) (hval : ∀ i v, P i v → ∃ t, v = .float (val i) t) :
    CmpOf prog w A .Gt P (fun i j => Float64.cmp (val i) (val j) == some Ordering.gt) := fun i j vi vj s Q E hi hj h => by
  obtain ⟨t, rfl⟩ := hval i vi hi
  obtain ⟨u, rfl⟩ := hval j vj hj
  exact AutoFloatOps.gt_0 h
theorem cmpF_lt {prog : Program} {w : World} {A : Around} {P : Nat → Value → Prop} (val : Nat → UInt64) (hval : ∀ i v, P i v → ∃ t, v = .float (val i) t) :
    CmpOf prog w A .Lt P (fun i j => Float64.cmp (val i) (val j) == some Ordering.lt) := fun i j vi vj s Q E hi hj h => by
  obtain ⟨t, rfl⟩ := hval i vi hi
  obtain ⟨u, rfl⟩ := hval j vj hj
  exact AutoFloatOps.lt_0 h
theorem fItems_at {a b c : UInt64} {t u x : Tok} {i : Nat} {v : Value} (h : (#[Value.float a t, .float b u, .float c x] : Array Value)[i]? = some v) : ∃ t', v = .float (fIt a b c i) t' := by
  match i, h with
  | 0, h => simp at h; exact ⟨t, by simp [fIt, ← h]⟩
  | 1, h => simp at h; exact ⟨u, by simp [fIt, ← h]⟩
  | 2, h => simp at h; exact ⟨x, by simp [fIt, ← h]⟩
  | n + 3, h => simp at h
section
variable {prog : Program} {w : World} {A : Around} {E : Value → Shared → Prop} {s : Shared}
theorem max3_floats {a b c : UInt64} {t u x : Tok} {Q : Value → Shared → Prop} (hh : A.handled = none)
    (h : ∀ h' tk t', (∀ d o, s.heap.get? d = some o → h'.get? d = some o) → Q (.float (maxF a b c) t') { s with heap := h', toks := tk }) :
    wpAny (model prog w) A (call (.builtin "max") [.float a t, .float b u, .float c x]) Q E s := by
  have hT : (s.heap.push { cls := .type "tuple", data := .seq #[.float a t, .float b u, .float c x] }).IsTuple s.heap.objs.size #[.float a t, .float b u, .float c x] := ⟨_, Heap.get?_push_size _ rfl, rfl, 0, by simp⟩
  refine call_max_three (wpAny_pyIter_tuple hT ?_)
  have hsz : (s.heap.push { cls := .type "tuple", data := .seq #[.float a t, .float b u, .float c x] }).objs.size = s.heap.objs.size + 1 := Heap.size_push ..
  refine ⟨_, [_, s.heap.objs.size], [_], _, _, _, _, rfl, Walks.tuple (A := A.in1) hh _ s.heap.objs.size (by rw [hsz]; exact Nat.ne_of_lt (Nat.lt_succ_self _)) #[.float a t, .float b u, .float c x],
    ⟨⟨_, Heap.get?_push_size _ rfl, rfl, rfl⟩, hT.push _⟩, fun d hd => ?_, by simp, cmpF_gt (fIt a b c) (fun _ _ => fItems_at), fun v h' tk hP hk => ?_⟩
  · show d < ((s.heap.push _).push _).objs.size
    rw [Heap.size_push, hsz]
    rcases List.mem_cons.mp hd with rfl | hd
    · rw [hsz]; exact Nat.lt_succ_self _
    · rcases List.mem_cons.mp hd with rfl | hd
      · exact Nat.lt_succ_of_lt (Nat.lt_succ_self _)
      · cases hd
  · have hold : ∀ d o, s.heap.get? d = some o → h'.get? d = some o := fun d o e => by
      refine hk d o (fun hm => ?_) (Heap.get?_push_of_some _ (Heap.get?_push_of_some _ e))
      rcases List.mem_cons.mp hm with e1 | hm
      · have := Heap.lt_size e; rw [e1, hsz] at this; exact Nat.lt_irrefl _ (Nat.lt_of_succ_lt this)
      · cases hm
    obtain ⟨t', hv⟩ := fItems_at hP
    have e : fIt a b c (argBest (fun i j => Float64.cmp (fIt a b c i) (fIt a b c j) == some Ordering.gt) 2) = maxF a b c := by
      simp only [argBest, maxF]
      have e0 : fIt a b c 0 = a := rfl
      have e1 : fIt a b c 1 = b := rfl
      have e2 : fIt a b c 2 = c := rfl
      simp only [Nat.zero_add, e0, e1, e2, Nat.reduceAdd]
      split <;> (simp only [e0, e1, e2]; split <;> rfl)
    rw [hv]
    have hq := h h' tk t' hold
    rw [← e] at hq
    exact hq
theorem min3_floats {a b c : UInt64} {t u x : Tok} {Q : Value → Shared → Prop} (hh : A.handled = none)
    (h : ∀ h' tk t', (∀ d o, s.heap.get? d = some o → h'.get? d = some o) → Q (.float (minF a b c) t') { s with heap := h', toks := tk }) :
    wpAny (model prog w) A (call (.builtin "min") [.float a t, .float b u, .float c x]) Q E s := by
  have hT : (s.heap.push { cls := .type "tuple", data := .seq #[.float a t, .float b u, .float c x] }).IsTuple s.heap.objs.size #[.float a t, .float b u, .float c x] := ⟨_, Heap.get?_push_size _ rfl, rfl, 0, by simp⟩
  refine call_min_three (wpAny_pyIter_tuple hT ?_)
  have hsz : (s.heap.push { cls := .type "tuple", data := .seq #[.float a t, .float b u, .float c x] }).objs.size = s.heap.objs.size + 1 := Heap.size_push ..
  refine ⟨_, [_, s.heap.objs.size], [_], _, _, _, _, rfl, Walks.tuple (A := A.in1) hh _ s.heap.objs.size (by rw [hsz]; exact Nat.ne_of_lt (Nat.lt_succ_self _)) #[.float a t, .float b u, .float c x],
    ⟨⟨_, Heap.get?_push_size _ rfl, rfl, rfl⟩, hT.push _⟩, fun d hd => ?_, by simp, cmpF_lt (fIt a b c) (fun _ _ => fItems_at), fun v h' tk hP hk => ?_⟩
  · show d < ((s.heap.push _).push _).objs.size
    rw [Heap.size_push, hsz]
    rcases List.mem_cons.mp hd with rfl | hd
    · rw [hsz]; exact Nat.lt_succ_self _
    · rcases List.mem_cons.mp hd with rfl | hd
      · exact Nat.lt_succ_of_lt (Nat.lt_succ_self _)
      · cases hd
  · have hold : ∀ d o, s.heap.get? d = some o → h'.get? d = some o := fun d o e => by
      refine hk d o (fun hm => ?_) (Heap.get?_push_of_some _ (Heap.get?_push_of_some _ e))
      rcases List.mem_cons.mp hm with e1 | hm
      · have := Heap.lt_size e; rw [e1, hsz] at this; exact Nat.lt_irrefl _ (Nat.lt_of_succ_lt this)
      · cases hm
    obtain ⟨t', hv⟩ := fItems_at hP
    have e : fIt a b c (argBest (fun i j => Float64.cmp (fIt a b c i) (fIt a b c j) == some Ordering.lt) 2) = minF a b c := by
      simp only [argBest, minF]
      have e0 : fIt a b c 0 = a := rfl
      have e1 : fIt a b c 1 = b := rfl
      have e2 : fIt a b c 2 = c := rfl
      simp only [Nat.zero_add, e0, e1, e2, Nat.reduceAdd]
      split <;> (simp only [e0, e1, e2]; split <;> rfl)
    rw [hv]
    have hq := h h' tk t' hold
    rw [← e] at hq
    exact hq
end
section
variable {prog : Program} {w : World} {A : Around} {E : Value → Shared → Prop} {s : Shared} {h₀ : Heap} {L : Addr} {m : Str → Option Value} {news : List (Addr × Obj)}
theorem max3_FN {a b c : UInt64} {t u x : Tok} {Q : Value → Shared → Prop} (F : Fr h₀ L s.heap m) (N : News h₀ L s.heap news) (hh : A.handled = none)
    (h : ∀ h' tk t', Fr h₀ L h' m → News h₀ L h' news → Q (.float (maxF a b c) t') { s with heap := h', toks := tk }) :
    wpAny (model prog w) A (call (.builtin "max") [.float a t, .float b u, .float c x]) Q E s :=
  max3_floats hh fun h' tk t' hk => h h' tk t' (F.keeps hk) (N.grown hk)
theorem min3_FN {a b c : UInt64} {t u x : Tok} {Q : Value → Shared → Prop} (F : Fr h₀ L s.heap m) (N : News h₀ L s.heap news) (hh : A.handled = none)
    (h : ∀ h' tk t', Fr h₀ L h' m → News h₀ L h' news → Q (.float (minF a b c) t') { s with heap := h', toks := tk }) :
    wpAny (model prog w) A (call (.builtin "min") [.float a t, .float b u, .float c x]) Q E s :=
  min3_floats hh fun h' tk t' hk => h h' tk t' (F.keeps hk) (N.grown hk)
end
end Mine
end
section
open PySem PySem.W PySem.Calls PySem.Spec PyProof.Rows
set_option Elab.async false
namespace Mine
set_option maxRecDepth 100000
set_option maxHeartbeats 8000000
theorem off_1 : True := by w_top off; trivial
theorem fill_ok : (∀ w : World, hd.heap_39 w.params = hd.heap_39 w.params) ∧ PySem.Challenge.rw_mq0084_01 = PySem.Challenge.rw_mq0084_01 := by
  k_fill
  exact ⟨fun _ => rfl, rfl⟩
local macro_rules | `(tactic| walk_at "call builtin:max") => `(tactic| (k_here; (with_reducible show wpAny _ _ (call (Value.builtin _) [Value.float _ _, Value.float _ _, Value.float _ _]) _ _ _); k_dflt (refine' max3_FN ?F ?N ?h ?_; (case F => k_asm); (case N => k_asm); (case h => rfl); k_whole); intro h' tk' t' F' N'; (try k_sweep)))
local macro_rules | `(tactic| walk_at "call builtin:min") => `(tactic| (k_here; (with_reducible show wpAny _ _ (call (Value.builtin _) [Value.float _ _, Value.float _ _, Value.float _ _]) _ _ _); k_dflt (refine' min3_FN ?F ?N ?h ?_; (case F => k_asm); (case N => k_asm); (case h => rfl); k_whole); intro h' tk' t' F' N'; (try k_sweep)))
abbrev six : UInt64 := 4618441417868443648
abbrev one : UInt64 := 4607182418800017408
abbrev two : UInt64 := 4611686018427387904
abbrev four : UInt64 := 4616189618054758400
def hsvI (h : UInt64) : Int := Flt.toInt Float64.truncOf (Float64.mul h six)
def hsvF (h : UInt64) : UInt64 := Float64.sub (Float64.mul h six) (Float64.ofInt (hsvI h))
def hsvP (s v : UInt64) : UInt64 := Float64.mul v (Float64.sub one s)
def hsvQ (h s v : UInt64) : UInt64 := Float64.mul v (Float64.sub one (Float64.mul s (hsvF h)))
def hsvT (h s v : UInt64) : UInt64 := Float64.mul v (Float64.sub one (Float64.mul s (Float64.sub one (hsvF h))))
def HsvOut (h s v r g b : UInt64) : Prop :=
  ((hsvI h).fmod 6 = 0 ∧ r = v ∧ g = hsvT h s v ∧ b = hsvP s v) ∨
  ((hsvI h).fmod 6 = 1 ∧ r = hsvQ h s v ∧ g = v ∧ b = hsvP s v) ∨
  ((hsvI h).fmod 6 = 2 ∧ r = hsvP s v ∧ g = v ∧ b = hsvT h s v) ∨
  ((hsvI h).fmod 6 = 3 ∧ r = hsvP s v ∧ g = hsvQ h s v ∧ b = v) ∨
  ((hsvI h).fmod 6 = 4 ∧ r = hsvT h s v ∧ g = hsvP s v ∧ b = v) ∨
  ((hsvI h).fmod 6 = 5 ∧ r = v ∧ g = hsvP s v ∧ b = hsvQ h s v)
abbrev tupObj (vs : Array Value) : Obj := { cls := .type "tuple", data := .seq vs }
def hue6 (r g b : UInt64) : UInt64 :=
  if Float64.cmp r (maxF r g b) == some Ordering.eq then
    Float64.sub (Float64.div (Float64.sub (maxF r g b) b) (Float64.sub (maxF r g b) (minF r g b))) (Float64.div (Float64.sub (maxF r g b) g) (Float64.sub (maxF r g b) (minF r g b)))
  else if Float64.cmp g (maxF r g b) == some Ordering.eq then
    Float64.sub (Float64.add two (Float64.div (Float64.sub (maxF r g b) r) (Float64.sub (maxF r g b) (minF r g b)))) (Float64.div (Float64.sub (maxF r g b) b) (Float64.sub (maxF r g b) (minF r g b)))
  else Float64.sub (Float64.add four (Float64.div (Float64.sub (maxF r g b) g) (Float64.sub (maxF r g b) (minF r g b)))) (Float64.div (Float64.sub (maxF r g b) r) (Float64.sub (maxF r g b) (minF r g b)))
def hueF (r g b : UInt64) : UInt64 := (Float64.divmod (Float64.div (hue6 r g b) six) one).2
theorem hueF_r {r g b : UInt64} (h : (Float64.cmp r (maxF r g b) == some Ordering.eq) = true) : (Float64.divmod (Float64.div (Float64.sub (Float64.div (Float64.sub (maxF r g b) b) (Float64.sub (maxF r g b) (minF r g b))) (Float64.div (Float64.sub (maxF r g b) g) (Float64.sub (maxF r g b) (minF r g b)))) six) one).2 = hueF r g b := by
  unfold hueF hue6
  rw [if_pos h]
theorem hueF_g {r g b : UInt64} (h : (Float64.cmp r (maxF r g b) == some Ordering.eq) = false) (h2 : (Float64.cmp g (maxF r g b) == some Ordering.eq) = true) : (Float64.divmod (Float64.div (Float64.sub (Float64.add two (Float64.div (Float64.sub (maxF r g b) r) (Float64.sub (maxF r g b) (minF r g b)))) (Float64.div (Float64.sub (maxF r g b) b) (Float64.sub (maxF r g b) (minF r g b)))) six) one).2 = hueF r g b := by
  unfold hueF hue6
  rw [if_neg (by rw [h]; decide), if_pos h2]
theorem hueF_b {r g b : UInt64} (h : (Float64.cmp r (maxF r g b) == some Ordering.eq) = false) (h2 : (Float64.cmp g (maxF r g b) == some Ordering.eq) = false) : (Float64.divmod (Float64.div (Float64.sub (Float64.add four (Float64.div (Float64.sub (maxF r g b) g) (Float64.sub (maxF r g b) (minF r g b)))) (Float64.div (Float64.sub (maxF r g b) r) (Float64.sub (maxF r g b) (minF r g b)))) six) one).2 = hueF r g b := by
  unfold hueF hue6
  rw [if_neg (by rw [h]; decide), if_neg (by rw [h2]; decide)]
theorem fmod6_no {z : Int} (h0 : z.fmod 6 ≠ 0) (h1 : z.fmod 6 ≠ 1) (h2 : z.fmod 6 ≠ 2) (h3 : z.fmod 6 ≠ 3) (h4 : z.fmod 6 ≠ 4) (h5 : z.fmod 6 ≠ 5) : False := by
  have h6 := Int.fmod_nonneg_of_pos z (b := 6) (by decide)
  have h7 := Int.fmod_lt_of_pos z (b := 6) (by decide)
  omega
section
variable {w : World} {A₀ : Around} {s : Shared} {base h₀ : Heap} {outer : List Env} {L : Addr} {m : Str → Option Value}
  {p : Program} {loose : List Str} {mean : ExcName → Option Value} {mg mb : Str → Option Value}
  {dp un : Nat} {gd : Option (List Code)} {cn : Str} {cs : Scope} {a : Addr} {ccd : Value} {cl : List (Str × Addr)}
  {Q E : Value → Shared → Prop} {t1 t2 t3 : Tok}
theorem hsv0 {hh ss vv : UInt64}
  (B : Below A₀ base outer h₀) (F : Fr h₀ L s.heap m) (X₀ : (hd.heap_39 w.params).In h₀) (T : Top p loose mean mg mb h₀) (hke : cs.kind = .function)
  (hroom : dp + 5 < recursionLimit)
  (hs0 : (Float64.cmp ss 0 == some Ordering.eq) = false) (hfin : Float64.isFinite (Float64.mul hh six) = true) (hbd : (Flt.toInt Float64.truncOf (Float64.mul hh six)).natAbs < 2 ^ 1024 - 2 ^ 970)
  (hret : ∀ D r g b tr tg tb L' m' h' tk, Fr s.heap L' h' m' → News s.heap L' h' [(D, tupObj #[.float r tr, .float g tg, .float b tb])] → HsvOut hh ss vv r g b → Q (.ref D) { s with heap := h', toks := tk }) :
  wpAny (model PR w) (ktrTop dp un gd cn cs L a ccd cl outer) (call (.ref 35) [.float hh t1, .float ss t2, .float vv t3]) Q E s := by
  k_dflt (refine' enter0 B F X₀ T hke ?ho ?hcd ?hr ?hb ?hl ?_ ?c1 ?c2 ?c3 ?c4; (case ho => k_is); (case hcd => k_is); (case hr => omega); (case hb => exact BindsTo.of_eq rfl); (case c4 => decide); (case hl => exact locs rfl); (case c1 => rfl); (case c2 => rfl); (case c3 => rfl))
  intro L' h' F' N' B' X' T'
  dsimp only
  (try k_fold)
  k_steps
  all_goals first
    | (rename (Float64.cmp ss 0 == some Ordering.eq) = true => h1; rw [hs0] at h1; cases h1)
    | (exact absurd (by assumption) (by first | (unfold Float64.isNaN; unfold Float64.isFinite at hfin; revert hfin; cases Float64.decode (Float64.mul hh six) <;> simp) | (unfold Float64.isInf; unfold Float64.isFinite at hfin; revert hfin; cases Float64.decode (Float64.mul hh six) <;> simp)))
    | (exfalso; rename 2 ^ 1024 - 2 ^ 970 ≤ Int.natAbs _ => h1; exact absurd hbd (Nat.not_lt.mpr h1))
    | (exact ⟨⟨_, _, by k_asm⟩, hret _ _ _ _ _ _ _ _ _ _ _ (by k_asm) (by k_asm) (.inl ⟨by assumption, rfl, rfl, rfl⟩)⟩)
    | (exact ⟨⟨_, _, by k_asm⟩, hret _ _ _ _ _ _ _ _ _ _ _ (by k_asm) (by k_asm) (.inr (.inl ⟨by assumption, rfl, rfl, rfl⟩))⟩)
    | (exact ⟨⟨_, _, by k_asm⟩, hret _ _ _ _ _ _ _ _ _ _ _ (by k_asm) (by k_asm) (.inr (.inr (.inl ⟨by assumption, rfl, rfl, rfl⟩)))⟩)
    | (exact ⟨⟨_, _, by k_asm⟩, hret _ _ _ _ _ _ _ _ _ _ _ (by k_asm) (by k_asm) (.inr (.inr (.inr (.inl ⟨by assumption, rfl, rfl, rfl⟩))))⟩)
    | (exact ⟨⟨_, _, by k_asm⟩, hret _ _ _ _ _ _ _ _ _ _ _ (by k_asm) (by k_asm) (.inr (.inr (.inr (.inr (.inl ⟨by assumption, rfl, rfl, rfl⟩)))))⟩)
    | (exact ⟨⟨_, _, by k_asm⟩, hret _ _ _ _ _ _ _ _ _ _ _ (by k_asm) (by k_asm) (.inr (.inr (.inr (.inr (.inr ⟨by assumption, rfl, rfl, rfl⟩)))))⟩)
    | exact (fmod6_no (by assumption) (by assumption) (by assumption) (by assumption) (by assumption) (by assumption)).elim
theorem rgb0 {hh ss vv : UInt64}
  (B : Below A₀ base outer h₀) (F : Fr h₀ L s.heap m) (X₀ : (hd.heap_39 w.params).In h₀) (T : Top p loose mean mg mb h₀) (hke : cs.kind = .function)
  (hroom : dp + 5 < recursionLimit)
  (hne : (Float64.cmp (minF hh ss vv) (maxF hh ss vv) == some Ordering.eq) = false) (hz : Float64.isZero (maxF hh ss vv) = false) (hz2 : Float64.isZero (Float64.sub (maxF hh ss vv) (minF hh ss vv)) = false)
  (hret : ∀ D hu t' v2 v3 L' m' h' tk, Fr s.heap L' h' m' → News s.heap L' h' [(D, tupObj #[.float hu t', v2, v3])] → hu = hueF hh ss vv → Q (.ref D) { s with heap := h', toks := tk }) :
  wpAny (model PR w) (ktrTop dp un gd cn cs L a ccd cl outer) (call (.ref 28) [.float hh t1, .float ss t2, .float vv t3]) Q E s := by
  k_dflt (refine' enter0 B F X₀ T hke ?ho ?hcd ?hr ?hb ?hl ?_ ?c1 ?c2 ?c3 ?c4; (case ho => k_is); (case hcd => k_is); (case hr => omega); (case hb => exact BindsTo.of_eq rfl); (case c4 => decide); (case hl => exact locs rfl); (case c1 => rfl); (case c2 => rfl); (case c3 => rfl))
  intro L' h' F' N' B' X' T'
  dsimp only
  (try k_fold)
  k_steps
  all_goals first
    | (rename (Float64.cmp (minF hh ss vv) (maxF hh ss vv) == some Ordering.eq) = true => h1; rw [hne] at h1; cases h1)
    | (rename Float64.isZero (maxF hh ss vv) = true => h1; rw [hz] at h1; cases h1)
    | (rename Float64.isZero (Float64.sub (maxF hh ss vv) (minF hh ss vv)) = true => h1; rw [hz2] at h1; cases h1)
    | exact ⟨⟨_, _, by k_asm⟩, hret _ _ _ _ _ _ _ _ _ (by k_asm) (by k_asm) (hueF_r (by assumption))⟩
    | exact ⟨⟨_, _, by k_asm⟩, hret _ _ _ _ _ _ _ _ _ (by k_asm) (by k_asm) (hueF_g (by assumption) (by assumption))⟩
    | exact ⟨⟨_, _, by k_asm⟩, hret _ _ _ _ _ _ _ _ _ (by k_asm) (by k_asm) (hueF_b (by assumption) (by assumption))⟩
end
end Mine
end
section
open PySem PySem.W PySem.Calls PySem.Spec PyProof.Rows
set_option Elab.async false
namespace Mine
set_option maxRecDepth 100000
set_option maxHeartbeats 8000000
theorem led_of {h₀ g h' : Heap} {L L' : Addr} {m m' : Str → Option Value} {news nw : List (Addr × Obj)} (F : Fr h₀ L g m) (N : News h₀ L g news) (F2 : Fr g L' h' m') (N2 : News g L' h' nw) :
    Fr h₀ L h' m ∧ News h₀ L h' (nw ++ news) ∧ (∀ q ∈ nw, ∀ p ∈ news, p.1 ≠ q.1) := by
  have old : ∀ q ∈ nw, ∀ b o, g.get? b = some o → b ≠ q.1 := fun q hq b o e he => by
    have h3 := (N2 q hq).2.2
    rw [← he, e] at h3
    exact nomatch h3
  refine ⟨F.keeps F2.keep, fun q hq => ?_, fun q hq p hp => old q hq p.1 p.2 (N p hp).1⟩
  rcases List.mem_append.mp hq with hq | hq
  · obtain ⟨oL, _, _, hL, _⟩ := F.ns
    refine ⟨(N2 q hq).1, fun e => old q hq _ _ hL e.symm, ?_⟩
    cases hn : h₀.get? q.1 with
    | none => rfl
    | some o => exact (old q hq _ _ (F.keep _ _ hn) rfl).elim
  · exact ⟨F2.keep _ _ (N q hq).1, (N q hq).2⟩
def AllNe (d : Nat) : List (Addr × Obj) → Prop
  | [] => True
  | p :: r => @Ne Nat p.1 d ∧ AllNe d r
theorem allNe_of {d : Addr} : ∀ {l : List (Addr × Obj)}, (∀ p ∈ l, p.1 ≠ d) → AllNe d l
  | [], _ => trivial
  | p :: _, h => ⟨h p (.head _), allNe_of fun q hq => h q (.tail _ hq)⟩
theorem allNe_all {d : Addr} : ∀ {l : List (Addr × Obj)}, AllNe d l → ∀ p ∈ l, p.1 ≠ d
  | [], _, _, hp => nomatch hp
  | q :: _, h, p, hp => by
    rcases List.mem_cons.mp hp with rfl | hp
    · exact h.1
    · exact allNe_all h.2 p hp
section
variable {w : World} {A₀ : Around} {s : Shared} {base h₀ : Heap} {outer : List Env} {L : Addr} {m : Str → Option Value} {news : List (Addr × Obj)}
  {p : Program} {loose : List Str} {mean : ExcName → Option Value} {mg mb : Str → Option Value}
  {dp un : Nat} {gd : Option (List Code)} {cn : Str} {cs : Scope} {a : Addr} {ccd : Value} {cl : List (Str × Addr)}
  {Q E : Value → Shared → Prop} {t1 t2 t3 : Tok}
theorem hsvN {hh ss vv : UInt64}
  (B : Below A₀ base outer h₀) (F : Fr h₀ L s.heap m) (N : News h₀ L s.heap news) (X₀ : (hd.heap_39 w.params).In h₀) (T : Top p loose mean mg mb h₀) (hke : cs.kind = .function)
  (hroom : dp + 5 < recursionLimit)
  (hs0 : (Float64.cmp ss 0 == some Ordering.eq) = false) (hfin : Float64.isFinite (Float64.mul hh six) = true) (hbd : (Flt.toInt Float64.truncOf (Float64.mul hh six)).natAbs < 2 ^ 1024 - 2 ^ 970)
  (hret : ∀ D r g b tr tg tb h' tk, HsvOut hh ss vv r g b → Fr h₀ L h' m → News h₀ L h' ((D, tupObj #[.float r tr, .float g tg, .float b tb]) :: news) → AllNe D news → Q (.ref D) { s with heap := h', toks := tk }) :
  wpAny (model PR w) (ktrTop dp un gd cn cs L a ccd cl outer) (call (.ref 35) [.float hh t1, .float ss t2, .float vv t3]) Q E s :=
  hsv0 B F X₀ T hke hroom hs0 hfin hbd fun D r g b tr tg tb L' m' h' tk F2 N2 ho => by
    obtain ⟨F3, N3, hne⟩ := led_of F N F2 N2
    exact hret D r g b tr tg tb h' tk ho F3 N3 (allNe_of (hne _ (.head _)))
theorem rgbN {hh ss vv : UInt64}
  (B : Below A₀ base outer h₀) (F : Fr h₀ L s.heap m) (N : News h₀ L s.heap news) (X₀ : (hd.heap_39 w.params).In h₀) (T : Top p loose mean mg mb h₀) (hke : cs.kind = .function)
  (hroom : dp + 5 < recursionLimit)
  (hne : (Float64.cmp (minF hh ss vv) (maxF hh ss vv) == some Ordering.eq) = false) (hz : Float64.isZero (maxF hh ss vv) = false) (hz2 : Float64.isZero (Float64.sub (maxF hh ss vv) (minF hh ss vv)) = false)
  (hret : ∀ D t' v2 v3 h' tk, Fr h₀ L h' m → News h₀ L h' ((D, tupObj #[.float (hueF hh ss vv) t', v2, v3]) :: news) → AllNe D news → Q (.ref D) { s with heap := h', toks := tk }) :
  wpAny (model PR w) (ktrTop dp un gd cn cs L a ccd cl outer) (call (.ref 28) [.float hh t1, .float ss t2, .float vv t3]) Q E s :=
  rgb0 B F X₀ T hke hroom hne hz hz2 fun D hu t' v2 v3 L' m' h' tk F2 N2 ho => by
    obtain ⟨F3, N3, hne⟩ := led_of F N F2 N2
    subst ho
    exact hret D t' v2 v3 h' tk F3 N3 (allNe_of (hne _ (.head _)))
end
end Mine
end
section
open PySem PySem.W PySem.Calls PySem.Spec PyProof.Rows
set_option Elab.async false
namespace Mine
set_option maxRecDepth 100000
set_option maxHeartbeats 8000000
theorem off_2 : True := by w_top off; trivial
local macro_rules | `(tactic| walk_at "no such key of mine") => `(tactic| skip)
theorem fill_ok1 : (∀ w : World, hd.heap_39 w.params = hd.heap_39 w.params) ∧ PySem.Challenge.rw_mq0084_01 = PySem.Challenge.rw_mq0084_01 := by
  k_fill
  exact ⟨fun _ => rfl, rfl⟩
inductive FloatsAre : List Value → List UInt64 → Prop where
  | nil : FloatsAre [] []
  | cons {x : UInt64} {t : Tok} {vs : List Value} {fs : List UInt64} : FloatsAre vs fs → FloatsAre (.float x t :: vs) (x :: fs)
theorem FloatsAre.length {vs : List Value} {fs : List UInt64} (h : FloatsAre vs fs) : vs.length = fs.length := by
  induction h with
  | nil => rfl
  | cons _ ih => simp [ih]
theorem FloatsAre.snoc {vs : List Value} {fs : List UInt64} (h : FloatsAre vs fs) (x : UInt64) (t : Tok) : FloatsAre (vs ++ [.float x t]) (fs ++ [x]) := by
  induction h with
  | nil => exact .cons .nil
  | cons _ ih => exact .cons ih
theorem FloatsAre.get {vs : List Value} {fs : List UInt64} (h : FloatsAre vs fs) : ∀ (i : Nat) (x : UInt64), fs[i]? = some x → ∃ t, vs[i]? = some (.float x t) := by
  induction h with
  | nil => intro i x hx; simp at hx
  | cons _ ih =>
    intro i x hx
    cases i with
    | zero => simp at hx; exact ⟨_, by simp [hx]; rfl⟩
    | succ i => simpa using ih i x (by simpa using hx)
def hK (wheel leap k : Int) : UInt64 := Float64.ofFrac (decide (k * leap < 0) != decide (wheel < 0)) (k * leap).natAbs wheel.natAbs
def sK (kind k : Int) : UInt64 := Float64.ofFrac (decide (1 + (kind + k).fmod 4 < 0) != decide ((4 : Int) < 0)) (1 + (kind + k).fmod 4).natAbs (Int.natAbs 4)
def vK (kind k : Int) : UInt64 := Float64.ofFrac (decide (1 + (kind.fdiv 4 + 3 * k).fmod 4 < 0) != decide ((4 : Int) < 0)) (1 + (kind.fdiv 4 + 3 * k).fmod 4).natAbs (Int.natAbs 4)
def hsvR (h s v : UInt64) : UInt64 := if (hsvI h).fmod 6 = 0 then v else if (hsvI h).fmod 6 = 1 then hsvQ h s v else if (hsvI h).fmod 6 = 2 then hsvP s v else if (hsvI h).fmod 6 = 3 then hsvP s v else if (hsvI h).fmod 6 = 4 then hsvT h s v else v
def hsvG (h s v : UInt64) : UInt64 := if (hsvI h).fmod 6 = 0 then hsvT h s v else if (hsvI h).fmod 6 = 1 then v else if (hsvI h).fmod 6 = 2 then v else if (hsvI h).fmod 6 = 3 then hsvQ h s v else if (hsvI h).fmod 6 = 4 then hsvP s v else hsvP s v
def hsvB (h s v : UInt64) : UInt64 := if (hsvI h).fmod 6 = 0 then hsvP s v else if (hsvI h).fmod 6 = 1 then hsvP s v else if (hsvI h).fmod 6 = 2 then hsvT h s v else if (hsvI h).fmod 6 = 3 then v else if (hsvI h).fmod 6 = 4 then v else hsvQ h s v
theorem hsvOut_eq {h s v r g b : UInt64} (ho : HsvOut h s v r g b) : r = hsvR h s v ∧ g = hsvG h s v ∧ b = hsvB h s v := by
  unfold HsvOut at ho
  unfold hsvR hsvG hsvB
  rcases ho with ⟨e, rfl, rfl, rfl⟩ | ⟨e, rfl, rfl, rfl⟩ | ⟨e, rfl, rfl, rfl⟩ | ⟨e, rfl, rfl, rfl⟩ | ⟨e, rfl, rfl, rfl⟩ | ⟨e, rfl, rfl, rfl⟩ <;> simp [e]
def hueO (h s v : UInt64) : UInt64 := hueF (hsvR h s v) (hsvG h s v) (hsvB h s v)
def hueK (wheel leap kind k : Int) : UInt64 := hueO (hK wheel leap k) (sK kind k) (vK kind k)
structure SpotOk (h s v : UInt64) : Prop where
  s0 : (Float64.cmp s 0 == some Ordering.eq) = false
  fin : Float64.isFinite (Float64.mul h six) = true
  bd : (Flt.toInt Float64.truncOf (Float64.mul h six)).natAbs < 2 ^ 1024 - 2 ^ 970
  ne : (Float64.cmp (minF (hsvR h s v) (hsvG h s v) (hsvB h s v)) (maxF (hsvR h s v) (hsvG h s v) (hsvB h s v)) == some Ordering.eq) = false
  z : Float64.isZero (maxF (hsvR h s v) (hsvG h s v) (hsvB h s v)) = false
  z2 : Float64.isZero (Float64.sub (maxF (hsvR h s v) (hsvG h s v) (hsvB h s v)) (minF (hsvR h s v) (hsvG h s v) (hsvB h s v))) = false
def ToldP (wheel leap kind : Int) (pre : List Int) (c : List Value × Nat) : Prop := pre = rangeKs 0 pre.length ∧ c.1.length = pre.length ∧ (∀ k ∈ pre, k = 0 ∨ (k * leap).fmod wheel ≠ 0) ∧ FloatsAre c.1 (pre.map (hueK wheel leap kind))
structure ToldN (wheel leap kind : Int) (n : Nat) (vs : List Value) : Prop where
  pos : 1 ≤ n
  le : n ≤ 9
  ne : ∀ k : Int, 0 ≤ k → k < n → k = 0 ∨ (k * leap).fmod wheel ≠ 0
  top : n = 9 ∨ ((n : Int) * leap).fmod wheel = 0
  are : FloatsAre vs ((rangeKs 0 n).map (hueK wheel leap kind))
theorem rangeKs_mem {n : Nat} {k : Int} (h0 : 0 ≤ k) (h1 : k < n) : k ∈ rangeKs 0 n := by
  unfold rangeKs
  exact List.mem_map.mpr ⟨k.toNat, List.mem_range.mpr (by omega), by omega⟩
theorem rangeKs_snoc (n : Nat) : rangeKs 0 (n + 1) = rangeKs 0 n ++ [(n : Int)] := by
  unfold rangeKs
  rw [List.range_succ, List.map_append]
  simp
def Stop (P : Prop) : Prop := P
theorem stop {P : Prop} (h : Stop P) : P := h
section
variable {w : World} {A₀ : Around} {s : Shared} {base h₀ : Heap} {outer : List Env} {L : Addr} {m : Str → Option Value}
  {p : Program} {loose : List Str} {mean : ExcName → Option Value} {mg mb : Str → Option Value}
  {dp un : Nat} {gd : Option (List Code)} {cn : Str} {cs : Scope} {a : Addr} {ccd : Value} {cl : List (Str × Addr)}
  {Q E : Value → Shared → Prop} {t1 t2 t3 : Tok}
local macro_rules | `(tactic| walk_at "exec For Name Call cons nil") => `(tactic| (k_here; (rename Fr _ _ _ _ => lF'); (with_unfolding_all refine' For_invVF lF' ?k1 ?k2 ?_; (case k1 => exact rfl); (case k2 => exact rfl); k_whole)))
local macro_rules | `(tactic| walk_at "InvEndN") => `(tactic| refine stop ?_)
theorem told0 {wheel leap kind : Int} (hw1 : 2 ≤ wheel) (hw2 : wheel ≤ 360) (hl1 : 0 ≤ leap) (hl2 : leap < wheel) (hk1 : 0 ≤ kind) (hk2 : kind < 16)
  (B : Below A₀ base outer h₀) (F : Fr h₀ L s.heap m) (X₀ : (hd.heap_39 w.params).In h₀) (T : Top p loose mean mg mb h₀) (hke : cs.kind = .function)
  (hroom : dp + 15 < recursionLimit)
  (hok : ∀ k : Int, 0 ≤ k → k < 9 → k = 0 ∨ (k * leap).fmod wheel ≠ 0 → SpotOk (hK wheel leap k) (sK kind k) (vK kind k))
  (hinf : ∀ k : Int, 0 ≤ k → k < 9 → Float64.isInf (hK wheel leap k) = false ∧ Float64.isInf (sK kind k) = false ∧ Float64.isInf (vK kind k) = false)
  (hret : ∀ l vs nn n L' m' h' tk, Fr s.heap L' h' m' → News s.heap L' h' [(l, W.listOf vs.toArray nn)] → ToldN wheel leap kind n vs → Q (.ref l) { s with heap := h', toks := tk }) :
  wpAny (model PR w) (ktrTop dp un gd cn cs L a ccd cl outer) (call (.ref 42) [.int wheel t1, .int leap t2, .int kind t3]) Q E s := by
  k_dflt (refine' enter0 (binds := [(Str.ofString "wheel", .int wheel t1), (Str.ofString "leap", .int leap t2), (Str.ofString "kind", .int kind t3)]) B F X₀ T hke ?ho ?hcd ?hr ?hb ?hl ?_ ?c1 ?c2 ?c3 ?c4; (case ho => k_is); (case hcd => k_is); (case hr => omega); (case hb => exact BindsTo.of_eq rfl); (case c4 => decide); (case hl => exact locs rfl); (case c1 => rfl); (case c2 => rfl); (case c3 => rfl))
  intro L' h' F' N' B' X' T'
  (try dsimp only)
  (try k_fold)
  k_with "pyIter ref" => refine stop ?_
  k_steps
  k_with_none
  unfold Stop
  rename Fr _ _ _ _ => lF'
  rename News _ _ _ _ => lN'
  rename IsRange _ _ _ _ _ _ _ _ => rgX
  refine' kst_range (σ := List Value × Nat) (n := 9) (fun c => [(_, W.listOf c.1.toArray c.2)]) (fun _ => []) (fun _ => True) [Str.ofString "saturation", Str.ofString "height", Str.ofString "red", Str.ofString "green", Str.ofString "blue"] (ToldP wheel leap kind) ([], 0) rfl rgX (by decide) (by rfl) lF' ?kn ?kf ?kk ?kp ?kt ?kd
  case kn => exact lN'
  case kf => exact True.intro
  case kk => exact List.forall_mem_nil _
  case kp => exact ⟨rfl, rfl, List.forall_mem_nil _, .nil⟩
  case kt =>
    clear lF' lN'
    rintro ⟨vs, nn⟩ pre k tk1 uu hh1 tk2 own hkE hlt hoff _ ⟨hseq, hlen, hpre, hfl⟩ kFr kNews
    dsimp only at hlen hfl kFr kNews ⊢
    change Fr s.heap L' _ _ at kFr
    change News s.heap L' _ _ at kNews
    have hMk := kstMark
    replace hseq := PySem.Flt.Hid.mk hseq
    replace hfl := PySem.Flt.Hid.mk hfl
    replace hpre := PySem.Flt.Hid.mk hpre
    (try k_fold)
    have hk0 : 0 ≤ k := by omega
    have hk9 : k < 9 := by omega
    have hi := hinf k hk0 hk9
    k_with "call ref" => refine stop ?_
    k_steps
    k_with_none
    all_goals first
      | (show Stop _
         unfold Stop
         have hS := hok k hk0 hk9 (by omega)
         k_dflt (refine' hsvN (hh := hK wheel leap k) (ss := sK kind k) (vv := vK kind k) ?B ?F ?N ?X ?T ?ke ?r hS.s0 hS.fin hS.bd ?_; (case B => k_asm); (case F => k_asm); (case N => k_asm); (case X => k_asm); (case T => k_asm); (case ke => rfl); (case r => ktr_room))
         intro D r g b tr tg tb h' tk ho F' N' hD
         obtain ⟨rfl, rfl, rfl⟩ := hsvOut_eq ho
         simp only [AllNe, List.cons_append, List.nil_append] at hD N'
         k_sweep
         dsimp only
         (try k_fold)
         k_with "call ref" => refine stop ?_
         k_steps
         k_with_none
         show Stop _
         unfold Stop
         k_dflt (refine' rgbN ?B ?F ?N ?X ?T ?ke ?r hS.ne hS.z hS.z2 ?_; (case B => k_asm); (case F => k_asm); (case N => k_asm); (case X => k_asm); (case T => k_asm); (case ke => rfl); (case r => ktr_room))
         intro D2 t' v2 v3 h' tk F' N' hD2
         simp only [AllNe] at hD2
         k_sweep
         dsimp only
         (try k_fold)
         k_steps
         show Stop _
         unfold Stop
         rename Fr _ _ _ _ => eF
         rename News _ _ _ _ => eN
         refine kst_end (vs ++ [.float (hueK wheel leap kind k) t'], nn + 1) eF eN ?_ ?_ rfl True.intro (List.forall_mem_nil _) ?_ ?_
         · refine List.forall_mem_cons.mpr ⟨?_, List.forall_mem_nil _⟩
           rw [List.push_toArray]
           exact .tail _ (.tail _ (.head _))
         · exact fun q hq => .tail _ (.tail _ (.tail _ hq))
         · intro z h1 h2 h3
           simp only [List.contains_cons, List.contains_nil, Bool.or_false, Bool.or_eq_false_iff, beq_eq_false_iff_ne, ne_eq] at h3
           obtain ⟨a1, a2, a3, a4, a5⟩ := h3
           rw [if_neg a5, if_neg a4, if_neg a3, if_neg a2, if_neg a1, if_neg h1]
           show (if [Str.ofString "saturation", Str.ofString "height", Str.ofString "red", Str.ofString "green", Str.ofString "blue"].contains z = true then uu z else _) = _
           rw [if_neg (by simp only [List.contains_cons, List.contains_nil, Bool.or_false, Bool.or_eq_true, beq_iff_eq, a1, a2, a3, a4, a5, or_self, not_false_eq_true])]
         · refine ⟨?_, ?_, ?_, ?_⟩
           · rw [List.length_append, List.length_singleton, rangeKs_snoc, ← hseq.out, hkE, Int.zero_add]
           · simp [hlen]
           · intro k' hk'
             rcases List.mem_append.mp hk' with hk' | hk'
             · exact hpre.out k' hk'
             · rw [List.mem_singleton.mp hk']; omega
           · rw [List.map_append]
             exact hfl.out.snoc _ _)
      | (exfalso; rename Float64.isInf _ = true => hI; first | exact Bool.noConfusion (hI.symm.trans hi.2.1) | exact Bool.noConfusion (hI.symm.trans hi.2.2) | exact Bool.noConfusion (hI.symm.trans hi.1))
      | (refine ⟨⟨_, _, by k_asm⟩, hret _ vs nn pre.length _ _ _ _ (by k_asm) (kst_newsOf (by k_asm) (fun q hq => List.mem_append.mpr (.inl hq))) ⟨by omega, by omega, ?_, .inr ?_, ?_⟩⟩
         · intro j hj0 hj1
           exact hpre.out j (hseq.out ▸ rangeKs_mem hj0 hj1)
         · rw [hkE, Int.zero_add] at *
           assumption
         · rw [← hseq.out]; exact hfl.out)
  case kd =>
    clear lF' lN'
    rintro ⟨vs, nn⟩ uu hh1 tk2 _ ⟨hseq, hlen, hpre, hfl⟩ kFr kNews
    dsimp only at hlen hfl kFr kNews ⊢
    change Fr s.heap L' _ _ at kFr
    change News s.heap L' _ _ at kNews
    (try k_fold)
    k_steps
    refine ⟨⟨_, _, by k_asm⟩, hret _ vs nn 9 _ _ _ _ (by k_asm) (by k_asm) ⟨by omega, by omega, ?_, .inl rfl, hfl⟩⟩
    intro j hj0 hj1
    exact hpre j (rangeKs_mem hj0 hj1)
end
end Mine
end
section
open PySem PySem.W PySem.Calls PySem.Spec PyProof.Rows
set_option Elab.async false
namespace Mine
set_option maxRecDepth 100000
section
variable {prog : Program} {w : World} {A₀ : Around} {s : Shared} {base h₀ : Heap} {outer : List Env} {L : Addr} {m : Str → Option Value} {K : Frag} {news : List (Addr × Obj)}
  {p : Program} {loose : List Str} {mean : ExcName → Option Value} {mg mb : Str → Option Value}
  {dp un : Nat} {gd : Option (List Code)} {cn : Str} {cs : Scope} {a : Addr} {ccd : Value} {cl : List (Str × Addr)}
  {Q E : Value → Shared → Prop} {name qual : Str} {params : Arguments} {body : List Stmt} {scope : Scope} {dV kV doc pm cdv ct oc : Value} {an od : Option Addr} {osl : Array (Option Value)} {f : Addr} {vs : List Value} {binds : List (Str × Value)}
theorem enterC (B : Below A₀ base outer h₀) (F : Fr h₀ L s.heap m) (X₀ : K.In h₀) (T : Top p loose mean mg mb h₀) (N : News h₀ L s.heap news) (hke : cs.kind = .function)
    (ho : K.lookup f = some ⟨oc, od, .func (fnOf name qual params body scope dV kV doc pm an cdv ct), osl⟩) (hcd : codeIn K cdv qual = true) (hroom : dp < recursionLimit)
    (hbind : BindsTo s (fnOf name qual params body scope dV kV doc pm an cdv ct) ⟨vs, []⟩ binds) (hkind : (binds.all fun y => scope.names.lookup y.1 == some .local || scope.names.lookup y.1 == some .cell) = true)
    (hnd : ((cellsFrom 0 scope.names []).map (·.1)).Nodup)
    (h : ∀ g L' h₁ tk cells, (∀ b o, s.heap.get? b = some o → b ∉ news.map (·.1) → g.get? b = some o) → (∀ b o, g.get? b = some o → s.heap.get? b = some o) →
      Fr g L' h₁ (bindL (envOfC qual scope L' f cdv).kindOf binds fun _ => none) → News g L' h₁ (cells ++ news) →
      CellsAre (bindC (envOfC qual scope L' f cdv).kindOf binds fun _ => none) (cellsFrom (L' + 1) scope.names []) cells →
      Below (ktrTop dp un gd cn cs L a ccd cl outer) base (envX cn cs L a ccd cl :: outer) g → K.In g → Top p loose mean mg mb g → (∀ p ∈ news, p.1 < L') →
      wpAny (model prog w) ((ktrTop dp un gd cn cs L a ccd cl outer).deeper (envOfC qual scope L' f cdv)) (execs body (envOfC qual scope L' f cdv))
        (fun fl s' => Ret g Q (match fl with | .ret v => v | _ => .none) s') (fun _ _ => False)
        { s with heap := h₁, toks := tk })
    (hco : scope.isCoroutine = false) (hgen : scope.isGenerator = false) (hk : scope.kind = .function) :
    wpAny (model prog w) (ktrTop dp un gd cn cs L a ccd cl outer) (call (.ref f) vs) Q E s := by
  refine wpAny_call ?_
  have hX := X₀.keeps F.keep
  obtain ⟨FG, BG, st, lv⟩ := groundX (A := ktrTop dp un gd cn cs L a ccd cl outer) (env := envX cn cs L a ccd cl) (R := fun _ _ => True) B F N rfl rfl hke
  refine codeAny_call_function (fd := fnOf name qual params body scope dV kV doc pm an cdv ct) hroom (hX _ _ ho) rfl hco hgen rfl (codeRec_of hX hcd) (hbind _ _ _ _ ?_)
  refine wpAny_newFunctionEnv_cells hk (kindsX hkind _) fun env' he s' x => ?_
  subst he
  refine ⟨(T.nolimit.keeps F.keep).keeps x.toInCall.keep, codeAny_func ?_⟩
  obtain ⟨h₁, tk, rfl, _⟩ := x.done
  have hk₁ := x.toInCall.keep
  obtain ⟨cells, NC, Y⟩ := Cl.news (h₀ := s.heap) (Nat.le_refl _) fun n c hm => ⟨x.cell n c (lookup_of_mem_nodup (cellsFrom_names scope.names 0 (s.heap.objs.size + 1) [] [] rfl ▸ hnd) hm), x.above n c hm⟩
  refine wpAny_mono (h _ s.heap.objs.size h₁ tk cells (fun b o e hb => hideAll_get _ e hb) (fun b o e => of_hideAll _ e) ⟨x.toInCall.ns, fun b o e => hk₁ b o (of_hideAll _ e), Nat.le_of_eq (hideAll_size _ _)⟩ (fun p hp => ?_) Y BG (X₀.keeps st) (T.keeps st) (fun p hp => Heap.lt_size (N p hp).1)) (fun fl s' hl => hl.2) fun _ _ y => y.elim
  rcases List.mem_append.mp hp with hp | hp
  · refine ⟨(NC p hp).1, (NC p hp).2.1, ?_⟩
    cases q : (hideAll s.heap (news.map (·.1))).get? p.1 with
    | none => rfl
    | some o =>
      have h3 := of_hideAll _ q
      rw [(NC p hp).2.2] at h3
      exact nomatch h3
  · exact ⟨hk₁ _ _ (N p hp).1, Nat.ne_of_lt (Heap.lt_size (N p hp).1), hideAll_none _ (List.mem_map_of_mem hp)⟩
end
end Mine
end
section
open PySem PySem.W PySem.Calls PySem.Spec PyProof.Rows
set_option Elab.async false
namespace Mine
set_option maxRecDepth 100000
set_option maxHeartbeats 8000000
theorem off_3 : True := by w_top off; trivial
theorem fill_ok2 : (∀ w : World, hd.heap_39 w.params = hd.heap_39 w.params) ∧ PySem.Challenge.rw_mq0084_01 = PySem.Challenge.rw_mq0084_01 := by
  k_fill
  exact ⟨fun _ => rfl, rfl⟩
section
variable {prog : Program} {w : World} {A₀ : Around} {s : Shared} {base h₀ : Heap} {outer : List Env} {L : Addr} {m : Str → Option Value} {K : Frag} {news : List (Addr × Obj)}
  {p : Program} {loose : List Str} {mean : ExcName → Option Value} {mg mb : Str → Option Value}
  {dp un : Nat} {gd : Option (List Code)} {cn : Str} {cs : Scope} {a : Addr} {ccd : Value} {cl : List (Str × Addr)}
  {Q E : Value → Shared → Prop} {name qual : Str} {params : Arguments} {body : List Stmt} {scope : Scope} {dV kV doc pm cdv ct oc : Value} {an od : Option Addr} {osl : Array (Option Value)} {f : Addr} {vs : List Value} {binds : List (Str × Value)}
theorem enterP (B : Below A₀ base outer h₀) (F : Fr h₀ L s.heap m) (X₀ : K.In h₀) (T : Top p loose mean mg mb h₀) (N : News h₀ L s.heap news) (hke : cs.kind = .function)
    (ho : K.lookup f = some ⟨oc, od, .func (fnOf name qual params body scope dV kV doc pm an cdv ct), osl⟩) (hcd : codeIn K cdv qual = true) (hroom : dp < recursionLimit)
    (hbind : BindsTo s (fnOf name qual params body scope dV kV doc pm an cdv ct) ⟨vs, []⟩ binds) (hloc : ∀ y ∈ binds, scope.names.lookup y.1 = some .local)
    (h : ∀ g L' h₁, (∀ b o, s.heap.get? b = some o → b ∉ news.map (·.1) → g.get? b = some o) → (∀ b o, g.get? b = some o → s.heap.get? b = some o) →
      Fr g L' h₁ (fun y => binds.reverse.lookup y) → News g L' h₁ news → Below (ktrTop dp un gd cn cs L a ccd cl outer) base (envX cn cs L a ccd cl :: outer) g → K.In g → Top p loose mean mg mb g → (∀ p ∈ news, p.1 < L') →
      wpAny (model prog w) ((ktrTop dp un gd cn cs L a ccd cl outer).deeper (envOf qual scope L' f cdv)) (execs body (envOf qual scope L' f cdv))
        (fun fl s' => Ret g Q (match fl with | .ret v => v | _ => .none) s') (fun _ _ => False)
        { s with heap := h₁, toks := s.toks + binds.length })
    (hco : scope.isCoroutine = false) (hgen : scope.isGenerator = false) (hk : scope.kind = .function) (hcell : ∀ x ∈ scope.names, x.2 ≠ .cell) :
    wpAny (model prog w) (ktrTop dp un gd cn cs L a ccd cl outer) (call (.ref f) vs) Q E s := by
  refine wpAny_call ?_
  have hX := X₀.keeps F.keep
  obtain ⟨FG, BG, st, lv⟩ := groundX (A := ktrTop dp un gd cn cs L a ccd cl outer) (env := envX cn cs L a ccd cl) (R := fun _ _ => True) B F N rfl rfl hke
  refine codeAny_call_def (fd := fnOf name qual params body scope dV kV doc pm an cdv ct) (body := body) (binds := binds) hroom (hX _ _ ho) rfl (T.nolimit.keeps F.keep) (codeRec_of hX hcd) rfl hbind hcell hloc (fun h₁ hns hk₁ => ?_) hco hgen hk
  exact wpAny_mono (h _ s.heap.objs.size h₁ (fun b o e hb => hideAll_get _ e hb) (fun b o e => of_hideAll _ e) ⟨hns, fun b o e => hk₁ b o (of_hideAll _ e), Nat.le_of_eq (hideAll_size _ _)⟩
    (fun p hp => ⟨hk₁ _ _ (N p hp).1, Nat.ne_of_lt (Heap.lt_size (N p hp).1), hideAll_none _ (List.mem_map_of_mem hp)⟩) BG (X₀.keeps st) (T.keeps st) (fun p hp => Heap.lt_size (N p hp).1)) (fun fl s' hl => hl.2) fun _ _ y => y.elim
theorem item_floats {s : Shared} {A : Around} {E : Value → Shared → Prop} {value slice : PySem.Expr} {l : Addr} {fvs : List Value} {fs : List UInt64} {n : Nat} {k : Int} {u : Tok} {Q : Value → Shared → Prop}
    (N : News h₀ L s.heap news) (hm : (l, W.listOf fvs.toArray n) ∈ news) (hf : FloatsAre fvs fs) (h0 : 0 ≤ k) (hhi : k < fs.length) (hsm : fs.length < 100) (h : ∀ t, Q (.float (fs.getD k.toNat 0) t) s)
    (hs : subscripted slice false (.ref l) (.int k u) = operate [.ref l, .int k u] (getItem (.ref l) (.int k u)) := by with_unfolding_all rfl) :
    wpAny (model prog w) A (subscriptTail value slice (.ref l) (.int k u)) Q E s := by
  have hl : s.heap.IsList l fvs.toArray := ⟨_, (N _ hm).1, rfl, n, rfl⟩
  have hk : k.toNat < fs.length := by omega
  obtain ⟨t, ht⟩ := hf.get k.toNat (fs.getD k.toNat 0) (by rw [List.getD_eq_getElem?_getD, List.getElem?_eq_getElem hk]; rfl)
  exact tail_any hl.typeIs slot_list_getitem.lookup (wpAny_getItem_list hl h0 (by omega) (by simpa using ht) (h t)) hs
end
def FreshIn (g h' : Heap) (nw : List (Addr × Obj)) : Prop := ∀ q ∈ nw, h'.get? q.1 = some q.2 ∧ g.get? q.1 = none
theorem keep_of {h₀ g0 g h' : Heap} {L L' : Addr} {m' : Str → Option Value} {led led2 : List (Addr × Obj)} (N : News h₀ L g0 led) (hg1 : ∀ b o, g0.get? b = some o → b ∉ led.map (·.1) → g.get? b = some o) (F2 : Fr g L' h' m') (N2 : News g L' h' led2) (sub : ∀ q ∈ led, q ∈ led2) :
    ∀ b o, g0.get? b = some o → h'.get? b = some o := fun b o e => by
  by_cases hb : b ∈ led.map (·.1)
  · obtain ⟨q, hq, rfl⟩ := List.mem_map.mp hb
    have h1 := (N q hq).1
    rw [e] at h1
    rw [Option.some.inj h1]
    exact (N2 q (sub q hq)).1
  · exact F2.keep b o (hg1 b o e hb)
theorem fresh_of {g0 g h' : Heap} {L' : Addr} {led led2 nw : List (Addr × Obj)} (hg1 : ∀ b o, g0.get? b = some o → b ∉ led.map (·.1) → g.get? b = some o) (N2 : News g L' h' led2) (sub : ∀ q ∈ nw, q ∈ led2) (hne : ∀ q ∈ nw, q.1 ∉ led.map (·.1)) :
    FreshIn g0 h' nw := fun q hq => by
  refine ⟨(N2 q (sub q hq)).1, ?_⟩
  cases e : g0.get? q.1 with
  | none => rfl
  | some o =>
    have h1 := hg1 _ _ e (hne q hq)
    rw [(N2 q (sub q hq)).2.2] at h1
    exact nomatch h1
theorem fresh3 {g0 g h' : Heap} {L' : Addr} {led rest : List (Addr × Obj)} {q1 q2 q3 : Addr × Obj} (hg1 : ∀ b o, g0.get? b = some o → b ∉ led.map (·.1) → g.get? b = some o) (N2 : News g L' h' (q1 :: q2 :: q3 :: rest))
    (h1 : q1.1 ∉ led.map (·.1)) (h2 : q2.1 ∉ led.map (·.1)) (h3 : q3.1 ∉ led.map (·.1)) : FreshIn g0 h' [q1, q2, q3] := by
  refine fresh_of hg1 N2 (fun q hq => ?_) (fun q hq => ?_)
  · rcases List.mem_cons.mp hq with rfl | hq
    · exact .head _
    rcases List.mem_cons.mp hq with rfl | hq
    · exact .tail _ (.head _)
    rcases List.mem_cons.mp hq with rfl | hq
    · exact .tail _ (.tail _ (.head _))
    exact nomatch hq
  · rcases List.mem_cons.mp hq with rfl | hq
    · exact h1
    rcases List.mem_cons.mp hq with rfl | hq
    · exact h2
    rcases List.mem_cons.mp hq with rfl | hq
    · exact h3
    exact nomatch hq
theorem led_of2 {h₀ g h' : Heap} {L : Addr} {m : Str → Option Value} {news nw : List (Addr × Obj)} (F : Fr h₀ L g m) (N : News h₀ L g news) (hk : ∀ b o, g.get? b = some o → h'.get? b = some o) (hf : FreshIn g h' nw) :
    Fr h₀ L h' m ∧ News h₀ L h' (nw ++ news) ∧ (∀ q ∈ nw, ∀ p ∈ news, p.1 ≠ q.1) := by
  have old : ∀ q ∈ nw, ∀ b o, g.get? b = some o → b ≠ q.1 := fun q hq b o e he => by
    have h3 := (hf q hq).2
    rw [← he, e] at h3
    exact nomatch h3
  refine ⟨F.keeps hk, fun q hq => ?_, fun q hq p hp => old q hq p.1 p.2 (N p hp).1⟩
  rcases List.mem_append.mp hq with hq | hq
  · obtain ⟨oL, _, _, hL, _⟩ := F.ns
    refine ⟨(hf q hq).1, fun e => old q hq _ _ hL e.symm, ?_⟩
    cases hn : h₀.get? q.1 with
    | none => rfl
    | some o => exact (old q hq _ _ (F.keep _ _ hn) rfl).elim
  · exact ⟨hk _ _ (N q hq).1, (N q hq).2⟩
theorem neN6 {a b c d e f x : Nat} (h1 : x ≠ a) (h2 : x ≠ b) (h3 : x ≠ c) (h4 : x ≠ d) (h5 : x ≠ e) (h6 : x ≠ f) : ¬ (x = a ∨ x = b ∨ x = c ∨ x = d ∨ x = e ∨ x = f) := by omega
theorem ints_snoc {vs : List Value} {ns : List Int} (h : IntsAre vs ns) (k : Int) (t : Tok) : IntsAre (vs ++ [.int k t]) (ns ++ [k]) := by
  induction h with
  | nil => exact .cons _ _ .nil
  | cons _ _ _ ih => exact .cons _ _ ih
theorem filter_snoc_t {f : Int → Bool} {pre : List Int} {k : Int} (h : f k = true) : (pre ++ [k]).filter f = pre.filter f ++ [k] := by simp [h]
theorem filter_snoc_f {f : Int → Bool} {pre : List Int} {k : Int} (h : f k = false) : (pre ++ [k]).filter f = pre.filter f := by simp [h]
def ltF (fs : List UInt64) (v i : Int) : Bool := Float64.cmp (fs.getD i.toNat 0) (fs.getD v.toNat 0) == some Ordering.lt
abbrev lamP : Arguments := { posonlyargs := [], args := [{ arg := Str.ofString "place", annotation := none, pos := { line := 67, col := 50, endLine := 67, endCol := 55 } }], vararg := none, kwonlyargs := [], kw_defaults := [], kwarg := none, defaults := [] }
abbrev lamB : PySem.Expr := (((Expr.Name (Str.ofString "told") { line := 67, col := 57, endLine := 67, endCol := 61 }).Subscript (Expr.Name (Str.ofString "place") { line := 67, col := 62, endLine := 67, endCol := 67 }) { line := 67, col := 57, endLine := 67, endCol := 68 }).Compare [CmpOp.Lt] [(Expr.Name (Str.ofString "told") { line := 67, col := 71, endLine := 67, endCol := 75 }).Subscript (Expr.Name (Str.ofString "first") { line := 67, col := 76, endLine := 67, endCol := 81 }) { line := 67, col := 71, endLine := 67, endCol := 82 }] { line := 67, col := 57, endLine := 67, endCol := 82 })
abbrev lamS : Scope := { kind := ScopeKind.function, names := [(Str.ofString "place", NameKind.local), (Str.ofString "first", NameKind.free), (Str.ofString "told", NameKind.free)], isGenerator := false, isCoroutine := false }
section
variable {w : World} {A₀ : Around} {s : Shared} {base h₀ : Heap} {outer : List Env} {L : Addr} {m : Str → Option Value}
  {p : Program} {loose : List Str} {mean : ExcName → Option Value} {mg mb : Str → Option Value}
  {dp un : Nat} {gd : Option (List Code)} {cn : Str} {cs : Scope} {a : Addr} {ccd : Value} {cl : List (Str × Addr)}
  {Q E : Value → Shared → Prop} {t1 t2 t3 : Tok}
local macro_rules | `(tactic| walk_at "exec For Name Name cons nil") => `(tactic| (k_here; (rename Fr _ _ _ _ => lF'); (with_unfolding_all refine' For_invVF lF' ?k1 ?k2 ?_; (case k1 => exact rfl); (case k2 => exact rfl); k_whole)))
local macro_rules | `(tactic| walk_at "InvEndN") => `(tactic| refine stop ?_)
local macro_rules | `(tactic| walk_at "call ref") => `(tactic| (k_here; kn_here; k_dflt (refine wpAny_call ?_; refine' kla_code ?k1 ?k2 ?k3 ?k4 ?k5 ?kA ?kF ?kK ?k6 ?k7 ?k8 ?k9 ?kB ?_ ?c2 ?c3 ?c4 ?c5; (case kA => exact rfl); (case kF => exact rfl); (case kK => exact rfl); (case k1 => k_asm); (case k2 => k_asm); (case k3 => k_asm); (case k4 => k_asm); (case k5 => k_asm); (case k6 => k_mem); (case k7 => exact codeRec_news (by k_asm) (by k_mem) (by assumption) (by assumption)); (case k8 => ktr_room); (case k9 => exact rfl); (case c5 => decide); (case kB => exact locs rfl); (case c2 => exact rfl); (case c3 => exact rfl); (case c4 => exact rfl); k_whole; intro g' L' h' FG' F' N' B' X' T'; (try dsimp only); (try k_fold))))
local macro_rules | `(tactic| walk_at "subscriptTail Name Name ref int") => `(tactic| (k_here; k_dflt (refine' item_floats ?N ?m ?f ?a ?b ?c ?_; (case N => k_asm); (case m => k_mem); (case f => assumption); (case a => assumption); (case b => assumption); (case c => assumption)); intro _))
theorem split0 {D f c' cF cT ta : Addr} {ws fvs : List Value} {ns : List Int} {fs : List UInt64} {nD n1 : Nat} {oc oF oT : Obj} {qual : Str} {pm ctv : Value} {v0 : Int} {t0 tq : Tok} {cvs : Array Value}
  (B : Below A₀ base outer h₀) (F : Fr h₀ L s.heap m) (X₀ : (hd.heap_39 w.params).In h₀) (T : Top p loose mean mg mb h₀) (hke : cs.kind = .function) (hC : CodeHd base 48 44)
  (hroom : dp + 5 < recursionLimit) (hun : un + 100 < cLine)
  (N : News h₀ L s.heap [(D, W.listOf ws.toArray nD), (f, kla_obj (Str.ofString "<lambda>") qual lamP lamB lamS [(Str.ofString "told", cT), (Str.ofString "first", cF)] pm c' ctv), (c', oc), (cF, oF), (cT, oT), (ta, W.listOf fvs.toArray n1)])
  (hoc : oc.data = .fields cvs) (hqc : cvs[1]? = some (.str qual tq)) (hoF : oF.data = .cell (some (.int v0 t0))) (hoT : oT.data = .cell (some (.ref ta)))
  (hi : IntsAre ws ns) (hf : FloatsAre fvs fs) (hin : ∀ i ∈ ns, 0 ≤ i ∧ i < fs.length) (hv0 : 0 ≤ v0) (hv1 : v0 < fs.length) (hfl : fs.length < 100) (hlen : ns.length < 100)
  (hret : ∀ D2 a1 a2 ys ny zs nz h' tk, (∀ b o, s.heap.get? b = some o → h'.get? b = some o) → FreshIn s.heap h' [(D2, tupObj #[.ref a1, .ref a2]), (a2, W.listOf zs.toArray nz), (a1, W.listOf ys.toArray ny)] → a1 < a2 → a2 < D2 →
    IntsAre ys (ns.filter (ltF fs v0)) → IntsAre zs (ns.filter fun i => !ltF fs v0 i) → Q (.ref D2) { s with heap := h', toks := tk }) :
  wpAny (model PR w) (ktrTop dp un gd cn cs L a ccd cl outer) (call (.ref 21) [.ref D, .ref f]) Q E s := by
  k_dflt (refine' enterP (binds := [(Str.ofString "s", .ref D), (Str.ofString "predicate", .ref f)]) B F X₀ T N hke ?ho ?hcd ?hr ?hb ?hl ?_ ?c1 ?c2 ?c3 ?c4; (case ho => k_is); (case hcd => k_is); (case hr => omega); (case hb => exact BindsTo.of_eq rfl); (case c4 => decide); (case hl => exact locs rfl); (case c1 => rfl); (case c2 => rfl); (case c3 => rfl))
  intro g L' h' hg1 hg2 F' N' B' X' T' l1
  k_lt l1
  replace hg1 := PySem.Flt.Hid.mk hg1
  replace hg2 := PySem.Flt.Hid.mk hg2
  replace hin := PySem.Flt.Hid.mk hin
  (try dsimp only)
  (try k_fold)
  k_with "pyIter ref" => refine stop ?_
  k_steps
  k_with_none
  unfold Stop
  rename Fr _ _ _ _ => lF'
  rename News _ _ _ _ => lN'
  refine' kst_listL (σ := List Value × Nat × List Value × Nat) (l := D) (vs := ws) (nn := nD) (fun c => [(_, W.listOf c.2.2.1.toArray c.2.2.2), (_, W.listOf c.1.toArray c.2.1), (D, W.listOf ws.toArray nD), (f, kla_obj (Str.ofString "<lambda>") qual lamP lamB lamS [(Str.ofString "told", cT), (Str.ofString "first", cF)] pm c' ctv), (c', oc), (cF, oF), (cT, oT), (ta, W.listOf fvs.toArray n1)]) (fun _ => []) (fun _ => True) []
    (fun pre c => (c.1.length ≤ pre.length ∧ c.2.2.1.length ≤ pre.length) ∧ IntsAre c.1 (pre.filter (ltF fs v0)) ∧ IntsAre c.2.2.1 (pre.filter fun i => !ltF fs v0 i)) ([], 0, [], 0) rfl ?hl hi lF' lN' True.intro (List.forall_mem_nil _) ?kp ?kt ?kd
  case hl => exact fun c => .tail _ (.tail _ (.head _))
  case kp => exact ⟨⟨Nat.le_refl _, Nat.le_refl _⟩, .nil, .nil⟩
  case kt =>
    clear lF' lN'
    rintro ⟨ys, ny, zs, nz⟩ pre post k tk1 uu hh1 tk2 own hkE hmem hoff _ ⟨⟨hly, hlz⟩, hIy, hIz⟩ kFr kNews
    dsimp only at hly hlz hIy hIz kFr kNews ⊢
    change Fr g L' _ _ at kFr
    change News g L' _ _ at kNews
    have hMk := kstMark
    have hkb := (hin.out k hmem).1
    have hkc := (hin.out k hmem).2
    have hpl : pre.length < 100 := by rw [hkE] at hlen; simp at hlen; omega
    replace hkE := PySem.Flt.Hid.mk hkE
    replace hIy := PySem.Flt.Hid.mk hIy
    replace hIz := PySem.Flt.Hid.mk hIz
    (try k_fold)
    k_steps
    all_goals (
      show Stop _
      unfold Stop
      rename Fr _ _ _ _ => eF
      rename News _ _ _ _ => eN
      rw [List.push_toArray] at eN)
    all_goals first
      | (rename (Float64.cmp _ _ == some Ordering.lt) = true => hc
         refine kst_end (news' := [(_, W.listOf zs.toArray nz), (_, W.listOf (ys ++ [Value.int k tk1]).toArray (ny + 1)), (D, W.listOf ws.toArray nD), (f, kla_obj (Str.ofString "<lambda>") qual lamP lamB lamS [(Str.ofString "told", cT), (Str.ofString "first", cF)] pm c' ctv), (c', oc), (cF, oF), (cT, oT), (ta, W.listOf fvs.toArray n1)] ++ own) (ys ++ [Value.int k tk1], ny + 1, zs, nz) eF eN (fun q hq => List.mem_append.mpr (.inl hq)) (fun q hq => List.mem_append.mpr (.inr hq)) rfl True.intro (List.forall_mem_nil _) ?_ ⟨⟨?_, ?_⟩, ?_, ?_⟩
         · intro z h1 h2 h3
           exact if_neg h1
         · simp; omega
         · simp; omega
         · rw [filter_snoc_t (show ltF fs v0 k = true from hc)]; exact ints_snoc hIy.out _ _
         · rw [filter_snoc_f (by rw [show ltF fs v0 k = true from hc]; rfl)]; exact hIz.out)
      | (rename (Float64.cmp _ _ == some Ordering.lt) = false => hc
         refine kst_end (news' := [(_, W.listOf (zs ++ [Value.int k tk1]).toArray (nz + 1)), (_, W.listOf ys.toArray ny), (D, W.listOf ws.toArray nD), (f, kla_obj (Str.ofString "<lambda>") qual lamP lamB lamS [(Str.ofString "told", cT), (Str.ofString "first", cF)] pm c' ctv), (c', oc), (cF, oF), (cT, oT), (ta, W.listOf fvs.toArray n1)] ++ own) (ys, ny, zs ++ [Value.int k tk1], nz + 1) eF eN (fun q hq => List.mem_append.mpr (.inl hq)) (fun q hq => List.mem_append.mpr (.inr hq)) rfl True.intro (List.forall_mem_nil _) ?_ ⟨⟨?_, ?_⟩, ?_, ?_⟩
         · intro z h1 h2 h3
           exact if_neg h1
         · simp; omega
         · simp; omega
         · rw [filter_snoc_f (show ltF fs v0 k = false from hc)]; exact hIy.out
         · rw [filter_snoc_t (by rw [show ltF fs v0 k = false from hc]; rfl)]; exact ints_snoc hIz.out _ _)
  case kd =>
    clear lF' lN'
    rintro ⟨ys, ny, zs, nz⟩ uu hh1 tk2 _ ⟨⟨hly, hlz⟩, hIy, hIz⟩ kFr kNews
    dsimp only at hly hlz hIy hIz kFr kNews ⊢
    change Fr g L' _ _ at kFr
    change News g L' _ _ at kNews
    (try k_fold)
    k_steps
    rename Fr _ _ _ _ => eF
    rename News _ _ _ _ => eN
    refine ⟨⟨_, _, eF⟩, hret _ _ _ ys ny zs nz _ _ (keep_of N hg1.out eF eN (fun q hq => .tail _ (.tail _ (.tail _ hq)))) (fresh3 hg1.out eN ?_ ?_ ?_) ?_ ?_ hIy hIz⟩
    · simp only [List.map_cons, List.map_nil, List.mem_cons, List.not_mem_nil, or_false]
      refine neN6 ?_ ?_ ?_ ?_ ?_ ?_ <;> omega
    · simp only [List.map_cons, List.map_nil, List.mem_cons, List.not_mem_nil, or_false]
      refine neN6 ?_ ?_ ?_ ?_ ?_ ?_ <;> omega
    · simp only [List.map_cons, List.map_nil, List.mem_cons, List.not_mem_nil, or_false]
      refine neN6 ?_ ?_ ?_ ?_ ?_ ?_ <;> omega
    · exact ltN (by omega)
    · exact ltN (by omega)
end
end Mine
end
section
open PySem PySem.W PySem.Calls PySem.Spec PyProof.Rows
set_option Elab.async false
namespace Mine
set_option maxRecDepth 100000
set_option maxHeartbeats 8000000
theorem off_4 : True := by w_top off; trivial
theorem fill_ok3 : (∀ w : World, hd.heap_39 w.params = hd.heap_39 w.params) ∧ PySem.Challenge.rw_mq0084_01 = PySem.Challenge.rw_mq0084_01 := by
  k_fill
  exact ⟨fun _ => rfl, rfl⟩
def laidF (fs : List UInt64) : Nat → List Int → List Int
  | 0, _ => []
  | _ + 1, [] => []
  | k + 1, v :: r => laidF fs k (r.filter (ltF fs v)) ++ [v] ++ laidF fs k (r.filter fun i => !ltF fs v i)
abbrev lamQ : Str := (Str.ofString "_law_laid" ++ ".<locals>.") ++ Str.ofString "<lambda>"
abbrev fullTab (c' : Addr) : Obj := tabObj #[rawInt 67, rawInt 43, .ref c']
theorem news4 {h₀ h : Heap} {L : Addr} {led : List (Addr × Obj)} {q1 q2 q3 q4 : Addr × Obj} (N : News h₀ L h led) (h1 : q1 ∈ led) (h2 : q2 ∈ led) (h3 : q3 ∈ led) (h4 : q4 ∈ led) : News h₀ L h [q1, q2, q3, q4] := by
  intro q hq
  rcases List.mem_cons.mp hq with rfl | hq
  · exact N _ h1
  rcases List.mem_cons.mp hq with rfl | hq
  · exact N _ h2
  rcases List.mem_cons.mp hq with rfl | hq
  · exact N _ h3
  rcases List.mem_cons.mp hq with rfl | hq
  · exact N _ h4
  exact nomatch hq
theorem news6 {h₀ h : Heap} {L : Addr} {led : List (Addr × Obj)} {q1 q2 q3 q4 q5 q6 : Addr × Obj} (N : News h₀ L h led) (h1 : q1 ∈ led) (h2 : q2 ∈ led) (h3 : q3 ∈ led) (h4 : q4 ∈ led) (h5 : q5 ∈ led) (h6 : q6 ∈ led) : News h₀ L h [q1, q2, q3, q4, q5, q6] := by
  intro q hq
  rcases List.mem_cons.mp hq with rfl | hq
  · exact N _ h1
  rcases List.mem_cons.mp hq with rfl | hq
  · exact N _ h2
  exact news4 N h3 h4 h5 h6 q hq
theorem fresh1 {g0 g h' : Heap} {L' : Addr} {led rest : List (Addr × Obj)} {q1 : Addr × Obj} (hg1 : ∀ b o, g0.get? b = some o → b ∉ led.map (·.1) → g.get? b = some o) (N2 : News g L' h' (q1 :: rest))
    (h1 : q1.1 ∉ led.map (·.1)) : FreshIn g0 h' [q1] := by
  refine fresh_of hg1 N2 (fun q hq => ?_) (fun q hq => ?_)
  · rw [List.mem_singleton.mp hq]; exact .head _
  · rw [List.mem_singleton.mp hq]; exact h1
def LaidC (w : World) (fs : List UInt64) (k : Nat) : Prop :=
  ∀ {A₀ : Around} {s : Shared} {base h₀ : Heap} {outer : List Env} {L : Addr} {m : Str → Option Value}
  {p : Program} {loose : List Str} {mean : ExcName → Option Value} {mg mb : Str → Option Value}
  {dp un : Nat} {gd : Option (List Code)} {cn : Str} {cs : Scope} {a : Addr} {ccd : Value} {cl : List (Str × Addr)}
  {Q E : Value → Shared → Prop} {pa ta c' : Addr} {oc : Obj} {cvs : Array Value} {tq : Tok} {vals fvs : List Value} {ns : List Int} {n1 n2 : Nat},
  Below A₀ base outer h₀ → Fr h₀ L s.heap m → (hd.heap_39 w.params).In h₀ → Top p loose mean mg mb h₀ → cs.kind = .function → CodeHd base 48 44 →
  dp + 3 * k + 20 < recursionLimit → un + 10 * k + 200 < cLine →
  News h₀ L s.heap [(44, fullTab c'), (c', oc), (ta, W.listOf fvs.toArray n1), (pa, W.listOf vals.toArray n2)] →
  oc.data = .fields cvs → cvs[1]? = some (.str lamQ tq) → IntsAre vals ns → FloatsAre fvs fs → (∀ i ∈ ns, 0 ≤ i ∧ i < fs.length) → fs.length < 100 → ns.length ≤ k → k < 50 →
  (∀ r vals' n3 h' tk, (∀ b o, s.heap.get? b = some o → h'.get? b = some o) → FreshIn s.heap h' [(r, W.listOf vals'.toArray n3)] → IntsAre vals' (laidF fs k ns) → Q (.ref r) { s with heap := h', toks := tk }) →
  wpAny (model PR w) (ktrTop dp un gd cn cs L a ccd cl outer) (call (.ref 49) [.ref pa, .ref ta]) Q E s
local macro_rules | `(tactic| units_room) => `(tactic| (have hcL' := cLine_is; simp only [units_in1, units_deeper, Around.mark_units]; dsimp only [ktrTop]; omega))
theorem laidC_zero {w : World} {fs : List UInt64} {k : Nat} : ∀ {A₀ : Around} {s : Shared} {base h₀ : Heap} {outer : List Env} {L : Addr} {m : Str → Option Value}
  {p : Program} {loose : List Str} {mean : ExcName → Option Value} {mg mb : Str → Option Value}
  {dp un : Nat} {gd : Option (List Code)} {cn : Str} {cs : Scope} {a : Addr} {ccd : Value} {cl : List (Str × Addr)}
  {Q E : Value → Shared → Prop} {pa ta : Addr} {n2 : Nat},
  Below A₀ base outer h₀ → Fr h₀ L s.heap m → (hd.heap_39 w.params).In h₀ → Top p loose mean mg mb h₀ → cs.kind = .function →
  dp + 20 < recursionLimit → un + 200 < cLine →
  News h₀ L s.heap [(pa, W.listOf ([] : List Value).toArray n2)] →
  (∀ r n3 h' tk, (∀ b o, s.heap.get? b = some o → h'.get? b = some o) → FreshIn s.heap h' [(r, W.listOf ([] : List Value).toArray n3)] → Q (.ref r) { s with heap := h', toks := tk }) →
  wpAny (model PR w) (ktrTop dp un gd cn cs L a ccd cl outer) (call (.ref 49) [.ref pa, .ref ta]) Q E s := by
  intro A₀ s base h₀ outer L m p loose mean mg mb dp un gd cn cs a ccd cl Q E pa ta n2 B F X₀ T hke hroom hun N hret
  k_dflt (refine' enterC (binds := [(Str.ofString "places", .ref pa), (Str.ofString "told", .ref ta)]) B F X₀ T N hke ?ho ?hcd ?hr ?hb ?hl ?hn ?_ ?c1 ?c2 ?c3; (case ho => k_is); (case hcd => k_is); (case hr => omega); (case hb => exact BindsTo.of_eq rfl); (case hl => rfl); (case hn => decide +kernel); (case c1 => rfl); (case c2 => rfl); (case c3 => rfl))
  intro g L' h' tk' cells' hg1 hg2 F' N' Y' B' X' T' l1
  k_lt l1
  k_cells Y'
  simp only [List.cons_append, List.nil_append] at N'
  change Fr g L' h' (fun y => if y = Str.ofString "places" then some (.ref pa) else none) at F'
  replace hg1 := PySem.Flt.Hid.mk hg1
  replace hg2 := PySem.Flt.Hid.mk hg2
  have hi : IntsAre ([] : List Value) ([] : List Int) := .nil
  (try dsimp only)
  (try k_fold)
  k_steps
  rename Fr _ _ _ _ => eF
  rename News _ _ _ _ => eN
  refine ⟨⟨_, _, eF⟩, hret _ _ _ _ (keep_of N hg1.out eF eN (fun q hq => .tail _ (.tail _ (.tail _ (.tail _ hq))))) (fresh1 hg1.out eN ?_)⟩
  simp only [List.map_cons, List.map_nil, List.mem_cons, List.not_mem_nil, or_false]
  exact neN (by omega)
theorem neN4 {a b c d x : Nat} (h1 : x ≠ a) (h2 : x ≠ b) (h3 : x ≠ c) (h4 : x ≠ d) : ¬ (x = a ∨ x = b ∨ x = c ∨ x = d) := by omega
theorem laidF_length (fs : List UInt64) : ∀ (k : Nat) (ns : List Int), (laidF fs k ns).length ≤ ns.length
  | 0, _ => Nat.zero_le _
  | _ + 1, [] => Nat.le_refl _
  | k + 1, v :: r => by
    have h1 := laidF_length fs k (r.filter (ltF fs v))
    have h2 := laidF_length fs k (r.filter fun i => !ltF fs v i)
    have h3 : (r.filter (ltF fs v)).length + (r.filter fun i => !ltF fs v i).length = r.length := by
      clear h1 h2
      induction r with
      | nil => rfl
      | cons x r ih =>
        by_cases hx : ltF fs v x = true
        · simp [hx]; omega
        · simp [hx]; omega
    simp only [laidF, List.length_append, List.length_cons, List.length_nil]
    omega
theorem laidF_len50 {fs : List UInt64} {k : Nat} {ns : List Int} (h : ns.length < 50) (f : Int → Bool) : (laidF fs k (ns.filter f)).length < 50 :=
  Nat.lt_of_le_of_lt (Nat.le_trans (laidF_length _ _ _) (List.length_filter_le _ _)) h
local macro_rules | `(tactic| walk_at "binaryOp Add ref ref") => `(tactic| (k_here; (with_reducible show wpAny _ _ (binaryOp _ (Value.ref _) (Value.ref _)) _ _ _); k_dflt (refine' kmk_add_ints ?F ?N ?a ?b ?i ?j ?_ ?z; (case F => k_asm); (case N => k_asm); (case a => kmk_list); (case b => kmk_list); (case i => first | assumption | exact .cons _ _ .nil); (case j => first | assumption | exact .cons _ _ .nil); (case z => (simp only [sizeLine_eq, List.length_append, List.length_cons, List.length_nil]; omega))); intro D' ws' h' F' N' l1 hI'; (try k_lt l1); (try k_sweep)))
theorem laidC_succ {w : World} {fs : List UInt64} {k : Nat} (IH : LaidC w fs k) : LaidC w fs (k + 1) := by
  intro A₀ s base h₀ outer L m p loose mean mg mb dp un gd cn cs a ccd cl Q E pa ta c' oc cvs tq vals fvs ns n1 n2 B F X₀ T hke hC hroom hun N hoc hqc hi hf hin hfl hlen hk hret
  cases hi with
  | nil => 
    refine laidC_zero (fs := fs) (k := k) B F X₀ T hke (by omega) (by omega) (fun q hq => N q (.tail _ (.tail _ (.tail _ hq)))) ?_
    intro r n3 h' tk hkp hfr
    exact hret r [] n3 h' tk hkp hfr .nil
  | cons v0 tk0 hi' =>
    rename_i vals ns
    have hv0 : 0 ≤ v0 := (hin v0 (.head _)).1
    have hv1 : v0 < fs.length := (hin v0 (.head _)).2
    have hin' : ∀ i ∈ ns, 0 ≤ i ∧ i < fs.length := fun i h => hin i (.tail _ h)
    have hta : @Ne Nat ta 44 := fun e => by
      have h1 := (N (44, fullTab c') (.head _)).1
      have h2 := (N (ta, W.listOf fvs.toArray n1) (.tail _ (.tail _ (.head _)))).1
      rw [show ta = 44 from e, h1] at h2
      exact nomatch h2
    have hpa : @Ne Nat pa 44 := fun e => by
      have h1 := (N (44, fullTab c') (.head _)).1
      have h2 := (N (pa, W.listOf (Value.int v0 tk0 :: vals).toArray n2) (.tail _ (.tail _ (.tail _ (.head _))))).1
      rw [show pa = 44 from e, h1] at h2
      exact nomatch h2
    have hi : IntsAre (Value.int v0 tk0 :: vals) (v0 :: ns) := .cons _ _ hi'
    clear hin
    have hlns : ns.length < 50 := by simp only [List.length_cons] at hlen; omega
    have hLa := laidF_len50 (fs := fs) (k := k) hlns (ltF fs v0)
    have hLb := laidF_len50 (fs := fs) (k := k) hlns (fun i => !ltF fs v0 i)
    k_dflt (refine' enterC (binds := [(Str.ofString "places", .ref pa), (Str.ofString "told", .ref ta)]) B F X₀ T N hke ?ho ?hcd ?hr ?hb ?hl ?hn ?_ ?c1 ?c2 ?c3; (case ho => k_is); (case hcd => k_is); (case hr => omega); (case hb => exact BindsTo.of_eq rfl); (case hl => rfl); (case hn => decide +kernel); (case c1 => rfl); (case c2 => rfl); (case c3 => rfl))
    intro g L' h' tk' cells' hg1 hg2 F' N' Y' B' X' T' l1
    k_lt l1
    k_cells Y'
    simp only [List.cons_append, List.nil_append] at N'
    change Fr g L' h' (fun y => if y = Str.ofString "places" then some (.ref pa) else none) at F'
    rename _ = Data.cell (bindC _ _ _ (Str.ofString "first")) => dF
    rename _ = Data.cell (bindC _ _ _ (Str.ofString "told")) => dT
    change _ = Data.cell none at dF
    change _ = Data.cell (some (Value.ref ta)) at dT
    replace hg1 := PySem.Flt.Hid.mk hg1
    replace hg2 := PySem.Flt.Hid.mk hg2
    replace hin' := PySem.Flt.Hid.mk hin'
    replace hret := PySem.Flt.Hid.mk hret
    (try dsimp only)
    (try k_fold)
    k_with "call ref" => refine stop ?_
    k_steps
    k_with_none
    · rename decide (v0 :: ns = []) = true => hx
      exact nomatch (of_decide_eq_true hx)
    show Stop _
    unfold Stop
    rename Fr _ _ _ _ => eF
    rename News _ _ _ _ => eN
    rename IntsAre _ (List.drop 1 (v0 :: ns)) => hD
    rename _ = Data.cell (some (Value.int ((v0 :: ns).getD (Int.toNat 0) 0) _)) => hcF
    k_dflt (refine' split0 (v0 := v0) (ns := ns) (fs := fs) (fvs := fvs) ?B eF ?X ?T rfl hC ?r ?u (news6 eN ?h1 ?h2 ?h3 ?h4 ?h5 ?h6) hoc hqc hcF dT hD hf hin'.out hv0 hv1 hfl ?hl ?_; (case B => k_asm); (case X => k_asm); (case T => k_asm); (case r => ktr_room); (case u => ktr_units); (case h2 => k_mem); (case h1 => k_mem); (case h3 => k_mem); (case h4 => k_mem); (case h5 => k_mem); (case h6 => k_mem); (case hl => (simp only [List.length_cons] at hlen; omega)))
    intro D2 a1 a2 ys ny zs nz h' tk hkp hfr h12 h2D hIy hIz
    obtain ⟨eF2, eN2, hne⟩ := led_of2 eF eN hkp hfr
    clear eF eN
    have n1' := allNe_of (hne _ (.head _))
    have n2' := allNe_of (hne _ (.tail _ (.head _)))
    have n3' := allNe_of (hne _ (.tail _ (.tail _ (.head _))))
    replace h12 := ltN h12
    replace h2D := ltN h2D
    simp only [AllNe, and_true] at n1' n2' n3'
    simp only [List.cons_append, List.nil_append] at eN2
    clear hne hkp hfr
    dsimp only
    (try k_fold)
    k_with "call ref" => refine stop ?_
    k_steps
    k_with_none
    show Stop _
    unfold Stop
    rename Fr _ _ _ _ => eF
    rename News _ _ _ _ => eN
    k_dflt (refine' IH (ns := ns.filter (ltF fs v0)) ?B eF ?X ?T rfl hC ?r ?u (news4 eN ?h1 ?h2 ?h3 ?h4) hoc hqc hIy hf ?hin hfl ?hl ?hk ?_; (case B => k_asm); (case X => k_asm); (case T => k_asm); (case r => ktr_room); (case u => ktr_units); (case h1 => k_mem); (case h2 => k_mem); (case h3 => k_mem); (case h4 => k_mem); (case hin => exact fun i h => hin'.out i ((List.mem_filter.mp h).1)); (case hl => (have hfl9 := List.length_filter_le (ltF fs v0) ns; simp only [List.length_cons] at hlen; omega)); (case hk => omega))
    intro r1 wr1 qr1 h' tk hkp hfr hIr1
    obtain ⟨eF2, eN2, hne⟩ := led_of2 eF eN hkp hfr
    clear eF eN
    have nr1' := allNe_of (hne _ (.head _))
    simp only [AllNe, and_true] at nr1'
    simp only [List.cons_append, List.nil_append] at eN2
    clear hne hkp hfr
    dsimp only
    (try k_fold)
    k_with "call ref" => refine stop ?_
    k_steps
    k_with_none
    show Stop _
    unfold Stop
    rename Fr _ _ _ _ => eF
    rename News _ _ _ _ => eN
    k_dflt (refine' IH (ns := ns.filter fun i => !ltF fs v0 i) ?B eF ?X ?T rfl hC ?r ?u (news4 eN ?h1 ?h2 ?h3 ?h4) hoc hqc hIz hf ?hin hfl ?hl ?hk ?_; (case B => k_asm); (case X => k_asm); (case T => k_asm); (case r => ktr_room); (case u => ktr_units); (case h1 => k_mem); (case h2 => k_mem); (case h3 => k_mem); (case h4 => k_mem); (case hin => exact fun i h => hin'.out i ((List.mem_filter.mp h).1)); (case hl => (have hfl9 := List.length_filter_le (fun i => !ltF fs v0 i) ns; simp only [List.length_cons] at hlen; omega)); (case hk => omega))
    intro r2 wr2 qr2 h' tk hkp hfr hIr2
    obtain ⟨eF2, eN2, hne⟩ := led_of2 eF eN hkp hfr
    clear eF eN
    have nr2' := allNe_of (hne _ (.head _))
    simp only [AllNe, and_true] at nr2'
    simp only [List.cons_append, List.nil_append] at eN2
    clear hne hkp hfr
    dsimp only
    (try k_fold)
    k_steps
    rename Fr _ _ _ _ => eF
    rename News _ _ _ _ => eN
    refine ⟨⟨_, _, eF⟩, hret.out _ _ _ _ _ (keep_of N hg1.out eF eN (fun q hq => ?_)) (fresh1 hg1.out eN ?_) (by assumption)⟩
    · repeat' first | exact hq | refine List.Mem.tail _ ?_
    · simp only [List.map_cons, List.map_nil, List.mem_cons, List.not_mem_nil, or_false]
      refine neN4 ?_ ?_ ?_ ?_ <;> omega
theorem laidC_nil {w : World} {fs : List UInt64} : LaidC w fs 0 := by
  intro A₀ s base h₀ outer L m p loose mean mg mb dp un gd cn cs a ccd cl Q E pa ta c' oc cvs tq vals fvs ns n1 n2 B F X₀ T hke hC hroom hun N hoc hqc hi hf hin hfl hlen hk hret
  cases hi with
  | nil =>
    refine laidC_zero (fs := fs) (k := 0) B F X₀ T hke (by omega) (by omega) (fun q hq => N q (.tail _ (.tail _ (.tail _ hq)))) ?_
    intro r n3 h' tk hkp hfr
    exact hret r [] n3 h' tk hkp hfr .nil
  | cons v0 tk0 hi' => simp at hlen
theorem laidC_all (w : World) (fs : List UInt64) (k : Nat) : LaidC w fs k := by
  induction k with
  | zero => exact @laidC_nil w fs
  | succ k ih => exact @laidC_succ w fs k ih
end Mine
end
section
open PySem PySem.W PySem.Calls PySem.Spec PyProof.Rows
set_option Elab.async false
namespace Mine
set_option maxRecDepth 100000
set_option maxHeartbeats 8000000
theorem off_5 : True := by w_top off; trivial
local macro_rules | `(tactic| walk_at "no such key of mine") => `(tactic| skip)
theorem fill_ok4 : (∀ w : World, hd.heap_39 w.params = hd.heap_39 w.params) ∧ PySem.Challenge.rw_mq0084_01 = PySem.Challenge.rw_mq0084_01 := by
  k_fill
  exact ⟨fun _ => rfl, rfl⟩
local macro_rules | `(tactic| units_room) => `(tactic| (have hcL' := cLine_is; simp only [units_in1, units_deeper, Around.mark_units]; dsimp only [ktrTop]; omega))
local macro_rules | `(tactic| walk_at "binaryOp Add ref ref") => `(tactic| (k_here; (with_reducible show wpAny _ _ (binaryOp _ (Value.ref _) (Value.ref _)) _ _ _); k_dflt (refine' kmk_add_ints ?F ?N ?a ?b ?i ?j ?_ ?z; (case F => k_asm); (case N => k_asm); (case a => kmk_list); (case b => kmk_list); (case i => first | assumption | exact .cons _ _ .nil); (case j => first | assumption | exact .cons _ _ .nil); (case z => (simp only [sizeLine_eq, List.length_append, List.length_cons, List.length_nil]; omega))); intro D' ws' h' F' N' l1 hI'; (try k_lt l1); (try k_sweep)))
theorem neN3 {a b c x : Nat} (h1 : x ≠ a) (h2 : x ≠ b) (h3 : x ≠ c) : ¬ (x = a ∨ x = b ∨ x = c) := by omega
theorem keepBut_of {h₀ g0 g h' : Heap} {L L' : Addr} {m' : Str → Option Value} {led led2 : List (Addr × Obj)} (N : News h₀ L g0 led) (hg1 : ∀ b o, g0.get? b = some o → b ∉ led.map (·.1) → g.get? b = some o) (F2 : Fr g L' h' m') (N2 : News g L' h' led2) (sub : ∀ q ∈ led, q.1 ≠ 44 → q ∈ led2) :
    ∀ b o, g0.get? b = some o → b ≠ 44 → h'.get? b = some o := fun b o e hn => by
  by_cases hb : b ∈ led.map (·.1)
  · obtain ⟨q, hq, rfl⟩ := List.mem_map.mp hb
    have h1 := (N q hq).1
    rw [e] at h1
    rw [Option.some.inj h1]
    exact (N2 q (sub q hq hn)).1
  · exact F2.keep b o (hg1 b o e hb)
theorem fresh2m {g0 g h' : Heap} {L' : Addr} {led led2 : List (Addr × Obj)} {q1 q2 : Addr × Obj} (hg1 : ∀ b o, g0.get? b = some o → b ∉ led.map (·.1) → g.get? b = some o) (N2 : News g L' h' led2)
    (m1 : q1 ∈ led2) (m2 : q2 ∈ led2) (h1 : q1.1 ∉ led.map (·.1)) (h2 : q2.1 ∉ led.map (·.1)) : FreshIn g0 h' [q1, q2] := by
  refine fresh_of hg1 N2 (fun q hq => ?_) (fun q hq => ?_)
  · rcases List.mem_cons.mp hq with rfl | hq
    · exact m1
    · rw [List.mem_singleton.mp hq]; exact m2
  · rcases List.mem_cons.mp hq with rfl | hq
    · exact h1
    · rw [List.mem_singleton.mp hq]; exact h2
theorem laid_first {w : World} {fs : List UInt64} {k : Nat} {A₀ : Around} {s : Shared} {base h₀ : Heap} {outer : List Env} {L : Addr} {m : Str → Option Value}
  {p : Program} {loose : List Str} {mean : ExcName → Option Value} {mg mb : Str → Option Value}
  {dp un : Nat} {gd : Option (List Code)} {cn : Str} {cs : Scope} {a : Addr} {ccd : Value} {cl : List (Str × Addr)}
  {Q E : Value → Shared → Prop} {pa ta : Addr} {vals fvs : List Value} {v0 : Int} {tk0 : Tok} {ns : List Int} {n1 n2 : Nat}
  (B : Below A₀ base outer h₀) (F : Fr h₀ L s.heap m) (X₀ : (hd.heap_39 w.params).In h₀) (T : Top p loose mean mg mb h₀) (hke : cs.kind = .function) (hC : CodeHd base 48 44)
  (hroom : dp + 3 * (k + 1) + 20 < recursionLimit) (hun : un + 10 * (k + 1) + 200 < cLine)
  (N : News h₀ L s.heap [(44, tabObj #[]), (ta, W.listOf fvs.toArray n1), (pa, W.listOf (Value.int v0 tk0 :: vals).toArray n2)])
  (hi : IntsAre (Value.int v0 tk0 :: vals) (v0 :: ns)) (hf : FloatsAre fvs fs) (hv0 : 0 ≤ v0) (hv1 : v0 < fs.length) (hin' : ∀ i ∈ ns, 0 ≤ i ∧ i < fs.length) (hfl : fs.length < 100) (hlen : (v0 :: ns).length ≤ k + 1) (hk : k + 1 < 50)
  (hta : @Ne Nat ta 44) (hpa : @Ne Nat pa 44)
  (hret : ∀ r c' oc cvs tq vals' n3 h' tk, (∀ b o, s.heap.get? b = some o → b ≠ 44 → h'.get? b = some o) → h'.get? 44 = some (fullTab c') → FreshIn s.heap h' [(r, W.listOf vals'.toArray n3), (c', oc)] → @LT.lt Nat _ c' r →
    oc.data = .fields cvs → cvs[1]? = some (.str lamQ tq) → IntsAre vals' (laidF fs (k + 1) (v0 :: ns)) → Q (.ref r) { s with heap := h', toks := tk }) :
  wpAny (model PR w) (ktrTop dp un gd cn cs L a ccd cl outer) (call (.ref 49) [.ref pa, .ref ta]) Q E s := by
  have IH : LaidC w fs k := @laidC_all w fs k
  have hlns : ns.length < 50 := by simp only [List.length_cons] at hlen; omega
  have hLa := laidF_len50 (fs := fs) (k := k) hlns (ltF fs v0)
  have hLb := laidF_len50 (fs := fs) (k := k) hlns (fun i => !ltF fs v0 i)
  k_dflt (refine' enterC (binds := [(Str.ofString "places", .ref pa), (Str.ofString "told", .ref ta)]) B F X₀ T N hke ?ho ?hcd ?hr ?hb ?hl ?hn ?_ ?c1 ?c2 ?c3; (case ho => k_is); (case hcd => k_is); (case hr => omega); (case hb => exact BindsTo.of_eq rfl); (case hl => rfl); (case hn => decide +kernel); (case c1 => rfl); (case c2 => rfl); (case c3 => rfl))
  intro g L' h' tk' cells' hg1 hg2 F' N' Y' B' X' T' l1
  k_lt l1
  k_cells Y'
  simp only [List.cons_append, List.nil_append] at N'
  change Fr g L' h' (fun y => if y = Str.ofString "places" then some (.ref pa) else none) at F'
  rename _ = Data.cell (bindC _ _ _ (Str.ofString "first")) => dF
  rename _ = Data.cell (bindC _ _ _ (Str.ofString "told")) => dT
  change _ = Data.cell none at dF
  change _ = Data.cell (some (Value.ref ta)) at dT
  replace hg1 := PySem.Flt.Hid.mk hg1
  replace hg2 := PySem.Flt.Hid.mk hg2
  replace hin' := PySem.Flt.Hid.mk hin'
  replace hret := PySem.Flt.Hid.mk hret
  (try dsimp only)
  (try k_fold)
  k_with "call ref" => refine stop ?_
  k_steps
  k_with_none
  · rename decide (v0 :: ns = []) = true => hx
    exact nomatch (of_decide_eq_true hx)
  show Stop _
  unfold Stop
  rename Fr _ _ _ _ => eF
  rename News _ _ _ _ => eN
  rename Obj.data _ = Data.fields _ => hoc
  rename GetElem?.getElem? _ 1 = some (Value.str _ _) => hqc
  simp only [Array.empty_append] at eN
  rename IntsAre _ (List.drop 1 (v0 :: ns)) => hD
  rename _ = Data.cell (some (Value.int ((v0 :: ns).getD (Int.toNat 0) 0) _)) => hcF
  k_dflt (refine' split0 (v0 := v0) (ns := ns) (fs := fs) (fvs := fvs) ?B eF ?X ?T rfl hC ?r ?u (news6 eN ?h1 ?h2 ?h3 ?h4 ?h5 ?h6) hoc hqc hcF dT hD hf hin'.out hv0 hv1 hfl ?hl ?_; (case B => k_asm); (case X => k_asm); (case T => k_asm); (case r => ktr_room); (case u => ktr_units); (case h2 => k_mem); (case h1 => k_mem); (case h3 => k_mem); (case h4 => k_mem); (case h5 => k_mem); (case h6 => k_mem); (case hl => (simp only [List.length_cons] at hlen; omega)))
  intro D2 a1 a2 ys ny zs nz h' tk hkp hfr h12 h2D hIy hIz
  obtain ⟨eF2, eN2, hne⟩ := led_of2 eF eN hkp hfr
  clear eF eN
  have n1' := allNe_of (hne _ (.head _))
  have n2' := allNe_of (hne _ (.tail _ (.head _)))
  have n3' := allNe_of (hne _ (.tail _ (.tail _ (.head _))))
  replace h12 := ltN h12
  replace h2D := ltN h2D
  simp only [AllNe, and_true] at n1' n2' n3'
  simp only [List.cons_append, List.nil_append] at eN2
  clear hne hkp hfr
  dsimp only
  (try k_fold)
  k_with "call ref" => refine stop ?_
  k_steps
  k_with_none
  show Stop _
  unfold Stop
  rename Fr _ _ _ _ => eF
  rename News _ _ _ _ => eN
  k_dflt (refine' IH (ns := ns.filter (ltF fs v0)) ?B eF ?X ?T rfl hC ?r ?u (news4 eN ?h1 ?h2 ?h3 ?h4) hoc hqc hIy hf ?hin hfl ?hl ?hk ?_; (case B => k_asm); (case X => k_asm); (case T => k_asm); (case r => ktr_room); (case u => ktr_units); (case h1 => k_mem); (case h2 => k_mem); (case h3 => k_mem); (case h4 => k_mem); (case hin => exact fun i h => hin'.out i ((List.mem_filter.mp h).1)); (case hl => (have hfl9 := List.length_filter_le (ltF fs v0) ns; simp only [List.length_cons] at hlen; omega)); (case hk => omega))
  intro r1 wr1 qr1 h' tk hkp hfr hIr1
  obtain ⟨eF2, eN2, hne⟩ := led_of2 eF eN hkp hfr
  clear eF eN
  have nr1' := allNe_of (hne _ (.head _))
  simp only [AllNe, and_true] at nr1'
  simp only [List.cons_append, List.nil_append] at eN2
  clear hne hkp hfr
  dsimp only
  (try k_fold)
  k_with "call ref" => refine stop ?_
  k_steps
  k_with_none
  show Stop _
  unfold Stop
  rename Fr _ _ _ _ => eF
  rename News _ _ _ _ => eN
  k_dflt (refine' IH (ns := ns.filter fun i => !ltF fs v0 i) ?B eF ?X ?T rfl hC ?r ?u (news4 eN ?h1 ?h2 ?h3 ?h4) hoc hqc hIz hf ?hin hfl ?hl ?hk ?_; (case B => k_asm); (case X => k_asm); (case T => k_asm); (case r => ktr_room); (case u => ktr_units); (case h1 => k_mem); (case h2 => k_mem); (case h3 => k_mem); (case h4 => k_mem); (case hin => exact fun i h => hin'.out i ((List.mem_filter.mp h).1)); (case hl => (have hfl9 := List.length_filter_le (fun i => !ltF fs v0 i) ns; simp only [List.length_cons] at hlen; omega)); (case hk => omega))
  intro r2 wr2 qr2 h' tk hkp hfr hIr2
  obtain ⟨eF2, eN2, hne⟩ := led_of2 eF eN hkp hfr
  clear eF eN
  have nr2' := allNe_of (hne _ (.head _))
  simp only [AllNe, and_true] at nr2'
  simp only [List.cons_append, List.nil_append] at eN2
  clear hne hkp hfr
  dsimp only
  (try k_fold)
  k_steps
  rename Fr _ _ _ _ => eF
  rename News _ _ _ _ => eN
  k_dflt (refine' ⟨⟨_, _, eF⟩, hret.out _ _ _ _ _ _ _ _ _ (keepBut_of N hg1.out eF eN ?s1) (eN.get (o := fullTab _) ?m1) (fresh2m hg1.out eN ?m2 ?m3 ?n2 ?n3) ?lt hoc hqc (by assumption)⟩; (case m1 => k_mem); (case m2 => k_mem); (case m3 => k_mem))
  case s1 =>
    intro q hq hn
    rcases List.mem_cons.mp hq with rfl | hq
    · exact absurd rfl hn
    · repeat' first | exact hq | refine List.Mem.tail _ ?_
  case n2 =>
    simp only [List.map_cons, List.map_nil, List.mem_cons, List.not_mem_nil, or_false]
    refine neN3 ?_ ?_ ?_ <;> omega
  case n3 =>
    simp only [List.map_cons, List.map_nil, List.mem_cons, List.not_mem_nil, or_false]
    refine neN3 ?_ ?_ ?_ <;> omega
  case lt => exact ltN (by omega)
end Mine
end
section
open PySem PySem.W PySem.Calls PySem.Spec PyProof.Rows
set_option Elab.async false
namespace Mine
set_option maxRecDepth 100000
def pLt (p q : Int × Int) : Bool := if p.1 = q.1 then decide (p.2 < q.2) else decide (p.1 < q.1)
section
variable {prog : Program} {w : World} {A : Around} {E : Value → Shared → Prop} {s : Shared}
theorem isTuple_type {a : Addr} {xs : Array Value} (h : s.heap.get? a = some (tupObj xs)) : s.TypeIs (.ref a) "tuple" := by
  have h2 : s.heap.IsTuple a xs := ⟨_, h, rfl, 0, rfl⟩
  exact h2.typeIs
theorem lt_pair_tree {a b : Addr} {p q : Int × Int} {t1 t2 u1 u2 : Tok} {P : PySem.Fin → Shared → Prop} (ha : s.heap.get? a = some (tupObj #[.int p.1 t1, .int p.2 t2])) (hb : s.heap.get? b = some (tupObj #[.int q.1 u1, .int q.2 u2]))
    (h : P (.done (.ret (.bool (pLt p q)))) s) :
    wpAny (model prog w) A (Builtin.«tuple.__lt__» ⟨[.ref a, .ref b], []⟩) P E s := by
  show wpAny _ _ (isInstance (.ref b) (.type "tuple") >>= _) _ _ s
  refine wpAny_bind (wpAny_isInstance (isTuple_type hb) isSubtype_tuple_tuple ?_)
  simp only [Bool.not_true, Bool.false_eq_true, if_false]
  refine wpAny_bind (wpAny_tupleItemsOf ha rfl ?_)
  refine wpAny_bind (wpAny_tupleItemsOf hb rfl ?_)
  refine wpAny_bind ?_
  simp only [List.zip_cons_cons, List.zip_nil_left, List.forIn_cons, List.forIn_nil]
  refine wpAny_bind (wpAny_bind (wpAny_eqBool_int ?_))
  by_cases e1 : p.1 = q.1
  · rw [if_neg (by simp [e1])]
    refine wpAny_pure ?_
    refine wpAny_bind (wpAny_bind (wpAny_eqBool_int ?_))
    by_cases e2 : p.2 = q.2
    · rw [if_neg (by simp [e2])]
      refine wpAny_pure (wpAny_pure (wpAny_pure ?_))
      have hv : (pLt p q) = false := by simp [pLt, e1, e2]
      rw [hv] at h
      exact h
    · rw [if_pos (by simp [e2])]
      refine wpAny_bind (wpAny_rule (wpAny_bind (CmpOf.ints_lt (prog := prog) (w := w) (A := A) (P := fun i v => ∃ t, v = .int (if i = 0 then p.2 else q.2) t) (fun i => if i = 0 then p.2 else q.2) (fun i v h => h) 0 1 _ _ _ _ _ ⟨t2, rfl⟩ ⟨u2, rfl⟩ ?_)))
      refine wpAny_bind (wpAny_pure (wpAny_pure (wpAny_pure (wpAny_pure ?_))))
      have hv : (pLt p q) = decide (p.2 < q.2) := by simp [pLt, e1]
      rw [hv] at h
      exact h
  · rw [if_pos (by simp [e1])]
    refine wpAny_bind (wpAny_rule (wpAny_bind (CmpOf.ints_lt (prog := prog) (w := w) (A := A) (P := fun i v => ∃ t, v = .int (if i = 0 then p.1 else q.1) t) (fun i => if i = 0 then p.1 else q.1) (fun i v h => h) 0 1 _ _ _ _ _ ⟨t1, rfl⟩ ⟨u1, rfl⟩ ?_)))
    refine wpAny_bind (wpAny_pure (wpAny_pure (wpAny_pure (wpAny_pure ?_))))
    have e1' : ¬ q.1 = p.1 := fun e => e1 e.symm
    have hv : (pLt p q) = decide (p.1 < q.1) := by simp [pLt, e1, e1']
    rw [hv] at h
    exact h
theorem lt_pair {a b : Addr} {p q : Int × Int} {t1 t2 u1 u2 : Tok} {Q : Value → Shared → Prop} (ha : s.heap.get? a = some (tupObj #[.int p.1 t1, .int p.2 t2])) (hb : s.heap.get? b = some (tupObj #[.int q.1 u1, .int q.2 u2]))
    (hu : A.units < cLine) (h : Q (.bool (pLt p q)) s) : wpAny (model prog w) A (richCompare .Lt (.ref a) (.ref b)) Q E s :=
  wpAny_richCompare_same_room (isTuple_type ha) (isTuple_type hb) F.slot_tuple_lt (wpAny_call_entry F.slot_tuple_lt (isTuple_type ha) F.entry_tuple_lt (lt_pair_tree ha hb ⟨_, rfl, ⟨(fun x => nomatch x), h⟩⟩) (F.args_tuple_lt_2 _ _)) hu
theorem gt_pair_tree {a b : Addr} {p q : Int × Int} {t1 t2 u1 u2 : Tok} {P : PySem.Fin → Shared → Prop} (ha : s.heap.get? a = some (tupObj #[.int p.1 t1, .int p.2 t2])) (hb : s.heap.get? b = some (tupObj #[.int q.1 u1, .int q.2 u2]))
    (h : P (.done (.ret (.bool (pLt q p)))) s) :
    wpAny (model prog w) A (Builtin.«tuple.__gt__» ⟨[.ref a, .ref b], []⟩) P E s := by
  show wpAny _ _ (isInstance (.ref b) (.type "tuple") >>= _) _ _ s
  refine wpAny_bind (wpAny_isInstance (isTuple_type hb) isSubtype_tuple_tuple ?_)
  simp only [Bool.not_true, Bool.false_eq_true, if_false]
  refine wpAny_bind (wpAny_tupleItemsOf ha rfl ?_)
  refine wpAny_bind (wpAny_tupleItemsOf hb rfl ?_)
  refine wpAny_bind ?_
  simp only [List.zip_cons_cons, List.zip_nil_left, List.forIn_cons, List.forIn_nil]
  refine wpAny_bind (wpAny_bind (wpAny_eqBool_int ?_))
  by_cases e1 : p.1 = q.1
  · rw [if_neg (by simp [e1])]
    refine wpAny_pure ?_
    refine wpAny_bind (wpAny_bind (wpAny_eqBool_int ?_))
    by_cases e2 : p.2 = q.2
    · rw [if_neg (by simp [e2])]
      refine wpAny_pure (wpAny_pure (wpAny_pure ?_))
      have hv : (pLt q p) = false := by simp [pLt, e1, e2]
      rw [hv] at h
      exact h
    · rw [if_pos (by simp [e2])]
      refine wpAny_bind (wpAny_rule (wpAny_bind (CmpOf.ints_gt (prog := prog) (w := w) (A := A) (P := fun i v => ∃ t, v = .int (if i = 0 then p.2 else q.2) t) (fun i => if i = 0 then p.2 else q.2) (fun i v h => h) 0 1 _ _ _ _ _ ⟨t2, rfl⟩ ⟨u2, rfl⟩ ?_)))
      refine wpAny_bind (wpAny_pure (wpAny_pure (wpAny_pure (wpAny_pure ?_))))
      have hv : (pLt q p) = decide (p.2 > q.2) := by simp [pLt, e1]
      rw [hv] at h
      exact h
  · rw [if_pos (by simp [e1])]
    refine wpAny_bind (wpAny_rule (wpAny_bind (CmpOf.ints_gt (prog := prog) (w := w) (A := A) (P := fun i v => ∃ t, v = .int (if i = 0 then p.1 else q.1) t) (fun i => if i = 0 then p.1 else q.1) (fun i v h => h) 0 1 _ _ _ _ _ ⟨t1, rfl⟩ ⟨u1, rfl⟩ ?_)))
    refine wpAny_bind (wpAny_pure (wpAny_pure (wpAny_pure (wpAny_pure ?_))))
    have e1' : ¬ q.1 = p.1 := fun e => e1 e.symm
    have hv : (pLt q p) = decide (p.1 > q.1) := by simp [pLt, e1, e1']
    rw [hv] at h
    exact h
theorem gt_pair {a b : Addr} {p q : Int × Int} {t1 t2 u1 u2 : Tok} {Q : Value → Shared → Prop} (ha : s.heap.get? a = some (tupObj #[.int p.1 t1, .int p.2 t2])) (hb : s.heap.get? b = some (tupObj #[.int q.1 u1, .int q.2 u2]))
    (hu : A.units < cLine) (h : Q (.bool (pLt q p)) s) : wpAny (model prog w) A (richCompare .Gt (.ref a) (.ref b)) Q E s :=
  wpAny_richCompare_same_room (isTuple_type ha) (isTuple_type hb) F.slot_tuple_gt (wpAny_call_entry F.slot_tuple_gt (isTuple_type ha) F.entry_tuple_gt (gt_pair_tree ha hb ⟨_, rfl, ⟨(fun x => nomatch x), h⟩⟩) (F.args_tuple_gt_2 _ _)) hu
theorem min_goes {I D S : Addr} {ys : List Value} {R : Result → Shared → Prop} (bt : Nat → Nat → Bool) (G : Heap → Prop) (hh : A.handled = none) (hDI : D ≠ I) (hSI : S ≠ I) (hSD : S ≠ D)
    (hG : ∀ h h' : Heap, G h → (∀ b o, b ≠ I → b ≠ S → h.get? b = some o → h'.get? b = some o) → G h')
    (hcmp : ∀ i j vi vj (s : Shared) (Q : Value → Shared → Prop) (E : Value → Shared → Prop), G s.heap → ys[i]? = some vi → ys[j]? = some vj → Q (.bool (bt i j)) s → wpAny (model prog w) A.in1 (richCompare .Lt vi vj) Q E s) :
    ∀ (k j : Nat) (s : Shared) (vb : Value) (c : Nat), ys.length - (j + 1) = k → j + 1 ≤ ys.length → s.heap.IsListIter I D (j + 1) → s.heap.IsList D ys.toArray → G s.heap → ys[argBest bt j]? = some vb →
    s.heap.get? S = some { cls := .type "list", dict := none, data := .seq #[vb, vb] c, slots := #[] } →
    (∀ v h' tk, ys[argBest bt (ys.length - 1)]? = some v → (∀ b o, b ≠ I → b ≠ S → s.heap.get? b = some o → h'.get? b = some o) → R (.ok (.ret v)) { s with heap := h', toks := tk }) →
    codeAny (model prog w) A (.builtin "min.loop" ⟨[.ref I, .none, .ref S], []⟩) R s := by
  have hname : (toString "min" ++ toString ".loop" : String) = "min.loop" := by decide
  have W := Walks.list (prog := prog) (w := w) (A := A.in1) hh I D hDI ys.toArray
  have hsz : ys.toArray.size = ys.length := List.size_toArray ..
  intro k
  induction k with
  | zero =>
    intro j s vb c hk hj hit hl hg hvb hS hR
    have hin : j + 1 = ys.length := by omega
    refine codeAny_builtin F.entry_min_loop ?_
    rw [Around.under_plainId F.plain_min_loop _]
    show wpAny _ A.in1 (seqItems? (.ref S) >>= _) _ _ s
    refine wpAny_bind (wpAny_seqItems hS rfl ?_)
    show wpAny _ A.in1 (tryCatch (pyNext (.ref I)) _ >>= _) _ _ s
    refine wpAny_bind (wpAny_tryCatch (W.done s _ _ ⟨by rw [hsz, ← hin]; exact hit, hl⟩ fun h' tk hk' => ?_))
    have hS' := hk' S _ (by simpa using hSI) hS
    show wpAny _ A.in1 (updateSeq S (fun _ => #[]) >>= _) _ _ _
    refine wpAny_bind ?_
    refine wpAny_updateSeq hS' rfl (wpAny_bind (wpAny_letGo (wpAny_pure ?_)))
    refine hR vb _ tk (by rw [← hin]; exact hvb) fun b o hbI hbS e => (Heap.get?_update_other _ _ (Ne.symm hbS)).trans (hk' b o (by simpa using hbI) e)
  | succ k ih =>
    intro j s vb c hk hj hit hl hg hvb hS hR
    have hlt : j + 1 < ys.length := by omega
    refine codeAny_builtin F.entry_min_loop ?_
    rw [Around.under_plainId F.plain_min_loop _]
    show wpAny _ A.in1 (seqItems? (.ref S) >>= _) _ _ s
    refine wpAny_bind (wpAny_seqItems hS rfl ?_)
    show wpAny _ A.in1 (tryCatch (pyNext (.ref I)) _ >>= _) _ _ s
    refine wpAny_bind (wpAny_tryCatch (W.item (j + 1) s _ _ (by rw [hsz]; exact hlt) ⟨hit, hl⟩ fun v h' tk hP hst' hk' => ?_))
    have hv : ys[j + 1]? = some v := by simpa using hP
    have hk2 : ∀ b o, b ≠ I → b ≠ S → s.heap.get? b = some o → h'.get? b = some o := fun b o hbI _ e => hk' b o (by simpa using hbI) e
    have hS' := hk' S _ (by simpa using hSI) hS
    have hg' := hG _ _ hg hk2
    show wpAny _ A.in1 (tryCatch (holding [v, v] (richCompare .Lt v vb >>= _)) _ >>= _) _ _ _
    refine wpAny_bind (wpAny_tryCatch (wpAny_holding (wpAny_bind (hcmp (j + 1) (argBest bt j) v vb _ _ _ hg' hv hvb ?_))))
    refine wpAny_bind (wpAny_holding (wpAny_truthy_bool ?_))
    refine wpAny_bind (wpAny_letGo (wpAny_pure ?_))
    cases hb : bt (j + 1) (argBest bt j) with
    | true =>
      simp only [if_true]
      refine wpAny_bind ?_
      refine wpAny_updateSeq hS' rfl (wpAny_bind (wpAny_letGo ?_))
      rw [hname]
      refine wpAny_pure ⟨plainId_quiet F.plain_min_loop _, ih (j + 1) _ v _ (by omega) hlt ?_ ?_ ?_ (by simp only [argBest, hb, if_true]; exact hv) (Heap.get?_update_self _ hS' rfl) fun v' h'' tk'' hP' hk'' => ?_⟩
      · obtain ⟨oI, hoI, r⟩ := hst'.1
        exact ⟨oI, (Heap.get?_update_other _ _ hSI).trans hoI, r⟩
      · obtain ⟨oD, hoD, r⟩ := hst'.2
        exact ⟨oD, (Heap.get?_update_other _ _ hSD).trans hoD, r⟩
      · exact hG _ _ hg' fun b o _ hbS e => (Heap.get?_update_other _ _ (Ne.symm hbS)).trans e
      · exact hR v' h'' tk'' hP' fun b o hbI hbS e => hk'' b o hbI hbS ((Heap.get?_update_other _ _ (Ne.symm hbS)).trans (hk2 b o hbI hbS e))
    | false =>
      simp only [Bool.false_eq_true, if_false]
      refine wpAny_bind (wpAny_letGo ?_)
      rw [hname]
      refine wpAny_pure ⟨plainId_quiet F.plain_min_loop _, ih (j + 1) _ vb c (by omega) hlt hst'.1 hst'.2 hg' (by simp only [argBest, hb, Bool.false_eq_true, if_false]; exact hvb) hS' fun v' h'' tk'' hP' hk'' => ?_⟩
      exact hR v' h'' tk'' hP' fun b o hbI hbS e => hk'' b o hbI hbS (hk2 b o hbI hbS e)
theorem max_goes {I D S : Addr} {ys : List Value} {R : Result → Shared → Prop} (bt : Nat → Nat → Bool) (G : Heap → Prop) (hh : A.handled = none) (hDI : D ≠ I) (hSI : S ≠ I) (hSD : S ≠ D)
    (hG : ∀ h h' : Heap, G h → (∀ b o, b ≠ I → b ≠ S → h.get? b = some o → h'.get? b = some o) → G h')
    (hcmp : ∀ i j vi vj (s : Shared) (Q : Value → Shared → Prop) (E : Value → Shared → Prop), G s.heap → ys[i]? = some vi → ys[j]? = some vj → Q (.bool (bt i j)) s → wpAny (model prog w) A.in1 (richCompare .Gt vi vj) Q E s) :
    ∀ (k j : Nat) (s : Shared) (vb : Value) (c : Nat), ys.length - (j + 1) = k → j + 1 ≤ ys.length → s.heap.IsListIter I D (j + 1) → s.heap.IsList D ys.toArray → G s.heap → ys[argBest bt j]? = some vb →
    s.heap.get? S = some { cls := .type "list", dict := none, data := .seq #[vb, vb] c, slots := #[] } →
    (∀ v h' tk, ys[argBest bt (ys.length - 1)]? = some v → (∀ b o, b ≠ I → b ≠ S → s.heap.get? b = some o → h'.get? b = some o) → R (.ok (.ret v)) { s with heap := h', toks := tk }) →
    codeAny (model prog w) A (.builtin "max.loop" ⟨[.ref I, .none, .ref S], []⟩) R s := by
  have hname : (toString "max" ++ toString ".loop" : String) = "max.loop" := by decide
  have W := Walks.list (prog := prog) (w := w) (A := A.in1) hh I D hDI ys.toArray
  have hsz : ys.toArray.size = ys.length := List.size_toArray ..
  intro k
  induction k with
  | zero =>
    intro j s vb c hk hj hit hl hg hvb hS hR
    have hin : j + 1 = ys.length := by omega
    refine codeAny_builtin F.entry_max_loop ?_
    rw [Around.under_plainId F.plain_max_loop _]
    show wpAny _ A.in1 (seqItems? (.ref S) >>= _) _ _ s
    refine wpAny_bind (wpAny_seqItems hS rfl ?_)
    show wpAny _ A.in1 (tryCatch (pyNext (.ref I)) _ >>= _) _ _ s
    refine wpAny_bind (wpAny_tryCatch (W.done s _ _ ⟨by rw [hsz, ← hin]; exact hit, hl⟩ fun h' tk hk' => ?_))
    have hS' := hk' S _ (by simpa using hSI) hS
    show wpAny _ A.in1 (updateSeq S (fun _ => #[]) >>= _) _ _ _
    refine wpAny_bind ?_
    refine wpAny_updateSeq hS' rfl (wpAny_bind (wpAny_letGo (wpAny_pure ?_)))
    refine hR vb _ tk (by rw [← hin]; exact hvb) fun b o hbI hbS e => (Heap.get?_update_other _ _ (Ne.symm hbS)).trans (hk' b o (by simpa using hbI) e)
  | succ k ih =>
    intro j s vb c hk hj hit hl hg hvb hS hR
    have hlt : j + 1 < ys.length := by omega
    refine codeAny_builtin F.entry_max_loop ?_
    rw [Around.under_plainId F.plain_max_loop _]
    show wpAny _ A.in1 (seqItems? (.ref S) >>= _) _ _ s
    refine wpAny_bind (wpAny_seqItems hS rfl ?_)
    show wpAny _ A.in1 (tryCatch (pyNext (.ref I)) _ >>= _) _ _ s
    refine wpAny_bind (wpAny_tryCatch (W.item (j + 1) s _ _ (by rw [hsz]; exact hlt) ⟨hit, hl⟩ fun v h' tk hP hst' hk' => ?_))
    have hv : ys[j + 1]? = some v := by simpa using hP
    have hk2 : ∀ b o, b ≠ I → b ≠ S → s.heap.get? b = some o → h'.get? b = some o := fun b o hbI _ e => hk' b o (by simpa using hbI) e
    have hS' := hk' S _ (by simpa using hSI) hS
    have hg' := hG _ _ hg hk2
    show wpAny _ A.in1 (tryCatch (holding [v, v] (richCompare .Gt v vb >>= _)) _ >>= _) _ _ _
    refine wpAny_bind (wpAny_tryCatch (wpAny_holding (wpAny_bind (hcmp (j + 1) (argBest bt j) v vb _ _ _ hg' hv hvb ?_))))
    refine wpAny_bind (wpAny_holding (wpAny_truthy_bool ?_))
    refine wpAny_bind (wpAny_letGo (wpAny_pure ?_))
    cases hb : bt (j + 1) (argBest bt j) with
    | true =>
      simp only [if_true]
      refine wpAny_bind ?_
      refine wpAny_updateSeq hS' rfl (wpAny_bind (wpAny_letGo ?_))
      rw [hname]
      refine wpAny_pure ⟨plainId_quiet F.plain_max_loop _, ih (j + 1) _ v _ (by omega) hlt ?_ ?_ ?_ (by simp only [argBest, hb, if_true]; exact hv) (Heap.get?_update_self _ hS' rfl) fun v' h'' tk'' hP' hk'' => ?_⟩
      · obtain ⟨oI, hoI, r⟩ := hst'.1
        exact ⟨oI, (Heap.get?_update_other _ _ hSI).trans hoI, r⟩
      · obtain ⟨oD, hoD, r⟩ := hst'.2
        exact ⟨oD, (Heap.get?_update_other _ _ hSD).trans hoD, r⟩
      · exact hG _ _ hg' fun b o _ hbS e => (Heap.get?_update_other _ _ (Ne.symm hbS)).trans e
      · exact hR v' h'' tk'' hP' fun b o hbI hbS e => hk'' b o hbI hbS ((Heap.get?_update_other _ _ (Ne.symm hbS)).trans (hk2 b o hbI hbS e))
    | false =>
      simp only [Bool.false_eq_true, if_false]
      refine wpAny_bind (wpAny_letGo ?_)
      rw [hname]
      refine wpAny_pure ⟨plainId_quiet F.plain_max_loop _, ih (j + 1) _ vb c (by omega) hlt hst'.1 hst'.2 hg' (by simp only [argBest, hb, Bool.false_eq_true, if_false]; exact hvb) hS' fun v' h'' tk'' hP' hk'' => ?_⟩
      exact hR v' h'' tk'' hP' fun b o hbI hbS e => hk'' b o hbI hbS (hk2 b o hbI hbS e)
theorem min_tups {D : Addr} {ys : List Value} {ps : List (Int × Int)} {Q : Value → Shared → Prop} (hh : A.handled = none) (hl : s.heap.IsList D ys.toArray)
    (hT : ∀ (i : Nat) (p : Int × Int), ps[i]? = some p → ∃ a t u, ys[i]? = some (Value.ref a) ∧ s.heap.get? a = some (tupObj #[.int p.1 t, .int p.2 u])) (hlen : ys.length = ps.length) (hne : 0 < ys.length) (hu : A.units + 2 < cLine)
    (h : ∀ v h' tk, ys[argBest (fun i j => pLt (ps.getD i (0, 0)) (ps.getD j (0, 0))) (ys.length - 1)]? = some v → (∀ b o, s.heap.get? b = some o → h'.get? b = some o) → Q v { s with heap := h', toks := tk }) :
    wpAny (model prog w) A (call (.builtin "min") [.ref D]) Q E s := by
  have hname : (toString "min" ++ toString ".loop" : String) = "min.loop" := by decide
  have hDlt : D < s.heap.objs.size := by obtain ⟨_, e, _⟩ := hl; exact Heap.lt_size e
  refine call_function_tree F.kind_min F.plain_min F.entry_min (F.args_min1 _) ?_
  show wpAny _ A.in1 (Builtin.Builtins.bindParams "min" ["key", "default"] 0 ⟨[], []⟩ >>= _) _ _ s
  refine wpAny_bind (wpAny_of_eq (show Builtin.Builtins.bindParams "min" ["key", "default"] 0 ⟨[], []⟩ = pure [none, none] from rfl) ?_)
  refine wpAny_bind (wpAny_pure ?_)
  refine wpAny_bind (wpAny_pyIter_list hl ?_)
  refine wpAny_bind (wpAny_newObj_type ?_)
  rw [hname]
  have hI : (s.heap.push { cls := .type "list_iterator", data := .fields #[.ref D, .int 0 0] }).objs.size = s.heap.objs.size + 1 := Heap.size_push ..
  have hsz : ys.toArray.size = ys.length := List.size_toArray ..
  refine wpAny_pure ⟨plainId_quiet F.plain_min_loop _, ?_⟩
  have W := Walks.list (prog := prog) (w := w) (A := A.in1) hh s.heap.objs.size D (Nat.ne_of_lt hDlt) ys.toArray
  have hSI : s.heap.objs.size + 1 ≠ s.heap.objs.size := Nat.succ_ne_self _
  have hSD : s.heap.objs.size + 1 ≠ D := Ne.symm (Nat.ne_of_lt (Nat.lt_succ_of_lt hDlt))
  let G : Heap → Prop := fun g => ∀ (i : Nat) (p : Int × Int), ps[i]? = some p → ∃ a t u, ys[i]? = some (Value.ref a) ∧ a < s.heap.objs.size ∧ g.get? a = some (tupObj #[.int p.1 t, .int p.2 u])
  have hG : ∀ g g' : Heap, G g → (∀ b o, b ≠ s.heap.objs.size → b ≠ s.heap.objs.size + 1 → g.get? b = some o → g'.get? b = some o) → G g' := fun g g' hg hk i p hp => by
    obtain ⟨a, t, u, h1, h2, h3⟩ := hg i p hp
    exact ⟨a, t, u, h1, h2, hk a _ (Nat.ne_of_lt h2) (Nat.ne_of_lt (Nat.lt_succ_of_lt h2)) h3⟩
  have hcmp : ∀ i j vi vj (s : Shared) (Q : Value → Shared → Prop) (E : Value → Shared → Prop), G s.heap → ys[i]? = some vi → ys[j]? = some vj → Q (.bool (pLt (ps.getD i (0, 0)) (ps.getD j (0, 0)))) s → wpAny (model prog w) A.in1 (richCompare .Lt vi vj) Q E s := by
    intro i j vi vj s Q E hg hi hj hq
    have hil : i < ps.length := by rw [← hlen]; exact (List.getElem?_eq_some_iff.mp hi).1
    have hjl : j < ps.length := by rw [← hlen]; exact (List.getElem?_eq_some_iff.mp hj).1
    obtain ⟨a, t, u, h1, _, h3⟩ := hg i (ps.getD i (0, 0)) (by rw [List.getD_eq_getElem?_getD, List.getElem?_eq_getElem hil]; rfl)
    obtain ⟨b, t', u', h1', _, h3'⟩ := hg j (ps.getD j (0, 0)) (by rw [List.getD_eq_getElem?_getD, List.getElem?_eq_getElem hjl]; rfl)
    rw [hi] at h1
    rw [hj] at h1'
    rw [Option.some.inj h1, Option.some.inj h1']
    exact lt_pair h3 h3' (by rw [units_in1]; omega) hq
  refine codeAny_builtin F.entry_min_loop ?_
  rw [Around.under_plainId F.plain_min_loop _]
  rw [hI]
  have up : ∀ b o, s.heap.get? b = some o → ((s.heap.push { cls := .type "list_iterator", data := .fields #[.ref D, .int 0 0] }).push { cls := .type "list", dict := none, data := .seq #[] 0, slots := #[] }).get? b = some o := fun b o e => Heap.get?_push_of_some _ (Heap.get?_push_of_some _ e)
  have hS : ((s.heap.push { cls := .type "list_iterator", data := .fields #[.ref D, .int 0 0] }).push { cls := .type "list", dict := none, data := .seq #[] 0, slots := #[] }).get? (s.heap.objs.size + 1) = some { cls := .type "list", dict := none, data := .seq #[] 0, slots := #[] } := by
    rw [← hI]; exact Heap.get?_push_size _ rfl
  show wpAny _ A.in1 (seqItems? (.ref (s.heap.objs.size + 1)) >>= _) _ _ _
  refine wpAny_bind (wpAny_seqItems hS rfl ?_)
  show wpAny _ A.in1 (tryCatch (pyNext (.ref s.heap.objs.size)) _ >>= _) _ _ _
  refine wpAny_bind (wpAny_tryCatch (W.item 0 _ _ _ (by rw [hsz]; exact hne) ⟨⟨_, Heap.get?_push_of_some _ (Heap.get?_push_size _ rfl), rfl, rfl⟩, hl.at fun o e => up _ _ e⟩ fun v h' tk hP hst' hk' => ?_))
  have hv : ys[0]? = some v := by simpa using hP
  have hS' := hk' _ _ (by simp) hS
  show wpAny _ A.in1 (updateSeq (s.heap.objs.size + 1) (fun _ => #[v, v]) >>= _) _ _ _
  refine wpAny_bind ?_
  refine wpAny_updateSeq hS' rfl ?_
  rw [hname]
  refine wpAny_pure ⟨plainId_quiet F.plain_min_loop _, min_goes (ys := ys) (fun i j => pLt (ps.getD i (0, 0)) (ps.getD j (0, 0))) G hh (Nat.ne_of_lt hDlt) hSI hSD hG hcmp _ 0 _ v _ rfl hne ?_ ?_ ?_ hv (Heap.get?_update_self _ hS' rfl) fun v' h'' tk'' hP' hk'' => ?_⟩
  · obtain ⟨oI, hoI, r⟩ := hst'.1
    exact ⟨oI, (Heap.get?_update_other _ _ hSI).trans hoI, r⟩
  · obtain ⟨oD, hoD, r⟩ := hst'.2
    exact ⟨oD, (Heap.get?_update_other _ _ hSD).trans hoD, r⟩
  · intro i p hp
    obtain ⟨a, t, u, h1, h3⟩ := hT i p hp
    have h2 := Heap.lt_size h3
    exact ⟨a, t, u, h1, h2, (Heap.get?_update_other _ _ (Ne.symm (Nat.ne_of_lt (Nat.lt_succ_of_lt h2)))).trans (hk' a _ (by simpa using Nat.ne_of_lt h2) (up _ _ h3))⟩
  · refine h v' h'' tk'' hP' fun b o e => ?_
    have h2 := Heap.lt_size e
    exact hk'' b o (Nat.ne_of_lt h2) (Nat.ne_of_lt (Nat.lt_succ_of_lt h2)) ((Heap.get?_update_other _ _ (Ne.symm (Nat.ne_of_lt (Nat.lt_succ_of_lt h2)))).trans (hk' b o (by simpa using Nat.ne_of_lt h2) (up _ _ e)))
theorem max_tups {D : Addr} {ys : List Value} {ps : List (Int × Int)} {Q : Value → Shared → Prop} (hh : A.handled = none) (hl : s.heap.IsList D ys.toArray)
    (hT : ∀ (i : Nat) (p : Int × Int), ps[i]? = some p → ∃ a t u, ys[i]? = some (Value.ref a) ∧ s.heap.get? a = some (tupObj #[.int p.1 t, .int p.2 u])) (hlen : ys.length = ps.length) (hne : 0 < ys.length) (hu : A.units + 2 < cLine)
    (h : ∀ v h' tk, ys[argBest (fun i j => pLt (ps.getD j (0, 0)) (ps.getD i (0, 0))) (ys.length - 1)]? = some v → (∀ b o, s.heap.get? b = some o → h'.get? b = some o) → Q v { s with heap := h', toks := tk }) :
    wpAny (model prog w) A (call (.builtin "max") [.ref D]) Q E s := by
  have hname : (toString "max" ++ toString ".loop" : String) = "max.loop" := by decide
  have hDlt : D < s.heap.objs.size := by obtain ⟨_, e, _⟩ := hl; exact Heap.lt_size e
  refine call_function_tree F.kind_max F.plain_max F.entry_max (F.args_max1 _) ?_
  show wpAny _ A.in1 (Builtin.Builtins.bindParams "max" ["key", "default"] 0 ⟨[], []⟩ >>= _) _ _ s
  refine wpAny_bind (wpAny_of_eq (show Builtin.Builtins.bindParams "max" ["key", "default"] 0 ⟨[], []⟩ = pure [none, none] from rfl) ?_)
  refine wpAny_bind (wpAny_pure ?_)
  refine wpAny_bind (wpAny_pyIter_list hl ?_)
  refine wpAny_bind (wpAny_newObj_type ?_)
  rw [hname]
  have hI : (s.heap.push { cls := .type "list_iterator", data := .fields #[.ref D, .int 0 0] }).objs.size = s.heap.objs.size + 1 := Heap.size_push ..
  have hsz : ys.toArray.size = ys.length := List.size_toArray ..
  refine wpAny_pure ⟨plainId_quiet F.plain_max_loop _, ?_⟩
  have W := Walks.list (prog := prog) (w := w) (A := A.in1) hh s.heap.objs.size D (Nat.ne_of_lt hDlt) ys.toArray
  have hSI : s.heap.objs.size + 1 ≠ s.heap.objs.size := Nat.succ_ne_self _
  have hSD : s.heap.objs.size + 1 ≠ D := Ne.symm (Nat.ne_of_lt (Nat.lt_succ_of_lt hDlt))
  let G : Heap → Prop := fun g => ∀ (i : Nat) (p : Int × Int), ps[i]? = some p → ∃ a t u, ys[i]? = some (Value.ref a) ∧ a < s.heap.objs.size ∧ g.get? a = some (tupObj #[.int p.1 t, .int p.2 u])
  have hG : ∀ g g' : Heap, G g → (∀ b o, b ≠ s.heap.objs.size → b ≠ s.heap.objs.size + 1 → g.get? b = some o → g'.get? b = some o) → G g' := fun g g' hg hk i p hp => by
    obtain ⟨a, t, u, h1, h2, h3⟩ := hg i p hp
    exact ⟨a, t, u, h1, h2, hk a _ (Nat.ne_of_lt h2) (Nat.ne_of_lt (Nat.lt_succ_of_lt h2)) h3⟩
  have hcmp : ∀ i j vi vj (s : Shared) (Q : Value → Shared → Prop) (E : Value → Shared → Prop), G s.heap → ys[i]? = some vi → ys[j]? = some vj → Q (.bool (pLt (ps.getD j (0, 0)) (ps.getD i (0, 0)))) s → wpAny (model prog w) A.in1 (richCompare .Gt vi vj) Q E s := by
    intro i j vi vj s Q E hg hi hj hq
    have hil : i < ps.length := by rw [← hlen]; exact (List.getElem?_eq_some_iff.mp hi).1
    have hjl : j < ps.length := by rw [← hlen]; exact (List.getElem?_eq_some_iff.mp hj).1
    obtain ⟨a, t, u, h1, _, h3⟩ := hg i (ps.getD i (0, 0)) (by rw [List.getD_eq_getElem?_getD, List.getElem?_eq_getElem hil]; rfl)
    obtain ⟨b, t', u', h1', _, h3'⟩ := hg j (ps.getD j (0, 0)) (by rw [List.getD_eq_getElem?_getD, List.getElem?_eq_getElem hjl]; rfl)
    rw [hi] at h1
    rw [hj] at h1'
    rw [Option.some.inj h1, Option.some.inj h1']
    exact gt_pair h3 h3' (by rw [units_in1]; omega) hq
  refine codeAny_builtin F.entry_max_loop ?_
  rw [Around.under_plainId F.plain_max_loop _]
  rw [hI]
  have up : ∀ b o, s.heap.get? b = some o → ((s.heap.push { cls := .type "list_iterator", data := .fields #[.ref D, .int 0 0] }).push { cls := .type "list", dict := none, data := .seq #[] 0, slots := #[] }).get? b = some o := fun b o e => Heap.get?_push_of_some _ (Heap.get?_push_of_some _ e)
  have hS : ((s.heap.push { cls := .type "list_iterator", data := .fields #[.ref D, .int 0 0] }).push { cls := .type "list", dict := none, data := .seq #[] 0, slots := #[] }).get? (s.heap.objs.size + 1) = some { cls := .type "list", dict := none, data := .seq #[] 0, slots := #[] } := by
    rw [← hI]; exact Heap.get?_push_size _ rfl
  show wpAny _ A.in1 (seqItems? (.ref (s.heap.objs.size + 1)) >>= _) _ _ _
  refine wpAny_bind (wpAny_seqItems hS rfl ?_)
  show wpAny _ A.in1 (tryCatch (pyNext (.ref s.heap.objs.size)) _ >>= _) _ _ _
  refine wpAny_bind (wpAny_tryCatch (W.item 0 _ _ _ (by rw [hsz]; exact hne) ⟨⟨_, Heap.get?_push_of_some _ (Heap.get?_push_size _ rfl), rfl, rfl⟩, hl.at fun o e => up _ _ e⟩ fun v h' tk hP hst' hk' => ?_))
  have hv : ys[0]? = some v := by simpa using hP
  have hS' := hk' _ _ (by simp) hS
  show wpAny _ A.in1 (updateSeq (s.heap.objs.size + 1) (fun _ => #[v, v]) >>= _) _ _ _
  refine wpAny_bind ?_
  refine wpAny_updateSeq hS' rfl ?_
  rw [hname]
  refine wpAny_pure ⟨plainId_quiet F.plain_max_loop _, max_goes (ys := ys) (fun i j => pLt (ps.getD j (0, 0)) (ps.getD i (0, 0))) G hh (Nat.ne_of_lt hDlt) hSI hSD hG hcmp _ 0 _ v _ rfl hne ?_ ?_ ?_ hv (Heap.get?_update_self _ hS' rfl) fun v' h'' tk'' hP' hk'' => ?_⟩
  · obtain ⟨oI, hoI, r⟩ := hst'.1
    exact ⟨oI, (Heap.get?_update_other _ _ hSI).trans hoI, r⟩
  · obtain ⟨oD, hoD, r⟩ := hst'.2
    exact ⟨oD, (Heap.get?_update_other _ _ hSD).trans hoD, r⟩
  · intro i p hp
    obtain ⟨a, t, u, h1, h3⟩ := hT i p hp
    have h2 := Heap.lt_size h3
    exact ⟨a, t, u, h1, h2, (Heap.get?_update_other _ _ (Ne.symm (Nat.ne_of_lt (Nat.lt_succ_of_lt h2)))).trans (hk' a _ (by simpa using Nat.ne_of_lt h2) (up _ _ h3))⟩
  · refine h v' h'' tk'' hP' fun b o e => ?_
    have h2 := Heap.lt_size e
    exact hk'' b o (Nat.ne_of_lt h2) (Nat.ne_of_lt (Nat.lt_succ_of_lt h2)) ((Heap.get?_update_other _ _ (Ne.symm (Nat.ne_of_lt (Nat.lt_succ_of_lt h2)))).trans (hk' b o (by simpa using Nat.ne_of_lt h2) (up _ _ e)))
end
end Mine
end
section
open PySem PySem.W PySem.Calls PySem.Spec PyProof.Rows
set_option Elab.async false
namespace Mine
set_option maxRecDepth 100000
set_option maxHeartbeats 8000000
theorem off_6 : True := by w_top off; trivial
theorem fill_ok5 : (∀ w : World, hd.heap_39 w.params = hd.heap_39 w.params) ∧ PySem.Challenge.rw_mq0084_01 = PySem.Challenge.rw_mq0084_01 := by
  k_fill
  exact ⟨fun _ => rfl, rfl⟩
/-- the tuples that the comprehension has made so far -/
theorem perm7 {α : Type} {a b c d e t p : α} {l : List α} (h : p ∈ a :: b :: c :: ([d, e] ++ t :: l)) : p ∈ t :: a :: b :: c :: d :: e :: l := by
  simp only [List.mem_cons, List.mem_append, List.not_mem_nil, or_false] at *
  grind
theorem mem_mid {α : Type} {x y : List α} {t p : α} (h : p ∈ x ++ t :: y) : p = t ∨ p ∈ x ++ y := by
  simp only [List.mem_cons, List.mem_append] at *
  grind
def TupsIn (nw : List (Addr × Obj)) (ys : List Value) (ps : List (Int × Int)) : Prop :=
  ys.length = ps.length ∧ ∀ (i : Nat) (p : Int × Int), ps[i]? = some p → ∃ a t u, ys[i]? = some (Value.ref a) ∧ (a, tupObj #[.int p.1 t, .int p.2 u]) ∈ nw
theorem TupsIn.snoc {nw : List (Addr × Obj)} {ys : List Value} {ps : List (Int × Int)} (h : TupsIn nw ys ps) (T : Addr) (p : Int × Int) (t u : Tok) : TupsIn ((T, tupObj #[.int p.1 t, .int p.2 u]) :: nw) (ys ++ [.ref T]) (ps ++ [p]) := by
  refine ⟨by simp [h.1], fun i q hq => ?_⟩
  by_cases hi : i < ps.length
  · rw [List.getElem?_append_left hi] at hq
    obtain ⟨a, t', u', h1, h2⟩ := h.2 i q hq
    exact ⟨a, t', u', by rw [List.getElem?_append_left (by rw [h.1]; exact hi)]; exact h1, .tail _ h2⟩
  · rw [List.getElem?_append_right (by omega)] at hq
    have hi0 : i - ps.length = 0 := by
      have := (List.getElem?_eq_some_iff.mp hq).1
      simp at this
      omega
    rw [hi0] at hq
    have hq' : p = q := by simpa using hq
    subst hq'
    refine ⟨T, t, u, ?_, .head _⟩
    rw [List.getElem?_append_right (by rw [h.1]; omega), h.1, hi0]
    rfl
section
variable {prog : Program} {w : World} {A : Around} {h₀ : Heap} {L : Addr} {m : Str → Option Value} {env : Env} {elt : PySem.Expr} {x : Str} {scope : Scope} {cl : List (Str × Addr)} {s : Shared} {S : List (Addr × Obj) → Prop} {Fin : List Value → List (Addr × Obj) → Prop} {news : List (Addr × Obj)}
theorem comp_tups {n : Nat} {a : Int} (g : Int → Int)
    (turn : ∀ k t I oI C oC D m₂ ys h tk (E' : Value → Shared → Prop) nw, a ≤ k → k < a + (n : Int) → LCg.NsObj oC m₂ → m₂ x = some (.int k t) → Fr h₀ L h m → News h₀ L h ((I, oI) :: (C, oC) :: (D, LCg.lst ys) :: (news ++ nw)) → LCg.Off3 I C D (news ++ nw) → ((@Ne Nat I C) ∧ (@Ne Nat I D) ∧ (@Ne Nat C D)) →
      wpAny (model prog w) A (eval elt (compEnvC scope cl C env)) (LCg.CompEnd h₀ L m { s with heap := h, toks := tk } I oI C oC D (LCg.lst ys) S (fun y news' => ∃ T t1 t2, y = .ref T ∧ news' = news ++ ((T, tupObj #[.int (g k) t1, .int k t2]) :: nw))) E' { s with heap := h, toks := tk })
    (fin : ∀ ys nw, TupsIn nw ys ((rangeKs a n).map fun k => (g k, k)) → Fin ys (news ++ nw)) : LCg.CompRest prog w A h₀ L m env elt x scope cl s S (fun i v => ∃ t, v = .int (a + (i : Int)) t) Fin n 0 [] news := by
  have key : ∀ (j i : Nat) (ys : List Value) (nw : List (Addr × Obj)), i + j = n → TupsIn nw ys (((rangeKs a n).take i).map fun k => (g k, k)) → LCg.CompRest prog w A h₀ L m env elt x scope cl s S (fun i v => ∃ t, v = .int (a + (i : Int)) t) Fin j i ys (news ++ nw) := by
    intro j
    induction j with
    | zero =>
      intro i ys nw hi hy
      have e : (rangeKs a n).take i = rangeKs a n := List.take_of_length_le (by rw [rangeKs_length]; omega)
      rw [e] at hy
      exact LCg.CompRest.zero (fin ys nw hy)
    | succ j ih =>
      intro i ys nw hi hy
      refine LCg.CompRest.succ ?_
      rintro v I oI C oC D m₂ h tk E' ⟨t, rfl⟩ hC hx F N off ne
      refine wpAny_mono (turn (a + (i : Int)) t I oI C oC D m₂ ys h tk E' nw (by omega) (by omega) hC hx F N off ne) (fun y s₂ hq => ?_) fun _ _ e => e
      obtain ⟨h', tk', nw', e, F', N', off', hS, T, t1, t2, rfl, rfl⟩ := hq
      refine ⟨h', tk', _, e, F', N', off', hS, ?_⟩
      have hs : (rangeKs a n).take (i + 1) = (rangeKs a n).take i ++ [a + (i : Int)] := by
        have hk : (rangeKs a n)[i]? = some (a + (i : Int)) := by simp [rangeKs, show i < n by omega]
        simp [List.take_add_one, hk]
      have h2 := ih (i + 1) (ys ++ [.ref T]) ((T, tupObj #[.int (g (a + (i : Int))) t1, .int (a + (i : Int)) t2]) :: nw) (by omega) (by rw [hs, List.map_append]; exact hy.snoc T (g (a + (i : Int)), a + (i : Int)) t1 t2)
      exact h2
  have h0 := key n 0 [] [] (by omega) ⟨rfl, fun i p hp => by simp at hp⟩
  rw [List.append_nil] at h0
  exact h0
end
def psOf (count wheel leap : Int) : List (Int × Int) := (rangeKs 1 (count - 1).toNat).map fun k => ((k * leap).fmod wheel, k)
def upOf (ps : List (Int × Int)) : Int := (ps.getD (argBest (fun i j => pLt (ps.getD i (0, 0)) (ps.getD j (0, 0))) (ps.length - 1)) (0, 0)).2
def downOf (ps : List (Int × Int)) : Int := (ps.getD (argBest (fun i j => pLt (ps.getD j (0, 0)) (ps.getD i (0, 0))) (ps.length - 1)) (0, 0)).2
def nextK (count up down k : Int) : Int := if k + up < count then k + up else if k < down then k + up - down else k - down
def iterK (count up down : Int) : Nat → Int
  | 0 => 0
  | n + 1 => nextK count up down (iterK count up down n)
def leaptS (count wheel leap : Int) : List Int := if count = 1 then [0] else (List.range count.toNat).map (iterK count (upOf (psOf count wheel leap)) (downOf (psOf count wheel leap)))
def ChainP (count up down : Int) (c : List Value × Nat) : Prop := ∃ n : Nat, 1 ≤ n ∧ (n : Int) ≤ count ∧ c.1.length = n ∧ IntsAre c.1 ((List.range n).map (iterK count up down))
theorem lastK {f : Nat → Int} {n : Nat} (hn : 1 ≤ n) : ((List.range n).map f).getD (-1 + (((List.range n).map f).length : Int)).toNat 0 = f (n - 1) := by
  have e : (-1 + (((List.range n).map f).length : Int)).toNat = n - 1 := by simp; omega
  rw [e, List.getD_eq_getElem?_getD, List.getElem?_map, List.getElem?_range (by omega)]
  rfl
theorem chain_step {count up down : Int} {vs : List Value} {n : Nat} {X : Int} (h : IntsAre vs ((List.range n).map (iterK count up down))) (hn : 1 ≤ n) (hX : X = nextK count up down (((List.range n).map (iterK count up down)).getD (-1 + (((List.range n).map (iterK count up down)).length : Int)).toNat 0)) (t : Tok) :
    IntsAre (vs ++ [.int X t]) ((List.range (n + 1)).map (iterK count up down)) := by
  rw [List.range_succ, List.map_append]
  rw [lastK hn] at hX
  have e : iterK count up down n = X := by
    rw [hX]
    obtain ⟨k, rfl⟩ : ∃ k, n = k + 1 := ⟨n - 1, by omega⟩
    rfl
  show IntsAre _ (_ ++ [iterK count up down n])
  rw [e]
  exact ints_snoc h _ _
theorem nextK_1 {count up down k : Int} (h : k + up < count) : k + up = nextK count up down k := by unfold nextK; rw [if_pos h]
theorem nextK_2 {count up down k : Int} (h : ¬ k + up < count) (h2 : k < down) : k + up - down = nextK count up down k := by unfold nextK; rw [if_neg h, if_pos h2]
theorem nextK_3 {count up down k : Int} (h : ¬ k + up < count) (h2 : ¬ k < down) : k - down = nextK count up down k := by unfold nextK; rw [if_neg h, if_neg h2]
theorem psOf_length (count wheel leap : Int) : (psOf count wheel leap).length = (count - 1).toNat := by
  unfold psOf
  rw [List.length_map, rangeKs_length]
theorem argBest_le (bt : Nat → Nat → Bool) : ∀ n, argBest bt n ≤ n
  | 0 => Nat.le_refl _
  | n + 1 => by
    unfold argBest
    split
    · exact Nat.le_refl _
    · exact Nat.le_succ_of_le (argBest_le bt n)
theorem tups_best {nw : List (Addr × Obj)} {ys : List Value} {ps : List (Int × Int)} (h : TupsIn nw ys ps) (hne : 0 < ys.length) (bt : Nat → Nat → Bool) {v : Value} (hv : ys[argBest bt (ys.length - 1)]? = some v) :
    ∃ a t u, v = .ref a ∧ (a, tupObj #[.int (ps.getD (argBest bt (ps.length - 1)) (0, 0)).1 t, .int (ps.getD (argBest bt (ps.length - 1)) (0, 0)).2 u]) ∈ nw := by
  rw [h.1] at hv hne
  have hb := argBest_le bt (ps.length - 1)
  have hi : argBest bt (ps.length - 1) < ps.length := by omega
  obtain ⟨a, t, u, h1, h2⟩ := h.2 (argBest bt (ps.length - 1)) (ps.getD (argBest bt (ps.length - 1)) (0, 0)) (by rw [List.getD_eq_getElem?_getD, List.getElem?_eq_getElem hi]; rfl)
  rw [hv] at h1
  exact ⟨a, t, u, Option.some.inj h1, h2⟩
section
variable {w : World} {A₀ : Around} {s : Shared} {base h₀ : Heap} {outer : List Env} {L : Addr} {m : Str → Option Value}
  {p : Program} {loose : List Str} {mean : ExcName → Option Value} {mg mb : Str → Option Value}
  {dp un : Nat} {gd : Option (List Code)} {cn : Str} {cs : Scope} {a : Addr} {ccd : Value} {cl : List (Str × Addr)}
  {Q E : Value → Shared → Prop} {t1 t2 t3 : Tok}
local macro_rules | `(tactic| units_room) => `(tactic| (have hcL' := cLine_is; simp only [units_in1, units_deeper, Around.mark_units]; dsimp only [ktrTop]; omega))
local macro_rules | `(tactic| walk_at "CompSrc") => `(tactic| refine stop ?_)
local macro_rules | `(tactic| walk_at "CompEnd") => `(tactic| refine stop ?_)
local macro_rules | `(tactic| walk_at "call builtin:len") => `(tactic| (k_here; (with_reducible show wpAny _ _ (call (Value.builtin "len") [Value.ref _]) _ _ _); k_dflt (refine' kst_len ?k1 ?k2 ?k3 ?k4 ?_; (case k1 => k_asm); (case k2 => k_mem); (case k3 => assumption); (case k4 => omega)); k_whole))
theorem leapt0 {count wheel leap : Int} (hw1 : 2 ≤ wheel) (hw2 : wheel ≤ 360) (hl1 : 0 ≤ leap) (hl2 : leap < wheel) (hc1 : 1 ≤ count) (hc2 : count ≤ 9)
  (B : Below A₀ base outer h₀) (F : Fr h₀ L s.heap m) (X₀ : (hd.heap_39 w.params).In h₀) (T : Top p loose mean mg mb h₀) (hke : cs.kind = .function)
  (hroom : dp + 15 < recursionLimit) (hun : un + 200 < cLine)
  (hret : ∀ r vals n3 h' tk, (∀ b o, s.heap.get? b = some o → h'.get? b = some o) → FreshIn s.heap h' [(r, W.listOf vals.toArray n3)] → IntsAre vals (leaptS count wheel leap) → Q (.ref r) { s with heap := h', toks := tk }) :
  wpAny (model PR w) (ktrTop dp un gd cn cs L a ccd cl outer) (call (.ref 54) [.int count t1, .int wheel t2, .int leap t3]) Q E s := by
  k_dflt (refine' enterC (news := []) (binds := [(Str.ofString "count", .int count t1), (Str.ofString "wheel", .int wheel t2), (Str.ofString "leap", .int leap t3)]) B F X₀ T News.nil hke ?ho ?hcd ?hr ?hb ?hl ?hn ?_ ?c1 ?c2 ?c3; (case ho => k_is); (case hcd => k_is); (case hr => omega); (case hb => exact BindsTo.of_eq rfl); (case hl => rfl); (case hn => decide +kernel); (case c1 => rfl); (case c2 => rfl); (case c3 => rfl))
  intro g L' h' tk' cells' hg1 hg2 F' N' Y' B' X' T' l1
  clear l1
  k_cells Y'
  simp only [List.cons_append, List.nil_append] at N'
  change Fr g L' h' (fun y => if y = Str.ofString "count" then some (.int count t1) else none) at F'
  rename _ = Data.cell (bindC _ _ _ (Str.ofString "wheel")) => dW
  rename _ = Data.cell (bindC _ _ _ (Str.ofString "leap")) => dL
  change _ = Data.cell (some (Value.int wheel t2)) at dW
  change _ = Data.cell (some (Value.int leap t3)) at dL
  replace hg1 := PySem.Flt.Hid.mk hg1
  replace hg2 := PySem.Flt.Hid.mk hg2
  (try dsimp only)
  (try k_fold)
  k_steps
  k_with_none
  · rename Fr _ _ _ _ => eF
    rename News _ _ _ _ => eN
    refine ⟨⟨_, _, eF⟩, hret _ _ _ _ _ (keep_of (h₀ := h₀) (L := L) News.nil hg1.out eF eN (fun q hq => nomatch hq)) (fresh1 hg1.out eN (fun hq => nomatch hq)) ?_⟩
    unfold leaptS
    rw [if_pos (by assumption)]
    exact .cons _ _ .nil
  show Stop _
  unfold Stop
  rename Fr _ _ _ _ => eF
  rename News _ _ _ _ => eN
  rename IsRange _ _ _ _ _ _ _ _ => rgX
  refine LCg.CompSrc.range (n := (count - 1).toNat) rfl eF eN rgX (small_one (by omega) (by omega) (by omega) (by omega)) (by rw [rangeSize_nat]) (by rw [PySem.sizeLine_eq]; omega) (fun gg => comp_tups (fun k => (k * leap).fmod wheel) ?_ ?_)
  · clear eF eN
    intro k t I oI C oC D m₂ ys h tk E' nw hk1 hk2 hCs hx kF kN hoff hne
    simp only [List.cons_append, List.nil_append] at kN
    (try k_fold)
    k_steps
    show Stop _
    unfold Stop
    rename Fr _ _ _ _ => zF
    rename News _ _ _ _ => zN
    refine LCg.CompEnd.intro zF zN ([(L' + 1 + 1, _), (L' + 1, _)] ++ ((_, _) :: nw)) (fun q hq => perm7 hq) ?_ True.intro ⟨_, _, _, rfl, rfl⟩
    refine LCg.Off3.of (fun q hq => ?_)
    rcases mem_mid hq with hq | hq
    · rw [hq]
      exact ⟨neN (by omega), neN (by omega), neN (by omega)⟩
    · exact LCg.Off3.mem hoff q hq
  · intro ys nw hTs
    clear eF eN
    intro D h tk eF eN o1
    simp only [List.cons_append, List.nil_append] at eN
    clear o1
    have hyl : 0 < ys.length := by rw [hTs.1, List.length_map, rangeKs_length]; omega
    change TupsIn nw ys (psOf count wheel leap) at hTs
    replace hTs := PySem.Flt.Hid.mk hTs
    k_with "call builtin:min" => refine stop ?_
    k_with "call builtin:max" => refine stop ?_
    k_steps
    k_with_none
    unfold Stop
    rename Fr _ _ _ _ => eF
    rename News _ _ _ _ => eN
    refine min_tups (ys := ys) (ps := psOf count wheel leap) rfl ⟨_, (eN _ (.head _)).1, rfl, _, rfl⟩ (fun i q hq => ?_) hTs.out.1 hyl (by units_room) ?_
    · obtain ⟨a, t, u, h1, h2⟩ := hTs.out.2 i q hq
      exact ⟨a, t, u, h1, (eN _ (.tail _ (.tail _ (.tail _ h2)))).1⟩
    intro v h' tk hv hkp
    obtain ⟨a, t, u, rfl, hm⟩ := tups_best hTs.out hyl _ hv
    clear hv
    replace eF := eF.keeps hkp
    replace eN := eN.grown hkp
    clear hkp
    change (a, tupObj #[_, .int (upOf (psOf count wheel leap)) u]) ∈ nw at hm
    dsimp only
    walk1
    (try dsimp only)
    refine' item_tupleT (News.isTup eN (.tail _ (.tail _ (.tail _ hm)))) (by decide) (by decide) rfl rfl ?_
    (try dsimp only)
    k_with "call builtin:max" => refine stop ?_
    k_steps
    k_with_none
    unfold Stop
    rename Fr _ _ _ _ => eF
    rename News _ _ _ _ => eN
    refine max_tups (ys := ys) (ps := psOf count wheel leap) rfl ⟨_, (eN _ (.head _)).1, rfl, _, rfl⟩ (fun i q hq => ?_) hTs.out.1 hyl (by units_room) ?_
    · obtain ⟨a, t, u, h1, h2⟩ := hTs.out.2 i q hq
      exact ⟨a, t, u, h1, (eN _ (.tail _ (.tail _ (.tail _ h2)))).1⟩
    intro v h' tk hv hkp
    obtain ⟨a2, t2', u2, rfl, hm2⟩ := tups_best hTs.out hyl _ hv
    clear hv
    replace eF := eF.keeps hkp
    replace eN := eN.grown hkp
    clear hkp
    change (a2, tupObj #[_, .int (downOf (psOf count wheel leap)) u2]) ∈ nw at hm2
    dsimp only
    walk1
    (try dsimp only)
    refine' item_tupleT (News.isTup eN (.tail _ (.tail _ (.tail _ hm2)))) (by decide) (by decide) rfl rfl ?_
    (try dsimp only)
    clear hm hm2
    k_with "exec While Compare cons nil" => refine stop ?_
    k_steps
    k_with_none
    unfold Stop
    rename Fr _ _ _ _ => eF
    rename News _ _ _ _ => eN
    generalize hup : upOf (psOf count wheel leap) = up at *
    generalize hdn : downOf (psOf count wheel leap) = down at *
    replace hup := PySem.Flt.Hid.mk hup
    replace hdn := PySem.Flt.Hid.mk hdn
    refine' ksw_while (σ := List Value × Nat) (fun c => [(_, W.listOf c.1.toArray c.2)]) (fun _ => []) (fun _ => True) [Str.ofString "k"] (ChainP count up down) (fun c => 10 - c.1.length) ([.int 0 _], 0) eF (kst_newsOf eN ?ks) True.intro (List.forall_mem_nil _) ?kp ?kt ?ke
    case ks =>
      intro q hq
      rw [List.mem_singleton.mp hq]
      exact .head _
    case kp => exact ⟨1, by omega, by omega, rfl, .cons _ _ .nil⟩
    case ke => passes_own
    case kt =>
      clear eF eN
      rintro ⟨vs, nn⟩ uu hh1 tk2 _ ⟨n, hn1, hn2, hlen, hIs⟩ kFr kNews
      dsimp only at hlen hIs kFr kNews ⊢
      have hMk := kstMark
      (try k_fold)
      k_steps
      all_goals first
        | (rename Fr _ _ _ _ => eF
           rename News _ _ _ _ => eN
           rw [List.push_toArray] at eN
           refine ksw_end (vs ++ [_], nn + 1) eF eN (fun q hq => hq) True.intro (List.forall_mem_nil _) ?_ ⟨n + 1, by omega, by omega, ?_, chain_step hIs hn1 (by first | exact nextK_1 (by assumption) | exact nextK_2 (by assumption) (by assumption) | exact nextK_3 (by assumption) (by assumption)) _⟩ ?_
           · intro z h2 h3
             simp only [List.contains_cons, List.contains_nil, Bool.or_false, beq_eq_false_iff_ne, ne_eq] at h3
             rw [if_neg h3]
             show (if [Str.ofString "k"].contains z = true then uu z else _) = _
             rw [if_neg (by simp only [List.contains_cons, List.contains_nil, Bool.or_false, beq_iff_eq, h3, not_false_eq_true])]
           · simp [hlen]
           · simp; omega)
        | (rename Fr _ _ _ _ => eF
           rename News _ _ _ _ => eN
           have hnc : count.toNat = n := by omega
           refine ⟨⟨_, _, eF⟩, hret _ vs nn _ _ (keep_of (h₀ := h₀) (L := L) News.nil hg1.out eF eN (fun q hq => nomatch hq)) (fresh1 hg1.out eN (fun hq => nomatch hq)) ?_⟩
           unfold leaptS
           rw [if_neg (by assumption), hnc, hup.out, hdn.out]
           exact hIs)
end
end Mine
end
section
open PySem PySem.W PySem.Calls PySem.Spec PyProof.Rows
set_option Elab.async false
namespace Mine
set_option maxRecDepth 100000
section
variable {prog : Program} {w : World} {A : Around} {E : Value → Shared → Prop} {s : Shared} {env : Env} {h₀ : Heap} {x : Str} {body : List Stmt} {Q : Flow → Shared → Prop}
def RngEnd {σ : Type} (h₀ : Heap) (L : Addr) (Led : σ → List (Addr × Obj)) (x : Str) (stored : List Str) (m₀ : Str → Option Value) (P : σ → Prop) (I : Addr) (oI : Obj) (s₁ s₂ : Shared) : Prop :=
  ∃ (c' : σ) (h' : Heap) (tk : Nat) (m' : Str → Option Value) (news' : List (Addr × Obj)), s₂ = { s₁ with heap := h', toks := tk } ∧ Fr h₀ L h' m' ∧ News h₀ L h' news' ∧ (I, oI) ∈ news' ∧ (∀ q ∈ Led c', q ∈ news') ∧ (∀ q ∈ Led c', q.1 ≠ I) ∧ (∀ z, z ≠ x → stored.contains z = false → m' z = m₀ z) ∧ P c'
def RngPost {σ : Type} (h₀ : Heap) (L : Addr) (Led : σ → List (Addr × Obj)) (x : Str) (stored : List Str) (m₀ : Str → Option Value) (P : σ → Prop) (I : Addr) (oI : Obj) (s₁ : Shared) (Q : Flow → Shared → Prop) (f : Flow) (s₂ : Shared) : Prop :=
  match f with
  | .ret v => Q (.ret v) s₂
  | .brk => Q .next s₂
  | _ => RngEnd h₀ L Led x stored m₀ P I oI s₁ s₂
theorem rng_loop {σ : Type} {r : Addr} {a₀ b₀ : Int} {t₀ u₀ v₀ : Tok} {n : Nat} {m₀ : Str → Option Value} (Led : σ → List (Addr × Obj)) (stored : List Str) (P : Nat → σ → Prop) (c₀ : σ)
    (hh : A.handled = none) (hr : IsRange s.heap r a₀ b₀ 1 t₀ u₀ v₀) (hsmall : Builtin.Range.small a₀ b₀ 1 = true) (hn : Builtin.Range.rangeSize a₀ b₀ 1 = (n : Int)) (F : Fr h₀ env.locals s.heap m₀) (N : News h₀ env.locals s.heap (Led c₀)) (hp : P 0 c₀)
    (turn : ∀ (c : σ) (i : Nat) t (u : Str → Option Value) h tk I oI, i < n → P i c → AllNe I (Led c) →
      Fr h₀ env.locals h (fun y => if y = x then some (.int (a₀ + (i : Int)) t) else if stored.contains y then u y else m₀ y) → News h₀ env.locals h ((I, oI) :: Led c) →
      wpAny (model prog w) A (execs body env) (RngPost h₀ env.locals Led x stored m₀ (P (i + 1)) I oI { s with heap := h, toks := tk } Q) E { s with heap := h, toks := tk })
    (done : ∀ (c : σ) (u : Str → Option Value) h tk, P n c → Fr h₀ env.locals h (fun y => if y = x then u y else if stored.contains y then u y else m₀ y) → News h₀ env.locals h (Led c) → Q .next { s with heap := h, toks := tk }) :
    wpAny (model prog w) A (pyIter (.ref r)) (fun it s₂ => LoopAtV prog w A h₀ env x body Q E it s₂) E s := by
  refine wpAny_pyIter_range hr hsmall ?_
  have W : Walks prog w A s.heap.objs.size [s.heap.objs.size] [s.heap.objs.size] n (fun i v => i < n ∧ ∃ t, v = .int (a₀ + i * 1) t)
      (fun i h => IsRangeIter h s.heap.objs.size (a₀ + (i : Nat) * 1) ((n : Int) - (i : Nat)) 1) := (Walks.range hh _ a₀ 1 n).bound
  let J : Nat → (Str → Option Value) → List (Addr × Obj) → Prop := fun i m nx => ∃ c : σ, nx = Led c ∧ (∀ z, z ≠ x → stored.contains z = false → m z = m₀ z) ∧ P i c
  have frm : ∀ (m₁ : Str → Option Value) (v : Option Value), (∀ z, z ≠ x → stored.contains z = false → m₁ z = m₀ z) → (fun y => if y = x then v else m₁ y) = fun y => if y = x then v else if stored.contains y then m₁ y else m₀ y := fun m₁ v hm => by
    funext y
    by_cases hy : y = x
    · rw [if_pos hy, if_pos hy]
    · rw [if_neg hy, if_neg hy]
      cases hs : stored.contains y with
      | true => simp
      | false => simp only [Bool.false_eq_true, if_false]; exact hm y hy hs
  refine ⟨_, _, _, n, _, _, m₀, Led c₀, J, rfl, W, ?_, ?_, ?_, (by show IsRangeIter _ _ _ _ _; rw [hn]; simpa using Heap.get?_push_size _ rfl), F.push _, (fun p hp => ⟨Heap.get?_push_of_some _ (N p hp).1, (N p hp).2⟩), ⟨c₀, rfl, fun _ _ _ => rfl, hp⟩, ?_, ?_⟩
  · intro hm
    exact absurd F.ns.lt ((List.mem_singleton.mp hm) ▸ Nat.lt_irrefl _)
  · intro b hb
    rw [List.mem_singleton.mp hb]
    exact next_is_new F
  · intro p hp hI
    exact absurd (Heap.lt_size (N p hp).1) ((List.mem_singleton.mp hI) ▸ Nat.lt_irrefl _)
  · rintro i v m₁ news₁ s₁ own ⟨hh', tk', rfl⟩ hin ⟨_, t, rfl⟩ ⟨c, rfl, hm, hP⟩ hoff hown hget hall hst F₁ N₁
    have e1 : a₀ + (i : Int) * 1 = a₀ + (i : Int) := by omega
    rw [e1] at F₁
    rw [frm m₁ _ hm] at F₁
    obtain ⟨oI, hIg⟩ : ∃ o, hh'.get? s.heap.objs.size = some o := ⟨_, hst⟩
    have hIn := next_is_new F
    have hI := hall s.heap.objs.size (.head _) hIn oI hIg
    have hsame : ∀ q ∈ own, q = (s.heap.objs.size, oI) := fun q hq => by
      have h1 : q.1 = s.heap.objs.size := List.mem_singleton.mp (hown q hq)
      have h2 : hh'.get? q.1 = some q.2 := hget q hq
      rw [h1, hIg] at h2
      exact Prod.ext h1 (Option.some.inj h2).symm
    refine wpAny_mono (turn c i t m₁ hh' tk' s.heap.objs.size oI hin hP (allNe_of fun q hq e => hoff q hq (by rw [e]; exact .head _)) F₁ (fun q hq => ?_)) (fun f s₂ p => ?_) fun _ _ e => e
    · rcases List.mem_cons.mp hq with rfl | hq
      · exact N₁ _ (List.mem_append_left _ hI)
      · exact N₁ _ (List.mem_append_right _ hq)
    · have fin : RngEnd h₀ env.locals Led x stored m₀ (P (i + 1)) s.heap.objs.size oI { s with heap := hh', toks := tk' } s₂ → LoopStepU h₀ env.locals [s.heap.objs.size] own (J (i + 1)) { s with heap := hh', toks := tk' } .next s₂ := by
        rintro ⟨c', h', tk, m', news', e, F', N', hIn', hsub, hne, hz, hP'⟩
        refine ⟨rfl, h', tk, m', Led c', e, F', fun q hq => ?_, fun q hq hm => hne q hq (List.mem_singleton.mp hm), c', rfl, hz, hP'⟩
        rcases List.mem_append.mp hq with hq | hq
        · rw [hsame q hq]; exact N' _ hIn'
        · exact N' _ (hsub q hq)
      cases f with
      | ret v => exact .ret p
      | brk => exact .brk p
      | next => exact .next (fin p)
      | cont => exact .cont (fin p)
  · rintro h' tk m' news' F' N' _ ⟨c, rfl, hm, hP⟩
    refine done c m' h' tk hP ?_ N'
    have e := frm m'
    have e2 : (fun y => if y = x then m' y else if stored.contains y then m' y else m₀ y) = m' := by
      funext y
      by_cases hy : y = x
      · rw [if_pos hy]
      · rw [if_neg hy]
        cases hs : stored.contains y with
        | true => simp
        | false => simp only [Bool.false_eq_true, if_false]; exact (hm y hy hs).symm
    rw [e2]
    exact F'
end
end Mine
end
section
open PySem PySem.W PySem.Calls PySem.Spec PyProof.Rows
set_option Elab.async false
namespace Mine
set_option maxRecDepth 100000
inductive Tab where
  | empty
  | full (c' : Addr) (oc : Obj)
def tabLed : Tab → List (Addr × Obj)
  | .empty => [(44, tabObj #[])]
  | .full c' oc => [(44, fullTab c'), (c', oc)]
def TabOk : Tab → Prop
  | .empty => True
  | .full _ oc => ∃ cvs tq, oc.data = .fields cvs ∧ cvs[1]? = some (.str lamQ tq)
def Apart (a b : List (Addr × Obj)) : Prop := ∀ p ∈ a, ∀ q ∈ b, p.1 ≠ q.1
theorem tab44 (c : Tab) : ∃ o, (44, o) ∈ tabLed c := by
  cases c
  · exact ⟨_, .head _⟩
  · exact ⟨_, .head _⟩
theorem laid_any {w : World} {fs : List UInt64} {k : Nat} {A₀ : Around} {s : Shared} {base h₀ : Heap} {outer : List Env} {L : Addr} {m : Str → Option Value}
  {p : Program} {loose : List Str} {mean : ExcName → Option Value} {mg mb : Str → Option Value}
  {dp un : Nat} {gd : Option (List Code)} {cn : Str} {cs : Scope} {a : Addr} {ccd : Value} {cl : List (Str × Addr)}
  {Q E : Value → Shared → Prop} {pa ta : Addr} {vals fvs : List Value} {ns : List Int} {n1 n2 : Nat} {rest : List (Addr × Obj)} (c : Tab)
  (B : Below A₀ base outer h₀) (F : Fr h₀ L s.heap m) (X₀ : (hd.heap_39 w.params).In h₀) (T : Top p loose mean mg mb h₀) (hke : cs.kind = .function) (hC : CodeHd base 48 44)
  (hroom : dp + 3 * (k + 1) + 20 < recursionLimit) (hun : un + 10 * (k + 1) + 200 < cLine)
  (N : News h₀ L s.heap (rest ++ tabLed c)) (hc : TabOk c) (hap : Apart rest (tabLed c)) (mt : (ta, W.listOf fvs.toArray n1) ∈ rest) (mp : (pa, W.listOf vals.toArray n2) ∈ rest)
  (hi : IntsAre vals ns) (hf : FloatsAre fvs fs) (hne : ns ≠ []) (hin : ∀ i ∈ ns, 0 ≤ i ∧ i < fs.length) (hfl : fs.length < 100) (hlen : ns.length ≤ k + 1) (hk : k + 1 < 50)
  (hret : ∀ r vals' n3 c2 h' tk, TabOk c2 → Apart rest (tabLed c2) → Fr h₀ L h' m → News h₀ L h' ((r, W.listOf vals'.toArray n3) :: (rest ++ tabLed c2)) → IntsAre vals' (laidF fs (k + 1) ns) → Q (.ref r) { s with heap := h', toks := tk }) :
  wpAny (model PR w) (ktrTop dp un gd cn cs L a ccd cl outer) (call (.ref 49) [.ref pa, .ref ta]) Q E s := by
  have ml : ∀ q ∈ rest, q ∈ rest ++ tabLed c := fun q hq => List.mem_append_left _ hq
  have hn44 : ∀ q ∈ rest, q.1 ≠ 44 := fun q hq => by
    obtain ⟨o, ho⟩ := tab44 c
    exact hap q hq _ ho
  cases c with
  | empty =>
    cases hi with
    | nil => exact absurd rfl hne
    | cons v0 tk0 hi' =>
      rename_i vals ns
      refine laid_first (k := k) (n1 := n1) (n2 := n2) B F X₀ T hke hC hroom hun (fun q hq => ?_) (.cons v0 tk0 hi') hf (hin v0 (.head _)).1 (hin v0 (.head _)).2 (fun i h => hin i (.tail _ h)) hfl hlen hk (hn44 _ mt) (hn44 _ mp) ?_
      · rcases List.mem_cons.mp hq with rfl | hq
        · exact N _ (List.mem_append_right _ (.head _))
        rcases List.mem_cons.mp hq with rfl | hq
        · exact N _ (ml _ mt)
        rw [List.mem_singleton.mp hq]
        exact N _ (ml _ mp)
      · intro r c' oc cvs tq vals' n3 h' tk hkp h44 hfr hlt hoc hqc hI
        have hr := hfr (r, W.listOf vals'.toArray n3) (.head _)
        have hcc := hfr (c', oc) (.tail _ (.head _))
        have N44 := N (44, tabObj #[]) (List.mem_append_right _ (.head _))
        obtain ⟨oL, e1, e2, hL, hL2⟩ := F.ns
        have keepL : h'.get? L = some oL := hkp L oL hL (fun e => N44.2.1 e.symm)
        have old : ∀ b o, h₀.get? b = some o → h'.get? b = some o := fun b o e => hkp b o (F.keep b o e) (fun e2 => by
          rw [e2, N44.2.2] at e
          exact nomatch e)
        have freshOf : ∀ b, s.heap.get? b = none → b ≠ L ∧ h₀.get? b = none := fun b hb => by
          refine ⟨fun e => ?_, ?_⟩
          · rw [e, hL] at hb
            exact nomatch hb
          · cases hn : h₀.get? b with
            | none => rfl
            | some o =>
              have h3 := F.keep b o hn
              rw [hb] at h3
              exact nomatch h3
        refine hret r vals' n3 (.full c' oc) h' tk ⟨cvs, tq, hoc, hqc⟩ ?_ ⟨⟨oL, e1, e2, keepL, hL2⟩, old, F.above⟩ ?_ hI
        · intro q hq q2 hq2 e
          rcases List.mem_cons.mp hq2 with rfl | hq2
          · exact hn44 q hq e
          · rw [List.mem_singleton.mp hq2] at e
            have h1 := (N q (ml q hq)).1
            have h2 : s.heap.get? c' = none := hcc.2
            rw [e, h2] at h1
            exact nomatch h1
        · intro q hq
          rcases List.mem_cons.mp hq with rfl | hq
          · exact ⟨hr.1, (freshOf _ hr.2).1, (freshOf _ hr.2).2⟩
          rcases List.mem_append.mp hq with hq | hq
          · exact ⟨hkp _ _ (N q (ml q hq)).1 (hn44 q hq), (N q (ml q hq)).2⟩
          rcases List.mem_cons.mp hq with rfl | hq
          · exact ⟨h44, N44.2⟩
          · rw [List.mem_singleton.mp hq]
            exact ⟨hcc.1, (freshOf _ hcc.2).1, (freshOf _ hcc.2).2⟩
  | full c' oc =>
    obtain ⟨cvs, tq, hoc, hqc⟩ := hc
    refine laidC_all w fs (k + 1) (n1 := n1) (n2 := n2) (c' := c') B F X₀ T hke hC hroom hun (fun q hq => ?_) hoc hqc hi hf hin hfl hlen hk ?_
    · rcases List.mem_cons.mp hq with rfl | hq
      · exact N _ (List.mem_append_right _ (.head _))
      rcases List.mem_cons.mp hq with rfl | hq
      · exact N _ (List.mem_append_right _ (.tail _ (.head _)))
      rcases List.mem_cons.mp hq with rfl | hq
      · exact N _ (ml _ mt)
      rw [List.mem_singleton.mp hq]
      exact N _ (ml _ mp)
    · intro r vals' n3 h' tk hkp hfr hI
      obtain ⟨F3, N3, _⟩ := led_of2 F N hkp hfr
      exact hret r vals' n3 (.full c' oc) h' tk ⟨cvs, tq, hoc, hqc⟩ hap F3 N3 hI
end Mine
end
section
open PySem PySem.W PySem.Calls PySem.Spec PyProof.Rows
set_option Elab.async false
namespace Mine
open PySem.Float64
set_option maxRecDepth 100000
theorem fin_decode {x : UInt64} (h : isFinite x = true) : ∃ a m e, decode x = .fin a m e := by
  unfold isFinite at h
  cases hd : decode x with
  | nan => rw [hd] at h; cases h
  | inf s => rw [hd] at h; cases h
  | fin a m e => exact ⟨a, m, e, rfl⟩
theorem decode_fin {x : UInt64} {a : Bool} {m : Nat} {e : Int} (h : decode x = .fin a m e) : isFinite x = true := by
  unfold isFinite; rw [h]
theorem near_up {W D t t0 : Nat} (hD : 0 < D) (h : dist W (D * V t) ≤ dist W (D * V t0)) (hw : W ≤ D * V t0) : V t ≤ V t0 := by
  rcases Nat.lt_or_ge (V t0) (V t) with hlt | hge
  · have h1 : D * V t0 < D * V t := Nat.mul_lt_mul_of_pos_left hlt hD
    unfold dist at h
    omega
  · exact hge
theorem near_dn {W D t t0 : Nat} (hD : 0 < D) (h : dist W (D * V t) ≤ dist W (D * V t0)) (hw : D * V t0 ≤ W) : V t0 ≤ V t := by
  rcases Nat.lt_or_ge (V t) (V t0) with hlt | hge
  · have h1 : D * V t < D * V t0 := Nat.mul_lt_mul_of_pos_left hlt hD
    unfold dist at h
    omega
  · exact hge
theorem V_top : V (1028 * 2 ^ 52 + 2 ^ 52) = 2 ^ 1080 := by
  rw [V_at (k := 1028) (q := 2 ^ 52) (by decide) (.inl (Nat.le_refl _)), ← Nat.pow_add]
theorem near_err {W D t : Nat} (hD : 0 < D) (h : ∀ t', dist W (D * V t) ≤ dist W (D * V t')) (hW : W ≤ D * 2 ^ 1080) : dist W (D * V t) ≤ D * 2 ^ 1027 := by
  have htop : V t ≤ 2 ^ 1080 := by
    rw [← V_top]
    refine near_up hD (h _) ?_
    rw [V_top]; exact hW
  obtain ⟨k, q, ht, hq, hor, hV⟩ := V_form t
  have hk : 2 ^ k ≤ 2 ^ 1028 := by
    rcases hor with h1 | h1
    · have h2 : 2 ^ 52 * 2 ^ k ≤ 2 ^ 1080 := Nat.le_trans (Nat.mul_le_mul_right _ h1) (hV ▸ htop)
      rw [← Nat.pow_add] at h2
      have h3 : 52 + k ≤ 1080 := (Nat.pow_le_pow_iff_right (by decide)).mp h2
      exact Nat.pow_le_pow_right (by decide) (by omega)
    · rw [h1]; exact Nat.pow_le_pow_right (by decide) (by omega)
  have hkp : 0 < 2 ^ k := Nat.two_pow_pos k
  have e28 : (2 : Nat) ^ 1028 = 2 * 2 ^ 1027 := by rw [Nat.pow_succ, Nat.mul_comm]
  rw [e28] at hk
  have hDk : D * 2 ^ k ≤ D * (2 * 2 ^ 1027) := Nat.mul_le_mul_left _ hk
  rw [show D * (2 * 2 ^ 1027) = 2 * (D * 2 ^ 1027) by rw [Nat.mul_left_comm]] at hDk
  generalize (2 : Nat) ^ 1027 = U at *
  have hDk0 : 0 < D * 2 ^ k := Nat.mul_pos hD hkp
  rcases Nat.lt_or_ge W (D * V t) with hlt | hge
  · have hprev : V t ≤ V (t - 1) + 2 ^ k := by
      by_cases hc : 2 ^ 52 < q ∨ k = 0
      · rcases Nat.eq_zero_or_pos q with h0 | h0
        · rw [hV, h0, Nat.zero_mul]; exact Nat.zero_le _
        have e : t - 1 = k * 2 ^ 52 + (q - 1) := by omega
        have := V_at (k := k) (q := q - 1) (by omega) (by omega)
        rw [hV, e, this]
        have e2 : q * 2 ^ k = (q - 1) * 2 ^ k + 2 ^ k := by
          rw [← Nat.succ_mul]; congr 1; omega
        omega
      · have hq2 : q = 2 ^ 52 := by omega
        have hk1 : 1 ≤ k := by omega
        have e : t - 1 = (k - 1) * 2 ^ 52 + (2 ^ 53 - 1) := by omega
        have h5 := V_at (k := k - 1) (q := 2 ^ 53 - 1) (by omega) (.inl (by omega))
        rw [hV, e, h5, hq2]
        have e3 : 2 ^ k = 2 ^ (k - 1) * 2 := by rw [← Nat.pow_succ]; congr 1; omega
        rw [e3]
        generalize 2 ^ (k - 1) = z
        omega
    have h6 := h (t - 1)
    have h7 : D * V t ≤ D * V (t - 1) + D * 2 ^ k := by rw [← Nat.mul_add]; exact Nat.mul_le_mul_left _ hprev
    have h8 : D * V (t - 1) ≤ D * V t := Nat.mul_le_mul_left _ (V_mono (by omega))
    rcases Nat.eq_zero_or_pos t with h0 | h0
    · rw [h0, V_zero] at hlt; omega
    have h9 : D * V (t - 1) < D * V t := Nat.mul_lt_mul_of_pos_left (V_lt (by omega)) hD
    unfold dist at h6 ⊢
    omega
  · have hnext : V (t + 1) = V t + 2 ^ k := by
      have e : t + 1 = k * 2 ^ 52 + (q + 1) := by omega
      rw [hV, e, V_at (k := k) (q := q + 1) (by omega) (by omega), Nat.succ_mul]
    have h6 := h (t + 1)
    have h7 : D * V (t + 1) = D * V t + D * 2 ^ k := by rw [hnext, Nat.mul_add]
    unfold dist at h6 ⊢
    omega
def SS : Int := ((2 ^ 1074 : Nat) : Int)
def UU : Int := ((2 ^ 1027 : Nat) : Int)
theorem SU : SS = 140737488355328 * UU := by
  unfold SS UU
  have e : (2 : Nat) ^ 1074 = 140737488355328 * 2 ^ 1027 := by
    rw [show (140737488355328 : Nat) = 2 ^ 47 by decide, ← Nat.pow_add]
  rw [e, Int.natCast_mul]; rfl
theorem UU_pos : 0 < UU := by
  unfold UU
  exact Int.ofNat_lt.mpr (Nat.two_pow_pos _)
theorem SS_pos : 0 < SS := by
  have := UU_pos
  have := SU
  omega
def Rep (b : Int) : Prop := ∃ t, b.natAbs = V t
structure Is (x : UInt64) (X : Int) : Prop where
  fin : isFinite x = true
  vl : val x = X
structure Rnd (r : UInt64) (W D Z : Int) : Prop where
  is : Is r Z
  lo : W - D * Z ≤ D * UU
  hi : D * Z - W ≤ D * UU
  up : ∀ b, Rep b → W ≤ D * b → Z ≤ b
  dn : ∀ b, Rep b → D * b ≤ W → b ≤ Z
theorem rep_nat : ∀ (k q : Nat), q < 2 ^ 53 → ∃ t, q * 2 ^ k = V t
  | 0, q, h => ⟨q, by
      have := V_at (k := 0) (q := q) (by omega) (.inr rfl)
      simpa using this.symm⟩
  | k + 1, q, h => by
    by_cases hq : 2 ^ 52 ≤ q
    · exact ⟨(k + 1) * 2 ^ 52 + q, (V_at (by omega) (.inl hq)).symm⟩
    · obtain ⟨t, ht⟩ := rep_nat k (q * 2) (by omega)
      exact ⟨t, by rw [← ht, Nat.pow_succ, Nat.mul_assoc, Nat.mul_comm 2]⟩
theorem rep_neg {b : Int} (h : Rep b) : Rep (-b) := by
  obtain ⟨t, ht⟩ := h
  exact ⟨t, by rw [Int.natAbs_neg]; exact ht⟩
theorem rep_sixteenth {q : Nat} (h : q < 2 ^ 53) : Rep ((q : Int) * ((2 ^ 1070 : Nat) : Int)) := by
  obtain ⟨t, ht⟩ := rep_nat 1070 q h
  exact ⟨t, by rw [← Int.natCast_mul, Int.natAbs_natCast]; exact ht⟩
theorem rep_of {x : UInt64} {X : Int} (h : Is x X) : Rep X := by
  obtain ⟨a, m, e, hd⟩ := fin_decode h.fin
  obtain ⟨t, ht⟩ := rep_nat (e + 1074).toNat m (decode_le hd).1
  exact ⟨t, by rw [← h.vl, val_natAbs hd]; exact ht⟩
theorem rnd_of_right {r : UInt64} {neg : Bool} {W D : Nat} (h : Right r neg W D) (hD : 0 < D) (hW : W ≤ D * 2 ^ 1080) : ∃ Z, Rnd r (sgn neg W) (D : Int) Z := by
  obtain ⟨t, rfl, hle, hinf, hn⟩ := h
  have hlt : t < infMag := by
    refine Nat.lt_of_le_of_ne hle fun e => ?_
    have h1 := hinf.mp e
    have h2 : D * ((2 ^ 54 - 1) * 2 ^ 2045) ≤ D * (2 * 2 ^ 1080) := Nat.le_trans h1 (by rw [Nat.mul_left_comm]; exact Nat.mul_le_mul_left _ hW)
    have h3 := Nat.le_of_mul_le_mul_left h2 hD
    have h4 : (2 : Nat) ^ 1080 ≤ 2 ^ 2045 := Nat.pow_le_pow_right (by decide) (by decide)
    have h5 : (0 : Nat) < 2 ^ 2045 := Nat.two_pow_pos _
    generalize (2 : Nat) ^ 2045 = A at *
    generalize (2 : Nat) ^ 1080 = B at *
    omega
  have hnn : ∀ t', dist W (D * V t) ≤ dist W (D * V t') := fun t' => (hn hlt t').1
  have herr := near_err hD hnn hW
  obtain ⟨m, e, hd, _⟩ := decode_pack neg hlt
  have hv := val_pack neg hlt
  have hDi : (0 : Int) < (D : Int) := Int.ofNat_lt.mpr hD
  have hU : ((D * 2 ^ 1027 : Nat) : Int) = (D : Int) * UU := by unfold UU; rw [Int.natCast_mul]
  have hDV : ((D * V t : Nat) : Int) = (D : Int) * (V t : Int) := Int.natCast_mul _ _
  refine ⟨sgn neg (V t), ⟨decode_fin hd, hv⟩, ?_, ?_, ?_, ?_⟩
  · rw [← hU]
    unfold dist at herr
    cases neg
    · simp only [sgn, Bool.false_eq_true, if_false]; rw [← hDV]; omega
    · simp only [sgn, if_true]; rw [Int.mul_neg, ← hDV]; omega
  · rw [← hU]
    unfold dist at herr
    cases neg
    · simp only [sgn, Bool.false_eq_true, if_false]; rw [← hDV]; omega
    · simp only [sgn, if_true]; rw [Int.mul_neg, ← hDV]; omega
  · rintro b ⟨t0, hb⟩ hw
    have hcast : ((D * V t0 : Nat) : Int) = (D : Int) * (V t0 : Int) := Int.natCast_mul _ _
    cases neg
    · simp only [sgn, Bool.false_eq_true, if_false] at hw ⊢
      have hb0 : 0 ≤ b := by
        rcases Int.lt_or_le b 0 with h1 | h1
        · have := Int.mul_neg_of_pos_of_neg hDi h1
          omega
        · exact h1
      have hbe : b = (V t0 : Int) := by omega
      rw [hbe, ← hcast] at hw
      have := near_up hD (hnn t0) (Int.ofNat_le.mp hw)
      omega
    · simp only [sgn, if_true] at hw ⊢
      rcases Int.lt_or_le b 0 with h1 | h1
      · have hbe : b = -(V t0 : Int) := by omega
        rw [hbe, Int.mul_neg, ← hcast] at hw
        have := near_dn hD (hnn t0) (by omega)
        omega
      · omega
  · rintro b ⟨t0, hb⟩ hw
    have hcast : ((D * V t0 : Nat) : Int) = (D : Int) * (V t0 : Int) := Int.natCast_mul _ _
    cases neg
    · simp only [sgn, Bool.false_eq_true, if_false] at hw ⊢
      rcases Int.lt_or_le b 0 with h1 | h1
      · omega
      · have hbe : b = (V t0 : Int) := by omega
        rw [hbe, ← hcast] at hw
        have := near_dn hD (hnn t0) (Int.ofNat_le.mp hw)
        omega
    · simp only [sgn, if_true] at hw ⊢
      have hb0 : b ≤ 0 := by
        rcases Int.lt_or_le 0 b with h1 | h1
        · have := Int.mul_pos hDi h1
          omega
        · exact h1
      have hbe : b = -(V t0 : Int) := by omega
      rw [hbe, Int.mul_neg, ← hcast] at hw
      have := near_up hD (hnn t0) (by omega)
      omega
theorem natAbs_le_of {W : Int} {M : Nat} (h1 : W ≤ (M : Int)) (h2 : -(M : Int) ≤ W) : W.natAbs ≤ M := by omega
theorem sgn_of_natAbs (W : Int) : sgn (decide (W < 0)) W.natAbs = W := by
  unfold sgn
  by_cases h : W < 0
  · rw [decide_eq_true h]; simp only [if_true]; omega
  · rw [decide_eq_false h]; simp only [Bool.false_eq_true, if_false]; omega
theorem S64 : 64 * SS = ((2 ^ 1080 : Nat) : Int) := by
  unfold SS
  have e : (2 : Nat) ^ 1080 = 64 * 2 ^ 1074 := by rw [show (64 : Nat) = 2 ^ 6 by decide, ← Nat.pow_add]
  rw [e, Int.natCast_mul]; rfl
theorem zero_is (b : Bool) : Is (zero b) 0 := by
  cases b
  · exact ⟨by decide +kernel, by decide +kernel⟩
  · exact ⟨by decide +kernel, by decide +kernel⟩
theorem rnd_zero (b : Bool) : Rnd (zero b) 0 1 0 :=
  ⟨zero_is b, by have := UU_pos; omega, by have := UU_pos; omega, fun b _ h => by omega, fun b _ h => by omega⟩
theorem rnd_add {x y : UInt64} {X Y : Int} (hx : Is x X) (hy : Is y Y) (h1 : X + Y ≤ 64 * SS) (h2 : -(64 * SS) ≤ X + Y) : ∃ Z, Rnd (add x y) (X + Y) 1 Z := by
  obtain ⟨a, m, e, hdx⟩ := fin_decode hx.fin
  obtain ⟨b, k, f, hdy⟩ := fin_decode hy.fin
  have h := add_right hdx hdy
  rw [hx.vl, hy.vl] at h
  by_cases h0 : X + Y = 0
  · rw [h.1 h0, h0]; exact ⟨0, rnd_zero _⟩
  · have := rnd_of_right (h.2 h0) (by decide) (by rw [Nat.one_mul]; rw [S64] at h1 h2; exact natAbs_le_of h1 h2)
    rw [sgn_of_natAbs] at this
    exact this
theorem rnd_sub {x y : UInt64} {X Y : Int} (hx : Is x X) (hy : Is y Y) (h1 : X - Y ≤ 64 * SS) (h2 : -(64 * SS) ≤ X - Y) : ∃ Z, Rnd (sub x y) (X - Y) 1 Z := by
  obtain ⟨a, m, e, hdx⟩ := fin_decode hx.fin
  obtain ⟨b, k, f, hdy⟩ := fin_decode hy.fin
  have h := sub_right hdx hdy
  rw [hx.vl, hy.vl] at h
  by_cases h0 : X - Y = 0
  · rw [h.1 h0, h0]; exact ⟨0, rnd_zero _⟩
  · have := rnd_of_right (h.2 h0) (by decide) (by rw [Nat.one_mul]; rw [S64] at h1 h2; exact natAbs_le_of h1 h2)
    rw [sgn_of_natAbs] at this
    exact this
theorem sgn_xor (a b : Bool) (m k : Nat) : sgn (a != b) (m * k) = sgn a m * sgn b k := by
  unfold sgn
  cases a <;> cases b <;> simp [Int.natCast_mul, Int.neg_mul, Int.mul_neg]
theorem sgn_val {x : UInt64} {a : Bool} {m : Nat} {e : Int} (h : decode x = .fin a m e) : sgn a (val x).natAbs = val x := by
  rw [val_natAbs h, val_eq h]
theorem rnd_mul {x y : UInt64} {X Y : Int} (hx : Is x X) (hy : Is y Y) (hb : (X * Y).natAbs ≤ 2 ^ 1074 * 2 ^ 1080) : ∃ Z, Rnd (mul x y) (X * Y) SS Z := by
  obtain ⟨a, m, e, hdx⟩ := fin_decode hx.fin
  obtain ⟨b, k, f, hdy⟩ := fin_decode hy.fin
  have h := mul_right hdx hdy
  have e1 := sgn_val hdx
  have e2 := sgn_val hdy
  rw [hx.vl] at h e1
  rw [hy.vl] at h e2
  have := rnd_of_right h (Nat.two_pow_pos _) (by rw [← Int.natAbs_mul]; exact hb)
  rw [sgn_xor, e1, e2] at this
  exact this
theorem rnd_div {x y : UInt64} {X Y : Int} (hx : Is x X) (hy : Is y Y) (hY : 0 < Y) (hb : X.natAbs * 2 ^ 1074 ≤ Y.natAbs * 2 ^ 1080) : ∃ Z, Rnd (div x y) (X * SS) Y Z := by
  obtain ⟨a, m, e, hdx⟩ := fin_decode hx.fin
  obtain ⟨b, k, f, hdy⟩ := fin_decode hy.fin
  have hv := val_eq hdy
  rw [hy.vl] at hv
  have hbf : b = false := by
    cases b
    · rfl
    · simp only [sgn, if_true] at hv; omega
  have hk : k ≠ 0 := fun e0 => by
    rw [e0, Nat.zero_mul, hbf] at hv
    simp [sgn] at hv
    omega
  have h := div_right hdx hdy hk
  have e1 := sgn_val hdx
  rw [hx.vl] at h e1
  rw [hy.vl] at h
  have := rnd_of_right h (by omega) hb
  rw [hbf, sgn_xor, e1] at this
  have e3 : sgn false (2 ^ 1074) = SS := rfl
  have e4 : (Y.natAbs : Int) = Y := by omega
  rw [e3, e4] at this
  exact this
theorem rnd_frac {n d : Nat} (hd : 0 < d) (hb : n * 2 ^ 1074 ≤ d * 2 ^ 1080) : ∃ Z, Rnd (ofFrac false n d) ((n : Int) * SS) (d : Int) Z := by
  have h := ofFrac_right (neg := false) (n := n) (d := d) (W := n * 2 ^ 1074) (D := d) hd rfl hd
  have := rnd_of_right h hd hb
  have e : sgn false (n * 2 ^ 1074) = (n : Int) * SS := by
    unfold SS
    simp only [sgn, Bool.false_eq_true, if_false]
    rw [Int.natCast_mul]
  rw [e] at this
  exact this
end Mine
end
section
open PySem PySem.W PySem.Calls PySem.Spec PyProof.Rows
set_option Elab.async false
namespace Mine
open PySem.Float64
set_option maxRecDepth 100000
def HH : Int := ((2 ^ 1070 : Nat) : Int)
theorem SH : SS = 16 * HH := by
  unfold SS HH
  have e : (2 : Nat) ^ 1074 = 16 * 2 ^ 1070 := by rw [show (16 : Nat) = 2 ^ 4 by decide, ← Nat.pow_add]
  rw [e, Int.natCast_mul]; rfl
theorem HU : HH = 8796093022208 * UU := by
  have h1 := SH
  have h2 := SU
  omega
theorem HH_pos : 0 < HH := by
  have := UU_pos
  have := HU
  omega
theorem rep_h {c : Int} (h0 : 0 ≤ c) (h1 : c < 1000000) : Rep (c * HH) := by
  obtain ⟨q, rfl⟩ : ∃ q : Nat, c = q := ⟨c.toNat, by omega⟩
  exact rep_sixteenth (by omega)
theorem rep_0 : Rep 0 := ⟨0, by rw [V_zero]; rfl⟩
theorem Rnd.scale {r : UInt64} {W D Z h : Int} (hp : 0 < h) (x : Rnd r (h * W) (h * D) Z) : Rnd r W D Z := by
  refine ⟨x.is, ?_, ?_, fun b hb hw => x.up b hb ?_, fun b hb hw => x.dn b hb ?_⟩
  · refine Int.le_of_mul_le_mul_left (a := h) ?_ hp
    have := x.lo
    rw [Int.mul_sub, ← Int.mul_assoc, ← Int.mul_assoc]
    exact this
  · refine Int.le_of_mul_le_mul_left (a := h) ?_ hp
    have := x.hi
    rw [Int.mul_sub, ← Int.mul_assoc, ← Int.mul_assoc]
    exact this
  · rw [Int.mul_assoc]
    exact Int.mul_le_mul_of_nonneg_left hw (Int.le_of_lt hp)
  · rw [Int.mul_assoc]
    exact Int.mul_le_mul_of_nonneg_left hw (Int.le_of_lt hp)
theorem mul_h {x y : UInt64} {c Y : Int} (hx : Is x (c * HH)) (hy : Is y Y) (hc0 : 0 ≤ c) (hc1 : c ≤ 1024) (hy0 : 0 ≤ Y) (hy1 : Y ≤ SS) : ∃ Z, Rnd (mul x y) (c * Y) 16 Z := by
  have hb : (c * HH * Y).natAbs ≤ 2 ^ 1074 * 2 ^ 1080 := by
    have h1 : c * HH * Y ≤ (1024 * HH) * SS := Int.mul_le_mul (Int.mul_le_mul_of_nonneg_right hc1 (Int.le_of_lt HH_pos)) hy1 hy0 (Int.mul_nonneg (by decide) (Int.le_of_lt HH_pos))
    have h2 : 0 ≤ c * HH * Y := Int.mul_nonneg (Int.mul_nonneg hc0 (Int.le_of_lt HH_pos)) hy0
    have h3 : 1024 * HH = ((2 ^ 1080 : Nat) : Int) := by
      rw [← S64, SH]; omega
    rw [h3] at h1
    unfold SS at h1
    rw [← Int.natCast_mul] at h1
    rw [Nat.mul_comm]
    omega
  obtain ⟨Z, hZ⟩ := rnd_mul hx hy hb
  refine ⟨Z, Rnd.scale (h := HH) HH_pos ?_⟩
  have e1 : c * HH * Y = HH * (c * Y) := by rw [Int.mul_comm c, Int.mul_assoc]
  rw [e1, SH, Int.mul_comm 16] at hZ
  exact hZ
theorem mul_six {x : UInt64} {y : UInt64} {X : Int} (hx : Is x X) (hy : Is y (6 * SS)) (hx0 : 0 ≤ X) (hx1 : X ≤ 8 * SS) : ∃ Z, Rnd (mul x y) (6 * X) 1 Z := by
  have hS := SS_pos
  have hb : (X * (6 * SS)).natAbs ≤ 2 ^ 1074 * 2 ^ 1080 := by
    have h1 : X * (6 * SS) ≤ (64 * SS) * SS := by
      have := Int.mul_le_mul (a := X) (b := 6 * SS) (c := 8 * SS) (d := 6 * SS) hx1 (Int.le_refl _) (by omega) (by omega)
      refine Int.le_trans this ?_
      rw [show 8 * SS * (6 * SS) = (48 * SS) * SS by rw [Int.mul_comm (8 * SS), Int.mul_assoc, Int.mul_comm SS, ← Int.mul_assoc, ← Int.mul_assoc]; rfl]
      exact Int.mul_le_mul_of_nonneg_right (by omega) (by omega)
    have h2 : 0 ≤ X * (6 * SS) := Int.mul_nonneg hx0 (by omega)
    rw [S64] at h1
    unfold SS at h1
    rw [← Int.natCast_mul] at h1
    rw [Nat.mul_comm]
    unfold SS at h2 ⊢
    omega
  obtain ⟨Z, hZ⟩ := rnd_mul hx hy hb
  refine ⟨Z, Rnd.scale (h := SS) hS ?_⟩
  have e1 : X * (6 * SS) = SS * (6 * X) := by rw [Int.mul_comm, Int.mul_comm 6, Int.mul_assoc]
  rw [e1] at hZ
  rw [Int.mul_one]
  exact hZ
theorem div_h {x y : UInt64} {X d : Int} (hx : Is x X) (hy : Is y (d * HH)) (hd : 0 < d) (hb : X.natAbs ≤ (4 * d * HH).natAbs) : ∃ Z, Rnd (div x y) (16 * X) d Z := by
  have hH := HH_pos
  have hdH : 0 < d * HH := Int.mul_pos hd hH
  have hb2 : X.natAbs * 2 ^ 1074 ≤ (d * HH).natAbs * 2 ^ 1080 := by
    have e : (2 : Nat) ^ 1080 = 64 * 2 ^ 1074 := by rw [show (64 : Nat) = 2 ^ 6 by decide, ← Nat.pow_add]
    rw [e, ← Nat.mul_assoc]
    refine Nat.mul_le_mul_right _ ?_
    rw [Int.mul_assoc] at hb
    omega
  obtain ⟨Z, hZ⟩ := rnd_div hx hy hdH hb2
  refine ⟨Z, Rnd.scale (h := HH) hH ?_⟩
  have e1 : X * SS = HH * (16 * X) := by rw [SH, Int.mul_comm X, Int.mul_comm 16, Int.mul_assoc]
  rw [e1, Int.mul_comm d] at hZ
  exact hZ
theorem six_is : Is six (6 * SS) := ⟨by decide +kernel, by decide +kernel⟩
theorem one_is : Is Mine.one SS := ⟨by decide +kernel, by decide +kernel⟩
theorem two_is : Is two (2 * SS) := ⟨by decide +kernel, by decide +kernel⟩
theorem four_is : Is four (4 * SS) := ⟨by decide +kernel, by decide +kernel⟩
theorem cmp_is {x y : UInt64} {X Y : Int} (hx : Is x X) (hy : Is y Y) : cmp x y = some (compare X Y) := by
  obtain ⟨a, m, e, hdx⟩ := fin_decode hx.fin
  obtain ⟨b, k, f, hdy⟩ := fin_decode hy.fin
  rw [cmp_right hdx hdy, hx.vl, hy.vl]
theorem cmp_eq_is {x y : UInt64} {X Y : Int} (hx : Is x X) (hy : Is y Y) : (cmp x y == some Ordering.eq) = decide (X = Y) := by
  rw [cmp_is hx hy]
  rcases Int.lt_trichotomy X Y with h | h | h
  · rw [Int.compare_eq_lt.mpr h, decide_eq_false (by omega)]; rfl
  · subst h; simp
  · rw [Int.compare_eq_gt.mpr h, decide_eq_false (by omega)]; rfl
theorem cmp_lt_is {x y : UInt64} {X Y : Int} (hx : Is x X) (hy : Is y Y) : (cmp x y == some Ordering.lt) = decide (X < Y) := by
  rw [cmp_is hx hy]
  rcases Int.lt_trichotomy X Y with h | h | h
  · rw [Int.compare_eq_lt.mpr h, decide_eq_true h]; rfl
  · subst h; simp
  · rw [Int.compare_eq_gt.mpr h, decide_eq_false (by omega)]; rfl
theorem cmp_gt_is {x y : UInt64} {X Y : Int} (hx : Is x X) (hy : Is y Y) : (cmp x y == some Ordering.gt) = decide (Y < X) := by
  rw [cmp_is hx hy]
  rcases Int.lt_trichotomy X Y with h | h | h
  · rw [Int.compare_eq_lt.mpr h, decide_eq_false (by omega)]; rfl
  · subst h; simp
  · rw [Int.compare_eq_gt.mpr h, decide_eq_true h]; rfl
theorem isZero_is {x : UInt64} {X : Int} (hx : Is x X) : isZero x = decide (X = 0) := by
  obtain ⟨a, m, e, hd⟩ := fin_decode hx.fin
  have hv := val_natAbs hd
  rw [hx.vl] at hv
  unfold isZero
  rw [hd]
  cases m with
  | zero => rw [Nat.zero_mul] at hv; rw [decide_eq_true (by omega)]; rfl
  | succ m =>
    have := Nat.mul_pos (Nat.succ_pos m) (Nat.two_pow_pos (e + 1074).toNat)
    rw [Nat.succ_eq_add_one, ← hv] at this
    rw [decide_eq_false (by omega)]; rfl
theorem notInf_is {x : UInt64} {X : Int} (hx : Is x X) : isInf x = false := by
  obtain ⟨a, m, e, hd⟩ := fin_decode hx.fin
  unfold isInf
  rw [hd]
theorem maxF_is {a b c : UInt64} {A B C M : Int} (ha : Is a A) (hb : Is b B) (hc : Is c C) (h1 : A ≤ M) (h2 : B ≤ M) (h3 : C ≤ M) (h : M = A ∨ M = B ∨ M = C) : Is (maxF a b c) M := by
  unfold maxF
  rw [cmp_gt_is hb ha, cmp_gt_is hc hb, cmp_gt_is hc ha]
  simp only [decide_eq_true_eq]
  split <;> split
  · rw [show M = C by omega]; exact hc
  · rw [show M = B by omega]; exact hb
  · rw [show M = C by omega]; exact hc
  · rw [show M = A by omega]; exact ha
theorem minF_is {a b c : UInt64} {A B C M : Int} (ha : Is a A) (hb : Is b B) (hc : Is c C) (h1 : M ≤ A) (h2 : M ≤ B) (h3 : M ≤ C) (h : M = A ∨ M = B ∨ M = C) : Is (minF a b c) M := by
  unfold minF
  rw [cmp_lt_is hb ha, cmp_lt_is hc hb, cmp_lt_is hc ha]
  simp only [decide_eq_true_eq]
  split <;> split
  · rw [show M = C by omega]; exact hc
  · rw [show M = B by omega]; exact hb
  · rw [show M = C by omega]; exact hc
  · rw [show M = A by omega]; exact ha
/-- the unit's digits: what `trunc` and a remainder by one make of a value -/
theorem trunc_is {x : UInt64} {X : Int} (hx : Is x X) (h0 : 0 ≤ X) : SS * Flt.toInt truncOf x ≤ X ∧ X < SS * (Flt.toInt truncOf x + 1) := by
  obtain ⟨a, m, e, hd⟩ := fin_decode hx.fin
  have hv := val_eq hd
  rw [hx.vl] at hv
  have he := decode_ge hd
  have hS := SS_pos
  rw [Flt.toInt_fin hd]
  cases a with
  | true =>
    have hpos := Nat.two_pow_pos (e + 1074).toNat
    have hm : m = 0 := by
      rcases Nat.eq_zero_or_pos m with h | h
      · exact h
      · have := Nat.mul_pos h hpos
        simp only [sgn, if_true] at hv
        omega
    subst hm
    have h2 : truncOf true 0 e = 0 := by
      unfold truncOf ceilOf floorOf
      simp [sgn]
    rw [h2]
    simp [sgn] at hv
    omega
  | false =>
    simp only [sgn, Bool.false_eq_true, if_false] at hv
    unfold truncOf floorOf
    simp only [sgn, Bool.false_eq_true, if_false]
    split
    · rename_i h
      have e1 : (m * 2 ^ (e + 1074).toNat : Nat) = 2 ^ 1074 * (m * 2 ^ e.toNat) := by
        rw [show (e + 1074).toNat = 1074 + e.toNat by omega, Nat.pow_add, Nat.mul_left_comm]
      have e2 : X = SS * ((m : Int) * 2 ^ e.toNat) := by
        rw [hv, e1]
        unfold SS
        rw [Int.natCast_mul, Int.natCast_mul]
        congr 1
      rw [e2]
      refine ⟨Int.le_refl _, ?_⟩
      rw [Int.mul_add]
      omega
    · rename_i h
      have hk : (2 : Int) ^ (-e).toNat = ((2 ^ (-e).toNat : Nat) : Int) := by rw [Int.natCast_pow]; rfl
      have hp : (0 : Int) < 2 ^ (-e).toNat := by rw [hk]; exact Int.ofNat_lt.mpr (Nat.two_pow_pos _)
      rw [Int.fdiv_eq_ediv_of_nonneg _ (Int.le_of_lt hp)]
      have hS2 : SS = 2 ^ (-e).toNat * ((2 ^ (e + 1074).toNat : Nat) : Int) := by
        unfold SS
        rw [hk, ← Int.natCast_mul, ← Nat.pow_add]
        congr 2
        omega
      have hX : X = (m : Int) * ((2 ^ (e + 1074).toNat : Nat) : Int) := by rw [hv, Int.natCast_mul]
      have hw : (0 : Int) < ((2 ^ (e + 1074).toNat : Nat) : Int) := Int.ofNat_lt.mpr (Nat.two_pow_pos _)
      rw [hS2, hX]
      generalize ((2 ^ (e + 1074).toNat : Nat) : Int) = u at *
      generalize (2 : Int) ^ (-e).toNat = p at *
      have d1 := Int.mul_ediv_self_le (x := (m : Int)) (k := p) (by omega)
      have d2 := Int.lt_mul_ediv_self_add (x := (m : Int)) (k := p) hp
      constructor
      · rw [Int.mul_assoc, Int.mul_comm u, ← Int.mul_assoc]
        exact Int.mul_le_mul_of_nonneg_right d1 (Int.le_of_lt hw)
      · rw [Int.mul_assoc, Int.mul_comm u, ← Int.mul_assoc]
        refine Int.mul_lt_mul_of_pos_right ?_ hw
        rw [Int.mul_add]
        omega
end Mine
end
section
open PySem PySem.W PySem.Calls PySem.Spec PyProof.Rows
set_option Elab.async false
namespace Mine
open PySem.Float64
set_option maxRecDepth 100000
theorem Rnd.exact {r : UInt64} {W D Z b : Int} (x : Rnd r W D Z) (hb : Rep b) (h : W = D * b) : Is r b := by
  have h1 := x.up b hb (by omega)
  have h2 := x.dn b hb (by omega)
  rw [show b = Z by omega]
  exact x.is
theorem S16 : Rep (16 * HH) := rep_h (by decide) (by decide)
theorem colour {f s v : UInt64} {a b F : Int} (ha0 : 1 ≤ a) (ha1 : a ≤ 4) (hb0 : 1 ≤ b) (hb1 : b ≤ 4) (hf : Is f F) (h0 : 0 ≤ F) (h1 : F ≤ SS) (hs : Is s (4 * a * HH)) (hv : Is v (4 * b * HH)) :
    ∃ C, Is (mul v (sub Mine.one (mul s f))) C ∧ b * (4 - a) * HH ≤ C ∧ C ≤ 4 * b * HH ∧ 16 * (4 * b * HH - C) - a * b * F ≤ 48 * UU ∧ a * b * F - 16 * (4 * b * HH - C) ≤ 48 * UU := by
  have hH := HH_pos
  have hU := UU_pos
  have eH := HU
  have eS := SH
  obtain ⟨Z1, r1⟩ := mul_h hs hf (by omega) (by omega) h0 h1
  have a1 := r1.dn 0 rep_0
  have a2 := r1.up (4 * a * HH) (rep_h (by omega) (by omega))
  have a3 := r1.lo
  have a4 := r1.hi
  have hz1 : 0 ≤ Z1 ∧ Z1 ≤ 4 * a * HH := by
    have ha : a = 1 ∨ a = 2 ∨ a = 3 ∨ a = 4 := by omega
    rcases ha with rfl | rfl | rfl | rfl <;> constructor <;> first | (apply a1; omega) | (apply a2; omega)
  have hz2 : 4 * a * HH ≤ 16 * HH := by
    have ha : a = 1 ∨ a = 2 ∨ a = 3 ∨ a = 4 := by omega
    rcases ha with rfl | rfl | rfl | rfl <;> omega
  obtain ⟨Z2, r2⟩ := rnd_sub one_is r1.is (by omega) (by omega)
  have b1 := r2.dn ((16 - 4 * a) * HH) (rep_h (by omega) (by omega))
  have b2 := r2.up (16 * HH) S16 (by omega)
  have b3 := r2.lo
  have b4 := r2.hi
  have hz3 : (16 - 4 * a) * HH ≤ Z2 ∧ 0 ≤ (16 - 4 * a) * HH := by
    have ha : a = 1 ∨ a = 2 ∨ a = 3 ∨ a = 4 := by omega
    rcases ha with rfl | rfl | rfl | rfl <;> exact ⟨b1 (by omega), by omega⟩
  obtain ⟨Z3, r3⟩ := mul_h hv r2.is (by omega) (by omega) (by omega) (by omega)
  have hc0 : 0 ≤ b * (4 - a) ∧ b * (4 - a) < 1000000 := by
    have ha : a = 1 ∨ a = 2 ∨ a = 3 ∨ a = 4 := by omega
    rcases ha with rfl | rfl | rfl | rfl <;> omega
  have c1 := r3.dn (b * (4 - a) * HH) (rep_h hc0.1 hc0.2)
  have c2 := r3.up (4 * b * HH) (rep_h (by omega) (by omega))
  have c3 := r3.lo
  have c4 := r3.hi
  refine ⟨Z3, r3.is, ?_⟩
  clear r1 r2 r3 a1 a2 b1 hf hs hv hc0
  have ha : a = 1 ∨ a = 2 ∨ a = 3 ∨ a = 4 := by omega
  have hb : b = 1 ∨ b = 2 ∨ b = 3 ∨ b = 4 := by omega
  rcases ha with rfl | rfl | rfl | rfl <;> rcases hb with rfl | rfl | rfl | rfl <;> (
    have d1 := c1 (by omega)
    have d2 := c2 (by omega)
    clear c1 c2
    refine ⟨d1, d2, ?_, ?_⟩ <;> omega)
structure RatF (a b C Z : Int) : Prop where
  lo : 0 ≤ Z
  hi : Z ≤ SS
  top : C = 4 * b * HH → Z = 0
  bot : C = b * (4 - a) * HH → Z = SS
  e1 : 16 * (4 * b * HH - C) - a * b * Z ≤ (16 + a * b) * UU
  e2 : a * b * Z - 16 * (4 * b * HH - C) ≤ (16 + a * b) * UU
theorem range_is {M m : UInt64} {a b : Int} (ha0 : 1 ≤ a) (ha1 : a ≤ 4) (hb0 : 1 ≤ b) (hb1 : b ≤ 4) (hM : Is M (4 * b * HH)) (hm : Is m (b * (4 - a) * HH)) : Is (sub M m) (a * b * HH) := by
  have hH := HH_pos
  have eS := SH
  have ha : a = 1 ∨ a = 2 ∨ a = 3 ∨ a = 4 := by omega
  have hb : b = 1 ∨ b = 2 ∨ b = 3 ∨ b = 4 := by omega
  have hk : 0 ≤ a * b ∧ a * b < 1000000 := by rcases ha with rfl | rfl | rfl | rfl <;> omega
  have e : 4 * b * HH - b * (4 - a) * HH = 1 * (a * b * HH) ∧ a * b * HH ≤ 64 * SS ∧ 0 ≤ a * b * HH := by
    rcases ha with rfl | rfl | rfl | rfl <;> rcases hb with rfl | rfl | rfl | rfl <;> omega
  obtain ⟨Z, r⟩ := rnd_sub hM hm (by omega) (by omega)
  exact r.exact (rep_h hk.1 hk.2) e.1
theorem ratio {M m c : UInt64} {a b C : Int} (ha0 : 1 ≤ a) (ha1 : a ≤ 4) (hb0 : 1 ≤ b) (hb1 : b ≤ 4) (hM : Is M (4 * b * HH)) (hm : Is m (b * (4 - a) * HH)) (hc : Is c C) (h0 : b * (4 - a) * HH ≤ C) (h1 : C ≤ 4 * b * HH) :
    ∃ Z, Is (div (sub M c) (sub M m)) Z ∧ RatF a b C Z := by
  have hH := HH_pos
  have hU := UU_pos
  have eH := HU
  have eS := SH
  have ha : a = 1 ∨ a = 2 ∨ a = 3 ∨ a = 4 := by omega
  have hb : b = 1 ∨ b = 2 ∨ b = 3 ∨ b = 4 := by omega
  have hk : 0 < a * b ∧ a * b < 1000000 := by rcases ha with rfl | rfl | rfl | rfl <;> omega
  have e : 4 * b * HH - b * (4 - a) * HH = a * b * HH ∧ a * b * HH ≤ 16 * HH ∧ 0 ≤ a * b * HH := by
    rcases ha with rfl | rfl | rfl | rfl <;> rcases hb with rfl | rfl | rfl | rfl <;> omega
  obtain ⟨Z4, r4⟩ := rnd_sub hM hc (by omega) (by omega)
  have b1 := r4.dn 0 rep_0 (by omega)
  have b2 := r4.up (a * b * HH) (rep_h (by omega) (by omega)) (by omega)
  have b3 := r4.lo
  have b4 := r4.hi
  have b5 := r4.up 0 rep_0
  have b6 := r4.dn (a * b * HH) (rep_h (by omega) (by omega))
  have e4 : 4 * (a * b) * HH = 4 * (a * b * HH) := by rw [Int.mul_assoc]
  obtain ⟨Z5, r5⟩ := div_h r4.is (range_is ha0 ha1 hb0 hb1 hM hm) hk.1 (by rw [e4]; omega)
  have c1 := r5.dn 0 rep_0 (by omega)
  have e5 : a * b * (16 * HH) = 16 * (a * b * HH) := by rw [Int.mul_left_comm]
  have c2 := r5.up (16 * HH) S16 (by omega)
  have c3 := r5.lo
  have c4 := r5.hi
  have c5 := r5.up 0 rep_0
  have c6 := r5.dn (16 * HH) S16
  refine ⟨Z5, r5.is, c1, by omega, fun h => ?_, fun h => ?_, ?_, ?_⟩
  · have d1 := b5 (by omega)
    have d2 := c5 (by omega)
    omega
  · have d1 := b6 (by omega)
    have d2 := c6 (by omega)
    omega
  · rw [Int.add_mul]; omega
  · rw [Int.add_mul]; omega
/-- the ratio of a colour made of a fraction is that fraction, nearly -/
theorem rat_near {a b C Z F : Int} (ha0 : 1 ≤ a) (ha1 : a ≤ 4) (hb0 : 1 ≤ b) (hb1 : b ≤ 4) (h : RatF a b C Z) (h1 : 16 * (4 * b * HH - C) - a * b * F ≤ 48 * UU) (h2 : a * b * F - 16 * (4 * b * HH - C) ≤ 48 * UU) :
    Z - F ≤ 65 * UU ∧ F - Z ≤ 65 * UU := by
  have hU := UU_pos
  have e1 := h.e1
  have e2 := h.e2
  have ha : a = 1 ∨ a = 2 ∨ a = 3 ∨ a = 4 := by omega
  have hb : b = 1 ∨ b = 2 ∨ b = 3 ∨ b = 4 := by omega
  rcases ha with rfl | rfl | rfl | rfl <;> rcases hb with rfl | rfl | rfl | rfl <;> omega
theorem hue6_is {r g b' : UInt64} {a b R G B : Int} (ha0 : 1 ≤ a) (ha1 : a ≤ 4) (hb0 : 1 ≤ b) (hb1 : b ≤ 4) (hr : Is r R) (hg : Is g G) (hb : Is b' B)
    (r0 : b * (4 - a) * HH ≤ R) (r1 : R ≤ 4 * b * HH) (g0 : b * (4 - a) * HH ≤ G) (g1 : G ≤ 4 * b * HH) (c0 : b * (4 - a) * HH ≤ B) (c1 : B ≤ 4 * b * HH)
    (hmx : 4 * b * HH = R ∨ 4 * b * HH = G ∨ 4 * b * HH = B) (hmn : b * (4 - a) * HH = R ∨ b * (4 - a) * HH = G ∨ b * (4 - a) * HH = B) :
    ((Float64.cmp (minF r g b') (maxF r g b') == some Ordering.eq) = false ∧ isZero (maxF r g b') = false ∧ isZero (sub (maxF r g b') (minF r g b')) = false) ∧
    ∃ Rc Gc Bc H, RatF a b R Rc ∧ RatF a b G Gc ∧ RatF a b B Bc ∧ Is (hue6 r g b') H ∧
      ((R = 4 * b * HH ∧ H - (Bc - Gc) ≤ UU ∧ (Bc - Gc) - H ≤ UU ∧ (0 ≤ Bc - Gc → 0 ≤ H) ∧ -SS ≤ H) ∨
       (R ≠ 4 * b * HH ∧ G = 4 * b * HH ∧ H - (2 * SS + Rc - Bc) ≤ 2 * UU ∧ (2 * SS + Rc - Bc) - H ≤ 2 * UU) ∨
       (R ≠ 4 * b * HH ∧ G ≠ 4 * b * HH ∧ H - (4 * SS + Gc - Rc) ≤ 2 * UU ∧ (4 * SS + Gc - Rc) - H ≤ 2 * UU)) := by
  have hH := HH_pos
  have hU := UU_pos
  have eH := HU
  have eS := SH
  have hM := maxF_is hr hg hb r1 g1 c1 hmx
  have hm := minF_is hr hg hb r0 g0 c0 hmn
  have hk : b * (4 - a) * HH < 4 * b * HH ∧ 0 < a * b * HH ∧ 0 ≤ b * (4 - a) * HH := by
    have ha : a = 1 ∨ a = 2 ∨ a = 3 ∨ a = 4 := by omega
    have hb : b = 1 ∨ b = 2 ∨ b = 3 ∨ b = 4 := by omega
    rcases ha with rfl | rfl | rfl | rfl <;> rcases hb with rfl | rfl | rfl | rfl <;> omega
  refine ⟨⟨?_, ?_, ?_⟩, ?_⟩
  · rw [cmp_eq_is hm hM]; exact decide_eq_false (by omega)
  · rw [isZero_is hM]; exact decide_eq_false (by omega)
  · rw [isZero_is (range_is ha0 ha1 hb0 hb1 hM hm)]; exact decide_eq_false (by omega)
  obtain ⟨Rc, hRc, fR⟩ := ratio ha0 ha1 hb0 hb1 hM hm hr r0 r1
  obtain ⟨Gc, hGc, fG⟩ := ratio ha0 ha1 hb0 hb1 hM hm hg g0 g1
  obtain ⟨Bc, hBc, fB⟩ := ratio ha0 ha1 hb0 hb1 hM hm hb c0 c1
  have x1 := fR.lo
  have x2 := fR.hi
  have x3 := fG.lo
  have x4 := fG.hi
  have x5 := fB.lo
  have x6 := fB.hi
  refine ⟨Rc, Gc, Bc, ?_⟩
  unfold hue6
  rw [cmp_eq_is hr hM, cmp_eq_is hg hM]
  by_cases h1 : R = 4 * b * HH
  · rw [decide_eq_true h1, if_pos rfl]
    obtain ⟨H, h⟩ := rnd_sub hBc hGc (by omega) (by omega)
    have y1 := h.lo
    have y2 := h.hi
    have y3 := h.dn 0 rep_0
    have y4 := h.dn (-(16 * HH)) (rep_neg S16) (by omega)
    exact ⟨H, fR, fG, fB, h.is, .inl ⟨h1, by omega, by omega, fun z => y3 (by omega), by omega⟩⟩
  · rw [decide_eq_false h1, if_neg (by decide)]
    by_cases h2 : G = 4 * b * HH
    · rw [decide_eq_true h2, if_pos rfl]
      obtain ⟨A, hA⟩ := rnd_add two_is hRc (by omega) (by omega)
      have y1 := hA.lo
      have y2 := hA.hi
      obtain ⟨H, h⟩ := rnd_sub hA.is hBc (by omega) (by omega)
      have y3 := h.lo
      have y4 := h.hi
      exact ⟨H, fR, fG, fB, h.is, .inr (.inl ⟨h1, h2, by omega, by omega⟩)⟩
    · rw [decide_eq_false h2, if_neg (by decide)]
      obtain ⟨A, hA⟩ := rnd_add four_is hGc (by omega) (by omega)
      have y1 := hA.lo
      have y2 := hA.hi
      obtain ⟨H, h⟩ := rnd_sub hA.is hRc (by omega) (by omega)
      have y3 := h.lo
      have y4 := h.hi
      exact ⟨H, fR, fG, fB, h.is, .inr (.inr ⟨h1, h2, by omega, by omega⟩)⟩
theorem decode_one : decode Mine.one = .fin false (2 ^ 52) (-52) := by
  have e : UInt64.toNat Mine.one = 4607182418800017408 := by decide
  unfold decode
  rw [e]
  simp
theorem fmod_is {x : UInt64} {X : Int} (hx : Is x X) (h0 : -SS < X) (h1 : X < SS) : Is (fmod x Mine.one) X := by
  obtain ⟨a, m, e, hd⟩ := fin_decode hx.fin
  have he := decode_ge hd
  have hv := val_natAbs hd
  rw [hx.vl] at hv
  have hsv := sgn_val hd
  rw [hx.vl] at hsv
  have hlt : X.natAbs < 2 ^ 1074 := by
    unfold SS at h0 h1
    omega
  unfold fmod
  rw [hd, decode_one]
  simp only [align]
  rw [if_neg (by decide)]
  simp only [sgn, Bool.false_eq_true, if_false, Int.toNat_natCast]
  have k1 : m * 2 ^ (e - min e (-52)).toNat * 2 ^ (min e (-52) + 1074).toNat = X.natAbs := by
    rw [hv, Nat.mul_assoc, ← Nat.pow_add]
    congr 2
    omega
  have k2 : 2 ^ 52 * 2 ^ (-52 - min e (-52)).toNat * 2 ^ (min e (-52) + 1074).toNat = 2 ^ 1074 := by
    rw [Nat.mul_assoc, ← Nat.pow_add, ← Nat.pow_add]
    congr 1
    omega
  have hpos := Nat.two_pow_pos (min e (-52) + 1074).toNat
  have hmod : m * 2 ^ (e - min e (-52)).toNat % (2 ^ 52 * 2 ^ (-52 - min e (-52)).toNat) = m * 2 ^ (e - min e (-52)).toNat := by
    refine Nat.mod_eq_of_lt (Nat.lt_of_mul_lt_mul_right (a := 2 ^ (min e (-52) + 1074).toNat) ?_)
    rw [k1, k2]
    exact hlt
  rw [hmod]
  have hr := ofBin_right (neg := a) (M := m * 2 ^ (e - min e (-52)).toNat) (g := min e (-52)) (by omega)
  rw [k1] at hr
  obtain ⟨Z, r⟩ := rnd_of_right hr (by decide) (by
    rw [Nat.one_mul]
    exact Nat.le_trans (Nat.le_of_lt hlt) (Nat.pow_le_pow_right (by decide) (by decide)))
  rw [hsv] at r
  exact r.exact (rep_of hx) (by show X = (1 : Int) * X; omega)
theorem mod1_pos {x : UInt64} {X : Int} (hx : Is x X) (h0 : 0 ≤ X) (h1 : X < SS) : Is (divmod x Mine.one).2 X := by
  have hm := fmod_is hx (by omega) h1
  have z0 := zero_is false
  have hz := isZero_is hm
  unfold divmod
  simp only
  by_cases h : X = 0
  · rw [hz, decide_eq_true h, if_pos rfl]
    subst h
    show Is (copysign (zero false) Mine.one) 0
    exact ⟨by decide +kernel, by decide +kernel⟩
  · rw [hz, decide_eq_false h, if_neg (by decide)]
    unfold Float64.lt
    rw [cmp_lt_is one_is z0, cmp_lt_is hm z0, decide_eq_false (show ¬ SS < 0 by omega), decide_eq_false (show ¬ X < 0 by omega), if_neg (by decide)]
    exact hm
theorem mod1_neg {x : UInt64} {X : Int} (hx : Is x X) (h0 : -SS < X) (h1 : X < 0) : ∃ Z, Rnd (divmod x Mine.one).2 (X + SS) 1 Z := by
  have hS := SS_pos
  have hm := fmod_is hx h0 (by omega)
  have z0 := zero_is false
  have hz := isZero_is hm
  unfold divmod
  simp only
  rw [hz, decide_eq_false (by omega), if_neg (by decide)]
  unfold Float64.lt
  rw [cmp_lt_is one_is z0, cmp_lt_is hm z0, decide_eq_false (show ¬ SS < 0 by omega), decide_eq_true h1, if_pos (by decide)]
  exact rnd_add hm one_is (by omega) (by omega)
theorem div_six {x : UInt64} {X : Int} (hx : Is x X) (h0 : -(6 * SS) ≤ X) (h1 : X ≤ 6 * SS) : ∃ Z, Rnd (div x six) X 6 Z := by
  have hS := SS_pos
  obtain ⟨Z, r⟩ := rnd_div hx six_is (by omega) (by
    have e : (2 : Nat) ^ 1080 = 64 * 2 ^ 1074 := by rw [show (64 : Nat) = 2 ^ 6 by decide, ← Nat.pow_add]
    rw [e, ← Nat.mul_assoc]
    exact Nat.mul_le_mul_right _ (by omega))
  refine ⟨Z, Rnd.scale (h := SS) hS ?_⟩
  rw [Int.mul_comm SS X, Int.mul_comm SS 6]
  exact r
theorem hueF_pos {r g b : UInt64} {H : Int} (h : Is (hue6 r g b) H) (h0 : 0 ≤ H) (h1 : H ≤ 6 * SS - 100 * UU) : ∃ Z, Is (hueF r g b) Z ∧ 6 * Z - H ≤ 6 * UU ∧ H - 6 * Z ≤ 6 * UU := by
  have hU := UU_pos
  have eS := SU
  obtain ⟨Y, y⟩ := div_six h (by omega) (by omega)
  have y1 := y.lo
  have y2 := y.hi
  have y3 := y.dn 0 rep_0 (by omega)
  exact ⟨Y, mod1_pos y.is y3 (by omega), by omega, by omega⟩
theorem hueF_neg {r g b : UInt64} {H : Int} (h : Is (hue6 r g b) H) (h0 : -SS ≤ H) (h1 : H ≤ -(100 * UU)) : ∃ Z, Is (hueF r g b) Z ∧ 6 * Z - (H + 6 * SS) ≤ 12 * UU ∧ (H + 6 * SS) - 6 * Z ≤ 12 * UU := by
  have hU := UU_pos
  have eS := SU
  obtain ⟨Y, y⟩ := div_six h (by omega) (by omega)
  have y1 := y.lo
  have y2 := y.hi
  obtain ⟨Z, z⟩ := mod1_neg y.is (by omega) (by omega)
  have z1 := z.lo
  have z2 := z.hi
  exact ⟨Z, z.is, by omega, by omega⟩
end Mine
end
section
open PySem PySem.W PySem.Calls PySem.Spec PyProof.Rows
set_option Elab.async false
namespace Mine
open PySem.Float64
set_option maxRecDepth 100000
theorem sub_one_s {s : UInt64} {a : Int} (ha0 : 1 ≤ a) (ha1 : a ≤ 4) (hs : Is s (4 * a * HH)) : Is (sub Mine.one s) ((16 - 4 * a) * HH) := by
  have hH := HH_pos
  have eS := SH
  have e : SS - 4 * a * HH = 1 * ((16 - 4 * a) * HH) ∧ SS - 4 * a * HH ≤ 64 * SS ∧ -(64 * SS) ≤ SS - 4 * a * HH := by
    have ha : a = 1 ∨ a = 2 ∨ a = 3 ∨ a = 4 := by omega
    rcases ha with rfl | rfl | rfl | rfl <;> omega
  obtain ⟨Z, r⟩ := rnd_sub one_is hs e.2.1 e.2.2
  exact r.exact (rep_h (by omega) (by omega)) e.1
theorem hsvP_is {s v : UInt64} {a b : Int} (ha0 : 1 ≤ a) (ha1 : a ≤ 4) (hb0 : 1 ≤ b) (hb1 : b ≤ 4) (hs : Is s (4 * a * HH)) (hv : Is v (4 * b * HH)) : Is (hsvP s v) (b * (4 - a) * HH) := by
  have hH := HH_pos
  have eS := SH
  have hos := sub_one_s ha0 ha1 hs
  have e : 4 * b * ((16 - 4 * a) * HH) = 16 * (b * (4 - a) * HH) ∧ 0 ≤ (16 - 4 * a) * HH ∧ (16 - 4 * a) * HH ≤ SS ∧ 0 ≤ b * (4 - a) ∧ b * (4 - a) < 1000000 := by
    have ha : a = 1 ∨ a = 2 ∨ a = 3 ∨ a = 4 := by omega
    have hb : b = 1 ∨ b = 2 ∨ b = 3 ∨ b = 4 := by omega
    rcases ha with rfl | rfl | rfl | rfl <;> rcases hb with rfl | rfl | rfl | rfl <;> omega
  obtain ⟨Z, r⟩ := mul_h hv hos (by omega) (by omega) e.2.1 e.2.2.1
  exact r.exact (rep_h e.2.2.2.1 e.2.2.2.2) e.1
theorem sext_pos {r g b' : UInt64} {H Y : Int} (hH : Is (hue6 r g b') H) (yhi : Y ≤ 6 * SS - 1000 * UU) (h0 : 0 ≤ H) (h1 : Y - H ≤ 190 * UU) (h2 : H - Y ≤ 190 * UU) : ∃ Z, Is (hueF r g b') Z ∧ 6 * Z - Y ≤ 200 * UU ∧ Y - 6 * Z ≤ 200 * UU := by
  have hU := UU_pos
  obtain ⟨Z, z, z1, z2⟩ := hueF_pos hH h0 (by omega)
  exact ⟨Z, z, by omega, by omega⟩
theorem sext_neg {r g b' : UInt64} {H Y : Int} (hH : Is (hue6 r g b') H) (yhi : Y ≤ 6 * SS - 1000 * UU) (h0 : -SS ≤ H) (h1 : Y - (H + 6 * SS) ≤ 180 * UU) (h2 : (H + 6 * SS) - Y ≤ 180 * UU) : ∃ Z, Is (hueF r g b') Z ∧ 6 * Z - Y ≤ 200 * UU ∧ Y - 6 * Z ≤ 200 * UU := by
  have hU := UU_pos
  obtain ⟨Z, z, z1, z2⟩ := hueF_neg hH h0 (by omega)
  exact ⟨Z, z, by omega, by omega⟩
/-- what is asked of one spot's colour, once the sextant is known: X lies Y above t whole turns -/
theorem sext {r g b' : UInt64} {a b R G B F Y : Int} (i0 : Int) (ha0 : 1 ≤ a) (ha1 : a ≤ 4) (hb0 : 1 ≤ b) (hb1 : b ≤ 4) (hr : Is r R) (hg : Is g G) (hb : Is b' B)
    (r0 : b * (4 - a) * HH ≤ R) (r1 : R ≤ 4 * b * HH) (g0 : b * (4 - a) * HH ≤ G) (g1 : G ≤ 4 * b * HH) (c0 : b * (4 - a) * HH ≤ B) (c1 : B ≤ 4 * b * HH)
    (f0 : 0 ≤ F) (f1 : F ≤ SS) (y1 : F - (Y - i0 * SS) ≤ UU) (y2 : (Y - i0 * SS) - F ≤ UU) (yhi : Y ≤ 6 * SS - 1000 * UU)
    (near : ∀ C Z, RatF a b C Z → 16 * (4 * b * HH - C) - a * b * F ≤ 48 * UU → a * b * F - 16 * (4 * b * HH - C) ≤ 48 * UU → Z - F ≤ 65 * UU ∧ F - Z ≤ 65 * UU)
    (near2 : ∀ C Z, RatF a b C Z → (∃ G', SS - F - G' ≤ UU ∧ G' - (SS - F) ≤ UU ∧ 16 * (4 * b * HH - C) - a * b * G' ≤ 48 * UU ∧ a * b * G' - 16 * (4 * b * HH - C) ≤ 48 * UU) → Z - (SS - F) ≤ 66 * UU ∧ (SS - F) - Z ≤ 66 * UU)
    (hcase :
      (i0 = 0 ∧ R = 4 * b * HH ∧ B = b * (4 - a) * HH ∧ (∃ G', SS - F - G' ≤ UU ∧ G' - (SS - F) ≤ UU ∧ 16 * (4 * b * HH - G) - a * b * G' ≤ 48 * UU ∧ a * b * G' - 16 * (4 * b * HH - G) ≤ 48 * UU)) ∨
      (i0 = 1 ∧ G = 4 * b * HH ∧ B = b * (4 - a) * HH ∧ 16 * (4 * b * HH - R) - a * b * F ≤ 48 * UU ∧ a * b * F - 16 * (4 * b * HH - R) ≤ 48 * UU) ∨
      (i0 = 2 ∧ G = 4 * b * HH ∧ R = b * (4 - a) * HH ∧ (∃ G', SS - F - G' ≤ UU ∧ G' - (SS - F) ≤ UU ∧ 16 * (4 * b * HH - B) - a * b * G' ≤ 48 * UU ∧ a * b * G' - 16 * (4 * b * HH - B) ≤ 48 * UU)) ∨
      (i0 = 3 ∧ B = 4 * b * HH ∧ R = b * (4 - a) * HH ∧ 16 * (4 * b * HH - G) - a * b * F ≤ 48 * UU ∧ a * b * F - 16 * (4 * b * HH - G) ≤ 48 * UU) ∨
      (i0 = 4 ∧ B = 4 * b * HH ∧ G = b * (4 - a) * HH ∧ (∃ G', SS - F - G' ≤ UU ∧ G' - (SS - F) ≤ UU ∧ 16 * (4 * b * HH - R) - a * b * G' ≤ 48 * UU ∧ a * b * G' - 16 * (4 * b * HH - R) ≤ 48 * UU)) ∨
      (i0 = 5 ∧ R = 4 * b * HH ∧ G = b * (4 - a) * HH ∧ 16 * (4 * b * HH - B) - a * b * F ≤ 48 * UU ∧ a * b * F - 16 * (4 * b * HH - B) ≤ 48 * UU)) :
    ((Float64.cmp (minF r g b') (maxF r g b') == some Ordering.eq) = false ∧ isZero (maxF r g b') = false ∧ isZero (sub (maxF r g b') (minF r g b')) = false) ∧
    ∃ Z, Is (hueF r g b') Z ∧ 6 * Z - Y ≤ 200 * UU ∧ Y - 6 * Z ≤ 200 * UU := by
  have hU := UU_pos
  have eS := SU
  have hPV : b * (4 - a) * HH ≠ 4 * b * HH := by
    have hH := HH_pos
    have ha : a = 1 ∨ a = 2 ∨ a = 3 ∨ a = 4 := by omega
    have hb : b = 1 ∨ b = 2 ∨ b = 3 ∨ b = 4 := by omega
    rcases ha with rfl | rfl | rfl | rfl <;> rcases hb with rfl | rfl | rfl | rfl <;> omega
  obtain ⟨q, Rc, Gc, Bc, H, fR, fG, fB, hH, hor⟩ := hue6_is ha0 ha1 hb0 hb1 hr hg hb r0 r1 g0 g1 c0 c1 (by omega) (by omega)
  refine ⟨q, ?_⟩
  have x1 := fR.lo
  have x2 := fR.hi
  have x3 := fG.lo
  have x4 := fG.hi
  have x5 := fB.lo
  have x6 := fB.hi
  rcases hcase with ⟨rfl, e1, e2, e3⟩ | ⟨rfl, e1, e2, e3, e4⟩ | ⟨rfl, e1, e2, e3⟩ | ⟨rfl, e1, e2, e3, e4⟩ | ⟨rfl, e1, e2, e3⟩ | ⟨rfl, e1, e2, e3, e4⟩
  · have n1 := near2 _ _ fG e3
    clear near near2 e3
    have n2 := fB.bot e2
    rcases hor with ⟨h1, h2, h3, h4, h5⟩ | ⟨h1, h2, h3, h4⟩ | ⟨h1, h2, h3, h4⟩
    · exact sext_pos hH yhi (h4 (by omega)) (by omega) (by omega)
    · omega
    · omega
  · have n1 := near _ _ fR e3 e4
    clear near near2 e3 e4
    have n2 := fB.bot e2
    have n3 := fG.top e1
    rcases hor with ⟨h1, h2, h3, h4, h5⟩ | ⟨h1, h2, h3, h4⟩ | ⟨h1, h2, h3, h4⟩
    · have n4 := fR.top h1
      exact sext_pos hH yhi (by omega) (by omega) (by omega)
    · exact sext_pos hH yhi (by omega) (by omega) (by omega)
    · omega
  · have n1 := near2 _ _ fB e3
    clear near near2 e3
    have n2 := fR.bot e2
    have n3 := fG.top e1
    rcases hor with ⟨h1, h2, h3, h4, h5⟩ | ⟨h1, h2, h3, h4⟩ | ⟨h1, h2, h3, h4⟩
    · omega
    · exact sext_pos hH yhi (by omega) (by omega) (by omega)
    · omega
  · have n1 := near _ _ fG e3 e4
    clear near near2 e3 e4
    have n2 := fR.bot e2
    have n3 := fB.top e1
    rcases hor with ⟨h1, h2, h3, h4, h5⟩ | ⟨h1, h2, h3, h4⟩ | ⟨h1, h2, h3, h4⟩
    · omega
    · have n4 := fG.top h2
      exact sext_pos hH yhi (by omega) (by omega) (by omega)
    · exact sext_pos hH yhi (by omega) (by omega) (by omega)
  · have n1 := near2 _ _ fR e3
    clear near near2 e3
    have n2 := fG.bot e2
    have n3 := fB.top e1
    rcases hor with ⟨h1, h2, h3, h4, h5⟩ | ⟨h1, h2, h3, h4⟩ | ⟨h1, h2, h3, h4⟩
    · have n4 := fR.top h1
      exact sext_neg hH yhi (by omega) (by omega) (by omega)
    · omega
    · exact sext_pos hH yhi (by omega) (by omega) (by omega)
  · have n1 := near _ _ fB e3 e4
    clear near near2 e3 e4
    have n2 := fG.bot e2
    have n3 := fR.top e1
    rcases hor with ⟨h1, h2, h3, h4, h5⟩ | ⟨h1, h2, h3, h4⟩ | ⟨h1, h2, h3, h4⟩
    · exact sext_neg hH yhi (by omega) (by omega) (by omega)
    · omega
    · omega
theorem ofInt_is {i : Int} (h0 : 0 ≤ i) (h1 : i ≤ 60) : Is (ofInt i) (i * SS) := by
  have hH := HH_pos
  have eS := SH
  obtain ⟨n, rfl⟩ : ∃ n : Nat, i = n := ⟨i.toNat, by omega⟩
  obtain ⟨Z, r⟩ := rnd_frac (n := n) (d := 1) (by decide) (by
    rw [Nat.one_mul]
    have e : (2 : Nat) ^ 1080 = 64 * 2 ^ 1074 := by rw [show (64 : Nat) = 2 ^ 6 by decide, ← Nat.pow_add]
    rw [e]
    exact Nat.mul_le_mul_right _ (by omega))
  have e : ofInt (n : Int) = ofFrac false n 1 := by
    unfold ofInt
    rw [decide_eq_false (by omega), Int.natAbs_natCast]
  rw [e]
  refine r.exact ?_ (by show (n : Int) * SS = (1 : Int) * _; omega)
  have e2 : (n : Int) * SS = (16 * n) * HH := by rw [eS, ← Int.mul_assoc, Int.mul_comm (n : Int) 16]
  rw [e2]
  exact rep_h (by omega) (by omega)
theorem hue_main {h s v : UInt64} {a b Zh t J : Int} (ha0 : 1 ≤ a) (ha1 : a ≤ 4) (hb0 : 1 ≤ b) (hb1 : b ≤ 4) (hh : Is h Zh) (hs : Is s (4 * a * HH)) (hv : Is v (4 * b * HH))
    (ht0 : 0 ≤ t) (ht1 : t ≤ 8) (hz : Zh = t * SS + J) (hz8 : Zh ≤ 8 * SS) (hJ0 : J = 0 ∨ 1000 * UU ≤ J) (hJ1 : J ≤ SS - 1000 * UU) :
    SpotOk h s v ∧ ∃ Z, Is (hueO h s v) Z ∧ Z - J ≤ 100 * UU ∧ J - Z ≤ 100 * UU := by
  have hH := HH_pos
  have hU := UU_pos
  have hS := SS_pos
  have eH := HU
  have eS := SH
  have eSU := SU
  have htS : 0 ≤ t * SS := Int.mul_nonneg ht0 (by omega)
  obtain ⟨X, x⟩ := mul_six hh six_is (by omega) hz8
  have x1 := x.lo
  have x2 := x.hi
  have e6 : 96 * t * HH = 6 * (t * SS) := by rw [eS, Int.mul_left_comm t, Int.mul_assoc]; omega
  have x3 := x.dn (96 * t * HH) (rep_h (by omega) (by omega)) (by omega)
  rw [e6] at x3
  obtain ⟨Y, hY⟩ : ∃ Y, Y = X - 6 * (t * SS) := ⟨_, rfl⟩
  have hI := trunc_is x.is (by omega)
  have eI : hsvI h = Flt.toInt truncOf (mul h six) := rfl
  rw [← eI] at hI
  obtain ⟨i0, hi0⟩ : ∃ i0, hsvI h = i0 + 6 * t := ⟨hsvI h - 6 * t, by omega⟩
  have m1 : SS * (i0 + 6 * t) = i0 * SS + 6 * (t * SS) := by rw [Int.mul_add, Int.mul_comm SS i0, Int.mul_comm SS, Int.mul_assoc]
  have m2 : SS * (i0 + 6 * t + 1) = i0 * SS + 6 * (t * SS) + SS := by rw [Int.mul_add, m1]; omega
  rw [hi0, m1, m2] at hI
  have hi : 0 ≤ i0 ∧ i0 ≤ 5 := by
    constructor
    · rcases Int.lt_or_le i0 0 with h1 | h1
      · have := Int.mul_le_mul_of_nonneg_right (show i0 ≤ -1 by omega) (Int.le_of_lt hS)
        omega
      · exact h1
    · rcases Int.lt_or_le 5 i0 with h1 | h1
      · have := Int.mul_le_mul_of_nonneg_right (show 6 ≤ i0 by omega) (Int.le_of_lt hS)
        omega
      · exact h1
  have hIr : 0 ≤ hsvI h ∧ hsvI h ≤ 60 := by omega
  have hmod : (hsvI h).fmod 6 = i0 := by
    rw [Int.fmod_eq_emod_of_nonneg _ (by decide), hi0]
    omega
  have hoI := ofInt_is hIr.1 hIr.2
  have eI2 : hsvI h * SS = i0 * SS + 6 * (t * SS) := by rw [hi0, Int.mul_comm, m1]
  rw [eI2] at hoI
  have hXle : X ≤ 49 * SS := by
    have := Int.mul_le_mul_of_nonneg_right ht1 (Int.le_of_lt hS)
    omega
  obtain ⟨F, f⟩ := rnd_sub x.is hoI (by omega) (by omega)
  have f1 := f.lo
  have f2 := f.hi
  have f3 := f.dn 0 rep_0 (by omega)
  have f4 := f.up (16 * HH) S16 (by omega)
  have hfF : Is (hsvF h) F := f.is
  obtain ⟨G', g'⟩ := rnd_sub one_is hfF (by omega) (by omega)
  have g1 := g'.lo
  have g2 := g'.hi
  have g3 := g'.dn 0 rep_0 (by omega)
  have g4 := g'.up (16 * HH) S16 (by omega)
  obtain ⟨CQ, q, q1, q2, q3, q4⟩ := colour ha0 ha1 hb0 hb1 hfF f3 (by omega) hs hv
  obtain ⟨CT, w, w1, w2, w3, w4⟩ := colour ha0 ha1 hb0 hb1 g'.is g3 (by omega) hs hv
  have hp := hsvP_is ha0 ha1 hb0 hb1 hs hv
  have pv : b * (4 - a) * HH ≤ 4 * b * HH := Int.le_trans q1 q2
  have near : ∀ C Z, RatF a b C Z → 16 * (4 * b * HH - C) - a * b * F ≤ 48 * UU → a * b * F - 16 * (4 * b * HH - C) ≤ 48 * UU → Z - F ≤ 65 * UU ∧ F - Z ≤ 65 * UU := fun C Z hr k1 k2 => rat_near ha0 ha1 hb0 hb1 hr k1 k2
  have near2 : ∀ C Z, RatF a b C Z → (∃ G', SS - F - G' ≤ UU ∧ G' - (SS - F) ≤ UU ∧ 16 * (4 * b * HH - C) - a * b * G' ≤ 48 * UU ∧ a * b * G' - 16 * (4 * b * HH - C) ≤ 48 * UU) → Z - (SS - F) ≤ 66 * UU ∧ (SS - F) - Z ≤ 66 * UU := by
    rintro C Z hr ⟨G2, k0, k1, k2, k3⟩
    have := rat_near ha0 ha1 hb0 hb1 hr k2 k3
    omega
  have y1 : F - (Y - i0 * SS) ≤ UU := by omega
  have y2 : (Y - i0 * SS) - F ≤ UU := by omega
  have yhi : Y ≤ 6 * SS - 1000 * UU := by omega
  have key : ((Float64.cmp (minF (hsvR h s v) (hsvG h s v) (hsvB h s v)) (maxF (hsvR h s v) (hsvG h s v) (hsvB h s v)) == some Ordering.eq) = false ∧ isZero (maxF (hsvR h s v) (hsvG h s v) (hsvB h s v)) = false ∧ isZero (sub (maxF (hsvR h s v) (hsvG h s v) (hsvB h s v)) (minF (hsvR h s v) (hsvG h s v) (hsvB h s v))) = false) ∧
    ∃ Z, Is (hueF (hsvR h s v) (hsvG h s v) (hsvB h s v)) Z ∧ 6 * Z - Y ≤ 200 * UU ∧ Y - 6 * Z ≤ 200 * UU := by
    unfold hsvR hsvG hsvB
    rw [hmod]
    have hc : i0 = 0 ∨ i0 = 1 ∨ i0 = 2 ∨ i0 = 3 ∨ i0 = 4 ∨ i0 = 5 := by omega
    rcases hc with rfl | rfl | rfl | rfl | rfl | rfl
    · exact sext 0 ha0 ha1 hb0 hb1 hv w hp pv (Int.le_refl _) w1 w2 (Int.le_refl _) pv f3 (by omega) y1 y2 yhi near near2 (.inl ⟨rfl, rfl, rfl, G', by omega, by omega, w3, w4⟩)
    · exact sext 1 ha0 ha1 hb0 hb1 q hv hp q1 q2 pv (Int.le_refl _) (Int.le_refl _) pv f3 (by omega) y1 y2 yhi near near2 (.inr (.inl ⟨rfl, rfl, rfl, q3, q4⟩))
    · exact sext 2 ha0 ha1 hb0 hb1 hp hv w (Int.le_refl _) pv pv (Int.le_refl _) w1 w2 f3 (by omega) y1 y2 yhi near near2 (.inr (.inr (.inl ⟨rfl, rfl, rfl, G', by omega, by omega, w3, w4⟩)))
    · exact sext 3 ha0 ha1 hb0 hb1 hp q hv (Int.le_refl _) pv q1 q2 pv (Int.le_refl _) f3 (by omega) y1 y2 yhi near near2 (.inr (.inr (.inr (.inl ⟨rfl, rfl, rfl, q3, q4⟩))))
    · exact sext 4 ha0 ha1 hb0 hb1 w hp hv w1 w2 (Int.le_refl _) pv pv (Int.le_refl _) f3 (by omega) y1 y2 yhi near near2 (.inr (.inr (.inr (.inr (.inl ⟨rfl, rfl, rfl, G', by omega, by omega, w3, w4⟩)))))
    · exact sext 5 ha0 ha1 hb0 hb1 hv hp q pv (Int.le_refl _) (Int.le_refl _) pv q1 q2 f3 (by omega) y1 y2 yhi near near2 (.inr (.inr (.inr (.inr (.inr ⟨rfl, rfl, rfl, q3, q4⟩)))))
  obtain ⟨⟨k1, k2, k3⟩, Z, hZ, z1, z2⟩ := key
  refine ⟨⟨?_, x.is.fin, ?_, k1, k2, k3⟩, Z, hZ, by omega, by omega⟩
  · rw [cmp_eq_is hs (show Is 0 0 from zero_is false)]
    refine decide_eq_false ?_
    have := Int.mul_pos (show 0 < 4 * a by omega) hH
    omega
  · show (hsvI h).natAbs < _
    have : (hsvI h).natAbs ≤ 60 := by omega
    refine Nat.lt_of_le_of_lt this ?_
    decide +kernel
end Mine
end
section
open PySem PySem.W PySem.Calls PySem.Spec PyProof.Rows
set_option Elab.async false
namespace Mine
structure RF (W : Int) (N : Int) (r : Int → Int) : Prop where
  z : r 0 = 0
  nn : ∀ k, 0 ≤ r k
  lt : ∀ k, r k < W
  add : ∀ i j, r (i + j) = r i + r j ∨ r (i + j) = r i + r j - W
  ne : ∀ k, 0 < k → k < N → r k ≠ 0
theorem rf_of {wheel leap N : Int} (hw : 0 < wheel) (hne : ∀ k : Int, 0 ≤ k → k < N → k = 0 ∨ (k * leap).fmod wheel ≠ 0) : RF wheel N (fun k => (k * leap).fmod wheel) := by
  refine ⟨by simp, fun k => Int.fmod_nonneg_of_pos _ hw, fun k => Int.fmod_lt_of_pos _ hw, fun i j => ?_, fun k h0 h1 => ?_⟩
  · show ((i + j) * leap).fmod wheel = _ ∨ _
    have h1 := Int.fmod_nonneg_of_pos (i * leap) hw
    have h2 := Int.fmod_lt_of_pos (i * leap) hw
    have h3 := Int.fmod_nonneg_of_pos (j * leap) hw
    have h4 := Int.fmod_lt_of_pos (j * leap) hw
    rw [Int.add_mul]
    rw [Int.fmod_eq_emod_of_nonneg _ (Int.le_of_lt hw), Int.fmod_eq_emod_of_nonneg _ (Int.le_of_lt hw), Int.fmod_eq_emod_of_nonneg _ (Int.le_of_lt hw)] at *
    rw [Int.add_emod]
    generalize (i * leap) % wheel = x at *
    generalize (j * leap) % wheel = y at *
    rcases Int.lt_or_le (x + y) wheel with h | h
    · exact .inl (Int.emod_eq_of_lt (by omega) h)
    · right
      rw [← Int.sub_emod_right]
      exact Int.emod_eq_of_lt (by omega) (by omega)
  · rcases hne k (by omega) h1 with h | h
    · omega
    · exact h
theorem RF.inj {W N : Int} {r : Int → Int} (R : RF W N r) {i j : Int} (hi : 0 ≤ i) (hj : 0 ≤ j) (hi2 : i < N) (hj2 : j < N) (e : r i = r j) : i = j := by
  rcases Int.lt_trichotomy i j with h | h | h
  · have h1 := R.add i (j - i)
    rw [show i + (j - i) = j by omega] at h1
    have h2 := R.ne (j - i) (by omega) (by omega)
    have h3 := R.lt (j - i)
    omega
  · exact h
  · have h1 := R.add j (i - j)
    rw [show j + (i - j) = i by omega] at h1
    have h2 := R.ne (i - j) (by omega) (by omega)
    have h3 := R.lt (i - j)
    omega
theorem RF.step {W N : Int} {r : Int → Int} (R : RF W N r) {up down k : Int} (hu0 : 1 ≤ up) (hu1 : up < N) (hu : ∀ m, 1 ≤ m → m < N → r up ≤ r m)
    (hd0 : 1 ≤ down) (hd1 : down < N) (hd : ∀ m, 1 ≤ m → m < N → r m ≤ r down) (hk0 : 0 ≤ k) (hk1 : k < N) {m0 : Int} (hm0 : 0 ≤ m0) (hm1 : m0 < N) (hm : r k < r m0) :
    0 ≤ nextK N up down k ∧ nextK N up down k < N ∧ r k < r (nextK N up down k) ∧ ∀ m, 0 ≤ m → m < N → r k < r m → r (nextK N up down k) ≤ r m := by
  have hup := R.ne up (by omega) hu1
  have hun := R.nn up
  have hdl := R.lt down
  have hkn := R.nn k
  unfold nextK
  by_cases c1 : k + up < N
  · rw [if_pos c1]
    have a1 := R.add k up
    have a2 := hu (k + up) (by omega) c1
    have a3 := R.lt k
    have e : r (k + up) = r k + r up := by
      rcases a1 with a1 | a1
      · exact a1
      · omega
    refine ⟨by omega, c1, by omega, fun m h0 h1 h2 => ?_⟩
    rcases Int.lt_trichotomy m k with h | h | h
    · have b1 := R.add m (k + up - m)
      rw [show m + (k + up - m) = k + up by omega] at b1
      have b2 := hu (k + up - m) (by omega) (by omega)
      have b3 := R.lt (k + up - m)
      omega
    · subst h; omega
    · have b1 := R.add k (m - k)
      rw [show k + (m - k) = m by omega] at b1
      have b2 := hu (m - k) (by omega) (by omega)
      have b3 := R.lt (m - k)
      omega
  · rw [if_neg c1]
    have below : ∀ m, 0 ≤ m → m < k → r k < r m → r (k - m) = W - (r m - r k) ∧ W - r down ≤ r m - r k := by
      intro m h0 h1 h2
      have b1 := R.add m (k - m)
      rw [show m + (k - m) = k by omega] at b1
      have b2 := R.nn (k - m)
      have b3 := hd (k - m) (by omega) (by omega)
      omega
    by_cases c2 : k < down
    · rw [if_pos c2]
      have key : ∀ m, 0 ≤ m → m < N → r k < r m → r k + r up + (W - r down) ≤ r m := by
        intro m h0 h1 h2
        rcases Int.lt_trichotomy m k with h | h | h
        · obtain ⟨b1, b2⟩ := below m h0 h h2
          have b4 : r (k - m) ≠ r down := fun e => by
            have := R.inj (by omega) (by omega) (by omega) hd1 e
            omega
          have b5 := R.add (k - m) (down - (k - m))
          rw [show (k - m) + (down - (k - m)) = down by omega] at b5
          have b6 := hu (down - (k - m)) (by omega) (by omega)
          have b7 := R.lt (down - (k - m))
          omega
        · subst h; omega
        · have b1 := R.add k (m - k)
          rw [show k + (m - k) = m by omega] at b1
          have b2 := hu (m - k) (by omega) (by omega)
          have b3 := R.lt (m - k)
          have b4 : r (m - k) ≠ r up := fun e => by
            have := R.inj (by omega) (by omega) (by omega) hu1 e
            omega
          have b5 := R.add (m - k) (up - (m - k))
          rw [show (m - k) + (up - (m - k)) = up by omega] at b5
          have b6 := R.nn (up - (m - k))
          have b7 := hd (up - (m - k)) (by omega) (by omega)
          omega
      have k0 := key m0 hm0 hm1 hm
      have m0l := R.lt m0
      have a1 := R.add k up
      have a2 := R.add (k + up - down) down
      rw [show (k + up - down) + down = k + up by omega] at a2
      have a3 := R.nn (k + up - down)
      have a4 := R.lt (k + up - down)
      have e : r (k + up - down) = r k + r up + (W - r down) := by omega
      exact ⟨by omega, by omega, by omega, fun m h0 h1 h2 => by rw [e]; exact key m h0 h1 h2⟩
    · rw [if_neg c2]
      have hz := R.z
      have m00 : 1 ≤ m0 := by
        rcases Int.lt_or_le m0 1 with h | h
        · have : m0 = 0 := by omega
          subst this
          omega
        · exact h
      have hm2 := hd m0 m00 hm1
      have hkd : k ≠ down := fun e => by subst e; omega
      have a1 := R.add (k - down) down
      rw [show (k - down) + down = k by omega] at a1
      have a2 := R.ne (k - down) (by omega) (by omega)
      have a3 := R.nn (k - down)
      have e : r (k - down) = r k + (W - r down) := by omega
      refine ⟨by omega, by omega, by omega, fun m h0 h1 h2 => ?_⟩
      rcases Int.lt_trichotomy m k with h | h | h
      · have := below m h0 h h2
        omega
      · subst h; omega
      · rcases Int.lt_or_le (r m) (r (k - down)) with h3 | h3
        · have b1 := R.add (k - down) (m - (k - down))
          rw [show (k - down) + (m - (k - down)) = m by omega] at b1
          have b2 := hd (m - (k - down)) (by omega) (by omega)
          have b3 := R.nn (m - (k - down))
          omega
        · exact h3
theorem laidF_spec {fs : List UInt64} {r : Int → Int} {N : Int} (hlt : ∀ v i : Int, 0 ≤ v → v < N → 0 ≤ i → i < N → ltF fs v i = decide (r i < r v)) (hinj : ∀ i j : Int, 0 ≤ i → i < N → 0 ≤ j → j < N → r i = r j → i = j) :
    ∀ (f : Nat) (ns : List Int), ns.length ≤ f → ns.Nodup → (∀ x ∈ ns, 0 ≤ x ∧ x < N) →
      (laidF fs f ns).Pairwise (fun a b => r a < r b) ∧ (∀ x, x ∈ laidF fs f ns ↔ x ∈ ns) ∧ (laidF fs f ns).length = ns.length := by
  intro f
  induction f with
  | zero =>
    intro ns h _ _
    have : ns = [] := List.length_eq_zero_iff.mp (by omega)
    subst this
    exact ⟨.nil, fun x => Iff.rfl, rfl⟩
  | succ f ih =>
    intro ns h hnd hin
    cases ns with
    | nil => exact ⟨.nil, fun x => Iff.rfl, rfl⟩
    | cons v l =>
      have hv := hin v (.head _)
      have hl : ∀ x ∈ l, 0 ≤ x ∧ x < N := fun x hx => hin x (.tail _ hx)
      rw [List.nodup_cons] at hnd
      simp only [List.length_cons] at h
      have sub1 : ∀ p : Int → Bool, (l.filter p).length ≤ f := fun p => Nat.le_trans (List.length_filter_le ..) (by omega)
      obtain ⟨s1, m1, l1⟩ := ih (l.filter (ltF fs v)) (sub1 _) (hnd.2.filter _) (fun x hx => hl x (List.mem_filter.mp hx).1)
      obtain ⟨s2, m2, l2⟩ := ih (l.filter (fun i => !ltF fs v i)) (sub1 _) (hnd.2.filter _) (fun x hx => hl x (List.mem_filter.mp hx).1)
      have low : ∀ x ∈ laidF fs f (l.filter (ltF fs v)), r x < r v := fun x hx => by
        have h1 := List.mem_filter.mp ((m1 x).mp hx)
        have h2 := hl x h1.1
        rw [hlt v x hv.1 hv.2 h2.1 h2.2] at h1
        exact of_decide_eq_true h1.2
      have high : ∀ x ∈ laidF fs f (l.filter (fun i => !ltF fs v i)), r v < r x := fun x hx => by
        have h1 := List.mem_filter.mp ((m2 x).mp hx)
        have h2 := hl x h1.1
        rw [hlt v x hv.1 hv.2 h2.1 h2.2] at h1
        have h3 : ¬ r x < r v := by simpa using h1.2
        have h4 : r x ≠ r v := fun e => by
          have := hinj x v h2.1 h2.2 hv.1 hv.2 e
          exact hnd.1 (this ▸ h1.1)
        omega
      unfold laidF
      refine ⟨?_, fun x => ?_, ?_⟩
      · refine List.pairwise_append.mpr ⟨List.pairwise_append.mpr ⟨s1, List.pairwise_singleton .., fun a ha b hb => ?_⟩, s2, fun a ha b hb => ?_⟩
        · rw [List.mem_singleton.mp hb]; exact low a ha
        · rcases List.mem_append.mp ha with ha | ha
          · exact Int.lt_trans (low a ha) (high b hb)
          · rw [List.mem_singleton.mp ha]; exact high b hb
      · simp only [List.mem_append, m1, m2, List.mem_filter, List.mem_cons, List.not_mem_nil, or_false]
        constructor
        · rintro ((h | h) | h)
          · exact .inr h.1
          · exact .inl h
          · exact .inr h.1
        · rintro (h | h)
          · exact .inl (.inr h)
          · cases hb : ltF fs v x
            · exact .inr ⟨h, by simp⟩
            · exact .inl (.inl ⟨h, rfl⟩)
      · have hc : ∀ l' : List Int, (l'.filter (ltF fs v)).length + (l'.filter (fun i => !ltF fs v i)).length = l'.length := by
          intro l'
          induction l' with
          | nil => rfl
          | cons y t iht =>
            cases hb : ltF fs v y <;> simp [hb] <;> omega
        have := hc l
        simp only [List.length_append, List.length_nil, List.length_cons, l1, l2]
        omega
theorem sorted_chain {W N : Int} {r : Int → Int} (R : RF W N r) {up down : Int} (hu0 : 1 ≤ up) (hu1 : up < N) (hu : ∀ m, 1 ≤ m → m < N → r up ≤ r m)
    (hd0 : 1 ≤ down) (hd1 : down < N) (hd : ∀ m, 1 ≤ m → m < N → r m ≤ r down) {L : List Int} (hs : L.Pairwise (fun a b => r a < r b)) (hm : ∀ x, x ∈ L ↔ 0 ≤ x ∧ x < N) :
    L = (List.range L.length).map (iterK N up down) := by
  have key : ∀ (i : Nat) (h : i < L.length), L[i] = iterK N up down i := by
    intro i
    induction i with
    | zero =>
      intro h
      have h0 : (0 : Int) ∈ L := (hm 0).mpr ⟨Int.le_refl _, by omega⟩
      obtain ⟨j, hj, e⟩ := List.mem_iff_getElem.mp h0
      have hn := R.nn L[0]
      rcases Nat.eq_zero_or_pos j with h1 | h1
      · subst h1; exact e
      · have := List.pairwise_iff_getElem.mp hs 0 j h hj h1
        rw [e, R.z] at this
        omega
    | succ i ih =>
      intro h
      have e := ih (by omega)
      have hlt := List.pairwise_iff_getElem.mp hs i (i + 1) (by omega) h (by omega)
      have mi := (hm L[i]).mp (List.getElem_mem _)
      have mj := (hm L[i + 1]).mp (List.getElem_mem _)
      obtain ⟨s0, s1, s2, s3⟩ := R.step hu0 hu1 hu hd0 hd1 hd mi.1 mi.2 mj.1 mj.2 hlt
      show _ = nextK N up down (iterK N up down i)
      rw [← e]
      obtain ⟨q, hq, eq⟩ := List.mem_iff_getElem.mp ((hm _).mpr ⟨s0, s1⟩)
      have hle := s3 _ mj.1 mj.2 hlt
      rw [← eq] at s2 hle ⊢
      rcases Nat.lt_trichotomy q (i + 1) with h1 | h1 | h1
      · rcases Nat.lt_or_eq_of_le (Nat.lt_succ_iff.mp h1) with h2 | h2
        · have := List.pairwise_iff_getElem.mp hs q i hq (by omega) h2
          omega
        · subst h2; omega
      · subst h1; rfl
      · have := List.pairwise_iff_getElem.mp hs (i + 1) q h hq h1
        omega
  refine List.ext_getElem (by simp) fun i h1 h2 => ?_
  rw [key i h1]
  simp
theorem argBest_spec (bt : Nat → Nat → Bool) (tr : ∀ i j k, bt i j = true → bt j k = true → bt i k = true) (ir : ∀ i, bt i i = false) : ∀ n j, j ≤ n → bt j (argBest bt n) = false := by
  have nn : ∀ i j, bt i j = true → bt j i = false := fun i j h => by
    cases h2 : bt j i with
    | false => rfl
    | true => have := tr i j i h h2; rw [ir] at this; exact this.symm ▸ rfl
  intro n
  induction n with
  | zero => intro j hj; have : j = 0 := by omega
            subst this; exact ir _
  | succ n ih =>
    intro j hj
    unfold argBest
    split
    · rename_i h
      rcases Nat.lt_or_eq_of_le hj with h1 | h1
      · cases h2 : bt j (n + 1) with
        | false => rfl
        | true =>
          have := tr _ _ _ h2 h
          rw [ih j (by omega)] at this
          exact this.symm ▸ rfl
      · subst h1; exact ir _
    · rename_i h
      rcases Nat.lt_or_eq_of_le hj with h1 | h1
      · exact ih j (by omega)
      · subst h1; simpa using h
theorem pLt_tr {p q s : Int × Int} (h1 : pLt p q = true) (h2 : pLt q s = true) : pLt p s = true := by
  unfold pLt at *
  split at h1 <;> split at h2 <;> split <;> simp_all <;> omega
theorem pLt_ir (p : Int × Int) : pLt p p = false := by unfold pLt; simp
theorem pLt_le {p q : Int × Int} (h : pLt p q = false) : q.1 ≤ p.1 := by
  unfold pLt at h
  split at h
  · omega
  · simpa using h
theorem psOf_get {N wheel leap : Int} {i : Nat} (h : (i : Int) < N - 1) : (psOf N wheel leap).getD i (0, 0) = (((1 + (i : Int)) * leap).fmod wheel, 1 + (i : Int)) := by
  unfold psOf rangeKs
  rw [List.getD_eq_getElem?_getD, List.map_map, List.getElem?_map, List.getElem?_range (by omega)]
  rfl
theorem up_spec {N wheel leap : Int} (hN : 2 ≤ N) : 1 ≤ upOf (psOf N wheel leap) ∧ upOf (psOf N wheel leap) < N ∧ ∀ m, 1 ≤ m → m < N → (upOf (psOf N wheel leap) * leap).fmod wheel ≤ (m * leap).fmod wheel := by
  unfold upOf
  have hl := psOf_length N wheel leap
  have hs := argBest_spec (fun i j => pLt ((psOf N wheel leap).getD i (0, 0)) ((psOf N wheel leap).getD j (0, 0))) (fun i j k => pLt_tr) (fun i => pLt_ir _) ((psOf N wheel leap).length - 1)
  have hb := argBest_le (fun i j => pLt ((psOf N wheel leap).getD i (0, 0)) ((psOf N wheel leap).getD j (0, 0))) ((psOf N wheel leap).length - 1)
  generalize argBest _ _ = b at *
  rw [psOf_get (i := b) (by omega)]
  refine ⟨by simp only; omega, by simp only; omega, fun m h1 h2 => ?_⟩
  have h3 := pLt_le (hs (m - 1).toNat (by omega))
  rw [psOf_get (i := b) (by omega), psOf_get (i := (m - 1).toNat) (by omega)] at h3
  rw [show 1 + ((m - 1).toNat : Int) = m by omega] at h3
  exact h3
theorem down_spec {N wheel leap : Int} (hN : 2 ≤ N) : 1 ≤ downOf (psOf N wheel leap) ∧ downOf (psOf N wheel leap) < N ∧ ∀ m, 1 ≤ m → m < N → (m * leap).fmod wheel ≤ (downOf (psOf N wheel leap) * leap).fmod wheel := by
  unfold downOf
  have hl := psOf_length N wheel leap
  have hs := argBest_spec (fun i j => pLt ((psOf N wheel leap).getD j (0, 0)) ((psOf N wheel leap).getD i (0, 0))) (fun i j k h1 h2 => pLt_tr h2 h1) (fun i => pLt_ir _) ((psOf N wheel leap).length - 1)
  have hb := argBest_le (fun i j => pLt ((psOf N wheel leap).getD j (0, 0)) ((psOf N wheel leap).getD i (0, 0))) ((psOf N wheel leap).length - 1)
  generalize argBest _ _ = b at *
  rw [psOf_get (i := b) (by omega)]
  refine ⟨by simp only; omega, by simp only; omega, fun m h1 h2 => ?_⟩
  have h3 := pLt_le (hs (m - 1).toNat (by omega))
  rw [psOf_get (i := b) (by omega), psOf_get (i := (m - 1).toNat) (by omega)] at h3
  rw [show 1 + ((m - 1).toNat : Int) = m by omega] at h3
  exact h3
theorem rangeKs_nodup (n : Nat) : (rangeKs 0 n).Nodup := by
  unfold rangeKs
  refine List.Pairwise.map _ (fun a b h e => h ?_) List.nodup_range
  omega
theorem order_law {wheel leap N : Int} {fs : List UInt64} {f : Nat} (hw : 0 < wheel) (hN : 1 ≤ N) (hf : N.toNat ≤ f) (hne : ∀ k : Int, 0 ≤ k → k < N → k = 0 ∨ (k * leap).fmod wheel ≠ 0)
    (hlt : ∀ v i : Int, 0 ≤ v → v < N → 0 ≤ i → i < N → ltF fs v i = decide ((i * leap).fmod wheel < (v * leap).fmod wheel)) :
    laidF fs f (rangeKs 0 N.toNat) = leaptS N wheel leap := by
  have R := rf_of hw hne
  have hmem : ∀ x, x ∈ rangeKs 0 N.toNat ↔ 0 ≤ x ∧ x < N := fun x => ⟨fun h => by have := mem_rangeKs h; omega, fun h => rangeKs_mem h.1 (by omega)⟩
  obtain ⟨h1, h2, h3⟩ := laidF_spec (r := fun k => (k * leap).fmod wheel) hlt (fun i j a b c d e => R.inj a c b d e) f (rangeKs 0 N.toNat) (by rw [rangeKs_length]; exact hf) (rangeKs_nodup _) (fun x hx => (hmem x).mp hx)
  rw [rangeKs_length] at h3
  unfold leaptS
  split
  · rename_i h
    subst h
    generalize laidF fs f _ = L at *
    match L, h3 with
    | [x], _ =>
      have := (hmem x).mp ((h2 x).mp (.head _))
      rw [show x = 0 by omega]
  · obtain ⟨u0, u1, u2⟩ := up_spec (N := N) (wheel := wheel) (leap := leap) (by omega)
    obtain ⟨d0, d1, d2⟩ := down_spec (N := N) (wheel := wheel) (leap := leap) (by omega)
    have := sorted_chain R u0 u1 u2 d0 d1 d2 h1 (fun x => (h2 x).trans (hmem x))
    rw [this, h3]
end Mine
end
section
open PySem PySem.W PySem.Calls PySem.Spec PyProof.Rows
set_option Elab.async false
namespace Mine
open PySem.Float64
set_option maxRecDepth 100000
theorem quarter_is {q : Int} (h0 : 0 ≤ q) (h1 : q < 4) : Is (ofFrac (decide (1 + q < 0) != decide ((4 : Int) < 0)) (1 + q).natAbs (Int.natAbs 4)) (4 * (1 + q) * HH) := by
  have eS := SH
  obtain ⟨n, hn⟩ : ∃ n : Nat, 1 + q = n := ⟨(1 + q).toNat, by omega⟩
  rw [decide_eq_false (show ¬ 1 + q < 0 by omega), hn, Int.natAbs_natCast]
  show Is (ofFrac false n 4) _
  obtain ⟨Z, r⟩ := rnd_frac (n := n) (d := 4) (by decide) (by
    have e : (2 : Nat) ^ 1080 = 64 * 2 ^ 1074 := by rw [show (64 : Nat) = 2 ^ 6 by decide, ← Nat.pow_add]
    rw [e, ← Nat.mul_assoc]
    exact Nat.mul_le_mul_right _ (by omega))
  refine r.exact (rep_h (by omega) (by omega)) ?_
  show (n : Int) * SS = (4 : Int) * (4 * n * HH)
  rw [eS, Int.mul_left_comm, Int.mul_assoc 4 (n : Int) HH]
  omega
theorem sK_is (kind k : Int) : ∃ a, 1 ≤ a ∧ a ≤ 4 ∧ Is (sK kind k) (4 * a * HH) := by
  have h0 := Int.fmod_nonneg_of_pos (kind + k) (b := 4) (by decide)
  have h1 := Int.fmod_lt_of_pos (kind + k) (b := 4) (by decide)
  exact ⟨_, by omega, by omega, quarter_is h0 h1⟩
theorem vK_is (kind k : Int) : ∃ a, 1 ≤ a ∧ a ≤ 4 ∧ Is (vK kind k) (4 * a * HH) := by
  have h0 := Int.fmod_nonneg_of_pos (kind.fdiv 4 + 3 * k) (b := 4) (by decide)
  have h1 := Int.fmod_lt_of_pos (kind.fdiv 4 + 3 * k) (b := 4) (by decide)
  exact ⟨_, by omega, by omega, quarter_is h0 h1⟩
theorem hK_is {wheel leap k : Int} (hw1 : 2 ≤ wheel) (hw2 : wheel ≤ 360) (hl1 : 0 ≤ leap) (hl2 : leap < wheel) (hk0 : 0 ≤ k) (hk1 : k < 9) :
    ∃ t Z, 0 ≤ t ∧ t ≤ 8 ∧ Is (hK wheel leap k) Z ∧ 0 ≤ Z ∧ Z ≤ 8 * SS ∧ (k = 0 → Z - t * SS = 0) ∧
      wheel * (Z - t * SS) - (k * leap).fmod wheel * SS ≤ wheel * UU ∧ (k * leap).fmod wheel * SS - wheel * (Z - t * SS) ≤ wheel * UU := by
  have hS := SS_pos
  have eS := SH
  have hkl : 0 ≤ k * leap := Int.mul_nonneg hk0 hl1
  have hkl2 : k * leap ≤ 8 * wheel := by
    have := Int.mul_le_mul (show k ≤ 8 by omega) (show leap ≤ wheel by omega) hl1 (by decide)
    exact this
  obtain ⟨n, hn⟩ : ∃ n : Nat, k * leap = n := ⟨(k * leap).toNat, by omega⟩
  obtain ⟨d, rfl⟩ : ∃ d : Nat, wheel = d := ⟨wheel.toNat, by omega⟩
  have eK : hK d leap k = ofFrac false n d := by
    unfold hK
    rw [decide_eq_false (show ¬ k * leap < 0 by omega), decide_eq_false (show ¬ (d : Int) < 0 by omega), hn, Int.natAbs_natCast, Int.natAbs_natCast]
    rfl
  obtain ⟨Z, r⟩ := rnd_frac (n := n) (d := d) (by omega) (by
    have e : (2 : Nat) ^ 1080 = 64 * 2 ^ 1074 := by rw [show (64 : Nat) = 2 ^ 6 by decide, ← Nat.pow_add]
    rw [e, ← Nat.mul_assoc]
    exact Nat.mul_le_mul_right _ (by omega))
  have h1 := r.dn 0 rep_0 (by
    rw [Int.mul_zero]
    exact Int.mul_nonneg (by omega) (by omega))
  have h2 := r.up (128 * HH) (rep_h (by decide) (by decide)) (by
    have e : (d : Int) * (128 * HH) = (8 * d) * SS := by
      rw [eS, Int.mul_comm 8 (d : Int), Int.mul_assoc]
      congr 1
    rw [e]
    exact Int.mul_le_mul_of_nonneg_right (by omega) (by omega))
  have h3 := r.lo
  have h4 := r.hi
  have hd0 : (0 : Int) < d := by omega
  have hdm := Int.mul_fdiv_add_fmod (k * leap) (d : Int)
  have hm0 := Int.fmod_nonneg_of_pos (k * leap) hd0
  have hm1 := Int.fmod_lt_of_pos (k * leap) hd0
  refine ⟨(k * leap).fdiv d, Z, ?_, ?_, eK ▸ r.is, h1, by omega, fun h => ?_, ?_, ?_⟩
  · rw [Int.fdiv_eq_ediv_of_nonneg _ (by omega)]
    exact Int.ediv_nonneg hkl (by omega)
  · rcases Int.lt_or_le 8 ((k * leap).fdiv d) with h | h
    · have := Int.mul_le_mul_of_nonneg_left (show 9 ≤ (k * leap).fdiv d by omega) (Int.le_of_lt hd0)
      omega
    · exact h
  · subst h
    rw [Int.zero_mul] at hn ⊢
    have hn0 : (n : Int) = 0 := by omega
    have h5 := r.up 0 rep_0 (by rw [hn0, Int.zero_mul, Int.mul_zero]; exact Int.le_refl _)
    simp
    omega
  · rw [Int.mul_sub]
    have e : (n : Int) * SS = d * ((k * leap).fdiv d * SS) + (k * leap).fmod d * SS := by rw [← hn, ← Int.mul_assoc, ← Int.add_mul, hdm]
    omega
  · rw [Int.mul_sub]
    have e : (n : Int) * SS = d * ((k * leap).fdiv d * SS) + (k * leap).fmod d * SS := by rw [← hn, ← Int.mul_assoc, ← Int.add_mul, hdm]
    omega
theorem spot_inf {wheel leap kind : Int} (hw1 : 2 ≤ wheel) (hw2 : wheel ≤ 360) (hl1 : 0 ≤ leap) (hl2 : leap < wheel) (hk1 : 0 ≤ kind) (hk2 : kind < 16) :
    ∀ k : Int, 0 ≤ k → k < 9 → Float64.isInf (hK wheel leap k) = false ∧ Float64.isInf (sK kind k) = false ∧ Float64.isInf (vK kind k) = false := by
  intro k h0 h1
  obtain ⟨t, Z, _, _, hZ, _⟩ := hK_is hw1 hw2 hl1 hl2 h0 h1
  obtain ⟨a, _, _, ha⟩ := sK_is kind k
  obtain ⟨b, _, _, hb⟩ := vK_is kind k
  exact ⟨notInf_is hZ, notInf_is ha, notInf_is hb⟩
theorem hue_k {wheel leap kind : Int} (hw1 : 2 ≤ wheel) (hw2 : wheel ≤ 360) (hl1 : 0 ≤ leap) (hl2 : leap < wheel) (k : Int) (h0 : 0 ≤ k) (h1 : k < 9) (hk : k = 0 ∨ (k * leap).fmod wheel ≠ 0) :
    SpotOk (hK wheel leap k) (sK kind k) (vK kind k) ∧ ∃ Z, Is (hueK wheel leap kind k) Z ∧ wheel * Z - (k * leap).fmod wheel * SS ≤ 101 * (wheel * UU) ∧ (k * leap).fmod wheel * SS - wheel * Z ≤ 101 * (wheel * UU) := by
  have hS := SS_pos
  have hU := UU_pos
  have eS := SU
  obtain ⟨t, Z, t0, t1, hZ, z0, z1, z2, z3, z4⟩ := hK_is hw1 hw2 hl1 hl2 h0 h1
  obtain ⟨a, a0, a1, ha⟩ := sK_is kind k
  obtain ⟨b, b0, b1, hb⟩ := vK_is kind k
  obtain ⟨J, hJ⟩ : ∃ J, J = Z - t * SS := ⟨_, rfl⟩
  rw [← hJ] at z2 z3 z4
  have hm0 := Int.fmod_nonneg_of_pos (k * leap) (b := wheel) (by omega)
  have hm1 := Int.fmod_lt_of_pos (k * leap) (b := wheel) (by omega)
  have hwu : wheel * UU ≤ 360 * UU := Int.mul_le_mul_of_nonneg_right hw2 (Int.le_of_lt hU)
  have hwu0 : 0 ≤ wheel * UU := Int.mul_nonneg (by omega) (by omega)
  have hm2 : (k * leap).fmod wheel * SS ≤ wheel * SS - SS := by
    have := Int.mul_le_mul_of_nonneg_right (show (k * leap).fmod wheel ≤ wheel - 1 by omega) (Int.le_of_lt hS)
    rw [Int.sub_mul, Int.one_mul] at this
    exact this
  have j0 : J = 0 ∨ 1000 * UU ≤ J := by
    rcases hk with hk | hk
    · exact .inl (z2 hk)
    · right
      rcases Int.lt_or_le J (1000 * UU) with h | h
      · have e1 := Int.mul_le_mul_of_nonneg_left (Int.le_of_lt h) (show 0 ≤ wheel by omega)
        rw [Int.mul_left_comm] at e1
        have e2 := Int.mul_le_mul_of_nonneg_right (show 1 ≤ (k * leap).fmod wheel by omega) (Int.le_of_lt hS)
        omega
      · exact h
  have j1 : J ≤ SS - 1000 * UU := by
    rcases Int.lt_or_le (SS - 1000 * UU) J with h | h
    · have e1 := Int.mul_le_mul_of_nonneg_left (Int.le_of_lt h) (show 0 ≤ wheel by omega)
      rw [Int.mul_sub, Int.mul_left_comm] at e1
      omega
    · exact h
  obtain ⟨ok, R, hR, r1, r2⟩ := hue_main a0 a1 b0 b1 hZ ha hb t0 t1 (by omega) z1 j0 j1
  refine ⟨ok, R, hR, ?_, ?_⟩
  · have e1 := Int.mul_le_mul_of_nonneg_left r1 (show 0 ≤ wheel by omega)
    rw [Int.mul_sub, Int.mul_left_comm] at e1
    omega
  · have e1 := Int.mul_le_mul_of_nonneg_left r2 (show 0 ≤ wheel by omega)
    rw [Int.mul_sub, Int.mul_left_comm] at e1
    omega
theorem spot_ok {wheel leap kind : Int} (hw1 : 2 ≤ wheel) (hw2 : wheel ≤ 360) (hl1 : 0 ≤ leap) (hl2 : leap < wheel) (hk1 : 0 ≤ kind) (hk2 : kind < 16) :
    ∀ k : Int, 0 ≤ k → k < 9 → k = 0 ∨ (k * leap).fmod wheel ≠ 0 → SpotOk (hK wheel leap k) (sK kind k) (vK kind k) :=
  fun k h0 h1 h => (hue_k hw1 hw2 hl1 hl2 k h0 h1 h).1
theorem lt_of_place {wheel m1 m2 Z1 Z2 : Int} (hw1 : 2 ≤ wheel) (hw2 : wheel ≤ 360) (h1 : wheel * Z1 - m1 * SS ≤ 101 * (wheel * UU)) (h2 : m2 * SS - wheel * Z2 ≤ 101 * (wheel * UU)) (h : m1 < m2) : Z1 < Z2 := by
  have hS := SS_pos
  have hU := UU_pos
  have eS := SU
  have hwu : wheel * UU ≤ 360 * UU := Int.mul_le_mul_of_nonneg_right hw2 (Int.le_of_lt hU)
  have e2 := Int.mul_le_mul_of_nonneg_right (show m1 + 1 ≤ m2 by omega) (Int.le_of_lt hS)
  rw [Int.add_mul, Int.one_mul] at e2
  exact Int.lt_of_mul_lt_mul_left (a := wheel) (by omega) (by omega)
theorem plain_law {wheel leap kind count : Int} {n : Nat} (hw1 : 2 ≤ wheel) (hw2 : wheel ≤ 360) (hl1 : 0 ≤ leap) (hl2 : leap < wheel) (hk1 : 0 ≤ kind) (hk2 : kind < 16)
    (hn : n ≤ 9) (hne : ∀ k : Int, 0 ≤ k → k < n → k = 0 ∨ (k * leap).fmod wheel ≠ 0) (hc1 : 1 ≤ count) (hc2 : count ≤ n) :
    laidF ((rangeKs 0 n).map (hueK wheel leap kind)) 10 (rangeKs 0 count.toNat) = leaptS count wheel leap := by
  refine order_law (by omega) hc1 (by omega) (fun k h0 h1 => hne k h0 (by omega)) fun v i v0 v1 i0 i1 => ?_
  have get : ∀ x : Int, 0 ≤ x → x < count → ((rangeKs 0 n).map (hueK wheel leap kind)).getD x.toNat 0 = hueK wheel leap kind x := fun x h0 h1 => by
    unfold rangeKs
    rw [List.getD_eq_getElem?_getD, List.map_map, List.getElem?_map, List.getElem?_range (by omega)]
    show hueK wheel leap kind (0 + (x.toNat : Int)) = _
    rw [show 0 + (x.toNat : Int) = x by omega]
  obtain ⟨_, Zi, zi, zi1, zi2⟩ := hue_k (kind := kind) hw1 hw2 hl1 hl2 i i0 (by omega) (hne i i0 (by omega))
  obtain ⟨_, Zv, zv, zv1, zv2⟩ := hue_k (kind := kind) hw1 hw2 hl1 hl2 v v0 (by omega) (hne v v0 (by omega))
  unfold ltF
  rw [get i i0 i1, get v v0 v1, cmp_lt_is zi zv]
  refine decide_eq_decide.mpr ⟨fun h => ?_, fun h => lt_of_place hw1 hw2 zi1 zv2 h⟩
  rcases Int.lt_trichotomy ((i * leap).fmod wheel) ((v * leap).fmod wheel) with h1 | h1 | h1
  · exact h1
  · have R := rf_of (wheel := wheel) (leap := leap) (N := count) (by omega) (fun k h0 h1 => hne k h0 (by omega))
    have e := R.inj i0 v0 i1 v1 h1
    subst e
    have e2 : Zi = Zv := zi.vl.symm.trans zv.vl
    omega
  · have := lt_of_place hw1 hw2 zv1 zi2 h1
    omega
end Mine
end
section
open PySem PySem.W PySem.Calls PySem.Spec PyProof.Rows
set_option Elab.async false
namespace Mine
set_option maxRecDepth 100000
theorem toldN' {w : World} {A₀ : Around} {s : Shared} {base h₀ : Heap} {outer : List Env} {L : Addr} {m : Str → Option Value} {news : List (Addr × Obj)}
  {p : Program} {loose : List Str} {mean : ExcName → Option Value} {mg mb : Str → Option Value}
  {dp un : Nat} {gd : Option (List Code)} {cn : Str} {cs : Scope} {a : Addr} {ccd : Value} {cl : List (Str × Addr)}
  {Q E : Value → Shared → Prop} {t1 t2 t3 : Tok} {wheel leap kind : Int} (hw1 : 2 ≤ wheel) (hw2 : wheel ≤ 360) (hl1 : 0 ≤ leap) (hl2 : leap < wheel) (hk1 : 0 ≤ kind) (hk2 : kind < 16)
  (B : Below A₀ base outer h₀) (F : Fr h₀ L s.heap m) (N : News h₀ L s.heap news) (X₀ : (hd.heap_39 w.params).In h₀) (T : Top p loose mean mg mb h₀) (hke : cs.kind = .function)
  (hroom : dp + 15 < recursionLimit)
  (hret : ∀ l vs nn n h' tk, ToldN wheel leap kind n vs → Fr h₀ L h' m → News h₀ L h' ((l, W.listOf vs.toArray nn) :: news) → AllNe l news → Q (.ref l) { s with heap := h', toks := tk }) :
  wpAny (model PR w) (ktrTop dp un gd cn cs L a ccd cl outer) (call (.ref 42) [.int wheel t1, .int leap t2, .int kind t3]) Q E s :=
  told0 hw1 hw2 hl1 hl2 hk1 hk2 B F X₀ T hke hroom (spot_ok hw1 hw2 hl1 hl2 hk1 hk2) (spot_inf hw1 hw2 hl1 hl2 hk1 hk2) fun l vs nn n L' m' h' tk F2 N2 hT => by
    obtain ⟨F3, N3, hne⟩ := led_of F N F2 N2
    exact hret l vs nn n h' tk hT F3 N3 (allNe_of (hne _ (.head _)))
theorem leaptN {w : World} {A₀ : Around} {s : Shared} {base h₀ : Heap} {outer : List Env} {L : Addr} {m : Str → Option Value} {news : List (Addr × Obj)}
  {p : Program} {loose : List Str} {mean : ExcName → Option Value} {mg mb : Str → Option Value}
  {dp un : Nat} {gd : Option (List Code)} {cn : Str} {cs : Scope} {a : Addr} {ccd : Value} {cl : List (Str × Addr)}
  {Q E : Value → Shared → Prop} {t1 t2 t3 : Tok} {count wheel leap : Int} (hw1 : 2 ≤ wheel) (hw2 : wheel ≤ 360) (hl1 : 0 ≤ leap) (hl2 : leap < wheel) (hc1 : 1 ≤ count) (hc2 : count ≤ 9)
  (B : Below A₀ base outer h₀) (F : Fr h₀ L s.heap m) (N : News h₀ L s.heap news) (X₀ : (hd.heap_39 w.params).In h₀) (T : Top p loose mean mg mb h₀) (hke : cs.kind = .function)
  (hroom : dp + 15 < recursionLimit) (hun : un + 200 < cLine)
  (hret : ∀ r vals n3 h' tk, IntsAre vals (leaptS count wheel leap) → Fr h₀ L h' m → News h₀ L h' ((r, W.listOf vals.toArray n3) :: news) → AllNe r news → Q (.ref r) { s with heap := h', toks := tk }) :
  wpAny (model PR w) (ktrTop dp un gd cn cs L a ccd cl outer) (call (.ref 54) [.int count t1, .int wheel t2, .int leap t3]) Q E s :=
  leapt0 hw1 hw2 hl1 hl2 hc1 hc2 B F X₀ T hke hroom hun fun r vals n3 h' tk hkp hfr hI => by
    obtain ⟨F3, N3, hne⟩ := led_of2 F N hkp hfr
    exact hret r vals n3 h' tk hI F3 N3 (allNe_of (hne _ (.head _)))
end Mine
end
section
open PySem PySem.W PySem.Calls PySem.Spec PyProof.Rows
set_option Elab.async false
namespace Mine
set_option maxRecDepth 100000
set_option maxHeartbeats 8000000
theorem off_7 : True := by w_top off; trivial
local macro_rules | `(tactic| walk_at "no such key of mine") => `(tactic| skip)
local macro_rules | `(tactic| walk_at "exec For Name Call cons nil") => `(tactic| (k_here; (rename Fr _ _ _ _ => lF'); (with_unfolding_all refine' For_invVF lF' ?k1 ?k2 ?_; (case k1 => exact rfl); (case k2 => exact rfl); k_whole)))
theorem nums_ok (l : List Int) : ∀ x ∈ l.map (fun k' => Int.fmod k' 5744), 0 ≤ x ∧ x < 5744 := by
  intro x hx
  obtain ⟨y, _, rfl⟩ := List.mem_map.mp hx
  exact ⟨Int.fmod_nonneg_of_pos _ (by decide), Int.fmod_lt_of_pos _ (by decide)⟩
theorem half_ok (d : Nat) (hd : d ≤ 4) : 0 ≤ ((d : Int) + 1).fdiv 2 ∧ ((d : Int) + 1).fdiv 2 ≤ 2 ∧ ∀ i : Nat, (i : Int) < ((d : Int) + 1).fdiv 2 → 2 * (i : Int) + 1 < (d : Int) + 1 := by
  have h : d = 0 ∨ d = 1 ∨ d = 2 ∨ d = 3 ∨ d = 4 := by omega
  rcases h with rfl | rfl | rfl | rfl | rfl <;> refine ⟨by decide, by decide, fun i hi => ?_⟩
  · have : ((0 : Nat) : Int) + 1 = 1 := by decide
    rw [this, show Int.fdiv 1 2 = 0 by decide] at hi; omega
  · have : ((1 : Nat) : Int) + 1 = 2 := by decide
    rw [this, show Int.fdiv 2 2 = 1 by decide] at hi; omega
  · have : ((2 : Nat) : Int) + 1 = 3 := by decide
    rw [this, show Int.fdiv 3 2 = 1 by decide] at hi; omega
  · have : ((3 : Nat) : Int) + 1 = 4 := by decide
    rw [this, show Int.fdiv 4 2 = 2 by decide] at hi; omega
  · have : ((4 : Nat) : Int) + 1 = 5 := by decide
    rw [this, show Int.fdiv 5 2 = 2 by decide] at hi; omega
theorem getD_mem' {xs : List Int} {i : Nat} (h : i < xs.length) : xs.getD i 0 ∈ xs := by
  rw [List.getD_eq_getElem?_getD, List.getElem?_eq_getElem h]
  exact List.getElem_mem h
theorem item_ints {prog : Program} {w : World} {h₀ : Heap} {L : Addr} {news : List (Addr × Obj)} {s : Shared} {A : Around} {E : Value → Shared → Prop} {value slice : PySem.Expr} {l : Addr} {ys : List Value} {xs : List Int} {k : Int} {u : Tok} {Q : Value → Shared → Prop}
    (N : News h₀ L s.heap news) (hm : (l, LCg.lst ys) ∈ news) (hI : IntsAre ys xs) (h0 : 0 ≤ k) (hhi : k < xs.length) (hsm : xs.length < 100) (h : ∀ t, Q (.int (xs.getD k.toNat 0) t) s)
    (hs : subscripted slice false (.ref l) (.int k u) = operate [.ref l, .int k u] (getItem (.ref l) (.int k u)) := by with_unfolding_all rfl) :
    wpAny (model prog w) A (subscriptTail value slice (.ref l) (.int k u)) Q E s := by
  have hl : s.heap.IsList l ys.toArray := ⟨_, (N _ hm).1, rfl, _, rfl⟩
  have hk : k.toNat < xs.length := by omega
  obtain ⟨t, ht⟩ := hI.get k.toNat (xs.getD k.toNat 0) (by rw [List.getD_eq_getElem?_getD, List.getElem?_eq_getElem hk]; rfl)
  exact tail_any hl.typeIs slot_list_getitem.lookup (wpAny_getItem_list hl h0 (by omega) (by simpa using ht) (h t)) hs
local macro_rules | `(tactic| walk_at "subscriptTail Name BinOp ref int") => `(tactic| (k_here; k_dflt (refine' item_ints ?qN ?qm ?qf ?qa ?qb ?qc ?_; (case qN => k_asm); (case qm => k_mem); (case qf => assumption); (case qa => omega); (case qb => omega); (case qc => assumption)); intro _))
local macro_rules | `(tactic| walk_at "call builtin:len") => `(tactic| (k_here; (with_reducible show wpAny _ _ (call (Value.builtin "len") [Value.ref _]) _ _ _); k_dflt (refine' kst_len ?q1 ?q2 ?q3 ?q4 ?_; (case q1 => k_asm); (case q2 => k_mem); (case q3 => assumption); (case q4 => omega)); k_whole))
theorem perm3 {α : Type} {a b c : α} {l : List α} {q : α} (h : q ∈ a :: b :: c :: l) : q ∈ a :: c :: b :: l := by
  rcases List.mem_cons.mp h with rfl | h
  · exact .head _
  rcases List.mem_cons.mp h with rfl | h
  · exact .tail _ (.tail _ (.head _))
  rcases List.mem_cons.mp h with rfl | h
  · exact .tail _ (.head _)
  exact .tail _ (.tail _ (.tail _ h))
theorem apart_of {a : Addr} {o : Obj} {l : List (Addr × Obj)} (h : AllNe a l) : Apart [(a, o)] l := fun p hp q hq e => by
  rw [List.mem_singleton.mp hp] at e
  exact allNe_all h q hq e.symm
theorem allNe_tl {a : Addr} {q : Addr × Obj} {l : List (Addr × Obj)} (h : AllNe a (q :: l)) : AllNe a l := h.2
theorem allNe_tail {a : Addr} {q q2 : Addr × Obj} {l : List (Addr × Obj)} (h : AllNe a (q :: q2 :: l)) : AllNe a l := h.2.2
theorem apart3 {a b c : Addr × Obj} {l : List (Addr × Obj)} (h1 : Apart [a] l) (h2 : Apart [b] l) (h3 : Apart [c] l) : Apart [a, b, c] l := fun p hp q hq => by
  rcases List.mem_cons.mp hp with rfl | hp
  · exact h1 _ (.head _) q hq
  rcases List.mem_cons.mp hp with rfl | hp
  · exact h2 _ (.head _) q hq
  rw [List.mem_singleton.mp hp]
  exact h3 _ (.head _) q hq
theorem ints_range {zs : List Value} {j : Int} (h : IntsAre zs (List.map (fun k' => k') (rangeKs 0 (j - 0).toNat))) : IntsAre zs (rangeKs 0 j.toNat) := by
  simpa using h
theorem off_all {D : Addr} {o : Obj} : ∀ {l : List (Addr × Obj)}, LCg.Off1 D l → Apart [(D, o)] l
  | [], _, _, _, _, hq => nomatch hq
  | _ :: _, h, p, hp, q, hq => by
    rcases List.mem_cons.mp hq with rfl | hq
    · rw [List.mem_singleton.mp hp]
      exact fun e => h.1 e.symm
    · exact off_all h.2 p hp q hq
theorem apart5 {a b c d e : Addr × Obj} {l : List (Addr × Obj)} (h1 : Apart [a] l) (h2 : AllNe b.1 (c :: d :: e :: l)) (h3 : Apart [c, d, e] l) : Apart [a, b, c, d, e] l := fun p hp q hq => by
  rcases List.mem_cons.mp hp with rfl | hp
  · exact h1 _ (.head _) q hq
  rcases List.mem_cons.mp hp with rfl | hp
  · exact fun e => allNe_all h2.2.2.2 q hq e.symm
  exact h3 p hp q hq
theorem rangeKs_ne {n : Nat} (h : 0 < n) : rangeKs 0 n ≠ [] := fun e => by
  have := congrArg List.length e
  rw [rangeKs_length] at this
  simp at this
  omega
theorem rangeKs_in {j : Int} {n : Nat} {vs : List Value} {fs : List UInt64} (h : j ≤ n) (hl : vs.length = fs.length) (hv : vs.length = n) : ∀ i ∈ rangeKs 0 j.toNat, 0 ≤ i ∧ i < fs.length := fun i hi => by
  have := mem_rangeKs hi
  omega
theorem name_hd {h₀ h : Heap} {L a : Addr} {o : Obj} {rest : List (Addr × Obj)} (N : News h₀ L h ((a, o) :: rest)) : ∃ n : Nat, n = a ∧ News h₀ L h ((n, o) :: rest) := ⟨a, rfl, N⟩
theorem lst3 {h₀ h : Heap} {L a : Addr} {rest : List (Addr × Obj)} {x y z : Int} {t u v : Tok} (N : News h₀ L h ((a, LCg.lst [.int x t, .int y u, .int z v]) :: rest)) : ∃ ys, IntsAre ys [x, y, z] ∧ News h₀ L h ((a, LCg.lst ys) :: rest) :=
  ⟨_, .cons _ _ (.cons _ _ (.cons _ _ .nil)), N⟩
theorem led_in {a b c : Addr × Obj} {l : List (Addr × Obj)} : ∀ q ∈ b :: l, q ∈ a :: b :: c :: l := fun q hq => by
  rcases List.mem_cons.mp hq with rfl | hq
  · exact .tail _ (.head _)
  · exact .tail _ (.tail _ (.tail _ hq))
theorem ne_led2 {I : Addr} {oI : Obj} {a b : Addr × Obj} {l l2 : List (Addr × Obj)} (h : AllNe I (b :: l)) (h2 : Apart [a, b, (I, oI)] l2) : ∀ q ∈ b :: l2, q.1 ≠ I := fun q hq => by
  rcases List.mem_cons.mp hq with rfl | hq
  · exact h.1
  exact fun e => h2 _ (.tail _ (.tail _ (.head _))) q hq e.symm
theorem not4 {z a b c d : Str} (h : [a, b, c, d].contains z = false) : ¬ z = a ∧ ¬ z = b ∧ ¬ z = c ∧ ¬ z = d := by
  simpa only [List.contains_cons, List.contains_nil, Bool.or_false, Bool.or_eq_false_iff, beq_eq_false_iff_ne, ne_eq] using h
theorem grown_tab {h₀ h : Heap} {L : Addr} {q : Addr × Obj} {c : Tab} (N : News h₀ L h (q :: tabLed c)) : GrownAll [(48, 44)] h := by
  cases c
  · exact ⟨GrownAt.of N (.tail _ (.head _)), True.intro⟩
  · exact ⟨GrownAt.of N (.tail _ (.head _)), True.intro⟩
theorem ne_led {J : Addr} {oJ : Obj} {a b c d : Addr × Obj} {l l2 X : List (Addr × Obj)} (h : AllNe J (a :: b :: c :: l)) (h2 : Apart (d :: (J, oJ) :: X) l2) : ∀ q ∈ a :: b :: c :: l2, q.1 ≠ J := fun q hq => by
  rcases List.mem_cons.mp hq with rfl | hq
  · exact h.1
  rcases List.mem_cons.mp hq with rfl | hq
  · exact h.2.1
  rcases List.mem_cons.mp hq with rfl | hq
  · exact h.2.2.1
  exact fun e => h2 _ (.tail _ (.head _)) q hq e.symm
theorem fdiv359 {x : Int} (h0 : 0 ≤ x) (h1 : x < 5744) : 0 ≤ x.fdiv 359 ∧ x.fdiv 359 < 16 := by
  rw [Int.fdiv_eq_ediv_of_nonneg _ (by decide)]
  omega
theorem x0 : PySem.Challenge.rw_mq0084_01.Holds := hd (by
  w_strict (k_go0)
  all_goals try k_fold
  k_with "pyIter ref" => refine stop ?_
  k_steps
  k_with_none
  · show Stop _
    unfold Stop
    rename Fr _ _ _ _ => eF
    rename News _ _ _ _ => eN
    rename IsRange _ _ _ _ _ _ _ _ => rgX
    rename CodeHd _ _ _ => hCode
    obtain ⟨ys, hIx, eN⟩ := lst3 eN
    have hx : ∀ x ∈ [Int.fmod 358 5744, Int.fmod 136 5744, Int.fmod 88 5744], 0 ≤ x ∧ x < 5744 := by decide
    have hxl : (([Int.fmod 358 5744, Int.fmod 136 5744, Int.fmod 88 5744] : List Int).length : Int) = 3 := rfl
    generalize [Int.fmod 358 5744, Int.fmod 136 5744, Int.fmod 88 5744] = xs at hIx hx hxl
    obtain ⟨b0, hb0⟩ : ∃ b, b = ((2 : Int) + 1).fdiv 2 := ⟨_, rfl⟩
    rw [← hb0] at rgX
    replace hb0 : b0 = 1 := hb0.trans (by decide)
    have hb1 : 0 ≤ b0 := by omega
    have hb2 : b0 ≤ 2 := by omega
    have hbn : ∀ i : Nat, (i : Int) < b0 → 2 * (i : Int) + 1 < (xs.length : Int) := fun i hi => by omega
    clear hb0
    obtain ⟨nD, hnD, eN⟩ := name_hd eN
    subst hnD
    refine' rng_loop (σ := Tab) (n := b0.toNat) (fun c => (nD, LCg.lst ys) :: tabLed c) [Str.ofString "wheel", Str.ofString "leap", Str.ofString "told", Str.ofString "count"] (fun _ c => TabOk c ∧ Apart [(nD, LCg.lst ys)] (tabLed c)) .empty rfl rgX (small_one (by omega) (by omega) (by omega) (by omega)) (by rw [rangeSize_nat]; simp) eF (kst_newsOf eN ?kn) ?kp ?kt ?kd
    case kn =>
      intro q hq
      rcases List.mem_cons.mp hq with rfl | hq
      · exact .head _
      · rw [List.mem_singleton.mp hq]
        repeat' first | exact List.Mem.head _ | refine List.Mem.tail _ ?_
    case kp =>
      refine ⟨trivial, fun q hq q2 hq2 => ?_⟩
      rw [List.mem_singleton.mp hq, List.mem_singleton.mp hq2]
      exact neN (by omega)
    case kt =>
      clear eF eN
      intro c i t u h tk I oI hin ⟨hTab, hAp⟩ hneI kF kN
      have hi0 : (i : Int) < b0 := by omega
      have hix := hbn i hi0
      clear hbn
      replace hTab := PySem.Flt.Hid.mk hTab
      replace hAp := PySem.Flt.Hid.mk hAp
      replace hneI := PySem.Flt.Hid.mk hneI
      have hxA := hx (xs.getD (2 * (0 + (i : Int))).toNat 0) (getD_mem' (by omega))
      have hxB := hx (xs.getD (2 * (0 + (i : Int)) + 1).toNat 0) (getD_mem' (by omega))
      replace hx := PySem.Flt.Hid.mk hx
      have hMk := kstMark
      have hwf1 := Int.fmod_nonneg_of_pos (xs.getD (2 * (0 + (i : Int))).toNat 0) (b := 359) (by decide)
      have hwf2 := Int.fmod_lt_of_pos (xs.getD (2 * (0 + (i : Int))).toNat 0) (b := 359) (by decide)
      dsimp only [envOf] at kF kN
      (try k_fold)
      have hxs9 : xs.length < 100 := by omega
      k_with "call ref" => refine stop ?_
      k_steps
      k_with_none
      show Stop _
      unfold Stop
      rename Fr _ _ _ _ => eF
      rename News _ _ _ _ => eN
      have hkd := fdiv359 hxA.1 hxA.2
      have hw1 : 2 ≤ 2 + (xs.getD (2 * (0 + (i : Int))).toNat 0).fmod 359 := by omega
      have hw2 : 2 + (xs.getD (2 * (0 + (i : Int))).toNat 0).fmod 359 ≤ 360 := by omega
      clear hwf1 hwf2
      generalize 2 + (xs.getD (2 * (0 + (i : Int))).toNat 0).fmod 359 = wheel at *
      have hl1 := Int.fmod_nonneg_of_pos (1 + xs.getD (2 * (0 + (i : Int)) + 1).toNat 0) (b := wheel) (by omega)
      have hl2 := Int.fmod_lt_of_pos (1 + xs.getD (2 * (0 + (i : Int)) + 1).toNat 0) (b := wheel) (by omega)
      generalize (1 + xs.getD (2 * (0 + (i : Int)) + 1).toNat 0).fmod wheel = leap at *
      generalize (xs.getD (2 * (0 + (i : Int))).toNat 0).fdiv 359 = kind at *
      clear hxA hxB
      k_dflt (refine' toldN' hw1 hw2 hl1 hl2 hkd.1 hkd.2 ?q1 eF eN ?q2 ?q3 rfl ?q4 ?_; (case q1 => k_asm); (case q2 => k_asm); (case q3 => k_asm); (case q4 => decide))
      intro ta vs nn n h' tk hT F' N' hD
      clear eF eN
      have hvl : vs.length = n := by rw [hT.are.length, List.length_map, rangeKs_length]
      have hn1 := hT.pos
      have hn9 := hT.le
      replace hT := PySem.Flt.Hid.mk hT
      dsimp only
      (try k_fold)
      k_with "pyIter ref" => refine stop ?_
      k_steps
      k_with_none
      show Stop _
      unfold Stop
      rename Fr _ _ _ _ => eF
      rename News _ _ _ _ => eN
      rename IsRange _ _ _ _ _ _ _ _ => rgY
      refine' rng_loop (σ := Tab) (n := n) (fun c => (ta, W.listOf vs.toArray nn) :: (nD, LCg.lst ys) :: (I, oI) :: tabLed c) [] (fun _ c => TabOk c ∧ Apart [(ta, W.listOf vs.toArray nn), (nD, LCg.lst ys), (I, oI)] (tabLed c)) c rfl rgY (small_one (by omega) (by omega) (by omega) (by omega)) (by rw [rangeSize_nat]; omega) eF (kst_newsOf eN ?jn) ?jp ?jt ?jd
      case jn => exact fun q hq => perm3 hq
      case jp => exact ⟨hTab.out, apart3 (apart_of (allNe_tail hD)) hAp.out (apart_of (allNe_tl hneI.out))⟩
      case jd =>
        clear eF eN
        intro c2 u2 h tk ⟨hTab2, hAp2⟩ kF kN
        dsimp only [envOf] at kF kN
        dsimp only
        refine wpAny_execs_nil ?_
        (show RngEnd _ _ _ _ _ _ _ _ _ _ _; exact ⟨c2, _, _, _, _, rfl, kF, kN, .tail _ (.tail _ (.head _)), led_in, ne_led2 hneI.out hAp2, fun z h1 h2 => by
          obtain ⟨a1, a2, a3, a4⟩ := not4 h2
          rw [if_neg a4, if_neg (by simp), if_neg a3, if_neg a2, if_neg a1, if_neg h1, if_neg (by rw [h2]; decide)], hTab2, fun p hp => hAp2 p (.tail _ (by rw [List.mem_singleton.mp hp]; exact .head _))⟩)
      case jt =>
        clear eF eN
        intro c2 j t2 u2 h tk J oJ hjn ⟨hTab2, hAp2⟩ hneJ kF kN
        replace hTab := PySem.Flt.Hid.mk hTab2
        replace hAp := PySem.Flt.Hid.mk hAp2
        replace hneJ := PySem.Flt.Hid.mk hneJ
        clear hTab2 hAp2
        dsimp only [envOf] at kF kN
        (try k_fold)
        k_with "call ref" => refine stop ?_
        k_steps
        k_with_none
        show Stop _
        unfold Stop
        rename IntsAre _ (List.map _ (rangeKs _ _)) => hI8
        rename Fr _ _ _ _ => eF
        rename News _ _ _ _ => eN
        rename List Value => zs
        rename _ ∧ _ ∧ _ ∧ _ ∧ LCg.Off1 _ (tabLed c2) => hO
        replace hI8 := ints_range hI8
        refine' laid_any (k := 9) (n1 := nn) (rest := [(_, LCg.lst zs), (J, oJ), (ta, W.listOf vs.toArray nn), (nD, LCg.lst ys), (I, oI)]) c2 ?q1 eF ?q2 ?q3 rfl hCode ?q4 ?q5 eN hTab.out (apart5 (off_all hO.2.2.2.2) hneJ.out hAp.out) (.tail _ (.tail _ (.head _))) (.head _) hI8 hT.out.are (rangeKs_ne (by omega)) (rangeKs_in (by omega) hT.out.are.length hvl) (by rw [List.length_map, rangeKs_length]; omega) (by rw [rangeKs_length]; omega) (by decide) ?_
        case q1 => k_asm
        case q2 => k_asm
        case q3 => k_asm
        case q4 => decide
        case q5 => decide
        intro r vals' n3 c3 h' tk hTab3 hAp3 F3 N3 hI3
        clear eF eN hO
        rw [plain_law hw1 hw2 hl1 hl2 hkd.1 hkd.2 hn9 hT.out.ne (count := 1 + (j : Int)) (by omega) (by omega)] at hI3
        replace hTab3 := PySem.Flt.Hid.mk hTab3
        replace hAp3 := PySem.Flt.Hid.mk hAp3
        dsimp only
        (try k_fold)
        k_with "call ref" => refine stop ?_
        k_steps
        k_with_none
        show Stop _
        unfold Stop
        simp only [List.cons_append, List.nil_append] at N3
        k_dflt (refine' leaptN hw1 hw2 hl1 hl2 ?qa ?qb ?q1 F3 N3 ?q2 ?q3 rfl ?q4 ?q5 ?_; (case qa => omega); (case qb => omega); (case q1 => k_asm); (case q2 => k_asm); (case q3 => k_asm); (case q4 => decide); (case q5 => decide))
        intro r2 vals2 n4 h2' tk2 hI4 F4 N4 hD4
        clear F3 N3
        dsimp only
        (try k_fold)
        k_steps
        (show RngEnd _ _ _ _ _ _ _ _ _ _ _; exact ⟨c3, _, _, _, _, rfl, F4, N4, .tail _ (.tail _ (.tail _ (.head _))), fun q hq => .tail _ (.tail _ (.tail _ (.tail _ hq))), ne_led hneJ.out hAp3.out, fun z h1 h2 => by
          rw [if_neg h1, if_neg (by rw [h2]; decide)], hTab3.out, fun p hp => hAp3.out p (.tail _ (.tail _ hp))⟩)
    case kd =>
      clear eF eN
      intro c u h tk ⟨hTab, hAp⟩ kF kN
      dsimp only [envOf] at kF kN
      dsimp only
      (try k_fold)
      iterate 4 walk1
      rotate_left
      · exact grown_tab kN
      k_end
      wrow_close
  · show Stop _
    unfold Stop
    rename Fr _ _ _ _ => eF
    rename News _ _ _ _ => eN
    rename IsRange _ _ _ _ _ _ _ _ => rgX
    rename IntsAre _ (List.map _ _) => hIx
    rename CodeHd _ _ _ => hCode
    rename (List.take 4 _).length = _ => hdl
    rename List Int => sc
    have hx := nums_ok (List.take 4 sc ++ [88])
    obtain ⟨hb1, hb2, hbn⟩ := half_ok (List.take 4 sc).length (by rw [hdl]; omega)
    have hxl : (((List.take 4 sc ++ [88]).map (fun k' => Int.fmod k' 5744)).length : Int) = ((List.take 4 sc).length : Int) + 1 := by simp
    generalize hxs : List.map (fun k' => Int.fmod k' 5744) (List.take 4 sc ++ [88]) = xs at hIx hx hxl
    rw [← hxl] at hbn hb1 hb2 rgX
    rename List Value => ys
    clear hxs
    generalize Int.fdiv (xs.length : Int) 2 = b0 at rgX hbn hb1 hb2
    obtain ⟨nD, hnD, eN⟩ := name_hd eN
    subst hnD
    refine' rng_loop (σ := Tab) (n := b0.toNat) (fun c => (nD, LCg.lst ys) :: tabLed c) [Str.ofString "wheel", Str.ofString "leap", Str.ofString "told", Str.ofString "count"] (fun _ c => TabOk c ∧ Apart [(nD, LCg.lst ys)] (tabLed c)) .empty rfl rgX (small_one (by omega) (by omega) (by omega) (by omega)) (by rw [rangeSize_nat]; simp) eF (kst_newsOf eN ?kn) ?kp ?kt ?kd
    case kn =>
      intro q hq
      rcases List.mem_cons.mp hq with rfl | hq
      · exact .head _
      · rw [List.mem_singleton.mp hq]
        repeat' first | exact List.Mem.head _ | refine List.Mem.tail _ ?_
    case kp =>
      refine ⟨trivial, fun q hq q2 hq2 => ?_⟩
      rw [List.mem_singleton.mp hq, List.mem_singleton.mp hq2]
      exact neN (by omega)
    case kt =>
      clear eF eN
      intro c i t u h tk I oI hin ⟨hTab, hAp⟩ hneI kF kN
      have hi0 : (i : Int) < b0 := by omega
      have hix := hbn i hi0
      clear hbn
      replace hTab := PySem.Flt.Hid.mk hTab
      replace hAp := PySem.Flt.Hid.mk hAp
      replace hneI := PySem.Flt.Hid.mk hneI
      have hxA := hx (xs.getD (2 * (0 + (i : Int))).toNat 0) (getD_mem' (by omega))
      have hxB := hx (xs.getD (2 * (0 + (i : Int)) + 1).toNat 0) (getD_mem' (by omega))
      replace hx := PySem.Flt.Hid.mk hx
      have hMk := kstMark
      have hwf1 := Int.fmod_nonneg_of_pos (xs.getD (2 * (0 + (i : Int))).toNat 0) (b := 359) (by decide)
      have hwf2 := Int.fmod_lt_of_pos (xs.getD (2 * (0 + (i : Int))).toNat 0) (b := 359) (by decide)
      dsimp only [envOf] at kF kN
      (try k_fold)
      have hxs9 : xs.length < 100 := by omega
      k_with "call ref" => refine stop ?_
      k_steps
      k_with_none
      show Stop _
      unfold Stop
      rename Fr _ _ _ _ => eF
      rename News _ _ _ _ => eN
      have hkd := fdiv359 hxA.1 hxA.2
      have hw1 : 2 ≤ 2 + (xs.getD (2 * (0 + (i : Int))).toNat 0).fmod 359 := by omega
      have hw2 : 2 + (xs.getD (2 * (0 + (i : Int))).toNat 0).fmod 359 ≤ 360 := by omega
      clear hwf1 hwf2
      generalize 2 + (xs.getD (2 * (0 + (i : Int))).toNat 0).fmod 359 = wheel at *
      have hl1 := Int.fmod_nonneg_of_pos (1 + xs.getD (2 * (0 + (i : Int)) + 1).toNat 0) (b := wheel) (by omega)
      have hl2 := Int.fmod_lt_of_pos (1 + xs.getD (2 * (0 + (i : Int)) + 1).toNat 0) (b := wheel) (by omega)
      generalize (1 + xs.getD (2 * (0 + (i : Int)) + 1).toNat 0).fmod wheel = leap at *
      generalize (xs.getD (2 * (0 + (i : Int))).toNat 0).fdiv 359 = kind at *
      clear hxA hxB
      k_dflt (refine' toldN' hw1 hw2 hl1 hl2 hkd.1 hkd.2 ?q1 eF eN ?q2 ?q3 rfl ?q4 ?_; (case q1 => k_asm); (case q2 => k_asm); (case q3 => k_asm); (case q4 => decide))
      intro ta vs nn n h' tk hT F' N' hD
      clear eF eN
      have hvl : vs.length = n := by rw [hT.are.length, List.length_map, rangeKs_length]
      have hn1 := hT.pos
      have hn9 := hT.le
      replace hT := PySem.Flt.Hid.mk hT
      dsimp only
      (try k_fold)
      k_with "pyIter ref" => refine stop ?_
      k_steps
      k_with_none
      show Stop _
      unfold Stop
      rename Fr _ _ _ _ => eF
      rename News _ _ _ _ => eN
      rename IsRange _ _ _ _ _ _ _ _ => rgY
      refine' rng_loop (σ := Tab) (n := n) (fun c => (ta, W.listOf vs.toArray nn) :: (nD, LCg.lst ys) :: (I, oI) :: tabLed c) [] (fun _ c => TabOk c ∧ Apart [(ta, W.listOf vs.toArray nn), (nD, LCg.lst ys), (I, oI)] (tabLed c)) c rfl rgY (small_one (by omega) (by omega) (by omega) (by omega)) (by rw [rangeSize_nat]; omega) eF (kst_newsOf eN ?jn) ?jp ?jt ?jd
      case jn => exact fun q hq => perm3 hq
      case jp => exact ⟨hTab.out, apart3 (apart_of (allNe_tail hD)) hAp.out (apart_of (allNe_tl hneI.out))⟩
      case jd =>
        clear eF eN
        intro c2 u2 h tk ⟨hTab2, hAp2⟩ kF kN
        dsimp only [envOf] at kF kN
        dsimp only
        refine wpAny_execs_nil ?_
        (show RngEnd _ _ _ _ _ _ _ _ _ _ _; exact ⟨c2, _, _, _, _, rfl, kF, kN, .tail _ (.tail _ (.head _)), led_in, ne_led2 hneI.out hAp2, fun z h1 h2 => by
          obtain ⟨a1, a2, a3, a4⟩ := not4 h2
          rw [if_neg a4, if_neg (by simp), if_neg a3, if_neg a2, if_neg a1, if_neg h1, if_neg (by rw [h2]; decide)], hTab2, fun p hp => hAp2 p (.tail _ (by rw [List.mem_singleton.mp hp]; exact .head _))⟩)
      case jt =>
        clear eF eN
        intro c2 j t2 u2 h tk J oJ hjn ⟨hTab2, hAp2⟩ hneJ kF kN
        replace hTab := PySem.Flt.Hid.mk hTab2
        replace hAp := PySem.Flt.Hid.mk hAp2
        replace hneJ := PySem.Flt.Hid.mk hneJ
        clear hTab2 hAp2
        dsimp only [envOf] at kF kN
        (try k_fold)
        k_with "call ref" => refine stop ?_
        k_steps
        k_with_none
        show Stop _
        unfold Stop
        rename IntsAre _ (List.map _ (rangeKs _ _)) => hI8
        rename Fr _ _ _ _ => eF
        rename News _ _ _ _ => eN
        rename List Value => zs
        rename _ ∧ _ ∧ _ ∧ _ ∧ LCg.Off1 _ (tabLed c2) => hO
        replace hI8 := ints_range hI8
        refine' laid_any (k := 9) (n1 := nn) (rest := [(_, LCg.lst zs), (J, oJ), (ta, W.listOf vs.toArray nn), (nD, LCg.lst ys), (I, oI)]) c2 ?q1 eF ?q2 ?q3 rfl hCode ?q4 ?q5 eN hTab.out (apart5 (off_all hO.2.2.2.2) hneJ.out hAp.out) (.tail _ (.tail _ (.head _))) (.head _) hI8 hT.out.are (rangeKs_ne (by omega)) (rangeKs_in (by omega) hT.out.are.length hvl) (by rw [List.length_map, rangeKs_length]; omega) (by rw [rangeKs_length]; omega) (by decide) ?_
        case q1 => k_asm
        case q2 => k_asm
        case q3 => k_asm
        case q4 => decide
        case q5 => decide
        intro r vals' n3 c3 h' tk hTab3 hAp3 F3 N3 hI3
        clear eF eN hO
        rw [plain_law hw1 hw2 hl1 hl2 hkd.1 hkd.2 hn9 hT.out.ne (count := 1 + (j : Int)) (by omega) (by omega)] at hI3
        replace hTab3 := PySem.Flt.Hid.mk hTab3
        replace hAp3 := PySem.Flt.Hid.mk hAp3
        dsimp only
        (try k_fold)
        k_with "call ref" => refine stop ?_
        k_steps
        k_with_none
        show Stop _
        unfold Stop
        simp only [List.cons_append, List.nil_append] at N3
        k_dflt (refine' leaptN hw1 hw2 hl1 hl2 ?qa ?qb ?q1 F3 N3 ?q2 ?q3 rfl ?q4 ?q5 ?_; (case qa => omega); (case qb => omega); (case q1 => k_asm); (case q2 => k_asm); (case q3 => k_asm); (case q4 => decide); (case q5 => decide))
        intro r2 vals2 n4 h2' tk2 hI4 F4 N4 hD4
        clear F3 N3
        dsimp only
        (try k_fold)
        k_steps
        (show RngEnd _ _ _ _ _ _ _ _ _ _ _; exact ⟨c3, _, _, _, _, rfl, F4, N4, .tail _ (.tail _ (.tail _ (.head _))), fun q hq => .tail _ (.tail _ (.tail _ (.tail _ hq))), ne_led hneJ.out hAp3.out, fun z h1 h2 => by
          rw [if_neg h1, if_neg (by rw [h2]; decide)], hTab3.out, fun p hp => hAp3.out p (.tail _ (.tail _ hp))⟩)
    case kd =>
      clear eF eN
      intro c u h tk ⟨hTab, hAp⟩ kF kN
      dsimp only [envOf] at kF kN
      dsimp only
      (try k_fold)
      iterate 4 walk1
      rotate_left
      · exact grown_tab kN
      k_end
      wrow_close
  )
end Mine
end
theorem PySem.Challenge.cw_mq0084_01_holds : PySem.Challenge.rw_mq0084_01.Holds :=
  Mine.x0
