import PyProof.Rows.All
import Wide.All
import OpenK.AllK
import Wide.FinOn
import PySem.Challenge.RW_tr0037_01
set_option Elab.async false
set_option maxRecDepth 100000
namespace Mine
local macro_rules | `(tactic| walk_at $s:str) => `(tactic| k_extra $s)
section
open PySem PySem.W PyProof.Rows
set_option maxHeartbeats 8000000 in
open_top hd for PySem.Challenge.rw_tr0037_01
end
section
open PySem PySem.W PySem.Calls PyProof.Rows
/-- what a call of the def at f does: on the arguments vs it hands back a value v, having made the objects own -/
noncomputable def Ctr (w : World) (mean : ExcName → Option Value) (mg mb : Str → Option Value) (f : Addr) (vs : List Value) (dd uu : Nat)
    (Pre : Heap → List (Addr × Obj) → Nat → Prop) (Post : Value → List (Addr × Obj) → Prop) : Prop :=
  ∀ (dp un : Nat) (gd : Option (List Code)) (cn : Str) (cs : Scope) (a : Addr) (ccd : Value) (cl : List (Str × Addr)) (outer : List Env) (A₀ : Around) (base h₀ : Heap) (L : Addr) (m : Str → Option Value) (news : List (Addr × Obj)) (s : Shared) (Q E : Value → Shared → Prop),
    Below A₀ base outer h₀ → Fr h₀ L s.heap m → (hd.heap_39 w.params).In h₀ → News h₀ L s.heap news → Top hd.view_39 (looseW hd.view_39 [Str.ofString "COMPILER_FLAG_NAMES"]) mean mg mb h₀ → cs.kind = .function → Pre base news s.toks → dp + dd < recursionLimit → un + uu < cLine →
    (∀ v own h' tk', Fr h₀ L h' m → News h₀ L h' (own ++ news) → (∀ q ∈ news, ∀ p ∈ own, q.1 < p.1) → Post v own → Q v { s with heap := h', toks := tk' }) →
    wpAny (model PySem.Challenge.rw_tr0037_01.row.prog w) (ktrTop dp un gd cn cs L a ccd cl outer) (call (.ref f) vs) Q E s

/-- the same, where what comes back speaks of the counter of tokens too -/
noncomputable def CtrG (w : World) (mean : ExcName → Option Value) (mg mb : Str → Option Value) (f : Addr) (vs : List Value) (dd uu : Nat)
    (Pre : Heap → List (Addr × Obj) → Nat → Prop) (Post : Nat → Value → List (Addr × Obj) → Prop) : Prop :=
  ∀ (dp un : Nat) (gd : Option (List Code)) (cn : Str) (cs : Scope) (a : Addr) (ccd : Value) (cl : List (Str × Addr)) (outer : List Env) (A₀ : Around) (base h₀ : Heap) (L : Addr) (m : Str → Option Value) (news : List (Addr × Obj)) (s : Shared) (Q E : Value → Shared → Prop),
    Below A₀ base outer h₀ → Fr h₀ L s.heap m → (hd.heap_39 w.params).In h₀ → News h₀ L s.heap news → Top hd.view_39 (looseW hd.view_39 [Str.ofString "COMPILER_FLAG_NAMES"]) mean mg mb h₀ → cs.kind = .function → Pre base news s.toks → dp + dd < recursionLimit → un + uu < cLine →
    (∀ v own h' tk', Fr h₀ L h' m → News h₀ L h' (own ++ news) → (∀ q ∈ news, ∀ p ∈ own, q.1 < p.1) → Post tk' v own → Q v { s with heap := h', toks := tk' }) →
    wpAny (model PySem.Challenge.rw_tr0037_01.row.prog w) (ktrTop dp un gd cn cs L a ccd cl outer) (call (.ref f) vs) Q E s
theorem CtrG.use {w : World} {mean : ExcName → Option Value} {mg mb : Str → Option Value} {f : Addr} {vs : List Value} {dd uu : Nat} {Pre : Heap → List (Addr × Obj) → Nat → Prop} {Post : Nat → Value → List (Addr × Obj) → Prop} (C : CtrG w mean mg mb f vs dd uu Pre Post)
    {dp un : Nat} {gd : Option (List Code)} {cn : Str} {cs : Scope} {a : Addr} {ccd : Value} {cl : List (Str × Addr)} {outer : List Env} {A₀ : Around} {base h₀ : Heap} {L : Addr} {m : Str → Option Value} {news : List (Addr × Obj)} {s : Shared} {Q E : Value → Shared → Prop}
    (B : Below A₀ base outer h₀) (F : Fr h₀ L s.heap m) (X : (hd.heap_39 w.params).In h₀) (N : News h₀ L s.heap news) (T : Top hd.view_39 (looseW hd.view_39 [Str.ofString "COMPILER_FLAG_NAMES"]) mean mg mb h₀) (hk : cs.kind = .function) (hp : Pre base news s.toks) (h1 : dp + dd < recursionLimit) (h2 : un + uu < cLine)
    (ret : ∀ v own h' tk', Fr h₀ L h' m → News h₀ L h' (own ++ news) → (∀ q ∈ news, ∀ p ∈ own, q.1 < p.1) → Post tk' v own → Q v { s with heap := h', toks := tk' }) :
    wpAny (model PySem.Challenge.rw_tr0037_01.row.prog w) (ktrTop dp un gd cn cs L a ccd cl outer) (call (.ref f) vs) Q E s :=
  C dp un gd cn cs a ccd cl outer A₀ base h₀ L m news s Q E B F X N T hk hp h1 h2 ret
structure TkOk (n : Nat) : Prop where
  pos : 1 ≤ n
section
variable {prog : Program} {w : World} {A : Around} {E : Value → Shared → Prop} {s : Shared}
theorem toks_in {α : Type} {t : Sem α} {Q : α → Shared → Prop} (hT : TkOk s.toks) (h : wpAny (model prog w) A t (fun x s' => TkOk s'.toks → Q x s') E s) : wpAny (model prog w) A t Q E s :=
  wpAny_mono (wpAny_toks_of hT.pos h) (fun _ _ p => p.2 ⟨p.1⟩) fun _ _ p => p.2
theorem toks_le {α : Type} {t : Sem α} {Q : α → Shared → Prop} (h : wpAny (model prog w) A t (fun x s' => s.toks ≤ s'.toks → Q x s') E s) : wpAny (model prog w) A t Q E s :=
  wpAny_mono (wpAny_toks_of (Nat.le_refl _) h) (fun _ _ p => p.2 p.1) fun _ _ p => p.2
theorem gen_toks {α : Type} {M : Model} {t : Sem α} {Q : α → Shared → Prop} {heap : Heap} {gens : Array GenState} {drawn : Drawn} {os : OsState} {X : Nat} (hX : TkOk X)
    (h : ∀ tk, TkOk tk → wpAny M A t Q E ⟨heap, gens, drawn, tk, os⟩) : wpAny M A t Q E ⟨heap, gens, drawn, X, os⟩ := h X hX
theorem gen_le {α : Type} {M : Model} {t : Sem α} {Q : α → Shared → Prop} {heap : Heap} {gens : Array GenState} {drawn : Drawn} {os : OsState} {X : Nat}
    (h : ∀ tk, X ≤ tk → wpAny M A t Q E ⟨heap, gens, drawn, tk, os⟩) : wpAny M A t Q E ⟨heap, gens, drawn, X, os⟩ := h X (Nat.le_refl X)
end
theorem Ctr.use {w : World} {mean : ExcName → Option Value} {mg mb : Str → Option Value} {f : Addr} {vs : List Value} {dd uu : Nat} {Pre : Heap → List (Addr × Obj) → Nat → Prop} {Post : Value → List (Addr × Obj) → Prop} (C : Ctr w mean mg mb f vs dd uu Pre Post)
    {dp un : Nat} {gd : Option (List Code)} {cn : Str} {cs : Scope} {a : Addr} {ccd : Value} {cl : List (Str × Addr)} {outer : List Env} {A₀ : Around} {base h₀ : Heap} {L : Addr} {m : Str → Option Value} {news : List (Addr × Obj)} {s : Shared} {Q E : Value → Shared → Prop}
    (B : Below A₀ base outer h₀) (F : Fr h₀ L s.heap m) (X : (hd.heap_39 w.params).In h₀) (N : News h₀ L s.heap news) (T : Top hd.view_39 (looseW hd.view_39 [Str.ofString "COMPILER_FLAG_NAMES"]) mean mg mb h₀) (hk : cs.kind = .function) (hp : Pre base news s.toks) (h1 : dp + dd < recursionLimit) (h2 : un + uu < cLine)
    (ret : ∀ v own h' tk', Fr h₀ L h' m → News h₀ L h' (own ++ news) → (∀ q ∈ news, ∀ p ∈ own, q.1 < p.1) → Post v own → Q v { s with heap := h', toks := tk' }) :
    wpAny (model PySem.Challenge.rw_tr0037_01.row.prog w) (ktrTop dp un gd cn cs L a ccd cl outer) (call (.ref f) vs) Q E s :=
  C dp un gd cn cs a ccd cl outer A₀ base h₀ L m news s Q E B F X N T hk hp h1 h2 ret

noncomputable abbrev tupOf (vs : List Value) (n : Nat) : Obj := { cls := .type "tuple", data := .seq vs.toArray n }
end
section
open PySem PySem.W PySem.Calls PyProof.Rows
theorem own_one {D : Addr} {o : Obj} {news : List (Addr × Obj)} (l : ∀ q ∈ news, q.1 < D) : ∀ q ∈ news, ∀ p ∈ [(D, o)], q.1 < p.1 := fun q hq p hp => by rw [List.mem_singleton.mp hp]; exact l q hq
noncomputable def fgt (a b : UInt64) : Bool := Float64.cmp a b == some Ordering.gt
noncomputable def flt (a b : UInt64) : Bool := Float64.cmp a b == some Ordering.lt
noncomputable def fmax3 (a b c : UInt64) : UInt64 := if fgt b a then (if fgt c b then c else b) else (if fgt c a then c else a)
noncomputable def fmin3 (a b c : UInt64) : UInt64 := if flt b a then (if flt c b then c else b) else (if flt c a then c else a)

noncomputable def fItems (xs : Array (UInt64 × Tok)) : Array Value := xs.map fun p => .float p.1 p.2
noncomputable def fAt (xs : Array (UInt64 × Tok)) (i : Nat) : UInt64 := (xs[i]?.map (·.1)).getD 0
theorem fItems_at {xs : Array (UInt64 × Tok)} {i : Nat} {v : Value} (h : (fItems xs)[i]? = some v) : ∃ t, v = .float (fAt xs i) t := by
  simp only [fItems, Array.getElem?_map, Option.map_eq_some_iff] at h
  obtain ⟨p, hp, rfl⟩ := h
  exact ⟨p.2, by simp [fAt, hp]⟩
theorem cmp_floats_gt {prog : Program} {w : World} {A : Around} {P : Nat → Value → Prop} (val : Nat → UInt64) (hval : ∀ i v, P i v → ∃ t, v = .float (val i) t) :
    CmpOf prog w A .Gt P (fun i j => fgt (val i) (val j)) := fun i j vi vj s Q E hi hj h => by
  obtain ⟨t, rfl⟩ := hval i vi hi
  obtain ⟨u, rfl⟩ := hval j vj hj
  exact AutoFloatOps.gt_0 h
theorem cmp_floats_lt {prog : Program} {w : World} {A : Around} {P : Nat → Value → Prop} (val : Nat → UInt64) (hval : ∀ i v, P i v → ∃ t, v = .float (val i) t) :
    CmpOf prog w A .Lt P (fun i j => flt (val i) (val j)) := fun i j vi vj s Q E hi hj h => by
  obtain ⟨t, rfl⟩ := hval i vi hi
  obtain ⟨u, rfl⟩ := hval j vj hj
  exact AutoFloatOps.lt_0 h

section
variable {prog : Program} {w : World} {A : Around} {E : Value → Shared → Prop} {s : Shared} {h₀ : Heap} {L : Addr} {m : Str → Option Value} {news : List (Addr × Obj)}
theorem max_three_floats {a b c : UInt64} {t u x : Tok} {Q : Value → Shared → Prop} (hh : A.handled = none) (F : Fr h₀ L s.heap m) (N : News h₀ L s.heap news)
    (h : ∀ (y : UInt64) (t' : Tok) h' tk, y = fmax3 a b c → Fr h₀ L h' m → News h₀ L h' news → Q (.float y t') { s with heap := h', toks := tk }) :
    wpAny (model prog w) A (call (.builtin "max") [.float a t, .float b u, .float c x]) Q E s := by
  have hT : (s.heap.push { cls := .type "tuple", data := .seq #[.float a t, .float b u, .float c x] }).IsTuple s.heap.objs.size (fItems #[(a, t), (b, u), (c, x)]) := ⟨_, Heap.get?_push_size _ rfl, rfl, 0, by simp [fItems]⟩
  refine call_max_three (wpAny_pyIter_tuple hT ?_)
  have hsz : (s.heap.push { cls := .type "tuple", data := .seq #[.float a t, .float b u, .float c x] }).objs.size = s.heap.objs.size + 1 := Heap.size_push ..
  refine ⟨_, [_, s.heap.objs.size], [_], _, _, _, _, rfl, Walks.tuple (A := A.in1) hh _ s.heap.objs.size (by rw [hsz]; exact Nat.ne_of_lt (Nat.lt_succ_self _)) (fItems #[(a, t), (b, u), (c, x)]),
    ⟨⟨_, Heap.get?_push_size _ rfl, rfl, rfl⟩, hT.push _⟩, fun d hd => ?_, by simp [fItems], cmp_floats_gt (fAt #[(a, t), (b, u), (c, x)]) (fun _ _ => fItems_at), fun v h' tk hP hk => ?_⟩
  · show d < ((s.heap.push _).push _).objs.size
    rw [Heap.size_push, hsz]
    rcases List.mem_cons.mp hd with rfl | hd
    · rw [hsz]; exact Nat.lt_succ_self _
    · rcases List.mem_cons.mp hd with rfl | hd
      · exact Nat.lt_succ_of_lt (Nat.lt_succ_self _)
      · cases hd
  · have hold : ∀ d o, s.heap.get? d = some o → h'.get? d = some o := fun d o e => by
      refine hk d o (fun hm => ?_) (Heap.get?_push_of_some _ (Heap.get?_push_of_some _ e))
      rcases List.mem_cons.mp hm with e1 | hm
      · have := Heap.lt_size e; rw [e1, hsz] at this; exact Nat.lt_irrefl _ (Nat.lt_of_succ_lt this)
      · cases hm
    have hv : ∃ t', v = Value.float (fmax3 a b c) t' := by
      have hP' : (fItems #[(a, t), (b, u), (c, x)])[argBest (fun i j => fgt (fAt #[(a, t), (b, u), (c, x)] i) (fAt #[(a, t), (b, u), (c, x)] j)) 2]? = some v := by
        have hsz2 : (fItems #[(a, t), (b, u), (c, x)]).size - 1 = 2 := by simp [fItems]
        rw [← hsz2]; exact hP
      obtain ⟨t', rfl⟩ := fItems_at hP'
      refine ⟨t', ?_⟩
      congr 1
      unfold fmax3
      cases h1 : fgt b a <;> cases h2 : fgt c b <;> cases h3 : fgt c a <;> simp [argBest, fAt, h1, h2, h3]
    obtain ⟨t', rfl⟩ := hv
    exact h _ t' h' tk rfl (F.grownK hold) (N.grown hold)
theorem min_three_floats {a b c : UInt64} {t u x : Tok} {Q : Value → Shared → Prop} (hh : A.handled = none) (F : Fr h₀ L s.heap m) (N : News h₀ L s.heap news)
    (h : ∀ (y : UInt64) (t' : Tok) h' tk, y = fmin3 a b c → Fr h₀ L h' m → News h₀ L h' news → Q (.float y t') { s with heap := h', toks := tk }) :
    wpAny (model prog w) A (call (.builtin "min") [.float a t, .float b u, .float c x]) Q E s := by
  have hT : (s.heap.push { cls := .type "tuple", data := .seq #[.float a t, .float b u, .float c x] }).IsTuple s.heap.objs.size (fItems #[(a, t), (b, u), (c, x)]) := ⟨_, Heap.get?_push_size _ rfl, rfl, 0, by simp [fItems]⟩
  refine call_min_three (wpAny_pyIter_tuple hT ?_)
  have hsz : (s.heap.push { cls := .type "tuple", data := .seq #[.float a t, .float b u, .float c x] }).objs.size = s.heap.objs.size + 1 := Heap.size_push ..
  refine ⟨_, [_, s.heap.objs.size], [_], _, _, _, _, rfl, Walks.tuple (A := A.in1) hh _ s.heap.objs.size (by rw [hsz]; exact Nat.ne_of_lt (Nat.lt_succ_self _)) (fItems #[(a, t), (b, u), (c, x)]),
    ⟨⟨_, Heap.get?_push_size _ rfl, rfl, rfl⟩, hT.push _⟩, fun d hd => ?_, by simp [fItems], cmp_floats_lt (fAt #[(a, t), (b, u), (c, x)]) (fun _ _ => fItems_at), fun v h' tk hP hk => ?_⟩
  · show d < ((s.heap.push _).push _).objs.size
    rw [Heap.size_push, hsz]
    rcases List.mem_cons.mp hd with rfl | hd
    · rw [hsz]; exact Nat.lt_succ_self _
    · rcases List.mem_cons.mp hd with rfl | hd
      · exact Nat.lt_succ_of_lt (Nat.lt_succ_self _)
      · cases hd
  · have hold : ∀ d o, s.heap.get? d = some o → h'.get? d = some o := fun d o e => by
      refine hk d o (fun hm => ?_) (Heap.get?_push_of_some _ (Heap.get?_push_of_some _ e))
      rcases List.mem_cons.mp hm with e1 | hm
      · have := Heap.lt_size e; rw [e1, hsz] at this; exact Nat.lt_irrefl _ (Nat.lt_of_succ_lt this)
      · cases hm
    have hv : ∃ t', v = Value.float (fmin3 a b c) t' := by
      have hP' : (fItems #[(a, t), (b, u), (c, x)])[argBest (fun i j => flt (fAt #[(a, t), (b, u), (c, x)] i) (fAt #[(a, t), (b, u), (c, x)] j)) 2]? = some v := by
        have hsz2 : (fItems #[(a, t), (b, u), (c, x)]).size - 1 = 2 := by simp [fItems]
        rw [← hsz2]; exact hP
      obtain ⟨t', rfl⟩ := fItems_at hP'
      refine ⟨t', ?_⟩
      congr 1
      unfold fmin3
      cases h1 : flt b a <;> cases h2 : flt c b <;> cases h3 : flt c a <;> simp [argBest, fAt, h1, h2, h3]
    obtain ⟨t', rfl⟩ := hv
    exact h _ t' h' tk rfl (F.grownK hold) (N.grown hold)
theorem max_three_le {a b c : UInt64} {t u x : Tok} {Q : Value → Shared → Prop} (hh : A.handled = none) (F : Fr h₀ L s.heap m) (N : News h₀ L s.heap news)
    (h : ∀ (y : UInt64) (t' : Tok) h' tk, y = fmax3 a b c → Fr h₀ L h' m → News h₀ L h' news → s.toks ≤ tk → Q (.float y t') { s with heap := h', toks := tk }) :
    wpAny (model prog w) A (call (.builtin "max") [.float a t, .float b u, .float c x]) Q E s := toks_le (max_three_floats hh F N h)
theorem min_three_le {a b c : UInt64} {t u x : Tok} {Q : Value → Shared → Prop} (hh : A.handled = none) (F : Fr h₀ L s.heap m) (N : News h₀ L s.heap news)
    (h : ∀ (y : UInt64) (t' : Tok) h' tk, y = fmin3 a b c → Fr h₀ L h' m → News h₀ L h' news → s.toks ≤ tk → Q (.float y t') { s with heap := h', toks := tk }) :
    wpAny (model prog w) A (call (.builtin "min") [.float a t, .float b u, .float c x]) Q E s := toks_le (min_three_floats hh F N h)
end
end
section
open PySem PySem.W PySem.Calls PyProof.Rows
noncomputable def hueJ (h : UInt64) : Int := Flt.toInt Float64.truncOf (Float64.mul h 4618441417868443648)
noncomputable def hueP : UInt64 := Float64.mul 4607182418800017408 (Float64.sub 4607182418800017408 4607182418800017408)
noncomputable def hueQ (h : UInt64) : UInt64 := Float64.mul 4607182418800017408 (Float64.sub 4607182418800017408 (Float64.mul 4607182418800017408 (Float64.sub (Float64.mul h 4618441417868443648) (Float64.ofInt (hueJ h)))))
noncomputable def hueT (h : UInt64) : UInt64 := Float64.mul 4607182418800017408 (Float64.sub 4607182418800017408 (Float64.mul 4607182418800017408 (Float64.sub 4607182418800017408 (Float64.sub (Float64.mul h 4618441417868443648) (Float64.ofInt (hueJ h))))))
/-- what hsv_to_rgb(h, 1.0, 1.0) reckons, none where it raises -/
noncomputable def rgbF (h : UInt64) : Option (UInt64 × UInt64 × UInt64) :=
  if Float64.isFinite (Float64.mul h 4618441417868443648) = true then
    if (hueJ h).natAbs < 1000000 then
      if (hueJ h).fmod 6 = 0 then some (4607182418800017408, hueT h, hueP) else
      if (hueJ h).fmod 6 = 1 then some (hueQ h, 4607182418800017408, hueP) else
      if (hueJ h).fmod 6 = 2 then some (hueP, 4607182418800017408, hueT h) else
      if (hueJ h).fmod 6 = 3 then some (hueP, hueQ h, 4607182418800017408) else
      if (hueJ h).fmod 6 = 4 then some (hueT h, hueP, 4607182418800017408) else
      if (hueJ h).fmod 6 = 5 then some (4607182418800017408, hueP, hueQ h) else none
    else none
  else none
theorem hue_one : (Float64.cmp 4607182418800017408 0 == some Ordering.eq) = false := by decide +kernel
theorem hue_big {n : Nat} (h : n < 1000000) : ¬ (2 ^ 1024 - 2 ^ 970 ≤ n) := fun k => absurd (Nat.lt_of_lt_of_le h (Nat.le_trans (by decide +kernel : 1000000 ≤ 2 ^ 1024 - 2 ^ 970) k)) (Nat.lt_irrefl _)
theorem fin_not_nan {x : UInt64} (h : Float64.isFinite x = true) : ¬ Float64.isNaN x = true := by
  unfold Float64.isFinite at h
  unfold Float64.isNaN
  split at h <;> simp_all
theorem fin_not_inf {x : UInt64} (h : Float64.isFinite x = true) : ¬ Float64.isInf x = true := by
  unfold Float64.isFinite at h
  unfold Float64.isInf
  split at h <;> simp_all
theorem rgb_parts {h r g b : UInt64} (hp : rgbF h = some (r, g, b)) : Float64.isFinite (Float64.mul h 4618441417868443648) = true ∧ (hueJ h).natAbs < 1000000 := by
  unfold rgbF at hp
  split at hp
  · split at hp
    · exact ⟨by assumption, by assumption⟩
    · cases hp
  · cases hp
set_option maxHeartbeats 8000000 in
theorem c_hsv (w mean mg mb) (h r g b : UInt64) (th ts tv : Tok) (hpre : rgbF h = some (r, g, b)) :
    Ctr w mean mg mb 28 [.float h th, .float 4607182418800017408 ts, .float 4607182418800017408 tv] 1 8 (fun _ _ _ => True)
      (fun v own => ∃ D t1 t2 t3, v = .ref D ∧ own = [(D, tupOf [.float r t1, .float g t2, .float b t3] 0)]) := by
  w_top off
  k_with_none
  unfold Ctr
  k_fill
  intro dp un gd cn cs a ccd cl outer A₀ base h₀ L m news s Q E B F X N T hk _ hd hu hret
  refine wpAny_call ?_
  k_dflt cell_enter
  k_steps
  all_goals (obtain ⟨p1, p2⟩ := rgb_parts hpre)
  all_goals try (exfalso; first | exact absurd (by assumption) (fin_not_nan p1) | exact absurd (by assumption) (fin_not_inf p1) | exact absurd (by assumption) (hue_big p2) | (rename (Float64.cmp _ _ == some Ordering.eq) = true => hx; rw [hue_one] at hx; cases hx))
  all_goals (unfold rgbF at hpre; rw [if_pos p1, if_pos p2] at hpre; simp only [hueJ] at hpre)
  all_goals (simp only [*, if_true, if_false, reduceCtorEq] at hpre)
  all_goals (cases hpre)
  all_goals ((rename ∀ p ∈ news, p.1 < _ => kl); exact hret _ [_] _ _ (by assumption) (by assumption) (fun q hq p hp => by rw [List.mem_singleton.mp hp]; exact kl q hq) ⟨_, _, _, _, rfl, rfl⟩)
end
section
open PySem PySem.W PySem.Calls PyProof.Rows
noncomputable def feq (a b : UInt64) : Bool := Float64.cmp a b == some Ordering.eq
noncomputable def fle (a b : UInt64) : Bool := Float64.cmp a b == some Ordering.lt || Float64.cmp a b == some Ordering.eq
/-- what rgb_to_hls reckons, none where it would divide by nought -/
noncomputable def hlsF (r g b : UInt64) : Option (UInt64 × UInt64 × UInt64) :=
  if (Float64.cmp (fmin3 r g b) (fmax3 r g b) == some Ordering.eq) = true then some (0, Float64.div (Float64.add (fmax3 r g b) (fmin3 r g b)) 4611686018427387904, 0) else
  if Float64.isZero (if (Float64.cmp (Float64.div (Float64.add (fmax3 r g b) (fmin3 r g b)) 4611686018427387904) 4602678819172646912 == some Ordering.lt || Float64.cmp (Float64.div (Float64.add (fmax3 r g b) (fmin3 r g b)) 4611686018427387904) 4602678819172646912 == some Ordering.eq) = true
    then Float64.add (fmax3 r g b) (fmin3 r g b) else Float64.sub (Float64.sub 4611686018427387904 (fmax3 r g b)) (fmin3 r g b)) = true then none else
  if Float64.isZero (Float64.sub (fmax3 r g b) (fmin3 r g b)) = true then none else
  some ((Float64.divmod (Float64.div (if (Float64.cmp r (fmax3 r g b) == some Ordering.eq) = true
      then Float64.sub (Float64.div (Float64.sub (fmax3 r g b) b) (Float64.sub (fmax3 r g b) (fmin3 r g b))) (Float64.div (Float64.sub (fmax3 r g b) g) (Float64.sub (fmax3 r g b) (fmin3 r g b)))
      else if (Float64.cmp g (fmax3 r g b) == some Ordering.eq) = true
      then Float64.sub (Float64.add 4611686018427387904 (Float64.div (Float64.sub (fmax3 r g b) r) (Float64.sub (fmax3 r g b) (fmin3 r g b)))) (Float64.div (Float64.sub (fmax3 r g b) b) (Float64.sub (fmax3 r g b) (fmin3 r g b)))
      else Float64.sub (Float64.add 4616189618054758400 (Float64.div (Float64.sub (fmax3 r g b) g) (Float64.sub (fmax3 r g b) (fmin3 r g b)))) (Float64.div (Float64.sub (fmax3 r g b) r) (Float64.sub (fmax3 r g b) (fmin3 r g b)))) 4618441417868443648) 4607182418800017408).2,
    Float64.div (Float64.add (fmax3 r g b) (fmin3 r g b)) 4611686018427387904,
    Float64.div (Float64.sub (fmax3 r g b) (fmin3 r g b)) (if (Float64.cmp (Float64.div (Float64.add (fmax3 r g b) (fmin3 r g b)) 4611686018427387904) 4602678819172646912 == some Ordering.lt || Float64.cmp (Float64.div (Float64.add (fmax3 r g b) (fmin3 r g b)) 4611686018427387904) 4602678819172646912 == some Ordering.eq) = true
    then Float64.add (fmax3 r g b) (fmin3 r g b) else Float64.sub (Float64.sub 4611686018427387904 (fmax3 r g b)) (fmin3 r g b)))
set_option maxHeartbeats 8000000 in
theorem c_hls (w mean mg mb) (r g b h l sa : UInt64) (tr tg tb : Tok) (hpre : hlsF r g b = some (h, l, sa)) :
    CtrG w mean mg mb 21 [.float r tr, .float g tg, .float b tb] 1 8 (fun _ _ n => TkOk n)
      (fun tk v own => ∃ D t1 t2 t3, (1 ≤ t1 ∧ t1 < tk) ∧ (1 ≤ t2 ∧ t2 < tk) ∧ (1 ≤ t3 ∧ t3 < tk) ∧ v = .ref D ∧ own = [(D, tupOf [.float h t1, .float l t2, .float sa t3] 0)]) := by
  w_top off
  k_with_none
  k_with "call builtin:max" => (k_here; (with_reducible show wpAny _ _ (call (Value.builtin _) [Value.float _ _, Value.float _ _, Value.float _ _]) _ _ _); k_dflt (refine' max_three_le ?k1 ?k2 ?k3 ?_; (case k1 => exact rfl); (case k2 => k_asm); (case k3 => k_asm); k_whole); intro y' t' h' tk' e' F' N' htk'; (try k_sweep))
  k_with "call builtin:min" => (k_here; (with_reducible show wpAny _ _ (call (Value.builtin _) [Value.float _ _, Value.float _ _, Value.float _ _]) _ _ _); k_dflt (refine' min_three_le ?k1 ?k2 ?k3 ?_; (case k1 => exact rfl); (case k2 => k_asm); (case k3 => k_asm); k_whole); intro y' t' h' tk' e' F' N' htk'; (try k_sweep))
  k_with "execs cons" => (k_here; (fail_if_success (fail_if_success k_gentoks)); (refine' gen_le ?_); intro tk htk)
  k_with "execs nil" => (k_here; (fail_if_success (fail_if_success k_gentoks)); (refine' gen_le ?_); intro tk htk)
  unfold CtrG
  k_fill
  intro dp un gd cn cs a ccd cl outer A₀ base h₀ L m news s Q E B F X N T hk ⟨hpos⟩ hd hu hret
  refine wpAny_call ?_
  k_dflt cell_enter
  k_steps
  all_goals ((rename _ = fmax3 r g b => e1); (rename _ = fmin3 r g b => e2); subst e1 e2)
  all_goals (unfold hlsF at hpre)
  all_goals (simp only [*, if_true, if_false, Bool.false_eq_true, reduceCtorEq, Option.some.injEq, Prod.mk.injEq] at hpre)
  all_goals (obtain ⟨p1, p2, p3⟩ := hpre; subst p1 p2 p3)
  all_goals ((rename ∀ p ∈ news, p.1 < _ => kl); refine hret _ [(_, _)] _ _ (by assumption) (by assumption) (own_one kl) ⟨_, _, _, _, ?_, ?_, ?_, rfl, rfl⟩)
  all_goals (dsimp only at *; omega)
end
section
open PySem PySem.W PySem.Calls PyProof.Rows
theorem booked_of {P : Params} {h : Heap} (X : (hd.heap_39 P).In h) : NoneBooked h := by
  have e : (hd.heap_39 P).lookup cStatics = some { cls := Value.none, data := Data.dict #[] 0 } := rfl
  have ho := X _ _ e
  exact ⟨fun _ => none, ⟨_, #[], 0, ho, rfl, fun en hen => absurd hen (by simp), fun _ => rfl⟩, rfl⟩
section
variable {prog : Program} {w : World} {A : Around} {E : Value → Shared → Prop} {s : Shared}
theorem isSame_float {M : Model} {x y : UInt64} {t u : Tok} {Q : Bool → Shared → Prop} (h0 : (t == 0 || u == 0) = false) (htu : t ≠ u) (hb : NoneBooked s.heap) (hq : ∀ b, (b = true → x = y) → Q b s) :
    wpAny M A (isSame (.float x t) (.float y u)) Q E s := by
  show wpAny M A (isSame.created (x == y && !Float64.isNaN x) t u) Q E s
  unfold isSame.created
  refine wpAny_ite ?_
  split
  · rename_i h; rw [h0] at h; exact absurd h Bool.false_ne_true
  refine wpAny_ite ?_
  split
  · rename_i h; exact absurd (eq_of_beq h) htu
  refine wpAny_ite ?_
  split
  · exact wpAny_pure (hq _ fun e => by cases e)
  rename_i hc
  have hxy : x = y := by
    cases hb : (x == y) with
    | true => exact eq_of_beq hb
    | false => rw [hb] at hc; exact absurd rfl hc
  refine wpAny_bind (wpAny_sharingNotTold_none hb ?_)
  first | rw [if_neg Bool.false_ne_true] | simp only [Bool.false_eq_true, if_false]
  refine wpAny_bind (wpAny_sharingNotTold_none hb ?_)
  first | rw [if_neg Bool.false_ne_true] | simp only [Bool.false_eq_true, if_false]
  exact wpAny_bind (wpAny_rule (wpAny_bind (wpAny_askSetting (wpAny_pure (hq _ fun _ => hxy)))))
theorem eqAt_float {x y : UInt64} {t u : Tok} (hb : NoneBooked s.heap) (ht : 1 ≤ t) (hu : 1 ≤ u) (htu : t ≠ u) (hy : feq y y = true) : SeqAt.EqAt A s (.float x t) (.float y u) (feq x y) := by
  intro prog w E Q hq
  unfold eqBool
  show wpAny _ _ (if (Value.float x t == Value.float y u) = true then _ else _) Q E s
  rw [if_neg (fun h => by have := eq_of_beq h; injection this; contradiction)]
  refine wpAny_bind (isSame_float (by
    have h1 : (t == 0) = false := by have : t ≠ 0 := Nat.ne_of_gt ht; simpa using this
    have h2 : (u == 0) = false := by have : u ≠ 0 := Nat.ne_of_gt hu; simpa using this
    rw [h1, h2]; rfl) htu hb fun b hb => ?_)
  cases b with
  | true =>
    have e := hb rfl
    subst e
    rw [hy] at hq
    exact wpAny_pure hq
  | false =>
    refine wpAny_bind (AutoFloatOps.eq_0 ?_)
    exact wpAny_truthy_bool hq
/-- two tuples of three floats, item by item -/
theorem eq_three {h₀ : Heap} {L : Addr} {news : List (Addr × Obj)} {D1 D2 : Addr} {x1 x2 x3 y1 y2 y3 : UInt64} {t1 t2 t3 u1 u2 u3 : Tok} {n1 n2 : Nat} {Q : Value → Shared → Prop} (N : News h₀ L s.heap news)
    (h1 : (D1, tupOf [.float x1 t1, .float x2 t2, .float x3 t3] n1) ∈ news) (h2 : (D2, tupOf [.float y1 u1, .float y2 u2, .float y3 u3] n2) ∈ news) (hb : NoneBooked s.heap) (hu : A.units < cLine)
    (k1 : 1 ≤ t1 ∧ 1 ≤ u1 ∧ t1 ≠ u1) (k2 : 1 ≤ t2 ∧ 1 ≤ u2 ∧ t2 ≠ u2) (k3 : 1 ≤ t3 ∧ 1 ≤ u3 ∧ t3 ≠ u3) (e1 : feq y1 y1 = true) (e2 : feq y2 y2 = true) (e3 : feq y3 y3 = true)
    (hq : Q (.bool (feq x1 y1 && (feq x2 y2 && feq x3 y3))) s) : wpAny (model prog w) A (compareOp .Eq (.ref D1) (.ref D2)) Q E s := by
  have i1 : s.heap.IsTuple D1 #[.float x1 t1, .float x2 t2, .float x3 t3] := ⟨_, (N _ h1).1, rfl, n1, rfl⟩
  have i2 : s.heap.IsTuple D2 #[.float y1 u1, .float y2 u2, .float y3 u3] := ⟨_, (N _ h2).1, rfl, n2, rfl⟩
  refine SeqAt.eq_tupleAt (e := fun j => if j = 0 then feq x1 y1 else if j = 1 then feq x2 y2 else feq x3 y3) i1 i2 hu (fun j hj1 hj2 => ?_) ?_
  · match j, hj1, hj2 with
    | 0, _, _ => exact eqAt_float hb k1.1 k1.2.1 k1.2.2 e1
    | 1, _, _ => exact eqAt_float hb k2.1 k2.2.1 k2.2.2 e2
    | 2, _, _ => exact eqAt_float hb k3.1 k3.2.1 k3.2.2 e3
    | j + 3, hj, _ => exact absurd hj (by simp)
  · have e : ((List.range (min (#[Value.float x1 t1, .float x2 t2, .float x3 t3] : Array Value).size (#[Value.float y1 u1, .float y2 u2, .float y3 u3] : Array Value).size)).all (fun j => if j = 0 then feq x1 y1 else if j = 1 then feq x2 y2 else feq x3 y3) && (#[Value.float x1 t1, .float x2 t2, .float x3 t3] : Array Value).size == (#[Value.float y1 u1, .float y2 u2, .float y3 u3] : Array Value).size) = (feq x1 y1 && (feq x2 y2 && feq x3 y3)) := by
      show (([0, 1, 2] : List Nat).all _ && true) = _
      simp
    rw [e]
    exact hq
end
end
section
open PySem PySem.W PySem.Calls PyProof.Rows
noncomputable def mid (a b : UInt64) : UInt64 := Float64.div (Float64.add a b) (Float64.ofInt 2)
noncomputable def greyB (h l sa : UInt64) : Bool := feq h 0 && (feq l 4602678819172646912 && feq sa 0)
theorem tok_ok0 {t T : Nat} (h : 1 ≤ t ∧ t < T) : 1 ≤ t ∧ 1 ≤ T ∧ t ≠ T := by omega
theorem tok_ok1 {t T : Nat} (h : 1 ≤ t ∧ t < T) : 1 ≤ t ∧ 1 ≤ T + 1 ∧ t ≠ T + 1 := by omega
theorem tok_ok2 {t T : Nat} (h : 1 ≤ t ∧ t < T) : 1 ≤ t ∧ 1 ≤ T + 1 + 1 ∧ t ≠ T + 1 + 1 := by omega
theorem e_zero : feq 0 0 = true := by decide +kernel
theorem e_half : feq 4602678819172646912 4602678819172646912 = true := by decide +kernel
set_option maxHeartbeats 8000000 in
theorem c_grey (w mean mg mb) (l1 l2 : Addr) (r g b u v z h l sa : UInt64) (t1 t2 t3 t4 t5 t6 : Tok) (n1 n2 : Nat) (hpre : hlsF (mid r u) (mid g v) (mid b z) = some (h, l, sa)) :
    Ctr w mean mg mb 123 [.ref l1, .ref l2] 2 16 (fun _ news n => TkOk n ∧ (l1, tupOf [.float r t1, .float g t2, .float b t3] n1) ∈ news ∧ (l2, tupOf [.float u t4, .float v t5, .float z t6] n2) ∈ news)
      (fun v own => v = .bool (greyB h l sa) ∧ own = []) := by
  w_top off
  k_with_none
  k_with "execs cons" => (k_here; (fail_if_success (fail_if_success k_gentoks)); (refine' gen_toks ?a ?_); (case a => exact ⟨Nat.le_trans (TkOk.pos (by assumption)) (by first | exact Nat.le_add_right _ _ | (dsimp only; omega))⟩); intro tk htk)
  k_with "call ref" => (k_here; (with_reducible show wpAny _ _ (call (Value.ref 21) _) _ _ _); k_dflt (refine' CtrG.use (c_hls _ _ _ _ _ _ _ _ _ _ _ _ _ (by assumption)) ?k1 ?k2 ?k3 ?k4 ?k5 ?kK ⟨?kT⟩ ?kd ?ku ?_; (case k1 => k_asm); (case k2 => k_asm); (case k3 => k_asm); (case k4 => k_asm); (case k5 => k_asm); (case kK => exact rfl); (case kT => ((rename TkOk _ => hTk); (have hTk1 := hTk.pos); dsimp only; omega)); (case kd => ktr_room); (case ku => ktr_units)); intro v9 own9 h9 tk9 F9 N9 l9 p9; (obtain ⟨D9, t91, t92, t93, b91, b92, b93, e91, e92⟩ := p9); subst e91; subst e92; (try simp only [List.cons_append, List.nil_append] at N9); (try dsimp only); (try k_sweep); (try k_fold))
  k_with "compareOp Eq ref ref" => (k_here; k_dflt (refine' eq_three ?N ?h1 ?h2 ?hb ?hu ?k1 ?k2 ?k3 e_zero e_half e_zero ?_; (case N => k_asm); (case h1 => exact .tail _ (.head _)); (case h2 => exact .head _); (case hb => exact booked_of (by first | assumption | exact Frag.In.keeps (by k_asm) (Fr.keep (by k_asm)))); (case hu => ktr_units); (case k1 => exact tok_ok0 (by assumption)); (case k2 => exact tok_ok1 (by assumption)); (case k3 => exact tok_ok2 (by assumption))))
  unfold Ctr
  k_fill
  intro dp un gd cn cs a9 ccd cl outer A₀ base h₀ L m news s Q E B F X N T hk ⟨hpos, hm1, hm2⟩ hd hu hret
  refine wpAny_call ?_
  k_dflt cell_enter
  repeat' (first | (k_unfold; (try dsimp only)) | walk1 | (dsimp only; walk1))
  all_goals exact hret _ [] _ _ (by assumption) (cb_drop (by assumption) (fun p hp => by (repeat (first | exact hp | apply List.mem_cons_of_mem)))) (fun _ _ _ h => nomatch h) ⟨rfl, rfl⟩
end
section
open PySem PySem.W PySem.Calls PyProof.Rows
noncomputable def hue (n M : Nat) : UInt64 := Float64.ofFrac false n M
noncomputable def tab : List (UInt64 × UInt64 × UInt64) := [(4607182418800017408, 0, 0), (4607182418800017408, 4595923419731591168, 0),
  (4607182418800017408, 4600427019358961664, 0), (4607182418800017408, 4603241769126068224, 0),
  (4607182418800017408, 4604930618986332160, 0), (4607182418800017408, 4606619468846596096, 0),
  (4606056518893174784, 4607182418800017408, 0), (4604367669032910848, 4607182418800017408, 0),
  (4602678819172646912, 4607182418800017408, 0), (4599301119452119040, 4607182418800017408, 0),
  (4593671619917905920, 4607182418800017408, 0), (0, 4607182418800017408, 4589168020290535424),
  (0, 4607182418800017408, 4598175219545276416), (0, 4607182418800017408, 4601552919265804288),
  (0, 4607182418800017408, 4603804719079489536), (0, 4607182418800017408, 4605493568939753472),
  (0, 4607182418800017408, 4607182418800017408), (0, 4605493568939753472, 4607182418800017408),
  (0, 4603804719079489536, 4607182418800017408), (0, 4601552919265804288, 4607182418800017408),
  (0, 4598175219545276416, 4607182418800017408), (0, 4589168020290535424, 4607182418800017408),
  (4593671619917905920, 0, 4607182418800017408), (4599301119452119040, 0, 4607182418800017408),
  (4602678819172646912, 0, 4607182418800017408), (4604367669032910848, 0, 4607182418800017408),
  (4606056518893174784, 0, 4607182418800017408), (4607182418800017408, 0, 4606619468846596096),
  (4607182418800017408, 0, 4604930618986332160), (4607182418800017408, 0, 4603241769126068224),
  (4607182418800017408, 0, 4600427019358961664), (4607182418800017408, 0, 4595923419731591168)]
/-- the colour of the hue p/32 -/
noncomputable def col (p : Nat) : UInt64 × UInt64 × UInt64 := tab.getD p (0, 0, 0)
theorem col_rgb : ∀ p : Nat, p < 32 → rgbF (hue p 32) = some (col p) := by decide +kernel
theorem in_five {P : Nat → Prop} (h0 : ∀ n, n < 150 → P n) (h1 : ∀ n, n < 150 → P (150 + n)) (h2 : ∀ n, n < 150 → P (300 + n)) (h3 : ∀ n, n < 150 → P (450 + n)) (h4 : ∀ n, n < 145 → P (600 + n)) : ∀ n, n < 745 → P n := by
  intro n hn
  by_cases a : n < 150
  · exact h0 n a
  by_cases b : n < 300
  · have h := h1 (n - 150) (by omega)
    rwa [Nat.add_sub_cancel' (by omega)] at h
  by_cases c : n < 450
  · have h := h2 (n - 300) (by omega)
    rwa [Nat.add_sub_cancel' (by omega)] at h
  by_cases d : n < 600
  · have h := h3 (n - 450) (by omega)
    rwa [Nat.add_sub_cancel' (by omega)] at h
  · have h := h4 (n - 600) (by omega)
    rwa [Nat.add_sub_cancel' (by omega)] at h
theorem hue_six_0 : ∀ n : Nat, n < 150 → Float64.mul (hue n 32) 4618441417868443648 = hue (6 * n) 32 := by decide +kernel
theorem hue_six_1 : ∀ n : Nat, n < 150 → Float64.mul (hue (150 + n) 32) 4618441417868443648 = hue (6 * (150 + n)) 32 := by decide +kernel
theorem hue_six_2 : ∀ n : Nat, n < 150 → Float64.mul (hue (300 + n) 32) 4618441417868443648 = hue (6 * (300 + n)) 32 := by decide +kernel
theorem hue_six_3 : ∀ n : Nat, n < 150 → Float64.mul (hue (450 + n) 32) 4618441417868443648 = hue (6 * (450 + n)) 32 := by decide +kernel
theorem hue_six_4 : ∀ n : Nat, n < 145 → Float64.mul (hue (600 + n) 32) 4618441417868443648 = hue (6 * (600 + n)) 32 := by decide +kernel
theorem hue_six : ∀ n : Nat, n < 745 → Float64.mul (hue n 32) 4618441417868443648 = hue (6 * n) 32 := in_five hue_six_0 hue_six_1 hue_six_2 hue_six_3 hue_six_4
theorem hue_fin_0 : ∀ n : Nat, n < 150 → Float64.isFinite (hue (6 * n) 32) = true := by decide +kernel
theorem hue_fin_1 : ∀ n : Nat, n < 150 → Float64.isFinite (hue (6 * (150 + n)) 32) = true := by decide +kernel
theorem hue_fin_2 : ∀ n : Nat, n < 150 → Float64.isFinite (hue (6 * (300 + n)) 32) = true := by decide +kernel
theorem hue_fin_3 : ∀ n : Nat, n < 150 → Float64.isFinite (hue (6 * (450 + n)) 32) = true := by decide +kernel
theorem hue_fin_4 : ∀ n : Nat, n < 145 → Float64.isFinite (hue (6 * (600 + n)) 32) = true := by decide +kernel
theorem hue_fin : ∀ n : Nat, n < 745 → Float64.isFinite (hue (6 * n) 32) = true := in_five hue_fin_0 hue_fin_1 hue_fin_2 hue_fin_3 hue_fin_4
theorem hue_int_0 : ∀ n : Nat, n < 150 → Flt.toInt Float64.truncOf (hue (6 * n) 32) = ((6 * n / 32 : Nat) : Int) := by decide +kernel
theorem hue_int_1 : ∀ n : Nat, n < 150 → Flt.toInt Float64.truncOf (hue (6 * (150 + n)) 32) = ((6 * (150 + n) / 32 : Nat) : Int) := by decide +kernel
theorem hue_int_2 : ∀ n : Nat, n < 150 → Flt.toInt Float64.truncOf (hue (6 * (300 + n)) 32) = ((6 * (300 + n) / 32 : Nat) : Int) := by decide +kernel
theorem hue_int_3 : ∀ n : Nat, n < 150 → Flt.toInt Float64.truncOf (hue (6 * (450 + n)) 32) = ((6 * (450 + n) / 32 : Nat) : Int) := by decide +kernel
theorem hue_int_4 : ∀ n : Nat, n < 145 → Flt.toInt Float64.truncOf (hue (6 * (600 + n)) 32) = ((6 * (600 + n) / 32 : Nat) : Int) := by decide +kernel
theorem hue_int : ∀ n : Nat, n < 745 → Flt.toInt Float64.truncOf (hue (6 * n) 32) = ((6 * n / 32 : Nat) : Int) := in_five hue_int_0 hue_int_1 hue_int_2 hue_int_3 hue_int_4
theorem hue_frac_0 : ∀ n : Nat, n < 150 → Float64.sub (hue (6 * n) 32) (Float64.ofInt ((6 * n / 32 : Nat) : Int)) = hue (6 * n % 32) 32 := by decide +kernel
theorem hue_frac_1 : ∀ n : Nat, n < 150 → Float64.sub (hue (6 * (150 + n)) 32) (Float64.ofInt ((6 * (150 + n) / 32 : Nat) : Int)) = hue (6 * (150 + n) % 32) 32 := by decide +kernel
theorem hue_frac_2 : ∀ n : Nat, n < 150 → Float64.sub (hue (6 * (300 + n)) 32) (Float64.ofInt ((6 * (300 + n) / 32 : Nat) : Int)) = hue (6 * (300 + n) % 32) 32 := by decide +kernel
theorem hue_frac_3 : ∀ n : Nat, n < 150 → Float64.sub (hue (6 * (450 + n)) 32) (Float64.ofInt ((6 * (450 + n) / 32 : Nat) : Int)) = hue (6 * (450 + n) % 32) 32 := by decide +kernel
theorem hue_frac_4 : ∀ n : Nat, n < 145 → Float64.sub (hue (6 * (600 + n)) 32) (Float64.ofInt ((6 * (600 + n) / 32 : Nat) : Int)) = hue (6 * (600 + n) % 32) 32 := by decide +kernel
theorem hue_frac : ∀ n : Nat, n < 745 → Float64.sub (hue (6 * n) 32) (Float64.ofInt ((6 * n / 32 : Nat) : Int)) = hue (6 * n % 32) 32 := in_five hue_frac_0 hue_frac_1 hue_frac_2 hue_frac_3 hue_frac_4
theorem hue_8 : ∀ n : Nat, n < 187 → hue n 8 = hue (4 * n) 32 := by decide +kernel
theorem hue_16 : ∀ n : Nat, n < 373 → hue n 16 = hue (2 * n) 32 := by decide +kernel
end
section
open PySem PySem.W PySem.Calls PyProof.Rows
theorem natAbs_small {n : Nat} (h : n < 1000000) : ((n : Nat) : Int).natAbs < 1000000 := by omega
theorem rgb_of {n : Nat} (h : n < 745) : rgbF (hue n 32) =
    (if (((6 * n / 32 : Nat) : Int)).fmod 6 = 0 then some (4607182418800017408, Float64.mul 4607182418800017408 (Float64.sub 4607182418800017408 (Float64.mul 4607182418800017408 (Float64.sub 4607182418800017408 (hue (6 * n % 32) 32)))), hueP) else
      if (((6 * n / 32 : Nat) : Int)).fmod 6 = 1 then some (Float64.mul 4607182418800017408 (Float64.sub 4607182418800017408 (Float64.mul 4607182418800017408 (hue (6 * n % 32) 32))), 4607182418800017408, hueP) else
      if (((6 * n / 32 : Nat) : Int)).fmod 6 = 2 then some (hueP, 4607182418800017408, Float64.mul 4607182418800017408 (Float64.sub 4607182418800017408 (Float64.mul 4607182418800017408 (Float64.sub 4607182418800017408 (hue (6 * n % 32) 32))))) else
      if (((6 * n / 32 : Nat) : Int)).fmod 6 = 3 then some (hueP, Float64.mul 4607182418800017408 (Float64.sub 4607182418800017408 (Float64.mul 4607182418800017408 (hue (6 * n % 32) 32))), 4607182418800017408) else
      if (((6 * n / 32 : Nat) : Int)).fmod 6 = 4 then some (Float64.mul 4607182418800017408 (Float64.sub 4607182418800017408 (Float64.mul 4607182418800017408 (Float64.sub 4607182418800017408 (hue (6 * n % 32) 32)))), hueP, 4607182418800017408) else
      if (((6 * n / 32 : Nat) : Int)).fmod 6 = 5 then some (4607182418800017408, hueP, Float64.mul 4607182418800017408 (Float64.sub 4607182418800017408 (Float64.mul 4607182418800017408 (hue (6 * n % 32) 32)))) else none) := by
  have h1 := hue_six n h
  have h2 := hue_fin n h
  have h3 := hue_int n h
  have h4 := hue_frac n h
  unfold rgbF hueT hueQ hueJ
  rw [h1, h3, if_pos h2, if_pos (natAbs_small (by omega)), h4]
theorem rgb_per {n : Nat} (h : n < 745) : rgbF (hue n 32) = some (col (n % 32)) := by
  have h2 : n % 32 < 32 := Nat.mod_lt _ (by decide)
  rw [← col_rgb (n % 32) h2, rgb_of h, rgb_of (by omega : n % 32 < 745)]
  have e1 : 6 * n % 32 = 6 * (n % 32) % 32 := by omega
  have e2 : ((6 * n / 32 : Nat) : Int).fmod 6 = ((6 * (n % 32) / 32 : Nat) : Int).fmod 6 := by
    rw [Int.fmod_eq_emod_of_nonneg _ (by decide), Int.fmod_eq_emod_of_nonneg _ (by decide)]
    omega
  rw [e1, e2]
/-- the numbers of lamps, each with what makes it 32 -/
noncomputable def LampsC (M c : Nat) : Prop := (M = 8 ∧ c = 4) ∨ (M = 16 ∧ c = 2) ∨ (M = 32 ∧ c = 1)
theorem light_ok {M c n : Nat} (hM : LampsC M c) (h : n * c < 745) : rgbF (hue n M) = some (col (c * (n % M))) := by
  rcases hM with ⟨rfl, rfl⟩ | ⟨rfl, rfl⟩ | ⟨rfl, rfl⟩
  · rw [hue_8 n (by omega), rgb_per (by omega)]
    congr 2
    omega
  · rw [hue_16 n (by omega), rgb_per (by omega)]
    congr 2
    omega
  · rw [rgb_per (by omega)]
    congr 2
    omega
noncomputable def hlsP (p : Nat) : UInt64 × UInt64 × UInt64 := (hlsF (col p).1 (col p).2.1 (col p).2.2).getD (0, 0, 0)
theorem col_hls : ∀ p : Nat, p < 32 → hlsF (col p).1 (col p).2.1 (col p).2.2 = some (hlsP p) := by
  have H : ∀ p : Nat, p < 32 → (hlsF (col p).1 (col p).2.1 (col p).2.2).isSome = true := by decide +kernel
  intro p hp
  have := H p hp
  unfold hlsP
  cases e : hlsF (col p).1 (col p).2.1 (col p).2.2 with
  | none => rw [e] at this; cases this
  | some x => rfl
theorem back_32 : ∀ p : Nat, p < 32 → Float64.isFinite (Float64.mul (hlsP p).1 (Float64.ofInt 32)) = true ∧ Flt.toInt Float64.truncOf (Float64.mul (hlsP p).1 (Float64.ofInt 32)) = (p : Int) := by decide +kernel
theorem back_16 : ∀ p : Nat, p < 16 → Float64.isFinite (Float64.mul (hlsP (2 * p)).1 (Float64.ofInt 16)) = true ∧ Flt.toInt Float64.truncOf (Float64.mul (hlsP (2 * p)).1 (Float64.ofInt 16)) = (p : Int) := by decide +kernel
theorem back_8 : ∀ p : Nat, p < 8 → Float64.isFinite (Float64.mul (hlsP (4 * p)).1 (Float64.ofInt 8)) = true ∧ Flt.toInt Float64.truncOf (Float64.mul (hlsP (4 * p)).1 (Float64.ofInt 8)) = (p : Int) := by decide +kernel
theorem back_ok {M c p : Nat} (hM : LampsC M c) (h : p < M) : Float64.isFinite (Float64.mul (hlsP (c * p)).1 (Float64.ofInt M)) = true ∧ Flt.toInt Float64.truncOf (Float64.mul (hlsP (c * p)).1 (Float64.ofInt M)) = (p : Int) := by
  rcases hM with ⟨rfl, rfl⟩ | ⟨rfl, rfl⟩ | ⟨rfl, rfl⟩
  · exact back_8 p h
  · exact back_16 p h
  · have := back_32 p h
    rw [Nat.one_mul]
    exact this
end
section
open PySem PySem.W PySem.Calls PyProof.Rows
/-- every sign c of the row turned into the row r -/
noncomputable def esc1 (c : Nat) (r : List Nat) (l : List Nat) : List Nat := l.flatMap fun x => if x = c then r else [x]
theorem esc1_append (c : Nat) (r a b : List Nat) : esc1 c r (a ++ b) = esc1 c r a ++ esc1 c r b := by simp [esc1]
theorem esc1_free (c : Nat) (r : List Nat) : ∀ l : List Nat, c ∉ l → esc1 c r l = l
  | [], _ => rfl
  | k :: l, h => by
    have h1 : ¬ k = c := fun e => h (e ▸ List.mem_cons_self ..)
    have h2 := esc1_free c r l fun m => h (List.mem_cons_of_mem _ m)
    show (if k = c then r else [k]) ++ esc1 c r l = k :: l
    rw [if_neg h1, h2]; rfl
theorem esc1_join (c : Nat) (z : Str) : ∀ parts : List Str, (∀ p ∈ parts, c ∉ p.cps.toList) → esc1 c z.cps.toList (Str.join ⟨#[c]⟩ parts).cps.toList = (Str.join z parts).cps.toList
  | [], _ => rfl
  | [p], h => esc1_free c _ _ (h p (List.mem_singleton.mpr rfl))
  | p :: q :: r, h => by
    have ih := esc1_join c z (q :: r) fun a ha => h a (List.mem_cons_of_mem _ ha)
    show esc1 c z.cps.toList (p ++ ⟨#[c]⟩ ++ Str.join ⟨#[c]⟩ (q :: r)).cps.toList = (p ++ z ++ Str.join z (q :: r)).cps.toList
    simp only [Str.cps_append, Array.toList_append]
    rw [esc1_append, esc1_append, ih, esc1_free c _ _ (h p (List.mem_cons_self ..))]
    congr 2
    simp [esc1]
theorem replace_esc1 (x z : Str) (c : Nat) : Txt.replace x ⟨#[c]⟩ z = ⟨(esc1 c z.cps.toList x.cps.toList).toArray⟩ := by
  have h1 := esc1_join c z (Txt.split x ⟨#[c]⟩) (StrLaws.split_free x c)
  rw [StrLaws.join_split] at h1
  rw [StrLaws.replace_one]
  apply Str.ext'
  apply Array.toList_inj.mp
  rw [← h1]
/-- one after the other -/
noncomputable def escF (tbl : List (Nat × List Nat)) (l : List Nat) : List Nat := tbl.foldl (fun l p => esc1 p.1 p.2 l) l
noncomputable def escT (tbl : List (Nat × List Nat)) (l : List Nat) : Str := ⟨(escF tbl l).toArray⟩
theorem escF_append (tbl : List (Nat × List Nat)) : ∀ a b : List Nat, escF tbl (a ++ b) = escF tbl a ++ escF tbl b := by
  induction tbl with
  | nil => intro a b; rfl
  | cons p tbl ih =>
    intro a b
    show escF tbl (esc1 p.1 p.2 (a ++ b)) = escF tbl (esc1 p.1 p.2 a) ++ escF tbl (esc1 p.1 p.2 b)
    rw [esc1_append, ih]
theorem escF_nil (tbl : List (Nat × List Nat)) : escF tbl [] = [] := by
  induction tbl with
  | nil => rfl
  | cons p tbl ih => exact ih
theorem escF_flat (tbl : List (Nat × List Nat)) : ∀ l : List Nat, escF tbl l = l.flatMap fun x => escF tbl [x]
  | [] => escF_nil tbl
  | x :: l => by
    have h := escF_append tbl [x] l
    rw [List.singleton_append] at h
    rw [h, escF_flat tbl l]
    rfl
theorem escF_other (tbl : List (Nat × List Nat)) : ∀ x : Nat, (∀ p ∈ tbl, p.1 ≠ x) → escF tbl [x] = [x] := by
  induction tbl with
  | nil => intro x _; rfl
  | cons p tbl ih =>
    intro x h
    have h1 : esc1 p.1 p.2 [x] = [x] := esc1_free _ _ _ fun hm => h p (.head _) (List.mem_singleton.mp hm)
    show escF tbl (esc1 p.1 p.2 [x]) = [x]
    rw [h1]
    exact ih x fun q hq => h q (.tail _ hq)
noncomputable def okTbl (tbl : List (Nat × List Nat)) : Bool := tbl.all fun p => decide ((escF tbl [p.1]).length ≤ 6)
theorem escF_len {tbl : List (Nat × List Nat)} (h : okTbl tbl = true) (l : List Nat) : (escF tbl l).length ≤ 6 * l.length := by
  have one : ∀ x, (escF tbl [x]).length ≤ 6 := by
    intro x
    by_cases hx : ∃ p ∈ tbl, p.1 = x
    · obtain ⟨p, hp, rfl⟩ := hx
      have := List.all_eq_true.mp h p hp
      simpa using this
    · rw [escF_other tbl x fun p hp e => hx ⟨p, hp, e⟩]
      simp
  induction l with
  | nil => rw [escF_nil]; simp
  | cons x l ih =>
    have h := escF_append tbl [x] l
    rw [List.singleton_append] at h
    rw [h, List.length_append, List.length_cons]
    have := one x
    omega
theorem escT_len {tbl : List (Nat × List Nat)} (h : okTbl tbl = true) (l : List Nat) : (escT tbl l).length ≤ 6 * l.length := by
  have := escF_len h l
  show (escF tbl l).toArray.size ≤ _
  simpa using this
theorem replace_escT (tbl : List (Nat × List Nat)) (l : List Nat) (c : Nat) (z : Str) : Txt.replace (escT tbl l) ⟨#[c]⟩ z = escT (tbl ++ [(c, z.cps.toList)]) l := by
  rw [replace_esc1]
  unfold escT escF
  rw [List.foldl_append]
  rfl
theorem escT_free (tbl : List (Nat × List Nat)) (l : List Nat) (c : Nat) (z : Str) (h : (Builtin.Str.occurrences (escT tbl l) ⟨#[c]⟩ 0 (escT tbl l).length 1).isEmpty = true) : escT (tbl ++ [(c, z.cps.toList)]) l = escT tbl l := by
  have h1 := StrLaws.found_one (escT tbl l) c
  rw [h] at h1
  have h2 : c ∉ escF tbl l := fun hm => by
    have : decide (c ∈ (escT tbl l).cps.toList) = true := decide_eq_true (by simpa [escT] using hm)
    rw [this] at h1
    cases h1
  unfold escT
  have e : escF (tbl ++ [(c, z.cps.toList)]) l = escF tbl l := by
    unfold escF
    rw [List.foldl_append]
    exact esc1_free _ _ _ h2
  rw [e]

theorem s_amp : Str.ofString "&" = ⟨#[38]⟩ := by decide +kernel
theorem s_lt : Str.ofString "<" = ⟨#[60]⟩ := by decide +kernel
theorem s_gt : Str.ofString ">" = ⟨#[62]⟩ := by decide +kernel
theorem s_quo : Str.ofString "\"" = ⟨#[34]⟩ := by decide +kernel
theorem s_cr : Str.ofString "\r" = ⟨#[13]⟩ := by decide +kernel
theorem s_nl : Str.ofString "\n" = ⟨#[10]⟩ := by decide +kernel
theorem s_tab : Str.ofString "\t" = ⟨#[9]⟩ := by decide +kernel
theorem r_amp : Str.ofString "&amp;" = ⟨#[38, 97, 109, 112, 59]⟩ := by decide +kernel
theorem r_lt : Str.ofString "&lt;" = ⟨#[38, 108, 116, 59]⟩ := by decide +kernel
theorem r_gt : Str.ofString "&gt;" = ⟨#[38, 103, 116, 59]⟩ := by decide +kernel
theorem r_quo : Str.ofString "&quot;" = ⟨#[38, 113, 117, 111, 116, 59]⟩ := by decide +kernel
theorem r_13 : Str.ofString "&#13;" = ⟨#[38, 35, 49, 51, 59]⟩ := by decide +kernel
theorem r_10 : Str.ofString "&#10;" = ⟨#[38, 35, 49, 48, 59]⟩ := by decide +kernel
theorem r_09 : Str.ofString "&#09;" = ⟨#[38, 35, 48, 57, 59]⟩ := by decide +kernel
theorem r_xD : Str.ofString "&#xD;" = ⟨#[38, 35, 120, 68, 59]⟩ := by decide +kernel
theorem r_x9 : Str.ofString "&#x9;" = ⟨#[38, 35, 120, 57, 59]⟩ := by decide +kernel
theorem r_xA : Str.ofString "&#xA;" = ⟨#[38, 35, 120, 65, 59]⟩ := by decide +kernel
section
variable {prog : Program} {w : World} {A : Around} {E : Value → Shared → Prop} {s : Shared} {h₀ : Heap} {L a : Addr} {m : Str → Option Value} {news : List (Addr × Obj)} {name : Str} {scope : Scope} {cd : Value}
theorem esc_if {c r : Str} {cn : Nat} {rl : List Nat} {tbl : List (Nat × List Nat)} {l : List Nat} {k1 k2 k3 : Nat} {p1 p2 p3 p4 p5 p6 p7 p8 p9 p10 p11 : Pos} {tk0 : Tok} {Q : Flow → Shared → Prop}
    (hT : TkOk s.toks) (F : Fr h₀ L s.heap m) (N : News h₀ L s.heap news) (hm : m (Str.ofString "text") = some (.str (escT tbl l) tk0)) (hl : l.length ≤ 10000) (ht : okTbl tbl = true) (hc : c = ⟨#[cn]⟩) (hr : r = ⟨rl.toArray⟩) (hcr : ((⟨#[cn]⟩ : Str) == ⟨rl.toArray⟩) = false) (hr14 : rl.length ≤ 14)
    (h : ∀ t' h' tk', TkOk tk' → Fr h₀ L h' (fun y => if y = Str.ofString "text" then some (.str (escT (tbl ++ [(cn, rl)]) l) t') else m y) → News h₀ L h' news → Q .next { s with heap := h', toks := tk' })
    (hk : scope.kind = .function) (hx : (envOf name scope L a cd).kindOf (Str.ofString "text") = some .local) {pl : Sem Bool}
    (he : eval (.Call (.Attribute (.Name (Str.ofString "text") p5) (Str.ofString "replace") p6) [.Constant (.str c) k2 p7, .Constant (.str r) k3 p8] [] p9) (envOf name scope L a cd) = (do
      let ov ← eval (.Name (Str.ofString "text") p5) (envOf name scope L a cd)
      standAt p6.atName
      let (f, first) ← holding [ov] (getMethod ov (Str.ofString "replace") pl)
      callWith p9 f first (backTo p9 (starEach [.Constant (.str c) k2 p7, .Constant (.str r) k3 p8] (envOf name scope L a cd))) []))
    (hsw : swapsWith (.Call (.Attribute (.Name (Str.ofString "text") p5) (Str.ofString "replace") p6) [.Constant (.str c) k2 p7, .Constant (.str r) k3 p8] [] p9) (some (.Name (Str.ofString "text") p4)) p10.line (envOf name scope L a cd) = pure false) :
    wpAny (model prog w) A (exec (.If (.Compare (.Constant (.str c) k1 p1) [.In] [.Name (Str.ofString "text") p2] p3) [.Assign [.Name (Str.ofString "text") p4] (.Call (.Attribute (.Name (Str.ofString "text") p5) (Str.ofString "replace") p6) [.Constant (.str c) k2 p7, .Constant (.str r) k3 p8] [] p9) p10] [] p11) (envOf name scope L a cd)) Q E s := by
  subst hc
  subst hr
  refine toks_in hT (wpAny_If (wpAny_isTrue_Compare1 (Constant_str (ld F hm (in_str (wpAny_truthy_bool ?_)) hk hx))))
  cases hq : (Builtin.Str.occurrences (escT tbl l) ⟨#[cn]⟩ 0 (escT tbl l).length 1).isEmpty with
  | true =>
    simp only [Bool.not_true, Bool.false_eq_true, if_false]
    refine wpAny_execs_nil fun hT' => ?_
    refine h tk0 s.heap _ hT' ?_ N
    have e2 : escT (tbl ++ [(cn, rl)]) l = escT tbl l := escT_free tbl l cn ⟨rl.toArray⟩ hq
    rw [e2]
    have e : (fun y => if y = Str.ofString "text" then some (Value.str (escT tbl l) tk0) else m y) = m := by
      funext y
      by_cases hy : y = Str.ofString "text"
      · rw [if_pos hy, hy, hm]
      · rw [if_neg hy]
    rw [e]
    exact F
  | false =>
    simp only [Bool.not_false, if_true]
    refine wpAny_execs_cons (wpAny_Assign_Name (MethodCall_ (ld (s := { s with toks := s.toks + 1 }) F hm (GM.replace ?_) hk hx) he) hsw)
    refine callWith_method1 (spliced_more (Constant_str (spliced_more (Constant_str (spliced_none ?_)))))
    have hlen := escT_len ht l
    refine SC.replaceW (Nat.succ_ne_zero _) (Nat.succ_ne_zero _) (by show s.toks + 1 ≠ s.toks + 1 + 1; omega) hcr (by omega) (by simpa [Str.length] using hr14) fun t' k => ?_
    rw [replace_escT]
    refine wpAny_storeName_local hx F.ns (fun h' hn hs => ?_) (by show (scope.kind == .class || (scope.kind == .module && L != mainGlobals)) = false; rw [hk]; rfl)
    refine wpAny_execs_nil fun hT' => ?_
    exact h t' h' _ hT' (F.set hn hs) (N.set hs)
end

noncomputable def ampR : Nat × List Nat := (38, [38, 97, 109, 112, 59])
noncomputable def ltR : Nat × List Nat := (60, [38, 108, 116, 59])
noncomputable def gtR : Nat × List Nat := (62, [38, 103, 116, 59])
noncomputable def quoR : Nat × List Nat := (34, [38, 113, 117, 111, 116, 59])
noncomputable def tblC : List (Nat × List Nat) := [ampR, ltR, gtR]
noncomputable def tblA : List (Nat × List Nat) := [ampR, ltR, gtR, quoR, (13, [38, 35, 49, 51, 59]), (10, [38, 35, 49, 48, 59]), (9, [38, 35, 48, 57, 59])]
noncomputable def tblH : List (Nat × List Nat) := [ampR, gtR, quoR]
noncomputable def tblC2 : List (Nat × List Nat) := [ampR, ltR, gtR, (13, [38, 35, 120, 68, 59])]
noncomputable def tblA2 : List (Nat × List Nat) := [ampR, ltR, quoR, (9, [38, 35, 120, 57, 59]), (10, [38, 35, 120, 65, 59]), (13, [38, 35, 120, 68, 59])]
end
section
open PySem PySem.W PySem.Calls PyProof.Rows
set_option maxHeartbeats 8000000 in
theorem c_esc0 (w mean mg mb) (l : List Nat) (tk : Tok) (hl : l.length ≤ 10000) :
    Ctr w mean mg mb 50 [.str (escT [] l) tk] 1 8 (fun _ _ n => TkOk n)
      (fun v own => ∃ t', v = .str (escT tblC l) t' ∧ own = []) := by
  w_top off
  k_with_none
  k_with "execs cons" => (k_here; (refine' gen_toks ?a ?_); (case a => ((fail_if_success (with_reducible assumption)); exact ⟨Nat.le_trans (TkOk.pos (by assumption)) (by first | exact Nat.le_add_right _ _ | omega)⟩)); intro tk htk)
  k_with "exec If" => (k_here; k_dflt (refine' esc_if ?t ?F ?N ?m ?l ?k ?c ?r ?cr ?r14 ?_ ?hk ?hx ?he ?hs; (case t => k_asm); (case F => k_asm); (case N => k_asm); (case m => exact rfl); (case l => assumption); (case k => decide +kernel); (case c => first | exact s_amp | exact s_lt | exact s_gt | exact s_quo | exact s_cr | exact s_nl | exact s_tab); (case r => first | exact r_amp | exact r_lt | exact r_gt | exact r_quo | exact r_13 | exact r_10 | exact r_09 | exact r_xD | exact r_x9 | exact r_xA); (case cr => decide +kernel); (case r14 => decide +kernel); (case hk => exact rfl); (case hx => exact rfl); (case he => exact rfl); (case hs => exact rfl); k_whole); intro t' h' tk' hT' F' N'; (try k_sweep))
  unfold Ctr
  k_fill
  intro dp un gd cn cs a ccd cl outer A₀ base h₀ L m news s Q E B F X N T hk hpre hd hu hret
  refine wpAny_call ?_
  k_dflt cell_enter
  k_steps
  all_goals exact hret _ [] _ _ (by assumption) (by assumption) (fun _ _ _ h => nomatch h) ⟨_, rfl, rfl⟩
set_option maxHeartbeats 8000000 in
theorem c_esc1 (w mean mg mb) (l : List Nat) (tk : Tok) (hl : l.length ≤ 10000) :
    Ctr w mean mg mb 57 [.str (escT [] l) tk] 1 8 (fun _ _ n => TkOk n)
      (fun v own => ∃ t', v = .str (escT tblA l) t' ∧ own = []) := by
  w_top off
  k_with_none
  k_with "execs cons" => (k_here; (refine' gen_toks ?a ?_); (case a => ((fail_if_success (with_reducible assumption)); exact ⟨Nat.le_trans (TkOk.pos (by assumption)) (by first | exact Nat.le_add_right _ _ | omega)⟩)); intro tk htk)
  k_with "exec If" => (k_here; k_dflt (refine' esc_if ?t ?F ?N ?m ?l ?k ?c ?r ?cr ?r14 ?_ ?hk ?hx ?he ?hs; (case t => k_asm); (case F => k_asm); (case N => k_asm); (case m => exact rfl); (case l => assumption); (case k => decide +kernel); (case c => first | exact s_amp | exact s_lt | exact s_gt | exact s_quo | exact s_cr | exact s_nl | exact s_tab); (case r => first | exact r_amp | exact r_lt | exact r_gt | exact r_quo | exact r_13 | exact r_10 | exact r_09 | exact r_xD | exact r_x9 | exact r_xA); (case cr => decide +kernel); (case r14 => decide +kernel); (case hk => exact rfl); (case hx => exact rfl); (case he => exact rfl); (case hs => exact rfl); k_whole); intro t' h' tk' hT' F' N'; (try k_sweep))
  unfold Ctr
  k_fill
  intro dp un gd cn cs a ccd cl outer A₀ base h₀ L m news s Q E B F X N T hk hpre hd hu hret
  refine wpAny_call ?_
  k_dflt cell_enter
  k_steps
  all_goals exact hret _ [] _ _ (by assumption) (by assumption) (fun _ _ _ h => nomatch h) ⟨_, rfl, rfl⟩
set_option maxHeartbeats 8000000 in
theorem c_esc2 (w mean mg mb) (l : List Nat) (tk : Tok) (hl : l.length ≤ 10000) :
    Ctr w mean mg mb 64 [.str (escT [] l) tk] 1 8 (fun _ _ n => TkOk n)
      (fun v own => ∃ t', v = .str (escT tblH l) t' ∧ own = []) := by
  w_top off
  k_with_none
  k_with "execs cons" => (k_here; (refine' gen_toks ?a ?_); (case a => ((fail_if_success (with_reducible assumption)); exact ⟨Nat.le_trans (TkOk.pos (by assumption)) (by first | exact Nat.le_add_right _ _ | omega)⟩)); intro tk htk)
  k_with "exec If" => (k_here; k_dflt (refine' esc_if ?t ?F ?N ?m ?l ?k ?c ?r ?cr ?r14 ?_ ?hk ?hx ?he ?hs; (case t => k_asm); (case F => k_asm); (case N => k_asm); (case m => exact rfl); (case l => assumption); (case k => decide +kernel); (case c => first | exact s_amp | exact s_lt | exact s_gt | exact s_quo | exact s_cr | exact s_nl | exact s_tab); (case r => first | exact r_amp | exact r_lt | exact r_gt | exact r_quo | exact r_13 | exact r_10 | exact r_09 | exact r_xD | exact r_x9 | exact r_xA); (case cr => decide +kernel); (case r14 => decide +kernel); (case hk => exact rfl); (case hx => exact rfl); (case he => exact rfl); (case hs => exact rfl); k_whole); intro t' h' tk' hT' F' N'; (try k_sweep))
  unfold Ctr
  k_fill
  intro dp un gd cn cs a ccd cl outer A₀ base h₀ L m news s Q E B F X N T hk hpre hd hu hret
  refine wpAny_call ?_
  k_dflt cell_enter
  k_steps
  all_goals exact hret _ [] _ _ (by assumption) (by assumption) (fun _ _ _ h => nomatch h) ⟨_, rfl, rfl⟩
set_option maxHeartbeats 8000000 in
theorem c_esc3 (w mean mg mb) (l : List Nat) (tk : Tok) (hl : l.length ≤ 10000) :
    Ctr w mean mg mb 71 [.str (escT [] l) tk] 1 8 (fun _ _ n => TkOk n)
      (fun v own => ∃ t', v = .str (escT tblC2 l) t' ∧ own = []) := by
  w_top off
  k_with_none
  k_with "execs cons" => (k_here; (refine' gen_toks ?a ?_); (case a => ((fail_if_success (with_reducible assumption)); exact ⟨Nat.le_trans (TkOk.pos (by assumption)) (by first | exact Nat.le_add_right _ _ | omega)⟩)); intro tk htk)
  k_with "exec If" => (k_here; k_dflt (refine' esc_if ?t ?F ?N ?m ?l ?k ?c ?r ?cr ?r14 ?_ ?hk ?hx ?he ?hs; (case t => k_asm); (case F => k_asm); (case N => k_asm); (case m => exact rfl); (case l => assumption); (case k => decide +kernel); (case c => first | exact s_amp | exact s_lt | exact s_gt | exact s_quo | exact s_cr | exact s_nl | exact s_tab); (case r => first | exact r_amp | exact r_lt | exact r_gt | exact r_quo | exact r_13 | exact r_10 | exact r_09 | exact r_xD | exact r_x9 | exact r_xA); (case cr => decide +kernel); (case r14 => decide +kernel); (case hk => exact rfl); (case hx => exact rfl); (case he => exact rfl); (case hs => exact rfl); k_whole); intro t' h' tk' hT' F' N'; (try k_sweep))
  unfold Ctr
  k_fill
  intro dp un gd cn cs a ccd cl outer A₀ base h₀ L m news s Q E B F X N T hk hpre hd hu hret
  refine wpAny_call ?_
  k_dflt cell_enter
  k_steps
  all_goals exact hret _ [] _ _ (by assumption) (by assumption) (fun _ _ _ h => nomatch h) ⟨_, rfl, rfl⟩
set_option maxHeartbeats 8000000 in
theorem c_esc4 (w mean mg mb) (l : List Nat) (tk : Tok) (hl : l.length ≤ 10000) :
    Ctr w mean mg mb 78 [.str (escT [] l) tk] 1 8 (fun _ _ n => TkOk n)
      (fun v own => ∃ t', v = .str (escT tblA2 l) t' ∧ own = []) := by
  w_top off
  k_with_none
  k_with "execs cons" => (k_here; (refine' gen_toks ?a ?_); (case a => ((fail_if_success (with_reducible assumption)); exact ⟨Nat.le_trans (TkOk.pos (by assumption)) (by first | exact Nat.le_add_right _ _ | omega)⟩)); intro tk htk)
  k_with "exec If" => (k_here; k_dflt (refine' esc_if ?t ?F ?N ?m ?l ?k ?c ?r ?cr ?r14 ?_ ?hk ?hx ?he ?hs; (case t => k_asm); (case F => k_asm); (case N => k_asm); (case m => exact rfl); (case l => assumption); (case k => decide +kernel); (case c => first | exact s_amp | exact s_lt | exact s_gt | exact s_quo | exact s_cr | exact s_nl | exact s_tab); (case r => first | exact r_amp | exact r_lt | exact r_gt | exact r_quo | exact r_13 | exact r_10 | exact r_09 | exact r_xD | exact r_x9 | exact r_xA); (case cr => decide +kernel); (case r14 => decide +kernel); (case hk => exact rfl); (case hx => exact rfl); (case he => exact rfl); (case hs => exact rfl); k_whole); intro t' h' tk' hT' F' N'; (try k_sweep))
  unfold Ctr
  k_fill
  intro dp un gd cn cs a ccd cl outer A₀ base h₀ L m news s Q E B F X N T hk hpre hd hu hret
  refine wpAny_call ?_
  k_dflt cell_enter
  k_steps
  all_goals exact hret _ [] _ _ (by assumption) (by assumption) (fun _ _ _ h => nomatch h) ⟨_, rfl, rfl⟩
end
section
open PySem PySem.W PySem.Calls PyProof.Rows
noncomputable def pieceA (i : Int) : List Nat := (Txt.item (Str.ofString "a&<>\"") i).cps.toList
noncomputable def pieceB (j : Int) : List Nat := if j = 0 then [97] else if j = 1 then [38] else if j = 2 then [60] else if j = 3 then [62] else if j = 4 then [34] else []
/-- the piece that a cell tells -/
noncomputable def pieceL (c : Int) : List Nat := pieceA (c.fmod 5) ++ pieceB ((c.fdiv 5).fmod 6)
section
variable {prog : Program} {w : World} {A : Around} {E : Value → Shared → Prop} {s : Shared}
theorem item_six {value slice : PySem.Expr} {l : Addr} {k : Int} {u : Tok} {v0 v1 v2 v3 v4 v5 : Value} {Q : Value → Shared → Prop} (hl : s.heap.IsList l [v0, v1, v2, v3, v4, v5].toArray) (h0 : 0 ≤ k) (h6 : k < 6)
    (hs : subscripted slice false (.ref l) (.int k u) = operate [.ref l, .int k u] (getItem (.ref l) (.int k u)))
    (c0 : k = 0 → Q v0 s) (c1 : k = 1 → Q v1 s) (c2 : k = 2 → Q v2 s) (c3 : k = 3 → Q v3 s) (c4 : k = 4 → Q v4 s) (c5 : k = 5 → Q v5 s) :
    wpAny (model prog w) A (subscriptTail value slice (.ref l) (.int k u)) Q E s := by
  have hc : k = 0 ∨ k = 1 ∨ k = 2 ∨ k = 3 ∨ k = 4 ∨ k = 5 := by omega
  have fin : ∀ v, [v0, v1, v2, v3, v4, v5][k.toNat]? = some v → Q v s → wpAny (model prog w) A (subscriptTail value slice (.ref l) (.int k u)) Q E s := fun v hv hq => item_litK hl h0 (by omega) hv hq hs
  rcases hc with rfl | rfl | rfl | rfl | rfl | rfl
  · exact fin _ rfl (c0 rfl)
  · exact fin _ rfl (c1 rfl)
  · exact fin _ rfl (c2 rfl)
  · exact fin _ rfl (c3 rfl)
  · exact fin _ rfl (c4 rfl)
  · exact fin _ rfl (c5 rfl)
end
theorem piece_end {x y : Str} {l : List Nat} (hx : x.cps.toList ++ y.cps.toList = l) : x ++ y = escT [] l := by
  apply Str.ext'
  rw [Str.cps_append]
  apply Array.toList_inj.mp
  rw [Array.toList_append, hx]
  rfl
theorem piece_len (c : Int) : (pieceL c).length ≤ 2 := by
  have h1 : (pieceA (c.fmod 5)).length = 1 := rfl
  have h2 : (pieceB ((c.fdiv 5).fmod 6)).length ≤ 1 := by
    unfold pieceB
    (repeat' split) <;> decide
  unfold pieceL
  rw [List.length_append]
  omega
theorem w_a : Str.ofString "a" = ⟨#[97]⟩ := by decide +kernel
theorem w_e : Str.ofString "" = ⟨#[]⟩ := by decide +kernel
set_option maxHeartbeats 8000000 in
theorem c_piece (w mean mg mb) (c : Int) (tk : Tok) :
    Ctr w mean mg mb 92 [.int c tk] 1 8 (fun _ _ _ => True)
      (fun v own => ∃ t', v = .str (escT [] (pieceL c)) t' ∧ ∃ o, own = [o]) := by
  w_top off
  k_with_none
  k_with "subscriptTail" => (k_here; (with_reducible show wpAny _ _ (subscriptTail _ _ (Value.ref _) (Value.int _ _)) _ _ _); (with_unfolding_all refine' item_six ?k1 ?k2 ?k3 ?k6 ?_ ?_ ?_ ?_ ?_ ?_; (case k1 => is_list); (case k2 => exact Int.fmod_nonneg_of_pos _ (by decide)); (case k3 => exact Int.fmod_lt_of_pos _ (by decide)); (case k6 => with_unfolding_all rfl)); all_goals (intro hpk; try dsimp only))
  unfold Ctr
  k_fill
  intro dp un gd cn cs a ccd cl outer A₀ base h₀ L m news s Q E B F X N T hk hpre hd hu hret
  refine wpAny_call ?_
  k_dflt cell_enter
  k_steps
  all_goals ((rename (c.fdiv 5).fmod 6 = _ => hpk); (rename ∀ p ∈ news, p.1 < _ => kl))
  all_goals (refine hret _ [_] _ _ (by assumption) (by assumption) (fun q hq p hp => by rw [List.mem_singleton.mp hp]; exact kl q hq) ⟨_, congrArg (fun x => Value.str x _) (piece_end ?_), _, rfl⟩)
  all_goals (unfold pieceL pieceB; rw [hpk]; (first | rw [w_a] | rw [s_amp] | rw [s_lt] | rw [s_gt] | rw [s_quo] | rw [w_e]); rfl)
end
section
open PySem PySem.W PySem.Calls PyProof.Rows
section
variable {prog : Program} {w : World} {A : Around} {E : Value → Shared → Prop} {s : Shared}
theorem item_five {value slice : PySem.Expr} {l : Addr} {k : Int} {u : Tok} {v0 v1 v2 v3 v4 : Value} {Q : Value → Shared → Prop} (hl : s.heap.IsList l [v0, v1, v2, v3, v4].toArray) (h0 : 0 ≤ k) (h6 : k < 5)
    (hs : subscripted slice false (.ref l) (.int k u) = operate [.ref l, .int k u] (getItem (.ref l) (.int k u)))
    (c0 : k = 0 → Q v0 s) (c1 : k = 1 → Q v1 s) (c2 : k = 2 → Q v2 s) (c3 : k = 3 → Q v3 s) (c4 : k = 4 → Q v4 s) :
    wpAny (model prog w) A (subscriptTail value slice (.ref l) (.int k u)) Q E s := by
  have hc : k = 0 ∨ k = 1 ∨ k = 2 ∨ k = 3 ∨ k = 4 := by omega
  have fin : ∀ v, [v0, v1, v2, v3, v4][k.toNat]? = some v → Q v s → wpAny (model prog w) A (subscriptTail value slice (.ref l) (.int k u)) Q E s := fun v hv hq => item_litK hl h0 (by omega) hv hq hs
  rcases hc with rfl | rfl | rfl | rfl | rfl
  · exact fin _ rfl (c0 rfl)
  · exact fin _ rfl (c1 rfl)
  · exact fin _ rfl (c2 rfl)
  · exact fin _ rfl (c3 rfl)
  · exact fin _ rfl (c4 rfl)
end

/-- a text as a comprehension's source -/
noncomputable def SrcStr (prog : Program) (w : World) (A : Around) (h₀ : Heap) (L : Addr) (m : Str → Option Value) (env : Env) (elt : Expr) (x : Str) (scope : Scope) (cl : List (Str × Addr)) (Fin : Shared → List Value → List (Addr × Obj) → Prop) (xv : Value) (s₁ : Shared) : Prop :=
  ∃ X t news, xv = .str X t ∧ A.handled = none ∧ Fr h₀ L s₁.heap m ∧ News h₀ L s₁.heap news ∧ X.cps.size ≤ sizeLine ∧
    ∀ s₂ : Shared, (∃ h, s₂ = { s₁ with heap := h }) → LCg.CompRest prog w A h₀ L m env elt x scope cl s₂ (fun _ => True) (SignAt X) (Fin s₂) X.cps.size 0 [] news
section
variable {prog : Program} {w : World} {A : Around} {E : Value → Shared → Prop} {s : Shared} {h₀ : Heap} {L : Addr} {m : Str → Option Value} {env : Env}
theorem SrcStr.intro {elt : Expr} {x : Str} {scope : Scope} {cl : List (Str × Addr)} {Fin : Shared → List Value → List (Addr × Obj) → Prop} {X : Str} {t : Tok} {news : List (Addr × Obj)} {s₁ : Shared}
    (hh : A.handled = none) (F : Fr h₀ L s₁.heap m) (N : News h₀ L s₁.heap news) (hsz : X.cps.size ≤ sizeLine)
    (h : ∀ g : Heap, LCg.CompRest prog w A h₀ L m env elt x scope cl { s₁ with heap := g } (fun _ => True) (SignAt X) (Fin { s₁ with heap := g }) X.cps.size 0 [] news) :
    SrcStr prog w A h₀ L m env elt x scope cl Fin (.str X t) s₁ := ⟨X, t, news, rfl, hh, F, N, hsz, fun _ ⟨g, e⟩ => e ▸ h g⟩
theorem ListComp_str {elt iter : Expr} {x : Str} {px : Pos} {scope : Scope} {cl : List (Str × Addr)} {pos : Pos} {Q : Value → Shared → Prop} (F₀ : Fr h₀ L s.heap m)
    (hclos : closureFor scope env = pure cl) (hcell : ∀ y ∈ scope.names, y.2 ≠ .cell) (hkind : scope.kind = .function)
    (hnames : ∀ y ∈ scope.names, y.2 = .local → scope.names.lookup y.1 = some .local) (hx : scope.names.lookup x = some .local)
    (h : wpAny (model prog w) A (eval iter env) (SrcStr prog w A h₀ L m env elt x scope cl (fun s₂ => LCg.FinE h₀ L m s₂ Q)) E s)
    (hs : ∀ x, foldedSetIterable iter env x = pure x := by intro _; rfl) :
    wpAny (model prog w) A (eval (.ListComp elt [⟨.Name x px, iter, [], 0⟩] scope pos) env) Q E s := by
  rw [eval_ListComp]
  refine wpAny_comprehension_free (use := none) rfl hs hclos hkind hnames (wpAny_mono h (fun xv s₁ h₁ => ?_) fun _ _ e => e)
  obtain ⟨X, t, news, rfl, hh, F, N, hsz, R⟩ := h₁
  cases ha : X.cps.all (· < 128)
  · refine wpAny_pyIter_wide ha ?_
    refine LCg.block_U (Walks.strWide hh s₁.heap.objs.size X t) hsz (fun i h st => by obtain ⟨o, e, _⟩ := st; exact ⟨o, e⟩)
      (fun i h h' o nw st e e' _ _ _ => by obtain ⟨o', q, r⟩ := st; rw [e] at q; cases q; exact ⟨o, e', r⟩) hcell hkind hx ⟨_, Heap.get?_push_size _ rfl, rfl, rfl⟩ (fun b hb => ?_)
      (F.keeps fun b o e => Heap.get?_push_of_some _ e) (N.grown fun b o e => Heap.get?_push_of_some _ e) (Nat.ne_of_lt F.ns.lt) (next_is_new F) (fun p hp => Nat.ne_of_lt (Heap.lt_size (N p hp).1)) trivial (R _ ⟨_, rfl⟩) ?_
    · rw [List.mem_singleton.mp hb]
      show s₁.heap.objs.size < (s₁.heap.push _).objs.size
      rw [Heap.size_push]; exact Nat.lt_succ_self _
    · intro D C h tk m' ys news' F' N' o1 hn hC₀ hD₀ hCL hDL hCD offC fin
      refine ⟨m', hn, fun h'' hs'' => fin D h'' tk (F'.change hs'' hCL hC₀) (fun p hp => ?_) o1⟩
      refine ⟨hs''.extBut _ _ ?_ (N' p hp).1, (N' p hp).2⟩
      rcases List.mem_cons.mp hp with rfl | hp
      · exact Ne.symm hCD
      · exact offC p hp
  · refine wpAny_pyIter_ascii ha ?_
    refine LCg.block_U (Walks.strAscii hh s₁.heap.objs.size X t) hsz (fun i h st => by obtain ⟨o, e, _⟩ := st; exact ⟨o, e⟩)
      (fun i h h' o nw st e e' _ _ _ => by obtain ⟨o', q, r⟩ := st; rw [e] at q; cases q; exact ⟨o, e', r⟩) hcell hkind hx ⟨_, Heap.get?_push_size _ rfl, rfl, rfl⟩ (fun b hb => ?_)
      (F.keeps fun b o e => Heap.get?_push_of_some _ e) (N.grown fun b o e => Heap.get?_push_of_some _ e) (Nat.ne_of_lt F.ns.lt) (next_is_new F) (fun p hp => Nat.ne_of_lt (Heap.lt_size (N p hp).1)) trivial (R _ ⟨_, rfl⟩) ?_
    · rw [List.mem_singleton.mp hb]
      show s₁.heap.objs.size < (s₁.heap.push _).objs.size
      rw [Heap.size_push]; exact Nat.lt_succ_self _
    · intro D C h tk m' ys news' F' N' o1 hn hC₀ hD₀ hCL hDL hCD offC fin
      refine ⟨m', hn, fun h'' hs'' => fin D h'' tk (F'.change hs'' hCL hC₀) (fun p hp => ?_) o1⟩
      refine ⟨hs''.extBut _ _ ?_ (N' p hp).1, (N' p hp).2⟩
      rcases List.mem_cons.mp hp with rfl | hp
      · exact Ne.symm hCD
      · exact offC p hp

/-- an element's int, told by the sign -/
noncomputable def SignEl (news : List (Addr × Obj)) (g : Int) (y : Value) (news' : List (Addr × Obj)) : Prop := news' = news ∧ ∃ t : Tok, y = .int g t
theorem ints_snoc {y : Int} {t : Tok} : ∀ {vs : List Value} {ys : List Int}, IntsAre vs ys → IntsAre (vs ++ [.int y t]) (ys ++ [y])
  | _, _, .nil => .cons y t .nil
  | _, _, .cons z u r => .cons z u (ints_snoc r)
theorem sign_rest {elt : Expr} {x : Str} {scope : Scope} {cl : List (Str × Addr)} {S : List (Addr × Obj) → Prop} {Fin : List Value → List (Addr × Obj) → Prop} {news : List (Addr × Obj)} {X : Str} (g : Nat → Int)
    (turn : ∀ k t I oI C oC D m₂ ys h tk (E' : Value → Shared → Prop), k ∈ X.cps.toList → LCg.NsObj oC m₂ → m₂ x = some (.str ⟨#[k]⟩ t) → Fr h₀ L h m → News h₀ L h ((I, oI) :: (C, oC) :: (D, LCg.lst ys) :: news) → LCg.Off3 I C D news → ((@Ne Nat I C) ∧ (@Ne Nat I D) ∧ (@Ne Nat C D)) →
      wpAny (model prog w) A (eval elt (compEnvC scope cl C env)) (LCg.CompEnd h₀ L m { s with heap := h, toks := tk } I oI C oC D (LCg.lst ys) S (fun y news' => SignEl news (g k) y news')) E' { s with heap := h, toks := tk })
    (fin : ∀ ys, IntsAre ys (X.cps.toList.map g) → Fin ys news) : LCg.CompRest prog w A h₀ L m env elt x scope cl s S (SignAt X) Fin X.cps.size 0 [] news := by
  have key : ∀ (j i : Nat) (ys : List Value), i + j = X.cps.size → IntsAre ys ((X.cps.toList.take i).map g) → LCg.CompRest prog w A h₀ L m env elt x scope cl s S (SignAt X) Fin j i ys news := by
    intro j
    induction j with
    | zero =>
      intro i ys hi hy
      have e : i = X.cps.toList.length := by rw [Array.length_toList]; omega
      rw [e, List.take_length] at hy
      exact LCg.CompRest.zero (fin ys hy)
    | succ j ih =>
      intro i ys hi hy
      refine LCg.CompRest.succ ?_
      intro v I oI C oC D m₂ h tk E' hv hC hx F N off ne
      obtain ⟨k, t, hk, rfl⟩ := hv
      have hk' : X.cps.toList[i]? = some k := by rw [Array.getElem?_toList]; exact hk
      refine wpAny_mono (turn k t I oI C oC D m₂ ys h tk E' (List.mem_of_getElem? hk') hC hx F N off ne) (fun y s₂ hq => ?_) fun _ _ e => e
      obtain ⟨h', tk', nw, e, F', N', off', hS, hn, t', hy'⟩ := hq
      rw [hn] at N' off' hS
      refine ⟨h', tk', news, e, F', N', off', hS, ?_⟩
      rw [hy']
      refine ih (i + 1) _ (by omega) ?_
      rw [List.take_add_one, hk']
      simpa using ints_snoc hy
  exact key _ 0 [] (by omega) (by simp only [List.take_zero, List.map_nil]; exact .nil)
end
end
section
open PySem PySem.W PySem.Calls PyProof.Rows
/-- how many signs the escape makes of one -/
noncomputable def wgt (hand : Int) (k : Nat) : Int := if k = 97 then 1 else if k = 38 then 5 else if k = 60 then (if hand = 2 then 1 else 4) else if k = 62 then (if hand = 4 then 1 else 4) else (if hand = 0 ∨ hand = 3 then 1 else 6)
theorem pieceA_mem {c : Int} : ∀ k ∈ pieceA (c.fmod 5), k = 97 ∨ k = 38 ∨ k = 60 ∨ k = 62 ∨ k = 34 := by
  have h0 := Int.fmod_nonneg_of_pos c (b := 5) (by decide)
  have h1 := Int.fmod_lt_of_pos c (b := 5) (by decide)
  have hc : c.fmod 5 = 0 ∨ c.fmod 5 = 1 ∨ c.fmod 5 = 2 ∨ c.fmod 5 = 3 ∨ c.fmod 5 = 4 := by omega
  rcases hc with h | h | h | h | h <;> rw [h] <;> decide +kernel
theorem pieceL_mem {c : Int} : ∀ k ∈ pieceL c, k = 97 ∨ k = 38 ∨ k = 60 ∨ k = 62 ∨ k = 34 := by
  intro k hk
  rcases List.mem_append.mp hk with h | h
  · exact pieceA_mem k h
  · unfold pieceB at h
    (repeat' split at h) <;> simp_all
theorem escT_cps (l : List Nat) : (escT [] l).cps.toList = l := rfl
theorem s_mem {c : Int} {k : Nat} (h : k ∈ (escT [] (pieceL c)).cps.toList) : k = 97 ∨ k = 38 ∨ k = 60 ∨ k = 62 ∨ k = 34 := pieceL_mem k h
structure HandIs (h : Int) : Prop where
  mk9 : True
theorem ix_a : Builtin.Str.occurrences (Str.ofString "a&<>\"") ⟨#[97]⟩ 0 (Str.ofString "a&<>\"").length 1 = [0] := by decide +kernel
theorem ix_amp : Builtin.Str.occurrences (Str.ofString "a&<>\"") ⟨#[38]⟩ 0 (Str.ofString "a&<>\"").length 1 = [1] := by decide +kernel
theorem ix_lt : Builtin.Str.occurrences (Str.ofString "a&<>\"") ⟨#[60]⟩ 0 (Str.ofString "a&<>\"").length 1 = [2] := by decide +kernel
theorem ix_gt : Builtin.Str.occurrences (Str.ofString "a&<>\"") ⟨#[62]⟩ 0 (Str.ofString "a&<>\"").length 1 = [3] := by decide +kernel
theorem ix_quo : Builtin.Str.occurrences (Str.ofString "a&<>\"") ⟨#[34]⟩ 0 (Str.ofString "a&<>\"").length 1 = [4] := by decide +kernel
/-- the row of digits of a hand, and where a sign stands -/
noncomputable def rowS (hand : Int) : Str := if hand = 0 then Str.ofString "15441" else if hand = 1 then Str.ofString "15446" else if hand = 2 then Str.ofString "15146" else if hand = 3 then Str.ofString "15441" else Str.ofString "15416"
noncomputable def ixS (k : Nat) : Int := if k = 97 then 0 else if k = 38 then 1 else if k = 60 then 2 else if k = 62 then 3 else 4
noncomputable def digS (hand : Int) (k : Nat) : Str := Txt.item (rowS hand) (ixS k)
theorem row_len {hand : Int} (h0 : 0 ≤ hand) (h5 : hand < 5) : (rowS hand).length = 5 := by
  have hc : hand = 0 ∨ hand = 1 ∨ hand = 2 ∨ hand = 3 ∨ hand = 4 := by omega
  rcases hc with rfl | rfl | rfl | rfl | rfl <;> decide +kernel
theorem ixS_in {k : Nat} (hk : k = 97 ∨ k = 38 ∨ k = 60 ∨ k = 62 ∨ k = 34) : fitsSsize (ixS k) = true ∧ 0 ≤ ixS k ∧ ixS k < 5 := by
  rcases hk with rfl | rfl | rfl | rfl | rfl <;> decide +kernel
theorem dig_reads {hand : Int} {k : Nat} (h0 : 0 ≤ hand) (h5 : hand < 5) (hk : k = 97 ∨ k = 38 ∨ k = 60 ∨ k = 62 ∨ k = 34) : PySem.intText? (digS hand k) = some (wgt hand k) ∧ (digS hand k).length = 1 := by
  have hc : hand = 0 ∨ hand = 1 ∨ hand = 2 ∨ hand = 3 ∨ hand = 4 := by omega
  rcases hc with rfl | rfl | rfl | rfl | rfl <;> rcases hk with rfl | rfl | rfl | rfl | rfl <;> decide +kernel
section
variable {prog : Program} {w : World} {A : Around} {E : Value → Shared → Prop} {s : Shared} {h₀ : Heap} {L : Addr} {m : Str → Option Value} {env : Env}
theorem index_at {x y : Str} {t u : Tok} {i : Nat} {rest : List Nat} {k : Int} {Q : Value → Shared → Prop} (ho : Builtin.Str.occurrences x y 0 x.length 1 = i :: rest) (hk : (i : Int) = k) (hq : Q (.int k s.toks) { s with toks := s.toks + 1 }) :
    wpAny (model prog w) A (call (.builtin "str.index") [.str x t, .str y u]) Q E s := by
  subst hk
  exact SC.index ho hq
theorem item_row {value slice : PySem.Expr} {l : Addr} {k : Int} {u t0 t1 t2 t3 t4 : Tok} {Q : Value → Shared → Prop} (hl : s.heap.IsList l [Value.str (Str.ofString "15441") t0, .str (Str.ofString "15446") t1, .str (Str.ofString "15146") t2, .str (Str.ofString "15441") t3, .str (Str.ofString "15416") t4].toArray) (h0 : 0 ≤ k) (h6 : k < 5)
    (hs : subscripted slice false (.ref l) (.int k u) = operate [.ref l, .int k u] (getItem (.ref l) (.int k u))) (h : ∀ t, Q (.str (rowS k) t) s) : wpAny (model prog w) A (subscriptTail value slice (.ref l) (.int k u)) Q E s :=
  item_five hl h0 h6 hs (fun e => by subst e; exact h t0) (fun e => by subst e; exact h t1) (fun e => by subst e; exact h t2) (fun e => by subst e; exact h t3) (fun e => by subst e; exact h t4)
theorem index_sign {k : Nat} {t u : Tok} {Q : Value → Shared → Prop} (hk : k = 97 ∨ k = 38 ∨ k = 60 ∨ k = 62 ∨ k = 34) (hq : Q (.int (ixS k) s.toks) { s with toks := s.toks + 1 }) :
    wpAny (model prog w) A (call (.builtin "str.index") [.str (Str.ofString "a&<>\"") t, .str ⟨#[k]⟩ u]) Q E s := by
  rcases hk with rfl | rfl | rfl | rfl | rfl
  · exact index_at ix_a rfl hq
  · exact index_at ix_amp rfl hq
  · exact index_at ix_lt rfl hq
  · exact index_at ix_gt rfl hq
  · exact index_at ix_quo rfl hq
theorem item_sign {value slice : PySem.Expr} {hand : Int} {k : Nat} {t u : Tok} {Q : Value → Shared → Prop} (h0 : 0 ≤ hand) (h5 : hand < 5) (hk : k = 97 ∨ k = 38 ∨ k = 60 ∨ k = 62 ∨ k = 34)
    (hs : subscripted slice false (.str (rowS hand) t) (.int (ixS k) u) = operate [.str (rowS hand) t, .int (ixS k) u] (getItem (.str (rowS hand) t) (.int (ixS k) u))) (ht : ∀ r, letTemporaryGo value (.str (rowS hand) t) r = pure ()) (h : Q (.str (digS hand k) s.toks) { s with toks := s.toks + 1 }) :
    wpAny (model prog w) A (subscriptTail value slice (.str (rowS hand) t) (.int (ixS k) u)) Q E s := by
  have h1 := row_len h0 h5
  obtain ⟨h2, h3, h4⟩ := ixS_in hk
  exact item_str h2 (by omega) (by omega) (fun _ => h) hs ht
theorem int_sign {hand : Int} {k : Nat} {t : Tok} {Q : Value → Shared → Prop} (h0 : 0 ≤ hand) (h5 : hand < 5) (hk : k = 97 ∨ k = 38 ∨ k = 60 ∨ k = 62 ∨ k = 34) (h : Q (.int (wgt hand k) s.toks) { s with toks := s.toks + 1 }) :
    wpAny (model prog w) A (call (.type "int") [.str (digS hand k) t]) Q E s := by
  obtain ⟨h1, h2⟩ := dig_reads h0 h5 hk
  exact KIN.call_text h1 (by rw [h2]; decide) h
theorem sign_restH {hand : Int} (_hH : HandIs hand) {elt : Expr} {x : Str} {scope : Scope} {cl : List (Str × Addr)} {S : List (Addr × Obj) → Prop} {Fin : List Value → List (Addr × Obj) → Prop} {news : List (Addr × Obj)} {c : Int}
    (turn : ∀ k t I oI C oC D m₂ ys h tk (E' : Value → Shared → Prop), (k = 97 ∨ k = 38 ∨ k = 60 ∨ k = 62 ∨ k = 34) → LCg.NsObj oC m₂ → m₂ x = some (.str ⟨#[k]⟩ t) → Fr h₀ L h m → News h₀ L h ((I, oI) :: (C, oC) :: (D, LCg.lst ys) :: news) → LCg.Off3 I C D news → ((@Ne Nat I C) ∧ (@Ne Nat I D) ∧ (@Ne Nat C D)) →
      wpAny (model prog w) A (eval elt (compEnvC scope cl C env)) (LCg.CompEnd h₀ L m { s with heap := h, toks := tk } I oI C oC D (LCg.lst ys) S (fun y news' => SignEl news (wgt hand k) y news')) E' { s with heap := h, toks := tk })
    (fin : ∀ ys, IntsAre ys ((pieceL c).map (wgt hand)) → Fin ys news) : LCg.CompRest prog w A h₀ L m env elt x scope cl s S (SignAt (escT [] (pieceL c))) Fin (escT [] (pieceL c)).cps.size 0 [] news :=
  sign_rest (wgt hand) (fun k t I oI C oC D m₂ ys h tk E' hk => turn k t I oI C oC D m₂ ys h tk E' (s_mem hk)) fin
theorem sign_end {s₁ : Shared} {I C D : Addr} {oI oC oD : Obj} {news : List (Addr × Obj)} {g : Int} {t : Tok} {h' : Heap} {tk : Nat} (F : Fr h₀ L h' m) (N : News h₀ L h' ((I, oI) :: (C, oC) :: (D, oD) :: news)) (off : LCg.Off3 I C D news) :
    LCg.CompEnd h₀ L m s₁ I oI C oC D oD (fun _ => True) (fun y news' => SignEl news g y news') (.int g t) { s₁ with heap := h', toks := tk } :=
  LCg.CompEnd.intro F N news (fun _ h => h) off trivial ⟨rfl, t, rfl⟩
end
set_option maxHeartbeats 8000000 in
theorem c_long (w mean mg mb) (c hand : Int) (tk th : Tok) (h0 : 0 ≤ hand) (h5 : hand < 5) :
    Ctr w mean mg mb 97 [.str (escT [] (pieceL c)) tk, .int hand th] 1 8 (fun _ _ _ => True)
      (fun v own => ∃ t', v = .int (((pieceL c).map (wgt hand)).sum) t' ∧ own = []) := by
  w_top off
  k_with_none
  k_with "eval ListComp" => (k_here; k_dflt (refine ListComp_str (F₀ := by k_asm) (by with_unfolding_all rfl) (by decide) (by rfl) (by decide) (by rfl) ?_))
  k_with "CompEnd" => (k_dflt (exact sign_end (by assumption) (by assumption) (by assumption)))
  k_with "subscriptTail" => (k_here; (with_reducible show wpAny _ _ (subscriptTail _ _ (Value.ref _) (Value.int _ _)) _ _ _); (with_unfolding_all refine' item_row ?k1 ?k2 ?k3 ?k6 ?_; (case k1 => is_list); (case k2 => assumption); (case k3 => assumption); (case k6 => with_unfolding_all rfl)); intro t')
  k_with "subscriptTail" => (k_here; (with_reducible show wpAny _ _ (subscriptTail _ _ (Value.str _ _) (Value.int _ _)) _ _ _); k_dflt (refine' item_sign ?k1 ?k2 ?k3 ?k4 ?k5 ?_; (case k1 => assumption); (case k2 => assumption); (case k3 => assumption); (case k4 => with_unfolding_all rfl); (case k5 => (intro _; with_unfolding_all rfl))))
  k_with "call builtin:str.index" => (k_here; k_dflt (refine' index_sign (by assumption) ?_))
  k_with "call type:int" => (k_here; k_dflt (refine' int_sign (by assumption) (by assumption) (by assumption) ?_))
  k_with "SrcStr" => (k_here; k_dflt (refine SrcStr.intro (by rfl) (by k_asm) (by k_asm) ?sz ?_); (case sz => (refine Nat.le_trans (escT_len (by decide +kernel) _) ?_; (have hpl := piece_len (by assumption)); rw [sizeLine_eq]; omega)); intro g'; (refine' sign_restH (by assumption) (fun k' t' I' oI' C' oC' D' m' ys' h' tk' E' hk' hC' hx' F' N' off' ne' => ?_) (fun ys' hys' => ?_)))
  unfold Ctr
  k_fill
  intro dp un gd cn cs a ccd cl outer A₀ base h₀ L m news s Q E B F X N T hk hpre hd hu hret
  have hpl := piece_len c
  have hH : HandIs hand := ⟨trivial⟩
  refine wpAny_call ?_
  k_dflt (refine' code_defC ?k1 ?k2 ?k3 ?k4 ?k5 ?kA ?kF ?kK ?k6 ?k7 ?k8 ?k9 ?kB ?kD ?_ ?c2 ?c3 ?c4; (case kA => exact rfl); (case kF => exact rfl); (case kK => assumption); (case k1 => k_asm); (case k2 => k_asm); (case k3 => k_asm); (case k4 => k_asm); (case k5 => k_asm); (case k6 => k_is); (case k7 => k_is); (case k8 => ktr_room); (case k9 => exact BindsTo.of_eq rfl); (case kB => exact rfl); (case kD => decide +kernel); (case c2 => exact rfl); (case c3 => exact rfl); (case c4 => exact rfl); k_whole; intro g' L' h' tk' cells' FG' F' N' Y' B' X' T' l1; (have l1a := fun p hp => Nat.lt_add_one_of_lt (l1 p hp)); (have kM := kstMark); (try k_lt l1); k_cells Y'; (try simp only [List.cons_append, List.nil_append] at N'); (try dsimp only); (try k_lift B'); (try k_fold))
  k_steps
  all_goals exact hret _ [] _ _ (by assumption) (cb_drop (by assumption) (fun p hp => by (repeat (first | exact hp | apply List.mem_cons_of_mem)))) (fun _ _ _ h => nomatch h) ⟨_, rfl, rfl⟩
end
section
open PySem PySem.W PySem.Calls PyProof.Rows
structure Sm (i : Int) : Prop where
  lo : 0 ≤ i
  hi : i ≤ 64
theorem Sm.ok {a b : Int} (h : Sm a) : IntMulOk a b := IntMulOk.of_left (intBits_le_64 (by have := h.lo; omega) (by have := h.hi; omega))
theorem Sm.ok2 {a b : Int} (h : Sm b) : IntMulOk a b := IntMulOk.of_right (intBits_le_64 (by have := h.lo; omega) (by have := h.hi; omega))
structure LampsOk (l : Int) : Prop where
  lo : 1 ≤ l
  hi : l ≤ 32
theorem LampsOk.ne {l : Int} (h : LampsOk l) : l ≠ 0 := by have := h.lo; omega
theorem LampsOk.sm {l x : Int} (h : LampsOk l) : Sm (x.fmod l) := by
  have h1 := Int.fmod_nonneg_of_pos x (b := l) (by have := h.lo; omega)
  have h2 := Int.fmod_lt_of_pos x (b := l) (by have := h.lo; omega)
  have h3 := h.hi
  exact ⟨h1, by omega⟩
noncomputable def leapS (lamps : Int) (x : Int × Int × Int × Int) : Int × Int × Int × Int :=
  ((x.1 * x.1 + x.2.1 * x.2.2.1).fmod lamps, (x.1 * x.2.1 + x.2.1 * x.2.2.2).fmod lamps, (x.2.2.1 * x.1 + x.2.2.2 * x.2.2.1).fmod lamps, (x.2.2.1 * x.2.1 + x.2.2.2 * x.2.2.2).fmod lamps)
noncomputable def leapF (a b lamps : Int) : Nat → Int × Int × Int × Int
  | 0 => (0, 1, b, a)
  | n + 1 => leapS lamps (leapF a b lamps n)
theorem drop_two {a b : Addr × Obj} {news : List (Addr × Obj)} : ∀ p ∈ [a] ++ news, p ∈ a :: b :: news := fun p hp => by
  rcases List.mem_cons.mp hp with rfl | hp
  · exact .head _
  · exact .tail _ (.tail _ hp)
theorem leap_start {a b lamps : Int} (ha : Sm a) (hb : Sm b) : (0, 1, b, a) = leapF a b lamps ([] : List Int).length ∧ Sm 0 ∧ Sm 1 ∧ Sm b ∧ Sm a := ⟨rfl, ⟨by decide, by decide⟩, ⟨by decide, by decide⟩, hb, ha⟩
theorem leap_turn {a b lamps p q r s k : Int} {pre : List Int} (hl : LampsOk lamps) (h : (p, q, r, s) = leapF a b lamps pre.length) :
    ((p * p + q * r).fmod lamps, (p * q + q * s).fmod lamps, (r * p + s * r).fmod lamps, (r * q + s * s).fmod lamps) = leapF a b lamps (pre ++ [k]).length ∧ Sm ((p * p + q * r).fmod lamps) ∧ Sm ((p * q + q * s).fmod lamps) ∧ Sm ((r * p + s * r).fmod lamps) ∧ Sm ((r * q + s * s).fmod lamps) := by
  refine ⟨?_, hl.sm, hl.sm, hl.sm, hl.sm⟩
  rw [List.length_append, List.length_singleton]
  show _ = leapS lamps (leapF a b lamps pre.length)
  rw [← h]
  rfl
set_option maxHeartbeats 8000000 in
theorem c_leap (w mean mg mb) (a b lamps : Int) (t : Nat) (ta tb tl tt : Tok) (ha : Sm a) (hb : Sm b) (hl : LampsOk lamps) (h6 : t ≤ 4) :
    Ctr w mean mg mb 111 [.int a ta, .int b tb, .int lamps tl, .int (t : Int) tt] 1 8 (fun _ _ _ => True)
      (fun v own => ∃ D t1 t2, v = .ref D ∧ own = [(D, tupOf [.int (leapF a b lamps t).1 t1, .int (leapF a b lamps t).2.1 t2] 0)]) := by
  w_top off
  k_with_none
  k_with "binaryOp Mult int int" => (k_here; refine mul_int ?_ (Sm.ok (by assumption)))
  k_with "binaryOp Mod int int" => (k_here; refine mod_int' (LampsOk.ne (by assumption)) ?_)
  unfold Ctr
  k_fill
  intro dp un gd cn cs a9 ccd cl outer A₀ base h₀ L m news s Q E B F X N T hk hpre hd hu hret
  refine wpAny_call ?_
  k_dflt cell_enter
  k_with "state" => first | exact leap_turn hl (by assumption) | exact leap_start ha hb
  k_with "pyIter ref" => k_state (fun pre p q r s => (p, q, r, s) = leapF a b lamps pre.length ∧ Sm p ∧ Sm q ∧ Sm r ∧ Sm s) "p" "q" "r" "s"
  k_steps
  (rename (_, _, _, _) = leapF _ _ _ _ => e1)
  (rename _ ∧ AllLt _ news => e2)
  have e3 : (rangeKs 0 ((t : Int) - 0).toNat).length = t := by rw [rangeKs_length]; omega
  rw [e3] at e1
  refine hret _ [(_, _)] _ _ (by assumption) (cb_drop (by assumption) drop_two) (own_one (kst_ltOf e2.2)) ⟨_, _, _, rfl, congrArg (fun (x : Int × Int × Int × Int) => [((_ : Addr), tupOf [.int x.1 _, .int x.2.1 _] 0)]) e1⟩
end
section
open PySem PySem.W PySem.Calls PyProof.Rows PyProof.V PySem.Spec
section
variable {prog : Program} {w : World} {A : Around} {E : Value → Shared → Prop} {s : Shared} {env : Env} {h₀ : Heap} {x1 x2 : Str} {p1 p2 pt : Pos} {kk : Nat} {body : List Stmt} {Q : Flow → Shared → Prop}
/-- the loop behind an enumerate -/
noncomputable def LoopT (prog : Program) (w : World) (A : Around) (_h₀ : Heap) (env : Env) (x1 : Str) (p1 : Pos) (x2 : Str) (p2 : Pos) (kk : Nat) (pt : Pos) (body : List Stmt) (Q : Flow → Shared → Prop) (E : Value → Shared → Prop) (it : Value) (s₂ : Shared) : Prop :=
  codeAny (model prog w) A (.forLoop (.Tuple [.Name x1 p1, .Name x2 p2] kk pt) it body [] env) (fun r s' => match r with | .ok f => Q f s' | .error e => cameBackBy (model prog w) A env E e s') s₂
theorem For_enum {m : Str → Option Value} {pos : Pos} {iter : Expr} (_F : Fr h₀ env.locals s.heap m)
    (h : wpAny (model prog w) A (eval iter env) (fun xv s₁ => wpAny (model prog w) A (pyIter xv) (fun it s₂ => LoopT prog w A h₀ env x1 p1 x2 p2 kk pt body Q E it s₂) E s₁) E s)
    (hs : ∀ x, foldedSetIterable iter env x = pure x := by intro _; rfl) :
    wpAny (model prog w) A (exec (.For (.Tuple [.Name x1 p1, .Name x2 p2] kk pt) iter body [] pos) env) Q E s := wpAny_For h hs
theorem enum_loop {l : Addr} {c : Nat} {vs : List Value} {m₀ : Str → Option Value} {news : List (Addr × Obj)} (J : Nat → (Str → Option Value) → List (Addr × Obj) → Prop)
    (hh : A.handled = none) (hx1 : env.kindOf x1 = some .local) (hx2 : env.kindOf x2 = some .local)
    (hp : (env.scope.kind == .class || (env.scope.kind == .module && env.locals != env.globals)) = false)
    (F : Fr h₀ env.locals s.heap m₀) (N : News h₀ env.locals s.heap news) (hl : ∀ i m nx, J i m nx → (l, W.listOf vs.toArray c) ∈ nx) (hj : J 0 m₀ news)
    (turn : ∀ i t v m₁ news₁ h tk e oe it oit, vs[i]? = some v → news₁.map (·.1) = news.map (·.1) → OwnOff [(e, oe), (it, oit)] (news.map (·.1)) → J i m₁ news₁ →
      Fr h₀ env.locals h (fun y => if y = x2 then some v else if y = x1 then some (.int (i : Int) t) else m₁ y) → News h₀ env.locals h (news₁ ++ [(e, oe), (it, oit)]) →
      wpAny (model prog w) A (execs body env) (InvPostN h₀ env.locals (J (i + 1)) [(e, oe), (it, oit)] (news.map (·.1)) { s with heap := h, toks := tk } Q) E { s with heap := h, toks := tk })
    (done : ∀ m₁ news₁ h tk, J vs.length m₁ news₁ → Fr h₀ env.locals h m₁ → News h₀ env.locals h news₁ → Q .next { s with heap := h, toks := tk })
    (hE : PassesOwn (model prog w) A env E) :
    wpAny (model prog w) A (call (.type "enumerate") [.ref l]) (fun xv s₁ => wpAny (model prog w) A (pyIter xv) (fun it s₂ => LoopT prog w A h₀ env x1 p1 x2 p2 kk pt body Q E it s₂) E s₁) E s := by
  have hm := hl _ _ _ hj
  have hax := N _ hm
  have hL : s.heap.IsList l vs.toArray := ⟨_, hax.1, rfl, c, rfl⟩
  have hlt : l < s.heap.objs.size := Heap.lt_size hax.1
  have hLs : env.locals < s.heap.objs.size := F.ns.lt
  refine call_enumerate_list hL fun h' hE' hI' hsz hk' => ?_
  refine wpAny_pyIter_enum hE' ?_
  have W := WalksT.enumerate (prog := prog) (w := w) hh (s.heap.objs.size + 1) s.heap.objs.size l (Nat.succ_ne_self _) (ktu_ne 1 hlt) (Nat.ne_of_lt hlt) vs.toArray
  have hL1 : env.locals ≠ s.heap.objs.size + 1 := ktu_ne 1 hLs
  have hL2 : env.locals ≠ s.heap.objs.size := Nat.ne_of_lt hLs
  have hl1 : l ≠ s.heap.objs.size + 1 := ktu_ne 1 hlt
  have hl2 : l ≠ s.heap.objs.size := Nat.ne_of_lt hlt
  have hn1 : h₀.get? (s.heap.objs.size + 1) = none := ktu_new F (Nat.le_add_right _ _)
  have hn2 : h₀.get? s.heap.objs.size = none := ktu_new F (Nat.le_refl _)
  have hnI : ∀ p ∈ news, p.1 ≠ s.heap.objs.size + 1 ∧ p.1 ≠ s.heap.objs.size := fun p hp => ⟨ktu_ne 1 (Heap.lt_size (N p hp).1), Nat.ne_of_lt (Heap.lt_size (N p hp).1)⟩
  have F1 := F.keeps hk'
  have N1 := N.grown hk'
  generalize s.heap.objs.size + 1 = e at *
  generalize s.heap.objs.size = it at *
  have offI : ∀ {l : List (Addr × Obj)}, l.map (·.1) = news.map (·.1) → ∀ p ∈ l, p.1 ≠ e ∧ p.1 ≠ it := fun {l} ee p hp => by
    have h1 : p.1 ∈ news.map (·.1) := ee ▸ List.mem_map.mpr ⟨p, hp, rfl⟩
    obtain ⟨q, hq, e'⟩ := List.mem_map.mp h1
    exact e' ▸ hnI q hq
  unfold LoopT
  refine codeAny_forLoop_any
    (fun k s' => ∃ h' tk m' news' i, s' = { s with heap := h', toks := tk } ∧ ((∃ old, IsEnum h' e it (i : Nat) old) ∧ h'.IsListIter it l i) ∧ Fr h₀ env.locals h' m' ∧ News h₀ env.locals h' news' ∧ news'.map (·.1) = news.map (·.1) ∧ J i m' news' ∧ i ≤ vs.length ∧ k = vs.length + 1 - i) ?_ (vs.length + 1)
    ⟨h', s.toks, m₀, news, 0, rfl, ⟨⟨_, hE'⟩, hI'⟩, F1, N1, rfl, hj, Nat.zero_le _, rfl⟩
  rintro k s' ⟨h', tk, m', news', i, rfl, hst', F', N', hadr, hJ, hi, rfl⟩
  have hlst : h'.IsList l vs.toArray := ⟨_, (N' _ (hl _ _ _ hJ)).1, rfl, c, rfl⟩
  have next : ∀ h₁ : Heap, (∀ b o, b ∉ [e, it] → h'.get? b = some o → h₁.get? b = some o) → Fr h₀ env.locals h₁ m' ∧ News h₀ env.locals h₁ news' := fun h₁ hk =>
    ⟨⟨F'.ns.at' fun o x => hk _ o (by simpa using ⟨hL1, hL2⟩) x, fun b o x => hk b o (fun hm => by
        have hb' : b = e ∨ b = it := by simpa using hm
        rcases hb' with rfl | rfl
        · rw [hn1] at x; cases x
        · rw [hn2] at x; cases x) (F'.keep b o x), F'.above⟩,
      fun p hp => ⟨hk _ _ (by simpa using offI hadr p hp) (N' p hp).1, (N' p hp).2⟩⟩
  by_cases hlt' : i < vs.length
  · refine W.item i _ _ _ (by simpa using hlt') ⟨hst'.1, hst'.2, hlst⟩ fun T vals h₁ tk₁ hP _ hT hMid hk₁ => ?_
    refine W.go _ _ _ i T _ _ _ hMid fun h₂ hst₂ hk₂ => ?_
    obtain ⟨t, v, hv, rfl⟩ := hP
    have hT₂ : h₂.IsTuple T #[.int i t, v] := hT.at fun o x => hk₂ T o (W.apart i T _ hMid) x
    obtain ⟨F₂, N₂⟩ := next h₂ fun b o hb x => hk₂ b o hb (hk₁ b o hb x)
    refine wpAny_assign_Tuple hh hT₂ rfl rfl fun h₃ hx₃ => ?_
    replace hx₃ : Heap.ExtBut h₂.objs.size h₂ h₃ := hx₃
    have hk₃ : ∀ b o, h₂.get? b = some o → h₃.get? b = some o := fun b o x => hx₃ b o (Nat.ne_of_lt (Heap.lt_size x)) x
    have F₃ := F₂.keeps hk₃
    have N₃ := N₂.grown hk₃
    show wpAny _ A (do holding [v] (assign (.Name x1 p1) env (.int i t)); do holding [] (assign (.Name x2 p2) env v); pure ()) _ _ _
    refine wpAny_bind (wpAny_holding (wpAny_assign_Name (wpAny_storeName_local hx1 F₃.ns (fun h₄ hn₄ hs₄ => ?_) hp)))
    have F₄ := F₃.set hn₄ hs₄
    have N₄ := N₃.set hs₄
    refine wpAny_bind (wpAny_holding (wpAny_assign_Name (wpAny_storeName_local hx2 F₄.ns (fun h₅ hn₅ hs₅ => wpAny_pure ?_) hp)))
    have F₅ := F₄.set hn₅ hs₅
    have N₅ := N₄.set hs₅
    have up : ∀ b, b ≠ env.locals → ∀ o, h₂.get? b = some o → h₅.get? b = some o := fun b hb o x => (hs₅.2 b hb).trans ((hs₄.2 b hb).trans (hk₃ b o x))
    obtain ⟨⟨old, he₂⟩, hit₂, _⟩ := hst₂
    obtain ⟨oit, hoit, hitc⟩ := hit₂
    have he₅ := up e (Ne.symm hL1) _ he₂
    have hit₅ := up it (Ne.symm hL2) _ hoit
    have N₆ : News h₀ env.locals h₅ (news' ++ [(e, _), (it, oit)]) := fun p hp => by
      rcases List.mem_append.mp hp with hp | hp
      · exact N₅ p hp
      · rcases List.mem_cons.mp hp with rfl | hp
        · exact ⟨he₅, Ne.symm hL1, hn1⟩
        · rw [List.mem_singleton.mp hp]
          exact ⟨hit₅, Ne.symm hL2, hn2⟩
    refine wpAny_passesOwn hE (wpAny_mono (turn i t v m' news' h₅ _ e _ it oit (by simpa using hv) hadr (fun p hp b hb ee => ?_) hJ F₅ N₆) (fun f s₃ h₃ => ?_) fun _ _ e => e)
    · obtain ⟨q, hq, rfl⟩ := List.mem_map.mp hb
      rcases List.mem_cons.mp hp with rfl | hp
      · exact (hnI q hq).1 ee.symm
      · rw [List.mem_singleton.mp hp] at ee
        exact (hnI q hq).2 ee.symm
    have fin : ∀ tkk oe, h₅.get? e = some oe → oe = { cls := .type "enumerate", dict := none, data := .fields #[.none, .bool false, .ref it, rawInt ((i + 1 : Nat) : Int), .none, old], slots := #[] } → InvEndN h₀ env.locals (J (i + 1)) [(e, oe), (it, oit)] (news.map (·.1)) { s with heap := h₅, toks := tkk } s₃ →
        ∃ k', k' < vs.length + 1 - i ∧ ∃ h' tk m' news' i', s₃ = { s with heap := h', toks := tk } ∧ ((∃ old, IsEnum h' e it (i' : Nat) old) ∧ h'.IsListIter it l i') ∧ Fr h₀ env.locals h' m' ∧ News h₀ env.locals h' news' ∧ news'.map (·.1) = news.map (·.1) ∧ J i' m' news' ∧ i' ≤ vs.length ∧ k' = vs.length + 1 - i' := by
      rintro tkk oe hoe hoee ⟨h₄, tk₄, m₄, led, nx, ee, F₄, N₄, hn, ho, ha, hm⟩
      refine ⟨vs.length + 1 - (i + 1), by omega, h₄, tk₄, m₄, nx, i + 1, ee, ⟨⟨old, ?_⟩, ⟨oit, ?_, hitc⟩⟩, F₄, fun p hp => N₄ p (hn p hp), ha, hm, hlt', rfl⟩
      · have := (N₄ _ (ho _ (.head _))).1
        rw [hoee] at this
        exact this
      · exact (N₄ _ (ho _ (.tail _ (.head _)))).1
    cases f with
    | ret v => exact h₃
    | brk => exact h₃
    | next => exact fin _ _ he₅ rfl h₃
    | cont => exact fin _ _ he₅ rfl h₃
  · have hin : i = vs.length := by omega
    subst hin
    refine W.done _ _ _ (by simpa using ⟨hst'.1, hst'.2, hlst⟩) fun h₁ tk₁ hk₁ => wpAny_execs_nil ?_
    obtain ⟨F₁, N₁⟩ := next h₁ hk₁
    exact done m' news' h₁ tk₁ hJ F₁ N₁
end
end
section
open PySem PySem.W PySem.Calls PyProof.Rows PyProof.V PySem.Spec
noncomputable def rep (l : List Nat) (k : Nat) : List Nat := (List.replicate k l).flatten
theorem rep_len (l : List Nat) (k : Nat) : (rep l k).length = k * l.length := by
  unfold rep
  induction k with
  | zero => simp
  | succ k ih => rw [List.replicate_succ, List.flatten_cons, List.length_append, ih, Nat.succ_mul]; omega
theorem foldl_app (c : Array Nat) : ∀ (k : Nat) (acc : Array Nat), ((List.replicate k c).foldl (· ++ ·) acc).toList = acc.toList ++ rep c.toList k
  | 0, acc => by simp [rep]
  | k + 1, acc => by
    rw [List.replicate_succ, List.foldl_cons, foldl_app c k, Array.toList_append, List.append_assoc]
    rfl
theorem mul_text (l : List Nat) (k : Nat) : Txt.mul (escT [] l) (k : Int) = escT [] (rep l k) := by
  apply Str.ext'
  apply Array.toList_inj.mp
  show _ = rep l k
  unfold Txt.mul
  split
  · rename_i h
    have : k = 0 := by omega
    subst this
    rfl
  · rename_i h
    split
    · rename_i h2
      rcases Bool.or_eq_true _ _ |>.mp h2 with h3 | h3
      · have : k = 1 := by have := eq_of_beq h3; omega
        subst this
        show l = rep l 1
        simp [rep]
      · have h4 : l = [] := by
          have h5 := eq_of_beq h3
          have h6 : (escT [] l).length = l.length := rfl
          rw [h6] at h5
          exact List.length_eq_zero_iff.mp h5
        subst h4
        show ([] : List Nat) = rep [] k
        have := rep_len [] k
        exact (List.length_eq_zero_iff.mp (by rw [this]; simp)).symm
    · show ((List.replicate ((k : Int)).toNat (escT [] l).cps).foldl (· ++ ·) #[]).toList = _
      rw [foldl_app]
      simp [escT, escF]
section
variable {prog : Program} {w : World} {A : Around} {E : Value → Shared → Prop} {s : Shared}
theorem mul_piece {l : List Nat} {k : Nat} {t u : Tok} {Q : Value → Shared → Prop} (hT : TkOk s.toks) (hl : l.length ≤ 2) (hk : k < 32)
    (h : ∀ t' tk, TkOk tk → Q (.str (escT [] (rep l k)) t') { s with toks := tk }) : wpAny (model prog w) A (binaryOp .Mult (.str (escT [] l) t) (.int (k : Int) u)) Q E s := by
  refine toks_in hT (SB.mul (mulOk_of 2 32 hl (by omega) (by omega) (by decide) (by decide)) fun t' tk hT' => ?_)
  rw [mul_text]
  exact h t' tk hT'
theorem esc_app (a b : List Nat) : escT [] a ++ escT [] b = escT [] (a ++ b) := by
  apply Str.ext'
  rw [Str.cps_append]
  apply Array.toList_inj.mp
  rw [Array.toList_append]
  rfl
theorem add_piece {a b : List Nat} {t u : Tok} {Q : Value → Shared → Prop} (hT : TkOk s.toks) (ha : a.length ≤ 64) (hb : b.length ≤ 64)
    (h : ∀ t' tk, TkOk tk → Q (.str (escT [] (a ++ b)) t') { s with toks := tk }) : wpAny (model prog w) A (binaryOp .Add (.str (escT [] a) t) (.str (escT [] b) u)) Q E s := by
  refine toks_in hT (PyProof.Rows.add_str (fun t' tk hT' => ?_) ?_)
  · rw [esc_app]
    exact h t' tk hT'
  · show a.length + b.length ≤ sizeLine
    rw [sizeLine_eq]; omega
theorem rep_le {l : List Nat} {k : Nat} (hl : l.length ≤ 2) (hk : k < 32) : (rep l k).length ≤ 64 := by
  rw [rep_len]
  have := Nat.mul_le_mul (Nat.le_of_lt hk) hl
  omega
theorem div_hue {n M : Nat} {t u : Tok} {Q : Value → Shared → Prop} (hA : A.handled = none) (hn : n < 1000000) (hM : M ≠ 0)
    (h : Q (.float (hue n M) s.toks) { s with toks := s.toks + 1 }) : wpAny (model prog w) A (binaryOp .Div (.int (n : Int) t) (.int (M : Int) u)) Q E s := by
  refine Flt.div_ii_fits hA ?_ (fun e => absurd e (by omega)) fun _ _ => ?_
  · exact Nat.lt_of_lt_of_le (by omega : ((n : Int)).natAbs < 2 ^ 20) (Nat.pow_le_pow_right (by decide) (by decide))
  · have e1 : (decide ((n : Int) < 0) != decide ((M : Int) < 0)) = false := by
      have h1 : ¬ (n : Int) < 0 := by omega
      have h2 : ¬ (M : Int) < 0 := by omega
      simp [h1, h2]
    rw [e1]
    exact h
theorem item_neg {value slice : PySem.Expr} {l : Addr} {vs : List Value} {k : Int} {u : Tok} {v : Value} {Q : Value → Shared → Prop} (hl : s.heap.IsList l vs.toArray) (h0 : k < 0) (h1 : -(vs.length : Int) ≤ k) (hfit : -(2 ^ 63) ≤ k) (hx : vs[(k + vs.length).toNat]? = some v) (h : Q v s)
    (hs : subscripted slice false (.ref l) (.int k u) = operate [.ref l, .int k u] (getItem (.ref l) (.int k u)) := by with_unfolding_all rfl) :
    wpAny (model prog w) A (subscriptTail value slice (.ref l) (.int k u)) Q E s :=
  tail_any hl.typeIs slot_list_getitem.lookup (wpAny_getItem_list_neg hl h0 (by simpa using h1) hfit (by simpa using hx) h) hs
end
end
section
open PySem PySem.W PySem.Calls PyProof.Rows PyProof.V PySem.Spec
section
variable {prog : Program} {w : World} {A : Around} {E : Value → Shared → Prop} {s : Shared} {env : Env} {h₀ : Heap} {x : Str} {px : Pos} {body orelse : List Stmt} {Q : Flow → Shared → Prop}
/-- a for over one iterator that may have an else: what holds at its head is told by J -/
theorem loop_else {I : Addr} {n : Nat} {P : Nat → Value → Prop} {St : Nat → Heap → Prop} {m₀ : Str → Option Value} {news : List (Addr × Obj)} (J : Nat → (Str → Option Value) → List (Addr × Obj) → Prop)
    (W : Walks prog w A I [I] [I] n P St) (hIo : ∀ i h, St i h → ∃ o, h.get? I = some o) (hx : env.kindOf x = some .local)
    (hp : (env.scope.kind == .class || (env.scope.kind == .module && env.locals != env.globals)) = false)
    (hL : env.locals ≠ I) (hI₀ : h₀.get? I = none) (hnI : ∀ p ∈ news, p.1 ≠ I) (hst : St 0 s.heap) (F : Fr h₀ env.locals s.heap m₀) (N : News h₀ env.locals s.heap news) (hj : J 0 m₀ news)
    (turn : ∀ i v m₁ news₁ h tk oI, i < n → P i v → news₁.map (·.1) = news.map (·.1) → OwnOff [(I, oI)] (news.map (·.1)) → J i m₁ news₁ → Fr h₀ env.locals h (fun y => if y = x then some v else m₁ y) → News h₀ env.locals h (news₁ ++ [(I, oI)]) →
      wpAny (model prog w) A (execs body env) (InvPostN h₀ env.locals (J (i + 1)) [(I, oI)] (news.map (·.1)) { s with heap := h, toks := tk } Q) E { s with heap := h, toks := tk })
    (done : ∀ m₁ news₁ h tk, J n m₁ news₁ → Fr h₀ env.locals h m₁ → News h₀ env.locals h news₁ → wpAny (model prog w) A (execs orelse env) Q E { s with heap := h, toks := tk })
    (hE : PassesOwn (model prog w) A env E) :
    codeAny (model prog w) A (.forLoop (.Name x px) (.ref I) body orelse env) (fun r s' => match r with | .ok f => Q f s' | .error e => cameBackBy (model prog w) A env E e s') s := by
  have offI : ∀ {l : List (Addr × Obj)}, l.map (·.1) = news.map (·.1) → ∀ p ∈ l, p.1 ≠ I := fun {l} e p hp => by
    have h1 : p.1 ∈ news.map (·.1) := e ▸ List.mem_map.mpr ⟨p, hp, rfl⟩
    obtain ⟨q, hq, e'⟩ := List.mem_map.mp h1
    exact e' ▸ hnI q hq
  refine codeAny_forLoop
    (fun k s' => ∃ h' tk m' news' i, s' = { s with heap := h', toks := tk } ∧ St i h' ∧ Fr h₀ env.locals h' m' ∧ News h₀ env.locals h' news' ∧ news'.map (·.1) = news.map (·.1) ∧ J i m' news' ∧ i ≤ n ∧ k = n + 1 - i) ?_ (n + 1)
    ⟨s.heap, s.toks, m₀, news, 0, rfl, hst, F, N, rfl, hj, Nat.zero_le _, rfl⟩
  rintro k s' ⟨h', tk, m', news', i, rfl, hst', F', N', hadr, hJ, hi, rfl⟩
  have next : ∀ h₁ : Heap, (∀ b o, b ∉ [I] → h'.get? b = some o → h₁.get? b = some o) → Fr h₀ env.locals h₁ m' ∧ News h₀ env.locals h₁ news' := fun h₁ hk =>
    ⟨⟨F'.ns.at' fun o e => hk _ o (by simpa using hL) e, fun b o e => hk b o (fun hm => by rw [List.mem_singleton.mp hm, hI₀] at e; cases e) (F'.keep b o e), F'.above⟩,
      fun p hp => ⟨hk _ _ (by simpa using offI hadr p hp) (N' p hp).1, (N' p hp).2⟩⟩
  by_cases hlt : i < n
  · refine W.item i _ _ _ hlt hst' fun v h₁ tk₁ hP hst₁ hk₁ => ?_
    obtain ⟨F₁, N₁⟩ := next h₁ hk₁
    refine wpAny_assign_Name (wpAny_storeName_local hx F₁.ns (fun h₂ hn₂ hs₂ => ?_) hp)
    have F₂ := F₁.set hn₂ hs₂
    have N₂ := N₁.set hs₂
    have hst₂ : St (i + 1) h₂ := W.frame _ _ _ hst₁ fun b hb o e => (hs₂.2 b fun q => hL (by rw [List.mem_singleton.mp hb] at q; exact q.symm)).trans e
    obtain ⟨oI, hoI⟩ := hIo _ _ hst₂
    have N₃ : News h₀ env.locals h₂ (news' ++ [(I, oI)]) := fun p hp => by
      rcases List.mem_append.mp hp with hp | hp
      · exact N₂ p hp
      · rw [List.mem_singleton.mp hp]
        exact ⟨hoI, Ne.symm hL, hI₀⟩
    refine wpAny_passesOwn hE (wpAny_mono (turn i v m' news' h₂ _ oI hlt hP hadr (fun p hp b hb e => ?_) hJ F₂ N₃) (fun f s₃ h₃ => ?_) fun _ _ e => e)
    · obtain ⟨q, hq, rfl⟩ := List.mem_map.mp hb
      rw [List.mem_singleton.mp hp] at e
      exact hnI q hq e.symm
    have fin : ∀ tkk, InvEndN h₀ env.locals (J (i + 1)) [(I, oI)] (news.map (·.1)) { s with heap := h₂, toks := tkk } s₃ →
        ∃ k', k' < n + 1 - i ∧ ∃ h' tk m' news' i', s₃ = { s with heap := h', toks := tk } ∧ St i' h' ∧ Fr h₀ env.locals h' m' ∧ News h₀ env.locals h' news' ∧ news'.map (·.1) = news.map (·.1) ∧ J i' m' news' ∧ i' ≤ n ∧ k' = n + 1 - i' := by
      rintro tkk ⟨h₄, tk₄, m₄, led, nx, e, F₄, N₄, hn, ho, ha, hm⟩
      refine ⟨n + 1 - (i + 1), by omega, h₄, tk₄, m₄, nx, i + 1, e, ?_, F₄, fun p hp => N₄ p (hn p hp), ha, hm, hlt, rfl⟩
      have hI4 := (N₄ _ (ho _ (List.mem_singleton.mpr rfl))).1
      exact W.frame _ _ _ hst₂ fun b hb o e => by
        rw [List.mem_singleton.mp hb] at e ⊢
        rw [hoI] at e
        cases e
        exact hI4
    cases f with
    | ret v => exact h₃
    | brk => exact h₃
    | next => exact fin _ h₃
    | cont => exact fin _ h₃
  · have hin : i = n := by omega
    subst hin
    refine W.done _ _ _ hst' fun h₁ tk₁ hk₁ => ?_
    obtain ⟨F₁, N₁⟩ := next h₁ hk₁
    exact wpAny_passesOwn hE (done m' news' h₁ tk₁ hJ F₁ N₁)

/-- the loop that stands behind an iterable -/
noncomputable def LoopE (prog : Program) (w : World) (A : Around) (_h₀ : Heap) (env : Env) (x : Str) (px : Pos) (body orelse : List Stmt) (Q : Flow → Shared → Prop) (E : Value → Shared → Prop) (it : Value) (s₂ : Shared) : Prop :=
  codeAny (model prog w) A (.forLoop (.Name x px) it body orelse env) (fun r s' => match r with | .ok f => Q f s' | .error e => cameBackBy (model prog w) A env E e s') s₂
theorem For_else {m : Str → Option Value} {pos : Pos} {iter : Expr} (_F : Fr h₀ env.locals s.heap m)
    (h : wpAny (model prog w) A (eval iter env) (fun xv s₁ => wpAny (model prog w) A (pyIter xv) (fun it s₂ => LoopE prog w A h₀ env x px body orelse Q E it s₂) E s₁) E s)
    (hs : ∀ x, foldedSetIterable iter env x = pure x := by intro _; rfl) :
    wpAny (model prog w) A (exec (.For (.Name x px) iter body orelse pos) env) Q E s := wpAny_For h hs

theorem range_else {σ : Type} {r : Addr} {b₀ : Int} {t₀ u₀ v₀ : Tok} {n : Nat} {m₀ : Str → Option Value} (Led : σ → List (Addr × Obj)) (ps : σ → List (Str × Value)) (Facts : σ → Prop) (stored : List Str) (P : Nat → σ → Prop) (c₀ : σ)
    (hh : A.handled = none) (hr : IsRange s.heap r 0 b₀ 1 t₀ u₀ v₀) (hsmall : Builtin.Range.small 0 b₀ 1 = true) (hn : Builtin.Range.rangeSize 0 b₀ 1 = (n : Int)) (hx : env.kindOf x = some .local)
    (hp : (env.scope.kind == .class || (env.scope.kind == .module && env.locals != env.globals)) = false)
    (F : Fr h₀ env.locals s.heap m₀) (N : News h₀ env.locals s.heap (Led c₀)) (hf : Facts c₀) (hk : ∀ p ∈ ps c₀, m₀ p.1 = some p.2) (hP : P 0 c₀)
    (turn : ∀ (c : σ) (k : Nat) t (u : Str → Option Value) h tk I oI, k < n → OwnOff [(I, oI)] ((Led c₀).map (·.1)) → Facts c → P k c →
      Fr h₀ env.locals h (fun y => if y = x then some (.int (k : Int) t) else kstB (fun z => if stored.contains z then u z else m₀ z) (ps c) y) → News h₀ env.locals h (Led c ++ [(I, oI)]) →
      wpAny (model prog w) A (execs body env) (InvPostN h₀ env.locals (KstS Led ps Facts x stored m₀ (fun pre c => P pre.length c) (List.replicate (k + 1) 0)) [(I, oI)] ((Led c₀).map (·.1)) { s with heap := h, toks := tk } Q) E { s with heap := h, toks := tk })
    (done : ∀ (c : σ) (u : Str → Option Value) h tk, Facts c → P n c → Fr h₀ env.locals h (fun y => if y = x then u y else kstB (fun z => if stored.contains z then u z else m₀ z) (ps c) y) → News h₀ env.locals h (Led c) → wpAny (model prog w) A (execs orelse env) Q E { s with heap := h, toks := tk })
    (hE : PassesOwn (model prog w) A env E) :
    wpAny (model prog w) A (pyIter (.ref r)) (fun it s₂ => LoopE prog w A h₀ env x px body orelse Q E it s₂) E s := by
  refine wpAny_pyIter_range hr hsmall ?_
  refine loop_else (fun i m nx => KstS Led ps Facts x stored m₀ (fun pre c => P pre.length c) (List.replicate i 0) m nx) (LCg.range_walks hh 0 n) (fun i h st => ⟨_, st⟩) hx hp
    (Nat.ne_of_lt F.ns.lt) (next_is_new F) (fun p hp => Nat.ne_of_lt (Heap.lt_size (N p hp).1)) (by show IsRangeIter _ _ _ _ _; rw [hn]; simpa using Heap.get?_push_size _ rfl) (F.push _) (fun p hp => ⟨Heap.get?_push_of_some _ (N p hp).1, (N p hp).2⟩)
    ⟨c₀, rfl, hf, hk, fun _ _ _ _ => rfl, by simpa using hP⟩ ?_ ?_ hE
  · rintro i v m₁ nx h tk oI hi ⟨t, rfl⟩ _ hoff ⟨c, rfl, hf', h1, h2, hp'⟩ F₁ N₁
    have e1 : (0 : Int) + (i : Int) = (i : Int) := by omega
    rw [e1] at F₁
    exact turn c i t m₁ h tk _ oI hi hoff hf' (by simpa using hp') (kst_fr h1 h2 F₁) N₁
  · rintro m₁ nx h tk ⟨c, rfl, hf', h1, h2, hp'⟩ F₁ N₁
    exact done c m₁ h tk hf' (by simpa using hp') (kst_frOut h1 h2 F₁) N₁
end
end
section
open PySem PySem.W PySem.Calls PyProof.Rows PyProof.V PySem.Spec
/-- the flags that are left before turn k -/
noncomputable def cur (F k : Nat) : Nat := F / 2 ^ k * 2 ^ k
noncomputable def digitsS : List Str := ["OPTIMIZED", "NEWLOCALS", "VARARGS", "VARKEYWORDS", "NESTED", "GENERATOR", "NOFREE", "COROUTINE", "ITERABLE_COROUTINE", "ASYNC_GENERATOR"].map Str.ofString
noncomputable def wordS (p : Nat) : Str := if p < 10 then digitsS.getD p default else baseText "0x" 16 ((1 : Int) * 2 ^ p)
noncomputable def wordsTo (F k : Nat) : List Str := ((List.range k).filter fun i => F.testBit i).map wordS
noncomputable def PfP (F k : Nat) (vs : List Value) (fl : Int) : Prop := fl = (cur F k : Nat) ∧ cur F k ≠ 0 ∧ StrsAre vs (wordsTo F k)

theorem bit_split (F k : Nat) : F / 2 ^ k = 2 * (F / 2 ^ (k + 1)) + (F.testBit k).toNat := by
  have h1 : F / 2 ^ (k + 1) = F / 2 ^ k / 2 := by rw [Nat.pow_succ, Nat.div_div_eq_div_mul]
  rw [h1, Nat.testBit_eq_decide_div_mod_eq]
  generalize F / 2 ^ k = x
  have := Nat.div_add_mod x 2
  by_cases h : x % 2 = 1
  · simp only [h, decide_true, Bool.toNat_true]; omega
  · simp only [h, decide_false, Bool.toNat_false]; omega
theorem cur_succ (F k : Nat) : cur F k = cur F (k + 1) + (F.testBit k).toNat * 2 ^ k := by
  unfold cur
  rw [bit_split F k, Nat.add_mul, Nat.pow_succ, Nat.mul_comm 2 (F / _), Nat.mul_assoc, Nat.mul_comm 2 (2 ^ k)]
theorem bitAnd_nat (n m : Nat) : Builtin.bitAnd (n : Int) (m : Int) = ((n &&& m : Nat) : Int) := by
  unfold Builtin.bitAnd
  simp
theorem cur_bit (F k : Nat) : (cur F k).testBit k = F.testBit k := by
  rw [Nat.testBit_eq_decide_div_mod_eq, Nat.testBit_eq_decide_div_mod_eq]
  unfold cur
  rw [Nat.mul_div_cancel _ (Nat.two_pow_pos k)]
theorem flag_nat (k : Nat) : (1 : Int) * 2 ^ ((k : Int).toNat) = ((2 ^ k : Nat) : Int) := by
  rw [Int.one_mul, Int.toNat_natCast, Int.natCast_pow]; rfl
theorem and_pow (n k : Nat) : n &&& 2 ^ k = (n.testBit k).toNat * 2 ^ k := by
  apply Nat.eq_of_testBit_eq
  intro i
  rw [Nat.testBit_and, Nat.testBit_two_pow]
  by_cases h : k = i
  · subst h
    cases hb : n.testBit k <;> simp
  · cases hb : n.testBit k <;> simp [h, Nat.testBit_two_pow]
theorem cur_and (F k : Nat) : Builtin.bitAnd ((cur F k : Nat) : Int) ((1 : Int) * 2 ^ ((k : Int).toNat)) = (((F.testBit k).toNat * 2 ^ k : Nat) : Int) := by
  rw [flag_nat, bitAnd_nat, and_pow, cur_bit]
theorem cur_yes {F k : Nat} (h : Builtin.bitAnd ((cur F k : Nat) : Int) ((1 : Int) * 2 ^ ((k : Int).toNat)) ≠ 0) : F.testBit k = true := by
  rw [cur_and] at h
  cases hb : F.testBit k with
  | true => rfl
  | false => rw [hb] at h; exact absurd (by simp) h
theorem cur_no {F k : Nat} (h : Builtin.bitAnd ((cur F k : Nat) : Int) ((1 : Int) * 2 ^ ((k : Int).toNat)) = 0) : F.testBit k = false := by
  rw [cur_and] at h
  cases hb : F.testBit k with
  | false => rfl
  | true =>
    rw [hb] at h
    have := Nat.two_pow_pos k
    simp only [Bool.toNat_true, Nat.one_mul] at h
    omega
theorem cur_xor {F k : Nat} (h : F.testBit k = true) : Builtin.bitXor ((cur F k : Nat) : Int) ((1 : Int) * 2 ^ ((k : Int).toNat)) = ((cur F (k + 1) : Nat) : Int) := by
  rw [bitXor_and, cur_and, flag_nat, cur_succ F k, h]
  simp only [Bool.toNat_true, Nat.one_mul]
  omega
theorem wordsTo_succ (F k : Nat) : wordsTo F (k + 1) = wordsTo F k ++ (if F.testBit k then [wordS k] else []) := by
  unfold wordsTo
  rw [List.range_succ, List.filter_append, List.map_append]
  cases h : F.testBit k <;> simp [h]
theorem wordsTo_stop {F k : Nat} (h : cur F k = 0) : ∀ j, wordsTo F (k + j) = wordsTo F k := by
  have hlt : F < 2 ^ k := by
    have h2 := Nat.two_pow_pos k
    unfold cur at h
    rcases Nat.mul_eq_zero.mp h with h | h
    · exact (Nat.div_eq_zero_iff.mp h).resolve_left (by omega)
    · omega
  intro j
  induction j with
  | zero => rfl
  | succ j ih =>
    rw [← Nat.add_assoc, wordsTo_succ, ih]
    have : F.testBit (k + j) = false := Nat.testBit_lt_two_pow (Nat.lt_of_lt_of_le hlt (Nat.pow_le_pow_right (by decide) (by omega)))
    rw [this]
    simp
theorem wordsTo_len (F k : Nat) : (wordsTo F k).length ≤ k := by
  unfold wordsTo
  rw [List.length_map]
  exact Nat.le_trans (List.length_filter_le ..) (by simp)
theorem strs_snoc {y : Str} {t : Tok} : ∀ {vs : List Value} {ys : List Str}, StrsAre vs ys → StrsAre (vs ++ [.str y t]) (ys ++ [y])
  | _, _, .nil => .cons y t .nil
  | _, _, .cons z u r => .cons z u (strs_snoc r)
/-- the table's answer to a flag -/
noncomputable def wordAt (D : List (Int × PyData)) (k : Nat) : Option Str := match KTD.datumAt ((1 : Int) * 2 ^ k) D with
  | some (.str x) => some x
  | some _ => none
  | none => some (baseText "0x" 16 ((1 : Int) * 2 ^ k))
section
variable {prog : Program} {w : World} {A : Around} {E : Value → Shared → Prop} {s : Shared} {h₀ : Heap} {a : Addr}
theorem get_word {D : List (Int × PyData)} {k : Nat} {tk tk2 : Tok} {Q : Value → Shared → Prop} (K : KTD.Keyed h₀ a D) (hk : ∀ b o, h₀.get? b = some o → s.heap.get? b = some o) (hD : wordAt D k = some (wordS k))
    (h : ∀ t, Q (.str (wordS k) t) { s with toks := s.toks + 1 }) :
    wpAny (model prog w) A (call (.builtin "dict.get") [.ref a, .int ((1 : Int) * 2 ^ ((k : Int).toNat)) tk, .str (baseText "0x" 16 ((1 : Int) * 2 ^ ((k : Int).toNat))) tk2]) Q E s := by
  rw [Int.toNat_natCast]
  refine call_get2_intTab (K.keep hk prog w) (Flat.str _ _) fun v hv => ?_
  rw [KTD.lookup_keyed] at hv
  unfold wordAt at hD
  cases hat : KTD.datumAt ((1 : Int) * 2 ^ k) D with
  | none =>
    rw [hat] at hv hD
    have e := Option.some.inj hD
    obtain ⟨t, rfl⟩ := Flat.str_inv hv
    rw [e]; exact h t
  | some d =>
    rw [hat] at hv hD
    cases d <;> try (cases hD; done)
    have e := Option.some.inj hD
    obtain ⟨t, rfl⟩ := Flat.str_inv hv
    rw [e]; exact h t
end
end
section
open PySem PySem.W PySem.Calls PyProof.Rows PyProof.V PySem.Spec
section
variable {prog : Program} {w : World} {A : Around} {E : Value → Shared → Prop} {s : Shared} {env : Env} {h₀ : Heap} {px : Pos} {body orelse : List Stmt} {Q : Flow → Shared → Prop}
theorem pf_loop {l' r : Addr} {news : List (Addr × Obj)} {Fn : Nat} {tf : Tok} {t₀ u₀ v₀ : Tok} {m₀ : Str → Option Value}
    (F : Fr h₀ env.locals s.heap m₀) (N : News h₀ env.locals s.heap ((l', W.listOf #[] 0) :: news)) (hr : IsRange s.heap r 0 32 1 t₀ u₀ v₀) (hh : A.handled = none) (hx : env.kindOf (Str.ofString "i") = some .local)
    (hp : (env.scope.kind == .class || (env.scope.kind == .module && env.locals != env.globals)) = false)
    (hnames : m₀ (Str.ofString "names") = some (.ref l')) (hflags : m₀ (Str.ofString "flags") = some (.int (Fn : Int) tf)) (h0 : Fn ≠ 0)
    (turn : ∀ (vs : List Value) (c : Nat) (tf' : Tok) (k : Nat) t (u : Str → Option Value) h tk I oI, k < 32 → OwnOff [(I, oI)] (l' :: news.map (·.1)) → cur Fn k ≠ 0 → StrsAre vs (wordsTo Fn k) →
      Fr h₀ env.locals h (fun y => if y = Str.ofString "i" then some (.int (k : Int) t) else if y = Str.ofString "names" then some (.ref l') else if y = Str.ofString "flags" then some (.int (cur Fn k : Nat) tf') else if [Str.ofString "flag"].contains y then u y else m₀ y) → News h₀ env.locals h ((l', W.listOf vs.toArray c) :: (news ++ [(I, oI)])) →
      wpAny (model prog w) A (execs body env) (InvPostN h₀ env.locals (KstS (fun (c : List Value × Nat × Int × Tok) => (l', W.listOf c.1.toArray c.2.1) :: news) (fun c => [(Str.ofString "names", .ref l'), (Str.ofString "flags", .int c.2.2.1 c.2.2.2)]) (fun _ => True) (Str.ofString "i") [Str.ofString "flag"] m₀ (fun pre c => PfP Fn pre.length c.1 c.2.2.1) (List.replicate (k + 1) 0)) [(I, oI)] (l' :: news.map (·.1)) { s with heap := h, toks := tk } Q) E { s with heap := h, toks := tk })
    (hlt : Fn < 2 ^ 32)
    (hE : PassesOwn (model prog w) A env E) :
    wpAny (model prog w) A (pyIter (.ref r)) (fun it s₂ => LoopE prog w A h₀ env (Str.ofString "i") px body orelse Q E it s₂) E s := by
  refine range_else (n := 32) (fun (c : List Value × Nat × Int × Tok) => (l', W.listOf c.1.toArray c.2.1) :: news) (fun c => [(Str.ofString "names", .ref l'), (Str.ofString "flags", .int c.2.2.1 c.2.2.2)]) (fun _ => True) [Str.ofString "flag"] (fun k c => PfP Fn k c.1 c.2.2.1) ([], 0, (Fn : Int), tf) hh hr (by decide) (by decide) hx hp F N trivial ?_ ?_ ?_ ?_ hE
  · intro p hp
    rcases List.mem_cons.mp hp with rfl | hp
    · exact hnames
    · rw [List.mem_singleton.mp hp]; exact hflags
  · exact ⟨by simp [cur], by simpa [cur] using h0, .nil⟩
  · rintro ⟨vs, c, fl, tf'⟩ k t u h tk I oI hk hoff _ ⟨rfl, h1, h2⟩ F₁ N₁
    exact turn vs c tf' k t u h tk I oI hk hoff h1 h2 F₁ N₁
  · rintro ⟨vs, c, fl, tf'⟩ u h tk _ ⟨rfl, h1, h2⟩ F₁ N₁
    exact absurd (by unfold cur; rw [Nat.div_eq_of_lt hlt, Nat.zero_mul]) h1
end
theorem words_ok : ∀ k, k < 32 → ∀ (D : List (Int × PyData)), ((List.range 32).all fun k => decide (wordAt D k = some (wordS k))) = true → wordAt D k = some (wordS k) := fun k hk D h => by
  have := List.all_eq_true.mp h k (List.mem_range.mpr hk)
  simpa using this
theorem hex_len : ∀ k : Nat, k < 32 → (baseText "0x" 16 ((1 : Int) * 2 ^ ((k : Int).toNat))).length ≤ sizeLine := by
  intro k hk
  rw [Int.toNat_natCast]
  have h : ∀ k : Nat, k < 32 → (baseText "0x" 16 ((1 : Int) * 2 ^ k)).length ≤ 16777216 := by decide +kernel
  exact h k hk
theorem not_stop {F k : Nat} (h : F.testBit k = true) (h2 : ¬ Builtin.bitXor ((cur F k : Nat) : Int) ((1 : Int) * 2 ^ ((k : Int).toNat)) = 0) : cur F (k + 1) ≠ 0 := by
  rw [cur_xor h] at h2
  intro e
  rw [e] at h2
  exact h2 rfl
theorem pf_yes {F k : Nat} {vs : List Value} {t : Tok} (hs : StrsAre vs (wordsTo F k)) (h : Builtin.bitAnd ((cur F k : Nat) : Int) ((1 : Int) * 2 ^ ((k : Int).toNat)) ≠ 0) (h2 : ¬ Builtin.bitXor ((cur F k : Nat) : Int) ((1 : Int) * 2 ^ ((k : Int).toNat)) = 0) :
    PfP F (List.replicate (k + 1) (0 : Int)).length (vs ++ [.str (wordS k) t]) (Builtin.bitXor ((cur F k : Nat) : Int) ((1 : Int) * 2 ^ ((k : Int).toNat))) := by
  rw [List.length_replicate]
  refine ⟨cur_xor (cur_yes h), not_stop (cur_yes h) h2, ?_⟩
  rw [wordsTo_succ, cur_yes h]
  exact strs_snoc hs
theorem pf_no {F k : Nat} {vs : List Value} (hs : StrsAre vs (wordsTo F k)) (hc : cur F k ≠ 0) (h : Builtin.bitAnd ((cur F k : Nat) : Int) ((1 : Int) * 2 ^ ((k : Int).toNat)) = 0) :
    PfP F (List.replicate (k + 1) (0 : Int)).length vs ((cur F k : Nat) : Int) := by
  have e := cur_succ F k
  rw [cur_no h] at e
  simp only [Bool.toNat_false, Nat.zero_mul, Nat.add_zero] at e
  rw [List.length_replicate]
  refine ⟨by rw [e], by rw [← e]; exact hc, ?_⟩
  rw [wordsTo_succ, cur_no h]
  simpa using hs
theorem pf_stop {F k : Nat} {vs : List Value} {t : Tok} (hk : k < 32) (hs : StrsAre vs (wordsTo F k)) (h : Builtin.bitAnd ((cur F k : Nat) : Int) ((1 : Int) * 2 ^ ((k : Int).toNat)) ≠ 0) (h2 : Builtin.bitXor ((cur F k : Nat) : Int) ((1 : Int) * 2 ^ ((k : Int).toNat)) = 0) :
    StrsAre (vs ++ [.str (wordS k) t]) (wordsTo F 32) := by
  rw [cur_xor (cur_yes h)] at h2
  have e := wordsTo_stop (F := F) (k := k + 1) (by omega) (32 - (k + 1))
  have e2 : k + 1 + (32 - (k + 1)) = 32 := by omega
  rw [e2] at e
  rw [e, wordsTo_succ, cur_yes h]
  exact strs_snoc hs
theorem word_len : ∀ p : Nat, p < 32 → (wordS p).length ≤ 18 := by decide +kernel
theorem sum_le_len {α : Type} (f : α → Nat) (b : Nat) : ∀ l : List α, (∀ x ∈ l, f x ≤ b) → (l.map f).sum ≤ b * l.length
  | [], _ => by simp
  | x :: l, h => by
    have h1 := h x (.head _)
    have h2 := sum_le_len f b l fun y hy => h y (.tail _ hy)
    rw [List.map_cons, List.sum_cons, List.length_cons, Nat.mul_succ]
    omega
theorem words_total (F : Nat) : ((wordsTo F 32).map (·.length)).sum + (wordsTo F 32).length * (Str.ofString ", ").length ≤ 16777216 := by
  have h1 := sum_le_len (fun x : Str => x.length) 18 (wordsTo F 32) fun x hx => by
    obtain ⟨p, hp, rfl⟩ := List.mem_map.mp hx
    exact word_len p (List.mem_range.mp (List.mem_filter.mp hp).1)
  have h2 := wordsTo_len F 32
  have h3 : (Str.ofString ", ").length = 2 := by decide +kernel
  rw [h3]
  omega
section
variable {prog : Program} {w : World} {A : Around} {E : Value → Shared → Prop} {s : Shared} {h₀ : Heap} {L l : Addr}
theorem join_words {news : List (Addr × Obj)} {F c : Nat} {vs : List Value} {v : Value} {t : Tok} {Q : Value → Shared → Prop} (N : News h₀ L s.heap news) (hm : (l, W.listOf (vs.toArray.push v) c) ∈ news) (hs : StrsAre (vs ++ [v]) (wordsTo F 32))
    (h : ∀ t' k, Q (.str (Txt.join (Str.ofString ", ") (wordsTo F 32)) t') { s with toks := k }) : wpAny (model prog w) A (call (.builtin "str.join") [.str (Str.ofString ", ") t, .ref l]) Q E s :=
  join_list (items := vs.toArray.push v) ⟨_, (N _ hm).1, rfl, c, rfl⟩ (by simpa using hs) (words_total F) h
end
set_option maxHeartbeats 8000000 in
theorem c_pf (w mean mg mb) (Fn : Nat) (tf : Tok) (h0 : Fn ≠ 0) (h1 : Fn < 2 ^ 32) :
    Ctr w mean mg mb 36 [.int (Fn : Int) tf] 1 16 (fun _ _ _ => True)
      (fun v own => ∃ t', v = .str (Txt.join (Str.ofString ", ") (wordsTo Fn 32)) t' ∧ own = []) := by
  w_top off
  k_with_none
  k_with "call builtin:str.join" => (k_here; k_dflt (refine' join_words ?N (.head _) (pf_stop (by assumption) (by assumption) (by assumption) (by assumption)) ?_; (case N => k_asm)); intro tj' tk')
  k_with "exec For" => (k_here; (rename Fr _ _ _ _ => lF'); k_dflt (refine' For_else lF' ?_; k_whole))
  k_with "call builtin:hex" => (k_here; k_dflt (refine' P.hex_of_int ?_ (hex_len _ (by assumption))))
  k_with "call builtin:dict.get" => (k_here; k_dflt (refine' get_word (by assumption) ?hk (words_ok _ (by assumption) _ (by decide +kernel)) ?_; (case hk => exact Fr.keep (by with_reducible assumption))); intro tw')
  unfold Ctr
  k_fill
  intro dp un gd cn cs a9 ccd cl outer A₀ base h₀ L m news s Q E B F X N T hk hpre hd hu hret
  refine wpAny_call ?_
  k_dflt cell_enter
  k_steps
  (rename IsRange _ _ _ _ _ _ _ _ => rgX)
  (rename Fr _ _ _ _ => lF')
  (rename News _ _ _ _ => lN')
  (rename ∀ p ∈ news, p.1 < _ => kl)
  k_dflt (refine' pf_loop lF' lN' rgX ?hh ?hx ?hp ?hn ?hf h0 ?turn h1 ?hE)
  case hh => exact rfl
  case hx => exact rfl
  case hp => exact rfl
  case hn => exact rfl
  case hf => exact rfl
  case hE => passes_own
  case turn =>
    clear rgX lF' lN'
    intro vs c tf' k t u h tk I oI hk32 hoff hc hvs F7 N7
    have kM := kstMark
    have hvl : vs.length ≤ 32 := by rw [StrsAre.length hvs]; exact Nat.le_trans (wordsTo_len _ _) (Nat.le_of_lt hk32)
    k_with "state" => first | exact pf_yes hvs (by assumption) (by assumption) | exact pf_no hvs hc (by assumption)
    try k_fold
    k_steps
    all_goals exact hret _ [] _ _ (by assumption) (cb_drop (by assumption) (fun p hp => .tail _ (List.mem_append.mpr (.inl hp)))) (fun _ _ _ h => nomatch h) ⟨_, rfl, rfl⟩
end
section
open PySem PySem.W PySem.Calls PyProof.Rows PyProof.V PySem.Spec
/-- Ctr, where what is made lies only off the ledger -/
noncomputable def CtrN (w : World) (mean : ExcName → Option Value) (mg mb : Str → Option Value) (f : Addr) (vs : List Value) (dd uu : Nat)
    (Pre : Heap → List (Addr × Obj) → Nat → Prop) (Post : Value → List (Addr × Obj) → Prop) : Prop :=
  ∀ (dp un : Nat) (gd : Option (List Code)) (cn : Str) (cs : Scope) (a : Addr) (ccd : Value) (cl : List (Str × Addr)) (outer : List Env) (A₀ : Around) (base h₀ : Heap) (L : Addr) (m : Str → Option Value) (news : List (Addr × Obj)) (s : Shared) (Q E : Value → Shared → Prop),
    Below A₀ base outer h₀ → Fr h₀ L s.heap m → (hd.heap_39 w.params).In h₀ → News h₀ L s.heap news → Top hd.view_39 (looseW hd.view_39 [Str.ofString "COMPILER_FLAG_NAMES"]) mean mg mb h₀ → cs.kind = .function → Pre base news s.toks → dp + dd < recursionLimit → un + uu < cLine →
    (∀ v own h' tk', Fr h₀ L h' m → News h₀ L h' (own ++ news) → (∀ q ∈ news, ∀ p ∈ own, q.1 ≠ p.1) → Post v own → Q v { s with heap := h', toks := tk' }) →
    wpAny (model PySem.Challenge.rw_tr0037_01.row.prog w) (ktrTop dp un gd cn cs L a ccd cl outer) (call (.ref f) vs) Q E s

theorem CtrN.use {w : World} {mean : ExcName → Option Value} {mg mb : Str → Option Value} {f : Addr} {vs : List Value} {dd uu : Nat} {Pre : Heap → List (Addr × Obj) → Nat → Prop} {Post : Value → List (Addr × Obj) → Prop} (C : CtrN w mean mg mb f vs dd uu Pre Post)
    {dp un : Nat} {gd : Option (List Code)} {cn : Str} {cs : Scope} {a : Addr} {ccd : Value} {cl : List (Str × Addr)} {outer : List Env} {A₀ : Around} {base h₀ : Heap} {L : Addr} {m : Str → Option Value} {news : List (Addr × Obj)} {s : Shared} {Q E : Value → Shared → Prop}
    (B : Below A₀ base outer h₀) (F : Fr h₀ L s.heap m) (X : (hd.heap_39 w.params).In h₀) (N : News h₀ L s.heap news) (T : Top hd.view_39 (looseW hd.view_39 [Str.ofString "COMPILER_FLAG_NAMES"]) mean mg mb h₀) (hk : cs.kind = .function) (hp : Pre base news s.toks) (h1 : dp + dd < recursionLimit) (h2 : un + uu < cLine)
    (ret : ∀ v own h' tk', Fr h₀ L h' m → News h₀ L h' (own ++ news) → (∀ q ∈ news, ∀ p ∈ own, q.1 ≠ p.1) → Post v own → Q v { s with heap := h', toks := tk' }) :
    wpAny (model PySem.Challenge.rw_tr0037_01.row.prog w) (ktrTop dp un gd cn cs L a ccd cl outer) (call (.ref f) vs) Q E s :=
  C dp un gd cn cs a ccd cl outer A₀ base h₀ L m news s Q E B F X N T hk hp h1 h2 ret

theorem off1_at {D : Addr} : ∀ {l : List (Addr × Obj)}, LCg.Off1 D l → ∀ q ∈ l, q.1 ≠ D
  | [], _, q, hq => nomatch hq
  | _ :: _, h, q, hq => by
    rcases List.mem_cons.mp hq with rfl | hq
    · exact h.1
    · exact off1_at h.2 q hq
theorem drop_three {a b c : Addr × Obj} {news : List (Addr × Obj)} : ∀ p ∈ [a] ++ news, p ∈ a :: b :: c :: news := fun p hp => by
  rcases List.mem_cons.mp hp with rfl | hp
  · exact .head _
  · exact .tail _ (.tail _ (.tail _ hp))
/-- an element's text -/
noncomputable def WordEl (news : List (Addr × Obj)) (g : Str) (y : Value) (news' : List (Addr × Obj)) : Prop := news' = news ∧ ∃ t : Tok, y = .str g t
structure PlacesOk (ps : List Nat) : Prop where
  lt : ∀ p ∈ ps, p < 32
section
variable {prog : Program} {w : World} {A : Around} {E : Value → Shared → Prop} {s : Shared} {h₀ : Heap} {L : Addr} {m : Str → Option Value} {env : Env}
theorem word_rest {elt : Expr} {x : Str} {scope : Scope} {cl : List (Str × Addr)} {S : List (Addr × Obj) → Prop} {Fin : List Value → List (Addr × Obj) → Prop} {news : List (Addr × Obj)} {ps : List Nat} {vs : List Value} (hps : PlacesOk ps) (hi : IntsAre vs (List.map (fun p : Nat => (p : Int)) ps))
    (turn : ∀ (p : Nat) t I oI C oC D m₂ ys h tk (E' : Value → Shared → Prop), p < 32 → LCg.NsObj oC m₂ → m₂ x = some (.int (p : Int) t) → Fr h₀ L h m → News h₀ L h ((I, oI) :: (C, oC) :: (D, LCg.lst ys) :: news) → LCg.Off3 I C D news → ((@Ne Nat I C) ∧ (@Ne Nat I D) ∧ (@Ne Nat C D)) →
      wpAny (model prog w) A (eval elt (compEnvC scope cl C env)) (LCg.CompEnd h₀ L m { s with heap := h, toks := tk } I oI C oC D (LCg.lst ys) S (fun y news' => WordEl news (wordS p) y news')) E' { s with heap := h, toks := tk })
    (fin : ∀ ys, StrsAre ys (ps.map wordS) → Fin ys news) : LCg.CompRest prog w A h₀ L m env elt x scope cl s S (fun i v => vs.toArray[i]? = some v) Fin vs.toArray.size 0 [] news := by
  have hlen : vs.length = ps.length := by have := hi.length; rw [List.length_map] at this; omega
  have key : ∀ (j i : Nat) (ys : List Value), i + j = vs.toArray.size → StrsAre ys ((ps.take i).map wordS) → LCg.CompRest prog w A h₀ L m env elt x scope cl s S (fun i v => vs.toArray[i]? = some v) Fin j i ys news := by
    intro j
    induction j with
    | zero =>
      intro i ys hi hy
      have e : i = ps.length := by rw [List.size_toArray] at hi; omega
      rw [e, List.take_length] at hy
      exact LCg.CompRest.zero (fin ys hy)
    | succ j ih =>
      intro i ys hij hy
      refine LCg.CompRest.succ ?_
      intro v I oI C oC D m₂ h tk E' hv hC hx F N off ne
      obtain ⟨k, t, rfl, hk⟩ := IntsAre.at hi i v (by simpa using hv)
      obtain ⟨p, hp, rfl⟩ : ∃ p, ps[i]? = some p ∧ (p : Int) = k := by
        rw [List.getElem?_map] at hk
        cases hp : ps[i]? with
        | none => rw [hp] at hk; cases hk
        | some p => rw [hp] at hk; exact ⟨p, rfl, Option.some.inj hk⟩
      refine wpAny_mono (turn p t I oI C oC D m₂ ys h tk E' (hps.lt p (List.mem_of_getElem? hp)) hC hx F N off ne) (fun y s₂ hq => ?_) fun _ _ e => e
      obtain ⟨h', tk', nw, e, F', N', off', hS, hn, t', hy'⟩ := hq
      rw [hn] at N' off' hS
      refine ⟨h', tk', news, e, F', N', off', hS, ?_⟩
      rw [hy']
      refine ih (i + 1) _ (by omega) ?_
      rw [List.take_add_one, hp]
      simpa using strs_snoc hy
  exact key _ 0 [] (by omega) (by simp only [List.take_zero, List.map_nil]; exact .nil)
theorem word_end {S : List (Addr × Obj) → Prop} {s₁ : Shared} {I C D : Addr} {oI oC oD : Obj} {news : List (Addr × Obj)} {g g' : Str} {t : Tok} {h' : Heap} {tk : Nat} (F : Fr h₀ L h' m) (N : News h₀ L h' ((I, oI) :: (C, oC) :: (D, oD) :: news)) (off : LCg.Off3 I C D news) (hS : S news) (e : g' = g) :
    LCg.CompEnd h₀ L m s₁ I oI C oC D oD S (fun y news' => WordEl news g y news') (.str g' t) { s₁ with heap := h', toks := tk } :=
  LCg.CompEnd.intro F N news (fun _ h => h) off hS ⟨rfl, t, by rw [e]⟩
end
theorem words_size {vs : List Value} {ps : List Nat} (hi : IntsAre vs (List.map (fun p : Nat => (p : Int)) ps)) (h : ps.length ≤ 32) : vs.toArray.size ≤ sizeLine := by
  have := hi.length
  rw [List.length_map] at this
  rw [List.size_toArray, sizeLine_eq]
  omega
theorem hexw_size {p : Nat} (h : p < 32) : (Str.ofString "0x" ++ Txt.item (Str.ofString "1248") ((p : Int).fmod 4)).length + (Txt.mul (Str.ofString "0") ((p : Int).fdiv 4)).length ≤ sizeLine := by
  rw [sizeLine_eq]
  have H : ∀ p : Nat, p < 32 → (Str.ofString "0x" ++ Txt.item (Str.ofString "1248") ((p : Int).fmod 4)).length + (Txt.mul (Str.ofString "0") ((p : Int).fdiv 4)).length ≤ 20 := by decide +kernel
  have := H p h
  omega
theorem word_low {p : Nat} (h : p < 32) (h2 : (p : Int) < 10) : digitsS.getD ((p : Int).toNat) Str.empty = wordS p := by
  have H : ∀ p : Nat, p < 32 → (p : Int) < 10 → digitsS.getD ((p : Int).toNat) Str.empty = wordS p := by decide +kernel
  exact H p h h2
theorem word_high {p : Nat} (h : p < 32) (h2 : ¬ (p : Int) < 10) : Str.ofString "0x" ++ Txt.item (Str.ofString "1248") ((p : Int).fmod 4) ++ Txt.mul (Str.ofString "0") ((p : Int).fdiv 4) = wordS p := by
  have H : ∀ p : Nat, p < 32 → ¬ (p : Int) < 10 → Str.ofString "0x" ++ Txt.item (Str.ofString "1248") ((p : Int).fmod 4) ++ Txt.mul (Str.ofString "0") ((p : Int).fdiv 4) = wordS p := by decide +kernel
  exact H p h h2
set_option maxHeartbeats 8000000 in
theorem c_words (w mean mg mb) (l : Addr) (c : Nat) (vs : List Value) (ps : List Nat) (hps : PlacesOk ps) (hps2 : ps.length ≤ 32) (hi : IntsAre vs (List.map (fun p : Nat => (p : Int)) ps)) :
    CtrN w mean mg mb 116 [.ref l] 1 16 (fun _ news _ => (l, W.listOf vs.toArray c) ∈ news)
      (fun v own => ∃ D ws, v = .ref D ∧ own = [(D, W.listOf ws.toArray ws.length)] ∧ StrsAre ws (ps.map wordS)) := by
  w_top off
  k_with_none
  k_with "CompSrc" => (k_here; k_dflt (refine LCg.CompSrc.ledger (by rfl) (by k_asm) (by k_asm) (.tail _ (.tail _ (by assumption))) (words_size (by assumption) (by assumption)) ?_); intro g'; (refine' word_rest (by assumption) (by assumption) (fun p' t' I' oI' C' oC' D' m' ys' h' tk' E' hp' hC' hx' F' N' off' ne' => ?_) (fun ys' hys' => ?_)))
  k_with "binaryOp Add str str" => (k_here; (with_reducible show wpAny _ _ (binaryOp Operator.Add (Value.str _ _) (Value.str (Txt.mul _ _) _)) _ _ _); k_dflt (refine' PyProof.Rows.add_str ?_ (hexw_size (by assumption))); intro t8 k8)
  k_with "CompEnd" => (k_dflt (refine word_end (by assumption) (by assumption) (by assumption) (.inr ⟨_, .tail _ (.tail _ (by assumption)), rfl, _, rfl⟩) (by first | exact word_low (by assumption) (by assumption) | exact word_high (by assumption) (by assumption) | exact word_high (by assumption) (Int.not_lt.mpr (by assumption)))))
  unfold CtrN
  k_fill
  intro dp un gd cn cs a ccd cl outer A₀ base h₀ L m news s Q E B F X N T hk hpre hd hu hret
  refine wpAny_call ?_
  k_dflt (refine' code_defC ?k1 ?k2 ?k3 ?k4 ?k5 ?kA ?kF ?kK ?k6 ?k7 ?k8 ?k9 ?kB ?kD ?_ ?c2 ?c3 ?c4; (case kA => exact rfl); (case kF => exact rfl); (case kK => assumption); (case k1 => k_asm); (case k2 => k_asm); (case k3 => k_asm); (case k4 => k_asm); (case k5 => k_asm); (case k6 => k_is); (case k7 => k_is); (case k8 => ktr_room); (case k9 => exact BindsTo.of_eq rfl); (case kB => exact rfl); (case kD => decide +kernel); (case c2 => exact rfl); (case c3 => exact rfl); (case c4 => exact rfl); k_whole; intro g' L' h' tk' cells' FG' F' N' Y' B' X' T' l1; (have l1a := fun p hp => Nat.lt_add_one_of_lt (l1 p hp)); (have kM := kstMark); (try k_lt l1); k_cells Y'; (try simp only [List.cons_append, List.nil_append] at N'); (try dsimp only); (try k_lift B'); (try k_fold))
  repeat' (first | (k_unfold; (try dsimp only)) | walk1 | (dsimp only; walk1))
  all_goals (
    (rename StrsAre _ _ => hys)
    (rename _ ∧ _ ∧ LCg.Off1 _ _ => ho1)
    exact hret _ [(_, _)] _ _ (by assumption) (cb_drop (by assumption) drop_three) (fun q hq p hp => by rw [List.mem_singleton.mp hp]; exact off1_at ho1.2.2 q hq) ⟨_, _, rfl, rfl, hys⟩)
end
section
open PySem PySem.W PySem.Calls PyProof.Rows PyProof.V PySem.Spec
noncomputable def escTbl (hand : Int) : List (Nat × List Nat) := if hand = 0 then tblC else if hand = 1 then tblA else if hand = 2 then tblH else if hand = 3 then tblC2 else tblA2
/-- a def that escapes as hand says -/
noncomputable def EscC (w : World) (mean : ExcName → Option Value) (mg mb : Str → Option Value) (hand : Int) (f : Addr) : Prop :=
  ∀ (l : List Nat) (tk : Tok), l.length ≤ 10000 → Ctr w mean mg mb f [.str (escT [] l) tk] 1 8 (fun _ _ n => TkOk n) (fun v own => ∃ t', v = .str (escT (escTbl hand) l) t' ∧ own = [])
section
variable {prog : Program} {w : World} {A : Around} {E : Value → Shared → Prop} {s : Shared}
theorem item_esc {mean : ExcName → Option Value} {mg mb : Str → Option Value} {value slice : PySem.Expr} {l : Addr} {k : Int} {u : Tok} {h₀ : Heap} {Q : Value → Shared → Prop} (_T : Top hd.view_39 (looseW hd.view_39 [Str.ofString "COMPILER_FLAG_NAMES"]) mean mg mb h₀) (hl : s.heap.IsList l [Value.ref 50, .ref 57, .ref 64, .ref 71, .ref 78].toArray) (h0 : 0 ≤ k) (h6 : k < 5)
    (hs : subscripted slice false (.ref l) (.int k u) = operate [.ref l, .int k u] (getItem (.ref l) (.int k u)))
    (hk0 : keepIn (hd.heap_39 w.params) (.ref 50) = true) (hk1 : keepIn (hd.heap_39 w.params) (.ref 57) = true) (hk2 : keepIn (hd.heap_39 w.params) (.ref 64) = true) (hk3 : keepIn (hd.heap_39 w.params) (.ref 71) = true) (hk4 : keepIn (hd.heap_39 w.params) (.ref 78) = true)
    (h : ∀ f, EscC w mean mg mb k f → keepIn (hd.heap_39 w.params) (.ref f) = true → Q (.ref f) s) :
    wpAny (model prog w) A (subscriptTail value slice (.ref l) (.int k u)) Q E s :=
  item_five hl h0 h6 hs
    (fun e => h 50 (by subst e; intro l tk hl; exact c_esc0 w mean mg mb l tk hl) hk0)
    (fun e => h 57 (by subst e; intro l tk hl; exact c_esc1 w mean mg mb l tk hl) hk1)
    (fun e => h 64 (by subst e; intro l tk hl; exact c_esc2 w mean mg mb l tk hl) hk2)
    (fun e => h 71 (by subst e; intro l tk hl; exact c_esc3 w mean mg mb l tk hl) hk3)
    (fun e => h 78 (by subst e; intro l tk hl; exact c_esc4 w mean mg mb l tk hl) hk4)
end
noncomputable def pl (a b M x y : Nat) : Nat → Nat
  | 0 => x
  | 1 => y
  | n + 2 => (a * pl a b M x y (n + 1) + b * pl a b M x y n) % M
theorem pl_lt {a b M x y : Nat} (hx : x < M) (hy : y < M) : ∀ n, pl a b M x y n < M
  | 0 => hx
  | 1 => hy
  | _ + 2 => Nat.mod_lt _ (Nat.lt_of_le_of_lt (Nat.zero_le _) hx)
noncomputable def lightO (p : Nat) (t1 t2 t3 : Tok) (k : Nat) : Obj := tupOf [.float (col p).1 t1, .float (col p).2.1 t2, .float (col p).2.2 t3] k
structure LightsAre (f : Nat → Nat) (c n : Nat) (lvs : List Value) (los : List (Addr × Obj)) : Prop where
  len : lvs.length = n
  on : ∀ i < n, ∃ D t1 t2 t3 k, lvs[i]? = some (.ref D) ∧ (D, lightO (c * f i) t1 t2 t3 k) ∈ los
theorem LightsAre.snoc {f : Nat → Nat} {c n : Nat} {lvs : List Value} {los : List (Addr × Obj)} (h : LightsAre f c n lvs los) (D : Addr) (t1 t2 t3 : Tok) (k : Nat) :
    LightsAre f c (n + 1) (lvs ++ [.ref D]) ((D, lightO (c * f n) t1 t2 t3 k) :: los) where
  len := by rw [List.length_append, List.length_singleton, h.len]
  on i hi := by
    by_cases e : i = n
    · subst e
      refine ⟨D, t1, t2, t3, k, ?_, .head _⟩
      rw [← h.len, List.getElem?_concat_length]
    · obtain ⟨D', u1, u2, u3, k', h1, h2⟩ := h.on i (by omega)
      exact ⟨D', u1, u2, u3, k', by rw [List.getElem?_append_left (by rw [h.len]; omega)]; exact h1, .tail _ h2⟩
theorem LightsAre.nil (f : Nat → Nat) (c : Nat) : LightsAre f c 0 [] [] := ⟨rfl, fun i hi => absurd hi (Nat.not_lt_zero i)⟩

/-- the state of the loop: both lists, the lights' own tuples, the lists' rooms -/
structure RunS where
  pvs : List Value
  lvs : List Value
  los : List (Addr × Obj)
  k1 : Nat
  k2 : Nat
structure RunOk (f : Nat → Nat) (c M : Nat) (P Lt : Addr) (news : List (Addr × Obj)) (n : Nat) (S : RunS) : Prop where
  lo : 2 ≤ n
  hi : n ≤ M
  iar : IntsAre S.pvs ((List.range n).map fun i => (f i : Int))
  lights : LightsAre f c n S.lvs S.los
  off : OwnOff S.los [Lt, P]
  above : ∀ q ∈ news, ∀ p ∈ S.los, q.1 < p.1
noncomputable def RunLed (P Lt : Addr) (news : List (Addr × Obj)) (S : RunS) : List (Addr × Obj) := (Lt, W.listOf S.lvs.toArray S.k2) :: (P, W.listOf S.pvs.toArray S.k1) :: (S.los ++ news)
theorem RunOk.plen {f : Nat → Nat} {c M : Nat} {P Lt : Addr} {news : List (Addr × Obj)} {n : Nat} {S : RunS} (h : RunOk f c M P Lt news n S) : S.pvs.length = n := by
  have := h.iar.length
  rw [List.length_map, List.length_range] at this
  omega
theorem RunOk.item {f : Nat → Nat} {c M : Nat} {P Lt : Addr} {news : List (Addr × Obj)} {n : Nat} {S : RunS} (h : RunOk f c M P Lt news n S) {i : Nat} (hi : i < n) : ∃ t, S.pvs[i]? = some (.int (f i : Int) t) :=
  IntsAre.get h.iar i (f i : Int) (by simp [hi])
noncomputable def runStored : List Str := [Str.ofString "written", Str.ofString "r", Str.ofString "g", Str.ofString "b"]
section
variable {prog : Program} {w : World} {A : Around} {E : Value → Shared → Prop} {Q : Flow → Shared → Prop} {s : Shared} {env : Env} {h₀ : Heap} {L : Addr}
theorem run_while {test : Expr} {body : List Stmt} {pos : Pos} {m₀ : Str → Option Value} {f : Nat → Nat} {c M : Nat} {P Lt D0 D1 : Addr} {news : List (Addr × Obj)} {ow : Addr × Obj} {ta tb t1 t2 t3 t4 t5 t6 : Tok} {k3 k4 n1 n2 : Nat}
    (F : Fr h₀ L s.heap m₀) (N : News h₀ L s.heap ((Lt, W.listOf #[.ref D0, .ref D1] n2) :: (D1, lightO (c * f 1) t4 t5 t6 k4) :: (D0, lightO (c * f 0) t1 t2 t3 k3) :: (P, W.listOf #[.int (f 0 : Int) ta, .int (f 1 : Int) tb] n1) :: ow :: news))
    (hM : 2 ≤ M) (hoff : OwnOff [(D1, lightO (c * f 1) t4 t5 t6 k4), (D0, lightO (c * f 0) t1 t2 t3 k3)] [Lt, P]) (habove : ∀ q ∈ news, ∀ p ∈ [(D1, lightO (c * f 1) t4 t5 t6 k4), (D0, lightO (c * f 0) t1 t2 t3 k3)], q.1 < p.1)
    (turn : ∀ (n : Nat) (S : RunS) (u : Str → Option Value) h tk, RunOk f c M P Lt news n S → Fr h₀ L h (fun z => if runStored.contains z then u z else m₀ z) → News h₀ L h ((Lt, W.listOf S.lvs.toArray S.k2) :: (P, W.listOf S.pvs.toArray S.k1) :: (S.los ++ news)) →
      wpAny (model prog w) A (isTrue test env (eval test env)) (fun b s₂ =>
        if b = true then wpAny (model prog w) A (execs body env) (KswPost h₀ L s (RunLed P Lt news) (fun _ => []) (fun _ => True) runStored m₀ (fun S => ∃ n, RunOk f c M P Lt news n S) (fun S => M - S.pvs.length) Q S) E s₂ else Q .next s₂) E { s with heap := h, toks := tk })
    (hE : PassesOwn (model prog w) A env E := by passes_own) :
    wpAny (model prog w) A (exec (.While test body [] pos) env) Q E s := by
  refine ksw_while (RunLed P Lt news) (fun _ => []) (fun _ => True) runStored (fun S => ∃ n, RunOk f c M P Lt news n S) (fun S => M - S.pvs.length)
    ⟨[.int (f 0 : Int) ta, .int (f 1 : Int) tb], [.ref D0, .ref D1], [(D1, lightO (c * f 1) t4 t5 t6 k4), (D0, lightO (c * f 0) t1 t2 t3 k3)], n1, n2⟩ F ?_ trivial (fun p hp => nomatch hp) ?_ ?_ hE
  · intro p hp
    refine N p ?_
    unfold RunLed at hp
    simp only [List.mem_cons, List.cons_append, List.nil_append] at hp ⊢
    rcases hp with h | h | h | h | h
    · exact .inl h
    · exact .inr (.inr (.inr (.inl h)))
    · exact .inr (.inl h)
    · exact .inr (.inr (.inl h))
    · exact .inr (.inr (.inr (.inr (.inr h))))
  · refine ⟨2, Nat.le_refl _, hM, .cons _ _ (.cons _ _ .nil), ?_, hoff, habove⟩
    exact ((LightsAre.nil f c).snoc D0 t1 t2 t3 k3).snoc D1 t4 t5 t6 k4
  · rintro S u h tk _ ⟨n, hn⟩ F₁ N₁
    exact turn n S u h tk hn F₁ N₁
theorem run_end {m₀ m' : Str → Option Value} {f : Nat → Nat} {c M n : Nat} {P Lt D : Addr} {news news' : List (Addr × Obj)} {S : RunS} {z : Int} {tz t1 t2 t3 : Tok} {k k1 k2 : Nat} {h' : Heap} {tk : Nat} {r g b : UInt64}
    (hn : RunOk f c M P Lt news n S) (hlt : (n : Int) < (M : Int)) (hz : z = (f n : Int)) (hcol : col (c * f n) = (r, g, b)) (F : Fr h₀ L h' m') (N : News h₀ L h' news')
    (h1 : (Lt, W.listOf (S.lvs.toArray.push (.ref D)) k2) ∈ news') (h2 : (P, W.listOf (S.pvs.toArray.push (.int z tz)) k1) ∈ news') (h3 : (D, tupOf [.float r t1, .float g t2, .float b t3] k) ∈ news') (h4 : ∀ p ∈ S.los ++ news, p ∈ news')
    (hm : ∀ z, (∀ p ∈ ([] : List (Str × Value)), z ≠ p.1) → runStored.contains z = false → m' z = m₀ z) (hD1 : D ≠ Lt) (hD2 : D ≠ P) (hD3 : ∀ q ∈ news, q.1 < D) :
    KswEnd h₀ L s (RunLed P Lt news) (fun _ => []) (fun _ => True) runStored m₀ (fun S => ∃ n, RunOk f c M P Lt news n S) (fun S => M - S.pvs.length) S { s with heap := h', toks := tk } := by
  have hpl := hn.plen
  have hlo := hn.lo
  refine ksw_end (⟨S.pvs ++ [.int z tz], S.lvs ++ [.ref D], (D, lightO (c * f n) t1 t2 t3 k) :: S.los, k1, k2⟩ : RunS) F N ?_ trivial (fun p hp => nomatch hp) hm ⟨n + 1, by omega, by omega, ?_, hn.lights.snoc D t1 t2 t3 k, ?_, ?_⟩ ?_
  · intro p hp
    unfold RunLed at hp
    simp only [List.mem_cons, List.cons_append] at hp
    rcases hp with h | h | h | h
    · rw [h]; rw [List.push_toArray] at h1; exact h1
    · rw [h]; rw [List.push_toArray] at h2; exact h2
    · rw [h]; unfold lightO; rw [hcol]; exact h3
    · exact h4 p h
  · rw [List.range_succ, List.map_append, hz]
    exact ints_snoc hn.iar
  · intro p hp b hb
    rcases List.mem_cons.mp hp with rfl | hp
    · have hb' : b = Lt ∨ b = P := by simpa using hb
      rcases hb' with rfl | rfl
      · exact hD1
      · exact hD2
    · exact hn.off p hp b hb
  · intro q hq p hp
    rcases List.mem_cons.mp hp with rfl | hp
    · exact hD3 q hq
    · exact hn.above q hq p hp
  · show M - (S.pvs ++ [_]).length < M - S.pvs.length
    rw [List.length_append, List.length_singleton, hpl]
    omega
end
end
section
open PySem PySem.W PySem.Calls PyProof.Rows PyProof.V PySem.Spec
/-- what a light of the hue n/M is, in letters -/
theorem light_at {M c n : Nat} (hM : LampsC M c) (h : n * c < 745) : ∃ r g b, col (c * (n % M)) = (r, g, b) ∧ rgbF (hue n M) = some (r, g, b) := ⟨_, _, _, rfl, light_ok hM h⟩
theorem lampsC_lt {M c p : Nat} (hM : LampsC M c) (h : p < M) : c * p < 32 := by
  rcases hM with ⟨rfl, rfl⟩ | ⟨rfl, rfl⟩ | ⟨rfl, rfl⟩ <;> omega
theorem hls_at {M c p : Nat} {r g b : UInt64} (hM : LampsC M c) (h : p < M) (e : col (c * p) = (r, g, b)) : ∃ hh l s, hlsF r g b = some (hh, l, s) ∧ Float64.isFinite (Float64.mul hh (Float64.ofInt M)) = true ∧ Flt.toInt Float64.truncOf (Float64.mul hh (Float64.ofInt M)) = (p : Int) := by
  have h1 := col_hls (c * p) (lampsC_lt hM h)
  have h2 := back_ok hM h
  rw [e] at h1
  exact ⟨_, _, _, h1, h2.1, h2.2⟩
theorem esc_run_len {tbl : List (Nat × List Nat)} {la lb : List Nat} {a b : Nat} (ha : (escF tbl la).length = a) (hb : (escF tbl lb).length = b) (j k : Nat) : (escF tbl (rep la j ++ rep lb k)).length = a * j + b * k := by
  have hr : ∀ (l : List Nat) (n : Nat), (escF tbl (rep l n)).length = n * (escF tbl l).length := by
    intro l n
    unfold rep
    induction n with
    | zero => simp [escF_nil]
    | succ n ih => rw [List.replicate_succ, List.flatten_cons, escF_append, List.length_append, ih, Nat.succ_mul]; omega
  rw [escF_append, List.length_append, hr, hr, ha, hb, Nat.mul_comm j a, Nat.mul_comm k b]
section
variable {prog : Program} {w : World} {A : Around} {E : Value → Shared → Prop} {s : Shared}
theorem len_run {tbl : List (Nat × List Nat)} {l : List Nat} {nn : Nat} {t : Tok} {Q : Value → Shared → Prop} (hl : (escF tbl l).length = nn) (hn : nn < 1000000)
    (h : Q (.int (nn : Int) (s.toks + 1)) { s with toks := s.toks + 1 + 1 }) : wpAny (model prog w) A (call (.builtin "len") [.str (escT tbl l) t]) Q E s := by
  have e : (escT tbl l).length = nn := hl
  refine SBL.len ?_ ?_
  · rw [e]; omega
  · rw [e]; exact h
theorem mul_hue {M : Nat} {x : UInt64} {t u : Tok} {Q : Value → Shared → Prop} (hM : M ≤ 32) (h : Q (.float (Float64.mul x (Float64.ofInt M)) s.toks) { s with toks := s.toks + 1 }) : wpAny (model prog w) A (binaryOp .Mult (.float x t) (.int (M : Int) u)) Q E s :=
  mul_fi_fits (Nat.lt_of_lt_of_le (by omega : ((M : Int)).natAbs < 2 ^ 20) (Nat.pow_le_pow_right (by decide) (by decide))) h
theorem int_hue {x : UInt64} {t : Tok} {Q : Value → Shared → Prop} (hA : A.handled = none) (hf : Float64.isFinite x = true)
    (h : Q (.int (Flt.toInt Float64.truncOf x) s.toks) { s with toks := s.toks + 1 }) : wpAny (model prog w) A (call (.type "int") [.float x t]) Q E s :=
  Flt.call_int_float3 hA (fun e => absurd e (fin_not_nan hf)) (fun e => absurd e (fin_not_inf hf)) fun _ => h
theorem item_m1 {h₀ : Heap} {L : Addr} {news : List (Addr × Obj)} {value slice : PySem.Expr} {l : Addr} {vs : List Value} {c n : Nat} {u : Tok} {v : Value} {Q : Value → Shared → Prop} (N : News h₀ L s.heap news) (hm : (l, W.listOf vs.toArray c) ∈ news) (hlen : vs.length = n) (h2 : 2 ≤ n) (hx : vs[n - 1]? = some v) (h : Q v s)
    (hs : subscripted slice false (.ref l) (.int (-1) u) = operate [.ref l, .int (-1) u] (getItem (.ref l) (.int (-1) u)) := by with_unfolding_all rfl) :
    wpAny (model prog w) A (subscriptTail value slice (.ref l) (.int (-1) u)) Q E s := by
  refine item_neg (vs := vs) ⟨_, (N _ hm).1, rfl, c, rfl⟩ (by decide) (by omega) (by decide) ?_ h hs
  rw [hlen]
  have e : ((-1 : Int) + (n : Int)).toNat = n - 1 := by omega
  rw [e]; exact hx
theorem item_m2 {h₀ : Heap} {L : Addr} {news : List (Addr × Obj)} {value slice : PySem.Expr} {l : Addr} {vs : List Value} {c n : Nat} {u : Tok} {v : Value} {Q : Value → Shared → Prop} (N : News h₀ L s.heap news) (hm : (l, W.listOf vs.toArray c) ∈ news) (hlen : vs.length = n) (h2 : 2 ≤ n) (hx : vs[n - 2]? = some v) (h : Q v s)
    (hs : subscripted slice false (.ref l) (.int (-2) u) = operate [.ref l, .int (-2) u] (getItem (.ref l) (.int (-2) u)) := by with_unfolding_all rfl) :
    wpAny (model prog w) A (subscriptTail value slice (.ref l) (.int (-2) u)) Q E s := by
  refine item_neg (vs := vs) ⟨_, (N _ hm).1, rfl, c, rfl⟩ (by decide) (by omega) (by decide) ?_ h hs
  rw [hlen]
  have e : ((-2 : Int) + (n : Int)).toNat = n - 2 := by omega
  rw [e]; exact hx
end
theorem RunOk.small {f : Nat → Nat} {c M : Nat} {P Lt : Addr} {news : List (Addr × Obj)} {n : Nat} {S : RunS} (h : RunOk f c M P Lt news n S) (hM : M ≤ 32) : S.pvs.length ≤ 32 ∧ S.lvs.length ≤ 32 := by
  have h1 := h.plen
  have h2 := h.lights.len
  have h3 := h.hi
  omega
theorem bound_run {a b c j k M : Nat} (ha : a ≤ 12) (hb : b ≤ 12) (hM : LampsC M c) (hj : j < M) (hk : k < M) : (a * j + b * k) * c < 745 := by
  have h1 : j * c ≤ 31 := by rcases hM with ⟨rfl, rfl⟩ | ⟨rfl, rfl⟩ | ⟨rfl, rfl⟩ <;> omega
  have h2 : k * c ≤ 31 := by rcases hM with ⟨rfl, rfl⟩ | ⟨rfl, rfl⟩ | ⟨rfl, rfl⟩ <;> omega
  have h3 := Nat.mul_le_mul ha h1
  have h4 := Nat.mul_le_mul hb h2
  rw [Nat.add_mul, Nat.mul_assoc, Nat.mul_assoc]
  omega
theorem lamps_le {M c : Nat} (hM : LampsC M c) : 8 ≤ M ∧ M ≤ 32 ∧ 1 ≤ c := by rcases hM with ⟨rfl, rfl⟩ | ⟨rfl, rfl⟩ | ⟨rfl, rfl⟩ <;> omega
theorem run_prep {a b c M x y n : Nat} {P Lt : Addr} {news : List (Addr × Obj)} {S : RunS} (h : RunOk (pl a b M x y) c M P Lt news n S) (ha : a ≤ 12) (hb : b ≤ 12) (hM : LampsC M c) (hx : x < M) (hy : y < M) :
    ∃ j k nn u1 u2 r g b' hh l sa, S.pvs.length = n ∧ 2 ≤ n ∧ S.pvs[n - 1]? = some (.int ((j : Nat) : Int) u1) ∧ S.pvs[n - 2]? = some (.int ((k : Nat) : Int) u2) ∧ j < 32 ∧ k < 32 ∧ a * j + b * k = nn ∧ nn < 1000000 ∧
      rgbF (hue nn M) = some (r, g, b') ∧ col (c * pl a b M x y n) = (r, g, b') ∧ hlsF r g b' = some (hh, l, sa) ∧ Float64.isFinite (Float64.mul hh (Float64.ofInt M)) = true ∧ Flt.toInt Float64.truncOf (Float64.mul hh (Float64.ofInt M)) = ((pl a b M x y n : Nat) : Int) := by
  have h2 := h.lo
  obtain ⟨q, rfl⟩ : ∃ q, n = q + 2 := ⟨n - 2, by omega⟩
  obtain ⟨u1, e1⟩ := h.item (i := q + 1) (by omega)
  obtain ⟨u2, e2⟩ := h.item (i := q) (by omega)
  have b1 := pl_lt (a := a) (b := b) hx hy (q + 1)
  have b2 := pl_lt (a := a) (b := b) hx hy q
  have b0 := pl_lt (a := a) (b := b) hx hy (q + 2)
  have hle := lamps_le hM
  have hbd := bound_run ha hb hM b1 b2
  obtain ⟨r, g, b', hc, hr⟩ := light_at hM hbd
  have he : (a * pl a b M x y (q + 1) + b * pl a b M x y q) % M = pl a b M x y (q + 2) := rfl
  rw [he] at hc
  obtain ⟨hh, l, sa, h5, h6, h7⟩ := hls_at hM b0 hc
  refine ⟨_, _, _, u1, u2, r, g, b', hh, l, sa, h.plen, h2, e1, e2, by omega, by omega, rfl, ?_, hr, hc, h5, h6, h7⟩
  have := Nat.le_mul_of_pos_right (a * pl a b M x y (q + 1) + b * pl a b M x y q) (by omega : 0 < c)
  omega
theorem start_hue {M c n : Nat} (hM : LampsC M c) (h : n < M) : ∃ r g b, col (c * n) = (r, g, b) ∧ rgbF (hue n M) = some (r, g, b) := by
  have h1 := light_at (n := n) hM (by rcases hM with ⟨rfl, rfl⟩ | ⟨rfl, rfl⟩ | ⟨rfl, rfl⟩ <;> omega)
  rwa [Nat.mod_eq_of_lt h] at h1
section
variable {prog : Program} {w : World} {A : Around} {E : Value → Shared → Prop} {Q : Flow → Shared → Prop} {s : Shared} {env : Env} {h₀ : Heap} {L : Addr}
structure RunOff (P Lt : Addr) (rest : List (Addr × Obj)) : Prop where
  lt : P < Lt
  offL : ∀ p ∈ rest, p.1 ≠ Lt
  offP : ∀ p ∈ rest, p.1 ≠ P
structure Made9 (news own : List (Addr × Obj)) : Prop where
  lt9 : ∀ q ∈ news, ∀ p ∈ own, q.1 < p.1
structure RunAB (a b : Nat) : Prop where
  mk9 : a = a ∧ b = b
theorem run_while2 {test : Expr} {body : List Stmt} {pos : Pos} {m₀ : Str → Option Value} {a b x y c M : Nat} {P Lt D0 D1 : Addr} {news : List (Addr × Obj)} {ow : Addr × Obj} {ta tb t1 t2 t3 t4 t5 t6 : Tok} {k3 k4 n1 n2 : Nat} {rx gx bx ry gy by' : UInt64}
    (_hab : RunAB a b) (_hML : LampsC M c) (hcx : col (c * x) = (rx, gx, bx)) (hcy : col (c * y) = (ry, gy, by'))
    (F : Fr h₀ L s.heap m₀) (N : News h₀ L s.heap ((Lt, W.listOf #[.ref D0, .ref D1] n2) :: (D1, tupOf [.float ry t4, .float gy t5, .float by' t6] k4) :: (D0, tupOf [.float rx t1, .float gx t2, .float bx t3] k3) :: (P, W.listOf #[.int (x : Int) ta, .int (y : Int) tb] n1) :: ow :: news))
    (hM : 2 ≤ M) (o1 : D1 < Lt) (o2 : D0 < Lt) (o3 : P < D0) (o4 : P < D1) (o5 : ∀ q ∈ news, q.1 < D0) (o6 : ∀ q ∈ news, q.1 < D1) (o7 : ∀ p ∈ news, p.1 ≠ Lt) (o8 : ∀ p ∈ news, p.1 ≠ P) (o9 : P < Lt)
    (turn : ∀ (n : Nat) (S : RunS) (u : Str → Option Value) h tk, RunOk (pl a b M x y) c M P Lt news n S → RunOff P Lt (S.los ++ news) → Fr h₀ L h (fun z => if runStored.contains z then u z else m₀ z) → News h₀ L h ((Lt, W.listOf S.lvs.toArray S.k2) :: (P, W.listOf S.pvs.toArray S.k1) :: (S.los ++ news)) →
      wpAny (model prog w) A (isTrue test env (eval test env)) (fun b' s₂ =>
        if b' = true then wpAny (model prog w) A (execs body env) (KswPost h₀ L s (RunLed P Lt news) (fun _ => []) (fun _ => True) runStored m₀ (fun S => ∃ n, RunOk (pl a b M x y) c M P Lt news n S) (fun S => M - S.pvs.length) Q S) E s₂ else Q .next s₂) E { s with heap := h, toks := tk })
    (hE : PassesOwn (model prog w) A env E := by passes_own) :
    wpAny (model prog w) A (exec (.While test body [] pos) env) Q E s := by
  have e0 : tupOf [.float rx t1, .float gx t2, .float bx t3] k3 = lightO (c * pl a b M x y 0) t1 t2 t3 k3 := by
    show _ = lightO (c * x) t1 t2 t3 k3
    unfold lightO
    rw [hcx]
  have e1 : tupOf [.float ry t4, .float gy t5, .float by' t6] k4 = lightO (c * pl a b M x y 1) t4 t5 t6 k4 := by
    show _ = lightO (c * y) t4 t5 t6 k4
    unfold lightO
    rw [hcy]
  rw [e0, e1] at N
  refine run_while F N hM ?_ ?_ (fun n S u h tk hS => turn n S u h tk hS ⟨o9, List.forall_mem_append.mpr ⟨fun p hp => hS.off p hp _ (.head _), o7⟩, List.forall_mem_append.mpr ⟨fun p hp => hS.off p hp _ (.tail _ (.head _)), o8⟩⟩) hE
  · intro p hp z hz
    have hz' : z = Lt ∨ z = P := by simpa using hz
    rcases List.mem_cons.mp hp with rfl | hp
    · rcases hz' with rfl | rfl
      · exact Nat.ne_of_lt o1
      · exact Nat.ne_of_gt o4
    · rw [List.mem_singleton.mp hp]
      rcases hz' with rfl | rfl
      · exact Nat.ne_of_lt o2
      · exact Nat.ne_of_gt o3
  · intro q hq p hp
    rcases List.mem_cons.mp hp with rfl | hp
    · exact o6 q hq
    · rw [List.mem_singleton.mp hp]; exact o5 q hq
end
section
variable {prog : Program} {w : World} {A : Around} {E : Value → Shared → Prop} {s : Shared} {h₀ : Heap} {L : Addr} {m : Str → Option Value}
theorem append_lights {P Lt a1 a2 : Addr} {o1 o2 oP : Obj} {rest : List (Addr × Obj)} {vs : List Value} {k : Nat} {x : Value} {Q : Value → Shared → Prop} (F : Fr h₀ L s.heap m) (N : News h₀ L s.heap ((a1, o1) :: (a2, o2) :: (Lt, W.listOf vs.toArray k) :: (P, oP) :: rest))
    (hO : RunOff P Lt rest) (h1 : Lt < a1) (h2 : Lt < a2) (hz : vs.length ≤ 32)
    (h : ∀ h', Fr h₀ L h' m → News h₀ L h' ((a1, o1) :: (a2, o2) :: (Lt, W.listOf (vs.toArray.push x) (k + 1)) :: (P, oP) :: rest) → Q .none { s with heap := h' }) : wpAny (model prog w) A (call (.builtin "list.append") [.ref Lt, x]) Q E s :=
  append_K F N (.tail (Nat.ne_of_gt h1) (.tail (Nat.ne_of_gt h2) (.head (List.forall_mem_cons.mpr ⟨Nat.ne_of_lt hO.lt, hO.offL⟩)))) h (by rw [List.size_toArray, sizeLine_eq]; omega)
theorem append_places {P Lt a0 a1 a2 : Addr} {o0 o1 o2 oL : Obj} {rest : List (Addr × Obj)} {vs : List Value} {k : Nat} {x : Value} {Q : Value → Shared → Prop} (F : Fr h₀ L s.heap m) (N : News h₀ L s.heap ((a0, o0) :: (a1, o1) :: (a2, o2) :: (Lt, oL) :: (P, W.listOf vs.toArray k) :: rest))
    (hO : RunOff P Lt rest) (h0 : P < a0) (h1 : P < a1) (h2 : P < a2) (hz : vs.length ≤ 32)
    (h : ∀ h', Fr h₀ L h' m → News h₀ L h' ((a0, o0) :: (a1, o1) :: (a2, o2) :: (Lt, oL) :: (P, W.listOf (vs.toArray.push x) (k + 1)) :: rest) → Q .none { s with heap := h' }) : wpAny (model prog w) A (call (.builtin "list.append") [.ref P, x]) Q E s :=
  append_K F N (.tail (Nat.ne_of_gt h0) (.tail (Nat.ne_of_gt h1) (.tail (Nat.ne_of_gt h2) (.tail (Nat.ne_of_gt hO.lt) (.head hO.offP))))) h (by rw [List.size_toArray, sizeLine_eq]; omega)
end
theorem run_prep2 {tbl : List (Nat × List Nat)} {la lb : List Nat} {a b c M x y n : Nat} {P Lt : Addr} {news : List (Addr × Obj)} {S : RunS} (h : RunOk (pl a b M x y) c M P Lt news n S) (hla : (escF tbl la).length = a) (hlb : (escF tbl lb).length = b) (ha : a ≤ 12) (hb : b ≤ 12) (hM : LampsC M c) (hx : x < M) (hy : y < M) :
    ∃ j k nn u1 u2 r g b' hh l sa, S.pvs.length = n ∧ 2 ≤ n ∧ S.pvs[n - 1]? = some (.int ((j : Nat) : Int) u1) ∧ S.pvs[n - 2]? = some (.int ((k : Nat) : Int) u2) ∧ j < 32 ∧ k < 32 ∧ (escF tbl (rep la j ++ rep lb k)).length = nn ∧ nn < 1000000 ∧
      rgbF (hue nn M) = some (r, g, b') ∧ col (c * pl a b M x y n) = (r, g, b') ∧ hlsF r g b' = some (hh, l, sa) ∧ Float64.isFinite (Float64.mul hh (Float64.ofInt M)) = true ∧ Flt.toInt Float64.truncOf (Float64.mul hh (Float64.ofInt M)) = ((pl a b M x y n : Nat) : Int) := by
  obtain ⟨j, k, nn, u1, u2, r, g, b', hh, l, sa, f1, f2, f3, f4, f5, f6, f7, f8⟩ := run_prep h ha hb hM hx hy
  exact ⟨j, k, nn, u1, u2, r, g, b', hh, l, sa, f1, f2, f3, f4, f5, f6, by rw [esc_run_len hla hlb]; exact f7, f8⟩
theorem run_same {m₀ u : Str → Option Value} {v1 v2 v3 v4 : Option Value} : ∀ z : Str, (∀ p ∈ ([] : List (Str × Value)), z ≠ p.1) → runStored.contains z = false →
    (fun y => if y = Str.ofString "b" then v1 else if y = Str.ofString "g" then v2 else if y = Str.ofString "r" then v3 else if y = Str.ofString "written" then v4 else if runStored.contains y = true then u y else m₀ y) z = m₀ z := by
  intro z _ h3
  have h4 := h3
  unfold runStored at h4
  simp only [List.contains_cons, List.contains_nil, Bool.or_false, Bool.or_eq_false_iff, beq_eq_false_iff_ne, ne_eq] at h4
  obtain ⟨a1, a2, a3, a4⟩ := h4
  dsimp only
  rw [if_neg a4, if_neg a3, if_neg a2, if_neg a1, h3]
  simp
theorem run_off {P Lt T : Addr} {oT oL oP : Obj} {news : List (Addr × Obj)} {los : List (Addr × Obj)} (hO : RunOff P Lt (los ++ news)) (hT : AllLt T (los ++ news)) (ha : ∀ q ∈ news, ∀ p ∈ los, q.1 < p.1) :
    ∀ q ∈ news, ∀ p ∈ (T, oT) :: (Lt, oL) :: (P, oP) :: los, q.1 ≠ p.1 := by
  intro q hq p hp
  rcases List.mem_cons.mp hp with rfl | hp
  · exact Nat.ne_of_lt (kst_ltOf hT q (List.mem_append_right _ hq))
  rcases List.mem_cons.mp hp with rfl | hp
  · exact hO.offL q (List.mem_append_right _ hq)
  rcases List.mem_cons.mp hp with rfl | hp
  · exact hO.offP q (List.mem_append_right _ hq)
  · exact Nat.ne_of_lt (ha q hq p hp)
theorem run_done {f : Nat → Nat} {c M n : Nat} {P Lt : Addr} {news : List (Addr × Obj)} {S : RunS} (h : RunOk f c M P Lt news n S) (hn : ¬ (n : Int) < (M : Int)) : RunOk f c M P Lt news M S := by
  have h1 := h.hi
  have e : n = M := by omega
  subst e
  exact h
theorem TkOk.more {n k : Nat} (h : TkOk n) : TkOk (n + k) := ⟨Nat.le_trans h.pos (Nat.le_add_right _ _)⟩
theorem TkOk.one {n : Nat} (h : TkOk n) : TkOk (n + 1) := h.more
set_option maxHeartbeats 8000000 in
theorem c_run (w mean mg mb) (hand : Int) (la lb : List Nat) (x y M c a b : Nat) (th t1 t2 tx ty tM : Tok) (h0 : 0 ≤ hand) (h5 : hand < 5) (hla : la.length ≤ 2) (hlb : lb.length ≤ 2)
    (ha : (escF (escTbl hand) la).length = a) (hb : (escF (escTbl hand) lb).length = b) (ha2 : a ≤ 12) (hb2 : b ≤ 12) (hM : LampsC M c) (hx : x < M) (hy : y < M) :
    CtrN w mean mg mb 104 [.int hand th, .str (escT [] la) t1, .str (escT [] lb) t2, .int (x : Int) tx, .int (y : Int) ty, .int (M : Int) tM] 2 24 (fun _ _ _ => True)
      (fun v own => ∃ T P Lt pvs lvs los n1 k1 k2, v = .ref T ∧ own = (T, tupOf [.ref P, .ref Lt] n1) :: (Lt, W.listOf (List.toArray lvs) k2) :: (P, W.listOf (List.toArray pvs) k1) :: los ∧ IntsAre pvs ((List.range M).map fun i => (pl a b M x y i : Int)) ∧ LightsAre (pl a b M x y) c M lvs los) := by
  w_top off
  k_with_none
  k_with "subscriptTail" => (k_here; (with_reducible show wpAny _ _ (subscriptTail _ _ (Value.ref _) (Value.int _ _)) _ _ _); first | ((with_reducible show wpAny _ _ (subscriptTail _ _ (Value.ref _) (Value.int (-1) _)) _ _ _); k_dflt (refine' item_m1 ?k1 ?k2 (by assumption) (by assumption) (by assumption) ?_ ?k6; (case k1 => k_asm); (case k2 => k_memK); (case k6 => with_unfolding_all rfl))) | ((with_reducible show wpAny _ _ (subscriptTail _ _ (Value.ref _) (Value.int (-2) _)) _ _ _); k_dflt (refine' item_m2 ?k1 ?k2 (by assumption) (by assumption) (by assumption) ?_ ?k6; (case k1 => k_asm); (case k2 => k_memK); (case k6 => with_unfolding_all rfl))) | ((rename Top _ _ _ _ _ _ => lT'); (with_unfolding_all refine' item_esc lT' ?k1 ?k2 ?k3 ?k6 ?q0 ?q1 ?q2 ?q3 ?q4 ?_; (case q0 => k_is); (case q1 => k_is); (case q2 => k_is); (case q3 => k_is); (case q4 => k_is); (case k1 => is_list); (case k2 => assumption); (case k3 => assumption); (case k6 => with_unfolding_all rfl)); intro fE hE' hK'))
  k_with "binaryOp Div int int" => (k_here; k_dflt (refine' div_hue ?k1 ?k2 ?k3 ?_; (case k1 => exact rfl); (case k2 => omega); (case k3 => omega)))
  k_with "binaryOp Mult float int" => (k_here; k_dflt (refine' mul_hue (by assumption) ?_))
  k_with "call type:int" => (k_here; k_dflt (refine' int_hue rfl (by assumption) ?_))
  k_with "call builtin:len" => (k_here; first | ((with_reducible show wpAny _ _ (call (Value.builtin "len") [Value.str _ _]) _ _ _); k_dflt (refine' len_run (by assumption) (by assumption) ?_)) | ((with_reducible show wpAny _ _ (call (Value.builtin "len") [Value.ref _]) _ _ _); k_dflt (refine' kst_len ?k1 ?k2 (by assumption) ?k4 ?_; (case k1 => k_asm); (case k2 => k_memK); (case k4 => omega))))
  k_with "binaryOp Mult str int" => (k_here; k_dflt (refine' mul_piece ?k1 (by assumption) (by assumption) ?_; (case k1 => (first | assumption | exact ⟨Nat.le_add_left _ _⟩))); intro tm' km' hk')
  k_with "binaryOp Add str str" => (k_here; k_dflt (refine' add_piece ?k1 (rep_le (by assumption) (by assumption)) (rep_le (by assumption) (by assumption)) ?_; (case k1 => (first | assumption | exact ⟨Nat.le_add_left _ _⟩))); intro tm' km' hk')
  k_with "call builtin:list.append" => (k_here; (rename Fr _ _ _ _ => lF'); (rename News _ _ _ _ => lN'); (rename RunOff _ _ _ => hO9); first | ((rename _ ∧ _ ∧ _ ∧ AllLt _ _ => q6); k_dflt (refine' append_lights lF' lN' hO9 q6.2.1 (by assumption) (by assumption) ?_); clear lF' lN'; intro h' F' N'; (try k_sweep)) | ((rename _ ∧ _ ∧ _ ∧ AllLt _ _ => q6); k_dflt (refine' append_places lF' lN' hO9 (by assumption) q6.2.2.1 (by assumption) (by assumption) ?_); clear lF' lN'; intro h' F' N'; (try k_sweep)))
  k_with "exec While" => (k_here; (rename Fr _ _ _ _ => lF'); (rename News _ _ _ _ => lN'); (rename _ ∧ _ ∧ _ ∧ _ ∧ AllLt _ _ => q1); (rename Made9 ((_, tupOf _ 0) :: _) _ => q2); (rename Made9 ((_, W.listOf _ 0) :: _) _ => q3); k_dflt (refine' run_while2 (by assumption) (by assumption) (by assumption) (by assumption) lF' lN' ?hM ?o1 ?o2 ?o3 ?o4 ?o5 ?o6 ?o7 ?o8 ?o9 ?turn ?hE; (case o7 => ((have kM := kstMark); k_all)); (case o8 => ((have kM := kstMark); k_all)); (case o9 => exact q1.2.2.1); (case hM => omega); (case o1 => exact q1.1); (case o2 => exact q1.2.1); (case o3 => exact q3.lt9 _ (.head _) _ (.head _)); (case o4 => exact q2.lt9 _ (.tail _ (.head _)) _ (.head _)); (case o5 => exact fun q hq => q3.lt9 q (.tail _ (.tail _ hq)) _ (.head _)); (case o6 => exact fun q hq => q2.lt9 q (.tail _ (.tail _ (.tail _ hq))) _ (.head _)); (case hE => passes_own)); clear lF' lN'; intro n' S' u' h' tk' hS' hO' F7' N7'; (have kM' := kstMark); (obtain ⟨j, k, nn, u1, u2, r, g, b', hh, l, sa, f1, f2, f3, f4, f5, f6, f7, f8, f9, f10, f11, f12, f13⟩ := run_prep2 hS' (by assumption) (by assumption) (by assumption) (by assumption) (by assumption) (by assumption) (by assumption)); (have hoff' := RunOk.off hS'); (have hhi' := RunOk.hi hS'); (have hpv' := RunOk.small hS' (by assumption)); (have hlv' := hpv'.2); (have hpw' := hpv'.1); clear hpv'; (try k_fold))
  k_with "callWith ref" => (k_here; k_dflt (refine' callWith_K ?k1 ?k2 ?_; (case k1 => k_asm); (case k2 => assumption); k_whole))
  k_with "execs cons" => (k_here; (fail_if_success (fail_if_success k_gentoks)); (refine' gen_toks ?a ?_); (case a => (first | assumption | exact ⟨Nat.le_add_left _ _⟩ | ((rename TkOk _ => hTk); exact ⟨Nat.le_trans hTk.pos (Nat.le_add_right _ _)⟩) | (dsimp only; (rename TkOk _ => hTk); (have hTk1 := hTk.pos); exact ⟨by omega⟩))); intro tk htk)
  k_with "call ref" => (k_here; first | ((with_reducible show wpAny _ _ (call (Value.ref 28) _) _ _ _); k_dflt (refine' toks_in ?kT (Ctr.use (c_hsv _ _ _ _ _ _ _ _ _ _ _ (by assumption)) ?k1 ?k2 ?k3 ?k4 ?k5 ?kK ?kP ?kd ?ku ?_); (case kT => (first | assumption | exact ⟨Nat.le_add_left _ _⟩)); (case k1 => k_asm); (case k2 => k_asm); (case k3 => k_asm); (case k4 => k_asm); (case k5 => k_asm); (case kK => exact rfl); (case kP => trivial); (case kd => ktr_room); (case ku => ktr_units)); intro v9 own9 h9 tk9 F9 N9 l9 p9 hT9; (obtain ⟨D9, t91, t92, t93, e91, e92⟩ := p9); subst e91; subst e92; (have m9' := Made9.mk l9); (have l9a := l9 _ (.head _) _ (.head _)); (have l9b := l9 _ (.tail _ (.head _)) _ (.head _)); (try dsimp only at l9a); (try dsimp only at l9b); (try simp only [List.cons_append, List.nil_append] at N9); (try dsimp only at hT9); (try dsimp only); (try k_sweep); (try k_fold)) | ((with_reducible show wpAny _ _ (call (Value.ref 21) _) _ _ _); k_dflt (refine' CtrG.use (c_hls _ _ _ _ _ _ _ _ _ _ _ _ _ (by assumption)) ?k1 ?k2 ?k3 ?k4 ?k5 ?kK ?kP ?kd ?ku ?_; (case k1 => k_asm); (case k2 => k_asm); (case k3 => k_asm); (case k4 => k_asm); (case k5 => k_asm); (case kK => exact rfl); (case kP => (first | assumption | exact ⟨Nat.le_add_left _ _⟩)); (case kd => ktr_room); (case ku => ktr_units)); intro v9 own9 h9 tk9 F9 N9 l9 p9; (obtain ⟨D9, t91, t92, t93, b91, b92, b93, e91, e92⟩ := p9); subst e91; subst e92; (have l9c := l9 _ (.tail _ (.tail _ (.tail _ (.head _)))) _ (.head _)); (try dsimp only at l9c); (try simp only [List.cons_append, List.nil_append] at N9); (try dsimp only); (try k_sweep); (try k_fold)) | ((rename EscC _ _ _ _ _ _ => hE9); k_dflt (refine' toks_in ?kT (Ctr.use (hE9 _ _ ?kl) ?k1 ?k2 ?k3 ?k4 ?k5 ?kK ?kP ?kd ?ku ?_); (case kl => exact Nat.le_trans (by rw [List.length_append]; exact Nat.add_le_add (rep_le (by assumption) (by assumption)) (rep_le (by assumption) (by assumption))) (by decide)); (case kT => (first | assumption | exact ⟨Nat.le_add_left _ _⟩)); (case k1 => k_asm); (case k2 => k_asm); (case k3 => k_asm); (case k4 => k_asm); (case k5 => k_asm); (case kK => exact rfl); (case kP => (first | assumption | exact ⟨Nat.le_add_left _ _⟩)); (case kd => ktr_room); (case ku => ktr_units)); intro v9 own9 h9 tk9 F9 N9 l9 p9 hT9; (obtain ⟨t91, e91, e92⟩ := p9); subst e91; subst e92; (try simp only [List.cons_append, List.nil_append] at N9); (try dsimp only at hT9); (try dsimp only); (try k_sweep); (try k_fold)))
  unfold CtrN
  k_fill
  intro dp un gd cn cs a9 ccd cl outer A₀ base h₀ L m news s Q E B F X N T hk hpre hd hu hret
  have hMle := (lamps_le hM).2.1
  have hMlo := (lamps_le hM).1
  have hAB : RunAB a b := ⟨rfl, rfl⟩
  obtain ⟨rx, gx, bx, hcx, hrx⟩ := start_hue hM hx
  obtain ⟨ry, gy, by', hcy, hry⟩ := start_hue hM hy
  refine wpAny_call ?_
  k_dflt cell_enter
  repeat (first | (k_unfold; (try dsimp only)) | walk1 | (dsimp only; walk1))
  · (rename _ ∧ _ ∧ _ ∧ AllLt _ _ => q6)
    exact run_end (by assumption) (by assumption) (by assumption) (by assumption) (by assumption) (by assumption) (.tail _ (.tail _ (.tail _ (.head _)))) (.tail _ (.tail _ (.tail _ (.tail _ (.head _))))) (.tail _ (.head _)) (fun p hp => .tail _ (.tail _ (.tail _ (.tail _ (.tail _ hp))))) run_same (Nat.ne_of_gt q6.2.1) (Nat.ne_of_gt q6.2.2.1) (fun q hq => kst_ltOf q6.2.2.2 q (List.mem_append_right _ hq))
  repeat (first | (k_unfold; (try dsimp only)) | walk1 | (dsimp only; walk1))
  all_goals (
    (rename RunOk _ _ _ _ _ _ _ _ => hS9)
    (rename RunOff _ _ _ => hO9)
    (rename _ ∧ _ ∧ AllLt _ _ => q6)
    have hD9 := run_done hS9 (by assumption)
    exact hret _ ((_, tupOf [_, _] 0) :: (_, W.listOf _ _) :: (_, W.listOf _ _) :: _) _ _ (by assumption) (by assumption) (run_off hO9 q6.2.2 hS9.above) ⟨_, _, _, _, _, _, _, _, _, rfl, rfl, hD9.iar, hD9.lights⟩)
end
section
open PySem PySem.W PySem.Calls PyProof.Rows PyProof.V PySem.Spec
theorem hand_cases {hand : Int} (h0 : 0 ≤ hand) (h5 : hand < 5) : hand = 0 ∨ hand = 1 ∨ hand = 2 ∨ hand = 3 ∨ hand = 4 := by omega
theorem wgt_one {hand : Int} (h0 : 0 ≤ hand) (h5 : hand < 5) {k : Nat} (hk : k = 97 ∨ k = 38 ∨ k = 60 ∨ k = 62 ∨ k = 34) : wgt hand k = ((escF (escTbl hand) [k]).length : Int) ∧ (escF (escTbl hand) [k]).length ≤ 6 := by
  rcases hand_cases h0 h5 with rfl | rfl | rfl | rfl | rfl <;> rcases hk with rfl | rfl | rfl | rfl | rfl <;> decide +kernel
theorem wsum {hand : Int} (h0 : 0 ≤ hand) (h5 : hand < 5) : ∀ l : List Nat, (∀ k ∈ l, k = 97 ∨ k = 38 ∨ k = 60 ∨ k = 62 ∨ k = 34) → (l.map (wgt hand)).sum = ((escF (escTbl hand) l).length : Int) ∧ (escF (escTbl hand) l).length ≤ 6 * l.length
  | [], _ => by rw [escF_nil]; simp
  | k :: l, h => by
    have h1 := wgt_one h0 h5 (h k (.head _))
    have h2 := wsum h0 h5 l fun x hx => h x (.tail _ hx)
    have e : escF (escTbl hand) (k :: l) = escF (escTbl hand) [k] ++ escF (escTbl hand) l := escF_append _ [k] l
    rw [e, List.length_append, List.map_cons, List.sum_cons, h1.1, h2.1, List.length_cons]
    refine ⟨by push_cast; rfl, ?_⟩
    have := h1.2
    have := h2.2
    omega
/-- how long hand's escape makes the piece -/
noncomputable def wlen (hand c : Int) : Nat := (escF (escTbl hand) (pieceL c)).length
theorem wlen_le {hand : Int} (h0 : 0 ≤ hand) (h5 : hand < 5) (c : Int) : wlen hand c ≤ 12 := by
  have h1 := (wsum h0 h5 (pieceL c) fun k hk => pieceL_mem k hk).2
  have h2 := piece_len c
  unfold wlen
  omega
theorem c_longN (w mean mg mb) (c hand : Int) (tk th : Tok) (h0 : 0 ≤ hand) (h5 : hand < 5) :
    Ctr w mean mg mb 97 [.str (escT [] (pieceL c)) tk, .int hand th] 1 8 (fun _ _ _ => True)
      (fun v own => ∃ t', v = .int (wlen hand c : Int) t' ∧ own = []) := by
  have h := c_long w mean mg mb c hand tk th h0 h5
  rw [(wsum h0 h5 (pieceL c) fun k hk => pieceL_mem k hk).1] at h
  exact h
end
section
open PySem PySem.W PySem.Calls PyProof.Rows
theorem add_comm_fin {x y : UInt64} (hx : Float64.isFinite x = true) (hy : Float64.isFinite y = true) : Float64.add x y = Float64.add y x := by
  unfold Float64.isFinite at hx hy
  unfold Float64.add
  cases e1 : Float64.decode x <;> cases e2 : Float64.decode y <;> rw [e1] at hx <;> rw [e2] at hy <;> first | (simp at hx; done) | (simp at hy; done) | skip
  rename_i a m e b k f
  have h1 : Float64.align b k f a m e = ((Float64.align a m e b k f).2.1, (Float64.align a m e b k f).1, (Float64.align a m e b k f).2.2) := by
    simp only [Float64.align, Int.min_comm f e]
  simp only [h1]
  generalize Float64.align a m e b k f = z
  obtain ⟨p, q, g⟩ := z
  dsimp only
  rw [Int.add_comm q p, Bool.and_comm b a]
theorem mid_comm {x y : UInt64} (hx : Float64.isFinite x = true) (hy : Float64.isFinite y = true) : mid x y = mid y x := by
  unfold mid
  rw [add_comm_fin hx hy]
theorem col_fin : ∀ p : Nat, p < 32 → Float64.isFinite (col p).1 = true ∧ Float64.isFinite (col p).2.1 = true ∧ Float64.isFinite (col p).2.2 = true := by decide +kernel
noncomputable def greyO (p q : Nat) : Option (UInt64 × UInt64 × UInt64) := hlsF (mid (col p).1 (col q).1) (mid (col p).2.1 (col q).2.1) (mid (col p).2.2 (col q).2.2)
theorem greyO_comm {p q : Nat} (hp : p < 32) (hq : q < 32) : greyO p q = greyO q p := by
  obtain ⟨a1, a2, a3⟩ := col_fin p hp
  obtain ⟨b1, b2, b3⟩ := col_fin q hq
  unfold greyO
  rw [mid_comm a1 b1, mid_comm a2 b2, mid_comm a3 b3]
noncomputable def greyOk (p q : Nat) : Bool := match greyO p q with
    | some (h, l, s) => (feq s 0 && (feq l 4602678819172646912 && feq h 0)) == (q == p + 16)
    | none => false
noncomputable def greyRow : Nat → Nat → Bool
  | _, 0 => true
  | q, k + 1 => greyOk (q - k) q && greyRow q k
noncomputable def greyRows (a b : Nat) : Bool := (List.range b).all fun i => greyRow (a + i) (a + i + 1)
theorem greys_0 : greyRows 0 8 = true := by decide +kernel
theorem greys_1 : greyRows 8 3 = true := by decide +kernel
theorem greys_2 : greyRows 11 3 = true := by decide +kernel
theorem greys_3 : greyRows 14 2 = true := by decide +kernel
theorem greys_4 : greyRows 16 2 = true := by decide +kernel
theorem greys_5 : greyRows 18 2 = true := by decide +kernel
theorem greys_6 : greyRows 20 1 = true := by decide +kernel
theorem greys_7 : greyRows 21 1 = true := by decide +kernel
theorem greys_8 : greyRows 22 1 = true := by decide +kernel
theorem greys_9 : greyRows 23 1 = true := by decide +kernel
theorem greys_10 : greyRows 24 1 = true := by decide +kernel
theorem greys_11 : greyRows 25 1 = true := by decide +kernel
theorem greys_12 : greyRows 26 1 = true := by decide +kernel
theorem greys_13 : greyRows 27 1 = true := by decide +kernel
theorem greys_14 : greyRows 28 1 = true := by decide +kernel
theorem greys_15 : greyRows 29 1 = true := by decide +kernel
theorem greys_16 : greyRows 30 1 = true := by decide +kernel
theorem greys_17 : greyRows 31 1 = true := by decide +kernel
theorem greyRow_at {q : Nat} : ∀ {k : Nat}, greyRow q k = true → ∀ j < k, greyOk (q - j) q = true
  | 0, _, j, hj => absurd hj (Nat.not_lt_zero _)
  | k + 1, h, j, hj => by
    unfold greyRow at h
    rw [Bool.and_eq_true] at h
    by_cases e : j = k
    · rw [e]; exact h.1
    · exact greyRow_at h.2 j (by omega)
theorem greyRows_at {a b q : Nat} (h : greyRows a b = true) (h1 : a ≤ q) (h2 : q < a + b) : greyRow q (q + 1) = true := by
  have := List.all_eq_true.mp h (q - a) (List.mem_range.mpr (by omega))
  have e : a + (q - a) = q := by omega
  rw [e] at this
  exact this
theorem greyRows_join {a b c d : Nat} (hb : a + b = d) (h1 : greyRows a b = true) (h2 : greyRows d c = true) : greyRows a (b + c) = true := by
  subst hb
  unfold greyRows at *
  rw [List.range_add, List.all_append, h1, List.all_map]
  simpa [Function.comp_def, Nat.add_assoc] using h2
theorem greys_all : greyRows 0 32 = true :=
  greyRows_join rfl (greyRows_join rfl (greyRows_join rfl (greyRows_join rfl (greyRows_join rfl (greyRows_join rfl (greyRows_join rfl (greyRows_join rfl (greyRows_join rfl (greyRows_join rfl (greyRows_join rfl (greyRows_join rfl (greyRows_join rfl (greyRows_join rfl (greyRows_join rfl (greyRows_join rfl (greyRows_join rfl (greys_0) greys_1) greys_2) greys_3) greys_4) greys_5) greys_6) greys_7) greys_8) greys_9) greys_10) greys_11) greys_12) greys_13) greys_14) greys_15) greys_16) greys_17
theorem grey_row {q : Nat} (hq : q < 32) : greyRow q (q + 1) = true := greyRows_at greys_all (Nat.zero_le q) (by omega)
theorem grey_le {p q : Nat} (hq : q < 32) (h : p ≤ q) : greyOk p q = true := by
  have e : p = q - (q - p) := by omega
  rw [e]
  exact greyRow_at (grey_row hq) (q - p) (by omega)
theorem greyB_turn (h l s : UInt64) : greyB h l s = (feq s 0 && (feq l 4602678819172646912 && feq h 0)) := by
  unfold greyB
  cases feq h 0 <;> cases feq l 4602678819172646912 <;> cases feq s 0 <;> rfl
/-- two lights make grey when they lie half a turn apart -/
theorem grey_any {p q : Nat} (hp : p < 32) (hq : q < 32) : ∃ h l s, greyO p q = some (h, l, s) ∧ greyB h l s = (decide (q = (p + 16) % 32)) := by
  rcases Nat.le_total p q with hle | hle
  · have h1 := grey_le hq hle
    unfold greyOk at h1
    cases e : greyO p q with
    | none => rw [e] at h1; cases h1
    | some x =>
      obtain ⟨h, l, s⟩ := x
      rw [e] at h1
      refine ⟨h, l, s, rfl, ?_⟩
      have h2 := eq_of_beq h1
      rw [greyB_turn, h2]
      by_cases h3 : q = p + 16
      · rw [h3]; simp; omega
      · have : q ≠ (p + 16) % 32 := by omega
        simp [h3, this]
  · have h1 := grey_le hp hle
    rw [greyO_comm hp hq]
    unfold greyOk at h1
    cases e : greyO q p with
    | none => rw [e] at h1; cases h1
    | some x =>
      obtain ⟨h, l, s⟩ := x
      rw [e] at h1
      refine ⟨h, l, s, rfl, ?_⟩
      have h2 := eq_of_beq h1
      rw [greyB_turn, h2]
      by_cases h3 : p = q + 16
      · have : q = (p + 16) % 32 := by omega
        simp [h3]; omega
      · have : q ≠ (p + 16) % 32 := by omega
        simp [h3, this]
end
section
open PySem PySem.W PySem.Calls PyProof.Rows PyProof.V PySem.Spec
abbrev cellsO (c0 c1 c2 c3 c4 c5 : Int) (t0 t1 t2 t3 t4 t5 : Tok) : Obj := W.listOf #[.int c0 t0, .int c1 t1, .int c2 t2, .int c3 t3, .int c4 t4, .int c5 t5] 0
structure CellsOk (c0 c1 c2 c3 c4 c5 : Int) : Prop where
  h0 : 0 ≤ c0
  h1 : 0 ≤ c1
  h2 : 0 ≤ c2
  h3 : 0 ≤ c3
  h4 : 0 ≤ c4
  h5 : 0 ≤ c5
section
variable {prog : Program} {w : World} {A : Around} {E : Value → Shared → Prop} {s : Shared} {env : Env} {h₀ : Heap} {p1 p2 pt : Pos} {kk : Nat} {body : List Stmt} {Q : Flow → Shared → Prop}
/-- what holds at the head of the loop over the script -/
noncomputable def CellsJ (lc l : Addr) (o : Obj) (news : List (Addr × Obj)) (m₀ : Str → Option Value) (_i : Nat) (m : Str → Option Value) (nx : List (Addr × Obj)) : Prop :=
  ∃ c0 c1 c2 c3 c4 c5 t0 t1 t2 t3 t4 t5, nx = (l, o) :: (lc, cellsO c0 c1 c2 c3 c4 c5 t0 t1 t2 t3 t4 t5) :: news ∧ CellsOk c0 c1 c2 c3 c4 c5 ∧ ∃ u : Str → Option Value, m = fun y => if y = Str.ofString "x" then u y else if y = Str.ofString "k" then u y else m₀ y
theorem cells_loop {l lc : Addr} {c : Nat} {vs : List Value} {m₀ : Str → Option Value} {news : List (Addr × Obj)} {xs : List Int} {c0 c1 c2 c3 c4 c5 : Int} {t0 t1 t2 t3 t4 t5 : Tok}
    (hh : A.handled = none) (hx1 : env.kindOf (Str.ofString "k") = some .local) (hx2 : env.kindOf (Str.ofString "x") = some .local)
    (hp : (env.scope.kind == .class || (env.scope.kind == .module && env.locals != env.globals)) = false)
    (F : Fr h₀ env.locals s.heap m₀) (N : News h₀ env.locals s.heap ((l, W.listOf vs.toArray c) :: (lc, cellsO c0 c1 c2 c3 c4 c5 t0 t1 t2 t3 t4 t5) :: news)) (hv : IntsAre vs xs) (hc : CellsOk c0 c1 c2 c3 c4 c5)
    (turn : ∀ i t x tx c0 c1 c2 c3 c4 c5 t0 t1 t2 t3 t4 t5 h tk e oe it oit, OwnOff [(e, oe), (it, oit)] (l :: lc :: news.map (·.1)) → CellsOk c0 c1 c2 c3 c4 c5 →
      Fr h₀ env.locals h (fun y => if y = Str.ofString "x" then some (.int x tx) else if y = Str.ofString "k" then some (.int ((i : Nat) : Int) t) else m₀ y) → News h₀ env.locals h ((l, W.listOf vs.toArray c) :: (lc, cellsO c0 c1 c2 c3 c4 c5 t0 t1 t2 t3 t4 t5) :: (news ++ [(e, oe), (it, oit)])) →
      wpAny (model prog w) A (execs body env) (InvPostN h₀ env.locals (CellsJ lc l (W.listOf vs.toArray c) news m₀ (i + 1)) [(e, oe), (it, oit)] (l :: lc :: news.map (·.1)) { s with heap := h, toks := tk } Q) E { s with heap := h, toks := tk })
    (done : ∀ c0 c1 c2 c3 c4 c5 t0 t1 t2 t3 t4 t5 (u : Str → Option Value) h tk, CellsOk c0 c1 c2 c3 c4 c5 → Fr h₀ env.locals h (fun y => if y = Str.ofString "x" then u y else if y = Str.ofString "k" then u y else m₀ y) → News h₀ env.locals h ((l, W.listOf vs.toArray c) :: (lc, cellsO c0 c1 c2 c3 c4 c5 t0 t1 t2 t3 t4 t5) :: news) → Q .next { s with heap := h, toks := tk })
    (hE : PassesOwn (model prog w) A env E) :
    wpAny (model prog w) A (call (.type "enumerate") [.ref l]) (fun xv s₁ => wpAny (model prog w) A (pyIter xv) (fun it s₂ => LoopT prog w A h₀ env (Str.ofString "k") p1 (Str.ofString "x") p2 kk pt body Q E it s₂) E s₁) E s := by
  refine enum_loop (vs := vs) (c := c) (CellsJ lc l (W.listOf vs.toArray c) news m₀) hh hx1 hx2 hp F N ?_ ?_ ?_ ?_ hE
  · rintro i m nx ⟨_, _, _, _, _, _, _, _, _, _, _, _, rfl, _, _⟩
    exact .head _
  · refine ⟨_, _, _, _, _, _, _, _, _, _, _, _, rfl, hc, m₀, ?_⟩
    funext y
    by_cases h1 : y = Str.ofString "x"
    · rw [if_pos h1]
    · by_cases h2 : y = Str.ofString "k"
      · rw [if_neg h1, if_pos h2]
      · rw [if_neg h1, if_neg h2]
  · rintro i t v m₁ nx h tk e oe it oit hi hadr hoff ⟨_, _, _, _, _, _, _, _, _, _, _, _, rfl, hc', u, rfl⟩ F₁ N₁
    obtain ⟨x, tx, rfl, _⟩ := IntsAre.at hv i v hi
    have e1 : (fun y => if y = Str.ofString "x" then some (Value.int x tx) else if y = Str.ofString "k" then some (.int ((i : Nat) : Int) t) else (fun y => if y = Str.ofString "x" then u y else if y = Str.ofString "k" then u y else m₀ y) y) = (fun y => if y = Str.ofString "x" then some (.int x tx) else if y = Str.ofString "k" then some (.int ((i : Nat) : Int) t) else m₀ y) := by
      funext y
      by_cases h1 : y = Str.ofString "x"
      · rw [if_pos h1, if_pos h1]
      · by_cases h2 : y = Str.ofString "k"
        · rw [if_neg h1, if_neg h1, if_pos h2, if_pos h2]
        · simp only [if_neg h1, if_neg h2]
    rw [e1] at F₁
    exact turn i t x tx _ _ _ _ _ _ _ _ _ _ _ _ h tk e oe it oit hoff hc' F₁ N₁
  · rintro m₁ nx h tk ⟨_, _, _, _, _, _, _, _, _, _, _, _, rfl, hc', u, rfl⟩ F₁ N₁
    exact done _ _ _ _ _ _ _ _ _ _ _ _ u h tk hc' F₁ N₁
theorem mod_to {a b c : Int} {t u : Tok} {Q : Value → Shared → Prop} (hc : a.fmod b = c) (hb : b ≠ 0) (h : Q (.int c s.toks) { s with toks := s.toks + 1 }) :
    wpAny (model prog w) A (binaryOp .Mod (.int a t) (.int b u)) Q E s := by
  subst hc
  exact mod_int' hb h
end
theorem cells_end {L l lc e it : Addr} {o oe oit : Obj} {news : List (Addr × Obj)} {m₀ : Str → Option Value} {vx vk : Value} {c0 c1 c2 c3 c4 c5 : Int} {t0 t1 t2 t3 t4 t5 : Tok} {h₀ h' : Heap} {s : Shared} {tk j : Nat}
    (F : Fr h₀ L h' (fun y => if y = Str.ofString "x" then some vx else if y = Str.ofString "k" then some vk else m₀ y)) (N : News h₀ L h' ((l, o) :: (lc, cellsO c0 c1 c2 c3 c4 c5 t0 t1 t2 t3 t4 t5) :: (news ++ [(e, oe), (it, oit)]))) (hc : CellsOk c0 c1 c2 c3 c4 c5) :
    InvEndN h₀ L (CellsJ lc l o news m₀ j) [(e, oe), (it, oit)] (l :: lc :: news.map (·.1)) s { s with heap := h', toks := tk } := by
  refine ⟨h', tk, _, _, (l, o) :: (lc, cellsO c0 c1 c2 c3 c4 c5 t0 t1 t2 t3 t4 t5) :: news, rfl, F, N, fun p hp => ?_, fun p hp => .tail _ (.tail _ (List.mem_append.mpr (.inr hp))), rfl, _, _, _, _, _, _, _, _, _, _, _, _, rfl, hc, fun y => if y = Str.ofString "x" then some vx else some vk, ?_⟩
  · rcases List.mem_cons.mp hp with rfl | hp
    · exact .head _
    rcases List.mem_cons.mp hp with rfl | hp
    · exact .tail _ (.head _)
    exact .tail _ (.tail _ (List.mem_append.mpr (.inl hp)))
  · funext y
    by_cases h1 : y = Str.ofString "x"
    · simp only [if_pos h1]
    · simp only [if_neg h1]
theorem add_fmod_nonneg {c x b : Int} (h : 0 ≤ c) (hb : 0 < b) : 0 ≤ c + x.fmod b := by
  have := Int.fmod_nonneg_of_pos x (b := b) hb
  omega
theorem six_cases (i : Nat) : (i : Int).fmod 6 = 0 ∨ (i : Int).fmod 6 = 1 ∨ (i : Int).fmod 6 = 2 ∨ (i : Int).fmod 6 = 3 ∨ (i : Int).fmod 6 = 4 ∨ (i : Int).fmod 6 = 5 := by
  have h1 := Int.fmod_nonneg_of_pos (i : Int) (b := 6) (by decide)
  have h2 := Int.fmod_lt_of_pos (i : Int) (b := 6) (by decide)
  omega
set_option maxHeartbeats 8000000 in
theorem c_cells (w mean mg mb) (sc : Addr) (vs : List Value) (xs : List Int) (hv : IntsAre vs xs) (hlen : xs.length ≤ 63) :
    Ctr w mean mg mb 85 [.ref sc] 1 16 (fun h _ _ => h.IsList sc vs.toArray)
      (fun v own => ∃ D c0 c1 c2 c3 c4 c5 t0 t1 t2 t3 t4 t5, v = .ref D ∧ own = [(D, cellsO c0 c1 c2 c3 c4 c5 t0 t1 t2 t3 t4 t5)] ∧ CellsOk c0 c1 c2 c3 c4 c5) := by
  w_top off
  k_with_none
  k_with "exec For Tuple Call cons nil" => (k_here; (rename Fr _ _ _ _ => lF'); k_dflt (refine' For_enum lF' ?_; k_whole))
  k_with "binaryOp Mod int int" => (k_here; refine mod_to (by assumption) (by decide) ?_)
  unfold Ctr
  k_fill
  intro dp un gd cn cs a9 ccd cl outer A₀ base h₀ L m news s Q E B F X N T hk hpre hd hu hret
  refine wpAny_call ?_
  k_dflt cell_enter
  repeat' (first | (k_unfold; (try dsimp only)) | walk1 | (dsimp only; walk1))
  all_goals (
  (rename Fr _ _ _ _ => lF')
  (rename News _ _ _ _ => lN')
  (rename IntsAre _ (List.take _ _) => lI')
  k_dflt (refine' cells_loop ?hh ?hx1 ?hx2 ?hp lF' lN' lI' ?hc ?turn ?done ?hE)
  case hh => exact rfl
  case hx1 => exact rfl
  case hx2 => exact rfl
  case hp => exact rfl
  case hc => constructor <;> decide
  case hE => passes_own
  case turn =>
    clear lF' lN' lI'
    intro i t x tx c0 c1 c2 c3 c4 c5 t0 t1 t2 t3 t4 t5 h tk e oe it oit hoff hc F7 N7
    have kM := kstMark
    rcases six_cases i with h6 | h6 | h6 | h6 | h6 | h6
    all_goals (
      repeat (first | (k_unfold; (try dsimp only)) | walk1 | (dsimp only; walk1))
      exact cells_end (by assumption) (by assumption) (by
        constructor
        · first | exact hc.h0 | exact add_fmod_nonneg hc.h0 (by decide)
        · first | exact hc.h1 | exact add_fmod_nonneg hc.h1 (by decide)
        · first | exact hc.h2 | exact add_fmod_nonneg hc.h2 (by decide)
        · first | exact hc.h3 | exact add_fmod_nonneg hc.h3 (by decide)
        · first | exact hc.h4 | exact add_fmod_nonneg hc.h4 (by decide)
        · first | exact hc.h5 | exact add_fmod_nonneg hc.h5 (by decide)))
  case done =>
    clear lF' lN' lI'
    intro c0 c1 c2 c3 c4 c5 t0 t1 t2 t3 t4 t5 u h tk hc F7 N7
    have kM := kstMark
    try k_fold
    repeat (first | (k_unfold; (try dsimp only)) | walk1 | (dsimp only; walk1))
    exact hret _ [(_, _)] _ _ (by assumption) (cb_drop (by assumption) (fun p hp => .tail _ hp)) (own_one (by assumption)) ⟨_, _, _, _, _, _, _, _, _, _, _, _, _, rfl, rfl, hc⟩)
end
section
open PySem PySem.W PySem.Calls PyProof.Rows PyProof.V PySem.Spec
noncomputable def lawDef : Stmt := PySem.Challenge.rw_tr0037_01.prog.main.body.getLast?.getD (.Pass default)
noncomputable def lawStmts : List Stmt := match lawDef with | .FunctionDef _ _ body _ _ _ _ _ _ _ => body | _ => []
noncomputable def lawScope : Scope := match lawDef with | .FunctionDef _ _ _ _ _ _ scope _ _ _ => scope | _ => default
noncomputable def lawRest1 : List Stmt := lawStmts.drop 10
noncomputable def lawRest2 : List Stmt := lawStmts.drop 13
/-- the power, the lamps and half of them -/
structure PowIs (pw M c H : Nat) : Prop where
  cases : (pw = 0 ∧ M = 8 ∧ c = 4 ∧ H = 4) ∨ (pw = 1 ∧ M = 16 ∧ c = 2 ∧ H = 8) ∨ (pw = 2 ∧ M = 32 ∧ c = 1 ∧ H = 16)
theorem PowIs.lt {pw M c H : Nat} (h : PowIs pw M c H) : pw < 3 := by
  rcases h.cases with ⟨rfl, rfl, rfl, rfl⟩ | ⟨rfl, rfl, rfl, rfl⟩ | ⟨rfl, rfl, rfl, rfl⟩ <;> decide
theorem PowIs.lamps {pw M c H : Nat} (h : PowIs pw M c H) : LampsC M c := by
  rcases h.cases with ⟨rfl, rfl, rfl, rfl⟩ | ⟨rfl, rfl, rfl, rfl⟩ | ⟨rfl, rfl, rfl, rfl⟩
  · exact .inl ⟨rfl, rfl⟩
  · exact .inr (.inl ⟨rfl, rfl⟩)
  · exact .inr (.inr ⟨rfl, rfl⟩)
theorem PowIs.eqM {pw M c H : Nat} (h : PowIs pw M c H) : M = 8 * 2 ^ pw := by
  rcases h.cases with ⟨rfl, rfl, rfl, rfl⟩ | ⟨rfl, rfl, rfl, rfl⟩ | ⟨rfl, rfl, rfl, rfl⟩ <;> rfl
theorem PowIs.eqH {pw M c H : Nat} (h : PowIs pw M c H) : H = 4 * 2 ^ pw := by
  rcases h.cases with ⟨rfl, rfl, rfl, rfl⟩ | ⟨rfl, rfl, rfl, rfl⟩ | ⟨rfl, rfl, rfl, rfl⟩ <;> rfl
theorem PowIs.half {pw M c H : Nat} (h : PowIs pw M c H) : M = 2 * H := by
  rcases h.cases with ⟨rfl, rfl, rfl, rfl⟩ | ⟨rfl, rfl, rfl, rfl⟩ | ⟨rfl, rfl, rfl, rfl⟩ <;> rfl
theorem PowIs.facts {pw M c H : Nat} (h : PowIs pw M c H) : 8 ≤ M ∧ M ≤ 32 ∧ 2 < H ∧ 0 < c ∧ c * M = 32 ∧ c * H = 16 := by
  rcases h.cases with ⟨rfl, rfl, rfl, rfl⟩ | ⟨rfl, rfl, rfl, rfl⟩ | ⟨rfl, rfl, rfl, rfl⟩ <;> decide
theorem PowIs.ok {pw M c H : Nat} (h : PowIs pw M c H) : LampsOk (M : Int) := ⟨Int.ofNat_le.mpr (Nat.le_trans (by decide) h.facts.1), Int.ofNat_le.mpr h.facts.2.1⟩
theorem PowIs.four {pw M c H : Nat} (h : PowIs pw M c H) : 2 + pw ≤ 4 := Nat.add_le_add_left (Nat.le_of_lt_succ h.lt) 2
/-- the places' list -/
structure PlAre (f : Nat → Nat) (M : Nat) (pvs : List Value) : Prop where
  are : IntsAre pvs ((List.range M).map fun i => (f i : Int))
section
variable {prog : Program} {w : World} {A : Around} {E : Value → Shared → Prop} {s : Shared} {env : Env} {h₀ : Heap} {x : Str} {px : Pos} {body : List Stmt} {Q : Flow → Shared → Prop}
theorem item_pl {L : Addr} {news : List (Addr × Obj)} {value slice : PySem.Expr} {l : Addr} {vs : List Value} {c M : Nat} {f : Nat → Nat} {j : Int} {u : Tok} {Q : Value → Shared → Prop} (N : News h₀ L s.heap news) (hm : (l, W.listOf vs.toArray c) ∈ news) (hI : PlAre f M vs) (h0 : 0 ≤ j) (h1 : j < (M : Int)) (hM : M ≤ 32)
    (h : ∀ t, Q (.int (f j.toNat : Int) t) s) (hs : subscripted slice false (.ref l) (.int j u) = operate [.ref l, .int j u] (getItem (.ref l) (.int j u)) := by with_unfolding_all rfl) :
    wpAny (model prog w) A (subscriptTail value slice (.ref l) (.int j u)) Q E s := by
  obtain ⟨t, ht⟩ := IntsAre.get hI.are j.toNat (f j.toNat : Int) (by rw [List.getElem?_map, List.getElem?_range (by omega)]; rfl)
  exact item_litK ⟨_, (N _ hm).1, rfl, c, rfl⟩ h0 (by omega) ht (h t) hs
end
end
section
open PySem PySem.W PySem.Calls PyProof.Rows PyProof.V PySem.Spec
theorem fmod_nat {z : Int} {M : Nat} : z.fmod (M : Int) = z % (M : Int) := Int.fmod_eq_emod_of_nonneg _ (Int.natCast_nonneg M)
theorem pl_step {A B M x y : Nat} (n : Nat) : (pl A B M x y (n + 2) : Int) = ((A : Int) * (pl A B M x y (n + 1) : Int) + (B : Int) * (pl A B M x y n : Int)).fmod (M : Int) := by
  rw [fmod_nat]
  conv => lhs; unfold pl
  push_cast
  rfl
theorem step_eq {A B M x y : Nat} {n : Int} (h0 : 0 ≤ n) : ((pl A B M x y (n + 2).toNat : Nat) : Int) = ((A : Int) * (pl A B M x y (n + 1).toNat : Int) + (B : Int) * (pl A B M x y n.toNat : Int)).fmod (M : Int) := by
  obtain ⟨k, rfl⟩ : ∃ k : Nat, (k : Int) = n := ⟨n.toNat, by omega⟩
  have e1 : ((k : Int) + 2).toNat = k + 2 := by omega
  have e2 : ((k : Int) + 1).toNat = k + 1 := by omega
  rw [e1, e2, Int.toNat_natCast]
  exact pl_step k
/-- equal but for a multiple of M -/
noncomputable def Cg (M : Int) (u v : Int) : Prop := ∃ k, u = v + M * k
theorem Cg.refl {M u : Int} : Cg M u u := ⟨0, by grind⟩
theorem Cg.mod {M : Int} (u : Int) : Cg M (u % M) u := ⟨-(u / M), by have := Int.emod_add_mul_ediv u M; grind⟩
theorem Cg.toEq {M u v : Int} (h : Cg M u v) : u % M = v % M := by
  obtain ⟨k, rfl⟩ := h
  exact Int.add_mul_emod_self_left ..
theorem leap_cg {A B M x y : Nat} : ∀ (t : Nat) (p q r s : Int), leapF A B M t = (p, q, r, s) → ∀ n : Nat,
    Cg M (pl A B M x y (n + 2 ^ t)) (p * pl A B M x y n + q * pl A B M x y (n + 1)) ∧ Cg M (pl A B M x y (n + 2 ^ t + 1)) (r * pl A B M x y n + s * pl A B M x y (n + 1))
  | 0, p, q, r, s, h, n => by
    have h2 : ((0 : Int), (1 : Int), (B : Int), (A : Int)) = (p, q, r, s) := h
    simp only [Prod.mk.injEq] at h2
    obtain ⟨rfl, rfl, rfl, rfl⟩ := h2
    have e := pl_step (A := A) (B := B) (M := M) (x := x) (y := y) n
    rw [fmod_nat] at e
    refine ⟨⟨0, by simp⟩, ?_⟩
    show Cg _ (pl A B M x y (n + 2)) _
    rw [e]
    obtain ⟨k, hk⟩ := Cg.mod (M := (M : Int)) ((A : Int) * (pl A B M x y (n + 1) : Int) + (B : Int) * (pl A B M x y n : Int))
    exact ⟨k, by rw [hk]; grind⟩
  | t + 1, p, q, r, s, h, n => by
    generalize hz : leapF (A : Int) (B : Int) (M : Int) t = z at *
    obtain ⟨p', q', r', s'⟩ := z
    have h2 : leapS (M : Int) (leapF A B M t) = (p, q, r, s) := h
    rw [hz] at h2
    unfold leapS at h2
    simp only [Prod.mk.injEq, fmod_nat] at h2
    obtain ⟨rfl, rfl, rfl, rfl⟩ := h2
    obtain ⟨⟨a1, e1⟩, ⟨a2, e2⟩⟩ := leap_cg t p' q' r' s' hz n
    obtain ⟨⟨a3, e3⟩, ⟨a4, e4⟩⟩ := leap_cg t p' q' r' s' hz (n + 2 ^ t)
    have e0 : n + 2 ^ (t + 1) = n + 2 ^ t + 2 ^ t := by rw [Nat.pow_succ]; omega
    rw [e0]
    obtain ⟨b1, f1⟩ := Cg.mod (M := (M : Int)) (p' * p' + q' * r')
    obtain ⟨b2, f2⟩ := Cg.mod (M := (M : Int)) (p' * q' + q' * s')
    obtain ⟨b3, f3⟩ := Cg.mod (M := (M : Int)) (r' * p' + s' * r')
    obtain ⟨b4, f4⟩ := Cg.mod (M := (M : Int)) (r' * q' + s' * s')
    rw [f1, f2, f3, f4, e3, e4, e1, e2]
    generalize (pl A B M x y n : Int) = u
    generalize (pl A B M x y (n + 1) : Int) = v
    exact ⟨⟨a3 + p' * a1 + q' * a2 - b1 * u - b2 * v, by grind⟩, ⟨a4 + r' * a1 + s' * a2 - b3 * u - b4 * v, by grind⟩⟩
structure LeapIs (a b M : Int) (t : Nat) (p q : Int) : Prop where
  eqp : p = (leapF a b M t).1
  eqq : q = (leapF a b M t).2.1
  smp : Sm p
  smq : Sm q
theorem leap_eq {A B M x y pw c H : Nat} {p q : Int} {n : Int} (hp : PowIs pw M c H) (hl : LeapIs A B M (2 + pw) p q) (hx : x < M) (hy : y < M) (h0 : 0 ≤ n) :
    ((pl A B M x y (n + (H : Int)).toNat : Nat) : Int) = (p * (pl A B M x y n.toNat : Int) + q * (pl A B M x y (n + 1).toNat : Int)).fmod (M : Int) := by
  obtain ⟨k, rfl⟩ : ∃ k : Nat, (k : Int) = n := ⟨n.toNat, by omega⟩
  have e1 : ((k : Int) + (H : Int)).toNat = k + H := by omega
  have e2 : ((k : Int) + 1).toNat = k + 1 := by omega
  rw [e1, e2, Int.toNat_natCast, fmod_nat]
  have h2 := (leap_cg (x := x) (y := y) (2 + pw) _ _ _ _ (rfl : leapF (A : Int) B M (2 + pw) = ((leapF (A : Int) B M (2 + pw)).1, (leapF (A : Int) B M (2 + pw)).2.1, (leapF (A : Int) B M (2 + pw)).2.2.1, (leapF (A : Int) B M (2 + pw)).2.2.2)) k).1
  rw [← hl.eqp, ← hl.eqq] at h2
  have e3 : 2 ^ (2 + pw) = H := by rw [hp.eqH, Nat.pow_add]
  rw [e3] at h2
  rw [← h2.toEq]
  have := pl_lt (a := A) (b := B) hx hy (k + H)
  exact (Int.emod_eq_of_lt (by omega) (by omega)).symm
end
local macro_rules | `(tactic| k_mem) => `(tactic| first | exact List.Mem.head _ | (refine' List.Mem.tail _ ?_; k_mem) | assumption)
section
open PySem PySem.W PySem.Calls PyProof.Rows PyProof.V PySem.Spec
theorem c_leapP (w mean mg mb) (a b lamps : Int) (pw : Nat) (ta tb tl tt : Tok) (ha : Sm a) (hb : Sm b) (hl : LampsOk lamps) (h6 : 2 + pw ≤ 4) :
    Ctr w mean mg mb 111 [.int a ta, .int b tb, .int lamps tl, .int ((2 + pw : Nat) : Int) tt] 1 8 (fun _ _ _ => True)
      (fun v own => ∃ D t1 t2 p q, v = .ref D ∧ own = [(D, tupOf [.int p t1, .int q t2] 0)] ∧ LeapIs a b lamps (2 + pw) p q) := by
  intro dp un gd cn cs a9 ccd cl outer A₀ base h₀ L m news s Q E B F X N T hk hp h1 h2 ret
  refine c_leap w mean mg mb a b lamps (2 + pw) ta tb tl tt ha hb hl h6 dp un gd cn cs a9 ccd cl outer A₀ base h₀ L m news s Q E B F X N T hk hp h1 h2 fun v own h' tk' F' N' l' p' => ?_
  obtain ⟨D, t1, t2, e1, e2⟩ := p'
  refine ret v own h' tk' F' N' l' ⟨D, t1, t2, _, _, e1, e2, rfl, rfl, ?_, ?_⟩
  · rw [Nat.add_comm]; exact hl.sm
  · rw [Nat.add_comm]; exact hl.sm
theorem Fr.as {h₀ h : Heap} {L : Addr} {m m' : Str → Option Value} (F : Fr h₀ L h m) (e : ∀ y, m y = m' y) : Fr h₀ L h m' := (funext e : m = m') ▸ F
/-- the names that law's rest reads -/
structure LawM (m : Str → Option Value) (A B M pw : Nat) (ta tb tl tp : Tok) : Prop where
  a : m (Str.ofString "a") = some (.int (A : Int) ta)
  b : m (Str.ofString "b") = some (.int (B : Int) tb)
  l : m (Str.ofString "lamps") = some (.int (M : Int) tl)
  p : m (Str.ofString "power") = some (.int (pw : Int) tp)
theorem LawM.eq {m : Str → Option Value} {A B M pw : Nat} {ta tb tl tp : Tok} (h : LawM m A B M pw ta tb tl tp) : m = fun y => if y = Str.ofString "a" then some (.int (A : Int) ta) else if y = Str.ofString "b" then some (.int (B : Int) tb) else if y = Str.ofString "lamps" then some (.int (M : Int) tl) else if y = Str.ofString "power" then some (.int (pw : Int) tp) else m y := by
  funext y
  by_cases h1 : y = Str.ofString "a"
  · rw [if_pos h1, h1]; exact h.a
  by_cases h2 : y = Str.ofString "b"
  · rw [if_neg h1, if_pos h2, h2]; exact h.b
  by_cases h3 : y = Str.ofString "lamps"
  · rw [if_neg h1, if_neg h2, if_pos h3, h3]; exact h.l
  by_cases h4 : y = Str.ofString "power"
  · rw [if_neg h1, if_neg h2, if_neg h3, if_pos h4, h4]; exact h.p
  · rw [if_neg h1, if_neg h2, if_neg h3, if_neg h4]
/-- sizes -/
structure LawN (A B M H : Nat) : Prop where
  lo : 8 ≤ M
  hi : M ≤ 32
  half : M = 2 * H
  sa : Sm (A : Int)
  sb : Sm (B : Int)
section
variable {prog : Program} {w : World} {A : Around} {E : Value → Shared → Prop} {s : Shared}
theorem add_two {pw : Nat} {t u : Tok} {Q : Value → Shared → Prop} (h : Q (.int ((2 + pw : Nat) : Int) s.toks) { s with toks := s.toks + 1 }) :
    wpAny (model prog w) A (binaryOp .Add (.int 2 t) (.int (pw : Int) u)) Q E s := by
  refine add_int ?_
  have e : (2 : Int) + (pw : Int) = ((2 + pw : Nat) : Int) := by push_cast; rfl
  rw [e]
  exact h
end
set_option maxHeartbeats 8000000 in
theorem law_leap {w : World} {mean : ExcName → Option Value} {mg mb : Str → Option Value} {h₀ : Heap} {L fa : Addr} {code : Value} {m : Str → Option Value} {s : Shared} {Q : Flow → Shared → Prop} {E : Value → Shared → Prop} {A B x y pw M c H : Nat} {o1 o2 o3 : Obj} {P Lt : Addr} {pvs : List Value} {R : List (Addr × Obj)} {k1 : Nat} {ta tb tl tp th : Tok}
    (hp : PowIs pw M c H) (hn : LawN A B M H) (hx : x < M) (hy : y < M) (K0 : Below callerA h₀ [] h₀) (F : Fr h₀ L s.heap m) (X : (hd.heap_39 w.params).In h₀) (N : News h₀ L s.heap ((L + 1 + 1 + 1, o3) :: (L + 1 + 1, o2) :: (L + 1, o1) :: R))
    (T : Top hd.view_39 (looseW hd.view_39 [Str.ofString "COMPILER_FLAG_NAMES"]) mean mg mb h₀)
    (d1 : o1.data = .cell (some (.int (H : Int) th))) (d2 : o2.data = .cell (some (.ref P))) (d3 : o3.data = .cell (some (.ref Lt))) (hP : (P, W.listOf pvs.toArray k1) ∈ R)
    (hI : PlAre (pl A B M x y) M pvs) (hm : LawM m A B M pw ta tb tl tp) (hE : PassesOwn (model PySem.Challenge.rw_tr0037_01.row.prog w) (callerA.deeper (envOfC (Str.ofString "law") lawScope L fa code)) (envOfC (Str.ofString "law") lawScope L fa code) E)
    (hnext : ∀ m' h' tk', Fr h₀ L h' m' → LawM m' A B M pw ta tb tl tp → News h₀ L h' ((L + 1 + 1 + 1, o3) :: (L + 1 + 1, o2) :: (L + 1, o1) :: R) → wpAny (model PySem.Challenge.rw_tr0037_01.row.prog w) (callerA.deeper (envOfC (Str.ofString "law") lawScope L fa code)) (execs lawRest2 (envOfC (Str.ofString "law") lawScope L fa code)) Q E { s with heap := h', toks := tk' }) :
    wpAny (model PySem.Challenge.rw_tr0037_01.row.prog w) (callerA.deeper (envOfC (Str.ofString "law") lawScope L fa code)) (execs lawRest1 (envOfC (Str.ofString "law") lawScope L fa code)) Q E s := by
  w_top off
  k_with_none
  k_with "binaryOp Add int int" => (k_here; (with_reducible show wpAny _ _ (binaryOp _ (Value.int 2 _) (Value.int (Nat.cast _) _)) _ _ _); k_dflt (refine' add_two ?_))
  k_with "binaryOp Mult int int" => (k_here; k_dflt (refine' mul_int ?_ (Sm.ok (by assumption))))
  k_with "binaryOp Mod int int" => (k_here; k_dflt (refine' mod_int' (LampsOk.ne (PowIs.ok (by assumption))) ?_))
  k_with "subscriptTail" => (k_here; (with_reducible show wpAny _ _ (subscriptTail _ _ (Value.ref _) (Value.int _ _)) _ _ _); k_dflt (refine' item_pl ?N ?m ?I ?h0 ?h1 ?hM ?_ ?hs; (case N => k_asm); (case I => assumption); (case m => k_mem); (case h0 => omega); (case h1 => omega); (case hM => assumption); (case hs => with_unfolding_all rfl); k_whole; intro t'))
  k_with "exec For" => (k_here; (rename Fr _ _ _ _ => lF'); k_dflt (refine' For_else lF' ?_; k_whole))
  k_with "call ref" => (k_here; ((with_reducible show wpAny _ _ (call (Value.ref 111) _) _ _ _); k_dflt (refine' Ctr.use (c_leapP _ _ _ _ _ _ _ _ _ _ _ _ (by assumption) (by assumption) (PowIs.ok (by assumption)) (PowIs.four (by assumption))) ?k1 ?k2 ?k3 ?k4 ?k5 ?kK ?kP ?kd ?ku ?_; (case k1 => k_asm); (case k2 => k_asm); (case k3 => k_asm); (case k4 => k_asm); (case k5 => k_asm); (case kK => exact rfl); (case kP => first | trivial | assumption); (case kd => ktr_room); (case ku => ktr_units)); intro v9 own9 h9 tk9 F9 N9 l9 p9; (obtain ⟨D9, t91, t92, p91, q91, e91, e92, hpq⟩ := p9); subst e91; subst e92; (have smp9 := hpq.smp); (have smq9 := hpq.smq); (try simp only [List.cons_append, List.nil_append] at N9); (try dsimp only); (try k_sweep); (try k_fold)))
  k_with "execs nil" => (k_here; dsimp only; k_gentoks)
  k_with "execs cons" => (k_here; dsimp only; k_gentoks)
  revert X T
  k_fill
  intro X T
  rw [hm.eq] at F
  obtain ⟨hlo, hhi, hhalf, hsa, hsb⟩ := hn
  have kM := kstMark
  conv =>
    arg 3
    arg 1
    whnf
  conv =>
    arg 3
    arg 2
    arg 2
    whnf
  conv =>
    arg 2
    arg 2
    arg 2
    whnf
  k_whole
  repeat (first | (k_unfold; (try dsimp only)) | walk1 | (dsimp only; walk1))
  · exact absurd (step_eq (by assumption)) (by assumption)
  repeat (first | (k_unfold; (try dsimp only)) | walk1 | (dsimp only; walk1))
  · exact absurd (leap_eq hp (by assumption) hx hy (by assumption)) (by assumption)
  · repeat (first | (k_unfold; (try dsimp only)) | walk1 | (dsimp only; walk1))
  · exact hnext _ _ _ (by assumption) ⟨rfl, rfl, rfl, rfl⟩ (cb_drop (by assumption) (fun p hp => .tail _ hp))
end
section
open PySem PySem.W PySem.Calls PyProof.Rows PyProof.V PySem.Spec
noncomputable def occ (f : Nat → Nat) (M k : Nat) : Bool := (List.range M).any fun i => f i == k
theorem ints_any {k : Int} : ∀ {vs : List Value} {ns : List Int}, IntsAre vs ns → kf_ints vs = true ∧ vs.any (isInt k) = ns.any (· == k)
  | _, _, .nil => ⟨rfl, rfl⟩
  | _, _, .cons n t r => by
    obtain ⟨h1, h2⟩ := ints_any (k := k) r
    exact ⟨h1, by rw [List.any_cons, List.any_cons, h2]; rfl⟩
theorem pl_any {f : Nat → Nat} {M : Nat} {pvs : List Value} (h : PlAre f M pvs) {k : Int} (h0 : 0 ≤ k) : pvs.any (isInt k) = occ f M k.toNat := by
  rw [(ints_any h.are).2, List.any_map]
  unfold occ
  congr 1
  funext i
  simp only [Function.comp]
  rw [Bool.eq_iff_iff, beq_iff_eq, beq_iff_eq]
  omega
section
variable {prog : Program} {w : World} {A : Around} {E : Value → Shared → Prop} {s : Shared} {h₀ : Heap} {L : Addr}
theorem in_pl {f : Nat → Nat} {M : Nat} {news : List (Addr × Obj)} {l : Addr} {vs : List Value} {c : Nat} {k : Int} {t : Tok} {Q : Value → Shared → Prop} (N : News h₀ L s.heap news) (hm : (l, W.listOf vs.toArray c) ∈ news) (hI : PlAre f M vs) (h0 : 0 ≤ k)
    (h : Q (.bool (occ f M k.toNat)) s) : wpAny (model prog w) A (compareOp .In (.int k t) (.ref l)) Q E s :=
  kf_in N hm (by simpa using (ints_any (k := k) hI.are).1) (by simpa using pl_any hI h0) h
end
/-- an element that the test keeps, and one that it drops -/
noncomputable def FiltEl (p : Nat → Bool) (k : Nat) (news : List (Addr × Obj)) (y : Value) (news' : List (Addr × Obj)) : Prop := p k = true ∧ news' = news ∧ ∃ t, y = .int (k : Int) t
noncomputable def FiltNo (p : Nat → Bool) (k : Nat) (news news' : List (Addr × Obj)) : Prop := p k = false ∧ news' = news
section
variable {prog : Program} {w : World} {A : Around} {h₀ : Heap} {L : Addr} {m : Str → Option Value} {env : Env} {ct elt : Expr} {x : Str} {scope : Scope} {cl : List (Str × Addr)} {s : Shared} {S : List (Addr × Obj) → Prop} {Fin : List Value → List (Addr × Obj) → Prop} {news : List (Addr × Obj)}
theorem filt_range {n : Nat} (p : Nat → Bool)
    (turn : ∀ (k : Nat) t I oI C oC D m₂ ys h tk (E' : Value → Shared → Prop), k < n → LCg.NsObj oC m₂ → m₂ x = some (.int (k : Int) t) → Fr h₀ L h m → News h₀ L h ((I, oI) :: (C, oC) :: (D, LCg.lst ys) :: news) → LCg.Off3 I C D news → ((@Ne Nat I C) ∧ (@Ne Nat I D) ∧ (@Ne Nat C D)) →
      wpAny (model prog w) A (isTrue ct (compEnvC scope cl C env) (eval ct (compEnvC scope cl C env))) (fun b s' => if b = true then wpAny (model prog w) A (eval elt (compEnvC scope cl C env)) (LCg.CompEnd h₀ L m { s with heap := h, toks := tk } I oI C oC D (LCg.lst ys) S (fun y news' => FiltEl p k news y news')) E' s'
        else LCg.CompEnd h₀ L m { s with heap := h, toks := tk } I oI C oC D (LCg.lst ys) S (fun _ news' => FiltNo p k news news') Value.none s') E' { s with heap := h, toks := tk })
    (fin : ∀ ys, IntsAre ys (((List.range n).filter p).map fun k : Nat => (k : Int)) → Fin ys news) : LCt.CompRestT prog w A h₀ L m env ct elt x scope cl s S (fun i v => ∃ t, v = .int (0 + (i : Int)) t) Fin n 0 [] news := by
  have key : ∀ (j i : Nat) (ys : List Value), i + j = n → IntsAre ys (((List.range i).filter p).map fun k : Nat => (k : Int)) → LCt.CompRestT prog w A h₀ L m env ct elt x scope cl s S (fun i v => ∃ t, v = .int (0 + (i : Int)) t) Fin j i ys news := by
    intro j
    induction j with
    | zero =>
      intro i ys hi hy
      have e : i = n := by omega
      subst e
      exact LCt.CompRestT.zero (fin ys hy)
    | succ j ih =>
      intro i ys hi hy
      refine LCt.CompRestT.succ ?_
      intro v I oI C oC D m₂ h tk E' hv hC hx F N off ne
      obtain ⟨t, hv'⟩ := hv
      have e0 : (0 : Int) + (i : Int) = (i : Int) := by omega
      rw [e0] at hv'
      rw [hv'] at hx
      refine wpAny_mono (turn i t I oI C oC D m₂ ys h tk E' (by omega) hC hx F N off ne) (fun b s₂ hq => ?_) fun _ _ e => e
      cases b with
      | true =>
        simp only [if_true] at hq ⊢
        refine wpAny_mono hq (fun y s₃ hr => ?_) fun _ _ e => e
        obtain ⟨h', tk', nw, e, F', N', off', hS, hp, hn, t', hy'⟩ := hr
        rw [hn] at N' off' hS
        refine ⟨h', tk', news, e, F', N', off', hS, ?_⟩
        rw [hy']
        refine ih (i + 1) _ (by omega) ?_
        rw [List.range_succ, List.filter_append, List.map_append]
        have e1 : List.filter p [i] = [i] := by simp [hp]
        rw [e1]
        exact ints_snoc hy
      | false =>
        simp only [Bool.false_eq_true, if_false] at hq ⊢
        obtain ⟨h', tk', nw, e, F', N', off', hS, hp, hn⟩ := hq
        rw [hn] at N' off' hS
        refine ⟨h', tk', news, e, F', N', off', hS, ih (i + 1) _ (by omega) ?_⟩
        rw [List.range_succ, List.filter_append, List.map_append]
        have e1 : List.filter p [i] = [] := by simp [hp]
        rw [e1]
        simpa using hy
  exact key n 0 [] (by omega) .nil
theorem filt_occ {n M : Nat} {f : Nat → Nat} {vs : List Value} (_hI : PlAre f M vs)
    (turn : ∀ (k : Nat) t I oI C oC D m₂ ys h tk (E' : Value → Shared → Prop), k < n → LCg.NsObj oC m₂ → m₂ x = some (.int (k : Int) t) → Fr h₀ L h m → News h₀ L h ((I, oI) :: (C, oC) :: (D, LCg.lst ys) :: news) → LCg.Off3 I C D news → ((@Ne Nat I C) ∧ (@Ne Nat I D) ∧ (@Ne Nat C D)) →
      wpAny (model prog w) A (isTrue ct (compEnvC scope cl C env) (eval ct (compEnvC scope cl C env))) (fun b s' => if b = true then wpAny (model prog w) A (eval elt (compEnvC scope cl C env)) (LCg.CompEnd h₀ L m { s with heap := h, toks := tk } I oI C oC D (LCg.lst ys) S (fun y news' => FiltEl (occ f M) k news y news')) E' s'
        else LCg.CompEnd h₀ L m { s with heap := h, toks := tk } I oI C oC D (LCg.lst ys) S (fun _ news' => FiltNo (occ f M) k news news') Value.none s') E' { s with heap := h, toks := tk })
    (fin : ∀ ys, IntsAre ys (((List.range n).filter (occ f M)).map fun k : Nat => (k : Int)) → Fin ys news) : LCt.CompRestT prog w A h₀ L m env ct elt x scope cl s S (fun i v => ∃ t, v = .int (0 + (i : Int)) t) Fin n 0 [] news := filt_range (occ f M) turn fin
theorem filt_yes {s₁ : Shared} {I C D : Addr} {oI oC oD : Obj} {p : Nat → Bool} {k : Nat} {t : Tok} {h' : Heap} {tk : Nat} (F : Fr h₀ L h' m) (N : News h₀ L h' ((I, oI) :: (C, oC) :: (D, oD) :: news)) (off : LCg.Off3 I C D news) (e : p k = true) :
    LCg.CompEnd h₀ L m s₁ I oI C oC D oD (fun _ => True) (fun y news' => FiltEl p k news y news') (.int (k : Int) t) { s₁ with heap := h', toks := tk } :=
  LCg.CompEnd.intro F N news (fun _ h => h) off trivial ⟨e, rfl, t, rfl⟩
theorem filt_no {s₁ : Shared} {I C D : Addr} {oI oC oD : Obj} {p : Nat → Bool} {k : Nat} {h' : Heap} {tk : Nat} (F : Fr h₀ L h' m) (N : News h₀ L h' ((I, oI) :: (C, oC) :: (D, oD) :: news)) (off : LCg.Off3 I C D news) (e : p k = false) :
    LCg.CompEnd h₀ L m s₁ I oI C oC D oD (fun _ => True) (fun _ news' => FiltNo p k news news') Value.none { s₁ with heap := h', toks := tk } :=
  LCg.CompEnd.intro F N news (fun _ h => h) off trivial ⟨e, rfl⟩
end
theorem range_fit {n : Nat} (h : n ≤ 32) : Builtin.Range.small 0 (n : Int) 1 = true ∧ Builtin.Range.rangeSize 0 (n : Int) 1 = (n : Int) ∧ n ≤ sizeLine := by
  have H : ∀ n : Nat, n < 33 → Builtin.Range.small 0 (n : Int) 1 = true ∧ Builtin.Range.rangeSize 0 (n : Int) 1 = (n : Int) := by decide +kernel
  obtain ⟨a, b⟩ := H n (by omega)
  exact ⟨a, b, by rw [sizeLine_eq]; omega⟩
/-- the names after lit -/
structure LawM2 (m : Str → Option Value) (A B M : Nat) (D : Addr) (ta tb tl : Tok) : Prop where
  a : m (Str.ofString "a") = some (.int (A : Int) ta)
  b : m (Str.ofString "b") = some (.int (B : Int) tb)
  l : m (Str.ofString "lamps") = some (.int (M : Int) tl)
  p : m (Str.ofString "lit") = some (.ref D)
noncomputable def lawRest3 : List Stmt := lawStmts.drop 14
set_option maxHeartbeats 8000000 in
theorem law_lit {w : World} {mean : ExcName → Option Value} {mg mb : Str → Option Value} {h₀ : Heap} {L fa : Addr} {code : Value} {m : Str → Option Value} {s : Shared} {Q : Flow → Shared → Prop} {E : Value → Shared → Prop} {A B x y pw M c H : Nat} {o1 o2 o3 : Obj} {P Lt : Addr} {pvs : List Value} {R : List (Addr × Obj)} {k1 : Nat} {ta tb tl tp th : Tok}
    (hn : LawN A B M H) (K0 : Below callerA h₀ [] h₀) (F : Fr h₀ L s.heap m) (X : (hd.heap_39 w.params).In h₀) (N : News h₀ L s.heap ((L + 1 + 1 + 1, o3) :: (L + 1 + 1, o2) :: (L + 1, o1) :: R))
    (T : Top hd.view_39 (looseW hd.view_39 [Str.ofString "COMPILER_FLAG_NAMES"]) mean mg mb h₀)
    (d1 : o1.data = .cell (some (.int (H : Int) th))) (d2 : o2.data = .cell (some (.ref P))) (d3 : o3.data = .cell (some (.ref Lt))) (hP : (P, W.listOf pvs.toArray k1) ∈ R)
    (hI : PlAre (pl A B M x y) M pvs) (hm : LawM m A B M pw ta tb tl tp) (hE : PassesOwn (model PySem.Challenge.rw_tr0037_01.row.prog w) (callerA.deeper (envOfC (Str.ofString "law") lawScope L fa code)) (envOfC (Str.ofString "law") lawScope L fa code) E)
    (hnext : ∀ m' h' tk' D ys, IntsAre ys (((List.range M).filter (occ (pl A B M x y) M)).map fun k : Nat => (k : Int)) → Fr h₀ L h' m' → LawM2 m' A B M D ta tb tl → News h₀ L h' ((D, LCg.lst ys) :: (L + 1 + 1 + 1, o3) :: (L + 1 + 1, o2) :: (L + 1, o1) :: R) → LCg.Off1 D ((L + 1 + 1 + 1, o3) :: (L + 1 + 1, o2) :: (L + 1, o1) :: R) → wpAny (model PySem.Challenge.rw_tr0037_01.row.prog w) (callerA.deeper (envOfC (Str.ofString "law") lawScope L fa code)) (execs lawRest3 (envOfC (Str.ofString "law") lawScope L fa code)) Q E { s with heap := h', toks := tk' }) :
    wpAny (model PySem.Challenge.rw_tr0037_01.row.prog w) (callerA.deeper (envOfC (Str.ofString "law") lawScope L fa code)) (execs lawRest2 (envOfC (Str.ofString "law") lawScope L fa code)) Q E s := by
  w_top off
  k_with_none
  k_with "compareOp In int ref" => (k_here; k_dflt (refine' in_pl ?N ?m ?I ?h0 ?_; (case N => k_asm); (case I => assumption); (case m => k_mem); (case h0 => omega)))
  k_with "CompSrcT" => (k_here; k_dflt (refine LCt.CompSrcT.range (by rfl) (by k_asm) (by k_asm) (by assumption) (range_fit (by assumption)).1 (range_fit (by assumption)).2.1 (range_fit (by assumption)).2.2 ?_); intro g'; (refine' filt_occ (by assumption) (fun k' t' I' oI' C' oC' D' m' ys' h' tk' E' hk' hC' hx' F' N' off' ne' => ?_) (fun ys' hys' => ?_)))
  revert X T
  k_fill
  intro X T
  rw [hm.eq] at F
  obtain ⟨hlo, hhi, hhalf, hsa, hsb⟩ := hn
  have kM := kstMark
  conv =>
    arg 3
    arg 1
    whnf
  conv =>
    arg 3
    arg 2
    arg 2
    whnf
  conv =>
    arg 2
    arg 2
    arg 2
    whnf
  k_whole
  repeat (first | (k_unfold; (try dsimp only)) | walk1 | (dsimp only; walk1))
  · exact filt_yes (by assumption) (by assumption) (by assumption) (by assumption)
  · exact filt_no (by assumption) (by assumption) (by assumption) (by assumption)
  · (rename IntsAre _ _ => hys9)
    intro D h tk F9 N9 O9
    exact hnext _ _ _ D _ hys9 F9 ⟨rfl, rfl, rfl, rfl⟩ N9 O9
end
section
open PySem PySem.W PySem.Calls PyProof.Rows PyProof.V PySem.Spec
open StrLaws Builtin Builtin.Str
noncomputable def sepS : Str := ⟨#[44, 32]⟩
/-- the codes of the words, joined -/
noncomputable def joinL : List Str → List Nat
  | [] => []
  | [w] => w.cps.toList
  | w :: r => w.cps.toList ++ 44 :: 32 :: joinL r
theorem joinL_cps : ∀ ws : List Str, (Str.join sepS ws).cps.toList = joinL ws
  | [] => rfl
  | [w] => rfl
  | w :: v :: r => by
    have ih := joinL_cps (v :: r)
    show (w ++ sepS ++ Str.join sepS (v :: r)).cps.toList = w.cps.toList ++ 44 :: 32 :: joinL (v :: r)
    rw [Str.cps_append, Str.cps_append, Array.toList_append, Array.toList_append, ih]
    simp [sepS]
theorem at_sep {x : Str} {k : Nat} (h : At x sepS x.length k) : x.cps.toList[k]? = some 44 := by
  have h2 := h.2
  rw [subAt_eq] at h2
  have h3 : (x.cps.toList.drop k).take 2 = [44, 32] := eq_of_beq h2
  have h4 : ((x.cps.toList.drop k).take 2)[0]? = some 44 := by rw [h3]; rfl
  rw [List.getElem?_take_of_lt (by decide), List.getElem?_drop] at h4
  exact h4
theorem sep_at {x : Str} {k : Nat} {r : List Nat} (h : x.cps.toList.drop k = 44 :: 32 :: r) : At x sepS x.length k := by
  have hl : (x.cps.toList.drop k).length = r.length + 2 := by rw [h]; rfl
  have hn : x.cps.toList.length = x.length := by simp [Str.length]
  rw [List.length_drop, hn] at hl
  refine ⟨?_, ?_⟩
  · show k + 2 ≤ x.length
    omega
  · rw [subAt_eq, h]
    rfl
theorem parts_join {x : Str} : ∀ (ws : List Str) (a f : Nat) (cuts : List Nat), ws ≠ [] → (∀ w ∈ ws, 44 ∉ w.cps.toList) → ChainG x sepS x.length a cuts f → (∀ k, f ≤ k → ¬ At x sepS x.length k) → x.cps.toList.drop a = joinL ws → a ≤ x.length → partsFrom x 2 a cuts = ws
  | [], _, _, _, h, _, _, _, _, _ => absurd rfl h
  | [w], a, f, cuts, _, hw, hG, hn, hL, ha => by
    have hn' : x.cps.toList.length = x.length := by simp [Str.length]
    have no : ∀ k, a ≤ k → ¬ At x sepS x.length k := by
      intro k hk hA
      have h1 := at_sep hA
      have h2 : (x.cps.toList.drop a)[k - a]? = some 44 := by rw [List.getElem?_drop]; rw [show a + (k - a) = k by omega]; exact h1
      rw [hL] at h2
      exact hw w (.head _) (List.mem_of_getElem? h2)
    cases cuts with
    | nil =>
      show [strSub x a x.length] = [w]
      congr 1
      apply Str.ext'
      apply Array.toList_inj.mp
      rw [strSub_toList, hL]
      show w.cps.toList.take (x.length - a) = w.cps.toList
      have hl : (x.cps.toList.drop a).length = w.cps.toList.length := by rw [hL]; rfl
      rw [List.length_drop, hn'] at hl
      exact List.take_of_length_le (by omega)
    | cons c r => exact absurd hG.2.1 (no c hG.1)
  | w :: v :: r, a, f, cuts, _, hw, hG, hn, hL, ha => by
    have hn' : x.cps.toList.length = x.length := by simp [Str.length]
    have hL' : x.cps.toList.drop a = w.cps.toList ++ 44 :: 32 :: joinL (v :: r) := hL
    have hd : x.cps.toList.drop (a + w.cps.toList.length) = 44 :: 32 :: joinL (v :: r) := by
      rw [← List.drop_drop, hL', List.drop_left]
    have yes : At x sepS x.length (a + w.cps.toList.length) := sep_at hd
    have no : ∀ k, a ≤ k → k < a + w.cps.toList.length → ¬ At x sepS x.length k := by
      intro k hk hk2 hA
      have h1 := at_sep hA
      have h2 : (x.cps.toList.drop a)[k - a]? = some 44 := by rw [List.getElem?_drop]; rw [show a + (k - a) = k by omega]; exact h1
      rw [hL', List.getElem?_append_left (by omega)] at h2
      exact hw w (.head _) (List.mem_of_getElem? h2)
    cases cuts with
    | nil =>
      have e : f = a := hG
      exact absurd yes (hn _ (by omega))
    | cons c cs =>
      obtain ⟨h1, h2, h3, h4⟩ := hG
      have ec : c = a + w.cps.toList.length := by
        by_cases hlt : c < a + w.cps.toList.length
        · exact absurd h2 (no c h1 hlt)
        by_cases hgt : a + w.cps.toList.length < c
        · exact absurd yes (h3 _ (by omega) hgt)
        · omega
      subst ec
      have h5 : a + w.cps.toList.length + 2 ≤ x.length := h2.1
      have hd2 : x.cps.toList.drop (a + w.cps.toList.length + 2) = joinL (v :: r) := by rw [← List.drop_drop, hd]; rfl
      show strSub x a (a + w.cps.toList.length) :: partsFrom x 2 (a + w.cps.toList.length + 2) cs = _
      rw [parts_join (v :: r) (a + w.cps.toList.length + 2) f cs (by simp) (fun u hu => hw u (.tail _ hu)) h4 hn hd2 h5]
      congr 1
      apply Str.ext'
      apply Array.toList_inj.mp
      rw [strSub_toList, hL', show a + w.cps.toList.length - a = w.cps.toList.length by omega, List.take_left]
theorem kind_sep (x : Str) : ¬ PySem.Builtin.Str.strKind x < PySem.Builtin.Str.strKind sepS := by
  have h : PySem.Builtin.Str.strKind sepS = 1 := by decide +kernel
  rw [h]
  unfold PySem.Builtin.Str.strKind
  split
  · omega
  · split <;> omega
theorem split_join {ws : List Str} (h0 : ws ≠ []) (hw : ∀ w ∈ ws, 44 ∉ w.cps.toList) : Txt.split (Txt.join sepS ws) sepS = ws := by
  have ej : Txt.join sepS ws = Str.join sepS ws := glued_eq_join sepS ws
  rw [ej]
  generalize hx : Str.join sepS ws = x
  have hL : x.cps.toList = joinL ws := by rw [← hx]; exact joinL_cps ws
  obtain ⟨f, hG, hn⟩ := occ_tight x sepS (by decide)
  have hp := parts_join ws 0 f _ h0 hw hG hn (by rw [List.drop_zero]; exact hL) (Nat.zero_le _)
  have hn' : x.cps.toList.length = x.length := by simp [Str.length]
  unfold Txt.split
  split
  · rename_i hc
    rw [Bool.or_eq_true, decide_eq_true_eq, decide_eq_true_eq] at hc
    rcases hc with h | h
    · have h2 : x.length < 2 := h
      match ws, h0, hL with
      | [w], _, hL =>
        congr 1
        apply Str.ext'
        apply Array.toList_inj.mp
        exact hL
      | w :: v :: r, _, hL =>
        have h3 : x.cps.toList.length = (w.cps.toList ++ 44 :: 32 :: joinL (v :: r)).length := by rw [hL]; rfl
        rw [List.length_append] at h3
        simp at h3
        have h4 : x.cps.size = x.length := rfl
        omega
    · exact absurd h (kind_sep x)
  · split
    · rename_i he
      have e0 : occurrences x sepS 0 x.length (x.length + 1) = [] := List.isEmpty_iff.mp he
      rw [e0] at hp
      rw [← hp]
      show [x] = [strSub x 0 x.length]
      rw [sub_whole]
    · rw [partsBetween_eq]
      exact hp
/-- the number whose bits below k are as q says -/
noncomputable def litN (q : Nat → Bool) : Nat → Nat
  | 0 => 0
  | k + 1 => litN q k + (if q k then 2 ^ k else 0)
theorem litN_lt (q : Nat → Bool) : ∀ k, litN q k < 2 ^ k
  | 0 => Nat.zero_lt_one
  | k + 1 => by
    have h := litN_lt q k
    show litN q k + (if q k then 2 ^ k else 0) < 2 ^ (k + 1)
    rw [Nat.pow_succ]
    split <;> omega
theorem litN_bit (q : Nat → Bool) (i : Nat) : ∀ k, (litN q k).testBit i = (decide (i < k) && q i)
  | 0 => by show Nat.testBit 0 i = _; simp
  | k + 1 => by
    have ih := litN_bit q i k
    have hl := litN_lt q k
    show (litN q k + (if q k then 2 ^ k else 0)).testBit i = _
    rcases Nat.lt_trichotomy i k with h | h | h
    · have e : decide (i < k + 1) = decide (i < k) := by simp [h, Nat.lt_succ_of_lt h]
      rw [e, ← ih]
      split
      · rw [Nat.add_comm, Nat.testBit_two_pow_add_gt h]
      · rfl
    · subst h
      have e0 : (litN q i).testBit i = false := Nat.testBit_lt_two_pow hl
      by_cases hq : q i = true
      · rw [if_pos hq, Nat.add_comm, Nat.testBit_two_pow_add_eq, e0, hq]
        simp
      · rw [if_neg hq, Nat.add_zero, e0]
        simp [hq]
    · have h2 : 2 ^ (k + 1) ≤ 2 ^ i := Nat.pow_le_pow_right (by decide) (by omega)
      have h3 : (litN q k + (if q k then 2 ^ k else 0)) < 2 ^ i := Nat.lt_of_lt_of_le (litN_lt q (k + 1)) h2
      rw [Nat.testBit_lt_two_pow h3]
      have : ¬ i < k + 1 := by omega
      simp [this]
theorem litN_sum (q : Nat → Bool) : ∀ k, (((List.range k).filter q).map fun p : Nat => ((2 ^ p : Nat) : Int)).sum = (litN q k : Int)
  | 0 => rfl
  | k + 1 => by
    have ih := litN_sum q k
    rw [List.range_succ, List.filter_append, List.map_append, List.sum_append, ih]
    show _ = ((litN q k + (if q k then 2 ^ k else 0) : Nat) : Int)
    by_cases hq : q k = true
    · simp [hq]
    · simp [hq]
theorem litN_words {q : Nat → Bool} {M : Nat} (hM : M ≤ 32) : wordsTo (litN q M) 32 = ((List.range M).filter q).map wordS := by
  unfold wordsTo
  congr 1
  have e : (fun i => (litN q M).testBit i) = fun i => decide (i < M) && q i := funext fun i => litN_bit q i M
  rw [e]
  have e2 : List.range 32 = List.range M ++ (List.range (32 - M)).map (M + ·) := by rw [← List.range_add]; congr 1; omega
  rw [e2, List.filter_append]
  have e3 : ((List.range (32 - M)).map (M + ·)).filter (fun i => decide (i < M) && q i) = [] := by
    rw [List.filter_eq_nil_iff]
    intro i hi
    obtain ⟨j, _, rfl⟩ := List.mem_map.mp hi
    have : ¬ M + j < M := by omega
    simp [this]
  rw [e3, List.append_nil]
  apply List.filter_congr
  intro i hi
  have := List.mem_range.mp hi
  simp [this]
theorem litN_ne {q : Nat → Bool} {M k : Nat} (hk : k < M) (hq : q k = true) : litN q M ≠ 0 := by
  intro e
  have h := litN_bit q k M
  rw [e, hq] at h
  simp [hk] at h
theorem word_free : ∀ p : Nat, p < 32 → 44 ∉ (wordS p).cps.toList := by decide +kernel
end
section
open PySem PySem.W PySem.Calls PyProof.Rows PyProof.V PySem.Spec
/-- the places that are lit -/
noncomputable def litL (q : Nat → Bool) (M : Nat) : List Nat := (List.range M).filter q
/-- lit as a list of ints -/
structure LitAre (q : Nat → Bool) (M : Nat) (ys : List Value) : Prop where
  are : IntsAre ys ((litL q M).map fun k : Nat => (k : Int))
  hM : M ≤ 32
  ne : litN q M ≠ 0
theorem litL_lt {q : Nat → Bool} {M p : Nat} (hM : M ≤ 32) (h : p ∈ litL q M) : p < 32 := by
  have := List.mem_range.mp (List.mem_filter.mp h).1
  omega
theorem litL_len (q : Nat → Bool) (M : Nat) : (litL q M).length ≤ M := by
  have := List.length_filter_le q (List.range M)
  rw [List.length_range] at this
  exact this
theorem litL_ne {q : Nat → Bool} {M : Nat} (h : litN q M ≠ 0) : litL q M ≠ [] := by
  intro e
  apply h
  have h1 := litN_sum q M
  have e2 : (List.range M).filter q = [] := e
  rw [e2] at h1
  simp only [List.map_nil, List.sum_nil] at h1
  omega
theorem LitAre.len {q : Nat → Bool} {M : Nat} {ys : List Value} (h : LitAre q M ys) : ys.length = (litL q M).length := by
  have := h.are.length
  rw [List.length_map] at this
  omega
theorem LitAre.size {q : Nat → Bool} {M : Nat} {ys : List Value} (h : LitAre q M ys) : ys.toArray.size ≤ sizeLine := by
  have h1 := h.len
  have h2 := litL_len q M
  have h3 := h.hM
  rw [List.size_toArray, sizeLine_eq]
  omega
theorem joinL_len : ∀ ws : List Str, (∀ w ∈ ws, w.length ≤ 18) → (joinL ws).length ≤ 20 * ws.length
  | [], _ => by simp [joinL]
  | [w], h => by
    have h1 := h w (.head _)
    have h2 : w.cps.toList.length = w.length := by simp [Str.length]
    show w.cps.toList.length ≤ _
    rw [h2]
    simp; omega
  | w :: v :: r, h => by
    have h1 := h w (.head _)
    have h2 : w.cps.toList.length = w.length := by simp [Str.length]
    have ih := joinL_len (v :: r) fun u hu => h u (.tail _ hu)
    show (w.cps.toList ++ 44 :: 32 :: joinL (v :: r)).length ≤ _
    rw [List.length_append, List.length_cons, List.length_cons, h2]
    simp only [List.length_cons] at ih ⊢
    omega
theorem sep_is : Str.ofString ", " = sepS := by decide +kernel
theorem join_len {ws : List Str} (h : ∀ w ∈ ws, w.length ≤ 18) : (Txt.join (Str.ofString ", ") ws).length ≤ 20 * ws.length := by
  have e : Txt.join (Str.ofString ", ") ws = Str.join sepS ws := by rw [sep_is]; exact StrLaws.glued_eq_join sepS ws
  rw [e]
  have h1 := joinL_cps ws
  have h2 : (Str.join sepS ws).length = (Str.join sepS ws).cps.toList.length := by simp [Str.length]
  rw [h2, h1]
  exact joinL_len ws h
section
variable {prog : Program} {w : World} {A : Around} {E : Value → Shared → Prop} {s : Shared} {h₀ : Heap} {L : Addr} {m : Str → Option Value} {env : Env} {news : List (Addr × Obj)}
theorem pow_rest {elt : Expr} {x : Str} {scope : Scope} {cl : List (Str × Addr)} {S : List (Addr × Obj) → Prop} {Fin : List Value → List (Addr × Obj) → Prop} {q : Nat → Bool} {M : Nat} {vs : List Value} (hl : LitAre q M vs)
    (turn : ∀ (p : Nat) t I oI C oC D m₂ ys h tk (E' : Value → Shared → Prop), p < 64 → LCg.NsObj oC m₂ → m₂ x = some (.int (p : Int) t) → Fr h₀ L h m → News h₀ L h ((I, oI) :: (C, oC) :: (D, LCg.lst ys) :: news) → LCg.Off3 I C D news → ((@Ne Nat I C) ∧ (@Ne Nat I D) ∧ (@Ne Nat C D)) →
      wpAny (model prog w) A (eval elt (compEnvC scope cl C env)) (LCg.CompEnd h₀ L m { s with heap := h, toks := tk } I oI C oC D (LCg.lst ys) S (fun y news' => SignEl news ((2 ^ p : Nat) : Int) y news')) E' { s with heap := h, toks := tk })
    (fin : ∀ ys, IntsAre ys ((litL q M).map fun p : Nat => ((2 ^ p : Nat) : Int)) → Fin ys news) : LCg.CompRest prog w A h₀ L m env elt x scope cl s S (fun i v => vs.toArray[i]? = some v) Fin vs.toArray.size 0 [] news := by
  have hlen := hl.len
  have key : ∀ (j i : Nat) (ys : List Value), i + j = vs.toArray.size → IntsAre ys (((litL q M).take i).map fun p : Nat => ((2 ^ p : Nat) : Int)) → LCg.CompRest prog w A h₀ L m env elt x scope cl s S (fun i v => vs.toArray[i]? = some v) Fin j i ys news := by
    intro j
    induction j with
    | zero =>
      intro i ys hi hy
      have e : i = (litL q M).length := by rw [List.size_toArray] at hi; omega
      rw [e, List.take_length] at hy
      exact LCg.CompRest.zero (fin ys hy)
    | succ j ih =>
      intro i ys hij hy
      refine LCg.CompRest.succ ?_
      intro v I oI C oC D m₂ h tk E' hv hC hx F N off ne
      obtain ⟨k, t, rfl, hk⟩ := IntsAre.at hl.are i v (by simpa using hv)
      obtain ⟨p, hp, rfl⟩ : ∃ p, (litL q M)[i]? = some p ∧ (p : Int) = k := by
        rw [List.getElem?_map] at hk
        cases hp : (litL q M)[i]? with
        | none => rw [hp] at hk; cases hk
        | some p => rw [hp] at hk; exact ⟨p, rfl, Option.some.inj hk⟩
      have hp64 : p < 64 := Nat.lt_trans (litL_lt hl.hM (List.mem_of_getElem? hp)) (by decide)
      refine wpAny_mono (turn p t I oI C oC D m₂ ys h tk E' hp64 hC hx F N off ne) (fun y s₂ hq => ?_) fun _ _ e => e
      obtain ⟨h', tk', nw, e, F', N', off', hS, hn, t', hy'⟩ := hq
      rw [hn] at N' off' hS
      refine ⟨h', tk', news, e, F', N', off', hS, ?_⟩
      rw [hy']
      refine ih (i + 1) _ (by omega) ?_
      rw [List.take_add_one, hp]
      simpa using ints_snoc hy
  exact key _ 0 [] (by omega) (by simp only [List.take_zero, List.map_nil]; exact .nil)
theorem pow_two {pw : Nat} {t u : Tok} {Q : Value → Shared → Prop} (hp : pw < 64) (h : Q (.int ((2 ^ pw : Nat) : Int) s.toks) { s with toks := s.toks + 1 }) :
    wpAny (model prog w) A (binaryOp .Pow (.int 2 t) (.int (pw : Int) u)) Q E s := by
  refine pow_int_small (by omega) (by omega) (by decide) ?_
  have e : (2 : Int) ^ ((pw : Int)).toNat = ((2 ^ pw : Nat) : Int) := by rw [Int.toNat_natCast]; push_cast; rfl
  rw [e]
  exact h
theorem pow_end {S : List (Addr × Obj) → Prop} {s₁ : Shared} {I C D : Addr} {oI oC oD : Obj} {g : Int} {t : Tok} {h' : Heap} {tk : Nat} (F : Fr h₀ L h' m) (N : News h₀ L h' ((I, oI) :: (C, oC) :: (D, oD) :: news)) (off : LCg.Off3 I C D news) (hS : S news) :
    LCg.CompEnd h₀ L m s₁ I oI C oC D oD S (fun y news' => SignEl news g y news') (.int g t) { s₁ with heap := h', toks := tk } :=
  LCg.CompEnd.intro F N news (fun _ h => h) off hS ⟨rfl, t, rfl⟩
theorem sum_lit {l : Addr} {vs : List Value} {q : Nat → Bool} {M : Nat} {c : Nat} {Q : Value → Shared → Prop} (hh : A.handled = none) (F : Fr h₀ L s.heap m) (N : News h₀ L s.heap news) (hm : (l, W.listOf vs.toArray c) ∈ news) (hi : IntsAre vs ((litL q M).map fun p : Nat => ((2 ^ p : Nat) : Int)))
    (h : ∀ h' tk t', Fr h₀ L h' m → News h₀ L h' news → Q (.int (litN q M : Int) t') { s with heap := h', toks := tk }) :
    wpAny (model prog w) A (call (.builtin "sum") [.ref l]) Q E s :=
  sumK hh F N ⟨_, (N _ hm).1, rfl, c, rfl⟩ hi fun h' tk t' F' N' => by
    have e : ((litL q M).map fun p : Nat => ((2 ^ p : Nat) : Int)).sum = (litN q M : Int) := litN_sum q M
    rw [e]
    exact h h' tk t' F' N'
theorem split_words {q : Nat → Bool} {M : Nat} {t u : Tok} {ys : List Value} {Q : Value → Shared → Prop} (hl : LitAre q M ys) (hF : Fr h₀ L s.heap m) (hN : News h₀ L s.heap news)
    (h : ∀ D vs h' k, StrsAre vs ((litL q M).map wordS) → Fr h₀ L h' m → News h₀ L h' ((D, W.listOf vs.toArray 0) :: news) → (∀ p ∈ news, p.1 < D) → Q (.ref D) { s with heap := h', toks := k }) :
    wpAny (model prog w) A (call (.builtin "str.split") [.str (Txt.join (Str.ofString ", ") ((litL q M).map wordS)) t, .str (Str.ofString ", ") u]) Q E s := by
  have hw : ∀ x ∈ (litL q M).map wordS, x.length ≤ 18 := fun x hx => by
    obtain ⟨p, hp, rfl⟩ := List.mem_map.mp hx
    exact word_len p (litL_lt hl.hM hp)
  refine KSpl.split1 hF hN (by decide) (fun D l h' k e a F' N' lt => ?_) ?_
  · have e2 : Txt.split (Txt.join (Str.ofString ", ") ((litL q M).map wordS)) (Str.ofString ", ") = (litL q M).map wordS := by
      rw [sep_is]
      refine split_join (by simpa using litL_ne hl.ne) fun x hx => ?_
      obtain ⟨p, hp, rfl⟩ := List.mem_map.mp hx
      exact word_free p (litL_lt hl.hM hp)
    rw [e2] at e
    rw [e] at a
    exact h D _ h' k a F' N' lt
  · have h1 := join_len hw
    have h2 := litL_len q M
    have h3 := hl.hM
    rw [List.length_map] at h1
    rw [sizeLine_eq]
    omega
end
theorem c_pfL (w mean mg mb) {q : Nat → Bool} {M : Nat} {ys : List Value} (tf : Tok) (hl : LitAre q M ys) :
    Ctr w mean mg mb 36 [.int (litN q M : Int) tf] 1 16 (fun _ _ _ => True)
      (fun v own => ∃ t', v = .str (Txt.join (Str.ofString ", ") ((litL q M).map wordS)) t' ∧ own = []) := by
  have h := c_pf w mean mg mb (litN q M) tf hl.ne (Nat.lt_of_lt_of_le (litN_lt q M) (Nat.pow_le_pow_right (by decide) hl.hM))
  have e := litN_words (q := q) hl.hM
  rw [e] at h
  exact h
theorem strs_carried : ∀ {vs : List Value} {ws : List Str}, StrsAre vs ws → CarriedAll vs (ws.map PyData.str)
  | _, _, .nil => .nil
  | _, _, .cons _ t r => .cons (.str _ t) (strs_carried r)
theorem strs_lay : ∀ {ws : List Str}, ws.all PyData.strOk = true → PyData.canLayAll0 (ws.map PyData.str) = true
  | [], _ => rfl
  | w :: r, h => by
    rw [List.all_cons, Bool.and_eq_true] at h
    show (PyData.canLay0 (.str w) && PyData.canLayAll0 (r.map PyData.str)) = true
    rw [strs_lay h.2, Bool.and_true]
    simp only [PyData.canLay0]
    exact h.1
theorem strs_depth : ∀ ws : List Str, PyData.depthAll (ws.map PyData.str) = 0
  | [] => rfl
  | _ :: r => by simp [PyData.depthAll, PyData.depth, strs_depth r]
theorem strs_shaped {ws : List Str} (h : ws.all PyData.strOk = true) : SeqAt.shaped (.list (ws.map PyData.str)) = true := by
  simp [SeqAt.shaped, PyData.canLay0, PyData.depth, strs_lay h, strs_depth]
theorem strs_same : ∀ ws : List Str, PySem.Spec.sameAll (ws.map PyData.str) (ws.map PyData.str) = true
  | [] => by simp [PySem.Spec.sameAll]
  | w :: r => by
    simp only [List.map_cons, PySem.Spec.sameAll, PySem.Spec.same, strs_same r]
    simp
theorem words_ok2 : ∀ p : Nat, p < 32 → PyData.strOk (wordS p) = true := by decide +kernel
section
variable {prog : Program} {w : World} {A : Around} {E : Value → Shared → Prop} {s : Shared} {h₀ : Heap} {L : Addr} {news : List (Addr × Obj)}
theorem ne_words {q : Nat → Bool} {M : Nat} {ys xs zs : List Value} {a b : Addr} {c d : Nat} {Q : Value → Shared → Prop} (hl : LitAre q M ys) (N : News h₀ L s.heap news) (ha : (a, W.listOf xs.toArray c) ∈ news) (hb : (b, W.listOf zs.toArray d) ∈ news) (hi : StrsAre xs ((litL q M).map wordS)) (hj : StrsAre zs ((litL q M).map wordS)) (hu : A.units + 64 < cLine) (h : Q (.bool false) s) :
    wpAny (model prog w) A (compareOp .NotEq (.ref a) (.ref b)) Q E s := by
  have hok : ((litL q M).map wordS).all PyData.strOk = true := by
    rw [List.all_eq_true]
    intro x hx
    obtain ⟨p, hp, rfl⟩ := List.mem_map.mp hx
    exact words_ok2 p (litL_lt hl.hM hp)
  refine ne_dataH_same (reads_newData ⟨_, (N _ ha).1, rfl, c, rfl⟩ (strs_carried hi)) (reads_newData ⟨_, (N _ hb).1, rfl, d, rfl⟩ (strs_carried hj)) (strs_shaped hok) (strs_shaped hok) hu (SeqAt.noMix_of_shape (.list .str) rfl _ _ (list_str_has _) (list_str_has _)) ?_
  have e : PySem.Spec.same (.list (((litL q M).map wordS).map PyData.str)) (.list (((litL q M).map wordS).map PyData.str)) = true := by
    simp only [PySem.Spec.same]; exact strs_same _
  rw [e]
  exact h
end
theorem LitAre.places {q : Nat → Bool} {M : Nat} {ys : List Value} (h : LitAre q M ys) : PlacesOk (litL q M) := ⟨fun _ hp => litL_lt h.hM hp⟩
theorem LitAre.le {q : Nat → Bool} {M : Nat} {ys : List Value} (h : LitAre q M ys) : (litL q M).length ≤ 32 := Nat.le_trans (litL_len q M) h.hM
theorem c_wordsL (w mean mg mb) {q : Nat → Bool} {M : Nat} {ys : List Value} (l : Addr) (h : LitAre q M ys) :
    CtrN w mean mg mb 116 [.ref l] 1 16 (fun _ news _ => (l, LCg.lst ys) ∈ news) (fun v own => ∃ D ws, v = .ref D ∧ own = [(D, W.listOf (List.toArray ws) ws.length)] ∧ StrsAre ws ((litL q M).map wordS)) :=
  c_words w mean mg mb l ys.length ys (litL q M) h.places h.le h.are
/-- the names after words -/
structure LawM3 (m : Str → Option Value) (A B M : Nat) (D2 : Addr) (ta tb tl : Tok) : Prop where
  a : m (Str.ofString "a") = some (.int (A : Int) ta)
  b : m (Str.ofString "b") = some (.int (B : Int) tb)
  l : m (Str.ofString "lamps") = some (.int (M : Int) tl)
  w : m (Str.ofString "words") = some (.ref D2)
theorem drop_words {x a y z c3 c2 c1 : Addr × Obj} {R : List (Addr × Obj)} : ∀ p ∈ a :: c3 :: c2 :: c1 :: R, p ∈ x :: a :: y :: z :: c3 :: c2 :: c1 :: R := fun p hp => by
  rcases List.mem_cons.mp hp with rfl | hp
  · exact .tail _ (.head _)
  · exact .tail _ (.tail _ (.tail _ (.tail _ hp)))
theorem LawM2.eq {m : Str → Option Value} {A B M : Nat} {D : Addr} {ta tb tl : Tok} (h : LawM2 m A B M D ta tb tl) : m = fun y => if y = Str.ofString "a" then some (.int (A : Int) ta) else if y = Str.ofString "b" then some (.int (B : Int) tb) else if y = Str.ofString "lamps" then some (.int (M : Int) tl) else if y = Str.ofString "lit" then some (.ref D) else m y := by
  funext y
  by_cases h1 : y = Str.ofString "a"
  · rw [if_pos h1, h1]; exact h.a
  by_cases h2 : y = Str.ofString "b"
  · rw [if_neg h1, if_pos h2, h2]; exact h.b
  by_cases h3 : y = Str.ofString "lamps"
  · rw [if_neg h1, if_neg h2, if_pos h3, h3]; exact h.l
  by_cases h4 : y = Str.ofString "lit"
  · rw [if_neg h1, if_neg h2, if_neg h3, if_pos h4, h4]; exact h.p
  · rw [if_neg h1, if_neg h2, if_neg h3, if_neg h4]
noncomputable def lawRest4 : List Stmt := lawStmts.drop 16
set_option maxHeartbeats 600000 in
theorem law_words {w : World} {mean : ExcName → Option Value} {mg mb : Str → Option Value} {h₀ : Heap} {L fa : Addr} {code : Value} {m : Str → Option Value} {s : Shared} {Q : Flow → Shared → Prop} {E : Value → Shared → Prop} {A B M : Nat} {q : Nat → Bool} {o1 o2 o3 : Obj} {D : Addr} {ys : List Value} {R : List (Addr × Obj)} {ta tb tl : Tok}
    (hl : LitAre q M ys) (K0 : Below callerA h₀ [] h₀) (F : Fr h₀ L s.heap m) (X : (hd.heap_39 w.params).In h₀) (N : News h₀ L s.heap ((D, LCg.lst ys) :: (L + 1 + 1 + 1, o3) :: (L + 1 + 1, o2) :: (L + 1, o1) :: R))
    (T : Top hd.view_39 (looseW hd.view_39 [Str.ofString "COMPILER_FLAG_NAMES"]) mean mg mb h₀) (hm : LawM2 m A B M D ta tb tl)
    (hnext : ∀ m' h' tk' D2 vs, Fr h₀ L h' m' → LawM3 m' A B M D2 ta tb tl → News h₀ L h' ((D2, W.listOf (List.toArray vs) 0) :: (L + 1 + 1 + 1, o3) :: (L + 1 + 1, o2) :: (L + 1, o1) :: R) → StrsAre vs ((litL q M).map wordS) → wpAny (model PySem.Challenge.rw_tr0037_01.row.prog w) (callerA.deeper (envOfC (Str.ofString "law") lawScope L fa code)) (execs lawRest4 (envOfC (Str.ofString "law") lawScope L fa code)) Q E { s with heap := h', toks := tk' }) :
    wpAny (model PySem.Challenge.rw_tr0037_01.row.prog w) (callerA.deeper (envOfC (Str.ofString "law") lawScope L fa code)) (execs lawRest3 (envOfC (Str.ofString "law") lawScope L fa code)) Q E s := by
  w_top off
  k_with_none
  k_with "CompSrc" => (k_here; k_dflt (refine LCg.CompSrc.ledger (by rfl) (by k_asm) (by k_asm) (by k_mem) (LitAre.size (by assumption)) ?_); intro g'; (refine' pow_rest (by assumption) (fun p' t' I' oI' C' oC' D' m' ys' h' tk' E' hp' hC' hx' F' N' off' ne' => ?_) (fun ys' hys' => ?_)))
  k_with "binaryOp Pow int int" => (k_here; k_dflt (refine' pow_two (by assumption) ?_))
  k_with "CompEnd" => (k_dflt (refine pow_end (by assumption) (by assumption) (by assumption) (.inr ⟨_, by k_mem, rfl, _, rfl⟩)))
  k_with "call builtin:sum" => (k_here; k_dflt (refine' sum_lit ?hh ?F ?N ?m ?I ?_; (case hh => rfl); (case F => k_asm); (case N => k_asm); (case I => assumption); (case m => k_mem); k_whole); intro h' tk' t' F' N')
  k_with "call builtin:str.split" => (k_here; k_dflt (refine' split_words (by assumption) ?F ?N ?_; (case F => k_asm); (case N => k_asm); k_whole); intro D' vs' h' tk' hvs' F' N' l1; (try k_lt l1))
  k_with "call ref" => (k_here; first | ((with_reducible show wpAny _ _ (call (Value.ref 36) _) _ _ _); k_dflt (refine' Ctr.use (c_pfL _ _ _ _ _ (by assumption)) ?k1 ?k2 ?k3 ?k4 ?k5 ?kK ?kP ?kd ?ku ?_; (case k1 => k_asm); (case k2 => k_asm); (case k3 => k_asm); (case k4 => k_asm); (case k5 => k_asm); (case kK => exact rfl); (case kP => trivial); (case kd => ktr_room); (case ku => ktr_units)); intro v9 own9 h9 tk9 F9 N9 l9 p9; (obtain ⟨t91, e91, e92⟩ := p9); subst e91; subst e92; (try simp only [List.cons_append, List.nil_append] at N9); (try dsimp only); (try k_sweep); (try k_fold)) | ((with_reducible show wpAny _ _ (call (Value.ref 116) _) _ _ _); k_dflt (refine' CtrN.use (c_wordsL _ _ _ _ _ (by assumption)) ?k1 ?k2 ?k3 ?k4 ?k5 ?kK ?kP ?kd ?ku ?_; (case k1 => k_asm); (case k2 => k_asm); (case k3 => k_asm); (case k4 => k_asm); (case k5 => k_asm); (case kK => exact rfl); (case kP => exact .tail _ (.tail _ (.head _))); (case kd => ktr_room); (case ku => ktr_units)); intro v9 own9 h9 tk9 F9 N9 l9 p9; (obtain ⟨D9, ws9, e91, e92, hws9⟩ := p9); subst e91; subst e92; (try simp only [List.cons_append, List.nil_append] at N9); (try dsimp only); (try k_sweep); (try k_fold)))
  k_with "compareOp NotEq ref ref" => (k_here; k_dflt (refine' ne_words (by assumption) ?N ?ha ?hb ?hi ?hj ?hu ?_; (case N => k_asm); (case ha => exact .tail _ (.head _)); (case hb => exact .head _); (case hi => assumption); (case hj => assumption); (case hu => ktr_units)))
  revert X T
  k_fill
  intro X T
  rw [hm.eq] at F
  have kM := kstMark
  conv =>
    arg 3
    arg 1
    whnf
  conv =>
    arg 3
    arg 2
    arg 2
    whnf
  conv =>
    arg 2
    arg 2
    arg 2
    whnf
  k_whole
  repeat ((fail_if_success (with_reducible show wpAny _ _ (execs (Stmt.Assign [Expr.Name (Str.ofString "odd") _] _ _ :: _) _) _ _ _)); (first | (k_unfold; (try dsimp only)) | walk1 | (dsimp only; walk1)))
  dsimp only
  exact hnext _ _ _ _ _ (by assumption) ⟨rfl, rfl, rfl, rfl⟩ (cb_drop (by assumption) drop_words) (by assumption)
end
section
open PySem PySem.W PySem.Calls PyProof.Rows PyProof.V PySem.Spec
section
variable {prog : Program} {w : World} {A : Around} {E : Value → Shared → Prop} {s : Shared} {h₀ : Heap} {L : Addr} {news : List (Addr × Obj)}
theorem len_strs {l : Addr} {us : List Value} {ws : List Str} {c k : Nat} {Q : Value → Shared → Prop} (N : News h₀ L s.heap news) (hm : (l, W.listOf us.toArray c) ∈ news) (hW : StrsAre us ws) (hk : ws.length = k) (h32 : k ≤ 32)
    (h : Q (.int (k : Int) (s.toks + 1)) { s with toks := s.toks + 1 + 1 }) : wpAny (model prog w) A (call (.builtin "len") [.ref l]) Q E s :=
  by
  subst hk
  exact kst_len N hm (StrsAre.length hW) (by omega) h
end
theorem LawM3.eq {m : Str → Option Value} {A B M : Nat} {D : Addr} {ta tb tl : Tok} (h : LawM3 m A B M D ta tb tl) : m = fun y => if y = Str.ofString "a" then some (.int (A : Int) ta) else if y = Str.ofString "b" then some (.int (B : Int) tb) else if y = Str.ofString "lamps" then some (.int (M : Int) tl) else if y = Str.ofString "words" then some (.ref D) else m y := by
  funext y
  by_cases h1 : y = Str.ofString "a"
  · rw [if_pos h1, h1]; exact h.a
  by_cases h2 : y = Str.ofString "b"
  · rw [if_neg h1, if_pos h2, h2]; exact h.b
  by_cases h3 : y = Str.ofString "lamps"
  · rw [if_neg h1, if_neg h2, if_pos h3, h3]; exact h.l
  by_cases h4 : y = Str.ofString "words"
  · rw [if_neg h1, if_neg h2, if_neg h3, if_pos h4, h4]; exact h.w
  · rw [if_neg h1, if_neg h2, if_neg h3, if_neg h4]
/-- the names that the end reads -/
structure LawM4 (m : Str → Option Value) (A B : Nat) (odd : Bool) (ta tb : Tok) : Prop where
  a : m (Str.ofString "a") = some (.int (A : Int) ta)
  b : m (Str.ofString "b") = some (.int (B : Int) tb)
  o : m (Str.ofString "odd") = some (.bool odd)
theorem fmod_four (a : Nat) : (a : Int).fmod 4 = ((a % 4 : Nat) : Int) := by
  rw [Int.fmod_eq_emod_of_nonneg _ (by decide)]
  omega
theorem odd_is (A B M x y : Nat) : (((pl A B M x y (Int.toNat 0) : Nat) : Int) + ((pl A B M x y (Int.toNat 1) : Nat) : Int)).fmod 2 = (((x + y) % 2 : Nat) : Int) := by
  rw [Int.fmod_eq_emod_of_nonneg _ (by decide)]
  show ((x : Int) + (y : Int)) % 2 = _
  omega
theorem int_beq (a b : Nat) : ((a : Int) == (b : Int)) = decide (a = b) := by
  by_cases h : a = b
  · rw [decide_eq_true h, h]; exact beq_self_eq_true _
  · rw [decide_eq_false h]; exact beq_eq_false_iff_ne.mpr fun e => h (Int.ofNat.inj e)
theorem odd_bool (A B M x y : Nat) : ((((pl A B M x y (Int.toNat 0) : Nat) : Int) + ((pl A B M x y (Int.toNat 1) : Nat) : Int)).fmod 2 == 1) = decide ((x + y) % 2 = 1) := by
  rw [odd_is]
  exact int_beq _ 1
theorem leaf_no {c M : Nat} {P : Prop} {z k : Int} (h : c = M → P) (hz : z ≠ k) (hP : P → z = k) : ((c : Int) == (M : Int)) = (z == k) := by
  rw [int_beq, beq_eq_false_iff_ne.mpr hz, decide_eq_false fun e => hz (hP (h e))]
theorem leaf_one {A B M x y c : Nat} (hlaw : c = M ↔ (A % 4 = 2 ∧ B % 4 = 3 ∧ (x + y) % 2 = 1)) (h : (A : Int).fmod 4 ≠ 2) : ((c : Int) == (M : Int)) = ((A : Int).fmod 4 == 2) :=
  leaf_no (fun e => (hlaw.mp e).1) h fun e => by rw [fmod_four, e]; rfl
theorem leaf_two {A B M x y c : Nat} (hlaw : c = M ↔ (A % 4 = 2 ∧ B % 4 = 3 ∧ (x + y) % 2 = 1)) (h : (B : Int).fmod 4 ≠ 3) : ((c : Int) == (M : Int)) = ((B : Int).fmod 4 == 3) :=
  leaf_no (fun e => (hlaw.mp e).2.1) h fun e => by rw [fmod_four, e]; rfl
theorem leaf_three {A B M x y c : Nat} (hlaw : c = M ↔ (A % 4 = 2 ∧ B % 4 = 3 ∧ (x + y) % 2 = 1)) (h : (A : Int).fmod 4 = 2) (h2 : (B : Int).fmod 4 = 3) : ((c : Int) == (M : Int)) = ((((pl A B M x y (Int.toNat 0) : Nat) : Int) + ((pl A B M x y (Int.toNat 1) : Nat) : Int)).fmod 2 == 1) := by
  rw [fmod_four] at h h2
  rw [odd_bool, int_beq]
  exact decide_eq_decide.mpr ⟨fun e => (hlaw.mp e).2.2, fun e => hlaw.mpr ⟨Int.ofNat.inj h, Int.ofNat.inj h2, e⟩⟩
theorem ne_same {prog : Program} {w : World} {A : Around} {E : Value → Shared → Prop} {s : Shared} {c d : Bool} {Q : Value → Shared → Prop} (e : c = d) (h : Q (.bool false) s) : wpAny (model prog w) A (compareOp .NotEq (.bool c) (.bool d)) Q E s := by
  subst e
  refine ne_bool ?_
  have e2 : (c != c) = false := by cases c <;> rfl
  rw [e2]
  exact h
noncomputable def lawRest5 : List Stmt := lawStmts.drop 18
set_option maxHeartbeats 2000000 in
theorem law_odd {w : World} {mean : ExcName → Option Value} {mg mb : Str → Option Value} {h₀ : Heap} {L fa : Addr} {code : Value} {m : Str → Option Value} {s : Shared} {Q : Flow → Shared → Prop} {E : Value → Shared → Prop} {A B x y M H c : Nat} {ws : List Str} {vs pvs : List Value} {o1 o2 o3 : Obj} {D P : Addr} {R : List (Addr × Obj)} {ta tb tl : Tok} {k1 : Nat}
    (hn : LawN A B M H) (hI : PlAre (pl A B M x y) M pvs) (hW : StrsAre vs ws) (hc : ws.length = c) (hc32 : c ≤ 32) (hlaw : c = M ↔ (A % 4 = 2 ∧ B % 4 = 3 ∧ (x + y) % 2 = 1))
    (F : Fr h₀ L s.heap m) (X : (hd.heap_39 w.params).In h₀) (N : News h₀ L s.heap ((D, W.listOf vs.toArray 0) :: (L + 1 + 1 + 1, o3) :: (L + 1 + 1, o2) :: (L + 1, o1) :: R))
    (T : Top hd.view_39 (looseW hd.view_39 [Str.ofString "COMPILER_FLAG_NAMES"]) mean mg mb h₀) (hm : LawM3 m A B M D ta tb tl) (hP : (P, W.listOf pvs.toArray k1) ∈ R) (d2 : o2.data = .cell (some (.ref P)))
    (hnext : ∀ m' h' tk' odd, Fr h₀ L h' m' → LawM4 m' A B odd ta tb → odd = decide ((x + y) % 2 = 1) → News h₀ L h' ((L + 1 + 1 + 1, o3) :: (L + 1 + 1, o2) :: (L + 1, o1) :: R) → wpAny (model PySem.Challenge.rw_tr0037_01.row.prog w) (callerA.deeper (envOfC (Str.ofString "law") lawScope L fa code)) (execs lawRest5 (envOfC (Str.ofString "law") lawScope L fa code)) Q E { s with heap := h', toks := tk' }) :
    wpAny (model PySem.Challenge.rw_tr0037_01.row.prog w) (callerA.deeper (envOfC (Str.ofString "law") lawScope L fa code)) (execs lawRest4 (envOfC (Str.ofString "law") lawScope L fa code)) Q E s := by
  w_top off
  k_with_none
  k_with "subscriptTail" => (k_here; (with_reducible show wpAny _ _ (subscriptTail _ _ (Value.ref _) (Value.int _ _)) _ _ _); k_dflt (refine' item_pl ?N ?m ?I ?h0 ?h1 ?hM ?_ ?hs; (case N => k_asm); (case I => assumption); (case m => k_mem); (case h0 => decide); (case h1 => omega); (case hM => assumption); (case hs => with_unfolding_all rfl); k_whole; intro t'))
  k_with "call builtin:len" => (k_here; k_dflt (refine' len_strs ?N ?m ?I ?k ?h ?_; (case N => k_asm); (case I => assumption); (case m => k_mem); (case k => assumption); (case h => assumption); k_whole))
  k_with "compareOp NotEq bool bool" => (k_here; k_dflt (refine' ne_same ?e ?_; (case e => first | exact leaf_one (by assumption) (by assumption) | exact leaf_two (by assumption) (by assumption) | exact leaf_three (by assumption) (by assumption) (by assumption))))
  k_with "execs nil" => (k_here; dsimp only; k_gentoks)
  k_with "execs cons" => (k_here; dsimp only; k_gentoks)
  revert X T
  k_fill
  intro X T
  rw [hm.eq] at F
  have kM := kstMark
  obtain ⟨hlo, hhi, hhalf, hsa, hsb⟩ := hn
  conv =>
    arg 3
    arg 1
    whnf
  conv =>
    arg 3
    arg 2
    arg 2
    whnf
  conv =>
    arg 2
    arg 2
    arg 2
    whnf
  k_whole
  repeat ((fail_if_success (with_reducible show wpAny _ _ (execs (Stmt.Assign [Expr.Name (Str.ofString "greys") _] _ _ :: _) _) _ _ _)); (first | (k_unfold; (try dsimp only)) | walk1 | (dsimp only; walk1)))
  · exact hnext _ _ _ _ (by assumption) ⟨rfl, rfl, rfl⟩ (odd_bool _ _ _ _ _) (cb_drop (by assumption) (fun p hp => .tail _ hp))
  · repeat ((fail_if_success (with_reducible show wpAny _ _ (execs (Stmt.Assign [Expr.Name (Str.ofString "greys") _] _ _ :: _) _) _ _ _)); (first | (k_unfold; (try dsimp only)) | walk1 | (dsimp only; walk1)))
    exact hnext _ _ _ _ (by assumption) ⟨rfl, rfl, rfl⟩ (odd_bool _ _ _ _ _) (cb_drop (by assumption) (fun p hp => .tail _ hp))
  · repeat ((fail_if_success (with_reducible show wpAny _ _ (execs (Stmt.Assign [Expr.Name (Str.ofString "greys") _] _ _ :: _) _) _ _ _)); (first | (k_unfold; (try dsimp only)) | walk1 | (dsimp only; walk1)))
    exact hnext _ _ _ _ (by assumption) ⟨rfl, rfl, rfl⟩ (odd_bool _ _ _ _ _) (cb_drop (by assumption) (fun p hp => .tail _ hp))
end
section
open PySem PySem.W PySem.Calls PyProof.Rows PyProof.V PySem.Spec
/-- the two lights of turn k are half a turn apart -/
noncomputable def greyP (f : Nat → Nat) (c H k : Nat) : Bool := decide (c * f ((k : Int) + (H : Int)).toNat = (c * f ((k : Int)).toNat + 16) % 32)
theorem LawM4.eq {m : Str → Option Value} {A B : Nat} {odd : Bool} {ta tb : Tok} (h : LawM4 m A B odd ta tb) : m = fun y => if y = Str.ofString "a" then some (.int (A : Int) ta) else if y = Str.ofString "b" then some (.int (B : Int) tb) else if y = Str.ofString "odd" then some (.bool odd) else m y := by
  funext y
  by_cases h1 : y = Str.ofString "a"
  · rw [if_pos h1, h1]; exact h.a
  by_cases h2 : y = Str.ofString "b"
  · rw [if_neg h1, if_pos h2, h2]; exact h.b
  by_cases h3 : y = Str.ofString "odd"
  · rw [if_neg h1, if_neg h2, if_pos h3, h3]; exact h.o
  · rw [if_neg h1, if_neg h2, if_neg h3]
theorem c_greyL (w mean mg mb) (l1 l2 : Addr) (p q : Nat) (hp : p < 32) (hq : q < 32) (t1 t2 t3 t4 t5 t6 : Tok) (n1 n2 : Nat) :
    Ctr w mean mg mb 123 [.ref l1, .ref l2] 2 16 (fun _ news n => TkOk n ∧ (l1, lightO p t1 t2 t3 n1) ∈ news ∧ (l2, lightO q t4 t5 t6 n2) ∈ news)
      (fun v own => v = .bool (decide (q = (p + 16) % 32)) ∧ own = []) := by
  obtain ⟨h, l, sa, e1, e2⟩ := grey_any hp hq
  have hc := c_grey w mean mg mb l1 l2 _ _ _ _ _ _ h l sa t1 t2 t3 t4 t5 t6 n1 n2 e1
  rw [e2] at hc
  exact hc
/-- a light of the hue p, on the ledger -/
structure LightAt (R : List (Addr × Obj)) (D : Addr) (p : Nat) : Prop where
  at' : ∃ t1 t2 t3 k, (D, lightO p t1 t2 t3 k) ∈ R
theorem c_greyR (w mean mg mb) {l1 l2 : Addr} {p q : Nat} {R : List (Addr × Obj)} (h1 : LightAt R l1 p) (h2 : LightAt R l2 q) (hp : p < 32) (hq : q < 32) :
    Ctr w mean mg mb 123 [.ref l1, .ref l2] 2 16 (fun _ news n => TkOk n ∧ ∀ x ∈ R, x ∈ news) (fun v own => v = .bool (decide (q = (p + 16) % 32)) ∧ own = []) := by
  obtain ⟨t1, t2, t3, n1, e1⟩ := h1.at'
  obtain ⟨t4, t5, t6, n2, e2⟩ := h2.at'
  intro dp un gd cn cs a9 ccd cl outer A₀ base h₀ L m news s Q E B F X N T hk hp' hd hu ret
  exact c_greyL w mean mg mb l1 l2 p q hp hq t1 t2 t3 t4 t5 t6 n1 n2 dp un gd cn cs a9 ccd cl outer A₀ base h₀ L m news s Q E B F X N T hk ⟨hp'.1, hp'.2 _ e1, hp'.2 _ e2⟩ hd hu ret
theorem tails6 {a b c d e f : Addr × Obj} {R : List (Addr × Obj)} : ∀ x ∈ R, x ∈ a :: b :: c :: d :: e :: f :: R := fun _ hx => .tail _ (.tail _ (.tail _ (.tail _ (.tail _ (.tail _ hx)))))
/-- the lights, on the ledger -/
structure LightsOn (f : Nat → Nat) (c M : Nat) (lvs : List Value) (R : List (Addr × Obj)) : Prop where
  on : ∀ i < M, ∃ D t1 t2 t3 k, lvs[i]? = some (.ref D) ∧ (D, lightO (c * f i) t1 t2 t3 k) ∈ R
theorem LightsAre.onR {f : Nat → Nat} {c M : Nat} {lvs : List Value} {los R : List (Addr × Obj)} (h : LightsAre f c M lvs los) (hR : ∀ p ∈ los, p ∈ R) : LightsOn f c M lvs R :=
  ⟨fun i hi => by obtain ⟨D, t1, t2, t3, k, h1, h2⟩ := h.on i hi; exact ⟨D, t1, t2, t3, k, h1, hR _ h2⟩⟩
section
variable {prog : Program} {w : World} {A : Around} {E : Value → Shared → Prop} {s : Shared} {h₀ : Heap} {L : Addr} {m : Str → Option Value} {env : Env} {news : List (Addr × Obj)}
theorem item_light {value slice : PySem.Expr} {l : Addr} {vs : List Value} {c' c M : Nat} {f : Nat → Nat} {R : List (Addr × Obj)} {j : Int} {u : Tok} {Q : Value → Shared → Prop} (N : News h₀ L s.heap news) (hm : (l, W.listOf vs.toArray c') ∈ news) (hI : LightsOn f c M vs R) (h0 : 0 ≤ j) (h1 : j < (M : Int)) (hM : M ≤ 32)
    (h : ∀ D, LightAt R D (c * f j.toNat) → Q (.ref D) s) (hs : subscripted slice false (.ref l) (.int j u) = operate [.ref l, .int j u] (getItem (.ref l) (.int j u)) := by with_unfolding_all rfl) :
    wpAny (model prog w) A (subscriptTail value slice (.ref l) (.int j u)) Q E s := by
  obtain ⟨D, t1, t2, t3, k, ht, hD⟩ := hI.on j.toNat (by omega)
  exact item_litK ⟨_, (N _ hm).1, rfl, c', rfl⟩ h0 (by omega) ht (h D ⟨t1, t2, t3, k, hD⟩) hs
theorem filt_lights {ct elt : Expr} {x : Str} {scope : Scope} {cl : List (Str × Addr)} {S : List (Addr × Obj) → Prop} {Fin : List Value → List (Addr × Obj) → Prop} {n M c : Nat} {f : Nat → Nat} {vs : List Value} {R : List (Addr × Obj)} (_hI : LightsOn f c M vs R)
    (turn : ∀ (k : Nat) t I oI C oC D m₂ ys h tk (E' : Value → Shared → Prop), k < n → LCg.NsObj oC m₂ → m₂ x = some (.int (k : Int) t) → Fr h₀ L h m → News h₀ L h ((I, oI) :: (C, oC) :: (D, LCg.lst ys) :: news) → LCg.Off3 I C D news → ((@Ne Nat I C) ∧ (@Ne Nat I D) ∧ (@Ne Nat C D)) →
      wpAny (model prog w) A (isTrue ct (compEnvC scope cl C env) (eval ct (compEnvC scope cl C env))) (fun b s' => if b = true then wpAny (model prog w) A (eval elt (compEnvC scope cl C env)) (LCg.CompEnd h₀ L m { s with heap := h, toks := tk } I oI C oC D (LCg.lst ys) S (fun y news' => FiltEl (greyP f c n) k news y news')) E' s'
        else LCg.CompEnd h₀ L m { s with heap := h, toks := tk } I oI C oC D (LCg.lst ys) S (fun _ news' => FiltNo (greyP f c n) k news news') Value.none s') E' { s with heap := h, toks := tk })
    (fin : ∀ ys, IntsAre ys (((List.range n).filter (greyP f c n)).map fun k : Nat => (k : Int)) → Fin ys news) : LCt.CompRestT prog w A h₀ L m env ct elt x scope cl s S (fun i v => ∃ t, v = .int (0 + (i : Int)) t) Fin n 0 [] news := filt_range (greyP f c n) turn fin
theorem len_ints {l : Addr} {us : List Value} {ws : List Nat} {k : Nat} {Q : Value → Shared → Prop} (N : News h₀ L s.heap news) (hm : (l, LCg.lst us) ∈ news) (hW : IntsAre us (ws.map fun k : Nat => (k : Int))) (hk : ws.length = k) (h32 : k ≤ 32)
    (h : Q (.int (k : Int) (s.toks + 1)) { s with toks := s.toks + 1 + 1 }) : wpAny (model prog w) A (call (.builtin "len") [.ref l]) Q E s := by
  subst hk
  have := hW.length
  rw [List.length_map] at this
  exact kst_len (us := us) (c := us.length) N hm this (by omega) h
theorem eq_same {c d : Bool} {Q : Value → Shared → Prop} (e : c = d) (h : Q (.bool true) s) : wpAny (model prog w) A (compareOp .Eq (.bool c) (.bool d)) Q E s := by
  subst e
  refine eq_bool ?_
  have e2 : (c == c) = true := by cases c <;> rfl
  rw [e2]
  exact h
end
theorem fmod_two (a : Nat) : (a : Int).fmod 2 = ((a % 2 : Nat) : Int) := by
  rw [Int.fmod_eq_emod_of_nonneg _ (by decide)]
  omega
theorem grey_one {A B H x y c : Nat} (hlaw : c = H ↔ (A % 4 = 2 ∧ B % 2 = 1 ∧ (x + y) % 2 = 1)) (h : (A : Int).fmod 4 ≠ 2) : ((c : Int) == (H : Int)) = ((A : Int).fmod 4 == 2) :=
  leaf_no (fun e => (hlaw.mp e).1) h fun e => by rw [fmod_four, e]; rfl
theorem grey_two {A B H x y c : Nat} (hlaw : c = H ↔ (A % 4 = 2 ∧ B % 2 = 1 ∧ (x + y) % 2 = 1)) (h : (B : Int).fmod 2 ≠ 1) : ((c : Int) == (H : Int)) = ((B : Int).fmod 2 == 1) :=
  leaf_no (fun e => (hlaw.mp e).2.1) h fun e => by rw [fmod_two, e]; rfl
theorem grey_three {A B H x y c : Nat} (hlaw : c = H ↔ (A % 4 = 2 ∧ B % 2 = 1 ∧ (x + y) % 2 = 1)) (h : (A : Int).fmod 4 = 2) (h2 : (B : Int).fmod 2 = 1) : ((c : Int) == (H : Int)) = decide ((x + y) % 2 = 1) := by
  rw [fmod_four] at h
  rw [fmod_two] at h2
  rw [int_beq]
  exact decide_eq_decide.mpr ⟨fun e => (hlaw.mp e).2.2, fun e => hlaw.mpr ⟨Int.ofNat.inj h, Int.ofNat.inj h2, e⟩⟩
structure HalfOk (H : Nat) : Prop where
  hi : H ≤ 32
structure LightLt (f : Nat → Nat) (c : Nat) : Prop where
  lt : ∀ n, c * f n < 32
set_option maxHeartbeats 2000000 in
theorem law_grey {w : World} {mean : ExcName → Option Value} {mg mb : Str → Option Value} {h₀ : Heap} {L fa : Addr} {code : Value} {m : Str → Option Value} {s : Shared} {Q : Flow → Shared → Prop} {E : Value → Shared → Prop} {A B x y M H c g : Nat} {f : Nat → Nat} {lvs : List Value} {o1 o2 o3 : Obj} {Lt : Addr} {R : List (Addr × Obj)} {ta tb th : Tok} {k2 : Nat}
    (hlo : 8 ≤ M) (hhi : M ≤ 32) (hhalf : M = 2 * H) (hH : HalfOk H) (hI : LightsOn f c M lvs R) (hlt : LightLt f c) (hg : ((List.range H).filter (greyP f c H)).length = g) (hg32 : g ≤ 32) (hlaw : g = H ↔ (A % 4 = 2 ∧ B % 2 = 1 ∧ (x + y) % 2 = 1))
    (K0 : Below callerA h₀ [] h₀) (F : Fr h₀ L s.heap m) (X : (hd.heap_39 w.params).In h₀) (N : News h₀ L s.heap ((L + 1 + 1 + 1, o3) :: (L + 1 + 1, o2) :: (L + 1, o1) :: R))
    (T : Top hd.view_39 (looseW hd.view_39 [Str.ofString "COMPILER_FLAG_NAMES"]) mean mg mb h₀) (hm : LawM4 m A B (decide ((x + y) % 2 = 1)) ta tb) (hLt : (Lt, W.listOf lvs.toArray k2) ∈ R) (d1 : o1.data = .cell (some (.int (H : Int) th))) (d3 : o3.data = .cell (some (.ref Lt)))
    (hret : ∀ m' h' tk', Fr h₀ L h' m' → Q (.ret (.bool true)) { s with heap := h', toks := tk' }) :
    wpAny (model PySem.Challenge.rw_tr0037_01.row.prog w) (callerA.deeper (envOfC (Str.ofString "law") lawScope L fa code)) (execs lawRest5 (envOfC (Str.ofString "law") lawScope L fa code)) Q E s := by
  w_top off
  k_with_none
  k_with "execs nil" => (k_here; dsimp only; k_gentoks)
  k_with "execs cons" => (k_here; dsimp only; k_gentoks)
  k_with "subscriptTail" => (k_here; (with_reducible show wpAny _ _ (subscriptTail _ _ (Value.ref _) (Value.int _ _)) _ _ _); k_dflt (refine' item_light ?N ?m ?I ?h0 ?h1 ?hM ?_ ?hs; (case N => k_asm); (case I => assumption); (case m => k_mem); (case h0 => omega); (case h1 => omega); (case hM => assumption); (case hs => with_unfolding_all rfl); k_whole; intro D' hD'))
  k_with "call builtin:len" => (k_here; k_dflt (refine' len_ints ?N ?m ?I ?k ?h ?_; (case N => k_asm); (case I => assumption); (case m => k_mem); (case k => assumption); (case h => assumption); k_whole))
  k_with "compareOp Eq bool bool" => (k_here; k_dflt (refine' eq_same ?e ?_; (case e => first | exact grey_one (by assumption) (by assumption) | exact grey_two (by assumption) (by assumption) | exact grey_three (by assumption) (by assumption) (by assumption))))
  k_with "CompSrcT" => (k_here; k_dflt (refine LCt.CompSrcT.range (by rfl) (by k_asm) (by k_asm) (by assumption) (range_fit (HalfOk.hi (by assumption))).1 (range_fit (HalfOk.hi (by assumption))).2.1 (range_fit (HalfOk.hi (by assumption))).2.2 ?_); intro g'; (refine' filt_lights (by assumption) (fun k' t' I' oI' C' oC' D' m' ys' h' tk' E' hk' hC' hx' F' N' off' ne' => ?_) (fun ys' hys' => ?_)))
  k_with "call ref" => (k_here; ((with_reducible show wpAny _ _ (call (Value.ref 123) _) _ _ _); k_dflt (refine' Ctr.use (c_greyR _ _ _ _ (by assumption) (by assumption) (LightLt.lt (by assumption) _) (LightLt.lt (by assumption) _)) ?k1 ?k2 ?k3 ?k4 ?k5 ?kK ⟨?kT, ?kP⟩ ?kd ?ku ?_; (case k1 => k_asm); (case k2 => k_asm); (case k3 => k_asm); (case k4 => k_asm); (case k5 => k_asm); (case kP => exact tails6); (case kK => exact rfl); (case kT => (first | assumption | exact ⟨Nat.le_add_left _ _⟩ | ((rename TkOk _ => hTk); exact ⟨Nat.le_trans hTk.pos (Nat.le_add_right _ _)⟩) | (dsimp only; (rename TkOk _ => hTk); (have hTk1 := hTk.pos); exact ⟨by omega⟩))); (case kd => ktr_room); (case ku => ktr_units)); intro v9 own9 h9 tk9 F9 N9 l9 p9; (obtain ⟨e91, e92⟩ := p9); subst e91; subst e92; (try simp only [List.cons_append, List.nil_append] at N9); (try dsimp only); (try k_sweep); (try k_fold)))
  revert X T
  k_fill
  intro X T
  rw [hm.eq] at F
  have kM := kstMark
  conv =>
    arg 3
    arg 1
    whnf
  conv =>
    arg 3
    arg 2
    arg 2
    whnf
  conv =>
    arg 2
    arg 2
    arg 2
    whnf
  k_whole
  repeat (first | (k_unfold; (try dsimp only)) | walk1 | (dsimp only; walk1))
  · exact filt_yes (by assumption) (by assumption) (by assumption) (by first | assumption | exact decide_eq_true (by assumption))
  · exact filt_no (by assumption) (by assumption) (by assumption) (by first | assumption | exact decide_eq_false (by assumption))
  (rename IntsAre _ _ => hys9)
  intro D h tk F9 N9 O9
  dsimp only
  repeat (first | (k_unfold; (try dsimp only)) | walk1 | (dsimp only; walk1))
  · dsimp only
    exact hret _ _ _ (by assumption)
  · repeat (first | (k_unfold; (try dsimp only)) | walk1 | (dsimp only; walk1))
    dsimp only
    exact hret _ _ _ (by assumption)
  · repeat (first | (k_unfold; (try dsimp only)) | walk1 | (dsimp only; walk1))
    dsimp only
    exact hret _ _ _ (by assumption)
end
section
open PySem PySem.W PySem.Calls PyProof.Rows PyProof.V PySem.Spec
/-- which places of 0..7 are met, as bits -/
noncomputable def hits (a b : Nat) : Nat → Nat → Nat → Nat → Nat
  | 0, _, _, mask => mask
  | n + 1, p, q, mask => hits a b n q ((a * q + b * p) % 8) (mask ||| 2 ^ p)
noncomputable def clsB (a b x y : Nat) : Bool := a % 4 == 2 && b % 4 == 3 && (x + y) % 2 == 1
noncomputable def hitRow (a b : Nat) : Bool := (List.range 8).all fun x => (List.range 8).all fun y => (hits a b 32 x y 0 == 255) == clsB a b x y
theorem hit_0 : (List.range 8).all (hitRow 0) = true := by decide +kernel
theorem hit_1 : (List.range 8).all (hitRow 1) = true := by decide +kernel
theorem hit_2 : (List.range 8).all (hitRow 2) = true := by decide +kernel
theorem hit_3 : (List.range 8).all (hitRow 3) = true := by decide +kernel
theorem hit_4 : (List.range 8).all (hitRow 4) = true := by decide +kernel
theorem hit_5 : (List.range 8).all (hitRow 5) = true := by decide +kernel
theorem hit_6 : (List.range 8).all (hitRow 6) = true := by decide +kernel
theorem hit_7 : (List.range 8).all (hitRow 7) = true := by decide +kernel
noncomputable def leapChk (M H t A B : Nat) : Bool :=
  let p := (leapF (A : Int) B M t).1
  let q := (leapF (A : Int) B M t).2.1
  if A % 4 == 2 && B % 2 == 1 then p == 1 + (H : Int) && q == (H : Int)
  else if A % 4 == 0 && B % 2 == 1 then p == 1 && q == 0
  else if A % 2 == 1 && B % 2 == 0 then (List.range H).any fun e => (q * (B : Int) - 2 * (e : Int) * (p - 1)) % (M : Int) == 0 && ((p - 1) + q * (A : Int) - 2 * (e : Int) * q) % (M : Int) == 0
  else true
theorem leap_8 : ((List.range 13).all fun A => (List.range 13).all fun B => leapChk 8 4 2 A B) = true := by decide +kernel
theorem leap_16 : ((List.range 13).all fun A => (List.range 13).all fun B => leapChk 16 8 3 A B) = true := by decide +kernel
theorem leap_32 : ((List.range 13).all fun A => (List.range 13).all fun B => leapChk 32 16 4 A B) = true := by decide +kernel
/-- a place that is met is a bit of hits, and a bit of hits is met -/
theorem hits_pl (A B x y : Nat) : ∀ (n k mask r : Nat), (hits A B n (pl A B 8 x y k) (pl A B 8 x y (k + 1)) mask).testBit r = true ↔ mask.testBit r = true ∨ ∃ i, i < n ∧ pl A B 8 x y (k + i) = r
  | 0, k, mask, r => by
    show mask.testBit r = true ↔ _
    simp
  | n + 1, k, mask, r => by
    have ih := hits_pl A B x y n (k + 1) (mask ||| 2 ^ pl A B 8 x y k) r
    show (hits A B n (pl A B 8 x y (k + 1)) (pl A B 8 x y (k + 2)) (mask ||| 2 ^ pl A B 8 x y k)).testBit r = true ↔ _
    rw [ih, Nat.testBit_or, Nat.testBit_two_pow]
    simp only [Bool.or_eq_true, decide_eq_true_eq]
    constructor
    · rintro ((h | h) | ⟨i, hi, h⟩)
      · exact .inl h
      · exact .inr ⟨0, Nat.succ_pos _, h⟩
      · exact .inr ⟨i + 1, by omega, by rw [← h]; congr 1; omega⟩
    · rintro (h | ⟨i, hi, h⟩)
      · exact .inl (.inl h)
      · cases i with
        | zero => exact .inl (.inr h)
        | succ i => exact .inr ⟨i, by omega, by rw [← h]; congr 1; omega⟩
theorem bits_255 {m : Nat} (h : m = 255) (r : Nat) (hr : r < 8) : m.testBit r = true := by
  subst h
  have H : ∀ r : Nat, r < 8 → Nat.testBit 255 r = true := by decide
  exact H r hr
theorem bits_all {m : Nat} (hm : m < 256) (h : ∀ r, r < 8 → m.testBit r = true) : m = 255 := by
  apply Nat.eq_of_testBit_eq
  intro i
  by_cases hi : i < 8
  · rw [h i hi, bits_255 rfl i hi]
  · have h1 : 2 ^ 8 ≤ 2 ^ i := Nat.pow_le_pow_right (by decide) (by omega)
    have h2 : m < 2 ^ i := Nat.lt_of_lt_of_le hm h1
    have h3 : 255 < 2 ^ i := Nat.lt_of_lt_of_le (by decide : 255 < 2 ^ 8) h1
    rw [Nat.testBit_lt_two_pow h2, Nat.testBit_lt_two_pow h3]
theorem hits_lt (a b : Nat) : ∀ (n p q mask : Nat), p < 8 → q < 8 → mask < 256 → hits a b n p q mask < 256
  | 0, _, _, _, _, _, h => h
  | n + 1, p, q, mask, hp, hq, h => hits_lt a b n q _ _ hq (Nat.mod_lt _ (by decide)) (by
    have h1 : 2 ^ p < 2 ^ 8 := Nat.pow_lt_pow_right (by decide) hp
    exact Nat.or_lt_two_pow (n := 8) h h1)
theorem hit_any {a b x y : Nat} (ha : a < 8) (hb : b < 8) (hx : x < 8) (hy : y < 8) : (∀ r, r < 8 → ∃ i, i < 32 ∧ pl a b 8 x y i = r) ↔ (a % 4 = 2 ∧ b % 4 = 3 ∧ (x + y) % 2 = 1) := by
  have hrow : hitRow a b = true := by
    have hb' := List.mem_range.mpr hb
    match a, ha with
    | 0, _ => exact List.all_eq_true.mp hit_0 b hb'
    | 1, _ => exact List.all_eq_true.mp hit_1 b hb'
    | 2, _ => exact List.all_eq_true.mp hit_2 b hb'
    | 3, _ => exact List.all_eq_true.mp hit_3 b hb'
    | 4, _ => exact List.all_eq_true.mp hit_4 b hb'
    | 5, _ => exact List.all_eq_true.mp hit_5 b hb'
    | 6, _ => exact List.all_eq_true.mp hit_6 b hb'
    | 7, _ => exact List.all_eq_true.mp hit_7 b hb'
    | n + 8, h => exact absurd h (Nat.not_lt.mpr (Nat.le_add_left 8 n))
  unfold hitRow at hrow
  have h1 := List.all_eq_true.mp (List.all_eq_true.mp hrow x (List.mem_range.mpr hx)) y (List.mem_range.mpr hy)
  have h2 : (hits a b 32 x y 0 == 255) = clsB a b x y := eq_of_beq h1
  have h3 : clsB a b x y = true ↔ (a % 4 = 2 ∧ b % 4 = 3 ∧ (x + y) % 2 = 1) := by
    unfold clsB
    rw [Bool.and_eq_true, Bool.and_eq_true, beq_iff_eq, beq_iff_eq, beq_iff_eq, and_assoc]
  rw [← h3, ← h2, beq_iff_eq]
  have hp := hits_pl a b x y 32 0 0
  have e0 : pl a b 8 x y 0 = x := rfl
  have e1 : pl a b 8 x y (0 + 1) = y := rfl
  rw [e0, e1] at hp
  constructor
  · intro h
    refine bits_all (hits_lt a b 32 x y 0 hx hy (by decide)) fun r hr => ?_
    obtain ⟨i, hi, e⟩ := h r hr
    exact (hp r).mpr (.inr ⟨i, hi, by rw [Nat.zero_add]; exact e⟩)
  · intro h r hr
    rcases (hp r).mp (bits_255 h r hr) with h' | ⟨i, hi, e⟩
    · rw [Nat.zero_testBit] at h'; cases h'
    · exact ⟨i, hi, by rw [Nat.zero_add] at e; exact e⟩
/-- the same recurrence by a divisor -/
theorem pl_mod {A B M d x y : Nat} (hd : d ∣ M) : ∀ n, pl A B M x y n % d = pl A B d (x % d) (y % d) n % d
  | 0 => by show x % d = x % d % d; rw [Nat.mod_mod]
  | 1 => by show y % d = y % d % d; rw [Nat.mod_mod]
  | n + 2 => by
    have h1 := pl_mod (A := A) (B := B) (x := x) (y := y) hd (n + 1)
    have h2 := pl_mod (A := A) (B := B) (x := x) (y := y) hd n
    show (A * pl A B M x y (n + 1) + B * pl A B M x y n) % M % d = (A * pl A B d (x % d) (y % d) (n + 1) + B * pl A B d (x % d) (y % d) n) % d % d
    rw [Nat.mod_mod_of_dvd _ hd, Nat.mod_mod, Nat.add_mod, Nat.mul_mod, h1, ← Nat.mul_mod, Nat.mul_mod B, h2, ← Nat.mul_mod, ← Nat.add_mod]
theorem pl_ab {A B d x y : Nat} (hx : x < d) (hy : y < d) : ∀ n, pl A B d x y n = pl (A % d) (B % d) d x y n
  | 0 => rfl
  | 1 => rfl
  | n + 2 => by
    have h1 := pl_ab (A := A) (B := B) hx hy (n + 1)
    have h2 := pl_ab (A := A) (B := B) hx hy n
    show (A * pl A B d x y (n + 1) + B * pl A B d x y n) % d = (A % d * pl (A % d) (B % d) d x y (n + 1) + B % d * pl (A % d) (B % d) d x y n) % d
    rw [← h1, ← h2]
    generalize pl A B d x y (n + 1) = u
    generalize pl A B d x y n = v
    have ea : A % d * u % d = A * u % d := by rw [Nat.mul_mod, Nat.mod_mod, ← Nat.mul_mod]
    have eb : B % d * v % d = B * v % d := by rw [Nat.mul_mod, Nat.mod_mod, ← Nat.mul_mod]
    rw [Nat.add_mod (A * u), Nat.add_mod (A % d * u), ea, eb]
end
section
open PySem PySem.W PySem.Calls PyProof.Rows PyProof.V PySem.Spec
noncomputable def Shift (f : Nat → Nat) (M H : Nat) : Prop := ∀ i, i < H → f (i + H) = (f i + H) % M
theorem leap_cgH {A B M x y pw c H : Nat} (hp : PowIs pw M c H) (n : Nat) : Cg M (pl A B M x y (n + H)) ((leapF (A : Int) B M (2 + pw)).1 * pl A B M x y n + (leapF (A : Int) B M (2 + pw)).2.1 * pl A B M x y (n + 1)) := by
  have h2 := (leap_cg (x := x) (y := y) (2 + pw) _ _ _ _ (rfl : leapF (A : Int) B M (2 + pw) = ((leapF (A : Int) B M (2 + pw)).1, (leapF (A : Int) B M (2 + pw)).2.1, (leapF (A : Int) B M (2 + pw)).2.2.1, (leapF (A : Int) B M (2 + pw)).2.2.2)) n).1
  have e3 : 2 ^ (2 + pw) = H := by rw [hp.eqH, Nat.pow_add]
  rw [e3] at h2
  exact h2
theorem mul_odd {A u v B : Nat} (hA : A % 2 = 0) (hB : B % 2 = 1) : (A * u + B * v) % 2 = v % 2 := by
  rw [Nat.add_mod, Nat.mul_mod, hA, Nat.mul_mod B, hB]
  simp
theorem par {A B M x y : Nat} (hM : 2 ∣ M) (hA : A % 2 = 0) (hB : B % 2 = 1) : ∀ n, (pl A B M x y n + pl A B M x y (n + 1)) % 2 = (x + y) % 2
  | 0 => rfl
  | n + 1 => by
    have ih := par (x := x) (y := y) hM hA hB n
    have h : pl A B M x y (n + 2) % 2 = pl A B M x y n % 2 := by
      show (A * pl A B M x y (n + 1) + B * pl A B M x y n) % M % 2 = _
      rw [Nat.mod_mod_of_dvd _ hM, mul_odd hA hB]
    show (pl A B M x y (n + 1) + pl A B M x y (n + 2)) % 2 = _
    omega
theorem dvd_of_mod {a b : Int} (h : a % b = 0) : ∃ k, a = b * k := ⟨a / b, by have := Int.emod_add_mul_ediv a b; omega⟩
theorem chk_two {M H t A B : Nat} (h : leapChk M H t A B = true) (h1 : A % 4 = 2) (h2 : B % 2 = 1) : (leapF (A : Int) B M t).1 = 1 + (H : Int) ∧ (leapF (A : Int) B M t).2.1 = (H : Int) := by
  unfold leapChk at h
  simp only [h1, h2] at h
  simpa using h
theorem chk_four {M H t A B : Nat} (h : leapChk M H t A B = true) (h1 : A % 4 = 0) (h2 : B % 2 = 1) : (leapF (A : Int) B M t).1 = 1 ∧ (leapF (A : Int) B M t).2.1 = 0 := by
  unfold leapChk at h
  simp only [h1, h2] at h
  simpa using h
theorem chk_odd {M H t A B : Nat} (h : leapChk M H t A B = true) (h1 : A % 2 = 1) (h2 : B % 2 = 0) : ∃ e k1 k2 : Int, (leapF (A : Int) B M t).2.1 * (B : Int) = 2 * e * ((leapF (A : Int) B M t).1 - 1) + M * k1 ∧ ((leapF (A : Int) B M t).1 - 1) + (leapF (A : Int) B M t).2.1 * (A : Int) = 2 * e * (leapF (A : Int) B M t).2.1 + M * k2 := by
  unfold leapChk at h
  have e1 : (A % 4 == 2 && B % 2 == 1) = false := by simp [h2]
  have e2 : (A % 4 == 0 && B % 2 == 1) = false := by simp [h2]
  have e3 : (A % 2 == 1 && B % 2 == 0) = true := by simp [h1, h2]
  simp only [e1, e2, e3, Bool.false_eq_true, if_false, if_true] at h
  obtain ⟨e, _, he⟩ := List.any_eq_true.mp h
  rw [Bool.and_eq_true, beq_iff_eq, beq_iff_eq] at he
  obtain ⟨k1, hk1⟩ := dvd_of_mod he.1
  obtain ⟨k2, hk2⟩ := dvd_of_mod he.2
  exact ⟨e, k1, k2, by omega, by omega⟩
theorem no_fix {x M H : Nat} (hM : M = 2 * H) (hH : 2 < H) (hx : x < M) : (x + H) % M ≠ x := by
  intro e
  by_cases h : x + H < M
  · rw [Nat.mod_eq_of_lt h] at e; omega
  · rw [Nat.mod_eq_sub_mod (Nat.le_of_not_lt h), Nat.mod_eq_of_lt (by omega)] at e; omega
/-- what is congruent to a place is the place -/
theorem Cg.nat {M : Nat} {w z : Nat} (h : Cg (M : Int) (w : Int) (z : Int)) (hw : w < M) : w = z % M := by
  have h2 := h.toEq
  have h3 : ((w % M : Nat) : Int) = ((z % M : Nat) : Int) := by rw [Int.natCast_emod, Int.natCast_emod]; exact h2
  have h4 := Int.ofNat.inj h3
  rw [Nat.mod_eq_of_lt hw] at h4
  exact h4
theorem half_odd {u v H M j : Int} (hM : M = 2 * H) (h : u + v = 2 * j + 1) : (1 + H) * u + H * v = u + H + M * j := by
  have e : (1 + H) * u + H * v = u + H * (u + v) := by rw [Int.add_mul, Int.mul_add, Int.one_mul, Int.add_assoc]
  rw [e, h, hM, Int.mul_add, Int.mul_one, ← Int.mul_assoc, Int.mul_comm H 2]
  omega
theorem half_even {u v H M j : Int} (hM : M = 2 * H) (h : u + v = 2 * j) : (1 + H) * u + H * v = u + M * j := by
  have e : (1 + H) * u + H * v = u + H * (u + v) := by rw [Int.add_mul, Int.mul_add, Int.one_mul, Int.add_assoc]
  rw [e, h, hM, ← Int.mul_assoc, Int.mul_comm H 2]
theorem PowIs.halfI {pw M c H : Nat} (h : PowIs pw M c H) : (M : Int) = 2 * (H : Int) := by rw [h.half]; push_cast; rfl
theorem shift_yes {A B M x y pw c H : Nat} (hp : PowIs pw M c H) (hc : leapChk M H (2 + pw) A B = true) (hx : x < M) (hy : y < M) (h1 : A % 4 = 2) (h2 : B % 2 = 1) (h3 : (x + y) % 2 = 1) (i : Nat) : pl A B M x y (i + H) = (pl A B M x y i + H) % M := by
  obtain ⟨e1, e2⟩ := chk_two hc h1 h2
  obtain ⟨k, hk⟩ := leap_cgH (A := A) (B := B) (x := x) (y := y) hp i
  have hpar := par (x := x) (y := y) (⟨H, hp.half⟩ : 2 ∣ M) (by omega : A % 2 = 0) h2 i
  rw [h3] at hpar
  rw [e1, e2] at hk
  obtain ⟨j, hj⟩ : ∃ j : Int, (pl A B M x y i : Int) + (pl A B M x y (i + 1) : Int) = 2 * j + 1 := ⟨((pl A B M x y i + pl A B M x y (i + 1)) / 2 : Nat), by omega⟩
  refine Cg.nat ⟨j + k, ?_⟩ (pl_lt hx hy (i + H))
  rw [hk, half_odd hp.halfI hj, Int.mul_add, Int.natCast_add]
  omega
theorem shift_sum {A B M x y pw c H : Nat} (hp : PowIs pw M c H) (h : Shift (pl A B M x y) M H) : (A + B) % 2 = 1 := by
  have hH := hp.facts.2.2.1
  have s0 := h 0 (by omega)
  have s1 := h 1 (by omega)
  have s2 := h 2 hH
  have e : pl A B M x y (2 + H) = (A * pl A B M x y (1 + H) + B * pl A B M x y (0 + H)) % M := by
    rw [Nat.add_comm 2 H, Nat.add_comm 1 H, Nat.zero_add]
    rfl
  have e2 : pl A B M x y 2 = (A * pl A B M x y 1 + B * pl A B M x y 0) % M := rfl
  rw [s0, s1, s2, e2] at e
  generalize pl A B M x y 1 = u at e
  generalize pl A B M x y 0 = v at e
  have e3 : (A * ((u + H) % M) + B * ((v + H) % M)) % M = (A * u + B * v + (A + B) * H) % M := by
    have ea : A * ((u + H) % M) % M = A * (u + H) % M := by rw [Nat.mul_mod, Nat.mod_mod, ← Nat.mul_mod]
    have eb : B * ((v + H) % M) % M = B * (v + H) % M := by rw [Nat.mul_mod, Nat.mod_mod, ← Nat.mul_mod]
    rw [Nat.add_mod, ea, eb, ← Nat.add_mod]
    congr 1
    rw [Nat.mul_add, Nat.mul_add, Nat.add_mul, Nat.add_add_add_comm]
  rw [e3] at e
  generalize A * u + B * v = W at e
  rcases Nat.mod_two_eq_zero_or_one (A + B) with hz | hz
  · exfalso
    have h5 : (A + B) * H = M * ((A + B) / 2) := by
      have h6 : A + B = 2 * ((A + B) / 2) := by omega
      rw [hp.half, Nat.mul_assoc, Nat.mul_comm H, ← Nat.mul_assoc, ← h6]
    rw [h5, Nat.add_mul_mod_self_left] at e
    exact no_fix hp.half hH (Nat.mod_lt W (by have := hp.facts.1; omega)) e
  · exact hz
theorem ring_a (m e h k : Int) (w : m * e = 2 * h * e) : 2 * e * (h + m * k) = m * e + m * (2 * e * k) := by grind
theorem ring_b (m a b c d e f g : Int) : m * (a + b + c + d + e + f - g) = m * a + m * b + m * c + m * d + m * e + m * f - m * g := by grind
theorem no_odd {A B M H : Nat} {p q e k1 k2 a1 a2 a3 f0 f1 f2 g0 g1 : Int} (hM : (M : Int) = 2 * (H : Int)) (h1 : q * (B : Int) = 2 * e * (p - 1) + M * k1) (h2 : (p - 1) + q * (A : Int) = 2 * e * q + M * k2)
    (s0 : g0 = p * f0 + q * f1 + M * a1) (s1 : g1 = p * f1 + q * f2 + M * a2) (s2 : f2 = (A : Int) * f1 + (B : Int) * f0 + M * a3) (t0 : ∃ j, g0 = f0 + H + M * j) (t1 : ∃ j, g1 = f1 + H + M * j) : ∃ K : Int, (H : Int) = M * K := by
  obtain ⟨j0, t0⟩ := t0
  obtain ⟨j1, t1⟩ := t1
  refine ⟨e + 2 * e * (j0 - a1) + k2 * f1 + k1 * f0 + q * a3 + a2 - j1, ?_⟩
  have u0 : (p - 1) * f0 + q * f1 = H + M * (j0 - a1) := by rw [Int.sub_mul, Int.mul_sub]; omega
  have u1 : (p - 1) * f1 + q * f2 = H + M * (j1 - a2) := by rw [Int.sub_mul, Int.mul_sub]; omega
  have w1 : q * (B : Int) * f0 = (2 * e * (p - 1) + M * k1) * f0 := by rw [h1]
  have w2 : ((p - 1) + q * (A : Int)) * f1 = (2 * e * q + M * k2) * f1 := by rw [h2]
  have w3 : q * f2 = q * ((A : Int) * f1 + (B : Int) * f0 + M * a3) := by rw [s2]
  have w4 : 2 * e * ((p - 1) * f0 + q * f1) = 2 * e * (H + M * (j0 - a1)) := by rw [u0]
  have w5 : (M : Int) * e = 2 * (H : Int) * e := by rw [hM]
  clear h1 h2 s0 s1 s2 t0 t1 u0 hM
  generalize (M : Int) = m at *
  generalize (H : Int) = h at *
  generalize (A : Int) = a at *
  generalize (B : Int) = b at *
  have r1 : q * f2 = 2 * e * ((p - 1) * f0 + q * f1) + m * (k1 * f0) + m * (k2 * f1) + m * (q * a3) - (p - 1) * f1 := by grind
  have r2 : h + m * (j1 - a2) = 2 * e * (h + m * (j0 - a1)) + m * (k1 * f0) + m * (k2 * f1) + m * (q * a3) := by rw [← u1, r1, w4]; omega
  rw [ring_a m e h (j0 - a1) w5, Int.mul_sub] at r2
  rw [ring_b]
  omega
theorem no_half {M H K : Int} (hM : M = 2 * H) (hH : H ≠ 0) (h : H = M * K) : False := by
  rw [hM, Int.mul_assoc, Int.mul_comm H K, ← Int.mul_assoc] at h
  have h2 : (2 * K - 1) * H = 0 := by rw [Int.sub_mul, Int.one_mul]; omega
  rcases Int.mul_eq_zero.mp h2 with h3 | h3
  · omega
  · exact hH h3
theorem shift_not_odd {A B M x y pw c H : Nat} (hp : PowIs pw M c H) (hc : leapChk M H (2 + pw) A B = true) (h : Shift (pl A B M x y) M H) (h1 : A % 2 = 1) (h2 : B % 2 = 0) : False := by
  obtain ⟨e, k1, k2, e1, e2⟩ := chk_odd hc h1 h2
  have hH := hp.facts.2.2.1
  obtain ⟨a1, s0⟩ := leap_cgH (A := A) (B := B) (x := x) (y := y) hp 0
  obtain ⟨a2, s1⟩ := leap_cgH (A := A) (B := B) (x := x) (y := y) hp 1
  have e3 : ∃ a3 : Int, (pl A B M x y 2 : Int) = (A : Int) * pl A B M x y 1 + (B : Int) * pl A B M x y 0 + M * a3 := by
    have h3 := pl_step (A := A) (B := B) (M := M) (x := x) (y := y) 0
    rw [fmod_nat] at h3
    obtain ⟨k, hk⟩ := Cg.mod (M := (M : Int)) ((A : Int) * (pl A B M x y (0 + 1) : Int) + (B : Int) * (pl A B M x y 0 : Int))
    exact ⟨k, by rw [← hk]; exact h3⟩
  obtain ⟨a3, s2⟩ := e3
  have tj : ∀ i, i < H → ∃ j : Int, (pl A B M x y (i + H) : Int) = (pl A B M x y i : Int) + H + M * j := by
    intro i hi
    obtain ⟨k, hk⟩ := Cg.mod (M := (M : Int)) ((pl A B M x y i : Int) + H)
    exact ⟨k, by rw [← hk, h i hi]; push_cast; rfl⟩
  obtain ⟨K, hK⟩ := no_odd hp.halfI e1 e2 s0 s1 s2 (tj 0 (Nat.lt_trans (by decide) hH)) (tj 1 (Nat.lt_trans (by decide) hH))
  exact no_half hp.halfI (by omega) hK
theorem shift_back {A B M x y pw c H : Nat} {z : Int} (hp : PowIs pw M c H) (hx : x < M) (h : Shift (pl A B M x y) M H) (hk : (pl A B M x y (0 + H) : Int) = (x : Int) + M * z) : False := by
  have hH := hp.facts.2.2.1
  have s0 : pl A B M x y (0 + H) = (x + H) % M := h 0 (Nat.lt_trans (by decide) hH)
  have hl : pl A B M x y (0 + H) < M := by rw [s0]; exact Nat.mod_lt _ (Nat.lt_of_le_of_lt (Nat.zero_le _) hx)
  have e := Cg.nat ⟨z, hk⟩ hl
  rw [s0, Nat.mod_eq_of_lt hx] at e
  exact no_fix hp.half hH hx e
theorem shift_not_four {A B M x y pw c H : Nat} (hp : PowIs pw M c H) (hc : leapChk M H (2 + pw) A B = true) (hx : x < M) (h : Shift (pl A B M x y) M H) (h1 : A % 4 = 0) (h2 : B % 2 = 1) : False := by
  obtain ⟨e1, e2⟩ := chk_four hc h1 h2
  obtain ⟨k, hk⟩ := leap_cgH (A := A) (B := B) (x := x) (y := y) hp 0
  rw [e1, e2, Int.one_mul, Int.zero_mul, Int.add_zero] at hk
  exact shift_back hp hx h hk
theorem shift_par {A B M x y pw c H : Nat} (hp : PowIs pw M c H) (hc : leapChk M H (2 + pw) A B = true) (hx : x < M) (h : Shift (pl A B M x y) M H) (h1 : A % 4 = 2) (h2 : B % 2 = 1) : (x + y) % 2 = 1 := by
  obtain ⟨e1, e2⟩ := chk_two hc h1 h2
  obtain ⟨k, hk⟩ := leap_cgH (A := A) (B := B) (x := x) (y := y) hp 0
  rcases Nat.mod_two_eq_zero_or_one (x + y) with hz | hz
  · exfalso
    obtain ⟨j, hj⟩ : ∃ j : Int, (pl A B M x y 0 : Int) + (pl A B M x y (0 + 1) : Int) = 2 * j := ⟨((x + y) / 2 : Nat), by show (x : Int) + (y : Int) = _; omega⟩
    rw [e1, e2, half_even hp.halfI hj, Int.add_assoc, ← Int.mul_add] at hk
    exact shift_back hp hx h hk
  · exact hz
theorem shift_iff {A B M x y pw c H : Nat} (hp : PowIs pw M c H) (hc : leapChk M H (2 + pw) A B = true) (hx : x < M) (hy : y < M) : Shift (pl A B M x y) M H ↔ (A % 4 = 2 ∧ B % 2 = 1 ∧ (x + y) % 2 = 1) := by
  constructor
  · intro h
    have hs := shift_sum hp h
    by_cases ha : A % 2 = 1
    · exact (shift_not_odd hp hc h ha (by omega)).elim
    · have hb : B % 2 = 1 := by omega
      by_cases h4 : A % 4 = 0
      · exact (shift_not_four hp hc hx h h4 hb).elim
      · have h2 : A % 4 = 2 := by omega
        exact ⟨h2, hb, shift_par hp hc hx h h2 hb⟩
  · rintro ⟨h1, h2, h3⟩ i _
    exact shift_yes hp hc hx hy h1 h2 h3 i
end
section
open PySem PySem.W PySem.Calls PyProof.Rows PyProof.V PySem.Spec
theorem leap_chk {A B M c H pw : Nat} (hp : PowIs pw M c H) (hA : A ≤ 12) (hB : B ≤ 12) : leapChk M H (2 + pw) A B = true := by
  rcases hp.cases with ⟨rfl, rfl, rfl, rfl⟩ | ⟨rfl, rfl, rfl, rfl⟩ | ⟨rfl, rfl, rfl, rfl⟩
  · exact List.all_eq_true.mp (List.all_eq_true.mp leap_8 A (List.mem_range.mpr (by omega))) B (List.mem_range.mpr (by omega))
  · exact List.all_eq_true.mp (List.all_eq_true.mp leap_16 A (List.mem_range.mpr (by omega))) B (List.mem_range.mpr (by omega))
  · exact List.all_eq_true.mp (List.all_eq_true.mp leap_32 A (List.mem_range.mpr (by omega))) B (List.mem_range.mpr (by omega))
theorem pow_8 : PowIs 0 8 4 4 := ⟨.inl ⟨rfl, rfl, rfl, rfl⟩⟩
theorem pow_16 : PowIs 1 16 2 8 := ⟨.inr (.inl ⟨rfl, rfl, rfl, rfl⟩)⟩
theorem pow_32 : PowIs 2 32 1 16 := ⟨.inr (.inr ⟨rfl, rfl, rfl, rfl⟩)⟩
/-- the class of all places -/
structure Cls (A B x y : Nat) : Prop where
  a : A % 4 = 2
  b : B % 4 = 3
  o : (x + y) % 2 = 1
theorem hit_at {A B x y : Nat} (hx : x < 8) (hy : y < 8) : (∀ r, r < 8 → ∃ i, i < 32 ∧ pl A B 8 x y i = r) ↔ (A % 4 = 2 ∧ B % 4 = 3 ∧ (x + y) % 2 = 1) := by
  have h := hit_any (a := A % 8) (b := B % 8) (Nat.mod_lt _ (by decide)) (Nat.mod_lt _ (by decide)) hx hy
  have e : ∀ i, pl (A % 8) (B % 8) 8 x y i = pl A B 8 x y i := fun i => (pl_ab hx hy i).symm
  simp only [e] at h
  rw [h]
  have e1 : A % 8 % 4 = A % 4 := by omega
  have e2 : B % 8 % 4 = B % 4 := by omega
  rw [e1, e2]
theorem cover_up {A B M N x y : Nat} (hN : (N = 8 ∧ M = 16) ∨ (N = 16 ∧ M = 32)) (hx : x < M) (hy : y < M) (h : ∀ v, v < N → ∃ i, pl A B N (x % N) (y % N) i = v) (hs : ∀ i, pl A B M x y (i + N) = (pl A B M x y i + N) % M) : ∀ v, v < M → ∃ i, pl A B M x y i = v := by
  intro v hv
  obtain ⟨i, hi⟩ := h (v % N) (Nat.mod_lt _ (by omega))
  have hd : N ∣ M := ⟨2, by omega⟩
  have e := pl_mod (A := A) (B := B) (x := x) (y := y) hd i
  rw [hi, Nat.mod_mod] at e
  have hl := pl_lt (a := A) (b := B) hx hy i
  have hs' := hs i
  by_cases huv : pl A B M x y i = v
  · exact ⟨i, huv⟩
  · refine ⟨i + N, ?_⟩
    rw [hs']
    generalize pl A B M x y i = u at *
    rcases hN with ⟨rfl, rfl⟩ | ⟨rfl, rfl⟩ <;> omega
theorem cover_8 {A B x y : Nat} (hc : Cls A B x y) (hx : x < 8) (hy : y < 8) : ∀ v, v < 8 → ∃ i, pl A B 8 x y i = v := fun v hv => by
  obtain ⟨i, _, h⟩ := (hit_at hx hy).mpr ⟨hc.a, hc.b, hc.o⟩ v hv
  exact ⟨i, h⟩
theorem Cls.mod {A B x y N : Nat} (hc : Cls A B x y) (hN : 2 ∣ N) : Cls A B (x % N) (y % N) := ⟨hc.a, hc.b, by
  have h1 := Nat.mod_mod_of_dvd x hN
  have h2 := Nat.mod_mod_of_dvd y hN
  have h3 := hc.o
  omega⟩
theorem cover_16 {A B x y : Nat} (hA : A ≤ 12) (hB : B ≤ 12) (hc : Cls A B x y) (hx : x < 16) (hy : y < 16) : ∀ v, v < 16 → ∃ i, pl A B 16 x y i = v :=
  cover_up (N := 8) (.inl ⟨rfl, rfl⟩) hx hy (cover_8 (hc.mod (by decide)) (Nat.mod_lt _ (by decide)) (Nat.mod_lt _ (by decide))) fun i => shift_yes pow_16 (leap_chk pow_16 hA hB) hx hy hc.a (by have := hc.b; omega) hc.o i
theorem cover_32 {A B x y : Nat} (hA : A ≤ 12) (hB : B ≤ 12) (hc : Cls A B x y) (hx : x < 32) (hy : y < 32) : ∀ v, v < 32 → ∃ i, pl A B 32 x y i = v :=
  cover_up (N := 16) (.inr ⟨rfl, rfl⟩) hx hy (cover_16 hA hB (hc.mod (by decide)) (Nat.mod_lt _ (by decide)) (Nat.mod_lt _ (by decide))) fun i => shift_yes pow_32 (leap_chk pow_32 hA hB) hx hy hc.a (by have := hc.b; omega) hc.o i
/-- in the class the places come again after M steps -/
theorem pl_again {A B M x y pw c H : Nat} (hp : PowIs pw M c H) (hA : A ≤ 12) (hB : B ≤ 12) (hc : Cls A B x y) (hx : x < M) (hy : y < M) : ∀ i, ∃ j, j < M ∧ pl A B M x y j = pl A B M x y i := by
  have hM := hp.half
  have hM0 : 0 < M := Nat.lt_of_le_of_lt (Nat.zero_le _) hx
  have sh := fun i => shift_yes (A := A) (B := B) (x := x) (y := y) hp (leap_chk hp hA hB) hx hy hc.a (by have := hc.b; omega) hc.o i
  have step : ∀ i, pl A B M x y (i + M) = pl A B M x y i := by
    intro i
    have e : i + M = i + H + H := by omega
    rw [e, sh, sh, Nat.mod_add_mod, Nat.add_assoc, ← Nat.two_mul, ← hM, Nat.add_mod_right]
    exact Nat.mod_eq_of_lt (pl_lt hx hy i)
  have mult : ∀ k j, pl A B M x y (j + M * k) = pl A B M x y j := by
    intro k
    induction k with
    | zero => intro j; rfl
    | succ k ih => intro j; rw [Nat.mul_succ, ← Nat.add_assoc, step, ih]
  intro i
  refine ⟨i % M, Nat.mod_lt _ hM0, ?_⟩
  have h := mult (i / M) (i % M)
  rw [Nat.mod_add_div] at h
  exact h.symm
theorem cover_iff {A B M x y pw c H : Nat} (hp : PowIs pw M c H) (hA : A ≤ 12) (hB : B ≤ 12) (hx : x < M) (hy : y < M) : (∀ v, v < M → ∃ i, i < M ∧ pl A B M x y i = v) ↔ (A % 4 = 2 ∧ B % 4 = 3 ∧ (x + y) % 2 = 1) := by
  constructor
  · intro h
    have h8 : 8 ∣ M := by rw [hp.eqM]; exact ⟨2 ^ pw, rfl⟩
    have hM1 := hp.facts.1
    have hM2 := hp.facts.2.1
    have key := (hit_at (A := A) (B := B) (x := x % 8) (y := y % 8) (Nat.mod_lt _ (by decide)) (Nat.mod_lt _ (by decide))).mp fun r hr => by
      obtain ⟨i, hi, e⟩ := h r (by omega)
      refine ⟨i, by omega, ?_⟩
      have e2 := pl_mod (A := A) (B := B) (x := x) (y := y) h8 i
      rw [e] at e2
      have e3 := pl_lt (a := A) (b := B) (Nat.mod_lt x (by decide : 0 < 8)) (Nat.mod_lt y (by decide : 0 < 8)) i
      omega
    omega
  · rintro ⟨h1, h2, h3⟩ v hv
    have hc : Cls A B x y := ⟨h1, h2, h3⟩
    have hany : ∃ i, pl A B M x y i = v := by
      rcases hp.cases with ⟨rfl, rfl, rfl, rfl⟩ | ⟨rfl, rfl, rfl, rfl⟩ | ⟨rfl, rfl, rfl, rfl⟩
      · exact cover_8 hc hx hy v hv
      · exact cover_16 hA hB hc hx hy v hv
      · exact cover_32 hA hB hc hx hy v hv
    obtain ⟨i, e⟩ := hany
    obtain ⟨j, hj, ej⟩ := pl_again hp hA hB hc hx hy i
    exact ⟨j, hj, ej.trans e⟩
theorem filt_len {p : Nat → Bool} {n : Nat} : ((List.range n).filter p).length = n ↔ ∀ k, k < n → p k = true := by
  have h := List.length_filter_eq_length_iff (p := p) (l := List.range n)
  rw [List.length_range] at h
  rw [h]
  constructor
  · intro h k hk; exact h k (List.mem_range.mpr hk)
  · intro h k hk; exact h k (List.mem_range.mp hk)
theorem occ_iff {f : Nat → Nat} {M k : Nat} : occ f M k = true ↔ ∃ i, i < M ∧ f i = k := by
  unfold occ
  rw [List.any_eq_true]
  constructor
  · rintro ⟨i, hi, e⟩; exact ⟨i, List.mem_range.mp hi, eq_of_beq e⟩
  · rintro ⟨i, hi, e⟩; exact ⟨i, List.mem_range.mpr hi, by rw [e]; exact beq_self_eq_true _⟩
theorem law_one {A B M x y pw c H : Nat} (hp : PowIs pw M c H) (hA : A ≤ 12) (hB : B ≤ 12) (hx : x < M) (hy : y < M) : (litL (occ (pl A B M x y) M) M).length = M ↔ (A % 4 = 2 ∧ B % 4 = 3 ∧ (x + y) % 2 = 1) := by
  rw [← cover_iff hp hA hB hx hy]
  unfold litL
  rw [filt_len]
  constructor
  · intro h v hv; exact occ_iff.mp (h v hv)
  · intro h v hv; exact occ_iff.mpr (h v hv)
theorem greyP_iff {A B M x y pw c H k : Nat} (hp : PowIs pw M c H) : greyP (pl A B M x y) c H k = true ↔ pl A B M x y (k + H) = (pl A B M x y k + H) % M := by
  unfold greyP
  have e1 : ((k : Int) + (H : Int)).toNat = k + H := by omega
  obtain ⟨_, _, _, hc, e32, e16⟩ := hp.facts
  rw [e1, Int.toNat_natCast, decide_eq_true_iff, ← e32, ← e16, ← Nat.mul_add, Nat.mul_mod_mul_left]
  exact ⟨fun h => Nat.eq_of_mul_eq_mul_left hc h, fun h => by rw [h]⟩
theorem law_two {A B M x y pw c H : Nat} (hp : PowIs pw M c H) (hA : A ≤ 12) (hB : B ≤ 12) (hx : x < M) (hy : y < M) : ((List.range H).filter (greyP (pl A B M x y) c H)).length = H ↔ (A % 4 = 2 ∧ B % 2 = 1 ∧ (x + y) % 2 = 1) := by
  rw [← shift_iff hp (leap_chk hp hA hB) hx hy, filt_len]
  constructor
  · intro h i hi; exact (greyP_iff hp).mp (h i hi)
  · intro h i hi; exact (greyP_iff hp).mpr (h i hi)
end
section
open PySem PySem.W PySem.Calls PyProof.Rows PyProof.V PySem.Spec
theorem law_rest {w : World} {mean : ExcName → Option Value} {mg mb : Str → Option Value} {h₀ : Heap} {L fa : Addr} {code : Value} {m : Str → Option Value} {s : Shared} {Q : Flow → Shared → Prop} {E : Value → Shared → Prop} {A B x y pw M c H : Nat} {o1 o2 o3 : Obj} {P Lt : Addr} {pvs lvs : List Value} {los R : List (Addr × Obj)} {k1 k2 : Nat} {ta tb tl tp th : Tok}
    (hp : PowIs pw M c H) (hA : A ≤ 12) (hB : B ≤ 12) (hx : x < M) (hy : y < M) (K0 : Below callerA h₀ [] h₀) (F : Fr h₀ L s.heap m) (X : (hd.heap_39 w.params).In h₀) (N : News h₀ L s.heap ((L + 1 + 1 + 1, o3) :: (L + 1 + 1, o2) :: (L + 1, o1) :: R))
    (T : Top hd.view_39 (looseW hd.view_39 [Str.ofString "COMPILER_FLAG_NAMES"]) mean mg mb h₀)
    (d1 : o1.data = .cell (some (.int (H : Int) th))) (d2 : o2.data = .cell (some (.ref P))) (d3 : o3.data = .cell (some (.ref Lt))) (hP : (P, W.listOf pvs.toArray k1) ∈ R) (hLt : (Lt, W.listOf lvs.toArray k2) ∈ R) (hlos : ∀ p ∈ los, p ∈ R)
    (hI : IntsAre pvs ((List.range M).map fun i => (pl A B M x y i : Int))) (hLi : LightsAre (pl A B M x y) c M lvs los) (hm : LawM m A B M pw ta tb tl tp) (hE : PassesOwn (model PySem.Challenge.rw_tr0037_01.row.prog w) (callerA.deeper (envOfC (Str.ofString "law") lawScope L fa code)) (envOfC (Str.ofString "law") lawScope L fa code) E)
    (hret : ∀ m' h' tk', Fr h₀ L h' m' → Q (.ret (.bool true)) { s with heap := h', toks := tk' }) :
    wpAny (model PySem.Challenge.rw_tr0037_01.row.prog w) (callerA.deeper (envOfC (Str.ofString "law") lawScope L fa code)) (execs lawRest1 (envOfC (Str.ofString "law") lawScope L fa code)) Q E s := by
  have hM : 8 ≤ M ∧ M ≤ 32 ∧ M = 2 * H := ⟨hp.facts.1, hp.facts.2.1, hp.half⟩
  have hn : LawN A B M H := ⟨hM.1, hM.2.1, hM.2.2, ⟨by omega, by omega⟩, ⟨by omega, by omega⟩⟩
  have hI' : PlAre (pl A B M x y) M pvs := ⟨hI⟩
  refine law_leap hp hn hx hy K0 F X N T d1 d2 d3 hP hI' hm hE fun m' h' tk' F' hm' N' => ?_
  refine law_lit (c := c) hn K0 F' X N' T d1 d2 d3 hP hI' hm' hE fun m2 h2 tk2 D ys hys F2 hm2 N2 _ => ?_
  have hl : LitAre (occ (pl A B M x y) M) M ys := ⟨hys, hM.2.1, litN_ne hx (occ_iff.mpr ⟨0, by omega, rfl⟩)⟩
  refine law_words hl K0 F2 X N2 T hm2 fun m3 h3 tk3 D2 vs F3 hm3 N3 hvs => ?_
  have hlen := litL_len (occ (pl A B M x y) M) M
  refine law_odd (c := (litL (occ (pl A B M x y) M) M).length) hn hI' hvs (by rw [List.length_map]) (by omega) (law_one hp hA hB hx hy) F3 X N3 T hm3 hP d2 fun m4 h4 tk4 odd F4 hm4 ho N4 => ?_
  subst ho
  have hg := List.length_filter_le (greyP (pl A B M x y) c H) (List.range H)
  rw [List.length_range] at hg
  exact law_grey (M := M) (lvs := lvs) hM.1 hM.2.1 hM.2.2 ⟨by omega⟩ (hLi.onR hlos) ⟨fun n => lampsC_lt hp.lamps (pl_lt hx hy n)⟩ rfl (by omega) (law_two hp hA hB hx hy) K0 F4 X N4 T hm4 hLt d1 d3 fun m5 h5 tk5 F5 => hret m5 h5 tk5 F5
end
section
open PySem PySem.W PySem.Calls PyProof.Rows PyProof.V PySem.Spec
theorem len63 {xs : List Int} (h : ¬ (63 : Int) < (xs.length : Int)) : xs.length ≤ 63 := by omega
theorem PowIs.mk' {pw : Nat} (h : pw < 3) : ∃ M c H, PowIs pw M c H := by
  have h3 : pw = 0 ∨ pw = 1 ∨ pw = 2 := by omega
  rcases h3 with rfl | rfl | rfl
  · exact ⟨8, 4, 4, ⟨.inl ⟨rfl, rfl, rfl, rfl⟩⟩⟩
  · exact ⟨16, 2, 8, ⟨.inr (.inl ⟨rfl, rfl, rfl, rfl⟩)⟩⟩
  · exact ⟨32, 1, 16, ⟨.inr (.inr ⟨rfl, rfl, rfl, rfl⟩)⟩⟩
section
variable {prog : Program} {w : World} {A : Around} {E : Value → Shared → Prop} {s : Shared}
theorem mod_three {a : Int} {t u : Tok} {Q : Value → Shared → Prop} (h : ∀ pw M c H : Nat, PowIs pw M c H → Q (.int (pw : Int) s.toks) { s with toks := s.toks + 1 }) :
    wpAny (model prog w) A (binaryOp .Mod (.int a t) (.int 3 u)) Q E s := by
  have h1 := Int.fmod_nonneg_of_pos a (b := 3) (by decide)
  have h2 := Int.fmod_lt_of_pos a (b := 3) (by decide)
  refine mod_int' (by decide) ?_
  obtain ⟨pw, e⟩ : ∃ pw : Nat, (pw : Int) = a.fmod 3 := ⟨(a.fmod 3).toNat, by omega⟩
  obtain ⟨M, c, H, hp⟩ := PowIs.mk' (pw := pw) (by omega)
  rw [← e]
  exact h pw M c H hp
theorem mul_lamps {pw M c H : Nat} {t u : Tok} {Q : Value → Shared → Prop} (hp : PowIs pw M c H) (h : Q (.int (M : Int) s.toks) { s with toks := s.toks + 1 }) :
    wpAny (model prog w) A (binaryOp .Mult (.int 8 t) (.int ((2 ^ pw : Nat) : Int) u)) Q E s := by
  refine mul_int ?_ (Sm.ok ⟨by decide, by decide⟩)
  have e : (8 : Int) * ((2 ^ pw : Nat) : Int) = (M : Int) := by rw [hp.eqM]; push_cast; rfl
  rw [e]
  exact h
theorem mul_half {pw M c H : Nat} {t u : Tok} {Q : Value → Shared → Prop} (hp : PowIs pw M c H) (h : Q (.int (H : Int) s.toks) { s with toks := s.toks + 1 }) :
    wpAny (model prog w) A (binaryOp .Mult (.int 4 t) (.int ((2 ^ pw : Nat) : Int) u)) Q E s := by
  refine mul_int ?_ (Sm.ok ⟨by decide, by decide⟩)
  have e : (4 : Int) * ((2 ^ pw : Nat) : Int) = (H : Int) := by rw [hp.eqH]; push_cast; rfl
  rw [e]
  exact h
theorem PowIs.small {pw M c H : Nat} (h : PowIs pw M c H) : pw < 64 := Nat.lt_trans h.lt (by decide)
theorem PowIs.pos {pw M c H : Nat} (h : PowIs pw M c H) : 0 < M := by have := (lamps_le h.lamps).1; omega
theorem mod_pos {a b : Int} {t u : Tok} {Q : Value → Shared → Prop} (hb : 0 < b) (h : ∀ r : Int, r = a.fmod b → 0 ≤ r → r < b → Q (.int r s.toks) { s with toks := s.toks + 1 }) :
    wpAny (model prog w) A (binaryOp .Mod (.int a t) (.int b u)) Q E s :=
  mod_int' (by omega) (h _ rfl (Int.fmod_nonneg_of_pos a hb) (Int.fmod_lt_of_pos a hb))
theorem mod_nat {a : Int} {M : Nat} {t u : Tok} {Q : Value → Shared → Prop} (hM : 0 < M) (h : ∀ x : Nat, x < M → Q (.int (x : Int) s.toks) { s with toks := s.toks + 1 }) :
    wpAny (model prog w) A (binaryOp .Mod (.int a t) (.int (M : Int) u)) Q E s := by
  refine mod_pos (by omega) fun r _ h0 h1 => ?_
  obtain ⟨x, rfl⟩ : ∃ x : Nat, (x : Int) = r := ⟨r.toNat, by omega⟩
  exact h x (by omega)
end
theorem law_restO {w : World} {mean : ExcName → Option Value} {mg mb : Str → Option Value} {h₀ : Heap} {L fa : Addr} {code : Value} {m : Str → Option Value} {s : Shared} {Q : Flow → Shared → Prop} {E : Value → Shared → Prop} {A B x y pw M c H : Nat} {o1 o2 o3 : Obj} {P Lt : Addr} {pvs lvs : List Value} {los R : List (Addr × Obj)} {k1 k2 : Nat} {ta tb tl tp th : Tok}
    (K0 : Below callerA h₀ [] h₀) (X : (hd.heap_39 w.params).In h₀) (T : Top hd.view_39 (looseW hd.view_39 [Str.ofString "COMPILER_FLAG_NAMES"]) mean mg mb h₀) (F : Fr h₀ L s.heap m) (N : News h₀ L s.heap ((L + 1 + 1 + 1, o3) :: (L + 1 + 1, o2) :: (L + 1, o1) :: R))
    (hp : PowIs pw M c H) (hI : IntsAre pvs ((List.range M).map fun i => (pl A B M x y i : Int))) (hLi : LightsAre (pl A B M x y) c M lvs los) (hP : (P, W.listOf pvs.toArray k1) ∈ R) (hLt : (Lt, W.listOf lvs.toArray k2) ∈ R) (hlos : ∀ p ∈ los, p ∈ R)
    (d1 : o1.data = .cell (some (.int (H : Int) th))) (d2 : o2.data = .cell (some (.ref P))) (d3 : o3.data = .cell (some (.ref Lt))) (hA : A ≤ 12) (hB : B ≤ 12) (hx : x < M) (hy : y < M)
    (hm : LawM m A B M pw ta tb tl tp) (hE : PassesOwn (model PySem.Challenge.rw_tr0037_01.row.prog w) (callerA.deeper (envOfC (Str.ofString "law") lawScope L fa code)) (envOfC (Str.ofString "law") lawScope L fa code) E)
    (hret : ∀ m' h' tk', Fr h₀ L h' m' → Q (.ret (.bool true)) { s with heap := h', toks := tk' }) :
    wpAny (model PySem.Challenge.rw_tr0037_01.row.prog w) (callerA.deeper (envOfC (Str.ofString "law") lawScope L fa code)) (execs lawRest1 (envOfC (Str.ofString "law") lawScope L fa code)) Q E s :=
  law_rest hp hA hB hx hy K0 F X N T d1 d2 d3 hP hLt hlos hI hLi hm hE hret
theorem run_pack {h₀ h : Heap} {L : Addr} {T Lt P x1 x2 x3 c3 c2 c1 : Addr × Obj} {los : List (Addr × Obj)} (N : News h₀ L h ((T :: Lt :: P :: los) ++ [x1, x2, x3, c3, c2, c1])) (l9 : ∀ q ∈ [x1, x2, x3, c3, c2, c1], ∀ p ∈ T :: Lt :: P :: los, q.1 ≠ p.1) :
    ∃ R : List (Addr × Obj), News h₀ L h (c3 :: c2 :: c1 :: R) ∧ T ∈ R ∧ Lt ∈ R ∧ P ∈ R ∧ (∀ p ∈ los, p ∈ R) ∧ OwnOff R [c3.1, c2.1, c1.1] := by
  refine ⟨T :: Lt :: P :: los, fun p hp => N p ?_, .head _, .tail _ (.head _), .tail _ (.tail _ (.head _)), fun p hp => .tail _ (.tail _ (.tail _ hp)), fun p hp x hx e => ?_⟩
  · simp only [List.mem_append, List.mem_cons, List.not_mem_nil, or_false] at hp ⊢
    rcases hp with h | h | h | h
    · exact .inr (.inr (.inr (.inr (.inl h))))
    · exact .inr (.inr (.inr (.inr (.inr (.inl h)))))
    · exact .inr (.inr (.inr (.inr (.inr (.inr h)))))
    · exact .inl h
  · simp only [List.mem_cons, List.not_mem_nil, or_false] at hx
    rcases hx with rfl | rfl | rfl
    · exact l9 c3 (by simp) p hp e.symm
    · exact l9 c2 (by simp) p hp e.symm
    · exact l9 c1 (by simp) p hp e.symm
theorem sm_wlen {hand : Int} (h0 : 0 ≤ hand) (h5 : hand < 5) (c : Int) : Sm (wlen hand c : Int) := by
  have := wlen_le h0 h5 c
  exact ⟨by omega, by omega⟩
set_option maxHeartbeats 8000000 in
theorem law_holds : PySem.Challenge.rw_tr0037_01.Holds := hd (by
  k_with_none
  k_with "binaryOp Mod int int" => (k_here; first | ((with_reducible show wpAny _ _ (binaryOp _ (Value.int _ _) (Value.int 3 _)) _ _ _); k_dflt (refine' mod_three ?_); intro pw' M' c' H' hpw') | ((with_reducible show wpAny _ _ (binaryOp _ (Value.int _ _) (Value.int 5 _)) _ _ _); k_dflt (refine' mod_pos (by decide) ?_); intro hand' _ hh0 hh5) | (k_dflt (refine' mod_nat (PowIs.pos (by assumption)) ?_); intro x' hx'))
  k_with "binaryOp Pow int int" => (k_here; k_dflt (refine' pow_two (PowIs.small (by assumption)) ?_))
  k_with "binaryOp Mult int int" => (k_here; first | ((with_reducible show wpAny _ _ (binaryOp _ (Value.int 8 _) (Value.int _ _)) _ _ _); k_dflt (refine' mul_lamps (by assumption) ?_)) | ((with_reducible show wpAny _ _ (binaryOp _ (Value.int 4 _) (Value.int _ _)) _ _ _); k_dflt (refine' mul_half (by assumption) ?_)))
  k_with "call ref" => (k_here; first | ((with_reducible show wpAny _ _ (call (Value.ref 85) _) _ _ _); k_dflt (refine' Ctr.use (c_cells _ _ _ _ _ _ _ (by assumption) (len63 (by assumption))) ?k1 ?k2 ?k3 ?k4 ?k5 ?kK ?kP ?kd ?ku ?_; (case k1 => k_asm); (case k2 => k_asm); (case k3 => k_asm); (case k4 => k_asm); (case k5 => k_asm); (case kK => exact rfl); (case kP => first | trivial | assumption); (case kd => ktr_room); (case ku => ktr_units)); intro v9 own9 h9 tk9 F9 N9 l9 p9; (obtain ⟨D9, c0, c1, c2, c3, c4, c5, t0, t1, t2, t3, t4, t5, e91, e92, hc9⟩ := p9); subst e91; subst e92; (try simp only [List.cons_append, List.nil_append] at N9); (try dsimp only); (try k_sweep); (try k_fold)) | ((with_reducible show wpAny _ _ (call (Value.ref 92) _) _ _ _); k_dflt (refine' Ctr.use (c_piece _ _ _ _ _ _) ?k1 ?k2 ?k3 ?k4 ?k5 ?kK ?kP ?kd ?ku ?_; (case k1 => k_asm); (case k2 => k_asm); (case k3 => k_asm); (case k4 => k_asm); (case k5 => k_asm); (case kK => exact rfl); (case kP => first | trivial | assumption); (case kd => ktr_room); (case ku => ktr_units)); intro v9 own9 h9 tk9 F9 N9 l9 p9; (obtain ⟨t9, e91, o9, e92⟩ := p9); subst e91; subst e92; (try simp only [List.cons_append, List.nil_append] at N9); (try dsimp only); (try k_sweep); (try k_fold)) | ((with_reducible show wpAny _ _ (call (Value.ref 97) _) _ _ _); k_dflt (refine' Ctr.use (c_longN _ _ _ _ _ _ _ _ (by assumption) (by assumption)) ?k1 ?k2 ?k3 ?k4 ?k5 ?kK ?kP ?kd ?ku ?_; (case k1 => k_asm); (case k2 => k_asm); (case k3 => k_asm); (case k4 => k_asm); (case k5 => k_asm); (case kK => exact rfl); (case kP => first | trivial | assumption); (case kd => ktr_room); (case ku => ktr_units)); intro v9 own9 h9 tk9 F9 N9 l9 p9; (obtain ⟨t9, e91, e92⟩ := p9); subst e91; subst e92; (try simp only [List.cons_append, List.nil_append] at N9); (try dsimp only); (try k_sweep); (try k_fold)) | ((with_reducible show wpAny _ _ (call (Value.ref 104) _) _ _ _); k_dflt (refine' CtrN.use (c_run _ _ _ _ _ _ _ _ _ _ _ (wlen _ _) (wlen _ _) _ _ _ _ _ _ (by assumption) (by assumption) (piece_len _) (piece_len _) rfl rfl (wlen_le (by assumption) (by assumption) _) (wlen_le (by assumption) (by assumption) _) (PowIs.lamps (by assumption)) (by assumption) (by assumption)) ?k1 ?k2 ?k3 ?k4 ?k5 ?kK ?kP ?kd ?ku ?_; (case k1 => k_asm); (case k2 => k_asm); (case k3 => k_asm); (case k4 => k_asm); (case k5 => k_asm); (case kK => exact rfl); (case kP => first | trivial | assumption); (case kd => ktr_room); (case ku => ktr_units)); intro v9 own9 h9 tk9 F9 N9 l9 p9; (obtain ⟨T9, P9, Lt9, pvs9, lvs9, los9, n91, k91, k92, e91, e92, hI9, hL9⟩ := p9); subst e91; subst e92; (have kM' := kstMark); (obtain ⟨R9, N9', hT9, hLt9, hP9, hlos9, hoff9⟩ := run_pack N9 l9); clear N9 l9; (try dsimp only at hoff9); (try dsimp only at N9'); (try dsimp only); (try k_sweep); (try k_fold)) | ((with_reducible show wpAny _ _ (call (Value.ref 111) _) _ _ _); k_dflt (refine' Ctr.use (c_leap _ _ _ _ _ _ _ _ _ _ _ _ (sm_wlen (by assumption) (by assumption) _) (sm_wlen (by assumption) (by assumption) _) (PowIs.ok (by assumption)) (PowIs.four (by assumption))) ?k1 ?k2 ?k3 ?k4 ?k5 ?kK ?kP ?kd ?ku ?_; (case k1 => k_asm); (case k2 => k_asm); (case k3 => k_asm); (case k4 => k_asm); (case k5 => k_asm); (case kK => exact rfl); (case kP => first | trivial | assumption); (case kd => ktr_room); (case ku => ktr_units)); intro v9 own9 h9 tk9 F9 N9 l9 p9; (obtain ⟨D9, t91, t92, e91, e92⟩ := p9); subst e91; subst e92; (try simp only [List.cons_append, List.nil_append] at N9); (try dsimp only); (try k_sweep); (try k_fold)))
  k_with "execs cons" => (k_here; dsimp only; k_gentoks)
  w_on; w_strict (
    k_go0; (all_goals try k_fold)
    repeat ((fail_if_success (with_reducible show wpAny _ _ (execs (Stmt.Assign [Expr.Tuple [Expr.Name (Str.ofString "p") _, _] _ _] _ _ :: _) _) _ _ _)); (first | (k_unfold; (try dsimp only)) | walk1 | (dsimp only; walk1)))
    dsimp only
    refine law_restO (by assumption) (by assumption) (by assumption) (by assumption) (by assumption) (by assumption) (by assumption) (by assumption) (by assumption) (by assumption) (by assumption) (by assumption) (by assumption) (by assumption) (wlen_le (by assumption) (by assumption) _) (wlen_le (by assumption) (by assumption) _) (by assumption) (by assumption) ⟨rfl, rfl, rfl, rfl⟩ (by passes_own) ?_
    intro m9 h9 tk9 F9
    k_steps))
end
end Mine
theorem PySem.Challenge.cw_tr0037_01_holds : PySem.Challenge.rw_tr0037_01.Holds :=
  Mine.law_holds
