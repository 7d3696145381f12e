import PyProof.Rows.All
import Wide.All
import OpenK.AllK
import Wide.FinOn
import PySem.Challenge.RW_pk0086_01
open PySem PySem.W PyProof.Rows
set_option Elab.async false


section
open PySem PySem.W PyProof.Rows
namespace Mine
set_option maxRecDepth 100000
set_option maxHeartbeats 8000000
open_top hd for PySem.Challenge.rw_pk0086_01
end Mine
end

section
open PySem PySem.W PySem.Spec PySem.Calls PyProof.Rows
namespace Mine
set_option maxRecDepth 100000

/-- a call's contract: from any frame that stands over the top's written part -/
def Ctr (w : World) (mean : ExcName → Option Value) (mg mb : Str → Option Value) (t : Sem Value) (news : List (Addr × Obj)) (d u : Nat) (Post : Value → List (Addr × Obj) → Prop) : Prop :=
  ∀ (dp un : Nat) (gd : Option (List Code)) (cn : Str) (cs : Scope) (a : Addr) (ccd : Value) (cl : List (Str × Addr)) (outer : List Env) (A₀ : Around) (base h₀ : Heap) (L : Addr) (m : Str → Option Value) (s : Shared) (Q E : Value → Shared → Prop),
    Below A₀ base outer h₀ → Fr h₀ L s.heap m → (hd.heap_39 w.params).In h₀ → News h₀ L s.heap news → Top hd.view_39 (looseW hd.view_39 [Str.ofString "Whitespace"]) mean mg mb h₀ → cs.kind = .function →
    dp + d < recursionLimit → un + u < cLine → 
    (∀ (v : Value) (tl : List (Addr × Obj)) (h' : Heap) (tk' : Nat), Post v tl → (∀ q ∈ tl, ∀ p ∈ news, p.1 < q.1) → Fr h₀ L h' m → News h₀ L h' (tl ++ news) → Q v { s with heap := h', toks := tk' }) →
      wpAny (model Challenge.rw_pk0086_01.row.prog w) (ktrTop dp un gd cn cs L a ccd cl outer) t Q E s

def max3F (a b c : UInt64) : UInt64 :=
  let d := if (Float64.cmp a b == some .lt) = true then b else a
  if (Float64.cmp d c == some .lt) = true then c else d
def min3F (a b c : UInt64) : UInt64 :=
  let d := if (Float64.cmp b a == some .lt) = true then b else a
  if (Float64.cmp c d == some .lt) = true then c else d

open PySem.Flt in
theorem max_three_ff {prog : Program} {w : World} {A : Around} {E : Value → Shared → Prop} {s : Shared} {Q : Value → Shared → Prop} {x y z : UInt64} {t u r : Tok} {h₀ : Heap} {L : Addr} {m : Str → Option Value} {news : List (Addr × Obj)}
    (hh : A.handled = none) (F : Fr h₀ L s.heap m) (N : News h₀ L s.heap news) (ht : 0 < t) (hu : 0 < u) (hr : 0 < r)
    (h : ∀ h' tk v, 0 < v → Fr h₀ L h' m → News h₀ L h' news → Q (.float (max3F x y z) v) { s with heap := h', toks := tk }) :
    wpAny (model prog w) A (call (.builtin "max") [.float x t, .float y u, .float z r]) Q E s := by
  have hT : (s.heap.push { cls := .type "tuple", data := .seq #[.float x t, .float y u, .float z r] }).IsTuple s.heap.objs.size #[.float x t, .float y u, .float z r] := ⟨_, Heap.get?_push_size _ rfl, rfl, 0, rfl⟩
  refine call_max_three (wpAny_pyIter_tuple hT ?_)
  have hsz : (s.heap.push { cls := .type "tuple", data := .seq #[.float x t, .float y u, .float z r] }).objs.size = s.heap.objs.size + 1 := Heap.size_push ..
  refine ⟨_, [_, s.heap.objs.size], [_], _, _, _, _, rfl, Walks.tuple (A := A.in1) hh _ s.heap.objs.size (by rw [hsz]; exact Nat.ne_of_lt (Nat.lt_succ_self _)) #[.float x t, .float y u, .float z r],
    ⟨⟨_, Heap.get?_push_size _ rfl, rfl, rfl⟩, hT.push _⟩, fun c hc => ?_, by simp, cmpOf_gt #[.float x t, .float y u, .float z r] (by intro v hv; simp at hv; rcases hv with rfl | rfl | rfl <;> constructor), fun v h' tk hP hk => ?_⟩
  · show c < ((s.heap.push _).push _).objs.size
    rw [Heap.size_push, hsz]
    rcases List.mem_cons.mp hc with rfl | hc
    · rw [hsz]; exact Nat.lt_succ_self _
    · rcases List.mem_cons.mp hc with rfl | hc
      · exact Nat.lt_succ_of_lt (Nat.lt_succ_self _)
      · cases hc
  · have kp : ∀ c o, s.heap.get? c = some o → h'.get? c = some o := fun c o e => by
      refine hk c o (fun hm => ?_) (Heap.get?_push_of_some _ (Heap.get?_push_of_some _ e))
      rcases List.mem_cons.mp hm with e1 | hm
      · have := Heap.lt_size e; rw [e1, hsz] at this; exact Nat.lt_irrefl _ (Nat.lt_of_succ_lt this)
      · cases hm
    have hv : ∃ q, 0 < q ∧ v = .float (max3F x y z) q := by
      have e1 : ltV (.float x t) (.float y u) = (Float64.cmp x y == some .lt) := rfl
      have e2 : ltV (.float x t) (.float z r) = (Float64.cmp x z == some .lt) := rfl
      have e3 : ltV (.float y u) (.float z r) = (Float64.cmp y z == some .lt) := rfl
      cases c1 : (Float64.cmp x y == some .lt) <;> cases c2 : (Float64.cmp x z == some .lt) <;> cases c3 : (Float64.cmp y z == some .lt) <;> simp [argBest, e1, e2, e3, c1, c2, c3] at hP <;> subst hP <;> simp [max3F, c1, c2, c3, ht, hu, hr]
    obtain ⟨q, hq, rfl⟩ := hv
    exact h h' tk q hq (F.grownK kp) (N.grown kp)

open PySem.Flt in
theorem min_three_ff {prog : Program} {w : World} {A : Around} {E : Value → Shared → Prop} {s : Shared} {Q : Value → Shared → Prop} {x y z : UInt64} {t u r : Tok} {h₀ : Heap} {L : Addr} {m : Str → Option Value} {news : List (Addr × Obj)}
    (hh : A.handled = none) (F : Fr h₀ L s.heap m) (N : News h₀ L s.heap news) (ht : 0 < t) (hu : 0 < u) (hr : 0 < r)
    (h : ∀ h' tk v, 0 < v → Fr h₀ L h' m → News h₀ L h' news → Q (.float (min3F x y z) v) { s with heap := h', toks := tk }) :
    wpAny (model prog w) A (call (.builtin "min") [.float x t, .float y u, .float z r]) Q E s := by
  have hT : (s.heap.push { cls := .type "tuple", data := .seq #[.float x t, .float y u, .float z r] }).IsTuple s.heap.objs.size #[.float x t, .float y u, .float z r] := ⟨_, Heap.get?_push_size _ rfl, rfl, 0, rfl⟩
  refine call_min_three (wpAny_pyIter_tuple hT ?_)
  have hsz : (s.heap.push { cls := .type "tuple", data := .seq #[.float x t, .float y u, .float z r] }).objs.size = s.heap.objs.size + 1 := Heap.size_push ..
  refine ⟨_, [_, s.heap.objs.size], [_], _, _, _, _, rfl, Walks.tuple (A := A.in1) hh _ s.heap.objs.size (by rw [hsz]; exact Nat.ne_of_lt (Nat.lt_succ_self _)) #[.float x t, .float y u, .float z r],
    ⟨⟨_, Heap.get?_push_size _ rfl, rfl, rfl⟩, hT.push _⟩, fun c hc => ?_, by simp, cmpOf_lt #[.float x t, .float y u, .float z r] (by intro v hv; simp at hv; rcases hv with rfl | rfl | rfl <;> constructor), fun v h' tk hP hk => ?_⟩
  · show c < ((s.heap.push _).push _).objs.size
    rw [Heap.size_push, hsz]
    rcases List.mem_cons.mp hc with rfl | hc
    · rw [hsz]; exact Nat.lt_succ_self _
    · rcases List.mem_cons.mp hc with rfl | hc
      · exact Nat.lt_succ_of_lt (Nat.lt_succ_self _)
      · cases hc
  · have kp : ∀ c o, s.heap.get? c = some o → h'.get? c = some o := fun c o e => by
      refine hk c o (fun hm => ?_) (Heap.get?_push_of_some _ (Heap.get?_push_of_some _ e))
      rcases List.mem_cons.mp hm with e1 | hm
      · have := Heap.lt_size e; rw [e1, hsz] at this; exact Nat.lt_irrefl _ (Nat.lt_of_succ_lt this)
      · cases hm
    have hv : ∃ q, 0 < q ∧ v = .float (min3F x y z) q := by
      have e1 : ltV (.float y u) (.float x t) = (Float64.cmp y x == some .lt) := rfl
      have e2 : ltV (.float z r) (.float x t) = (Float64.cmp z x == some .lt) := rfl
      have e3 : ltV (.float z r) (.float y u) = (Float64.cmp z y == some .lt) := rfl
      cases c1 : (Float64.cmp y x == some .lt) <;> cases c2 : (Float64.cmp z x == some .lt) <;> cases c3 : (Float64.cmp z y == some .lt) <;> simp [argBest, e1, e2, e3, c1, c2, c3] at hP <;> subst hP <;> simp [min3F, c1, c2, c3, ht, hu, hr]
    obtain ⟨q, hq, rfl⟩ := hv
    exact h h' tk q hq (F.grownK kp) (N.grown kp)


def tup3 (p : UInt64 × UInt64 × UInt64) (t4 t5 t6 : Tok) : Obj := { cls := .type "tuple", data := .seq #[.float p.1 t4, .float p.2.1 t5, .float p.2.2 t6] }

theorem ret3 {R : UInt64 × UInt64 × UInt64} {a b c : UInt64} {t4 t5 t6 : Tok} {h₀ h' : Heap} {L D : Addr} {m : Str → Option Value} {news : List (Addr × Obj)} {s : Shared} {tk : Nat} {Q : Value → Shared → Prop}
    (hret : ∀ (v : Value) (tl : List (Addr × Obj)) (h' : Heap) (tk' : Nat), (∃ x t4 t5 t6, v = .ref x ∧ tl = [(x, tup3 R t4 t5 t6)] ∧ 0 < t4 ∧ 0 < t5 ∧ 0 < t6) → (∀ q ∈ tl, ∀ p ∈ news, p.1 < q.1) → Fr h₀ L h' m → News h₀ L h' (tl ++ news) → Q v { s with heap := h', toks := tk' })
    (l : ∀ p ∈ news, p.1 < D) (F : Fr h₀ L h' m) (N : News h₀ L h' ((D, { cls := .type "tuple", data := .seq #[.float a t4, .float b t5, .float c t6] }) :: news)) (p4 : 0 < t4) (p5 : 0 < t5) (p6 : 0 < t6) (e : R = (a, b, c)) :
    Q (.ref D) { s with heap := h', toks := tk } := by
  subst e
  exact hret _ _ _ _ ⟨_, _, _, _, rfl, rfl, p4, p5, p6⟩ (fun q hq p hp => by rw [List.mem_singleton] at hq; subst hq; exact l p hp) F N

theorem gen_toks {α : Type} {M : Model} {A : Around} {t : Sem α} {Q : α → Shared → Prop} {E : Value → Shared → Prop} {h : Heap} {g : Array GenState} {d : Drawn} {Y : Nat} {os : OsState} (k : ∀ tk : Nat, 0 < tk → wpAny M A t Q E ⟨h, g, d, tk, os⟩) : wpAny M A t Q E ⟨h, g, d, Y + 1, os⟩ := k _ (Nat.succ_pos _)
theorem gen_toks2 {α : Type} {M : Model} {A : Around} {t : Sem α} {Q : α → Shared → Prop} {E : Value → Shared → Prop} {h : Heap} {g : Array GenState} {d : Drawn} {Y Z : Nat} {os : OsState} (hz : 0 < Z) (k : ∀ tk : Nat, 0 < tk → wpAny M A t Q E ⟨h, g, d, tk, os⟩) : wpAny M A t Q E ⟨h, g, d, Y + Z, os⟩ := k _ (Nat.lt_of_lt_of_le hz (Nat.le_add_left _ _))

theorem retS {R r : Str} {t : Tok} {h₀ h' : Heap} {L : Addr} {m : Str → Option Value} {news news' : List (Addr × Obj)} {s : Shared} {tk : Nat} {Q : Value → Shared → Prop}
    (hret : ∀ (v : Value) (tl : List (Addr × Obj)) (h' : Heap) (tk' : Nat), (∃ t, v = .str R t ∧ tl = []) → (∀ q ∈ tl, ∀ p ∈ news, p.1 < q.1) → Fr h₀ L h' m → News h₀ L h' (tl ++ news) → Q v { s with heap := h', toks := tk' })
    (F : Fr h₀ L h' m) (N : News h₀ L h' news') (sub : ∀ p ∈ news, p ∈ news') (e : r = R) :
    Q (.str r t) { s with heap := h', toks := tk } := by
  subst e
  exact hret _ _ _ _ ⟨_, rfl, rfl⟩ (fun q hq => nomatch hq) F (fun p hp => N p (sub p hp))

end Mine
end

section
open PySem PySem.W PySem.Spec PySem.Calls PyProof.Rows
namespace Mine
set_option maxRecDepth 100000
set_option maxHeartbeats 8000000
set_option pp.deepTerms false
set_option pp.maxSteps 3000

def hsvI (hh : UInt64) : Int := Flt.toInt Float64.truncOf (Float64.mul hh 4618441417868443648)
def hsvE (hh : UInt64) : UInt64 := Float64.sub (Float64.mul hh 4618441417868443648) (Float64.ofInt (hsvI hh))
def hsvT (i : Int) (f ss vv : UInt64) : UInt64 × UInt64 × UInt64 :=
  let p := Float64.mul vv (Float64.sub 4607182418800017408 ss)
  let q := Float64.mul vv (Float64.sub 4607182418800017408 (Float64.mul ss f))
  let t := Float64.mul vv (Float64.sub 4607182418800017408 (Float64.mul ss (Float64.sub 4607182418800017408 f)))
  if i = 0 then (vv, t, p) else if i = 1 then (q, vv, p) else if i = 2 then (p, vv, t) else if i = 3 then (p, q, vv) else if i = 4 then (t, p, vv) else (vv, p, q)
def hsvF (hh ss vv : UInt64) : UInt64 × UInt64 × UInt64 :=
  if (Float64.cmp ss 0 == some Ordering.eq) = true then (vv, vv, vv) else hsvT (Int.fmod (hsvI hh) 6) (hsvE hh) ss vv

theorem big_no {i : Int} (h : 0 ≤ i ∧ i < 10000) (h2 : 2 ^ 1024 - 2 ^ 970 ≤ i.natAbs) : False := by
  have e : (10000 : Nat) < 2 ^ 1024 - 2 ^ 970 := by decide +kernel
  omega
theorem mod6_no {i : Int} (h0 : i.fmod 6 ≠ 0) (h1 : i.fmod 6 ≠ 1) (h2 : i.fmod 6 ≠ 2) (h3 : i.fmod 6 ≠ 3) (h4 : i.fmod 6 ≠ 4) (h5 : i.fmod 6 ≠ 5) : False := by
  have := Int.fmod_nonneg_of_pos i (b := 6) (by decide)
  have := Int.fmod_lt_of_pos i (b := 6) (by decide)
  omega


theorem hsv_c (w : World) (mean : ExcName → Option Value) (mg mb : Str → Option Value) (hh ss vv : UInt64) (t1 t2 t3 : Tok) (news : List (Addr × Obj))
  (p1 : 0 < t1) (p2 : 0 < t2) (p3 : 0 < t3) (hf : Float64.isFinite (Float64.mul hh 4618441417868443648) = true) (hi : 0 ≤ hsvI hh ∧ hsvI hh < 10000) :
  Ctr w mean mg mb (call (.ref 35) [.float hh t1, .float ss t2, .float vv t3]) news 1 8 (fun v tl => ∃ x t4 t5 t6, v = .ref x ∧ tl = [(x, tup3 (hsvF hh ss vv) t4 t5 t6)] ∧ 0 < t4 ∧ 0 < t5 ∧ 0 < t6) := by
  unfold Ctr
  w_top off
  k_fill
  intro dp un gd cn cs a ccd cl outer A₀ base h₀ L m s Q E B F X N T hk hd hu hret
  refine wpAny_call ?_
  k_dflt cell_enter
  repeat' (first | (k_unfold; (try dsimp only)) | (k_end; wrow_close) | ((with_reducible show wpAny _ _ (execs [] _) _ _ _); with_reducible ((k_here; first | (with_reducible refine gen_toks ?_; intro tkq htkq) | (refine gen_toks2 (Nat.le_of_ble_eq_true rfl) ?_; intro tkq htkq)))) | ((with_reducible show wpAny _ _ (execs (_ :: _) _) _ _ _); with_reducible ((k_here; first | (with_reducible refine gen_toks ?_; intro tkq htkq) | (refine gen_toks2 (Nat.le_of_ble_eq_true rfl) ?_; intro tkq htkq)))) | walk1 | (dsimp only; walk1) | (leave1; walk_say "STEP leave1"; try dsimp only) | fail "no step")
  all_goals first
    | exact (big_no hi (by assumption)).elim
    | exact (mod6_no (by assumption) (by assumption) (by assumption) (by assumption) (by assumption) (by assumption)).elim
    | (refine ret3 hret (by assumption) (by assumption) (by assumption) (by first | assumption | exact Nat.succ_pos _) (by first | assumption | exact Nat.succ_pos _) (by first | assumption | exact Nat.succ_pos _) ?_; (simp only [hsvF, hsvT, hsvE, hsvI, *]; try rfl))
end Mine
end

section
open PySem PySem.W PySem.Spec PySem.Calls PyProof.Rows
namespace Mine
set_option maxRecDepth 100000
set_option maxHeartbeats 8000000
def rgbH (h : UInt64) : UInt64 := (Float64.divmod (Float64.div h 4618441417868443648) 4607182418800017408).2
def rgbF (rr gg bb : UInt64) : UInt64 × UInt64 × UInt64 :=
  let x := max3F rr gg bb
  let n := min3F rr gg bb
  if (Float64.cmp n x == some Ordering.eq) = true then (0, 0, x) else
  let d := Float64.sub x n
  let s := Float64.div d x
  let rc := Float64.div (Float64.sub x rr) d
  let gc := Float64.div (Float64.sub x gg) d
  let bc := Float64.div (Float64.sub x bb) d
  if (Float64.cmp rr x == some Ordering.eq) = true then (rgbH (Float64.sub bc gc), s, x)
  else if (Float64.cmp gg x == some Ordering.eq) = true then (rgbH (Float64.sub (Float64.add 4611686018427387904 rc) bc), s, x)
  else (rgbH (Float64.sub (Float64.add 4616189618054758400 gc) rc), s, x)

/-- the same, the tokens given on being positive -/
def CtrP (w : World) (mean : ExcName → Option Value) (mg mb : Str → Option Value) (t : Sem Value) (news : List (Addr × Obj)) (d u : Nat) (Post : Value → List (Addr × Obj) → Prop) : Prop :=
  ∀ (dp un : Nat) (gd : Option (List Code)) (cn : Str) (cs : Scope) (a : Addr) (ccd : Value) (cl : List (Str × Addr)) (outer : List Env) (A₀ : Around) (base h₀ : Heap) (L : Addr) (m : Str → Option Value) (s : Shared) (Q E : Value → Shared → Prop),
    Below A₀ base outer h₀ → Fr h₀ L s.heap m → (hd.heap_39 w.params).In h₀ → News h₀ L s.heap news → Top hd.view_39 (looseW hd.view_39 [Str.ofString "Whitespace"]) mean mg mb h₀ → cs.kind = .function →
    dp + d < recursionLimit → un + u < cLine → 
    (∀ (v : Value) (tl : List (Addr × Obj)) (h' : Heap) (tk' : Nat), Post v tl → (∀ q ∈ tl, ∀ p ∈ news, p.1 < q.1) → 0 < tk' → Fr h₀ L h' m → News h₀ L h' (tl ++ news) → Q v { s with heap := h', toks := tk' }) →
      wpAny (model Challenge.rw_pk0086_01.row.prog w) (ktrTop dp un gd cn cs L a ccd cl outer) t Q E s

theorem ret3P {R : UInt64 × UInt64 × UInt64} {a b c : UInt64} {t4 t5 t6 : Tok} {h₀ h' : Heap} {L D : Addr} {m : Str → Option Value} {news : List (Addr × Obj)} {s : Shared} {tk : Nat} {Q : Value → Shared → Prop}
    (hret : ∀ (v : Value) (tl : List (Addr × Obj)) (h' : Heap) (tk' : Nat), (∃ x t4 t5 t6, v = .ref x ∧ tl = [(x, tup3 R t4 t5 t6)] ∧ 0 < t4 ∧ 0 < t5 ∧ 0 < t6) → (∀ q ∈ tl, ∀ p ∈ news, p.1 < q.1) → 0 < tk' → Fr h₀ L h' m → News h₀ L h' (tl ++ news) → Q v { s with heap := h', toks := tk' })
    (p0 : 0 < tk) (l : ∀ p ∈ news, p.1 < D) (F : Fr h₀ L h' m) (N : News h₀ L h' ((D, { cls := .type "tuple", data := .seq #[.float a t4, .float b t5, .float c t6] }) :: news)) (p4 : 0 < t4) (p5 : 0 < t5) (p6 : 0 < t6) (e : R = (a, b, c)) :
    Q (.ref D) { s with heap := h', toks := tk } := by
  subst e
  exact hret _ _ _ _ ⟨_, _, _, _, rfl, rfl, p4, p5, p6⟩ (fun q hq p hp => by rw [List.mem_singleton] at hq; subst hq; exact l p hp) p0 F N



theorem rgb_cP (w : World) (mean : ExcName → Option Value) (mg mb : Str → Option Value) (rr gg bb : UInt64) (t1 t2 t3 : Tok) (news : List (Addr × Obj))
    (p1 : 0 < t1) (p2 : 0 < t2) (p3 : 0 < t3) (hz : (Float64.cmp (min3F rr gg bb) (max3F rr gg bb) == some Ordering.eq) = false → ¬ Float64.isZero (max3F rr gg bb) = true ∧ ¬ Float64.isZero (Float64.sub (max3F rr gg bb) (min3F rr gg bb)) = true) :
  CtrP w mean mg mb (call (.ref 28) [.float rr t1, .float gg t2, .float bb t3]) news 1 8 (fun v tl => ∃ x t4 t5 t6, v = .ref x ∧ tl = [(x, tup3 (rgbF rr gg bb) t4 t5 t6)] ∧ 0 < t4 ∧ 0 < t5 ∧ 0 < t6) := by
  unfold CtrP
  w_top off
  k_fill
  intro dp un gd cn cs a ccd cl outer A₀ base h₀ L m s Q E B F X N T hk hd hu hret
  refine wpAny_call ?_
  k_dflt cell_enter
  repeat' (first | (k_unfold; (try dsimp only)) | (k_end; wrow_close) | ((with_reducible show wpAny _ _ (execs [] _) _ _ _); with_reducible ((k_here; first | (with_reducible refine gen_toks ?_; intro tkq htkq) | (refine gen_toks2 (Nat.le_of_ble_eq_true rfl) ?_; intro tkq htkq)))) | ((with_reducible show wpAny _ _ (execs (_ :: _) _) _ _ _); with_reducible ((k_here; first | (with_reducible refine gen_toks ?_; intro tkq htkq) | (refine gen_toks2 (Nat.le_of_ble_eq_true rfl) ?_; intro tkq htkq)))) | ((with_reducible show wpAny _ _ (call (Value.builtin "min") _) _ _ _); with_reducible (((with_reducible show wpAny _ _ (call _ [Value.float _ _, Value.float _ _, Value.float _ _]) _ _ _); (rename News _ _ _ _ => Nq'); (rename Fr _ _ _ _ => Fq'); refine min_three_ff rfl Fq' Nq' (by first | assumption | exact Nat.succ_pos _) (by first | assumption | exact Nat.succ_pos _) (by first | assumption | exact Nat.succ_pos _) ?_; clear Nq'; intro _ _ _ _ _ _))) | ((with_reducible show wpAny _ _ (call (Value.builtin "max") _) _ _ _); with_reducible (((with_reducible show wpAny _ _ (call _ [Value.float _ _, Value.float _ _, Value.float _ _]) _ _ _); (rename News _ _ _ _ => Nq'); (rename Fr _ _ _ _ => Fq'); refine max_three_ff rfl Fq' Nq' (by first | assumption | exact Nat.succ_pos _) (by first | assumption | exact Nat.succ_pos _) (by first | assumption | exact Nat.succ_pos _) ?_; clear Nq'; intro _ _ _ _ _ _))) | walk1 | (dsimp only; walk1) | (leave1; walk_say "STEP leave1"; try dsimp only) | fail "no step")
  all_goals first
    | exact absurd (by assumption) (hz (by assumption)).1
    | exact absurd (by assumption) (hz (by assumption)).2
    | (refine ret3P hret (by first | assumption | exact Nat.succ_pos _) (by assumption) (by assumption) (by assumption) (by first | assumption | exact Nat.succ_pos _) (by first | assumption | exact Nat.succ_pos _) (by first | assumption | exact Nat.succ_pos _) ?_; (simp only [rgbF, rgbH, *]; try rfl))

theorem rgb_c (w : World) (mean : ExcName → Option Value) (mg mb : Str → Option Value) (rr gg bb : UInt64) (t1 t2 t3 : Tok) (news : List (Addr × Obj))
    (p1 : 0 < t1) (p2 : 0 < t2) (p3 : 0 < t3) (hz : (Float64.cmp (min3F rr gg bb) (max3F rr gg bb) == some Ordering.eq) = false → ¬ Float64.isZero (max3F rr gg bb) = true ∧ ¬ Float64.isZero (Float64.sub (max3F rr gg bb) (min3F rr gg bb)) = true) :
  Ctr w mean mg mb (call (.ref 28) [.float rr t1, .float gg t2, .float bb t3]) news 1 8 (fun v tl => ∃ x t4 t5 t6, v = .ref x ∧ tl = [(x, tup3 (rgbF rr gg bb) t4 t5 t6)] ∧ 0 < t4 ∧ 0 < t5 ∧ 0 < t6) :=
  fun dp un gd cn cs a ccd cl outer A₀ base h₀ L m s Q E B F X N T hk hd hu hret =>
    rgb_cP w mean mg mb rr gg bb t1 t2 t3 news p1 p2 p3 hz dp un gd cn cs a ccd cl outer A₀ base h₀ L m s Q E B F X N T hk hd hu (fun v tl h' tk' P l _ F' N' => hret v tl h' tk' P l F' N')
end Mine
end

section
open PySem PySem.W PySem.Spec PySem.Calls PyProof.Rows
namespace Mine
set_option maxRecDepth 100000
set_option maxHeartbeats 8000000
set_option pp.deepTerms false
set_option pp.maxSteps 3000

def repl (x a b : Str) : Str := Txt.join b (Txt.split x a)
structure RepOk (x a b : Str) : Prop where
  a0 : (a.length == 0) = false
  xl : x.length + 2 ≤ sizeLine
  jo : JoinOk b (Txt.split x a) = true

theorem split_r {prog : Program} {w : World} {A : Around} {E : Value → Shared → Prop} {s : Shared} {h₀ : Heap} {L : Addr} {m : Str → Option Value} {news : List (Addr × Obj)} {x y b : Str} {t u : Tok} {Q : Value → Shared → Prop} 
    (ok : RepOk x y b) (hF : Fr h₀ L s.heap m) (hN : News h₀ L s.heap news)
    (h : ∀ D l h' k, l.map (·.1) = Txt.split x y → Fr h₀ L h' m → News h₀ L h' ((D, W.listOf (strValues l).toArray 0) :: news) → (∀ p ∈ news, p.1 < D) → Q (.ref D) { s with heap := h', toks := k }) :
    wpAny (model prog w) A (call (.builtin "str.split") [.str x t, .str y u]) Q E s :=
  KSpl.split1 hF hN ok.a0 (fun D l h' k e _ F N l1 => h D l h' k e F N l1) ok.xl
theorem join_r {prog : Program} {w : World} {A : Around} {E : Value → Shared → Prop} {s : Shared} {h₀ : Heap} {L D : Addr} {news : List (Addr × Obj)} {x y b : Str} {t : Tok} {l : List (Str × Tok)} {Q : Value → Shared → Prop} 
    (ok : RepOk x y b) (hN : News h₀ L s.heap news) (hm : (D, W.listOf (strValues l).toArray 0) ∈ news) (e : l.map (·.1) = Txt.split x y)
    (h : ∀ t' k, Q (.str (repl x y b) t') { s with toks := k }) :
    wpAny (model prog w) A (call (.builtin "str.join") [.str b t, .ref D]) Q E s :=
  SC.join (hN.isList hm) e ok.jo h

theorem slice_tup_r {prog : Program} {w : World} {A : Around} {E : Value → Shared → Prop} {s : Shared} {h₀ : Heap} {L : Addr} {m : Str → Option Value} {news : List (Addr × Obj)} {value slice : Expr} {t : Addr} {l zs : List Value} (a : Nat) {k : Int} {u : Tok} {Q : Value → Shared → Prop}
    (F : Fr h₀ L s.heap m) (N : News h₀ L s.heap news) (ht : (t, { cls := .type "tuple", data := .seq l.toArray }) ∈ news) (hk : k = (a : Int)) (h1 : 1 ≤ a) (ha : a ≤ l.length) (e : l.drop a = zs)
    (h : ∀ D h', Fr h₀ L h' m → News h₀ L h' ((D, { cls := .type "tuple", data := .seq zs.toArray }) :: news) → (∀ p ∈ news, p.1 < D) → Q (.ref D) { s with heap := h' })
    (hs : subscripted slice false (.ref t) (.ref s.heap.objs.size) = operate [.ref s.heap.objs.size, .ref t] (getItem (.ref t) (.ref s.heap.objs.size)))
    (hg : ∀ r, letTemporaryGo value (.ref t) r = pure ())
    (hsz : l.length ≤ sizeLine) :
    wpAny (model prog w) A (subscriptTail value slice (.ref t) (.ref s.heap.objs.size)) Q E { s with heap := s.heap.push { cls := .type "slice", data := .fields #[.int k u, .none, .none] } } := by
  subst hk
  subst e
  refine slice_tuple_from F N (N.isTup ht) h1 (by simpa using ha) (fun h' F' N' => h _ h' F' N' fun p hp => Nat.lt_succ_of_lt (Heap.lt_size (N p hp).1)) hs hg (by simpa using hsz)

theorem rep_c (w : World) (mean : ExcName → Option Value) (mg mb : Str → Option Value) (x a1 a2 a3 a4 b1 b2 b3 b4 : Str) (t t1 t2 t3 t4 t5 t6 t7 t8 : Tok) (news : List (Addr × Obj)) 
    (h1 : RepOk x a1 b1) (h2 : RepOk (repl x a1 b1) a2 b2) (h3 : RepOk (repl (repl x a1 b1) a2 b2) a3 b3) (h4 : RepOk (repl (repl (repl x a1 b1) a2 b2) a3 b3) a4 b4) :
  Ctr w mean mg mb (call (.ref 42) [.str x t, .str a1 t1, .str b1 t2, .str a2 t3, .str b2 t4, .str a3 t5, .str b3 t6, .str a4 t7, .str b4 t8]) news 1 8 (fun v tl => ∃ t, v = .str (repl (repl (repl (repl x a1 b1) a2 b2) a3 b3) a4 b4) t ∧ tl = []) := by
  unfold Ctr
  w_top off
  k_fill
  intro dp un gd cn cs a ccd cl outer A₀ base h₀ L m s Q E B F X N T hk hd hu hret
  refine wpAny_call ?_
  k_dflt (refine' kp_rest ?k1 ?k2 ?k3 ?k4 ?k5 ?kA ?kF ?kK ?k6 ?k7 ?k8 ?kV ?kP ?kG ?kB ?_ ?c2 ?c3 ?c4 ?c5; (case kA => exact rfl); (case kF => exact rfl); (case kK => assumption); (case k1 => k_asm); (case k2 => k_asm); (case k3 => k_asm); (case k4 => k_asm); (case k5 => k_asm); (case k6 => k_is); (case k7 => k_is); (case k8 => ktr_room); (case kV => kl_lit); (case kP => exact rfl); (case kG => exact fun _ => rfl); (case kB => exact fun _ => locs rfl); (case c5 => decide); (case c2 => exact rfl); (case c3 => exact rfl); (case c4 => exact rfl); k_whole; intro D' g' L' h' l1 FG' F' N' B' X' T'; (try k_lt l1); (try dsimp only); (try k_lift B'); (try k_fold))
  repeat' (first | (k_unfold; (try dsimp only)) | (k_end; wrow_close) | ((with_reducible show wpAny _ _ (call (Value.builtin "str.join") _) _ _ _); with_reducible ((k_here; k_dflt (refine' join_r ?o ?k1 ?k2 ?e ?_; (case e => assumption); (case o => assumption); (case k1 => k_asm); (case k2 => k_mem); k_whole); intro tq' kq'))) | ((with_reducible show wpAny _ _ (call (Value.builtin "str.join") _) _ _ _); ((k_here; k_dflt (refine' join_r ?o ?k1 ?k2 ?e ?_; (case e => assumption); (case o => assumption); (case k1 => k_asm); (case k2 => k_mem); k_whole); intro tq' kq'))) | ((with_reducible show wpAny _ _ (call (Value.builtin "str.split") _) _ _ _); with_reducible ((k_here; k_dflt (refine' split_r ?o ?k1 ?k2 ?_; (case o => assumption); (case k1 => k_asm); (case k2 => k_asm); k_whole); intro Dq' lq' hq' kq' eq' Fq' Nq' l1q; (try k_lt l1q)))) | ((with_reducible show wpAny _ _ (exec (Stmt.While _ _ _ _) _) _ _ _); with_reducible ((k_here; k_dflt (refine whl_start 100 ?_)))) | ((with_reducible show wpAny _ _ (subscriptTail _ (PySem.Expr.Slice _ none none _) (Value.ref _) (Value.ref _)) _ _ _); with_reducible ((k_here; (with_reducible show wpAny _ _ (subscriptTail _ (PySem.Expr.Slice _ none none _) (Value.ref _) (Value.ref _)) _ _ _); k_dflt (refine' slice_tup_r 2 ?F ?N ?l ?k ?h1 ?ha ?e ?_ ?s ?t ?z; (case F => k_asm); (case N => k_asm); (case l => k_mem); (case k => rfl); (case h1 => decide); (case ha => exact Nat.le_of_ble_eq_true rfl); (case e => kl_lit); (case s => with_unfolding_all rfl); (case t => (intro _; with_unfolding_all rfl)); (case z => exact Nat.le_of_ble_eq_true rfl)); intro Dq' hq' Fq' Nq' l1q; (try k_lt l1q)))) | walk1 | (dsimp only; walk1) | (leave1; walk_say "STEP leave1"; try dsimp only) | fail "no step")
  exact retS hret (by assumption) (by assumption) (by intro p hp; repeat (first | exact hp | refine List.mem_cons_of_mem _ ?_)) rfl
end Mine
end

section
open PySem PySem.W PySem.Spec PySem.Calls PyProof.Rows PyProof.V
namespace Mine
section
variable {prog : Program} {w : World} {A : Around} {E : Value → Shared → Prop} {s : Shared} {env : Env} {h₀ : Heap} {x : Str} {body : List Stmt} {Q : Flow → Shared → Prop}

/-- a turn's end: the state's letters, the map and the ledger that they say -/
def TurnEnd {σ : Type} (h₀ : Heap) (L : Addr) (x : Str) (Led : σ → List (Addr × Obj)) (mp : σ → Str → Option Value) (J : σ → Prop) (own : List (Addr × Obj)) (s₁ s₂ : Shared) : Prop :=
  ∃ (c : σ) (h' : Heap) (tk : Nat) (m' : Str → Option Value) (news' : List (Addr × Obj)), s₂ = { s₁ with heap := h', toks := tk } ∧ J c ∧ Fr h₀ L h' m' ∧ News h₀ L h' news' ∧ (∀ p ∈ Led c, p ∈ news') ∧ (∀ p ∈ own, p ∈ news') ∧ OwnOff own ((Led c).map (·.1)) ∧ (∀ z, z ≠ x → m' z = mp c z)
theorem TurnEnd.intro {σ : Type} {L : Addr} {Led : σ → List (Addr × Obj)} {mp : σ → Str → Option Value} {J : σ → Prop} {own news' : List (Addr × Obj)} {s₁ : Shared} {h' : Heap} {tk : Nat} {m' : Str → Option Value} (c : σ) (hj : J c) (F : Fr h₀ L h' m') (N : News h₀ L h' news') (hl : ∀ p ∈ Led c, p ∈ news') (ho : ∀ p ∈ own, p ∈ news') (hoff : OwnOff own ((Led c).map (·.1))) (hm : ∀ z, z ≠ x → m' z = mp c z) :
    TurnEnd h₀ L x Led mp J own s₁ { s₁ with heap := h', toks := tk } := ⟨c, h', tk, m', news', rfl, hj, F, N, hl, ho, hoff, hm⟩
def TurnPost {σ : Type} (h₀ : Heap) (L : Addr) (x : Str) (Led : σ → List (Addr × Obj)) (mp : σ → Str → Option Value) (J Fin : σ → Prop) (own : List (Addr × Obj)) (s₁ : Shared) (Q : Flow → Shared → Prop) (f : Flow) (s₂ : Shared) : Prop :=
  match f with
  | .ret v => Q (.ret v) s₂
  | .brk => TurnEnd h₀ L x Led mp Fin own s₁ s₂
  | _ => TurnEnd h₀ L x Led mp J own s₁ s₂

theorem loopW {σ : Type} {I : Addr} {n : Nat} {P : Nat → Value → Prop} {St : Nat → Heap → Prop} {m₀ : Str → Option Value} (Led : σ → List (Addr × Obj)) (mp : σ → Str → Option Value) (J : Nat → σ → Prop) (Fin : σ → Prop) (c₀ : σ)
    (W : Walks prog w A I [I] [I] n P St) (hIL : env.locals ≠ I) (hI0 : h₀.get? I = none) (hIn : ∀ p ∈ Led c₀, p.1 ≠ I) (hlive : ∀ i h, St i h → ∃ o, h.get? I = some o) (hst : St 0 s.heap) (F : Fr h₀ env.locals s.heap m₀) (N : News h₀ env.locals s.heap (Led c₀)) (hm : ∀ z, z ≠ x → m₀ z = mp c₀ z) (hj : J 0 c₀)
    (turn : ∀ i v c h tk own, i < n → P i v → J i c → (∃ o, own = [(I, o)]) → OwnOff own ((Led c).map (·.1)) → Fr h₀ env.locals h (fun y => if y = x then some v else mp c y) → News h₀ env.locals h (Led c ++ own) →
      wpAny (model prog w) A (execs body env) (TurnPost h₀ env.locals x Led mp (J (i + 1)) Fin own { s with heap := h, toks := tk } Q) E { s with heap := h, toks := tk })
    (hfin : ∀ c, J n c → Fin c)
    (done : ∀ c u h tk, Fin c → Fr h₀ env.locals h (fun y => if y = x then u else mp c y) → News h₀ env.locals h (Led c) → Q .next { s with heap := h, toks := tk }) :
    LoopAtV prog w A h₀ env x body Q E (.ref I) s := by
  have unm : ∀ (m : Str → Option Value) c, (∀ z, z ≠ x → m z = mp c z) → ∀ v, (fun y => if y = x then v else m y) = fun y => if y = x then v else mp c y := by
    intro m c h v
    funext y
    by_cases hy : y = x
    · simp [hy]
    · simp only [if_neg hy]; exact h y hy
  have self : ∀ (m : Str → Option Value) c, (∀ z, z ≠ x → m z = mp c z) → m = fun y => if y = x then m x else mp c y := by
    intro m c h
    funext y
    by_cases hy : y = x
    · simp [hy]
    · simp only [if_neg hy]; exact h y hy
  let J' : Nat → (Str → Option Value) → List (Addr × Obj) → Prop := fun i m news => ∃ c, J i c ∧ news = Led c ∧ (∀ z, z ≠ x → m z = mp c z)
  refine ⟨I, [I], [I], n, P, St, m₀, Led c₀, J', rfl, W, fun h => hIL (List.mem_singleton.mp h), fun b hb => by rw [List.mem_singleton.mp hb]; exact hI0, fun p hp hI => hIn p hp (List.mem_singleton.mp hI), hst, F, N, ⟨c₀, hj, rfl, hm⟩, ?_, ?_⟩
  · rintro i v m₁ news₁ s₁ own ⟨hh', tk', rfl⟩ hin hP ⟨c, hJ, rfl, hmc⟩ hoff hown hget hall hst₁ F₁ N₁
    obtain ⟨oI, hoI⟩ := hlive _ _ hst₁
    have hIown : (I, oI) ∈ own := hall I (List.mem_singleton.mpr rfl) hI0 oI hoI
    have hsep : OwnOff [(I, oI)] ((Led c).map (·.1)) := by
      intro p hp b hb e
      obtain ⟨q, hq, rfl⟩ := List.mem_map.mp hb
      rw [List.mem_singleton.mp hp] at e
      exact hoff q hq (List.mem_singleton.mpr e.symm)
    have hall' : ∀ p ∈ own, p = (I, oI) := by
      intro p hp
      have h1 := List.mem_singleton.mp (hown p hp)
      have h2 := hget p hp
      rw [h1] at h2
      have h3 : p.2 = oI := Option.some.inj (h2.symm.trans hoI)
      obtain ⟨a, b⟩ := p
      simp only at h1 h3
      rw [h1, h3]
    rw [unm m₁ c hmc] at F₁
    have N₂ : News h₀ env.locals hh' (Led c ++ [(I, oI)]) := fun p hp => N₁ p ((List.mem_append.mp hp).elim (fun h => List.mem_append.mpr (.inr h)) fun h => List.mem_append.mpr (.inl (by rw [List.mem_singleton.mp h]; exact hIown)))
    refine wpAny_mono (turn i v c hh' tk' [(I, oI)] hin hP hJ ⟨oI, rfl⟩ hsep F₁ N₂) (fun f s₂ p => ?_) fun _ _ e => e
    have fin : TurnEnd h₀ env.locals x Led mp (J (i + 1)) [(I, oI)] { s with heap := hh', toks := tk' } s₂ → LoopStepU h₀ env.locals [I] own (J' (i + 1)) { s with heap := hh', toks := tk' } .next s₂ := by
      rintro ⟨c', h', tk, m', news', e, hJ', F', N', hl, ho, ha, hm'⟩
      refine ⟨rfl, h', tk, m', Led c', e, F', fun p hp => N' p ((List.mem_append.mp hp).elim (fun h => ho p (by rw [hall' p h]; exact List.mem_singleton.mpr rfl)) (hl p)), fun p hp hq => ?_, c', hJ', rfl, hm'⟩
      exact ha _ (List.mem_singleton.mpr rfl) p.1 (List.mem_map.mpr ⟨p, hp, rfl⟩) (List.mem_singleton.mp hq).symm
    cases f with
    | ret v => exact .ret p
    | brk =>
      obtain ⟨c', h', tk, m', news', rfl, hJ', F', N', hl, ho, ha, hm'⟩ := p
      refine .brk (done c' (m' x) h' tk hJ' ?_ fun p hp => N' p (hl p hp))
      rw [← self m' c' hm']
      exact F'
    | next => exact .next (fin p)
    | cont => exact .cont (fin p)
  · rintro h' tk m' news' F' N' _ ⟨c, hJ, rfl, hm'⟩
    refine done c (m' x) h' tk (hfin c hJ) ?_ N'
    rw [← self m' c hm']
    exact F'

theorem pyIter_str_live {xt : Str} {t : Tok} {Q : Value → Shared → Prop}
    (hQ : ∀ (o : Obj) (St : Nat → Heap → Prop), (∀ A' : Around, A'.handled = none → Walks prog w A' s.heap.objs.size [s.heap.objs.size] [s.heap.objs.size] xt.cps.size (SignAt xt) St) → (∀ i h, St i h → ∃ o, h.get? s.heap.objs.size = some o) → St 0 (s.heap.push o) →
      Q (.ref s.heap.objs.size) { s with heap := s.heap.push o }) : wpAny (model prog w) A (pyIter (.str xt t)) Q E s := by
  cases ha : xt.cps.all (· < 128)
  · exact wpAny_pyIter_wide ha (hQ _ _ (fun A' hA => Walks.strWide hA _ xt t) (fun _ _ st => let ⟨o, ho, _⟩ := st; ⟨o, ho⟩) ⟨_, Heap.get?_push_size _ rfl, rfl, rfl⟩)
  · exact wpAny_pyIter_ascii ha (hQ _ _ (fun A' hA => Walks.strAscii hA _ xt t) (fun _ _ st => let ⟨o, ho, _⟩ := st; ⟨o, ho⟩) ⟨_, Heap.get?_push_size _ rfl, rfl, rfl⟩)

theorem loopStr {σ : Type} {xt : Str} {tx : Tok} {m₀ : Str → Option Value} (Led : σ → List (Addr × Obj)) (mp : σ → Str → Option Value) (J : Nat → σ → Prop) (Fin : σ → Prop) (c₀ : σ)
    (hh : A.handled = none) (F : Fr h₀ env.locals s.heap m₀) (N : News h₀ env.locals s.heap (Led c₀)) (hm : ∀ z, z ≠ x → m₀ z = mp c₀ z) (hj : J 0 c₀)
    (turn : ∀ i n t c h tk own, xt.cps[i]? = some n → J i c → OwnOff own ((Led c).map (·.1)) → Fr h₀ env.locals h (fun y => if y = x then some (.str ⟨#[n]⟩ t) else mp c y) → News h₀ env.locals h (Led c ++ own) →
      wpAny (model prog w) A (execs body env) (TurnPost h₀ env.locals x Led mp (J (i + 1)) Fin own { s with heap := h, toks := tk } Q) E { s with heap := h, toks := tk })
    (hfin : ∀ c, J xt.cps.size c → Fin c)
    (done : ∀ c u h tk, Fin c → Fr h₀ env.locals h (fun y => if y = x then u else mp c y) → News h₀ env.locals h (Led c) → Q .next { s with heap := h, toks := tk }) :
    wpAny (model prog w) A (pyIter (.str xt tx)) (fun it s₂ => LoopAtV prog w A h₀ env x body Q E it s₂) E s := by
  refine pyIter_str_live fun o St hW hlive hst => ?_
  have W := hW A hh
  refine loopW Led mp J Fin c₀ W ?_ (next_is_new F) ?_ hlive hst (F.push _) (fun p hp => ⟨Heap.get?_push_of_some _ (N p hp).1, (N p hp).2⟩) hm hj ?_ hfin done
  · exact fun h => absurd F.ns.lt (h ▸ Nat.lt_irrefl _)
  · exact fun p hp hI => absurd (Heap.lt_size (N p hp).1) (hI ▸ Nat.lt_irrefl _)
  · rintro i v c h tk own hi ⟨n, u, hn, rfl⟩ hJ _ hoff F₁ N₁
    exact turn i n u c h tk own hn hJ hoff F₁ N₁

theorem loopRange {σ : Type} {r : Addr} {a₀ b₀ : Int} {t₀ u₀ v₀ : Tok} {n : Nat} {m₀ : Str → Option Value} (Led : σ → List (Addr × Obj)) (mp : σ → Str → Option Value) (J : Nat → σ → Prop) (Fin : σ → Prop) (c₀ : σ)
    (hh : A.handled = none) (hr : IsRange s.heap r a₀ b₀ 1 t₀ u₀ v₀) (hsmall : Builtin.Range.small a₀ b₀ 1 = true) (hn : Builtin.Range.rangeSize a₀ b₀ 1 = (n : Int)) (F : Fr h₀ env.locals s.heap m₀) (N : News h₀ env.locals s.heap (Led c₀)) (hm : ∀ z, z ≠ x → m₀ z = mp c₀ z) (hj : J 0 c₀)
    (turn : ∀ (i : Nat) t c h tk own, i < n → J i c → OwnOff own ((Led c).map (·.1)) → Fr h₀ env.locals h (fun y => if y = x then some (.int (a₀ + (i : Int)) t) else mp c y) → News h₀ env.locals h (Led c ++ own) →
      wpAny (model prog w) A (execs body env) (TurnPost h₀ env.locals x Led mp (J (i + 1)) Fin own { s with heap := h, toks := tk } Q) E { s with heap := h, toks := tk })
    (hfin : ∀ c, J n c → Fin c)
    (done : ∀ c u h tk, Fin c → Fr h₀ env.locals h (fun y => if y = x then u else mp c y) → News h₀ env.locals h (Led c) → Q .next { s with heap := h, toks := tk }) :
    wpAny (model prog w) A (pyIter (.ref r)) (fun it s₂ => LoopAtV prog w A h₀ env x body Q E it s₂) E s := by
  refine wpAny_pyIter_range hr hsmall ?_
  have W : Walks prog w A s.heap.objs.size [s.heap.objs.size] [s.heap.objs.size] n (fun i v => i < n ∧ ∃ t, v = .int (a₀ + i * 1) t)
      (fun i h => IsRangeIter h s.heap.objs.size (a₀ + (i : Nat) * 1) ((n : Int) - (i : Nat)) 1) := (Walks.range hh _ a₀ 1 n).bound
  refine loopW Led mp J Fin c₀ W ?_ (next_is_new F) ?_ (fun i h st => ⟨_, st⟩) (by show IsRangeIter _ _ _ _ _; rw [hn]; simpa using Heap.get?_push_size _ rfl) (F.push _) (fun p hp => ⟨Heap.get?_push_of_some _ (N p hp).1, (N p hp).2⟩) hm hj ?_ hfin done
  · exact fun h => absurd F.ns.lt (h ▸ Nat.lt_irrefl _)
  · exact fun p hp hI => absurd (Heap.lt_size (N p hp).1) (hI ▸ Nat.lt_irrefl _)
  · rintro i v c h tk own hi ⟨_, u, rfl⟩ hJ _ hoff F₁ N₁
    rw [Int.mul_one] at F₁
    exact turn i u c h tk own hi hJ hoff F₁ N₁
end
end Mine
end

section
open PySem PySem.W PySem.Spec PySem.Calls PyProof.Rows
namespace Mine
set_option maxRecDepth 100000
set_option maxHeartbeats 8000000
set_option pp.deepTerms false
set_option pp.maxSteps 3000

structure W4 where
  n : Int
  nt : Int
  b : Int
  cnt : List Int
structure WSt where
  p : W4
  tn : Tok
  tnt : Tok
  tb : Tok
  a : Addr
  vs : List Value
  k : Nat

abbrev wsMp (r : Str → Option Value) (c : WSt) : Str → Option Value := fun y => if y = Str.ofString "nt" then some (Value.int c.p.nt c.tnt) else if y = Str.ofString "n" then some (Value.int c.p.n c.tn) else if y = Str.ofString "b" then some (Value.int c.p.b c.tb) else if y = Str.ofString "count" then some (Value.ref c.a) else r y
abbrev wsLed (r : List (Addr × Obj)) (c : WSt) : List (Addr × Obj) := (c.a, W.listOf c.vs.toArray c.k) :: r

theorem ne_tail {news own : List (Addr × Obj)} {a : Addr} (h : AllLt a news) (ho : OwnOff own [a]) : ∀ p ∈ news ++ own, p.1 ≠ a := by
  intro p hp
  rcases List.mem_append.mp hp with h1 | h1
  · have : ∀ {l : List (Addr × Obj)}, AllLt a l → p ∈ l → p.1 < a := by
      intro l
      induction l with
      | nil => intro _ h; cases h
      | cons q r ih =>
        intro h h2
        rcases List.mem_cons.mp h2 with rfl | h3
        · exact h.1
        · exact ih h.2 h3
    exact Nat.ne_of_lt (this h h1)
  · exact ho p h1 a (List.mem_singleton.mpr rfl)
local macro_rules | `(tactic| k_all) => `(tactic| exact ne_tail (by assumption) (by assumption))


def wGrow (cnt : List Int) (b : Int) : List Int := if (cnt.length : Int) ≤ b then cnt ++ (List.replicate (b - cnt.length + 1).toNat [0]).flatten else cnt
def wBump (cnt : List Int) (b : Int) : List Int := cnt.set b.toNat (cnt.getD b.toNat 0 + 1)
def wScan (p : W4) : List Nat → W4
  | [] => p
  | c :: r => if c = 32 then wScan ⟨p.n + 1, p.nt, p.b + 1, p.cnt⟩ r else if c = 9 then wScan ⟨p.n + 1, p.nt + 1, 0, wBump (wGrow p.cnt p.b) p.b⟩ r else p
def w0 : W4 := ⟨0, 0, 0, []⟩

structure wsOk (r : List (Addr × Obj)) (i : Nat) (c : WSt) : Prop where
  I : IntsAre c.vs c.p.cnt
  b0 : 0 ≤ c.p.b
  b1 : c.p.b ≤ i
  n0 : 0 ≤ c.p.n
  n1 : c.p.n ≤ i
  t0 : 0 ≤ c.p.nt
  t1 : c.p.nt ≤ i
  len : c.p.cnt.length ≤ i + 1
  lt : AllLt c.a r

section
open PyProof.V
variable {prog : Program} {w : World} {A : Around} {E : Value → Shared → Prop} {s : Shared} {env : Env} {h₀ : Heap} {x : Str} {body : List Stmt} {Q : Flow → Shared → Prop}
theorem wsLoop {r : List (Addr × Obj)} {mr m₀ : Str → Option Value} {xt : Str} {tx t1 t2 t3 : Tok} {l : Addr}
    (hh : A.handled = none) (F : Fr h₀ env.locals s.heap m₀) (N : News h₀ env.locals s.heap ((l, W.listOf #[] 0) :: r)) (hm : ∀ z, z ≠ x → m₀ z = wsMp mr ⟨w0, t1, t2, t3, l, [], 0⟩ z) (hlt : AllLt l r)
    (turn : ∀ i n t c h tk own, xt.cps[i]? = some n → wsOk r i c → wScan c.p (xt.cps.toList.drop i) = wScan w0 xt.cps.toList → OwnOff own (c.a :: r.map (·.1)) → Fr h₀ env.locals h (fun y => if y = x then some (.str ⟨#[n]⟩ t) else wsMp mr c y) → News h₀ env.locals h ((c.a, W.listOf c.vs.toArray c.k) :: (r ++ own)) →
      wpAny (model prog w) A (execs body env) (TurnPost h₀ env.locals x (wsLed r) (wsMp mr) (fun c => wsOk r (i + 1) c ∧ wScan c.p (xt.cps.toList.drop (i + 1)) = wScan w0 xt.cps.toList) (fun c => wsOk r xt.cps.size c ∧ c.p = wScan w0 xt.cps.toList) own { s with heap := h, toks := tk } Q) E { s with heap := h, toks := tk })
    (done : ∀ c u h tk, wsOk r xt.cps.size c → c.p = wScan w0 xt.cps.toList → Fr h₀ env.locals h (fun y => if y = x then u else wsMp mr c y) → News h₀ env.locals h ((c.a, W.listOf c.vs.toArray c.k) :: r) → Q .next { s with heap := h, toks := tk }) :
    wpAny (model prog w) A (pyIter (.str xt tx)) (fun it s₂ => LoopAtV prog w A h₀ env x body Q E it s₂) E s :=
  loopStr (wsLed r) (wsMp mr) (fun i c => wsOk r i c ∧ wScan c.p (xt.cps.toList.drop i) = wScan w0 xt.cps.toList) (fun c => wsOk r xt.cps.size c ∧ c.p = wScan w0 xt.cps.toList) ⟨w0, t1, t2, t3, l, [], 0⟩ hh F N hm
    ⟨⟨.nil, Int.le_refl _, Int.le_refl _, Int.le_refl _, Int.le_refl _, Int.le_refl _, Int.le_refl _, Nat.zero_le _, hlt⟩, rfl⟩
    (fun i n t c h tk own hn hJ hoff F' N' => turn i n t c h tk own hn hJ.1 hJ.2 hoff F' N')
    (fun c hJ => ⟨hJ.1, by have h := hJ.2; rw [List.drop_of_length_le (by simp)] at h; exact h⟩)
    (fun c u h tk hF F' N' => done c u h tk hF.1 hF.2 F' N')
end

theorem drop_at {l : Array Nat} {i n : Nat} (h : l[i]? = some n) : l.toList.drop i = n :: l.toList.drop (i + 1) := by
  have h' : l.toList[i]? = some n := by simpa using h
  obtain ⟨hi, e⟩ := List.getElem?_eq_some_iff.mp h'
  rw [List.drop_eq_getElem_cons hi, e]
theorem sgn_one {n k : Nat} : (({ cps := #[n] } : Str) == ({ cps := #[k] } : Str)) = decide (n = k) := by
  by_cases h : n = k
  · subst h; simp
  · have : ¬ (({ cps := #[n] } : Str) = ({ cps := #[k] } : Str)) := by
      intro e
      have e2 := congrArg PySem.Str.cps e
      simp at e2
      exact h e2
    simp [h, this]
theorem blank_is : Str.ofString " " = ({ cps := #[32] } : Str) := by decide +kernel
theorem tab_is : Str.ofString "\t" = ({ cps := #[9] } : Str) := by decide +kernel
theorem is_blank {n : Nat} (h : (({ cps := #[n] } : Str) == Str.ofString " ") = true) : n = 32 := by
  rw [blank_is, sgn_one] at h; exact of_decide_eq_true h
theorem no_blank {n : Nat} (h : (({ cps := #[n] } : Str) == Str.ofString " ") = false) : n ≠ 32 := by
  rw [blank_is, sgn_one] at h; exact of_decide_eq_false h
theorem is_tab {n : Nat} (h : (({ cps := #[n] } : Str) == Str.ofString "\t") = true) : n = 9 := by
  rw [tab_is, sgn_one] at h; exact of_decide_eq_true h
theorem no_tab {n : Nat} (h : (({ cps := #[n] } : Str) == Str.ofString "\t") = false) : n ≠ 9 := by
  rw [tab_is, sgn_one] at h; exact of_decide_eq_false h
theorem allLt_mem {a : Addr} : ∀ {l : List (Addr × Obj)}, AllLt a l → ∀ p ∈ l, p.1 < a
  | [], _, _, h => nomatch h
  | q :: r, h, p, hp => by
    rcases List.mem_cons.mp hp with rfl | h3
    · exact h.1
    · exact allLt_mem h.2 p h3
theorem allLt_left {a : Addr} {l r : List (Addr × Obj)} (h : AllLt a (l ++ r)) : AllLt a l := allLt_of fun p hp => allLt_mem h p (List.mem_append_left _ hp)
theorem off_new {a c : Addr} {news own : List (Addr × Obj)} {l : List Addr} (h : AllLt a (news ++ own)) (hoff : OwnOff own (c :: l)) : OwnOff own (a :: l) := by
  intro p hp b hb
  rcases List.mem_cons.mp hb with rfl | h1
  · exact Nat.ne_of_lt (allLt_mem h p (List.mem_append_right _ hp))
  · exact hoff p hp b (List.mem_cons_of_mem _ h1)

theorem scan_blank {x : Str} {i n : Nat} {p : W4} (hn : x.cps[i]? = some n) (h : n = 32) (hS : wScan p (x.cps.toList.drop i) = wScan w0 x.cps.toList) : wScan ⟨p.n + 1, p.nt, p.b + 1, p.cnt⟩ (x.cps.toList.drop (i + 1)) = wScan w0 x.cps.toList := by
  rw [drop_at hn, wScan, if_pos h] at hS; exact hS
theorem scan_tab {x : Str} {i n : Nat} {p : W4} (hn : x.cps[i]? = some n) (h0 : n ≠ 32) (h : n = 9) (hS : wScan p (x.cps.toList.drop i) = wScan w0 x.cps.toList) : wScan ⟨p.n + 1, p.nt + 1, 0, wBump (wGrow p.cnt p.b) p.b⟩ (x.cps.toList.drop (i + 1)) = wScan w0 x.cps.toList := by
  rw [drop_at hn, wScan, if_neg h0, if_pos h] at hS; exact hS
theorem scan_stop {x : Str} {i n : Nat} {p : W4} (hn : x.cps[i]? = some n) (h0 : n ≠ 32) (h : n ≠ 9) (hS : wScan p (x.cps.toList.drop i) = wScan w0 x.cps.toList) : p = wScan w0 x.cps.toList := by
  rw [drop_at hn, wScan, if_neg h0, if_neg h] at hS; exact hS
theorem grow_len {cnt : List Int} {b : Int} {i : Nat} (h0 : 0 ≤ b) (h : b ≤ i) (hl : cnt.length ≤ i + 1) : (wBump (wGrow cnt b) b).length ≤ i + 1 + 1 := by
  unfold wBump wGrow
  rw [List.length_set]
  split
  · rw [List.length_append]
    have : ((List.replicate (b - cnt.length + 1).toNat [(0 : Int)]).flatten).length = (b - cnt.length + 1).toNat := by simp
    rw [this]
    omega
  · omega

theorem bump_grow {cnt : List Int} {b : Int} (hc : (cnt.length : Int) ≤ b) : wBump (wGrow cnt b) b = (cnt ++ (List.replicate (b - cnt.length + 1).toNat [0]).flatten).set b.toNat ((cnt ++ (List.replicate (b - cnt.length + 1).toNat [0]).flatten).getD b.toNat 0 + 1) := by
  unfold wGrow; rw [if_pos hc]; rfl
theorem bump_stay {cnt : List Int} {b : Int} (hc : ¬ (cnt.length : Int) ≤ b) : wBump (wGrow cnt b) b = cnt.set b.toNat (cnt.getD b.toNat 0 + 1) := by
  unfold wGrow; rw [if_neg hc]; rfl
theorem ws_end {h₀ h' : Heap} {L : Addr} {mr m' : Str → Option Value} {r own news' : List (Addr × Obj)} {s₁ : Shared} {tk : Nat} {p : W4} {tn tnt tb : Tok} {a : Addr} {vs : List Value} {k : Nat} {J : WSt → Prop}
    (F : Fr h₀ L h' m') (N : News h₀ L h' news')
    (h1 : m' (Str.ofString "nt") = some (.int p.nt tnt)) (h2 : m' (Str.ofString "n") = some (.int p.n tn)) (h3 : m' (Str.ofString "b") = some (.int p.b tb)) (h4 : m' (Str.ofString "count") = some (.ref a))
    (h5 : ∀ z, z ≠ Str.ofString "ch" → z ≠ Str.ofString "nt" → z ≠ Str.ofString "n" → z ≠ Str.ofString "b" → z ≠ Str.ofString "count" → m' z = mr z)
    (hl : (a, W.listOf vs.toArray k) ∈ news') (hr : ∀ p ∈ r, p ∈ news') (ho : ∀ p ∈ own, p ∈ news') (hoff : OwnOff own (a :: r.map (·.1))) (hj : J ⟨p, tn, tnt, tb, a, vs, k⟩) :
    TurnEnd h₀ L (Str.ofString "ch") (wsLed r) (wsMp mr) J own s₁ { s₁ with heap := h', toks := tk } :=
  TurnEnd.intro _ hj F N (fun q hq => by
    rcases List.mem_cons.mp hq with rfl | hq
    · exact hl
    · exact hr q hq) ho hoff fun z hz => by
    show m' z = wsMp mr _ z
    unfold wsMp
    by_cases e1 : z = Str.ofString "nt"
    · rw [if_pos e1, e1]; exact h1
    · rw [if_neg e1]
      by_cases e2 : z = Str.ofString "n"
      · rw [if_pos e2, e2]; exact h2
      · rw [if_neg e2]
        by_cases e3 : z = Str.ofString "b"
        · rw [if_pos e3, e3]; exact h3
        · rw [if_neg e3]
          by_cases e4 : z = Str.ofString "count"
          · rw [if_pos e4, e4]; exact h4
          · rw [if_neg e4]; exact h5 z hz e1 e2 e3 e4

theorem mem_tail {l r s : List (Addr × Obj)} (h : ∀ p ∈ l, p ∈ s) (h2 : ∀ p ∈ r, p ∈ s) : ∀ p ∈ l ++ r, p ∈ s := fun p hp => (List.mem_append.mp hp).elim (h p) (h2 p)

theorem tup_ints {prog : Program} {w : World} {A : Around} {E : Value → Shared → Prop} {s : Shared} {h₀ : Heap} {L l : Addr} {m : Str → Option Value} {news : List (Addr × Obj)} {vs : List Value} {cnt : List Int} {k : Nat} {Q : Value → Shared → Prop} (F : Fr h₀ L s.heap m) (N : News h₀ L s.heap news) (hm : (l, W.listOf vs.toArray k) ∈ news) (hi : IntsAre vs cnt) (hz : cnt.length ≤ 16384)
    (h : ∀ D h', Fr h₀ L h' m → News h₀ L h' ((D, ({ cls := .type "tuple", data := .seq vs.toArray } : Obj)) :: news) → (∀ p ∈ news, p.1 < D) → Q (.ref D) { s with heap := h' }) : wpAny (model prog w) A (call (.type "tuple") [.ref l]) Q E s :=
  kde_tupleOf F N (N.isList hm) (by rw [List.size_toArray, hi.length]; exact hz) rfl h

abbrev tupV (vs : Array Value) : Obj := { cls := .type "tuple", data := .seq vs }
abbrev wsDict (P : Params) (x : Str) (t : Tok) (p : W4) (D2 : Addr) (k1 k2 k3 k4 k5 tn tnt : Tok) : Obj := dictOf [
  { hash := PyData.keyHash P (Str.ofString "raw"), key := .str (Str.ofString "raw") k1, val := .str x t },
  { hash := PyData.keyHash P (Str.ofString "n"), key := .str (Str.ofString "n") k2, val := .int p.n tn },
  { hash := PyData.keyHash P (Str.ofString "nt"), key := .str (Str.ofString "nt") k3, val := .int p.nt tnt },
  { hash := PyData.keyHash P (Str.ofString "norm"), key := .str (Str.ofString "norm") k4, val := .ref D2 },
  { hash := PyData.keyHash P (Str.ofString "is_simple"), key := .str (Str.ofString "is_simple") k5, val := .bool (decide ((p.cnt.length : Int) ≤ 1)) }] 5
def wsPost (P : Params) (x : Str) (p : W4) (v : Value) (tl : List (Addr × Obj)) : Prop :=
  ∃ (X d D1 D2 : Addr) (vs : List Value) (tb k1 k2 k3 k4 k5 tn tnt t : Tok), v = .ref X ∧ tl = [(D2, tupV #[.ref D1, .int p.b tb]), (D1, tupV vs.toArray), (X, instObj 104 d), (d, wsDict P x t p D2 k1 k2 k3 k4 k5 tn tnt)] ∧ IntsAre vs p.cnt ∧ @LT.lt Nat _ d X ∧ @LT.lt Nat _ X D1 ∧ @LT.lt Nat _ D1 D2
theorem ws_ret {P : Params} {x : Str} {p R : W4} {h₀ h' : Heap} {L X d D1 D2 : Addr} {m : Str → Option Value} {news : List (Addr × Obj)} {c1 c2 : Addr × Obj} {vs : List Value} {tb k1 k2 k3 k4 k5 tn tnt t : Tok} {s : Shared} {tk : Nat} {Q : Value → Shared → Prop}
    (hret : ∀ (v : Value) (tl : List (Addr × Obj)) (h' : Heap) (tk' : Nat), wsPost P x R v tl → (∀ q ∈ tl, ∀ p ∈ news, p.1 < q.1) → Fr h₀ L h' m → News h₀ L h' (tl ++ news) → Q v { s with heap := h', toks := tk' })
    (F : Fr h₀ L h' m) (N : News h₀ L h' ((D2, tupV #[.ref D1, .int p.b tb]) :: (D1, tupV vs.toArray) :: c1 :: c2 :: (X, instObj 104 d) :: (d, wsDict P x t p D2 k1 k2 k3 k4 k5 tn tnt) :: news))
    (hI : IntsAre vs p.cnt) (e : p = R) (l0 : ∀ q ∈ news, q.1 < d) (l1 : @LT.lt Nat _ d X) (l2 : @LT.lt Nat _ X D1) (l3 : @LT.lt Nat _ D1 D2) : Q (.ref X) { s with heap := h', toks := tk } := by
  subst e
  refine hret _ _ h' tk ⟨X, d, D1, D2, vs, tb, k1, k2, k3, k4, k5, tn, tnt, t, rfl, rfl, hI, l1, l2, l3⟩ ?_ F fun q hq => N q ?_
  · intro q hq r hr
    have h0 := l0 r hr
    have h1 : @LE.le Nat _ d q.1 := by
      simp only [List.mem_cons, List.not_mem_nil, or_false] at hq
      rcases hq with rfl | rfl | rfl | rfl <;> dsimp only <;> omega
    exact Nat.lt_of_lt_of_le h0 h1
  · simp only [List.cons_append, List.nil_append, List.mem_cons] at hq ⊢
    rcases hq with h | h | h | h | h
    · exact .inl h
    · exact .inr (.inl h)
    · exact .inr (.inr (.inr (.inr (.inl h))))
    · exact .inr (.inr (.inr (.inr (.inr (.inl h)))))
    · exact .inr (.inr (.inr (.inr (.inr (.inr h)))))

theorem ws_c (w : World) (mean : ExcName → Option Value) (mg mb : Str → Option Value) (x : Str) (t : Tok) (news : List (Addr × Obj)) (hl : x.length ≤ 64) :
  Ctr w mean mg mb (call (.ref 104) [.str x t]) news 3 16 (wsPost w.params x (wScan w0 x.cps.toList)) := by
  unfold Ctr
  w_top off
  k_fill
  intro dp un gd cn cs a ccd cl outer A₀ base h₀ L m s Q E B F X N T hk hd hu hret
  k_dflt (refine' call_cls ?k1 ?k2 ?k3 ?k4 ?k5 ?k6 ?_; (case k1 => k_asm); (case k2 => k_asm); (case k3 => k_asm); (case k4 => k_is); (case k5 => k_is); (case k6 => k_is); k_whole; intro x' d' h' F' N' l1 l2; (try k_lt l1); (try k_lt2 l2); (try k_sweep))
  k_dflt cell_enter
  repeat' (first | (k_unfold; (try dsimp only)) | (k_end; wrow_close) | ((with_reducible show wpAny _ _ (call (Value.type "tuple") _) _ _ _); with_reducible ((k_here; k_dflt (refine' tup_ints ?k1 ?k2 ?k3 ?k4 ?k5 ?_; (case k1 => k_asm); (case k2 => k_asm); (case k3 => k_mem); (case k4 => l_ints); (case k5 => omega); k_whole); intro Dq' hq' Fq' Nq' l1q; (try k_lt l1q)))) | walk1 | (dsimp only; walk1) | (leave1; walk_say "STEP leave1"; try dsimp only) | fail "no step")
  rename News _ _ _ _ => N'
  rename Fr _ _ _ _ => F'
  refine wsLoop rfl F' N' (fun _ _ => rfl) (by assumption) ?_ ?_
  · clear F' N'
    intro i n t c h tk own hn hJ hS hoff F' N'
    obtain ⟨hI, hb0, hb1, hn0, hn1, hm0, hm1, hlen, hlt⟩ := hJ
    have hoff' : OwnOff own [c.a] := fun p hp b hb => hoff p hp b (by rw [List.mem_singleton.mp hb]; exact List.Mem.head _)
    have hi : i < 64 := by
      have : i < x.cps.size := by
        rcases Nat.lt_or_ge i x.cps.size with h | h
        · exact h
        · rw [Array.getElem?_eq_none h] at hn; cases hn
      have h2 : x.cps.size ≤ 64 := hl
      omega
    simp only [List.cons_append, AllLt] at N' hlt
    obtain ⟨hq1, hq2, hq3, hq4⟩ := hlt
    repeat' (first | (k_unfold; (try dsimp only)) | (k_end; wrow_close) | ((with_reducible show wpAny _ _ (call (Value.type "tuple") _) _ _ _); with_reducible ((k_here; k_dflt (refine' tup_ints ?k1 ?k2 ?k3 ?k4 ?k5 ?_; (case k1 => k_asm); (case k2 => k_asm); (case k3 => k_mem); (case k4 => l_ints); (case k5 => omega); k_whole); intro Dq' hq' Fq' Nq' l1q; (try k_lt l1q)))) | walk1 | (dsimp only; walk1) | (leave1; walk_say "STEP leave1"; try dsimp only) | fail "no step")
    · show TurnEnd _ _ _ _ _ _ _ _ _
      (rename Fr _ _ _ _ => F9); (rename News _ _ _ _ => N9)
      refine ws_end (p := ⟨c.p.n + 1, c.p.nt, c.p.b + 1, c.p.cnt⟩) (vs := c.vs) (k := c.k) F9 N9 (by exact rfl) (by exact rfl) (by exact rfl) (by exact rfl) (by intro z h1 h2 h3 h4 h5; simp only [if_neg h1, if_neg h2, if_neg h3, if_neg h4, if_neg h5, wsMp]) (by kcf_m) (by kcf_all) (by intro p hp; kcf_m) hoff ⟨⟨hI, ?_, ?_, ?_, ?_, ?_, ?_, ?_, ⟨hq1, hq2, hq3, hq4⟩⟩, scan_blank hn (is_blank (by assumption)) hS⟩ <;> (try dsimp only) <;> omega
    · show TurnEnd _ _ _ _ _ _ _ _ _
      (rename Fr _ _ _ _ => F9); (rename News _ _ _ _ => N9)
      have hc : (c.p.cnt.length : Int) ≤ c.p.b := by assumption
      (rename (_ ∧ _ ∧ _ ∧ _ ∧ _ ∧ _ ∧ AllLt _ _) => hL9)
      obtain ⟨z1, z2, z3, z4, z5, z6, z7⟩ := hL9
      refine ws_end (p := ⟨c.p.n + 1, c.p.nt + 1, 0, wBump (wGrow c.p.cnt c.p.b) c.p.b⟩) F9 N9 (by exact rfl) (by exact rfl) (by exact rfl) (by exact rfl) (by intro z h1 h2 h3 h4 h5; simp only [if_neg h1, if_neg h2, if_neg h3, if_neg h4, if_neg h5, wsMp]) (by kcf_m) (by kcf_all) (by intro p hp; kcf_m) (off_new z7 hoff) ⟨⟨(by rw [bump_grow hc]; assumption), ?_, ?_, ?_, ?_, ?_, ?_, grow_len hb0 hb1 hlen, ⟨z4, z5, z6, allLt_left z7⟩⟩, scan_tab hn (no_blank (by assumption)) (is_tab (by assumption)) hS⟩ <;> (try dsimp only) <;> omega
    · show TurnEnd _ _ _ _ _ _ _ _ _
      (rename Fr _ _ _ _ => F9); (rename News _ _ _ _ => N9)
      have hc : ¬ (c.p.cnt.length : Int) ≤ c.p.b := by assumption
      refine ws_end (p := ⟨c.p.n + 1, c.p.nt + 1, 0, wBump (wGrow c.p.cnt c.p.b) c.p.b⟩) F9 N9 (by exact rfl) (by exact rfl) (by exact rfl) (by exact rfl) (by intro z h1 h2 h3 h4 h5; simp only [if_neg h1, if_neg h2, if_neg h3, if_neg h4, if_neg h5, wsMp]) (by kcf_m) (by kcf_all) (by intro p hp; kcf_m) hoff ⟨⟨(by rw [bump_stay hc]; assumption), ?_, ?_, ?_, ?_, ?_, ?_, grow_len hb0 hb1 hlen, ⟨hq1, hq2, hq3, hq4⟩⟩, scan_tab hn (no_blank (by assumption)) (is_tab (by assumption)) hS⟩ <;> (try dsimp only) <;> omega
    · show TurnEnd _ _ _ _ _ _ _ _ _
      (rename Fr _ _ _ _ => F9); (rename News _ _ _ _ => N9)
      have hi2 : i < x.cps.size := by
        rcases Nat.lt_or_ge i x.cps.size with h | h
        · exact h
        · rw [Array.getElem?_eq_none h] at hn; cases hn
      refine ws_end (p := c.p) (vs := c.vs) (k := c.k) F9 N9 (by exact rfl) (by exact rfl) (by exact rfl) (by exact rfl) (by intro z h1 h2 h3 h4 h5; simp only [if_neg h1, if_neg h2, if_neg h3, if_neg h4, if_neg h5, wsMp]) (by kcf_m) (by kcf_all) (by intro p hp; kcf_m) hoff ⟨⟨hI, ?_, ?_, ?_, ?_, ?_, ?_, ?_, ⟨hq1, hq2, hq3, hq4⟩⟩, scan_stop hn (no_blank (by assumption)) (no_tab (by assumption)) hS⟩ <;> (try dsimp only) <;> omega
  · clear F' N'
    intro c u h tk hJ hS F' N'
    obtain ⟨hI, hb0, hb1, hn0, hn1, hm0, hm1, hlen, hlt⟩ := hJ
    have hl2 : x.cps.size ≤ 64 := hl
    simp only [AllLt] at hlt
    obtain ⟨hq1, hq2, hq3, hq4⟩ := hlt
    repeat' (first | (k_unfold; (try dsimp only)) | (k_end; wrow_close) | ((with_reducible show wpAny _ _ (call (Value.type "tuple") _) _ _ _); with_reducible ((k_here; k_dflt (refine' tup_ints ?k1 ?k2 ?k3 ?k4 ?k5 ?_; (case k1 => k_asm); (case k2 => k_asm); (case k3 => k_mem); (case k4 => l_ints); (case k5 => omega); k_whole); intro Dq' hq' Fq' Nq' l1q; (try k_lt l1q)))) | walk1 | (dsimp only; walk1) | (leave1; walk_say "STEP leave1"; try dsimp only) | fail "no step")
    (rename Fr _ _ _ _ => F9); (rename News _ _ _ _ => N9)
    exact ws_ret hret F9 N9 hI hS l1 l2 (by omega) (by omega)
end Mine
end

section
open PySem PySem.W PySem.Spec PySem.Calls PyProof.Rows
namespace Mine
set_option maxRecDepth 100000
set_option maxHeartbeats 8000000
set_option pp.deepTerms false
set_option pp.maxSteps 3000

theorem bd1 {r : Int} (h : 0 ≤ r) : 1 ≤ 1 + r := by omega
theorem bd2 {r sp : Int} (h : r < sp - 1) : 1 + r < sp := by omega
theorem bd3 {r : Int} (h : r < 8) : 1 + r ≤ 8 := by omega
theorem bd4 {sp : Int} (h : sp = 8 ∨ sp = 16 ∨ sp = 32) : 1 ≤ sp := by omega
theorem bd5 {sp : Int} (h : sp = 8 ∨ sp = 16 ∨ sp = 32) : sp ≤ 32 := by omega
theorem bd6 {sp : Int} (h : sp = 8 ∨ sp = 16 ∨ sp = 32) : 0 < sp := by omega
theorem bd7 {r sp : Int} (h : sp = 8 ∨ sp = 16 ∨ sp = 32) (q : r < sp - 1) : 1 + r ≤ 32 := by omega
theorem bd8 {st sp : Int} (h : sp = 8 ∨ sp = 16 ∨ sp = 32) (q : st < sp) : st ≤ 32 := by omega
theorem rg_small {a sp : Int} (h0 : 0 ≤ a ∧ a ≤ 1) (h1 : 1 ≤ sp) (h2 : sp ≤ 32) : Builtin.Range.small a (sp + 1) 1 = true := small_one (by omega) (by omega) (by omega) (by omega)
theorem rg_size {a sp : Int} (h0 : 0 ≤ a ∧ a ≤ 1) (h2 : sp ≤ 32) : (sp + 1 - a).toNat ≤ sizeLine := by rw [PySem.sizeLine_eq]; omega
theorem rg_small2 {m : Int} (h : 0 ≤ m ∧ m ≤ 64) : Builtin.Range.small 0 (m + 1) 1 = true := small_one (by omega) (by omega) (by omega) (by omega)
theorem rg_size2 {m : Int} (h : 0 ≤ m ∧ m ≤ 64) : (m + 1 - 0).toNat ≤ sizeLine := by rw [PySem.sizeLine_eq]; omega
def GF (_g : Int → Str) : Prop := True
theorem kct_rangeG {prog : Program} {w : World} {A : Around} {h₀ : Heap} {L : Addr} {m : Str → Option Value} {env : Env} {elt : Expr} {x : Str} {scope : Scope} {cl : List (Str × Addr)} {s : Shared} {S : List (Addr × Obj) → Prop} {Fin : List Value → List (Addr × Obj) → Prop} {news : List (Addr × Obj)} {n : Nat} {a : Int} {g : Int → Str} (_ : GF g)
    (turn : ∀ k t I oI C oC D m₂ ys h tk (E' : Value → Shared → Prop), a ≤ k → k < a + (n : Int) → LCg.NsObj oC m₂ → m₂ x = some (.int k t) → Fr h₀ L h m → News h₀ L h ((I, oI) :: (C, oC) :: (D, LCg.lst ys) :: news) → LCg.Off3 I C D news → ((@Ne Nat I C) ∧ (@Ne Nat I D) ∧ (@Ne Nat C D)) → KPfMark →
      wpAny (model prog w) A (eval elt (compEnvC scope cl C env)) (LCg.CompEnd h₀ L m { s with heap := h, toks := tk } I oI C oC D (LCg.lst ys) S (fun y news' => KCtEl news (g k) y news')) E' { s with heap := h, toks := tk })
    (fin : KPfDone (∀ ys, CarriedAll ys ((rangeKs a n).map fun k => PyData.str (g k)) → (rangeKs a n).length = n → Fin ys news)) : LCg.CompRest prog w A h₀ L m env elt x scope cl s S (fun i v => ∃ t, v = .int (a + (i : Int)) t) Fin n 0 [] news :=
  kct_range g turn fin

def plainCh (spots leap k : Int) : Str := if ((k - 1) * leap).fdiv spots < (k * leap).fdiv spots then Str.ofString "\t" else Str.ofString " "
theorem plainCh_len (spots leap k : Int) : (plainCh spots leap k).length = 1 := by
  unfold plainCh; split <;> decide +kernel
def plainT (spots leap : Int) : Str := Txt.join (Str.ofString "") ((rangeKs 1 (spots + 1 - 1).toNat).map (plainCh spots leap))

theorem ct_end {h₀ : Heap} {L I C D : Addr} {m : Str → Option Value} {s₁ : Shared} {oI oC oD : Obj} {S : List (Addr × Obj) → Prop} {r r' : Str} {t : Tok} {h' : Heap} {tk : Nat} {all news : List (Addr × Obj)}
    (F : Fr h₀ L h' m) (N : News h₀ L h' all) (sub : ∀ p ∈ (I, oI) :: (C, oC) :: (D, oD) :: news, p ∈ all) (off : LCg.Off3 I C D news) (hS : S news) (e : r = r') :
    LCg.CompEnd h₀ L m s₁ I oI C oC D oD S (fun y news' => KCtEl news r y news') (.str r' t) { s₁ with heap := h', toks := tk } :=
  LCg.CompEnd.intro F N news sub off hS (kct_el e rfl rfl)

theorem plain_c (w : World) (mean : ExcName → Option Value) (mg mb : Str → Option Value) (spots leap : Int) (t1 t2 : Tok) (news : List (Addr × Obj))
    (h1 : 1 ≤ spots) (h2 : spots ≤ 32) (h3 : 0 ≤ leap) (h4 : leap ≤ 32) :
  Ctr w mean mg mb (call (.ref 113) [.int spots t1, .int leap t2]) news 1 8 (fun v tl => ∃ t, v = .str (plainT spots leap) t ∧ tl = []) := by
  unfold Ctr
  w_top off
  k_fill
  intro dp un gd cn cs a ccd cl outer A₀ base h₀ L m s Q E B F X N T hk hd hu hret
  refine wpAny_call ?_
  k_dflt (refine' code_defC ?k1 ?k2 ?k3 ?k4 ?k5 ?kA ?kF ?kK ?k6 ?k7 ?k8 ?k9 ?kB ?kD ?_ ?c2 ?c3 ?c4; (case kA => exact rfl); (case kF => exact rfl); (case kK => assumption); (case k1 => k_asm); (case k2 => k_asm); (case k3 => k_asm); (case k4 => k_asm); (case k5 => k_asm); (case k6 => k_is); (case k7 => k_is); (case k8 => ktr_room); (case k9 => exact BindsTo.of_eq rfl); (case kB => exact rfl); (case kD => decide +kernel); (case c2 => exact rfl); (case c3 => exact rfl); (case c4 => exact rfl); k_whole; intro g' L' h' tk' cells' FG' F' N' Y' B' X' T' l1; (try k_lt l1); k_cells Y'; (try simp only [List.cons_append, List.nil_append] at N'); (try dsimp only); (try k_lift B'); (try k_fold))
  have hGF : GF (plainCh spots leap) := True.intro
  repeat' (first | (k_unfold; (try dsimp only)) | (k_end; wrow_close) | ((with_reducible show wpAny _ _ (call (Value.builtin "str.join") _) _ _ _); with_reducible ((k_here; (with_reducible rename CarriedAll _ (List.map _ _) => ktC); (refine KT.join_1 (News.isList (by k_asm) (by k_mem)) ktC (by intro ktA ktM; exact plainCh_len _ _ _) (by rw [rangeKs_length]; omega) ?_; intro _ _ ktE)))) | ((with_reducible show wpAny _ _ (call (Value.builtin "str.join") _) _ _ _); ((k_here; (with_reducible rename CarriedAll _ (List.map _ _) => ktC); (refine KT.join_1 (News.isList (by k_asm) (by k_mem)) ktC (by intro ktA ktM; exact plainCh_len _ _ _) (by rw [rangeKs_length]; omega) ?_; intro _ _ ktE)))) | ((with_reducible show KCtEl _ _ _ _); with_reducible (((refine kct_el ?kce (by with_unfolding_all rfl) (by with_unfolding_all rfl)); (case kce => (unfold plainCh; first | exact if_pos (by assumption) | exact if_neg (by assumption)))))) | ((with_reducible show LCg.CompEnd _ _ _ _ _ _ _ _ _ _ _ _ _ _); with_reducible ((refine' ct_end ?F ?N ?sub ?off ?S ?e; (case F => assumption); (case N => assumption); (case sub => kcf_all); (case off => assumption); (case S => first | exact True.intro | lcg_src | assumption); (case e => (unfold plainCh; first | exact if_pos (by assumption) | exact if_neg (by assumption)))))) | ((with_reducible show LCg.CompEnd _ _ _ _ _ _ _ _ _ _ _ _ _ _); ((refine' ct_end ?F ?N ?sub ?off ?S ?e; (case F => assumption); (case N => assumption); (case sub => kcf_all); (case off => assumption); (case S => first | exact True.intro | lcg_src | assumption); (case e => (unfold plainCh; first | exact if_pos (by assumption) | exact if_neg (by assumption)))))) | ((with_reducible show LCg.CompSrc _ _ _ _ _ _ _ _ _ _ _ _ _ _); with_reducible ((k_here; (rename GF _ => hGF); k_dflt ( (refine LCg.CompSrc.range (by rfl) (by k_asm) (by k_asm) (by assumption) (by exact rg_small (by decide) (by with_reducible assumption) (by with_reducible assumption)) (by exact rangeSize_nat _ _) (by exact rg_size (by decide) (by with_reducible assumption)) ?_; intro gq'; (refine' kct_rangeG hGF (fun kq' tq' Iq' oIq' Cq' oCq' Dq' mq' ysq' hq' tkq' Eq' hloq' hhiq' hCq' hxq' Fq' Nq' offq' neq' => ?_) ?_); (all_goals (try ((show KPfMark → _); intro hMarkq'))); kcf_last))))) | ((with_reducible show wpAny _ _ (eval (Expr.ListComp _ _ _ _) _) _ _ _); with_reducible ((k_here; k_dflt (refine LCg.ListComp_U (F₀ := by k_asm) (by with_unfolding_all rfl) (by decide) (by rfl) (by decide) (by rfl) ?_)))) | walk1 | (dsimp only; walk1) | (leave1; walk_say "STEP leave1"; try dsimp only) | fail "no step")
  exact retS hret (by assumption) (by assumption) (by intro p hp; kcf_m) rfl
end Mine
end

section
open PySem PySem.W PySem.Spec PySem.Calls PyProof.Rows
namespace Mine
set_option maxRecDepth 100000

section
variable {w : World} {mean : ExcName → Option Value} {mg mb : Str → Option Value} {news : List (Addr × Obj)}
  {dp un : Nat} {gd : Option (List Code)} {cn : Str} {cs : Scope} {a : Addr} {ccd : Value} {cl : List (Str × Addr)} {outer : List Env} {A₀ : Around} {base h₀ : Heap} {L : Addr} {m : Str → Option Value} {s : Shared} {Q E : Value → Shared → Prop}

theorem ws_use {x : Str} {t : Tok} (hl : x.length ≤ 64) (B : Below A₀ base outer h₀) (F : Fr h₀ L s.heap m) (X : (hd.heap_39 w.params).In h₀) (N : News h₀ L s.heap news) (T : Top hd.view_39 (looseW hd.view_39 [Str.ofString "Whitespace"]) mean mg mb h₀) (hk : cs.kind = .function) (hd : dp + 3 < recursionLimit) (hu : un + 16 < cLine)
    (h : ∀ (X d D1 D2 : Addr) (vs : List Value) (tb k1 k2 k3 k4 k5 tn tnt t' : Tok) (h' : Heap) (tk' : Nat), IntsAre vs (wScan w0 x.cps.toList).cnt → Fr h₀ L h' m →
      News h₀ L h' ((D2, tupV #[.ref D1, .int (wScan w0 x.cps.toList).b tb]) :: (D1, tupV vs.toArray) :: (X, instObj 104 d) :: (d, wsDict w.params x t' (wScan w0 x.cps.toList) D2 k1 k2 k3 k4 k5 tn tnt) :: news) →
      (∀ p ∈ news, p.1 < d) → @LT.lt Nat _ d X → @LT.lt Nat _ X D1 → @LT.lt Nat _ D1 D2 → Q (.ref X) { s with heap := h', toks := tk' }) :
    wpAny (model Challenge.rw_pk0086_01.row.prog w) (ktrTop dp un gd cn cs L a ccd cl outer) (call (.ref 104) [.str x t]) Q E s := by
  refine ws_c w mean mg mb x t news hl dp un gd cn cs a ccd cl outer A₀ base h₀ L m s Q E B F X N T hk hd hu ?_
  rintro v tl h' tk' ⟨X, d, D1, D2, vs, tb, k1, k2, k3, k4, k5, tn, tnt, t', rfl, rfl, hI, q1, q2, q3⟩ l F' N'
  exact h X d D1 D2 vs tb k1 k2 k3 k4 k5 tn tnt t' h' tk' hI F' N' (l _ (.tail _ (.tail _ (.tail _ (.head _))))) q1 q2 q3

abbrev wsDict2 (P : Params) (x : Str) (t : Tok) (n nt : Int) (sm : Bool) (D2 : Addr) (k1 k2 k3 k4 k5 tn tnt : Tok) : Obj := dictOf [
  { hash := PyData.keyHash P (Str.ofString "raw"), key := .str (Str.ofString "raw") k1, val := .str x t },
  { hash := PyData.keyHash P (Str.ofString "n"), key := .str (Str.ofString "n") k2, val := .int n tn },
  { hash := PyData.keyHash P (Str.ofString "nt"), key := .str (Str.ofString "nt") k3, val := .int nt tnt },
  { hash := PyData.keyHash P (Str.ofString "norm"), key := .str (Str.ofString "norm") k4, val := .ref D2 },
  { hash := PyData.keyHash P (Str.ofString "is_simple"), key := .str (Str.ofString "is_simple") k5, val := .bool sm }] 5
structure WsIs (x : Str) (n nt b : Int) (cnt : List Int) (sm : Bool) : Prop where
  len : x.length ≤ 64
  scan : wScan w0 x.cps.toList = ⟨n, nt, b, cnt⟩
  simple : decide ((cnt.length : Int) ≤ 1) = sm
theorem ws_use2 {x : Str} {t : Tok} {n nt b : Int} {cnt : List Int} {sm : Bool} (hw : WsIs x n nt b cnt sm) (B : Below A₀ base outer h₀) (F : Fr h₀ L s.heap m) (X : (hd.heap_39 w.params).In h₀) (N : News h₀ L s.heap news) (T : Top hd.view_39 (looseW hd.view_39 [Str.ofString "Whitespace"]) mean mg mb h₀) (hk : cs.kind = .function) (hd : dp + 3 < recursionLimit) (hu : un + 16 < cLine)
    (h : ∀ (X d D1 D2 : Addr) (vs : List Value) (tb k1 k2 k3 k4 k5 tn tnt t' : Tok) (h' : Heap) (tk' : Nat), IntsAre vs cnt → Fr h₀ L h' m →
      News h₀ L h' ((D2, tupV #[.ref D1, .int b tb]) :: (D1, tupV vs.toArray) :: (X, instObj 104 d) :: (d, wsDict2 w.params x t' n nt sm D2 k1 k2 k3 k4 k5 tn tnt) :: news) →
      (∀ p ∈ news, p.1 < d) → @LT.lt Nat _ d X → @LT.lt Nat _ X D1 → @LT.lt Nat _ D1 D2 → Q (.ref X) { s with heap := h', toks := tk' }) :
    wpAny (model Challenge.rw_pk0086_01.row.prog w) (ktrTop dp un gd cn cs L a ccd cl outer) (call (.ref 104) [.str x t]) Q E s := by
  refine ws_use hw.len B F X N T hk hd hu ?_
  rw [hw.scan]
  intro X d D1 D2 vs tb k1 k2 k3 k4 k5 tn tnt t' h' tk' hI F' N' l1 q1 q2 q3
  refine h X d D1 D2 vs tb k1 k2 k3 k4 k5 tn tnt t' h' tk' hI F' ?_ l1 q1 q2 q3
  have e := hw.simple
  subst e
  exact N'

theorem plain_use {spots leap : Int} {t1 t2 : Tok} (h1 : 1 ≤ spots) (h2 : spots ≤ 32) (h3 : 0 ≤ leap) (h4 : leap ≤ 32) (B : Below A₀ base outer h₀) (F : Fr h₀ L s.heap m) (X : (hd.heap_39 w.params).In h₀) (N : News h₀ L s.heap news) (T : Top hd.view_39 (looseW hd.view_39 [Str.ofString "Whitespace"]) mean mg mb h₀) (hk : cs.kind = .function) (hd : dp + 1 < recursionLimit) (hu : un + 8 < cLine)
    (h : ∀ (t' : Tok) (h' : Heap) (tk' : Nat), Fr h₀ L h' m → News h₀ L h' news → Q (.str (plainT spots leap) t') { s with heap := h', toks := tk' }) :
    wpAny (model Challenge.rw_pk0086_01.row.prog w) (ktrTop dp un gd cn cs L a ccd cl outer) (call (.ref 113) [.int spots t1, .int leap t2]) Q E s := by
  refine plain_c w mean mg mb spots leap t1 t2 news h1 h2 h3 h4 dp un gd cn cs a ccd cl outer A₀ base h₀ L m s Q E B F X N T hk hd hu ?_
  rintro v tl h' tk' ⟨t', rfl, rfl⟩ l F' N'
  exact h t' h' tk' F' N'

def repl4 (x a1 b1 a2 b2 a3 b3 a4 b4 : Str) : Str := repl (repl (repl (repl x a1 b1) a2 b2) a3 b3) a4 b4
structure RepOk4 (x a1 b1 a2 b2 a3 b3 a4 b4 : Str) : Prop where
  h1 : RepOk x a1 b1
  h2 : RepOk (repl x a1 b1) a2 b2
  h3 : RepOk (repl (repl x a1 b1) a2 b2) a3 b3
  h4 : RepOk (repl (repl (repl x a1 b1) a2 b2) a3 b3) a4 b4
theorem rep_use {x a1 a2 a3 a4 b1 b2 b3 b4 : Str} {t t1 t2 t3 t4 t5 t6 t7 t8 : Tok} (ok : RepOk4 x a1 b1 a2 b2 a3 b3 a4 b4) (B : Below A₀ base outer h₀) (F : Fr h₀ L s.heap m) (X : (hd.heap_39 w.params).In h₀) (N : News h₀ L s.heap news) (T : Top hd.view_39 (looseW hd.view_39 [Str.ofString "Whitespace"]) mean mg mb h₀) (hk : cs.kind = .function) (hd : dp + 1 < recursionLimit) (hu : un + 8 < cLine)
    (h : ∀ (t' : Tok) (h' : Heap) (tk' : Nat), Fr h₀ L h' m → News h₀ L h' news → Q (.str (repl4 x a1 b1 a2 b2 a3 b3 a4 b4) t') { s with heap := h', toks := tk' }) :
    wpAny (model Challenge.rw_pk0086_01.row.prog w) (ktrTop dp un gd cn cs L a ccd cl outer) (call (.ref 42) [.str x t, .str a1 t1, .str b1 t2, .str a2 t3, .str b2 t4, .str a3 t5, .str b3 t6, .str a4 t7, .str b4 t8]) Q E s := by
  refine rep_c w mean mg mb x a1 a2 a3 a4 b1 b2 b3 b4 t t1 t2 t3 t4 t5 t6 t7 t8 news ok.h1 ok.h2 ok.h3 ok.h4 dp un gd cn cs a ccd cl outer A₀ base h₀ L m s Q E B F X N T hk hd hu ?_
  rintro v tl h' tk' ⟨t', rfl, rfl⟩ l F' N'
  exact h t' h' tk' F' N'

theorem hsv_use {hh ss vv : UInt64} {t1 t2 t3 : Tok} (p1 : 0 < t1) (p2 : 0 < t2) (p3 : 0 < t3) (hf : Float64.isFinite (Float64.mul hh 4618441417868443648) = true) (hi : 0 ≤ hsvI hh ∧ hsvI hh < 10000) (B : Below A₀ base outer h₀) (F : Fr h₀ L s.heap m) (X : (hd.heap_39 w.params).In h₀) (N : News h₀ L s.heap news) (T : Top hd.view_39 (looseW hd.view_39 [Str.ofString "Whitespace"]) mean mg mb h₀) (hk : cs.kind = .function) (hd : dp + 1 < recursionLimit) (hu : un + 8 < cLine)
    (h : ∀ (D : Addr) (t4 t5 t6 : Tok) (h' : Heap) (tk' : Nat), 0 < t4 → 0 < t5 → 0 < t6 → Fr h₀ L h' m → News h₀ L h' ((D, tupV #[.float (hsvF hh ss vv).1 t4, .float (hsvF hh ss vv).2.1 t5, .float (hsvF hh ss vv).2.2 t6]) :: news) → (∀ p ∈ news, p.1 < D) → Q (.ref D) { s with heap := h', toks := tk' }) :
    wpAny (model Challenge.rw_pk0086_01.row.prog w) (ktrTop dp un gd cn cs L a ccd cl outer) (call (.ref 35) [.float hh t1, .float ss t2, .float vv t3]) Q E s := by
  refine hsv_c w mean mg mb hh ss vv t1 t2 t3 news p1 p2 p3 hf hi dp un gd cn cs a ccd cl outer A₀ base h₀ L m s Q E B F X N T hk hd hu ?_
  rintro v tl h' tk' ⟨D, t4, t5, t6, rfl, rfl, q4, q5, q6⟩ l F' N'
  exact h D t4 t5 t6 h' tk' q4 q5 q6 F' N' (l _ (.head _))

theorem rgb_use {rr gg bb : UInt64} {t1 t2 t3 : Tok} (p1 : 0 < t1) (p2 : 0 < t2) (p3 : 0 < t3) (hz : (Float64.cmp (min3F rr gg bb) (max3F rr gg bb) == some Ordering.eq) = false → ¬ Float64.isZero (max3F rr gg bb) = true ∧ ¬ Float64.isZero (Float64.sub (max3F rr gg bb) (min3F rr gg bb)) = true) (B : Below A₀ base outer h₀) (F : Fr h₀ L s.heap m) (X : (hd.heap_39 w.params).In h₀) (N : News h₀ L s.heap news) (T : Top hd.view_39 (looseW hd.view_39 [Str.ofString "Whitespace"]) mean mg mb h₀) (hk : cs.kind = .function) (hd : dp + 1 < recursionLimit) (hu : un + 8 < cLine)
    (h : ∀ (D : Addr) (t4 t5 t6 : Tok) (h' : Heap) (tk' : Nat), 0 < t4 → 0 < t5 → 0 < t6 → Fr h₀ L h' m → News h₀ L h' ((D, tupV #[.float (rgbF rr gg bb).1 t4, .float (rgbF rr gg bb).2.1 t5, .float (rgbF rr gg bb).2.2 t6]) :: news) → (∀ p ∈ news, p.1 < D) → Q (.ref D) { s with heap := h', toks := tk' }) :
    wpAny (model Challenge.rw_pk0086_01.row.prog w) (ktrTop dp un gd cn cs L a ccd cl outer) (call (.ref 28) [.float rr t1, .float gg t2, .float bb t3]) Q E s := by
  refine rgb_c w mean mg mb rr gg bb t1 t2 t3 news p1 p2 p3 hz dp un gd cn cs a ccd cl outer A₀ base h₀ L m s Q E B F X N T hk hd hu ?_
  rintro v tl h' tk' ⟨D, t4, t5, t6, rfl, rfl, q4, q5, q6⟩ l F' N'
  exact h D t4 t5 t6 h' tk' q4 q5 q6 F' N' (l _ (.head _))
end

section
variable {prog : Program} {w : World} {A : Around} {E : Value → Shared → Prop} {s : Shared} {h₀ : Heap} {L : Addr} {news : List (Addr × Obj)} {Q : Value → Shared → Prop}
theorem norm_reads {D2 D1 : Addr} {b : Int} {t : Tok} {vs : List Value} {cnt : List Int} (N : News h₀ L s.heap news) (m2 : (D2, tupV #[.ref D1, .int b t]) ∈ news) (m1 : (D1, tupV vs.toArray) ∈ news) (hi : IntsAre vs cnt) :
    ∃ as, Reads s.heap (.ref D2) (.tuple [.tuple (cnt.map PyData.int), .int b]) as :=
  ⟨_, reads_tuple_at (N.get m2) rfl rfl (ReadsAll.cons (reads_tuple_at (N.get m1) rfl rfl ((ke_carried hi).reads _)) (ReadsAll.cons (Reads.int _ _) ReadsAll.nil))⟩
theorem norm_shaped (cnt : List Int) (b : Int) : SeqAt.shaped (.tuple [.tuple (cnt.map PyData.int), .int b]) = true := by
  simp [SeqAt.shaped, PyData.canLay0, PyData.canLayAll0, PyData.depth, PyData.depthAll, ke_canLayAll0, ke_depthAll]
theorem norm_eqv (cnt cnt' : List Int) (b b' : Int) : PyData.eqv (.tuple [.tuple (cnt.map PyData.int), .int b]) (.tuple [.tuple (cnt'.map PyData.int), .int b']) = decide (cnt = cnt' ∧ b = b') := by
  simp only [PyData.eqv, PyData.eqvAll, ked_eqvAll, Bool.and_true]
  by_cases h1 : cnt = cnt' <;> by_cases h2 : b = b' <;> simp [h1, h2]
theorem ne_norm {D2 D1 E2 E1 : Addr} {b b' : Int} {t t' : Tok} {vs us : List Value} {cnt cnt' : List Int} (N : News h₀ L s.heap news) (m2 : (D2, tupV #[.ref D1, .int b t]) ∈ news) (m1 : (D1, tupV vs.toArray) ∈ news) (hi : IntsAre vs cnt)
    (m2' : (E2, tupV #[.ref E1, .int b' t']) ∈ news) (m1' : (E1, tupV us.toArray) ∈ news) (hj : IntsAre us cnt') (hu : A.units + 64 < cLine) (h : Q (.bool (!decide (cnt = cnt' ∧ b = b'))) s) :
    wpAny (model prog w) A (compareOp .NotEq (.ref D2) (.ref E2)) Q E s := by
  obtain ⟨_, ra⟩ := norm_reads N m2 m1 hi
  obtain ⟨_, rb⟩ := norm_reads N m2' m1' hj
  exact ne_dataH ra rb (norm_shaped _ _) (norm_shaped _ _) hu (by rw [norm_eqv]; exact h)
theorem eq_norm {D2 D1 E2 E1 : Addr} {b b' : Int} {t t' : Tok} {vs us : List Value} {cnt cnt' : List Int} (N : News h₀ L s.heap news) (m2 : (D2, tupV #[.ref D1, .int b t]) ∈ news) (m1 : (D1, tupV vs.toArray) ∈ news) (hi : IntsAre vs cnt)
    (m2' : (E2, tupV #[.ref E1, .int b' t']) ∈ news) (m1' : (E1, tupV us.toArray) ∈ news) (hj : IntsAre us cnt') (hu : A.units + 64 < cLine) (h : Q (.bool (decide (cnt = cnt' ∧ b = b'))) s) :
    wpAny (model prog w) A (compareOp .Eq (.ref D2) (.ref E2)) Q E s := by
  obtain ⟨_, ra⟩ := norm_reads N m2 m1 hi
  obtain ⟨_, rb⟩ := norm_reads N m2' m1' hj
  exact eq_dataH ra rb (norm_shaped _ _) (norm_shaped _ _) hu (by rw [norm_eqv]; exact h)
end
end Mine
end

section
open PySem PySem.W PySem.Spec PySem.Calls PyProof.Rows
namespace Mine
set_option maxRecDepth 100000
set_option maxHeartbeats 8000000
set_option pp.deepTerms false
set_option pp.maxSteps 3000

section
variable {prog : Program} {w : World} {A : Around} {E : Value → Shared → Prop} {s : Shared} {env : Env} {test : PySem.Expr} {body orelse : List Stmt} {Q : Flow → Shared → Prop}
def WPost (R : Shared → Prop) (Q : Flow → Shared → Prop) (f : Flow) (s : Shared) : Prop :=
  match f with
  | .next => R s
  | .cont => R s
  | .brk => Q .next s
  | .ret v => Q (.ret v) s
theorem whl_turnR {k k' : Nat} (R : Shared → Prop) (hR : ∀ s, R s → WhlRest prog w A E env test body orelse Q k' s) (hE : PassesOwn (model prog w) A env E)
    (h : wpAny (model prog w) A (isTrue test env (eval test env)) (fun b s₂ => WhlIf b (wpAny (model prog w) A (execs body env) (WPost R Q) E s₂) (wpAny (model prog w) A (execs orelse env) Q E s₂)) E s) :
    WhlRest prog w A E env test body orelse Q k s := by
  show WhlRest prog w A E env test body orelse Q (k' + 1) s
  refine whl_turn hE (wpAny_mono h (fun b s₂ hb => ?_) fun _ _ e => e)
  cases b with
  | false => exact hb
  | true =>
    have hb' : wpAny (model prog w) A (execs body env) (WPost R Q) E s₂ := hb
    exact wpAny_mono hb' (fun f s₃ h₃ => by cases f <;> first | exact hR _ h₃ | exact h₃) fun _ _ e => e
theorem whl_gen {k : Nat} {R : Shared → Prop} (h0 : R s) (h : ∀ s1, R s1 → WhlRest prog w A E env test body orelse Q k s1) : WhlRest prog w A E env test body orelse Q k s := h s h0
end

abbrev thMp (u : Str → Option Value) (x : Str) (t : Tok) (sp : Int) (t1 : Tok) (lp : Int) (t2 : Tok) : Str → Option Value := fun y => if y = Str.ofString "text" then some (.str x t) else if y = Str.ofString "spots" then some (.int sp t1) else if y = Str.ofString "leap" then some (.int lp t2) else u y


theorem ite_no {c : Prop} {inst : Decidable c} {P Q : Prop} (h : c → False) (q : Q) : @ite Prop c inst P Q := by rw [if_neg h]; exact q
theorem ite_yes {c : Prop} {inst : Decidable c} {P Q : Prop} (h : c) (q : P) : @ite Prop c inst P Q := by rw [if_pos h]; exact q
theorem len_two {α : Type} (l : List α) (a b : α) : (l ++ [a, b]).length = l.length + 2 := by simp
theorem len_flat (n : Nat) : ((List.replicate n [(0 : Int)]).flatten).length = n := by simp
theorem not_dec {c : Prop} [Decidable c] (h : (!decide c) = true) : ¬ c := by simpa using h
theorem int_bne_no {a b : Int} (h : (a != b) = true) (e : a = b) : False := by subst e; simp at h
theorem str_bne_no {a b : Str} (h : (a != b) = true) (e : a = b) : False := by subst e; simp at h
theorem str_beq_no {a b : Str} (h : (a == b) = true) (e : a ≠ b) : False := e (eq_of_beq h)
def revS (x : Str) : Str := Txt.sliceBy x none none (-1, 0)
theorem rev_r {prog : Program} {w : World} {A : Around} {E : Value → Shared → Prop} {s : Shared} {value slice : Expr} {x : Str} {t : Tok} {h₀ : Heap} {L : Addr} {m : Str → Option Value} {news : List (Addr × Obj)} {Q : Value → Shared → Prop} {uk : Tok}
    (hF : Fr h₀ L s.heap m) (hN : News h₀ L s.heap news) (hsz : x.length ≤ sizeLine)
    (hs : ∀ (x : Str) (t : Tok) (a : Addr), subscripted slice false (.str x t) (.ref a) = operate [.ref a, .str x t] (getItem (.str x t) (.ref a)))
    (ht : ∀ (x : Str) (t : Tok) r, letTemporaryGo value (.str x t) r = pure ()) (h : ∀ h' t' c, Fr h₀ L h' m → News h₀ L h' news → Q (.str (revS x) t') { s with heap := h', toks := c }) :
    wpAny (model prog w) A (subscriptTail value slice (.str x t) (.ref s.heap.objs.size)) Q E { s with heap := s.heap.push { cls := .type "slice", data := .fields #[.none, .none, .int (-1) uk] } } :=
  slice_strK_nn hF hN (by decide) h (hs _ _ _) (ht _ _) hsz

def gpOf (sp lp : Int) : Int := (sp - 1).fdiv lp
def rsOf (sp lp : Int) : Int := sp - (sp - 1).fdiv lp * lp
def wideS (g : Int) : Str := Txt.mul (Str.ofString " ") g ++ Str.ofString "\t"
def thinS (x : Str) (sp lp : Int) : Str := repl4 x (wideS (gpOf sp lp)) (Str.ofString "x") (wideS (gpOf sp lp - 1)) (Str.ofString "y") (Str.ofString "x") (Str.ofString "\t") (Str.ofString "y") (Str.ofString " ")
structure TurnOk (x : Str) (sp lp : Int) : Prop where
  lt : lp < sp
  h2 : sp ≤ 32
  h3 : 1 ≤ lp
  g0 : 1 ≤ gpOf sp lp
  g1 : gpOf sp lp ≤ 31
  r0 : 1 ≤ rsOf sp lp
  r1 : rsOf sp lp ≤ 32
  xl : x.length ≤ 40
  ws : WsIs (x ++ Str.ofString "x \t") sp lp 0 ((List.replicate (gpOf sp lp - 1).toNat [0]).flatten ++ [lp - rsOf sp lp, rsOf sp lp]) false
  ok1 : RepOk4 x (wideS (gpOf sp lp)) (Str.ofString "x") (wideS (gpOf sp lp - 1)) (Str.ofString "y") (Str.ofString "x") (Str.ofString "\t") (Str.ofString "y") (Str.ofString " ")
  tl : (thinS x sp lp).length ≤ sizeLine
  ok2 : RepOk4 (thinS x sp lp) (Str.ofString "\t") (Str.ofString "x") (Str.ofString " ") (Str.ofString "y") (Str.ofString "x") (wideS (gpOf sp lp)) (Str.ofString "y") (wideS (gpOf sp lp - 1))
  e1 : revS (thinS x sp lp) = plainT lp (rsOf sp lp)
  e2 : repl4 (thinS x sp lp) (Str.ofString "\t") (Str.ofString "x") (Str.ofString " ") (Str.ofString "y") (Str.ofString "x") (wideS (gpOf sp lp)) (Str.ofString "y") (wideS (gpOf sp lp - 1)) = x
inductive Thins : Str → Int → Int → Str → Prop
  | done {x : Str} {sp lp : Int} (h : ¬ lp < sp) : Thins x sp lp x
  | step {x : Str} {sp lp : Int} {out : Str} (ok : TurnOk x sp lp) (r : Thins (revS (thinS x sp lp)) lp (rsOf sp lp) out) : Thins x sp lp out

def ThR (g : Heap) (L : Addr) (news : List (Addr × Obj)) (s : Shared) (x : Str) (sp lp : Int) (s' : Shared) : Prop :=
  ∃ (h : Heap) (tk : Nat) (t t1 t2 : Tok) (u : Str → Option Value), s' = { s with heap := h, toks := tk } ∧ Fr g L h (thMp u x t sp t1 lp t2) ∧ News g L h news
theorem thMp_self {m₀ : Str → Option Value} {x : Str} {t : Tok} {sp : Int} {t1 : Tok} {lp : Int} {t2 : Tok} (h1 : m₀ (Str.ofString "text") = some (.str x t)) (h2 : m₀ (Str.ofString "spots") = some (.int sp t1)) (h3 : m₀ (Str.ofString "leap") = some (.int lp t2)) : m₀ = thMp m₀ x t sp t1 lp t2 := by
  funext y
  unfold thMp
  by_cases e1 : y = Str.ofString "text"
  · rw [if_pos e1, e1]; exact h1
  · rw [if_neg e1]
    by_cases e2 : y = Str.ofString "spots"
    · rw [if_pos e2, e2]; exact h2
    · rw [if_neg e2]
      by_cases e3 : y = Str.ofString "leap"
      · rw [if_pos e3, e3]; exact h3
      · rw [if_neg e3]
theorem fr_th {g h : Heap} {L : Addr} {m₀ : Str → Option Value} {x : Str} {t : Tok} {sp : Int} {t1 : Tok} {lp : Int} {t2 : Tok} (F : Fr g L h m₀) (h1 : m₀ (Str.ofString "text") = some (.str x t)) (h2 : m₀ (Str.ofString "spots") = some (.int sp t1)) (h3 : m₀ (Str.ofString "leap") = some (.int lp t2)) : Fr g L h (thMp m₀ x t sp t1 lp t2) := by
  rw [← thMp_self h1 h2 h3]; exact F
theorem thR_of {g h : Heap} {L : Addr} {news news' : List (Addr × Obj)} {s : Shared} {m₀ : Str → Option Value} {x : Str} {sp lp : Int} {t t1 t2 : Tok} {tk : Nat} (F : Fr g L h m₀) (N : News g L h news') (h1 : m₀ (Str.ofString "text") = some (.str x t)) (h2 : m₀ (Str.ofString "spots") = some (.int sp t1)) (h3 : m₀ (Str.ofString "leap") = some (.int lp t2)) (sub : ∀ p ∈ news, p ∈ news') : ThR g L news s x sp lp { s with heap := h, toks := tk } :=
  ⟨h, tk, t, t1, t2, m₀, rfl, fr_th F h1 h2 h3, fun p hp => N p (sub p hp)⟩

theorem thin_c (w : World) (mean : ExcName → Option Value) (mg mb : Str → Option Value) (x out : Str) (sp lp : Int) (t t1 t2 : Tok) (news : List (Addr × Obj)) (hT : Thins x sp lp out) :
  Ctr w mean mg mb (call (.ref 125) [.str x t, .int sp t1, .int lp t2]) news 5 100 (fun v tl => ∃ t, v = .str out t ∧ tl = []) := by
  unfold Ctr
  w_top off
  k_fill
  intro dp un gd cn cs a ccd cl outer A₀ base h₀ L m s Q E B F X N T hk hd hu hret
  refine wpAny_call ?_
  k_dflt cell_enter
  refine wpAny_execs_cons ?_
  refine whl_start 1 ?_
  rename_i g' L' h' FG' F' N' B' X' T'
  refine whl_gen (R := ThR g' L' news s x sp lp) (thR_of F' N' (by exact rfl) (by exact rfl) (by exact rfl) (fun p hp => hp)) ?_
  clear F' N' F N
  induction hT with
  | done h =>
    rintro s1 ⟨h, tk, t, t1, t2, u, rfl, F', N'⟩
    refine whl_turnR (k' := 0) (fun _ => False) (fun _ h => h.elim) (by passes_own) ?_
    repeat' (first | (k_unfold; (try dsimp only)) | (k_end; wrow_close) | ((with_reducible show wpAny _ _ (subscriptTail _ (Expr.Slice none none (some _) _) _ _) _ _ _); with_reducible ((k_here; (with_reducible show wpAny _ _ (subscriptTail _ (Expr.Slice none none (some _) _) _ _) _ _ _); (with_reducible rename Fr _ _ _ _ => Fq'); (with_reducible rename News _ _ _ _ => Nq'); (refine rev_r (s := ⟨_, _, _, _, _⟩) Fq' Nq' ?hsz (by intro _ _ _; with_unfolding_all rfl) (by intro _ _ _; with_unfolding_all rfl) ?_); (case hsz => with_reducible assumption); intro _ _ _ _ _))) | ((with_reducible show wpAny _ _ (truthy (Value.bool _)) _ _ _); with_reducible ((k_here; with_reducible refine wpAny_truthy_bool ?_))) | ((with_reducible show @ite Prop _ _ _ _); with_reducible ((k_here; first | with_reducible refine ite_ff ?_ | with_reducible refine ite_tt ?_ | ((with_reducible show @ite Prop ((@bne Int _ _ _) = true) _ _ _); with_reducible refine ite_no (fun hi9 => int_bne_no hi9 rfl) ?_) | ((with_reducible show @ite Prop ((@bne PySem.Str _ _ _) = true) _ _ _); with_reducible refine ite_no (fun hi9 => str_bne_no hi9 (by with_reducible assumption)) ?_) | ((with_reducible show @ite Prop ((@BEq.beq PySem.Str _ _ _) = true) _ _ _); with_reducible refine ite_no (fun hi9 => str_beq_no hi9 (by with_reducible assumption)) ?_) | ((with_reducible show @ite Prop ((not (decide (_ ∧ _))) = true) _ _ _); with_reducible refine ite_no (fun hi9 => absurd (And.intro rfl rfl) (not_dec hi9)) ?_)))) | ((with_reducible show wpAny _ _ (compareOp CmpOp.NotEq (Value.ref _) (Value.ref _)) _ _ _); with_reducible ((k_here; k_dflt (refine' ne_norm ?N ?m2 ?m1 ?hi ?m2q' ?m1q' ?hj ?hu ?_; (case N => k_asm); (case m2 => k_mem); (case m1 => k_mem); (case hi => with_reducible assumption); (case m2q' => k_mem); (case m1q' => k_mem); (case hj => with_reducible assumption); (case hu => ktr_units); k_whole)))) | ((with_reducible show wpAny _ _ (call (Value.type "tuple") _) _ _ _); with_reducible ((k_here; k_dflt (refine' tup_ints ?k1 ?k2 ?k3 ?k4 ?k5 ?_; (case k1 => k_asm); (case k2 => k_asm); (case k3 => k_mem); (case k4 => l_ints); (case k5 => first | omega | (rw [len_two, len_flat]; omega)); k_whole); intro Dq' hq' Fq' Nq' l1q; (try k_lt l1q)))) | ((with_reducible show wpAny _ _ (call (Value.ref 42) _) _ _ _); with_reducible ((k_here; (with_reducible show wpAny _ _ (call (Value.ref 42) _) _ _ _); k_dflt (refine' rep_use ?ok ?B ?F ?X ?N ?T ?hk ?hd ?hu ?_; (case B => k_asm); (case F => k_asm); (case X => k_asm); (case N => k_asm); (case T => k_asm); (case hk => first | exact rfl | assumption); (case ok => with_reducible assumption); (case hd => ktr_room); (case hu => ktr_units); k_whole); intro tq' hq' tkq' Fq' Nq'))) | ((with_reducible show wpAny _ _ (call (Value.ref 113) _) _ _ _); with_reducible ((k_here; (with_reducible show wpAny _ _ (call (Value.ref 113) _) _ _ _); k_dflt (refine' plain_use ?h1 ?h2 ?h3 ?h4 ?B ?F ?X ?N ?T ?hk ?hd ?hu ?_; (case B => k_asm); (case F => k_asm); (case X => k_asm); (case N => k_asm); (case T => k_asm); (case hk => first | exact rfl | assumption); (case h1 => omega); (case h2 => omega); (case h3 => omega); (case h4 => omega); (case hd => ktr_room); (case hu => ktr_units); k_whole); intro tq' hq' tkq' Fq' Nq'))) | ((with_reducible show wpAny _ _ (call (Value.ref 104) _) _ _ _); with_reducible ((k_here; (with_reducible show wpAny _ _ (call (Value.ref 104) _) _ _ _); k_dflt (refine' ws_use2 ?hl ?B ?F ?X ?N ?T ?hk ?hd ?hu ?_; (case B => k_asm); (case F => k_asm); (case X => k_asm); (case N => k_asm); (case T => k_asm); (case hk => first | exact rfl | assumption); (case hl => with_reducible assumption); (case hd => ktr_room); (case hu => ktr_units); k_whole); intro Xq' dq' D1q' D2q' vsq' tbq' k1q' k2q' k3q' k4q' k5q' tnq' tntq' tq' hq' tkq' hIq' Fq' Nq' l1q q1q' q2q' q3q'; (try k_lt l1q)))) | walk1 | (dsimp only; walk1) | (leave1; walk_say "STEP leave1"; try dsimp only) | fail "no step")
    refine WhlIf.no (decide_eq_false (by assumption)) ?_
    repeat' (first | (k_unfold; (try dsimp only)) | (k_end; wrow_close) | ((with_reducible show wpAny _ _ (subscriptTail _ (Expr.Slice none none (some _) _) _ _) _ _ _); with_reducible ((k_here; (with_reducible show wpAny _ _ (subscriptTail _ (Expr.Slice none none (some _) _) _ _) _ _ _); (with_reducible rename Fr _ _ _ _ => Fq'); (with_reducible rename News _ _ _ _ => Nq'); (refine rev_r (s := ⟨_, _, _, _, _⟩) Fq' Nq' ?hsz (by intro _ _ _; with_unfolding_all rfl) (by intro _ _ _; with_unfolding_all rfl) ?_); (case hsz => with_reducible assumption); intro _ _ _ _ _))) | ((with_reducible show wpAny _ _ (truthy (Value.bool _)) _ _ _); with_reducible ((k_here; with_reducible refine wpAny_truthy_bool ?_))) | ((with_reducible show @ite Prop _ _ _ _); with_reducible ((k_here; first | with_reducible refine ite_ff ?_ | with_reducible refine ite_tt ?_ | ((with_reducible show @ite Prop ((@bne Int _ _ _) = true) _ _ _); with_reducible refine ite_no (fun hi9 => int_bne_no hi9 rfl) ?_) | ((with_reducible show @ite Prop ((@bne PySem.Str _ _ _) = true) _ _ _); with_reducible refine ite_no (fun hi9 => str_bne_no hi9 (by with_reducible assumption)) ?_) | ((with_reducible show @ite Prop ((@BEq.beq PySem.Str _ _ _) = true) _ _ _); with_reducible refine ite_no (fun hi9 => str_beq_no hi9 (by with_reducible assumption)) ?_) | ((with_reducible show @ite Prop ((not (decide (_ ∧ _))) = true) _ _ _); with_reducible refine ite_no (fun hi9 => absurd (And.intro rfl rfl) (not_dec hi9)) ?_)))) | ((with_reducible show wpAny _ _ (compareOp CmpOp.NotEq (Value.ref _) (Value.ref _)) _ _ _); with_reducible ((k_here; k_dflt (refine' ne_norm ?N ?m2 ?m1 ?hi ?m2q' ?m1q' ?hj ?hu ?_; (case N => k_asm); (case m2 => k_mem); (case m1 => k_mem); (case hi => with_reducible assumption); (case m2q' => k_mem); (case m1q' => k_mem); (case hj => with_reducible assumption); (case hu => ktr_units); k_whole)))) | ((with_reducible show wpAny _ _ (call (Value.type "tuple") _) _ _ _); with_reducible ((k_here; k_dflt (refine' tup_ints ?k1 ?k2 ?k3 ?k4 ?k5 ?_; (case k1 => k_asm); (case k2 => k_asm); (case k3 => k_mem); (case k4 => l_ints); (case k5 => first | omega | (rw [len_two, len_flat]; omega)); k_whole); intro Dq' hq' Fq' Nq' l1q; (try k_lt l1q)))) | ((with_reducible show wpAny _ _ (call (Value.ref 42) _) _ _ _); with_reducible ((k_here; (with_reducible show wpAny _ _ (call (Value.ref 42) _) _ _ _); k_dflt (refine' rep_use ?ok ?B ?F ?X ?N ?T ?hk ?hd ?hu ?_; (case B => k_asm); (case F => k_asm); (case X => k_asm); (case N => k_asm); (case T => k_asm); (case hk => first | exact rfl | assumption); (case ok => with_reducible assumption); (case hd => ktr_room); (case hu => ktr_units); k_whole); intro tq' hq' tkq' Fq' Nq'))) | ((with_reducible show wpAny _ _ (call (Value.ref 113) _) _ _ _); with_reducible ((k_here; (with_reducible show wpAny _ _ (call (Value.ref 113) _) _ _ _); k_dflt (refine' plain_use ?h1 ?h2 ?h3 ?h4 ?B ?F ?X ?N ?T ?hk ?hd ?hu ?_; (case B => k_asm); (case F => k_asm); (case X => k_asm); (case N => k_asm); (case T => k_asm); (case hk => first | exact rfl | assumption); (case h1 => omega); (case h2 => omega); (case h3 => omega); (case h4 => omega); (case hd => ktr_room); (case hu => ktr_units); k_whole); intro tq' hq' tkq' Fq' Nq'))) | ((with_reducible show wpAny _ _ (call (Value.ref 104) _) _ _ _); with_reducible ((k_here; (with_reducible show wpAny _ _ (call (Value.ref 104) _) _ _ _); k_dflt (refine' ws_use2 ?hl ?B ?F ?X ?N ?T ?hk ?hd ?hu ?_; (case B => k_asm); (case F => k_asm); (case X => k_asm); (case N => k_asm); (case T => k_asm); (case hk => first | exact rfl | assumption); (case hl => with_reducible assumption); (case hd => ktr_room); (case hu => ktr_units); k_whole); intro Xq' dq' D1q' D2q' vsq' tbq' k1q' k2q' k3q' k4q' k5q' tnq' tntq' tq' hq' tkq' hIq' Fq' Nq' l1q q1q' q2q' q3q'; (try k_lt l1q)))) | walk1 | (dsimp only; walk1) | (leave1; walk_say "STEP leave1"; try dsimp only) | fail "no step")
    exact retS hret (by assumption) (by assumption) (fun p hp => hp) rfl
  | step ok r ih =>
    rename_i x sp lp out
    rintro s1 ⟨h, tk, t, t1, t2, u, rfl, F', N'⟩
    obtain ⟨lt, h2, h3, g0, g1, r0, r1, xl, ws, ok1, tl, ok2, e1, e2⟩ := ok
    refine whl_turnR (ThR g' L' news s (revS (thinS x sp lp)) lp (rsOf sp lp)) (fun s' h => ih hret s' h) (by passes_own) ?_
    dsimp only [gpOf, rsOf, wideS, thinS] at g0 g1 r0 r1 ws ok1 tl ok2 e1 e2 ⊢
    clear ih r
    repeat' (first | (k_unfold; (try dsimp only)) | (k_end; wrow_close) | ((with_reducible show wpAny _ _ (subscriptTail _ (Expr.Slice none none (some _) _) _ _) _ _ _); with_reducible ((k_here; (with_reducible show wpAny _ _ (subscriptTail _ (Expr.Slice none none (some _) _) _ _) _ _ _); (with_reducible rename Fr _ _ _ _ => Fq'); (with_reducible rename News _ _ _ _ => Nq'); (refine rev_r (s := ⟨_, _, _, _, _⟩) Fq' Nq' ?hsz (by intro _ _ _; with_unfolding_all rfl) (by intro _ _ _; with_unfolding_all rfl) ?_); (case hsz => with_reducible assumption); intro _ _ _ _ _))) | ((with_reducible show wpAny _ _ (truthy (Value.bool _)) _ _ _); with_reducible ((k_here; with_reducible refine wpAny_truthy_bool ?_))) | ((with_reducible show @ite Prop _ _ _ _); with_reducible ((k_here; first | with_reducible refine ite_ff ?_ | with_reducible refine ite_tt ?_ | ((with_reducible show @ite Prop ((@bne Int _ _ _) = true) _ _ _); with_reducible refine ite_no (fun hi9 => int_bne_no hi9 rfl) ?_) | ((with_reducible show @ite Prop ((@bne PySem.Str _ _ _) = true) _ _ _); with_reducible refine ite_no (fun hi9 => str_bne_no hi9 (by with_reducible assumption)) ?_) | ((with_reducible show @ite Prop ((@BEq.beq PySem.Str _ _ _) = true) _ _ _); with_reducible refine ite_no (fun hi9 => str_beq_no hi9 (by with_reducible assumption)) ?_) | ((with_reducible show @ite Prop ((not (decide (_ ∧ _))) = true) _ _ _); with_reducible refine ite_no (fun hi9 => absurd (And.intro rfl rfl) (not_dec hi9)) ?_)))) | ((with_reducible show wpAny _ _ (compareOp CmpOp.NotEq (Value.ref _) (Value.ref _)) _ _ _); with_reducible ((k_here; k_dflt (refine' ne_norm ?N ?m2 ?m1 ?hi ?m2q' ?m1q' ?hj ?hu ?_; (case N => k_asm); (case m2 => k_mem); (case m1 => k_mem); (case hi => with_reducible assumption); (case m2q' => k_mem); (case m1q' => k_mem); (case hj => with_reducible assumption); (case hu => ktr_units); k_whole)))) | ((with_reducible show wpAny _ _ (call (Value.type "tuple") _) _ _ _); with_reducible ((k_here; k_dflt (refine' tup_ints ?k1 ?k2 ?k3 ?k4 ?k5 ?_; (case k1 => k_asm); (case k2 => k_asm); (case k3 => k_mem); (case k4 => l_ints); (case k5 => first | omega | (rw [len_two, len_flat]; omega)); k_whole); intro Dq' hq' Fq' Nq' l1q; (try k_lt l1q)))) | ((with_reducible show wpAny _ _ (call (Value.ref 42) _) _ _ _); with_reducible ((k_here; (with_reducible show wpAny _ _ (call (Value.ref 42) _) _ _ _); k_dflt (refine' rep_use ?ok ?B ?F ?X ?N ?T ?hk ?hd ?hu ?_; (case B => k_asm); (case F => k_asm); (case X => k_asm); (case N => k_asm); (case T => k_asm); (case hk => first | exact rfl | assumption); (case ok => with_reducible assumption); (case hd => ktr_room); (case hu => ktr_units); k_whole); intro tq' hq' tkq' Fq' Nq'))) | ((with_reducible show wpAny _ _ (call (Value.ref 113) _) _ _ _); with_reducible ((k_here; (with_reducible show wpAny _ _ (call (Value.ref 113) _) _ _ _); k_dflt (refine' plain_use ?h1 ?h2 ?h3 ?h4 ?B ?F ?X ?N ?T ?hk ?hd ?hu ?_; (case B => k_asm); (case F => k_asm); (case X => k_asm); (case N => k_asm); (case T => k_asm); (case hk => first | exact rfl | assumption); (case h1 => omega); (case h2 => omega); (case h3 => omega); (case h4 => omega); (case hd => ktr_room); (case hu => ktr_units); k_whole); intro tq' hq' tkq' Fq' Nq'))) | ((with_reducible show wpAny _ _ (call (Value.ref 104) _) _ _ _); with_reducible ((k_here; (with_reducible show wpAny _ _ (call (Value.ref 104) _) _ _ _); k_dflt (refine' ws_use2 ?hl ?B ?F ?X ?N ?T ?hk ?hd ?hu ?_; (case B => k_asm); (case F => k_asm); (case X => k_asm); (case N => k_asm); (case T => k_asm); (case hk => first | exact rfl | assumption); (case hl => with_reducible assumption); (case hd => ktr_room); (case hu => ktr_units); k_whole); intro Xq' dq' D1q' D2q' vsq' tbq' k1q' k2q' k3q' k4q' k5q' tnq' tntq' tq' hq' tkq' hIq' Fq' Nq' l1q q1q' q2q' q3q'; (try k_lt l1q)))) | walk1 | (dsimp only; walk1) | (leave1; walk_say "STEP leave1"; try dsimp only) | fail "no step")
    refine WhlIf.yes (decide_eq_true lt) ?_
    repeat' (first | (k_unfold; (try dsimp only)) | (k_end; wrow_close) | ((with_reducible show wpAny _ _ (subscriptTail _ (Expr.Slice none none (some _) _) _ _) _ _ _); with_reducible ((k_here; (with_reducible show wpAny _ _ (subscriptTail _ (Expr.Slice none none (some _) _) _ _) _ _ _); (with_reducible rename Fr _ _ _ _ => Fq'); (with_reducible rename News _ _ _ _ => Nq'); (refine rev_r (s := ⟨_, _, _, _, _⟩) Fq' Nq' ?hsz (by intro _ _ _; with_unfolding_all rfl) (by intro _ _ _; with_unfolding_all rfl) ?_); (case hsz => with_reducible assumption); intro _ _ _ _ _))) | ((with_reducible show wpAny _ _ (truthy (Value.bool _)) _ _ _); with_reducible ((k_here; with_reducible refine wpAny_truthy_bool ?_))) | ((with_reducible show @ite Prop _ _ _ _); with_reducible ((k_here; first | with_reducible refine ite_ff ?_ | with_reducible refine ite_tt ?_ | ((with_reducible show @ite Prop ((@bne Int _ _ _) = true) _ _ _); with_reducible refine ite_no (fun hi9 => int_bne_no hi9 rfl) ?_) | ((with_reducible show @ite Prop ((@bne PySem.Str _ _ _) = true) _ _ _); with_reducible refine ite_no (fun hi9 => str_bne_no hi9 (by with_reducible assumption)) ?_) | ((with_reducible show @ite Prop ((@BEq.beq PySem.Str _ _ _) = true) _ _ _); with_reducible refine ite_no (fun hi9 => str_beq_no hi9 (by with_reducible assumption)) ?_) | ((with_reducible show @ite Prop ((not (decide (_ ∧ _))) = true) _ _ _); with_reducible refine ite_no (fun hi9 => absurd (And.intro rfl rfl) (not_dec hi9)) ?_)))) | ((with_reducible show wpAny _ _ (compareOp CmpOp.NotEq (Value.ref _) (Value.ref _)) _ _ _); with_reducible ((k_here; k_dflt (refine' ne_norm ?N ?m2 ?m1 ?hi ?m2q' ?m1q' ?hj ?hu ?_; (case N => k_asm); (case m2 => k_mem); (case m1 => k_mem); (case hi => with_reducible assumption); (case m2q' => k_mem); (case m1q' => k_mem); (case hj => with_reducible assumption); (case hu => ktr_units); k_whole)))) | ((with_reducible show wpAny _ _ (call (Value.type "tuple") _) _ _ _); with_reducible ((k_here; k_dflt (refine' tup_ints ?k1 ?k2 ?k3 ?k4 ?k5 ?_; (case k1 => k_asm); (case k2 => k_asm); (case k3 => k_mem); (case k4 => l_ints); (case k5 => first | omega | (rw [len_two, len_flat]; omega)); k_whole); intro Dq' hq' Fq' Nq' l1q; (try k_lt l1q)))) | ((with_reducible show wpAny _ _ (call (Value.ref 42) _) _ _ _); with_reducible ((k_here; (with_reducible show wpAny _ _ (call (Value.ref 42) _) _ _ _); k_dflt (refine' rep_use ?ok ?B ?F ?X ?N ?T ?hk ?hd ?hu ?_; (case B => k_asm); (case F => k_asm); (case X => k_asm); (case N => k_asm); (case T => k_asm); (case hk => first | exact rfl | assumption); (case ok => with_reducible assumption); (case hd => ktr_room); (case hu => ktr_units); k_whole); intro tq' hq' tkq' Fq' Nq'))) | ((with_reducible show wpAny _ _ (call (Value.ref 113) _) _ _ _); with_reducible ((k_here; (with_reducible show wpAny _ _ (call (Value.ref 113) _) _ _ _); k_dflt (refine' plain_use ?h1 ?h2 ?h3 ?h4 ?B ?F ?X ?N ?T ?hk ?hd ?hu ?_; (case B => k_asm); (case F => k_asm); (case X => k_asm); (case N => k_asm); (case T => k_asm); (case hk => first | exact rfl | assumption); (case h1 => omega); (case h2 => omega); (case h3 => omega); (case h4 => omega); (case hd => ktr_room); (case hu => ktr_units); k_whole); intro tq' hq' tkq' Fq' Nq'))) | ((with_reducible show wpAny _ _ (call (Value.ref 104) _) _ _ _); with_reducible ((k_here; (with_reducible show wpAny _ _ (call (Value.ref 104) _) _ _ _); k_dflt (refine' ws_use2 ?hl ?B ?F ?X ?N ?T ?hk ?hd ?hu ?_; (case B => k_asm); (case F => k_asm); (case X => k_asm); (case N => k_asm); (case T => k_asm); (case hk => first | exact rfl | assumption); (case hl => with_reducible assumption); (case hd => ktr_room); (case hu => ktr_units); k_whole); intro Xq' dq' D1q' D2q' vsq' tbq' k1q' k2q' k3q' k4q' k5q' tnq' tntq' tq' hq' tkq' hIq' Fq' Nq' l1q q1q' q2q' q3q'; (try k_lt l1q)))) | walk1 | (dsimp only; walk1) | (leave1; walk_say "STEP leave1"; try dsimp only) | fail "no step")
    (rename Fr _ _ _ _ => F9); (rename News _ _ _ _ => N9)
    exact thR_of F9 N9 (by exact rfl) (by exact rfl) (by exact rfl) (by intro p hp; kcf_m)
end Mine
end

section
open PySem PySem.W PySem.Spec PySem.Calls PyProof.Rows PySem.SeqAt
namespace Mine
section
variable {A : Around} {s : Shared}
def selfEq (a : UInt64) : Bool := Float64.cmp a a == some Ordering.eq
theorem eqAt_float {a : UInt64} (h : selfEq a = true) {t u : Tok} (ht : 0 < t) (hu : 0 < u) (hb : NoneBooked s.heap) : EqAt A s (.float a t) (.float a u) true := fun prog w E Q hq => by
  have last : wpAny (model prog w) A (richCompare .Eq (.float a t) (.float a u) >>= fun r => truthOfDropped r) Q E s := by
    refine wpAny_bind (AutoFloatOps.eq_0 ?_)
    have e : (Float64.cmp a a == some Ordering.eq) = true := h
    rw [e]
    exact wpAny_truthy_bool hq
  unfold eqBool
  refine wpAny_holding ?_
  refine wpAny_ite_split (fun hab => ?_) (fun _ => ?_)
  · exact wpAny_bind (wpAny_rule (wpAny_pure hq))
  · have h0 : (t == 0 || u == 0) = false := by
      have : t ≠ 0 := Nat.ne_of_gt ht
      have : u ≠ 0 := Nat.ne_of_gt hu
      simp [*]
    have key : ∀ b : Bool, wpAny (model prog w) A (if b = true then pure true else (richCompare .Eq (.float a t) (.float a u) >>= fun r => truthOfDropped r)) Q E s := by
      intro b
      cases b
      · exact last
      · exact wpAny_pure hq
    refine wpAny_bind ?_
    show wpAny (model prog w) A (isSame.created (a == a && !Float64.isNaN a) t u) _ E s
    unfold isSame.created
    refine wpAny_ite ?_
    split
    · rename_i h; rw [h0] at h; exact absurd h Bool.false_ne_true
    refine wpAny_ite ?_
    split
    · exact wpAny_pure (key true)
    refine wpAny_ite ?_
    split
    · exact wpAny_pure (key false)
    refine wpAny_bind (wpAny_sharingNotTold_none hb ?_)
    first | rw [if_neg Bool.false_ne_true] | simp only [Bool.false_eq_true, if_false]
    refine wpAny_bind (wpAny_sharingNotTold_none hb ?_)
    first | rw [if_neg Bool.false_ne_true] | simp only [Bool.false_eq_true, if_false]
    exact wpAny_bind (wpAny_rule (wpAny_bind (wpAny_askSetting (wpAny_pure (key _)))))

abbrev F3 := UInt64 × UInt64 × UInt64
abbrev tupF (r : F3) (t4 t5 t6 : Tok) : Obj := tupV #[.float r.1 t4, .float r.2.1 t5, .float r.2.2 t6]
def selfEq3 (r : F3) : Bool := selfEq r.1 && selfEq r.2.1 && selfEq r.2.2

structure Pos3 (a b c : Tok) : Prop where
  h1 : 0 < a
  h2 : 0 < b
  h3 : 0 < c
theorem items3 {r : F3} (h : selfEq3 r = true) {t4 t5 t6 u4 u5 u6 : Tok} (P : Pos3 t4 t5 t6) (P' : Pos3 u4 u5 u6) (hb : NoneBooked s.heap) : ∀ j (h1 : j < (#[Value.float r.1 t4, .float r.2.1 t5, .float r.2.2 t6]).size) (h2 : j < (#[Value.float r.1 u4, .float r.2.1 u5, .float r.2.2 u6]).size),
    EqAt A s (#[Value.float r.1 t4, .float r.2.1 t5, .float r.2.2 t6])[j] (#[Value.float r.1 u4, .float r.2.1 u5, .float r.2.2 u6])[j] true := by
  unfold selfEq3 at h
  rw [Bool.and_eq_true, Bool.and_eq_true] at h
  intro j h1 h2
  match j, h1, h2 with
  | 0, _, _ => exact eqAt_float h.1.1 P.h1 P'.h1 hb
  | 1, _, _ => exact eqAt_float h.1.2 P.h2 P'.h2 hb
  | 2, _, _ => exact eqAt_float h.2 P.h3 P'.h3 hb
  | j + 3, h1, _ => exact absurd h1 (by simp)

theorem eqAt_tup {r : F3} (h : selfEq3 r = true) {x y : Addr} {t4 t5 t6 u4 u5 u6 : Tok} (P : Pos3 t4 t5 t6) (P' : Pos3 u4 u5 u6) (hb : NoneBooked s.heap) (hu : A.units < cLine) (hx : s.heap.get? x = some (tupF r t4 t5 t6)) (hy : s.heap.get? y = some (tupF r u4 u5 u6)) : EqAt A s (.ref x) (.ref y) true := by
  by_cases e : x = y
  · subst e; exact EqAt.same _
  · refine EqAt.of_refs e ?_
    have := RcAt.tuples (A := A) (s := s) (e := fun _ => true) (items := #[.float r.1 t4, .float r.2.1 t5, .float r.2.2 t6]) (items2 := #[.float r.1 u4, .float r.2.1 u5, .float r.2.2 u6]) ⟨_, hx, rfl, 0, rfl⟩ ⟨_, hy, rfl, 0, rfl⟩ hu (items3 h P P' hb)
    have e : ((List.range (min (#[Value.float r.1 t4, .float r.2.1 t5, .float r.2.2 t6]).size (#[Value.float r.1 u4, .float r.2.1 u5, .float r.2.2 u6]).size)).all (fun _ => true) && (#[Value.float r.1 t4, .float r.2.1 t5, .float r.2.2 t6]).size == (#[Value.float r.1 u4, .float r.2.1 u5, .float r.2.2 u6]).size) = true := rfl
    rw [e] at this
    exact this

/-- the made tuples of a list: its items are references to tuples of three floats that the ledger holds -/
def TupsAre (tl : List (Addr × Obj)) (vs : List Value) (rs : List F3) : Prop :=
  vs.length = rs.length ∧ ∀ (j : Nat) v, vs[j]? = some v → ∃ r x t4 t5 t6, rs[j]? = some r ∧ v = .ref x ∧ (x, tupF r t4 t5 t6) ∈ tl ∧ Pos3 t4 t5 t6
theorem TupsAre.nil {tl : List (Addr × Obj)} : TupsAre tl [] [] := ⟨rfl, fun j v h => by simp at h⟩
theorem TupsAre.snoc {tl : List (Addr × Obj)} {vs : List Value} {rs : List F3} {r : F3} {x : Addr} {t4 t5 t6 : Tok} (h : TupsAre tl vs rs) (P : Pos3 t4 t5 t6) : TupsAre ((x, tupF r t4 t5 t6) :: tl) (vs ++ [.ref x]) (rs ++ [r]) := by
  refine ⟨by simp [h.1], fun j v hv => ?_⟩
  by_cases hj : j < vs.length
  · rw [List.getElem?_append_left hj] at hv
    obtain ⟨r', x', a, b, c, h1, h2, h3, h4⟩ := h.2 j v hv
    exact ⟨r', x', a, b, c, by rw [List.getElem?_append_left (by rw [← h.1]; exact hj)]; exact h1, h2, List.mem_cons_of_mem _ h3, h4⟩
  · have hj' : j = vs.length := by
      have := (List.getElem?_eq_some_iff.mp hv).1
      simp at this
      omega
    subst hj'
    rw [List.getElem?_append_right (Nat.le_refl _), Nat.sub_self] at hv
    simp at hv
    refine ⟨r, x, t4, t5, t6, ?_, hv.symm, List.mem_cons_self, P⟩
    rw [h.1, List.getElem?_append_right (Nat.le_refl _), Nat.sub_self]; rfl
theorem TupsAre.mono {tl tl' : List (Addr × Obj)} {vs : List Value} {rs : List F3} (h : TupsAre tl vs rs) (hs : ∀ p ∈ tl, p ∈ tl') : TupsAre tl' vs rs :=
  ⟨h.1, fun j v hv => by obtain ⟨r', x', a, b, c, h1, h2, h3, h4⟩ := h.2 j v hv; exact ⟨r', x', a, b, c, h1, h2, hs _ h3, h4⟩⟩

theorem ne_told {prog : Program} {w : World} {E : Value → Shared → Prop} {h₀ : Heap} {L D D' : Addr} {news tl tl' : List (Addr × Obj)} {vs us : List Value} {k k' : Nat} {rs : List F3} {Q : Value → Shared → Prop} (N : News h₀ L s.heap news)
    (hm : (D, W.listOf vs.toArray k) ∈ news) (hm' : (D', W.listOf us.toArray k') ∈ news) (T : TupsAre tl vs rs) (T' : TupsAre tl' us rs) (ht : ∀ p ∈ tl, p ∈ news) (ht' : ∀ p ∈ tl', p ∈ news) (hself : rs.all selfEq3 = true) (hb : NoneBooked s.heap) (hu : A.units + 64 < cLine) (h : Q (.bool false) s) :
    wpAny (model prog w) A (compareOp .NotEq (.ref D) (.ref D')) Q E s := by
  have hsz : vs.toArray.size = us.toArray.size := by rw [List.size_toArray, List.size_toArray, T.1, T'.1]
  have key := RcNeAt.lists (A := A) (s := s) (e := fun _ => true) (N.isList hm) (N.isList hm') hsz (by omega) ?_
  · have e : (!((List.range vs.toArray.size).all fun _ => true)) = false := by simp
    rw [e] at key
    exact key prog w E Q h
  · intro j h1 h2
    have e1 : vs[j]? = some vs.toArray[j] := by simp at h1 ⊢
    have e2 : us[j]? = some us.toArray[j] := by simp at h2 ⊢
    obtain ⟨r, x, a, b, c, p1, p2, p3, p4⟩ := T.2 j _ e1
    obtain ⟨r', y, a', b', c', q1, q2, q3, q4⟩ := T'.2 j _ e2
    rw [p2, q2]
    rw [p1] at q1
    cases q1
    have hs := List.all_eq_true.mp hself r (List.mem_of_getElem? p1)
    exact eqAt_tup hs p4 q4 hb (by show A.units + 1 < cLine; omega) (N.get (ht _ p3)) (N.get (ht' _ q3))
theorem ne_tup {prog : Program} {w : World} {E : Value → Shared → Prop} {h₀ : Heap} {L x y : Addr} {news : List (Addr × Obj)} {r : F3} {t4 t5 t6 u4 u5 u6 : Tok} {Q : Value → Shared → Prop} (N : News h₀ L s.heap news)
    (hx : (x, tupF r t4 t5 t6) ∈ news) (hy : (y, tupF r u4 u5 u6) ∈ news) (P : Pos3 t4 t5 t6) (P' : Pos3 u4 u5 u6) (h : selfEq3 r = true) (hb : NoneBooked s.heap) (hu : A.units + 64 < cLine) (hq : Q (.bool false) s) :
    wpAny (model prog w) A (compareOp .NotEq (.ref x) (.ref y)) Q E s := by
  have := RcNeAt.tuples (A := A) (s := s) (e := fun _ => true) (items := #[.float r.1 t4, .float r.2.1 t5, .float r.2.2 t6]) (items2 := #[.float r.1 u4, .float r.2.1 u5, .float r.2.2 u6]) ⟨_, N.get hx, rfl, 0, rfl⟩ ⟨_, N.get hy, rfl, 0, rfl⟩ (by omega) (items3 h P P' hb)
  exact this prog w E Q hq
end
theorem booked {w : World} {h : Heap} {p : Program} {loose : List Str} {mean : ExcName → Option Value} {mg mb : Str → Option Value} (X : (hd.heap_39 w.params).In h) (T : Top p loose mean mg mb h) : NoneBooked h := by
  obtain ⟨mc, n, _⟩ := T.nolimit
  exact ⟨mc, n, ns_none_of X n (by kernel_rfl)⟩
theorem booked_at {g h : Heap} {L : Addr} {m : Str → Option Value} (b : NoneBooked g) (F : Fr g L h m) : NoneBooked h := by
  obtain ⟨mc, n, e⟩ := b
  exact ⟨mc, n.keeps F.keep, e⟩
end Mine
end

section
open PySem PySem.W PySem.Spec PySem.Calls PyProof.Rows PySem.SeqAt
namespace Mine
set_option maxRecDepth 100000
set_option maxHeartbeats 8000000
set_option pp.deepTerms false
set_option pp.maxSteps 3000

theorem all_ne {news : List (Addr × Obj)} {a b : Addr} (h : ∀ p ∈ news, p.1 < b) (hab : @LE.le Nat _ b a) : ∀ p ∈ news, p.1 ≠ a := fun p hp => Nat.ne_of_lt (Nat.lt_of_lt_of_le (h p hp) hab)
local macro_rules | `(tactic| k_all) => `(tactic| exact all_ne (by with_reducible assumption) (by omega))

local macro_rules | `(tactic| k_all) => `(tactic| with_reducible assumption)
theorem tail_ne {tl news own : List (Addr × Obj)} {l : Addr} {r : List Addr} (h : ∀ p ∈ tl, @LT.lt Nat _ l p.1) (h2 : AllLt l news) (hoff : OwnOff own (l :: r)) : ∀ p ∈ tl ++ news ++ own, p.1 ≠ l := by
  intro p hp
  rcases List.mem_append.mp hp with h1 | h1
  · rcases List.mem_append.mp h1 with h3 | h3
    · exact Nat.ne_of_gt (h p h3)
    · exact Nat.ne_of_lt (allLt_mem h2 p h3)
  · exact hoff p h1 l (List.Mem.head _)
local macro_rules | `(tactic| size_fits) => `(tactic| (simp only [List.size_toArray, Array.size_push]; rw [PySem.sizeLine_eq]; omega))
structure WkSt where
  vs : List Value
  kk : Nat
  tl : List (Addr × Obj)
  u1 : Option Value
  u2 : Option Value
  u3 : Option Value
abbrev wkMp (r : Str → Option Value) (c : WkSt) : Str → Option Value := fun y => if y = Str.ofString "blue" then c.u3 else if y = Str.ofString "green" then c.u2 else if y = Str.ofString "red" then c.u1 else r y
abbrev wkLed (l : Addr) (c1 c2 c3 c4 c5 c6 : Addr × Obj) (news : List (Addr × Obj)) (c : WkSt) : List (Addr × Obj) := (l, W.listOf c.vs.toArray c.kk) :: c1 :: c2 :: c3 :: c4 :: c5 :: c6 :: (c.tl ++ news)
structure wkOk (l : Addr) (f : Nat → F3) (i : Nat) (c : WkSt) : Prop where
  T : TupsAre c.tl c.vs ((List.range i).map f)
  lt : ∀ p ∈ c.tl, @LT.lt Nat _ l p.1

section
open PyProof.V
variable {prog : Program} {w : World} {A : Around} {E : Value → Shared → Prop} {s : Shared} {env : Env} {h₀ : Heap} {x : Str} {body : List Stmt} {Q : Flow → Shared → Prop}
theorem wkLoop {news : List (Addr × Obj)} {c1 c2 c3 c4 c5 c6 : Addr × Obj} {mr : Str → Option Value} {l r : Addr} {b₀ : Int} {t₀ u₀ v₀ : Tok} {n : Nat} (f : Nat → F3)
    (hh : A.handled = none) (hr : IsRange s.heap r 0 b₀ 1 t₀ u₀ v₀) (hsmall : Builtin.Range.small 0 b₀ 1 = true) (hn : Builtin.Range.rangeSize 0 b₀ 1 = (n : Int)) (F : Fr h₀ env.locals s.heap mr) (N : News h₀ env.locals s.heap ((l, W.listOf #[] 0) :: c1 :: c2 :: c3 :: c4 :: c5 :: c6 :: news))
    (h1 : mr (Str.ofString "red") = none) (h2 : mr (Str.ofString "green") = none) (h3 : mr (Str.ofString "blue") = none)
    (turn : ∀ (i : Nat) t c h tk own, i < n → wkOk l f i c → OwnOff own (l :: c1.1 :: c2.1 :: c3.1 :: c4.1 :: c5.1 :: c6.1 :: (c.tl ++ news).map (·.1)) → Fr h₀ env.locals h (fun y => if y = x then some (.int (0 + (i : Int)) t) else wkMp mr c y) → News h₀ env.locals h ((l, W.listOf c.vs.toArray c.kk) :: c1 :: c2 :: c3 :: c4 :: c5 :: c6 :: ((c.tl ++ news) ++ own)) →
      wpAny (model prog w) A (execs body env) (TurnPost h₀ env.locals x (wkLed l c1 c2 c3 c4 c5 c6 news) (wkMp mr) (fun c => wkOk l f (i + 1) c) (fun c => wkOk l f n c) own { s with heap := h, toks := tk } Q) E { s with heap := h, toks := tk })
    (done : ∀ c u h tk, wkOk l f n c → Fr h₀ env.locals h (fun y => if y = x then u else wkMp mr c y) → News h₀ env.locals h ((l, W.listOf c.vs.toArray c.kk) :: c1 :: c2 :: c3 :: c4 :: c5 :: c6 :: (c.tl ++ news)) → Q .next { s with heap := h, toks := tk }) :
    wpAny (model prog w) A (pyIter (.ref r)) (fun it s₂ => LoopAtV prog w A h₀ env x body Q E it s₂) E s := by
  refine loopRange (wkLed l c1 c2 c3 c4 c5 c6 news) (wkMp mr) (fun i c => wkOk l f i c) (fun c => wkOk l f n c) ⟨[], 0, [], none, none, none⟩ hh hr hsmall hn F N (fun z _ => ?_) ⟨.nil, fun p hp => nomatch hp⟩
    (fun i t c h tk own hi hJ hoff F' N' => turn i t c h tk own hi hJ hoff F' N') (fun c hJ => hJ) (fun c u h tk hF F' N' => done c u h tk hF F' N')
  show mr z = wkMp mr _ z
  unfold wkMp
  by_cases e1 : z = Str.ofString "blue"
  · rw [if_pos e1, e1]; exact h3
  · rw [if_neg e1]
    by_cases e2 : z = Str.ofString "green"
    · rw [if_pos e2, e2]; exact h2
    · rw [if_neg e2]
      by_cases e3 : z = Str.ofString "red"
      · rw [if_pos e3, e3]; exact h1
      · rw [if_neg e3]
end

def WF (_f : Nat → F3) : Prop := True
def Hold (P : Prop) : Prop := P
section
open PyProof.V
variable {prog : Program} {w : World} {A : Around} {E : Value → Shared → Prop} {s : Shared} {env : Env} {h₀ : Heap} {x : Str} {body : List Stmt} {Q : Flow → Shared → Prop}
theorem wkLoopG {news : List (Addr × Obj)} {c1 c2 c3 c4 c5 c6 : Addr × Obj} {mr : Str → Option Value} {l r : Addr} {b₀ : Int} {t₀ u₀ v₀ : Tok} {n : Nat} {f : Nat → F3} (_ : WF f)
    (F : Fr h₀ env.locals s.heap mr) (N : News h₀ env.locals s.heap ((l, W.listOf #[] 0) :: c1 :: c2 :: c3 :: c4 :: c5 :: c6 :: news))
    (hh : A.handled = none) (hr : IsRange s.heap r 0 b₀ 1 t₀ u₀ v₀) (hsmall : Builtin.Range.small 0 b₀ 1 = true) (hn : Builtin.Range.rangeSize 0 b₀ 1 = (n : Int)) 
    (h1 : mr (Str.ofString "red") = none) (h2 : mr (Str.ofString "green") = none) (h3 : mr (Str.ofString "blue") = none)
    (turn : Hold (∀ (i : Nat) t c h tk own, i < n → wkOk l f i c → OwnOff own (l :: c1.1 :: c2.1 :: c3.1 :: c4.1 :: c5.1 :: c6.1 :: (c.tl ++ news).map (·.1)) → Fr h₀ env.locals h (fun y => if y = x then some (.int (0 + (i : Int)) t) else wkMp mr c y) → News h₀ env.locals h ((l, W.listOf c.vs.toArray c.kk) :: c1 :: c2 :: c3 :: c4 :: c5 :: c6 :: ((c.tl ++ news) ++ own)) →
      wpAny (model prog w) A (execs body env) (TurnPost h₀ env.locals x (wkLed l c1 c2 c3 c4 c5 c6 news) (wkMp mr) (fun c => wkOk l f (i + 1) c) (fun c => wkOk l f n c) own { s with heap := h, toks := tk } Q) E { s with heap := h, toks := tk }))
    (done : Hold (∀ c u h tk, wkOk l f n c → Fr h₀ env.locals h (fun y => if y = x then u else wkMp mr c y) → News h₀ env.locals h ((l, W.listOf c.vs.toArray c.kk) :: c1 :: c2 :: c3 :: c4 :: c5 :: c6 :: (c.tl ++ news)) → Q .next { s with heap := h, toks := tk })) :
    wpAny (model prog w) A (pyIter (.ref r)) (fun it s₂ => LoopAtV prog w A h₀ env x body Q E it s₂) E s := wkLoop f hh hr hsmall hn F N h1 h2 h3 turn done
end

def fq (a b : Int) : UInt64 := Float64.ofFrac (decide (a < 0) != decide (b < 0)) a.natAbs b.natAbs
theorem div_r {prog : Program} {w : World} {A : Around} {E : Value → Shared → Prop} {s : Shared} {a b : Int} {t u : Tok} {Q : Value → Shared → Prop} (hA : A.handled = none) (ha : 0 ≤ a ∧ a < 10000) (hb : b ≠ 0) (h : Q (.float (fq a b) s.toks) { s with toks := s.toks + 1 }) :
    wpAny (model prog w) A (binaryOp .Div (.int a t) (.int b u)) Q E s :=
  Flt.div_ii_fits hA (by have e : (10000 : Nat) < 2 ^ 1023 := by decide +kernel
                         omega) (fun h0 => absurd h0 hb) (fun _ _ => h)
theorem dv1 {a : Int} (h : 1 ≤ a) (q : a ≤ 8) : 0 ≤ a ∧ a < 10000 := by omega
theorem dv2 {b : Int} (h : 1 ≤ b) : b ≠ 0 := by omega

def hueF (sp lp st : Int) (i : Nat) : UInt64 := fq (st + (0 + (i : Int)) * lp) sp
def rgbv (sp lp st sh lv : Int) (i : Nat) : F3 := hsvF (fq (st + (0 + (i : Int)) * lp) sp) (fq sh 8) (fq lv 8)
def backF (sp lp st sh lv : Int) (i : Nat) : F3 := rgbF (rgbv sp lp st sh lv i).1 (rgbv sp lp st sh lv i).2.1 (rgbv sp lp st sh lv i).2.2
def RgbOk (r : F3) : Prop := (Float64.cmp (min3F r.1 r.2.1 r.2.2) (max3F r.1 r.2.1 r.2.2) == some Ordering.eq) = false → ¬ Float64.isZero (max3F r.1 r.2.1 r.2.2) = true ∧ ¬ Float64.isZero (Float64.sub (max3F r.1 r.2.1 r.2.2) (min3F r.1 r.2.1 r.2.2)) = true
structure HueOk (sp lp st sh lv : Int) (i : Nat) : Prop where
  b : 0 ≤ st + (0 + (i : Int)) * lp ∧ st + (0 + (i : Int)) * lp < 10000
  fin : Float64.isFinite (Float64.mul (fq (st + (0 + (i : Int)) * lp) sp) 4618441417868443648) = true
  int : 0 ≤ hsvI (fq (st + (0 + (i : Int)) * lp) sp) ∧ hsvI (fq (st + (0 + (i : Int)) * lp) sp) < 10000
  rgb : RgbOk (rgbv sp lp st sh lv i)
  back : backF sp lp st sh lv i = (fq ((st + (0 + (i : Int)) * lp).fmod sp) sp, fq sh 8, fq lv 8)
  self : selfEq3 (fq ((st + (0 + (i : Int)) * lp).fmod sp) sp, fq sh 8, fq lv 8) = true

def CF (_f : Nat → F3) : Prop := True
section
variable {prog : Program} {w : World} {A : Around} {h₀ : Heap} {L : Addr} {m : Str → Option Value} {env : Env} {elt : Expr} {x : Str} {scope : Scope} {cl : List (Str × Addr)} {s : Shared} {Fin : List Value → List (Addr × Obj) → Prop} {news : List (Addr × Obj)}
theorem mem_back (q : Addr × Obj) (tl : List (Addr × Obj)) : ∀ p ∈ q :: tl, p ∈ tl ++ [q] := fun p hp => by
  rcases List.mem_cons.mp hp with rfl | hp
  · exact List.mem_append_right _ (List.mem_singleton.mpr rfl)
  · exact List.mem_append_left _ hp
def El3 (f : Nat → F3) (i : Nat) (led : List (Addr × Obj)) (y : Value) (news' : List (Addr × Obj)) : Prop := ∃ x t4 t5 t6, y = .ref x ∧ news' = led ++ [(x, tupF (f i) t4 t5 t6)] ∧ Pos3 t4 t5 t6
theorem ct3_rest {n : Nat} {a : Int} {f : Nat → F3} (_ : CF f)
    (turn : Hold (∀ (i : Nat) t I oI C oC D m₂ ys tl h tk (E' : Value → Shared → Prop), i < n → LCg.NsObj oC m₂ → m₂ x = some (.int (a + (i : Int)) t) → Fr h₀ L h m → News h₀ L h ((I, oI) :: (C, oC) :: (D, LCg.lst ys) :: (news ++ tl)) → LCg.Off3 I C D (news ++ tl) → ((@Ne Nat I C) ∧ (@Ne Nat I D) ∧ (@Ne Nat C D)) →
      wpAny (model prog w) A (eval elt (compEnvC scope cl C env)) (LCg.CompEnd h₀ L m { s with heap := h, toks := tk } I oI C oC D (LCg.lst ys) (fun _ => True) (El3 f i (news ++ tl))) E' { s with heap := h, toks := tk }))
    (fin : Hold (∀ ys tl, TupsAre tl ys ((List.range n).map f) → Fin ys (news ++ tl))) : LCg.CompRest prog w A h₀ L m env elt x scope cl s (fun _ => True) (fun i v => ∃ t, v = .int (a + (i : Int)) t) Fin n 0 [] news := by
  have key : ∀ (j i : Nat) (ys : List Value) (tl : List (Addr × Obj)), i + j = n → TupsAre tl ys ((List.range i).map f) → LCg.CompRest prog w A h₀ L m env elt x scope cl s (fun _ => True) (fun i v => ∃ t, v = .int (a + (i : Int)) t) Fin j i ys (news ++ tl) := by
    intro j
    induction j with
    | zero =>
      intro i ys tl hi hy
      have e : i = n := by omega
      subst e
      exact LCg.CompRest.zero (fin ys tl hy)
    | succ j ih =>
      intro i ys tl hi hy
      refine LCg.CompRest.succ ?_
      intro v I oI C oC D m₂ h tk E' hv hC hx F N off ne
      obtain ⟨t, rfl⟩ := hv
      refine wpAny_mono (turn i t I oI C oC D m₂ ys tl h tk E' (by omega) hC hx F N off ne) (fun y s₂ hq => ?_) fun _ _ e => e
      obtain ⟨h', tk', nw, e, F', N', off', hS, x', t4, t5, t6, rfl, rfl, P⟩ := hq
      refine ⟨h', tk', _, e, F', N', off', hS, ?_⟩
      have := ih (i + 1) (ys ++ [.ref x']) (tl ++ [(x', tupF (f i) t4 t5 t6)]) (by omega) (by rw [List.range_succ, List.map_append]; exact (hy.snoc P).mono (mem_back _ _))
      rw [← List.append_assoc] at this
      exact this
  have := key n 0 [] [] (by omega) .nil
  rw [List.append_nil] at this
  exact this
end

theorem el3_end {h₀ h' : Heap} {L I C D x : Addr} {m : Str → Option Value} {s₁ : Shared} {oI oC oD : Obj} {a b c : UInt64} {t4 t5 t6 : Tok} {f : Nat → F3} {i tk : Nat} {all led : List (Addr × Obj)}
    (F : Fr h₀ L h' m) (N : News h₀ L h' all) (hD : (x, tupV #[.float a t4, .float b t5, .float c t6]) ∈ all) (e : f i = (a, b, c)) (sub : ∀ p ∈ (I, oI) :: (C, oC) :: (D, oD) :: led, p ∈ all) (off : LCg.Off3 I C D led) (q1 : @LT.lt Nat _ I x) (q2 : @LT.lt Nat _ C x) (q3 : @LT.lt Nat _ D x) (p4 : 0 < t4) (p5 : 0 < t5) (p6 : 0 < t6) :
    LCg.CompEnd h₀ L m s₁ I oI C oC D oD (fun _ => True) (El3 f i led) (.ref x) { s₁ with heap := h', toks := tk } := by
  refine LCg.CompEnd.intro F N (led ++ [(x, tupF (f i) t4 t5 t6)]) ?_ ?_ True.intro ⟨x, t4, t5, t6, rfl, rfl, ⟨p4, p5, p6⟩⟩
  · intro p hp
    rcases List.mem_append.mp (show p ∈ ((I, oI) :: (C, oC) :: (D, oD) :: led) ++ [(x, tupF (f i) t4 t5 t6)] from hp) with h | h
    · exact sub p h
    · rw [List.mem_singleton.mp h, e]; exact hD
  · refine LCg.Off3.of fun p hp => ?_
    rcases List.mem_append.mp hp with h | h
    · exact LCg.Off3.mem off p h
    · rw [List.mem_singleton.mp h]
      exact ⟨Nat.ne_of_gt q1, Nat.ne_of_gt q2, Nat.ne_of_gt q3⟩

theorem wk_end {h₀ h' : Heap} {L l D : Addr} {mr m' : Str → Option Value} {c1 c2 c3 c4 c5 c6 : Addr × Obj} {news own news' : List (Addr × Obj)} {s₁ : Shared} {tk kk i : Nat} {c : WkSt} {u1 u2 u3 : Option Value} {f : Nat → F3} {t4 t5 t6 : Tok}
    (F : Fr h₀ L h' m') (N : News h₀ L h' news') (hJ : wkOk l f i c) (hoff : OwnOff own (l :: c1.1 :: c2.1 :: c3.1 :: c4.1 :: c5.1 :: c6.1 :: (c.tl ++ news).map (·.1)))
    (h1 : m' (Str.ofString "red") = u1) (h2 : m' (Str.ofString "green") = u2) (h3 : m' (Str.ofString "blue") = u3)
    (h5 : ∀ z, z ≠ Str.ofString "k" → z ≠ Str.ofString "red" → z ≠ Str.ofString "green" → z ≠ Str.ofString "blue" → m' z = mr z)
    (hD : (D, tupF (f i) t4 t5 t6) ∈ news') (hl : (l, W.listOf (c.vs.toArray.push (.ref D)) kk) ∈ news')
    (hc1 : c1 ∈ news') (hc2 : c2 ∈ news') (hc3 : c3 ∈ news') (hc4 : c4 ∈ news') (hc5 : c5 ∈ news') (hc6 : c6 ∈ news') (htl : ∀ p ∈ c.tl ++ news ++ own, p ∈ news')
    (hDl : @LT.lt Nat _ l D) (hDo : AllLt D (c.tl ++ news ++ own)) (p4 : 0 < t4) (p5 : 0 < t5) (p6 : 0 < t6) :
    TurnEnd h₀ L (Str.ofString "k") (wkLed l c1 c2 c3 c4 c5 c6 news) (wkMp mr) (fun c => wkOk l f (i + 1) c) own s₁ { s₁ with heap := h', toks := tk } := by
  refine TurnEnd.intro (c := ⟨c.vs ++ [.ref D], kk, (D, tupF (f i) t4 t5 t6) :: c.tl, u1, u2, u3⟩) ⟨?_, ?_⟩ F N ?_ ?_ ?_ ?_
  · have := hJ.T.snoc (r := f i) (x := D) ⟨p4, p5, p6⟩
    rw [List.range_succ, List.map_append]
    exact this
  · intro p hp
    rcases List.mem_cons.mp hp with rfl | hp
    · exact hDl
    · exact hJ.lt p hp
  · intro p hp
    simp only [wkLed, List.cons_append, List.mem_cons] at hp
    rcases hp with rfl | rfl | rfl | rfl | rfl | rfl | rfl | rfl | hp
    · rw [← List.push_toArray]; exact hl
    · exact hc1
    · exact hc2
    · exact hc3
    · exact hc4
    · exact hc5
    · exact hc6
    · exact hD
    · exact htl p (List.mem_append_left _ hp)
  · exact fun p hp => htl p (List.mem_append_right _ hp)
  · intro p hp b hb
    simp only [wkLed, List.cons_append, List.map_cons, List.mem_cons] at hb
    have ho := hoff p hp
    rcases hb with rfl | rfl | rfl | rfl | rfl | rfl | rfl | rfl | hb
    · exact ho _ (by simp)
    · exact ho _ (by simp)
    · exact ho _ (by simp)
    · exact ho _ (by simp)
    · exact ho _ (by simp)
    · exact ho _ (by simp)
    · exact ho _ (by simp)
    · exact Nat.ne_of_lt (allLt_mem hDo p (List.mem_append_right _ hp))
    · exact ho _ (by simp only [List.mem_cons]; exact .inr (.inr (.inr (.inr (.inr (.inr (.inr hb)))))))
  · intro z hz
    show m' z = wkMp mr _ z
    unfold wkMp
    by_cases e1 : z = Str.ofString "blue"
    · rw [if_pos e1, e1]; exact h3
    · rw [if_neg e1]
      by_cases e2 : z = Str.ofString "green"
      · rw [if_pos e2, e2]; exact h2
      · rw [if_neg e2]
        by_cases e3 : z = Str.ofString "red"
        · rw [if_pos e3, e3]; exact h1
        · rw [if_neg e3]; exact h5 z hz e3 e2 e1


theorem told_item {prog : Program} {w : World} {A : Around} {E : Value → Shared → Prop} {s : Shared} {h₀ : Heap} {L l : Addr} {news tl : List (Addr × Obj)} {value slice : Expr} {vs : List Value} {kk : Nat} {f : Nat → F3} {n : Nat} {k : Int} {u : Tok} {Q : Value → Shared → Prop}
    (N : News h₀ L s.heap news) (hm : (l, W.listOf vs.toArray kk) ∈ news) (T : TupsAre tl vs ((List.range n).map f)) (h0 : 0 ≤ k) (h1 : k < (n : Int)) (hn : n < 1000)
    (h : ∀ x t4 t5 t6, (x, tupF (f k.toNat) t4 t5 t6) ∈ tl → Q (.ref x) s)
    (hs : subscripted slice false (.ref l) (.int k u) = operate [.ref l, .int k u] (getItem (.ref l) (.int k u)) := by with_unfolding_all rfl) (hg : ∀ r, letTemporaryGo value (.ref l) r = pure () := by intro _; with_unfolding_all rfl) :
    wpAny (model prog w) A (subscriptTail value slice (.ref l) (.int k u)) Q E s := by
  have hl := N.isList hm
  have hk : k.toNat < vs.length := by have := T.1; simp at this; omega
  obtain ⟨r, x, t4, t5, t6, q1, q2, q3, _⟩ := T.2 k.toNat vs[k.toNat] (List.getElem?_eq_getElem hk)
  have e : r = f k.toNat := by
    have hk2 : k.toNat < n := by omega
    simp [hk2] at q1
    exact q1.symm
  subst e
  have hx : vs.toArray[k.toNat]? = some (.ref x) := by
    rw [← q2]; simp [hk]
  exact subscriptTail_builtin hl.typeIs slot_list_getitem.lookup (wpAny_getItem_list hl h0 (by omega) hx (h x t4 t5 t6 q3)) hs hg

theorem tup_first {prog : Program} {w : World} {A : Around} {E : Value → Shared → Prop} {s : Shared} {h₀ : Heap} {L x : Addr} {news tl : List (Addr × Obj)} {value slice : Expr} {r : F3} {t4 t5 t6 u : Tok} {Q : Value → Shared → Prop}
    (N : News h₀ L s.heap news) (hm : (x, tupF r t4 t5 t6) ∈ tl) (ht : ∀ p ∈ tl, p ∈ news) (h : Q (.float r.1 t4) s)
    (hs : subscripted slice false (.ref x) (.int 0 u) = operate [.ref x, .int 0 u] (getItem (.ref x) (.int 0 u)) := by with_unfolding_all rfl) (hg : ∀ r, letTemporaryGo value (.ref x) r = pure () := by intro _; with_unfolding_all rfl) :
    wpAny (model prog w) A (subscriptTail value slice (.ref x) (.int 0 u)) Q E s :=
  item_tupleL (l := [.float r.1 t4, .float r.2.1 t5, .float r.2.2 t6]) (j := 0) (N.isTup (ht _ hm)) (by decide) (by decide) (by rfl) rfl h hs hg

def walkCh (sp lp st k : Int) : Str := if (Float64.cmp (fq ((st + (0 + (k.toNat : Int)) * lp).fmod sp) sp) (fq ((st + (0 + ((k - 1).toNat : Int)) * lp).fmod sp) sp) == some Ordering.lt) = true then Str.ofString "\t" else Str.ofString " "
theorem walkCh_len (sp lp st k : Int) : (walkCh sp lp st k).length = 1 := by
  unfold walkCh; split <;> decide +kernel
def walkT (sp lp st : Int) : Str := Txt.join (Str.ofString "") ((rangeKs 1 (sp + 1 - 1).toNat).map (walkCh sp lp st))

theorem tb0 {k : Int} (h : 1 ≤ k) : 0 ≤ k := by omega
theorem tb1 {k sp : Int} (h : k < 1 + ((sp + 1 - 1).toNat : Int)) (h1 : 1 ≤ sp) : k < ((sp + 1 - 0).toNat : Int) := by omega
theorem tbn {sp : Int} (h2 : sp ≤ 32) : (sp + 1 - 0).toNat < 1000 := by omega
theorem tc0 {k : Int} (h : 1 ≤ k) : 0 ≤ k - 1 := by omega
theorem tc1 {k sp : Int} (h : k < 1 + ((sp + 1 - 1).toNat : Int)) (h1 : 1 ≤ sp) : k - 1 < ((sp + 1 - 0).toNat : Int) := by omega

theorem walk_c (w : World) (mean : ExcName → Option Value) (mg mb : Str → Option Value) (sp lp st sh lv : Int) (t1 t2 t3 t4 t5 : Tok) (news : List (Addr × Obj))
    (h1 : 1 ≤ sp) (h2 : sp ≤ 32) (h3 : 1 ≤ lp) (h4 : lp ≤ 32) (h5 : 0 ≤ st) (h6 : st ≤ 32) (h7 : 1 ≤ sh) (h8 : sh ≤ 8) (h9 : 1 ≤ lv) (h10 : lv ≤ 8) (hH : ∀ i : Nat, i < (sp + 1 - 0).toNat → HueOk sp lp st sh lv i) :
  Ctr w mean mg mb (call (.ref 118) [.int sp t1, .int lp t2, .int st t3, .int sh t4, .int lv t5]) news 5 120 (fun v tl => ∃ t, v = .str (walkT sp lp st) t ∧ tl = []) := by
  unfold Ctr
  w_top off
  k_fill
  intro dp un gd cn cs a ccd cl outer A₀ base h₀ L m s Q E B F X N T hk hd hu hret
  refine wpAny_call ?_
  k_dflt (refine' code_defC ?k1 ?k2 ?k3 ?k4 ?k5 ?kA ?kF ?kK ?k6 ?k7 ?k8 ?k9 ?kB ?kD ?_ ?c2 ?c3 ?c4; (case kA => exact rfl); (case kF => exact rfl); (case kK => assumption); (case k1 => k_asm); (case k2 => k_asm); (case k3 => k_asm); (case k4 => k_asm); (case k5 => k_asm); (case k6 => k_is); (case k7 => k_is); (case k8 => ktr_room); (case k9 => exact BindsTo.of_eq rfl); (case kB => exact rfl); (case kD => decide +kernel); (case c2 => exact rfl); (case c3 => exact rfl); (case c4 => exact rfl); k_whole; intro g' L' h' tk' cells' FG' F' N' Y' B' X' T' l1; (try k_lt l1); k_cells Y'; (try simp only [List.cons_append, List.nil_append] at N'); (try dsimp only); (try k_lift B'); (try k_fold))
  have hWF : WF (backF sp lp st sh lv) := True.intro
  repeat' (first | (k_unfold; (try dsimp only)) | (k_end; wrow_close) | ((with_reducible show wpAny _ _ (subscriptTail (Expr.Name _ _) (Expr.Constant _ _ _) (Value.ref _) (Value.int _ _)) _ _ _); with_reducible ((k_here; k_dflt (refine' tup_first ?N ?hm ?ht ?_ ?hs ?hg; (case N => k_asm); (case hm => with_reducible assumption); (case ht => (intro p hp; kcf_m)); (case hs => with_unfolding_all rfl); (case hg => (intro _; with_unfolding_all rfl)); k_whole); (try dsimp only)))) | ((with_reducible show wpAny _ _ (subscriptTail (Expr.Name _ _) (Expr.BinOp _ _ _ _) (Value.ref _) (Value.int _ _)) _ _ _); with_reducible ((k_here; k_dflt (refine' told_item ?N ?hm ?T ?h0 ?h1 ?hn ?_ ?hs ?hg; (case N => k_asm); (case hm => k_mem); (case T => with_reducible assumption); (case h0 => exact tc0 (by with_reducible assumption)); (case h1 => exact tc1 (by with_reducible assumption) (by with_reducible assumption)); (case hn => exact tbn (by with_reducible assumption)); (case hs => with_unfolding_all rfl); (case hg => (intro _; with_unfolding_all rfl)); k_whole); intro xq' t4q' t5q' t6q' hmq'; (try dsimp only)))) | ((with_reducible show wpAny _ _ (subscriptTail (Expr.Name _ _) (Expr.Name _ _) (Value.ref _) (Value.int _ _)) _ _ _); with_reducible ((k_here; k_dflt (refine' told_item ?N ?hm ?T ?h0 ?h1 ?hn ?_ ?hs ?hg; (case N => k_asm); (case hm => k_mem); (case T => with_reducible assumption); (case h0 => exact tb0 (by with_reducible assumption)); (case h1 => exact tb1 (by with_reducible assumption) (by with_reducible assumption)); (case hn => exact tbn (by with_reducible assumption)); (case hs => with_unfolding_all rfl); (case hg => (intro _; with_unfolding_all rfl)); k_whole); intro xq' t4q' t5q' t6q' hmq'; (try dsimp only)))) | ((with_reducible show wpAny _ _ (call (Value.builtin "str.join") _) _ _ _); with_reducible ((k_here; (with_reducible rename CarriedAll _ (List.map _ _) => ktC); (refine KT.join_1 (News.isList (by k_asm) (by k_mem)) ktC (by intro ktA ktM; exact walkCh_len _ _ _ _) (by rw [rangeKs_length]; omega) ?_; intro _ _ ktE)))) | ((with_reducible show wpAny _ _ (call (Value.builtin "str.join") _) _ _ _); ((k_here; (with_reducible rename CarriedAll _ (List.map _ _) => ktC); (refine KT.join_1 (News.isList (by k_asm) (by k_mem)) ktC (by intro ktA ktM; exact walkCh_len _ _ _ _) (by rw [rangeKs_length]; omega) ?_; intro _ _ ktE)))) | ((with_reducible show KCtEl _ _ _ _); with_reducible (((refine kct_el ?kce (by with_unfolding_all rfl) (by with_unfolding_all rfl)); (case kce => (unfold walkCh; first | exact if_pos (by with_reducible assumption) | exact if_neg (Bool.eq_false_iff.mp (by with_reducible assumption))))))) | ((with_reducible show LCg.CompEnd _ _ _ _ _ _ _ _ _ _ _ _ _ _); with_reducible ((refine' ct_end ?F ?N ?sub ?off ?S ?e; (case F => assumption); (case N => assumption); (case sub => kcf_all); (case off => assumption); (case S => first | exact True.intro | lcg_src | assumption); (case e => (unfold walkCh; first | exact if_pos (by with_reducible assumption) | exact if_neg (Bool.eq_false_iff.mp (by with_reducible assumption))))))) | ((with_reducible show LCg.CompEnd _ _ _ _ _ _ _ _ _ _ _ _ _ _); ((refine' ct_end ?F ?N ?sub ?off ?S ?e; (case F => assumption); (case N => assumption); (case sub => kcf_all); (case off => assumption); (case S => first | exact True.intro | lcg_src | assumption); (case e => (unfold walkCh; first | exact if_pos (by with_reducible assumption) | exact if_neg (Bool.eq_false_iff.mp (by with_reducible assumption))))))) | ((with_reducible show LCg.CompSrc _ _ _ _ _ _ _ _ _ _ _ _ _ _); with_reducible ((k_here; (rename GF _ => hGF); k_dflt ( (refine LCg.CompSrc.range (by rfl) (by k_asm) (by k_asm) (by assumption) (by exact rg_small (by decide) (by with_reducible assumption) (by with_reducible assumption)) (by exact rangeSize_nat _ _) (by exact rg_size (by decide) (by with_reducible assumption)) ?_; intro gq'; (refine' kct_rangeG hGF (fun kq' tq' Iq' oIq' Cq' oCq' Dq' mq' ysq' hq' tkq' Eq' hloq' hhiq' hCq' hxq' Fq' Nq' offq' neq' => ?_) ?_); (all_goals (try ((show KPfMark → _); intro hMarkq'))); kcf_last))))) | ((with_reducible show wpAny _ _ (compareOp CmpOp.NotEq (Value.ref _) (Value.ref _)) _ _ _); with_reducible ((k_here; k_dflt (refine' ne_told ?N ?hm ?hmq' ?T ?Tq' ?ht ?htq' ?hs ?hb ?hu ?_; (case N => k_asm); (case hm => kcf_m); (case hmq' => kcf_m); (case T => with_reducible assumption); (case Tq' => with_reducible assumption); (case ht => (intro p hp; kcf_m)); (case htq' => (intro p hp; kcf_m)); (case hs => with_reducible assumption); (case hb => exact booked_at (by with_reducible assumption) (by k_asm)); (case hu => ktr_units))))) | ((with_reducible show LCg.CompSrc _ _ _ _ _ _ _ _ _ _ _ _ _ _); with_reducible ((k_here; (rename CF _ => hCF); k_dflt ( (refine LCg.CompSrc.range (by rfl) (by k_asm) (by k_asm) (by assumption) (by exact rg_small (by decide) (by with_reducible assumption) (by with_reducible assumption)) (by exact rangeSize_nat _ _) (by exact rg_size (by decide) (by with_reducible assumption)) ?_; intro gq'; (refine' ct3_rest hCF ?_ ?_)))))) | ((with_reducible show wpAny _ _ (exec (Stmt.Assign (_ :: _) (Expr.ListComp _ _ _ _) _) _) _ _ _); with_reducible ((k_here; k_dflt (refine LCg.Assign_ListComp_U (F₀ := by k_asm) (by rfl) (by with_unfolding_all rfl) (by with_unfolding_all rfl) (by decide) (by rfl) (by decide) (by rfl) (by rfl) (by rfl) ?_)))) | ((with_reducible show wpAny _ _ (eval (Expr.ListComp _ _ _ _) _) _ _ _); with_reducible ((k_here; k_dflt (refine LCg.ListComp_U (F₀ := by k_asm) (by with_unfolding_all rfl) (by decide) (by rfl) (by decide) (by rfl) ?_)))) | ((with_reducible show wpAny _ _ (call (Value.ref 28) _) _ _ _); with_reducible ((k_here; (with_reducible show wpAny _ _ (call (Value.ref 28) _) _ _ _); k_dflt (refine' rgb_use ?p1 ?p2 ?p3 ?hz ?B ?F ?X ?N ?T ?hk ?hd ?hu ?_; (case B => k_asm); (case F => k_asm); (case X => k_asm); (case N => k_asm); (case T => k_asm); (case hk => first | exact rfl | assumption); (case hz => with_reducible assumption); (case p1 => first | with_reducible assumption | exact Nat.succ_pos _); (case p2 => first | with_reducible assumption | exact Nat.succ_pos _); (case p3 => first | with_reducible assumption | exact Nat.succ_pos _); (case hd => ktr_room); (case hu => ktr_units); k_whole); intro Dq' t4q' t5q' t6q' hq' tkq' q4q' q5q' q6q' Fq' Nq' l1q; (try k_lt l1q)))) | ((with_reducible show wpAny _ _ (call (Value.ref 35) _) _ _ _); with_reducible ((k_here; (with_reducible show wpAny _ _ (call (Value.ref 35) _) _ _ _); k_dflt (refine' hsv_use ?p1 ?p2 ?p3 ?hf ?hi ?B ?F ?X ?N ?T ?hk ?hd ?hu ?_; (case B => k_asm); (case F => k_asm); (case X => k_asm); (case N => k_asm); (case T => k_asm); (case hk => first | exact rfl | assumption); (case hf => with_reducible assumption); (case hi => with_reducible assumption); (case p1 => first | with_reducible assumption | exact Nat.succ_pos _); (case p2 => first | with_reducible assumption | exact Nat.succ_pos _); (case p3 => first | with_reducible assumption | exact Nat.succ_pos _); (case hd => ktr_room); (case hu => ktr_units); k_whole); intro Dq' t4q' t5q' t6q' hq' tkq' q4q' q5q' q6q' Fq' Nq' l1q; (try k_lt l1q)))) | ((with_reducible show wpAny _ _ (binaryOp Operator.Div (Value.int _ _) (Value.int _ _)) _ _ _); with_reducible ((k_here; refine div_r rfl ?ha ?hb ?_; (case ha => first | with_reducible assumption | exact dv1 (by with_reducible assumption) (by with_reducible assumption) | omega); (case hb => first | exact dv2 (by with_reducible assumption) | decide | omega)))) | ((with_reducible show wpAny _ _ (pyIter (Value.ref _)) _ _ _); with_reducible ((k_here; (rename WF _ => hWF); (rename News _ _ _ _ => Nq'); (rename Fr _ _ _ _ => Fq'); k_dflt (refine wkLoopG hWF Fq' Nq' rfl (by assumption) (small_one (by omega) (by omega) (by omega) (by omega)) (rangeSize_nat _ _) (by exact rfl) (by exact rfl) (by exact rfl) ?_ ?_); (all_goals clear Nq' Fq')))) | walk1 | (dsimp only; walk1) | (leave1; walk_say "STEP leave1"; try dsimp only) | fail "no step")
  · show ∀ (i : Nat) t c h tk own, _
    intro i t c h tk own hi hJ hoff F' N'
    obtain ⟨b9, fin9, int9, rgb9, _, _⟩ := hH i hi
    have rgb9' := rgb9
    unfold RgbOk rgbv at rgb9'
    have hlN : AllLt _ news := (‹_ ∧ _ ∧ _ ∧ _ ∧ _ ∧ _ ∧ AllLt _ news›).2.2.2.2.2.2
    have hne := tail_ne hJ.lt hlN hoff
    have hlen : c.vs.length < 40 := by have := hJ.T.1; simp at this; omega
    repeat' (first | (k_unfold; (try dsimp only)) | (k_end; wrow_close) | ((with_reducible show wpAny _ _ (subscriptTail (Expr.Name _ _) (Expr.Constant _ _ _) (Value.ref _) (Value.int _ _)) _ _ _); with_reducible ((k_here; k_dflt (refine' tup_first ?N ?hm ?ht ?_ ?hs ?hg; (case N => k_asm); (case hm => with_reducible assumption); (case ht => (intro p hp; kcf_m)); (case hs => with_unfolding_all rfl); (case hg => (intro _; with_unfolding_all rfl)); k_whole); (try dsimp only)))) | ((with_reducible show wpAny _ _ (subscriptTail (Expr.Name _ _) (Expr.BinOp _ _ _ _) (Value.ref _) (Value.int _ _)) _ _ _); with_reducible ((k_here; k_dflt (refine' told_item ?N ?hm ?T ?h0 ?h1 ?hn ?_ ?hs ?hg; (case N => k_asm); (case hm => k_mem); (case T => with_reducible assumption); (case h0 => exact tc0 (by with_reducible assumption)); (case h1 => exact tc1 (by with_reducible assumption) (by with_reducible assumption)); (case hn => exact tbn (by with_reducible assumption)); (case hs => with_unfolding_all rfl); (case hg => (intro _; with_unfolding_all rfl)); k_whole); intro xq' t4q' t5q' t6q' hmq'; (try dsimp only)))) | ((with_reducible show wpAny _ _ (subscriptTail (Expr.Name _ _) (Expr.Name _ _) (Value.ref _) (Value.int _ _)) _ _ _); with_reducible ((k_here; k_dflt (refine' told_item ?N ?hm ?T ?h0 ?h1 ?hn ?_ ?hs ?hg; (case N => k_asm); (case hm => k_mem); (case T => with_reducible assumption); (case h0 => exact tb0 (by with_reducible assumption)); (case h1 => exact tb1 (by with_reducible assumption) (by with_reducible assumption)); (case hn => exact tbn (by with_reducible assumption)); (case hs => with_unfolding_all rfl); (case hg => (intro _; with_unfolding_all rfl)); k_whole); intro xq' t4q' t5q' t6q' hmq'; (try dsimp only)))) | ((with_reducible show wpAny _ _ (call (Value.builtin "str.join") _) _ _ _); with_reducible ((k_here; (with_reducible rename CarriedAll _ (List.map _ _) => ktC); (refine KT.join_1 (News.isList (by k_asm) (by k_mem)) ktC (by intro ktA ktM; exact walkCh_len _ _ _ _) (by rw [rangeKs_length]; omega) ?_; intro _ _ ktE)))) | ((with_reducible show wpAny _ _ (call (Value.builtin "str.join") _) _ _ _); ((k_here; (with_reducible rename CarriedAll _ (List.map _ _) => ktC); (refine KT.join_1 (News.isList (by k_asm) (by k_mem)) ktC (by intro ktA ktM; exact walkCh_len _ _ _ _) (by rw [rangeKs_length]; omega) ?_; intro _ _ ktE)))) | ((with_reducible show KCtEl _ _ _ _); with_reducible (((refine kct_el ?kce (by with_unfolding_all rfl) (by with_unfolding_all rfl)); (case kce => (unfold walkCh; first | exact if_pos (by with_reducible assumption) | exact if_neg (Bool.eq_false_iff.mp (by with_reducible assumption))))))) | ((with_reducible show LCg.CompEnd _ _ _ _ _ _ _ _ _ _ _ _ _ _); with_reducible ((refine' ct_end ?F ?N ?sub ?off ?S ?e; (case F => assumption); (case N => assumption); (case sub => kcf_all); (case off => assumption); (case S => first | exact True.intro | lcg_src | assumption); (case e => (unfold walkCh; first | exact if_pos (by with_reducible assumption) | exact if_neg (Bool.eq_false_iff.mp (by with_reducible assumption))))))) | ((with_reducible show LCg.CompEnd _ _ _ _ _ _ _ _ _ _ _ _ _ _); ((refine' ct_end ?F ?N ?sub ?off ?S ?e; (case F => assumption); (case N => assumption); (case sub => kcf_all); (case off => assumption); (case S => first | exact True.intro | lcg_src | assumption); (case e => (unfold walkCh; first | exact if_pos (by with_reducible assumption) | exact if_neg (Bool.eq_false_iff.mp (by with_reducible assumption))))))) | ((with_reducible show LCg.CompSrc _ _ _ _ _ _ _ _ _ _ _ _ _ _); with_reducible ((k_here; (rename GF _ => hGF); k_dflt ( (refine LCg.CompSrc.range (by rfl) (by k_asm) (by k_asm) (by assumption) (by exact rg_small (by decide) (by with_reducible assumption) (by with_reducible assumption)) (by exact rangeSize_nat _ _) (by exact rg_size (by decide) (by with_reducible assumption)) ?_; intro gq'; (refine' kct_rangeG hGF (fun kq' tq' Iq' oIq' Cq' oCq' Dq' mq' ysq' hq' tkq' Eq' hloq' hhiq' hCq' hxq' Fq' Nq' offq' neq' => ?_) ?_); (all_goals (try ((show KPfMark → _); intro hMarkq'))); kcf_last))))) | ((with_reducible show wpAny _ _ (compareOp CmpOp.NotEq (Value.ref _) (Value.ref _)) _ _ _); with_reducible ((k_here; k_dflt (refine' ne_told ?N ?hm ?hmq' ?T ?Tq' ?ht ?htq' ?hs ?hb ?hu ?_; (case N => k_asm); (case hm => kcf_m); (case hmq' => kcf_m); (case T => with_reducible assumption); (case Tq' => with_reducible assumption); (case ht => (intro p hp; kcf_m)); (case htq' => (intro p hp; kcf_m)); (case hs => with_reducible assumption); (case hb => exact booked_at (by with_reducible assumption) (by k_asm)); (case hu => ktr_units))))) | ((with_reducible show LCg.CompSrc _ _ _ _ _ _ _ _ _ _ _ _ _ _); with_reducible ((k_here; (rename CF _ => hCF); k_dflt ( (refine LCg.CompSrc.range (by rfl) (by k_asm) (by k_asm) (by assumption) (by exact rg_small (by decide) (by with_reducible assumption) (by with_reducible assumption)) (by exact rangeSize_nat _ _) (by exact rg_size (by decide) (by with_reducible assumption)) ?_; intro gq'; (refine' ct3_rest hCF ?_ ?_)))))) | ((with_reducible show wpAny _ _ (exec (Stmt.Assign (_ :: _) (Expr.ListComp _ _ _ _) _) _) _ _ _); with_reducible ((k_here; k_dflt (refine LCg.Assign_ListComp_U (F₀ := by k_asm) (by rfl) (by with_unfolding_all rfl) (by with_unfolding_all rfl) (by decide) (by rfl) (by decide) (by rfl) (by rfl) (by rfl) ?_)))) | ((with_reducible show wpAny _ _ (eval (Expr.ListComp _ _ _ _) _) _ _ _); with_reducible ((k_here; k_dflt (refine LCg.ListComp_U (F₀ := by k_asm) (by with_unfolding_all rfl) (by decide) (by rfl) (by decide) (by rfl) ?_)))) | ((with_reducible show wpAny _ _ (call (Value.ref 28) _) _ _ _); with_reducible ((k_here; (with_reducible show wpAny _ _ (call (Value.ref 28) _) _ _ _); k_dflt (refine' rgb_use ?p1 ?p2 ?p3 ?hz ?B ?F ?X ?N ?T ?hk ?hd ?hu ?_; (case B => k_asm); (case F => k_asm); (case X => k_asm); (case N => k_asm); (case T => k_asm); (case hk => first | exact rfl | assumption); (case hz => with_reducible assumption); (case p1 => first | with_reducible assumption | exact Nat.succ_pos _); (case p2 => first | with_reducible assumption | exact Nat.succ_pos _); (case p3 => first | with_reducible assumption | exact Nat.succ_pos _); (case hd => ktr_room); (case hu => ktr_units); k_whole); intro Dq' t4q' t5q' t6q' hq' tkq' q4q' q5q' q6q' Fq' Nq' l1q; (try k_lt l1q)))) | ((with_reducible show wpAny _ _ (call (Value.ref 35) _) _ _ _); with_reducible ((k_here; (with_reducible show wpAny _ _ (call (Value.ref 35) _) _ _ _); k_dflt (refine' hsv_use ?p1 ?p2 ?p3 ?hf ?hi ?B ?F ?X ?N ?T ?hk ?hd ?hu ?_; (case B => k_asm); (case F => k_asm); (case X => k_asm); (case N => k_asm); (case T => k_asm); (case hk => first | exact rfl | assumption); (case hf => with_reducible assumption); (case hi => with_reducible assumption); (case p1 => first | with_reducible assumption | exact Nat.succ_pos _); (case p2 => first | with_reducible assumption | exact Nat.succ_pos _); (case p3 => first | with_reducible assumption | exact Nat.succ_pos _); (case hd => ktr_room); (case hu => ktr_units); k_whole); intro Dq' t4q' t5q' t6q' hq' tkq' q4q' q5q' q6q' Fq' Nq' l1q; (try k_lt l1q)))) | ((with_reducible show wpAny _ _ (binaryOp Operator.Div (Value.int _ _) (Value.int _ _)) _ _ _); with_reducible ((k_here; refine div_r rfl ?ha ?hb ?_; (case ha => first | with_reducible assumption | exact dv1 (by with_reducible assumption) (by with_reducible assumption) | omega); (case hb => first | exact dv2 (by with_reducible assumption) | decide | omega)))) | ((with_reducible show wpAny _ _ (pyIter (Value.ref _)) _ _ _); with_reducible ((k_here; (rename WF _ => hWF); (rename News _ _ _ _ => Nq'); (rename Fr _ _ _ _ => Fq'); k_dflt (refine wkLoopG hWF Fq' Nq' rfl (by assumption) (small_one (by omega) (by omega) (by omega) (by omega)) (rangeSize_nat _ _) (by exact rfl) (by exact rfl) (by exact rfl) ?_ ?_); (all_goals clear Nq' Fq')))) | walk1 | (dsimp only; walk1) | (leave1; walk_say "STEP leave1"; try dsimp only) | fail "no step")
    (rename Fr _ _ _ _ => F9); (rename News _ _ _ _ => N9)
    (rename (_ ∧ _ ∧ _ ∧ _ ∧ _ ∧ _ ∧ _ ∧ _ ∧ AllLt _ _) => hL9)
    obtain ⟨z1, z2, z3, z4, z5, z6, z7, z8, z9⟩ := hL9
    show TurnEnd _ _ _ _ _ _ _ _ _
    refine wk_end F9 N9 hJ hoff (by exact rfl) (by exact rfl) (by exact rfl) (by intro z h1 h2 h3 h4; simp only [if_neg h1, if_neg h2, if_neg h3, if_neg h4, wkMp]) (List.Mem.head _) (by kcf_m) (by kcf_m) (by kcf_m) (by kcf_m) (by kcf_m) (by kcf_m) (by kcf_m) (by kcf_all) z2 z9 (by assumption) (by assumption) (by assumption)
  · show ∀ c u h tk, _
    intro c u h tk hJ F' N'
    have hCF : CF (fun i => (fq ((st + (0 + (i : Int)) * lp).fmod sp) sp, fq sh 8, fq lv 8)) := True.intro
    repeat' (first | (k_unfold; (try dsimp only)) | (k_end; wrow_close) | ((with_reducible show wpAny _ _ (subscriptTail (Expr.Name _ _) (Expr.Constant _ _ _) (Value.ref _) (Value.int _ _)) _ _ _); with_reducible ((k_here; k_dflt (refine' tup_first ?N ?hm ?ht ?_ ?hs ?hg; (case N => k_asm); (case hm => with_reducible assumption); (case ht => (intro p hp; kcf_m)); (case hs => with_unfolding_all rfl); (case hg => (intro _; with_unfolding_all rfl)); k_whole); (try dsimp only)))) | ((with_reducible show wpAny _ _ (subscriptTail (Expr.Name _ _) (Expr.BinOp _ _ _ _) (Value.ref _) (Value.int _ _)) _ _ _); with_reducible ((k_here; k_dflt (refine' told_item ?N ?hm ?T ?h0 ?h1 ?hn ?_ ?hs ?hg; (case N => k_asm); (case hm => k_mem); (case T => with_reducible assumption); (case h0 => exact tc0 (by with_reducible assumption)); (case h1 => exact tc1 (by with_reducible assumption) (by with_reducible assumption)); (case hn => exact tbn (by with_reducible assumption)); (case hs => with_unfolding_all rfl); (case hg => (intro _; with_unfolding_all rfl)); k_whole); intro xq' t4q' t5q' t6q' hmq'; (try dsimp only)))) | ((with_reducible show wpAny _ _ (subscriptTail (Expr.Name _ _) (Expr.Name _ _) (Value.ref _) (Value.int _ _)) _ _ _); with_reducible ((k_here; k_dflt (refine' told_item ?N ?hm ?T ?h0 ?h1 ?hn ?_ ?hs ?hg; (case N => k_asm); (case hm => k_mem); (case T => with_reducible assumption); (case h0 => exact tb0 (by with_reducible assumption)); (case h1 => exact tb1 (by with_reducible assumption) (by with_reducible assumption)); (case hn => exact tbn (by with_reducible assumption)); (case hs => with_unfolding_all rfl); (case hg => (intro _; with_unfolding_all rfl)); k_whole); intro xq' t4q' t5q' t6q' hmq'; (try dsimp only)))) | ((with_reducible show wpAny _ _ (call (Value.builtin "str.join") _) _ _ _); with_reducible ((k_here; (with_reducible rename CarriedAll _ (List.map _ _) => ktC); (refine KT.join_1 (News.isList (by k_asm) (by k_mem)) ktC (by intro ktA ktM; exact walkCh_len _ _ _ _) (by rw [rangeKs_length]; omega) ?_; intro _ _ ktE)))) | ((with_reducible show wpAny _ _ (call (Value.builtin "str.join") _) _ _ _); ((k_here; (with_reducible rename CarriedAll _ (List.map _ _) => ktC); (refine KT.join_1 (News.isList (by k_asm) (by k_mem)) ktC (by intro ktA ktM; exact walkCh_len _ _ _ _) (by rw [rangeKs_length]; omega) ?_; intro _ _ ktE)))) | ((with_reducible show KCtEl _ _ _ _); with_reducible (((refine kct_el ?kce (by with_unfolding_all rfl) (by with_unfolding_all rfl)); (case kce => (unfold walkCh; first | exact if_pos (by with_reducible assumption) | exact if_neg (Bool.eq_false_iff.mp (by with_reducible assumption))))))) | ((with_reducible show LCg.CompEnd _ _ _ _ _ _ _ _ _ _ _ _ _ _); with_reducible ((refine' ct_end ?F ?N ?sub ?off ?S ?e; (case F => assumption); (case N => assumption); (case sub => kcf_all); (case off => assumption); (case S => first | exact True.intro | lcg_src | assumption); (case e => (unfold walkCh; first | exact if_pos (by with_reducible assumption) | exact if_neg (Bool.eq_false_iff.mp (by with_reducible assumption))))))) | ((with_reducible show LCg.CompEnd _ _ _ _ _ _ _ _ _ _ _ _ _ _); ((refine' ct_end ?F ?N ?sub ?off ?S ?e; (case F => assumption); (case N => assumption); (case sub => kcf_all); (case off => assumption); (case S => first | exact True.intro | lcg_src | assumption); (case e => (unfold walkCh; first | exact if_pos (by with_reducible assumption) | exact if_neg (Bool.eq_false_iff.mp (by with_reducible assumption))))))) | ((with_reducible show LCg.CompSrc _ _ _ _ _ _ _ _ _ _ _ _ _ _); with_reducible ((k_here; (rename GF _ => hGF); k_dflt ( (refine LCg.CompSrc.range (by rfl) (by k_asm) (by k_asm) (by assumption) (by exact rg_small (by decide) (by with_reducible assumption) (by with_reducible assumption)) (by exact rangeSize_nat _ _) (by exact rg_size (by decide) (by with_reducible assumption)) ?_; intro gq'; (refine' kct_rangeG hGF (fun kq' tq' Iq' oIq' Cq' oCq' Dq' mq' ysq' hq' tkq' Eq' hloq' hhiq' hCq' hxq' Fq' Nq' offq' neq' => ?_) ?_); (all_goals (try ((show KPfMark → _); intro hMarkq'))); kcf_last))))) | ((with_reducible show wpAny _ _ (compareOp CmpOp.NotEq (Value.ref _) (Value.ref _)) _ _ _); with_reducible ((k_here; k_dflt (refine' ne_told ?N ?hm ?hmq' ?T ?Tq' ?ht ?htq' ?hs ?hb ?hu ?_; (case N => k_asm); (case hm => kcf_m); (case hmq' => kcf_m); (case T => with_reducible assumption); (case Tq' => with_reducible assumption); (case ht => (intro p hp; kcf_m)); (case htq' => (intro p hp; kcf_m)); (case hs => with_reducible assumption); (case hb => exact booked_at (by with_reducible assumption) (by k_asm)); (case hu => ktr_units))))) | ((with_reducible show LCg.CompSrc _ _ _ _ _ _ _ _ _ _ _ _ _ _); with_reducible ((k_here; (rename CF _ => hCF); k_dflt ( (refine LCg.CompSrc.range (by rfl) (by k_asm) (by k_asm) (by assumption) (by exact rg_small (by decide) (by with_reducible assumption) (by with_reducible assumption)) (by exact rangeSize_nat _ _) (by exact rg_size (by decide) (by with_reducible assumption)) ?_; intro gq'; (refine' ct3_rest hCF ?_ ?_)))))) | ((with_reducible show wpAny _ _ (exec (Stmt.Assign (_ :: _) (Expr.ListComp _ _ _ _) _) _) _ _ _); with_reducible ((k_here; k_dflt (refine LCg.Assign_ListComp_U (F₀ := by k_asm) (by rfl) (by with_unfolding_all rfl) (by with_unfolding_all rfl) (by decide) (by rfl) (by decide) (by rfl) (by rfl) (by rfl) ?_)))) | ((with_reducible show wpAny _ _ (eval (Expr.ListComp _ _ _ _) _) _ _ _); with_reducible ((k_here; k_dflt (refine LCg.ListComp_U (F₀ := by k_asm) (by with_unfolding_all rfl) (by decide) (by rfl) (by decide) (by rfl) ?_)))) | ((with_reducible show wpAny _ _ (call (Value.ref 28) _) _ _ _); with_reducible ((k_here; (with_reducible show wpAny _ _ (call (Value.ref 28) _) _ _ _); k_dflt (refine' rgb_use ?p1 ?p2 ?p3 ?hz ?B ?F ?X ?N ?T ?hk ?hd ?hu ?_; (case B => k_asm); (case F => k_asm); (case X => k_asm); (case N => k_asm); (case T => k_asm); (case hk => first | exact rfl | assumption); (case hz => with_reducible assumption); (case p1 => first | with_reducible assumption | exact Nat.succ_pos _); (case p2 => first | with_reducible assumption | exact Nat.succ_pos _); (case p3 => first | with_reducible assumption | exact Nat.succ_pos _); (case hd => ktr_room); (case hu => ktr_units); k_whole); intro Dq' t4q' t5q' t6q' hq' tkq' q4q' q5q' q6q' Fq' Nq' l1q; (try k_lt l1q)))) | ((with_reducible show wpAny _ _ (call (Value.ref 35) _) _ _ _); with_reducible ((k_here; (with_reducible show wpAny _ _ (call (Value.ref 35) _) _ _ _); k_dflt (refine' hsv_use ?p1 ?p2 ?p3 ?hf ?hi ?B ?F ?X ?N ?T ?hk ?hd ?hu ?_; (case B => k_asm); (case F => k_asm); (case X => k_asm); (case N => k_asm); (case T => k_asm); (case hk => first | exact rfl | assumption); (case hf => with_reducible assumption); (case hi => with_reducible assumption); (case p1 => first | with_reducible assumption | exact Nat.succ_pos _); (case p2 => first | with_reducible assumption | exact Nat.succ_pos _); (case p3 => first | with_reducible assumption | exact Nat.succ_pos _); (case hd => ktr_room); (case hu => ktr_units); k_whole); intro Dq' t4q' t5q' t6q' hq' tkq' q4q' q5q' q6q' Fq' Nq' l1q; (try k_lt l1q)))) | ((with_reducible show wpAny _ _ (binaryOp Operator.Div (Value.int _ _) (Value.int _ _)) _ _ _); with_reducible ((k_here; refine div_r rfl ?ha ?hb ?_; (case ha => first | with_reducible assumption | exact dv1 (by with_reducible assumption) (by with_reducible assumption) | omega); (case hb => first | exact dv2 (by with_reducible assumption) | decide | omega)))) | ((with_reducible show wpAny _ _ (pyIter (Value.ref _)) _ _ _); with_reducible ((k_here; (rename WF _ => hWF); (rename News _ _ _ _ => Nq'); (rename Fr _ _ _ _ => Fq'); k_dflt (refine wkLoopG hWF Fq' Nq' rfl (by assumption) (small_one (by omega) (by omega) (by omega) (by omega)) (rangeSize_nat _ _) (by exact rfl) (by exact rfl) (by exact rfl) ?_ ?_); (all_goals clear Nq' Fq')))) | walk1 | (dsimp only; walk1) | (leave1; walk_say "STEP leave1"; try dsimp only) | fail "no step")
    · show ∀ (i : Nat) t I oI C oC D m₂ ys tl h tk (E' : Value → Shared → Prop), _
      intro i t I oI C oC D m₂ ys tl h tk E' hi hC hx F' N' off ne
      obtain ⟨b9, fin9, int9, rgb9, _, _⟩ := hH i hi
      simp only [List.cons_append] at N' off
      have m9 : 0 ≤ (st + (0 + (i : Int)) * lp).fmod sp ∧ (st + (0 + (i : Int)) * lp).fmod sp < 10000 := by
        have q1 := Int.fmod_nonneg_of_pos (st + (0 + (i : Int)) * lp) (b := sp) (by omega)
        have q2 := Int.fmod_lt_of_pos (st + (0 + (i : Int)) * lp) (b := sp) (by omega)
        omega
      repeat' (first | (k_unfold; (try dsimp only)) | (k_end; wrow_close) | ((with_reducible show wpAny _ _ (subscriptTail (Expr.Name _ _) (Expr.Constant _ _ _) (Value.ref _) (Value.int _ _)) _ _ _); with_reducible ((k_here; k_dflt (refine' tup_first ?N ?hm ?ht ?_ ?hs ?hg; (case N => k_asm); (case hm => with_reducible assumption); (case ht => (intro p hp; kcf_m)); (case hs => with_unfolding_all rfl); (case hg => (intro _; with_unfolding_all rfl)); k_whole); (try dsimp only)))) | ((with_reducible show wpAny _ _ (subscriptTail (Expr.Name _ _) (Expr.BinOp _ _ _ _) (Value.ref _) (Value.int _ _)) _ _ _); with_reducible ((k_here; k_dflt (refine' told_item ?N ?hm ?T ?h0 ?h1 ?hn ?_ ?hs ?hg; (case N => k_asm); (case hm => k_mem); (case T => with_reducible assumption); (case h0 => exact tc0 (by with_reducible assumption)); (case h1 => exact tc1 (by with_reducible assumption) (by with_reducible assumption)); (case hn => exact tbn (by with_reducible assumption)); (case hs => with_unfolding_all rfl); (case hg => (intro _; with_unfolding_all rfl)); k_whole); intro xq' t4q' t5q' t6q' hmq'; (try dsimp only)))) | ((with_reducible show wpAny _ _ (subscriptTail (Expr.Name _ _) (Expr.Name _ _) (Value.ref _) (Value.int _ _)) _ _ _); with_reducible ((k_here; k_dflt (refine' told_item ?N ?hm ?T ?h0 ?h1 ?hn ?_ ?hs ?hg; (case N => k_asm); (case hm => k_mem); (case T => with_reducible assumption); (case h0 => exact tb0 (by with_reducible assumption)); (case h1 => exact tb1 (by with_reducible assumption) (by with_reducible assumption)); (case hn => exact tbn (by with_reducible assumption)); (case hs => with_unfolding_all rfl); (case hg => (intro _; with_unfolding_all rfl)); k_whole); intro xq' t4q' t5q' t6q' hmq'; (try dsimp only)))) | ((with_reducible show wpAny _ _ (call (Value.builtin "str.join") _) _ _ _); with_reducible ((k_here; (with_reducible rename CarriedAll _ (List.map _ _) => ktC); (refine KT.join_1 (News.isList (by k_asm) (by k_mem)) ktC (by intro ktA ktM; exact walkCh_len _ _ _ _) (by rw [rangeKs_length]; omega) ?_; intro _ _ ktE)))) | ((with_reducible show wpAny _ _ (call (Value.builtin "str.join") _) _ _ _); ((k_here; (with_reducible rename CarriedAll _ (List.map _ _) => ktC); (refine KT.join_1 (News.isList (by k_asm) (by k_mem)) ktC (by intro ktA ktM; exact walkCh_len _ _ _ _) (by rw [rangeKs_length]; omega) ?_; intro _ _ ktE)))) | ((with_reducible show KCtEl _ _ _ _); with_reducible (((refine kct_el ?kce (by with_unfolding_all rfl) (by with_unfolding_all rfl)); (case kce => (unfold walkCh; first | exact if_pos (by with_reducible assumption) | exact if_neg (Bool.eq_false_iff.mp (by with_reducible assumption))))))) | ((with_reducible show LCg.CompEnd _ _ _ _ _ _ _ _ _ _ _ _ _ _); with_reducible ((refine' ct_end ?F ?N ?sub ?off ?S ?e; (case F => assumption); (case N => assumption); (case sub => kcf_all); (case off => assumption); (case S => first | exact True.intro | lcg_src | assumption); (case e => (unfold walkCh; first | exact if_pos (by with_reducible assumption) | exact if_neg (Bool.eq_false_iff.mp (by with_reducible assumption))))))) | ((with_reducible show LCg.CompEnd _ _ _ _ _ _ _ _ _ _ _ _ _ _); ((refine' ct_end ?F ?N ?sub ?off ?S ?e; (case F => assumption); (case N => assumption); (case sub => kcf_all); (case off => assumption); (case S => first | exact True.intro | lcg_src | assumption); (case e => (unfold walkCh; first | exact if_pos (by with_reducible assumption) | exact if_neg (Bool.eq_false_iff.mp (by with_reducible assumption))))))) | ((with_reducible show LCg.CompSrc _ _ _ _ _ _ _ _ _ _ _ _ _ _); with_reducible ((k_here; (rename GF _ => hGF); k_dflt ( (refine LCg.CompSrc.range (by rfl) (by k_asm) (by k_asm) (by assumption) (by exact rg_small (by decide) (by with_reducible assumption) (by with_reducible assumption)) (by exact rangeSize_nat _ _) (by exact rg_size (by decide) (by with_reducible assumption)) ?_; intro gq'; (refine' kct_rangeG hGF (fun kq' tq' Iq' oIq' Cq' oCq' Dq' mq' ysq' hq' tkq' Eq' hloq' hhiq' hCq' hxq' Fq' Nq' offq' neq' => ?_) ?_); (all_goals (try ((show KPfMark → _); intro hMarkq'))); kcf_last))))) | ((with_reducible show wpAny _ _ (compareOp CmpOp.NotEq (Value.ref _) (Value.ref _)) _ _ _); with_reducible ((k_here; k_dflt (refine' ne_told ?N ?hm ?hmq' ?T ?Tq' ?ht ?htq' ?hs ?hb ?hu ?_; (case N => k_asm); (case hm => kcf_m); (case hmq' => kcf_m); (case T => with_reducible assumption); (case Tq' => with_reducible assumption); (case ht => (intro p hp; kcf_m)); (case htq' => (intro p hp; kcf_m)); (case hs => with_reducible assumption); (case hb => exact booked_at (by with_reducible assumption) (by k_asm)); (case hu => ktr_units))))) | ((with_reducible show LCg.CompSrc _ _ _ _ _ _ _ _ _ _ _ _ _ _); with_reducible ((k_here; (rename CF _ => hCF); k_dflt ( (refine LCg.CompSrc.range (by rfl) (by k_asm) (by k_asm) (by assumption) (by exact rg_small (by decide) (by with_reducible assumption) (by with_reducible assumption)) (by exact rangeSize_nat _ _) (by exact rg_size (by decide) (by with_reducible assumption)) ?_; intro gq'; (refine' ct3_rest hCF ?_ ?_)))))) | ((with_reducible show wpAny _ _ (exec (Stmt.Assign (_ :: _) (Expr.ListComp _ _ _ _) _) _) _ _ _); with_reducible ((k_here; k_dflt (refine LCg.Assign_ListComp_U (F₀ := by k_asm) (by rfl) (by with_unfolding_all rfl) (by with_unfolding_all rfl) (by decide) (by rfl) (by decide) (by rfl) (by rfl) (by rfl) ?_)))) | ((with_reducible show wpAny _ _ (eval (Expr.ListComp _ _ _ _) _) _ _ _); with_reducible ((k_here; k_dflt (refine LCg.ListComp_U (F₀ := by k_asm) (by with_unfolding_all rfl) (by decide) (by rfl) (by decide) (by rfl) ?_)))) | ((with_reducible show wpAny _ _ (call (Value.ref 28) _) _ _ _); with_reducible ((k_here; (with_reducible show wpAny _ _ (call (Value.ref 28) _) _ _ _); k_dflt (refine' rgb_use ?p1 ?p2 ?p3 ?hz ?B ?F ?X ?N ?T ?hk ?hd ?hu ?_; (case B => k_asm); (case F => k_asm); (case X => k_asm); (case N => k_asm); (case T => k_asm); (case hk => first | exact rfl | assumption); (case hz => with_reducible assumption); (case p1 => first | with_reducible assumption | exact Nat.succ_pos _); (case p2 => first | with_reducible assumption | exact Nat.succ_pos _); (case p3 => first | with_reducible assumption | exact Nat.succ_pos _); (case hd => ktr_room); (case hu => ktr_units); k_whole); intro Dq' t4q' t5q' t6q' hq' tkq' q4q' q5q' q6q' Fq' Nq' l1q; (try k_lt l1q)))) | ((with_reducible show wpAny _ _ (call (Value.ref 35) _) _ _ _); with_reducible ((k_here; (with_reducible show wpAny _ _ (call (Value.ref 35) _) _ _ _); k_dflt (refine' hsv_use ?p1 ?p2 ?p3 ?hf ?hi ?B ?F ?X ?N ?T ?hk ?hd ?hu ?_; (case B => k_asm); (case F => k_asm); (case X => k_asm); (case N => k_asm); (case T => k_asm); (case hk => first | exact rfl | assumption); (case hf => with_reducible assumption); (case hi => with_reducible assumption); (case p1 => first | with_reducible assumption | exact Nat.succ_pos _); (case p2 => first | with_reducible assumption | exact Nat.succ_pos _); (case p3 => first | with_reducible assumption | exact Nat.succ_pos _); (case hd => ktr_room); (case hu => ktr_units); k_whole); intro Dq' t4q' t5q' t6q' hq' tkq' q4q' q5q' q6q' Fq' Nq' l1q; (try k_lt l1q)))) | ((with_reducible show wpAny _ _ (binaryOp Operator.Div (Value.int _ _) (Value.int _ _)) _ _ _); with_reducible ((k_here; refine div_r rfl ?ha ?hb ?_; (case ha => first | with_reducible assumption | exact dv1 (by with_reducible assumption) (by with_reducible assumption) | omega); (case hb => first | exact dv2 (by with_reducible assumption) | decide | omega)))) | ((with_reducible show wpAny _ _ (pyIter (Value.ref _)) _ _ _); with_reducible ((k_here; (rename WF _ => hWF); (rename News _ _ _ _ => Nq'); (rename Fr _ _ _ _ => Fq'); k_dflt (refine wkLoopG hWF Fq' Nq' rfl (by assumption) (small_one (by omega) (by omega) (by omega) (by omega)) (rangeSize_nat _ _) (by exact rfl) (by exact rfl) (by exact rfl) ?_ ?_); (all_goals clear Nq' Fq')))) | walk1 | (dsimp only; walk1) | (leave1; walk_say "STEP leave1"; try dsimp only) | fail "no step")
      (rename Fr _ _ _ _ => F9); (rename News _ _ _ _ => N9)
      (rename (_ ∧ _ ∧ _ ∧ _ ∧ _ ∧ _ ∧ _ ∧ _ ∧ _ ∧ _ ∧ AllLt _ _) => hL9)
      exact el3_end F9 N9 (List.Mem.head _) rfl (by kcf_all) off hL9.1 hL9.2.1 hL9.2.2.1 (by first | assumption | exact Nat.succ_pos _) (by first | assumption | exact Nat.succ_pos _) (by first | assumption | exact Nat.succ_pos _)
    · show ∀ ys tl, _
      intro ys tl hT
      rename CF _ => hq9
      clear hq9
      have hB := booked X' T'
      have e9 : (List.range (sp + 1 - 0).toNat).map (backF sp lp st sh lv) = (List.range (sp + 1 - 0).toNat).map (fun (i : Nat) => (fq ((st + (0 + (i : Int)) * lp).fmod sp) sp, fq sh 8, fq lv 8)) := List.map_congr_left fun i hi => (hH i (List.mem_range.mp hi)).back
      have hT0 := hJ.T
      rw [e9] at hT0
      have hS9 : ((List.range (sp + 1 - 0).toNat).map (fun (i : Nat) => (fq ((st + (0 + (i : Int)) * lp).fmod sp) sp, fq sh 8, fq lv 8))).all selfEq3 = true := by
        rw [List.all_eq_true]
        intro r hr
        obtain ⟨i, hi, rfl⟩ := List.mem_map.mp hr
        exact (hH i (List.mem_range.mp hi)).self
      have hGF : GF (walkCh sp lp st) := True.intro
      repeat' (first | (k_unfold; (try dsimp only)) | (k_end; wrow_close) | ((with_reducible show wpAny _ _ (subscriptTail (Expr.Name _ _) (Expr.Constant _ _ _) (Value.ref _) (Value.int _ _)) _ _ _); with_reducible ((k_here; k_dflt (refine' tup_first ?N ?hm ?ht ?_ ?hs ?hg; (case N => k_asm); (case hm => with_reducible assumption); (case ht => (intro p hp; kcf_m)); (case hs => with_unfolding_all rfl); (case hg => (intro _; with_unfolding_all rfl)); k_whole); (try dsimp only)))) | ((with_reducible show wpAny _ _ (subscriptTail (Expr.Name _ _) (Expr.BinOp _ _ _ _) (Value.ref _) (Value.int _ _)) _ _ _); with_reducible ((k_here; k_dflt (refine' told_item ?N ?hm ?T ?h0 ?h1 ?hn ?_ ?hs ?hg; (case N => k_asm); (case hm => k_mem); (case T => with_reducible assumption); (case h0 => exact tc0 (by with_reducible assumption)); (case h1 => exact tc1 (by with_reducible assumption) (by with_reducible assumption)); (case hn => exact tbn (by with_reducible assumption)); (case hs => with_unfolding_all rfl); (case hg => (intro _; with_unfolding_all rfl)); k_whole); intro xq' t4q' t5q' t6q' hmq'; (try dsimp only)))) | ((with_reducible show wpAny _ _ (subscriptTail (Expr.Name _ _) (Expr.Name _ _) (Value.ref _) (Value.int _ _)) _ _ _); with_reducible ((k_here; k_dflt (refine' told_item ?N ?hm ?T ?h0 ?h1 ?hn ?_ ?hs ?hg; (case N => k_asm); (case hm => k_mem); (case T => with_reducible assumption); (case h0 => exact tb0 (by with_reducible assumption)); (case h1 => exact tb1 (by with_reducible assumption) (by with_reducible assumption)); (case hn => exact tbn (by with_reducible assumption)); (case hs => with_unfolding_all rfl); (case hg => (intro _; with_unfolding_all rfl)); k_whole); intro xq' t4q' t5q' t6q' hmq'; (try dsimp only)))) | ((with_reducible show wpAny _ _ (call (Value.builtin "str.join") _) _ _ _); with_reducible ((k_here; (with_reducible rename CarriedAll _ (List.map _ _) => ktC); (refine KT.join_1 (News.isList (by k_asm) (by k_mem)) ktC (by intro ktA ktM; exact walkCh_len _ _ _ _) (by rw [rangeKs_length]; omega) ?_; intro _ _ ktE)))) | ((with_reducible show wpAny _ _ (call (Value.builtin "str.join") _) _ _ _); ((k_here; (with_reducible rename CarriedAll _ (List.map _ _) => ktC); (refine KT.join_1 (News.isList (by k_asm) (by k_mem)) ktC (by intro ktA ktM; exact walkCh_len _ _ _ _) (by rw [rangeKs_length]; omega) ?_; intro _ _ ktE)))) | ((with_reducible show KCtEl _ _ _ _); with_reducible (((refine kct_el ?kce (by with_unfolding_all rfl) (by with_unfolding_all rfl)); (case kce => (unfold walkCh; first | exact if_pos (by with_reducible assumption) | exact if_neg (Bool.eq_false_iff.mp (by with_reducible assumption))))))) | ((with_reducible show LCg.CompEnd _ _ _ _ _ _ _ _ _ _ _ _ _ _); with_reducible ((refine' ct_end ?F ?N ?sub ?off ?S ?e; (case F => assumption); (case N => assumption); (case sub => kcf_all); (case off => assumption); (case S => first | exact True.intro | lcg_src | assumption); (case e => (unfold walkCh; first | exact if_pos (by with_reducible assumption) | exact if_neg (Bool.eq_false_iff.mp (by with_reducible assumption))))))) | ((with_reducible show LCg.CompEnd _ _ _ _ _ _ _ _ _ _ _ _ _ _); ((refine' ct_end ?F ?N ?sub ?off ?S ?e; (case F => assumption); (case N => assumption); (case sub => kcf_all); (case off => assumption); (case S => first | exact True.intro | lcg_src | assumption); (case e => (unfold walkCh; first | exact if_pos (by with_reducible assumption) | exact if_neg (Bool.eq_false_iff.mp (by with_reducible assumption))))))) | ((with_reducible show LCg.CompSrc _ _ _ _ _ _ _ _ _ _ _ _ _ _); with_reducible ((k_here; (rename GF _ => hGF); k_dflt ( (refine LCg.CompSrc.range (by rfl) (by k_asm) (by k_asm) (by assumption) (by exact rg_small (by decide) (by with_reducible assumption) (by with_reducible assumption)) (by exact rangeSize_nat _ _) (by exact rg_size (by decide) (by with_reducible assumption)) ?_; intro gq'; (refine' kct_rangeG hGF (fun kq' tq' Iq' oIq' Cq' oCq' Dq' mq' ysq' hq' tkq' Eq' hloq' hhiq' hCq' hxq' Fq' Nq' offq' neq' => ?_) ?_); (all_goals (try ((show KPfMark → _); intro hMarkq'))); kcf_last))))) | ((with_reducible show wpAny _ _ (compareOp CmpOp.NotEq (Value.ref _) (Value.ref _)) _ _ _); with_reducible ((k_here; k_dflt (refine' ne_told ?N ?hm ?hmq' ?T ?Tq' ?ht ?htq' ?hs ?hb ?hu ?_; (case N => k_asm); (case hm => kcf_m); (case hmq' => kcf_m); (case T => with_reducible assumption); (case Tq' => with_reducible assumption); (case ht => (intro p hp; kcf_m)); (case htq' => (intro p hp; kcf_m)); (case hs => with_reducible assumption); (case hb => exact booked_at (by with_reducible assumption) (by k_asm)); (case hu => ktr_units))))) | ((with_reducible show LCg.CompSrc _ _ _ _ _ _ _ _ _ _ _ _ _ _); with_reducible ((k_here; (rename CF _ => hCF); k_dflt ( (refine LCg.CompSrc.range (by rfl) (by k_asm) (by k_asm) (by assumption) (by exact rg_small (by decide) (by with_reducible assumption) (by with_reducible assumption)) (by exact rangeSize_nat _ _) (by exact rg_size (by decide) (by with_reducible assumption)) ?_; intro gq'; (refine' ct3_rest hCF ?_ ?_)))))) | ((with_reducible show wpAny _ _ (exec (Stmt.Assign (_ :: _) (Expr.ListComp _ _ _ _) _) _) _ _ _); with_reducible ((k_here; k_dflt (refine LCg.Assign_ListComp_U (F₀ := by k_asm) (by rfl) (by with_unfolding_all rfl) (by with_unfolding_all rfl) (by decide) (by rfl) (by decide) (by rfl) (by rfl) (by rfl) ?_)))) | ((with_reducible show wpAny _ _ (eval (Expr.ListComp _ _ _ _) _) _ _ _); with_reducible ((k_here; k_dflt (refine LCg.ListComp_U (F₀ := by k_asm) (by with_unfolding_all rfl) (by decide) (by rfl) (by decide) (by rfl) ?_)))) | ((with_reducible show wpAny _ _ (call (Value.ref 28) _) _ _ _); with_reducible ((k_here; (with_reducible show wpAny _ _ (call (Value.ref 28) _) _ _ _); k_dflt (refine' rgb_use ?p1 ?p2 ?p3 ?hz ?B ?F ?X ?N ?T ?hk ?hd ?hu ?_; (case B => k_asm); (case F => k_asm); (case X => k_asm); (case N => k_asm); (case T => k_asm); (case hk => first | exact rfl | assumption); (case hz => with_reducible assumption); (case p1 => first | with_reducible assumption | exact Nat.succ_pos _); (case p2 => first | with_reducible assumption | exact Nat.succ_pos _); (case p3 => first | with_reducible assumption | exact Nat.succ_pos _); (case hd => ktr_room); (case hu => ktr_units); k_whole); intro Dq' t4q' t5q' t6q' hq' tkq' q4q' q5q' q6q' Fq' Nq' l1q; (try k_lt l1q)))) | ((with_reducible show wpAny _ _ (call (Value.ref 35) _) _ _ _); with_reducible ((k_here; (with_reducible show wpAny _ _ (call (Value.ref 35) _) _ _ _); k_dflt (refine' hsv_use ?p1 ?p2 ?p3 ?hf ?hi ?B ?F ?X ?N ?T ?hk ?hd ?hu ?_; (case B => k_asm); (case F => k_asm); (case X => k_asm); (case N => k_asm); (case T => k_asm); (case hk => first | exact rfl | assumption); (case hf => with_reducible assumption); (case hi => with_reducible assumption); (case p1 => first | with_reducible assumption | exact Nat.succ_pos _); (case p2 => first | with_reducible assumption | exact Nat.succ_pos _); (case p3 => first | with_reducible assumption | exact Nat.succ_pos _); (case hd => ktr_room); (case hu => ktr_units); k_whole); intro Dq' t4q' t5q' t6q' hq' tkq' q4q' q5q' q6q' Fq' Nq' l1q; (try k_lt l1q)))) | ((with_reducible show wpAny _ _ (binaryOp Operator.Div (Value.int _ _) (Value.int _ _)) _ _ _); with_reducible ((k_here; refine div_r rfl ?ha ?hb ?_; (case ha => first | with_reducible assumption | exact dv1 (by with_reducible assumption) (by with_reducible assumption) | omega); (case hb => first | exact dv2 (by with_reducible assumption) | decide | omega)))) | ((with_reducible show wpAny _ _ (pyIter (Value.ref _)) _ _ _); with_reducible ((k_here; (rename WF _ => hWF); (rename News _ _ _ _ => Nq'); (rename Fr _ _ _ _ => Fq'); k_dflt (refine wkLoopG hWF Fq' Nq' rfl (by assumption) (small_one (by omega) (by omega) (by omega) (by omega)) (rangeSize_nat _ _) (by exact rfl) (by exact rfl) (by exact rfl) ?_ ?_); (all_goals clear Nq' Fq')))) | walk1 | (dsimp only; walk1) | (leave1; walk_say "STEP leave1"; try dsimp only) | fail "no step")
      all_goals first
        | exact retS hret (by assumption) (by assumption) (by intro p hp; kcf_m) rfl
end Mine
end

section
open PySem PySem.W PySem.Spec PySem.Calls PyProof.Rows
namespace Mine
set_option maxRecDepth 100000
section
variable {w : World} {mean : ExcName → Option Value} {mg mb : Str → Option Value} {news : List (Addr × Obj)}
  {dp un : Nat} {gd : Option (List Code)} {cn : Str} {cs : Scope} {a : Addr} {ccd : Value} {cl : List (Str × Addr)} {outer : List Env} {A₀ : Around} {base h₀ : Heap} {L : Addr} {m : Str → Option Value} {s : Shared} {Q E : Value → Shared → Prop}

theorem rgb_useP {rr gg bb : UInt64} {t1 t2 t3 : Tok} (p1 : 0 < t1) (p2 : 0 < t2) (p3 : 0 < t3) (hz : (Float64.cmp (min3F rr gg bb) (max3F rr gg bb) == some Ordering.eq) = false → ¬ Float64.isZero (max3F rr gg bb) = true ∧ ¬ Float64.isZero (Float64.sub (max3F rr gg bb) (min3F rr gg bb)) = true) (B : Below A₀ base outer h₀) (F : Fr h₀ L s.heap m) (X : (hd.heap_39 w.params).In h₀) (N : News h₀ L s.heap news) (T : Top hd.view_39 (looseW hd.view_39 [Str.ofString "Whitespace"]) mean mg mb h₀) (hk : cs.kind = .function) (hd : dp + 1 < recursionLimit) (hu : un + 8 < cLine)
    (h : ∀ (D : Addr) (t4 t5 t6 : Tok) (h' : Heap) (tk' : Nat), 0 < tk' → 0 < t4 → 0 < t5 → 0 < t6 → Fr h₀ L h' m → News h₀ L h' ((D, tupV #[.float (rgbF rr gg bb).1 t4, .float (rgbF rr gg bb).2.1 t5, .float (rgbF rr gg bb).2.2 t6]) :: news) → (∀ p ∈ news, p.1 < D) → Q (.ref D) { s with heap := h', toks := tk' }) :
    wpAny (model Challenge.rw_pk0086_01.row.prog w) (ktrTop dp un gd cn cs L a ccd cl outer) (call (.ref 28) [.float rr t1, .float gg t2, .float bb t3]) Q E s := by
  refine rgb_cP w mean mg mb rr gg bb t1 t2 t3 news p1 p2 p3 hz dp un gd cn cs a ccd cl outer A₀ base h₀ L m s Q E B F X N T hk hd hu ?_
  rintro v tl h' tk' ⟨D, t4, t5, t6, rfl, rfl, q4, q5, q6⟩ l p0 F' N'
  exact h D t4 t5 t6 h' tk' p0 q4 q5 q6 F' N' (l _ (.head _))
end
end Mine
end

section
open PySem PySem.W PySem.Spec PySem.Calls PyProof.Rows
namespace Mine
section
variable {prog : Program} {w : World} {A : Around} {E : Value → Shared → Prop} {s : Shared} {h₀ : Heap} {L : Addr} {m : Str → Option Value} {env : Env}
abbrev SrcTAt (ax : Addr) (its : Array Value) (news : List (Addr × Obj)) : Prop := (ax, tupV its) ∈ news
theorem tuple_st {ax I : Addr} {its : Array Value} : ∀ i (h h' : Heap) (o : Obj) (nw : List (Addr × Obj)), (h.IsTupleIter I ax i ∧ h.IsTuple ax its) → h.get? I = some o → h'.get? I = some o → (∀ b o, h₀.get? b = some o → h'.get? b = some o) → News h₀ L h' nw → SrcTAt ax its nw → (h'.IsTupleIter I ax i ∧ h'.IsTuple ax its) :=
  fun i h h' o nw st e e' k N S => ⟨by obtain ⟨o', q, r⟩ := st.1; rw [e] at q; cases q; exact ⟨o, e', r⟩, N.isTup S⟩
def CompTup (prog : Program) (w : World) (A : Around) (h₀ : Heap) (L : Addr) (m : Str → Option Value) (env : Env) (elt : Expr) (x : Str) (scope : Scope) (cl : List (Str × Addr)) (Fin : Shared → List Value → List (Addr × Obj) → Prop) (xv : Value) (s₁ : Shared) : Prop :=
  ∃ ax its news, xv = .ref ax ∧ A.handled = none ∧ Fr h₀ L s₁.heap m ∧ News h₀ L s₁.heap news ∧ SrcTAt ax its news ∧ its.size ≤ sizeLine ∧
    ∀ s₂ : Shared, (∃ h, s₂ = { s₁ with heap := h }) → LCg.CompRest prog w A h₀ L m env elt x scope cl s₂ (SrcTAt ax its) (fun i v => its[i]? = some v) (Fin s₂) its.size 0 [] news
theorem CompTup.intro {elt : Expr} {x : Str} {scope : Scope} {cl : List (Str × Addr)} {Fin : Shared → List Value → List (Addr × Obj) → Prop} {ax : Addr} {its : Array Value} {news : List (Addr × Obj)} {s₁ : Shared}
    (hh : A.handled = none) (F : Fr h₀ L s₁.heap m) (N : News h₀ L s₁.heap news) (hm : (ax, tupV its) ∈ news) (hsz : its.size ≤ sizeLine)
    (h : ∀ g, LCg.CompRest prog w A h₀ L m env elt x scope cl { s₁ with heap := g } (SrcTAt ax its) (fun i v => its[i]? = some v) (Fin { s₁ with heap := g }) its.size 0 [] news) :
    CompTup prog w A h₀ L m env elt x scope cl Fin (.ref ax) s₁ := ⟨ax, its, news, rfl, hh, F, N, hm, hsz, fun _ ⟨g, e⟩ => e ▸ h g⟩
theorem ListComp_Tup {elt iter : Expr} {x : Str} {px : Pos} {scope : Scope} {cl : List (Str × Addr)} {pos : Pos} {Q : Value → Shared → Prop} (F₀ : Fr h₀ L s.heap m)
    (hclos : closureFor scope env = pure cl) (hcell : ∀ y ∈ scope.names, y.2 ≠ .cell) (hkind : scope.kind = .function)
    (hnames : ∀ y ∈ scope.names, y.2 = .local → scope.names.lookup y.1 = some .local) (hx : scope.names.lookup x = some .local)
    (h : wpAny (model prog w) A (eval iter env) (CompTup prog w A h₀ L m env elt x scope cl (fun s₂ => LCg.FinE h₀ L m s₂ Q)) E s)
    (hs : ∀ x, foldedSetIterable iter env x = pure x := by intro _; rfl) :
    wpAny (model prog w) A (eval (.ListComp elt [⟨.Name x px, iter, [], 0⟩] scope pos) env) Q E s := by
  rw [eval_ListComp]
  refine wpAny_comprehension_free (use := none) rfl hs hclos hkind hnames (wpAny_mono h (fun xv s₁ h₁ => ?_) fun _ _ e => e)
  obtain ⟨ax, its, news, rfl, hh, F, N, S, hsz, R⟩ := h₁
  have hl : s₁.heap.IsTuple ax its := N.isTup S
  have hlt : ax < s₁.heap.objs.size := by obtain ⟨_, e, _⟩ := hl; exact Heap.lt_size e
  refine wpAny_pyIter_tuple hl ?_
  have up : ∀ b o, s₁.heap.get? b = some o → (s₁.heap.push { cls := .type "tuple_iterator", data := .fields #[.ref ax, .int 0 0] }).get? b = some o := fun b o e => Heap.get?_push_of_some _ e
  refine LCg.block_U (Walks.tuple hh s₁.heap.objs.size ax (Nat.ne_of_lt hlt) its) hsz (fun i h st => by obtain ⟨o, e, _⟩ := st.1; exact ⟨o, e⟩) tuple_st hcell hkind hx ⟨⟨_, Heap.get?_push_size _ rfl, rfl, rfl⟩, hl.push _⟩ (fun b hb => ?_)
    (F.keeps up) (N.grown up) (Nat.ne_of_lt F.ns.lt) (next_is_new F) (fun p hp => Nat.ne_of_lt (Heap.lt_size (N p hp).1)) S (R _ ⟨_, rfl⟩) ?_
  · show b < (s₁.heap.push _).objs.size
    rw [Heap.size_push]
    rcases List.mem_cons.mp hb with rfl | hb
    · exact Nat.lt_succ_self _
    · rw [List.mem_singleton.mp hb]; exact Nat.lt_succ_of_lt hlt
  · intro D C h tk m' ys news' F' N' o1 hn hC₀ hD₀ hCL hDL hCD offC fin
    refine ⟨m', hn, fun h'' hs'' => fin D h'' tk (F'.change hs'' hCL hC₀) (fun p hp => ?_) o1⟩
    refine ⟨hs''.extBut _ _ ?_ (N' p hp).1, (N' p hp).2⟩
    rcases List.mem_cons.mp hp with rfl | hp
    · exact Ne.symm hCD
    · exact offC p hp
end
end Mine
end

section
open PySem PySem.W PySem.Spec PySem.Calls PyProof.Rows PySem.SeqAt
namespace Mine
set_option maxRecDepth 100000
section
open Builtin Builtin.Str StrLaws
/-- a text cut at a longer text, by the signs' numbers -/
def spM (y : List Nat) : Nat → List Nat → List (List Nat)
  | _, [] => [[]]
  | k + 1, _ :: r => spM y k r
  | 0, c :: r => if y.isPrefixOf (c :: r) = true then [] :: spM y (y.length - 1) r else match spM y 0 r with
    | [] => [[c]]
    | p :: q => (c :: p) :: q
theorem spM_skip (y : List Nat) : ∀ (k : Nat) (l : List Nat), spM y k l = spM y 0 (l.drop k)
  | 0, _ => rfl
  | k + 1, [] => by simp [spM]
  | k + 1, c :: r => by
    show spM y k r = _
    rw [spM_skip y k r]
    rfl
theorem at_prefix (x y : Str) (a : Nat) : y.cps.toList.isPrefixOf (x.cps.toList.drop a) = true ↔ (a + y.length ≤ x.length ∨ y.length = 0) ∧ subAt x y a = true := by
  have hl : y.cps.toList.length = y.length := by simp [Str.length]
  have hx : x.cps.toList.length = x.length := by simp [Str.length]
  rw [List.isPrefixOf_iff_prefix, List.prefix_iff_eq_take, subAt_eq, hl, beq_iff_eq]
  constructor
  · intro h
    refine ⟨?_, h.symm⟩
    have h2 := congrArg List.length h
    rw [List.length_take, List.length_drop, hl, hx] at h2
    omega
  · intro h; exact h.2.symm
theorem at_iff {x y : Str} (hy : 1 ≤ y.length) (a : Nat) : y.cps.toList.isPrefixOf (x.cps.toList.drop a) = true ↔ At x y x.length a := by
  rw [at_prefix]
  unfold At
  constructor
  · intro h; exact ⟨h.1.elim id (fun e => by omega), h.2⟩
  · intro h; exact ⟨.inl h.1, h.2⟩
theorem drop_step {x : Str} {a : Nat} (h : a < x.length) : ∃ d, x.cps.toList.drop a = d :: x.cps.toList.drop (a + 1) :=
  ⟨_, List.drop_eq_getElem_cons (by simpa [Str.length] using h)⟩
theorem spM_none {x y : Str} (hy : 1 ≤ y.length) : ∀ (n a : Nat), a + n = x.length → (∀ k, a ≤ k → ¬ At x y x.length k) → spM y.cps.toList 0 (x.cps.toList.drop a) = [x.cps.toList.drop a]
  | 0, a, h, _ => by
    have e : x.cps.toList.drop a = [] := List.drop_eq_nil_of_le (by simp [Str.length] at h ⊢; omega)
    rw [e]; rfl
  | n + 1, a, h, hn => by
    obtain ⟨d, e⟩ := drop_step (x := x) (a := a) (by omega)
    have ih := spM_none hy n (a + 1) (by omega) (fun k hk => hn k (by omega))
    have hp : ¬ y.cps.toList.isPrefixOf (d :: x.cps.toList.drop (a + 1)) = true := by
      rw [← e, at_iff hy]; exact hn a (Nat.le_refl _)
    rw [e]
    show (if _ then _ else _) = _
    rw [if_neg hp, ih]
theorem spM_next {x y : Str} (hy : 1 ≤ y.length) {c : Nat} (hc : At x y x.length c) : ∀ (n a : Nat), a + n = c → (∀ k, a ≤ k → k < c → ¬ At x y x.length k) → spM y.cps.toList 0 (x.cps.toList.drop a) = (x.cps.toList.drop a).take n :: spM y.cps.toList 0 (x.cps.toList.drop (c + y.length))
  | 0, a, h, _ => by
    have ha : a = c := by omega
    subst ha
    obtain ⟨d, e⟩ := drop_step (x := x) (a := a) (by have := hc.1; omega)
    have hp : y.cps.toList.isPrefixOf (d :: x.cps.toList.drop (a + 1)) = true := by rw [← e, at_iff hy]; exact hc
    have hl : y.cps.toList.length = y.length := by simp [Str.length]
    rw [e]
    show (if _ then _ else _) = _
    rw [if_pos hp, spM_skip, List.drop_drop, hl, show a + 1 + (y.length - 1) = a + y.length by omega]
    rfl
  | n + 1, a, h, hn => by
    have hlt : a < x.length := by have := hc.1; omega
    obtain ⟨d, e⟩ := drop_step (x := x) (a := a) hlt
    have ih := spM_next hy hc n (a + 1) (by omega) (fun k hk hk2 => hn k (by omega) hk2)
    have hp : ¬ y.cps.toList.isPrefixOf (d :: x.cps.toList.drop (a + 1)) = true := by
      rw [← e, at_iff hy]; exact hn a (Nat.le_refl _) (by omega)
    rw [e]
    show (if _ then _ else _) = _
    rw [if_neg hp, ih]
    rfl
theorem spM_parts {x y : Str} (hy : 1 ≤ y.length) : ∀ (cuts : List Nat) (a f : Nat), a ≤ x.length → ChainG x y x.length a cuts f → (∀ k, f ≤ k → ¬ At x y x.length k) → (partsFrom x y.length a cuts).map (fun p => p.cps.toList) = spM y.cps.toList 0 (x.cps.toList.drop a)
  | [], a, f, ha, h, hn => by
    have e : f = a := h
    subst e
    rw [spM_none hy (x.length - f) f (by omega) hn]
    show [(strSub x f x.length).cps.toList] = _
    rw [strSub_toList, List.take_of_length_le (by simp [Str.length])]
  | c :: r, a, f, ha, h, hn => by
    obtain ⟨h1, h2, h3, h4⟩ := h
    rw [spM_next hy h2 (c - a) a (by omega) h3, ← spM_parts hy r (c + y.length) f h2.1 h4 hn]
    show (strSub x a c).cps.toList :: _ = _
    rw [strSub_toList]
theorem kind_pos (x : Str) : 1 ≤ PySem.Builtin.Str.strKind x := by
  unfold PySem.Builtin.Str.strKind
  split
  · exact Nat.le_refl _
  · split <;> omega
theorem split_spM {x y : Str} (hy : 1 ≤ y.length) (hk : PySem.Builtin.Str.strKind y = 1) : (Txt.split x y).map (fun p => p.cps.toList) = spM y.cps.toList 0 x.cps.toList := by
  obtain ⟨f, hG, hn⟩ := occ_tight x y hy
  have key := spM_parts hy _ 0 f (Nat.zero_le _) hG hn
  rw [List.drop_zero] at key
  rw [← key]
  have hk2 := kind_pos x
  unfold Txt.split
  split
  · rename_i hc
    rw [Bool.or_eq_true, decide_eq_true_eq, decide_eq_true_eq] at hc
    have hlt : x.length < y.length := by omega
    have e : occurrences x y 0 x.length (x.length + 1) = [] := by
      cases hq : occurrences x y 0 x.length (x.length + 1) with
      | nil => rfl
      | cons c r =>
        rw [hq] at hG
        have := hG.2.1.1
        omega
    rw [e]
    show [x.cps.toList] = [(strSub x 0 x.length).cps.toList]
    rw [sub_whole]
  · split
    · rename_i he
      rw [List.isEmpty_iff.mp he]
      show [x.cps.toList] = [(strSub x 0 x.length).cps.toList]
      rw [sub_whole]
    · rw [partsBetween_eq]
end
end Mine
end

section
open PySem PySem.W PySem.Spec PySem.Calls PyProof.Rows PySem.SeqAt
namespace Mine
set_option maxRecDepth 100000
/-- a text cut at one sign, by the signs' numbers -/
def splitC (d : Nat) : List Nat → List (List Nat)
  | [] => [[]]
  | c :: r => if c = d then [] :: splitC d r else match splitC d r with
    | [] => [[c]]
    | p :: q => (c :: p) :: q
theorem splitC_free (d : Nat) : ∀ (p r : List Nat), d ∉ p → splitC d (p ++ d :: r) = p :: splitC d r
  | [], r, _ => by simp [splitC]
  | c :: p, r, h => by
    have hc : c ≠ d := fun e => h (by simp [e])
    have ih := splitC_free d p r (fun hm => h (List.mem_cons_of_mem _ hm))
    show (if c = d then [] :: splitC d (p ++ d :: r) else match splitC d (p ++ d :: r) with | [] => [[c]] | p :: q => (c :: p) :: q) = _
    rw [if_neg hc, ih]
theorem splitC_one (d : Nat) : ∀ (p : List Nat), d ∉ p → splitC d p = [p]
  | [], _ => rfl
  | c :: p, h => by
    have hc : c ≠ d := fun e => h (by simp [e])
    have ih := splitC_one d p (fun hm => h (List.mem_cons_of_mem _ hm))
    show (if c = d then [] :: splitC d p else match splitC d p with | [] => [[c]] | p :: q => (c :: p) :: q) = _
    rw [if_neg hc, ih]
theorem splitC_join (d : Nat) : ∀ (ps : List Str), ps ≠ [] → (∀ p ∈ ps, d ∉ p.cps.toList) → splitC d (Str.join ⟨#[d]⟩ ps).cps.toList = ps.map fun p => p.cps.toList
  | [], h, _ => absurd rfl h
  | [p], _, h => splitC_one _ _ (h p (List.mem_singleton.mpr rfl))
  | p :: q :: r, _, h => by
    have ih := splitC_join d (q :: r) (by simp) (fun x hx => h x (List.mem_cons_of_mem _ hx))
    have e : (Str.join ⟨#[d]⟩ (p :: q :: r)).cps.toList = p.cps.toList ++ d :: (Str.join ⟨#[d]⟩ (q :: r)).cps.toList := by
      show (p ++ ⟨#[d]⟩ ++ Str.join ⟨#[d]⟩ (q :: r)).cps.toList = _
      simp [Str.cps_append]
    rw [e, splitC_free _ _ _ (h p List.mem_cons_self), ih]
    rfl
theorem splitC_eq (x : Str) (d : Nat) : (Txt.split x ⟨#[d]⟩).map (fun p => p.cps.toList) = splitC d x.cps.toList := by
  have h := splitC_join d (Txt.split x ⟨#[d]⟩) (by have := PyProof.Rows.split_pos x ⟨#[d]⟩; intro e; rw [e] at this; simp at this) (StrLaws.split_free x d)
  rw [StrLaws.join_split] at h
  exact h.symm
/-- texts glued, by the signs' numbers -/
def joinC (s : List Nat) : List (List Nat) → List Nat
  | [] => []
  | [p] => p
  | p :: q :: r => p ++ (s ++ joinC s (q :: r))
theorem joinC_eq (s : Str) : ∀ ps : List Str, (Str.join s ps).cps.toList = joinC s.cps.toList (ps.map fun p => p.cps.toList)
  | [] => rfl
  | [p] => rfl
  | p :: q :: r => by
    have ih := joinC_eq s (q :: r)
    show (p ++ s ++ Str.join s (q :: r)).cps.toList = p.cps.toList ++ (s.cps.toList ++ joinC s.cps.toList ((q :: r).map fun p => p.cps.toList))
    rw [← ih]
    simp [Str.cps_append, List.append_assoc]
def strOf (l : List Nat) : Str := ⟨l.toArray⟩
theorem strOf_cps (x : Str) : strOf x.cps.toList = x := by cases x; rfl
theorem strOf_len (l : List Nat) : (strOf l).length = l.length := by simp [strOf, Str.length]
theorem str_of {x : Str} {l : List Nat} (h : x.cps.toList = l) : x = strOf l := by rw [← h, strOf_cps]
/-- replace of one sign / of a longer text, by the signs' numbers -/
def rep1 (l : List Nat) (d : Nat) (b : List Nat) : List Nat := joinC b (splitC d l)
def repM (l a b : List Nat) : List Nat := joinC b (spM a 0 l)
theorem kind_of {l : List Nat} (h : l.all (fun c => decide (c < 256)) = true) : PySem.Builtin.Str.strKind (strOf l) = 1 := by
  unfold PySem.Builtin.Str.strKind
  rw [if_pos (by rw [← Array.all_toList]; exact h)]
theorem repM_eq {l a : List Nat} (b : List Nat) (h : 1 ≤ a.length) (hk : PySem.Builtin.Str.strKind (strOf a) = 1) : repl (strOf l) (strOf a) (strOf b) = strOf (repM l a b) := by
  apply str_of
  unfold repl repM
  rw [show Txt.join = Str.join from funext fun a => funext fun b => StrLaws.glued_eq_join a b, joinC_eq, split_spM (by rw [strOf_len]; exact h) hk]
  simp [strOf]
theorem rep1_eq (l : List Nat) (d : Nat) (b : List Nat) : repl (strOf l) (strOf [d]) (strOf b) = strOf (rep1 l d b) := by
  apply str_of
  unfold repl rep1
  rw [show Txt.join = Str.join from funext fun a => funext fun b => StrLaws.glued_eq_join a b, joinC_eq]
  rw [show strOf [d] = ⟨#[d]⟩ from rfl, splitC_eq]
  simp [strOf]
theorem repOk_of {l a b : List Nat} (h1 : 1 ≤ a.length) (h2 : l.length ≤ 1000) (h3 : b.length ≤ 1000) : RepOk (strOf l) (strOf a) (strOf b) := by
  refine ⟨by rw [strOf_len]; simp; intro e; subst e; simp at h1, by rw [strOf_len, PySem.sizeLine_eq]; omega, ?_⟩
  unfold JoinOk Builtin.Str.tooLong
  rw [StrLaws.joinTotal, strOf_len]
  have hw := split_weight (strOf l) (strOf a) (by rw [strOf_len]; exact h1)
  rw [strOf_len] at hw
  have h4 : (Txt.split (strOf l) (strOf a)).length * b.length ≤ 1001 * 1000 := Nat.mul_le_mul (by omega) h3
  simp only [Bool.not_eq_true', decide_eq_false_iff_not]
  rw [PySem.sizeLine_eq]
  omega
def forceN {α : Type} (x : Nat) (k : Nat → α) : α := Nat.rec (motive := fun _ => α) (k 0) (fun n _ => k (n + 1)) x
theorem forceN_eq {α : Type} (x : Nat) (k : Nat → α) : forceN x k = k x := by cases x <;> rfl
def forceL {α : Type} : List Nat → (List Nat → α) → α
  | [], k => k []
  | a :: r, k => forceN a fun a => forceL r fun r => k (a :: r)
theorem forceL_eq {α : Type} : ∀ (l : List Nat) (k : List Nat → α), forceL l k = k l
  | [], _ => rfl
  | a :: r, k => by rw [forceL, forceN_eq, forceL_eq r]
theorem join_codes (g : Int → Nat) : ∀ l : List Int, (Str.join (Str.ofString "") (l.map fun k => ({ cps := #[g k] } : Str))).cps.toList = l.map g
  | [] => rfl
  | [a] => rfl
  | a :: b :: r => by
    have ih := join_codes g (b :: r)
    show ((({ cps := #[g a] } : Str) ++ Str.ofString "" ++ Str.join (Str.ofString "") ((b :: r).map fun k => ({ cps := #[g k] } : Str))).cps.toList) = _
    have e : (Str.ofString "").cps = #[] := by decide +kernel
    simp only [Str.cps_append, e, Array.toList_append, ih]
    rfl
def plainC (spots leap k : Int) : Nat := if ((k - 1) * leap).fdiv spots < (k * leap).fdiv spots then 9 else 32
def plainN (spots leap : Int) : List Nat := (rangeKs 1 (spots + 1 - 1).toNat).map (plainC spots leap)
theorem plainCh_eq (sp lp k : Int) : plainCh sp lp k = { cps := #[plainC sp lp k] } := by
  unfold plainCh plainC
  split
  · exact tab_is
  · exact blank_is
theorem plainT_cps (sp lp : Int) : (plainT sp lp).cps.toList = plainN sp lp := by
  unfold plainT plainN
  rw [funext (plainCh_eq sp lp), show Txt.join = Str.join from funext fun a => funext fun b => StrLaws.glued_eq_join a b]
  exact join_codes _ _
def wideN (g : Int) : List Nat := List.replicate g.toNat 32 ++ [9]
theorem wide_kind (g : Int) : PySem.Builtin.Str.strKind (strOf (wideN g)) = 1 := by
  refine kind_of ?_
  unfold wideN
  rw [List.all_append, List.all_replicate]
  simp
theorem wide_tab : ((List.range 33).all fun g => decide ((wideS (g : Int)).cps.toList = wideN (g : Int))) = true := by decide +kernel
theorem wide_is {g : Int} (h0 : 0 ≤ g) (h1 : g ≤ 32) : wideS g = strOf (wideN g) := by
  have h := of_decide_eq_true (List.all_eq_true.mp wide_tab g.toNat (List.mem_range.mpr (by omega)))
  rw [Int.toNat_of_nonneg h0] at h
  exact str_of h
theorem x_is : Str.ofString "x" = strOf [120] := by decide +kernel
theorem y_is : Str.ofString "y" = strOf [121] := by decide +kernel
theorem t_is : Str.ofString "\t" = strOf [9] := by decide +kernel
theorem b_is : Str.ofString " " = strOf [32] := by decide +kernel
theorem xbt_is : Str.ofString "x \t" = strOf [120, 32, 9] := by decide +kernel
end Mine
end

section
open PySem PySem.W PySem.Spec PySem.Calls PyProof.Rows PySem.SeqAt
namespace Mine
set_option maxRecDepth 100000
def scanIs (p : W4) (n nt b : Int) (cnt : List Int) : Bool := decide (p.n = n) && decide (p.nt = nt) && decide (p.b = b) && decide (p.cnt = cnt)
theorem scan_of {p : W4} {n nt b : Int} {cnt : List Int} (h : scanIs p n nt b cnt = true) : p = ⟨n, nt, b, cnt⟩ := by
  unfold scanIs at h
  simp only [Bool.and_eq_true, decide_eq_true_eq] at h
  obtain ⟨⟨⟨h1, h2⟩, h3⟩, h4⟩ := h
  cases p; simp_all
def cntG (g lp r : Int) : List Int := (List.replicate (g - 1).toNat [0]).flatten ++ [lp - r, r]
def rangesOk (sp lp g r : Int) : Bool := decide (lp < sp) && decide (sp ≤ 32) && decide (1 ≤ lp) && decide (1 ≤ g) && decide (g ≤ 31) && decide (1 ≤ r) && decide (r ≤ 32)
def lens (x y1 y2 y3 th z1 z2 z3 : List Nat) : Bool := decide (x.length ≤ 40) && decide (y1.length ≤ 100) && decide (y2.length ≤ 100) && decide (y3.length ≤ 100) && decide (th.length ≤ 100) && decide (z1.length ≤ 100) && decide (z2.length ≤ 100) && decide (z3.length ≤ 100)
def turnG (sp lp : Int) (x y1 y2 y3 th z1 z2 z3 z4 : List Nat) : Bool :=
  rangesOk sp lp (gpOf sp lp) (rsOf sp lp) && lens x y1 y2 y3 th z1 z2 z3 && scanIs (wScan w0 (x ++ [120, 32, 9])) sp lp 0 (cntG (gpOf sp lp) lp (rsOf sp lp)) && decide (z4 = x) && decide ((revS (strOf th)).cps.toList = plainN lp (rsOf sp lp))
def turnC (sp lp : Int) : Bool :=
  forceL (plainN sp lp) fun x => forceL (wideN (gpOf sp lp)) fun w => forceL (wideN (gpOf sp lp - 1)) fun t =>
  forceL (repM x w [120]) fun y1 => forceL (repM y1 t [121]) fun y2 => forceL (rep1 y2 120 [9]) fun y3 => forceL (rep1 y3 121 [32]) fun th =>
  forceL (rep1 th 9 [120]) fun z1 => forceL (rep1 z1 32 [121]) fun z2 => forceL (rep1 z2 120 w) fun z3 => forceL (rep1 z3 121 t) fun z4 => turnG sp lp x y1 y2 y3 th z1 z2 z3 z4
theorem len1 (c : Nat) : [c].length ≤ 1000 := by simp
theorem wide_len {g : Int} (h : g ≤ 32) : (wideN g).length ≤ 1000 ∧ 1 ≤ (wideN g).length := by
  unfold wideN; simp; omega
theorem k40 {n : Nat} (h : n ≤ 40) : n ≤ 1000 := Nat.le_trans h (by decide)
theorem k100 {n : Nat} (h : n ≤ 100) : n ≤ 1000 := Nat.le_trans h (by decide)
theorem wa0 {g : Int} (h : 1 ≤ g) : 0 ≤ g := by omega
theorem wa1 {g : Int} (h : g ≤ 31) : g ≤ 32 := by omega
theorem wa2 {g : Int} (h : 1 ≤ g) : 0 ≤ g - 1 := by omega
theorem wa3 {g : Int} (h : g ≤ 31) : g - 1 ≤ 32 := by omega
theorem turn_of {sp lp : Int} (h : turnC sp lp = true) : TurnOk (plainT sp lp) sp lp := by
  unfold turnC at h
  simp only [forceL_eq] at h
  generalize hx : plainN sp lp = x at h
  generalize hy1 : repM x (wideN (gpOf sp lp)) [120] = y1 at h
  generalize hy2 : repM y1 (wideN (gpOf sp lp - 1)) [121] = y2 at h
  generalize hy3 : rep1 y2 120 [9] = y3 at h
  generalize hth : rep1 y3 121 [32] = th at h
  generalize hz1 : rep1 th 9 [120] = z1 at h
  generalize hz2 : rep1 z1 32 [121] = z2 at h
  generalize hz3 : rep1 z2 120 (wideN (gpOf sp lp)) = z3 at h
  generalize hz4 : rep1 z3 121 (wideN (gpOf sp lp - 1)) = z4 at h
  unfold turnG rangesOk lens at h
  simp only [Bool.and_eq_true, decide_eq_true_eq] at h
  obtain ⟨⟨⟨⟨⟨⟨⟨⟨⟨⟨hlt, h2⟩, h3⟩, g0⟩, g1⟩, r0⟩, r1⟩, ⟨⟨⟨⟨⟨⟨⟨lx, l1⟩, l2⟩, l3⟩, l4⟩, l5⟩, l6⟩, l7⟩⟩, hscan⟩, hz⟩, hrev⟩ := h
  have hX : plainT sp lp = strOf x := str_of (by rw [plainT_cps, hx])
  have hw : wideS (gpOf sp lp) = strOf (wideN (gpOf sp lp)) := wide_is (wa0 g0) (wa1 g1)
  have ht : wideS (gpOf sp lp - 1) = strOf (wideN (gpOf sp lp - 1)) := wide_is (wa2 g0) (wa3 g1)
  have wl := wide_len (wa1 g1)
  have tl := wide_len (wa3 g1)
  have e1 : repl (strOf x) (strOf (wideN (gpOf sp lp))) (strOf [120]) = strOf y1 := by rw [repM_eq _ wl.2 (wide_kind _), hy1]
  have e2 : repl (strOf y1) (strOf (wideN (gpOf sp lp - 1))) (strOf [121]) = strOf y2 := by rw [repM_eq _ tl.2 (wide_kind _), hy2]
  have e3 : repl (strOf y2) (strOf [120]) (strOf [9]) = strOf y3 := by rw [rep1_eq, hy3]
  have e4 : repl (strOf y3) (strOf [121]) (strOf [32]) = strOf th := by rw [rep1_eq, hth]
  have f1 : repl (strOf th) (strOf [9]) (strOf [120]) = strOf z1 := by rw [rep1_eq, hz1]
  have f2 : repl (strOf z1) (strOf [32]) (strOf [121]) = strOf z2 := by rw [rep1_eq, hz2]
  have f3 : repl (strOf z2) (strOf [120]) (strOf (wideN (gpOf sp lp))) = strOf z3 := by rw [rep1_eq, hz3]
  have f4 : repl (strOf z3) (strOf [121]) (strOf (wideN (gpOf sp lp - 1))) = strOf z4 := by rw [rep1_eq, hz4]
  have hthin : thinS (plainT sp lp) sp lp = strOf th := by
    unfold thinS repl4
    rw [hX, hw, ht, x_is, y_is, t_is, b_is, e1, e2, e3, e4]
  refine ⟨hlt, h2, h3, g0, g1, r0, r1, ?_, ?_, ?_, ?_, ?_, ?_, ?_⟩
  · rw [hX, strOf_len]; exact lx
  · refine ⟨?_, ?_, ?_⟩
    · rw [Str.length_append, hX, strOf_len, xbt_is, strOf_len]; simp; omega
    · have e : (plainT sp lp ++ Str.ofString "x \t").cps.toList = x ++ [120, 32, 9] := by
        rw [hX, xbt_is, Str.cps_append]; simp [strOf]
      rw [e]
      exact scan_of hscan
    · simp only [decide_eq_false_iff_not, List.length_append, List.length_cons, List.length_nil]
      omega
  · rw [hX, hw, ht, x_is, y_is, t_is, b_is]
    refine ⟨?_, ?_, ?_, ?_⟩
    · exact repOk_of wl.2 (k40 lx) (len1 _)
    · rw [e1]; exact repOk_of tl.2 (k100 l1) (len1 _)
    · rw [e1, e2]; exact repOk_of (Nat.le_refl 1) (k100 l2) (len1 _)
    · rw [e1, e2, e3]; exact repOk_of (Nat.le_refl 1) (k100 l3) (len1 _)
  · rw [hthin, strOf_len, PySem.sizeLine_eq]; omega
  · rw [hthin, hw, ht, x_is, y_is, t_is, b_is]
    refine ⟨?_, ?_, ?_, ?_⟩
    · exact repOk_of (Nat.le_refl 1) (k100 l4) (len1 _)
    · rw [f1]; exact repOk_of (Nat.le_refl 1) (k100 l5) (len1 _)
    · rw [f1, f2]; exact repOk_of (Nat.le_refl 1) (k100 l6) wl.1
    · rw [f1, f2, f3]; exact repOk_of (Nat.le_refl 1) (k100 l7) tl.1
  · rw [hthin, str_of hrev]
    exact (str_of (plainT_cps _ _)).symm
  · rw [hthin, hw, ht, x_is, y_is, t_is, b_is]
    unfold repl4
    rw [f1, f2, f3, f4, hz, hX]
abbrev prs0 : List (Int × Int) := [(2, 1), (3, 1), (3, 2), (4, 1), (4, 2), (4, 3), (5, 1), (5, 2), (5, 3), (5, 4), (6, 1)]
theorem turns0 : prs0.all (fun p => turnC p.1 p.2) = true := by decide +kernel
abbrev prs1 : List (Int × Int) := [(6, 2), (6, 4), (7, 1), (7, 2), (7, 4), (8, 1), (8, 2), (8, 3), (8, 4), (8, 5), (8, 6)]
theorem turns1 : prs1.all (fun p => turnC p.1 p.2) = true := by decide +kernel
abbrev prs2 : List (Int × Int) := [(8, 7), (9, 5), (9, 7), (10, 1), (10, 2), (10, 6), (11, 5), (11, 10), (12, 4), (12, 8), (13, 3)]
theorem turns2 : prs2.all (fun p => turnC p.1 p.2) = true := by decide +kernel
abbrev prs3 : List (Int × Int) := [(13, 6), (14, 2), (14, 4), (15, 1), (15, 2), (16, 1), (16, 2), (16, 3), (16, 4), (16, 5), (16, 6)]
theorem turns3 : prs3.all (fun p => turnC p.1 p.2) = true := by decide +kernel
abbrev prs4 : List (Int × Int) := [(16, 7), (16, 8), (16, 9), (16, 10), (16, 11), (16, 12), (16, 13), (16, 14), (16, 15), (17, 15), (18, 14)]
theorem turns4 : prs4.all (fun p => turnC p.1 p.2) = true := by decide +kernel
abbrev prs5 : List (Int × Int) := [(19, 13), (20, 12), (21, 11), (22, 10), (23, 9), (24, 8), (25, 7), (26, 6), (27, 5), (28, 4), (29, 3)]
theorem turns5 : prs5.all (fun p => turnC p.1 p.2) = true := by decide +kernel
abbrev prs6 : List (Int × Int) := [(30, 2), (31, 1), (32, 1), (32, 2), (32, 3), (32, 4), (32, 5), (32, 6), (32, 7), (32, 8), (32, 9)]
theorem turns6 : prs6.all (fun p => turnC p.1 p.2) = true := by decide +kernel
abbrev prs7 : List (Int × Int) := [(32, 10), (32, 11), (32, 12), (32, 13), (32, 14), (32, 15), (32, 16), (32, 17), (32, 18), (32, 19), (32, 20)]
theorem turns7 : prs7.all (fun p => turnC p.1 p.2) = true := by decide +kernel
abbrev prs8 : List (Int × Int) := [(32, 21), (32, 22), (32, 23), (32, 24), (32, 25), (32, 26), (32, 27), (32, 28), (32, 29), (32, 30), (32, 31)]
theorem turns8 : prs8.all (fun p => turnC p.1 p.2) = true := by decide +kernel
abbrev prs : List (Int × Int) := prs0 ++ prs1 ++ prs2 ++ prs3 ++ prs4 ++ prs5 ++ prs6 ++ prs7 ++ prs8
theorem turns {sp lp : Int} (h : prs.contains (sp, lp) = true) : TurnOk (plainT sp lp) sp lp := by
  have h1 : prs.all (fun p => turnC p.1 p.2) = true := by
    simp only [prs, List.all_append, turns0, turns1, turns2, turns3, turns4, turns5, turns6, turns7, turns8, Bool.and_self]
  exact turn_of (List.all_eq_true.mp h1 _ (List.contains_iff_mem.mp h))
def chainB : Nat → Int → Int → Nat → Bool
  | 0, _, _, _ => false
  | n + 1, sp, lp, g => if lp < sp then prs.contains (sp, lp) && chainB n lp (rsOf sp lp) g else decide (plainN sp lp = List.replicate g 9)
theorem tabS_tab : ((List.range 40).all fun g => decide ((Txt.mul (Str.ofString "\t") (g : Int)).cps.toList = List.replicate g 9)) = true := by decide +kernel
theorem tabs_is {g : Nat} (h : g < 40) : (Txt.mul (Str.ofString "\t") (g : Int)).cps.toList = List.replicate g 9 :=
  of_decide_eq_true (List.all_eq_true.mp tabS_tab g (List.mem_range.mpr h))
theorem chain_of {g : Nat} (hg : g < 40) : ∀ (n : Nat) (sp lp : Int), chainB n sp lp g = true → Thins (plainT sp lp) sp lp (Txt.mul (Str.ofString "\t") (g : Int))
  | 0, _, _, h => by cases h
  | n + 1, sp, lp, h => by
    unfold chainB at h
    by_cases hl : lp < sp
    · rw [if_pos hl, Bool.and_eq_true] at h
      have ok := turns h.1
      refine Thins.step ok ?_
      rw [ok.e1]
      exact chain_of hg n lp (rsOf sp lp) h.2
    · rw [if_neg hl] at h
      have e : plainT sp lp = Txt.mul (Str.ofString "\t") (g : Int) := by
        rw [str_of (plainT_cps sp lp), of_decide_eq_true h, ← tabs_is hg, strOf_cps]
      rw [← e]
      exact Thins.done hl
def chainsB (sp : Int) (n : Nat) : Bool := (List.range n).all fun l => (decide (Int.gcd sp ((l : Int) + 1) < 40)) && chainB 40 sp ((l : Int) + 1) (Int.gcd sp ((l : Int) + 1))
theorem chains8 : chainsB 8 7 = true := by decide +kernel
theorem chains16 : chainsB 16 15 = true := by decide +kernel
theorem chains32 : chainsB 32 31 = true := by decide +kernel
theorem chains_of {sp : Int} {n : Nat} (hn : sp = (n : Int) + 1) (h : chainsB sp n = true) {lp : Int} (h1 : 1 ≤ lp) (h2 : lp < sp) : Thins (plainT sp lp) sp lp (Txt.mul (Str.ofString "\t") (Int.gcd sp lp : Int)) := by
  have hc := List.all_eq_true.mp h (lp - 1).toNat (List.mem_range.mpr (by omega))
  rw [Int.toNat_of_nonneg (by omega), Bool.and_eq_true, decide_eq_true_eq, show lp - 1 + 1 = lp by omega] at hc
  exact chain_of hc.1 40 sp lp hc.2
theorem thins_plain {sp lp : Int} (hsp : sp = 8 ∨ sp = 16 ∨ sp = 32) (h1 : 1 ≤ lp) (h2 : lp < sp) : Thins (plainT sp lp) sp lp (Txt.mul (Str.ofString "\t") (Int.gcd sp lp : Int)) := by
  rcases hsp with rfl | rfl | rfl
  · exact chains_of (n := 7) rfl chains8 h1 h2
  · exact chains_of (n := 15) rfl chains16 h1 h2
  · exact chains_of (n := 31) rfl chains32 h1 h2
end Mine
end

section
open PySem PySem.W PySem.Spec PySem.Calls PyProof.Rows PySem.SeqAt
namespace Mine
set_option maxRecDepth 100000
section
open PySem.Float64
/-- floats that hold a small number of 2^k-ths: the steps on them are exact -/
def Qf (n k : Nat) : UInt64 := ofFrac false n (2 ^ k)
theorem V_inj {a b : Nat} (h : V a = V b) : a = b := by
  rcases Nat.lt_trichotomy a b with q | q | q
  · exact absurd h (Nat.ne_of_lt (V_lt q))
  · exact q
  · exact absurd h.symm (Nat.ne_of_lt (V_lt q))
theorem V_top : 2 * V (infMag - 1) < (2 ^ 54 - 1) * 2 ^ 2045 := by decide +kernel
theorem exact_t {r : UInt64} {ng : Bool} {W D t0 : Nat} (hr : Right r ng W D) (hD : 0 < D) (ht : t0 < infMag) (e : D * V t0 = W) : r = pack ng t0 := by
  obtain ⟨t, rfl, hle, hov, hn⟩ := hr
  have hlt : t < infMag := by
    rcases Nat.lt_or_ge t infMag with h | h
    · exact h
    · exfalso
      have h1 := hov.mp (by omega)
      have h2 : V t0 ≤ V (infMag - 1) := V_mono (by omega)
      have h3 := V_top
      rw [← e, show 2 * (D * V t0) = D * (2 * V t0) by ac_rfl] at h1
      have h4 := Nat.le_of_mul_le_mul_left h1 hD
      generalize V t0 = z at *
      generalize V (infMag - 1) = y at *
      generalize (2 ^ 54 - 1) * 2 ^ 2045 = u at *
      omega
  have h1 := (hn hlt t0).1
  rw [e] at h1
  unfold dist at h1
  have h2 : D * V t = D * V t0 := by rw [e]; omega
  rw [V_inj (Nat.eq_of_mul_eq_mul_left hD h2)]
theorem rp {l k : Nat} (h : l ≤ 52) (hk : k ≤ 1000) : l + (52 - l) = 52 ∧ l + 1 + (52 - l) = 53 ∧ 1074 - k - (52 - l) ≤ 1074 ∧ 52 - l + (1074 - k - (52 - l) + k) = 1074 := by omega
theorem rp_lt {j q : Nat} (h : j ≤ 1074) (hq : q < 2 ^ 53) : j * 2 ^ 52 + q < infMag := by
  have hi : infMag = 2047 * 2 ^ 52 := rfl
  omega
theorem rep {n k : Nat} (hn : n < 2 ^ 53) (hk : k ≤ 1000) : ∃ t, t < infMag ∧ V t * 2 ^ k = n * 2 ^ 1074 := by
  by_cases h0 : n = 0
  · subst h0
    exact ⟨0, by decide +kernel, by rw [V_zero]; simp⟩
  · have hlo := Nat.log2_self_le h0
    have hhi := Nat.lt_log2_self (n := n)
    have hl : n.log2 ≤ 52 := Nat.le_of_lt_succ (Nat.lt_of_not_le fun h => Nat.lt_irrefl _ (Nat.lt_of_le_of_lt (Nat.le_trans (Nat.pow_le_pow_right (by decide) h) hlo) hn))
    obtain ⟨a1, a2, a3, a4⟩ := rp hl hk
    generalize 52 - n.log2 = s at *
    generalize 1074 - k - s = j at *
    have e1 : 2 ^ n.log2 * 2 ^ s = 2 ^ 52 := by rw [← Nat.pow_add, a1]
    have e2 : 2 ^ (n.log2 + 1) * 2 ^ s = 2 ^ 53 := by rw [← Nat.pow_add, a2]
    have q1 : 2 ^ 52 ≤ n * 2 ^ s := by rw [← e1]; exact Nat.mul_le_mul_right _ hlo
    have q2 : n * 2 ^ s < 2 ^ 53 := by rw [← e2]; exact Nat.mul_lt_mul_of_pos_right hhi (Nat.two_pow_pos _)
    refine ⟨j * 2 ^ 52 + n * 2 ^ s, rp_lt a3 q2, ?_⟩
    rw [V_at (Nat.le_of_lt q2) (.inl q1), Nat.mul_assoc, Nat.mul_assoc, ← Nat.pow_add, ← Nat.pow_add, a4]
theorem Q_is {n k : Nat} (hn : n < 2 ^ 53) (hk : k ≤ 1000) : ∃ t, t < infMag ∧ V t * 2 ^ k = n * 2 ^ 1074 ∧ Qf n k = pack false t := by
  obtain ⟨t, ht, hv⟩ := rep hn hk
  exact ⟨t, ht, hv, exact_t (ofFrac_right (W := n * 2 ^ 1074) (D := 2 ^ k) (Nat.two_pow_pos _) rfl (Nat.two_pow_pos _)) (Nat.two_pow_pos _) ht (by rw [Nat.mul_comm]; exact hv)⟩
theorem Q_right {r : UInt64} {W D n k : Nat} (hr : Right r false W D) (hD : 0 < D) (hn : n < 2 ^ 53) (hk : k ≤ 1000) (e : D * (n * 2 ^ 1074) = W * 2 ^ k) : r = Qf n k := by
  obtain ⟨t, ht, hv, hq⟩ := Q_is hn hk
  rw [hq]
  refine exact_t hr hD ht (Nat.eq_of_mul_eq_mul_right (Nat.two_pow_pos k) ?_)
  rw [← e, ← hv, Nat.mul_assoc]
theorem Q_dec {n k : Nat} (hn : n < 2 ^ 53) (hk : k ≤ 1000) : ∃ m e v, decode (Qf n k) = .fin false m e ∧ val (Qf n k) = ((v : Nat) : Int) ∧ v * 2 ^ k = n * 2 ^ 1074 ∧ m * 2 ^ (e + 1074).toNat = v := by
  obtain ⟨t, ht, hv, hq⟩ := Q_is hn hk
  obtain ⟨m, e, hd, hm⟩ := decode_pack false ht
  rw [hq]
  exact ⟨m, e, V t, hd, by rw [val_pack false ht]; simp [sgn], hv, hm⟩
theorem Q_mul {n k n' k' : Nat} (hn : n < 2 ^ 53) (hk : k ≤ 1000) (hn' : n' < 2 ^ 53) (hk' : k' ≤ 1000) (hm : n * n' < 2 ^ 53) (hkk : k + k' ≤ 1000) : mul (Qf n k) (Qf n' k') = Qf (n * n') (k + k') := by
  obtain ⟨m, e, v, hd, hv, hv2, _⟩ := Q_dec hn hk
  obtain ⟨m', e', v', hd', hv', hv2', _⟩ := Q_dec hn' hk'
  have h := mul_right hd hd'
  rw [hv, hv', Int.natAbs_natCast, Int.natAbs_natCast] at h
  refine Q_right h (Nat.two_pow_pos _) hm hkk ?_
  generalize (2 : Nat) ^ 1074 = K at *
  rw [Nat.pow_add]
  calc K * (n * n' * K) = (n * K) * (n' * K) := by ac_rfl
    _ = (v * 2 ^ k) * (v' * 2 ^ k') := by rw [hv2, hv2']
    _ = v * v' * (2 ^ k * 2 ^ k') := by ac_rfl
theorem Q_zero (k : Nat) : Qf 0 k = zero false := by
  unfold Qf ofFrac roundMag zero
  simp
theorem Q_sub {n k n' : Nat} (hn : n < 2 ^ 53) (hk : k ≤ 1000) (hl : n' ≤ n) : sub (Qf n k) (Qf n' k) = Qf (n - n') k := by
  obtain ⟨m, e, v, hd, hv, hv2, _⟩ := Q_dec hn hk
  obtain ⟨m', e', v', hd', hv', hv2', _⟩ := Q_dec (n := n') (by omega) hk
  have h := sub_right hd hd'
  rw [hv, hv'] at h
  have hle : v' ≤ v := Nat.le_of_mul_le_mul_right (by rw [hv2, hv2']; exact Nat.mul_le_mul_right _ hl) (Nat.two_pow_pos k)
  by_cases h0 : (v : Int) - v' = 0
  · have e1 : v = v' := by omega
    rw [h.1 h0]
    rw [e1, hv2'] at hv2
    have e2 := Nat.eq_of_mul_eq_mul_right (Nat.two_pow_pos 1074) hv2
    rw [e2, Nat.sub_self, Q_zero]
    rfl
  · have h1 := h.2 h0
    have e1 : decide ((v : Int) - v' < 0) = false := by simp; omega
    have e2 : ((v : Int) - v').natAbs = v - v' := by omega
    rw [e1, e2] at h1
    refine Q_right h1 (by decide) (by omega) hk ?_
    rw [Nat.one_mul, Nat.sub_mul, Nat.sub_mul, hv2, hv2']
theorem Q_div {n k n' c j : Nat} (hn : n < 2 ^ 53) (hk : k ≤ 1000) (hn' : n' < 2 ^ 53) (h0 : 0 < n') (hc : c < 2 ^ 53) (hj : j ≤ 1000) (e : n * 2 ^ j = c * n') : div (Qf n k) (Qf n' k) = Qf c j := by
  obtain ⟨m, e1, v, hd, hv, hv2, _⟩ := Q_dec hn hk
  obtain ⟨m', e1', v', hd', hv', hv2', hm'⟩ := Q_dec hn' hk
  have hv0 : 0 < v' := by
    rcases Nat.eq_zero_or_pos v' with h | h
    · rw [h, Nat.zero_mul] at hv2'
      have := Nat.mul_pos h0 (Nat.two_pow_pos 1074)
      omega
    · exact h
  have h := div_right hd hd' (by
    intro h
    rw [h, Nat.zero_mul] at hm'
    omega)
  rw [hv, hv', Int.natAbs_natCast, Int.natAbs_natCast] at h
  refine Q_right h hv0 hc hj (Nat.eq_of_mul_eq_mul_right (Nat.two_pow_pos k) ?_)
  generalize (2 : Nat) ^ 1074 = K at *
  calc v' * (c * K) * 2 ^ k = (v' * 2 ^ k) * c * K := by ac_rfl
    _ = (c * n') * (K * K) := by rw [hv2']; ac_rfl
    _ = (n * K) * (K * 2 ^ j) := by rw [← e]; ac_rfl
    _ = (v * 2 ^ k) * (K * 2 ^ j) := by rw [hv2]
    _ = v * K * 2 ^ j * 2 ^ k := by ac_rfl
theorem Q_val {n k n' : Nat} (hn : n < 2 ^ 53) (hk : k ≤ 1000) (hn' : n' < 2 ^ 53) : ∃ v v' : Nat, cmp (Qf n k) (Qf n' k) = some (compare (v : Int) (v' : Int)) ∧ v * 2 ^ k = n * 2 ^ 1074 ∧ v' * 2 ^ k = n' * 2 ^ 1074 := by
  obtain ⟨m, e1, v, hd, hv, hv2, _⟩ := Q_dec hn hk
  obtain ⟨m', e1', v', hd', hv', hv2', hm'⟩ := Q_dec hn' hk
  exact ⟨v, v', by rw [cmp_right hd hd', hv, hv'], hv2, hv2'⟩
theorem Q_cmp {n k n' : Nat} (hn : n < 2 ^ 53) (hk : k ≤ 1000) (hn' : n' < 2 ^ 53) : cmp (Qf n k) (Qf n' k) = some (compare n n') := by
  obtain ⟨v, v', h, h1, h2⟩ := Q_val hn hk hn'
  rw [h]
  congr 1
  have p1 := Nat.two_pow_pos k
  have p2 := Nat.two_pow_pos 1074
  generalize (2 : Nat) ^ 1074 = K at *
  generalize (2 : Nat) ^ k = J at *
  rcases Nat.lt_trichotomy n n' with q | q | q
  · have hlt : v < v' := Nat.lt_of_mul_lt_mul_right (a := J) (by rw [h1, h2]; exact Nat.mul_lt_mul_of_pos_right q p2)
    rw [Int.compare_eq_lt.mpr (by omega), Nat.compare_eq_lt.mpr q]
  · subst q
    have : v = v' := Nat.eq_of_mul_eq_mul_right p1 (by rw [h1, h2])
    subst this
    rw [Int.compare_eq_eq.mpr rfl, Nat.compare_eq_eq.mpr rfl]
  · have hlt : v' < v := Nat.lt_of_mul_lt_mul_right (a := J) (by rw [h1, h2]; exact Nat.mul_lt_mul_of_pos_right q p2)
    rw [Int.compare_eq_gt.mpr (by omega), Nat.compare_eq_gt.mpr q]
theorem Q_lt {n k n' : Nat} (hn : n < 2 ^ 53) (hk : k ≤ 1000) (hn' : n' < 2 ^ 53) : (cmp (Qf n k) (Qf n' k) == some Ordering.lt) = decide (n < n') := by
  rw [Q_cmp hn hk hn']
  by_cases h : n < n'
  · rw [Nat.compare_eq_lt.mpr h]; simp [h]
  · have : compare n n' ≠ .lt := fun e => h (Nat.compare_eq_lt.mp e)
    simp [h, this]
theorem Q_eq {n k n' : Nat} (hn : n < 2 ^ 53) (hk : k ≤ 1000) (hn' : n' < 2 ^ 53) : (cmp (Qf n k) (Qf n' k) == some Ordering.eq) = decide (n = n') := by
  rw [Q_cmp hn hk hn']
  by_cases h : n = n'
  · rw [Nat.compare_eq_eq.mpr h]; simp [h]
  · have : compare n n' ≠ .eq := fun e => h (Nat.compare_eq_eq.mp e)
    simp [h, this]
theorem Q_isZero {n k : Nat} (hn : n < 2 ^ 53) (hk : k ≤ 1000) (h0 : 0 < n) : isZero (Qf n k) = false := by
  obtain ⟨m, e, v, hd, hv, hv2, hm⟩ := Q_dec hn hk
  unfold isZero
  rw [hd]
  have : m ≠ 0 := by
    intro h
    subst h
    rw [Nat.zero_mul] at hm
    rw [← hm, Nat.zero_mul] at hv2
    have := Nat.mul_pos h0 (Nat.two_pow_pos 1074)
    omega
  cases m with
  | zero => exact absurd rfl this
  | succ m => rfl
theorem Q_fin {n k : Nat} (hn : n < 2 ^ 53) (hk : k ≤ 1000) : isFinite (Qf n k) = true := by
  obtain ⟨m, e, v, hd, hv, hv2, hm⟩ := Q_dec hn hk
  unfold isFinite
  rw [hd]
theorem Q_up {n k : Nat} (j : Nat) (hn : n * 2 ^ j < 2 ^ 53) (hk : k + j ≤ 1000) : Qf n k = Qf (n * 2 ^ j) (k + j) := by
  refine Q_right (ofFrac_right (W := n * 2 ^ 1074) (D := 2 ^ k) (Nat.two_pow_pos _) rfl (Nat.two_pow_pos _)) (Nat.two_pow_pos _) hn hk ?_
  generalize (2 : Nat) ^ 1074 = K at *
  rw [Nat.pow_add]
  ac_rfl
theorem Q_int {n k : Nat} (hn : n < 2 ^ 53) (hk : k ≤ 1000) : Flt.toInt truncOf (Qf n k) = ((n / 2 ^ k : Nat) : Int) := by
  obtain ⟨m, e, v, hd, hv, hv2, hm⟩ := Q_dec hn hk
  have he := decode_ge hd
  unfold Flt.toInt
  rw [hd]
  show truncOf false m e = _
  unfold truncOf
  rw [if_neg (by decide)]
  unfold floorOf
  have hs : sgn false m = (m : Int) := rfl
  rw [hs]
  rw [← hm] at hv2
  have p2 := Nat.two_pow_pos 1074
  by_cases h : e ≥ 0
  · rw [if_pos h]
    have e1 : (e + 1074).toNat = e.toNat + 1074 := by omega
    rw [e1, Nat.pow_add] at hv2
    have hv3 : n = m * 2 ^ e.toNat * 2 ^ k := by
      refine Nat.eq_of_mul_eq_mul_right p2 ?_
      rw [← hv2]; ac_rfl
    rw [hv3, Nat.mul_div_cancel _ (Nat.two_pow_pos k)]
    simp
  · rw [if_neg h]
    have e1 : 1074 = (e + 1074).toNat + (-e).toNat := by omega
    have hv3 : m * 2 ^ k = n * 2 ^ (-e).toNat := by
      refine Nat.eq_of_mul_eq_mul_right (Nat.two_pow_pos (e + 1074).toNat) ?_
      have e2 : (2 : Nat) ^ 1074 = 2 ^ (e + 1074).toNat * 2 ^ (-e).toNat := by rw [← Nat.pow_add, ← e1]
      rw [e2] at hv2
      calc m * 2 ^ k * 2 ^ (e + 1074).toNat = m * 2 ^ (e + 1074).toNat * 2 ^ k := by ac_rfl
        _ = n * (2 ^ (e + 1074).toNat * 2 ^ (-e).toNat) := hv2
        _ = n * 2 ^ (-e).toNat * 2 ^ (e + 1074).toNat := by ac_rfl
    have e3 : ((2 : Int) ^ (-e).toNat) = ((2 ^ (-e).toNat : Nat) : Int) := by simp
    rw [e3, Int.fdiv_eq_ediv_of_nonneg _ (Int.natCast_nonneg _), ← Int.natCast_ediv]
    congr 1
    rw [← Nat.mul_div_mul_right m (2 ^ (-e).toNat) (Nat.two_pow_pos k), hv3, Nat.mul_comm (2 ^ (-e).toNat) (2 ^ k), Nat.mul_div_mul_right _ _ (Nat.two_pow_pos _)]
theorem Q_ofInt (n : Nat) : ofInt (n : Int) = Qf n 0 := by
  unfold ofInt Qf
  have e1 : decide ((n : Int) < 0) = false := by simp
  rw [e1, Int.natAbs_natCast]
end
end Mine
end

section
open PySem PySem.W PySem.Spec PySem.Calls PyProof.Rows PySem.SeqAt
namespace Mine
set_option maxRecDepth 100000
section
open PySem.Float64
theorem c6 : (4618441417868443648 : UInt64) = Qf 6 0 := by decide +kernel
theorem c1_3 : (4607182418800017408 : UInt64) = Qf 8 3 := by decide +kernel
theorem c1_4 : (4607182418800017408 : UInt64) = Qf 16 4 := by decide +kernel
theorem c1_7 : (4607182418800017408 : UInt64) = Qf 128 7 := by decide +kernel
theorem c0_3 : (0 : UInt64) = Qf 0 3 := by decide +kernel
theorem small {n : Nat} (h : n < 1000000) : n < 2 ^ 53 := by omega
theorem Q_max {A B C k : Nat} (hA : A < 1000000) (hB : B < 1000000) (hC : C < 1000000) (hk : k ≤ 1000) : max3F (Qf A k) (Qf B k) (Qf C k) = Qf (max (max A B) C) k := by
  unfold max3F
  simp only []
  have e1 : (if (cmp (Qf A k) (Qf B k) == some Ordering.lt) = true then Qf B k else Qf A k) = Qf (max A B) k := by
    rw [Q_lt (small hA) hk (small hB)]
    by_cases h : A < B
    · rw [if_pos (by simpa using h), Nat.max_eq_right (by omega)]
    · rw [if_neg (by simpa using h), Nat.max_eq_left (by omega)]
  rw [e1, Q_lt (small (by omega)) hk (small hC)]
  by_cases h : max A B < C
  · rw [if_pos (by simpa using h), Nat.max_eq_right (a := max A B) (b := C) (by omega)]
  · rw [if_neg (by simpa using h), Nat.max_eq_left (a := max A B) (b := C) (by omega)]
theorem Q_min {A B C k : Nat} (hA : A < 1000000) (hB : B < 1000000) (hC : C < 1000000) (hk : k ≤ 1000) : min3F (Qf A k) (Qf B k) (Qf C k) = Qf (min (min A B) C) k := by
  unfold min3F
  simp only []
  have e1 : (if (cmp (Qf B k) (Qf A k) == some Ordering.lt) = true then Qf B k else Qf A k) = Qf (min A B) k := by
    rw [Q_lt (small hB) hk (small hA)]
    by_cases h : B < A
    · rw [if_pos (by simpa using h), Nat.min_eq_right (by omega)]
    · rw [if_neg (by simpa using h), Nat.min_eq_left (by omega)]
  rw [e1, Q_lt (small hC) hk (small (by omega))]
  by_cases h : C < min A B
  · rw [if_pos (by simpa using h), Nat.min_eq_right (a := min A B) (b := C) (by omega)]
  · rw [if_neg (by simpa using h), Nat.min_eq_left (a := min A B) (b := C) (by omega)]
theorem max3 {A B C X : Nat} (h1 : A ≤ X) (h2 : B ≤ X) (h3 : C ≤ X) (h : A = X ∨ B = X ∨ C = X) : max (max A B) C = X := by omega
theorem min3 {A B C M : Nat} (h1 : M ≤ A) (h2 : M ≤ B) (h3 : M ≤ C) (h : A = M ∨ B = M ∨ C = M) : min (min A B) C = M := by omega
theorem thr {n : Nat} (h : n < 1000) : n < 2 ^ 53 := by omega
theorem lt_le {a b c : Nat} (h : a ≤ b) (h2 : b < c) : a < c := Nat.lt_of_le_of_lt h h2
theorem rgbF_Q {R G B X M D a cr cg cb : Nat} (hX1 : X < 1000000) (hR : R ≤ X) (hG : G ≤ X) (hB : B ≤ X) (hMX : M ≤ X) (hMne : M ≠ X) (hX : max (max R G) B = X) (hM : min (min R G) B = M) (hD : X - M = D) (hD1 : D ≤ X) (hD0 : 0 < D) (hX0 : 0 < X) (ha : a < 1000) (hs : D * 8 = a * X)
    (cr0 : cr < 1000) (cg0 : cg < 1000) (cb0 : cb < 1000) (hr : (X - R) * 16 = cr * D) (hg : (X - G) * 16 = cg * D) (hb : (X - B) * 16 = cb * D) :
    rgbF (Qf R 10) (Qf G 10) (Qf B 10) = (if R = X then rgbH (sub (Qf cb 4) (Qf cg 4)) else if G = X then rgbH (sub (add 4611686018427387904 (Qf cr 4)) (Qf cb 4)) else rgbH (sub (add 4616189618054758400 (Qf cg 4)) (Qf cr 4)), Qf a 3, Qf X 10) := by
  unfold rgbF
  simp only []
  have bX := small hX1
  have bD := small (lt_le hD1 hX1)
  rw [Q_max (lt_le hR hX1) (lt_le hG hX1) (lt_le hB hX1) (by decide), Q_min (lt_le hR hX1) (lt_le hG hX1) (lt_le hB hX1) (by decide), hX, hM]
  rw [Q_eq (small (lt_le hMX hX1)) (by decide) bX, if_neg (by rw [decide_eq_false hMne]; decide)]
  rw [Q_sub bX (by decide) hMX, hD]
  rw [Q_sub bX (by decide) hR, Q_sub bX (by decide) hG, Q_sub bX (by decide) hB]
  rw [Q_div (c := a) (j := 3) bD (by decide) bX hX0 (thr ha) (by decide) hs]
  rw [Q_div (c := cr) (j := 4) (small (lt_le (Nat.sub_le _ _) hX1)) (by decide) bD hD0 (thr cr0) (by decide) hr]
  rw [Q_div (c := cg) (j := 4) (small (lt_le (Nat.sub_le _ _) hX1)) (by decide) bD hD0 (thr cg0) (by decide) hg]
  rw [Q_div (c := cb) (j := 4) (small (lt_le (Nat.sub_le _ _) hX1)) (by decide) bD hD0 (thr cb0) (by decide) hb]
  rw [Q_eq (small (lt_le hR hX1)) (by decide) bX, Q_eq (small (lt_le hG hX1)) (by decide) bX]
  by_cases h1 : R = X
  · rw [if_pos (decide_eq_true h1), if_pos h1]
  · rw [if_neg (by rw [decide_eq_false h1]; decide), if_neg h1]
    by_cases h2 : G = X
    · rw [if_pos (decide_eq_true h2), if_pos h2]
    · rw [if_neg (by rw [decide_eq_false h2]; decide), if_neg h2]
theorem rgbOk_Q {R G B X M D : Nat} (hX1 : X < 1000000) (hR : R ≤ X) (hG : G ≤ X) (hB : B ≤ X) (hMX : M ≤ X) (hX : max (max R G) B = X) (hM : min (min R G) B = M) (hD : X - M = D) (hD1 : D ≤ X) (hD0 : 0 < D) (hX0 : 0 < X) : RgbOk (Qf R 10, Qf G 10, Qf B 10) := by
  intro _
  simp only []
  rw [Q_max (lt_le hR hX1) (lt_le hG hX1) (lt_le hB hX1) (by decide), Q_min (lt_le hR hX1) (lt_le hG hX1) (lt_le hB hX1) (by decide), hX, hM, Q_sub (small hX1) (by decide) hMX, hD, Q_isZero (small hX1) (by decide) hX0, Q_isZero (small (lt_le hD1 hX1)) (by decide) hD0]
  simp
theorem core_of {R G B V w a cr cg cb : Nat} (V0 : V < 2000) (w0 : 0 < w) (wV : w ≤ V) (ha : a < 1000) (s : w * 8 = a * V) (hR : R ≤ V) (hG : G ≤ V) (hB : B ≤ V) (hx : R = V ∨ G = V ∨ B = V)
    (mR : V - w ≤ R) (mG : V - w ≤ G) (mB : V - w ≤ B) (hm : R = V - w ∨ G = V - w ∨ B = V - w) (cr0 : cr < 1000) (cg0 : cg < 1000) (cb0 : cb < 1000) (hr : (V - R) * 16 = cr * w) (hg : (V - G) * 16 = cg * w) (hb : (V - B) * 16 = cb * w) :
    RgbOk (Qf R 10, Qf G 10, Qf B 10) ∧ rgbF (Qf R 10) (Qf G 10) (Qf B 10) = (if R = V then rgbH (sub (Qf cb 4) (Qf cg 4)) else if G = V then rgbH (sub (add 4611686018427387904 (Qf cr 4)) (Qf cb 4)) else rgbH (sub (add 4616189618054758400 (Qf cg 4)) (Qf cr 4)), Qf a 3, Qf V 10) := by
  have hX := max3 hR hG hB hx
  have hM := min3 mR mG mB hm
  have V1 : V < 1000000 := Nat.lt_trans V0 (by decide)
  have hD : V - (V - w) = w := Nat.sub_sub_self wV
  have hV0 : 0 < V := Nat.lt_of_lt_of_le w0 wV
  exact ⟨rgbOk_Q V1 hR hG hB (Nat.sub_le _ _) hX hM hD wV w0 hV0, rgbF_Q V1 hR hG hB (Nat.sub_le _ _) (Nat.ne_of_lt (Nat.sub_lt hV0 w0)) hX hM hD wV w0 hV0 ha s cr0 cg0 cb0 hr hg hb⟩
/-- the hues that come back, by the wheel's 32 spots -/
def hueT (r : Nat) : Bool :=
  let c := 3 * r % 16
  match 3 * r / 16 with
  | 0 => rgbH (sub (Qf 16 4) (Qf (16 - c) 4)) == Qf r 5
  | 1 => rgbH (sub (add 4611686018427387904 (Qf c 4)) (Qf 16 4)) == Qf r 5
  | 2 => rgbH (sub (add 4611686018427387904 (Qf 16 4)) (Qf (16 - c) 4)) == Qf r 5
  | 3 => if c = 0 then rgbH (sub (add 4611686018427387904 (Qf 16 4)) (Qf 0 4)) == Qf r 5 else rgbH (sub (add 4616189618054758400 (Qf c 4)) (Qf 16 4)) == Qf r 5
  | 4 => rgbH (sub (add 4616189618054758400 (Qf 16 4)) (Qf (16 - c) 4)) == Qf r 5
  | _ => rgbH (sub (Qf c 4) (Qf 16 4)) == Qf r 5
theorem hue_tab : (List.range 32).all hueT = true := by decide +kernel
theorem hue_p {a b : Nat} (a8 : a ≤ 8) (b8 : b ≤ 8) : mul (Qf b 3) (sub 4607182418800017408 (Qf a 3)) = Qf (128 * b - 16 * (b * a)) 10 := by
  have hm : b * (8 - a) ≤ 8 * 8 := Nat.mul_le_mul b8 (by omega)
  rw [c1_3, Q_sub (by decide) (by decide) a8, Q_mul (small (by omega)) (by decide) (small (by omega)) (by decide) (small (by omega)) (by decide), Q_up 4 (by omega) (by decide)]
  congr 1
  rw [Nat.mul_sub]
  omega
theorem hue_q {a b c : Nat} (a8 : a ≤ 8) (b8 : b ≤ 8) (c16 : c ≤ 16) : mul (Qf b 3) (sub 4607182418800017408 (mul (Qf a 3) (Qf c 4))) = Qf (128 * b - b * (a * c)) 10 := by
  have hm : a * c ≤ 128 := Nat.mul_le_mul a8 c16
  have hm2 : b * (128 - a * c) ≤ 8 * 128 := Nat.mul_le_mul b8 (by omega)
  rw [c1_7, Q_mul (small (by omega)) (by decide) (small (by omega)) (by decide) (small (by omega)) (by decide), Q_sub (by decide) (by decide) hm, Q_mul (small (by omega)) (by decide) (small (by omega)) (by decide) (small (by omega)) (by decide)]
  congr 1
  rw [Nat.mul_sub]
  omega
theorem hue_t {a b c : Nat} (a8 : a ≤ 8) (b8 : b ≤ 8) (c16 : c ≤ 16) : mul (Qf b 3) (sub 4607182418800017408 (mul (Qf a 3) (sub 4607182418800017408 (Qf c 4)))) = Qf (128 * b - b * (a * (16 - c))) 10 := by
  have e : sub 4607182418800017408 (Qf c 4) = Qf (16 - c) 4 := by rw [c1_4, Q_sub (by decide) (by decide) c16]
  rw [e]
  exact hue_q a8 b8 (by omega)
theorem hue_v {b : Nat} (b8 : b ≤ 8) : Qf b 3 = Qf (128 * b) 10 := by
  rw [Q_up 7 (by omega) (by decide)]
  congr 1
  omega
structure Six (b a c V w x y : Nat) : Prop where
  w0 : 0 < w
  wV : w ≤ V
  V0 : V < 2000
  wx : w = x + y
  y0 : 0 < y
  x0 : 0 < c → 0 < x
  xc : c = 0 → x = 0
  s : w * 8 = a * V
  qx : x * 16 = c * w
  ty : y * 16 = (16 - c) * w
theorem six {a b c : Nat} (a1 : 1 ≤ a) (a8 : a ≤ 8) (b1 : 1 ≤ b) (b8 : b ≤ 8) (c16 : c < 16) : Six b a c (128 * b) (16 * (b * a)) (b * (a * c)) (b * (a * (16 - c))) := by
  have hab : 0 < b * a := Nat.mul_pos b1 a1
  have hab8 : b * a ≤ b * 8 := Nat.mul_le_mul_left b a8
  refine ⟨by omega, by omega, by omega, ?_, Nat.mul_pos b1 (Nat.mul_pos a1 (by omega)), fun h => Nat.mul_pos b1 (Nat.mul_pos a1 h), fun h => by simp [h], ?_, ?_, ?_⟩
  · rw [← Nat.mul_add, ← Nat.mul_add, Nat.add_sub_cancel' (by omega), show b * (a * 16) = b * a * 16 by ac_rfl]
    omega
  · rw [show a * (128 * b) = 128 * (b * a) by ac_rfl]
    omega
  · ac_rfl
  · ac_rfl
theorem n1 {a : Nat} (h : a ≤ 8) : a < 1000 := by omega
theorem n2 {c : Nat} (h : c < 16) : c < 1000 ∧ 16 - c < 1000 := by omega
theorem n3 {w x y : Nat} (h : w = x + y) : x ≤ w ∧ y ≤ w := by omega
theorem n4 {V z : Nat} (h0 : 0 < z) (h : z ≤ V) : ¬ V - z = V := by omega
theorem n5 {i : Nat} (h : i < 6) : i = 0 ∨ i = 1 ∨ i = 2 ∨ i = 3 ∨ i = 4 ∨ i = 5 := by omega
theorem n6 {r c : Nat} (h : 3 * r = 16 * 1 + c) : 0 < c := by omega
theorem core {r a b : Nat} (hr : r < 32) (a1 : 1 ≤ a) (a8 : a ≤ 8) (b1 : 1 ≤ b) (b8 : b ≤ 8) : ∃ R G B : Nat, hsvT ((3 * r / 16 : Nat) : Int) (Qf (3 * r % 16) 4) (Qf a 3) (Qf b 3) = (Qf R 10, Qf G 10, Qf B 10) ∧ RgbOk (Qf R 10, Qf G 10, Qf B 10) ∧ rgbF (Qf R 10) (Qf G 10) (Qf B 10) = (Qf r 5, Qf a 3, Qf b 3) := by
  have ht := List.all_eq_true.mp hue_tab r (List.mem_range.mpr hr)
  unfold hueT at ht
  simp only [] at ht
  have hc : 3 * r % 16 < 16 := Nat.mod_lt _ (by decide)
  have hi : 3 * r / 16 < 6 := by omega
  have hic : 3 * r = 16 * (3 * r / 16) + 3 * r % 16 := by omega
  generalize 3 * r % 16 = c at *
  generalize 3 * r / 16 = i at *
  have S := six (a := a) (b := b) (c := c) a1 a8 b1 b8 hc
  unfold hsvT
  simp only []
  rw [hue_p a8 b8, hue_q a8 b8 (by omega), hue_t a8 b8 (by omega), hue_v b8]
  generalize 128 * b = V at *
  generalize 16 * (b * a) = w at *
  generalize b * (a * c) = x at *
  generalize b * (a * (16 - c)) = y at *
  obtain ⟨w0, wV, V0, wx, y0, x0, xc, s, qx, ty⟩ := S
  have ha := n1 a8
  have kc := (n2 hc).1
  have kd := (n2 hc).2
  have hxw := (n3 wx).1
  have hyw := (n3 wx).2
  have z0 : (V - V) * 16 = 0 * w := by simp
  have zw : (V - (V - w)) * 16 = 16 * w := by rw [Nat.sub_sub_self wV, Nat.mul_comm]
  have zx : (V - (V - x)) * 16 = c * w := by rw [Nat.sub_sub_self (Nat.le_trans hxw wV)]; exact qx
  have zy : (V - (V - y)) * 16 = (16 - c) * w := by rw [Nat.sub_sub_self (Nat.le_trans hyw wV)]; exact ty
  have nw := n4 w0 wV
  have ny := n4 y0 (Nat.le_trans hyw wV)
  have nx : 0 < c → ¬ V - x = V := fun h => n4 (x0 h) (Nat.le_trans hxw wV)
  have hi6 := n5 hi
  rcases hi6 with rfl | rfl | rfl | rfl | rfl | rfl
  · have K := core_of (R := V) (G := V - y) (B := V - w) (a := a) (cr := 0) (cg := 16 - c) (cb := 16) V0 w0 wV ha s (Nat.le_refl _) (Nat.sub_le _ _) (Nat.sub_le _ _) (.inl rfl) (Nat.sub_le _ _) (Nat.sub_le_sub_left hyw _) (Nat.le_refl _) (.inr (.inr rfl)) (by decide) kd (by decide) z0 zy zw
    refine ⟨V, V - y, V - w, rfl, K.1, K.2.trans ?_⟩
    rw [if_pos rfl, eq_of_beq ht]
  · have K := core_of (R := V - x) (G := V) (B := V - w) (a := a) (cr := c) (cg := 0) (cb := 16) V0 w0 wV ha s (Nat.sub_le _ _) (Nat.le_refl _) (Nat.sub_le _ _) (.inr (.inl rfl)) (Nat.sub_le_sub_left hxw _) (Nat.sub_le _ _) (Nat.le_refl _) (.inr (.inr rfl)) kc (by decide) (by decide) zx z0 zw
    refine ⟨V - x, V, V - w, rfl, K.1, K.2.trans ?_⟩
    rw [if_neg (nx (n6 hic)), if_pos rfl, eq_of_beq ht]
  · have K := core_of (R := V - w) (G := V) (B := V - y) (a := a) (cr := 16) (cg := 0) (cb := 16 - c) V0 w0 wV ha s (Nat.sub_le _ _) (Nat.le_refl _) (Nat.sub_le _ _) (.inr (.inl rfl)) (Nat.le_refl _) (Nat.sub_le _ _) (Nat.sub_le_sub_left hyw _) (.inl rfl) (by decide) (by decide) kd zw z0 zy
    refine ⟨V - w, V, V - y, rfl, K.1, K.2.trans ?_⟩
    rw [if_neg nw, if_pos rfl, eq_of_beq ht]
  · have K := core_of (R := V - w) (G := V - x) (B := V) (a := a) (cr := 16) (cg := c) (cb := 0) V0 w0 wV ha s (Nat.sub_le _ _) (Nat.sub_le _ _) (Nat.le_refl _) (.inr (.inr rfl)) (Nat.le_refl _) (Nat.sub_le_sub_left hxw _) (Nat.sub_le _ _) (.inl rfl) (by decide) kc (by decide) zw zx z0
    refine ⟨V - w, V - x, V, rfl, K.1, K.2.trans ?_⟩
    rw [if_neg nw]
    by_cases h0 : c = 0
    · have e0 := xc h0
      subst h0
      subst e0
      rw [if_pos rfl] at ht
      rw [if_pos (Nat.sub_zero _), eq_of_beq ht]
    · rw [if_neg h0] at ht
      rw [if_neg (nx (Nat.pos_of_ne_zero h0)), eq_of_beq ht]
  · have K := core_of (R := V - y) (G := V - w) (B := V) (a := a) (cr := 16 - c) (cg := 16) (cb := 0) V0 w0 wV ha s (Nat.sub_le _ _) (Nat.sub_le _ _) (Nat.le_refl _) (.inr (.inr rfl)) (Nat.sub_le_sub_left hyw _) (Nat.le_refl _) (Nat.sub_le _ _) (.inr (.inl rfl)) kd (by decide) (by decide) zy zw z0
    refine ⟨V - y, V - w, V, rfl, K.1, K.2.trans ?_⟩
    rw [if_neg ny, if_neg nw, eq_of_beq ht]
  · have K := core_of (R := V) (G := V - w) (B := V - x) (a := a) (cr := 0) (cg := 16) (cb := c) V0 w0 wV ha s (Nat.le_refl _) (Nat.sub_le _ _) (Nat.sub_le _ _) (.inl rfl) (Nat.sub_le _ _) (Nat.le_refl _) (Nat.sub_le_sub_left hxw _) (.inr (.inl rfl)) (by decide) (by decide) kc z0 zw zx
    refine ⟨V, V - w, V - x, rfl, K.1, K.2.trans ?_⟩
    rw [if_pos rfl, eq_of_beq ht]
/-- hues beyond a whole turn -/
theorem hue_mul {N : Nat} (h : N < 100000) : mul (Qf N 5) 4618441417868443648 = Qf (N * 6) 5 := by
  rw [c6, Q_mul (small (by omega)) (by decide) (by decide) (by decide) (small (by omega)) (by decide)]
theorem hue_int {N : Nat} (h : N < 100000) : hsvI (Qf N 5) = ((N * 6 / 32 : Nat) : Int) := by
  unfold hsvI
  rw [hue_mul h, Q_int (small (by omega)) (by decide)]
theorem hue_rest {N : Nat} (h : N < 100000) : hsvE (Qf N 5) = Qf (3 * (N % 32) % 16) 4 := by
  unfold hsvE
  rw [hue_int h, hue_mul h, Q_ofInt, Q_up (n := N * 6 / 32) (k := 0) 5 (by omega) (by decide), Q_sub (small (by omega)) (by decide) (by omega), Q_up (n := 3 * (N % 32) % 16) (k := 4) 1 (by omega) (by decide)]
  congr 1
  omega
theorem hue_six {N : Nat} (h : N < 100000) : (hsvI (Qf N 5)).fmod 6 = ((3 * (N % 32) / 16 : Nat) : Int) := by
  rw [hue_int h, Int.fmod_eq_emod_of_nonneg _ (by decide)]
  have e : N * 6 / 32 = 6 * (N / 32) + 3 * (N % 32) / 16 := by omega
  rw [e]
  omega
theorem hsv_Q {N a b : Nat} (h : N < 100000) (a1 : 1 ≤ a) (a8 : a ≤ 8) : hsvF (Qf N 5) (Qf a 3) (Qf b 3) = hsvT ((3 * (N % 32) / 16 : Nat) : Int) (Qf (3 * (N % 32) % 16) 4) (Qf a 3) (Qf b 3) := by
  unfold hsvF
  rw [c0_3, Q_eq (small (by omega)) (by decide) (by decide), if_neg (by simp; omega), hue_six h, hue_rest h]
theorem fq_pow (k j : Nat) (y : Int) (hy0 : 0 ≤ y) (hy1 : y < 10000) (hj : j ≤ 5) (hk : k ≤ 5) : fq y ((2 ^ k : Nat) : Int) = Qf (y.toNat * 2 ^ j) (k + j) := by
  have h5 : (2 : Nat) ^ j ≤ 2 ^ 5 := Nat.pow_le_pow_right (by decide) hj
  have h6 : y.toNat * 2 ^ j ≤ 10000 * 2 ^ 5 := Nat.mul_le_mul (by omega) h5
  have e : fq y ((2 ^ k : Nat) : Int) = Qf y.toNat k := by
    unfold fq Qf
    have e1 : decide (y < 0) = false := decide_eq_false (Int.not_lt.mpr hy0)
    have e2 : decide (((2 ^ k : Nat) : Int) < 0) = false := decide_eq_false (Int.not_lt.mpr (Int.natCast_nonneg _))
    rw [e1, e2, Int.natAbs_natCast, show y.natAbs = y.toNat from (Int.toNat_of_nonneg hy0 ▸ rfl)]
    rfl
  rw [e, Q_up j (Nat.lt_of_le_of_lt h6 (by decide)) (Nat.le_trans (Nat.add_le_add hk hj) (by decide))]
theorem spot_lt {z : Int} {m : Nat} (h1 : z < 10000) (hm : m ≤ 4) : z.toNat * m < 40001 := by
  have : z.toNat * m ≤ 10000 * 4 := Nat.mul_le_mul (by omega) hm
  omega
theorem spot_lo {z sp : Int} (hp : 0 < sp) : 0 ≤ z.fmod sp := Int.fmod_nonneg_of_pos z hp
theorem spot_hi {z sp : Int} (hp : 0 < sp) (h : sp ≤ 32) : z.fmod sp < 10000 := Int.lt_trans (Int.fmod_lt_of_pos z hp) (by omega)
theorem spot8 {z : Int} (h : 0 ≤ z) : (z.fmod 8).toNat * 2 ^ 2 = z.toNat * 2 ^ 2 % 32 := by
  rw [Int.fmod_eq_emod_of_nonneg _ (by decide)]; omega
theorem spot16 {z : Int} (h : 0 ≤ z) : (z.fmod 16).toNat * 2 ^ 1 = z.toNat * 2 ^ 1 % 32 := by
  rw [Int.fmod_eq_emod_of_nonneg _ (by decide)]; omega
theorem spot32 {z : Int} (h : 0 ≤ z) : (z.fmod 32).toNat * 2 ^ 0 = z.toNat * 2 ^ 0 % 32 := by
  rw [Int.fmod_eq_emod_of_nonneg _ (by decide)]; omega
theorem fq_spot {sp z : Int} (hsp : sp = 8 ∨ sp = 16 ∨ sp = 32) (h0 : 0 ≤ z) (h1 : z < 10000) : ∃ N, N < 40001 ∧ fq z sp = Qf N 5 ∧ fq (z.fmod sp) sp = Qf (N % 32) 5 := by
  rcases hsp with rfl | rfl | rfl
  · exact ⟨z.toNat * 2 ^ 2, spot_lt h1 (by decide), fq_pow 3 2 z h0 h1 (by decide) (by decide), (fq_pow 3 2 (z.fmod 8) (spot_lo (by decide)) (spot_hi (by decide) (by decide)) (by decide) (by decide)).trans (by rw [spot8 h0])⟩
  · exact ⟨z.toNat * 2 ^ 1, spot_lt h1 (by decide), fq_pow 4 1 z h0 h1 (by decide) (by decide), (fq_pow 4 1 (z.fmod 16) (spot_lo (by decide)) (spot_hi (by decide) (by decide)) (by decide) (by decide)).trans (by rw [spot16 h0])⟩
  · exact ⟨z.toNat * 2 ^ 0, spot_lt h1 (by decide), fq_pow 5 0 z h0 h1 (by decide) (by decide), (fq_pow 5 0 (z.fmod 32) (spot_lo (by decide)) (spot_hi (by decide) (by decide)) (by decide) (by decide)).trans (by rw [spot32 h0])⟩
theorem fq_eight {a : Int} (h0 : 0 ≤ a) : fq a 8 = Qf a.toNat 3 := by
  unfold fq Qf
  have e1 : decide (a < 0) = false := by simp; omega
  rw [e1, show a.natAbs = a.toNat by omega]
  rfl
theorem selfEq_Q {n k : Nat} (h : n < 1000000) (hk : k ≤ 1000) : selfEq (Qf n k) = true := by
  unfold selfEq
  rw [Q_eq (small h) hk (small h)]
  simp
end
section
variable {sp lp st sh lv r9 : Int}
theorem tn0 {a : Int} (h : 1 ≤ a) : 0 ≤ a := by omega
theorem tn1 {a : Int} (h : 1 ≤ a) : 1 ≤ a.toNat := by omega
theorem tn8 {a : Int} (h : a ≤ 8) : a.toNat ≤ 8 := by omega
theorem tnm {a : Int} (h : a ≤ 8) : a.toNat < 1000000 := by omega
theorem nN {N : Nat} (h : N < 40001) : N < 100000 := by omega
theorem nM {N : Nat} : N % 32 < 1000000 := by omega
theorem nI {N : Nat} (h : N < 40001) : 0 ≤ ((N * 6 / 32 : Nat) : Int) ∧ ((N * 6 / 32 : Nat) : Int) < 10000 := by omega
theorem n6s {N : Nat} (h : N < 40001) : N * 6 < 1000000 := by omega
theorem hue_bd {sp lp st : Int} {i : Nat} (hsp : sp = 8 ∨ sp = 16 ∨ sp = 32) (h1 : 1 ≤ lp) (h2 : lp < sp) (h3 : 0 ≤ st) (h4 : st < sp) (hi : i < (sp + 1 - 0).toNat) : 0 ≤ st + (0 + (i : Int)) * lp ∧ st + (0 + (i : Int)) * lp < 10000 := by
  have hil : 0 ≤ (i : Int) * lp := Int.mul_nonneg (by omega) (by omega)
  have hil2 : (i : Int) * lp ≤ 32 * 32 := Int.mul_le_mul (by omega) (by omega) (by omega) (by omega)
  rw [Int.zero_add]; omega
theorem p_hue (hsp : sp = 8 ∨ sp = 16 ∨ sp = 32) (h1 : 1 ≤ lp) (h2 : lp < sp) (h3 : 0 ≤ st) (h4 : st < sp) (h5 : 1 ≤ sh) (h6 : sh ≤ 8) (h7 : 1 ≤ lv) (h8 : lv ≤ 8) : ∀ i : Nat, i < (sp + 1 - 0).toNat → HueOk sp lp st sh lv i := by
  intro i hi
  have b0 := hue_bd hsp h1 h2 h3 h4 hi
  obtain ⟨N, hN, e1, e2⟩ := fq_spot hsp b0.1 b0.2
  obtain ⟨R, G, B, c1, c2, c3⟩ := core (r := N % 32) (a := sh.toNat) (b := lv.toNat) (Nat.mod_lt _ (by decide)) (tn1 h5) (tn8 h6) (tn1 h7) (tn8 h8)
  have hv : rgbv sp lp st sh lv i = (Qf R 10, Qf G 10, Qf B 10) := by
    unfold rgbv
    rw [e1, fq_eight (tn0 h5), fq_eight (tn0 h7), hsv_Q (nN hN) (tn1 h5) (tn8 h6), c1]
  refine ⟨b0, ?_, ?_, ?_, ?_, ?_⟩
  · rw [e1, hue_mul (nN hN)]; exact Q_fin (small (n6s hN)) (by decide)
  · rw [e1, hue_int (nN hN)]; exact nI hN
  · rw [hv]; exact c2
  · unfold backF
    rw [hv, c3, e2, fq_eight (a := sh) (tn0 h5), fq_eight (a := lv) (tn0 h7)]
  · rw [e2, fq_eight (a := sh) (tn0 h5), fq_eight (a := lv) (tn0 h7)]
    unfold selfEq3
    rw [selfEq_Q nM (by decide), selfEq_Q (tnm h6) (by decide), selfEq_Q (tnm h8) (by decide)]
    rfl
theorem p_fin (hsp : sp = 8 ∨ sp = 16 ∨ sp = 32) (h1 : 1 ≤ lp) (h2 : lp < sp) : Float64.isFinite (Float64.mul (fq lp sp) 4618441417868443648) = true := by
  obtain ⟨N, hN, e1, _⟩ := fq_spot (z := lp) hsp (by omega) (by omega)
  rw [e1, hue_mul (by omega)]; exact Q_fin (small (by omega)) (by decide)
theorem p_int (hsp : sp = 8 ∨ sp = 16 ∨ sp = 32) (h1 : 1 ≤ lp) (h2 : lp < sp) : 0 ≤ hsvI (fq lp sp) ∧ hsvI (fq lp sp) < 10000 := by
  have e := (p_hue (lp := lp) (st := 0) (sh := 1) (lv := 1) hsp h1 h2 (by omega) (by omega) (by omega) (by omega) (by omega) (by omega) 1 (by omega)).int
  rw [show (0 : Int) + (0 + ((1 : Nat) : Int)) * lp = lp by omega] at e
  exact e
theorem p_grey (hsp : sp = 8 ∨ sp = 16 ∨ sp = 32) (h1 : 1 ≤ lp) (h2 : lp < sp) (h3 : 0 ≤ r9) (h4 : r9 < 9) : hsvF (fq lp sp) 0 (fq r9 8) = (fq r9 8, fq r9 8, fq r9 8) := by
  unfold hsvF
  rw [if_pos (by decide +kernel)]
theorem p_self (h3 : 0 ≤ r9) (h4 : r9 < 9) : selfEq3 (fq r9 8, fq r9 8, fq r9 8) = true := by
  unfold selfEq3
  rw [fq_eight h3, selfEq_Q (by omega) (by decide)]
  rfl
theorem max_same {n k : Nat} (h : n < 1000000) (hk : k ≤ 1000) : max3F (Qf n k) (Qf n k) (Qf n k) = Qf n k := by rw [Q_max h h h hk, Nat.max_self, Nat.max_self]
theorem min_same {n k : Nat} (h : n < 1000000) (hk : k ≤ 1000) : min3F (Qf n k) (Qf n k) (Qf n k) = Qf n k := by rw [Q_min h h h hk, Nat.min_self, Nat.min_self]
theorem p_zero (h3 : 0 ≤ r9) (h4 : r9 < 9) : (Float64.cmp (min3F (fq r9 8) (fq r9 8) (fq r9 8)) (max3F (fq r9 8) (fq r9 8) (fq r9 8)) == some Ordering.eq) = false → ¬ Float64.isZero (max3F (fq r9 8) (fq r9 8) (fq r9 8)) = true ∧ ¬ Float64.isZero (Float64.sub (max3F (fq r9 8) (fq r9 8) (fq r9 8)) (min3F (fq r9 8) (fq r9 8) (fq r9 8))) = true := by
  intro h
  rw [fq_eight h3, max_same (by omega) (by decide), min_same (by omega) (by decide)] at h
  exact absurd (selfEq_Q (n := r9.toNat) (k := 3) (by omega) (by decide)) (by unfold selfEq; rw [h]; decide)
theorem p_back (h3 : 0 ≤ r9) (h4 : r9 < 9) : rgbF (fq r9 8) (fq r9 8) (fq r9 8) = (0, 0, fq r9 8) := by
  unfold rgbF
  simp only []
  have h : (Float64.cmp (Qf r9.toNat 3) (Qf r9.toNat 3) == some Ordering.eq) = true := selfEq_Q (by omega) (by decide)
  rw [fq_eight h3, max_same (by omega) (by decide), min_same (by omega) (by decide), if_pos h]
theorem p_self0 (h3 : 0 ≤ r9) (h4 : r9 < 9) : selfEq3 (0, 0, fq r9 8) = true := by
  have h0 : selfEq 0 = true := by decide +kernel
  unfold selfEq3
  rw [fq_eight h3, selfEq_Q (by omega) (by decide)]
  show (selfEq 0 && selfEq 0 && true) = true
  rw [h0]
  rfl
end
end Mine
end

section
open PySem PySem.W PySem.Spec PySem.Calls PyProof.Rows PySem.SeqAt
namespace Mine
set_option maxRecDepth 100000
def ltChk (sp : Int) (a b : Nat) : Bool := decide ((Float64.cmp (fq a sp) (fq b sp) == some Ordering.lt) = decide (a < b))
theorem lt8 : ((List.range 8).all fun a => (List.range 8).all fun b => ltChk 8 a b) = true := by decide +kernel
theorem lt16 : ((List.range 16).all fun a => (List.range 16).all fun b => ltChk 16 a b) = true := by decide +kernel
theorem lt32 : ((List.range 32).all fun a => (List.range 32).all fun b => ltChk 32 a b) = true := by decide +kernel
theorem lt_of {sp : Int} {n : Nat} (hn : (n : Int) = sp) (h : ((List.range n).all fun a => (List.range n).all fun b => ltChk sp a b) = true) {a b : Int} (ha : 0 ≤ a) (ha2 : a < sp) (hb : 0 ≤ b) (hb2 : b < sp) : (Float64.cmp (fq a sp) (fq b sp) == some Ordering.lt) = decide (a < b) := by
  have h1 := List.all_eq_true.mp h a.toNat (List.mem_range.mpr (by omega))
  have h2 := List.all_eq_true.mp h1 b.toNat (List.mem_range.mpr (by omega))
  have h3 := of_decide_eq_true h2
  rw [Int.toNat_of_nonneg ha, Int.toNat_of_nonneg hb] at h3
  rw [h3]
  apply decide_eq_decide.mpr
  omega
theorem lt_fq {sp a b : Int} (hsp : sp = 8 ∨ sp = 16 ∨ sp = 32) (ha : 0 ≤ a) (ha2 : a < sp) (hb : 0 ≤ b) (hb2 : b < sp) : (Float64.cmp (fq a sp) (fq b sp) == some Ordering.lt) = decide (a < b) := by
  rcases hsp with rfl | rfl | rfl
  · exact lt_of (n := 8) rfl lt8 ha ha2 hb hb2
  · exact lt_of (n := 16) rfl lt16 ha ha2 hb hb2
  · exact lt_of (n := 32) rfl lt32 ha ha2 hb hb2
def walkC (sp lp st k : Int) : Nat := if (st + (0 + (k.toNat : Int)) * lp).fmod sp < (st + (0 + ((k - 1).toNat : Int)) * lp).fmod sp then 9 else 32
def walkN (sp lp st : Int) : List Nat := (rangeKs 1 (sp + 1 - 1).toNat).map (walkC sp lp st)
theorem walkCh_eq {sp lp st : Int} (hsp : sp = 8 ∨ sp = 16 ∨ sp = 32) (k : Int) : walkCh sp lp st k = { cps := #[walkC sp lp st k] } := by
  unfold walkCh walkC
  have hp : 0 < sp := by omega
  rw [lt_fq hsp (Int.fmod_nonneg_of_pos _ hp) (Int.fmod_lt_of_pos _ hp) (Int.fmod_nonneg_of_pos _ hp) (Int.fmod_lt_of_pos _ hp)]
  simp only [decide_eq_true_eq]
  split
  · exact tab_is
  · exact blank_is
theorem walkT_cps {sp lp st : Int} (hsp : sp = 8 ∨ sp = 16 ∨ sp = 32) : (walkT sp lp st).cps.toList = walkN sp lp st := by
  unfold walkT walkN
  rw [funext (walkCh_eq hsp), show Txt.join = Str.join from funext fun a => funext fun b => StrLaws.glued_eq_join a b]
  exact join_codes _ _
/-- the last part: the other walk -/
def gapsL (x : Str) : List Int := (Txt.split x (Str.ofString "\t")).map fun p => (p.length : Int)
def aheadL (x : Str) : List Int := (gapsL x).take ((gapsL x).length - 1)
def maxA (x : Str) : Int := (aheadL x).foldl (fun a b => if a < b then b else a) 0
abbrev cntA (x : Str) : List Int := (rangeKs 0 (maxA x + 1 - 0).toNat).map fun k => ((aheadL x).count k : Int)
def gapI (g : List Nat) : List Int := g.map fun n => Int.ofNat n
def aheadG (g : List Nat) : List Int := (gapI g).take ((gapI g).length - 1)
def maxG (g : List Nat) : Int := (aheadG g).foldl (fun a b => if a < b then b else a) 0
def cntT (g : List Nat) : List Int := (rangeKs 0 (maxG g + 1 - 0).toNat).map fun k => ((aheadG g).count k : Int)
def seenG (sp lp st : Int) (l g g0 : List Nat) : Bool :=
  scanIs (wScan w0 l) sp lp (st.fdiv lp) (cntT g) && decide (l.length ≤ 40) && decide (1 ≤ l.length) && decide (g.length ≤ 64) && (g.all fun p => decide (p ≤ 1000)) && decide (0 < (aheadG g).length) && decide (maxG g ∈ aheadG g) && ((aheadG g).all fun a => decide (a ≤ maxG g)) && decide (0 ≤ maxG g) && decide (maxG g ≤ 64) && (decide (lp ≤ st) || decide (cntT g = cntT g0))
def gapN (l : List Nat) : List Nat := (splitC 9 l).map List.length
/-- the walk's signs by numbers without a sign, which the kernel reckons faster -/
def walkM (sp lp st : Nat) : List Nat := (List.range sp).map fun i => if (st + (i + 1) * lp) % sp < (st + i * lp) % sp then 9 else 32
theorem walkM_eq (sp lp st : Nat) : walkN (sp : Int) (lp : Int) (st : Int) = walkM sp lp st := by
  unfold walkN walkM rangeKs
  rw [List.map_map, show ((sp : Int) + 1 - 1).toNat = sp by omega]
  apply List.map_congr_left
  intro i _
  show walkC sp lp st (1 + (i : Int)) = _
  unfold walkC
  have e1 : ((1 + (i : Int)).toNat : Int) = ((i + 1 : Nat) : Int) := by omega
  have e2 : ((1 + (i : Int) - 1).toNat : Int) = (i : Int) := by omega
  rw [e1, e2, Int.zero_add, Int.zero_add, Int.fmod_eq_emod_of_nonneg _ (Int.natCast_nonneg _), Int.fmod_eq_emod_of_nonneg _ (Int.natCast_nonneg _), ← Int.natCast_mul, ← Int.natCast_mul, ← Int.natCast_add, ← Int.natCast_add, ← Int.natCast_emod, ← Int.natCast_emod]
  by_cases h : (st + (i + 1) * lp) % sp < (st + i * lp) % sp
  · rw [if_pos h, if_pos (Int.ofNat_lt.mpr h)]
  · rw [if_neg h, if_neg (fun q => h (Int.ofNat_lt.mp q))]
def seenK (sp lp st : Nat) (g0 : List Nat) : Bool := forceL (walkM sp lp st) fun l => forceL (gapN l) fun g => seenG (sp : Int) (lp : Int) (st : Int) l g g0
def seenL (sp : Nat) (n : Nat) (l : Nat) : Bool := forceL (gapN (walkM sp (l + 1) 0)) fun g0 => decide (walkM sp (l + 1) 0 = plainN (sp : Int) ((l + 1 : Nat) : Int)) && (List.range n).all fun s => seenK sp (l + 1) s g0
theorem seen8 : (List.range 7).all (seenL 8 8) = true := by decide +kernel
theorem seen16a : (List.range 8).all (seenL 16 16) = true := by decide +kernel
theorem seen16b : (List.range' 8 7).all (seenL 16 16) = true := by decide +kernel
theorem seen32_0 : (List.range' 0 3).all (seenL 32 32) = true := by decide +kernel
theorem seen32_3 : (List.range' 3 3).all (seenL 32 32) = true := by decide +kernel
theorem seen32_6 : (List.range' 6 3).all (seenL 32 32) = true := by decide +kernel
theorem seen32_9 : (List.range' 9 3).all (seenL 32 32) = true := by decide +kernel
theorem seen32_12 : (List.range' 12 3).all (seenL 32 32) = true := by decide +kernel
theorem seen32_15 : (List.range' 15 3).all (seenL 32 32) = true := by decide +kernel
theorem seen32_18 : (List.range' 18 3).all (seenL 32 32) = true := by decide +kernel
theorem seen32_21 : (List.range' 21 3).all (seenL 32 32) = true := by decide +kernel
theorem seen32_24 : (List.range' 24 3).all (seenL 32 32) = true := by decide +kernel
theorem seen32_27 : (List.range' 27 3).all (seenL 32 32) = true := by decide +kernel
theorem seen32_30 : (List.range' 30 1).all (seenL 32 32) = true := by decide +kernel
end Mine
end

section
open PySem PySem.W PySem.Spec PySem.Calls PyProof.Rows PySem.SeqAt
namespace Mine
set_option maxRecDepth 100000
def bothI (sp lp : Int) : Int := (Int.gcd sp lp : Int)
abbrev tabS (g : Int) : Str := Txt.mul (Str.ofString "\t") g
def bothG (sp lp : Int) (l : List Int) (k : Int) : List Int := if sp.fmod k = 0 ∧ lp.fmod k = 0 then l ++ [k] else l
theorem seen_16 : (List.range 15).all (seenL 16 16) = true := by
  rw [List.all_eq_true]
  intro l hl
  rw [List.mem_range] at hl
  by_cases h : l < 8
  · exact List.all_eq_true.mp seen16a l (List.mem_range.mpr h)
  · exact List.all_eq_true.mp seen16b l (List.mem_range'_1.mpr (by omega))
theorem seen_32 : (List.range 31).all (seenL 32 32) = true := by
  rw [show List.range 31 = List.range' 0 3 ++ (List.range' 3 3 ++ (List.range' 6 3 ++ (List.range' 9 3 ++ (List.range' 12 3 ++ (List.range' 15 3 ++ (List.range' 18 3 ++ (List.range' 21 3 ++ (List.range' 24 3 ++ (List.range' 27 3 ++ List.range' 30 1))))))))) from rfl]
  simp only [List.all_append, seen32_0, seen32_3, seen32_6, seen32_9, seen32_12, seen32_15, seen32_18, seen32_21, seen32_24, seen32_27, seen32_30, Bool.and_self]
structure Seen (sp lp st : Int) : Prop where
  plain : walkN sp lp 0 = plainN sp lp
  scan : wScan w0 (walkN sp lp st) = ⟨sp, lp, st.fdiv lp, cntT (gapN (walkN sp lp st))⟩
  l40 : (walkN sp lp st).length ≤ 40
  l1 : 1 ≤ (walkN sp lp st).length
  g64 : (gapN (walkN sp lp st)).length ≤ 64
  gk : ∀ p ∈ gapN (walkN sp lp st), p ≤ 1000
  a0 : 0 < (aheadG (gapN (walkN sp lp st))).length
  am : maxG (gapN (walkN sp lp st)) ∈ aheadG (gapN (walkN sp lp st))
  al : ∀ a ∈ aheadG (gapN (walkN sp lp st)), a ≤ maxG (gapN (walkN sp lp st))
  m0 : 0 ≤ maxG (gapN (walkN sp lp st))
  m1 : maxG (gapN (walkN sp lp st)) ≤ 64
  low : st < lp → cntT (gapN (walkN sp lp st)) = cntT (gapN (walkN sp lp 0))
theorem seen_one {sp : Int} {n k : Nat} (hn : sp = (n : Int)) (hk : n = k + 1) (h : (List.range k).all (seenL n n) = true) {lp st : Int} (h1 : 1 ≤ lp) (h2 : lp < sp) (h3 : 0 ≤ st) (h4 : st < sp) : Seen sp lp st := by
  subst hn
  obtain ⟨l, rfl⟩ : ∃ l : Nat, lp = ((l + 1 : Nat) : Int) := ⟨(lp - 1).toNat, by omega⟩
  obtain ⟨s, rfl⟩ : ∃ s : Nat, st = (s : Int) := ⟨st.toNat, by omega⟩
  have hc := List.all_eq_true.mp h l (List.mem_range.mpr (by omega))
  unfold seenL at hc
  rw [forceL_eq, Bool.and_eq_true, decide_eq_true_eq] at hc
  obtain ⟨hp, hc⟩ := hc
  have hs := List.all_eq_true.mp hc s (List.mem_range.mpr (by omega))
  unfold seenK at hs
  rw [forceL_eq, forceL_eq, ← walkM_eq] at hs
  have e0 : walkM n (l + 1) 0 = walkN (n : Int) ((l + 1 : Nat) : Int) 0 := (walkM_eq n (l + 1) 0).symm
  rw [e0] at hs hp
  unfold seenG at hs
  simp only [Bool.and_eq_true, Bool.or_eq_true, decide_eq_true_eq, List.all_eq_true] at hs
  obtain ⟨⟨⟨⟨⟨⟨⟨⟨⟨⟨q1, q2⟩, q3⟩, q4⟩, q5⟩, q6⟩, q7⟩, q8⟩, q9⟩, q10⟩, q11⟩ := hs
  exact ⟨hp, scan_of q1, q2, q3, q4, q5, q6, q7, q8, q9, q10, fun hl => q11.elim (fun h => absurd hl (by omega)) id⟩
theorem seen_of {sp lp st : Int} (hsp : sp = 8 ∨ sp = 16 ∨ sp = 32) (h1 : 1 ≤ lp) (h2 : lp < sp) (h3 : 0 ≤ st) (h4 : st < sp) : Seen sp lp st := by
  rcases hsp with rfl | rfl | rfl
  · exact seen_one (n := 8) (k := 7) rfl rfl seen8 h1 h2 h3 h4
  · exact seen_one (n := 16) (k := 15) rfl rfl seen_16 h1 h2 h3 h4
  · exact seen_one (n := 32) (k := 31) rfl rfl seen_32 h1 h2 h3 h4
theorem gapsL_eq (x : Str) : gapsL x = gapI (gapN x.cps.toList) := by
  unfold gapsL gapI gapN
  rw [← splitC_eq, tab_is, List.map_map, List.map_map]
  apply List.map_congr_left
  intro p _
  simp [Str.length]
theorem aheadL_eq (x : Str) : aheadL x = aheadG (gapN x.cps.toList) := by unfold aheadL aheadG; rw [gapsL_eq]
theorem maxA_eq (x : Str) : maxA x = maxG (gapN x.cps.toList) := by unfold maxA maxG; rw [aheadL_eq]
theorem cntA_eq (x : Str) : cntA x = cntT (gapN x.cps.toList) := by unfold cntA cntT; rw [aheadL_eq, maxA_eq]
section
variable {sp lp st : Int}
theorem p_seen (hsp : sp = 8 ∨ sp = 16 ∨ sp = 32) (h1 : 1 ≤ lp) (h2 : lp < sp) (h3 : 0 ≤ st) (h4 : st < sp) : WsIs (walkT sp lp st) sp lp (st.fdiv lp) (cntA (walkT sp lp st)) (decide (((cntA (walkT sp lp st)).length : Int) ≤ 1)) := by
  have S := seen_of hsp h1 h2 h3 h4
  refine ⟨?_, ?_, rfl⟩
  · have h := S.l40
    rw [← walkT_cps hsp] at h
    simp only [Str.length, ← Array.length_toList]
    omega
  · rw [cntA_eq, walkT_cps hsp]; exact S.scan
theorem p_len (hsp : sp = 8 ∨ sp = 16 ∨ sp = 32) (h1 : 1 ≤ lp) (h2 : lp < sp) (h3 : 0 ≤ st) (h4 : st < sp) : (walkT sp lp st).length + 2 ≤ sizeLine ∧ (Txt.split (walkT sp lp st) (Str.ofString "\t")).length ≤ 64 ∧ ∀ p ∈ Txt.split (walkT sp lp st) (Str.ofString "\t"), p.length ≤ 1000 := by
  have S := seen_of hsp h1 h2 h3 h4
  have hg : (Txt.split (walkT sp lp st) (Str.ofString "\t")).map (fun p => p.length) = gapN (walkN sp lp st) := by
    unfold gapN
    rw [← walkT_cps hsp, ← splitC_eq, tab_is, List.map_map]
    apply List.map_congr_left
    intro p _
    simp [Str.length]
  refine ⟨?_, ?_, ?_⟩
  · have h := S.l40
    rw [← walkT_cps hsp] at h
    rw [PySem.sizeLine_eq]
    simp only [Str.length, ← Array.length_toList]
    omega
  · have h := S.g64
    rw [← hg, List.length_map] at h
    exact h
  · intro p hp
    refine S.gk _ ?_
    rw [← hg]
    exact List.mem_map.mpr ⟨p, hp, rfl⟩
theorem p_ahead (hsp : sp = 8 ∨ sp = 16 ∨ sp = 32) (h1 : 1 ≤ lp) (h2 : lp < sp) (h3 : 0 ≤ st) (h4 : st < sp) : 0 < (aheadL (walkT sp lp st)).length ∧ ∀ M, M ∈ aheadL (walkT sp lp st) → (∀ a, a ∈ aheadL (walkT sp lp st) → a ≤ M) → M = maxA (walkT sp lp st) := by
  have S := seen_of hsp h1 h2 h3 h4
  rw [aheadL_eq, maxA_eq, walkT_cps hsp]
  exact ⟨S.a0, fun M hM hall => Int.le_antisymm (S.al M hM) (hall _ S.am)⟩
theorem p_abd (hsp : sp = 8 ∨ sp = 16 ∨ sp = 32) (h1 : 1 ≤ lp) (h2 : lp < sp) (h3 : 0 ≤ st) (h4 : st < sp) : 0 ≤ maxA (walkT sp lp st) ∧ maxA (walkT sp lp st) ≤ 64 := by
  have S := seen_of hsp h1 h2 h3 h4
  rw [maxA_eq, walkT_cps hsp]
  exact ⟨S.m0, S.m1⟩
theorem p_last (hsp : sp = 8 ∨ sp = 16 ∨ sp = 32) (h1 : 1 ≤ lp) (h2 : lp < sp) (h3 : 0 ≤ st) (h4 : st < sp) : decide (cntA (walkT sp lp st) = cntA (walkT sp lp 0) ∧ st.fdiv lp = (0 : Int).fdiv lp) = decide (st < lp) := by
  have S := seen_of hsp h1 h2 h3 h4
  have hd : (0 : Int).fdiv lp = 0 := by simp
  rw [cntA_eq, cntA_eq, walkT_cps hsp, walkT_cps hsp, hd]
  apply decide_eq_decide.mpr
  have hf : st.fdiv lp = st / lp := Int.fdiv_eq_ediv_of_nonneg _ (by omega)
  constructor
  · intro ⟨_, h⟩
    rw [hf] at h
    by_cases hl : st < lp
    · exact hl
    · have : 1 ≤ st / lp := (Int.le_ediv_iff_mul_le (by omega)).mpr (by omega)
      omega
  · intro hl
    exact ⟨S.low hl, by rw [hf]; exact Int.ediv_eq_zero_of_lt h3 hl⟩
theorem p_text (hsp : sp = 8 ∨ sp = 16 ∨ sp = 32) (h1 : 1 ≤ lp) (h2 : lp < sp) (h3 : 0 ≤ st) (h4 : st < sp) : walkT sp lp st ≠ Str.ofString "" := by
  have S := seen_of hsp h1 h2 h3 h4
  intro e
  have h := S.l1
  rw [← walkT_cps hsp, e] at h
  exact absurd h (by decide +kernel)
theorem p_thin (hsp : sp = 8 ∨ sp = 16 ∨ sp = 32) (h1 : 1 ≤ lp) (h2 : lp < sp) : Thins (walkT sp lp 0) sp lp (tabS (bothI sp lp)) := by
  have S := seen_of (st := 0) hsp h1 h2 (by omega) (by omega)
  have e : walkT sp lp 0 = plainT sp lp := by
    rw [str_of (walkT_cps hsp), S.plain, str_of (plainT_cps sp lp)]
  rw [e]
  exact thins_plain hsp h1 h2
theorem p_gbd (hsp : sp = 8 ∨ sp = 16 ∨ sp = 32) (h1 : 1 ≤ lp) (h2 : lp < sp) : 1 ≤ bothI sp lp ∧ bothI sp lp ≤ 32 := by
  unfold bothI
  have h0 : 0 < Int.gcd sp lp := Int.gcd_pos_of_ne_zero_left _ (by omega)
  have h5 : (Int.gcd sp lp : Int) ≤ lp := Int.le_of_dvd (by omega) (Int.gcd_dvd_right ..)
  omega
def tabsB (n : Nat) : Bool := scanIs (wScan w0 (List.replicate n 9)) n n 0 [(n : Int)] && scanIs (wScan w0 (List.replicate n 9 ++ [32])) (n + 1) n 1 [(n : Int)] && scanIs (wScan w0 (List.replicate n 9 ++ [9])) (n + 1) (n + 1) 0 [(n : Int) + 1]
theorem tabs_tab : (List.range' 1 32).all tabsB = true := by decide +kernel
theorem both_nat (hsp : sp = 8 ∨ sp = 16 ∨ sp = 32) (h1 : 1 ≤ lp) (h2 : lp < sp) : ∃ n : Nat, bothI sp lp = (n : Int) ∧ n < 40 ∧ tabsB n = true := by
  have h := p_gbd hsp h1 h2
  unfold bothI at h ⊢
  exact ⟨_, rfl, by omega, List.all_eq_true.mp tabs_tab _ (List.mem_range'_1.mpr (by omega))⟩
theorem p_left (hsp : sp = 8 ∨ sp = 16 ∨ sp = 32) (h1 : 1 ≤ lp) (h2 : lp < sp) : WsIs (tabS (bothI sp lp)) (bothI sp lp) (bothI sp lp) 0 [bothI sp lp] true := by
  obtain ⟨n, e, hn, ht⟩ := both_nat hsp h1 h2
  rw [e]
  unfold tabsB at ht
  simp only [Bool.and_eq_true] at ht
  refine ⟨?_, ?_, rfl⟩
  · have h := congrArg List.length (tabs_is hn)
    simp only [Array.length_toList, List.length_replicate] at h
    show (Txt.mul (Str.ofString "\t") (n : Int)).cps.size ≤ 64
    omega
  · show wScan w0 (Txt.mul (Str.ofString "\t") (n : Int)).cps.toList = _
    rw [tabs_is hn]; exact scan_of ht.1.1
theorem tabs_more {n : Nat} (hn : n < 40) {y : Str} {l : List Nat} (hy : y.cps.toList = l) : (Txt.mul (Str.ofString "\t") (n : Int) ++ y).cps.toList = List.replicate n 9 ++ l := by
  rw [Str.cps_append, Array.toList_append, tabs_is hn, hy]
theorem tabs_more_len {n : Nat} (hn : n < 40) {y : Str} {l : List Nat} (hy : y.cps.toList = l) (hl : l.length ≤ 1) : (Txt.mul (Str.ofString "\t") (n : Int) ++ y).length ≤ 64 := by
  have h := congrArg List.length (tabs_more hn hy)
  simp only [Array.length_toList, List.length_replicate, List.length_append] at h
  show (Txt.mul (Str.ofString "\t") (n : Int) ++ y).cps.size ≤ 64
  omega
theorem p_more0 (hsp : sp = 8 ∨ sp = 16 ∨ sp = 32) (h1 : 1 ≤ lp) (h2 : lp < sp) : WsIs (Txt.mul (Str.ofString "\t") (bothI sp lp) ++ Str.ofString "") (bothI sp lp) (bothI sp lp) 0 [bothI sp lp] true := by
  obtain ⟨n, e, hn, ht⟩ := both_nat hsp h1 h2
  rw [e]
  unfold tabsB at ht
  simp only [Bool.and_eq_true] at ht
  have hy : (Str.ofString "").cps.toList = [] := by decide +kernel
  refine ⟨tabs_more_len hn hy (by simp), ?_, rfl⟩
  rw [tabs_more hn hy, List.append_nil]; exact scan_of ht.1.1
theorem p_more1 (hsp : sp = 8 ∨ sp = 16 ∨ sp = 32) (h1 : 1 ≤ lp) (h2 : lp < sp) : WsIs (Txt.mul (Str.ofString "\t") (bothI sp lp) ++ Str.ofString " ") (bothI sp lp + 1) (bothI sp lp) 1 [bothI sp lp] true := by
  obtain ⟨n, e, hn, ht⟩ := both_nat hsp h1 h2
  rw [e]
  unfold tabsB at ht
  simp only [Bool.and_eq_true] at ht
  have hy : (Str.ofString " ").cps.toList = [32] := by decide +kernel
  refine ⟨tabs_more_len hn hy (by simp), ?_, rfl⟩
  rw [tabs_more hn hy]; exact scan_of ht.1.2
theorem p_more2 (hsp : sp = 8 ∨ sp = 16 ∨ sp = 32) (h1 : 1 ≤ lp) (h2 : lp < sp) : WsIs (Txt.mul (Str.ofString "\t") (bothI sp lp) ++ Str.ofString "\t") (bothI sp lp + 1) (bothI sp lp + 1) 0 [bothI sp lp + 1] true := by
  obtain ⟨n, e, hn, ht⟩ := both_nat hsp h1 h2
  rw [e]
  unfold tabsB at ht
  simp only [Bool.and_eq_true] at ht
  have hy : (Str.ofString "\t").cps.toList = [9] := by decide +kernel
  refine ⟨tabs_more_len hn hy (by simp), ?_, rfl⟩
  rw [tabs_more hn hy]; exact scan_of ht.2
def maxB (sp : Int) (l : Nat) : Bool :=
  (fun F : List Int => decide (0 < F.length) && decide (bothI sp ((l : Int) + 1) ∈ F) && F.all fun a => decide (a ≤ bothI sp ((l : Int) + 1))) ((rangeKs 1 (sp + 1 - 1).toNat).foldl (bothG sp ((l : Int) + 1)) [])
theorem max8 : (List.range 7).all (maxB 8) = true := by decide +kernel
theorem max16 : (List.range 15).all (maxB 16) = true := by decide +kernel
theorem max32 : (List.range 31).all (maxB 32) = true := by decide +kernel
theorem max_of {n : Nat} (hn : sp = (n : Int) + 1) (h : (List.range n).all (maxB sp) = true) (h1 : 1 ≤ lp) (h2 : lp < sp) : 0 < ((rangeKs 1 (sp + 1 - 1).toNat).foldl (bothG sp lp) []).length ∧ ∀ M, M ∈ (rangeKs 1 (sp + 1 - 1).toNat).foldl (bothG sp lp) [] → (∀ a, a ∈ (rangeKs 1 (sp + 1 - 1).toNat).foldl (bothG sp lp) [] → a ≤ M) → M = bothI sp lp := by
  have hc := List.all_eq_true.mp h (lp - 1).toNat (List.mem_range.mpr (by omega))
  unfold maxB at hc
  rw [Int.toNat_of_nonneg (by omega), show lp - 1 + 1 = lp by omega] at hc
  simp only [Bool.and_eq_true, decide_eq_true_eq, List.all_eq_true] at hc
  exact ⟨hc.1.1, fun M hM hall => Int.le_antisymm (hc.2 M hM) (hall _ hc.1.2)⟩
theorem p_max (hsp : sp = 8 ∨ sp = 16 ∨ sp = 32) (h1 : 1 ≤ lp) (h2 : lp < sp) : 0 < ((rangeKs 1 (sp + 1 - 1).toNat).foldl (bothG sp lp) []).length ∧ ∀ M, M ∈ (rangeKs 1 (sp + 1 - 1).toNat).foldl (bothG sp lp) [] → (∀ a, a ∈ (rangeKs 1 (sp + 1 - 1).toNat).foldl (bothG sp lp) [] → a ≤ M) → M = bothI sp lp := by
  rcases hsp with rfl | rfl | rfl
  · exact max_of (n := 7) rfl max8 h1 h2
  · exact max_of (n := 15) rfl max16 h1 h2
  · exact max_of (n := 31) rfl max32 h1 h2
end
end Mine
end

section
open PySem PySem.W PySem.Spec PySem.Calls PyProof.Rows PySem.SeqAt
namespace Mine
set_option maxRecDepth 100000
set_option maxHeartbeats 64000000

def IG (_g : Int → Int) : Prop := True
def modM (k : Int) : Int := k.fmod 1000000
theorem modM_is (k : Int) : modM k = k.fmod (10 ^ Int.toNat 6) := by
  have e : (10 : Int) ^ Int.toNat 6 = 1000000 := by decide +kernel
  rw [e]; rfl
theorem modM_el {news news' : List (Addr × Obj)} {k : Int} {y : Value} {t : Tok} (hn : news' = news) (hy : y = .int (k.fmod (10 ^ Int.toNat 6)) t) : KCfEl news (modM k) y news' := kcf_el (modM_is k) hn hy
section
variable {prog : Program} {w : World} {A : Around} {h₀ : Heap} {L : Addr} {m : Str → Option Value} {env : Env} {elt : Expr} {x : Str} {scope : Scope} {cl : List (Str × Addr)} {s : Shared} {S : List (Addr × Obj) → Prop} {Fin : List Value → List (Addr × Obj) → Prop} {news : List (Addr × Obj)}
theorem kcf_listG {vs : List Value} {ns : List Int} {g : Int → Int} (_ : IG g) (hi : IntsAre vs ns)
    (turn : ∀ k t I oI C oC D m₂ ys h tk (E' : Value → Shared → Prop), k ∈ ns → LCg.NsObj oC m₂ → m₂ x = some (.int k t) → Fr h₀ L h m → News h₀ L h ((I, oI) :: (C, oC) :: (D, LCg.lst ys) :: news) → LCg.Off3 I C D news → ((@Ne Nat I C) ∧ (@Ne Nat I D) ∧ (@Ne Nat C D)) → KPfMark →
      wpAny (model prog w) A (eval elt (compEnvC scope cl C env)) (LCg.CompEnd h₀ L m { s with heap := h, toks := tk } I oI C oC D (LCg.lst ys) S (fun y news' => KCfEl news (g k) y news')) E' { s with heap := h, toks := tk })
    (fin : KPfDone (∀ ys, IntsAre ys (ns.map g) → Fin ys news)) : LCg.CompRest prog w A h₀ L m env elt x scope cl s S (fun i v => vs.toArray[i]? = some v) Fin vs.toArray.size 0 [] news := kcf_list g hi turn fin
end
section
variable {prog : Program} {w : World} {A : Around} {E : Value → Shared → Prop} {s : Shared} {h₀ : Heap} {L l : Addr} {m : Str → Option Value} {news : List (Addr × Obj)} {value slice : PySem.Expr} {vs : List Value} {ns : List Int} {x : Int} {u : Tok} {kk : Nat} {Q : Value → Shared → Prop}
theorem cut_from (F : Fr h₀ L s.heap m) (N : News h₀ L s.heap news) (hm : (l, W.listOf vs.toArray kk) ∈ news) (hi : IntsAre vs ns) (h0 : 0 ≤ x) (hz : ns.length ≤ 1000)
    (h : ∀ D ws h', IntsAre ws (ns.drop x.toNat) → Fr h₀ L h' m → News h₀ L h' ((D, W.listOf (List.toArray ws) 0) :: news) → (∀ p ∈ news, p.1 < D) → Q (.ref D) { s with heap := h' })
    (hs : subscripted slice false (.ref l) (.ref s.heap.objs.size) = operate [.ref s.heap.objs.size, .ref l] (getItem (.ref l) (.ref s.heap.objs.size))) :
    wpAny (model prog w) A (subscriptTail value slice (.ref l) (.ref s.heap.objs.size)) Q E { s with heap := s.heap.push { cls := .type "slice", data := .fields #[.int x u, .none, .none] } } := by
  refine kba_turn (value' := PySem.Expr.Name (PySem.Str.ofString "_") ⟨0, 0, 0, 0⟩) (fun _ => rfl) ?_
  refine kmk_slice_ints F N (N.isList hm) (IsPart.int _ _) IsPart.none hi (kmk_from hi h0) rfl (fun D ws h' F' N' l1 hI _ _ => h D ws h' hI F' N' l1) hs (fun _ => rfl) ?_
  rw [List.size_toArray, hi.length, PySem.sizeLine_eq]; omega
theorem cut_to (F : Fr h₀ L s.heap m) (N : News h₀ L s.heap news) (hm : (l, W.listOf vs.toArray kk) ∈ news) (hi : IntsAre vs ns) (h0 : 0 ≤ x) (hz : ns.length ≤ 1000)
    (h : ∀ D ws h', IntsAre ws (ns.take x.toNat) → Fr h₀ L h' m → News h₀ L h' ((D, W.listOf (List.toArray ws) 0) :: news) → (∀ p ∈ news, p.1 < D) → Q (.ref D) { s with heap := h' })
    (hs : subscripted slice false (.ref l) (.ref s.heap.objs.size) = operate [.ref s.heap.objs.size, .ref l] (getItem (.ref l) (.ref s.heap.objs.size))) :
    wpAny (model prog w) A (subscriptTail value slice (.ref l) (.ref s.heap.objs.size)) Q E { s with heap := s.heap.push { cls := .type "slice", data := .fields #[.none, .int x u, .none] } } := by
  refine kba_turn (value' := PySem.Expr.Name (PySem.Str.ofString "_") ⟨0, 0, 0, 0⟩) (fun _ => rfl) ?_
  refine kmk_slice_ints F N (N.isList hm) IsPart.none (IsPart.int _ _) hi (kmk_upto hi h0) rfl (fun D ws h' F' N' l1 hI _ _ => h D ws h' hI F' N' l1) hs (fun _ => rfl) ?_
  rw [List.size_toArray, hi.length, PySem.sizeLine_eq]; omega
end
theorem four_ints (a b c d : Tok) : IntsAre [.int 1 a, .int 6 b, .int 9 c, .int 29 d] [1, 6, 9, 29] := .cons _ _ (.cons _ _ (.cons _ _ (.cons _ _ .nil)))
theorem modM_lo (k : Int) : 0 ≤ modM k ∧ modM k < 1000000 := ⟨Int.fmod_nonneg_of_pos _ (by decide), Int.fmod_lt_of_pos _ (by decide)⟩
theorem four_len : ∀ (l : List Int) (P : Int → Prop), (∀ x ∈ l, P x) → l.length = 4 → ∃ a b c d, l = [a, b, c, d] ∧ P a ∧ P b ∧ P c ∧ P d
  | [a, b, c, d], P, h, _ => ⟨a, b, c, d, rfl, h _ (by simp), h _ (by simp), h _ (by simp), h _ (by simp)⟩
  | [], _, _, h => by simp at h
  | [_], _, _, h => by simp at h
  | [_, _], _, _, h => by simp at h
  | [_, _, _], _, _, h => by simp at h
  | _ :: _ :: _ :: _ :: _ :: _, _, _, h => by simp at h
theorem four_of {ns : List Int} {k : Nat} {ws : List Value} (hk : k = ns.length) (h : IntsAre ws (List.take (Int.toNat 4) (List.map modM (List.take 63 ns) ++ List.drop ((k : Int)).toNat [1, 6, 9, 29]))) :
    ∃ a b c d ta tb tc td, ws = [.int a ta, .int b tb, .int c tc, .int d td] ∧ (0 ≤ a ∧ a < 1000000) ∧ (0 ≤ b ∧ b < 1000000) ∧ (0 ≤ c ∧ c < 1000000) ∧ (0 ≤ d ∧ d < 1000000) := by
  subst hk
  have hlen : (List.take (Int.toNat 4) (List.map modM (List.take 63 ns) ++ List.drop ((ns.length : Int)).toNat [1, 6, 9, 29])).length = 4 := by
    simp only [List.length_take, List.length_append, List.length_map, List.length_drop, List.length_cons, List.length_nil, Int.toNat_natCast]
    have : Int.toNat 4 = 4 := rfl
    omega
  have hall : ∀ x ∈ List.take (Int.toNat 4) (List.map modM (List.take 63 ns) ++ List.drop ((ns.length : Int)).toNat [1, 6, 9, 29]), 0 ≤ x ∧ x < 1000000 := by
    intro x hx
    rcases List.mem_append.mp (List.mem_of_mem_take hx) with h1 | h1
    · obtain ⟨y, _, rfl⟩ := List.mem_map.mp h1
      exact modM_lo y
    · have := List.mem_of_mem_drop h1
      simp at this
      omega
  obtain ⟨a, b, c, d, e, ha, hb, hc, hd⟩ := four_len _ _ hall hlen
  rw [e] at h
  cases h with | cons _ ta h => cases h with | cons _ tb h => cases h with | cons _ tc h => cases h with | cons _ td h => cases h with | nil =>
  exact ⟨a, b, c, d, ta, tb, tc, td, rfl, ha, hb, hc, hd⟩
theorem news_top5 {h₀ h : Heap} {L : Addr} {x a b c d e : Addr × Obj} {rest : List (Addr × Obj)} (N : News h₀ L h (x :: a :: b :: c :: d :: e :: rest)) : News h₀ L h (x :: rest) := fun p hp => N p (by
  rcases List.mem_cons.mp hp with rfl | hp
  · exact List.mem_cons_self
  · simp [hp])



theorem spots_r {prog : Program} {w : World} {A : Around} {E : Value → Shared → Prop} {s : Shared} {h₀ : Heap} {L l : Addr} {news : List (Addr × Obj)} {value slice : PySem.Expr} {k : Int} {u ta tb tc : Tok} {Q : Value → Shared → Prop}
    (N : News h₀ L s.heap news) (hm : (l, tupV #[.int 8 ta, .int 16 tb, .int 32 tc]) ∈ news) (h0 : 0 ≤ k) (h1 : k < 3)
    (h : ∀ sp t, (sp = 8 ∨ sp = 16 ∨ sp = 32) → Q (.int sp t) s)
    (hs : subscripted slice false (.ref l) (.int k u) = operate [.ref l, .int k u] (getItem (.ref l) (.int k u))) :
    wpAny (model prog w) A (subscriptTail value slice (.ref l) (.int k u)) Q E s := by
  refine kba_turn (value' := PySem.Expr.Name (PySem.Str.ofString "_") ⟨0, 0, 0, 0⟩) (fun _ => rfl) ?_
  have hk : k = 0 ∨ k = 1 ∨ k = 2 := by omega
  rcases hk with rfl | rfl | rfl
  · exact item_tupleL (l := [.int 8 ta, .int 16 tb, .int 32 tc]) (j := 0) (N.isTup hm) (by decide) (by decide) (by rfl) rfl (h 8 ta (by simp)) hs (fun _ => rfl)
  · exact item_tupleL (l := [.int 8 ta, .int 16 tb, .int 32 tc]) (j := 1) (N.isTup hm) (by decide) (by decide) (by rfl) rfl (h 16 tb (by simp)) hs (fun _ => rfl)
  · exact item_tupleL (l := [.int 8 ta, .int 16 tb, .int 32 tc]) (j := 2) (N.isTup hm) (by decide) (by decide) (by rfl) rfl (h 32 tc (by simp)) hs (fun _ => rfl)
theorem fmod_bd (a : Int) {n : Int} (h : 0 < n) : 0 ≤ a.fmod n ∧ a.fmod n < n := ⟨Int.fmod_nonneg_of_pos _ h, Int.fmod_lt_of_pos _ h⟩



section
variable {w : World} {mean : ExcName → Option Value} {mg mb : Str → Option Value} {news : List (Addr × Obj)}
  {dp un : Nat} {gd : Option (List Code)} {cn : Str} {cs : Scope} {a : Addr} {ccd : Value} {cl : List (Str × Addr)} {outer : List Env} {A₀ : Around} {base h₀ : Heap} {L : Addr} {m : Str → Option Value} {s : Shared} {Q E : Value → Shared → Prop}
theorem walk_use {sp lp st sh lv : Int} {t1 t2 t3 t4 t5 : Tok} (hH : ∀ i : Nat, i < (sp + 1 - 0).toNat → HueOk sp lp st sh lv i) (h1 : 1 ≤ sp) (h2 : sp ≤ 32) (h3 : 1 ≤ lp) (h4 : lp ≤ 32) (h5 : 0 ≤ st) (h6 : st ≤ 32) (h7 : 1 ≤ sh) (h8 : sh ≤ 8) (h9 : 1 ≤ lv) (h10 : lv ≤ 8)
    (B : Below A₀ base outer h₀) (F : Fr h₀ L s.heap m) (X : (hd.heap_39 w.params).In h₀) (N : News h₀ L s.heap news) (T : Top hd.view_39 (looseW hd.view_39 [Str.ofString "Whitespace"]) mean mg mb h₀) (hk : cs.kind = .function) (hd : dp + 5 < recursionLimit) (hu : un + 120 < cLine)
    (h : ∀ (t' : Tok) (h' : Heap) (tk' : Nat), Fr h₀ L h' m → News h₀ L h' news → Q (.str (walkT sp lp st) t') { s with heap := h', toks := tk' }) :
    wpAny (model Challenge.rw_pk0086_01.row.prog w) (ktrTop dp un gd cn cs L a ccd cl outer) (call (.ref 118) [.int sp t1, .int lp t2, .int st t3, .int sh t4, .int lv t5]) Q E s := by
  refine walk_c w mean mg mb sp lp st sh lv t1 t2 t3 t4 t5 news h1 h2 h3 h4 h5 h6 h7 h8 h9 h10 hH dp un gd cn cs a ccd cl outer A₀ base h₀ L m s Q E B F X N T hk hd hu ?_
  rintro v tl h' tk' ⟨t', rfl, rfl⟩ l F' N'
  exact h t' h' tk' F' N'
theorem thin_use {x out : Str} {sp lp : Int} {t t1 t2 : Tok} (hT : Thins x sp lp out) (B : Below A₀ base outer h₀) (F : Fr h₀ L s.heap m) (X : (hd.heap_39 w.params).In h₀) (N : News h₀ L s.heap news) (T : Top hd.view_39 (looseW hd.view_39 [Str.ofString "Whitespace"]) mean mg mb h₀) (hk : cs.kind = .function) (hd : dp + 5 < recursionLimit) (hu : un + 100 < cLine)
    (h : ∀ (t' : Tok) (h' : Heap) (tk' : Nat), Fr h₀ L h' m → News h₀ L h' news → Q (.str out t') { s with heap := h', toks := tk' }) :
    wpAny (model Challenge.rw_pk0086_01.row.prog w) (ktrTop dp un gd cn cs L a ccd cl outer) (call (.ref 125) [.str x t, .int sp t1, .int lp t2]) Q E s := by
  refine thin_c w mean mg mb x out sp lp t t1 t2 news hT dp un gd cn cs a ccd cl outer A₀ base h₀ L m s Q E B F X N T hk hd hu ?_
  rintro v tl h' tk' ⟨t', rfl, rfl⟩ l F' N'
  exact h t' h' tk' F' N'
end

section
variable {prog : Program} {w : World} {A : Around} {E : Value → Shared → Prop} {s : Shared} {Q : Value → Shared → Prop}
def MG : Prop := True
theorem mod_gen {a b : Int} {t u : Tok} (_ : MG) (hb : 0 < b) (h : ∀ r, 0 ≤ r → r < b → Q (.int r s.toks) { s with toks := s.toks + 1 }) : wpAny (model prog w) A (binaryOp .Mod (.int a t) (.int b u)) Q E s :=
  PyProof.Rows.mod_int (Ne.symm (Int.ne_of_lt hb)) (h _ (Int.fmod_nonneg_of_pos _ hb) (Int.fmod_lt_of_pos _ hb))
theorem ne_tup2 {h₀ : Heap} {L x y : Addr} {news : List (Addr × Obj)} {r : F3} {a b c : UInt64} {t4 t5 t6 u4 u5 u6 : Tok} (N : News h₀ L s.heap news)
    (hx : (x, tupV #[.float r.1 t4, .float r.2.1 t5, .float r.2.2 t6]) ∈ news) (hy : (y, tupV #[.float a u4, .float b u5, .float c u6]) ∈ news) (e : r = (a, b, c)) (q4 : 0 < t4) (q5 : 0 < t5) (q6 : 0 < t6) (r4 : 0 < u4) (r5 : 0 < u5) (r6 : 0 < u6) (h : selfEq3 (a, b, c) = true) (hb : NoneBooked s.heap) (hu : A.units + 64 < cLine) (hq : Q (.bool false) s) :
    wpAny (model prog w) A (compareOp .NotEq (.ref x) (.ref y)) Q E s := by
  subst e
  exact ne_tup (r := (a, b, c)) N hx hy ⟨q4, q5, q6⟩ ⟨r4, r5, r6⟩ h hb hu hq
end

def BG (_sp _lp : Int) : Prop := True
theorem bg_of {sp r : Int} (_ : sp = 8 ∨ sp = 16 ∨ sp = 32) (_ : r < sp - 1) : BG sp (1 + r) := True.intro
theorem ite_str {c : Prop} {inst : Decidable c} {P Q : Prop} {a b : Str} (e : c = ((a == b) = true)) (h : a ≠ b) (q : Q) : @ite Prop c inst P Q := by
  subst e; exact ite_no (fun hi9 => str_beq_no hi9 h) q


theorem news_drop6 {h₀ h : Heap} {L : Addr} {a b c d e f : Addr × Obj} {rest : List (Addr × Obj)} (N : News h₀ L h (a :: b :: c :: d :: e :: f :: rest)) : News h₀ L h rest := fun p hp => N p (by simp [hp])


theorem bothG_grows (sp lp : Int) : KPfGrows (bothG sp lp) := by
  intro l k
  unfold bothG
  split <;> simp
section
variable {prog : Program} {w : World} {A : Around} {h₀ : Heap} {L : Addr} {m : Str → Option Value} {env : Env} {ct elt : Expr} {x : Str} {scope : Scope} {cl : List (Str × Addr)} {s : Shared} {S : List (Addr × Obj) → Prop} {P : Nat → Value → Prop} {Fin : List Value → List (Addr × Obj) → Prop} {news : List (Addr × Obj)}
theorem kci_rangeG {n : Nat} {a sp lp : Int} (_ : BG sp lp)
    (turn : ∀ k t I oI C oC D m₂ ys l h tk (E' : Value → Shared → Prop), a ≤ k → k < a + (n : Int) → IntsAre ys l → LCg.NsObj oC m₂ → m₂ x = some (.int k t) → Fr h₀ L h m → News h₀ L h ((I, oI) :: (C, oC) :: (D, LCg.lst ys) :: news) → LCg.Off3 I C D news → ((@Ne Nat I C) ∧ (@Ne Nat I D) ∧ (@Ne Nat C D)) → KPfMark →
      wpAny (model prog w) A (isTrue ct (compEnvC scope cl C env) (eval ct (compEnvC scope cl C env))) (fun b s' => if b = true then wpAny (model prog w) A (eval elt (compEnvC scope cl C env)) (LCg.CompEnd h₀ L m { s with heap := h, toks := tk } I oI C oC D (LCg.lst ys) S (fun y news' => KCiEl news l (bothG sp lp l k) y news')) E' s'
        else LCg.CompEnd h₀ L m { s with heap := h, toks := tk } I oI C oC D (LCg.lst ys) S (fun _ news' => KCiNo news l (bothG sp lp l k) news') Value.none s') E' { s with heap := h, toks := tk })
    (fin : KPfDone (∀ ys, IntsAre ys ((rangeKs a n).foldl (bothG sp lp) []) → ys.length ≤ n → Fin ys news)) : LCt.CompRestT prog w A h₀ L m env ct elt x scope cl s S (fun i v => ∃ t, v = .int (a + (i : Int)) t) Fin n 0 [] news :=
  kci_range (bothG sp lp) turn fin (bothG_grows sp lp)
end
theorem ci_yes {h₀ : Heap} {L I C D : Addr} {m : Str → Option Value} {s₁ : Shared} {oI oC oD : Obj} {S : List (Addr × Obj) → Prop} {sp lp k : Int} {l : List Int} {t : Tok} {h' : Heap} {tk : Nat} {all news : List (Addr × Obj)}
    (F : Fr h₀ L h' m) (N : News h₀ L h' all) (sub : ∀ p ∈ (I, oI) :: (C, oC) :: (D, oD) :: news, p ∈ all) (off : LCg.Off3 I C D news) (hS : S news) (e1 : sp.fmod k = 0) (e2 : lp.fmod k = 0) :
    LCg.CompEnd h₀ L m s₁ I oI C oC D oD S (fun y news' => KCiEl news l (bothG sp lp l k) y news') (.int k t) { s₁ with heap := h', toks := tk } :=
  LCg.CompEnd.intro F N news sub off hS (kci_el (if_pos ⟨e1, e2⟩) rfl rfl)
theorem ci_no {h₀ : Heap} {L I C D : Addr} {m : Str → Option Value} {s₁ : Shared} {oI oC oD : Obj} {S : List (Addr × Obj) → Prop} {sp lp k : Int} {l : List Int} {v : Value} {h' : Heap} {tk : Nat} {all news : List (Addr × Obj)}
    (F : Fr h₀ L h' m) (N : News h₀ L h' all) (sub : ∀ p ∈ (I, oI) :: (C, oC) :: (D, oD) :: news, p ∈ all) (off : LCg.Off3 I C D news) (hS : S news) (e : sp.fmod k ≠ 0 ∨ lp.fmod k ≠ 0) :
    LCg.CompEnd h₀ L m s₁ I oI C oC D oD S (fun _ news' => KCiNo news l (bothG sp lp l k) news') v { s₁ with heap := h', toks := tk } :=
  LCg.CompEnd.intro F N news sub off hS (kci_no (if_neg fun h => e.elim (fun q => q h.1) (fun q => q h.2)) rfl)
theorem max_is {prog : Program} {w : World} {A : Around} {E : Value → Shared → Prop} {s : Shared} {h₀ : Heap} {L l : Addr} {m : Str → Option Value} {news : List (Addr × Obj)} {vs : List Value} {ns : List Int} {c : Int} {kk : Nat} {Q : Value → Shared → Prop} (F : Fr h₀ L s.heap m) (N : News h₀ L s.heap news) (hm : (l, W.listOf vs.toArray kk) ∈ news) (hi : IntsAre vs ns)
    (hc : 0 < ns.length ∧ ∀ M, M ∈ ns → (∀ a, a ∈ ns → a ≤ M) → M = c) (hh : A.handled = none)
    (h : ∀ h' (t : Tok) tk, Fr h₀ L h' m → News h₀ L h' news → Q (.int c t) { s with heap := h', toks := tk }) : wpAny (model prog w) A (call (.builtin "max") [.ref l]) Q E s :=
  kso_max F N (N.isList hm) hi hc.1 hh (fun h' M t tk F' N' a b => by rw [hc.2 M a b]; exact h h' t tk F' N')
local macro_rules | `(tactic| walk_at "CompSrcT") => `(tactic| (k_here; (rename BG _ _ => hBG); k_dflt (
  (refine LCt.CompSrcT.range (by rfl) (by k_asm) (by k_asm) (by assumption) (by exact rg_small (by decide) (bd4 (by with_reducible assumption)) (bd5 (by with_reducible assumption))) (by exact rangeSize_nat _ _) (by exact rg_size (by decide) (bd5 (by with_reducible assumption))) ?_; intro g'; (refine' kci_rangeG hBG (fun k' t' I' oI' C' oC' D' m' ys' l' h' tk' E' hlo' hhi' hI' hC' hx' F' N' off' ne' => ?_) ?_); (all_goals (try ((show KPfMark → _); intro hMark'))); kcf_last))))



theorem one_int (a : Int) (t : Tok) : IntsAre [.int a t] [a] := .cons _ _ .nil
section
variable {prog : Program} {w : World} {A : Around} {E : Value → Shared → Prop} {s : Shared} {h₀ : Heap} {L : Addr} {news : List (Addr × Obj)} {Q : Value → Shared → Prop}
theorem ne_norm_ff {D2 D1 E2 E1 : Addr} {b : Int} {t t' : Tok} {vs us : List Value} {cnt : List Int} (N : News h₀ L s.heap news) (m2 : (D2, tupV #[.ref D1, .int b t]) ∈ news) (m1 : (D1, tupV vs.toArray) ∈ news) (hi : IntsAre vs cnt)
    (m2' : (E2, tupV #[.ref E1, .int b t']) ∈ news) (m1' : (E1, tupV us.toArray) ∈ news) (hj : IntsAre us cnt) (hu : A.units + 64 < cLine) (h : Q (.bool false) s) :
    wpAny (model prog w) A (compareOp .NotEq (.ref D2) (.ref E2)) Q E s :=
  ne_norm N m2 m1 hi m2' m1' hj hu (by rw [decide_eq_true (And.intro rfl rfl)]; exact h)
theorem eq_norm_tt {D2 D1 E2 E1 : Addr} {b : Int} {t t' : Tok} {vs us : List Value} {cnt : List Int} (N : News h₀ L s.heap news) (m2 : (D2, tupV #[.ref D1, .int b t]) ∈ news) (m1 : (D1, tupV vs.toArray) ∈ news) (hi : IntsAre vs cnt)
    (m2' : (E2, tupV #[.ref E1, .int b t']) ∈ news) (m1' : (E1, tupV us.toArray) ∈ news) (hj : IntsAre us cnt) (hu : A.units + 64 < cLine) (h : Q (.bool true) s) :
    wpAny (model prog w) A (compareOp .Eq (.ref D2) (.ref E2)) Q E s :=
  eq_norm N m2 m1 hi m2' m1' hj hu (by rw [decide_eq_true (And.intro rfl rfl)]; exact h)
theorem eq_norm_ff {D2 D1 E2 E1 : Addr} {b b' : Int} {t t' : Tok} {vs us : List Value} {cnt cnt' : List Int} (N : News h₀ L s.heap news) (m2 : (D2, tupV #[.ref D1, .int b t]) ∈ news) (m1 : (D1, tupV vs.toArray) ∈ news) (hi : IntsAre vs cnt)
    (m2' : (E2, tupV #[.ref E1, .int b' t']) ∈ news) (m1' : (E1, tupV us.toArray) ∈ news) (hj : IntsAre us cnt') (e : ¬ (cnt = cnt' ∧ b = b')) (hu : A.units + 64 < cLine) (h : Q (.bool false) s) :
    wpAny (model prog w) A (compareOp .Eq (.ref D2) (.ref E2)) Q E s :=
  eq_norm N m2 m1 hi m2' m1' hj hu (by rw [decide_eq_false e]; exact h)
end
theorem no_one {g g' b b' : Int} (h : g ≠ g' ∨ b ≠ b') : ¬ ([g] = [g'] ∧ b = b') := fun q => h.elim (fun n => n (List.cons.inj q.1).1) (fun n => n q.2)

theorem gbd_of {sp r : Int} (hsp : sp = 8 ∨ sp = 16 ∨ sp = 32) (h : r < sp - 1) (h0 : 0 ≤ r) : 1 ≤ bothI sp (1 + r) ∧ bothI sp (1 + r) ≤ 32 := p_gbd hsp (by omega) (by omega)
local macro_rules | `(tactic| lcg_src) => `(tactic| k_mem)

theorem first3 {a b c d : Prop} (h : a ∧ b ∧ c ∧ d) : a ∧ b ∧ c := ⟨h.1, h.2.1, h.2.2.1⟩
theorem comp_end_ws {h₀ : Heap} {L I C D D2 D1 X d : Addr} {m : Str → Option Value} {s₁ : Shared} {oI oC oD o2 o1 ox od : Obj} {S : List (Addr × Obj) → Prop} {R : Value → List (Addr × Obj) → Prop} {y : Value} {h' : Heap} {tk : Nat} {rest : List (Addr × Obj)}
    (F : Fr h₀ L h' m) (N : News h₀ L h' ((D2, o2) :: (D1, o1) :: (X, ox) :: (d, od) :: (I, oI) :: (C, oC) :: (D, oD) :: rest)) (off : LCg.Off3 I C D rest) (hS : S ((D2, o2) :: (D1, o1) :: (X, ox) :: (d, od) :: rest))
    (l : @LT.lt Nat _ I d ∧ @LT.lt Nat _ C d ∧ @LT.lt Nat _ D d) (q1 : @LT.lt Nat _ d X) (q2 : @LT.lt Nat _ X D1) (q3 : @LT.lt Nat _ D1 D2) (r : R y ((D2, o2) :: (D1, o1) :: (X, ox) :: (d, od) :: rest)) :
    LCg.CompEnd h₀ L m s₁ I oI C oC D oD S R y { s₁ with heap := h', toks := tk } := by
  obtain ⟨l1, l2, l3⟩ := l
  refine LCg.CompEnd.intro F N _ (fun p hp => ?_) (LCg.Off3.of fun p hp => ?_) hS r
  · simp only [List.mem_cons] at hp ⊢
    rcases hp with h | h | h | h | h | h | h | h
    · exact .inr (.inr (.inr (.inr (.inl h))))
    · exact .inr (.inr (.inr (.inr (.inr (.inl h)))))
    · exact .inr (.inr (.inr (.inr (.inr (.inr (.inl h))))))
    · exact .inl h
    · exact .inr (.inl h)
    · exact .inr (.inr (.inl h))
    · exact .inr (.inr (.inr (.inl h)))
    · exact .inr (.inr (.inr (.inr (.inr (.inr (.inr h))))))
  · have hX : ∀ z : Nat, @LT.lt Nat _ z d → @LT.lt Nat _ z X := fun z h => Nat.lt_trans h q1
    have h1 : ∀ z : Nat, @LT.lt Nat _ z d → @LT.lt Nat _ z D1 := fun z h => Nat.lt_trans (hX z h) q2
    have h2 : ∀ z : Nat, @LT.lt Nat _ z d → @LT.lt Nat _ z D2 := fun z h => Nat.lt_trans (h1 z h) q3
    rcases List.mem_cons.mp hp with rfl | hp
    · exact ⟨Nat.ne_of_gt (h2 _ l1), Nat.ne_of_gt (h2 _ l2), Nat.ne_of_gt (h2 _ l3)⟩
    rcases List.mem_cons.mp hp with rfl | hp
    · exact ⟨Nat.ne_of_gt (h1 _ l1), Nat.ne_of_gt (h1 _ l2), Nat.ne_of_gt (h1 _ l3)⟩
    rcases List.mem_cons.mp hp with rfl | hp
    · exact ⟨Nat.ne_of_gt (hX _ l1), Nat.ne_of_gt (hX _ l2), Nat.ne_of_gt (hX _ l3)⟩
    rcases List.mem_cons.mp hp with rfl | hp
    · exact ⟨Nat.ne_of_gt l1, Nat.ne_of_gt l2, Nat.ne_of_gt l3⟩
    exact LCg.Off3.mem off p hp

theorem news_tl {h₀ h : Heap} {L : Addr} {a : Addr × Obj} {rest : List (Addr × Obj)} (N : News h₀ L h (a :: rest)) : News h₀ L h rest := fun p hp => N p (List.mem_cons_of_mem _ hp)


section
variable {prog : Program} {w : World} {A : Around} {E : Value → Shared → Prop} {s : Shared} {h₀ : Heap} {L l : Addr} {m : Str → Option Value} {news : List (Addr × Obj)} {Q : Value → Shared → Prop}
theorem split_w {x y : Str} {t u : Tok} (hF : Fr h₀ L s.heap m) (hN : News h₀ L s.heap news) (hy : (y.length == 0) = false) (hsz : x.length + 2 ≤ sizeLine ∧ (Txt.split x y).length ≤ 64 ∧ ∀ p ∈ Txt.split x y, p.length ≤ 1000)
    (h : ∀ D l h' k, l.map (·.1) = Txt.split x y → (strValues l).toArray.size ≤ sizeLine → (∀ p ∈ Txt.split x y, p.length ≤ 1000) → Fr h₀ L h' m → News h₀ L h' ((D, W.listOf (strValues l).toArray 0) :: news) → (∀ p ∈ news, p.1 < D) → Q (.ref D) { s with heap := h', toks := k }) :
    wpAny (model prog w) A (call (.builtin "str.split") [.str x t, .str y u]) Q E s :=
  KSpl.split1 hF hN hy (fun D l h' k e _ F N l1 => h D l h' k e (by
    have := congrArg List.length e
    simp only [List.length_map] at this
    rw [List.size_toArray, strValues, List.length_map, this, PySem.sizeLine_eq]
    have := hsz.2.1
    omega) hsz.2.2 F N l1) hsz.1
theorem cut_last {value slice : PySem.Expr} {vs : List Value} {ns : List Int} {u : Tok} {kk : Nat} (F : Fr h₀ L s.heap m) (N : News h₀ L s.heap news) (hm : (l, W.listOf vs.toArray kk) ∈ news) (hi : IntsAre vs ns) (hz : ns.length ≤ 1000)
    (h : ∀ D ws h', IntsAre ws (ns.take (ns.length - 1)) → Fr h₀ L h' m → News h₀ L h' ((D, W.listOf (List.toArray ws) 0) :: news) → (∀ p ∈ news, p.1 < D) → Q (.ref D) { s with heap := h' })
    (hs : subscripted slice false (.ref l) (.ref s.heap.objs.size) = operate [.ref s.heap.objs.size, .ref l] (getItem (.ref l) (.ref s.heap.objs.size))) :
    wpAny (model prog w) A (subscriptTail value slice (.ref l) (.ref s.heap.objs.size)) Q E { s with heap := s.heap.push { cls := .type "slice", data := .fields #[.none, .int (-1) u, .none] } } := by
  refine kba_turn (value' := PySem.Expr.Name (PySem.Str.ofString "_") ⟨0, 0, 0, 0⟩) (fun _ => rfl) ?_
  refine kmk_slice_ints F N (N.isList hm) IsPart.none (IsPart.int _ _) hi (kmk_upto_neg hi (by decide)) rfl (fun D ws h' F' N' l1 hI _ _ => h D ws h' hI F' N' l1) hs (fun _ => rfl) ?_
  rw [List.size_toArray, hi.length, PySem.sizeLine_eq]; omega
end
section
variable {prog : Program} {w : World} {A : Around} {h₀ : Heap} {L : Addr} {m : Str → Option Value} {env : Env} {elt : Expr} {x : Str} {scope : Scope} {cl : List (Str × Addr)} {s : Shared} {S : List (Addr × Obj) → Prop} {P : Nat → Value → Prop} {Fin : List Value → List (Addr × Obj) → Prop} {news : List (Addr × Obj)}
theorem len_rest {l : List (Str × Tok)} {xt : Str} (e : l.map (·.1) = Txt.split xt (Str.ofString "\t")) (hP : ∀ p ∈ Txt.split xt (Str.ofString "\t"), p.length ≤ 1000)
    (turn : ∀ p t I oI C oC D m₂ ys h tk (E' : Value → Shared → Prop), p.length ≤ 1000 → LCg.NsObj oC m₂ → m₂ x = some (.str p t) → Fr h₀ L h m → News h₀ L h ((I, oI) :: (C, oC) :: (D, LCg.lst ys) :: news) → LCg.Off3 I C D news →
      wpAny (model prog w) A (eval elt (compEnvC scope cl C env)) (LCg.CompEnd h₀ L m { s with heap := h, toks := tk } I oI C oC D (LCg.lst ys) S (fun y news' => KCfEl news (p.length : Int) y news')) E' { s with heap := h, toks := tk })
    (fin : ∀ ys, IntsAre ys (gapsL xt) → Fin ys news) : LCg.CompRest prog w A h₀ L m env elt x scope cl s S (fun i v => (strValues l).toArray[i]? = some v) Fin (strValues l).toArray.size 0 [] news := by
  have hn : (strValues l).toArray.size = l.length := by rw [List.size_toArray, strValues, List.length_map]
  rw [hn]
  have key : ∀ (j i : Nat) (ys : List Value), i + j = l.length → IntsAre ys ((l.take i).map fun q => (q.1.length : Int)) → LCg.CompRest prog w A h₀ L m env elt x scope cl s S (fun i v => (strValues l).toArray[i]? = some v) Fin j i ys news := by
    intro j
    induction j with
    | zero =>
      intro i ys hi hy
      have e' : i = l.length := by omega
      subst e'
      rw [List.take_length] at hy
      refine LCg.CompRest.zero (fin ys ?_)
      unfold gapsL
      rw [← e, List.map_map]
      exact hy
    | succ j ih =>
      intro i ys hi hy
      refine LCg.CompRest.succ ?_
      intro v I oI C oC D m₂ h tk E' hv hC hx F N off ne
      have hlt : i < l.length := by omega
      have hv' : v = .str l[i].1 l[i].2 := by
        simp [strValues, hlt] at hv
        exact hv.symm
      rw [hv'] at hx
      refine wpAny_mono (turn l[i].1 l[i].2 I oI C oC D m₂ ys h tk E' (hP _ (by rw [← e]; exact List.mem_map.mpr ⟨l[i], List.getElem_mem hlt, rfl⟩)) hC hx F N off) (fun y s₂ hq => ?_) fun _ _ e => e
      obtain ⟨h', tk', nw, e', F', N', off', hS, hn', t', hy'⟩ := hq
      rw [hn'] at N' off' hS
      refine ⟨h', tk', news, e', F', N', off', hS, ?_⟩
      rw [hy']
      refine ih (i + 1) _ (by omega) ?_
      have hs : (l.take (i + 1)).map (fun q => (q.1.length : Int)) = (l.take i).map (fun q => (q.1.length : Int)) ++ [(l[i].1.length : Int)] := by
        rw [List.take_add_one, List.getElem?_eq_getElem hlt, List.map_append]; rfl
      rw [hs]
      exact IntsAre.append hy (.cons (l[i].1.length : Int) t' .nil)
  exact key l.length 0 [] (by omega) (by simp only [List.take_zero, List.map_nil]; exact .nil)
def AG (_x : Str) : Prop := True
theorem cnt_rest {n : Nat} {a : Int} {xt : Str} (_ : AG xt)
    (turn : ∀ k t I oI C oC D m₂ ys h tk (E' : Value → Shared → Prop), a ≤ k → k < a + (n : Int) → LCg.NsObj oC m₂ → m₂ x = some (.int k t) → Fr h₀ L h m → News h₀ L h ((I, oI) :: (C, oC) :: (D, LCg.lst ys) :: news) → LCg.Off3 I C D news → ((@Ne Nat I C) ∧ (@Ne Nat I D) ∧ (@Ne Nat C D)) → KPfMark →
      wpAny (model prog w) A (eval elt (compEnvC scope cl C env)) (LCg.CompEnd h₀ L m { s with heap := h, toks := tk } I oI C oC D (LCg.lst ys) S (fun y news' => KCfEl news ((aheadL xt).count k : Int) y news')) E' { s with heap := h, toks := tk })
    (fin : ∀ ys, IntsAre ys ((rangeKs a n).map fun k => ((aheadL xt).count k : Int)) → Fin ys news) : LCg.CompRest prog w A h₀ L m env elt x scope cl s S (fun i v => ∃ t, v = .int (a + (i : Int)) t) Fin n 0 [] news :=
  kcf_range (fun k => ((aheadL xt).count k : Int)) turn fin
end
theorem cf_end {h₀ : Heap} {L I C D : Addr} {m : Str → Option Value} {s₁ : Shared} {oI oC oD : Obj} {S : List (Addr × Obj) → Prop} {r : Int} {t : Tok} {h' : Heap} {tk : Nat} {news : List (Addr × Obj)}
    (F : Fr h₀ L h' m) (N : News h₀ L h' ((I, oI) :: (C, oC) :: (D, oD) :: news)) (off : LCg.Off3 I C D news) (hS : S news) :
    LCg.CompEnd h₀ L m s₁ I oI C oC D oD S (fun y news' => KCfEl news r y news') (.int r t) { s₁ with heap := h', toks := tk } :=
  LCg.CompEnd.intro F N news (fun _ hp => hp) off hS (kcf_el rfl rfl rfl)

theorem gaps_len {x : Str} (h : x.length + 2 ≤ sizeLine ∧ (Txt.split x (Str.ofString "\t")).length ≤ 64 ∧ ∀ p ∈ Txt.split x (Str.ofString "\t"), p.length ≤ 1000) : (gapsL x).length ≤ 1000 := by
  unfold gapsL; rw [List.length_map]; omega


theorem abd_of {x : Str} {ws : List Value} (_ : IntsAre ws ((gapsL x).take ((gapsL x).length - 1))) (h : 0 ≤ maxA x ∧ maxA x ≤ 64) : 0 ≤ maxA x ∧ maxA x ≤ 64 := h
theorem ag_of {x : Str} {ws : List Value} (_ : IntsAre ws ((gapsL x).take ((gapsL x).length - 1))) : AG x := True.intro
theorem cnt_size {n : Int} (f : Int → Int) (h : 0 ≤ n ∧ n ≤ 64) : ((rangeKs 0 (n + 1 - 0).toNat).map f).length ≤ 16384 := by
  rw [List.length_map, rangeKs_length]; omega
theorem fdiv_r {prog : Program} {w : World} {A : Around} {E : Value → Shared → Prop} {s : Shared} {a r sp : Int} {t u : Tok} {Q : Value → Shared → Prop} (hsp : sp = 8 ∨ sp = 16 ∨ sp = 32) (h1 : r < sp - 1) (h0 : 0 ≤ r) (h : Q (.int (a.fdiv (1 + r)) s.toks) { s with toks := s.toks + 1 }) :
    wpAny (model prog w) A (binaryOp .FloorDiv (.int a t) (.int (1 + r) u)) Q E s :=
  PyProof.Rows.floordiv_int (by omega) h (Or.inl (PyProof.noPylong_small (by omega)))

theorem is_tt {prog : Program} {w : World} {A : Around} {E : Value → Shared → Prop} {s : Shared} {a b : Bool} {Q : Value → Shared → Prop} (e : a = b) (h : Q (.bool true) s) : wpAny (model prog w) A (compareOp .Is (.bool a) (.bool b)) Q E s :=
  is_bool (by rw [e]; simpa using h)
/-- the law's end, apart: in the long proof a closer that falls on its way costs minutes (the elaborator then looks through every hole of the whole walk) -/
theorem law_end {cl : Str → Option Addr} {mean : ExcName → Option Value} {ns : List Int} {s₁ : Shared} {L : Addr} {m : Str → Option Value} {h' : Heap} {tk : Nat} (F : Fr s₁.heap L h' m) (hg : s₁.gens = #[]) :
    GoodW Challenge.rw_pk0086_01.row.claim cl mean [ofPy (PyData.list (ns.map PyData.int))] s₁ (.ok (.ret (.bool true))) { s₁ with heap := h', toks := tk } := by
  wrow_close

theorem lawT : Challenge.rw_pk0086_01.Holds := hd (by
  w_top off
  k_go0
  (all_goals try k_fold)
  have hIG : IG modM := True.intro
  have hMG : MG := True.intro
  have hB9 : NoneBooked _ := booked (by k_asm) (by k_asm)
  iterate 900 (first | ((fail_if_success (with_reducible show wpAny _ _ (call (Value.ref 125) _) _ _ _)); (first | (k_unfold; (try dsimp only)) | (k_end; wrow_close) | ((with_reducible show wpAny _ _ (call (Value.ref 118) _) _ _ _); with_reducible ((k_here; (with_reducible show wpAny _ _ (call (Value.ref 118) _) _ _ _); k_dflt (refine' walk_use (p_hue (by with_reducible assumption) ?u15h1 ?u15h2 ?u15h3 ?u15h4 ?u15h5 ?u15h6 ?u15h7 ?u15h8) ?u15b1 ?u15b2 ?u15b3 ?u15b4 ?u15b5 ?u15b6 ?u15b7 ?u15b8 ?u15b9 ?u15b10 ?u15B ?u15F ?u15X ?u15N ?u15T ?u15hk ?u15hd ?u15hu ?_; (case u15B => k_asm); (case u15F => k_asm); (case u15X => k_asm); (case u15N => k_asm); (case u15T => k_asm); (case u15hk => first | exact rfl | assumption); (case u15hd => first | exact Nat.le_of_ble_eq_true rfl | ktr_room); (case u15hu => first | exact Nat.le_of_ble_eq_true rfl | ktr_units); (case u15h1 => first | with_reducible assumption | with_reducible exact bd1 (by with_reducible assumption) | with_reducible exact bd2 (by with_reducible assumption) | with_reducible exact bd3 (by with_reducible assumption) | with_reducible exact bd4 (by with_reducible assumption) | with_reducible exact bd5 (by with_reducible assumption) | with_reducible exact bd6 (by with_reducible assumption) | with_reducible exact bd7 (by with_reducible assumption) (by with_reducible assumption) | with_reducible exact bd8 (by with_reducible assumption) (by with_reducible assumption) | omega); (case u15h2 => first | with_reducible assumption | with_reducible exact bd1 (by with_reducible assumption) | with_reducible exact bd2 (by with_reducible assumption) | with_reducible exact bd3 (by with_reducible assumption) | with_reducible exact bd4 (by with_reducible assumption) | with_reducible exact bd5 (by with_reducible assumption) | with_reducible exact bd6 (by with_reducible assumption) | with_reducible exact bd7 (by with_reducible assumption) (by with_reducible assumption) | with_reducible exact bd8 (by with_reducible assumption) (by with_reducible assumption) | omega); (case u15h3 => first | with_reducible assumption | with_reducible exact bd1 (by with_reducible assumption) | with_reducible exact bd2 (by with_reducible assumption) | with_reducible exact bd3 (by with_reducible assumption) | with_reducible exact bd4 (by with_reducible assumption) | with_reducible exact bd5 (by with_reducible assumption) | with_reducible exact bd6 (by with_reducible assumption) | with_reducible exact bd7 (by with_reducible assumption) (by with_reducible assumption) | with_reducible exact bd8 (by with_reducible assumption) (by with_reducible assumption) | omega); (case u15h4 => first | with_reducible assumption | with_reducible exact bd1 (by with_reducible assumption) | with_reducible exact bd2 (by with_reducible assumption) | with_reducible exact bd3 (by with_reducible assumption) | with_reducible exact bd4 (by with_reducible assumption) | with_reducible exact bd5 (by with_reducible assumption) | with_reducible exact bd6 (by with_reducible assumption) | with_reducible exact bd7 (by with_reducible assumption) (by with_reducible assumption) | with_reducible exact bd8 (by with_reducible assumption) (by with_reducible assumption) | omega); (case u15h5 => first | with_reducible assumption | with_reducible exact bd1 (by with_reducible assumption) | with_reducible exact bd2 (by with_reducible assumption) | with_reducible exact bd3 (by with_reducible assumption) | with_reducible exact bd4 (by with_reducible assumption) | with_reducible exact bd5 (by with_reducible assumption) | with_reducible exact bd6 (by with_reducible assumption) | with_reducible exact bd7 (by with_reducible assumption) (by with_reducible assumption) | with_reducible exact bd8 (by with_reducible assumption) (by with_reducible assumption) | omega); (case u15h6 => first | with_reducible assumption | with_reducible exact bd1 (by with_reducible assumption) | with_reducible exact bd2 (by with_reducible assumption) | with_reducible exact bd3 (by with_reducible assumption) | with_reducible exact bd4 (by with_reducible assumption) | with_reducible exact bd5 (by with_reducible assumption) | with_reducible exact bd6 (by with_reducible assumption) | with_reducible exact bd7 (by with_reducible assumption) (by with_reducible assumption) | with_reducible exact bd8 (by with_reducible assumption) (by with_reducible assumption) | omega); (case u15h7 => first | with_reducible assumption | with_reducible exact bd1 (by with_reducible assumption) | with_reducible exact bd2 (by with_reducible assumption) | with_reducible exact bd3 (by with_reducible assumption) | with_reducible exact bd4 (by with_reducible assumption) | with_reducible exact bd5 (by with_reducible assumption) | with_reducible exact bd6 (by with_reducible assumption) | with_reducible exact bd7 (by with_reducible assumption) (by with_reducible assumption) | with_reducible exact bd8 (by with_reducible assumption) (by with_reducible assumption) | omega); (case u15h8 => first | with_reducible assumption | with_reducible exact bd1 (by with_reducible assumption) | with_reducible exact bd2 (by with_reducible assumption) | with_reducible exact bd3 (by with_reducible assumption) | with_reducible exact bd4 (by with_reducible assumption) | with_reducible exact bd5 (by with_reducible assumption) | with_reducible exact bd6 (by with_reducible assumption) | with_reducible exact bd7 (by with_reducible assumption) (by with_reducible assumption) | with_reducible exact bd8 (by with_reducible assumption) (by with_reducible assumption) | omega); (case u15b1 => first | with_reducible assumption | with_reducible exact bd1 (by with_reducible assumption) | with_reducible exact bd2 (by with_reducible assumption) | with_reducible exact bd3 (by with_reducible assumption) | with_reducible exact bd4 (by with_reducible assumption) | with_reducible exact bd5 (by with_reducible assumption) | with_reducible exact bd6 (by with_reducible assumption) | with_reducible exact bd7 (by with_reducible assumption) (by with_reducible assumption) | with_reducible exact bd8 (by with_reducible assumption) (by with_reducible assumption) | omega); (case u15b2 => first | with_reducible assumption | with_reducible exact bd1 (by with_reducible assumption) | with_reducible exact bd2 (by with_reducible assumption) | with_reducible exact bd3 (by with_reducible assumption) | with_reducible exact bd4 (by with_reducible assumption) | with_reducible exact bd5 (by with_reducible assumption) | with_reducible exact bd6 (by with_reducible assumption) | with_reducible exact bd7 (by with_reducible assumption) (by with_reducible assumption) | with_reducible exact bd8 (by with_reducible assumption) (by with_reducible assumption) | omega); (case u15b3 => first | with_reducible assumption | with_reducible exact bd1 (by with_reducible assumption) | with_reducible exact bd2 (by with_reducible assumption) | with_reducible exact bd3 (by with_reducible assumption) | with_reducible exact bd4 (by with_reducible assumption) | with_reducible exact bd5 (by with_reducible assumption) | with_reducible exact bd6 (by with_reducible assumption) | with_reducible exact bd7 (by with_reducible assumption) (by with_reducible assumption) | with_reducible exact bd8 (by with_reducible assumption) (by with_reducible assumption) | omega); (case u15b4 => first | with_reducible assumption | with_reducible exact bd1 (by with_reducible assumption) | with_reducible exact bd2 (by with_reducible assumption) | with_reducible exact bd3 (by with_reducible assumption) | with_reducible exact bd4 (by with_reducible assumption) | with_reducible exact bd5 (by with_reducible assumption) | with_reducible exact bd6 (by with_reducible assumption) | with_reducible exact bd7 (by with_reducible assumption) (by with_reducible assumption) | with_reducible exact bd8 (by with_reducible assumption) (by with_reducible assumption) | omega); (case u15b5 => first | with_reducible assumption | with_reducible exact bd1 (by with_reducible assumption) | with_reducible exact bd2 (by with_reducible assumption) | with_reducible exact bd3 (by with_reducible assumption) | with_reducible exact bd4 (by with_reducible assumption) | with_reducible exact bd5 (by with_reducible assumption) | with_reducible exact bd6 (by with_reducible assumption) | with_reducible exact bd7 (by with_reducible assumption) (by with_reducible assumption) | with_reducible exact bd8 (by with_reducible assumption) (by with_reducible assumption) | omega); (case u15b6 => first | with_reducible assumption | with_reducible exact bd1 (by with_reducible assumption) | with_reducible exact bd2 (by with_reducible assumption) | with_reducible exact bd3 (by with_reducible assumption) | with_reducible exact bd4 (by with_reducible assumption) | with_reducible exact bd5 (by with_reducible assumption) | with_reducible exact bd6 (by with_reducible assumption) | with_reducible exact bd7 (by with_reducible assumption) (by with_reducible assumption) | with_reducible exact bd8 (by with_reducible assumption) (by with_reducible assumption) | omega); (case u15b7 => first | with_reducible assumption | with_reducible exact bd1 (by with_reducible assumption) | with_reducible exact bd2 (by with_reducible assumption) | with_reducible exact bd3 (by with_reducible assumption) | with_reducible exact bd4 (by with_reducible assumption) | with_reducible exact bd5 (by with_reducible assumption) | with_reducible exact bd6 (by with_reducible assumption) | with_reducible exact bd7 (by with_reducible assumption) (by with_reducible assumption) | with_reducible exact bd8 (by with_reducible assumption) (by with_reducible assumption) | omega); (case u15b8 => first | with_reducible assumption | with_reducible exact bd1 (by with_reducible assumption) | with_reducible exact bd2 (by with_reducible assumption) | with_reducible exact bd3 (by with_reducible assumption) | with_reducible exact bd4 (by with_reducible assumption) | with_reducible exact bd5 (by with_reducible assumption) | with_reducible exact bd6 (by with_reducible assumption) | with_reducible exact bd7 (by with_reducible assumption) (by with_reducible assumption) | with_reducible exact bd8 (by with_reducible assumption) (by with_reducible assumption) | omega); (case u15b9 => first | with_reducible assumption | with_reducible exact bd1 (by with_reducible assumption) | with_reducible exact bd2 (by with_reducible assumption) | with_reducible exact bd3 (by with_reducible assumption) | with_reducible exact bd4 (by with_reducible assumption) | with_reducible exact bd5 (by with_reducible assumption) | with_reducible exact bd6 (by with_reducible assumption) | with_reducible exact bd7 (by with_reducible assumption) (by with_reducible assumption) | with_reducible exact bd8 (by with_reducible assumption) (by with_reducible assumption) | omega); (case u15b10 => first | with_reducible assumption | with_reducible exact bd1 (by with_reducible assumption) | with_reducible exact bd2 (by with_reducible assumption) | with_reducible exact bd3 (by with_reducible assumption) | with_reducible exact bd4 (by with_reducible assumption) | with_reducible exact bd5 (by with_reducible assumption) | with_reducible exact bd6 (by with_reducible assumption) | with_reducible exact bd7 (by with_reducible assumption) (by with_reducible assumption) | with_reducible exact bd8 (by with_reducible assumption) (by with_reducible assumption) | omega); k_whole); intro tq' hq' tkq' Fq' Nq'))) | ((with_reducible show wpAny _ _ (compareOp CmpOp.NotEq (Value.ref _) (Value.ref _)) _ _ _); with_reducible ((k_here; k_dflt (refine' ne_tup2 ?u14N ?u14hx ?u14hy (p_back ?u14h3 ?u14h4) ?u14q4 ?u14q5 ?u14q6 ?u14r4 ?u14r5 ?u14r6 (p_self0 ?u14h5 ?u14h6) ?u14hb ?u14hu ?_; (case u14N => k_asm); (case u14hx => with_reducible kcf_m); (case u14hy => with_reducible kcf_m); (case u14h3 => first | with_reducible assumption | with_reducible exact bd1 (by with_reducible assumption) | with_reducible exact bd2 (by with_reducible assumption) | with_reducible exact bd3 (by with_reducible assumption) | with_reducible exact bd4 (by with_reducible assumption) | with_reducible exact bd5 (by with_reducible assumption) | with_reducible exact bd6 (by with_reducible assumption) | with_reducible exact bd7 (by with_reducible assumption) (by with_reducible assumption) | with_reducible exact bd8 (by with_reducible assumption) (by with_reducible assumption) | omega); (case u14h4 => first | with_reducible assumption | with_reducible exact bd1 (by with_reducible assumption) | with_reducible exact bd2 (by with_reducible assumption) | with_reducible exact bd3 (by with_reducible assumption) | with_reducible exact bd4 (by with_reducible assumption) | with_reducible exact bd5 (by with_reducible assumption) | with_reducible exact bd6 (by with_reducible assumption) | with_reducible exact bd7 (by with_reducible assumption) (by with_reducible assumption) | with_reducible exact bd8 (by with_reducible assumption) (by with_reducible assumption) | omega); (case u14h5 => first | with_reducible assumption | with_reducible exact bd1 (by with_reducible assumption) | with_reducible exact bd2 (by with_reducible assumption) | with_reducible exact bd3 (by with_reducible assumption) | with_reducible exact bd4 (by with_reducible assumption) | with_reducible exact bd5 (by with_reducible assumption) | with_reducible exact bd6 (by with_reducible assumption) | with_reducible exact bd7 (by with_reducible assumption) (by with_reducible assumption) | with_reducible exact bd8 (by with_reducible assumption) (by with_reducible assumption) | omega); (case u14h6 => first | with_reducible assumption | with_reducible exact bd1 (by with_reducible assumption) | with_reducible exact bd2 (by with_reducible assumption) | with_reducible exact bd3 (by with_reducible assumption) | with_reducible exact bd4 (by with_reducible assumption) | with_reducible exact bd5 (by with_reducible assumption) | with_reducible exact bd6 (by with_reducible assumption) | with_reducible exact bd7 (by with_reducible assumption) (by with_reducible assumption) | with_reducible exact bd8 (by with_reducible assumption) (by with_reducible assumption) | omega); (case u14q4 => with_reducible assumption); (case u14q5 => with_reducible assumption); (case u14q6 => with_reducible assumption); (case u14r4 => first | with_reducible assumption | exact Nat.succ_pos _); (case u14r5 => first | with_reducible assumption | exact Nat.succ_pos _); (case u14r6 => first | with_reducible assumption | exact Nat.succ_pos _); (case u14hb => exact booked_at (by with_reducible assumption) (by k_asm)); (case u14hu => first | exact Nat.le_of_ble_eq_true rfl | ktr_units); k_whole)))) | ((with_reducible show wpAny _ _ (compareOp CmpOp.NotEq (Value.ref _) (Value.ref _)) _ _ _); with_reducible ((k_here; k_dflt (refine' ne_tup2 ?u13N ?u13hx ?u13hy (p_grey (by with_reducible assumption) ?u13h1 ?u13h2 ?u13h3 ?u13h4) ?u13q4 ?u13q5 ?u13q6 ?u13r4 ?u13r5 ?u13r6 (p_self ?u13h5 ?u13h6) ?u13hb ?u13hu ?_; (case u13N => k_asm); (case u13hx => with_reducible kcf_m); (case u13hy => with_reducible kcf_m); (case u13h1 => first | with_reducible assumption | with_reducible exact bd1 (by with_reducible assumption) | with_reducible exact bd2 (by with_reducible assumption) | with_reducible exact bd3 (by with_reducible assumption) | with_reducible exact bd4 (by with_reducible assumption) | with_reducible exact bd5 (by with_reducible assumption) | with_reducible exact bd6 (by with_reducible assumption) | with_reducible exact bd7 (by with_reducible assumption) (by with_reducible assumption) | with_reducible exact bd8 (by with_reducible assumption) (by with_reducible assumption) | omega); (case u13h2 => first | with_reducible assumption | with_reducible exact bd1 (by with_reducible assumption) | with_reducible exact bd2 (by with_reducible assumption) | with_reducible exact bd3 (by with_reducible assumption) | with_reducible exact bd4 (by with_reducible assumption) | with_reducible exact bd5 (by with_reducible assumption) | with_reducible exact bd6 (by with_reducible assumption) | with_reducible exact bd7 (by with_reducible assumption) (by with_reducible assumption) | with_reducible exact bd8 (by with_reducible assumption) (by with_reducible assumption) | omega); (case u13h3 => first | with_reducible assumption | with_reducible exact bd1 (by with_reducible assumption) | with_reducible exact bd2 (by with_reducible assumption) | with_reducible exact bd3 (by with_reducible assumption) | with_reducible exact bd4 (by with_reducible assumption) | with_reducible exact bd5 (by with_reducible assumption) | with_reducible exact bd6 (by with_reducible assumption) | with_reducible exact bd7 (by with_reducible assumption) (by with_reducible assumption) | with_reducible exact bd8 (by with_reducible assumption) (by with_reducible assumption) | omega); (case u13h4 => first | with_reducible assumption | with_reducible exact bd1 (by with_reducible assumption) | with_reducible exact bd2 (by with_reducible assumption) | with_reducible exact bd3 (by with_reducible assumption) | with_reducible exact bd4 (by with_reducible assumption) | with_reducible exact bd5 (by with_reducible assumption) | with_reducible exact bd6 (by with_reducible assumption) | with_reducible exact bd7 (by with_reducible assumption) (by with_reducible assumption) | with_reducible exact bd8 (by with_reducible assumption) (by with_reducible assumption) | omega); (case u13h5 => first | with_reducible assumption | with_reducible exact bd1 (by with_reducible assumption) | with_reducible exact bd2 (by with_reducible assumption) | with_reducible exact bd3 (by with_reducible assumption) | with_reducible exact bd4 (by with_reducible assumption) | with_reducible exact bd5 (by with_reducible assumption) | with_reducible exact bd6 (by with_reducible assumption) | with_reducible exact bd7 (by with_reducible assumption) (by with_reducible assumption) | with_reducible exact bd8 (by with_reducible assumption) (by with_reducible assumption) | omega); (case u13h6 => first | with_reducible assumption | with_reducible exact bd1 (by with_reducible assumption) | with_reducible exact bd2 (by with_reducible assumption) | with_reducible exact bd3 (by with_reducible assumption) | with_reducible exact bd4 (by with_reducible assumption) | with_reducible exact bd5 (by with_reducible assumption) | with_reducible exact bd6 (by with_reducible assumption) | with_reducible exact bd7 (by with_reducible assumption) (by with_reducible assumption) | with_reducible exact bd8 (by with_reducible assumption) (by with_reducible assumption) | omega); (case u13q4 => with_reducible assumption); (case u13q5 => with_reducible assumption); (case u13q6 => with_reducible assumption); (case u13r4 => first | with_reducible assumption | exact Nat.succ_pos _); (case u13r5 => first | with_reducible assumption | exact Nat.succ_pos _); (case u13r6 => first | with_reducible assumption | exact Nat.succ_pos _); (case u13hb => exact booked_at (by with_reducible assumption) (by k_asm)); (case u13hu => first | exact Nat.le_of_ble_eq_true rfl | ktr_units); k_whole)))) | ((with_reducible show wpAny _ _ (call (Value.ref 28) _) _ _ _); with_reducible ((k_here; (with_reducible show wpAny _ _ (call (Value.ref 28) _) _ _ _); k_dflt (refine' rgb_useP ?u10p1 ?u10p2 ?u10p3 (p_zero ?u10h1 ?u10h2) ?u10B ?u10F ?u10X ?u10N ?u10T ?u10hk ?u10hd ?u10hu ?_; (case u10B => k_asm); (case u10F => k_asm); (case u10X => k_asm); (case u10N => k_asm); (case u10T => k_asm); (case u10hk => first | exact rfl | assumption); (case u10h1 => first | with_reducible assumption | with_reducible exact bd1 (by with_reducible assumption) | with_reducible exact bd2 (by with_reducible assumption) | with_reducible exact bd3 (by with_reducible assumption) | with_reducible exact bd4 (by with_reducible assumption) | with_reducible exact bd5 (by with_reducible assumption) | with_reducible exact bd6 (by with_reducible assumption) | with_reducible exact bd7 (by with_reducible assumption) (by with_reducible assumption) | with_reducible exact bd8 (by with_reducible assumption) (by with_reducible assumption) | omega); (case u10h2 => first | with_reducible assumption | with_reducible exact bd1 (by with_reducible assumption) | with_reducible exact bd2 (by with_reducible assumption) | with_reducible exact bd3 (by with_reducible assumption) | with_reducible exact bd4 (by with_reducible assumption) | with_reducible exact bd5 (by with_reducible assumption) | with_reducible exact bd6 (by with_reducible assumption) | with_reducible exact bd7 (by with_reducible assumption) (by with_reducible assumption) | with_reducible exact bd8 (by with_reducible assumption) (by with_reducible assumption) | omega); (case u10p1 => first | with_reducible assumption | exact Nat.succ_pos _); (case u10p2 => first | with_reducible assumption | exact Nat.succ_pos _); (case u10p3 => first | with_reducible assumption | exact Nat.succ_pos _); (case u10hd => first | exact Nat.le_of_ble_eq_true rfl | ktr_room); (case u10hu => first | exact Nat.le_of_ble_eq_true rfl | ktr_units); k_whole); intro Dq' t4q' t5q' t6q' hq' tkq' q0q' q4q' q5q' q6q' Fq' Nq' l1q; (try k_lt l1q)))) | ((with_reducible show wpAny _ _ (call (Value.ref 35) _) _ _ _); with_reducible ((k_here; (with_reducible show wpAny _ _ (call (Value.ref 35) _) _ _ _); k_dflt (refine' hsv_use ?u9p1 ?u9p2 ?u9p3 (p_fin (by with_reducible assumption) ?u9h1 ?u9h2) (p_int (by with_reducible assumption) ?u9h3 ?u9h4) ?u9B ?u9F ?u9X ?u9N ?u9T ?u9hk ?u9hd ?u9hu ?_; (case u9B => k_asm); (case u9F => k_asm); (case u9X => k_asm); (case u9N => k_asm); (case u9T => k_asm); (case u9hk => first | exact rfl | assumption); (case u9h1 => first | with_reducible assumption | with_reducible exact bd1 (by with_reducible assumption) | with_reducible exact bd2 (by with_reducible assumption) | with_reducible exact bd3 (by with_reducible assumption) | with_reducible exact bd4 (by with_reducible assumption) | with_reducible exact bd5 (by with_reducible assumption) | with_reducible exact bd6 (by with_reducible assumption) | with_reducible exact bd7 (by with_reducible assumption) (by with_reducible assumption) | with_reducible exact bd8 (by with_reducible assumption) (by with_reducible assumption) | omega); (case u9h2 => first | with_reducible assumption | with_reducible exact bd1 (by with_reducible assumption) | with_reducible exact bd2 (by with_reducible assumption) | with_reducible exact bd3 (by with_reducible assumption) | with_reducible exact bd4 (by with_reducible assumption) | with_reducible exact bd5 (by with_reducible assumption) | with_reducible exact bd6 (by with_reducible assumption) | with_reducible exact bd7 (by with_reducible assumption) (by with_reducible assumption) | with_reducible exact bd8 (by with_reducible assumption) (by with_reducible assumption) | omega); (case u9h3 => first | with_reducible assumption | with_reducible exact bd1 (by with_reducible assumption) | with_reducible exact bd2 (by with_reducible assumption) | with_reducible exact bd3 (by with_reducible assumption) | with_reducible exact bd4 (by with_reducible assumption) | with_reducible exact bd5 (by with_reducible assumption) | with_reducible exact bd6 (by with_reducible assumption) | with_reducible exact bd7 (by with_reducible assumption) (by with_reducible assumption) | with_reducible exact bd8 (by with_reducible assumption) (by with_reducible assumption) | omega); (case u9h4 => first | with_reducible assumption | with_reducible exact bd1 (by with_reducible assumption) | with_reducible exact bd2 (by with_reducible assumption) | with_reducible exact bd3 (by with_reducible assumption) | with_reducible exact bd4 (by with_reducible assumption) | with_reducible exact bd5 (by with_reducible assumption) | with_reducible exact bd6 (by with_reducible assumption) | with_reducible exact bd7 (by with_reducible assumption) (by with_reducible assumption) | with_reducible exact bd8 (by with_reducible assumption) (by with_reducible assumption) | omega); (case u9p1 => first | with_reducible assumption | exact Nat.succ_pos _); (case u9p2 => first | with_reducible assumption | exact Nat.succ_pos _); (case u9p3 => first | with_reducible assumption | exact Nat.succ_pos _); (case u9hd => first | exact Nat.le_of_ble_eq_true rfl | ktr_room); (case u9hu => first | exact Nat.le_of_ble_eq_true rfl | ktr_units); k_whole); intro Dq' t4q' t5q' t6q' hq' tkq' q4q' q5q' q6q' Fq' Nq' l1q; (try k_lt l1q)))) | ((with_reducible show @ite Prop ((@BEq.beq PySem.Str _ (walkT _ _ _) _) = true) _ _ _); with_reducible ((k_here; (with_reducible show @ite Prop ((@BEq.beq PySem.Str _ (walkT _ _ _) _) = true) _ _ _); (with_reducible refine' ite_str rfl (p_text (by with_reducible assumption) ?u8h1 ?u8h2 ?u8h3 ?u8h4) ?_; (case u8h1 => first | with_reducible assumption | with_reducible exact bd1 (by with_reducible assumption) | with_reducible exact bd2 (by with_reducible assumption) | with_reducible exact bd3 (by with_reducible assumption) | with_reducible exact bd4 (by with_reducible assumption) | with_reducible exact bd5 (by with_reducible assumption) | with_reducible exact bd6 (by with_reducible assumption) | with_reducible exact bd7 (by with_reducible assumption) (by with_reducible assumption) | with_reducible exact bd8 (by with_reducible assumption) (by with_reducible assumption) | omega); (case u8h2 => first | with_reducible assumption | with_reducible exact bd1 (by with_reducible assumption) | with_reducible exact bd2 (by with_reducible assumption) | with_reducible exact bd3 (by with_reducible assumption) | with_reducible exact bd4 (by with_reducible assumption) | with_reducible exact bd5 (by with_reducible assumption) | with_reducible exact bd6 (by with_reducible assumption) | with_reducible exact bd7 (by with_reducible assumption) (by with_reducible assumption) | with_reducible exact bd8 (by with_reducible assumption) (by with_reducible assumption) | omega); (case u8h3 => first | with_reducible assumption | with_reducible exact bd1 (by with_reducible assumption) | with_reducible exact bd2 (by with_reducible assumption) | with_reducible exact bd3 (by with_reducible assumption) | with_reducible exact bd4 (by with_reducible assumption) | with_reducible exact bd5 (by with_reducible assumption) | with_reducible exact bd6 (by with_reducible assumption) | with_reducible exact bd7 (by with_reducible assumption) (by with_reducible assumption) | with_reducible exact bd8 (by with_reducible assumption) (by with_reducible assumption) | omega); (case u8h4 => first | with_reducible assumption | with_reducible exact bd1 (by with_reducible assumption) | with_reducible exact bd2 (by with_reducible assumption) | with_reducible exact bd3 (by with_reducible assumption) | with_reducible exact bd4 (by with_reducible assumption) | with_reducible exact bd5 (by with_reducible assumption) | with_reducible exact bd6 (by with_reducible assumption) | with_reducible exact bd7 (by with_reducible assumption) (by with_reducible assumption) | with_reducible exact bd8 (by with_reducible assumption) (by with_reducible assumption) | omega))))) | ((with_reducible show wpAny _ _ (binaryOp Operator.Div (Value.int _ _) (Value.int _ _)) _ _ _); with_reducible ((k_here; refine div_r rfl ?u7ha ?u7hb ?_; (case u7ha => first | with_reducible assumption | with_reducible exact bd1 (by with_reducible assumption) | with_reducible exact bd2 (by with_reducible assumption) | with_reducible exact bd3 (by with_reducible assumption) | with_reducible exact bd4 (by with_reducible assumption) | with_reducible exact bd5 (by with_reducible assumption) | with_reducible exact bd6 (by with_reducible assumption) | with_reducible exact bd7 (by with_reducible assumption) (by with_reducible assumption) | with_reducible exact bd8 (by with_reducible assumption) (by with_reducible assumption) | omega); (case u7hb => first | with_reducible assumption | with_reducible exact bd1 (by with_reducible assumption) | with_reducible exact bd2 (by with_reducible assumption) | with_reducible exact bd3 (by with_reducible assumption) | with_reducible exact bd4 (by with_reducible assumption) | with_reducible exact bd5 (by with_reducible assumption) | with_reducible exact bd6 (by with_reducible assumption) | with_reducible exact bd7 (by with_reducible assumption) (by with_reducible assumption) | with_reducible exact bd8 (by with_reducible assumption) (by with_reducible assumption) | omega)))) | ((with_reducible show wpAny _ _ (binaryOp Operator.Mod (Value.int _ _) (Value.int _ _)) _ _ _); with_reducible ((k_here; (rename MG => hMG); (refine mod_gen hMG ?u6hb ?_; (case u6hb => first | with_reducible assumption | with_reducible exact bd1 (by with_reducible assumption) | with_reducible exact bd2 (by with_reducible assumption) | with_reducible exact bd3 (by with_reducible assumption) | with_reducible exact bd4 (by with_reducible assumption) | with_reducible exact bd5 (by with_reducible assumption) | with_reducible exact bd6 (by with_reducible assumption) | with_reducible exact bd7 (by with_reducible assumption) (by with_reducible assumption) | with_reducible exact bd8 (by with_reducible assumption) (by with_reducible assumption) | omega)); intro rq' hr1q' hr2q'))) | ((with_reducible show wpAny _ _ (execs [] _) _ _ _); with_reducible ((k_here; first | (with_reducible refine gen_toks ?_; intro tkq htkq) | (refine gen_toks2 (Nat.le_of_ble_eq_true rfl) ?_; intro tkq htkq)))) | ((with_reducible show wpAny _ _ (execs (_ :: _) _) _ _ _); with_reducible ((k_here; first | (with_reducible refine gen_toks ?_; intro tkq htkq) | (refine gen_toks2 (Nat.le_of_ble_eq_true rfl) ?_; intro tkq htkq)))) | ((with_reducible show wpAny _ _ (subscriptTail (Expr.Tuple (_ :: _) _ _) (Expr.BinOp _ _ _ _) (Value.ref _) (Value.int _ _)) _ _ _); with_reducible ((k_here; k_dflt (refine' spots_r ?u3N ?u3hm ?u3h0 ?u3h1 ?_ ?u3s; (case u3N => k_asm); (case u3hm => k_mem); (case u3h0 => first | with_reducible assumption | with_reducible exact bd1 (by with_reducible assumption) | with_reducible exact bd2 (by with_reducible assumption) | with_reducible exact bd3 (by with_reducible assumption) | with_reducible exact bd4 (by with_reducible assumption) | with_reducible exact bd5 (by with_reducible assumption) | with_reducible exact bd6 (by with_reducible assumption) | with_reducible exact bd7 (by with_reducible assumption) (by with_reducible assumption) | with_reducible exact bd8 (by with_reducible assumption) (by with_reducible assumption) | omega); (case u3h1 => first | with_reducible assumption | with_reducible exact bd1 (by with_reducible assumption) | with_reducible exact bd2 (by with_reducible assumption) | with_reducible exact bd3 (by with_reducible assumption) | with_reducible exact bd4 (by with_reducible assumption) | with_reducible exact bd5 (by with_reducible assumption) | with_reducible exact bd6 (by with_reducible assumption) | with_reducible exact bd7 (by with_reducible assumption) (by with_reducible assumption) | with_reducible exact bd8 (by with_reducible assumption) (by with_reducible assumption) | omega); (case u3s => with_unfolding_all rfl)); intro spq' tq' hspq'))) | ((with_reducible show wpAny _ _ (assign (Expr.Tuple (_ :: _) _ _) _ (Value.ref _)) _ _ _); with_reducible ((k_here; (with_reducible rename IntsAre _ (List.take (Int.toNat 4) _) => hI9); (obtain ⟨a1, a2, a3, a4, ta1, ta2, ta3, ta4, e9, ha1, ha2, ha3, ha4⟩ := four_of rfl hI9); subst e9; clear hI9; (rename News _ _ _ _ => N9); (have Nq' := news_top5 N9); clear N9; (try (with_reducible rename IntsAre _ (_ ++ _) => z1; clear z1)); (try (with_reducible rename IntsAre _ (List.drop _ _) => z1; clear z1)); (try (with_reducible rename _ = (List.map _ _).length => z1; clear z1)); (try (with_reducible rename IntsAre _ (List.map _ _) => z1; clear z1)); (try (with_reducible rename (List.take 63 _).length = _ => z1; clear z1)); (try (with_reducible rename (List.take 63 _).length ≤ _ => z1; clear z1)); (try (with_reducible rename IntsAre _ (List.take _ _) => z1; clear z1))))) | ((with_reducible show wpAny _ _ (subscriptTail (Expr.BinOp (Expr.ListComp _ _ _ _) Operator.Add (Expr.Subscript _ _ _) _) (Expr.Slice _ _ _ _) (Value.ref _) (Value.ref _)) _ _ _); with_reducible ((k_here; k_dflt (refine' cut_to (s := ⟨_, _, _, _, _⟩) ?u2F ?u2N ?u2l ?u2i ?u2z ?u2z2 ?_ ?u2s; (case u2F => k_asm); (case u2N => k_asm); (case u2l => k_mem); (case u2i => l_ints); (case u2z => decide); (case u2z2 => ((simp only [List.length_append, List.length_map, List.length_take, List.length_drop, List.length_cons, List.length_nil]); omega)); (case u2s => with_unfolding_all rfl)); intro Dq' wsq' hq' hIq' Fq' Nq' l1q; (try k_lt l1q)))) | ((with_reducible show wpAny _ _ (subscriptTail (Expr.List (_ :: _) _) (Expr.Slice _ _ _ _) (Value.ref _) (Value.ref _)) _ _ _); with_reducible ((k_here; k_dflt (refine' cut_from (s := ⟨_, _, _, _, _⟩) ?u1F ?u1N ?u1l ?u1i ?u1z ?u1z2 ?_ ?u1s; (case u1F => k_asm); (case u1N => k_asm); (case u1l => k_mem); (case u1i => exact four_ints _ _ _ _); (case u1z => exact Int.natCast_nonneg _); (case u1z2 => decide); (case u1s => with_unfolding_all rfl)); intro Dq' wsq' hq' hIq' Fq' Nq' l1q; (try k_lt l1q)))) | ((with_reducible show KCfEl _ _ _ _); with_reducible (exact modM_el (by rfl) (by rfl))) | ((with_reducible show LCg.CompSrc _ _ _ _ _ _ _ _ _ _ _ _ _ _); with_reducible ((k_here; (rename IG _ => hIG); k_dflt ( (refine LCg.CompSrc.ledger (by rfl) (by k_asm) (by k_asm) (by k_mem) (by kcf_size) ?_; intro gq'; (refine' kcf_listG hIG (by first | assumption | l_ints) (fun kq' tq' Iq' oIq' Cq' oCq' Dq' mq' ysq' hq' tkq' Eq' hkq' hCq' hxq' Fq' Nq' offq' neq' hMarkq' => ?_) ?_); (clear hIG); kcf_last))))) | ((with_reducible show wpAny _ _ (eval (Expr.ListComp _ _ _ _) _) _ _ _); with_reducible ((k_here; k_dflt (refine LCg.ListComp_U (F₀ := by k_asm) (by with_unfolding_all rfl) (by decide) (by rfl) (by decide) (by rfl) ?_)))) | walk1 | (dsimp only; walk1) | (leave1; walk_say "STEP leave1"; try dsimp only))) | skip)
  rename MG => hMG9
  clear hMG9
  have hBG := bg_of (by with_reducible assumption) (by with_reducible assumption)
  (rename News _ _ _ _ => N9)
  have N' := news_drop6 N9
  clear N9
  revert N'
  (rename News _ _ _ _ => N8)
  clear N8
  intro N'
  iterate 6 (try (rename (_ < _ ∧ _) => z9; clear z9))
  iterate 60 (try ((with_reducible rename @LT.lt Nat _ _ _ => z9); clear z9))
  iterate 4 (try ((with_reducible rename (0 ≤ _ ∧ _ < (1000000 : Int)) => z9); clear z9))
  iterate 2 (try ((with_reducible rename (_ < (8 : Int)) => z9); clear z9))
  try ((with_reducible rename (_ < (9 : Int)) => z9); clear z9)
  try ((with_reducible rename NoneBooked _ => z9); clear z9)
  iterate 52 ((first | (k_unfold; (try dsimp only)) | (k_end; wrow_close) | ((with_reducible show wpAny _ _ (call (Value.builtin "max") _) _ _ _); with_reducible ((k_here; (with_reducible rename IntsAre _ (List.foldl (bothG _ _) _ _) => hB9); k_dflt (refine' max_is ?v3F ?v3N ?v3m hB9 (p_max (by with_reducible assumption) ?v3a ?v3b) ?v3h ?_; (case v3F => k_asm); (case v3N => k_asm); (case v3m => k_mem); (case v3a => first | with_reducible assumption | with_reducible exact bd1 (by with_reducible assumption) | with_reducible exact bd2 (by with_reducible assumption) | with_reducible exact bd3 (by with_reducible assumption) | with_reducible exact bd4 (by with_reducible assumption) | with_reducible exact bd5 (by with_reducible assumption) | with_reducible exact bd6 (by with_reducible assumption) | with_reducible exact bd7 (by with_reducible assumption) (by with_reducible assumption) | with_reducible exact bd8 (by with_reducible assumption) (by with_reducible assumption) | omega); (case v3b => first | with_reducible assumption | with_reducible exact bd1 (by with_reducible assumption) | with_reducible exact bd2 (by with_reducible assumption) | with_reducible exact bd3 (by with_reducible assumption) | with_reducible exact bd4 (by with_reducible assumption) | with_reducible exact bd5 (by with_reducible assumption) | with_reducible exact bd6 (by with_reducible assumption) | with_reducible exact bd7 (by with_reducible assumption) (by with_reducible assumption) | with_reducible exact bd8 (by with_reducible assumption) (by with_reducible assumption) | omega); (case v3h => exact rfl); k_whole); intro hq' tq' kq' Fq' Nq'))) | ((with_reducible show LCg.CompEnd _ _ _ _ _ _ _ _ _ _ _ _ _ _); with_reducible ((first | (refine' ci_yes ?v1F ?v1N ?v1sub ?v1off ?v1S ?v1a ?v1b; (case v1F => with_reducible assumption); (case v1N => with_reducible assumption); (case v1a => with_reducible assumption); (case v1b => with_reducible assumption); (case v1sub => with_reducible kcf_all); (case v1off => first | with_reducible assumption | ((simp only [LCg.Off3, and_true]); with_reducible assumption)); (case v1S => first | exact True.intro | lcg_src | with_reducible assumption)) | (refine' ci_no ?v2F ?v2N ?v2sub ?v2off ?v2S ?v2a; (case v2F => with_reducible assumption); (case v2N => with_reducible assumption); (case v2a => first | exact Or.inl (by with_reducible assumption) | exact Or.inr (by with_reducible assumption)); (case v2sub => with_reducible kcf_all); (case v2off => first | with_reducible assumption | ((simp only [LCg.Off3, and_true]); with_reducible assumption)); (case v2S => first | exact True.intro | lcg_src | with_reducible assumption))))) | ((with_reducible show LCg.CompEnd _ _ _ _ _ _ _ _ _ _ _ _ _ _); ((first | (refine' ci_yes ?v1F ?v1N ?v1sub ?v1off ?v1S ?v1a ?v1b; (case v1F => with_reducible assumption); (case v1N => with_reducible assumption); (case v1a => with_reducible assumption); (case v1b => with_reducible assumption); (case v1sub => with_reducible kcf_all); (case v1off => first | with_reducible assumption | ((simp only [LCg.Off3, and_true]); with_reducible assumption)); (case v1S => first | exact True.intro | lcg_src | with_reducible assumption)) | (refine' ci_no ?v2F ?v2N ?v2sub ?v2off ?v2S ?v2a; (case v2F => with_reducible assumption); (case v2N => with_reducible assumption); (case v2a => first | exact Or.inl (by with_reducible assumption) | exact Or.inr (by with_reducible assumption)); (case v2sub => with_reducible kcf_all); (case v2off => first | with_reducible assumption | ((simp only [LCg.Off3, and_true]); with_reducible assumption)); (case v2S => first | exact True.intro | lcg_src | with_reducible assumption))))) | ((with_reducible show wpAny _ _ (call (Value.ref 104) [Value.str (tabS _) _]) _ _ _); with_reducible ((k_here; (with_reducible show wpAny _ _ (call (Value.ref 104) [Value.str (tabS _) _]) _ _ _); k_dflt (refine' ws_use2 (p_left (by with_reducible assumption) ?u12h1 ?u12h2) ?u12B ?u12F ?u12X ?u12N ?u12T ?u12hk ?u12hd ?u12hu ?_; (case u12B => k_asm); (case u12F => k_asm); (case u12X => k_asm); (case u12N => k_asm); (case u12T => k_asm); (case u12hk => first | exact rfl | assumption); (case u12h1 => first | with_reducible assumption | with_reducible exact bd1 (by with_reducible assumption) | with_reducible exact bd2 (by with_reducible assumption) | with_reducible exact bd3 (by with_reducible assumption) | with_reducible exact bd4 (by with_reducible assumption) | with_reducible exact bd5 (by with_reducible assumption) | with_reducible exact bd6 (by with_reducible assumption) | with_reducible exact bd7 (by with_reducible assumption) (by with_reducible assumption) | with_reducible exact bd8 (by with_reducible assumption) (by with_reducible assumption) | omega); (case u12h2 => first | with_reducible assumption | with_reducible exact bd1 (by with_reducible assumption) | with_reducible exact bd2 (by with_reducible assumption) | with_reducible exact bd3 (by with_reducible assumption) | with_reducible exact bd4 (by with_reducible assumption) | with_reducible exact bd5 (by with_reducible assumption) | with_reducible exact bd6 (by with_reducible assumption) | with_reducible exact bd7 (by with_reducible assumption) (by with_reducible assumption) | with_reducible exact bd8 (by with_reducible assumption) (by with_reducible assumption) | omega); (case u12hd => first | exact Nat.le_of_ble_eq_true rfl | ktr_room); (case u12hu => first | exact Nat.le_of_ble_eq_true rfl | ktr_units); k_whole); intro Xq' dq' D1q' D2q' vsq' tbq' k1q' k2q' k3q' k4q' k5q' tnq' tntq' tq' hq' tkq' hIq' Fq' Nq' l1q q1q' q2q' q3q'; (try k_lt l1q)))) | ((with_reducible show wpAny _ _ (call (Value.ref 125) _) _ _ _); with_reducible ((k_here; (with_reducible show wpAny _ _ (call (Value.ref 125) _) _ _ _); k_dflt (refine' thin_use (p_thin (by with_reducible assumption) ?u11h1 ?u11h2) ?u11B ?u11F ?u11X ?u11N ?u11T ?u11hk ?u11hd ?u11hu ?_; (case u11B => k_asm); (case u11F => k_asm); (case u11X => k_asm); (case u11N => k_asm); (case u11T => k_asm); (case u11hk => first | exact rfl | assumption); (case u11h1 => first | with_reducible assumption | with_reducible exact bd1 (by with_reducible assumption) | with_reducible exact bd2 (by with_reducible assumption) | with_reducible exact bd3 (by with_reducible assumption) | with_reducible exact bd4 (by with_reducible assumption) | with_reducible exact bd5 (by with_reducible assumption) | with_reducible exact bd6 (by with_reducible assumption) | with_reducible exact bd7 (by with_reducible assumption) (by with_reducible assumption) | with_reducible exact bd8 (by with_reducible assumption) (by with_reducible assumption) | omega); (case u11h2 => first | with_reducible assumption | with_reducible exact bd1 (by with_reducible assumption) | with_reducible exact bd2 (by with_reducible assumption) | with_reducible exact bd3 (by with_reducible assumption) | with_reducible exact bd4 (by with_reducible assumption) | with_reducible exact bd5 (by with_reducible assumption) | with_reducible exact bd6 (by with_reducible assumption) | with_reducible exact bd7 (by with_reducible assumption) (by with_reducible assumption) | with_reducible exact bd8 (by with_reducible assumption) (by with_reducible assumption) | omega); (case u11hd => first | exact Nat.le_of_ble_eq_true rfl | ktr_room); (case u11hu => first | exact Nat.le_of_ble_eq_true rfl | ktr_units); k_whole); intro tq' hq' tkq' Fq' Nq'))) | ((with_reducible show wpAny _ _ (execs [] _) _ _ _); with_reducible ((k_here; first | (with_reducible refine gen_toks ?_; intro tkq htkq) | (refine gen_toks2 (Nat.le_of_ble_eq_true rfl) ?_; intro tkq htkq)))) | ((with_reducible show wpAny _ _ (execs (_ :: _) _) _ _ _); with_reducible ((k_here; first | (with_reducible refine gen_toks ?_; intro tkq htkq) | (refine gen_toks2 (Nat.le_of_ble_eq_true rfl) ?_; intro tkq htkq)))) | walk1 | (dsimp only; walk1) | (leave1; walk_say "STEP leave1"; try dsimp only) | skip))
  (rename BG _ _ => hBG9)
  clear hBG9
  (rename IntsAre _ (List.foldl (bothG _ _) _ _) => hI9)
  clear hI9
  have hG9 := gbd_of (by with_reducible assumption) (by with_reducible assumption) (by with_reducible assumption)
  iterate 400 (first | ((fail_if_success (with_reducible show wpAny _ _ (call (Value.ref 104) [Value.str (walkT _ _ _) _]) _ _ _)); (first | (k_unfold; (try dsimp only)) | (k_end; wrow_close) | ((with_reducible show wpAny _ _ (newList _) _ _ _); with_reducible ((k_here; k_dflt (refine' newList_K ?x8a ?x8b ?_; (case x8a => k_asm); (case x8b => k_asm); k_whole); intro lq' hq' Fq' Nq' l1q; clear l1q))) | ((with_reducible show LCg.CompEnd _ _ _ _ _ _ _ _ _ _ _ _ _ _); with_reducible (((with_reducible refine' comp_end_ws ?x7F ?x7N ?x7o ?x7S ?x7l ?x71 ?x72 ?x73 ?_); (case x7F => with_reducible assumption); (case x7N => with_reducible assumption); (case x7o => with_reducible assumption); (case x7S => (show (_, _) ∈ _; with_reducible kcf_m)); (case x7l => first | with_reducible exact first3 (by with_reducible assumption) | (refine ⟨?_, ?_, ?_⟩ <;> omega)); (case x71 => with_reducible assumption); (case x72 => with_reducible assumption); (case x73 => with_reducible assumption)))) | ((with_reducible show LCg.CompEnd _ _ _ _ _ _ _ _ _ _ _ _ _ _); (((with_reducible refine' comp_end_ws ?x7F ?x7N ?x7o ?x7S ?x7l ?x71 ?x72 ?x73 ?_); (case x7F => with_reducible assumption); (case x7N => with_reducible assumption); (case x7o => with_reducible assumption); (case x7S => (show (_, _) ∈ _; with_reducible kcf_m)); (case x7l => first | with_reducible exact first3 (by with_reducible assumption) | (refine ⟨?_, ?_, ?_⟩ <;> omega)); (case x71 => with_reducible assumption); (case x72 => with_reducible assumption); (case x73 => with_reducible assumption)))) | ((with_reducible show LCg.CompRest _ _ _ _ _ _ _ _ _ _ _ _ _ _ _ _ _ _ _); with_reducible ((k_dflt (first | (refine LCg.CompRest.succ ?_; intro vq' Iq' oIq' Cq' oCq' Dq' mq' hq' tkq' Eq' hvq' hCq' hxq' Fq' Nq' offq' neq'; lcg_open hvq') | refine LCg.CompRest.zero ?_)))) | ((with_reducible show CompTup _ _ _ _ _ _ _ _ _ _ _ _ _ _); with_reducible ((k_here; k_dflt (refine CompTup.intro (by rfl) (by k_asm) (by k_asm) (by k_mem) (by exact Nat.le_of_ble_eq_true rfl) ?_; intro gq'; lcg_lit)))) | ((with_reducible show wpAny _ _ (eval (Expr.ListComp _ [⟨_, Expr.Tuple _ _ _, _, _⟩] _ _) _) _ _ _); with_reducible ((k_here; (with_reducible show wpAny _ _ (eval (Expr.ListComp _ [⟨_, Expr.Tuple _ _ _, _, _⟩] _ _) _) _ _ _); k_dflt (refine ListComp_Tup (F₀ := by k_asm) (by with_unfolding_all rfl) (by decide) (by rfl) (by decide) (by rfl) ?_)))) | ((with_reducible show @ite Prop _ _ _ _); with_reducible ((k_here; first | with_reducible refine ite_ff ?_ | with_reducible refine ite_tt ?_ | ((with_reducible show @ite Prop ((@bne Int _ _ _) = true) _ _ _); with_reducible refine ite_no (fun hi9 => int_bne_no hi9 rfl) ?_)))) | ((with_reducible show wpAny _ _ (compareOp CmpOp.Eq (Value.ref _) (Value.ref _)) _ _ _); with_reducible ((k_here; k_dflt (refine' eq_norm_tt ?x5N ?x5a ?x5b ?x5c ?x5d ?x5e ?x5f ?x5u ?_; (case x5N => k_asm); (case x5a => with_reducible kcf_m); (case x5b => with_reducible kcf_m); (case x5d => with_reducible kcf_m); (case x5e => with_reducible kcf_m); (case x5c => with_reducible assumption); (case x5f => with_reducible assumption); (case x5u => first | exact Nat.le_of_ble_eq_true rfl | ktr_units); k_whole); (try dsimp only)))) | ((with_reducible show wpAny _ _ (compareOp CmpOp.Eq (Value.ref _) (Value.ref _)) _ _ _); with_reducible ((k_here; k_dflt (refine' eq_norm_ff ?x6N ?x6a ?x6b ?x6c ?x6d ?x6e ?x6f ?x6g ?x6u ?_; (case x6N => k_asm); (case x6a => with_reducible kcf_m); (case x6b => with_reducible kcf_m); (case x6d => with_reducible kcf_m); (case x6e => with_reducible kcf_m); (case x6c => with_reducible assumption); (case x6f => with_reducible assumption); (case x6g => (refine no_one ?_; first | exact Or.inl (by first | with_reducible assumption | with_reducible exact bd1 (by with_reducible assumption) | with_reducible exact bd2 (by with_reducible assumption) | with_reducible exact bd3 (by with_reducible assumption) | with_reducible exact bd4 (by with_reducible assumption) | with_reducible exact bd5 (by with_reducible assumption) | with_reducible exact bd6 (by with_reducible assumption) | with_reducible exact bd7 (by with_reducible assumption) (by with_reducible assumption) | with_reducible exact bd8 (by with_reducible assumption) (by with_reducible assumption) | omega) | exact Or.inr (by decide))); (case x6u => first | exact Nat.le_of_ble_eq_true rfl | ktr_units); k_whole); (try dsimp only)))) | ((with_reducible show wpAny _ _ (compareOp CmpOp.NotEq (Value.ref _) (Value.ref _)) _ _ _); with_reducible ((k_here; k_dflt (refine' ne_norm_ff ?x4N ?x4a ?x4b ?x4c ?x4d ?x4e ?x4f ?x4u ?_; (case x4N => k_asm); (case x4a => with_reducible kcf_m); (case x4b => with_reducible kcf_m); (case x4d => with_reducible kcf_m); (case x4e => with_reducible kcf_m); (case x4c => with_reducible first | assumption | exact one_int _ _); (case x4f => with_reducible first | assumption | exact one_int _ _); (case x4u => first | exact Nat.le_of_ble_eq_true rfl | ktr_units); k_whole); (try dsimp only)))) | ((with_reducible show wpAny _ _ (call (Value.ref 104) [Value.str (HAppend.hAppend _ (Str.ofString "\t")) _]) _ _ _); with_reducible ((k_here; (with_reducible show wpAny _ _ (call (Value.ref 104) [Value.str (HAppend.hAppend _ (Str.ofString "\t")) _]) _ _ _); k_dflt (refine' ws_use2 (p_more2 (by with_reducible assumption) ?x3h1 ?x3h2) ?x3B ?x3F ?x3X ?x3N ?x3T ?x3hk ?x3hd ?x3hu ?_; (case x3B => k_asm); (case x3F => k_asm); (case x3X => k_asm); (case x3N => k_asm); (case x3T => k_asm); (case x3hk => first | exact rfl | assumption); (case x3h1 => first | with_reducible assumption | with_reducible exact bd1 (by with_reducible assumption) | with_reducible exact bd2 (by with_reducible assumption) | with_reducible exact bd3 (by with_reducible assumption) | with_reducible exact bd4 (by with_reducible assumption) | with_reducible exact bd5 (by with_reducible assumption) | with_reducible exact bd6 (by with_reducible assumption) | with_reducible exact bd7 (by with_reducible assumption) (by with_reducible assumption) | with_reducible exact bd8 (by with_reducible assumption) (by with_reducible assumption) | omega); (case x3h2 => first | with_reducible assumption | with_reducible exact bd1 (by with_reducible assumption) | with_reducible exact bd2 (by with_reducible assumption) | with_reducible exact bd3 (by with_reducible assumption) | with_reducible exact bd4 (by with_reducible assumption) | with_reducible exact bd5 (by with_reducible assumption) | with_reducible exact bd6 (by with_reducible assumption) | with_reducible exact bd7 (by with_reducible assumption) (by with_reducible assumption) | with_reducible exact bd8 (by with_reducible assumption) (by with_reducible assumption) | omega); (case x3hd => first | exact Nat.le_of_ble_eq_true rfl | ktr_room); (case x3hu => first | exact Nat.le_of_ble_eq_true rfl | ktr_units); k_whole); intro Xq' dq' D1q' D2q' vsq' tbq' k1q' k2q' k3q' k4q' k5q' tnq' tntq' tq' hq' tkq' hIq' Fq' Nq' l1q q1q' q2q' q3q'; (try k_lt l1q)))) | ((with_reducible show wpAny _ _ (call (Value.ref 104) [Value.str (HAppend.hAppend _ (Str.ofString " ")) _]) _ _ _); with_reducible ((k_here; (with_reducible show wpAny _ _ (call (Value.ref 104) [Value.str (HAppend.hAppend _ (Str.ofString " ")) _]) _ _ _); k_dflt (refine' ws_use2 (p_more1 (by with_reducible assumption) ?x2h1 ?x2h2) ?x2B ?x2F ?x2X ?x2N ?x2T ?x2hk ?x2hd ?x2hu ?_; (case x2B => k_asm); (case x2F => k_asm); (case x2X => k_asm); (case x2N => k_asm); (case x2T => k_asm); (case x2hk => first | exact rfl | assumption); (case x2h1 => first | with_reducible assumption | with_reducible exact bd1 (by with_reducible assumption) | with_reducible exact bd2 (by with_reducible assumption) | with_reducible exact bd3 (by with_reducible assumption) | with_reducible exact bd4 (by with_reducible assumption) | with_reducible exact bd5 (by with_reducible assumption) | with_reducible exact bd6 (by with_reducible assumption) | with_reducible exact bd7 (by with_reducible assumption) (by with_reducible assumption) | with_reducible exact bd8 (by with_reducible assumption) (by with_reducible assumption) | omega); (case x2h2 => first | with_reducible assumption | with_reducible exact bd1 (by with_reducible assumption) | with_reducible exact bd2 (by with_reducible assumption) | with_reducible exact bd3 (by with_reducible assumption) | with_reducible exact bd4 (by with_reducible assumption) | with_reducible exact bd5 (by with_reducible assumption) | with_reducible exact bd6 (by with_reducible assumption) | with_reducible exact bd7 (by with_reducible assumption) (by with_reducible assumption) | with_reducible exact bd8 (by with_reducible assumption) (by with_reducible assumption) | omega); (case x2hd => first | exact Nat.le_of_ble_eq_true rfl | ktr_room); (case x2hu => first | exact Nat.le_of_ble_eq_true rfl | ktr_units); k_whole); intro Xq' dq' D1q' D2q' vsq' tbq' k1q' k2q' k3q' k4q' k5q' tnq' tntq' tq' hq' tkq' hIq' Fq' Nq' l1q q1q' q2q' q3q'; (try k_lt l1q)))) | ((with_reducible show wpAny _ _ (call (Value.ref 104) [Value.str (HAppend.hAppend _ (Str.ofString "")) _]) _ _ _); with_reducible ((k_here; (with_reducible show wpAny _ _ (call (Value.ref 104) [Value.str (HAppend.hAppend _ (Str.ofString "")) _]) _ _ _); k_dflt (refine' ws_use2 (p_more0 (by with_reducible assumption) ?x1h1 ?x1h2) ?x1B ?x1F ?x1X ?x1N ?x1T ?x1hk ?x1hd ?x1hu ?_; (case x1B => k_asm); (case x1F => k_asm); (case x1X => k_asm); (case x1N => k_asm); (case x1T => k_asm); (case x1hk => first | exact rfl | assumption); (case x1h1 => first | with_reducible assumption | with_reducible exact bd1 (by with_reducible assumption) | with_reducible exact bd2 (by with_reducible assumption) | with_reducible exact bd3 (by with_reducible assumption) | with_reducible exact bd4 (by with_reducible assumption) | with_reducible exact bd5 (by with_reducible assumption) | with_reducible exact bd6 (by with_reducible assumption) | with_reducible exact bd7 (by with_reducible assumption) (by with_reducible assumption) | with_reducible exact bd8 (by with_reducible assumption) (by with_reducible assumption) | omega); (case x1h2 => first | with_reducible assumption | with_reducible exact bd1 (by with_reducible assumption) | with_reducible exact bd2 (by with_reducible assumption) | with_reducible exact bd3 (by with_reducible assumption) | with_reducible exact bd4 (by with_reducible assumption) | with_reducible exact bd5 (by with_reducible assumption) | with_reducible exact bd6 (by with_reducible assumption) | with_reducible exact bd7 (by with_reducible assumption) (by with_reducible assumption) | with_reducible exact bd8 (by with_reducible assumption) (by with_reducible assumption) | omega); (case x1hd => first | exact Nat.le_of_ble_eq_true rfl | ktr_room); (case x1hu => first | exact Nat.le_of_ble_eq_true rfl | ktr_units); k_whole); intro Xq' dq' D1q' D2q' vsq' tbq' k1q' k2q' k3q' k4q' k5q' tnq' tntq' tq' hq' tkq' hIq' Fq' Nq' l1q q1q' q2q' q3q'; (try k_lt l1q)))) | ((with_reducible show wpAny _ _ (execs [] _) _ _ _); with_reducible ((k_here; first | (with_reducible refine gen_toks ?_; intro tkq htkq) | (refine gen_toks2 (Nat.le_of_ble_eq_true rfl) ?_; intro tkq htkq)))) | ((with_reducible show wpAny _ _ (execs (_ :: _) _) _ _ _); with_reducible ((k_here; first | (with_reducible refine gen_toks ?_; intro tkq htkq) | (refine gen_toks2 (Nat.le_of_ble_eq_true rfl) ?_; intro tkq htkq)))) | walk1 | (dsimp only; walk1) | (leave1; walk_say "STEP leave1"; try dsimp only))) | skip)
  iterate 22 ((rename News _ _ _ _ => N9); have N' := news_tl N9; clear N9)
  (rename News _ _ _ _ => N7)
  revert N7
  iterate 30 (try ((rename News _ _ _ _ => N8); clear N8))
  intro N'
  iterate 60 (try (rename (_ ∧ _ ∧ _) => z9; clear z9))
  iterate 8 (try (rename IntsAre _ [_] => z9; clear z9))
  iterate 60 (try ((with_reducible rename @LT.lt Nat _ _ _ => z9); clear z9))
  iterate 30 (try ((with_reducible rename @LE.le Nat _ _ _ => z9); clear z9))
  iterate 30 (try ((with_reducible rename @Ne Nat _ _ => z9); clear z9))
  iterate 300 (first | ((fail_if_success (with_reducible show wpAny _ _ (compareOp CmpOp.Is _ _) _ _ _)); (first | (k_unfold; (try dsimp only)) | (k_end; wrow_close) | ((with_reducible show wpAny _ _ (binaryOp Operator.FloorDiv (Value.int _ _) (Value.int _ _)) _ _ _); with_reducible ((k_here; (with_reducible refine fdiv_r (by with_reducible assumption) (by with_reducible assumption) (by with_reducible assumption) ?_)))) | ((with_reducible show wpAny _ _ (compareOp CmpOp.Eq (Value.ref _) (Value.ref _)) _ _ _); with_reducible ((k_here; k_dflt (refine' eq_norm ?y8N ?y8a ?y8b ?y8c ?y8d ?y8e ?y8f ?y8u ?_; (case y8N => k_asm); (case y8a => with_reducible kcf_m); (case y8b => with_reducible kcf_m); (case y8d => with_reducible kcf_m); (case y8e => with_reducible kcf_m); (case y8c => with_reducible assumption); (case y8f => with_reducible assumption); (case y8u => first | exact Nat.le_of_ble_eq_true rfl | ktr_units); k_whole); (try dsimp only)))) | ((with_reducible show wpAny _ _ (compareOp CmpOp.NotEq (Value.ref _) (Value.ref _)) _ _ _); with_reducible ((k_here; k_dflt (refine' ne_norm_ff ?y7N ?y7a ?y7b ?y7c ?y7d ?y7e ?y7f ?y7u ?_; (case y7N => k_asm); (case y7a => with_reducible kcf_m); (case y7b => with_reducible kcf_m); (case y7d => with_reducible kcf_m); (case y7e => with_reducible kcf_m); (case y7c => with_reducible assumption); (case y7f => with_reducible assumption); (case y7u => first | exact Nat.le_of_ble_eq_true rfl | ktr_units); k_whole); (try dsimp only)))) | ((with_reducible show wpAny _ _ (call (Value.type "tuple") _) _ _ _); with_reducible ((k_here; k_dflt (refine' tup_ints ?y6a ?y6b ?y6c ?y6d ?y6e ?_; (case y6a => k_asm); (case y6b => k_asm); (case y6c => k_mem); (case y6d => with_reducible assumption); (case y6e => exact cnt_size _ (by with_reducible assumption)); k_whole); intro Dq' hq' Fq' Nq' l1q; (try k_lt l1q)))) | ((with_reducible show wpAny _ _ (call (Value.builtin "max") _) _ _ _); with_reducible ((k_here; (with_reducible rename IntsAre _ (List.take _ (gapsL _)) => hB9); (have hAG9 := ag_of hB9); (have hM9 := abd_of hB9 (p_abd (by with_reducible assumption) (by first | with_reducible assumption | with_reducible exact bd1 (by with_reducible assumption) | with_reducible exact bd2 (by with_reducible assumption) | with_reducible exact bd3 (by with_reducible assumption) | with_reducible exact bd4 (by with_reducible assumption) | with_reducible exact bd5 (by with_reducible assumption) | with_reducible exact bd6 (by with_reducible assumption) | with_reducible exact bd7 (by with_reducible assumption) (by with_reducible assumption) | with_reducible exact bd8 (by with_reducible assumption) (by with_reducible assumption) | omega) (by first | with_reducible assumption | with_reducible exact bd1 (by with_reducible assumption) | with_reducible exact bd2 (by with_reducible assumption) | with_reducible exact bd3 (by with_reducible assumption) | with_reducible exact bd4 (by with_reducible assumption) | with_reducible exact bd5 (by with_reducible assumption) | with_reducible exact bd6 (by with_reducible assumption) | with_reducible exact bd7 (by with_reducible assumption) (by with_reducible assumption) | with_reducible exact bd8 (by with_reducible assumption) (by with_reducible assumption) | omega) (by first | with_reducible assumption | with_reducible exact bd1 (by with_reducible assumption) | with_reducible exact bd2 (by with_reducible assumption) | with_reducible exact bd3 (by with_reducible assumption) | with_reducible exact bd4 (by with_reducible assumption) | with_reducible exact bd5 (by with_reducible assumption) | with_reducible exact bd6 (by with_reducible assumption) | with_reducible exact bd7 (by with_reducible assumption) (by with_reducible assumption) | with_reducible exact bd8 (by with_reducible assumption) (by with_reducible assumption) | omega) (by first | with_reducible assumption | with_reducible exact bd1 (by with_reducible assumption) | with_reducible exact bd2 (by with_reducible assumption) | with_reducible exact bd3 (by with_reducible assumption) | with_reducible exact bd4 (by with_reducible assumption) | with_reducible exact bd5 (by with_reducible assumption) | with_reducible exact bd6 (by with_reducible assumption) | with_reducible exact bd7 (by with_reducible assumption) (by with_reducible assumption) | with_reducible exact bd8 (by with_reducible assumption) (by with_reducible assumption) | omega))); k_dflt (refine' max_is ?y5F ?y5N ?y5m hB9 (p_ahead (by with_reducible assumption) ?y5a ?y5b ?y5c ?y5d) ?y5h ?_; (case y5F => k_asm); (case y5N => k_asm); (case y5m => k_mem); (case y5a => first | with_reducible assumption | with_reducible exact bd1 (by with_reducible assumption) | with_reducible exact bd2 (by with_reducible assumption) | with_reducible exact bd3 (by with_reducible assumption) | with_reducible exact bd4 (by with_reducible assumption) | with_reducible exact bd5 (by with_reducible assumption) | with_reducible exact bd6 (by with_reducible assumption) | with_reducible exact bd7 (by with_reducible assumption) (by with_reducible assumption) | with_reducible exact bd8 (by with_reducible assumption) (by with_reducible assumption) | omega); (case y5b => first | with_reducible assumption | with_reducible exact bd1 (by with_reducible assumption) | with_reducible exact bd2 (by with_reducible assumption) | with_reducible exact bd3 (by with_reducible assumption) | with_reducible exact bd4 (by with_reducible assumption) | with_reducible exact bd5 (by with_reducible assumption) | with_reducible exact bd6 (by with_reducible assumption) | with_reducible exact bd7 (by with_reducible assumption) (by with_reducible assumption) | with_reducible exact bd8 (by with_reducible assumption) (by with_reducible assumption) | omega); (case y5c => first | with_reducible assumption | with_reducible exact bd1 (by with_reducible assumption) | with_reducible exact bd2 (by with_reducible assumption) | with_reducible exact bd3 (by with_reducible assumption) | with_reducible exact bd4 (by with_reducible assumption) | with_reducible exact bd5 (by with_reducible assumption) | with_reducible exact bd6 (by with_reducible assumption) | with_reducible exact bd7 (by with_reducible assumption) (by with_reducible assumption) | with_reducible exact bd8 (by with_reducible assumption) (by with_reducible assumption) | omega); (case y5d => first | with_reducible assumption | with_reducible exact bd1 (by with_reducible assumption) | with_reducible exact bd2 (by with_reducible assumption) | with_reducible exact bd3 (by with_reducible assumption) | with_reducible exact bd4 (by with_reducible assumption) | with_reducible exact bd5 (by with_reducible assumption) | with_reducible exact bd6 (by with_reducible assumption) | with_reducible exact bd7 (by with_reducible assumption) (by with_reducible assumption) | with_reducible exact bd8 (by with_reducible assumption) (by with_reducible assumption) | omega); (case y5h => exact rfl); k_whole); intro hq' tq' kq' Fq' Nq'))) | ((with_reducible show wpAny _ _ (subscriptTail (Expr.Name _ _) (Expr.Slice _ _ _ _) (Value.ref _) (Value.ref _)) _ _ _); with_reducible ((k_here; (with_reducible rename IntsAre _ (gapsL _) => hI9); k_dflt (refine' cut_last (s := ⟨_, _, _, _, _⟩) ?y4F ?y4N ?y4l hI9 ?y4z ?_ ?y4s; (case y4F => k_asm); (case y4N => k_asm); (case y4l => k_mem); (case y4z => exact gaps_len (p_len (by with_reducible assumption) (by first | with_reducible assumption | with_reducible exact bd1 (by with_reducible assumption) | with_reducible exact bd2 (by with_reducible assumption) | with_reducible exact bd3 (by with_reducible assumption) | with_reducible exact bd4 (by with_reducible assumption) | with_reducible exact bd5 (by with_reducible assumption) | with_reducible exact bd6 (by with_reducible assumption) | with_reducible exact bd7 (by with_reducible assumption) (by with_reducible assumption) | with_reducible exact bd8 (by with_reducible assumption) (by with_reducible assumption) | omega) (by first | with_reducible assumption | with_reducible exact bd1 (by with_reducible assumption) | with_reducible exact bd2 (by with_reducible assumption) | with_reducible exact bd3 (by with_reducible assumption) | with_reducible exact bd4 (by with_reducible assumption) | with_reducible exact bd5 (by with_reducible assumption) | with_reducible exact bd6 (by with_reducible assumption) | with_reducible exact bd7 (by with_reducible assumption) (by with_reducible assumption) | with_reducible exact bd8 (by with_reducible assumption) (by with_reducible assumption) | omega) (by first | with_reducible assumption | with_reducible exact bd1 (by with_reducible assumption) | with_reducible exact bd2 (by with_reducible assumption) | with_reducible exact bd3 (by with_reducible assumption) | with_reducible exact bd4 (by with_reducible assumption) | with_reducible exact bd5 (by with_reducible assumption) | with_reducible exact bd6 (by with_reducible assumption) | with_reducible exact bd7 (by with_reducible assumption) (by with_reducible assumption) | with_reducible exact bd8 (by with_reducible assumption) (by with_reducible assumption) | omega) (by first | with_reducible assumption | with_reducible exact bd1 (by with_reducible assumption) | with_reducible exact bd2 (by with_reducible assumption) | with_reducible exact bd3 (by with_reducible assumption) | with_reducible exact bd4 (by with_reducible assumption) | with_reducible exact bd5 (by with_reducible assumption) | with_reducible exact bd6 (by with_reducible assumption) | with_reducible exact bd7 (by with_reducible assumption) (by with_reducible assumption) | with_reducible exact bd8 (by with_reducible assumption) (by with_reducible assumption) | omega))); (case y4s => with_unfolding_all rfl)); intro Dq' wsq' hq' hIq' Fq' Nq' l1q; (try k_lt l1q)))) | ((with_reducible show wpAny _ _ (call _ [Value.str _ _]) _ _ _); with_reducible ((k_here; (with_reducible show wpAny _ _ (call _ [Value.str _ _]) _ _ _); (refine PyProof.Rows.len_str (by first | with_reducible assumption | with_reducible exact bd1 (by with_reducible assumption) | with_reducible exact bd2 (by with_reducible assumption) | with_reducible exact bd3 (by with_reducible assumption) | with_reducible exact bd4 (by with_reducible assumption) | with_reducible exact bd5 (by with_reducible assumption) | with_reducible exact bd6 (by with_reducible assumption) | with_reducible exact bd7 (by with_reducible assumption) (by with_reducible assumption) | with_reducible exact bd8 (by with_reducible assumption) (by with_reducible assumption) | omega) ?_)))) | ((with_reducible show LCg.CompSrc _ _ _ _ _ _ _ _ _ _ _ _ _ _); with_reducible ((k_here; (rename AG _ => hAG); k_dflt ( (refine LCg.CompSrc.range (by rfl) (by k_asm) (by k_asm) (by assumption) (by exact rg_small2 (by with_reducible assumption)) (by exact rangeSize_nat _ _) (by exact rg_size2 (by with_reducible assumption)) ?_; intro gq'; (refine' cnt_rest hAG (fun kq' tq' Iq' oIq' Cq' oCq' Dq' mq' ysq' hq' tkq' Eq' hloq' hhiq' hCq' hxq' Fq' Nq' offq' neq' hMq' => ?_) (fun ysq' hIq' => ?_))))))) | ((with_reducible show LCg.CompSrc _ _ _ _ _ _ _ _ _ _ _ _ _ _); with_reducible ((k_here; (with_reducible rename List.map _ _ = Txt.split _ _ => hE9); (with_reducible rename (strValues _).toArray.size ≤ _ => hZ9); (with_reducible rename ∀ p ∈ Txt.split _ _, _ => hP9); k_dflt ( (refine LCg.CompSrc.ledger (by rfl) (by k_asm) (by k_asm) (by k_mem) hZ9 ?_; intro gq'; (refine' len_rest hE9 hP9 (fun pq' tq' Iq' oIq' Cq' oCq' Dq' mq' ysq' hq' tkq' Eq' hpq' hCq' hxq' Fq' Nq' offq' => ?_) (fun ysq' hIq' => ?_)); (clear hE9 hZ9 hP9)))))) | ((with_reducible show wpAny _ _ (eval (Expr.ListComp _ _ _ _) _) _ _ _); with_reducible ((k_here; k_dflt (refine LCg.ListComp_U (F₀ := by k_asm) (by with_unfolding_all rfl) (by decide) (by rfl) (by decide) (by rfl) ?_)))) | ((with_reducible show wpAny _ _ (exec (Stmt.Assign (_ :: _) (Expr.ListComp _ _ _ _) _) _) _ _ _); with_reducible ((k_here; k_dflt (refine LCg.Assign_ListComp_U (F₀ := by k_asm) (by rfl) (by with_unfolding_all rfl) (by with_unfolding_all rfl) (by decide) (by rfl) (by decide) (by rfl) (by rfl) (by rfl) ?_)))) | ((with_reducible show wpAny _ _ (call (Value.builtin "str.split") _) _ _ _); with_reducible ((k_here; k_dflt (refine' split_w ?y3F ?y3N ?y3y (p_len (by with_reducible assumption) ?y3a ?y3b ?y3c ?y3d) ?_; (case y3F => k_asm); (case y3N => k_asm); (case y3y => decide +kernel); (case y3a => first | with_reducible assumption | with_reducible exact bd1 (by with_reducible assumption) | with_reducible exact bd2 (by with_reducible assumption) | with_reducible exact bd3 (by with_reducible assumption) | with_reducible exact bd4 (by with_reducible assumption) | with_reducible exact bd5 (by with_reducible assumption) | with_reducible exact bd6 (by with_reducible assumption) | with_reducible exact bd7 (by with_reducible assumption) (by with_reducible assumption) | with_reducible exact bd8 (by with_reducible assumption) (by with_reducible assumption) | omega); (case y3b => first | with_reducible assumption | with_reducible exact bd1 (by with_reducible assumption) | with_reducible exact bd2 (by with_reducible assumption) | with_reducible exact bd3 (by with_reducible assumption) | with_reducible exact bd4 (by with_reducible assumption) | with_reducible exact bd5 (by with_reducible assumption) | with_reducible exact bd6 (by with_reducible assumption) | with_reducible exact bd7 (by with_reducible assumption) (by with_reducible assumption) | with_reducible exact bd8 (by with_reducible assumption) (by with_reducible assumption) | omega); (case y3c => first | with_reducible assumption | with_reducible exact bd1 (by with_reducible assumption) | with_reducible exact bd2 (by with_reducible assumption) | with_reducible exact bd3 (by with_reducible assumption) | with_reducible exact bd4 (by with_reducible assumption) | with_reducible exact bd5 (by with_reducible assumption) | with_reducible exact bd6 (by with_reducible assumption) | with_reducible exact bd7 (by with_reducible assumption) (by with_reducible assumption) | with_reducible exact bd8 (by with_reducible assumption) (by with_reducible assumption) | omega); (case y3d => first | with_reducible assumption | with_reducible exact bd1 (by with_reducible assumption) | with_reducible exact bd2 (by with_reducible assumption) | with_reducible exact bd3 (by with_reducible assumption) | with_reducible exact bd4 (by with_reducible assumption) | with_reducible exact bd5 (by with_reducible assumption) | with_reducible exact bd6 (by with_reducible assumption) | with_reducible exact bd7 (by with_reducible assumption) (by with_reducible assumption) | with_reducible exact bd8 (by with_reducible assumption) (by with_reducible assumption) | omega); k_whole); intro Dq' lq' hq' kq' eq' zq' zpq' Fq' Nq' l1q; (try k_lt l1q)))) | ((with_reducible show LCg.CompEnd _ _ _ _ _ _ _ _ _ _ _ _ _ _); with_reducible ((k_dflt (refine' cf_end ?y2F ?y2N ?y2o ?y2S; (case y2F => with_reducible assumption); (case y2N => with_reducible assumption); (case y2o => with_reducible assumption); (case y2S => first | exact True.intro | exact Or.inr ⟨_, List.mem_cons_self, rfl, _, rfl⟩))))) | ((with_reducible show LCg.CompEnd _ _ _ _ _ _ _ _ _ _ _ _ _ _); ((k_dflt (refine' cf_end ?y2F ?y2N ?y2o ?y2S; (case y2F => with_reducible assumption); (case y2N => with_reducible assumption); (case y2o => with_reducible assumption); (case y2S => first | exact True.intro | exact Or.inr ⟨_, List.mem_cons_self, rfl, _, rfl⟩))))) | ((with_reducible show wpAny _ _ (call (Value.ref 104) [Value.str (walkT _ _ _) _]) _ _ _); with_reducible ((k_here; (with_reducible show wpAny _ _ (call (Value.ref 104) [Value.str (walkT _ _ _) _]) _ _ _); k_dflt (refine' ws_use2 (p_seen (by with_reducible assumption) ?y1h1 ?y1h2 ?y1h3 ?y1h4) ?y1B ?y1F ?y1X ?y1N ?y1T ?y1hk ?y1hd ?y1hu ?_; (case y1B => k_asm); (case y1F => k_asm); (case y1X => k_asm); (case y1N => k_asm); (case y1T => k_asm); (case y1hk => first | exact rfl | assumption); (case y1h1 => first | with_reducible assumption | with_reducible exact bd1 (by with_reducible assumption) | with_reducible exact bd2 (by with_reducible assumption) | with_reducible exact bd3 (by with_reducible assumption) | with_reducible exact bd4 (by with_reducible assumption) | with_reducible exact bd5 (by with_reducible assumption) | with_reducible exact bd6 (by with_reducible assumption) | with_reducible exact bd7 (by with_reducible assumption) (by with_reducible assumption) | with_reducible exact bd8 (by with_reducible assumption) (by with_reducible assumption) | omega); (case y1h2 => first | with_reducible assumption | with_reducible exact bd1 (by with_reducible assumption) | with_reducible exact bd2 (by with_reducible assumption) | with_reducible exact bd3 (by with_reducible assumption) | with_reducible exact bd4 (by with_reducible assumption) | with_reducible exact bd5 (by with_reducible assumption) | with_reducible exact bd6 (by with_reducible assumption) | with_reducible exact bd7 (by with_reducible assumption) (by with_reducible assumption) | with_reducible exact bd8 (by with_reducible assumption) (by with_reducible assumption) | omega); (case y1h3 => first | with_reducible assumption | with_reducible exact bd1 (by with_reducible assumption) | with_reducible exact bd2 (by with_reducible assumption) | with_reducible exact bd3 (by with_reducible assumption) | with_reducible exact bd4 (by with_reducible assumption) | with_reducible exact bd5 (by with_reducible assumption) | with_reducible exact bd6 (by with_reducible assumption) | with_reducible exact bd7 (by with_reducible assumption) (by with_reducible assumption) | with_reducible exact bd8 (by with_reducible assumption) (by with_reducible assumption) | omega); (case y1h4 => first | with_reducible assumption | with_reducible exact bd1 (by with_reducible assumption) | with_reducible exact bd2 (by with_reducible assumption) | with_reducible exact bd3 (by with_reducible assumption) | with_reducible exact bd4 (by with_reducible assumption) | with_reducible exact bd5 (by with_reducible assumption) | with_reducible exact bd6 (by with_reducible assumption) | with_reducible exact bd7 (by with_reducible assumption) (by with_reducible assumption) | with_reducible exact bd8 (by with_reducible assumption) (by with_reducible assumption) | omega); (case y1hd => first | exact Nat.le_of_ble_eq_true rfl | ktr_room); (case y1hu => first | exact Nat.le_of_ble_eq_true rfl | ktr_units); k_whole); intro Xq' dq' D1q' D2q' vsq' tbq' k1q' k2q' k3q' k4q' k5q' tnq' tntq' tq' hq' tkq' hIq' Fq' Nq' l1q q1q' q2q' q3q'; (try k_lt l1q)))) | ((with_reducible show wpAny _ _ (execs [] _) _ _ _); with_reducible ((k_here; first | (with_reducible refine gen_toks ?_; intro tkq htkq) | (refine gen_toks2 (Nat.le_of_ble_eq_true rfl) ?_; intro tkq htkq)))) | ((with_reducible show wpAny _ _ (execs (_ :: _) _) _ _ _); with_reducible ((k_here; first | (with_reducible refine gen_toks ?_; intro tkq htkq) | (refine gen_toks2 (Nat.le_of_ble_eq_true rfl) ?_; intro tkq htkq)))) | walk1 | (dsimp only; walk1))) | skip)
  iterate 2 ((first | (k_unfold; (try dsimp only)) | ((with_reducible show wpAny _ _ (compareOp CmpOp.Is (Value.bool _) (Value.bool _)) _ _ _); with_reducible ((k_here; (with_reducible refine is_tt (p_last (by with_reducible assumption) (by first | with_reducible assumption | with_reducible exact bd1 (by with_reducible assumption) | with_reducible exact bd2 (by with_reducible assumption) | with_reducible exact bd3 (by with_reducible assumption) | with_reducible exact bd4 (by with_reducible assumption) | with_reducible exact bd5 (by with_reducible assumption) | with_reducible exact bd6 (by with_reducible assumption) | with_reducible exact bd7 (by with_reducible assumption) (by with_reducible assumption) | with_reducible exact bd8 (by with_reducible assumption) (by with_reducible assumption) | omega) (by first | with_reducible assumption | with_reducible exact bd1 (by with_reducible assumption) | with_reducible exact bd2 (by with_reducible assumption) | with_reducible exact bd3 (by with_reducible assumption) | with_reducible exact bd4 (by with_reducible assumption) | with_reducible exact bd5 (by with_reducible assumption) | with_reducible exact bd6 (by with_reducible assumption) | with_reducible exact bd7 (by with_reducible assumption) (by with_reducible assumption) | with_reducible exact bd8 (by with_reducible assumption) (by with_reducible assumption) | omega) (by first | with_reducible assumption | with_reducible exact bd1 (by with_reducible assumption) | with_reducible exact bd2 (by with_reducible assumption) | with_reducible exact bd3 (by with_reducible assumption) | with_reducible exact bd4 (by with_reducible assumption) | with_reducible exact bd5 (by with_reducible assumption) | with_reducible exact bd6 (by with_reducible assumption) | with_reducible exact bd7 (by with_reducible assumption) (by with_reducible assumption) | with_reducible exact bd8 (by with_reducible assumption) (by with_reducible assumption) | omega) (by first | with_reducible assumption | with_reducible exact bd1 (by with_reducible assumption) | with_reducible exact bd2 (by with_reducible assumption) | with_reducible exact bd3 (by with_reducible assumption) | with_reducible exact bd4 (by with_reducible assumption) | with_reducible exact bd5 (by with_reducible assumption) | with_reducible exact bd6 (by with_reducible assumption) | with_reducible exact bd7 (by with_reducible assumption) (by with_reducible assumption) | with_reducible exact bd8 (by with_reducible assumption) (by with_reducible assumption) | omega)) ?_); (try dsimp only)))) | walk1 | (dsimp only; walk1) | skip))
  with_reducible exact law_end (by with_reducible assumption) (by with_reducible assumption))
end Mine
end

theorem PySem.Challenge.cw_pk0086_01_holds : PySem.Challenge.rw_pk0086_01.Holds := by
  exact Mine.lawT
