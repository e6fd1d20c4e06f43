import PyProof.Rows.All
import Wide.All
import OpenK.AllK
import Wide.FinOn
import PySem.Challenge.RW_sr0018_01
set_option Elab.async false
section
open PySem PySem.W PyProof.Rows
namespace Mine
set_option maxRecDepth 100000 in
set_option maxHeartbeats 8000000 in
open_top hd for PySem.Challenge.rw_sr0018_01
end Mine
end
section
open PySem PySem.W PyProof.Rows
namespace Mine
def Hold (P : Prop) : Prop := P
theorem Hold.out {P : Prop} (h : Hold P) : P := h
theorem Hold.mk {P : Prop} (h : P) : Hold P := h
def quotes (k : Nat) : Str := ⟨(List.replicate k 34).toArray⟩
def parsed (n : Nat) : Str := ⟨(List.replicate (n / 2) 34 ++ if n % 2 = 0 then [107] else []).toArray⟩
def resp (n : Nat) : Str := ⟨([50,53,55,32,34] ++ List.replicate n 34 ++ [107]).toArray⟩
theorem resp1 : ∀ n < 16, (Txt.slice (resp n) none (some 3) != Str.ofString "257") = false := by decide +kernel
theorem resp2 : ∀ n < 16, (Txt.slice (resp n) (some 3) (some 5) != Str.ofString " \"") = false := by decide +kernel
theorem resp3 : ∀ n < 16, ∀ k < n, Txt.item (resp n) (5 + k) = Str.ofString "\"" := by decide +kernel
theorem resp4 : ∀ n < 16, Txt.item (resp n) (5 + n) = Str.ofString "k" := by decide +kernel
theorem quotes_len (j : Nat) : (quotes j).length = j := by unfold Str.length quotes; simp
theorem quotes_app : ∀ j < 16, quotes j ++ Str.ofString "\"" = quotes (j + 1) := by decide +kernel
theorem parsed_k : ∀ j < 16, quotes j ++ Str.ofString "k" = parsed (2 * j) := by decide +kernel
theorem parsed_odd : ∀ j < 16, quotes j = parsed (2 * j + 1) := by decide +kernel
set_option maxRecDepth 100000 in
set_option maxHeartbeats 8000000 in
theorem parse_c (w : World) (p : Program) (loose : List Str) (mean : ExcName → Option Value) (mg mb : Str → Option Value) (news : List (Addr × Obj)) (n : Nat) (hn : n < 16) (x : Str) (t : Tok)
    (hx : x = resp n) :
  CbClaim PySem.Challenge.rw_sr0018_01.row.prog w (Mine.hd.heap_39 w.params) p loose mean mg mb 78 news [] True [.str x t] (fun t => .str (parsed n) t) := by
  k_with_none
  k_fill
  dsimp only [CbClaim, CbLists, CbRet]
  intro dp un gd cn cs a ccd cl outer A₀ base h₀ L m s Q E B F X N T hk _ hd hu hret
  refine wpAny_call ?_
  k_dflt cell_enter
  have hlen : x.length = n + 6 := by rw [hx]; unfold Str.length resp; simp
  (k_with "exec While Compare cons nil" => (refine Hold.out ?_))
  (k_with "ite" => first | (refine ite_pos rfl ?_) | (refine ite_neg Bool.false_ne_true ?_) | (refine Hold.out ?_))
  k_steps
  refine Hold.mk (ite_neg (by rw [hx, resp1 n hn]; decide) ?_)
  k_steps
  refine Hold.mk (ite_neg (by rw [hx, resp2 n hn]; decide) ?_)
  k_steps
  refine Hold.mk ?_
  (k_with "state" => exact Or.inl ⟨0, by omega, rfl, by decide⟩)
  k_while (fun _ i d => (∃ j : Nat, 2 * j ≤ n ∧ i = 5 + 2 * j ∧ d = quotes j) ∨ (i = 6 + n ∧ n % 2 = 0 ∧ d = parsed n)) (fun _ i _ => (6 + n - i).toNat) "i" "dirname"
  rcases kInv with ⟨j, hj, e1, e2⟩ | ⟨e1, e2, e3⟩
  · subst e1 e2
    k_steps
    refine Hold.mk (ite_pos (by simp [hlen]; omega) ?_)
    k_steps
    refine Hold.mk ?_
    have hql := quotes_len j
    by_cases hc : 2 * j < n
    · have h3 : Txt.item x (5 + 2 * (j : Int)) = Str.ofString "\"" := by rw [hx]; exact resp3 n hn (2 * j) hc
      refine ite_pos (by rw [h3]; decide) ?_
      k_steps
      refine Hold.mk (ite_neg (by simp [hlen]; omega) ?_)
      k_steps
      all_goals (refine Hold.mk ?_)

      have h31 : (5 + 2 * (j : Int) + 1) = 5 + ((2 * j + 1 : Nat) : Int) := by omega
      by_cases hc2 : 2 * j + 1 < n
      · have h4 : Txt.item x (5 + 2 * (j : Int) + 1) = Str.ofString "\"" := by rw [hx, h31]; exact resp3 n hn (2 * j + 1) hc2
        (k_with "state" => exact Or.inl ⟨j + 1, by omega, by (try dsimp only); omega, by rw [h3]; exact quotes_app j (by omega)⟩)
        refine ite_neg (by rw [h4]; decide) ?_
        k_steps


      · have h4 : Txt.item x (5 + 2 * (j : Int) + 1) = Str.ofString "k" := by rw [hx, h31, show 2 * j + 1 = n by omega]; exact resp4 n hn
        refine ite_pos (by rw [h4]; decide) ?_
        k_steps

        have e : quotes j = parsed n := by rw [show n = 2 * j + 1 by omega]; exact parsed_odd j (by omega)
        rw [e]
        exact hret _ _ _ (by assumption) (by assumption)
    · have h3 : Txt.item x (5 + 2 * (j : Int)) = Str.ofString "k" := by rw [hx, show 5 + 2 * (j : Int) = 5 + (n : Int) by omega]; exact resp4 n hn
      (k_with "state" => exact Or.inr ⟨by (try dsimp only); omega, by omega, by rw [h3, show n = 2 * j by omega]; exact parsed_k j (by omega)⟩)
      refine ite_neg (by rw [h3]; decide) ?_
      k_steps


  · subst e1 e3
    k_steps
    refine Hold.mk (ite_neg (by simp [hlen]; omega) ?_)
    k_steps
    exact hret _ _ _ (by assumption) (by assumption)
end Mine
end
section
open PySem PySem.W PyProof.Rows PySem.Flt
namespace Mine
def max3 (x y z : UInt64) : UInt64 :=
  let a := if Float64.cmp x y == some .lt then y else x
  if Float64.cmp a z == some .lt then z else a
def min3 (x y z : UInt64) : UInt64 :=
  let a := if Float64.cmp y x == some .lt then y else x
  if Float64.cmp z a == some .lt then z else a
theorem max_three_v {prog : Program} {w : World} {A : Around} {E : Value → Shared → Prop} {s : Shared} {Q : Value → Shared → Prop} {a b c : Value} (hh : A.handled = none) (ha : NumV a) (hb : NumV b) (hc : NumV c)
    (h : ∀ h' tk, (∀ d o, s.heap.get? d = some o → h'.get? d = some o) → Q (if ltV (if ltV a b then b else a) c then c else if ltV a b then b else a) { s with heap := h', toks := tk }) :
    wpAny (model prog w) A (call (.builtin "max") [a, b, c]) Q E s := by
  have hT : (s.heap.push { cls := .type "tuple", data := .seq #[a, b, c] }).IsTuple s.heap.objs.size #[a, b, c] := ⟨_, Heap.get?_push_size _ rfl, rfl, 0, rfl⟩
  refine call_max_three (wpAny_pyIter_tuple hT ?_)
  have hsz : (s.heap.push { cls := .type "tuple", data := .seq #[a, b, c] }).objs.size = s.heap.objs.size + 1 := Heap.size_push ..
  refine ⟨_, [_, s.heap.objs.size], [_], _, _, _, _, rfl, Walks.tuple (A := A.in1) hh _ s.heap.objs.size (by rw [hsz]; exact Nat.ne_of_lt (Nat.lt_succ_self _)) #[a, b, c],
    ⟨⟨_, Heap.get?_push_size _ rfl, rfl, rfl⟩, hT.push _⟩, fun d hd => ?_, by simp, cmpOf_gt #[a, b, c] (by simp [ha, hb, hc]), fun v h' tk hP hk => ?_⟩
  · show d < ((s.heap.push _).push _).objs.size
    rw [Heap.size_push, hsz]
    simp only [List.mem_cons, List.not_mem_nil, or_false] at hd
    rcases hd with rfl | rfl
    · rw [hsz]; exact Nat.lt_succ_self _
    · exact Nat.lt_succ_of_lt (Nat.lt_succ_self _)
  · have hold : ∀ d o, s.heap.get? d = some o → h'.get? d = some o := fun d o e => by
      refine hk d o (fun hm => ?_) (Heap.get?_push_of_some _ (Heap.get?_push_of_some _ e))
      have := Heap.lt_size e
      simp only [List.mem_cons, List.not_mem_nil, or_false] at hm
      rw [hm, hsz] at this
      exact Nat.lt_irrefl _ (Nat.lt_of_succ_lt this)
    have hv : v = if ltV (if ltV a b then b else a) c then c else if ltV a b then b else a := by
      cases h1 : ltV a b <;> cases h2 : ltV a c <;> cases h3 : ltV b c <;> simp [argBest, h1, h2, h3] at hP ⊢ <;> simp [hP]
    rw [hv]; exact h h' tk hold
theorem min_three_v {prog : Program} {w : World} {A : Around} {E : Value → Shared → Prop} {s : Shared} {Q : Value → Shared → Prop} {a b c : Value} (hh : A.handled = none) (ha : NumV a) (hb : NumV b) (hc : NumV c)
    (h : ∀ h' tk, (∀ d o, s.heap.get? d = some o → h'.get? d = some o) → Q (if ltV c (if ltV b a then b else a) then c else if ltV b a then b else a) { s with heap := h', toks := tk }) :
    wpAny (model prog w) A (call (.builtin "min") [a, b, c]) Q E s := by
  have hT : (s.heap.push { cls := .type "tuple", data := .seq #[a, b, c] }).IsTuple s.heap.objs.size #[a, b, c] := ⟨_, Heap.get?_push_size _ rfl, rfl, 0, rfl⟩
  refine call_min_three (wpAny_pyIter_tuple hT ?_)
  have hsz : (s.heap.push { cls := .type "tuple", data := .seq #[a, b, c] }).objs.size = s.heap.objs.size + 1 := Heap.size_push ..
  refine ⟨_, [_, s.heap.objs.size], [_], _, _, _, _, rfl, Walks.tuple (A := A.in1) hh _ s.heap.objs.size (by rw [hsz]; exact Nat.ne_of_lt (Nat.lt_succ_self _)) #[a, b, c],
    ⟨⟨_, Heap.get?_push_size _ rfl, rfl, rfl⟩, hT.push _⟩, fun d hd => ?_, by simp, cmpOf_lt #[a, b, c] (by simp [ha, hb, hc]), fun v h' tk hP hk => ?_⟩
  · show d < ((s.heap.push _).push _).objs.size
    rw [Heap.size_push, hsz]
    simp only [List.mem_cons, List.not_mem_nil, or_false] at hd
    rcases hd with rfl | rfl
    · rw [hsz]; exact Nat.lt_succ_self _
    · exact Nat.lt_succ_of_lt (Nat.lt_succ_self _)
  · have hold : ∀ d o, s.heap.get? d = some o → h'.get? d = some o := fun d o e => by
      refine hk d o (fun hm => ?_) (Heap.get?_push_of_some _ (Heap.get?_push_of_some _ e))
      have := Heap.lt_size e
      simp only [List.mem_cons, List.not_mem_nil, or_false] at hm
      rw [hm, hsz] at this
      exact Nat.lt_irrefl _ (Nat.lt_of_succ_lt this)
    have hv : v = if ltV c (if ltV b a then b else a) then c else if ltV b a then b else a := by
      cases h1 : ltV b a <;> cases h2 : ltV c a <;> cases h3 : ltV c b <;> simp [argBest, h1, h2, h3] at hP ⊢ <;> simp [hP]
    rw [hv]; exact h h' tk hold
theorem max_three_f {prog : Program} {w : World} {A : Around} {E : Value → Shared → Prop} {s : Shared} {Q : Value → Shared → Prop} {x y z : UInt64} {t u v : Tok} {h₀ : Heap} {L : Addr} {m : Str → Option Value} {news : List (Addr × Obj)}
    (hh : A.handled = none) (F : Fr h₀ L s.heap m) (N : News h₀ L s.heap news) (h : ∀ h' tk r, Fr h₀ L h' m → News h₀ L h' news → Q (.float (max3 x y z) r) { s with heap := h', toks := tk }) :
    wpAny (model prog w) A (call (.builtin "max") [.float x t, .float y u, .float z v]) Q E s :=
  max_three_v hh (.float x t) (.float y u) (.float z v) fun h' tk kp => by
    have F' := F.grownK kp
    have N' := N.grown kp
    have e : ∃ r, (if ltV (if ltV (.float x t) (.float y u) then (.float y u) else (.float x t)) (.float z v) then (.float z v) else if ltV (.float x t) (.float y u) then (.float y u) else (.float x t) : Value) = .float (max3 x y z) r := by
      unfold max3
      cases h1 : Float64.cmp x y == some .lt <;> cases h2 : Float64.cmp y z == some .lt <;> cases h3 : Float64.cmp x z == some .lt <;> simp [ltV, h1, h2, h3]
    obtain ⟨r, e⟩ := e
    rw [e]
    exact h h' tk r F' N'
theorem min_three_f {prog : Program} {w : World} {A : Around} {E : Value → Shared → Prop} {s : Shared} {Q : Value → Shared → Prop} {x y z : UInt64} {t u v : Tok} {h₀ : Heap} {L : Addr} {m : Str → Option Value} {news : List (Addr × Obj)}
    (hh : A.handled = none) (F : Fr h₀ L s.heap m) (N : News h₀ L s.heap news) (h : ∀ h' tk r, Fr h₀ L h' m → News h₀ L h' news → Q (.float (min3 x y z) r) { s with heap := h', toks := tk }) :
    wpAny (model prog w) A (call (.builtin "min") [.float x t, .float y u, .float z v]) Q E s :=
  min_three_v hh (.float x t) (.float y u) (.float z v) fun h' tk kp => by
    have F' := F.grownK kp
    have N' := N.grown kp
    have e : ∃ r, (if ltV (.float z v) (if ltV (.float y u) (.float x t) then (.float y u) else (.float x t)) then (.float z v) else if ltV (.float y u) (.float x t) then (.float y u) else (.float x t) : Value) = .float (min3 x y z) r := by
      unfold min3
      cases h1 : Float64.cmp y x == some .lt <;> cases h2 : Float64.cmp z x == some .lt <;> cases h3 : Float64.cmp z y == some .lt <;> simp [ltV, h1, h2, h3]
    obtain ⟨r, e⟩ := e
    rw [e]
    exact h h' tk r F' N'
end Mine
end
section
open PySem PySem.W PyProof.Rows
namespace Mine
theorem fin_not_nan {x : UInt64} (h : Float64.isFinite x = true) : ¬ Float64.isNaN x = true := by
  unfold Float64.isFinite at h; unfold Float64.isNaN; split at h <;> simp_all
theorem fin_not_inf {x : UInt64} (h : Float64.isFinite x = true) : ¬ Float64.isInf x = true := by
  unfold Float64.isFinite at h; unfold Float64.isInf; split at h <;> simp_all
def F1 : UInt64 := 4607182418800017408
def F2 : UInt64 := 4611686018427387904
def F4 : UInt64 := 4616189618054758400
def F6 : UInt64 := 4618441417868443648
def hsvI (h : UInt64) : Int := Flt.toInt Float64.truncOf (Float64.mul h F6)
def hsvF (h : UInt64) : UInt64 := Float64.sub (Float64.mul h F6) (Float64.ofInt (hsvI h))
def hsvP (s v : UInt64) : UInt64 := Float64.mul v (Float64.sub F1 s)
def hsvQ (f s v : UInt64) : UInt64 := Float64.mul v (Float64.sub F1 (Float64.mul s f))
def hsvT (f s v : UInt64) : UInt64 := Float64.mul v (Float64.sub F1 (Float64.mul s (Float64.sub F1 f)))
def hsvOut (i : Int) (f s v : UInt64) : UInt64 × UInt64 × UInt64 :=
  if (i == 0) = true then (v, hsvT f s v, hsvP s v) else if (i == 1) = true then (hsvQ f s v, v, hsvP s v) else if (i == 2) = true then (hsvP s v, v, hsvT f s v)
  else if (i == 3) = true then (hsvP s v, hsvQ f s v, v) else if (i == 4) = true then (hsvT f s v, hsvP s v, v) else (v, hsvP s v, hsvQ f s v)
abbrev tup3 (a b c : UInt64) (u v w : Tok) : Obj := { cls := .type "tuple", data := .seq #[.float a u, .float b v, .float c w] }
set_option maxRecDepth 100000 in
set_option maxHeartbeats 8000000 in
theorem hsv_c (w : World) (p : Program) (loose : List Str) (mean : ExcName → Option Value) (mg mb : Str → Option Value) (news : List (Addr × Obj)) (fh fs fv : UInt64) (t1 t2 t3 : Tok)
    (q0 : ¬ (Float64.cmp fs 0 == some Ordering.eq) = true) (q1 : Float64.isFinite (Float64.mul fh F6) = true) (q2 : ¬ 2 ^ 1024 - 2 ^ 970 ≤ (hsvI fh).natAbs) :
  ∀ (dp un : Nat) (gd : Option (List Code)) (cn : Str) (cs : Scope) (a : Addr) (ccd : Value) (cl : List (Str × Addr)) (outer : List Env) (A₀ : Around) (base h₀ : Heap) (L : Addr) (m : Str → Option Value) (s : Shared) (Q E : Value → Shared → Prop),
    Below A₀ base outer h₀ → Fr h₀ L s.heap m → (Mine.hd.heap_39 w.params).In h₀ → News h₀ L s.heap news → Top p loose mean mg mb h₀ → cs.kind = .function → dp + 1 < recursionLimit → un + 8 < cLine →
    (∀ x y z, hsvOut ((hsvI fh).fmod 6) (hsvF fh) fs fv = (x, y, z) → ∀ (d : Addr) (u1 u2 u3 : Tok) (h' : Heap) (tk' : Nat), Fr h₀ L h' m → News h₀ L h' ((d, tup3 x y z u1 u2 u3) :: news) → Q (.ref d) { s with heap := h', toks := tk' }) →
    wpAny (model PySem.Challenge.rw_sr0018_01.row.prog w) (ktrTop dp un gd cn cs L a ccd cl outer) (call (.ref 46) [.float fh t1, .float fs t2, .float fv t3]) Q E s := by
  k_with_none
  k_fill
  intro dp un gd cn cs a ccd cl outer A₀ base h₀ L m s Q E B F X N T hk hd hu hret
  refine wpAny_call ?_
  k_dflt cell_enter
  (k_with "ite" => first | (refine ite_pos rfl ?_) | (refine ite_neg Bool.false_ne_true ?_) | (refine Hold.out ?_))
  k_steps
  refine Hold.mk (ite_neg q0 ?_)
  k_steps
  · exact absurd ‹_› (fin_not_nan q1)
  · exact absurd ‹_› (fin_not_inf q1)
  · exact absurd ‹_› q2
  have hb := Int.fmod_nonneg_of_pos (hsvI fh) (b := 6) (by decide)
  have hb2 := Int.fmod_lt_of_pos (hsvI fh) (b := 6) (by decide)
  by_cases c0 : ((hsvI fh).fmod 6 == 0) = true
  · refine Hold.mk (ite_pos c0 ?_)
    k_steps
    refine' hret _ _ _ ?e _ _ _ _ _ _ ?F ?N
    case N => assumption
    case F => assumption
    case e => unfold hsvOut; rw [if_pos c0]; rfl
  refine Hold.mk (ite_neg c0 ?_)
  k_steps
  by_cases c1 : ((hsvI fh).fmod 6 == 1) = true
  · refine Hold.mk (ite_pos c1 ?_)
    k_steps
    refine' hret _ _ _ ?e _ _ _ _ _ _ ?F ?N
    case N => assumption
    case F => assumption
    case e => unfold hsvOut; rw [if_neg c0, if_pos c1]; rfl
  refine Hold.mk (ite_neg c1 ?_)
  k_steps
  by_cases c2 : ((hsvI fh).fmod 6 == 2) = true
  · refine Hold.mk (ite_pos c2 ?_)
    k_steps
    refine' hret _ _ _ ?e _ _ _ _ _ _ ?F ?N
    case N => assumption
    case F => assumption
    case e => unfold hsvOut; rw [if_neg c0, if_neg c1, if_pos c2]; rfl
  refine Hold.mk (ite_neg c2 ?_)
  k_steps
  by_cases c3 : ((hsvI fh).fmod 6 == 3) = true
  · refine Hold.mk (ite_pos c3 ?_)
    k_steps
    refine' hret _ _ _ ?e _ _ _ _ _ _ ?F ?N
    case N => assumption
    case F => assumption
    case e => unfold hsvOut; rw [if_neg c0, if_neg c1, if_neg c2, if_pos c3]; rfl
  refine Hold.mk (ite_neg c3 ?_)
  k_steps
  by_cases c4 : ((hsvI fh).fmod 6 == 4) = true
  · refine Hold.mk (ite_pos c4 ?_)
    k_steps
    refine' hret _ _ _ ?e _ _ _ _ _ _ ?F ?N
    case N => assumption
    case F => assumption
    case e => unfold hsvOut; rw [if_neg c0, if_neg c1, if_neg c2, if_neg c3, if_pos c4]; rfl
  refine Hold.mk (ite_neg c4 ?_)
  k_steps
  have c5 : ((hsvI fh).fmod 6 == 5) = true := by
    simp only [beq_iff_eq] at *
    omega
  refine Hold.mk (ite_pos c5 ?_)
  k_steps
  refine' hret _ _ _ ?e _ _ _ _ _ _ ?F ?N
  case N => assumption
  case F => assumption
  case e => unfold hsvOut; rw [if_neg c0, if_neg c1, if_neg c2, if_neg c3, if_neg c4]; rfl
end Mine
end
section
open PySem PySem.W PyProof.Rows
namespace Mine
def rgbR (r g b : UInt64) : UInt64 := Float64.sub (max3 r g b) (min3 r g b)
def rgbC (x r g b : UInt64) : UInt64 := Float64.div (Float64.sub (max3 r g b) x) (rgbR r g b)
def rgbH (r g b : UInt64) : UInt64 :=
  if (Float64.cmp r (max3 r g b) == some Ordering.eq) = true then Float64.sub (rgbC b r g b) (rgbC g r g b)
  else if (Float64.cmp g (max3 r g b) == some Ordering.eq) = true then Float64.sub (Float64.add F2 (rgbC r r g b)) (rgbC b r g b)
  else Float64.sub (Float64.add F4 (rgbC g r g b)) (rgbC r r g b)
def rgbOut (r g b : UInt64) : UInt64 × UInt64 × UInt64 :=
  ((Float64.divmod (Float64.div (rgbH r g b) F6) F1).2, Float64.div (rgbR r g b) (max3 r g b), max3 r g b)
local macro_rules | `(tactic| walk_at "call builtin:max") => `(tactic| (k_here; (with_reducible show wpAny _ _ (PySem.call (Value.builtin "max") [Value.float _ _, Value.float _ _, Value.float _ _]) _ _ _); refine' max_three_f rfl ?F ?N ?_; (case F => k_asm); (case N => k_asm); intro h' tk' r' F' N'; (try k_sweep)))
local macro_rules | `(tactic| walk_at "call builtin:min") => `(tactic| (k_here; (with_reducible show wpAny _ _ (PySem.call (Value.builtin "min") [Value.float _ _, Value.float _ _, Value.float _ _]) _ _ _); refine' min_three_f rfl ?F ?N ?_; (case F => k_asm); (case N => k_asm); intro h' tk' r' F' N'; (try k_sweep)))
set_option maxRecDepth 100000 in
set_option maxHeartbeats 8000000 in
theorem rgb_c (w : World) (p : Program) (loose : List Str) (mean : ExcName → Option Value) (mg mb : Str → Option Value) (news : List (Addr × Obj)) (fr fg fb : UInt64) (t1 t2 t3 : Tok)
    (q0 : ¬ (Float64.cmp (min3 fr fg fb) (max3 fr fg fb) == some Ordering.eq) = true) (q1 : ¬ Float64.isZero (max3 fr fg fb) = true) (q2 : ¬ Float64.isZero (rgbR fr fg fb) = true) :
  ∀ (dp un : Nat) (gd : Option (List Code)) (cn : Str) (cs : Scope) (a : Addr) (ccd : Value) (cl : List (Str × Addr)) (outer : List Env) (A₀ : Around) (base h₀ : Heap) (L : Addr) (m : Str → Option Value) (s : Shared) (Q E : Value → Shared → Prop),
    Below A₀ base outer h₀ → Fr h₀ L s.heap m → (Mine.hd.heap_39 w.params).In h₀ → News h₀ L s.heap news → Top p loose mean mg mb h₀ → cs.kind = .function → dp + 1 < recursionLimit → un + 8 < cLine →
    (∀ x y z, rgbOut fr fg fb = (x, y, z) → ∀ (d : Addr) (u1 u2 u3 : Tok) (h' : Heap) (tk' : Nat), Fr h₀ L h' m → News h₀ L h' ((d, tup3 x y z u1 u2 u3) :: news) → Q (.ref d) { s with heap := h', toks := tk' }) →
    wpAny (model PySem.Challenge.rw_sr0018_01.row.prog w) (ktrTop dp un gd cn cs L a ccd cl outer) (call (.ref 39) [.float fr t1, .float fg t2, .float fb t3]) Q E s := by
  k_with_none
  k_fill
  intro dp un gd cn cs a ccd cl outer A₀ base h₀ L m s Q E B F X N T hk hd hu hret
  refine wpAny_call ?_
  k_dflt cell_enter
  (k_with "ite" => first | (refine ite_pos rfl ?_) | (refine ite_neg Bool.false_ne_true ?_) | (refine Hold.out ?_))
  k_steps
  refine Hold.mk (ite_neg q0 ?_)
  have q3 : ¬ Float64.isZero (Float64.sub (max3 fr fg fb) (min3 fr fg fb)) = true := q2
  k_steps
  by_cases c0 : (Float64.cmp fr (max3 fr fg fb) == some Ordering.eq) = true
  · refine Hold.mk (ite_pos c0 ?_)
    k_steps
    refine' hret _ _ _ ?e _ _ _ _ _ _ ?F ?N
    case N => assumption
    case F => assumption
    case e => unfold rgbOut rgbH; rw [if_pos c0]; rfl
  refine Hold.mk (ite_neg c0 ?_)
  k_steps
  by_cases c1 : (Float64.cmp fg (max3 fr fg fb) == some Ordering.eq) = true
  · refine Hold.mk (ite_pos c1 ?_)
    k_steps
    refine' hret _ _ _ ?e _ _ _ _ _ _ ?F ?N
    case N => assumption
    case F => assumption
    case e => unfold rgbOut rgbH; rw [if_neg c0, if_pos c1]; rfl
  refine Hold.mk (ite_neg c1 ?_)
  k_steps
  refine' hret _ _ _ ?e _ _ _ _ _ _ ?F ?N
  case N => assumption
  case F => assumption
  case e => unfold rgbOut rgbH; rw [if_neg c0, if_neg c1]; rfl
end Mine
end
section
open PySem PySem.W PyProof.Rows
namespace Mine
def idiv (a b : Int) : UInt64 := Float64.ofFrac (decide (a < 0) != decide (b < 0)) a.natAbs b.natAbs
def hueI (m : Nat) : Int := 6 * m / 8
def hueF (m : Nat) : UInt64 := idiv (6 * m % 8 : Nat) 8
def checkA (far size : Nat) : Bool :=
  Float64.isFinite (Float64.mul (idiv far size) F6) && decide ((hsvI (idiv far size)).natAbs < 10000) && (hsvI (idiv far size)).fmod 6 == hueI (far % size * (8 / size)) && hsvF (idiv far size) == hueF (far % size * (8 / size))
set_option maxRecDepth 100000
theorem checkA8a : ∀ k < 127, checkA k 8 = true := by decide +kernel
theorem checkA8b : ∀ k < 126, checkA (127 + k) 8 = true := by decide +kernel
theorem checkA8c : ∀ k < 126, checkA (253 + k) 8 = true := by decide +kernel
theorem checkA8d : ∀ k < 126, checkA (379 + k) 8 = true := by decide +kernel
theorem checkA8 : ∀ far < 505, checkA far 8 = true := by
  intro far h
  rcases Nat.lt_or_ge far 127 with h1 | h1
  · exact checkA8a far h1
  rcases Nat.lt_or_ge far 253 with h2 | h2
  · exact Nat.add_sub_of_le h1 ▸ checkA8b (far - 127) (Nat.sub_lt_left_of_lt_add h1 h2)
  rcases Nat.lt_or_ge far 379 with h3 | h3
  · exact Nat.add_sub_of_le h2 ▸ checkA8c (far - 253) (Nat.sub_lt_left_of_lt_add h2 h3)
  · exact Nat.add_sub_of_le h3 ▸ checkA8d (far - 379) (Nat.sub_lt_left_of_lt_add h3 h)
theorem checkA4a : ∀ k < 127, checkA k 4 = true := by decide +kernel
theorem checkA4b : ∀ k < 126, checkA (127 + k) 4 = true := by decide +kernel
theorem checkA4 : ∀ far < 253, checkA far 4 = true := by
  intro far h
  rcases Nat.lt_or_ge far 127 with h1 | h1
  · exact checkA4a far h1
  · exact Nat.add_sub_of_le h1 ▸ checkA4b (far - 127) (Nat.sub_lt_left_of_lt_add h1 h)
theorem checkA2 : ∀ far < 127, checkA far 2 = true := by decide +kernel
theorem checkA1 : ∀ far < 64, checkA far 1 = true := by decide +kernel
def checkB (m sh va : Nat) : Bool :=
  let s := idiv sh 4
  let v := idiv va 4
  let (r, g, b) := hsvOut (hueI m) (hueF m) s v
  !(Float64.cmp (min3 r g b) (max3 r g b) == some Ordering.eq) && !Float64.isZero (max3 r g b) && !Float64.isZero (rgbR r g b) && rgbOut r g b == (idiv m 8, s, v) && !(Float64.cmp s 0 == some .eq) && (Float64.cmp s s == some .eq) && (Float64.cmp v v == some .eq)
theorem checkB1 : ∀ m < 8, ∀ va < 4, checkB m 1 (va + 1) = true := by decide +kernel
theorem checkB2 : ∀ m < 8, ∀ va < 4, checkB m 2 (va + 1) = true := by decide +kernel
theorem checkB3 : ∀ m < 8, ∀ va < 4, checkB m 3 (va + 1) = true := by decide +kernel
theorem checkB4 : ∀ m < 8, ∀ va < 4, checkB m 4 (va + 1) = true := by decide +kernel
theorem checkB_all : ∀ m < 8, ∀ sh < 4, ∀ va < 4, checkB m (sh + 1) (va + 1) = true
  | m, hm, 0, _, va, hv => checkB1 m hm va hv
  | m, hm, 1, _, va, hv => checkB2 m hm va hv
  | m, hm, 2, _, va, hv => checkB3 m hm va hv
  | m, hm, 3, _, va, hv => checkB4 m hm va hv
  | _, _, n + 4, h, _, _ => absurd h (Nat.not_lt.mpr (Nat.le_add_left 4 n))
def checkC (m size : Nat) : Bool :=
  let x := Float64.mul (idiv (m * (8 / size) : Nat) 8) (Float64.ofInt size)
  Float64.isFinite x && Flt.toInt Float64.truncOf x == m
theorem checkC_all : ∀ e < 4, ∀ m < 2 ^ e, checkC m (2 ^ e) = true := by decide +kernel
end Mine
end
section
open PySem PySem.W PyProof.Rows
namespace Mine
theorem checkA_all : ∀ e < 4, ∀ far ≤ 63 * 2 ^ e, checkA far (2 ^ e) = true := by
  intro e he far hf
  have h : e = 0 ∨ e = 1 ∨ e = 2 ∨ e = 3 := by omega
  rcases h with rfl | rfl | rfl | rfl
  · exact checkA1 far (by omega)
  · exact checkA2 far (by omega)
  · exact checkA4 far (by omega)
  · exact checkA8 far (by omega)
theorem big10000 : 10000 ≤ 2 ^ 1024 - 2 ^ 970 := by decide +kernel
theorem num_facts {far size sh va : Int} (e : Nat) (he : e < 4) (hs : size = 2 ^ e) (h0 : 0 ≤ far) (h1 : far ≤ 63 * 2 ^ e) (hsh : 1 ≤ sh ∧ sh ≤ 4) (hva : 1 ≤ va ∧ va ≤ 4) :
    ¬ (Float64.cmp (idiv sh 4) 0 == some Ordering.eq) = true ∧ Float64.isFinite (Float64.mul (idiv far size) F6) = true ∧ (hsvI (idiv far size)).natAbs < 10000 ∧
    ∀ r g b, hsvOut ((hsvI (idiv far size)).fmod 6) (hsvF (idiv far size)) (idiv sh 4) (idiv va 4) = (r, g, b) →
      ¬ (Float64.cmp (min3 r g b) (max3 r g b) == some Ordering.eq) = true ∧ ¬ Float64.isZero (max3 r g b) = true ∧ ¬ Float64.isZero (rgbR r g b) = true ∧
      ∀ x y z, rgbOut r g b = (x, y, z) → y = idiv sh 4 ∧ z = idiv va 4 ∧ (Float64.cmp y (idiv sh 4) == some .eq) = true ∧ (Float64.cmp z (idiv va 4) == some .eq) = true ∧
        Float64.isFinite (Float64.mul x (Float64.ofInt size)) = true ∧ Flt.toInt Float64.truncOf (Float64.mul x (Float64.ofInt size)) = far % size := by
  obtain ⟨f, rfl⟩ := Int.eq_ofNat_of_zero_le h0
  obtain ⟨a, rfl⟩ := Int.eq_ofNat_of_zero_le (show 0 ≤ sh - 1 by omega) |>.imp fun a h => (by omega : sh = (a + 1 : Nat))
  obtain ⟨b, rfl⟩ := Int.eq_ofNat_of_zero_le (show 0 ≤ va - 1 by omega) |>.imp fun a h => (by omega : va = (a + 1 : Nat))
  have hsz : size = ((2 ^ e : Nat) : Int) := by rw [hs]; push_cast; rfl
  have hf : f ≤ 63 * 2 ^ e := by
    have : ((f : Nat) : Int) ≤ ((63 * 2 ^ e : Nat) : Int) := by push_cast; exact h1
    exact Int.ofNat_le.mp this
  subst hsz
  have A := checkA_all e he f hf
  have hm : f % 2 ^ e < 2 ^ e := Nat.mod_lt _ (Nat.two_pow_pos e)
  have hm8 : f % 2 ^ e * (8 / 2 ^ e) < 8 := by
    have h : e = 0 ∨ e = 1 ∨ e = 2 ∨ e = 3 := by omega
    rcases h with rfl | rfl | rfl | rfl <;> omega
  have B := checkB_all _ hm8 a (by omega) b (by omega)
  have C := checkC_all e he _ hm
  unfold checkA at A
  unfold checkB at B
  unfold checkC at C
  simp only [Bool.and_eq_true, decide_eq_true_eq, beq_iff_eq] at A
  obtain ⟨⟨⟨A1, A2⟩, A3⟩, A4⟩ := A
  dsimp only at B C
  rw [A3, A4]
  simp only [Bool.and_eq_true, beq_iff_eq, Bool.not_eq_true', beq_eq_false_iff_ne] at B C
  obtain ⟨⟨⟨⟨⟨⟨B1, B2⟩, B3⟩, B4⟩, B5⟩, B6⟩, B7⟩ := B
  refine ⟨by simpa using B5, A1, A2, fun r g bb hr => ?_⟩
  rw [hr] at B1 B2 B3 B4
  dsimp only at B1 B2 B3 B4
  refine ⟨by simpa using B1, by simpa using B2, by simpa using B3, fun x y z hx => ?_⟩
  rw [hx] at B4
  obtain ⟨e1, e23⟩ := Prod.mk.inj B4
  obtain ⟨e2, e3⟩ := Prod.mk.inj e23
  subst e1 e2 e3
  refine ⟨rfl, rfl, by simpa using B6, by simpa using B7, ?_⟩
  obtain ⟨C1, C2⟩ := C
  refine ⟨C1, ?_⟩
  rw [C2]
  push_cast
  rfl
theorem resp_eq : ∀ n < 16, Str.ofString "257 \"" ++ Txt.mul (Str.ofString "\"") ((n : Nat) : Int) ++ Str.ofString "k" = resp n := by decide +kernel
theorem parsed_even : ∀ k < 8, (Txt.slice (parsed (2 * k)) (some (-1)) none == Str.ofString "k") = true ∧ (parsed (2 * k)).length = k + 1 := by decide +kernel
theorem parsed_odd2 : ∀ k < 8, (Txt.slice (parsed (2 * k + 1)) (some (-1)) none == Str.ofString "k") = false ∧ (parsed (2 * k + 1)).length = k := by decide +kernel
end Mine
end
section
open PySem PySem.W PyProof.Rows
namespace Mine
theorem not_bne {a b : Option Ordering} (h : (a == b) = true) : ¬ (a != b) = true := by simp [bne, h]
def farFn (n : Nat) (fa ad : Int) : Int := if n % 2 = 0 then ((n / 2 : Nat) : Int) else fa * ((n / 2 : Nat) : Int) + (fa + ad) / 2
def letFn (n : Nat) : Str := if n % 2 = 0 then Str.ofString "0" else Str.ofString "1"
def wordFn (n : Nat) (fa ad : Int) (ws : List Str) : Str := letFn n ++ ws.getD (farFn n fa ad % (ws.length : Int)).toNat Str.empty
theorem getD_bound {ws : List Str} (h : ∀ x ∈ ws, x.length ≤ 4) (i : Nat) : (ws.getD i Str.empty).length ≤ 4 := by
  rw [List.getD_eq_getElem?_getD]
  cases hi : ws[i]? with
  | none => exact Nat.zero_le _
  | some y => exact h y (List.mem_of_getElem? hi)
set_option maxRecDepth 100000 in
set_option maxHeartbeats 8000000 in
theorem word_c (w : World) (p : Program) (loose : List Str) (mean : ExcName → Option Value) (mg mb : Str → Option Value) (news : List (Addr × Obj)) (n : Nat) (fa ad sh va : Int) (t1 t2 t3 t5 t6 : Tok) (sl : Addr) (vs : List Value) (ws : List Str) (c : Nat)
    (hn : n < 16) (hmem : (sl, listOf vs.toArray c) ∈ news) (hws : StrsAre vs ws) (e : Nat) (he : e < 4) (hwb : ∀ x ∈ ws, x.length ≤ 4) (hlen : ws.length = 2 ^ e) (hn2 : n < 2 * 2 ^ e) (hfa : 1 ≤ fa ∧ fa ≤ 63 ∧ fa % 2 = 1) (had : 1 ≤ ad ∧ ad ≤ 63 ∧ ad % 2 = 1) (hsh : 1 ≤ sh ∧ sh ≤ 4) (hva : 1 ≤ va ∧ va ≤ 4) :
  ∀ (dp un : Nat) (gd : Option (List Code)) (cn : Str) (cs : Scope) (a : Addr) (ccd : Value) (cl : List (Str × Addr)) (outer : List Env) (A₀ : Around) (base h₀ : Heap) (L : Addr) (m : Str → Option Value) (s : Shared) (Q E : Value → Shared → Prop),
    Below A₀ base outer h₀ → Fr h₀ L s.heap m → (Mine.hd.heap_39 w.params).In h₀ → News h₀ L s.heap news → Top p loose mean mg mb h₀ → cs.kind = .function → dp + 2 < recursionLimit → un + 16 < cLine →
    (∀ t h' tk', Fr h₀ L h' m → News h₀ L h' news → Q (.str (wordFn n fa ad ws) t) { s with heap := h', toks := tk' }) →
    wpAny (model PySem.Challenge.rw_sr0018_01.row.prog w) (ktrTop dp un gd cn cs L a ccd cl outer) (call (.ref 97) [.int n t1, .int fa t2, .int ad t3, .ref sl, .int sh t5, .int va t6]) Q E s := by
  k_with_none
  k_fill
  intro dp un gd cn cs a ccd cl outer A₀ base h₀ L m s Q E B F X N T hk hd hu hret
  refine wpAny_call ?_
  k_dflt cell_enter
  have hwl : 1 ≤ ws.length ∧ ws.length ≤ 8 := by
    rw [hlen]
    have h : e = 0 ∨ e = 1 ∨ e = 2 ∨ e = 3 := by omega
    rcases h with rfl | rfl | rfl | rfl <;> decide
  (k_with "call ref" => (refine Hold.out ?_))
  (k_with "ite" => first | (refine ite_pos rfl ?_) | (refine ite_neg Bool.false_ne_true ?_) | (refine Hold.out ?_))
  k_steps
  refine Hold.mk ?_
  have hCb := fun t => parse_c w p loose mean mg mb news n hn _ t (resp_eq n hn)
  dsimp only [CbClaim, CbLists, CbRet] at hCb
  k_dflt (refine' hCb _ _ _ _ _ _ _ _ _ _ _ _ _ _ _ _ _ _ ?k1 ?k2 ?k3 ?k4 ?k5 ?kK trivial ?kd ?ku ?_)
  case k1 => k_asm
  case k2 => k_asm
  case k3 => k_asm
  case k4 => k_asm
  case k5 => k_asm
  case kK => exact rfl
  case kd => ktr_room
  case ku => ktr_units
  clear hCb
  intro t9 h9 tk9 F9 N9
  (try dsimp only)
  (try k_fold)
  obtain ⟨k, hk2⟩ : ∃ k, n = 2 * k ∨ n = 2 * k + 1 := ⟨n / 2, by omega⟩
  rcases hk2 with rfl | rfl
  · have hp := parsed_even k (by omega)
    obtain ⟨hp1, hp2⟩ := hp
    k_steps
    refine Hold.mk (ite_pos hp1 ?_)
    k_steps
    refine len_strsA (News.isList (by assumption) hmem) hws (by omega) ?_
    k_steps
    refine Hold.mk ?_
    have hS : (ws.length : Int) = 2 ^ e := by rw [hlen]; push_cast; rfl
    obtain ⟨q0, q1, q2, q3⟩ := num_facts (far := ((parsed (2 * k)).length : Int) - 1) (size := (ws.length : Int)) e he hS (by omega) (by rw [← hS]; omega) hsh hva
    have hCb := fun t1 t2 t3 => hsv_c w p loose mean mg mb news _ _ (idiv va 4) t1 t2 t3 q0 q1 (by have := big10000; omega)
    k_dflt (refine' hCb _ _ _ _ _ _ _ _ _ _ _ _ _ _ _ _ _ _ _ _ ?k1 ?k2 ?k3 ?k4 ?k5 ?kK ?kd ?ku ?_)
    case k1 => k_asm
    case k2 => k_asm
    case k3 => k_asm
    case k4 => k_asm
    case k5 => k_asm
    case kK => exact rfl
    case kd => ktr_room
    case ku => ktr_units
    clear hCb
    intro r g b hr d1 u1 u2 u3 h9 tk9 F9 N9
    (try dsimp only)
    (try k_fold)
    obtain ⟨q4, q5, q6, q7⟩ := q3 r g b hr
    k_steps
    refine Hold.mk ?_
    have hCb := fun t1 t2 t3 => rgb_c w p loose mean mg mb ((d1, tup3 r g b u1 u2 u3) :: news) r g b t1 t2 t3 q4 q5 q6
    k_dflt (refine' hCb _ _ _ _ _ _ _ _ _ _ _ _ _ _ _ _ _ _ _ _ ?k1 ?k2 ?k3 ?k4 ?k5 ?kK ?kd ?ku ?_)
    case k1 => k_asm
    case k2 => k_asm
    case k3 => k_asm
    case k4 => k_asm
    case k5 => k_asm
    case kK => exact rfl
    case kd => ktr_room
    case ku => ktr_units
    clear hCb
    intro hu1 sh1 va1 hr1 d2 u4 u5 u6 h9 tk9 F9 N9
    (try dsimp only)
    (try k_fold)
    obtain ⟨e1, e2, q8, q9, q10, q11⟩ := q7 hu1 sh1 va1 hr1
    have q12 := fin_not_nan q10
    have q13 := fin_not_inf q10
    k_steps
    refine Hold.mk (ite_neg (not_bne q8) ?_)
    k_steps
    refine Hold.mk (ite_neg (not_bne q9) ?_)
    k_steps
    have hi0 : 0 ≤ (((parsed (2 * k)).length : Int) - 1) % (ws.length : Int) := Int.emod_nonneg _ (by omega)
    have hi1 : (((parsed (2 * k)).length : Int) - 1) % (ws.length : Int) < (ws.length : Int) := Int.emod_lt_of_pos _ (by omega)
    have hgb := getD_bound hwb ((((parsed (2 * k)).length : Int) - 1) % (ws.length : Int)).toNat
    rw [q11]
    refine item_strsA (News.isList (by assumption) (List.mem_cons_of_mem _ (List.mem_cons_of_mem _ hmem))) hws hi0 hi1 (by omega) ?_
    intro t10
    k_steps
    have ew : Str.ofString "0" ++ ws.getD ((((parsed (2 * k)).length : Int) - 1) % (ws.length : Int)).toNat Str.empty = wordFn (2 * k) fa ad ws := by
      unfold wordFn letFn farFn
      rw [if_pos (by omega), if_pos (by omega), hp2, show 2 * k / 2 = k by omega]
      simp
    rw [ew]
    exact hret _ _ _ (by assumption) (fun p hp => ‹News h₀ L _ _› p (List.mem_cons_of_mem _ (List.mem_cons_of_mem _ hp)))
  · have hp := parsed_odd2 k (by omega)
    obtain ⟨hp1, hp2⟩ := hp
    have hkk : (k : Int) + 1 ≤ (ws.length : Int) := by
      have : 2 * k + 1 < 2 * ws.length := by rw [hlen]; exact hn2
      omega
    have hfk0 : 0 ≤ fa * (k : Int) := Int.mul_nonneg (by omega) (by omega)
    have hfk1 : fa * (k : Int) ≤ 63 * (k : Int) := Int.mul_le_mul_of_nonneg_right (by omega) (by omega)
    have hF0 : 0 ≤ (fa * ((parsed (2 * k + 1)).length : Int) + (fa + ad).fdiv 2) := by
      rw [hp2, Int.fdiv_eq_ediv_of_nonneg _ (by decide)]; omega
    have hF1 : (fa * ((parsed (2 * k + 1)).length : Int) + (fa + ad).fdiv 2) ≤ 63 * (ws.length : Int) := by
      rw [hp2, Int.fdiv_eq_ediv_of_nonneg _ (by decide)]; omega
    k_steps
    refine Hold.mk (ite_neg (by rw [hp1]; decide) ?_)
    k_steps
    refine len_strsA (News.isList (by assumption) hmem) hws (by omega) ?_
    k_steps
    refine Hold.mk ?_
    have hS : (ws.length : Int) = 2 ^ e := by rw [hlen]; push_cast; rfl
    obtain ⟨q0, q1, q2, q3⟩ := num_facts (far := (fa * ((parsed (2 * k + 1)).length : Int) + (fa + ad).fdiv 2)) (size := (ws.length : Int)) e he hS hF0 (by rw [← hS]; exact hF1) hsh hva
    have hCb := fun t1 t2 t3 => hsv_c w p loose mean mg mb news _ _ (idiv va 4) t1 t2 t3 q0 q1 (by have := big10000; omega)
    k_dflt (refine' hCb _ _ _ _ _ _ _ _ _ _ _ _ _ _ _ _ _ _ _ _ ?k1 ?k2 ?k3 ?k4 ?k5 ?kK ?kd ?ku ?_)
    case k1 => k_asm
    case k2 => k_asm
    case k3 => k_asm
    case k4 => k_asm
    case k5 => k_asm
    case kK => exact rfl
    case kd => ktr_room
    case ku => ktr_units
    clear hCb
    intro r g b hr d1 u1 u2 u3 h9 tk9 F9 N9
    (try dsimp only)
    (try k_fold)
    obtain ⟨q4, q5, q6, q7⟩ := q3 r g b hr
    k_steps
    refine Hold.mk ?_
    have hCb := fun t1 t2 t3 => rgb_c w p loose mean mg mb ((d1, tup3 r g b u1 u2 u3) :: news) r g b t1 t2 t3 q4 q5 q6
    k_dflt (refine' hCb _ _ _ _ _ _ _ _ _ _ _ _ _ _ _ _ _ _ _ _ ?k1 ?k2 ?k3 ?k4 ?k5 ?kK ?kd ?ku ?_)
    case k1 => k_asm
    case k2 => k_asm
    case k3 => k_asm
    case k4 => k_asm
    case k5 => k_asm
    case kK => exact rfl
    case kd => ktr_room
    case ku => ktr_units
    clear hCb
    intro hu1 sh1 va1 hr1 d2 u4 u5 u6 h9 tk9 F9 N9
    (try dsimp only)
    (try k_fold)
    obtain ⟨e1, e2, q8, q9, q10, q11⟩ := q7 hu1 sh1 va1 hr1
    have q12 := fin_not_nan q10
    have q13 := fin_not_inf q10
    k_steps
    refine Hold.mk (ite_neg (not_bne q8) ?_)
    k_steps
    refine Hold.mk (ite_neg (not_bne q9) ?_)
    k_steps
    have hi0 : 0 ≤ (fa * ((parsed (2 * k + 1)).length : Int) + (fa + ad).fdiv 2) % (ws.length : Int) := Int.emod_nonneg _ (by omega)
    have hi1 : (fa * ((parsed (2 * k + 1)).length : Int) + (fa + ad).fdiv 2) % (ws.length : Int) < (ws.length : Int) := Int.emod_lt_of_pos _ (by omega)
    have hgb := getD_bound hwb ((fa * ((parsed (2 * k + 1)).length : Int) + (fa + ad).fdiv 2) % (ws.length : Int)).toNat
    rw [q11]
    refine item_strsA (News.isList (by assumption) (List.mem_cons_of_mem _ (List.mem_cons_of_mem _ hmem))) hws hi0 hi1 (by omega) ?_
    intro t10
    k_steps
    have ew : Str.ofString "1" ++ ws.getD ((fa * ((parsed (2 * k + 1)).length : Int) + (fa + ad).fdiv 2) % (ws.length : Int)).toNat Str.empty = wordFn (2 * k + 1) fa ad ws := by
      unfold wordFn letFn farFn
      rw [if_neg (by omega), if_neg (by omega), hp2, show (2 * k + 1) / 2 = k by omega, Int.fdiv_eq_ediv_of_nonneg _ (by decide)]
    rw [ew]
    exact hret _ _ _ (by assumption) (fun p hp => ‹News h₀ L _ _› p (List.mem_cons_of_mem _ (List.mem_cons_of_mem _ hp)))
end Mine
end
section
open PySem PySem.W PyProof.Rows PySem.SeqAt
open PySem.AutoSeq1 (wpAny_loadPart')
open PySem.MeetsSeq PySem.MeetsSeq2 PySem.MeetsSeq3 PySem.SeqRoads2
namespace Mine
def ltPair (x : Str) (i : Int) (y : Str) (j : Int) : Bool := if (x == y) = true then decide (i < j) else decide (x.cps.toList < y.cps.toList)
def LtAt (A : Around) (s : Shared) (y x : Value) (b : Bool) : Prop :=
  ∀ (prog : Program) (w : World) (E : Value → Shared → Prop) (Q : Value → Shared → Prop), Q (.bool b) s → wpAny (model prog w) A (richCompare .Lt y x) Q E s
theorem ltAt_str (A : Around) (s : Shared) (x y : Str) (t u : Tok) : LtAt A s (.str x t) (.str y u) (decide (x.cps.toList < y.cps.toList)) := fun _ _ _ _ h => P.lt_str h
theorem ltAt_int (A : Around) (s : Shared) (a b : Int) (t u : Tok) : LtAt A s (.int a t) (.int b u) (decide (a < b)) := fun _ _ _ _ h =>
  richCompare_gives (op := .Lt) (typeIs_int _ _ _) (typeIs_int _ _ _) F.slot_int_lt F.entry_int_lt (F.args_int_lt_2 _ _) (gives_int_lt _ _ _ _) (fun x => nomatch x) h
def lexB (e r : Nat → Bool) (fin : Bool) : List Nat → Bool
  | [] => fin
  | j :: l => if e j then lexB e r fin l else r j
theorem tuple_ltAt (l b : Addr) (items items2 : Array Value) (n n2 : Nat) (e r : Nat → Bool) :
    Meets (Builtin.«tuple.__lt__» ⟨[.ref l, .ref b], []⟩)
      (fun A R s => s.heap.get? l = some { cls := .type "tuple", data := .seq items n } ∧ s.heap.get? b = some { cls := .type "tuple", data := .seq items2 n2 } ∧
        (∀ j (h1 : j < items.size) (h2 : j < items2.size), EqAt A.in1 s items[j] items2[j] (e j)) ∧ (∀ j (h1 : j < items.size) (h2 : j < items2.size), LtAt A.in1 s items[j] items2[j] (r j)) ∧
        R (.ok (.ret (.bool (lexB e r (decide (items.size < items2.size)) (List.range (min items.size items2.size)))))) s) :=
  .of_wp fun prog w A R s h => by
    obtain ⟨hp, g, d, tk, os⟩ := s; obtain ⟨hl, hb, he, hr, h⟩ := h
    have f2 := AutoSeq1.sub_tuple_tuple
    have hZ : (items.toList.zip items2.toList).length = min items.size items2.size := by simp
    wp_walk using wpAny_loadPart' hl, wpAny_loadPart' hb, wpAny_forIn_list _ (fun rest b s' => b.1 = none ∧ s' = ⟨hp, g, d, tk, os⟩ ∧ ∃ i, rest = (items.toList.zip items2.toList).drop i ∧
      R (.ok (.ret (.bool (lexB e r (decide (items.size < items2.size)) ((List.range (min items.size items2.size)).drop i))))) ⟨hp, g, d, tk, os⟩) _
    case turn =>
      rintro ⟨y, x⟩ rest b s' ⟨hb', rfl, i, hz, hR⟩
      have hlt : i < (items.toList.zip items2.toList).length := by
        rcases Nat.lt_or_ge i (items.toList.zip items2.toList).length with h' | h'
        · exact h'
        · rw [List.drop_of_length_le h'] at hz; cases hz
      have hm : i < min items.size items2.size := hZ ▸ hlt
      have h1 : i < items.size := Nat.lt_of_lt_of_le hm (Nat.min_le_left _ _)
      have h2 : i < items2.size := Nat.lt_of_lt_of_le hm (Nat.min_le_right _ _)
      rw [List.drop_eq_getElem_cons hlt] at hz
      injection hz with hyx hrest
      have hy : y = items[i] := by have := congrArg Prod.fst hyx; simpa using this
      have hx : x = items2[i] := by have := congrArg Prod.snd hyx; simpa using this
      subst hy hx
      have hd : (List.range (min items.size items2.size)).drop i = i :: (List.range (min items.size items2.size)).drop (i + 1) := by simp [List.drop_eq_getElem_cons, hm]
      rw [hd, lexB] at hR
      refine wpAny_bind (he i h1 h2 prog w _ _ ?_)
      cases hy : e i with
      | true =>
        rw [hy] at hR
        wp_walk
        exact ⟨rfl, rfl, i + 1, hrest, by simpa using hR⟩
      | false =>
        rw [hy] at hR
        have hr' := hr i h1 h2 prog w
        generalize richCompare CmpOp.Lt items[i] items2[i] = rc at hr' ⊢
        wp_walk
        refine hr' _ _ ?_
        wp_walk
        exact ⟨_, rfl, by simpa using hR⟩
    case fin =>
      rintro ⟨b1, b2⟩ s' ⟨hb', rfl, i, hz, hR⟩
      simp only at hb'
      subst hb'
      have hge : min items.size items2.size ≤ i := by
        rcases Nat.lt_or_ge i (items.toList.zip items2.toList).length with h' | h'
        · rw [List.drop_eq_getElem_cons h'] at hz; cases hz
        · exact hZ ▸ h'
      rw [List.drop_of_length_le (by simpa using hge)] at hR
      wp_walk
      exact ⟨_, rfl, by simpa [Builtin.Tuple.tupleCompareSizes, lexB] using hR⟩
    case h =>
      exact ⟨rfl, rfl, 0, rfl, by simpa using h⟩
theorem lt_pairs {prog : Program} {w : World} {A : Around} {E : Value → Shared → Prop} {s : Shared} {Q : Value → Shared → Prop} {l b : Addr} {n n2 : Nat} {x y : Str} {i j : Int} {t t' u u' : Tok}
    (hl : s.heap.get? l = some { cls := .type "tuple", data := .seq #[.str x t, .int i u] n }) (hb : s.heap.get? b = some { cls := .type "tuple", data := .seq #[.str y t', .int j u'] n2 }) (hu : A.units < cLine)
    (h : Q (.bool (ltPair x i y j)) s) : wpAny (model prog w) A (compareOp .Lt (.ref l) (.ref b)) Q E s := by
  show wpAny (model prog w) A (richCompare .Lt (.ref l) (.ref b)) Q E s
  have hv : lexB (fun k => if k = 0 then x == y else i == j) (fun k => if k = 0 then decide (x.cps.toList < y.cps.toList) else decide (i < j)) (decide (2 < 2)) (List.range 2) = ltPair x i y j := by
    show lexB _ _ _ [0, 1] = _
    simp only [lexB, ltPair]
    by_cases h1 : x == y <;> by_cases h2 : i = j <;> simp [h1, h2]
  refine richCompare_meets_room (op := .Lt) ⟨_, hl, rfl⟩ ⟨_, hb, rfl⟩ F.slot_tuple_lt F.entry_tuple_lt (F.args_tuple_lt_2 _ _) (tuple_ltAt l b #[.str x t, .int i u] #[.str y t', .int j u'] n n2 (fun k => if k = 0 then x == y else i == j) (fun k => if k = 0 then decide (x.cps.toList < y.cps.toList) else decide (i < j)))
    ⟨hl, hb, ?_, ?_, show Value.bool _ ≠ Value.notImplemented ∧ Q (.bool _) s from ⟨(fun x => nomatch x), ?_⟩⟩ hu
  · intro k h1 h2
    match k, h1, h2 with
    | 0, _, _ => exact (eqGives_str x y t t').at _ _
    | 1, _, _ => exact (EqGives.int i j u u').at _ _
    | k + 2, h1, _ => exact absurd h1 (by simp)
  · intro k h1 h2
    match k, h1, h2 with
    | 0, _, _ => exact ltAt_str _ _ x y t t'
    | 1, _, _ => exact ltAt_int _ _ i j u u'
    | k + 2, h1, _ => exact absurd h1 (by simp)
  · exact hv ▸ h
end Mine
end
section
open PySem PySem.W PyProof.Rows
namespace Mine
def pdat (p : Str × Int) : Dat := Dat.tuple [Dat.str p.1, Dat.int p.2]
def bisF (f : Nat → Bool) : Nat → Nat → Nat → Nat
  | 0, lo, _ => lo
  | k + 1, lo, hi => if lo < hi then (if f ((lo + hi) / 2) then bisF f k lo ((lo + hi) / 2) else bisF f k ((lo + hi) / 2 + 1) hi) else lo
def bisAt (ps : List (Str × Int)) (x : Str) (i : Int) (m : Nat) : Bool := ltPair x i (ps.getD m (Str.empty, 0)).1 (ps.getD m (Str.empty, 0)).2
def bisP (ps : List (Str × Int)) (x : Str) (i : Int) : Nat := bisF (bisAt ps x i) ps.length 0 ps.length
theorem bisF_le (f : Nat → Bool) : ∀ k lo hi, lo ≤ hi → bisF f k lo hi ≤ hi := by
  intro k
  induction k with
  | zero => intro lo hi h; exact h
  | succ k ih =>
    intro lo hi h
    unfold bisF
    split
    · split
      · exact Nat.le_trans (ih _ _ (by omega)) (by omega)
      · exact ih _ _ (by omega)
    · exact h
theorem bisF_end (f : Nat → Bool) (k lo hi : Nat) (h : ¬ lo < hi) : bisF f k lo hi = lo := by
  cases k with
  | zero => rfl
  | succ k => unfold bisF; rw [if_neg h]
theorem pdat_in {news : List (Addr × Obj)} {v : Value} {p : Str × Int} (h : DatIn news v (pdat p)) :
    ∃ (d : Addr) (t u : Tok) (n : Nat), v = .ref d ∧ (d, ({ cls := .type "tuple", data := .seq #[.str p.1 t, .int p.2 u] n } : Obj)) ∈ news := by
  unfold pdat at h
  cases h with
  | tuple hm r =>
    cases r with
    | cons h1 r =>
      cases r with
      | cons h2 r =>
        cases r with
        | nil =>
          cases h1 with
          | str _ t =>
            cases h2 with
            | int _ u => exact ⟨_, t, u, _, rfl, hm⟩
set_option maxRecDepth 100000 in
set_option maxHeartbeats 8000000 in
theorem bis_c (w : World) (p : Program) (loose : List Str) (mean : ExcName → Option Value) (mg mb : Str → Option Value) (news : List (Addr × Obj)) (rl xd : Addr) (us : List Value) (c xn : Nat) (ps : List (Str × Int)) (x : Str) (i : Int) (xt xu t : Tok)
    (hr : (rl, listOf us.toArray c) ∈ news) (hd : DatAll news us (ps.map pdat)) (hx : (xd, ({ cls := .type "tuple", data := .seq #[.str x xt, .int i xu] xn } : Obj)) ∈ news) (hlen : ps.length ≤ 16) :
  ∀ (dp un : Nat) (gd : Option (List Code)) (cn : Str) (cs : Scope) (a : Addr) (ccd : Value) (cl : List (Str × Addr)) (outer : List Env) (A₀ : Around) (base h₀ : Heap) (L : Addr) (m : Str → Option Value) (s : Shared) (Q E : Value → Shared → Prop),
    Below A₀ base outer h₀ → Fr h₀ L s.heap m → (Mine.hd.heap_39 w.params).In h₀ → News h₀ L s.heap news → Top p loose mean mg mb h₀ → cs.kind = .function → dp + 1 < recursionLimit → un + 16 < cLine →
    (∀ (t : Tok) (h' : Heap) (tk' : Nat), Fr h₀ L h' m → News h₀ L h' news → Q (.int (bisP ps x i : Nat) t) { s with heap := h', toks := tk' }) →
    wpAny (model PySem.Challenge.rw_sr0018_01.row.prog w) (ktrTop dp un gd cn cs L a ccd cl outer) (call (.ref 32) [.ref rl, .ref xd, .int 0 t, .none]) Q E s := by
  k_with_none
  k_fill
  intro dp un gd cn cs a ccd cl outer A₀ base h₀ L m s Q E B F X N T hk hdp hun hret
  refine wpAny_call ?_
  k_dflt (refine' code_def ?k1 ?k2 ?k3 ?k4 ?k5 ?kA ?kF ?kK ?k6 ?k7 ?k8 ?k9 ?kB ?_ ?c2 ?c3 ?c4 ?c5; (case kA => exact rfl); (case kF => exact rfl); (case kK => assumption); (case k1 => k_asm); (case k2 => k_asm); (case k3 => k_asm); (case k4 => k_asm); (case k5 => k_asm); (case k6 => k_is); (case k7 => k_is); (case k8 => ktr_room); (case k9 => (refine' kp_binds ?kx ?ke; (case kx => k_in); (case ke => exact fun _ => rfl))); (case c5 => decide); (case kB => exact locs rfl); (case c2 => exact rfl); (case c3 => exact rfl); (case c4 => exact rfl); k_whole; intro g' L' h' FG' F' N' B' X' T'; (try dsimp only); (try k_lift B'); (try k_fold))
  (k_with "exec While Compare cons nil" => (refine Hold.out ?_))
  (k_with "ite" => first | (refine ite_pos rfl ?_) | (refine ite_neg Bool.false_ne_true ?_) | (refine Hold.out ?_))
  have hul : us.length = ps.length := by rw [hd.length, List.length_map]
  k_steps
  refine Hold.mk (ite_neg (by decide) ?_)
  k_steps
  refine len_list (News.isList (by assumption) hr) (by rw [List.size_toArray]; omega) ?_
  k_steps
  refine Hold.mk ?_
  (k_with "state" => exact ⟨ps.length, 0, ps.length, rfl, by rw [List.size_toArray, hul], by omega, by omega, by omega, rfl⟩)
  k_while (fun _ lo hi => ∃ k l h : Nat, lo = l ∧ hi = h ∧ l ≤ h ∧ h ≤ ps.length ∧ h - l ≤ k ∧ bisF (bisAt ps x i) k l h = bisP ps x i) (fun _ lo hi => (hi - lo).toNat) "lo" "hi"
  obtain ⟨k, l, h, e1, e2, h1, h2, h3, h4⟩ := kInv
  subst e1 e2
  k_steps
  refine Hold.mk ?_
  by_cases hlt : l < h
  · refine ite_pos (by simpa using hlt) ?_
    k_steps
    have hmid : ((l : Int) + (h : Int)).fdiv 2 = (((l + h) / 2 : Nat) : Int) := by rw [Int.fdiv_eq_ediv_of_nonneg _ (by decide)]; omega
    have hmb : (l + h) / 2 < ps.length := by omega
    obtain ⟨v, hv, hdv⟩ := hd.get (k := (l + h) / 2) (by rw [List.length_map]; exact hmb)
    rw [List.getElem_map] at hdv
    obtain ⟨d, t5, u5, n5, rfl, hdm⟩ := pdat_in hdv
    refine item_listL (k := ((l : Int) + (h : Int)).fdiv 2) (News.isList (by assumption) hr) (by rw [hmid]; omega) (by rw [hmid]; omega) (by rw [hmid]; exact hv) ?_
    refine lt_pairs (News.get (by assumption) hx) (News.get (by assumption) hdm) (by ktr_units) ?_
    have hbk : ltPair x i (ps[(l + h) / 2]).1 (ps[(l + h) / 2]).2 = bisAt ps x i ((l + h) / 2) := by unfold bisAt; simp [hmb]
    rw [hbk]
    obtain ⟨k', rfl⟩ : ∃ k', k = k' + 1 := ⟨k - 1, by omega⟩
    rw [bisF, if_pos hlt] at h4
    k_steps
    refine Hold.mk ?_
    by_cases hb : bisAt ps x i ((l + h) / 2) = true
    · rw [if_pos hb] at h4
      (k_with "state" => exact ⟨k', l, (l + h) / 2, rfl, hmid, by omega, by omega, by omega, h4⟩)
      refine ite_pos hb ?_
      k_steps
    · rw [if_neg hb] at h4
      (k_with "state" => exact ⟨k', (l + h) / 2 + 1, h, by rw [hmid]; rfl, rfl, by omega, by omega, by omega, h4⟩)
      refine ite_neg hb ?_
      k_steps
  · refine ite_neg (by simpa using hlt) ?_
    k_steps
    rw [bisF_end _ _ _ _ hlt] at h4
    subst h4
    exact hret _ _ _ (by assumption) (by assumption)
end Mine
end
section
open PySem PySem.W PyProof.Rows
namespace Mine
theorem bisP_le (ps : List (Str × Int)) (x : Str) (i : Int) : bisP ps x i ≤ ps.length := bisF_le _ _ _ _ (Nat.zero_le _)
set_option maxRecDepth 100000 in
set_option maxHeartbeats 8000000 in
theorem insort_c (w : World) (p : Program) (loose : List Str) (mean : ExcName → Option Value) (mg mb : Str → Option Value) (news news' : List (Addr × Obj)) (rl xd : Addr) (us : List Value) (c xn : Nat) (ps : List (Str × Int)) (x : Str) (i : Int) (xt xu : Tok)
    (hr : (rl, listOf us.toArray c) ∈ news) (hd : DatAll news us (ps.map pdat)) (hx : (xd, ({ cls := .type "tuple", data := .seq #[.str x xt, .int i xu] xn } : Obj)) ∈ news) (hlen : ps.length ≤ 16)
    (hU : Upd rl (listOf us.toArray c) (listOf (kl_ins us (bisP ps x i : Nat) (.ref xd)).toArray (c + 1)) news news') :
  ∀ (dp un : Nat) (gd : Option (List Code)) (cn : Str) (cs : Scope) (a : Addr) (ccd : Value) (cl : List (Str × Addr)) (outer : List Env) (A₀ : Around) (base h₀ : Heap) (L : Addr) (m : Str → Option Value) (s : Shared) (Q E : Value → Shared → Prop),
    Below A₀ base outer h₀ → Fr h₀ L s.heap m → (Mine.hd.heap_39 w.params).In h₀ → News h₀ L s.heap news → Top p loose mean mg mb h₀ → cs.kind = .function → dp + 2 < recursionLimit → un + 32 < cLine →
    (∀ (h' : Heap) (tk' : Nat), Fr h₀ L h' m → News h₀ L h' news' → Q .none { s with heap := h', toks := tk' }) →
    wpAny (model PySem.Challenge.rw_sr0018_01.row.prog w) (ktrTop dp un gd cn cs L a ccd cl outer) (call (.ref 23) [.ref rl, .ref xd]) Q E s := by
  k_with_none
  k_fill
  intro dp un gd cn cs a ccd cl outer A₀ base h₀ L m s Q E B F X N T hk hdp hun hret
  refine wpAny_call ?_
  k_dflt (refine' code_def ?k1 ?k2 ?k3 ?k4 ?k5 ?kA ?kF ?kK ?k6 ?k7 ?k8 ?k9 ?kB ?_ ?c2 ?c3 ?c4 ?c5; (case kA => exact rfl); (case kF => exact rfl); (case kK => assumption); (case k1 => k_asm); (case k2 => k_asm); (case k3 => k_asm); (case k4 => k_asm); (case k5 => k_asm); (case k6 => k_is); (case k7 => k_is); (case k8 => ktr_room); (case k9 => (refine' kp_binds ?kx ?ke; (case kx => k_in); (case ke => exact fun _ => rfl))); (case c5 => decide); (case kB => exact locs rfl); (case c2 => exact rfl); (case c3 => exact rfl); (case c4 => exact rfl); k_whole; intro g' L' h' FG' F' N' B' X' T'; (try dsimp only); (try k_lift B'); (try k_fold))
  (k_with "call ref" => (refine Hold.out ?_))
  (k_with "ite" => first | (refine ite_pos rfl ?_) | (refine ite_neg Bool.false_ne_true ?_) | (refine Hold.out ?_))
  have hul : us.length = ps.length := by rw [hd.length, List.length_map]
  have hpl := bisP_le ps x i
  k_steps
  refine Hold.mk ?_
  have hCb := fun t => bis_c w p loose mean mg mb news rl xd us c xn ps x i xt xu t hr hd hx hlen
  k_dflt (refine' hCb _ _ _ _ _ _ _ _ _ _ _ _ _ _ _ _ _ _ ?j1 ?j2 ?j3 ?j4 ?j5 ?jK ?jd ?ju ?_)
  case j1 => k_asm
  case j2 => k_asm
  case j3 => k_asm
  case j4 => k_asm
  case j5 => k_asm
  case jK => exact rfl
  case jd => ktr_room
  case ju => ktr_units
  clear hCb
  intro t9 h9 tk9 F9 N9
  (try dsimp only)
  (try k_fold)
  k_steps
  refine kl_insert (by assumption) (by assumption) ?e1 rfl hU ?e2 ?_
  case e1 => unfold Builtin.List.listFitsIndex; simp; omega
  case e2 => rw [sizeLine_eq]; simp; omega
  intro h10 F10 N10
  k_steps
  exact hret _ _ (by assumption) (by assumption)
end Mine
end
section
open PySem PySem.W PyProof.Rows
namespace Mine
def oddI (n : Int) : Int := 2 * (n % 32) + 1
theorem oddI_bound (n : Int) : 1 ≤ oddI n ∧ oddI n ≤ 63 ∧ oddI n % 2 = 1 := by unfold oddI; omega
set_option maxRecDepth 100000 in
set_option maxHeartbeats 8000000 in
theorem odd_c (w : World) (p : Program) (loose : List Str) (mean : ExcName → Option Value) (mg mb : Str → Option Value) (news : List (Addr × Obj)) (n : Int) (t : Tok) :
  ∀ (dp un : Nat) (gd : Option (List Code)) (cn : Str) (cs : Scope) (a : Addr) (ccd : Value) (cl : List (Str × Addr)) (outer : List Env) (A₀ : Around) (base h₀ : Heap) (L : Addr) (m : Str → Option Value) (s : Shared) (Q E : Value → Shared → Prop),
    Below A₀ base outer h₀ → Fr h₀ L s.heap m → (Mine.hd.heap_39 w.params).In h₀ → News h₀ L s.heap news → Top p loose mean mg mb h₀ → cs.kind = .function → dp + 1 < recursionLimit → un + 8 < cLine →
    (∀ (t : Tok) (h' : Heap) (tk' : Nat), Fr h₀ L h' m → News h₀ L h' news → Q (.int (oddI n) t) { s with heap := h', toks := tk' }) →
    wpAny (model PySem.Challenge.rw_sr0018_01.row.prog w) (ktrTop dp un gd cn cs L a ccd cl outer) (call (.ref 90) [.int n t]) Q E s := by
  k_with_none
  k_fill
  intro dp un gd cn cs a ccd cl outer A₀ base h₀ L m s Q E B F X N T hk hdp hun hret
  refine wpAny_call ?_
  k_dflt cell_enter
  k_steps
  have e : 2 * n.fmod 32 + 1 = oddI n := by unfold oddI; rw [Int.fmod_eq_emod_of_nonneg _ (by decide)]
  rw [e]
  exact hret _ _ _ (by assumption) (by assumption)
def pstep (x : Str) (ns : List Int) (k : Nat) (st : Int × Int) : Int × Int :=
  if (Txt.item x (k : Int) == Str.ofString "1") = true then ((st.1 * oddI (ns.getD (2 * k) 0) ^ 3) % 16, st.2 + oddI (ns.getD (2 * k + 1) 0) * 2 ^ k * ((st.1 * oddI (ns.getD (2 * k) 0) ^ 3) % 16)) else st
def pf (x : Str) (ns : List Int) : Nat → Int × Int
  | 0 => (1, 0)
  | k + 1 => pstep x ns k (pf x ns k)
theorem place_yes {x : Str} {ns : List Int} {k : Nat} {b t o1 o2 : Int} (hk : k < 4) (hq : (Txt.item x (k : Int) == Str.ofString "1") = true) (hbt : (b, t) = pf x ns k) (ho1 : oddI (ns.getD (2 * k) 0) = o1) (ho2 : oddI (ns.getD (2 * k + 1) 0) = o2)
    (h2 : 1 ≤ o2 ∧ o2 ≤ 63 ∧ o2 % 2 = 1) (ht0 : 0 ≤ t) (ht1 : t ≤ 100000 * (k : Int)) :
    ((b * o1 ^ Int.toNat 3).fmod 16, t + o2 * 2 ^ ((k : Int)).toNat * (b * o1 ^ Int.toNat 3).fmod 16) = pf x ns (k + 1) ∧ 0 ≤ (b * o1 ^ Int.toNat 3).fmod 16 ∧ (b * o1 ^ Int.toNat 3).fmod 16 < 16 ∧
      0 ≤ t + o2 * 2 ^ ((k : Int)).toNat * (b * o1 ^ Int.toNat 3).fmod 16 ∧ t + o2 * 2 ^ ((k : Int)).toNat * (b * o1 ^ Int.toNat 3).fmod 16 ≤ 100000 * ((k + 1 : Nat) : Int) := by
  have e3 : Int.toNat 3 = 3 := rfl
  have ek : ((k : Int)).toNat = k := Int.toNat_natCast k
  rw [e3, ek, Int.fmod_eq_emod_of_nonneg _ (by decide)]
  have hb0 := Int.emod_nonneg (b * o1 ^ 3) (show (16 : Int) ≠ 0 by decide)
  have hb1 := Int.emod_lt_of_pos (b * o1 ^ 3) (show (0 : Int) < 16 by decide)
  refine ⟨?_, hb0, hb1, ?_, ?_⟩
  · rw [pf, ← hbt]
    unfold pstep
    rw [if_pos hq, ho1, ho2]
  all_goals (
    generalize (b * o1 ^ 3) % 16 = r at hb0 hb1 ⊢
    have hp : (1 : Int) ≤ 2 ^ k ∧ (2 : Int) ^ k ≤ 8 := by
      have h : k = 0 ∨ k = 1 ∨ k = 2 ∨ k = 3 := by omega
      rcases h with rfl | rfl | rfl | rfl <;> decide
    generalize (2 : Int) ^ k = q at hp ⊢
    have h5 : 0 ≤ o2 * q := Int.mul_nonneg (by omega) (by omega)
    have h6 : o2 * q ≤ 63 * 8 := Int.mul_le_mul h2.2.1 hp.2 (by omega) (by omega)
    have h7 : 0 ≤ o2 * q * r := Int.mul_nonneg h5 hb0
    have h8 : o2 * q * r ≤ 504 * 16 := Int.mul_le_mul (by omega) (by omega) hb0 (by omega)
    push_cast
    omega)
theorem place_no {x : Str} {ns : List Int} {k : Nat} {b t : Int} (hq : ¬ (Txt.item x (k : Int) == Str.ofString "1") = true) (hbt : (b, t) = pf x ns k) : (b, t) = pf x ns (k + 1) := by
  rw [pf, ← hbt]
  unfold pstep
  rw [if_neg hq]
def placeFn (x : Str) (ns : List Int) : Int := (0 - (pf x ns 4).2) % 16
set_option maxRecDepth 100000 in
set_option maxHeartbeats 8000000 in
theorem place_c (w : World) (p : Program) (loose : List Str) (mean : ExcName → Option Value) (mg mb : Str → Option Value) (news : List (Addr × Obj)) (dl : Addr) (vs : List Value) (c : Nat) (ns : List Int) (x : Str) (xt : Tok)
    (hr : (dl, listOf vs.toArray c) ∈ news) (hd : IntsAre vs ns) (hlen : ns.length = 10) (hx : x.length = 4) :
  ∀ (dp un : Nat) (gd : Option (List Code)) (cn : Str) (cs : Scope) (a : Addr) (ccd : Value) (cl : List (Str × Addr)) (outer : List Env) (A₀ : Around) (base h₀ : Heap) (L : Addr) (m : Str → Option Value) (s : Shared) (Q E : Value → Shared → Prop),
    Below A₀ base outer h₀ → Fr h₀ L s.heap m → (Mine.hd.heap_39 w.params).In h₀ → News h₀ L s.heap news → Top p loose mean mg mb h₀ → cs.kind = .function → dp + 2 < recursionLimit → un + 32 < cLine →
    (∀ (t : Tok) (h' : Heap) (tk' : Nat), Fr h₀ L h' m → News h₀ L h' news → Q (.int (placeFn x ns) t) { s with heap := h', toks := tk' }) →
    wpAny (model PySem.Challenge.rw_sr0018_01.row.prog w) (ktrTop dp un gd cn cs L a ccd cl outer) (call (.ref 104) [.str x xt, .ref dl]) Q E s := by
  k_with_none
  k_fill
  intro dp un gd cn cs a ccd cl outer A₀ base h₀ L m s Q E B F X N T hk hdp hun hret
  refine wpAny_call ?_
  k_dflt cell_enter
  (k_with "pyIter ref" => (refine Hold.out ?_))
  (k_with "ite" => first | (refine ite_pos rfl ?_) | (refine ite_neg Bool.false_ne_true ?_) | (refine Hold.out ?_))
  k_steps

  all_goals (refine Hold.mk ?_)
  (k_with "state" => exact ⟨0, rfl, rfl, by omega, by omega, by omega, by omega⟩)
  k_state_short (fun pre b t => ∃ k : Nat, pre.length = k ∧ (b, t) = pf x ns k ∧ 0 ≤ b ∧ b < 16 ∧ 0 ≤ t ∧ t ≤ 100000 * k) "back" "total"
  · obtain ⟨k, hk1, hbt, hb0, hb1, ht0, ht1⟩ := kInv
    have hkN : kN = (k : Int) := by omega
    subst hkN
    have hk4 : k < 4 := by omega
    k_steps
    refine Hold.mk ?_
    by_cases hq : (Txt.item x (k : Int) == Str.ofString "1") = true
    · refine ite_pos hq ?_
      (k_with "call ref" => (refine Hold.out ?_))
      k_steps
      refine Hold.mk ?_
      have hCb := fun n t => odd_c w p loose mean mg mb (news ++ kOwn) n t
      k_dflt (refine' hCb _ _ _ _ _ _ _ _ _ _ _ _ _ _ _ _ _ _ _ ?k1 ?k2 ?k3 ?k4 ?k5 ?kK ?kd ?ku ?_)
      case k1 => k_asm
      case k2 => k_asm
      case k3 => k_asm
      case k4 => k_asm
      case k5 => k_asm
      case kK => exact rfl
      case kd => ktr_room
      case ku => ktr_units
      intro t9 h9 tk9 F9 N9
      (try dsimp only)
      have e1 : (2 * (k : Int)).toNat = 2 * k := by omega
      have e2 : (2 * (k : Int) + 1).toNat = 2 * k + 1 := by omega
      rw [e1]
      have hob1 := oddI_bound (ns.getD (2 * k) 0)
      have hob2 := oddI_bound (ns.getD (2 * k + 1) 0)
      generalize ho1 : oddI (ns.getD (2 * k) 0) = o1 at hob1 ⊢
      (try k_fold)
      k_steps
      refine Hold.mk ?_
      k_dflt (refine' hCb _ _ _ _ _ _ _ _ _ _ _ _ _ _ _ _ _ _ _ ?j1 ?j2 ?j3 ?j4 ?j5 ?jK ?jd ?ju ?_)
      case j1 => k_asm
      case j2 => k_asm
      case j3 => k_asm
      case j4 => k_asm
      case j5 => k_asm
      case jK => exact rfl
      case jd => ktr_room
      case ju => ktr_units
      intro t9 h9 tk9 F9 N9
      (try dsimp only)
      rw [e2]
      generalize ho2 : oddI (ns.getD (2 * k + 1) 0) = o2 at hob2 ⊢
      (try k_fold)
      clear hCb
      (k_with "state" => exact ⟨k + 1, by simp [hk1], place_yes hk4 hq hbt ho1 ho2 hob2 ht0 ht1⟩)
      k_steps
    · refine ite_neg hq ?_
      (k_with "state" => exact ⟨k + 1, by simp [hk1], place_no hq hbt, hb0, hb1, ht0, by push_cast; omega⟩)
      k_steps
  · obtain ⟨k, hk1, hbt, hb0, hb1, ht0, ht1⟩ := kInv
    k_steps
    have hk4 : k = 4 := by rw [← hk1, rangeKs_length]; rfl
    subst hk4
    have e2 := congrArg Prod.snd hbt
    dsimp only at e2
    rw [e2, Int.fmod_eq_emod_of_nonneg _ (by decide)]
    exact hret _ _ _ (by assumption) (by assumption)
end Mine
end
section
open PySem PySem.W PyProof.Rows
namespace Mine
theorem ltOf {d : Addr} : ∀ {l : List (Addr × Obj)}, AllLt d l → ∀ p ∈ l, p.1 < d
  | [], _, _, hp => nomatch hp
  | q :: r, h, p, hp => by
    rcases List.mem_cons.mp hp with rfl | hp
    · exact h.1
    · exact ltOf h.2 p hp
local macro_rules | `(tactic| walk_at "subscriptTail Name Slice ref ref") => `(tactic| (k_here; refine Hold.out ?_))
set_option maxRecDepth 100000 in
set_option maxHeartbeats 8000000 in
theorem drawn_c (w : World) (p : Program) (loose : List Str) (mean : ExcName → Option Value) (mg mb : Str → Option Value) (news : List (Addr × Obj)) (l : Addr) (vs : List Value) (ns : List Int) :
  ∀ (dp un : Nat) (gd : Option (List Code)) (cn : Str) (cs : Scope) (a : Addr) (ccd : Value) (cl : List (Str × Addr)) (outer : List Env) (A₀ : Around) (base h₀ : Heap) (L : Addr) (m : Str → Option Value) (s : Shared) (Q E : Value → Shared → Prop),
    Below A₀ base outer h₀ → Fr h₀ L s.heap m → (Mine.hd.heap_39 w.params).In h₀ → News h₀ L s.heap news → Top p loose mean mg mb h₀ → cs.kind = .function → base.IsList l vs.toArray → IntsAre vs ns → ns.length < 64 → dp + 1 < recursionLimit → un + 8 < cLine →
    (∀ (dl : Addr) (ds : List Value) (c : Nat) (ns' : List Int) (h' : Heap) (tk' : Nat), ns'.length = 10 → IntsAre ds ns' → (∀ p ∈ news, p.1 < dl) → Fr h₀ L h' m → News h₀ L h' ((dl, listOf ds.toArray c) :: news) → Q (.ref dl) { s with heap := h', toks := tk' }) →
    wpAny (model PySem.Challenge.rw_sr0018_01.row.prog w) (ktrTop dp un gd cn cs L a ccd cl outer) (call (.ref 83) [.ref l]) Q E s := by
  k_with_none
  k_fill
  intro dp un gd cn cs a ccd cl outer A₀ base h₀ L m s Q E B F X N T hk hl hi hn hdp hun hret
  refine wpAny_call ?_
  k_dflt cell_enter
  k_steps
  refine Hold.mk ?_
  refine' kmk_slice_ints (s := ⟨_, _, _, _, _⟩) ?bF ?bN ?bl ?bp ?bq hi (kmk_upto hi ?bu) (List.length_take ..) ?_ ?bs ?bt ?bz
  case bF => k_asm
  case bN => k_asm
  case bl => kmk_list
  case bp => exact IsPart.none
  case bq => exact IsPart.int _ _
  case bu => decide
  case bs => with_unfolding_all rfl
  case bt => kmk_pure
  case bz => rw [List.size_toArray, hi.length, sizeLine_eq]; omega
  intro D' ws' h' F' N' l1 hI' hC' hL'
  (try simp only [Int.reduceNeg, Int.neg_neg, Int.reduceToNat] at hI' hC' hL')
  (try k_lt l1)
  (try k_sweep)
  k_steps
  all_goals (refine Hold.mk ?_)
  have hfill : ∀ a b c d e f g h i j, IntsAre [.int 1 a, .int 0 b, .int 1 c, .int 0 d, .int 1 e, .int 0 f, .int 1 g, .int 0 h, .int 3 i, .int 2 j] [1, 0, 1, 0, 1, 0, 1, 0, 3, 2] := fun _ _ _ _ _ _ _ _ _ _ =>
    .cons _ _ (.cons _ _ (.cons _ _ (.cons _ _ (.cons _ _ (.cons _ _ (.cons _ _ (.cons _ _ (.cons _ _ (.cons _ _ .nil)))))))))
  refine' kmk_slice_ints (s := ⟨_, _, _, _, _⟩) ?aF ?aN ?al ?ap ?aq (hfill _ _ _ _ _ _ _ _ _ _) (kmk_from (hfill _ _ _ _ _ _ _ _ _ _) ?as1) (List.length_drop ..) ?_ ?as2 ?as3 ?as4
  case aF => k_asm
  case aN => k_asm
  case al => kmk_list
  case ap => exact IsPart.int _ _
  case aq => exact IsPart.none
  case as1 => omega
  case as2 => with_unfolding_all rfl
  case as3 => kmk_pure
  case as4 => exact Nat.le_of_ble_eq_true rfl
  intro D'' ws'' h'' F'' N'' l2 hI'' hC'' hL''
  k_lt l2
  (try k_sweep)
  k_steps
  (rename IntsAre _ (List.map _ _) => iX')
  have e4 : (List.filter (fun _ : Int => true) (List.take 10 ns)).length = min 10 ns.length := by rw [List.filter_eq_self.mpr (by simp)]; simp
  have e5 : (List.map (fun a : Int => a.fmod 1000000) (List.filter (fun _ : Int => true) (List.take 10 ns))).length = min 10 ns.length := by rw [List.length_map, e4]
  have e6 : (List.drop (((List.take 10 ns).length : Nat) : Int).toNat [(1 : Int), 0, 1, 0, 1, 0, 1, 0, 3, 2]).length = 10 - min 10 ns.length := by rw [hC'', Int.toNat_natCast, hC']; rfl
  refine' kmk_add_ints ?cF ?cN ?ca ?cb iX' hI'' ?_ ?cz
  case cF => k_asm
  case cN => k_asm
  case ca => kmk_list
  case cb => kmk_list
  case cz => rw [sizeLine_eq, e5, e6]; omega
  intro D3 us h3 F3 N3 l3 hI3
  k_lt l3
  (try k_sweep)
  k_steps
  refine hret D3 us 0 _ _ _ ?_ hI3 (ltOf l3.2.2.2.2) (by assumption) ?_
  · rw [List.length_append, e5, e6]; omega
  · intro p hp
    rcases List.mem_cons.mp hp with rfl | hp
    · exact ‹News h₀ L _ _› _ (.head _)
    · exact ‹News h₀ L _ _› _ (.tail _ (.tail _ (.tail _ (.tail _ (.tail _ hp)))))
end Mine
end
section
open PySem PySem.W PyProof.Rows
namespace Mine
def lvl (f a : Int) (ws : List Str) : List Str := (List.range (2 * ws.length)).map fun n => wordFn n f a ws
theorem lines_step {f : Nat → Str} {k : Nat} {lines : List Str} (h : lines = (List.range k).map f) : lines ++ [f k] = (List.range (k + 1)).map f := by
  rw [h, List.range_succ, List.map_append]; rfl
theorem lvl_len (f a : Int) (ws : List Str) : (lvl f a ws).length = 2 * ws.length := by simp [lvl]
theorem wordFn_len {n : Nat} {f a : Int} {ws : List Str} {m : Nat} (h : ∀ x ∈ ws, x.length ≤ m) : (wordFn n f a ws).length ≤ m + 1 := by
  have h1 : (letFn n).length = 1 := by unfold letFn; split <;> rfl
  have h2 : ∀ i, (ws.getD i Str.empty).length ≤ m := by
    intro i
    rw [List.getD_eq_getElem?_getD]
    cases hi : ws[i]? with
    | none => exact Nat.zero_le _
    | some y => exact h y (List.mem_of_getElem? hi)
  unfold wordFn
  rw [Str.length_append, h1]
  have := h2 (farFn n f a % (ws.length : Int)).toNat
  omega
theorem lvl_bound {f a : Int} {ws : List Str} {m : Nat} (h : ∀ x ∈ ws, x.length ≤ m) : ∀ x ∈ lvl f a ws, x.length ≤ m + 1 := by
  intro x hx
  obtain ⟨n, _, rfl⟩ := List.mem_map.mp hx
  exact wordFn_len h
def insP (ps : List (Str × Int)) (x : Str) (i : Int) : List (Str × Int) := ps.take (bisP ps x i) ++ (x, i) :: ps.drop (bisP ps x i)
def rowFn (ws : List Str) : Nat → List (Str × Int)
  | 0 => []
  | k + 1 => insP (rowFn ws k) (ws.getD k Str.empty) (k : Int)
theorem rowFn_len (ws : List Str) : ∀ k, (rowFn ws k).length = k := by
  intro k
  induction k with
  | zero => rfl
  | succ k ih =>
    have h : bisP (rowFn ws k) (ws.getD k Str.empty) (k : Int) ≤ (rowFn ws k).length := bisF_le _ _ _ _ (Nat.zero_le _)
    unfold rowFn insP
    rw [List.length_append, List.length_cons, List.length_take, List.length_drop]
    omega
theorem DatAll.ins {news : List (Addr × Obj)} {us : List Value} {ds : List Dat} {v : Value} {d : Dat} (h : DatAll news us ds) (hd : DatIn news v d) (k : Nat) (hk : k ≤ ds.length) : DatAll news (kl_ins us (k : Int) v) (ds.take k ++ d :: ds.drop k) := by
  have hl := h.length
  have e : kl_ins us (k : Int) v = us.take k ++ v :: us.drop k := by
    unfold kl_ins
    rw [if_neg (by omega), Int.toNat_natCast, Nat.min_eq_left (by omega)]
  rw [e]
  have key : ∀ (k : Nat) (us : List Value) (ds : List Dat), DatAll news us ds → k ≤ ds.length → DatAll news (us.take k ++ v :: us.drop k) (ds.take k ++ d :: ds.drop k) := by
    intro k
    induction k with
    | zero => intro us ds h _; exact .cons hd h
    | succ k ih =>
      intro us ds h hk
      cases h with
      | nil => simp at hk
      | cons h1 r => exact .cons h1 (ih _ _ r (by simpa using hk))
  exact key k us ds h hk
theorem rows_step {news : List (Addr × Obj)} {us : List Value} {ws : List Str} {k : Nat} {xd : Addr} {t u : Tok} {n : Nat} (h : DatAll news us ((rowFn ws k).map pdat)) (hx : (xd, ({ cls := .type "tuple", data := .seq #[.str (ws.getD k Str.empty) t, .int (k : Int) u] n } : Obj)) ∈ news) :
    DatAll news (kl_ins us (bisP (rowFn ws k) (ws.getD k Str.empty) (k : Int) : Nat) (.ref xd)) ((rowFn ws (k + 1)).map pdat) := by
  have hb : bisP (rowFn ws k) (ws.getD k Str.empty) (k : Int) ≤ (rowFn ws k).length := bisF_le _ _ _ _ (Nat.zero_le _)
  have hd : DatIn news (.ref xd) (pdat (ws.getD k Str.empty, (k : Int))) := .tuple hx (.cons (.str _ _) (.cons (.int _ _) .nil))
  have := DatAll.ins h hd (bisP (rowFn ws k) (ws.getD k Str.empty) (k : Int)) (by rw [List.length_map]; exact hb)
  rw [rowFn, insP, List.map_append, List.map_cons, List.map_take, List.map_drop]
  exact this
end Mine
end
section
open PySem PySem.W PyProof.Rows
namespace Mine
theorem insort_d (w : World) (p : Program) (loose : List Str) (mean : ExcName → Option Value) (mg mb : Str → Option Value) (news news' bs : List (Addr × Obj)) (rl xd : Addr) (us : List Value) (c xn : Nat) (ws : List Str) (k : Nat) (xt xu : Tok)
    (hr : (rl, listOf us.toArray c) ∈ news) (hd : DatAll bs us ((rowFn ws k).map pdat)) (hsub : ∀ p ∈ bs, p ∈ news)
    (hx : (xd, ({ cls := .type "tuple", data := .seq #[.str (ws.getD (Int.toNat (k : Int)) Str.empty) xt, .int (k : Int) xu] xn } : Obj)) ∈ news) (hk : k ≤ 16)
    (hU : Upd rl (listOf us.toArray c) (listOf (kl_ins us (bisP (rowFn ws k) (ws.getD k Str.empty) (k : Int) : Nat) (.ref xd)).toArray (c + 1)) news news') :
  ∀ (dp un : Nat) (gd : Option (List Code)) (cn : Str) (cs : Scope) (a : Addr) (ccd : Value) (cl : List (Str × Addr)) (outer : List Env) (A₀ : Around) (base h₀ : Heap) (L : Addr) (m : Str → Option Value) (s : Shared) (Q E : Value → Shared → Prop),
    Below A₀ base outer h₀ → Fr h₀ L s.heap m → (Mine.hd.heap_39 w.params).In h₀ → News h₀ L s.heap news → Top p loose mean mg mb h₀ → cs.kind = .function → dp + 2 < recursionLimit → un + 32 < cLine →
    (∀ (h' : Heap) (tk' : Nat), Fr h₀ L h' m → News h₀ L h' news' →
      DatAll ((xd, ({ cls := .type "tuple", data := .seq #[.str (ws.getD (Int.toNat (k : Int)) Str.empty) xt, .int (k : Int) xu] xn } : Obj)) :: bs) (kl_ins us (bisP (rowFn ws k) (ws.getD k Str.empty) (k : Int) : Nat) (.ref xd)) ((rowFn ws (k + 1)).map pdat) →
      Q .none { s with heap := h', toks := tk' }) →
    wpAny (model PySem.Challenge.rw_sr0018_01.row.prog w) (ktrTop dp un gd cn cs L a ccd cl outer) (call (.ref 23) [.ref rl, .ref xd]) Q E s := by
  intro dp un gd cn cs a ccd cl outer A₀ base h₀ L m s Q E B F X N T hkd hdp hun hret
  have e : ((k : Int)).toNat = k := Int.toNat_natCast k
  refine insort_c w p loose mean mg mb news news' rl xd us c xn (rowFn ws k) (ws.getD k Str.empty) (k : Int) xt xu hr (hd.mono hsub) (by rw [e] at hx; exact hx) (by rw [rowFn_len]; exact hk) hU dp un gd cn cs a ccd cl outer A₀ base h₀ L m s Q E B F X N T hkd hdp hun fun h' tk' F' N' => hret h' tk' F' N' ?_
  refine rows_step (t := xt) (u := xu) (n := xn) (hd.mono fun p hp => List.mem_cons_of_mem _ hp) ?_
  rw [e]
  exact .head _
end Mine
end
section
open PySem PySem.W PyProof.Rows PySem.Calls
namespace Mine
def EndC (h₀ : Heap) (L : Addr) (s : Shared) (I : Addr) (oI : Obj) (Jn : (Str → Option Value) → List (Addr × Obj) → Prop) (f : Flow) (s₄ : Shared) : Prop :=
  f = .next ∧ ∃ h' tk' m₂ nx₂, s₄ = { s with heap := h', toks := tk' } ∧ Fr h₀ L h' m₂ ∧ News h₀ L h' ((I, oI) :: nx₂) ∧ (∀ p ∈ nx₂, p.1 ≠ I) ∧ Jn m₂ nx₂
theorem cell_range {prog : Program} {w : World} {A : Around} {E : Value → Shared → Prop} {s : Shared} {env : Env} {h₀ : Heap} {target : Expr} {body : List Stmt} {Q : Flow → Shared → Prop} {r : Addr} (n : Nat) {nI : Int} (hn : nI = (n : Int)) {t₀ u₀ v₀ : Tok} {m₀ : Str → Option Value} {news : List (Addr × Obj)}
    (J : Nat → (Str → Option Value) → List (Addr × Obj) → Prop) (htg : ∀ it v, letOwnedTupleGo target it v = pure ()) (hh : A.handled = none) (hr : IsRange s.heap r 0 nI 1 t₀ u₀ v₀) (hsmall : Builtin.Range.small 0 (n : Int) 1 = true) (hsz : Builtin.Range.rangeSize 0 (n : Int) 1 = (n : Int))
    (F : Fr h₀ env.locals s.heap m₀) (N : News h₀ env.locals s.heap news) (h0 : J 0 m₀ news)
    (turn : ∀ (i : Nat) t m₁ nx s₁ I oI, i < n → J i m₁ nx → (∀ p ∈ nx, p.1 ≠ I) → Fr h₀ env.locals s₁.heap m₁ → News h₀ env.locals s₁.heap ((I, oI) :: nx) →
      wpAny (model prog w) A (assign target env (.int (i : Int) t)) (fun _ s₃ => wpAny (model prog w) A (execs body env) (EndC h₀ env.locals s₁ I oI (J (i + 1))) E s₃) E s₁)
    (done : ∀ m₁ nx h tk, J n m₁ nx → Fr h₀ env.locals h m₁ → News h₀ env.locals h nx → Q .next { s with heap := h, toks := tk }) :
    wpAny (model prog w) A (pyIter (.ref r)) (fun it s₂ => LoopAtT prog w A h₀ env target body Q E it s₂) E s := by
  subst hn
  refine wpAny_pyIter_range hr hsmall ?_
  have W : Walks prog w A s.heap.objs.size [s.heap.objs.size] [s.heap.objs.size] n (fun i v => i < n ∧ ∃ t, v = .int (0 + i * 1) t)
      (fun i h => IsRangeIter h s.heap.objs.size (0 + (i : Nat) * 1) ((n : Int) - (i : Nat)) 1) := (Walks.range hh _ 0 1 n).bound
  have hL : env.locals ≠ s.heap.objs.size := fun e => absurd F.ns.lt (e ▸ Nat.lt_irrefl _)
  refine ⟨s.heap.objs.size, [s.heap.objs.size], [s.heap.objs.size], n, _, _, m₀, news, J, rfl, W, ?_, ?_, ?_, (by show IsRangeIter _ _ _ _ _; rw [hsz]; simpa using Heap.get?_push_size _ rfl), F.push _, (fun p hp => ⟨Heap.get?_push_of_some _ (N p hp).1, (N p hp).2⟩), ?_, h0, ?_, ?_⟩
  · intro hm
    exact hL (List.mem_singleton.mp hm)
  · intro b hb
    rw [List.mem_singleton.mp hb]
    exact next_is_new F
  · intro p hp hI
    exact absurd (Heap.lt_size (N p hp).1) ((List.mem_singleton.mp hI) ▸ Nat.lt_irrefl _)
  · intro i s' v Q' _ hQ
    rw [htg]
    exact wpAny_pure hQ
  · rintro i v m₁ nx s₁ own hin ⟨_, t, rfl⟩ hJ hoff hsub hown hmem hst F₁ N₁
    have e1 : (0 : Int) + (i : Int) * 1 = (i : Int) := by omega
    rw [e1]
    have hN0 : h₀.get? s.heap.objs.size = none := next_is_new F
    have hI : s₁.heap.get? s.heap.objs.size = some _ := hst
    have hin' := hmem s.heap.objs.size (List.mem_singleton.mpr rfl) hN0 _ hI
    have N₂ : News h₀ env.locals s₁.heap ((s.heap.objs.size, _) :: nx) := fun p hp => (List.mem_cons.mp hp).elim (fun e => e ▸ N₁ _ (List.mem_append_left _ hin')) fun h => N₁ p (List.mem_append_right _ h)
    refine wpAny_mono (turn i t m₁ nx s₁ s.heap.objs.size _ hin hJ (fun p hp e => hoff p hp (List.mem_singleton.mpr e)) F₁ N₂) (fun _ s₃ h₃ => wpAny_mono h₃ (fun f s₄ h₄ => ?_) fun _ _ e => e) fun _ _ e => e
    obtain ⟨rfl, h', tk', m₂, nx₂, rfl, F', N', hne, hJ'⟩ := h₄
    refine ⟨rfl, h', tk', m₂, nx₂, rfl, F', fun p hp => ?_, fun p hp hq => hne p hp (List.mem_singleton.mp hq), hJ'⟩
    rcases List.mem_append.mp hp with hp | hp
    · have ha := List.mem_singleton.mp (hsub p hp)
      have ho := hown p hp
      rw [ha, hI] at ho
      have : p = (s.heap.objs.size, _) := Prod.ext ha (Option.some.inj ho).symm
      rw [this]
      exact N' _ (.head _)
    · exact N' p (.tail _ hp)
  · intro h' tk m' news' F' N' _ hJ
    exact done m' news' h' tk hJ F' N'
end Mine
end
section
open PySem PySem.W PyProof.Rows
namespace Mine
def bits (c : Nat) : Str := ⟨((List.range 4).map fun k => if c / 2 ^ (3 - k) % 2 = 1 then 49 else 48).toArray⟩
def dueF (ns : List Int) (i : Nat) : Str × Int := (bits i, placeFn (bits i) ns)
def DueJ (due cc dl : Addr) (dobj : Obj) (rs : List (Addr × Obj)) (m₀ : Str → Option Value) (f : Nat → Str × Int) (i : Nat) (m : Str → Option Value) (nx : List (Addr × Obj)) : Prop :=
  ∃ (us : List Value) (c : Nat) (oc : Obj) (v : Option Value) (tl : List (Addr × Obj)) (u : Option Value),
    m = (fun y => if y = Str.ofString "letters" then u else m₀ y) ∧ nx = (due, listOf us.toArray c) :: (cc, oc) :: (tl ++ rs) ∧ oc.data = .cell v ∧ DatAll tl us (((List.range i).map f).map pdat) ∧
    (∀ p ∈ tl ++ rs, p.1 ≠ due) ∧ (∀ p ∈ tl ++ rs, p.1 ≠ cc) ∧ cc ≠ due ∧ (dl, dobj) ∈ rs
theorem dueJ_start {due cc dl : Addr} {dobj : Obj} {rs : List (Addr × Obj)} {m₀ : Str → Option Value} {f : Nat → Str × Int} {c : Nat} {oc : Obj} {v : Option Value} (hc : oc.data = .cell v) (h1 : ∀ p ∈ rs, p.1 ≠ due) (h2 : ∀ p ∈ rs, p.1 ≠ cc) (h3 : cc ≠ due) (h4 : (dl, dobj) ∈ rs) :
    DueJ due cc dl dobj rs m₀ f 0 m₀ ((due, listOf #[] c) :: (cc, oc) :: rs) :=
  ⟨[], c, oc, v, [], m₀ (Str.ofString "letters"), by funext y; split <;> simp_all, rfl, hc, .nil, h1, h2, h3, h4⟩
theorem led11 {h₀ h : Heap} {L : Addr} {b c d e f g k l x : Addr × Obj} {ya : Addr} {yo : Obj} {due : Addr} {q : Nat} {tl : List (Addr × Obj)} (N : News h₀ L h ((due, listOf #[] q) :: b :: c :: d :: e :: f :: g :: k :: l :: x :: (ya, yo) :: tl)) :
    ∃ (dd cc : Addr) (oc : Obj) (rs : List (Addr × Obj)), dd = due ∧ cc = ya ∧ oc = yo ∧ rs = b :: c :: d :: e :: f :: g :: k :: l :: x :: tl ∧ News h₀ L h ((dd, listOf #[] q) :: (cc, oc) :: rs) := by
  refine ⟨_, _, _, _, rfl, rfl, rfl, rfl, fun p hp => N p ?_⟩
  simp only [List.mem_cons] at hp ⊢
  rcases hp with h | h | h | h | h | h | h | h | h | h | h | h <;> simp [h]
theorem frNamed {h₀ h : Heap} {L : Addr} {m : Str → Option Value} (F : Fr h₀ L h m) : ∃ m', m' = m ∧ Fr h₀ L h m' := ⟨m, rfl, F⟩
end Mine
end
section
open PySem PySem.W PyProof.Rows
namespace Mine
def enc (bs : List Bool) : Str := ⟨(bs.map fun b => if b then 49 else 48).toArray⟩
def Wb : List (Int × Int) → Nat → List Bool
  | [], _ => []
  | (f, a) :: r, n => decide (n % 2 = 1) :: Wb r (farFn n f a % ((2 ^ r.length : Nat) : Int)).toNat
theorem Wb_len : ∀ l n, (Wb l n).length = l.length
  | [], _ => rfl
  | (f, a) :: r, n => by simp [Wb, Wb_len r]
theorem odd_cancel (f : Int) (hf : f % 2 = 1) : ∀ (d : Nat) (z : Int), ((2 ^ d : Nat) : Int) ∣ f * z → ((2 ^ d : Nat) : Int) ∣ z := by
  intro d
  induction d with
  | zero => intro z _; simp
  | succ d ih =>
    rintro z ⟨q, hq⟩
    have e1 : ((2 ^ (d + 1) : Nat) : Int) = 2 * ((2 ^ d : Nat) : Int) := by rw [Nat.pow_succ]; push_cast; omega
    have hz : z % 2 = 0 := by
      have h1 : (f * z) % 2 = 0 := by rw [hq, e1, Int.mul_assoc]; exact Int.mul_emod_right _ _
      rw [Int.mul_emod, hf, Int.one_mul, Int.emod_emod] at h1
      exact h1
    obtain ⟨y, rfl⟩ : ∃ y, z = 2 * y := ⟨z / 2, by omega⟩
    have h2 : f * y = ((2 ^ d : Nat) : Int) * q := by
      have : 2 * (f * y) = 2 * (((2 ^ d : Nat) : Int) * q) := by rw [e1] at hq; rw [← Int.mul_assoc 2 _ q, ← hq]; grind
      omega
    obtain ⟨k, hk⟩ := ih y ⟨q, h2⟩
    exact ⟨k, by rw [e1, hk, Int.mul_assoc]⟩
theorem far_iff {f a : Int} (hf : f % 2 = 1) {n m : Nat} (d : Nat) (hp : n % 2 = m % 2) :
    ((2 ^ d : Nat) : Int) ∣ farFn n f a - farFn m f a ↔ ((2 ^ (d + 1) : Nat) : Int) ∣ (n : Int) - (m : Int) := by
  have e1 : ((2 ^ (d + 1) : Nat) : Int) = 2 * ((2 ^ d : Nat) : Int) := by rw [Nat.pow_succ]; push_cast; omega
  have e2 : (n : Int) - (m : Int) = 2 * (((n / 2 : Nat) : Int) - ((m / 2 : Nat) : Int)) := by omega
  rw [e1, e2, Int.mul_dvd_mul_iff_left (by decide)]
  unfold farFn
  by_cases h : n % 2 = 0
  · rw [if_pos h, if_pos (by omega)]
  · rw [if_neg h, if_neg (by omega)]
    have e3 : f * ((n / 2 : Nat) : Int) + (f + a) / 2 - (f * ((m / 2 : Nat) : Int) + (f + a) / 2) = f * (((n / 2 : Nat) : Int) - ((m / 2 : Nat) : Int)) := by rw [Int.mul_sub]; omega
    rw [e3]
    exact ⟨odd_cancel f hf d _, fun h => Int.dvd_mul_of_dvd_right h⟩
theorem dvd_reduce {M : Nat} {d e : Nat} (hde : d ≤ e) (hM : M = 2 ^ e) (x y : Int) :
    ((2 ^ d : Nat) : Int) ∣ (((x % (M : Int)).toNat : Nat) : Int) - (((y % (M : Int)).toNat : Nat) : Int) ↔ ((2 ^ d : Nat) : Int) ∣ x - y := by
  have hM0 : (0 : Int) < (M : Int) := by subst hM; exact_mod_cast Nat.pow_pos (by decide)
  have hdv : ((2 ^ d : Nat) : Int) ∣ (M : Int) := by subst hM; exact_mod_cast Nat.pow_dvd_pow 2 hde
  rw [Int.toNat_of_nonneg (Int.emod_nonneg _ (by omega)), Int.toNat_of_nonneg (Int.emod_nonneg _ (by omega))]
  have e : x % (M : Int) - y % (M : Int) = (x - y) - (M : Int) * (x / M - y / M) := by rw [Int.emod_def, Int.emod_def, Int.mul_sub]; omega
  rw [e]
  have h2 : ((2 ^ d : Nat) : Int) ∣ (M : Int) * (x / M - y / M) := Int.dvd_mul_of_dvd_left hdv
  constructor
  · intro h; have := Int.dvd_add h h2; rwa [Int.sub_add_cancel] at this
  · intro h; exact Int.dvd_sub h h2
theorem terras : ∀ (l : List (Int × Int)), (∀ p ∈ l, p.1 % 2 = 1) → ∀ (d : Nat), d ≤ l.length → ∀ n m : Nat, (Wb l n).take d = (Wb l m).take d ↔ ((2 ^ d : Nat) : Int) ∣ (n : Int) - (m : Int)
  | l, _, 0, _, n, m => by simp
  | [], _, d + 1, h, _, _ => by simp at h
  | (f, a) :: r, hl, d + 1, h, n, m => by
    have hd : d ≤ r.length := by simpa using h
    rw [Wb, Wb, List.take_succ_cons, List.take_succ_cons, List.cons.injEq, terras r (fun p hp => hl p (.tail _ hp)) d hd, dvd_reduce hd rfl]
    have hf : f % 2 = 1 := hl _ (.head _)
    constructor
    · rintro ⟨h1, h2⟩
      rw [decide_eq_decide] at h1
      exact (far_iff hf d (by omega)).mp h2
    · intro h2
      have hp : n % 2 = m % 2 := by
        have e1 : ((2 ^ (d + 1) : Nat) : Int) = 2 * ((2 ^ d : Nat) : Int) := by rw [Nat.pow_succ]; push_cast; omega
        obtain ⟨k, hk⟩ := h2
        rw [e1, Int.mul_assoc] at hk
        omega
      exact ⟨by rw [hp], (far_iff hf d hp).mpr h2⟩
def val : List Bool → Nat
  | [] => 0
  | b :: r => b.toNat + 2 * val r
theorem val_take : ∀ (bs : List Bool) (d : Nat), val bs % 2 ^ d = val (bs.take d)
  | _, 0 => by simp [val, Nat.mod_one]
  | [], d + 1 => by simp [val]
  | b :: r, d + 1 => by
    rw [List.take_succ_cons, val, val, ← val_take r d, Nat.pow_succ, Nat.mul_comm (2 ^ d) 2]
    have hb : b.toNat < 2 := Bool.toNat_lt b
    generalize hb' : b.toNat = c at hb
    rw [Nat.mod_mul, show (c + 2 * val r) / 2 = val r by omega, show (c + 2 * val r) % 2 = c by omega]
theorem val_inj : ∀ (b c : List Bool), b.length = c.length → val b = val c → b = c
  | [], [], _, _ => rfl
  | [], _ :: _, h, _ => by simp at h
  | _ :: _, [], h, _ => by simp at h
  | x :: b, y :: c, h, e => by
    rw [val, val] at e
    have hx : x.toNat < 2 := Bool.toNat_lt x
    have hy : y.toNat < 2 := Bool.toNat_lt y
    have h1 : x.toNat = y.toNat := by omega
    have h2 : val b = val c := by omega
    rw [val_inj b c (by simpa using h) h2]
    congr 1
    cases x <;> cases y <;> simp_all
def Ld (l : List (Int × Int)) (n : Nat) : Nat := val (Wb l n)
def Tree (k : Nat) (g : Nat → Nat) : Prop := ∀ d, d ≤ k → ∀ n m : Nat, g n % 2 ^ d = g m % 2 ^ d ↔ n % 2 ^ d = m % 2 ^ d
theorem nat_dvd (d n m : Nat) : ((2 ^ d : Nat) : Int) ∣ (n : Int) - (m : Int) ↔ n % 2 ^ d = m % 2 ^ d := by
  rw [← Int.emod_eq_emod_iff_emod_sub_eq_zero.trans ⟨Int.dvd_of_emod_eq_zero, Int.emod_eq_zero_of_dvd⟩]
  constructor
  · intro h; exact_mod_cast h
  · intro h; exact_mod_cast h
theorem Ld_tree (l : List (Int × Int)) (hl : ∀ p ∈ l, p.1 % 2 = 1) : Tree l.length (Ld l) := by
  intro d hd n m
  unfold Ld
  rw [val_take, val_take, ← nat_dvd, ← terras l hl d hd]
  constructor
  · intro h
    exact val_inj _ _ (by rw [List.length_take, List.length_take, Wb_len, Wb_len]) h
  · intro h; rw [h]
theorem Tree.comp {k : Nat} {g h : Nat → Nat} (hg : Tree k g) (hh : Tree k h) : Tree k (fun n => g (h n)) := fun d hd n m => (hg d hd _ _).trans (hh d hd n m)
theorem Tree.sq {k d : Nat} {g : Nat → Nat} (hg : Tree k g) (hd : d + 1 ≤ k) (h : ∀ n, g n % 2 ^ d = n % 2 ^ d) : ∀ n, g (g n) % 2 ^ (d + 1) = n % 2 ^ (d + 1) := by
  intro n
  have hs : ∀ x : Nat, x % 2 ^ (d + 1) = x % 2 ^ d + 2 ^ d * (x / 2 ^ d % 2) := fun x => by rw [Nat.pow_succ, Nat.mod_mul]
  have h1 := h n
  have h2 := h (g n)
  by_cases e : g n % 2 ^ (d + 1) = n % 2 ^ (d + 1)
  · exact ((hg (d + 1) hd _ _).mpr e).trans e
  · have e2 : ¬ g (g n) % 2 ^ (d + 1) = g n % 2 ^ (d + 1) := fun q => e ((hg (d + 1) hd _ _).mp q)
    rw [hs, hs n] at e ⊢
    rw [hs, hs (g n)] at e2
    rw [h2, h1] at *
    have b1 : n / 2 ^ d % 2 < 2 := Nat.mod_lt _ (by decide)
    have b2 : g n / 2 ^ d % 2 < 2 := Nat.mod_lt _ (by decide)
    have b3 : g (g n) / 2 ^ d % 2 < 2 := Nat.mod_lt _ (by decide)
    have c1 : g n / 2 ^ d % 2 ≠ n / 2 ^ d % 2 := fun q => e (by rw [q])
    have c2 : g (g n) / 2 ^ d % 2 ≠ g n / 2 ^ d % 2 := fun q => e2 (by rw [q])
    rw [show g (g n) / 2 ^ d % 2 = n / 2 ^ d % 2 by omega]
end Mine
end
section
open PySem PySem.W PyProof.Rows
namespace Mine
theorem Tree.iter4 {g : Nat → Nat} (hg : Tree 4 g) : ∀ n, (fun n => (fun n => (fun n => (fun n => g (g n)) ((fun n => g (g n)) n)) ((fun n => (fun n => g (g n)) ((fun n => g (g n)) n)) n)) ((fun n => (fun n => (fun n => g (g n)) ((fun n => g (g n)) n)) ((fun n => (fun n => g (g n)) ((fun n => g (g n)) n)) n)) n)) n % 16 = n % 16 := by
  have h0 : ∀ n, g n % 2 ^ 0 = n % 2 ^ 0 := fun n => by simp [Nat.mod_one]
  have h1 := hg.sq (d := 0) (by decide) h0
  have t1 := hg.comp hg
  have h2 := t1.sq (d := 1) (by decide) h1
  have t2 := t1.comp t1
  have h3 := t2.sq (d := 2) (by decide) h2
  have t3 := t2.comp t2
  exact t3.sq (d := 3) (by decide) h3
def dbl (l : List Int) : List Int := l.map fun p => l.getD p.toNat 0
theorem dbl_map {g : Nat → Nat} (hb : ∀ n < 16, g n < 16) : dbl ((List.range 16).map fun n => ((g n : Nat) : Int)) = (List.range 16).map fun n => ((g (g n) : Nat) : Int) := by
  unfold dbl
  rw [List.map_map]
  refine List.map_congr_left fun n hn => ?_
  have h := hb n (List.mem_range.mp hn)
  simp only [Function.comp, Int.toNat_natCast]
  rw [List.getD_eq_getElem?_getD, List.getElem?_map, List.getElem?_range h]
  rfl
theorem lead_home (l : List (Int × Int)) (hl : ∀ p ∈ l, p.1 % 2 = 1) (h4 : l.length = 4) :
    dbl (dbl (dbl (dbl ((List.range 16).map fun n => ((Ld l n : Nat) : Int))))) = (List.range 16).map fun n : Nat => (n : Int) := by
  have ht : Tree 4 (Ld l) := h4 ▸ Ld_tree l hl
  have hv : ∀ bs : List Bool, val bs < 2 ^ bs.length := by
    intro bs
    induction bs with
    | nil => simp [val]
    | cons b r ih =>
      rw [val, List.length_cons, Nat.pow_succ]
      have : b.toNat < 2 := Bool.toNat_lt b
      omega
  have hb : ∀ n, Ld l n < 16 := by
    intro n
    have := hv (Wb l n)
    rw [Wb_len, h4] at this
    exact this
  rw [dbl_map (g := Ld l) (fun n _ => hb n), dbl_map (g := fun n => Ld l (Ld l n)) (fun n _ => hb _),
    dbl_map (g := fun n => (fun n => Ld l (Ld l n)) ((fun n => Ld l (Ld l n)) n)) (fun n _ => hb _),
    dbl_map (g := fun n => (fun n => (fun n => Ld l (Ld l n)) ((fun n => Ld l (Ld l n)) n)) ((fun n => (fun n => Ld l (Ld l n)) ((fun n => Ld l (Ld l n)) n)) n)) (fun n _ => hb _)]
  refine List.map_congr_left fun n hn => ?_
  have hn := List.mem_range.mp hn
  have := ht.iter4 n
  rw [Nat.mod_eq_of_lt hn, Nat.mod_eq_of_lt (hb _)] at this
  exact congrArg _ this
theorem letFn_enc (n : Nat) (bs : List Bool) : letFn n ++ enc bs = enc (decide (n % 2 = 1) :: bs) := by
  show Str.append _ _ = _
  unfold letFn enc Str.append
  by_cases h : n % 2 = 0
  · rw [if_pos h, show decide (n % 2 = 1) = false by simp; omega]
    rw [List.map_cons]
    show (⟨#[48] ++ _⟩ : Str) = _
    congr 1
    apply Array.ext'
    simp
  · rw [if_neg h, show decide (n % 2 = 1) = true by simp; omega]
    rw [List.map_cons]
    show (⟨#[49] ++ _⟩ : Str) = _
    congr 1
    apply Array.ext'
    simp
theorem lvl_enc (l : List (Int × Int)) (f a : Int) : lvl f a ((List.range (2 ^ l.length)).map fun n => enc (Wb l n)) = (List.range (2 ^ ((f, a) :: l).length)).map fun n => enc (Wb ((f, a) :: l) n) := by
  unfold lvl
  rw [List.length_map, List.length_range, List.length_cons, Nat.pow_succ, Nat.mul_comm]
  refine List.map_congr_left fun n _ => ?_
  unfold wordFn
  rw [List.length_map, List.length_range, Wb, ← letFn_enc]
  congr 1
  have hM : 0 < 2 ^ l.length := Nat.pow_pos (by decide)
  have h1 : farFn n f a % ((2 ^ l.length : Nat) : Int) < ((2 ^ l.length : Nat) : Int) := Int.emod_lt_of_pos _ (by exact_mod_cast hM)
  have h2 : 0 ≤ farFn n f a % ((2 ^ l.length : Nat) : Int) := Int.emod_nonneg _ (by have : (0 : Int) < ((2 ^ l.length : Nat) : Int) := (by exact_mod_cast hM); omega)
  rw [List.getD_eq_getElem?_getD, List.getElem?_map, List.getElem?_range (by omega)]
  rfl
end Mine
end
section
open PySem PySem.W PyProof.Rows
namespace Mine
def Pl : List (Int × Int) → List Bool → Int
  | (f, a) :: r, b :: bs => if b = true then f ^ 3 * (2 * Pl r bs - a) else 2 * Pl r bs
  | _, _ => 0
theorem fourth {f : Int} (hf : f % 2 = 1) : ∃ q, f ^ 4 = 1 + 16 * q := by
  obtain ⟨g, rfl⟩ : ∃ g, f = 2 * g + 1 := ⟨f / 2, by omega⟩
  obtain ⟨t, ht⟩ : ∃ t, g * (g + 1) = 2 * t := by
    have h : g % 2 = 0 ∨ g % 2 = 1 := by omega
    rcases h with h | h
    · exact ⟨(g / 2) * (g + 1), by have : g = 2 * (g / 2) := by omega
                                   rw [← Int.mul_assoc, ← this]⟩
    · exact ⟨g * ((g + 1) / 2), by have : g + 1 = 2 * ((g + 1) / 2) := by omega
                                   rw [Int.mul_left_comm, ← this]⟩
  refine ⟨4 * t * t + t, ?_⟩
  have e : (2 * g + 1) ^ 4 = (4 * (g * (g + 1)) + 1) * (4 * (g * (g + 1)) + 1) := by grind
  rw [e, ht]
  grind
theorem alg1 {F P f n a M k u q : Int} (h2 : 2 * F = f * n + a) (h3 : f * n = f ^ 4 * (2 * P - a) + 2 * M * k * f) (hq : f ^ 4 = 1 + 16 * q) (hu : 8 = M * u) : F - P = M * (u * q * (2 * P - a) + k * f) := by
  rw [hq] at h3
  have h5 : 16 * q * (2 * P - a) = 2 * (M * (u * q * (2 * P - a))) := by
    have : (16 : Int) = 2 * (M * u) := by omega
    rw [this]
    grind
  have h6 : (1 + 16 * q) * (2 * P - a) = (2 * P - a) + 16 * q * (2 * P - a) := by grind
  have h7 : 2 * M * k * f = 2 * (M * (k * f)) := by grind
  rw [Int.mul_add]
  rw [h6, h5, h7] at h3
  omega
theorem Pl_word : ∀ (l : List (Int × Int)), (∀ p ∈ l, p.1 % 2 = 1 ∧ p.2 % 2 = 1) → l.length ≤ 4 → ∀ (bs : List Bool), bs.length = l.length → ∀ n : Nat, ((2 ^ l.length : Nat) : Int) ∣ (n : Int) - Pl l bs → Wb l n = bs
  | [], _, _, bs, hb, n, _ => by
    cases bs with
    | nil => rfl
    | cons _ _ => simp at hb
  | (f, a) :: r, hl, h4, bs, hb, n, hd => by
    obtain ⟨hf, ha⟩ := hl _ (.head _)
    dsimp only at hf ha
    cases bs with
    | nil => simp at hb
    | cons b bs =>
      have hb' : bs.length = r.length := by simpa using hb
      have hr4 : r.length ≤ 3 := by simpa using h4
      have e1 : ((2 ^ ((f, a) :: r).length : Nat) : Int) = 2 * ((2 ^ r.length : Nat) : Int) := by rw [List.length_cons, Nat.pow_succ]; push_cast; omega
      have ih := Pl_word r (fun p hp => hl p (.tail _ hp)) (by omega) bs hb'
      obtain ⟨k, hk⟩ := hd
      rw [e1, Pl] at hk
      have hM : 0 < 2 ^ r.length := Nat.pow_pos (by decide)
      have key : n % 2 = b.toNat ∧ ((2 ^ r.length : Nat) : Int) ∣ farFn n f a - Pl r bs := by
        obtain ⟨u, hu⟩ : ∃ u : Int, 8 = ((2 ^ r.length : Nat) : Int) * u := by
          have h : r.length = 0 ∨ r.length = 1 ∨ r.length = 2 ∨ r.length = 3 := by omega
          rcases h with h | h | h | h <;> rw [h]
          · exact ⟨8, rfl⟩
          · exact ⟨4, rfl⟩
          · exact ⟨2, rfl⟩
          · exact ⟨1, rfl⟩
        generalize hMM : ((2 ^ r.length : Nat) : Int) = M at hk hu ⊢
        generalize Pl r bs = P at hk ⊢
        cases b with
        | false =>
          simp only [Bool.false_eq_true, if_false] at hk
          rw [Int.mul_assoc] at hk
          refine ⟨by simp; omega, k, ?_⟩
          unfold farFn
          rw [if_pos (by omega)]
          omega
        | true =>
          rw [if_pos rfl] at hk
          obtain ⟨q, hq⟩ := fourth hf
          have hn : n % 2 = 1 := by
            obtain ⟨g, hg⟩ : ∃ g, f = 2 * g + 1 := ⟨f / 2, by omega⟩
            obtain ⟨h, hh⟩ : ∃ h, a = 2 * h + 1 := ⟨a / 2, by omega⟩
            have : (n : Int) = 2 * (M * k + (4 * g ^ 3 + 6 * g ^ 2 + 3 * g) * (2 * (P - h) - 1) + (P - h) - 1) + 1 := by
              have h0 : (n : Int) = 2 * M * k + f ^ 3 * (2 * P - a) := by omega
              rw [h0, hg, hh]
              grind
            omega
          refine ⟨hn, u * q * (2 * P - a) + k * f, ?_⟩
          have h2 : 2 * farFn n f a = f * n + a := by
            unfold farFn
            rw [if_neg (by omega)]
            have hx : (n : Int) = 2 * ((n / 2 : Nat) : Int) + 1 := by omega
            generalize ((n / 2 : Nat) : Int) = x at hx ⊢
            have h3 : 2 * ((f + a) / 2) = f + a := by omega
            rw [Int.mul_add, h3, hx]
            grind
          have h3 : f * (n : Int) = f ^ 4 * (2 * P - a) + 2 * M * k * f := by
            have h0 : (n : Int) = 2 * M * k + f ^ 3 * (2 * P - a) := by omega
            rw [h0]
            grind
          exact alg1 h2 h3 hq hu
      obtain ⟨kp, kd⟩ := key
      rw [Wb, ih]
      · congr 1
        cases b <;> simp_all
      · rw [Int.toNat_of_nonneg (Int.emod_nonneg _ (by omega))]
        have e : farFn n f a % ((2 ^ r.length : Nat) : Int) - Pl r bs = (farFn n f a - Pl r bs) - ((2 ^ r.length : Nat) : Int) * (farFn n f a / ((2 ^ r.length : Nat) : Int)) := by rw [Int.emod_def]; omega
        rw [e]
        exact Int.dvd_sub kd ⟨_, rfl⟩
theorem item_enc : ∀ (b0 b1 b2 b3 : Bool), (Txt.item (enc [b0, b1, b2, b3]) ((0 : Nat) : Int) == Str.ofString "1") = b0 ∧ (Txt.item (enc [b0, b1, b2, b3]) ((1 : Nat) : Int) == Str.ofString "1") = b1 ∧
    (Txt.item (enc [b0, b1, b2, b3]) ((2 : Nat) : Int) == Str.ofString "1") = b2 ∧ (Txt.item (enc [b0, b1, b2, b3]) ((3 : Nat) : Int) == Str.ofString "1") = b3 := by decide +kernel
def stp (b : Bool) (k : Nat) (f a : Int) (st : Int × Int) : Int × Int := if b = true then ((st.1 * f ^ 3) % 16, st.2 + a * 2 ^ k * ((st.1 * f ^ 3) % 16)) else st
theorem step_inv (b : Bool) (k : Nat) (f a P : Int) (st : Int × Int) :
    ∃ q, -(stp b k f a st).2 + 2 ^ (k + 1) * (stp b k f a st).1 * P = -st.2 + 2 ^ k * st.1 * (if b = true then f ^ 3 * (2 * P - a) else 2 * P) + 16 * q := by
  obtain ⟨bk, tot⟩ := st
  unfold stp
  cases b with
  | false => exact ⟨0, by simp only [Bool.false_eq_true, if_false, Int.pow_succ]; grind⟩
  | true =>
    simp only [if_true]
    rw [Int.emod_def]
    generalize bk * f ^ 3 / 16 = y
    refine ⟨-(2 ^ k * y * (2 * P - a)), ?_⟩
    rw [Int.pow_succ]
    grind
def prs (ns : List Int) : List (Int × Int) := [(oddI (ns.getD 0 0), oddI (ns.getD 1 0)), (oddI (ns.getD 2 0), oddI (ns.getD 3 0)), (oddI (ns.getD 4 0), oddI (ns.getD 5 0)), (oddI (ns.getD 6 0), oddI (ns.getD 7 0))]
theorem prs_odd (ns : List Int) : ∀ p ∈ prs ns, p.1 % 2 = 1 ∧ p.2 % 2 = 1 := by
  intro p hp
  simp only [prs, List.mem_cons, List.not_mem_nil, or_false] at hp
  rcases hp with rfl | rfl | rfl | rfl <;> exact ⟨(oddI_bound _).2.2, (oddI_bound _).2.2⟩
theorem place_eq (ns : List Int) (b0 b1 b2 b3 : Bool) : placeFn (enc [b0, b1, b2, b3]) ns = Pl (prs ns) [b0, b1, b2, b3] % 16 := by
  obtain ⟨i0, i1, i2, i3⟩ := item_enc b0 b1 b2 b3
  have hs : ∀ k st, pstep (enc [b0, b1, b2, b3]) ns k st = stp (Txt.item (enc [b0, b1, b2, b3]) (k : Int) == Str.ofString "1") k (oddI (ns.getD (2 * k) 0)) (oddI (ns.getD (2 * k + 1) 0)) st := fun _ _ => rfl
  unfold placeFn pf pf pf pf pf
  rw [hs, hs, hs, hs, i0, i1, i2, i3]
  unfold prs Pl Pl Pl Pl Pl
  obtain ⟨q0, h0⟩ := step_inv b0 0 (oddI (ns.getD (2 * 0) 0)) (oddI (ns.getD (2 * 0 + 1) 0)) (Pl ((prs ns).drop 1) [b1, b2, b3]) (1, 0)
  generalize hst1 : stp b0 0 (oddI (ns.getD (2 * 0) 0)) (oddI (ns.getD (2 * 0 + 1) 0)) (1, 0) = st1 at h0 ⊢
  obtain ⟨q1, h1⟩ := step_inv b1 1 (oddI (ns.getD (2 * 1) 0)) (oddI (ns.getD (2 * 1 + 1) 0)) (Pl ((prs ns).drop 2) [b2, b3]) st1
  generalize hst2 : stp b1 1 (oddI (ns.getD (2 * 1) 0)) (oddI (ns.getD (2 * 1 + 1) 0)) st1 = st2 at h1 ⊢
  obtain ⟨q2, h2⟩ := step_inv b2 2 (oddI (ns.getD (2 * 2) 0)) (oddI (ns.getD (2 * 2 + 1) 0)) (Pl ((prs ns).drop 3) [b3]) st2
  generalize hst3 : stp b2 2 (oddI (ns.getD (2 * 2) 0)) (oddI (ns.getD (2 * 2 + 1) 0)) st2 = st3 at h2 ⊢
  obtain ⟨q3, h3⟩ := step_inv b3 3 (oddI (ns.getD (2 * 3) 0)) (oddI (ns.getD (2 * 3 + 1) 0)) 0 st3
  generalize hst4 : stp b3 3 (oddI (ns.getD (2 * 3) 0)) (oddI (ns.getD (2 * 3 + 1) 0)) st3 = st4 at h3 ⊢
  unfold prs at h0 h1 h2
  simp only [List.drop, Pl] at h0 h1 h2
  simp only [Nat.mul_zero, Nat.reduceMul, Nat.reduceAdd, Nat.zero_add] at h0 h1 h2 h3 ⊢
  generalize (if b0 = true then _ else _ : Int) = X0 at h0 ⊢
  generalize (if b1 = true then _ else _ : Int) = X1 at h0 h1
  generalize (if b2 = true then _ else _ : Int) = X2 at h1 h2
  generalize (if b3 = true then _ else _ : Int) = X3 at h2 h3
  have : 0 - st4.2 = X0 + 16 * (q0 + q1 + q2 + q3) := by grind
  rw [this]
  exact Int.add_mul_emod_self_left _ _ _
end Mine
end
section
open PySem PySem.W PyProof.Rows
namespace Mine
theorem bisF_spec (f : Nat → Bool) (N : Nat) (mono : ∀ i j, i ≤ j → j < N → f i = true → f j = true) : ∀ fuel lo hi, lo ≤ hi → hi ≤ N → hi - lo ≤ fuel → (∀ m, m < lo → f m = false) → (∀ m, hi ≤ m → m < N → f m = true) →
    bisF f fuel lo hi ≤ N ∧ (∀ m, m < bisF f fuel lo hi → f m = false) ∧ (∀ m, bisF f fuel lo hi ≤ m → m < N → f m = true) := by
  intro fuel
  induction fuel with
  | zero =>
    intro lo hi h1 h2 h3 h4 h5
    have : lo = hi := by omega
    subst this
    exact ⟨h2, h4, h5⟩
  | succ k ih =>
    intro lo hi h1 h2 h3 h4 h5
    unfold bisF
    by_cases hlt : lo < hi
    · rw [if_pos hlt]
      cases hm : f ((lo + hi) / 2) with
      | true =>
        rw [if_pos rfl]
        refine ih lo _ (by omega) (by omega) (by omega) h4 fun m hm1 hm2 => ?_
        exact mono _ _ hm1 hm2 hm
      | false =>
        rw [if_neg (by simp)]
        refine ih _ hi (by omega) h2 (by omega) (fun m hm1 => ?_) h5
        cases hfm : f m with
        | false => rfl
        | true =>
          have := mono m ((lo + hi) / 2) (by omega) (by omega) hfm
          rw [hm] at this
          exact this.symm
    · rw [if_neg hlt]
      have : lo = hi := by omega
      subst this
      exact ⟨h2, h4, h5⟩
theorem bits_lt : ∀ i : Fin 16, ∀ j : Fin 16, (bits i == bits j) = decide (i = j) ∧ decide ((bits i).cps.toList < (bits j).cps.toList) = decide (i < j) := by decide +kernel
theorem ltPair_bits {i j : Nat} (hi : i < 16) (hj : j < 16) (hne : i ≠ j) (a b : Int) : ltPair (bits i) a (bits j) b = decide (i < j) := by
  obtain ⟨h1, h2⟩ := bits_lt ⟨i, hi⟩ ⟨j, hj⟩
  unfold ltPair
  dsimp only at h1 h2
  rw [h1, if_neg (by simpa using hne), h2]
  simp
theorem row_sorted (c : Nat → Nat) (hc : ∀ n, n < 16 → c n < 16) (hinj : ∀ n, n < 16 → ∀ m, m < 16 → c n = c m → n = m) (ws : List Str) (hws : ws = (List.range 16).map fun n => bits (c n)) :
    ∀ k, k ≤ 16 → ∃ q : List Nat, rowFn ws k = q.map (fun n => (bits (c n), (n : Int))) ∧ q.Pairwise (fun a b => c a < c b) ∧ ∀ n, n ∈ q ↔ n < k := by
  intro k
  induction k with
  | zero => intro _; exact ⟨[], rfl, .nil, by simp⟩
  | succ k ih =>
    intro hk
    obtain ⟨q, hq, hp, hm⟩ := ih (by omega)
    have hx : ws.getD k Str.empty = bits (c k) := by rw [hws, List.getD_eq_getElem?_getD, List.getElem?_map, List.getElem?_range (by omega)]; rfl
    have hb : ∀ m (hlt : m < q.length), bisAt (rowFn ws k) (bits (c k)) (k : Int) m = decide (c k < c (q[m])) := by
      intro m hlt
      have hqm : q[m] < k := (hm _).mp (List.getElem_mem hlt)
      unfold bisAt
      rw [hq, List.getD_eq_getElem?_getD, List.getElem?_map, List.getElem?_eq_getElem hlt]
      refine ltPair_bits (hc _ (by omega)) (hc _ (by omega)) (fun e => ?_) _ _
      have := hinj _ (by omega) _ (by omega) e
      omega
    have hlen : (rowFn ws k).length = q.length := by rw [hq, List.length_map]
    have hs := bisF_spec (bisAt (rowFn ws k) (bits (c k)) (k : Int)) q.length (fun i j hij hj hi => by
      rw [hb i (by omega)] at hi
      rw [hb j hj]
      rcases Nat.lt_or_eq_of_le hij with h | h
      · have := (List.pairwise_iff_getElem.mp hp) i j (by omega) hj h
        have hi' := of_decide_eq_true hi
        exact decide_eq_true (by omega)
      · subst h; exact hi) q.length 0 q.length (by omega) (by omega) (by omega) (by omega) (by omega)
    obtain ⟨h1, h2, h3⟩ := hs
    have hB : bisP (rowFn ws k) (bits (c k)) (k : Int) = bisF (bisAt (rowFn ws k) (bits (c k)) (k : Int)) q.length 0 q.length := by unfold bisP; rw [hlen]
    refine ⟨q.take (bisP (rowFn ws k) (bits (c k)) (k : Int)) ++ k :: q.drop (bisP (rowFn ws k) (bits (c k)) (k : Int)), ?_, ?_, ?_⟩
    · rw [rowFn, hx, insP, List.map_append, List.map_cons, List.map_take, List.map_drop, ← hq]
    · rw [hB]
      generalize bisF (bisAt (rowFn ws k) (bits (c k)) (k : Int)) q.length 0 q.length = r at h1 h2 h3
      have hp' := hp
      rw [← List.take_append_drop r q, List.pairwise_append] at hp'
      rw [List.pairwise_append, List.pairwise_cons]
      refine ⟨hp'.1, ⟨fun x hx => ?_, hp'.2.1⟩, fun x hx y hy => ?_⟩
      · obtain ⟨m, hm1, rfl⟩ := List.getElem_of_mem hx
        rw [List.getElem_drop]
        rw [List.length_drop] at hm1
        have := h3 (r + m) (by omega) (by omega)
        rw [hb _ (by omega)] at this
        exact of_decide_eq_true this
      · have hxk : c x < c k := by
          obtain ⟨m, hm1, rfl⟩ := List.getElem_of_mem hx
          rw [List.getElem_take]
          rw [List.length_take] at hm1
          have := h2 m (by omega)
          rw [hb _ (by omega)] at this
          have h4 := of_decide_eq_false this
          have h5 : c q[m] ≠ c k := fun e => by
            have hqm : q[m] < k := (hm _).mp (List.getElem_mem (by omega))
            have := hinj _ (by omega) _ (by omega) e
            omega
          omega
        rcases List.mem_cons.mp hy with rfl | hy
        · exact hxk
        · exact hp'.2.2 x hx y hy
    · intro n
      rw [List.mem_append, List.mem_cons]
      have : n ∈ q ↔ n ∈ q.take (bisP (rowFn ws k) (bits (c k)) (k : Int)) ∨ n ∈ q.drop (bisP (rowFn ws k) (bits (c k)) (k : Int)) := by
        rw [← List.mem_append, List.take_append_drop]
      rw [show n < k + 1 ↔ n < k ∨ n = k by omega, ← hm n, this]
      grind
theorem sorted_range : ∀ (l : List Nat) (a : Nat), l.Pairwise (· < ·) → (∀ x ∈ l, a ≤ x ∧ x < a + l.length) → l = List.range' a l.length
  | [], _, _, _ => rfl
  | x :: xs, a, hp, hb => by
    rw [List.pairwise_cons] at hp
    have hx := hb x (.head _)
    rw [List.length_cons] at hx
    have ih := sorted_range xs (a + 1) hp.2 (fun y hy => by
      have h1 := hp.1 y hy
      have h2 := hb y (.tail _ hy)
      rw [List.length_cons] at h2
      omega)
    have : x = a := by
      cases xs with
      | nil => simp at hx; omega
      | cons y ys =>
        rw [List.length_cons, List.range'_succ] at ih
        have := (List.cons.inj ih).1
        have h1 := hp.1 y (.head _)
        omega
    rw [List.length_cons, List.range'_succ, ← ih, this]
def bl (i : Nat) : List Bool := [decide (i / 8 % 2 = 1), decide (i / 4 % 2 = 1), decide (i / 2 % 2 = 1), decide (i % 2 = 1)]
def cod : List Bool → Nat
  | [a, b, c, d] => 8 * a.toNat + 4 * b.toNat + 2 * c.toNat + d.toNat
  | _ => 0
theorem bits_bl : ∀ i : Fin 16, bits i = enc (bl i) ∧ cod (bl i) = i := by decide +kernel
theorem bl_cod : ∀ a b c d : Bool, bl (cod [a, b, c, d]) = [a, b, c, d] ∧ cod [a, b, c, d] < 16 := by decide +kernel
theorem len4 {bs : List Bool} (h : bs.length = 4) : ∃ a b c d, bs = [a, b, c, d] := by
  match bs, h with
  | [a, b, c, d], _ => exact ⟨a, b, c, d, rfl⟩
def wsAll (ns : List Int) : List Str := (List.range 16).map fun n => enc (Wb (prs ns) n)
theorem rows_due (ns : List Int) : rowFn (wsAll ns) 16 = (List.range 16).map (dueF ns) := by
  have hodd : ∀ p ∈ prs ns, p.1 % 2 = 1 := fun p hp => (prs_odd ns p hp).1
  have hlen : ∀ n, (Wb (prs ns) n).length = 4 := fun n => Wb_len _ _
  have hc : ∀ n, cod (Wb (prs ns) n) < 16 := fun n => by
    obtain ⟨a, b, c, d, h⟩ := len4 (hlen n)
    rw [h]
    exact (bl_cod a b c d).2
  have hbc : ∀ n, bl (cod (Wb (prs ns) n)) = Wb (prs ns) n := fun n => by
    obtain ⟨a, b, c, d, h⟩ := len4 (hlen n)
    rw [h]
    exact (bl_cod a b c d).1
  have hinj : ∀ n, n < 16 → ∀ m, m < 16 → cod (Wb (prs ns) n) = cod (Wb (prs ns) m) → n = m := by
    intro n hn m hm e
    have e2 : Wb (prs ns) n = Wb (prs ns) m := by rw [← hbc n, ← hbc m, e]
    have e3 := (terras (prs ns) hodd 4 (Nat.le_refl 4) n m).mp (by rw [e2])
    obtain ⟨k, hk⟩ := e3
    omega
  have hws : wsAll ns = (List.range 16).map fun n => bits (cod (Wb (prs ns) n)) := by
    unfold wsAll
    refine List.map_congr_left fun n _ => ?_
    rw [(bits_bl ⟨_, hc n⟩).1, hbc]
  obtain ⟨q, hq, hp, hm⟩ := row_sorted (fun n => cod (Wb (prs ns) n)) (fun n _ => hc n) hinj (wsAll ns) hws 16 (Nat.le_refl _)
  have hql : q.length = 16 := by have := congrArg List.length hq; rw [rowFn_len, List.length_map] at this; exact this.symm
  have hmap : q.map (fun n => cod (Wb (prs ns) n)) = List.range' 0 16 := by
    have := sorted_range (q.map fun n => cod (Wb (prs ns) n)) 0 (List.pairwise_map.mpr hp) (fun x hx => by
      obtain ⟨n, _, rfl⟩ := List.mem_map.mp hx
      rw [List.length_map, hql]
      have := hc n
      omega)
    rwa [List.length_map, hql] at this
  rw [hq, List.range_eq_range', ← hmap, List.map_map]
  refine List.map_congr_left fun n hn => ?_
  have hn16 := (hm n).mp hn
  simp only [Function.comp, dueF]
  refine Prod.ext rfl ?_
  show (n : Int) = placeFn (bits (cod (Wb (prs ns) n))) ns
  rw [(bits_bl ⟨_, hc n⟩).1, hbc]
  obtain ⟨a, b, c, d, h⟩ := len4 (hlen n)
  rw [h, place_eq]
  have hp16 : (0 : Int) ≤ Pl (prs ns) [a, b, c, d] % 16 ∧ Pl (prs ns) [a, b, c, d] % 16 < 16 := ⟨Int.emod_nonneg _ (by decide), Int.emod_lt_of_pos _ (by decide)⟩
  have hw := Pl_word (prs ns) (prs_odd ns) (Nat.le_refl 4) [a, b, c, d] rfl (Pl (prs ns) [a, b, c, d] % 16).toNat (by
    rw [Int.toNat_of_nonneg hp16.1]
    show (16 : Int) ∣ _
    omega)
  have := hinj n hn16 (Pl (prs ns) [a, b, c, d] % 16).toNat (by omega) (by rw [hw, h])
  omega
end Mine
end
section
open PySem PySem.W PyProof.Rows
namespace Mine
theorem ws0_eq {ns : List Int} {ws3 ws2 ws1 ws0 : List Str} (h3 : ws3 = lvl (oddI (ns.getD (Int.toNat (2 * 3)) 0)) (oddI (ns.getD (Int.toNat (2 * 3 + 1)) 0)) [Str.ofString ""])
    (h2 : ws2 = lvl (oddI (ns.getD (Int.toNat (2 * 2)) 0)) (oddI (ns.getD (Int.toNat (2 * 2 + 1)) 0)) ws3)
    (h1 : ws1 = lvl (oddI (ns.getD (Int.toNat (2 * 1)) 0)) (oddI (ns.getD (Int.toNat (2 * 1 + 1)) 0)) ws2)
    (h0 : ws0 = lvl (oddI (ns.getD (Int.toNat (2 * 0)) 0)) (oddI (ns.getD (Int.toNat (2 * 0 + 1)) 0)) ws1) : ws0 = wsAll ns := by
  have e : [Str.ofString ""] = (List.range (2 ^ ([] : List (Int × Int)).length)).map fun n => enc (Wb [] n) := rfl
  rw [e, lvl_enc] at h3
  rw [h3, lvl_enc] at h2
  rw [h2, lvl_enc] at h1
  rw [h1, lvl_enc] at h0
  exact h0
theorem rows_due' {ns : List Int} {ws3 ws2 ws1 ws0 : List Str} (h3 : ws3 = lvl (oddI (ns.getD (Int.toNat (2 * 3)) 0)) (oddI (ns.getD (Int.toNat (2 * 3 + 1)) 0)) [Str.ofString ""])
    (h2 : ws2 = lvl (oddI (ns.getD (Int.toNat (2 * 2)) 0)) (oddI (ns.getD (Int.toNat (2 * 2 + 1)) 0)) ws3)
    (h1 : ws1 = lvl (oddI (ns.getD (Int.toNat (2 * 1)) 0)) (oddI (ns.getD (Int.toNat (2 * 1 + 1)) 0)) ws2)
    (h0 : ws0 = lvl (oddI (ns.getD (Int.toNat (2 * 0)) 0)) (oddI (ns.getD (Int.toNat (2 * 0 + 1)) 0)) ws1) : rowFn ws0 16 = (List.range 16).map (dueF ns) := by
  rw [ws0_eq h3 h2 h1 h0]; exact rows_due ns
end Mine
end
section
open PySem PySem.W PyProof.Rows
namespace Mine
theorem join_bits16 : ∀ i : Fin 16, Txt.join (Str.ofString "") ((rangeKs 0 (4 - 0 : Int).toNat).map fun k => if (((i.val : Nat) : Int).fdiv (2 ^ (3 - k).toNat)).fmod 2 = 1 then Str.ofString "1" else Str.ofString "0") = bits i.val := by decide +kernel
theorem join_bits {i : Nat} (hi : i < 16) : Txt.join (Str.ofString "") ((rangeKs 0 (4 - 0 : Int).toNat).map fun k => if ((i : Int).fdiv (2 ^ (3 - k).toNat)).fmod 2 = 1 then Str.ofString "1" else Str.ofString "0") = bits i := join_bits16 ⟨i, hi⟩
theorem due_end {h₀ h' : Heap} {L : Addr} {s : Shared} {I : Addr} {oI : Obj} {due cc dl td DD : Addr} {dobj too dd o' : Obj} {rs R tl : List (Addr × Obj)} {m₀ : Str → Option Value} {f : Nat → Str × Int} {i tk' c : Nat} {us : List Value} {u w x : Option Value} {v : Value}
    (F : Fr h₀ L h' (fun y => if y = Str.ofString "letters" then w else if y = Str.ofString "letters" then u else m₀ y)) (N : News h₀ L h' ((td, too) :: (DD, dd) :: (I, oI) :: (due, listOf (us.toArray.push v) (c + 1)) :: (cc, o') :: R))
    (hR : R = tl ++ rs) (hd : DatIn [(td, too)] v (pdat (f i))) (hD : DatAll tl us (((List.range i).map f).map pdat)) (ho' : o'.data = .cell x) (n1 : td ≠ due) (n2 : td ≠ cc) (n3 : td ≠ I)
    (hO : OwnOff R [due, cc, I]) (q1 : due ≠ I) (q2 : cc ≠ I) (q3 : cc ≠ due) (hdl : (dl, dobj) ∈ rs) :
    EndC h₀ L s I oI (DueJ due cc dl dobj rs m₀ f (i + 1)) .next { s with heap := h', toks := tk' } := by
  subst hR
  refine ⟨rfl, h', tk', _, (due, listOf (us ++ [v]).toArray (c + 1)) :: (cc, o') :: (((td, too) :: tl) ++ rs), rfl, F, ?_, ?_, us ++ [v], c + 1, o', x, (td, too) :: tl, w, ?_, rfl, ho', ?_, ?_, ?_, q3, hdl⟩
  · intro p hp
    refine N p ?_
    rw [List.push_toArray]
    simp only [List.cons_append, List.mem_cons] at hp
    rcases hp with h | h | h | h | h <;> simp [h]
  · intro p hp
    simp only [List.mem_cons, List.cons_append] at hp
    rcases hp with rfl | rfl | rfl | hp
    · exact q1
    · exact q2
    · exact n3
    · exact hO p hp I (by simp)
  · funext y
    split <;> rfl
  · rw [List.range_succ, List.map_append, List.map_append]
    exact DatAll.append (hD.mono fun p hp => .tail _ hp) (.cons (hd.mono fun p hp => by rw [List.mem_singleton.mp hp]; exact .head _) .nil)
  · intro p hp
    simp only [List.mem_cons, List.cons_append] at hp
    rcases hp with rfl | hp
    · exact n1
    · exact hO p hp due (by simp)
  · intro p hp
    simp only [List.mem_cons, List.cons_append] at hp
    rcases hp with rfl | hp
    · exact n2
    · exact hO p hp cc (by simp)
end Mine
end
section
open PySem PySem.W PyProof.Rows
namespace Mine
mutual
theorem datIn_sub {news news' : List (Addr × Obj)} (hs : ∀ p ∈ news, (∃ v, p.2.data = Data.cell v) ∨ p ∈ news') : ∀ {v : Value} {d : Dat}, DatIn news v d → DatIn news' v d
  | _, _, .none => .none
  | _, _, .bool b => .bool b
  | _, _, .int i t => .int i t
  | _, _, .str x t => .str x t
  | _, _, .bytes b t => .bytes b t
  | _, _, .tuple h r => .tuple ((hs _ h).resolve_left fun ⟨_, e⟩ => by cases e) (datAll_sub hs r)
  | _, _, .list h r => .list ((hs _ h).resolve_left fun ⟨_, e⟩ => by cases e) (datAll_sub hs r)
theorem datAll_sub {news news' : List (Addr × Obj)} (hs : ∀ p ∈ news, (∃ v, p.2.data = Data.cell v) ∨ p ∈ news') : ∀ {vs : List Value} {ds : List Dat}, DatAll news vs ds → DatAll news' vs ds
  | _, _, .nil => .nil
  | _, _, .cons h r => .cons (datIn_sub hs h) (datAll_sub hs r)
end
theorem bits_ok16 : ∀ i : Fin 16, PyData.strOk (bits i.val) = true := by decide +kernel
theorem due_ok (ns : List Int) : ∀ d ∈ ((List.range 16).map (dueF ns)).map pdat, kqdOk 8 d = true := by
  intro d hd
  rw [List.map_map] at hd
  obtain ⟨i, hi, rfl⟩ := List.mem_map.mp hd
  have hi := List.mem_range.mp hi
  have h := bits_ok16 ⟨i, hi⟩
  show kqdOk 8 (Dat.tuple [Dat.str (bits i), Dat.int _]) = true
  simp only [kqdOk, List.all_cons, List.all_nil, Bool.and_true]
  exact h
theorem ne_self {α : Type} (a : α) [Decidable (a = a)] : (!decide (a = a)) = false := by simp
end Mine
end
section
open PySem PySem.W PyProof.Rows
namespace Mine
theorem strs_mem {vs : List Value} {ws : List Str} (h : StrsAre vs ws) : ∀ v ∈ vs, ∃ x t, v = .str x t ∧ x ∈ ws := by
  induction h with
  | nil => intro v hv; simp at hv
  | cons x t r ih =>
    intro v hv
    rcases List.mem_cons.mp hv with rfl | hv
    · exact ⟨x, t, rfl, .head _⟩
    · obtain ⟨y, u, e, hm⟩ := ih v hv
      exact ⟨y, u, e, .tail _ hm⟩
theorem wsAll_len (ns : List Int) : ∀ x ∈ wsAll ns, x.length = 4 := by
  intro x hx
  obtain ⟨n, _, rfl⟩ := List.mem_map.mp hx
  have h : (Wb (prs ns) n).length = 4 := Wb_len _ _
  show (enc _).cps.size = 4
  simp [enc, h]
theorem led_min {h₀ h : Heap} {L : Addr} {E1 E2 b c d e f g k l x : Addr × Obj} {tl0 rs tl : List (Addr × Obj)} (hrs : rs = b :: c :: d :: e :: f :: g :: k :: l :: x :: tl) (N : News h₀ L h (E1 :: E2 :: (tl0 ++ rs))) : News h₀ L h [c, x] := by
  intro p hp
  refine N p (.tail _ (.tail _ (List.mem_append_right _ ?_)))
  rw [hrs]
  simp only [List.mem_cons, List.not_mem_nil, or_false] at hp ⊢
  rcases hp with h | h <;> simp [h]
def leadW (x : Str) : Int := (((rangeInts 0 1 (4 - 0 : Int).toNat).filter fun a => Txt.item x a == Str.ofString "1").map fun a => (2 : Int) ^ a.toNat).sum
end Mine
end
section
open PySem PySem.W PyProof.Rows
namespace Mine
theorem ints_of {vs : List Value} {ws : List Str} (h : StrsAre vs ws) : ∀ {ys : List Value}, ys.length = vs.length → (∀ (i : Nat) (v y : Value), vs[i]? = some v → ys[i]? = some y → ∃ x t u, v = Value.str x t ∧ y = Value.int (leadW x) u) → IntsAre ys (ws.map leadW) := by
  induction h with
  | nil =>
    intro ys hl _
    rw [List.length_nil] at hl
    rw [List.length_eq_zero_iff.mp hl]
    exact .nil
  | cons x t r ih =>
    intro ys hl hF
    cases ys with
    | nil => simp at hl
    | cons y ys =>
      obtain ⟨x', t', u', e1, e2⟩ := hF 0 _ y rfl rfl
      cases e1
      subst e2
      exact .cons _ _ (ih (by simpa using hl) fun i v y hv hy => hF (i + 1) v y hv hy)
theorem leadW_enc : ∀ a b c d : Bool, leadW (enc [a, b, c, d]) = ((val [a, b, c, d] : Nat) : Int) := by decide +kernel
def leadL (ns : List Int) : List Int := (List.range 16).map fun n => ((Ld (prs ns) n : Nat) : Int)
theorem lead_eq (ns : List Int) : (wsAll ns).map leadW = leadL ns := by
  unfold wsAll leadL
  rw [List.map_map]
  refine List.map_congr_left fun n _ => ?_
  obtain ⟨a, b, c, d, h⟩ := len4 (show (Wb (prs ns) n).length = 4 from Wb_len _ _)
  simp only [Function.comp, Ld]
  rw [h]
  exact leadW_enc a b c d
def Ok16 (l : List Int) : Prop := l.length = 16 ∧ ∀ k ∈ l, 0 ≤ k ∧ k < 16
theorem dbl_ok {l : List Int} (h : Ok16 l) : Ok16 (dbl l) := by
  refine ⟨by unfold dbl; rw [List.length_map]; exact h.1, fun k hk => ?_⟩
  obtain ⟨p, _, rfl⟩ := List.mem_map.mp hk
  rw [List.getD_eq_getElem?_getD]
  cases e : l[p.toNat]? with
  | none => simp
  | some y => exact h.2 y (List.mem_of_getElem? e)
theorem lead_ok (ns : List Int) : Ok16 (leadL ns) := by
  refine ⟨by unfold leadL; rw [List.length_map, List.length_range], fun k hk => ?_⟩
  obtain ⟨n, _, rfl⟩ := List.mem_map.mp hk
  obtain ⟨a, b, c, d, h⟩ := len4 (show (Wb (prs ns) n).length = 4 from Wb_len _ _)
  unfold Ld
  rw [h]
  have : ∀ a b c d : Bool, val [a, b, c, d] < 16 := by decide
  have := this a b c d
  omega
theorem lead_end (ns : List Int) : dbl (dbl (dbl (dbl (leadL ns)))) = (List.range 16).map fun n : Nat => (n : Int) := lead_home (prs ns) (fun p hp => (prs_odd ns p hp).1) rfl
theorem led_drop {h₀ h : Heap} {L : Addr} {a b c : Addr × Obj} (N : News h₀ L h [a, b, c]) : News h₀ L h [a, c] := fun p hp => N p (by
  simp only [List.mem_cons, List.not_mem_nil, or_false] at hp ⊢
  rcases hp with h | h <;> simp [h])
theorem ints_dat {vs : List Value} {ns : List Int} (h : IntsAre vs ns) : DatAll [] vs (ns.map Dat.int) := by
  induction h with
  | nil => exact .nil
  | cons _ _ _ ih => exact .cons (.int _ _) ih
theorem dat_ints_ok (ns : List Int) : ∀ d ∈ ns.map Dat.int, kqdOk 8 d = true := by
  intro d hd
  obtain ⟨n, _, rfl⟩ := List.mem_map.mp hd
  rfl
theorem range_ks : rangeKs 0 16 = (List.range 16).map fun n : Nat => (n : Int) := by decide
theorem yes_self {α : Type} (a : α) [Decidable (a = a)] : decide (a = a) = true := by simp
theorem led_drop3 {h₀ h : Heap} {L : Addr} {a b c d : Addr × Obj} (N : News h₀ L h [a, b, c, d]) : News h₀ L h [a, b, d] := fun p hp => N p (by
  simp only [List.mem_cons, List.not_mem_nil, or_false] at hp ⊢
  rcases hp with h | h | h <;> simp [h])
end Mine
end
section
open PySem PySem.W PyProof.Rows PySem.Calls
namespace Mine
theorem neA {a b : Nat} (h : a ≠ b) : @Ne Addr a b := h
theorem newEnv_X {M : Model} {A : Around} {E : Value → Shared → Prop} {s : Shared} {scope : Scope} {globals : Addr} {cl : List (Str × Addr)} {qual : Str} {env : Env} {Q : Env → Shared → Prop}
    (hQ : Q { scope, locals := s.heap.objs.size, globals, cells := cellsFrom (s.heap.objs.size + 1) scope.names cl, qual, func := none, code := env.code, frame := env.frame, builtins := env.builtins } { s with heap := pushCells (s.heap.push { cls := .type "dict", data := .dict #[] }) scope.names }) :
    wpAny M A (newFunctionEnv scope globals cl [] qual none .none (some env)) Q E s := by
  simp only [newFunctionEnv, Option.isSome_some, if_true]
  refine wpAny_bind (wpAny_alloc ?_)
  refine wpAny_bind (wpAny_layCells _ (fun name kind cells => by cases hkc : kind == NameKind.cell <;> simp [hkc]) _ _ _ _ ?_)
  rw [show ({ s with heap := s.heap.push { cls := .type "dict", data := .dict #[] } } : Shared).heap.objs.size = s.heap.objs.size + 1 from Heap.size_push ..]
  simp only [List.forIn_nil]
  exact wpAny_bind (wpAny_pure (wpAny_pure hQ))
def CellEnd (h₀ : Heap) (L : Addr) (m : Str → Option Value) (s : Shared) (led : List (Addr × Obj)) (FF : Value → Value → Prop) (v y : Value) (s' : Shared) : Prop :=
  ∃ h' tk', s' = { s with heap := h', toks := tk' } ∧ Fr h₀ L h' m ∧ News h₀ L h' led ∧ FF v y
def CellTurn (prog : Program) (w : World) (A : Around) (h₀ : Heap) (L : Addr) (m : Str → Option Value) (env : Env) (elt : Expr) (x : Str) (scope : Scope) (s₁ : Shared) (vs : List Value) (news : List (Addr × Obj)) (FF : Value → Value → Prop) : Prop :=
  ∀ v I oI C oC K oK D ys h tk (E' : Value → Shared → Prop), v ∈ vs → oK.data = .cell (some v) → Fr h₀ L h m → News h₀ L h ((I, oI) :: (C, oC) :: (K, oK) :: (D, LCg.lst ys) :: news) →
    (@LT.lt Nat _ I D ∧ @LT.lt Nat _ D C ∧ @LT.lt Nat _ C K ∧ ∀ p ∈ news, @LT.lt Nat _ p.1 I) →
    wpAny (model prog w) A (eval elt (compEnvC scope [(x, K)] C env)) (CellEnd h₀ L m { s₁ with heap := h, toks := tk } ((I, oI) :: (C, oC) :: (K, oK) :: (D, LCg.lst ys) :: news) FF v) E' { s₁ with heap := h, toks := tk }
def CellSrc (prog : Program) (w : World) (A : Around) (h₀ : Heap) (L : Addr) (m : Str → Option Value) (env : Env) (elt : Expr) (x : Str) (scope : Scope) (FF : Value → Value → Prop) (Q : Value → Shared → Prop) (xv : Value) (s₁ : Shared) : Prop :=
  ∃ (ax : Addr) (vs : List Value) (k : Nat) (news : List (Addr × Obj)), xv = .ref ax ∧ A.handled = none ∧ Fr h₀ L s₁.heap m ∧ News h₀ L s₁.heap news ∧ (ax, ({ cls := .type "list", data := .seq (List.toArray vs) k } : Obj)) ∈ news ∧ vs.length ≤ sizeLine ∧
      CellTurn prog w A h₀ L m env elt x scope s₁ vs news FF ∧
      (∀ (D : Addr) (h : Heap) (tk : Nat) (ys : List Value), Fr h₀ L h m → News h₀ L h ((D, LCg.lst ys) :: news) → ys.length = vs.length → (∀ (i : Nat) (v y : Value), vs[i]? = some v → ys[i]? = some y → FF v y) → (∀ p ∈ news, @LT.lt Nat _ p.1 D) → Q (.ref D) { s₁ with heap := h, toks := tk })
theorem comp_cell {prog : Program} {w : World} {A : Around} {E : Value → Shared → Prop} {s : Shared} {h₀ : Heap} {L : Addr} {m : Str → Option Value} {env : Env} {elt iter : Expr} {x : Str} {px : Pos} {scope : Scope} {pos : Pos} {Q : Value → Shared → Prop} (F₀ : Fr h₀ L s.heap m) (FF : Value → Value → Prop)
    (hclos : closureFor scope env = pure []) (hkind : scope.kind = .function)
    (hnames : ∀ y ∈ scope.names, y.2 = .local → scope.names.lookup y.1 = some .local)
    (hcf : ∀ n, cellsFrom n scope.names [] = [(x, n)]) (hpc : ∀ h, pushCells h scope.names = h.push { cls := .type "cell", data := .cell none })
    (hkx : ∀ K C, (compEnvC scope [(x, K)] C env).kindOf x = some .cell)
    (h : wpAny (model prog w) A (eval iter env) (CellSrc prog w A h₀ L m env elt x scope FF Q) E s)
    (hs : ∀ x, foldedSetIterable iter env x = pure x := by intro _; rfl) :
    wpAny (model prog w) A (eval (.ListComp elt [⟨.Name x px, iter, [], 0⟩] scope pos) env) Q E s := by
  rw [eval_ListComp]
  refine wpAny_comprehension_free (use := none) rfl hs hclos hkind hnames (wpAny_mono h (fun xv s₁ h₁ => ?_) fun _ _ e => e)
  obtain ⟨ax, vs, k₀, news, rfl, hh, F, N, hm, hsz, turn, fin⟩ := h₁
  have hlist : ∀ {h : Heap}, News h₀ L h news → h.IsList ax vs.toArray := fun N => ⟨_, (N _ hm).1, rfl, _, rfl⟩
  have hl := hlist N
  have hlt : ax < s₁.heap.objs.size := by obtain ⟨_, e, _⟩ := hl; exact Heap.lt_size e
  refine wpAny_pyIter_list hl ?_
  generalize hI : s₁.heap.objs.size = I at hlt ⊢
  generalize hg2 : s₁.heap.push { cls := .type "list_iterator", data := .fields #[.ref ax, .int 0 0] } = g₂
  have sz2 : g₂.objs.size = I + 1 := by rw [← hg2, Heap.size_push, hI]
  have up2 : ∀ b o, s₁.heap.get? b = some o → g₂.get? b = some o := fun b o e => hg2 ▸ Heap.get?_push_of_some _ e
  have hit2 : g₂.IsListIter I ax 0 := ⟨_, hg2 ▸ hI ▸ Heap.get?_push_size _ rfl, rfl, rfl⟩
  refine wpAny_newObj_type ?_
  dsimp only
  generalize hD : g₂.objs.size = D
  generalize hg3 : g₂.push { cls := .type "list", dict := none, data := .seq ([] : List Value).toArray } = g₃
  have sz3 : g₃.objs.size = D + 1 := by rw [← hg3, Heap.size_push, hD]
  have up3 : ∀ b o, g₂.get? b = some o → g₃.get? b = some o := fun b o e => hg3 ▸ Heap.get?_push_of_some _ e
  have hacc3 : g₃.get? D = some (LCg.lst []) := hg3 ▸ hD ▸ Heap.get?_push_size _ rfl
  refine newEnv_X ?_
  dsimp only
  rw [hcf, hpc]
  generalize hC : g₃.objs.size = C
  generalize hg4 : (g₃.push { cls := .type "dict", data := .dict #[] }) = g₄
  have sz4 : g₄.objs.size = C + 1 := by rw [← hg4, Heap.size_push, hC]
  have up4 : ∀ b o, g₃.get? b = some o → g₄.get? b = some o := fun b o e => hg4 ▸ Heap.get?_push_of_some _ e
  have hns4 : g₄.Ns C (fun _ => none) := hg4 ▸ hC ▸ Heap.Ns.new _ _
  generalize hg5 : (g₄.push { cls := .type "cell", data := .cell none }) = g₅
  have up5 : ∀ b o, g₄.get? b = some o → g₅.get? b = some o := fun b o e => hg5 ▸ Heap.get?_push_of_some _ e
  obtain ⟨K, hK⟩ : ∃ K, C + 1 = K := ⟨_, rfl⟩
  rw [hK] at sz4 ⊢
  have hcell5 : g₅.get? K = some { cls := .type "cell", data := .cell none } := hg5 ▸ sz4 ▸ Heap.get?_push_size _ rfl
  have up : ∀ b o, s₁.heap.get? b = some o → g₅.get? b = some o := fun b o e => up5 b o (up4 b o (up3 b o (up2 b o e)))
  have ID : @LT.lt Nat _ I D := by omega
  have DC : @LT.lt Nat _ D C := by omega
  have CK : @LT.lt Nat _ C K := by omega
  have hLI : @LT.lt Nat _ L I := hI ▸ F.ns.lt
  have fresh₀ : ∀ a : Addr, @LE.le Nat _ I a → h₀.get? a = none := fun a ha => by
    cases e : h₀.get? a with
    | none => rfl
    | some o' => have := F.keep a o' e; exact absurd (Heap.lt_size this) (by rw [hI]; exact Nat.not_lt.mpr ha)
  have hnI : ∀ p ∈ news, @LT.lt Nat _ p.1 I := fun p hp => hI ▸ Heap.lt_size (N p hp).1
  have IC : @LT.lt Nat _ I C := Nat.lt_trans ID DC
  have IK : @LT.lt Nat _ I K := Nat.lt_trans IC CK
  have DK : @LT.lt Nat _ D K := Nat.lt_trans DC CK
  have n01 : @Ne Addr I L := Nat.ne_of_gt hLI
  have n02 : @Ne Addr D L := Nat.ne_of_gt (Nat.lt_trans hLI ID)
  have n03 : @Ne Addr C L := Nat.ne_of_gt (Nat.lt_trans hLI IC)
  have n04 : @Ne Addr K L := Nat.ne_of_gt (Nat.lt_trans hLI IK)
  have n05 : @Ne Addr K I := Nat.ne_of_gt IK
  have n06 : @Ne Addr I K := Nat.ne_of_lt IK
  have n07 : @Ne Addr C K := Nat.ne_of_lt CK
  have n08 : @Ne Addr C I := Nat.ne_of_gt IC
  have n09 : @Ne Addr D K := Nat.ne_of_lt DK
  have n10 : @Ne Addr D I := Nat.ne_of_gt ID
  have n11 : @Ne Addr I D := Nat.ne_of_lt ID
  have n12 : @Ne Addr C D := Nat.ne_of_gt DC
  have n13 : @Ne Addr K D := Nat.ne_of_gt DK
  have n14 : @Ne Addr D C := Nat.ne_of_lt DC
  have m1 : @LE.le Nat _ I D := Nat.le_of_lt ID
  have m2 : @LE.le Nat _ I C := Nat.le_of_lt IC
  have m3 : @LE.le Nat _ I K := Nat.le_of_lt IK
  have dist : @LT.lt Nat _ I D ∧ @LT.lt Nat _ D C ∧ @LT.lt Nat _ C K ∧ ∀ p ∈ news, @LT.lt Nat _ p.1 I := ⟨ID, DC, CK, hnI⟩
  obtain ⟨oC, heC, hoC⟩ := LCg.ns_obj (hns4.at' fun o e => up5 C o e)
  have W := Walks.list (prog := prog) (w := w) hh I ax (Nat.ne_of_lt hlt) vs.toArray
  have N5 : News h₀ L g₅ ((C, oC) :: (K, { cls := .type "cell", data := .cell none }) :: (D, LCg.lst []) :: news) := by
    intro p hp
    rcases List.mem_cons.mp hp with rfl | hp
    · exact ⟨heC, (by assumption), fresh₀ _ (by assumption)⟩
    rcases List.mem_cons.mp hp with rfl | hp
    · exact ⟨hcell5, (by assumption), fresh₀ _ (by assumption)⟩
    rcases List.mem_cons.mp hp with rfl | hp
    · exact ⟨up5 _ _ (up4 _ _ hacc3), (by assumption), fresh₀ _ (by assumption)⟩
    · exact ⟨up _ _ (N p hp).1, (N p hp).2⟩
  have loop : ∀ s₃ : Shared, (∃ tk, s₃ = { s₁ with heap := g₅, toks := tk }) →
      codeAny (model prog w) A (.compLoop (.ListComp elt [⟨.Name x px, iter, [], 0⟩] scope pos) 0 (.ref I) (.ref D) (compEnvC scope [(x, K)] C env))
        (compPost (model prog w) A E none Q (.ref D) C) s₃ := by
    rintro s₃ ⟨tk₀, rfl⟩
    refine codeAny_compLoop_tests
      (fun k s' => ∃ (h' : Heap) (tk i : Nat) (ys : List Value) (oK : Obj) (vK : Option Value), s' = { s₁ with heap := h', toks := tk } ∧ i ≤ vs.length ∧ k = vs.length + 1 - i ∧ ys.length = i ∧ (∀ (j : Nat) (v y : Value), vs[j]? = some v → ys[j]? = some y → FF v y) ∧ h'.IsListIter I ax i ∧ Fr h₀ L h' m ∧
        oK.data = .cell vK ∧ News h₀ L h' ((C, oC) :: (K, oK) :: (D, LCg.lst ys) :: news)) ?_ (vs.length + 1)
      ⟨g₅, tk₀, 0, [], _, _, rfl, Nat.zero_le _, rfl, rfl, (fun j v y _ hy => by simp at hy), ⟨_, up5 _ _ (up4 _ _ (up3 _ _ hit2.choose_spec.1)), hit2.choose_spec.2⟩, F.keeps up, rfl, N5⟩
    rintro k s' ⟨h', tk, i, ys, oK, vK, rfl, hi, rfl, hyl, hF, hit, F', hoK, N'⟩
    have N'n : News h₀ L h' news := fun p hp => N' p (.tail _ (.tail _ (.tail _ hp)))
    by_cases hlt2 : i < vs.length
    · refine W.item i _ _ _ (by simpa using hlt2) ⟨hit, hlist N'n⟩ fun v h₂ tk₂ hPv hst₂ hk₂ => ?_
      have hvi : vs[i]? = some v := by simpa using hPv
      have keep2 : ∀ b o, b ≠ I → h'.get? b = some o → h₂.get? b = some o := fun b o hb e => hk₂ b o (by simpa using hb) e
      have F₂ : Fr h₀ L h₂ m := LCg.fr_but F' hk₂ (Nat.ne_of_lt hLI) (fresh₀ I (Nat.le_refl _))
      have eK2 : h₂.get? K = some oK := keep2 _ _ (by assumption) (N' (K, oK) (.tail _ (.head _))).1
      refine wpAny_assign_Name (wpAny_storeName_cell hkind (hkx K C) (by simp [compEnvC, List.lookup_cons]) ⟨oK, eK2, hoK⟩ fun h₃ hv₃ hs₃ => ?_)
      obtain ⟨oK', eK', dK'⟩ := hv₃
      refine wpAny_tests_nil ?_
      simp only [if_true]
      obtain ⟨oI, eI, cI, dI⟩ := hst₂.1
      have keep3 : ∀ b o, b ≠ K → h₂.get? b = some o → h₃.get? b = some o := fun b o hb e => hs₃.extBut b o hb e
      have F₃ : Fr h₀ L h₃ m := F₂.change hs₃ (by assumption) (fresh₀ K (by assumption))
      have N₃ : News h₀ L h₃ ((I, oI) :: (C, oC) :: (K, oK') :: (D, LCg.lst ys) :: news) := by
        intro p hp
        rcases List.mem_cons.mp hp with rfl | hp
        · exact ⟨keep3 _ _ (by assumption) eI, (by assumption), fresh₀ _ (Nat.le_refl _)⟩
        rcases List.mem_cons.mp hp with rfl | hp
        · exact ⟨keep3 _ _ (by assumption) (keep2 _ _ (by assumption) (N' (C, oC) (.head _)).1), (by assumption), fresh₀ _ (by assumption)⟩
        rcases List.mem_cons.mp hp with rfl | hp
        · exact ⟨eK', (by assumption), fresh₀ _ (by assumption)⟩
        rcases List.mem_cons.mp hp with rfl | hp
        · exact ⟨keep3 _ _ (by assumption) (keep2 _ _ (by assumption) (N' (D, LCg.lst ys) (.tail _ (.tail _ (.head _)))).1), (by assumption), fresh₀ _ (by assumption)⟩
        · have hpI := hnI p hp
          have pI : @Ne Addr p.1 I := Nat.ne_of_lt hpI
          have pD : @Ne Addr p.1 D := Nat.ne_of_lt (Nat.lt_trans hpI ID)
          have pC : @Ne Addr p.1 C := Nat.ne_of_lt (Nat.lt_trans hpI IC)
          have pK : @Ne Addr p.1 K := Nat.ne_of_lt (Nat.lt_trans hpI IK)
          exact ⟨keep3 _ _ (by assumption) (keep2 _ _ (by assumption) (N'n p hp).1), (N'n p hp).2⟩
      refine wpAny_mono (turn v I oI C oC K oK' D ys h₃ _ _ (List.mem_of_getElem? hvi) dK' F₃ N₃ dist) (fun y s₄ h₄ => ?_) fun _ _ e => e
      obtain ⟨h₄, tk₄, rfl, F₄, N₄, hFy⟩ := h₄
      have zI := (N₄ (I, oI) (.head _)).1
      have zC := (N₄ (C, oC) (.tail _ (.head _))).1
      have zK := (N₄ (K, oK') (.tail _ (.tail _ (.head _)))).1
      have zD := (N₄ (D, LCg.lst ys) (.tail _ (.tail _ (.tail _ (.head _))))).1
      refine append_at (hsz := by show ys.toArray.size ≤ sizeLine; rw [List.size_toArray, hyl]; exact Nat.le_trans hi hsz) zD fun h₅ hs₅ hD₅ => ?_
      refine ⟨vs.length + 1 - (i + 1), by omega, h₅, tk₄, i + 1, ys ++ [y], oK', _, rfl, hlt2, rfl, by rw [List.length_append, List.length_singleton, hyl], ?_, ⟨oI, hs₅.extBut _ _ (by assumption) zI, cI, dI⟩, F₄.change hs₅ (by assumption) (fresh₀ D (by assumption)), dK', ?_⟩
      · intro j v' y' hv' hy'
        by_cases hj : j < ys.length
        · rw [List.getElem?_append_left hj] at hy'
          exact hF j v' y' hv' hy'
        · have hj2 : j = i := by
            have := (List.getElem?_eq_some_iff.mp hy').1
            rw [List.length_append, List.length_singleton] at this
            omega
          subst hj2
          rw [List.getElem?_append_right (by omega), hyl, Nat.sub_self] at hy'
          rw [hvi] at hv'
          cases hv'
          simp at hy'
          subst hy'
          exact hFy
      · intro p hp
        rcases List.mem_cons.mp hp with rfl | hp
        · exact ⟨hs₅.extBut _ _ (by assumption) zC, (by assumption), fresh₀ _ (by assumption)⟩
        rcases List.mem_cons.mp hp with rfl | hp
        · exact ⟨hs₅.extBut _ _ (by assumption) zK, (by assumption), fresh₀ _ (by assumption)⟩
        rcases List.mem_cons.mp hp with rfl | hp
        · exact ⟨hD₅.trans (congrArg some (LCg.lst_snoc ys y)), (by assumption), fresh₀ _ (by assumption)⟩
        · have hpI := hnI p hp
          have pI : @Ne Addr p.1 I := Nat.ne_of_lt hpI
          have pD : @Ne Addr p.1 D := Nat.ne_of_lt (Nat.lt_trans hpI ID)
          have pC : @Ne Addr p.1 C := Nat.ne_of_lt (Nat.lt_trans hpI IC)
          have pK : @Ne Addr p.1 K := Nat.ne_of_lt (Nat.lt_trans hpI IK)
          have z := N₄ p (.tail _ (.tail _ (.tail _ (.tail _ hp))))
          exact ⟨hs₅.extBut _ _ (by assumption) z.1, z.2⟩
    · obtain rfl : i = vs.length := Nat.le_antisymm hi (Nat.not_lt.mp hlt2)
      refine W.done _ _ _ (by simpa using ⟨hit, hlist N'n⟩) fun h₂ tk₂ hk₂ => ?_
      have keep2 : ∀ b o, b ≠ I → h'.get? b = some o → h₂.get? b = some o := fun b o hb e => hk₂ b o (by simpa using hb) e
      have F₂ : Fr h₀ L h₂ m := LCg.fr_but F' hk₂ (Nat.ne_of_lt hLI) (fresh₀ I (Nat.le_refl _))
      refine ⟨fun _ => none, hoC.ns (keep2 _ _ (by assumption) (N' (C, oC) (.head _)).1), fun h₆ hs₆ => ?_⟩
      refine fin D h₆ tk₂ ys (F₂.change hs₆ (by assumption) (fresh₀ C (by assumption))) (fun p hp => ?_) hyl hF (fun p hp => Nat.lt_trans (hnI p hp) ID)
      rcases List.mem_cons.mp hp with rfl | hp
      · exact ⟨hs₆.extBut _ _ (by assumption) (keep2 _ _ (by assumption) (N' (D, LCg.lst ys) (.tail _ (.tail _ (.head _)))).1), (by assumption), fresh₀ _ (by assumption)⟩
      · have hpI := hnI p hp
        have pI : @Ne Addr p.1 I := Nat.ne_of_lt hpI
        have pD : @Ne Addr p.1 D := Nat.ne_of_lt (Nat.lt_trans hpI ID)
        have pC : @Ne Addr p.1 C := Nat.ne_of_lt (Nat.lt_trans hpI IC)
        have pK : @Ne Addr p.1 K := Nat.ne_of_lt (Nat.lt_trans hpI IK)
        exact ⟨hs₆.extBut _ _ (by assumption) (keep2 _ _ (by assumption) (N'n p hp).1), (N'n p hp).2⟩
  exact codeAny_compStart_list (loop _ ⟨_, rfl⟩) (W.self 0 _ _ _ ⟨⟨_, up5 _ _ (up4 _ _ (up3 _ _ hit2.choose_spec.1)), hit2.choose_spec.2⟩, hlist fun p hp => N5 p (.tail _ (.tail _ (.tail _ hp)))⟩ (loop _ ⟨_, rfl⟩))
end Mine
end
section
open PySem PySem.W PyProof.Rows
namespace Mine
local macro_rules | `(tactic| walk_at "call ref") => `(tactic| (k_here; (with_reducible show wpAny _ _ (PySem.call (Value.ref 90) _) _ _ _); k_dflt (refine' odd_c _ _ _ _ _ _ _ _ _ _ _ _ _ _ _ _ _ _ _ _ _ _ _ _ _ _ ?k1 ?k2 ?k3 ?k4 ?k5 ?kK ?kd ?ku ?_; (case k1 => k_asm); (case k2 => k_asm); (case k3 => k_asm); (case k4 => k_asm); (case k5 => k_asm); (case kK => first | exact rfl | assumption); (case kd => ktr_room); (case ku => ktr_units)); intro t' h' tk' F' N'; (try dsimp only); (try k_fold); (try k_sweep)))
local macro_rules | `(tactic| walk_at "call type:range") => `(tactic| (k_here; (with_reducible show wpAny _ _ (PySem.call (Value.type "range") [Value.int (2 * _) _]) _ _ _); refine Hold.out ?_))
local macro_rules | `(tactic| walk_at "call ref") => `(tactic| ((with_reducible show wpAny _ _ (PySem.call (Value.ref 83) _) _ _ _); refine Hold.out ?_))
local macro_rules | `(tactic| walk_at "call ref") => `(tactic| ((with_reducible show wpAny _ _ (PySem.call (Value.ref 97) _) _ _ _); refine Hold.out ?_))
local macro_rules | `(tactic| walk_at "call ref") => `(tactic| ((with_reducible show wpAny _ _ (PySem.call (Value.ref 23) _) _ _ _); refine Hold.out ?_))
local macro_rules | `(tactic| walk_at "call ref") => `(tactic| ((with_reducible show wpAny _ _ (PySem.call (Value.ref 104) _) _ _ _); refine Hold.out ?_))
local macro_rules | `(tactic| walk_at "pyIter ref") => `(tactic| (k_of "number" => (refine Hold.out ?_)))
local macro_rules | `(tactic| walk_at "exec For Name Call cons nil") => `(tactic| ((with_reducible show wpAny _ _ (PySem.exec (Stmt.For (PySem.Expr.Name (PySem.Str.ofString "count") _) _ _ _ _) _) _ _ _); refine Hold.out ?_))
local macro_rules | `(tactic| walk_at "pyIter ref") => `(tactic| ((with_reducible show wpAny _ _ (PySem.pyIter _) (fun it s₂ => LoopAtT _ _ _ _ _ _ _ _ _ it s₂) _ _); refine Hold.out ?_))
local macro_rules | `(tactic| walk_at "CompSrc") => `(tactic| ((with_reducible show LCg.CompSrc _ _ _ _ _ _ _ (PySem.Expr.IfExp _ _ _ _) _ _ _ _ _ _); refine Hold.out ?_))
local macro_rules | `(tactic| walk_at "CompEnd") => `(tactic| (refine' LCg.CompEnd.intro ?cF ?cN _ ?cs ?co ?cS (kct_el ?ce (Eq.refl _) (Eq.refl _)); (case cF => assumption); (case cN => assumption); (case cs => kcf_all); (case co => assumption); (case cS => first | lcg_src | assumption); (case ce => first | exact if_pos (by assumption) | exact if_neg (by assumption) | refine Hold.out ?_)))
local macro_rules | `(tactic| walk_at "CompSrc") => `(tactic| ((with_reducible show LCg.CompSrc _ _ _ _ _ _ _ (PySem.Expr.Subscript _ _ _) _ _ _ _ _ _); refine Hold.out ?_))
set_option maxRecDepth 100000 in
set_option maxHeartbeats 8000000 in
theorem main : PySem.Challenge.rw_sr0018_01.Holds := by
  k_with_none
  refine Mine.hd ?_
  k_go0
  all_goals try k_fold
  k_steps
  refine Hold.mk ?_
  k_dflt (refine' drawn_c _ _ _ _ _ _ _ _ _ _ _ _ _ _ _ _ _ _ _ _ _ _ _ _ _ _ _ ?k1 ?k2 ?k3 ?k4 ?k5 ?kK ?kl ?ki ?kn ?kd ?ku ?_)
  case k1 => k_asm
  case k2 => k_asm
  case k3 => k_asm
  case k4 => k_asm
  case k5 => k_asm
  case kK => first | exact rfl | assumption
  case kl => assumption
  case ki => assumption
  case kn => omega
  case kd => ktr_room
  case ku => ktr_units
  intro dl ds dc ns' h' tk' hlen hI' hlt F' N'
  (try dsimp only)
  (try k_fold)
  k_lt hlt
  (try k_sweep)
  (rename Obj.data _ = Data.cell _ => qr)
  replace qr := (show _ = Data.cell none from qr)
  (rename Obj.data _ = Data.cell (bindC _ _ _ _) => ql)
  replace ql := (show _ = Data.cell none from ql)
  obtain ⟨m0, hm0, F0⟩ := frNamed F'
  clear hm0 F'
  (rename CellsAre _ _ _ => X9)
  clear X9
  (rename Fr _ _ _ (bindL _ _ _) => X8)
  (rename News _ _ _ [_, _] => X7)
  clear X8 X7
  (try (rename Dflts _ _ _ _ _ _ => X6; clear X6))
  (try (rename Heap.CodeRec _ _ _ => X5; clear X5))
  have hsh : 1 ≤ 1 + (ns'.getD (Int.toNat 8) 0).fmod 4 ∧ 1 + (ns'.getD (Int.toNat 8) 0).fmod 4 ≤ 4 := by have := fmod_lo (ns'.getD (Int.toNat 8) 0) (n := 4) (by decide); have := fmod_hi (ns'.getD (Int.toNat 8) 0) (n := 4) (by decide); omega
  have hva : 1 ≤ 1 + (ns'.getD (Int.toNat 9) 0).fmod 4 ∧ 1 + (ns'.getD (Int.toNat 9) 0).fmod 4 ≤ 4 := by have := fmod_lo (ns'.getD (Int.toNat 9) 0) (n := 4) (by decide); have := fmod_hi (ns'.getD (Int.toNat 9) 0) (n := 4) (by decide); omega
  k_steps
  refine Hold.mk ?_
  rw [show (2 : Int) * 1 = 2 from rfl]
  k_steps
  refine Hold.mk ?_
  (k_with "state" => exact ⟨0, rfl, rfl⟩)
  k_state_short (fun pre lines => ∃ k : Nat, pre.length = k ∧ lines = (List.range k).map fun n => wordFn n (oddI (ns'.getD (Int.toNat (2 * 3)) 0)) (oddI (ns'.getD (Int.toNat (2 * 3 + 1)) 0)) [Str.ofString ""]) "longer$"
  · obtain ⟨k, hk1, hlines⟩ := kInv
    have hkN : kN = (k : Int) := by omega
    subst hkN
    have hll := congrArg List.length hlines
    rw [List.length_map, List.length_range] at hll
    have hk4 : k < 2 := by omega
    (k_with "state" => (have hst := lines_step hlines; exact ⟨k + 1, by simp [hk1], hst⟩))
    k_steps
    refine Hold.mk ?_
    k_dflt (refine' word_c _ _ _ _ _ _ _ k _ _ _ _ _ _ _ _ _ _ _ [Str.ofString ""] _ ?wa3 ?wb3 (.cons _ _ .nil) 0 ?wc3 ?wd3 ?we3 ?wf3 (oddI_bound _) (oddI_bound _) hsh hva _ _ _ _ _ _ _ _ _ _ _ _ _ _ _ _ _ ?xa3 ?xb3 ?xc3 ?xd3 ?xe3 ?xf3 ?xg3 ?xh3 ?_)
    case xa3 => k_asm
    case xb3 => k_asm
    case xc3 => k_asm
    case xd3 => k_asm
    case xe3 => k_asm
    case xf3 => first | exact rfl | assumption
    case wa3 => omega
    case wb3 => k_mem
    case wc3 => decide
    case wd3 => decide
    case we3 => rfl
    case wf3 => omega
    case xg3 => ktr_room
    case xh3 => ktr_units
    intro t9 h9 tk9 F9 N9
    (try dsimp only)
    (try k_fold)
    k_steps
  obtain ⟨k, hk1, hlines⟩ := kInv
  have hk2 : k = 2 := by rw [← hk1]; rfl
  subst hk2
  obtain ⟨ws3, hw3⟩ : ∃ ws, ws = lvl (oddI (ns'.getD (Int.toNat (2 * 3)) 0)) (oddI (ns'.getD (Int.toNat (2 * 3 + 1)) 0)) [Str.ofString ""] := ⟨_, rfl⟩
  have hlen3 : ws3.length = 2 := by rw [hw3, lvl_len]; rfl
  have hb3 : ∀ x ∈ ws3, x.length ≤ 1 := by rw [hw3]; exact lvl_bound (m := 0) (by decide)
  replace hlines := (hlines.trans (show List.map _ _ = ws3 by rw [hw3]; unfold lvl; rfl)).symm
  subst hlines
  clear hk1
  k_steps
  refine Hold.mk ?_
  rw [hlen3, show (2 : Int) * ((2 : Nat) : Int) = 4 from rfl]
  k_steps
  refine Hold.mk ?_
  (k_with "state" => exact ⟨0, rfl, rfl⟩)
  k_state_short (fun pre lines => ∃ k : Nat, pre.length = k ∧ lines = (List.range k).map fun n => wordFn n (oddI (ns'.getD (Int.toNat (2 * 2)) 0)) (oddI (ns'.getD (Int.toNat (2 * 2 + 1)) 0)) ws3) "longer$"
  · obtain ⟨k, hk1, hlines⟩ := kInv
    have hkN : kN = (k : Int) := by omega
    subst hkN
    have hll := congrArg List.length hlines
    rw [List.length_map, List.length_range] at hll
    have hk4 : k < 4 := by omega
    (k_with "state" => (have hst := lines_step hlines; exact ⟨k + 1, by simp [hk1], hst⟩))
    k_steps
    refine Hold.mk ?_
    k_dflt (refine' word_c _ _ _ _ _ _ _ k _ _ _ _ _ _ _ _ _ _ _ ws3 _ ?wa2 ?wb2 ?wh2 1 ?wc2 ?wd2 ?we2 ?wf2 (oddI_bound _) (oddI_bound _) hsh hva _ _ _ _ _ _ _ _ _ _ _ _ _ _ _ _ _ ?xa2 ?xb2 ?xc2 ?xd2 ?xe2 ?xf2 ?xg2 ?xh2 ?_)
    case xa2 => k_asm
    case xb2 => k_asm
    case xc2 => k_asm
    case xd2 => k_asm
    case xe2 => k_asm
    case xf2 => first | exact rfl | assumption
    case wa2 => omega
    case wb2 => k_mem
    case wh2 => assumption
    case wc2 => decide
    case wd2 => exact fun x hx => Nat.le_trans (hb3 x hx) (by decide)
    case we2 => exact hlen3
    case wf2 => omega
    case xg2 => ktr_room
    case xh2 => ktr_units
    intro t9 h9 tk9 F9 N9
    (try dsimp only)
    (try k_fold)
    k_steps
  obtain ⟨k, hk1, hlines⟩ := kInv
  have hk2 : k = 4 := by rw [← hk1]; rfl
  subst hk2
  obtain ⟨ws2, hw2⟩ : ∃ ws, ws = lvl (oddI (ns'.getD (Int.toNat (2 * 2)) 0)) (oddI (ns'.getD (Int.toNat (2 * 2 + 1)) 0)) ws3 := ⟨_, rfl⟩
  have hlen2 : ws2.length = 4 := by rw [hw2, lvl_len, hlen3]
  have hb2 : ∀ x ∈ ws2, x.length ≤ 2 := by rw [hw2]; exact lvl_bound (m := 1) hb3
  replace hlines := (hlines.trans (show List.map _ _ = ws2 by rw [hw2]; unfold lvl; rw [hlen3])).symm
  subst hlines
  clear hk1
  k_steps
  refine Hold.mk ?_
  rw [hlen2, show (2 : Int) * ((4 : Nat) : Int) = 8 from rfl]
  k_steps
  refine Hold.mk ?_
  (k_with "state" => exact ⟨0, rfl, rfl⟩)
  k_state_short (fun pre lines => ∃ k : Nat, pre.length = k ∧ lines = (List.range k).map fun n => wordFn n (oddI (ns'.getD (Int.toNat (2 * 1)) 0)) (oddI (ns'.getD (Int.toNat (2 * 1 + 1)) 0)) ws2) "longer$"
  · obtain ⟨k, hk1, hlines⟩ := kInv
    have hkN : kN = (k : Int) := by omega
    subst hkN
    have hll := congrArg List.length hlines
    rw [List.length_map, List.length_range] at hll
    have hk4 : k < 8 := by omega
    (k_with "state" => (have hst := lines_step hlines; exact ⟨k + 1, by simp [hk1], hst⟩))
    k_steps
    refine Hold.mk ?_
    k_dflt (refine' word_c _ _ _ _ _ _ _ k _ _ _ _ _ _ _ _ _ _ _ ws2 _ ?wa1 ?wb1 ?wh1 2 ?wc1 ?wd1 ?we1 ?wf1 (oddI_bound _) (oddI_bound _) hsh hva _ _ _ _ _ _ _ _ _ _ _ _ _ _ _ _ _ ?xa1 ?xb1 ?xc1 ?xd1 ?xe1 ?xf1 ?xg1 ?xh1 ?_)
    case xa1 => k_asm
    case xb1 => k_asm
    case xc1 => k_asm
    case xd1 => k_asm
    case xe1 => k_asm
    case xf1 => first | exact rfl | assumption
    case wa1 => omega
    case wb1 => k_mem
    case wh1 => assumption
    case wc1 => decide
    case wd1 => exact fun x hx => Nat.le_trans (hb2 x hx) (by decide)
    case we1 => exact hlen2
    case wf1 => omega
    case xg1 => ktr_room
    case xh1 => ktr_units
    intro t9 h9 tk9 F9 N9
    (try dsimp only)
    (try k_fold)
    k_steps
  obtain ⟨k, hk1, hlines⟩ := kInv
  have hk2 : k = 8 := by rw [← hk1]; rfl
  subst hk2
  obtain ⟨ws1, hw1⟩ : ∃ ws, ws = lvl (oddI (ns'.getD (Int.toNat (2 * 1)) 0)) (oddI (ns'.getD (Int.toNat (2 * 1 + 1)) 0)) ws2 := ⟨_, rfl⟩
  have hlen1 : ws1.length = 8 := by rw [hw1, lvl_len, hlen2]
  have hb1 : ∀ x ∈ ws1, x.length ≤ 3 := by rw [hw1]; exact lvl_bound (m := 2) hb2
  replace hlines := (hlines.trans (show List.map _ _ = ws1 by rw [hw1]; unfold lvl; rw [hlen2])).symm
  subst hlines
  clear hk1
  k_steps
  refine Hold.mk ?_
  rw [hlen1, show (2 : Int) * ((8 : Nat) : Int) = 16 from rfl]
  k_steps
  refine Hold.mk ?_
  (k_with "state" => exact ⟨0, rfl, rfl⟩)
  k_state_short (fun pre lines => ∃ k : Nat, pre.length = k ∧ lines = (List.range k).map fun n => wordFn n (oddI (ns'.getD (Int.toNat (2 * 0)) 0)) (oddI (ns'.getD (Int.toNat (2 * 0 + 1)) 0)) ws1) "longer$"
  · obtain ⟨k, hk1, hlines⟩ := kInv
    have hkN : kN = (k : Int) := by omega
    subst hkN
    have hll := congrArg List.length hlines
    rw [List.length_map, List.length_range] at hll
    have hk4 : k < 16 := by omega
    (k_with "state" => (have hst := lines_step hlines; exact ⟨k + 1, by simp [hk1], hst⟩))
    k_steps
    refine Hold.mk ?_
    k_dflt (refine' word_c _ _ _ _ _ _ _ k _ _ _ _ _ _ _ _ _ _ _ ws1 _ ?wa0 ?wb0 ?wh0 3 ?wc0 ?wd0 ?we0 ?wf0 (oddI_bound _) (oddI_bound _) hsh hva _ _ _ _ _ _ _ _ _ _ _ _ _ _ _ _ _ ?xa0 ?xb0 ?xc0 ?xd0 ?xe0 ?xf0 ?xg0 ?xh0 ?_)
    case xa0 => k_asm
    case xb0 => k_asm
    case xc0 => k_asm
    case xd0 => k_asm
    case xe0 => k_asm
    case xf0 => first | exact rfl | assumption
    case wa0 => omega
    case wb0 => k_mem
    case wh0 => assumption
    case wc0 => decide
    case wd0 => exact fun x hx => Nat.le_trans (hb1 x hx) (by decide)
    case we0 => exact hlen1
    case wf0 => omega
    case xg0 => ktr_room
    case xh0 => ktr_units
    intro t9 h9 tk9 F9 N9
    (try dsimp only)
    (try k_fold)
    k_steps
  obtain ⟨k, hk1, hlines⟩ := kInv
  have hk2 : k = 16 := by rw [← hk1]; rfl
  subst hk2
  obtain ⟨ws0, hw0⟩ : ∃ ws, ws = lvl (oddI (ns'.getD (Int.toNat (2 * 0)) 0)) (oddI (ns'.getD (Int.toNat (2 * 0 + 1)) 0)) ws1 := ⟨_, rfl⟩
  have hlen0 : ws0.length = 16 := by rw [hw0, lvl_len, hlen1]
  have hb0 : ∀ x ∈ ws0, x.length ≤ 4 := by rw [hw0]; exact lvl_bound (m := 3) hb1
  replace hlines := (hlines.trans (show List.map _ _ = ws0 by rw [hw0]; unfold lvl; rw [hlen1])).symm
  subst hlines
  clear hk1
  k_steps
  refine Hold.mk ?_
  (k_with "state" => exact ⟨0, rfl, rfl⟩)
  k_dat (fun pre (out : List Dat) => ∃ k : Nat, pre.length = k ∧ out = (rowFn ws0 k).map pdat) "row*"
  · (rename kPre.length = _ => hkp)
    subst hkp
    have hkN : kN = (kPre.length : Int) := by omega
    subst hkN
    have hk4 : kPre.length < 16 := by omega
    (k_with "state" => exact ⟨kPre.length + 1, by simp, rfl⟩)
    k_steps
    refine Hold.mk ?_
    k_dflt (refine' insort_d _ _ _ _ _ _ _ _ _ _ _ _ _ _ ws0 kPre.length _ _ ?ya ?yb ?yc ?yd ?ye ?yf _ _ _ _ _ _ _ _ _ _ _ _ _ _ _ _ _ ?ja ?jb ?jc ?jd ?je ?jf ?jg ?jh ?_)
    case ja => k_asm
    case jb => k_asm
    case jc => k_asm
    case jd => k_asm
    case je => k_asm
    case jf => first | exact rfl | assumption
    case ya => k_mem
    case yb => assumption
    case yc => first | kd_inAll | (intro p hp; kst_mem)
    case yd => k_mem
    case ye => omega
    case yf => k_upd
    case jg => ktr_room
    case jh => ktr_units
    intro h9 tk9 F9 N9 hDA
    (try dsimp only)
    (try k_fold)
    k_steps
  (rename List.length (rangeKs _ _) = _ => hkp)
  replace hkp := (show (16 : Nat) = _ from hkp)
  subst hkp
  (rename DatAll _ _ _ => hrow)
  k_steps
  refine Hold.mk ?_
  (rename Fr _ _ _ _ => F5)
  k_dflt (refine' For_invTF F5 ?_ ?dh ?dE)
  case dh => intro _; rfl
  case dE => first | passes_own | k_steps
  k_steps
  refine Hold.mk ?_
  (rename Fr _ _ _ _ => F6)
  (rename News _ _ _ _ => N6)
  obtain ⟨due, cc, oc0, rs, hdue, hcc, hoc, hrs, N7⟩ := led11 N6
  obtain ⟨m5, hm5, F7⟩ := frNamed F6
  (rename _ ∧ _ ∧ _ ∧ _ ∧ _ ∧ _ ∧ _ ∧ _ ∧ _ ∧ _ ∧ AllLt _ _ => hl11)
  (rename OwnOff _ _ => hO11)
  have g1 : ∀ p ∈ rs, p.1 ≠ due := by
    rw [hrs, hdue]
    refine List.forall_mem_cons.mpr ⟨by k_ne, ?_⟩
    refine List.forall_mem_cons.mpr ⟨by k_ne, ?_⟩
    refine List.forall_mem_cons.mpr ⟨by k_ne, ?_⟩
    refine List.forall_mem_cons.mpr ⟨by k_ne, ?_⟩
    refine List.forall_mem_cons.mpr ⟨by k_ne, ?_⟩
    refine List.forall_mem_cons.mpr ⟨by k_ne, ?_⟩
    refine List.forall_mem_cons.mpr ⟨by k_ne, ?_⟩
    refine List.forall_mem_cons.mpr ⟨by k_ne, ?_⟩
    refine List.forall_mem_cons.mpr ⟨by k_ne, ?_⟩
    exact fun p hp => Nat.ne_of_lt (tb_ltOf hl11.2.2.2.2.2.2.2.2.2.2 p hp)
  have g2 : ∀ p ∈ rs, p.1 ≠ cc := by
    rw [hrs, hcc]
    refine List.forall_mem_cons.mpr ⟨by k_ne, ?_⟩
    refine List.forall_mem_cons.mpr ⟨by k_ne, ?_⟩
    refine List.forall_mem_cons.mpr ⟨by k_ne, ?_⟩
    refine List.forall_mem_cons.mpr ⟨by k_ne, ?_⟩
    refine List.forall_mem_cons.mpr ⟨by k_ne, ?_⟩
    refine List.forall_mem_cons.mpr ⟨by k_ne, ?_⟩
    refine List.forall_mem_cons.mpr ⟨by k_ne, ?_⟩
    refine List.forall_mem_cons.mpr ⟨by k_ne, ?_⟩
    refine List.forall_mem_cons.mpr ⟨by k_ne, ?_⟩
    exact fun p hp => hO11 p hp _ (by simp)
  have g3 : cc ≠ due := by rw [hcc, hdue]; refine neN ?_; omega
  repeat (rename (@LT.lt Nat _ _ _ ∧ _) => hl77; clear hl77)
  have g4 : (dl, listOf ds.toArray dc) ∈ rs := by rw [hrs]; k_mem
  obtain ⟨v5, g5⟩ : ∃ v, oc0.data = .cell v := by rw [hoc]; exact ⟨_, by assumption⟩
  have hRow := rows_due' hw3 hw2 hw1 hw0
  rw [hRow] at hrow
  clear hRow
  have hrow2 := datAll_sub (news' := rs) (by
    intro p hp
    rw [hrs]
    simp only [List.mem_cons] at hp ⊢
    rcases hp with h | h | h | h | h | h | h | h | h | h
    all_goals first | (right; simp [h]; done) | (left; refine ⟨v5, ?_⟩; rw [h]; dsimp only; rw [← hoc]; exact g5)) hrow
  clear hrow
  refine' cell_range 16 ?eq (DueJ due cc dl (listOf ds.toArray dc) rs m5 (dueF ns')) ?ea ?eb ?ec ?ed ?ee F7 N7 (dueJ_start g5 g1 g2 g3 g4) ?_ ?_
  case eq => rfl
  case ea => intro _ _; rfl
  case eb => rfl
  case ec => assumption
  case ed => decide
  case ee => rfl
  · intro i t m₁ nx s₁ I oI hi hJ hne F6 N6
    obtain ⟨us, c, oc, v, tl, u, hm, hnx, hcd, hDat, ht1, ht2, ht3, ht4⟩ := hJ
    subst hm hnx
    obtain ⟨R, hR⟩ : ∃ R, R = tl ++ rs := ⟨_, rfl⟩
    have hI1 : due ≠ I := hne _ (.head _)
    have hI2 : cc ≠ I := hne _ (.tail _ (.head _))
    have hI3 : ∀ p ∈ R, p.1 ≠ I := fun p hp => hne p (.tail _ (.tail _ (hR ▸ hp)))
    rw [← hR] at N6 ht1 ht2
    have hdl : (dl, listOf ds.toArray dc) ∈ R := by rw [hR]; exact List.mem_append_right _ ht4
    have hDR : DatAll R us (((List.range i).map (dueF ns')).map pdat) := hDat.mono fun p hp => by rw [hR]; exact List.mem_append_left _ hp
    have hO : OwnOff R [due, cc, I] := by
      intro p hp b hb
      simp only [List.mem_cons, List.not_mem_nil, or_false] at hb
      rcases hb with rfl | rfl | rfl
      · exact ht1 p hp
      · exact ht2 p hp
      · exact hI3 p hp
    have q1 := neN hI1
    have q2 := neN hI2
    have q3 := neN g3
    have hcc' := hcc
    subst hcc'
    subst hm5
    have hdue' := hdue
    subst hdue'
    clear hne ht1 ht2 hI1 hI2 hI3 g1 g2 g3 g4 N7 F7
    refine wpAny_assign_Name ?_
    k_steps
    refine Hold.mk ?_
    k_dflt (refine LCg.CompSrc.range (by rfl) (by k_asm) (by k_asm) (by assumption) (by first | decide | exact small_one (by l_bnd) (by l_bnd) (by l_bnd) (by l_bnd)) (by first | exact rangeSize_nat _ _ | rfl) (by first | exact Nat.le_of_ble_eq_true rfl | (rw [PySem.sizeLine_eq]; first | omega | ((have hb9 := len_ints_list (by lay_of)); omega)) | size_fits) ?_)
    intro g'; (refine' kct_range (fun k => if (((i : Int).fdiv (2 ^ (3 - k).toNat)).fmod 2 = 1) then Str.ofString "1" else Str.ofString "0") (fun k' t' I' oI' C' oC' D' m' ys' h' tk' E' hlo' hhi' hC' hx' F' N' off' ne' => ?_) ?_)
    all_goals (try ((show KPfMark → _); intro hMark'))
    · clear ne'
      replace hhi' := (show k' < 4 from hhi')
      k_steps
    (k_with "call builtin:str.join" => (refine Hold.out ?_))
    k_steps
    refine Hold.mk ?_
    k_here
    k_dflt (refine KT.join_1 (News.isList (by k_asm) (by k_mem)) (by assumption) (by intro k hk; split <;> rfl) (by decide) ?_)
    intro t7 k7 _
    rw [join_bits hi]
    k_steps
    refine Hold.mk ?_
    k_dflt (refine' place_c _ _ _ _ _ _ _ dl _ _ ns' (bits i) _ ?pa ?pk ?pl ?pb _ _ _ _ _ _ _ _ _ _ _ _ _ _ _ _ _ ?pc ?pd ?pe ?pf ?pg ?ph ?pi ?pj ?_)
    case pc => k_asm
    case pd => k_asm
    case pe => k_asm
    case pf => k_asm
    case pg => k_asm
    case ph => first | exact rfl | assumption
    case pa => first | k_mem | exact .tail _ (.tail _ (.tail _ (.tail _ hdl)))
    case pk => assumption
    case pl => assumption
    case pb => rfl
    case pi => ktr_room
    case pj => ktr_units
    intro t9 h9 tk9 F9 N9
    (try dsimp only)
    (try k_fold)
    (rename News _ _ _ _ => N8)
    have b1 : @LT.lt Nat _ due h9.objs.size := Heap.lt_size (N8 (due, _) (by k_mem)).1
    have b2 : @LT.lt Nat _ I h9.objs.size := Heap.lt_size (N8 (I, _) (by k_mem)).1
    have b3 : @LT.lt Nat _ _ h9.objs.size := Heap.lt_size (N8 (_, _) (.tail _ (.tail _ (.tail _ (.head _))))).1
    have hul : us.length = i := by have := hDR.length; rw [List.length_map, List.length_map, List.length_range] at this; exact this
    k_steps
    (rename Fr _ _ _ _ => F9)
    (rename News _ _ _ _ => N9)
    exact due_end F9 N9 hR (.tuple (.head _) (.cons (.str _ _) (.cons (.int _ _) .nil))) hDat (by assumption) (neN (Nat.ne_of_gt b1)) (neN (Nat.ne_of_gt b3)) (neN (Nat.ne_of_gt b2)) hO q1 q2 q3 ht4
  intro m₁ nx h tk hJ F6 N6
  obtain ⟨us, c, oc, v, tl, u, hm, hnx, hcd, hDat, ht1, ht2, ht3, ht4⟩ := hJ
  subst hm hnx
  have hcc' := hcc
  subst hcc'
  subst hm5
  have hdue' := hdue
  subst hdue'
  clear F7 N7
  (rename News _ _ _ (_ :: _ :: (_ ++ _)) => N12)
  (k_with "compareOp NotEq ref" => (refine Hold.out ?_))
  k_steps
  refine Hold.mk ?_
  k_here
  k_dflt (refine' kqd_ne (n₁ := rs) (n₂ := tl) N12 ?ma ?ca ?da hrow2 ?sa ?mb ?cb ?db hDat ?sb (due_ok ns') (due_ok ns') ?hu ?_)
  (case ma => exact .tail _ (.tail _ (List.mem_append_right _ (by rw [hrs]; k_mem))))
  (case sa => exact fun p hp => .tail _ (.tail _ (List.mem_append_right _ hp)))
  (case mb => exact .head _)
  (case sb => exact fun p hp => .tail _ (.tail _ (List.mem_append_left _ hp)))
  (case hu => k_units)
  (case ca => rfl)
  (case da => rfl)
  (case cb => rfl)
  (case db => rfl)
  rw [ne_self]
  k_steps
  have hws0 := ws0_eq hw3 hw2 hw1 hw0
  have hx4 : ∀ x ∈ ws0, x.length = 4 := by rw [hws0]; exact wsAll_len ns'
  clear hws0
  k_here
  k_dflt (refine comp_cell (by k_asm) (fun v y => ∃ x t u, v = Value.str x t ∧ y = Value.int (leadW x) u) (by rfl) (by rfl) (by decide) (fun _ => rfl) (fun _ => rfl) (fun _ _ => rfl) ?_)
  k_steps
  (rename Fr _ _ _ _ => F12)
  (rename StrsAre _ ws0 => hS0)
  refine ⟨_, _, _, _, rfl, rfl, F12, led_min hrs N12, .head _, ?n2, ?n3, ?n4⟩
  (case n2 => first | size_fits | (rw [sizeLine_eq, (StrsAre.length hS0), hlen0]; decide))
  (case n3 =>
    clear N12 hrs hrow2 hDat
    intro v I oI C oC K oK D ys h tk E' hv hK F N dist
    obtain ⟨x, t, rfl, hxm⟩ := strs_mem hS0 v hv
    have hxl := hx4 x hxm
    obtain ⟨ds1, ds2, ds3, ds4⟩ := dist
    k_steps
    (rename CarriedAll _ (List.map _ (List.filter _ _)) => hca)
    have hia := CarriedAll.intsOf hca
    (with_unfolding_all refine' sumK ?sk0 ?sk1 ?sk2 ?sk3 hia ?_)
    (case sk0 => with_unfolding_all rfl)
    (case sk1 => k_asm)
    (case sk2 => k_asm)
    (case sk3 => is_list)
    intro h' tk' t' F' N'
    exact ⟨h', tk', rfl, F', N', x, t, t', rfl, rfl⟩)
  (case n4 =>
    clear N12 hrs hrow2 hDat
    intro D h tk ys F N hyl hFF hlt
    have hia := ints_of hS0 hyl hFF
    rw [ws0_eq hw3 hw2 hw1 hw0, lead_eq] at hia
    have hok0 := lead_ok ns'
    obtain ⟨l0, hl0⟩ : ∃ l, l = leadL ns' := ⟨_, rfl⟩
    rw [← hl0] at hia hok0
    have hln0 := IntsAre.length hia
    obtain ⟨hok0n, hok0k⟩ := hok0
    have hlt2 := hlt _ (.tail _ (.head _))
    dsimp only at hlt2
    have N13 := led_drop N
    clear N hlt
    k_steps
    refine Hold.mk ?_
    k_here
    k_dflt (refine LCg.CompSrc.ledger (by rfl) (by k_asm) (by k_asm) (by k_mem) (by kcf_size) ?_)
    intro g'
    refine' kcf_list (fun p => l0.getD p.toNat 0) hia (fun k' t' I' oI' C' oC' D' m' ys' h' tk' E' hk' hC' hx' F' N' off' ne' hMark' => ?_) ?_
    · clear ne'
      have hkb := hok0k k' hk'
      obtain ⟨hkb1, hkb2⟩ := hkb
      k_steps
    all_goals (try k_fold)
    k_steps
    (rename _ ≠ _ ∧ _ ≠ _ ∧ _ ≠ _ => o1x)
    have e1x := o1x.2.2
    clear o1x
    (rename News _ _ _ [_, _, _, _] => N4x)
    have N3x1 := led_drop3 N4x
    clear N4x
    (rename List.length _ = List.length (List.map _ l0) => hL9x; clear hL9x)
    (rename IntsAre _ (List.map _ l0) => hib1)
    have hic1 := (show IntsAre _ (dbl l0) from hib1)
    clear hib1
    have hok1 := dbl_ok (l := l0) ⟨hok0n, hok0k⟩
    obtain ⟨l1, hl1⟩ : ∃ l, l = dbl l0 := ⟨_, rfl⟩
    rw [← hl1] at hic1 hok1
    have hln1 := IntsAre.length hic1
    obtain ⟨hok1n, hok1k⟩ := hok1
    clear hok0k hln0
    refine Hold.mk ?_
    k_here
    k_dflt (refine LCg.CompSrc.ledger (by rfl) (by k_asm) (by k_asm) (by k_mem) (by kcf_size) ?_)
    intro g'
    refine' kcf_list (fun p => l1.getD p.toNat 0) hic1 (fun k' t' I' oI' C' oC' D' m' ys' h' tk' E' hk' hC' hx' F' N' off' ne' hMark' => ?_) ?_
    · clear ne'
      have hkb := hok1k k' hk'
      obtain ⟨hkb1, hkb2⟩ := hkb
      k_steps
    all_goals (try k_fold)
    k_steps
    (rename _ ≠ _ ∧ _ ≠ _ ∧ _ ≠ _ => o1x)
    have e2x := o1x.2.2
    clear o1x e1x
    (rename News _ _ _ [_, _, _, _] => N4x)
    have N3x2 := led_drop3 N4x
    clear N4x
    (rename List.length _ = List.length (List.map _ l1) => hL9x; clear hL9x)
    (rename IntsAre _ (List.map _ l1) => hib2)
    have hic2 := (show IntsAre _ (dbl l1) from hib2)
    clear hib2
    have hok2 := dbl_ok (l := l1) ⟨hok1n, hok1k⟩
    obtain ⟨l2, hl2⟩ : ∃ l, l = dbl l1 := ⟨_, rfl⟩
    rw [← hl2] at hic2 hok2
    have hln2 := IntsAre.length hic2
    obtain ⟨hok2n, hok2k⟩ := hok2
    clear hok1k hln1
    refine Hold.mk ?_
    k_here
    k_dflt (refine LCg.CompSrc.ledger (by rfl) (by k_asm) (by k_asm) (by k_mem) (by kcf_size) ?_)
    intro g'
    refine' kcf_list (fun p => l2.getD p.toNat 0) hic2 (fun k' t' I' oI' C' oC' D' m' ys' h' tk' E' hk' hC' hx' F' N' off' ne' hMark' => ?_) ?_
    · clear ne'
      have hkb := hok2k k' hk'
      obtain ⟨hkb1, hkb2⟩ := hkb
      k_steps
    all_goals (try k_fold)
    k_steps
    (rename _ ≠ _ ∧ _ ≠ _ ∧ _ ≠ _ => o1x)
    have e3x := o1x.2.2
    clear o1x e2x
    (rename News _ _ _ [_, _, _, _] => N4x)
    have N3x3 := led_drop3 N4x
    clear N4x
    (rename List.length _ = List.length (List.map _ l2) => hL9x; clear hL9x)
    (rename IntsAre _ (List.map _ l2) => hib3)
    have hic3 := (show IntsAre _ (dbl l2) from hib3)
    clear hib3
    have hok3 := dbl_ok (l := l2) ⟨hok2n, hok2k⟩
    obtain ⟨l3, hl3⟩ : ∃ l, l = dbl l2 := ⟨_, rfl⟩
    rw [← hl3] at hic3 hok3
    have hln3 := IntsAre.length hic3
    obtain ⟨hok3n, hok3k⟩ := hok3
    clear hok2k hln2
    refine Hold.mk ?_
    k_here
    k_dflt (refine LCg.CompSrc.ledger (by rfl) (by k_asm) (by k_asm) (by k_mem) (by kcf_size) ?_)
    intro g'
    refine' kcf_list (fun p => l3.getD p.toNat 0) hic3 (fun k' t' I' oI' C' oC' D' m' ys' h' tk' E' hk' hC' hx' F' N' off' ne' hMark' => ?_) ?_
    · clear ne'
      have hkb := hok3k k' hk'
      obtain ⟨hkb1, hkb2⟩ := hkb
      k_steps
    all_goals (try k_fold)
    (k_with "call type:list" => (refine Hold.out ?_))
    (k_with "compareOp Eq ref" => (refine Hold.out ?_))
    k_steps
    (rename IntsAre _ (List.map _ l3) => hib4)
    have hic4 := (show IntsAre _ (dbl l3) from hib4)
    rw [hl3, hl2, hl1, hl0, lead_end ns'] at hic4
    clear hib4 hok3k hln3 hic3 hic2 hic1
    refine Hold.mk ?_
    (rename List.length _ = List.length (List.map _ l3) => hL9; clear hL9)
    (rename _ ≠ _ ∧ _ ≠ _ ∧ _ ≠ _ => o1x; clear o1x)
    k_here
    (rename IsRange _ _ _ _ _ _ _ _ => rgX)
    (with_unfolding_all refine' kll_range (n := 16) ?r0 ?r1 ?r2 rgX ?r4 ?r5 ?r6 ?_)
    (case r0 => rfl)
    (case r1 => k_asm)
    (case r2 => k_asm)
    (case r4 => decide)
    (case r5 => first | exact rangeSize_nat _ _ | rfl)
    (case r6 => decide)
    intro D2 us2 c2 h2 tk2 F14 N14 hlt14 hI14
    rw [range_ks] at hI14
    (try dsimp only)
    k_steps)
end Mine
end
theorem PySem.Challenge.cw_sr0018_01_holds : PySem.Challenge.rw_sr0018_01.Holds := by
  exact Mine.main
