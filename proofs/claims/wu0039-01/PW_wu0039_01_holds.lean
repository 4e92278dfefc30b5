import PyProof.Rows.All
import Wide.All
import OpenK.AllK
import Wide.FinOn
import Flt.RightMore
import Flt.Calls
import Lean
import PySem.Challenge.RW_wu0039_01
set_option Elab.async false
section
open PySem PySem.W PyProof.Rows
set_option Elab.async false
namespace Mine
set_option maxRecDepth 100000 in
set_option maxHeartbeats 8000000 in
open_top hd for PySem.Challenge.rw_wu0039_01
end Mine
end

local macro_rules | `(tactic| walk_at $s:str) => `(tactic| k_extra $s)
local macro_rules | `(tactic| k_ne) => `(tactic| k_extra "mine ne")

section
open PySem PySem.W PyProof.Rows
set_option Elab.async false
namespace Mine
/-- a contract of the def at f: from any frame below, with the ledger news, the call f(vs) ends in Q where ret says so -/
abbrev Ct (w : World) (mean : ExcName → Option Value) (mg mb : Str → Option Value) (news : List (Addr × Obj)) (dd : Nat) (f : Addr) (vs : List Value)
    (ret : Heap → Addr → (Str → Option Value) → Shared → (Value → Shared → Prop) → Prop) : Prop :=
  ∀ (dp un : Nat) (gd : Option (List Code)) (cn : Str) (cs : Scope) (a : Addr) (ccd : Value) (cl : List (Str × Addr)) (outer : List Env) (A₀ : Around) (base h₀ : Heap) (L : Addr) (m : Str → Option Value) (s : Shared) (Q E : Value → Shared → Prop),
    Below A₀ base outer h₀ → Fr h₀ L s.heap m → (hd.heap_39 w.params).In h₀ → News h₀ L s.heap news → Top hd.view_39 (looseW hd.view_39 [Str.ofString "ONE_THIRD", Str.ofString "ONE_SIXTH", Str.ofString "TWO_THIRD"]) mean mg mb h₀ → cs.kind = .function →
    dp + dd < recursionLimit → un + 8 * dd < cLine → ret h₀ L m s Q →
      wpAny (model PySem.Challenge.rw_wu0039_01.row.prog w) (ktrTop dp un gd cn cs L a ccd cl outer) (call (.ref f) vs) Q E s
/-- it hands back a plain value, nothing made that lasts -/
abbrev RetV (news : List (Addr × Obj)) (R : Tok → Value) : Heap → Addr → (Str → Option Value) → Shared → (Value → Shared → Prop) → Prop :=
  fun h₀ L m s Q => ∀ (t : Tok) (h' : Heap) (tk' : Nat), Fr h₀ L h' m → News h₀ L h' news → Q (R t) { s with heap := h', toks := tk' }
end Mine
end

section
open PySem PySem.W PyProof.Rows
set_option Elab.async false
namespace Mine
/-- the greatest of three as max finds it -/
def max3 (a b c : UInt64) : UInt64 :=
  cond (Float64.cmp a b == some .lt) (cond (Float64.cmp b c == some .lt) c b) (cond (Float64.cmp a c == some .lt) c a)
def min3 (a b c : UInt64) : UInt64 :=
  cond (Float64.cmp b a == some .lt) (cond (Float64.cmp c b == some .lt) c b) (cond (Float64.cmp c a == some .lt) c a)

theorem max_fff {prog : Program} {w : World} {A : Around} {E : Value → Shared → Prop} {s : Shared} {Q : Value → Shared → Prop} {a b c : UInt64} {t u x : Tok} {h₀ : Heap} {L : Addr} {m : Str → Option Value} {news : List (Addr × Obj)}
    (hh : A.handled = none) (F : Fr h₀ L s.heap m) (N : News h₀ L s.heap news)
    (h : ∀ h' tk v, Fr h₀ L h' m → News h₀ L h' news → Q (.float (max3 a b c) v) { s with heap := h', toks := tk }) :
    wpAny (model prog w) A (call (.builtin "max") [.float a t, .float b u, .float c x]) Q E s := by
  have hT : (s.heap.push { cls := .type "tuple", data := .seq #[.float a t, .float b u, .float c x] }).IsTuple s.heap.objs.size #[.float a t, .float b u, .float c x] := ⟨_, Heap.get?_push_size _ rfl, rfl, 0, rfl⟩
  refine call_max_three (wpAny_pyIter_tuple hT ?_)
  have hsz : (s.heap.push { cls := .type "tuple", data := .seq #[.float a t, .float b u, .float c x] }).objs.size = s.heap.objs.size + 1 := Heap.size_push ..
  refine ⟨_, [_, s.heap.objs.size], [_], _, _, _, _, rfl, Walks.tuple (A := A.in1) hh _ s.heap.objs.size (by rw [hsz]; exact Nat.ne_of_lt (Nat.lt_succ_self _)) #[.float a t, .float b u, .float c x],
    ⟨⟨_, Heap.get?_push_size _ rfl, rfl, rfl⟩, hT.push _⟩, fun d hd => ?_, by simp, Flt.cmpOf_gt #[.float a t, .float b u, .float c x] (by simp [Flt.NumV.float]), fun v h' tk hP hk => ?_⟩
  · show d < ((s.heap.push _).push _).objs.size
    rw [Heap.size_push, hsz]
    rcases List.mem_cons.mp hd with rfl | hd
    · rw [hsz]; exact Nat.lt_succ_self _
    · rcases List.mem_cons.mp hd with rfl | hd
      · exact Nat.lt_succ_of_lt (Nat.lt_succ_self _)
      · cases hd
  · have hold : ∀ d o, s.heap.get? d = some o → h'.get? d = some o := fun d o e => by
      refine hk d o (fun hm => ?_) (Heap.get?_push_of_some _ (Heap.get?_push_of_some _ e))
      rcases List.mem_cons.mp hm with e1 | hm
      · have := Heap.lt_size e; rw [e1, hsz] at this; exact Nat.lt_irrefl _ (Nat.lt_of_succ_lt this)
      · cases hm
    have hv : ∃ tv, v = .float (max3 a b c) tv := by
      cases h1 : (Float64.cmp a b == some .lt) <;> cases h2 : (Float64.cmp b c == some .lt) <;> cases h3 : (Float64.cmp a c == some .lt) <;>
        simp [argBest, Flt.ltV, h1, h2, h3] at hP <;> simp [max3, h1, h2, h3, ← hP]
    obtain ⟨tv, rfl⟩ := hv
    exact h h' tk tv (F.grownK hold) (N.grown hold)

theorem min_fff {prog : Program} {w : World} {A : Around} {E : Value → Shared → Prop} {s : Shared} {Q : Value → Shared → Prop} {a b c : UInt64} {t u x : Tok} {h₀ : Heap} {L : Addr} {m : Str → Option Value} {news : List (Addr × Obj)}
    (hh : A.handled = none) (F : Fr h₀ L s.heap m) (N : News h₀ L s.heap news)
    (h : ∀ h' tk v, Fr h₀ L h' m → News h₀ L h' news → Q (.float (min3 a b c) v) { s with heap := h', toks := tk }) :
    wpAny (model prog w) A (call (.builtin "min") [.float a t, .float b u, .float c x]) Q E s := by
  have hT : (s.heap.push { cls := .type "tuple", data := .seq #[.float a t, .float b u, .float c x] }).IsTuple s.heap.objs.size #[.float a t, .float b u, .float c x] := ⟨_, Heap.get?_push_size _ rfl, rfl, 0, rfl⟩
  refine call_min_three (wpAny_pyIter_tuple hT ?_)
  have hsz : (s.heap.push { cls := .type "tuple", data := .seq #[.float a t, .float b u, .float c x] }).objs.size = s.heap.objs.size + 1 := Heap.size_push ..
  refine ⟨_, [_, s.heap.objs.size], [_], _, _, _, _, rfl, Walks.tuple (A := A.in1) hh _ s.heap.objs.size (by rw [hsz]; exact Nat.ne_of_lt (Nat.lt_succ_self _)) #[.float a t, .float b u, .float c x],
    ⟨⟨_, Heap.get?_push_size _ rfl, rfl, rfl⟩, hT.push _⟩, fun d hd => ?_, by simp, Flt.cmpOf_lt #[.float a t, .float b u, .float c x] (by simp [Flt.NumV.float]), fun v h' tk hP hk => ?_⟩
  · show d < ((s.heap.push _).push _).objs.size
    rw [Heap.size_push, hsz]
    rcases List.mem_cons.mp hd with rfl | hd
    · rw [hsz]; exact Nat.lt_succ_self _
    · rcases List.mem_cons.mp hd with rfl | hd
      · exact Nat.lt_succ_of_lt (Nat.lt_succ_self _)
      · cases hd
  · have hold : ∀ d o, s.heap.get? d = some o → h'.get? d = some o := fun d o e => by
      refine hk d o (fun hm => ?_) (Heap.get?_push_of_some _ (Heap.get?_push_of_some _ e))
      rcases List.mem_cons.mp hm with e1 | hm
      · have := Heap.lt_size e; rw [e1, hsz] at this; exact Nat.lt_irrefl _ (Nat.lt_of_succ_lt this)
      · cases hm
    have hv : ∃ tv, v = .float (min3 a b c) tv := by
      cases h1 : (Float64.cmp b a == some .lt) <;> cases h2 : (Float64.cmp c b == some .lt) <;> cases h3 : (Float64.cmp c a == some .lt) <;>
        simp [argBest, Flt.ltV, h1, h2, h3] at hP <;> simp [min3, h1, h2, h3, ← hP]
    obtain ⟨tv, rfl⟩ := hv
    exact h h' tk tv (F.grownK hold) (N.grown hold)
end Mine
end

section
open PySem PySem.W PyProof.Rows
set_option Elab.async false
namespace Mine
theorem cond_t {α : Type} {b : Bool} {x y : α} (h : b = true) : cond b x y = x := by rw [h]; rfl
theorem cond_f {α : Type} {b : Bool} {x y : α} (h : b = false) : cond b x y = y := by rw [h]; rfl
/-- what _v gives -/
def vF (a b c : UInt64) : UInt64 :=
  cond (Float64.cmp (Float64.divmod c 4607182418800017408).snd 4595172819793696085 == some .lt)
    (Float64.add a (Float64.mul (Float64.mul (Float64.sub b a) (Float64.divmod c 4607182418800017408).snd) 4618441417868443648))
    (cond (Float64.cmp (Float64.divmod c 4607182418800017408).snd 4602678819172646912 == some .lt) b
      (cond (Float64.cmp (Float64.divmod c 4607182418800017408).snd 4604180019048437077 == some .lt)
        (Float64.add a (Float64.mul (Float64.mul (Float64.sub b a) (Float64.sub 4604180019048437077 (Float64.divmod c 4607182418800017408).snd)) 4618441417868443648))
        a))
/-- the hue that is told of a colour -/
def toldF (r g b : UInt64) : UInt64 :=
  (Float64.divmod (Float64.div (cond (Float64.cmp r (max3 r g b) == some .eq)
      (Float64.sub (Float64.div (Float64.sub (max3 r g b) b) (Float64.sub (max3 r g b) (min3 r g b))) (Float64.div (Float64.sub (max3 r g b) g) (Float64.sub (max3 r g b) (min3 r g b))))
      (cond (Float64.cmp g (max3 r g b) == some .eq)
        (Float64.sub (Float64.add 4611686018427387904 (Float64.div (Float64.sub (max3 r g b) r) (Float64.sub (max3 r g b) (min3 r g b)))) (Float64.div (Float64.sub (max3 r g b) b) (Float64.sub (max3 r g b) (min3 r g b))))
        (Float64.sub (Float64.add 4616189618054758400 (Float64.div (Float64.sub (max3 r g b) g) (Float64.sub (max3 r g b) (min3 r g b)))) (Float64.div (Float64.sub (max3 r g b) r) (Float64.sub (max3 r g b) (min3 r g b))))))
    4618441417868443648) 4607182418800017408).snd

/-- a tuple of three floats is made and handed back -/
abbrev RetT (news : List (Addr × Obj)) (x y z : UInt64) : Heap → Addr → (Str → Option Value) → Shared → (Value → Shared → Prop) → Prop :=
  fun h₀ L m s Q => ∀ (p : Addr) (t1 t2 t3 : Tok) (h' : Heap) (tk' : Nat), Fr h₀ L h' m →
    News h₀ L h' ((p, { cls := Value.type "tuple", data := Data.seq #[Value.float x t1, Value.float y t2, Value.float z t3] }) :: news) → Q (.ref p) { s with heap := h', toks := tk' }
abbrev RetH (news : List (Addr × Obj)) (x : UInt64) : Heap → Addr → (Str → Option Value) → Shared → (Value → Shared → Prop) → Prop :=
  fun h₀ L m s Q => ∀ (p : Addr) (y z : UInt64) (t1 t2 t3 : Tok) (h' : Heap) (tk' : Nat), Fr h₀ L h' m →
    News h₀ L h' ((p, { cls := Value.type "tuple", data := Data.seq #[Value.float x t1, Value.float y t2, Value.float z t3] }) :: news) → Q (.ref p) { s with heap := h', toks := tk' }


section
variable (w : World) (mean : ExcName → Option Value) (mg mb : Str → Option Value) (news : List (Addr × Obj))
theorem retf {news : List (Addr × Obj)} {x y : UInt64} {h₀ h' : Heap} {L : Addr} {m : Str → Option Value} {s : Shared} {Q : Value → Shared → Prop} {t : Tok} {tk' : Nat} (hret : RetV news (fun t => .float x t) h₀ L m s Q) (e : x = y) (F : Fr h₀ L h' m) (N : News h₀ L h' news) :
    Q (.float y t) { s with heap := h', toks := tk' } := by subst e; exact hret t h' tk' F N
theorem reth {news : List (Addr × Obj)} {x x' y z : UInt64} {h₀ h' : Heap} {L p : Addr} {m : Str → Option Value} {s : Shared} {Q : Value → Shared → Prop} {t1 t2 t3 : Tok} {tk' : Nat} (hret : RetH news x h₀ L m s Q) (e : x = x') (F : Fr h₀ L h' m)
    (N : News h₀ L h' ((p, { cls := Value.type "tuple", data := Data.seq #[Value.float x' t1, Value.float y t2, Value.float z t3] }) :: news)) : Q (.ref p) { s with heap := h', toks := tk' } := by subst e; exact hret p y z t1 t2 t3 h' tk' F N
set_option maxRecDepth 100000 in
set_option maxHeartbeats 8000000 in
theorem c_v (a b c : UInt64) (ta tb tc : Tok) : Ct w mean mg mb news 1 79 [.float a ta, .float b tb, .float c tc] (RetV news fun t => .float (vF a b c) t) := by
  dsimp only [Ct, RetV]
  k_fill
  w_top off
  intros
  rename_i hret
  refine wpAny_call ?_
  k_dflt cell_enter
  k_steps
  all_goals (refine retf hret ?_ (by assumption) (by assumption))
  · exact cond_t (by assumption)
  · exact (cond_f (by assumption)).trans (cond_t (by assumption))
  · exact (cond_f (by assumption)).trans ((cond_f (by assumption)).trans (cond_t (by assumption)))
  · exact (cond_f (by assumption)).trans ((cond_f (by assumption)).trans (cond_f (by assumption)))
set_option maxRecDepth 100000 in
set_option maxHeartbeats 8000000 in
theorem c_rhls (a b c : UInt64) (ta tb tc : Tok) (g1 : (Float64.cmp (min3 a b c) (max3 a b c) == some .eq) = false) (g2 : Float64.isZero (Float64.sub (max3 a b c) (min3 a b c)) = false)
   (g3 : Float64.isZero (Float64.add (max3 a b c) (min3 a b c)) = false) (g4 : Float64.isZero (Float64.sub (Float64.sub 4611686018427387904 (max3 a b c)) (min3 a b c)) = false) :
   Ct w mean mg mb news 1 65 [.float a ta, .float b tb, .float c tc] (RetH news (toldF a b c)) := by
  k_with_none
  k_with "call builtin:max" => (k_here; (with_reducible show wpAny _ _ (call (Value.builtin "max") [Value.float _ _, Value.float _ _, Value.float _ _]) _ _ _); k_dflt (refine' max_fff (by exact rfl) (by k_asm) (by k_asm) ?_; k_whole); intro h' tk' v' F' N')
  k_with "call builtin:min" => (k_here; (with_reducible show wpAny _ _ (call (Value.builtin "min") [Value.float _ _, Value.float _ _, Value.float _ _]) _ _ _); k_dflt (refine' min_fff (by exact rfl) (by k_asm) (by k_asm) ?_; k_whole); intro h' tk' v' F' N')
  dsimp only [Ct, RetH]
  k_fill
  w_top off
  intros
  rename_i hret
  refine wpAny_call ?_
  k_dflt cell_enter
  k_steps
  all_goals (refine reth hret ?_ (by assumption) (by assumption))
  all_goals exact congrArg (fun z => (Float64.divmod (Float64.div z 4618441417868443648) 4607182418800017408).snd) (by first | exact cond_t (by assumption) | exact (cond_f (by assumption)).trans (cond_t (by assumption)) | exact (cond_f (by assumption)).trans (cond_f (by assumption)))
set_option maxRecDepth 100000 in
set_option maxHeartbeats 8000000 in
theorem c_rhsv (a b c : UInt64) (ta tb tc : Tok) (g1 : (Float64.cmp (min3 a b c) (max3 a b c) == some .eq) = false) (g2 : Float64.isZero (Float64.sub (max3 a b c) (min3 a b c)) = false)
   (g3 : Float64.isZero (max3 a b c) = false) :
   Ct w mean mg mb news 1 86 [.float a ta, .float b tb, .float c tc] (RetH news (toldF a b c)) := by
  k_with_none
  k_with "call builtin:max" => (k_here; (with_reducible show wpAny _ _ (call (Value.builtin "max") [Value.float _ _, Value.float _ _, Value.float _ _]) _ _ _); k_dflt (refine' max_fff (by exact rfl) (by k_asm) (by k_asm) ?_; k_whole); intro h' tk' v' F' N')
  k_with "call builtin:min" => (k_here; (with_reducible show wpAny _ _ (call (Value.builtin "min") [Value.float _ _, Value.float _ _, Value.float _ _]) _ _ _); k_dflt (refine' min_fff (by exact rfl) (by k_asm) (by k_asm) ?_; k_whole); intro h' tk' v' F' N')
  dsimp only [Ct, RetH]
  k_fill
  w_top off
  intros
  rename_i hret
  refine wpAny_call ?_
  k_dflt cell_enter
  k_steps
  all_goals (refine reth hret ?_ (by assumption) (by assumption))
  all_goals exact congrArg (fun z => (Float64.divmod (Float64.div z 4618441417868443648) 4607182418800017408).snd) (by first | exact cond_t (by assumption) | exact (cond_f (by assumption)).trans (cond_t (by assumption)) | exact (cond_f (by assumption)).trans (cond_f (by assumption)))
end
section
variable (w : World) (mean : ExcName → Option Value) (mg mb : Str → Option Value) (news : List (Addr × Obj))
/-- what hls_to_rgb gives at lightness one half, full saturation -/
def hlsR (a : UInt64) : UInt64 := vF 0 4607182418800017408 (Float64.add a 4599676419421066581)
def hlsG (a : UInt64) : UInt64 := vF 0 4607182418800017408 a
def hlsB (a : UInt64) : UInt64 := vF 0 4607182418800017408 (Float64.sub a 4599676419421066581)
theorem rett {news : List (Addr × Obj)} {x x' y y' z z' : UInt64} {h₀ h' : Heap} {L p : Addr} {m : Str → Option Value} {s : Shared} {Q : Value → Shared → Prop} {t1 t2 t3 : Tok} {tk' : Nat} (hret : RetT news x y z h₀ L m s Q) (e1 : x = x') (e2 : y = y') (e3 : z = z') (F : Fr h₀ L h' m)
    (N : News h₀ L h' ((p, { cls := Value.type "tuple", data := Data.seq #[Value.float x' t1, Value.float y' t2, Value.float z' t3] }) :: news)) : Q (.ref p) { s with heap := h', toks := tk' } := by subst e1; subst e2; subst e3; exact hret p t1 t2 t3 h' tk' F N
set_option maxRecDepth 100000 in
set_option maxHeartbeats 8000000 in
theorem c_hls (a : UInt64) (ta tb tc : Tok) :
   Ct w mean mg mb news 2 72 [.float a ta, .float 4602678819172646912 tb, .float 4607182418800017408 tc] (RetT news (hlsR a) (hlsG a) (hlsB a)) := by
  k_with_none
  k_with "call ref" => (k_here; (with_reducible show wpAny _ _ (call (Value.ref 79) [Value.float _ _, Value.float _ _, Value.float _ _]) _ _ _); k_dflt (refine' c_v _ _ _ _ _ _ _ _ _ _ _  _ _ _ _ _ _ _ _ _ _ _ _ _ _ _ _ _ (by k_asm) (by k_asm) (by k_asm) (by k_asm) (by k_asm) (by first | exact rfl | assumption) (by first | ktr_room | k_room) (by first | ktr_units | k_units) ?_;  k_whole); intro t9 h9 tk9 F9 N9; (try dsimp only))
  dsimp only [Ct, RetT]
  k_fill
  w_top off
  intros
  rename_i hret
  refine wpAny_call ?_
  k_dflt cell_enter
  k_steps
  · exact absurd (show (Float64.cmp 4607182418800017408 0 == some .eq) = true from by assumption) (by decide +kernel)
  · refine rett hret ?_ ?_ ?_ (by assumption) (by assumption)
    all_goals (first | unfold hlsR | unfold hlsG | unfold hlsB)
    all_goals (congr 1 <;> decide +kernel)
  · exact absurd (show (Float64.cmp 4602678819172646912 4602678819172646912 == some .lt || Float64.cmp 4602678819172646912 4602678819172646912 == some .eq) = false from by assumption) (by decide +kernel)
theorem dn {j k : Int} (h : j < k + 1) : j < k ∨ j = k := Int.lt_or_eq_of_le (Int.le_of_lt_add_one h)
theorem six6 {j : Int} (h0 : 0 ≤ j) (h : j < 6) : j = 0 ∨ j = 1 ∨ j = 2 ∨ j = 3 ∨ j = 4 ∨ j = 5 := by
  rcases dn (k := 5) h with h | h
  · rcases dn (k := 4) h with h | h
    · rcases dn (k := 3) h with h | h
      · rcases dn (k := 2) h with h | h
        · rcases dn (k := 1) h with h | h
          · exact .inl (Int.le_antisymm (Int.le_of_lt_add_one h) h0)
          · exact .inr (.inl h)
        · exact .inr (.inr (.inl h))
      · exact .inr (.inr (.inr (.inl h)))
    · exact .inr (.inr (.inr (.inr (.inl h))))
  · exact .inr (.inr (.inr (.inr (.inr h))))
theorem six_no (i : Int) (h0 : i.fmod 6 ≠ 0) (h1 : i.fmod 6 ≠ 1) (h2 : i.fmod 6 ≠ 2) (h3 : i.fmod 6 ≠ 3) (h4 : i.fmod 6 ≠ 4) (h5 : i.fmod 6 ≠ 5) : False := by
  have q0 := Int.fmod_eq_emod_of_nonneg i (show (0 : Int) ≤ 6 by decide)
  rw [q0] at h0 h1 h2 h3 h4 h5
  rcases six6 (Int.emod_nonneg i (by decide)) (Int.emod_lt_of_pos i (by decide)) with q | q | q | q | q | q
  · exact h0 q
  · exact h1 q
  · exact h2 q
  · exact h3 q
  · exact h4 q
  · exact h5 q
def hsvI (a : UInt64) : Int := Flt.toInt Float64.truncOf (Float64.mul a 4618441417868443648)
/-- the part behind the sector -/
def hsvf (a : UInt64) : UInt64 := Float64.sub (Float64.mul a 4618441417868443648) (Float64.ofInt (hsvI a))
def hsvP : UInt64 := Float64.mul 4607182418800017408 (Float64.sub 4607182418800017408 4607182418800017408)
def hsvQ (a : UInt64) : UInt64 := Float64.mul 4607182418800017408 (Float64.sub 4607182418800017408 (Float64.mul 4607182418800017408 (hsvf a)))
def hsvT (a : UInt64) : UInt64 := Float64.mul 4607182418800017408 (Float64.sub 4607182418800017408 (Float64.mul 4607182418800017408 (Float64.sub 4607182418800017408 (hsvf a))))
def hsvR (a : UInt64) : UInt64 := if (hsvI a).fmod 6 = 0 then 4607182418800017408 else if (hsvI a).fmod 6 = 1 then hsvQ a else if (hsvI a).fmod 6 = 2 then hsvP else if (hsvI a).fmod 6 = 3 then hsvP else if (hsvI a).fmod 6 = 4 then hsvT a else 4607182418800017408
def hsvG (a : UInt64) : UInt64 := if (hsvI a).fmod 6 = 0 then hsvT a else if (hsvI a).fmod 6 = 1 then 4607182418800017408 else if (hsvI a).fmod 6 = 2 then 4607182418800017408 else if (hsvI a).fmod 6 = 3 then hsvQ a else if (hsvI a).fmod 6 = 4 then hsvP else hsvP
def hsvB (a : UInt64) : UInt64 := if (hsvI a).fmod 6 = 0 then hsvP else if (hsvI a).fmod 6 = 1 then hsvP else if (hsvI a).fmod 6 = 2 then hsvT a else if (hsvI a).fmod 6 = 3 then 4607182418800017408 else if (hsvI a).fmod 6 = 4 then 4607182418800017408 else hsvQ a
set_option maxRecDepth 100000 in
set_option maxHeartbeats 8000000 in
theorem c_hsv (a : UInt64) (ta tb tc : Tok) (g1 : Float64.isNaN (Float64.mul a 4618441417868443648) = false) (g2 : Float64.isInf (Float64.mul a 4618441417868443648) = false) (g3 : (Flt.toInt Float64.truncOf (Float64.mul a 4618441417868443648)).natAbs < 100) :
   Ct w mean mg mb news 1 93 [.float a ta, .float 4607182418800017408 tb, .float 4607182418800017408 tc] (RetT news (hsvR a) (hsvG a) (hsvB a)) := by
  dsimp only [Ct, RetT]
  k_fill
  w_top off
  intros
  rename_i hret
  refine wpAny_call ?_
  k_dflt cell_enter
  k_steps
  · exact absurd (show (Float64.cmp 4607182418800017408 0 == some .eq) = true from by assumption) (by decide +kernel)
  all_goals first
    | (refine rett hret ?_ ?_ ?_ (by assumption) (by assumption) <;> simp only [hsvR, hsvG, hsvB, hsvI, hsvT, hsvQ, hsvP, hsvf, *, if_true, if_false, Int.reduceEq]; done)
    | skip
  exact (six_no (Flt.toInt Float64.truncOf (Float64.mul a 4618441417868443648)) (by assumption) (by assumption) (by assumption) (by assumption) (by assumption) (by assumption)).elim
end
end Mine
end

section
open PySem PySem.W PyProof.Rows
set_option Elab.async false
namespace Mine
section
variable (w : World) (mean : ExcName → Option Value) (mg mb : Str → Option Value) (news : List (Addr × Obj))
set_option maxRecDepth 100000 in
set_option maxHeartbeats 8000000 in
theorem c_isub (x y : Int) (tx ty : Tok) : Ct w mean mg mb news 1 135 [.int x tx, .int y ty] (RetV news fun t => .int (x - y) t) := by
  dsimp only [Ct, RetV]
  k_fill
  w_top off
  intros
  rename_i hret
  refine wpAny_call ?_
  k_dflt cell_enter
  k_steps
  all_goals exact hret _ _ _ (by assumption) (by assumption)
set_option maxRecDepth 100000 in
set_option maxHeartbeats 8000000 in
theorem c_iadd (x y : Int) (tx ty : Tok) : Ct w mean mg mb news 1 107 [.int x tx, .int y ty] (RetV news fun t => .int (x + y) t) := by
  dsimp only [Ct, RetV]
  k_fill
  w_top off
  intros
  rename_i hret
  refine wpAny_call ?_
  k_dflt cell_enter
  k_steps
  all_goals exact hret _ _ _ (by assumption) (by assumption)
set_option maxRecDepth 100000 in
set_option maxHeartbeats 8000000 in
theorem c_imul (x y : Int) (tx ty : Tok) (g1 : y.natAbs < 2 ^ 63) : Ct w mean mg mb news 1 121 [.int x tx, .int y ty] (RetV news fun t => .int (x * y) t) := by
  dsimp only [Ct, RetV]
  k_fill
  w_top off
  intros
  rename_i hret
  refine wpAny_call ?_
  k_dflt cell_enter
  k_steps
  all_goals exact hret _ _ _ (by assumption) (by assumption)
set_option maxRecDepth 100000 in
set_option maxHeartbeats 8000000 in
theorem c_imod (x y : Int) (tx ty : Tok) (g1 : 0 < y) : Ct w mean mg mb news 1 114 [.int x tx, .int y ty] (RetV news fun t => .int (x.fmod y) t) := by
  dsimp only [Ct, RetV]
  k_fill
  w_top off
  intros
  rename_i hret
  refine wpAny_call ?_
  k_dflt cell_enter
  k_steps
  all_goals exact hret _ _ _ (by assumption) (by assumption)
set_option maxRecDepth 100000 in
set_option maxHeartbeats 8000000 in
theorem c_truediv (x y : Int) (tx ty : Tok) (g1 : x.natAbs < 1000000000) (g2 : y ≠ 0) (g3 : y.natAbs < 1000000000) : Ct w mean mg mb news 1 100 [.int x tx, .int y ty] (RetV news fun t => .float (Float64.ofFrac (decide (x < 0) != decide (y < 0)) x.natAbs y.natAbs) t) := by
  dsimp only [Ct, RetV]
  k_fill
  w_top off
  intros
  rename_i hret
  refine wpAny_call ?_
  k_dflt cell_enter
  k_steps
  all_goals exact hret _ _ _ (by assumption) (by assumption)
set_option maxRecDepth 100000 in
set_option maxHeartbeats 8000000 in
theorem c_ipow (k : Int) (tx ty : Tok) (g0 : 0 ≤ k) (g1 : k ≤ 18) : Ct w mean mg mb news 1 128 [.int 10 tx, .int k ty] (RetV news fun t => .int (10 ^ k.toNat) t) := by
  dsimp only [Ct, RetV]
  k_fill
  w_top off
  intros
  rename_i hret
  refine wpAny_call ?_
  k_dflt cell_enter
  k_steps
  all_goals exact hret _ _ _ (by assumption) (by assumption)
end
end Mine
end

section
namespace Mine
open PySem PySem.Float64

/-- every multiple of a grid of 53 places is a float's size -/
theorem V_grid : ∀ (k q : Nat), q ≤ 2 ^ 53 → ∃ t, V t = q * 2 ^ k
  | 0, q, h => ⟨0 * 2 ^ 52 + q, V_at h (.inr rfl)⟩
  | k + 1, q, h => by
    by_cases h2 : 2 ^ 52 ≤ q
    · exact ⟨(k + 1) * 2 ^ 52 + q, V_at h (.inl h2)⟩
    · obtain ⟨t, ht⟩ := V_grid k (q * 2) (by omega)
      exact ⟨t, by rw [ht, Nat.pow_succ, Nat.mul_assoc, Nat.mul_comm 2]⟩

theorem right_near {r : UInt64} {neg : Bool} {W D : Nat} (h : Right r neg W D) (hD : 0 < D) {j : Nat} (hj : j ≤ 60) (hW : W ≤ D * 2 ^ (j + 1074)) :
    ∃ t, r = pack neg t ∧ t < infMag ∧ W ≤ D * V t + D * 2 ^ (j + 1021) ∧ D * V t ≤ W + D * 2 ^ (j + 1021) := by
  obtain ⟨t, hr, hle, hov, hn⟩ := h
  have hlt : t < infMag := by
    rcases Nat.lt_or_eq_of_le hle with h | h
    · exact h
    · exfalso
      have h1 := hov.mp h
      have h2 : D * ((2 ^ 54 - 1) * 2 ^ 2045) ≤ D * (2 ^ (j + 1075)) := by
        refine Nat.le_trans h1 ?_
        rw [Nat.pow_succ, ← Nat.mul_assoc, Nat.mul_comm]
        exact Nat.mul_le_mul_right 2 hW
      have h3 := Nat.le_of_mul_le_mul_left h2 hD
      have h4 : 2 ^ (j + 1075) ≤ 2 ^ 2045 := Nat.pow_le_pow_right (by decide) (by omega)
      have h5 : 2 ^ 2045 < (2 ^ 54 - 1) * 2 ^ 2045 := by
        have : 0 < 2 ^ 2045 := Nat.two_pow_pos _
        generalize 2 ^ 2045 = z at *
        omega
      omega
  refine ⟨t, hr, hlt, ?_⟩
  have hn := hn hlt
  have hG : 0 < 2 ^ (j + 1021) := Nat.two_pow_pos _
  have hDG : 0 < D * 2 ^ (j + 1021) := Nat.mul_pos hD hG
  have hq : W / (D * 2 ^ (j + 1021)) ≤ 2 ^ 53 := by
    apply Nat.le_of_lt_succ
    rw [Nat.div_lt_iff_lt_mul hDG]
    have e : j + 1074 = 53 + (j + 1021) := by omega
    rw [e, Nat.pow_add] at hW
    generalize 2 ^ (j + 1021) = G at *
    have e2 : D * (2 ^ 53 * G) = 2 ^ 53 * (D * G) := by rw [Nat.mul_left_comm]
    rw [e2] at hW
    have e3 : (2 ^ 53).succ * (D * G) = 2 ^ 53 * (D * G) + D * G := Nat.succ_mul _ _
    rw [e3]
    omega
  obtain ⟨t', ht'⟩ := V_grid (j + 1021) _ hq
  have h1 := (hn t').1
  rw [ht'] at h1
  have h2 := Nat.div_add_mod W (D * 2 ^ (j + 1021))
  have h3 := Nat.mod_lt W hDG
  have e4 : D * (W / (D * 2 ^ (j + 1021)) * 2 ^ (j + 1021)) = D * 2 ^ (j + 1021) * (W / (D * 2 ^ (j + 1021))) := by
    rw [Nat.mul_assoc, Nat.mul_comm (2 ^ (j + 1021))]
  rw [e4] at h1
  unfold dist at h1
  generalize D * 2 ^ (j + 1021) * (W / (D * 2 ^ (j + 1021))) = A at *
  generalize D * 2 ^ (j + 1021) = B at *
  generalize D * V t = C at *
  omega

/-- it is a number -/
def IsFin (x : UInt64) : Prop := ∃ a m e, decode x = .fin a m e
/-- what a float's unit is -/
def UU : Rat := ((2 ^ 1074 : Nat) : Rat)
theorem UU_pos : 0 < UU := by
  unfold UU
  have : (0 : Nat) < 2 ^ 1074 := Nat.two_pow_pos _
  exact_mod_cast this
/-- a float's value -/
def rv (x : UInt64) : Rat := (val x : Rat) / UU
theorem rv_mul (x : UInt64) : rv x * UU = (val x : Rat) := by
  unfold rv
  have := UU_pos
  grind
/-- within e -/
def Nr (x y e : Rat) : Prop := x - e ≤ y ∧ y ≤ x + e

theorem isFin_pack (neg : Bool) {t : Nat} (h : t < infMag) : IsFin (pack neg t) := by
  obtain ⟨m, e, hd, _⟩ := decode_pack neg h
  exact ⟨_, _, _, hd⟩

theorem sgn_cast (neg : Bool) (m : Nat) : ((sgn neg m : Int) : Rat) = if neg then -(m : Rat) else (m : Rat) := by
  unfold sgn
  cases neg <;> simp [Rat.intCast_natCast]

/-- the half of the unit in the last place, where nothing is above 2 ^ j -/
def ulp (j : Nat) : Rat := ((2 ^ (j + 1021) : Nat) : Rat) / UU
theorem ulp_mul (j : Nat) : ulp j * UU = ((2 ^ (j + 1021) : Nat) : Rat) := by
  unfold ulp
  have := UU_pos
  grind
theorem ulp_nonneg (j : Nat) : 0 ≤ ulp j := by
  refine Rat.le_of_mul_le_mul_right (c := UU) ?_ UU_pos
  rw [ulp_mul, Rat.zero_mul]
  exact Rat.natCast_nonneg
theorem ulp_6 : ulp 6 = 1 / 140737488355328 := by
  have h : ((2 ^ 1074 : Nat) : Rat) = ((140737488355328 * 2 ^ (6 + 1021) : Nat) : Rat) := by
    have : (2 ^ 1074 : Nat) = 140737488355328 * 2 ^ (6 + 1021) := by decide +kernel
    rw [this]
  have h2 := ulp_mul 6
  have h3 := UU_pos
  have h4 : UU = 140737488355328 * ((2 ^ (6 + 1021) : Nat) : Rat) := by
    unfold UU; rw [h]; simp only [Rat.natCast_mul]; rfl
  generalize ((2 ^ (6 + 1021) : Nat) : Rat) = G at *
  have h5 : (ulp 6 * 140737488355328 - 1) * G = 0 := by grind
  have h6 : G ≠ 0 := by grind
  grind
theorem ulp_21 : ulp 21 = 1 / 4294967296 := by
  have h : ((2 ^ 1074 : Nat) : Rat) = ((4294967296 * 2 ^ (21 + 1021) : Nat) : Rat) := by
    have : (2 ^ 1074 : Nat) = 4294967296 * 2 ^ (21 + 1021) := by decide +kernel
    rw [this]
  have h2 := ulp_mul 21
  have h3 := UU_pos
  have h4 : UU = 4294967296 * ((2 ^ (21 + 1021) : Nat) : Rat) := by
    unfold UU; rw [h]; simp only [Rat.natCast_mul]; rfl
  generalize ((2 ^ (21 + 1021) : Nat) : Rat) = G at *
  have h5 : (ulp 21 * 4294967296 - 1) * G = 0 := by grind
  have h6 : G ≠ 0 := by grind
  grind

theorem flo {r : UInt64} {neg : Bool} {W D : Nat} (h : Right r neg W D) (hD : 0 < D) {j : Nat} (hj : j ≤ 60) (hW : W ≤ D * 2 ^ (j + 1074)) {w : Rat} (hw : w * UU * (D : Rat) = if neg then -(W : Rat) else (W : Rat)) :
    IsFin r ∧ Nr w (rv r) (ulp j) := by
  obtain ⟨t, hr, ht, h1, h2⟩ := right_near h hD hj hW
  subst hr
  refine ⟨isFin_pack neg ht, ?_⟩
  have h3 : rv (pack neg t) * UU = if neg then -((V t : Nat) : Rat) else ((V t : Nat) : Rat) := by
    rw [rv_mul, val_pack neg ht, sgn_cast]
  have h4 := ulp_mul j
  have h1' : (W : Rat) ≤ (D : Rat) * (V t : Rat) + (D : Rat) * ((2 ^ (j + 1021) : Nat) : Rat) := by
    have := Rat.natCast_le_natCast.mpr h1
    simpa only [Rat.natCast_add, Rat.natCast_mul] using this
  have h2' : (D : Rat) * (V t : Rat) ≤ (W : Rat) + (D : Rat) * ((2 ^ (j + 1021) : Nat) : Rat) := by
    have := Rat.natCast_le_natCast.mpr h2
    simpa only [Rat.natCast_add, Rat.natCast_mul] using this
  have hD' : (0 : Rat) < (D : Rat) := by exact_mod_cast hD
  have hU := UU_pos
  have hDU : 0 < UU * (D : Rat) := Rat.mul_pos hU hD'
  generalize ((2 ^ (j + 1021) : Nat) : Rat) = G at *
  generalize (V t : Rat) = v at *
  generalize (W : Rat) = W' at *
  generalize (D : Rat) = D' at *
  generalize rv (pack neg t) = x at *
  generalize ulp j = e at *
  clear h hW h1 h2 hD ht
  have i1 : (w - e - x) * (UU * D') = w * UU * D' - D' * (e * UU) - D' * (x * UU) := by grind
  have i2 : (x - w - e) * (UU * D') = D' * (x * UU) - w * UU * D' - D' * (e * UU) := by grind
  rw [hw, h4, h3] at i1 i2
  have k1 : (w - e - x) * (UU * D') ≤ 0 := by
    rw [i1]
    cases neg <;> simp only [if_true, if_false, Bool.false_eq_true] <;> grind
  have k2 : (x - w - e) * (UU * D') ≤ 0 := by
    rw [i2]
    cases neg <;> simp only [if_true, if_false, Bool.false_eq_true] <;> grind
  have l1 : w - e - x ≤ 0 := by
    rcases (Rat.le_total : w - e - x ≤ 0 ∨ 0 ≤ w - e - x) with q | q
    · exact q
    · have := Rat.mul_nonneg q (Rat.le_of_lt hDU)
      have z : (w - e - x) * (UU * D') = 0 := by grind
      rcases Rat.mul_eq_zero.mp z with z | z <;> grind
  have l2 : x - w - e ≤ 0 := by
    rcases (Rat.le_total : x - w - e ≤ 0 ∨ 0 ≤ x - w - e) with q | q
    · exact q
    · have := Rat.mul_nonneg q (Rat.le_of_lt hDU)
      have z : (x - w - e) * (UU * D') = 0 := by grind
      rcases Rat.mul_eq_zero.mp z with z | z <;> grind
  unfold Nr
  grind

theorem UU_pow (j : Nat) : ((2 ^ (j + 1074) : Nat) : Rat) = ((2 ^ j : Nat) : Rat) * UU := by
  unfold UU
  rw [Nat.pow_add, Rat.natCast_mul]

theorem natAbs_cast (z : Int) (neg : Bool) (h : z = sgn neg z.natAbs) : (if neg then -((z.natAbs : Nat) : Rat) else ((z.natAbs : Nat) : Rat)) = (z : Rat) := by
  have := sgn_cast neg z.natAbs
  rw [← h] at this
  exact this.symm
theorem natAbs_le_of {z : Int} {n : Nat} (h1 : -(n : Rat) ≤ (z : Rat)) (h2 : (z : Rat) ≤ (n : Rat)) : z.natAbs ≤ n := by
  have a1 : (((-(n : Int)) : Int) : Rat) ≤ (z : Rat) := by
    rw [Rat.intCast_neg, Rat.intCast_natCast]; exact h1
  have a2 : (z : Rat) ≤ (((n : Int)) : Rat) := by
    rw [Rat.intCast_natCast]; exact h2
  have b1 := Rat.intCast_le_intCast.mp a1
  have b2 := Rat.intCast_le_intCast.mp a2
  omega

/-- the sum of two -/
theorem add_near (j : Nat) (hj : j ≤ 60) {x y : UInt64} (hx : IsFin x) (hy : IsFin y) (h1 : -((2 ^ j : Nat) : Rat) ≤ rv x + rv y) (h2 : rv x + rv y ≤ ((2 ^ j : Nat) : Rat)) :
    IsFin (add x y) ∧ Nr (rv x + rv y) (rv (add x y)) (ulp j) := by
  obtain ⟨a, m, e, hx⟩ := hx
  obtain ⟨b, k, f, hy⟩ := hy
  have hU := UU_pos
  have hs : (rv x + rv y) * UU = ((val x + val y : Int) : Rat) := by
    rw [Rat.intCast_add, ← rv_mul x, ← rv_mul y]; grind
  obtain ⟨z0, z1⟩ := add_right hx hy
  by_cases hz : val x + val y = 0
  · rw [z0 hz]
    refine ⟨isFin_pack _ (by decide), ?_⟩
    have hv : rv (zero (a && b)) = 0 := by
      unfold rv zero
      rw [val_pack _ (by decide)]
      have : V 0 = 0 := V_zero
      rw [this]
      unfold sgn
      cases (a && b) <;> simp [Rat.div_def]
    have hs0 : rv x + rv y = 0 := by
      rw [hz] at hs
      have : (rv x + rv y) * UU = 0 := by rw [hs]; rfl
      rcases Rat.mul_eq_zero.mp this with q | q
      · exact q
      · grind
    rw [hv, hs0]
    have hu := ulp_nonneg j
    unfold Nr
    grind
  · refine flo (z1 hz) (by decide) hj ?_ ?_
    · rw [Nat.one_mul]
      apply natAbs_le_of
      · rw [← hs, UU_pow]
        have := Rat.mul_le_mul_of_nonneg_right h1 (Rat.le_of_lt hU)
        grind
      · rw [← hs, UU_pow]
        exact Rat.mul_le_mul_of_nonneg_right h2 (Rat.le_of_lt hU)
    · rw [hs]
      have := natAbs_cast (val x + val y) (decide (val x + val y < 0)) (by
        unfold sgn
        split <;> simp_all <;> omega)
      rw [this]
      simp

theorem IsFin.neg {y : UInt64} (hy : IsFin y) : IsFin (neg y) ∧ rv (neg y) = -rv y := by
  obtain ⟨b, k, f, hy⟩ := hy
  refine ⟨⟨_, _, _, neg_decode hy⟩, ?_⟩
  have h1 := rv_mul (Float64.neg y)
  rw [neg_val hy, Rat.intCast_neg, ← rv_mul y] at h1
  have := UU_pos
  have h2 : (rv (Float64.neg y) + rv y) * UU = 0 := by grind
  rcases Rat.mul_eq_zero.mp h2 with q | q <;> grind
theorem sub_near (j : Nat) (hj : j ≤ 60) {x y : UInt64} (hx : IsFin x) (hy : IsFin y) (h1 : -((2 ^ j : Nat) : Rat) ≤ rv x - rv y) (h2 : rv x - rv y ≤ ((2 ^ j : Nat) : Rat)) :
    IsFin (sub x y) ∧ Nr (rv x - rv y) (rv (sub x y)) (ulp j) := by
  have q := hy.neg
  have := add_near j hj hx q.1 (by rw [q.2]; grind) (by rw [q.2]; grind)
  rw [q.2] at this
  have e : rv x - rv y = rv x + -rv y := by grind
  have e2 : sub x y = add x (neg y) := by with_unfolding_all rfl
  rw [e, e2]
  exact this

theorem val_sgn {x : UInt64} {a : Bool} {m : Nat} {e : Int} (hx : decode x = .fin a m e) : val x = sgn a (val x).natAbs := by
  rw [val_natAbs hx]; exact val_eq hx
theorem sgn_sgn (a b : Bool) (m k : Nat) : sgn a m * sgn b k = sgn (a != b) (m * k) := by
  unfold sgn
  cases a <;> cases b <;> simp [Int.natCast_mul, Int.mul_neg, Int.neg_mul]
theorem mul_near (j : Nat) (hj : j ≤ 60) {x y : UInt64} (hx : IsFin x) (hy : IsFin y) (h1 : -((2 ^ j : Nat) : Rat) ≤ rv x * rv y) (h2 : rv x * rv y ≤ ((2 ^ j : Nat) : Rat)) :
    IsFin (mul x y) ∧ Nr (rv x * rv y) (rv (mul x y)) (ulp j) := by
  obtain ⟨a, m, e, hx⟩ := hx
  obtain ⟨b, k, f, hy⟩ := hy
  have hU := UU_pos
  have hs : (rv x * rv y) * UU * UU = ((val x * val y : Int) : Rat) := by
    rw [Rat.intCast_mul, ← rv_mul x, ← rv_mul y]; grind
  refine flo (mul_right hx hy) (Nat.two_pow_pos _) hj ?_ ?_
  · rw [← Int.natAbs_mul]
    apply natAbs_le_of
    · rw [← hs, Rat.natCast_mul, UU_pow j]
      have h3 := Rat.mul_le_mul_of_nonneg_right (Rat.mul_le_mul_of_nonneg_right h1 (Rat.le_of_lt hU)) (Rat.le_of_lt hU)
      have e4 : ((2 ^ 1074 : Nat) : Rat) = UU := rfl
      rw [e4]
      have e5 : -(UU * (((2 ^ j : Nat) : Rat) * UU)) = -((2 ^ j : Nat) : Rat) * UU * UU := by grind
      rw [e5]
      exact h3
    · rw [← hs, Rat.natCast_mul, UU_pow j]
      have h3 := Rat.mul_le_mul_of_nonneg_right (Rat.mul_le_mul_of_nonneg_right h2 (Rat.le_of_lt hU)) (Rat.le_of_lt hU)
      have e4 : ((2 ^ 1074 : Nat) : Rat) = UU := rfl
      rw [e4]
      have e5 : UU * (((2 ^ j : Nat) : Rat) * UU) = ((2 ^ j : Nat) : Rat) * UU * UU := by grind
      rw [e5]
      exact h3
  · have e4 : ((2 ^ 1074 : Nat) : Rat) = UU := rfl
    rw [e4, hs, ← Int.natAbs_mul]
    exact (natAbs_cast (val x * val y) (a != b) (by
      rw [Int.natAbs_mul, ← sgn_sgn, ← val_sgn hx, ← val_sgn hy])).symm

theorem div_near (j : Nat) (hj : j ≤ 60) {x y : UInt64} (hx : IsFin x) (hy : IsFin y) (hy0 : rv y ≠ 0) {q : Rat} (hq : q * rv y = rv x) (h1 : -((2 ^ j : Nat) : Rat) ≤ q) (h2 : q ≤ ((2 ^ j : Nat) : Rat)) :
    IsFin (div x y) ∧ Nr q (rv (div x y)) (ulp j) := by
  obtain ⟨a, m, e, hx⟩ := hx
  obtain ⟨b, k, f, hy⟩ := hy
  have hU := UU_pos
  have hv : val y ≠ 0 := by
    intro h
    apply hy0
    unfold rv
    rw [h]
    simp [Rat.div_def]
  have hk : k ≠ 0 := by
    intro h
    apply hv
    have := val_natAbs hy
    rw [h, Nat.zero_mul] at this
    omega
  have hD : 0 < (val y).natAbs := by omega
  have hs : q * (val y : Rat) = (val x : Rat) := by
    rw [← rv_mul x, ← rv_mul y, ← hq]; grind
  have hyA := natAbs_cast (val y) b (by exact val_sgn hy)
  have hxA := natAbs_cast (val x) a (by exact val_sgn hx)
  have hDp : (0 : Rat) < ((val y).natAbs : Rat) := by exact_mod_cast hD
  have e4 : ((2 ^ 1074 : Nat) : Rat) = UU := rfl
  -- what the quotient is in sizes
  have hs2 : q * ((val y).natAbs : Rat) = if (a != b) then -((val x).natAbs : Rat) else ((val x).natAbs : Rat) := by
    rw [← hyA, ← hxA] at hs
    cases a <;> cases b <;> simp at hs ⊢ <;> grind
  refine flo (div_right hx hy hk) hD hj ?_ ?_
  · apply Rat.natCast_le_natCast.mp
    rw [Rat.natCast_mul, Rat.natCast_mul, UU_pow j, e4]
    have l1 := Rat.mul_le_mul_of_nonneg_right h1 (Rat.le_of_lt hDp)
    have l2 := Rat.mul_le_mul_of_nonneg_right h2 (Rat.le_of_lt hDp)
    rw [hs2] at l1 l2
    have l3 : ((val x).natAbs : Rat) ≤ ((2 ^ j : Nat) : Rat) * ((val y).natAbs : Rat) := by
      cases h : (a != b) <;> rw [h] at l1 l2 <;> simp only [if_true, if_false, Bool.false_eq_true] at l1 l2 <;> grind
    have l4 := Rat.mul_le_mul_of_nonneg_right l3 (Rat.le_of_lt hU)
    have e5 : ((val y).natAbs : Rat) * (((2 ^ j : Nat) : Rat) * UU) = ((2 ^ j : Nat) : Rat) * ((val y).natAbs : Rat) * UU := by grind
    rw [e5]
    exact l4
  · have e6 : q * UU * ((val y).natAbs : Rat) = (q * ((val y).natAbs : Rat)) * UU := by grind
    rw [e6, hs2, Rat.natCast_mul, e4]
    cases h : (a != b) <;> simp only [if_true, if_false, Bool.false_eq_true] <;> grind

theorem ratio_near (j : Nat) (hj : j ≤ 60) {a b : Int} (hb : b ≠ 0) {q : Rat} (hq : q * (b : Rat) = (a : Rat)) (h1 : -((2 ^ j : Nat) : Rat) ≤ q) (h2 : q ≤ ((2 ^ j : Nat) : Rat)) :
    IsFin (ofFrac (decide (a < 0) != decide (b < 0)) a.natAbs b.natAbs) ∧ Nr q (rv (ofFrac (decide (a < 0) != decide (b < 0)) a.natAbs b.natAbs)) (ulp j) := by
  have hU := UU_pos
  have hD : 0 < b.natAbs := by omega
  have hyA := natAbs_cast b (decide (b < 0)) (by unfold sgn; split <;> simp_all <;> omega)
  have hxA := natAbs_cast a (decide (a < 0)) (by unfold sgn; split <;> simp_all <;> omega)
  have hDp : (0 : Rat) < (b.natAbs : Rat) := by exact_mod_cast hD
  have e4 : ((2 ^ 1074 : Nat) : Rat) = UU := rfl
  have hs2 : q * (b.natAbs : Rat) = if (decide (a < 0) != decide (b < 0)) then -(a.natAbs : Rat) else (a.natAbs : Rat) := by
    rw [← hyA, ← hxA] at hq
    generalize decide (a < 0) = s1 at *
    generalize decide (b < 0) = s2 at *
    cases s1 <;> cases s2 <;> simp at hq ⊢ <;> grind
  refine flo (ofFrac_right (W := a.natAbs * 2 ^ 1074) (D := b.natAbs) hD rfl hD) hD hj ?_ ?_
  · apply Rat.natCast_le_natCast.mp
    rw [Rat.natCast_mul, Rat.natCast_mul, UU_pow j, e4]
    have l1 := Rat.mul_le_mul_of_nonneg_right h1 (Rat.le_of_lt hDp)
    have l2 := Rat.mul_le_mul_of_nonneg_right h2 (Rat.le_of_lt hDp)
    rw [hs2] at l1 l2
    have l3 : (a.natAbs : Rat) ≤ ((2 ^ j : Nat) : Rat) * (b.natAbs : Rat) := by
      cases h : (decide (a < 0) != decide (b < 0)) <;> rw [h] at l1 l2 <;> simp only [if_true, if_false, Bool.false_eq_true] at l1 l2 <;> grind
    have l4 := Rat.mul_le_mul_of_nonneg_right l3 (Rat.le_of_lt hU)
    have e5 : (b.natAbs : Rat) * (((2 ^ j : Nat) : Rat) * UU) = ((2 ^ j : Nat) : Rat) * (b.natAbs : Rat) * UU := by grind
    rw [e5]
    exact l4
  · have e6 : q * UU * (b.natAbs : Rat) = (q * (b.natAbs : Rat)) * UU := by grind
    rw [e6, hs2, Rat.natCast_mul, e4]
    cases h : (decide (a < 0) != decide (b < 0)) <;> simp only [if_true, if_false, Bool.false_eq_true] <;> grind

theorem ofInt_near (j : Nat) (hj : j ≤ 60) {i : Int} (h1 : -((2 ^ j : Nat) : Rat) ≤ (i : Rat)) (h2 : (i : Rat) ≤ ((2 ^ j : Nat) : Rat)) :
    IsFin (ofInt i) ∧ Nr (i : Rat) (rv (ofInt i)) (ulp j) := by
  have e4 : ((2 ^ 1074 : Nat) : Rat) = UU := rfl
  have hxA := natAbs_cast i (decide (i < 0)) (by unfold sgn; split <;> simp_all <;> omega)
  refine flo (ofInt_right i) (by decide) hj ?_ ?_
  · have := natAbs_le_of h1 h2
    rw [Nat.one_mul, Nat.pow_add]
    exact Nat.mul_le_mul_right _ this
  · rw [Rat.natCast_mul, e4, ← hxA]
    cases h : decide (i < 0) <;> simp only [if_true, if_false, Bool.false_eq_true] <;> simp <;> grind

theorem isFin_nan {x : UInt64} (h : IsFin x) : isNaN x = false := by
  obtain ⟨a, m, e, h⟩ := h
  unfold isNaN; rw [h]
theorem isFin_inf {x : UInt64} (h : IsFin x) : isInf x = false := by
  obtain ⟨a, m, e, h⟩ := h
  unfold isInf; rw [h]
theorem isFin_fin {x : UInt64} (h : IsFin x) : isFinite x = true := by
  obtain ⟨a, m, e, h⟩ := h
  unfold isFinite; rw [h]

theorem val_le_iff (x y : UInt64) : val x ≤ val y ↔ rv x ≤ rv y := by
  constructor
  · intro h
    refine Rat.le_of_mul_le_mul_right (c := UU) ?_ UU_pos
    rw [rv_mul, rv_mul]
    exact Rat.intCast_le_intCast.mpr h
  · intro h
    have := Rat.mul_le_mul_of_nonneg_right h (Rat.le_of_lt UU_pos)
    rw [rv_mul, rv_mul] at this
    exact Rat.intCast_le_intCast.mp this
theorem cmp_lt_iff {x y : UInt64} (hx : IsFin x) (hy : IsFin y) : (cmp x y == some .lt) = true ↔ rv x < rv y := by
  obtain ⟨a, m, e, hx⟩ := hx
  obtain ⟨b, k, f, hy⟩ := hy
  rw [cmp_right hx hy]
  have := val_le_iff y x
  rw [beq_iff_eq, Option.some.injEq, Int.compare_eq_lt]
  constructor
  · intro h
    have : ¬ rv y ≤ rv x := fun q => by have := this.mpr q; omega
    exact Rat.not_le.mp this
  · intro h
    have h2 : ¬ val y ≤ val x := fun q => by have := this.mp q; grind
    omega
theorem cmp_lt_f {x y : UInt64} (hx : IsFin x) (hy : IsFin y) : (cmp x y == some .lt) = false ↔ rv y ≤ rv x := by
  have := cmp_lt_iff hx hy
  constructor
  · intro h
    have h2 : ¬ rv x < rv y := fun q => by rw [this.mpr q] at h; cases h
    exact Rat.not_lt.mp h2
  · intro h
    cases q : (cmp x y == some .lt)
    · rfl
    · have := this.mp q; grind
theorem cmp_eq_iff {x y : UInt64} (hx : IsFin x) (hy : IsFin y) : (cmp x y == some .eq) = true ↔ rv x = rv y := by
  obtain ⟨a, m, e, hx⟩ := hx
  obtain ⟨b, k, f, hy⟩ := hy
  rw [cmp_right hx hy]
  have h1 := val_le_iff y x
  have h2 := val_le_iff x y
  rw [beq_iff_eq, Option.some.injEq, Int.compare_eq_eq]
  constructor
  · intro h
    exact Rat.le_antisymm (h2.mp (by omega)) (h1.mp (by omega))
  · intro h
    have a1 := h1.mpr (by rw [h]; exact Rat.le_refl)
    have a2 := h2.mpr (by rw [h]; exact Rat.le_refl)
    omega
theorem isZero_iff {x : UInt64} (hx : IsFin x) : isZero x = true ↔ rv x = 0 := by
  obtain ⟨a, m, e, hx⟩ := hx
  have hv := val_natAbs hx
  have h0 : rv x = 0 ↔ val x = 0 := by
    constructor
    · intro h
      have := rv_mul x
      rw [h, Rat.zero_mul] at this
      have h2 : ((0 : Int) : Rat) = (val x : Rat) := this
      exact (Rat.intCast_inj.mp h2).symm
    · intro h
      unfold rv; rw [h]; simp [Rat.div_def]
  rw [h0]
  unfold isZero
  rw [hx]
  constructor
  · intro h
    split at h
    · rename_i q; cases q; omega
    · cases h
  · intro h
    have hm : m * 2 ^ (e + 1074).toNat = 0 := by omega
    have hm : m = 0 := by
      rcases Nat.mul_eq_zero.mp hm with q | q
      · exact q
      · have := Nat.two_pow_pos (e + 1074).toNat; omega
    subst hm
    rfl
end Mine
end

section
namespace Mine
open PySem PySem.Float64

theorem rv_sgn {x : UInt64} {a : Bool} {m : Nat} {e : Int} (hx : decode x = .fin a m e) : rv x * UU = if a then -((m * 2 ^ (e + 1074).toNat : Nat) : Rat) else ((m * 2 ^ (e + 1074).toNat : Nat) : Rat) := by
  rw [rv_mul, val_eq hx, sgn_cast]

theorem trunc_of {x : UInt64} (hx : IsFin x) {i : Int} (h0 : 0 < rv x) (h1 : (i : Rat) ≤ rv x) (h2 : rv x < (i : Rat) + 1) : Flt.toInt truncOf x = i := by
  obtain ⟨a, m, e, hx⟩ := hx
  have hU := UU_pos
  have he := decode_ge hx
  have hv : 0 < val x := by
    have : (0 : Rat) < (val x : Rat) := by rw [← rv_mul]; exact Rat.mul_pos h0 hU
    exact_mod_cast this
  have hv2 := val_eq hx
  have ha : a = false := by
    cases a
    · rfl
    · unfold sgn at hv2; simp only [if_true] at hv2; omega
  subst ha
  unfold Flt.toInt
  rw [hx]
  show truncOf false m e = i
  have e4 : (((2 ^ 1074 : Nat) : Int) : Rat) = UU := rfl
  have k1 : i * ((2 ^ 1074 : Nat) : Int) ≤ val x := by
    apply Rat.intCast_le_intCast.mp
    rw [Rat.intCast_mul, e4, ← rv_mul]
    exact Rat.mul_le_mul_of_nonneg_right h1 (Rat.le_of_lt hU)
  have k2 : val x < (i + 1) * ((2 ^ 1074 : Nat) : Int) := by
    apply Rat.intCast_lt_intCast.mp
    rw [Rat.intCast_mul, e4, ← rv_mul, Rat.intCast_add]
    exact Rat.mul_lt_mul_of_pos_right h2 hU
  have hv3 : val x = ((m * 2 ^ (e + 1074).toNat : Nat) : Int) := by
    rw [hv2]; unfold sgn; simp
  rw [hv3] at k1 k2
  unfold truncOf floorOf sgn
  simp only [Bool.false_eq_true, if_false]
  split
  · rename_i hge
    have e1 : (e + 1074).toNat = e.toNat + 1074 := by omega
    rw [e1, Nat.pow_add, ← Nat.mul_assoc, Int.natCast_mul] at k1 k2
    have hP : (0 : Int) < ((2 ^ 1074 : Nat) : Int) := Int.ofNat_lt.mpr (Nat.two_pow_pos _)
    have l1 := Int.le_of_mul_le_mul_right k1 hP
    have l2 := Int.lt_of_mul_lt_mul_right k2 (Int.le_of_lt hP)
    have e2 : ((m * 2 ^ e.toNat : Nat) : Int) = (m : Int) * 2 ^ e.toNat := by simp
    rw [e2] at l1 l2
    omega
  · rename_i hlt
    have e1 : (2 ^ 1074 : Nat) = 2 ^ (-e).toNat * 2 ^ (e + 1074).toNat := by
      rw [← Nat.pow_add]
      exact congrArg (fun n => (2 : Nat) ^ n) (by omega)
    have hP : (0 : Int) < ((2 ^ (e + 1074).toNat : Nat) : Int) := Int.ofNat_lt.mpr (Nat.two_pow_pos _)
    rw [e1, Int.natCast_mul, Int.natCast_mul, ← Int.mul_assoc] at k1 k2
    have l1 := Int.le_of_mul_le_mul_right k1 hP
    have l2 := Int.lt_of_mul_lt_mul_right k2 (Int.le_of_lt hP)
    have hQ : (0 : Int) < ((2 ^ (-e).toNat : Nat) : Int) := Int.ofNat_lt.mpr (Nat.two_pow_pos _)
    have e2 : ((2 ^ (-e).toNat : Nat) : Int) = (2 : Int) ^ (-e).toNat := by simp
    rw [e2] at l1 l2 hQ
    rw [Int.fdiv_eq_ediv_of_nonneg _ (Int.le_of_lt hQ)]
    have m1 := (Int.le_ediv_iff_mul_le hQ).mpr l1
    have m2 := (Int.ediv_lt_iff_lt_mul hQ).mpr l2
    omega

set_option maxRecDepth 100000

theorem one_decode : decode 4607182418800017408 = .fin false 4503599627370496 (-52) := by kernel_rfl
theorem fmod_aux {x : UInt64} {a : Bool} {P Qn c : Nat} {g : Int} (hg1 : -1074 ≤ g) (hc : c = (g + 1074).toNat) (hQ : Qn * 2 ^ c = 2 ^ 1074) (hQpos : 0 < Qn)
    (hx2 : rv x * UU = if a then -((P * 2 ^ c : Nat) : Rat) else ((P * 2 ^ c : Nat) : Rat)) :
    IsFin (ofBin a (P % Qn) g) ∧ ∃ k : Int, -1 ≤ rv x - k ∧ rv x - k ≤ 1 ∧ Nr (rv x - k) (rv (ofBin a (P % Qn) g)) (ulp 6) := by
  have hU := UU_pos
  have hdm := Nat.div_add_mod P Qn
  have hlt := Nat.mod_lt P hQpos
  have hW : P % Qn * 2 ^ c ≤ 2 ^ 1074 := by
    rw [← hQ]; exact Nat.mul_le_mul_right _ (Nat.le_of_lt hlt)
  have hR : Right (ofBin a (P % Qn) g) a (P % Qn * 2 ^ c) 1 := by
    unfold ofBin
    refine ofFrac_right (shift_pos _ _ _ (by decide)) ?_ (by decide)
    have := shift_one (P % Qn) g 1074 (by omega)
    rw [Nat.mul_one, hc]
    exact this
  -- the exact remainder
  have e4 : ((2 ^ 1074 : Nat) : Rat) = UU := rfl
  have hsum : ((P * 2 ^ c : Nat) : Rat) = ((P / Qn : Nat) : Rat) * UU + ((P % Qn * 2 ^ c : Nat) : Rat) := by
    have : P * 2 ^ c = (P / Qn) * 2 ^ 1074 + P % Qn * 2 ^ c := by
      rw [← hQ, ← Nat.mul_assoc, ← Nat.add_mul, Nat.mul_comm (P / Qn), hdm]
    rw [this, Rat.natCast_add, Rat.natCast_mul, e4]
  have hWr : ((P % Qn * 2 ^ c : Nat) : Rat) ≤ UU := by
    rw [← e4]; exact Rat.natCast_le_natCast.mpr hW
  have hW0 : (0 : Rat) ≤ ((P % Qn * 2 ^ c : Nat) : Rat) := Rat.natCast_nonneg
  have hk : ((P / Qn : Nat) : Rat) = (((P / Qn : Nat) : Int) : Rat) := (Rat.intCast_natCast _).symm
  have fin := fun (w : Rat) (hw : w * UU * ((1 : Nat) : Rat) = if a then -((P % Qn * 2 ^ c : Nat) : Rat) else ((P % Qn * 2 ^ c : Nat) : Rat)) =>
    flo hR (by decide) (j := 6) (by decide) (w := w) (by rw [Nat.one_mul]; exact Nat.le_trans hW (Nat.pow_le_pow_right (by decide) (by decide))) hw
  rw [hk] at hsum
  clear hR hW hlt hdm
  revert fin hWr hW0 hsum hx2
  generalize ((P % Qn * 2 ^ c : Nat) : Rat) = W
  generalize ((P * 2 ^ c : Nat) : Rat) = Z
  generalize ((P / Qn : Nat) : Int) = k
  intro hx2 hsum hW0 hWr fin
  have hle : ∀ t : Rat, 0 ≤ t * UU → 0 ≤ t := fun t ht => by
    refine Rat.le_of_mul_le_mul_right (c := UU) ?_ hU
    rw [Rat.zero_mul]; exact ht
  clear hQ hQpos hc hg1 e4 hk
  cases a
  · simp only [Bool.false_eq_true, if_false] at hx2 fin
    have hw : (rv x - (k : Rat)) * UU = W := by grind
    obtain ⟨f1, f2⟩ := fin (rv x - (k : Rat)) (by rw [hw]; simp)
    refine ⟨f1, k, ?_, ?_, f2⟩
    · have := hle (rv x - (k : Rat) + 1) (by grind)
      grind
    · have := hle (1 - (rv x - (k : Rat))) (by grind)
      grind
  · simp only [if_true] at hx2 fin
    have hc : ((-k : Int) : Rat) = -(k : Rat) := Rat.intCast_neg _
    have hw : (rv x - ((-k : Int) : Rat)) * UU = -W := by rw [hc]; grind
    obtain ⟨f1, f2⟩ := fin (rv x - ((-k : Int) : Rat)) (by rw [hw]; simp)
    refine ⟨f1, -k, ?_, ?_, f2⟩
    · have := hle (rv x - ((-k : Int) : Rat) + 1) (by grind)
      grind
    · have := hle (1 - (rv x - ((-k : Int) : Rat))) (by grind)
      grind

theorem fmod_one {x : UInt64} (hx : IsFin x) :
    IsFin (fmod x 4607182418800017408) ∧ ∃ k : Int, -1 ≤ rv x - k ∧ rv x - k ≤ 1 ∧ Nr (rv x - k) (rv (fmod x 4607182418800017408)) (ulp 6) := by
  obtain ⟨a, m, e, hx⟩ := hx
  have he := decode_ge hx
  have hf : fmod x 4607182418800017408 = ofBin a (m * 2 ^ (e - min e (-52)).toNat % (4503599627370496 * 2 ^ (-52 - min e (-52)).toNat)) (min e (-52)) := by
    unfold fmod
    rw [hx, one_decode]
    rfl
  rw [hf]
  have hg1 : -1074 ≤ min e (-52) := by omega
  refine fmod_aux hg1 rfl ?_ ?_ ?_
  · have : (4503599627370496 : Nat) = 2 ^ 52 := by decide
    rw [this, ← Nat.pow_add, ← Nat.pow_add]
    exact congrArg (fun n => (2 : Nat) ^ n) (by omega)
  · exact Nat.mul_pos (by decide) (Nat.two_pow_pos _)
  · rw [rv_sgn hx]
    have hP : m * 2 ^ (e - min e (-52)).toNat * 2 ^ (min e (-52) + 1074).toNat = m * 2 ^ (e + 1074).toNat := by
      rw [Nat.mul_assoc, ← Nat.pow_add]
      congr 2; omega
    rw [hP]

theorem zero_fin : IsFin (zero false) ∧ rv (zero false) = 0 := by
  refine ⟨isFin_pack _ (by decide), ?_⟩
  unfold rv zero
  rw [val_pack _ (by decide), V_zero]
  unfold sgn
  simp [Rat.div_def]
/-- a float of a written size -/
theorem rv_of {x : UInt64} {a : Bool} {m : Nat} {e : Int} {n d : Nat} (hx : decode x = .fin a m e) (hd : 0 < d) (h : m * 2 ^ (e + 1074).toNat * d = n * 2 ^ 1074) : IsFin x ∧ rv x * d = if a then -(n : Rat) else n := by
  refine ⟨⟨_, _, _, hx⟩, ?_⟩
  have h1 := rv_sgn hx
  have hU := UU_pos
  have e4 : ((2 ^ 1074 : Nat) : Rat) = UU := rfl
  have h2 : ((m * 2 ^ (e + 1074).toNat : Nat) : Rat) * (d : Rat) = (n : Rat) * UU := by
    rw [← e4, ← Rat.natCast_mul, ← Rat.natCast_mul, h]
  generalize ((m * 2 ^ (e + 1074).toNat : Nat) : Rat) = W at *
  have h3 : (rv x * d - (if a then -(n : Rat) else n)) * UU = 0 := by
    cases a <;> simp only [if_true, if_false, Bool.false_eq_true] at h1 ⊢ <;> grind
  rcases Rat.mul_eq_zero.mp h3 with q | q <;> grind
theorem k_one : IsFin 4607182418800017408 ∧ rv 4607182418800017408 = 1 := by
  have := rv_of (n := 1) (d := 1) one_decode (by decide) (by decide +kernel)
  refine ⟨this.1, ?_⟩
  have h := this.2
  simp at h
  grind
end Mine
end

section
namespace Mine
open PySem PySem.Float64
set_option maxRecDepth 100000

theorem pow6 : ((2 ^ 6 : Nat) : Rat) = 64 := by simp
theorem pow21 : ((2 ^ 21 : Nat) : Rat) = 2097152 := by simp
/-- the rounding's bound below 64; what the colours are told within -/
def ru : Rat := 1 / 140737488355328
def tt : Rat := 1 / 100000000000
theorem ru0 : 0 ≤ ru := by unfold ru; grind
theorem ru1 : 1000000000000 * ru ≤ 1 := by unfold ru; grind
theorem rutt : 1000 * ru ≤ tt := by unfold ru tt; grind
theorem tt1 : 100000000000 * tt = 1 := by unfold tt; grind
theorem ulp_ru : ulp 6 = ru := ulp_6
/-- an operation below 64 -/
theorem add64 {x y : UInt64} (hx : IsFin x) (hy : IsFin y) (h1 : -64 ≤ rv x + rv y) (h2 : rv x + rv y ≤ 64) :
    IsFin (add x y) ∧ rv x + rv y - ru ≤ rv (add x y) ∧ rv (add x y) ≤ rv x + rv y + ru :=
  ulp_ru ▸ add_near 6 (by decide) hx hy (by rw [pow6]; exact h1) (by rw [pow6]; exact h2)
theorem sub64 {x y : UInt64} (hx : IsFin x) (hy : IsFin y) (h1 : -64 ≤ rv x - rv y) (h2 : rv x - rv y ≤ 64) :
    IsFin (sub x y) ∧ rv x - rv y - ru ≤ rv (sub x y) ∧ rv (sub x y) ≤ rv x - rv y + ru :=
  ulp_ru ▸ sub_near 6 (by decide) hx hy (by rw [pow6]; exact h1) (by rw [pow6]; exact h2)
theorem mul64 {x y : UInt64} (hx : IsFin x) (hy : IsFin y) {p : Rat} (hp : rv x * rv y = p) (h1 : -64 ≤ p) (h2 : p ≤ 64) :
    IsFin (mul x y) ∧ p - ru ≤ rv (mul x y) ∧ rv (mul x y) ≤ p + ru := by
  subst hp
  exact ulp_ru ▸ mul_near 6 (by decide) hx hy (by rw [pow6]; exact h1) (by rw [pow6]; exact h2)
theorem div64 {x y : UInt64} (hx : IsFin x) (hy : IsFin y) (hy0 : rv y ≠ 0) {q : Rat} (hq : q * rv y = rv x) (h1 : -64 ≤ q) (h2 : q ≤ 64) :
    IsFin (div x y) ∧ q - ru ≤ rv (div x y) ∧ rv (div x y) ≤ q + ru :=
  ulp_ru ▸ div_near 6 (by decide) hx hy hy0 hq (by rw [pow6]; exact h1) (by rw [pow6]; exact h2)
theorem ofInt64 {i : Int} (h1 : -64 ≤ i) (h2 : i ≤ 64) :
    IsFin (ofInt i) ∧ (i : Rat) - ru ≤ rv (ofInt i) ∧ rv (ofInt i) ≤ (i : Rat) + ru := by
  have q1 : ((-64 : Int) : Rat) ≤ (i : Rat) := Rat.intCast_le_intCast.mpr h1
  have q2 : (i : Rat) ≤ ((64 : Int) : Rat) := Rat.intCast_le_intCast.mpr h2
  exact ulp_ru ▸ ofInt_near 6 (by decide) (i := i) (by rw [pow6]; exact q1) (by rw [pow6]; exact q2)

theorem lit_of {x : UInt64} {m : Nat} {e : Int} {n : Nat} (hx : decode x = .fin false m e) (h : m * 2 ^ (e + 1074).toNat * 1 = n * 2 ^ 1074) : IsFin x ∧ rv x = (n : Rat) := by
  have := rv_of (n := n) (d := 1) hx (by decide) h
  refine ⟨this.1, ?_⟩
  have h2 := this.2
  simp at h2
  exact h2
theorem k_two : IsFin 4611686018427387904 ∧ rv 4611686018427387904 = 2 := lit_of (m := 4503599627370496) (e := -51) (n := 2) (by kernel_rfl) (by decide +kernel)
theorem k_four : IsFin 4616189618054758400 ∧ rv 4616189618054758400 = 4 := lit_of (m := 4503599627370496) (e := -50) (n := 4) (by kernel_rfl) (by decide +kernel)
theorem k_six : IsFin 4618441417868443648 ∧ rv 4618441417868443648 = 6 := lit_of (m := 6755399441055744) (e := -50) (n := 6) (by kernel_rfl) (by decide +kernel)
theorem k_ten : IsFin 4621819117588971520 ∧ rv 4621819117588971520 = 10 := lit_of (m := 5629499534213120) (e := -49) (n := 10) (by kernel_rfl) (by decide +kernel)
theorem k_zero : IsFin 0 ∧ rv 0 = 0 := lit_of (m := 0) (e := -1074) (n := 0) (by kernel_rfl) (by decide +kernel)
/-- a float near n over d -/
theorem frac_of {x : UInt64} {m : Nat} {e : Int} {n d k c : Nat} (hx : decode x = .fin false m e) (hd : 0 < d) (h : m * 2 ^ (e + 1074).toNat * d = n * 2 ^ 1074) (hc : 0 < c) (h1 : n * c * 140737488355328 ≤ k * d * 140737488355328 + c * d) (h2 : k * d * 140737488355328 ≤ n * c * 140737488355328 + c * d) :
    IsFin x ∧ (k : Rat) - c * ru ≤ c * rv x ∧ c * rv x ≤ k + c * ru := by
  have q := rv_of (n := n) (d := d) hx hd h
  refine ⟨q.1, ?_⟩
  have h3 := q.2
  simp only [Bool.false_eq_true, if_false] at h3
  have h1' := Rat.natCast_le_natCast.mpr h1
  have h2' := Rat.natCast_le_natCast.mpr h2
  have hd' : (0 : Rat) < (d : Rat) := by exact_mod_cast hd
  have hr : ru * 140737488355328 = 1 := by unfold ru; grind
  have cc : ((140737488355328 : Nat) : Rat) = 140737488355328 := rfl
  simp only [Rat.natCast_add, Rat.natCast_mul, cc] at h1' h2'
  clear h h1 h2 hx hc
  generalize (n : Rat) = n at *
  generalize (d : Rat) = d at *
  generalize (k : Rat) = k at *
  generalize (c : Rat) = c at *
  generalize rv x = x at *
  have e1 : (k - c * ru) * (d * 140737488355328) = k * d * 140737488355328 - c * d * (ru * 140737488355328) := by grind
  have e2 : (k + c * ru) * (d * 140737488355328) = k * d * 140737488355328 + c * d * (ru * 140737488355328) := by grind
  have e3 : c * x * (d * 140737488355328) = x * d * c * 140737488355328 := by grind
  have hp : 0 < d * 140737488355328 := by grind
  constructor
  · refine Rat.le_of_mul_le_mul_right (c := d * 140737488355328) ?_ hp
    rw [e1, e3, hr, h3]; grind
  · refine Rat.le_of_mul_le_mul_right (c := d * 140737488355328) ?_ hp
    rw [e2, e3, hr, h3]; grind
theorem k_half : IsFin 4602678819172646912 ∧ rv 4602678819172646912 = 1 / 2 := by
  have := rv_of (x := 4602678819172646912) (a := false) (m := 4503599627370496) (e := -53) (n := 1) (d := 2) (by kernel_rfl) (by decide) (by decide +kernel)
  refine ⟨this.1, ?_⟩
  have h2 := this.2
  simp at h2
  grind
theorem k_third : IsFin 4599676419421066581 ∧ 1 - 3 * ru ≤ 3 * rv 4599676419421066581 ∧ 3 * rv 4599676419421066581 ≤ 1 + 3 * ru :=
  frac_of (m := 6004799503160661) (e := -54) (n := 6004799503160661) (d := 18014398509481984) (k := 1) (c := 3) (by kernel_rfl) (by decide) (by decide +kernel) (by decide) (by decide +kernel) (by decide +kernel)
theorem k_sixth : IsFin 4595172819793696085 ∧ 1 - 6 * ru ≤ 6 * rv 4595172819793696085 ∧ 6 * rv 4595172819793696085 ≤ 1 + 6 * ru :=
  frac_of (m := 6004799503160661) (e := -55) (n := 6004799503160661) (d := 36028797018963968) (k := 1) (c := 6) (by kernel_rfl) (by decide) (by decide +kernel) (by decide) (by decide +kernel) (by decide +kernel)
theorem k_2third : IsFin 4604180019048437077 ∧ 2 - 3 * ru ≤ 3 * rv 4604180019048437077 ∧ 3 * rv 4604180019048437077 ≤ 2 + 3 * ru :=
  frac_of (m := 6004799503160661) (e := -53) (n := 6004799503160661) (d := 9007199254740992) (k := 2) (c := 3) (by kernel_rfl) (by decide) (by decide +kernel) (by decide) (by decide +kernel) (by decide +kernel)

theorem isZero_f {x : UInt64} (hx : IsFin x) (h : rv x ≠ 0) : isZero x = false := by
  cases q : isZero x
  · rfl
  · exact absurd ((isZero_iff hx).mp q) h

theorem frac_aux {m : UInt64} {z : Rat} (f1 : IsFin m) (h1 : -1 ≤ z) (h2 : z ≤ 1) (h3 : z - ru ≤ rv m) (h4 : rv m ≤ z + ru) {R : UInt64}
    (hR : R = if isZero m then copysign (zero false) 4607182418800017408 else if lt 4607182418800017408 (zero false) != lt m (zero false) then add m 4607182418800017408 else m) :
    IsFin R ∧ ((z - 3 * ru ≤ rv R ∧ rv R ≤ z + 3 * ru) ∨ (z + 1 - 3 * ru ≤ rv R ∧ rv R ≤ z + 1 + 3 * ru)) ∧ -3 * ru ≤ rv R ∧ rv R ≤ 1 + 3 * ru := by
  have u0 := ru0
  have u1 := ru1
  have hl : lt 4607182418800017408 (zero false) = false := by decide +kernel
  rw [hl] at hR
  cases hz : isZero m <;> rw [hz] at hR
  · cases hm : lt m (zero false) <;> rw [hm] at hR
    · have hm2 := (cmp_lt_f f1 zero_fin.1).mp hm
      rw [zero_fin.2] at hm2
      rw [show R = m from hR]
      exact ⟨f1, .inl ⟨by grind, by grind⟩, by grind, by grind⟩
    · have hm2 := (cmp_lt_iff f1 zero_fin.1).mp hm
      rw [zero_fin.2] at hm2
      obtain ⟨a1, a2, a3⟩ := add64 f1 k_one.1 (by rw [k_one.2]; grind) (by rw [k_one.2]; grind)
      rw [k_one.2] at a2 a3
      rw [show R = add m 4607182418800017408 from hR]
      exact ⟨a1, .inr ⟨by grind, by grind⟩, by grind, by grind⟩
  · have hc : copysign (zero false) 4607182418800017408 = zero false := by decide +kernel
    have hr := (isZero_iff f1).mp hz
    rw [show R = _ from hR, if_pos rfl, hc, zero_fin.2]
    exact ⟨zero_fin.1, .inl ⟨by grind, by grind⟩, by grind, by grind⟩
/-- the remainder by 1.0 -/
theorem frac_near {x : UInt64} (hx : IsFin x) : IsFin (divmod x 4607182418800017408).snd ∧ ∃ k : Int,
    rv x - k - 3 * ru ≤ rv (divmod x 4607182418800017408).snd ∧ rv (divmod x 4607182418800017408).snd ≤ rv x - k + 3 * ru ∧ -3 * ru ≤ rv (divmod x 4607182418800017408).snd ∧ rv (divmod x 4607182418800017408).snd ≤ 1 + 3 * ru := by
  obtain ⟨f1, k, h1, h2, h3⟩ := fmod_one hx
  rw [ulp_ru] at h3
  obtain ⟨f, o, l⟩ := frac_aux f1 h1 h2 h3.1 h3.2 (R := (divmod x 4607182418800017408).snd) (by
    unfold divmod
    dsimp only
    split
    · rfl
    · split <;> rfl)
  refine ⟨f, ?_⟩
  rcases o with o | o
  · exact ⟨k, o.1, o.2, l⟩
  · have hc : rv x - ((k - 1 : Int) : Rat) = rv x - k + 1 := by rw [Rat.intCast_sub]; have : ((1 : Int) : Rat) = 1 := rfl; rw [this]; grind
    exact ⟨k - 1, by rw [hc]; exact o.1, by rw [hc]; exact o.2, l⟩
end Mine
end

section
namespace Mine
open PySem PySem.Float64
set_option maxRecDepth 100000

/-- the tent of _v -/
def tv (y : Rat) : Rat := if 6 * y < 1 then 6 * y else if 6 * y < 3 then 1 else if 6 * y < 4 then 4 - 6 * y else 0
/-- the tent, sixth by sixth -/
def tj (j : Int) (t : Rat) : Rat := if j = 0 then t else if j = 1 then 1 else if j = 2 then 1 else if j = 3 then 1 - t else 0
theorem tj_flip (j : Int) (t : Rat) (h : 0 ≤ j) (h2 : j < 6) : tj ((3 - j) % 6) (1 - t) = tj j t := by
  have e : 1 - (1 - t) = t := by grind
  rcases six6 h h2 with rfl | rfl | rfl | rfl | rfl | rfl <;> first | rfl | exact e

/-- within e -/
abbrev Wi (x y e : Rat) : Prop := x - e ≤ y ∧ y ≤ x + e
theorem tv_up {y t e : Rat} (t1 : t ≤ 1) (e0 : 0 ≤ e) (e1 : 100 * e ≤ 1) (z0 : t - e ≤ 6 * y) (z1 : 6 * y ≤ t + e) : Wi t (tv y) (4 * e) := by
  unfold tv
  generalize 6 * y = z at *
  split
  · constructor <;> grind
  · rw [if_pos (by grind)]; constructor <;> grind
theorem tv_one {y e : Rat} (e0 : 0 ≤ e) (e1 : 100 * e ≤ 1) (z0 : 1 - e ≤ 6 * y) (z1 : 6 * y ≤ 3 + e) : Wi 1 (tv y) (4 * e) := by
  unfold tv
  generalize 6 * y = z at *
  split
  · constructor <;> grind
  · split
    · constructor <;> grind
    · rw [if_pos (by grind)]; constructor <;> grind
theorem tv_down {y t e : Rat} (t0 : -e ≤ t) (t1 : t ≤ 1 + e) (e0 : 0 ≤ e) (e1 : 100 * e ≤ 1) (z0 : 3 + t - e ≤ 6 * y) (z1 : 6 * y ≤ 3 + t + e) : Wi (1 - t) (tv y) (4 * e) := by
  unfold tv
  generalize 6 * y = z at *
  rw [if_neg (by grind)]; split
  · constructor <;> grind
  · split
    · constructor <;> grind
    · constructor <;> grind
theorem tv_far {y t e : Rat} (e0 : 0 ≤ e) (e1 : 100 * e ≤ 1) (z0 : 4 - e ≤ 6 * y) (t0 : 0 ≤ t) (t1 : t ≤ 2 * e) : Wi t (tv y) (4 * e) := by
  unfold tv
  generalize 6 * y = z at *
  rw [if_neg (by grind), if_neg (by grind)]; split
  · constructor <;> grind
  · constructor <;> grind
theorem tj_near {y t e : Rat} {j : Int} (t0 : 0 ≤ t) (t1 : t ≤ 1) (e0 : 0 ≤ e) (e1 : 100 * e ≤ 1) (y0 : -e ≤ 6 * y) (y1 : 6 * y ≤ 6 + e) (z0 : j + t - e ≤ 6 * y) (z1 : 6 * y ≤ j + t + e) :
    Wi (tj (j % 6) t) (tv y) (4 * e) := by
  have a1 : ((-2 : Int) : Rat) < (j : Rat) := by have c : ((-2 : Int) : Rat) = -2 := rfl; rw [c]; grind
  have a2 : (j : Rat) < ((7 : Int) : Rat) := by have c : ((7 : Int) : Rat) = 7 := rfl; rw [c]; grind
  have b1 := Rat.intCast_lt_intCast.mp a1
  have b2 := Rat.intCast_lt_intCast.mp a2
  clear a1 a2
  have hj : j = -1 ∨ (j = 0 ∨ j = 1 ∨ j = 2 ∨ j = 3 ∨ j = 4 ∨ j = 5) ∨ j = 6 := by
    rcases dn (k := 6) b2 with h | h
    · rcases Int.lt_or_le j 0 with h2 | h2
      · exact .inl (Int.le_antisymm (Int.le_of_lt_add_one h2) b1)
      · exact .inr (.inl (six6 h2 h))
    · exact .inr (.inr h)
  clear b1 b2
  have h0 := Rat.mul_nonneg (show (0 : Rat) ≤ 2 by decide) e0
  rcases hj with rfl | (rfl | rfl | rfl | rfl | rfl | rfl) | rfl
  · have c : ((-1 : Int) : Rat) = -1 := rfl
    rw [c] at z0 z1
    exact tv_up (t := 0) (by decide) e0 e1 (by grind) (by grind)
  · have c : ((0 : Int) : Rat) + t = t := Rat.zero_add t
    rw [c] at z0 z1
    exact tv_up t1 e0 e1 z0 z1
  · have c : ((1 : Int) : Rat) = 1 := rfl
    rw [c] at z0 z1
    exact tv_one e0 e1 (by grind) (by grind)
  · have c : ((2 : Int) : Rat) = 2 := rfl
    rw [c] at z0 z1
    exact tv_one e0 e1 (by grind) (by grind)
  · exact tv_down (by grind) (by grind) e0 e1 z0 z1
  · have c : ((4 : Int) : Rat) = 4 := rfl
    rw [c] at z0 z1
    exact tv_far e0 e1 (by grind) Rat.le_refl h0
  · have c : ((5 : Int) : Rat) = 5 := rfl
    rw [c] at z0 z1
    exact tv_far e0 e1 (by grind) Rat.le_refl h0
  · have c : ((6 : Int) : Rat) = 6 := rfl
    rw [c] at z0 z1
    exact tv_far (t := t) e0 e1 (by grind) t0 (by grind)

theorem sub_one_zero : Float64.sub 4607182418800017408 0 = 4607182418800017408 := by decide +kernel
/-- six times, as _v reckons it -/
theorem six_near {m : UInt64} (hm : IsFin m) (h1 : -2 ≤ rv m) (h2 : rv m ≤ 2) :
    IsFin (add 0 (mul (mul 4607182418800017408 m) 4618441417868443648)) ∧ Wi (6 * rv m) (rv (add 0 (mul (mul 4607182418800017408 m) 4618441417868443648))) (8 * ru) := by
  have u0 := ru0
  have u1 := ru1
  obtain ⟨b1, b2, b3⟩ := mul64 k_one.1 hm (p := rv m) (by rw [k_one.2, Rat.one_mul]) (by grind) (by grind)
  obtain ⟨c1, c2, c3⟩ := mul64 b1 k_six.1 (p := 6 * rv (mul 4607182418800017408 m)) (by rw [k_six.2, Rat.mul_comm]) (by grind) (by grind)
  obtain ⟨d1, d2, d3⟩ := add64 k_zero.1 c1 (by rw [k_zero.2]; grind) (by rw [k_zero.2]; grind)
  rw [k_zero.2] at d2 d3
  exact ⟨d1, by grind, by grind⟩
theorem vF_near {c : UInt64} (hc : IsFin c) : IsFin (vF 0 4607182418800017408 c) ∧ ∃ (k : Int) (y : Rat), Wi (rv c - k) y (3 * ru) ∧
    -3 * ru ≤ y ∧ y ≤ 1 + 3 * ru ∧ Wi (tv y) (rv (vF 0 4607182418800017408 c)) (60 * ru) := by
  obtain ⟨f1, k, h3, h4, h5, h6⟩ := frac_near hc
  suffices IsFin (vF 0 4607182418800017408 c) ∧ Wi (tv (rv (divmod c 4607182418800017408).snd)) (rv (vF 0 4607182418800017408 c)) (60 * ru) from
    ⟨this.1, k, _, ⟨h3, h4⟩, h5, h6, this.2⟩
  clear h3 h4 hc
  unfold vF
  rw [sub_one_zero]
  generalize (divmod c 4607182418800017408).snd = m at *
  have u0 := ru0
  have u1 := ru1
  obtain ⟨s1, s2, s3⟩ := k_sixth
  obtain ⟨t1, t2, t3⟩ := k_2third
  cases c1 : (cmp m 4595172819793696085 == some .lt)
  · rw [cond_f rfl]
    have l1 := (cmp_lt_f f1 s1).mp c1
    cases c2 : (cmp m 4602678819172646912 == some .lt)
    · rw [cond_f rfl]
      have l2 := (cmp_lt_f f1 k_half.1).mp c2
      rw [k_half.2] at l2
      have l2 : 3 ≤ 6 * rv m := by grind
      cases c3 : (cmp m 4604180019048437077 == some .lt)
      · rw [cond_f rfl, k_zero.2]
        have l3 := (cmp_lt_f f1 t1).mp c3
        have l3 : 4 - 6 * ru ≤ 6 * rv m := by grind
        obtain ⟨m1, m2⟩ := tv_far (y := rv m) (t := 0) (e := 6 * ru) (by grind) (by grind) l3 Rat.le_refl (by grind)
        exact ⟨k_zero.1, by grind, by grind⟩
      · rw [cond_t rfl]
        have l3 := (cmp_lt_iff f1 t1).mp c3
        obtain ⟨a1, a2, a3⟩ := sub64 t1 f1 (by grind) (by grind)
        obtain ⟨g1, g2, g3⟩ := six_near a1 (by grind) (by grind)
        obtain ⟨m1, m2⟩ := tv_down (y := rv m) (t := 6 * rv m - 3) (e := 6 * ru) (by grind) (by grind) (by grind) (by grind) (by grind) (by grind)
        exact ⟨g1, by grind, by grind⟩
    · rw [cond_t rfl, k_one.2]
      have l2 := (cmp_lt_iff f1 k_half.1).mp c2
      rw [k_half.2] at l2
      obtain ⟨m1, m2⟩ := tv_one (y := rv m) (e := 6 * ru) (by grind) (by grind) (by grind) (by grind)
      exact ⟨k_one.1, by grind, by grind⟩
  · rw [cond_t rfl]
    have l1 := (cmp_lt_iff f1 s1).mp c1
    obtain ⟨g1, g2, g3⟩ := six_near f1 (by grind) (by grind)
    obtain ⟨m1, m2⟩ := tv_up (y := rv m) (t := 6 * rv m - 6 * ru) (e := 6 * ru) (by grind) (by grind) (by grind) (by grind) (by grind)
    exact ⟨g1, by grind, by grind⟩
/-- one part of the colour -/
theorem chan {c : UInt64} (hc : IsFin c) {t : Rat} {j : Int} (t0 : 0 ≤ t) (t1 : t ≤ 1) (h0 : j + t - 40 * ru ≤ 6 * rv c) (h1 : 6 * rv c ≤ j + t + 40 * ru) :
    IsFin (vF 0 4607182418800017408 c) ∧ Wi (tj (j % 6) t) (rv (vF 0 4607182418800017408 c)) tt := by
  obtain ⟨f, k, y, ⟨a1, a2⟩, a3, a4, a5, a6⟩ := vF_near hc
  have u0 := ru0
  have u1 := ru1
  have c : ((j - 6 * k : Int) : Rat) = j - 6 * k := by rw [Rat.intCast_sub, Rat.intCast_mul]; rfl
  obtain ⟨m1, m2⟩ := tj_near (y := y) (j := j - 6 * k) (e := 60 * ru) t0 t1 (by grind) (by grind) (by grind) (by grind) (by rw [c]; grind) (by rw [c]; grind)
  have e : (j - 6 * k) % 6 = j % 6 := by omega
  rw [e] at m1 m2
  have u2 := rutt
  exact ⟨f, by grind, by grind⟩
end Mine
end

section
namespace Mine
open PySem PySem.Float64
set_option maxRecDepth 100000

/-- a colour that is the pure one at sixth j and t, but for tt -/
structure NearJ (j : Int) (t : Rat) (r g b : UInt64) : Prop where
  j0 : 0 ≤ j
  j1 : j < 6
  t0 : -tt ≤ t
  t1 : t ≤ 1 + tt
  fr : IsFin r
  fg : IsFin g
  fb : IsFin b
  r : Wi (tj ((j + 2) % 6) t) (rv r) tt
  g : Wi (tj (j % 6) t) (rv g) tt
  b : Wi (tj ((j - 2) % 6) t) (rv b) tt
def Near (x : Rat) (r g b : UInt64) : Prop := ∃ (j : Int) (t : Rat), 6 * x = j + t ∧ NearJ j t r g b

theorem Near.swap {x : Rat} {r g b : UInt64} (N : Near x r g b) : Near (1 - x) r b g := by
  obtain ⟨j, t, hx, j0, j1, t0, t1, fr, fg, fb, hr, hg, hb⟩ := N
  have c5 : ((5 - j : Int) : Rat) = 5 - j := by rw [Rat.intCast_sub]; rfl
  refine ⟨5 - j, 1 - t, by rw [c5]; grind, by omega, by omega, by grind, by grind, fr, fb, fg, ?_, ?_, ?_⟩
  · have := tj_flip ((j + 2) % 6) t (by omega) (by omega)
    rw [show (5 - j + 2) % 6 = (3 - (j + 2) % 6) % 6 by omega, this]
    exact hr
  · have := tj_flip ((j - 2) % 6) t (by omega) (by omega)
    rw [show (5 - j) % 6 = (3 - (j - 2) % 6) % 6 by omega, this]
    exact hb
  · have := tj_flip (j % 6) t (by omega) (by omega)
    rw [show (5 - j - 2) % 6 = (3 - j % 6) % 6 by omega, this]
    exact hg

theorem exists_floor (q : Rat) : ∃ i : Int, (i : Rat) ≤ q ∧ q < i + 1 := by
  refine ⟨q.floor, Rat.floor_le q, ?_⟩
  have := Rat.lt_floor (x := q)
  grind

/-- hls_to_rgb paints the pure colour -/
theorem hls_near {h : UInt64} (hf : IsFin h) {X x : Rat} {K : Int} (hX : Wi X (rv h) ru) (b1 : -20 ≤ X) (b2 : X ≤ 20) (hx : x = X - K) (x0 : 0 ≤ x) (x1 : x < 1) :
    Near x (hlsR h) (hlsG h) (hlsB h) := by
  obtain ⟨h1, h2⟩ := hX
  have u0 := ru0
  have u1 := ru1
  have u2 := rutt
  obtain ⟨j, i1, i2⟩ := exists_floor (6 * x)
  have j0 : -1 < j := by
    have : ((-1 : Int) : Rat) < (j : Rat) := by have : ((-1 : Int) : Rat) = -1 := rfl; rw [this]; grind
    exact Rat.intCast_lt_intCast.mp this
  have j1 : j < 6 := by
    have : (j : Rat) < ((6 : Int) : Rat) := by have : ((6 : Int) : Rat) = 6 := rfl; rw [this]; grind
    exact Rat.intCast_lt_intCast.mp this
  obtain ⟨t1, t2, t3⟩ := k_third
  obtain ⟨a1, a2, a3⟩ := add64 hf t1 (by grind) (by grind)
  obtain ⟨s1, s2, s3⟩ := sub64 hf t1 (by grind) (by grind)
  have c0 : ((j + 6 * K : Int) : Rat) = j + 6 * K := by rw [Rat.intCast_add, Rat.intCast_mul]; rfl
  have c1 : ((j + 6 * K + 2 : Int) : Rat) = j + 6 * K + 2 := by rw [Rat.intCast_add, c0]; rfl
  have c2 : ((j + 6 * K - 2 : Int) : Rat) = j + 6 * K - 2 := by rw [Rat.intCast_sub, c0]; rfl
  have T0 : 0 ≤ 6 * x - j := by grind
  have T1 : 6 * x - j ≤ 1 := by grind
  have m1 := chan a1 (j := j + 6 * K + 2) T0 T1 (by rw [c1]; grind) (by rw [c1]; grind)
  have m2 := chan hf (j := j + 6 * K) T0 T1 (by rw [c0]; grind) (by rw [c0]; grind)
  have m3 := chan s1 (j := j + 6 * K - 2) T0 T1 (by rw [c2]; grind) (by rw [c2]; grind)
  rw [show (j + 6 * K + 2) % 6 = (j + 2) % 6 by omega] at m1
  rw [show (j + 6 * K) % 6 = j % 6 by omega] at m2
  rw [show (j + 6 * K - 2) % 6 = (j - 2) % 6 by omega] at m3
  exact ⟨j, 6 * x - j, by grind, by omega, j1, by grind, by grind, m1.1, m2.1, m3.1, m1.2, m2.2, m3.2⟩

theorem sub_one_one : Float64.mul 4607182418800017408 (Float64.sub 4607182418800017408 4607182418800017408) = 0 := by decide +kernel
/-- what is left to one, as hsv_to_rgb reckons it -/
theorem left_near {m : UInt64} (hm : IsFin m) (h1 : -1 ≤ rv m) (h2 : rv m ≤ 2) :
    IsFin (mul 4607182418800017408 (sub 4607182418800017408 (mul 4607182418800017408 m))) ∧ Wi (1 - rv m) (rv (mul 4607182418800017408 (sub 4607182418800017408 (mul 4607182418800017408 m)))) (3 * ru) := by
  have u0 := ru0
  have u1 := ru1
  obtain ⟨b1, b2, b3⟩ := mul64 k_one.1 hm (p := rv m) (by rw [k_one.2, Rat.one_mul]) (by grind) (by grind)
  obtain ⟨c1, c2, c3⟩ := sub64 k_one.1 b1 (by rw [k_one.2]; grind) (by rw [k_one.2]; grind)
  rw [k_one.2] at c2 c3
  obtain ⟨d1, d2, d3⟩ := mul64 k_one.1 c1 (p := rv (sub 4607182418800017408 (mul 4607182418800017408 m))) (by rw [k_one.2, Rat.one_mul]) (by grind) (by grind)
  exact ⟨d1, by grind, by grind⟩
theorem Wi.mono {x y z e f : Rat} (h : Wi x y e) (h0 : x = z) (h1 : e ≤ f) : Wi z y f := by
  subst h0
  obtain ⟨a, b⟩ := h
  exact ⟨by grind, by grind⟩

/-- hsv_to_rgb paints the pure colour -/
theorem hsv_near {h : UInt64} (hf : IsFin h) {X x : Rat} {K : Int} (hX : Wi X (rv h) ru) (b1 : 1 ≤ 2000000 * X) (b2 : X ≤ 10) (hx : x = X - K) (x0 : 1 ≤ 2000000 * x) (x1 : 2000000 * x ≤ 1999999) :
    IsFin (mul h 4618441417868443648) ∧ (Flt.toInt truncOf (mul h 4618441417868443648)).natAbs < 100 ∧ Near x (hsvR h) (hsvG h) (hsvB h) := by
  obtain ⟨h1, h2⟩ := hX
  have u0 := ru0
  have u1 := ru1
  obtain ⟨f1, f2, f3⟩ := mul64 hf k_six.1 (p := 6 * rv h) (by rw [k_six.2, Rat.mul_comm]) (by grind) (by grind)
  obtain ⟨i, i1, i2⟩ := exists_floor (rv (mul h 4618441417868443648))
  have hi := trunc_of f1 (i := i) (by grind) i1 i2
  have i3 : -1 < i := by
    have : ((-1 : Int) : Rat) < (i : Rat) := by have : ((-1 : Int) : Rat) = -1 := rfl; rw [this]; grind
    exact Rat.intCast_lt_intCast.mp this
  have i4 : i < 61 := by
    have : (i : Rat) < ((61 : Int) : Rat) := by have : ((61 : Int) : Rat) = 61 := rfl; rw [this]; grind
    exact Rat.intCast_lt_intCast.mp this
  refine ⟨f1, by rw [hi]; omega, ?_⟩
  obtain ⟨o1, o2, o3⟩ := ofInt64 (i := i) (by omega) (by omega)
  obtain ⟨g1, g2, g3⟩ := sub64 f1 o1 (by grind) (by grind)
  have hI : hsvI h = i := hi
  have hF : hsvf h = sub (mul h 4618441417868443648) (ofInt i) := by unfold hsvf; rw [hI]
  rw [← hF] at g1 g2 g3
  clear hi hF
  -- the sixth, the way within it
  have c0 : ((i - 6 * K : Int) : Rat) = i - 6 * K := by rw [Rat.intCast_sub, Rat.intCast_mul]; rfl
  have z0 : Wi (6 * x - (i - 6 * K : Int)) (rv (hsvf h)) (20 * ru) := by rw [c0]; constructor <;> grind
  have z1 : -20 * ru ≤ 6 * x - (i - 6 * K : Int) := by rw [c0]; grind
  have z2 : 6 * x - (i - 6 * K : Int) ≤ 1 + 20 * ru := by rw [c0]; grind
  have hm : i.fmod 6 = (i - 6 * K) % 6 := by rw [Int.fmod_eq_emod_of_nonneg i (by decide)]; omega
  clear i1 i2 i3 i4 o1 o2 o3 f1 f2 f3 g2 g3 h1 h2 b1 b2 c0 hx
  generalize i - 6 * K = j at *
  have j0 : -1 < j := by
    have : ((-1 : Int) : Rat) < (j : Rat) := by have : ((-1 : Int) : Rat) = -1 := rfl; rw [this]; grind
    exact Rat.intCast_lt_intCast.mp this
  have j1 : j < 6 := by
    have : (j : Rat) < ((6 : Int) : Rat) := by have : ((6 : Int) : Rat) = 6 := rfl; rw [this]; grind
    exact Rat.intCast_lt_intCast.mp this
  clear x0 x1
  obtain ⟨g2, g3⟩ := z0
  obtain ⟨q1, q2, q3⟩ := left_near g1 (by grind) (by grind)
  obtain ⟨r1, r2, r3⟩ := sub64 k_one.1 g1 (by rw [k_one.2]; grind) (by rw [k_one.2]; grind)
  rw [k_one.2] at r2 r3
  obtain ⟨w1, w2, w3⟩ := left_near r1 (by grind) (by grind)
  have u2 := rutt
  have hQ : IsFin (hsvQ h) ∧ Wi (1 - (6 * x - j)) (rv (hsvQ h)) tt := ⟨q1, by unfold hsvQ; grind, by unfold hsvQ; grind⟩
  have hT : IsFin (hsvT h) ∧ Wi (6 * x - j) (rv (hsvT h)) tt := ⟨w1, by unfold hsvT; grind, by unfold hsvT; grind⟩
  have hP : hsvP = 0 := sub_one_one
  have T0 : -tt ≤ 6 * x - j := by grind
  have T1 : 6 * x - j ≤ 1 + tt := by grind
  have e0 : 0 ≤ tt := by grind
  clear q1 q2 q3 r1 r2 r3 w1 w2 w3 u0 u1 u2 g1 g2 g3 z1 z2
  have hz : IsFin 0 ∧ Wi 0 (rv 0) tt := ⟨k_zero.1, by rw [k_zero.2]; grind, by rw [k_zero.2]; grind⟩
  have ho : IsFin 4607182418800017408 ∧ Wi 1 (rv 4607182418800017408) tt := ⟨k_one.1, by rw [k_one.2]; grind, by rw [k_one.2]; grind⟩
  refine ⟨j, 6 * x - j, by grind, ?_⟩
  generalize 6 * x - (j : Rat) = t at *
  unfold hsvR hsvG hsvB
  rw [hI, hm, hP]
  clear hI hm hP
  have j0 := Int.add_one_le_of_lt j0
  rcases six6 j0 j1 with rfl | rfl | rfl | rfl | rfl | rfl
  · exact ⟨j0, j1, T0, T1, ho.1, hT.1, hz.1, ho.2, hT.2, hz.2⟩
  · exact ⟨j0, j1, T0, T1, hQ.1, ho.1, hz.1, hQ.2, ho.2, hz.2⟩
  · exact ⟨j0, j1, T0, T1, hz.1, ho.1, hT.1, hz.2, ho.2, hT.2⟩
  · exact ⟨j0, j1, T0, T1, hz.1, hQ.1, ho.1, hz.2, hQ.2, ho.2⟩
  · exact ⟨j0, j1, T0, T1, hT.1, hz.1, ho.1, hT.2, hz.2, ho.2⟩
  · exact ⟨j0, j1, T0, T1, ho.1, hz.1, hQ.1, ho.2, hz.2, hQ.2⟩
end Mine
end

section
namespace Mine
open PySem PySem.Float64
set_option maxRecDepth 100000

theorem max3_spec {a b c : UInt64} (ha : IsFin a) (hb : IsFin b) (hc : IsFin c) :
    IsFin (max3 a b c) ∧ rv a ≤ rv (max3 a b c) ∧ rv b ≤ rv (max3 a b c) ∧ rv c ≤ rv (max3 a b c) ∧ (rv (max3 a b c) = rv a ∨ rv (max3 a b c) = rv b ∨ rv (max3 a b c) = rv c) := by
  unfold max3
  cases q1 : (cmp a b == some .lt)
  · have l1 := (cmp_lt_f ha hb).mp q1
    cases q2 : (cmp a c == some .lt)
    · have l2 := (cmp_lt_f ha hc).mp q2
      simp only [cond_false]
      refine ⟨ha, ?_⟩; grind
    · have l2 := (cmp_lt_iff ha hc).mp q2
      simp only [cond_false, cond_true]
      refine ⟨hc, ?_⟩; grind
  · have l1 := (cmp_lt_iff ha hb).mp q1
    cases q2 : (cmp b c == some .lt)
    · have l2 := (cmp_lt_f hb hc).mp q2
      simp only [cond_false, cond_true]
      refine ⟨hb, ?_⟩; grind
    · have l2 := (cmp_lt_iff hb hc).mp q2
      simp only [cond_true]
      refine ⟨hc, ?_⟩; grind
theorem min3_spec {a b c : UInt64} (ha : IsFin a) (hb : IsFin b) (hc : IsFin c) :
    IsFin (min3 a b c) ∧ rv (min3 a b c) ≤ rv a ∧ rv (min3 a b c) ≤ rv b ∧ rv (min3 a b c) ≤ rv c ∧ (rv (min3 a b c) = rv a ∨ rv (min3 a b c) = rv b ∨ rv (min3 a b c) = rv c) := by
  unfold min3
  cases q1 : (cmp b a == some .lt)
  · have l1 := (cmp_lt_f hb ha).mp q1
    cases q2 : (cmp c a == some .lt)
    · have l2 := (cmp_lt_f hc ha).mp q2
      simp only [cond_false]
      refine ⟨ha, ?_⟩; grind
    · have l2 := (cmp_lt_iff hc ha).mp q2
      simp only [cond_false, cond_true]
      refine ⟨hc, ?_⟩; grind
  · have l1 := (cmp_lt_iff hb ha).mp q1
    cases q2 : (cmp c b == some .lt)
    · have l2 := (cmp_lt_f hc hb).mp q2
      simp only [cond_false, cond_true]
      refine ⟨hb, ?_⟩; grind
    · have l2 := (cmp_lt_iff hc hb).mp q2
      simp only [cond_true]
      refine ⟨hc, ?_⟩; grind

/-- a quotient by something near one -/
theorem quot_near {a b e : Rat} (e0 : 0 ≤ e) (e1 : e ≤ 1 / 1000) (b0 : 1 - e ≤ b) (b1 : b ≤ 1 + e) (a0 : -e ≤ a) (a1 : a ≤ 1 + 10 * e) : ∃ q : Rat, q * b = a ∧ a - 4 * e ≤ q ∧ q ≤ a + 4 * e := by
  have hb : b ≠ 0 := by grind
  have hb' : 0 < b := by grind
  refine ⟨a / b, Rat.div_mul_cancel hb, ?_, ?_⟩
  · refine Rat.le_of_mul_le_mul_right (c := b) ?_ hb'
    rw [Rat.div_mul_cancel hb]
    -- (a - 4e) b ≤ a
    have h1 : 0 ≤ (1 + 10 * e - a) * (1 + e - b) := Rat.mul_nonneg (by grind) (by grind)
    have h2 : 0 ≤ (a + e) * (1 + e - b) := Rat.mul_nonneg (by grind) (by grind)
    have h3 : 0 ≤ e * (b - (1 - e)) := Rat.mul_nonneg (by grind) (by grind)
    have h4 : 0 ≤ (a + e) * e := Rat.mul_nonneg (by grind) (by grind)
    have h5 : 0 ≤ (1 / 1000 - e) * e := Rat.mul_nonneg (by grind) (by grind)
    have h6 : 0 ≤ (a + e) * (b - (1 - e)) := Rat.mul_nonneg (by grind) (by grind)
    have h7 : 0 ≤ (1 + 10 * e - a) * (b - (1 - e)) := Rat.mul_nonneg (by grind) (by grind)
    have h8 : 0 ≤ (1 + 10 * e - a) * e := Rat.mul_nonneg (by grind) (by grind)
    grind
  · refine Rat.le_of_mul_le_mul_right (c := b) ?_ hb'
    rw [Rat.div_mul_cancel hb]
    have h1 : 0 ≤ (1 + 10 * e - a) * (1 + e - b) := Rat.mul_nonneg (by grind) (by grind)
    have h2 : 0 ≤ (a + e) * (1 + e - b) := Rat.mul_nonneg (by grind) (by grind)
    have h3 : 0 ≤ e * (b - (1 - e)) := Rat.mul_nonneg (by grind) (by grind)
    have h4 : 0 ≤ (a + e) * e := Rat.mul_nonneg (by grind) (by grind)
    have h5 : 0 ≤ (1 / 1000 - e) * e := Rat.mul_nonneg (by grind) (by grind)
    have h6 : 0 ≤ (a + e) * (b - (1 - e)) := Rat.mul_nonneg (by grind) (by grind)
    have h7 : 0 ≤ (1 + 10 * e - a) * (b - (1 - e)) := Rat.mul_nonneg (by grind) (by grind)
    have h8 : 0 ≤ (1 + 10 * e - a) * e := Rat.mul_nonneg (by grind) (by grind)
    grind
end Mine
end

section
namespace Mine
open PySem PySem.Float64
set_option maxRecDepth 100000

/-- what a pure colour's parts tell of its place: six times the place is y but for e -/
structure Parts (x R G B e : Rat) : Prop where
  r0 : -e ≤ R
  r1 : R ≤ 1 + e
  g0 : -e ≤ G
  g1 : G ≤ 1 + e
  b0 : -e ≤ B
  b1 : B ≤ 1 + e
  top : 1 - e ≤ R ∨ 1 - e ≤ G ∨ 1 - e ≤ B
  low : R ≤ e ∨ G ≤ e ∨ B ≤ e
  hr : 1 - 3 * e ≤ R → Wi (G - B) (6 * x) (9 * e) ∨ Wi (G - B) (6 * (x - 1)) (9 * e)
  hg : 1 - 3 * e ≤ G → Wi (2 + B - R) (6 * x) (9 * e)
  hb : 1 - 3 * e ≤ B → Wi (4 + R - G) (6 * x) (9 * e)
theorem Near.parts {x : Rat} {r g b : UInt64} (N : Near x r g b) : IsFin r ∧ IsFin g ∧ IsFin b ∧ Parts x (rv r) (rv g) (rv b) (2 * tt) := by
  obtain ⟨j, t, hx, j0, j1, t0, t1, fr, fg, fb, hr, hg, hb⟩ := N
  refine ⟨fr, fg, fb, ?_⟩
  have u := tt1
  have u0 : 0 ≤ tt := by grind
  clear fr fg fb
  generalize rv r = R at *
  generalize rv g = G at *
  generalize rv b = B at *
  generalize tt = e at *
  have u : 1000 * e ≤ 1 := by grind
  rcases six6 j0 j1 with rfl | rfl | rfl | rfl | rfl | rfl
  · have c : 6 * x = t := hx.trans (Rat.zero_add t)
    obtain ⟨r0, r1⟩ : Wi 1 R e := hr
    obtain ⟨g0, g1⟩ : Wi t G e := hg
    obtain ⟨b0, b1⟩ : Wi 0 B e := hb
    clear hx j0 j1
    exact ⟨by grind, by grind, by grind, by grind, by grind, by grind, .inl (by grind), .inr (.inr (by grind)), fun _ => .inl ⟨by grind, by grind⟩, fun _ => ⟨by grind, by grind⟩, fun h => by grind⟩
  · have c : 6 * x = 1 + t := hx
    obtain ⟨r0, r1⟩ : Wi (1 - t) R e := hr
    obtain ⟨g0, g1⟩ : Wi 1 G e := hg
    obtain ⟨b0, b1⟩ : Wi 0 B e := hb
    clear hx j0 j1
    exact ⟨by grind, by grind, by grind, by grind, by grind, by grind, .inr (.inl (by grind)), .inr (.inr (by grind)), fun _ => .inl ⟨by grind, by grind⟩, fun _ => ⟨by grind, by grind⟩, fun h => by grind⟩
  · have c : 6 * x = 2 + t := hx
    obtain ⟨r0, r1⟩ : Wi 0 R e := hr
    obtain ⟨g0, g1⟩ : Wi 1 G e := hg
    obtain ⟨b0, b1⟩ : Wi t B e := hb
    clear hx j0 j1
    exact ⟨by grind, by grind, by grind, by grind, by grind, by grind, .inr (.inl (by grind)), .inl (by grind), fun h => by grind, fun _ => ⟨by grind, by grind⟩, fun _ => ⟨by grind, by grind⟩⟩
  · have c : 6 * x = 3 + t := hx
    obtain ⟨r0, r1⟩ : Wi 0 R e := hr
    obtain ⟨g0, g1⟩ : Wi (1 - t) G e := hg
    obtain ⟨b0, b1⟩ : Wi 1 B e := hb
    clear hx j0 j1
    exact ⟨by grind, by grind, by grind, by grind, by grind, by grind, .inr (.inr (by grind)), .inl (by grind), fun h => by grind, fun _ => ⟨by grind, by grind⟩, fun _ => ⟨by grind, by grind⟩⟩
  · have c : 6 * x = 4 + t := hx
    obtain ⟨r0, r1⟩ : Wi t R e := hr
    obtain ⟨g0, g1⟩ : Wi 0 G e := hg
    obtain ⟨b0, b1⟩ : Wi 1 B e := hb
    clear hx j0 j1
    exact ⟨by grind, by grind, by grind, by grind, by grind, by grind, .inr (.inr (by grind)), .inr (.inl (by grind)), fun _ => .inr ⟨by grind, by grind⟩, fun h => by grind, fun _ => ⟨by grind, by grind⟩⟩
  · have c : 6 * x = 5 + t := hx
    obtain ⟨r0, r1⟩ : Wi 1 R e := hr
    obtain ⟨g0, g1⟩ : Wi 0 G e := hg
    obtain ⟨b0, b1⟩ : Wi (1 - t) B e := hb
    clear hx j0 j1
    exact ⟨by grind, by grind, by grind, by grind, by grind, by grind, .inl (by grind), .inr (.inl (by grind)), fun _ => .inr ⟨by grind, by grind⟩, fun h => by grind, fun _ => ⟨by grind, by grind⟩⟩

/-- one part's distance from the greatest, over the range -/
theorem part_near {M r R : UInt64} (hM : IsFin M) (hr : IsFin r) (hR : IsFin R) (m : Wi 1 (rv M) (2 * tt)) (r0 : -(2 * tt) ≤ rv r) (hle : rv r ≤ rv M) (hR1 : Wi 1 (rv R) (5 * tt)) :
    IsFin (div (sub M r) R) ∧ Wi (1 - rv r) (rv (div (sub M r) R)) (30 * tt) := by
  obtain ⟨m0, m1⟩ := m
  obtain ⟨R0, R1⟩ := hR1
  have u0 := ru0
  have u1 := rutt
  have u2 := tt1
  obtain ⟨a1, a2, a3⟩ := sub64 hM hr (by grind) (by grind)
  obtain ⟨q, q1, q2, q3⟩ := quot_near (a := rv (sub M r)) (b := rv R) (e := 5 * tt) (by grind) (by grind) (by grind) (by grind) (by grind) (by grind)
  obtain ⟨b1, b2, b3⟩ := div64 a1 hR (by grind) q1 (by grind) (by grind)
  exact ⟨b1, by grind, by grind⟩

theorem turn_near {hh : UInt64} {x : Rat} (hf : IsFin hh) (x0 : 1 ≤ 2000000 * x) (x1 : 2000000 * x ≤ 1999999) (j : Int) (j0 : (0 : Rat) ≤ j) (j1 : (j : Rat) ≤ 1) (h : Wi (6 * (x - j)) (rv hh) (100 * tt)) :
    IsFin (divmod (div hh 4618441417868443648) 4607182418800017408).snd ∧ Wi x (rv (divmod (div hh 4618441417868443648) 4607182418800017408).snd) (20 * tt) := by
  obtain ⟨h1, h2⟩ := h
  have u0 := ru0
  have u1 := rutt
  have u2 := tt1
  have q6 : rv hh / 6 * 6 = rv hh := Rat.div_mul_cancel (by decide)
  obtain ⟨D1, D2, D3⟩ := div64 hf k_six.1 (by rw [k_six.2]; decide) (q := rv hh / 6) (by rw [k_six.2]; exact q6) (by grind) (by grind)
  obtain ⟨F1, k, F3, F4, F5, F6⟩ := frac_near D1
  generalize rv hh / 6 = q at *
  have hk : j + k = 0 := by
    have c : ((j + k : Int) : Rat) = (j : Rat) + k := Rat.intCast_add _ _
    have l1 : ((-1 : Int) : Rat) < ((j + k : Int) : Rat) := by
      have c1 : ((-1 : Int) : Rat) = -1 := rfl
      rw [c, c1]; grind
    have l2 : ((j + k : Int) : Rat) < ((1 : Int) : Rat) := by
      have c1 : ((1 : Int) : Rat) = 1 := rfl
      rw [c, c1]; grind
    have := Rat.intCast_lt_intCast.mp l1
    have := Rat.intCast_lt_intCast.mp l2
    omega
  have hkr : (j : Rat) + k = 0 := by
    have c : ((j + k : Int) : Rat) = (j : Rat) + k := Rat.intCast_add _ _
    rw [← c, hk]; rfl
  exact ⟨F1, by grind, by grind⟩

theorem told_near {x : Rat} {r g b : UInt64} (N : Near x r g b) (x0 : 1 ≤ 2000000 * x) (x1 : 2000000 * x ≤ 1999999) :
    (cmp (min3 r g b) (max3 r g b) == some .eq) = false ∧ isZero (sub (max3 r g b) (min3 r g b)) = false ∧ isZero (add (max3 r g b) (min3 r g b)) = false ∧ isZero (sub (sub 4611686018427387904 (max3 r g b)) (min3 r g b)) = false ∧ isZero (max3 r g b) = false ∧
    IsFin (toldF r g b) ∧ Wi x (rv (toldF r g b)) (20 * tt) := by
  obtain ⟨fr, fg, fb, P⟩ := N.parts
  obtain ⟨M1, M2, M3, M4, M5⟩ := max3_spec fr fg fb
  obtain ⟨m1, m2, m3, m4, m5⟩ := min3_spec fr fg fb
  unfold toldF
  generalize max3 r g b = M at *
  generalize min3 r g b = m at *
  have u0 := ru0
  have u1 := rutt
  have u2 := tt1
  have hM : Wi 1 (rv M) (2 * tt) := by
    constructor
    · rcases P.top with t | t | t
      · exact Rat.le_trans t M2
      · exact Rat.le_trans t M3
      · exact Rat.le_trans t M4
    · rcases M5 with q | q | q <;> rw [q]
      · exact P.r1
      · exact P.g1
      · exact P.b1
  have hm : -(2 * tt) ≤ rv m ∧ rv m ≤ 2 * tt := by
    constructor
    · rcases m5 with q | q | q <;> rw [q]
      · exact P.r0
      · exact P.g0
      · exact P.b0
    · rcases P.low with t | t | t
      · exact Rat.le_trans m2 t
      · exact Rat.le_trans m3 t
      · exact Rat.le_trans m4 t
  clear m2 m3 m4 m5
  obtain ⟨w0, w1⟩ := hM
  obtain ⟨v0, v1⟩ := hm
  obtain ⟨a1, a2, a3⟩ := sub64 M1 m1 (by grind) (by grind)
  obtain ⟨s1, s2, s3⟩ := add64 M1 m1 (by grind) (by grind)
  obtain ⟨t1, t2, t3⟩ := sub64 k_two.1 M1 (by rw [k_two.2]; grind) (by rw [k_two.2]; grind)
  rw [k_two.2] at t2 t3
  obtain ⟨y1, y2, y3⟩ := sub64 t1 m1 (by grind) (by grind)
  refine ⟨?_, isZero_f a1 (by grind), isZero_f s1 (by grind), isZero_f y1 (by grind), isZero_f M1 (by grind), ?_⟩
  · cases q : (cmp m M == some .eq)
    · rfl
    · have := (cmp_eq_iff m1 M1).mp q
      grind
  have hR : Wi 1 (rv (sub M m)) (5 * tt) := ⟨by grind, by grind⟩
  clear s1 s2 s3 t1 t2 t3 y1 y2 y3 a2 a3 v0 v1
  obtain ⟨p1, p2, p3⟩ := part_near M1 fr a1 ⟨w0, w1⟩ P.r0 M2 hR
  obtain ⟨q1, q2, q3⟩ := part_near M1 fg a1 ⟨w0, w1⟩ P.g0 M3 hR
  obtain ⟨z1, z2, z3⟩ := part_near M1 fb a1 ⟨w0, w1⟩ P.b0 M4 hR
  generalize div (sub M r) (sub M m) = rc at *
  generalize div (sub M g) (sub M m) = gc at *
  generalize div (sub M b) (sub M m) = bc at *
  clear hR a1
  have R0 := P.r0
  have R1 := P.r1
  have G0 := P.g0
  have G1 := P.g1
  have B0 := P.b0
  have B1 := P.b1
  -- the sixfold hue, but for a whole turn
  have c0 : ((0 : Int) : Rat) = 0 := rfl
  have cI : ((1 : Int) : Rat) = 1 := rfl
  cases c1 : (cmp r M == some .eq)
  · rw [cond_f rfl]
    have n1 : rv r ≠ rv M := fun q => by rw [(cmp_eq_iff fr M1).mpr q] at c1; cases c1
    cases c2 : (cmp g M == some .eq)
    · rw [cond_f rfl]
      have n2 : rv g ≠ rv M := fun q => by rw [(cmp_eq_iff fg M1).mpr q] at c2; cases c2
      have e3 : rv M = rv b := by rcases M5 with q | q | q <;> first | exact absurd q.symm (by assumption) | exact q
      obtain ⟨h3, h4⟩ := P.hb (by grind)
      obtain ⟨k1, k2, k3⟩ := add64 k_four.1 q1 (by rw [k_four.2]; grind) (by rw [k_four.2]; grind)
      rw [k_four.2] at k2 k3
      obtain ⟨l1, l2, l3⟩ := sub64 k1 p1 (by grind) (by grind)
      exact turn_near l1 x0 x1 0 (by decide) (by decide) (by rw [c0]; exact ⟨by grind, by grind⟩)
    · rw [cond_t rfl]
      have n2 := (cmp_eq_iff fg M1).mp c2
      obtain ⟨h3, h4⟩ := P.hg (by grind)
      obtain ⟨k1, k2, k3⟩ := add64 k_two.1 p1 (by rw [k_two.2]; grind) (by rw [k_two.2]; grind)
      rw [k_two.2] at k2 k3
      obtain ⟨l1, l2, l3⟩ := sub64 k1 z1 (by grind) (by grind)
      exact turn_near l1 x0 x1 0 (by decide) (by decide) (by rw [c0]; exact ⟨by grind, by grind⟩)
  · rw [cond_t rfl]
    have n1 := (cmp_eq_iff fr M1).mp c1
    obtain ⟨l1, l2, l3⟩ := sub64 z1 q1 (by grind) (by grind)
    rcases P.hr (by grind) with ⟨h3, h4⟩ | ⟨h3, h4⟩
    · exact turn_near l1 x0 x1 0 (by decide) (by decide) (by rw [c0]; exact ⟨by grind, by grind⟩)
    · exact turn_near l1 x0 x1 1 (by decide) (by decide) (by rw [cI]; exact ⟨by grind, by grind⟩)
end Mine
end

section
namespace Mine
open PySem PySem.Float64
set_option maxRecDepth 100000

theorem rsub_mul (a b c : Rat) : (a - b) * c = a * c - b * c := by grind
/-- the colour of place p on the wheel of n -/
structure At (n p : Int) (r g b : UInt64) : Prop where
  p0 : 1 ≤ p
  p1 : p < n
  n1 : n ≤ 1000000
  near : Near ((p : Rat) / (n : Rat)) r g b

theorem frac_facts {n p : Int} (p0 : 1 ≤ p) (p1 : p < n) (n1 : n ≤ 1000000) : (1 : Rat) ≤ (p : Rat) ∧ (p : Rat) ≤ (n : Rat) - 1 ∧ (n : Rat) ≤ 1000000 ∧ 0 < (n : Rat) ∧ (p : Rat) / (n : Rat) * (n : Rat) = (p : Rat) ∧
    1 ≤ 1000000 * ((p : Rat) / (n : Rat)) ∧ 1000000 * ((p : Rat) / (n : Rat)) ≤ 999999 := by
  have a1 : ((1 : Int) : Rat) ≤ (p : Rat) := Rat.intCast_le_intCast.mpr p0
  have a2 : (p : Rat) ≤ ((n - 1 : Int) : Rat) := Rat.intCast_le_intCast.mpr (by omega)
  have a3 : (n : Rat) ≤ ((1000000 : Int) : Rat) := Rat.intCast_le_intCast.mpr n1
  have c1 : ((1 : Int) : Rat) = 1 := rfl
  have c3 : ((1000000 : Int) : Rat) = 1000000 := rfl
  rw [c1] at a1
  rw [Rat.intCast_sub, c1] at a2
  rw [c3] at a3
  have hn : 0 < (n : Rat) := by grind
  have hm : (p : Rat) / (n : Rat) * (n : Rat) = (p : Rat) := Rat.div_mul_cancel (by grind)
  refine ⟨a1, a2, a3, hn, hm, ?_, ?_⟩
  · refine Rat.le_of_mul_le_mul_right (c := (n : Rat)) ?_ hn
    rw [Rat.mul_assoc, hm]; grind
  · refine Rat.le_of_mul_le_mul_right (c := (n : Rat)) ?_ hn
    rw [Rat.mul_assoc, hm]; grind

/-- what is told of the colour at place p -/
structure Told1 (n p : Int) (r g b : UInt64) : Prop where
  c1 : (cmp (min3 r g b) (max3 r g b) == some .eq) = false
  c2 : isZero (sub (max3 r g b) (min3 r g b)) = false
  c3 : isZero (add (max3 r g b) (min3 r g b)) = false
  c4 : isZero (sub (sub 4611686018427387904 (max3 r g b)) (min3 r g b)) = false
  c5 : isZero (max3 r g b) = false
  f1 : IsFin (mul (toldF r g b) 4621819117588971520)
  f2 : IsFin (add (mul (toldF r g b) (ofInt n)) 4602678819172646912)
  digit : ∀ d : Int, n * d < 10 * p → 10 * p < n * d + n → Flt.toInt truncOf (mul (toldF r g b) 4621819117588971520) = d
  place : Flt.toInt truncOf (add (mul (toldF r g b) (ofInt n)) 4602678819172646912) = p

/-- the place, told of t near x -/
theorem place_near {t x N n p : Rat} (x0 : 1 ≤ 1000000 * x) (x1 : 1000000 * x ≤ 999999) (hm : x * n = p) (n0 : 2 ≤ n) (n1 : n ≤ 1000000) (t0 : x - 20 * tt ≤ t) (t1 : t ≤ x + 20 * tt) (N0 : 4294967296 * n - 1 ≤ 4294967296 * N) (N1 : 4294967296 * N ≤ 4294967296 * n + 1) :
    100 * p - 1 ≤ 100 * (t * N) ∧ 100 * (t * N) ≤ 100 * p + 1 := by
  have u := tt1
  have b1 : 0 ≤ (t - (x - 20 * tt)) * N := Rat.mul_nonneg (by grind) (by grind)
  have b2 : 0 ≤ (x + 20 * tt - t) * N := Rat.mul_nonneg (by grind) (by grind)
  have b3 : 0 ≤ x * (4294967296 * N - (4294967296 * n - 1)) := Rat.mul_nonneg (by grind) (by grind)
  have b4 : 0 ≤ x * (4294967296 * n + 1 - 4294967296 * N) := Rat.mul_nonneg (by grind) (by grind)
  have b5 : 100000000000 * (tt * N) = N := by rw [← Rat.mul_assoc, u, Rat.one_mul]
  generalize ht : tt * N = a at *
  generalize hx : x * N = b at *
  constructor <;> grind
theorem At.told {n p : Int} {r g b : UInt64} (A : At n p r g b) : Told1 n p r g b := by
  obtain ⟨p0, p1, n1, N⟩ := A
  obtain ⟨a1, a2, a3, hn, hm, x0, x1⟩ := frac_facts p0 p1 n1
  generalize hx : (p : Rat) / (n : Rat) = x at *
  obtain ⟨c1, c2, c3, c4, c5, f, t0, t1⟩ := told_near N (by grind) (by grind)
  clear N hx
  have u0 := ru0
  have u1 := rutt
  have u2 := tt1
  obtain ⟨m1, m2, m3⟩ := mul64 f k_ten.1 (p := 10 * rv (toldF r g b)) (by rw [k_ten.2, Rat.mul_comm]) (by grind) (by grind)
  have hnz : ((2 ^ 21 : Nat) : Rat) = 2097152 := pow21
  obtain ⟨o1, o2⟩ := ofInt_near 21 (by decide) (i := n) (by rw [hnz]; grind) (by rw [hnz]; grind)
  have v : 4294967296 * ulp 21 = 1 := by rw [ulp_21]; grind
  obtain ⟨o2, o3⟩ := o2
  -- t times n
  obtain ⟨q1, q2⟩ := place_near x0 x1 hm (by grind) a3 t0 t1 (N := rv (ofInt n)) (by grind) (by grind)
  clear o2 o3
  have ph : 0 ≤ (p : Rat) ∧ (p : Rat) ≤ 1000000 := ⟨by grind, by grind⟩
  obtain ⟨k1, k2, k3⟩ := mul_near 21 (by decide) f o1 (by rw [hnz]; grind) (by rw [hnz]; grind)
  generalize rv (toldF r g b) * rv (ofInt n) = tn at *
  obtain ⟨l1, l2, l3⟩ := add_near 21 (by decide) k1 k_half.1 (by rw [k_half.2, hnz]; grind) (by rw [k_half.2, hnz]; grind)
  rw [k_half.2] at l2 l3
  refine ⟨c1, c2, c3, c4, c5, m1, l1, ?_, ?_⟩
  · clear c1 c2 c3 c4 c5 f v o1 q1 q2 k1 k2 k3 l1 l2 l3 ph
    intro d h1 h2
    have h1' : ((n * d + 1 : Int) : Rat) ≤ ((10 * p : Int) : Rat) := Rat.intCast_le_intCast.mpr (by omega)
    have h2' : ((10 * p : Int) : Rat) ≤ ((n * d + n - 1 : Int) : Rat) := Rat.intCast_le_intCast.mpr (by omega)
    have cc : ((1 : Int) : Rat) = 1 := rfl
    have cd : ((10 : Int) : Rat) = 10 := rfl
    simp only [Rat.intCast_add, Rat.intCast_sub, Rat.intCast_mul, cc, cd] at h1' h2'
    have l3 : (d : Rat) * 1000000 + 1 ≤ 10 * x * 1000000 := by
      refine Rat.le_of_mul_le_mul_right (c := (n : Rat)) ?_ hn
      have e1 : ((d : Rat) * 1000000 + 1) * n = n * d * 1000000 + n := by grind
      have e2 : 10 * x * 1000000 * n = 10 * (x * n) * 1000000 := by grind
      rw [e1, e2, hm]; grind
    have l4 : 10 * x * 1000000 ≤ (d : Rat) * 1000000 + 999999 := by
      refine Rat.le_of_mul_le_mul_right (c := (n : Rat)) ?_ hn
      have e1 : ((d : Rat) * 1000000 + 999999) * n = n * d * 1000000 + 999999 * n := by grind
      have e2 : 10 * x * 1000000 * n = 10 * (x * n) * 1000000 := by grind
      rw [e1, e2, hm]; grind
    clear h1' h2' hm hn a1 a2 a3 p0 p1 n1 h1 h2
    exact trunc_of m1 (by grind) (by grind) (by grind)
  · clear c1 c2 c3 c4 c5 f o1 k1 m1 m2 m3 x0 x1 hm t0 t1 p0 p1 n1 a1 a2 a3
    exact trunc_of l1 (by grind) (by grind) (by grind)

theorem At.swap {n p : Int} {r g b : UInt64} (A : At n p r g b) : At n (n - p) r b g := by
  obtain ⟨p0, p1, n1, N⟩ := A
  obtain ⟨a1, a2, a3, hn, hm, x0, x1⟩ := frac_facts p0 p1 n1
  refine ⟨by omega, by omega, n1, ?_⟩
  have e : ((n - p : Int) : Rat) / (n : Rat) = 1 - (p : Rat) / n := by
    have : (((n - p : Int) : Rat) / (n : Rat) - (1 - (p : Rat) / n)) * n = 0 := by
      rw [rsub_mul, Rat.div_mul_cancel (by grind), rsub_mul, hm, Rat.intCast_sub]; grind
    rcases Rat.mul_eq_zero.mp this with q | q
    · grind
    · grind
  rw [e]
  exact N.swap

/-- the quotient of a leap -/
def leapF (a n : Int) : UInt64 := ofFrac (decide (a < 0) != decide (n < 0)) a.natAbs n.natAbs

theorem leap_facts {n a K r : Int} (n1 : n ≤ 1000000) (r0 : 1 ≤ r) (r1 : r < n) (h : a = n * K + r) (k0 : -10 ≤ K) (k1 : K ≤ 9) :
    IsFin (leapF a n) ∧ Wi ((r : Rat) / n + K) (rv (leapF a n)) ru ∧ 1 ≤ 1000000 * ((r : Rat) / (n : Rat)) ∧ 1000000 * ((r : Rat) / (n : Rat)) ≤ 999999 ∧ (-10 : Rat) ≤ K ∧ (K : Rat) ≤ 9 := by
  obtain ⟨a1, a2, a3, hn, hm, x0, x1⟩ := frac_facts r0 r1 n1
  have k0' : (-10 : Rat) ≤ (K : Rat) := Rat.intCast_le_intCast.mpr k0
  have k1' : (K : Rat) ≤ (9 : Rat) := Rat.intCast_le_intCast.mpr k1
  have ha : (a : Rat) = (n : Rat) * K + r := by rw [h, Rat.intCast_add, Rat.intCast_mul]
  have := ratio_near 6 (by decide) (a := a) (b := n) (by omega) (q := (r : Rat) / n + K) (by rw [Rat.add_mul, hm, ha, Rat.mul_comm, Rat.add_comm]) (by rw [pow6]; grind) (by rw [pow6]; grind)
  rw [ulp_ru] at this
  exact ⟨this.1, this.2, x0, x1, k0', k1'⟩

theorem paint_hls {n a K r : Int} (n1 : n ≤ 1000000) (r0 : 1 ≤ r) (r1 : r < n) (h : a = n * K + r) (k0 : -10 ≤ K) (k1 : K ≤ 9) :
    At n r (hlsR (leapF a n)) (hlsG (leapF a n)) (hlsB (leapF a n)) := by
  obtain ⟨f, l, x0, x1, l6, l7⟩ := leap_facts n1 r0 r1 h k0 k1
  exact ⟨r0, r1, n1, hls_near (K := K) f l (by grind) (by grind) (by grind) (by grind) (by grind)⟩
theorem paint_hsv {n a K r : Int} (n1 : n ≤ 1000000) (r0 : 1 ≤ r) (r1 : r < n) (h : a = n * K + r) (k0 : 0 ≤ K) (k1 : K ≤ 9) :
    IsFin (mul (leapF a n) 4618441417868443648) ∧ (Flt.toInt truncOf (mul (leapF a n) 4618441417868443648)).natAbs < 100 ∧ At n r (hsvR (leapF a n)) (hsvG (leapF a n)) (hsvB (leapF a n)) := by
  obtain ⟨f, l, x0, x1, l6, l7⟩ := leap_facts n1 r0 r1 h (by omega) k1
  have k0' : (0 : Rat) ≤ (K : Rat) := Rat.intCast_le_intCast.mpr k0
  obtain ⟨h1, h2, h3⟩ := hsv_near (K := K) f l (by grind) (by grind) (x := (r : Rat) / n) (by grind) (by grind) (by grind)
  exact ⟨h1, h2, r0, r1, n1, h3⟩
end Mine
end

section
open PySem PySem.W PyProof.Rows PySem.Calls
set_option Elab.async false
namespace Mine
/-- the places the leaps come to -/
def pl (n p : Int) : Nat → Int
  | 0 => p
  | i + 1 => (10 * pl n p i) % n
/-- the tenth of the wheel -/
def dg (n p : Int) (i : Nat) : Nat := (10 * pl n p i / n).toNat
def digs (n p : Int) : Nat → List Nat
  | 0 => []
  | i + 1 => digs n p i ++ [dg n p i]
def dStr (ds : List Nat) : Str := ⟨(ds.map (48 + ·)).toArray⟩
theorem dStr_nil : dStr [] = Str.ofString "" := by decide +kernel
theorem dStr_push (ds : List Nat) (d : Nat) : dStr ds ++ (⟨#[48 + d]⟩ : Str) = dStr (ds ++ [d]) := by
  apply Str.ext'
  rw [Str.cps_append]
  unfold dStr
  simp
theorem dStr_length (ds : List Nat) : (dStr ds).length = ds.length := by
  unfold dStr Str.length
  simp
theorem digs_length (n p : Int) : ∀ i, (digs n p i).length = i
  | 0 => rfl
  | i + 1 => by simp [digs, digs_length n p i]

theorem item_all : ∀ k : Nat, k < 10 → Txt.item (Str.ofString "0123456789") (k : Int) = ⟨#[48 + k]⟩ ∧ fitsSsize (k : Int) = true := by decide +kernel
theorem item_digit {d : Int} (h0 : 0 ≤ d) (h1 : d < 10) : Txt.item (Str.ofString "0123456789") d = ⟨#[48 + d.toNat]⟩ := by
  have e : ((d.toNat : Nat) : Int) = d := Int.toNat_of_nonneg h0
  have := (item_all d.toNat (by omega)).1
  rw [e] at this
  exact this
section
variable {prog : Program} {w : World} {A : Around} {E : Value → Shared → Prop} {s : Shared} {value slice : Expr} {t : Tok}
theorem digit_of {Q : Value → Shared → Prop} {d : Int} {u : Tok} {k : Nat} (hk : d = (k : Int)) (h9 : k < 10)
    (h : ∀ t' tk, Q (.str ⟨#[48 + k]⟩ t') { s with toks := tk })
    (hs : subscripted slice false (.str (Str.ofString "0123456789") t) (.int d u) = operate [.str (Str.ofString "0123456789") t, .int d u] (getItem (.str (Str.ofString "0123456789") t) (.int d u)) := by with_unfolding_all rfl)
    (ht : ∀ r, letTemporaryGo value (.str (Str.ofString "0123456789") t) r = pure () := by intro _; with_unfolding_all rfl) :
    wpAny (model prog w) A (subscriptTail value slice (.str (Str.ofString "0123456789") t) (.int d u)) Q E s := by
  have hl : (Str.ofString "0123456789").length = 10 := by decide +kernel
  refine item_str ?_ ?_ ?_ (fun _ => ?_) hs ht
  · subst hk
    exact (item_all k h9).2
  · rw [hl]; omega
  · rw [hl]; omega
  · rw [item_digit (by omega) (by omega)]
    have : d.toNat = k := by omega
    rw [this]
    exact h _ _
/-- int() of a float whose whole part is known -/
theorem int_at {Q : Value → Shared → Prop} {x : UInt64} {u : Tok} {i : Int} (hf : IsFin x) (hv : Flt.toInt Float64.truncOf x = i)
    (h : Q (.int i s.toks) { s with toks := s.toks + 1 }) : wpAny (model prog w) A (call (.type "int") [.float x u]) Q E s := by
  obtain ⟨a, m, e, hd⟩ := hf
  refine call_int_float hd ?_
  have : Flt.toInt Float64.truncOf x = Float64.truncOf a m e := by unfold Flt.toInt; rw [hd]
  rw [← this, hv]
  exact h
end

theorem rs0 (k : Nat) : Builtin.Range.rangeSize 0 (k : Int) 1 = (k : Int) := by
  rw [rangeSize_nat]
  omega
/-- the loop's end: the names as the next state says, the ledger as it was -/
def LEnd {σ : Type} (news : List (Addr × Obj)) (ps : σ → List (Str × Value)) (P : σ → Prop) (m : Str → Option Value) (nx : List (Addr × Obj)) : Prop :=
  nx = news ∧ ∃ c : σ, P c ∧ ∀ p ∈ ps c, m p.1 = some p.2
section
variable {prog : Program} {w : World} {A : Around} {E : Value → Shared → Prop} {s : Shared} {env : Env} {h₀ : Heap} {x : Str} {body : List Stmt} {Q : Flow → Shared → Prop}
theorem kstB_all {m₁ : Str → Option Value} {ps : List (Str × Value)} (h : ∀ p ∈ ps, m₁ p.1 = some p.2) : kstB m₁ ps = m₁ := by
  funext z
  exact kstB_eq h fun _ => rfl
theorem rloop {σ : Type} {r : Addr} {a₀ b₀ : Int} {t₀ u₀ v₀ : Tok} {n : Nat} {m₀ : Str → Option Value} {news : List (Addr × Obj)} (ps : σ → List (Str × Value)) (P : Nat → σ → Prop) (c₀ : Tok → σ)
    (hh : A.handled = none) (hr : IsRange s.heap r a₀ b₀ 1 t₀ u₀ v₀) (hsmall : Builtin.Range.small a₀ b₀ 1 = true) (hn : Builtin.Range.rangeSize a₀ b₀ 1 = (n : Int)) (F : Fr h₀ env.locals s.heap m₀) (N : News h₀ env.locals s.heap news)
    (hk : ∃ tw, ∀ p ∈ ps (c₀ tw), m₀ p.1 = some p.2) (hp : ∀ tw, P 0 (c₀ tw))
    (turn : ∀ i t (c : σ) (u : Str → Option Value) h tk own, i < n → OwnOff own (news.map (·.1)) → P i c → Fr h₀ env.locals h (fun y => if y = x then some (.int (a₀ + (i : Int)) t) else kstB u (ps c) y) → News h₀ env.locals h (news ++ own) →
      wpAny (model prog w) A (execs body env) (InvPostN h₀ env.locals (LEnd news ps (P (i + 1))) own (news.map (·.1)) { s with heap := h, toks := tk } Q) E { s with heap := h, toks := tk })
    (done : ∀ (c : σ) (u : Str → Option Value) h tk, P n c → Fr h₀ env.locals h (kstB u (ps c)) → News h₀ env.locals h news → Q .next { s with heap := h, toks := tk }) :
    wpAny (model prog w) A (pyIter (.ref r)) (fun it s₂ => LoopAtV prog w A h₀ env x body Q E it s₂) E s := by
  obtain ⟨tw, hk⟩ := hk
  refine kpr_invN (fun i m nx => LEnd news ps (P i) m nx) hh hr hsmall hn F N ⟨rfl, c₀ tw, hp tw, hk⟩ ?_ ?_
  · rintro i k t m₁ nx h tk own hi hoff ⟨rfl, c, hc, hm⟩ F₁ N₁
    have hlt : i < n := by
      rcases Nat.lt_or_ge i n with q | q
      · exact q
      · rw [List.getElem?_eq_none (by rw [rangeKs_length]; exact q)] at hi; cases hi
    have hk2 : (rangeKs a₀ n)[i]? = some (a₀ + (i : Int)) := by simp [rangeKs, hlt]
    rw [hk2] at hi
    cases hi
    rw [← kstB_all hm] at F₁
    exact turn i t c m₁ h tk own hlt hoff hc F₁ N₁
  · rintro m₁ nx h tk ⟨rfl, c, hc, hm⟩ F₁ N₁
    rw [rangeKs_length] at hc
    rw [← kstB_all hm] at F₁
    exact done c m₁ h tk hc F₁ N₁
end
end Mine
end

section
set_option maxRecDepth 100000
namespace Mine
open PySem PySem.W PyProof.Rows PySem.Calls PySem.Spec

section
variable {prog : Program} {w : World} {A₀ A : Around} {s : Shared} {base h₀ : Heap} {env : Env} {L : Addr} {m : Str → Option Value} {news : List (Addr × Obj)} {K : Frag} {p : Program} {loose : List Str} {mean : ExcName → Option Value} {mg mb : Str → Option Value}
    {R : Result → Shared → Prop} {name qual : Str} {params : Arguments} {body : List Stmt} {scope : Scope} {dV kV doc pm cdv ct oc : Value} {an od : Option Addr} {osl : Array (Option Value)} {f : Addr} {args : Args} {binds : List (Str × Value)}

/-- entering a def that catches, from the one frame at the ground, be its names cells or not -/
theorem enter_catch (B : Below A₀ base [] h₀) (F : Fr h₀ L s.heap m) (X₀ : K.In h₀) (N : News h₀ L s.heap news) (T : Top p loose mean mg mb h₀) (hA : A.frames = some [env]) (hf : env.frame = some L) (hke : env.scope.kind = .function)
    (ho : K.lookup f = some ⟨oc, od, .func (fnOf name qual params body scope dV kV doc pm an cdv ct), osl⟩) (hcd : codeIn K cdv qual = true) (hroom : A.depth < recursionLimit)
    (hbind : BindsTo s (fnOf name qual params body scope dV kV doc pm an cdv ct) args binds) (hloc : ∀ y ∈ binds, scope.names.lookup y.1 = some .local)
    (h : ∀ g L' h₁, Fr h₀ L g m → Fr g L' h₁ (fun y => binds.reverse.lookup y) → News g L' h₁ news → Below A base [env] g → K.In g → Top p loose mean mg mb g → KtsDicts ([env].filterMap (·.frame)) g →
      wpAny (model prog w) (A.deeper (envOf qual scope L' f cdv)) (execs body (envOf qual scope L' f cdv))
        (fun fl s' => LeaveS0 ([env].filterMap (·.frame)) h₀ L m g R (match fl with | .ret v => v | _ => .none) s')
        (fun e s' => wpAny (model prog w) (A.deeper (envOf qual scope L' f cdv)) (leaving (envOf qual scope L' f cdv) e) (fun _ s'' => R (.error e) s'') (fun e' s'' => R (.error e') s'') s')
        { s with heap := h₁, toks := s.toks + binds.length })
    (hco : scope.isCoroutine = false) (hgen : scope.isGenerator = false) (hk : scope.kind = .function)
    (hcell : ∀ x ∈ scope.names, x.2 ≠ .cell) : codeAny (model prog w) A (.call (.ref f) args) R s := by
  have X := X₀.keeps F.keep
  obtain ⟨FG, BG, st, _⟩ := groundX (R := R) B F N hA hf hke
  refine codeAny_call_def (fd := fnOf name qual params body scope dV kV doc pm an cdv ct) (body := body) (binds := binds) hroom (X _ _ ho) rfl (T.nolimit.keeps F.keep) (codeRec_of X hcd) rfl hbind hcell hloc (fun h₁ hns hk₁ => ?_) hco hgen hk
  obtain ⟨oL, es, ep, hLg, hLd, hLk, hLf⟩ := id FG.ns
  have hfs : ∀ b, b ∈ [env].filterMap (·.frame) ↔ b = L := fun b => by simp [hf]
  refine wpAny_mono (h _ s.heap.objs.size h₁ FG ⟨hns, fun b o e => hk₁ b o (of_hideAll _ e), Nat.le_of_eq (hideAll_size _ _)⟩
    (fun q hq => ⟨hk₁ _ _ (N q hq).1, Nat.ne_of_lt (Heap.lt_size (N q hq).1), hideAll_none _ (List.mem_map_of_mem hq)⟩) BG (X₀.keeps st) (T.keeps st)
    (fun b hb => by rw [(hfs b).mp hb]; exact ⟨oL, es, ep, hLg, hLd⟩)) (fun fl s' hl => ?_) fun _ _ y => y
  obtain ⟨g', L', m', news', T', F', N', k⟩ := hl
  have nL₀ : h₀.get? L = none := kts_self F
  obtain ⟨sl, hs⟩ := T'.up hLg
  refine k ⟨⟨_, es, ep, F'.keep _ _ hs, hLd, hLk, hLf⟩, fun b o e => F'.keep b o (T'.other b o (st b o e) (fun q => ?_)), F.above⟩ fun q hq => ⟨(N' q hq).1, fun z => ?_, ?_⟩
  · rw [(hfs b).mp q, nL₀] at e
    cases e
  · have := (N' q hq).2.2; rw [z, hs] at this; cases this
  · cases z : h₀.get? q.1 with
    | none => rfl
    | some o =>
      obtain ⟨sl', hs'⟩ := T'.up (st _ _ z)
      have := (N' q hq).2.2
      rw [hs'] at this
      cases this
end
end Mine
end

section
set_option maxRecDepth 100000
namespace Mine
open PySem PySem.W PyProof.Rows PySem.Calls PySem.Spec
open Builtin Builtin.Str Builtin.BaseException Builtin.Exceptions
section
variable {prog : Program} {w : World} {A : Around} {E : Value → Shared → Prop} {s : Shared} {K : Frag} {e t0 C : Addr} {o : Obj} {vs : Array Value}

theorem bexcArgs_own {M : Model} {items : List Value} {Q : Value × List Value → Shared → Prop} (ho : s.heap.get? e = some o) (hd : o.data = .fields vs) (h0 : vs[0]? = some (.ref t0)) (ht : s.heap.TupAt t0 items) (hq : Q (.ref t0, items) s) :
    wpAny M A (bexcArgs (.ref e)) Q E s := by
  obtain ⟨ot, k, hto, _, htd⟩ := ht
  unfold bexcArgs
  refine wpAny_bind (wpAny_field ho hd h0 (wpAny_bind (wpAny_seqItems hto htd ?_)))
  have : items.toArray.toList = items := by simp
  show wpAny M A (pure (Value.ref t0, items.toArray.toList)) Q E s
  rw [this]; exact wpAny_pure hq

theorem bexcStr_own {m : Str} {tk : Tok} {Q : Fin → Shared → Prop} (ho : s.heap.get? e = some o) (hd : o.data = .fields vs) (h0 : vs[0]? = some (.ref t0)) (ht : s.heap.TupAt t0 [.str m tk]) (hq : Q (.done (.ret (.str m tk))) s) :
    wpAny (model prog w) A (Builtin.«BaseException.__str__» ⟨[.ref e], []⟩) Q E s := by
  unfold Builtin.«BaseException.__str__»
  repeat (first | with_reducible refine bexcArgs_own ho hd h0 ht ?_ | wp_step)
  exact hq

/-- str() of an exception of a class of one's own, that bears one text -/
theorem str_own_exc {m : Str} {tk : Tok} {Q : Value → Shared → Prop} (hu : A.in1.in1.units < cLine) (X : K.In s.heap) (ho : s.heap.get? e = some o) (hc : o.cls = .ref C) (hd : o.data = .fields vs) (h0 : vs[0]? = some (.ref t0)) (ht : s.heap.TupAt t0 [.str m tk])
    (hs : findIn K (.ref C) "__str__" = some (some (.builtin "BaseException.__str__"))) (hm : mroIn K C (.type "BaseException") = some true) (hq : Q (.str m tk) s) :
    wpAny (model prog w) A (call (.type "str") [.ref e]) Q E s := by
  have hT : Looks (model prog w) s.heap (typeOf (.ref e)) (.ref C) := hc ▸ (Looks.ld ho).andThen .now
  refine callType_codes (T := "str") (Bi := Builtin.«object.__init__») (Q₁ := fun r s₁ => ∃ y u, r = .str y u ∧ Q r s₁) PySem.F.called_str (PySem.F.typeCall_str_1 _) PySem.F.entry_object_init ?_ ?_
  · refine codeAny_of_tree ?_
    show wpAny _ A.in1.in1 (do checkBuiltinCall "str.__new__" ⟨[.type "str", .ref e], []⟩; again (.builtin "str.__new__" ⟨[.type "str", .ref e], []⟩)) _ _ s
    refine wpAny_bind (wpAny_of_eq (PySem.F.newCall_str_1 _) (wpAny_pure ⟨plainId_quiet (by decide +kernel) _, codeAny_builtin PySem.F.entry_str_new ?_⟩))
    rw [Around.under_plainId (by decide +kernel) _]
    rw [str_new_tree]
    refine wpAny_bind (wpAny_pure ?_)
    refine wpAny_bind (wpAny_of_eq isSubtype_str_str ?_)
    have key : wpAny (model prog w) A.in1.in1 (PySem.Builtin.Str.strOf (.ref e)) (fun r s₁ => ∃ y u, r = .str y u ∧ Q r s₁) E s := by
      unfold PySem.Builtin.Str.strOf
      rw [show isExactStr (.ref e) = false from rfl]
      refine wpAny_bind (m := cRoomFor _ _) (wpAny_cRoomFor hu ?_)
      refine wpAny_bind (m := callSpecial? (.ref e) (Str.ofString "__str__")) ?_
      refine wpAny_bind (wpAny_bind (hT.here ((looks_findIn X hs).here (wpAny_holding (wpAny_bind ((Looks.of_pure (PySem.F.excStr_Exception.str.bind _)).here (wpAny_bind ?_)))))))
      refine wpAny_call (codeAny_call_builtin PySem.F.excStr_Exception.str.plain PySem.F.entry_bexc_str (check_slot (i := "BaseException.__str__") (owner := "BaseException") (n := "__str__") (by decide +kernel) (by decide +kernel) (hT.andThen (looks_mroIn X hm)) (PySem.F.args_bexc_str _) ?_))
      refine bexcStr_own ho hd h0 ht ?_
      exact wpAny_pure (wpAny_pure ⟨_, _, rfl, hq⟩)
    exact wpAny_bind (wpAny_mono key (fun r s₁ hr => wpAny_pure hr) fun _ _ y => y)
  · rintro obj s₁ ⟨y, u, rfl, hq⟩
    exact ⟨typeIs_str _ _ _, PySem.F.args_object_init_2 _ _, object_init_meets PySem.F.called_str.init.lookup PySem.F.called_str.made (by decide) prog w A.in1 _ s₁ ⟨typeIs_str _ _ _, rfl, hq⟩⟩
theorem str_got {news : List (Addr × Obj)} {h₀ : Heap} {L : Addr} {m : Str} {tk : Tok} {Q : Value → Shared → Prop} {mm : Str → Option Value} (G : Got news e t0 (.ref C) [.str m tk]) (N : News h₀ L s.heap news) (F : Fr h₀ L s.heap mm) (X : K.In h₀) (hu : A.in1.in1.units < cLine)
    (hs : findIn K (.ref C) "__str__" = some (some (.builtin "BaseException.__str__"))) (hm : mroIn K C (.type "BaseException") = some true) (hq : Q (.str m tk) s) :
    wpAny (model prog w) A (call (.type "str") [.ref e]) Q E s := by
  obtain ⟨oe, ot, ws, nt, h1, h2, hc, hd, h0, htc, htd⟩ := G
  exact str_own_exc hu (X.keeps F.keep) (N.get h1) hc hd h0 ⟨ot, nt, N.get h2, htc, htd⟩ hs hm hq
end
end Mine
end

section
set_option maxRecDepth 100000
namespace Mine
open PySem PySem.W PyProof.Rows PySem.Calls PySem.Spec
section
variable {prog : Program} {w : World} {A : Around} {E : Value → Shared → Prop} {s : Shared} {value slice : Expr} {x y R : Str} {t u : Tok} {h₀ : Heap} {L : Addr} {m : Str → Option Value} {news : List (Addr × Obj)} {Q : Value → Shared → Prop} {i j : Int}
theorem add_as (hR : x ++ y = R) (hsz : x.length + y.length ≤ sizeLine) (h : ∀ t' tk, Q (.str R t') { s with toks := tk }) :
    wpAny (model prog w) A (binaryOp .Add (.str x t) (.str y u)) Q E s := by
  subst hR
  exact add_str h hsz
theorem slice_as_ns {uj : Tok} (hy : Txt.slice x none (some j) = y) (hF : Fr h₀ L s.heap m) (hN : News h₀ L s.heap news) (hsz : x.length ≤ sizeLine) (h : ∀ h' t' k, Fr h₀ L h' m → News h₀ L h' news → Q (.str y t') { s with heap := h', toks := k })
    (hs : subscripted slice false (.str x t) (.ref s.heap.objs.size) = operate [.ref s.heap.objs.size, .str x t] (getItem (.str x t) (.ref s.heap.objs.size)) := by with_unfolding_all rfl)
    (ht : ∀ r, letTemporaryGo value (.str x t) r = pure () := by intro _; with_unfolding_all rfl) :
    wpAny (model prog w) A (subscriptTail value slice (.str x t) (.ref s.heap.objs.size)) Q E { s with heap := s.heap.push { cls := .type "slice", data := .fields #[.none, .int j uj, .none] } } := by
  subst hy
  exact slice_strN_ns hF hN h hs ht hsz
theorem slice_as_sn {ui : Tok} (hy : Txt.slice x (some i) none = y) (hF : Fr h₀ L s.heap m) (hN : News h₀ L s.heap news) (hsz : x.length ≤ sizeLine) (h : ∀ h' t' k, Fr h₀ L h' m → News h₀ L h' news → Q (.str y t') { s with heap := h', toks := k })
    (hs : subscripted slice false (.str x t) (.ref s.heap.objs.size) = operate [.ref s.heap.objs.size, .str x t] (getItem (.str x t) (.ref s.heap.objs.size)) := by with_unfolding_all rfl)
    (ht : ∀ r, letTemporaryGo value (.str x t) r = pure () := by intro _; with_unfolding_all rfl) :
    wpAny (model prog w) A (subscriptTail value slice (.str x t) (.ref s.heap.objs.size)) Q E { s with heap := s.heap.push { cls := .type "slice", data := .fields #[.int i ui, .none, .none] } } := by
  subst hy
  exact slice_strN_sn hF hN h hs ht hsz
theorem slice_as_ss {ui uj : Tok} (hy : Txt.slice x (some i) (some j) = y) (hF : Fr h₀ L s.heap m) (hN : News h₀ L s.heap news) (hsz : x.length ≤ sizeLine) (h : ∀ h' t' k, Fr h₀ L h' m → News h₀ L h' news → Q (.str y t') { s with heap := h', toks := k })
    (hs : subscripted slice false (.str x t) (.ref s.heap.objs.size) = operate [.ref s.heap.objs.size, .str x t] (getItem (.str x t) (.ref s.heap.objs.size)) := by with_unfolding_all rfl)
    (ht : ∀ r, letTemporaryGo value (.str x t) r = pure () := by intro _; with_unfolding_all rfl) :
    wpAny (model prog w) A (subscriptTail value slice (.str x t) (.ref s.heap.objs.size)) Q E { s with heap := s.heap.push { cls := .type "slice", data := .fields #[.int i ui, .int j uj, .none] } } := by
  subst hy
  exact slice_strN_ss hF hN h hs ht hsz
theorem item_as (hy : Txt.item x i = y) (h0 : 0 ≤ i) (h1 : i < x.length) (hl : x.length ≤ 1000) (h : ∀ t' tk, Q (.str y t') { s with toks := tk })
    (hs : subscripted slice false (.str x t) (.int i u) = operate [.str x t, .int i u] (getItem (.str x t) (.int i u)))
    (ht : ∀ r, letTemporaryGo value (.str x t) r = pure ()) :
    wpAny (model prog w) A (subscriptTail value slice (.str x t) (.int i u)) Q E s := by
  subst hy
  refine item_str ?_ (by omega) (by omega) (fun _ => h _ _) hs ht
  unfold fitsSsize
  simp
  omega
theorem find_as (hy : Txt.find x y = i) (h : Q (.int i s.toks) { s with toks := s.toks + 1 }) : wpAny (model prog w) A (call (.builtin "str.find") [.str x t, .str y u]) Q E s := by
  subst hy
  exact SC.find h
theorem find3_as {v : Tok} (hy : Txt.find3 x y i = j) (h : Q (.int j s.toks) { s with toks := s.toks + 1 }) : wpAny (model prog w) A (call (.builtin "str.find") [.str x t, .str y u, .int i v]) Q E s := by
  subst hy
  exact SC.find3 h
theorem cons_of {α β : Type} {a : α} {r : List α} {l : List (α × β)} (h : l.map (·.1) = a :: r) : ∃ t l', l = (a, t) :: l' ∧ l'.map (·.1) = r := by
  cases l with
  | nil => exact nomatch h
  | cons p l => exact ⟨p.2, l, by rw [← (List.cons.inj h).1], (List.cons.inj h).2⟩
theorem split_as5 {a b c d e : Str} (hy : Txt.split x y = [a, b, c, d, e]) (hF : Fr h₀ L s.heap m) (hN : News h₀ L s.heap news) (hy0 : (y.length == 0) = false) (hsz : x.length + 2 ≤ sizeLine)
    (h : ∀ t1 t2 t3 t4 t5 h' k, Fr h₀ L h' m → News h₀ L h' ((s.heap.objs.size, { cls := .type "list", data := .seq #[.str a t1, .str b t2, .str c t3, .str d t4, .str e t5] }) :: news) → Q (.ref s.heap.objs.size) { s with heap := h', toks := k }) :
    wpAny (model prog w) A (call (.builtin "str.split") [.str x t, .str y u]) Q E s := by
  refine splitN1 hF hN hy0 (fun l h' k hl F N => ?_) hsz
  rw [hy] at hl
  obtain ⟨t1, l1, e1, hl⟩ := cons_of hl
  obtain ⟨t2, l2, e2, hl⟩ := cons_of hl
  obtain ⟨t3, l3, e3, hl⟩ := cons_of hl
  obtain ⟨t4, l4, e4, hl⟩ := cons_of hl
  obtain ⟨t5, l5, e5, hl⟩ := cons_of hl
  rw [e1, e2, e3, e4, e5, List.map_eq_nil_iff.mp hl] at N
  exact h t1 t2 t3 t4 t5 h' k F N
theorem split_asN {n : Nat} (hy : (Txt.split x y).length = n) (hF : Fr h₀ L s.heap m) (hN : News h₀ L s.heap news) (hy0 : (y.length == 0) = false) (hsz : x.length + 2 ≤ sizeLine)
    (h : ∀ l h' k, List.length l = n → Fr h₀ L h' m → News h₀ L h' ((s.heap.objs.size, { cls := .type "list", data := .seq (List.toArray l) }) :: news) → Q (.ref s.heap.objs.size) { s with heap := h', toks := k }) :
    wpAny (model prog w) A (call (.builtin "str.split") [.str x t, .str y u]) Q E s := by
  refine splitN1 hF hN hy0 (fun l h' k hl F N => ?_) hsz
  refine h (strValues l) h' k ?_ F N
  rw [← hy, ← hl, List.length_map]
  unfold strValues
  simp
theorem list_at {a : Addr} {vs : Array Value} {n : Nat} {v : Value} {k : Int} (N : News h₀ L s.heap news) (hm : (a, ({ cls := .type "list", data := .seq vs n } : Obj)) ∈ news) (h0 : 0 ≤ k) (hhi : k < 2 ^ 63) (hx : vs[k.toNat]? = some v) (h : Q v s)
    (hs : subscripted slice false (.ref a) (.int k u) = operate [.ref a, .int k u] (getItem (.ref a) (.int k u))) :
    wpAny (model prog w) A (subscriptTail value slice (.ref a) (.int k u)) Q E s :=
  have hL : s.heap.IsList a vs := ⟨_, N.get hm, rfl, n, rfl⟩
  tail_any hL.typeIs slot_list_getitem.lookup (wpAny_getItem_list hL h0 hhi hx h) hs
theorem list_at3 {a : Addr} {x0 x1 x2 x3 x4 : Value} {n : Nat} (N : News h₀ L s.heap news) (hm : (a, ({ cls := .type "list", data := .seq #[x0, x1, x2, x3, x4] n } : Obj)) ∈ news) (h : Q x3 s)
    (hs : subscripted slice false (.ref a) (.int 3 u) = operate [.ref a, .int 3 u] (getItem (.ref a) (.int 3 u))) :
    wpAny (model prog w) A (subscriptTail value slice (.ref a) (.int 3 u)) Q E s :=
  list_at N hm (by decide) (by decide) rfl h hs
theorem len_at {a : Addr} {l : List Value} {n k : Nat} (N : News h₀ L s.heap news) (hm : (a, ({ cls := .type "list", data := .seq (List.toArray l) n } : Obj)) ∈ news) (hl : List.length l = k) (hk : k ≤ 1000) (h : Q (.int (k : Int) (s.toks + 1)) { s with toks := s.toks + 1 + 1 }) :
    wpAny (model prog w) A (call (.builtin "len") [.ref a]) Q E s := by
  have hL : s.heap.IsList a (List.toArray l) := ⟨_, N.get hm, rfl, n, rfl⟩
  have hs : (List.toArray l).size = k := by simp [hl]
  refine len_list hL (by rw [hs]; omega) ?_
  rw [hs]
  exact h
theorem ne_same (h : Q (.bool false) s) : wpAny (model prog w) A (compareOp .NotEq (.str x t) (.str x u)) Q E s := by
  refine ne_str ?_
  rw [bne_self_eq_false]
  exact h
theorem in_as {b : Bool} (hb : (!(Builtin.Str.occurrences x y 0 x.length 1).isEmpty) = b) (h : Q (.bool b) s) : wpAny (model prog w) A (compareOp .In (.str y u) (.str x t)) Q E s := by
  subst hb
  exact in_str h
end
end Mine
end

section
open PySem PySem.W PyProof.Rows
set_option Elab.async false
namespace Mine
/-- a contract at the ground: the caller is the one frame of the call -/
abbrev Ct0 (w : World) (mean : ExcName → Option Value) (mg mb : Str → Option Value) (news : List (Addr × Obj)) (dd : Nat) (f : Addr) (vs : List Value)
    (ret : Heap → Addr → (Str → Option Value) → Shared → (Value → Shared → Prop) → Prop) : Prop :=
  ∀ (dp un : Nat) (gd : Option (List Code)) (cn : Str) (cs : Scope) (a : Addr) (ccd : Value) (cl : List (Str × Addr)) (A₀ : Around) (h₀ : Heap) (L : Addr) (m : Str → Option Value) (s : Shared) (Q E : Value → Shared → Prop),
    Below A₀ h₀ [] h₀ → Fr h₀ L s.heap m → (hd.heap_39 w.params).In h₀ → News h₀ L s.heap news → Top hd.view_39 (looseW hd.view_39 [Str.ofString "ONE_THIRD", Str.ofString "ONE_SIXTH", Str.ofString "TWO_THIRD"]) mean mg mb h₀ → cs.kind = .function →
    dp + dd < recursionLimit → un + 8 * dd < cLine → ret h₀ L m s Q →
      wpAny (model PySem.Challenge.rw_wu0039_01.row.prog w) (ktrTop dp un gd cn cs L a ccd cl []) (call (.ref f) vs) Q E s
/-- the facts of a reply -/
structure Asked (ds : List Nat) (c : Nat) (R body : Str) (rt : Int) : Prop where
  hR : Str.ofString "229 passive (" ++ Txt.mul ⟨#[c]⟩ 3 ++ dStr ds ++ (⟨#[c]⟩ : Str) ++ Str.ofString ")" = R
  hR0 : (Str.ofString "229 passive (" ++ Txt.mul ⟨#[c]⟩ 3 ++ dStr ds ++ (⟨#[c]⟩ : Str)).length + (Str.ofString ")").length ≤ sizeLine
  hRl : R.length ≤ 40
  hRn : (R.length : Int) = rt + 1
  hr0 : 17 ≤ rt
  hbl : body.length ≤ 40
  f1 : Txt.slice R none (some 3) = Str.ofString "229"
  f2 : Txt.find R (Str.ofString "(") = 12
  f3 : Txt.find3 R (Str.ofString ")") (12 + 1) = rt
  f4 : Txt.item R (12 + 1) = ⟨#[c]⟩
  f5 : Txt.item R (rt - 1) = ⟨#[c]⟩
  f6 : Txt.slice R (some (12 + 1)) (some rt) = body
section
variable (w : World) (mean : ExcName → Option Value) (mg mb : Str → Option Value) (news : List (Addr × Obj))
section
set_option maxRecDepth 100000 in
set_option maxHeartbeats 8000000 in
theorem c_asked_no (ds : List Nat) (c : Nat) (R body : Str) (rt v : Int) (H : Asked ds c R body rt) (f7 : Txt.split body ⟨#[c]⟩ = [⟨#[]⟩, ⟨#[]⟩, ⟨#[]⟩, dStr ds, ⟨#[]⟩]) (f8 : (!(Builtin.Str.occurrences (dStr ds) ⟨#[c]⟩ 0 (dStr ds).length 1).isEmpty) = false) (f9 : PySem.intText? (dStr ds) = some v)
    (ts tm : Tok) (hl : (dStr ds).length ≤ 6) (hm : (Str.mk #[c]).length ≤ 1) :
    Ct0 w mean mg mb news 20 149 [.str (dStr ds) ts, .str ⟨#[c]⟩ tm] (RetV news fun t => .int v t) := by
  k_with_none
  k_with "call ref" => (k_here; (with_reducible show wpAny _ _ (call (Value.ref 58) _) _ _ _); refine wpAny_call ?_; k_dflt (refine' code_def ?qk1 ?qk2 ?qk3 ?qk4 ?qk5 ?qkA ?qkF ?qkK ?qk6 ?qk7 ?qk8 ?qk9 ?qkB ?_ ?qc2 ?qc3 ?qc4 ?qc5; (case qkA => exact rfl); (case qkF => exact rfl); (case qkK => first | exact rfl | assumption); (case qk1 => k_asm); (case qk2 => k_asm); (case qk3 => k_asm); (case qk4 => k_asm); (case qk5 => k_asm); (case qk6 => k_is); (case qk7 => k_is); (case qk8 => ktr_room); (case qk9 => exact BindsTo.of_eq rfl); (case qc5 => decide); (case qkB => exact locs rfl); (case qc2 => exact rfl); (case qc3 => exact rfl); (case qc4 => exact rfl); k_whole; intro g' L' h' FG' F' N' B' X' T'; (try dsimp only); (try k_lift B'); (try k_fold)))
  k_with "binaryOp Add str str" => (k_here; (with_reducible show wpAny _ _ (binaryOp _ (Value.str _ _) (Value.str (Str.ofString ")") _)) _ _ _); k_dflt (refine' add_as (by assumption) (by assumption) ?_; k_whole); intro t' tk')
  k_with "subscriptTail Name Slice str ref" => (k_here; (with_reducible show wpAny _ _ (subscriptTail _ (Expr.Slice none (some _) none _) (Value.str _ _) (Value.ref _)) _ _ _); (with_reducible rename Fr _ _ _ _ => F'); (with_reducible rename News _ _ _ _ => N'); (refine slice_as_ns (s := ⟨_, _, _, _, _⟩) (by assumption) F' N' (by size_fits) ?_); intro h' t' k' F' N')
  k_with "subscriptTail Name Slice str ref" => (k_here; (with_reducible show wpAny _ _ (subscriptTail _ (Expr.Slice (some _) (some _) none _) (Value.str _ _) (Value.ref _)) _ _ _); (with_reducible rename Fr _ _ _ _ => F'); (with_reducible rename News _ _ _ _ => N'); (refine slice_as_ss (s := ⟨_, _, _, _, _⟩) (by assumption) F' N' (by size_fits) ?_); intro h' t' k' F' N')
  k_with "subscriptTail Name BinOp str int" => (k_here; (with_reducible show wpAny _ _ (subscriptTail _ _ (Value.str _ _) (Value.int _ _)) _ _ _); k_dflt (refine' item_as (by assumption) (by omega) (by omega) (by omega) ?_ (by with_unfolding_all rfl) (by (intro _; with_unfolding_all rfl)); k_whole); intro t' tk')
  k_with "call builtin:str.find" => (k_here; (with_reducible show wpAny _ _ (call (Value.builtin "str.find") [Value.str _ _, Value.str _ _]) _ _ _); k_dflt (refine' find_as (by assumption) ?_; k_whole))
  k_with "call builtin:str.find" => (k_here; (with_reducible show wpAny _ _ (call (Value.builtin "str.find") [Value.str _ _, Value.str _ _, Value.int _ _]) _ _ _); k_dflt (refine' find3_as (by assumption) ?_; k_whole))
  k_with "compareOp In str str" => (k_here; (with_reducible show wpAny _ _ (compareOp CmpOp.In (Value.str _ _) (Value.str _ _)) _ _ _); k_dflt (refine' in_as (by assumption) ?_; k_whole))
  k_with "call type:str" => (k_here; (with_reducible show wpAny _ _ (call (Value.type "str") [Value.ref _]) _ _ _); k_dflt (refine' str_got (by assumption) (by assumption) (by assumption) (by k_asm) (by first | ktr_units | k_units) (by k_is) (by k_is) ?_; k_whole))
  k_with "call type:int" => (k_here; (with_reducible show wpAny _ _ (call (Value.type "int") [Value.str _ _]) _ _ _); k_dflt (refine' KIN.call_text (by assumption) (by omega) ?_; k_whole))
  k_with "compareOp NotEq ref ref" => (k_here; (with_reducible show wpAny _ _ (compareOp CmpOp.NotEq (Value.ref _) (Value.ref _)) _ _ _); k_dflt (refine ne_dataH (by ke_read) (by ke_read) (by ke_shaped) (by ke_shaped) (by ktr_units) ?_); ke_norm)
  k_with "compareOp NotEq str str" => (k_here; (with_reducible refine ne_same ?_))
  k_with "subscriptTail Name Constant ref int" => (k_here; (with_reducible show wpAny _ _ (subscriptTail _ _ (Value.ref _) (Value.int 3 _)) _ _ _); (with_reducible rename News _ _ _ _ => N'); k_dflt (refine' list_at3 N' (by k_mem) ?_ (by with_unfolding_all rfl); k_whole))
  k_with "call builtin:str.split" => (k_here; (with_reducible show wpAny _ _ (call (Value.builtin "str.split") [Value.str _ _, Value.str _ _]) _ _ _); (with_reducible rename Fr _ _ _ _ => F'); (with_reducible rename News _ _ _ _ => N'); (refine split_as5 (by assumption) F' N' rfl (by size_fits) ?_); intro t1' t2' t3' t4' t5' h' k' F' N')
  obtain ⟨hR, hR0, hRl, hRn, hr0, hbl, f1, f2, f3, f4, f5, f6⟩ := H
  dsimp only [Ct0, RetV]
  k_fill
  w_top off
  intros
  rename_i hret
  refine wpAny_call ?_
  k_dflt (refine' enter_catch ?k1 ?k2 ?k3 ?k4 ?k5 ?kA ?kF ?kK ?k6 ?k7 ?k8 ?k9 ?kB ?_ ?c2 ?c3 ?c4 ?c5; (case kA => exact rfl); (case kF => exact rfl); (case kK => first | exact rfl | assumption); (case k1 => k_asm); (case k2 => k_asm); (case k3 => k_asm); (case k4 => k_asm); (case k5 => k_asm); (case k6 => k_is); (case k7 => k_is); (case k8 => ktr_room); (case k9 => exact BindsTo.of_eq rfl); (case c5 => decide); (case kB => exact locs rfl); (case c2 => exact rfl); (case c3 => exact rfl); (case c4 => exact rfl); k_whole; intro g' L' h' FG' F' N' B' X' T' D'; (try dsimp only); (try k_lift B'); (try k_fold))
  k_steps
  all_goals (rename News _ _ _ _ => lN9)
  all_goals exact hret _ _ _ (by assumption) (fun q hq => lN9 q (by simp [hq]))
end
section
set_option maxRecDepth 100000 in
set_option maxHeartbeats 8000000 in
theorem c_asked_in (ds : List Nat) (c np : Nat) (R body : Str) (rt : Int) (H : Asked ds c R body rt) (f7 : (Txt.split body ⟨#[c]⟩).length = np) (hnp : (5 : Int) < (np : Int)) (hnp2 : np ≤ 100) (f8 : (!(Builtin.Str.occurrences (dStr ds) ⟨#[c]⟩ 0 (dStr ds).length 1).isEmpty) = true)
    (ts tm : Tok) (hl : (dStr ds).length ≤ 6) (hm : (Str.mk #[c]).length ≤ 1) :
    Ct0 w mean mg mb news 20 149 [.str (dStr ds) ts, .str ⟨#[c]⟩ tm] (RetV news fun t => .int (-1) t) := by
  k_with_none
  k_with "call ref" => (k_here; (with_reducible show wpAny _ _ (call (Value.ref 58) _) _ _ _); refine wpAny_call ?_; k_dflt (refine' code_def ?qk1 ?qk2 ?qk3 ?qk4 ?qk5 ?qkA ?qkF ?qkK ?qk6 ?qk7 ?qk8 ?qk9 ?qkB ?_ ?qc2 ?qc3 ?qc4 ?qc5; (case qkA => exact rfl); (case qkF => exact rfl); (case qkK => first | exact rfl | assumption); (case qk1 => k_asm); (case qk2 => k_asm); (case qk3 => k_asm); (case qk4 => k_asm); (case qk5 => k_asm); (case qk6 => k_is); (case qk7 => k_is); (case qk8 => ktr_room); (case qk9 => exact BindsTo.of_eq rfl); (case qc5 => decide); (case qkB => exact locs rfl); (case qc2 => exact rfl); (case qc3 => exact rfl); (case qc4 => exact rfl); k_whole; intro g' L' h' FG' F' N' B' X' T'; (try dsimp only); (try k_lift B'); (try k_fold)))
  k_with "binaryOp Add str str" => (k_here; (with_reducible show wpAny _ _ (binaryOp _ (Value.str _ _) (Value.str (Str.ofString ")") _)) _ _ _); k_dflt (refine' add_as (by assumption) (by assumption) ?_; k_whole); intro t' tk')
  k_with "subscriptTail Name Slice str ref" => (k_here; (with_reducible show wpAny _ _ (subscriptTail _ (Expr.Slice none (some _) none _) (Value.str _ _) (Value.ref _)) _ _ _); (with_reducible rename Fr _ _ _ _ => F'); (with_reducible rename News _ _ _ _ => N'); (refine slice_as_ns (s := ⟨_, _, _, _, _⟩) (by assumption) F' N' (by size_fits) ?_); intro h' t' k' F' N')
  k_with "subscriptTail Name Slice str ref" => (k_here; (with_reducible show wpAny _ _ (subscriptTail _ (Expr.Slice (some _) (some _) none _) (Value.str _ _) (Value.ref _)) _ _ _); (with_reducible rename Fr _ _ _ _ => F'); (with_reducible rename News _ _ _ _ => N'); (refine slice_as_ss (s := ⟨_, _, _, _, _⟩) (by assumption) F' N' (by size_fits) ?_); intro h' t' k' F' N')
  k_with "subscriptTail Name BinOp str int" => (k_here; (with_reducible show wpAny _ _ (subscriptTail _ _ (Value.str _ _) (Value.int _ _)) _ _ _); k_dflt (refine' item_as (by assumption) (by omega) (by omega) (by omega) ?_ (by with_unfolding_all rfl) (by (intro _; with_unfolding_all rfl)); k_whole); intro t' tk')
  k_with "call builtin:str.find" => (k_here; (with_reducible show wpAny _ _ (call (Value.builtin "str.find") [Value.str _ _, Value.str _ _]) _ _ _); k_dflt (refine' find_as (by assumption) ?_; k_whole))
  k_with "call builtin:str.find" => (k_here; (with_reducible show wpAny _ _ (call (Value.builtin "str.find") [Value.str _ _, Value.str _ _, Value.int _ _]) _ _ _); k_dflt (refine' find3_as (by assumption) ?_; k_whole))
  k_with "compareOp In str str" => (k_here; (with_reducible show wpAny _ _ (compareOp CmpOp.In (Value.str _ _) (Value.str _ _)) _ _ _); k_dflt (refine' in_as (by assumption) ?_; k_whole))
  k_with "call type:str" => (k_here; (with_reducible show wpAny _ _ (call (Value.type "str") [Value.ref _]) _ _ _); k_dflt (refine' str_got (by assumption) (by assumption) (by assumption) (by k_asm) (by first | ktr_units | k_units) (by k_is) (by k_is) ?_; k_whole))
  k_with "call type:int" => (k_here; (with_reducible show wpAny _ _ (call (Value.type "int") [Value.str _ _]) _ _ _); k_dflt (refine' KIN.call_text (by assumption) (by omega) ?_; k_whole))
  k_with "compareOp NotEq ref ref" => (k_here; (with_reducible show wpAny _ _ (compareOp CmpOp.NotEq (Value.ref _) (Value.ref _)) _ _ _); k_dflt (refine ne_dataH (by ke_read) (by ke_read) (by ke_shaped) (by ke_shaped) (by ktr_units) ?_); ke_norm)
  k_with "compareOp NotEq str str" => (k_here; (with_reducible refine ne_same ?_))
  k_with "subscriptTail Name Constant ref int" => (k_here; (with_reducible show wpAny _ _ (subscriptTail _ _ (Value.ref _) (Value.int 3 _)) _ _ _); (with_reducible rename News _ _ _ _ => N'); k_dflt (refine' list_at3 N' (by k_mem) ?_ (by with_unfolding_all rfl); k_whole))
  k_with "call builtin:str.split" => (k_here; (with_reducible show wpAny _ _ (call (Value.builtin "str.split") [Value.str _ _, Value.str _ _]) _ _ _); (with_reducible rename Fr _ _ _ _ => F'); (with_reducible rename News _ _ _ _ => N'); (refine split_asN (by assumption) F' N' rfl (by size_fits) ?_); intro l' h' k' hl' F' N')
  k_with "call builtin:len" => (k_here; (with_reducible show wpAny _ _ (call (Value.builtin "len") [Value.ref _]) _ _ _); (with_reducible rename News _ _ _ _ => N'); k_dflt (refine' len_at N' (by k_mem) (by assumption) (by omega) ?_; k_whole))
  obtain ⟨hR, hR0, hRl, hRn, hr0, hbl, f1, f2, f3, f4, f5, f6⟩ := H
  dsimp only [Ct0, RetV]
  k_fill
  w_top off
  intros
  rename_i hret
  refine wpAny_call ?_
  k_dflt (refine' enter_catch ?k1 ?k2 ?k3 ?k4 ?k5 ?kA ?kF ?kK ?k6 ?k7 ?k8 ?k9 ?kB ?_ ?c2 ?c3 ?c4 ?c5; (case kA => exact rfl); (case kF => exact rfl); (case kK => first | exact rfl | assumption); (case k1 => k_asm); (case k2 => k_asm); (case k3 => k_asm); (case k4 => k_asm); (case k5 => k_asm); (case k6 => k_is); (case k7 => k_is); (case k8 => ktr_room); (case k9 => exact BindsTo.of_eq rfl); (case c5 => decide); (case kB => exact locs rfl); (case c2 => exact rfl); (case c3 => exact rfl); (case c4 => exact rfl); k_whole; intro g' L' h' FG' F' N' B' X' T' D'; (try dsimp only); (try k_lift B'); (try k_fold))
  k_steps
  all_goals first
    | ((rename News _ _ _ _ => lN9); exact hret _ _ _ (by assumption) (fun q hq => lN9 q (by simp [hq])))
    | (exfalso; exact absurd (show (R == R) = false from by assumption) (by simp))
    | (exfalso; exact absurd (show (np : Int) = 5 from by assumption) (by omega))
end
end
end Mine
end

section
set_option maxRecDepth 100000
namespace Mine
open PySem PySem.W PyProof.Rows PySem.Calls PySem.Spec
open Builtin Builtin.Str NumText

def AD (ds : List Nat) : Prop := ∀ d ∈ ds, d < 10
def mk1 (c : Nat) : Prop := c = 124 ∨ (48 ≤ c ∧ c ≤ 57)
def RL (ds : List Nat) (c : Nat) : List Nat := [50, 50, 57, 32, 112, 97, 115, 115, 105, 118, 101, 32, 40, c, c, c] ++ (ds.map (48 + ·) ++ [c, 41])
def BL (ds : List Nat) (c : Nat) : List Nat := c :: c :: c :: (ds.map (48 + ·) ++ [c])

theorem RL_len (ds : List Nat) (c : Nat) : (RL ds c).length = 18 + ds.length := by
  unfold RL; simp; omega
theorem RL_mid (ds : List Nat) (c : Nat) (hds : AD ds) (hc : mk1 c) {k : Nat} (h1 : 13 ≤ k) (h2 : k < 17 + ds.length) : (RL ds c).getD k 0 ≠ 41 ∧ (RL ds c).getD k 0 ≠ 40 := by
  have hc' : c ≠ 41 ∧ c ≠ 40 := by unfold mk1 at hc; omega
  unfold RL
  rw [List.getD_eq_getElem?_getD]
  by_cases h3 : k < 16
  · have : k = 13 ∨ k = 14 ∨ k = 15 := by omega
    rcases this with rfl | rfl | rfl <;> simpa using hc'
  · rw [List.getElem?_append_right (by simp; omega)]
    simp only [List.length_cons, List.length_nil]
    by_cases h4 : k - 16 < ds.length
    · rw [List.getElem?_append_left (by simpa using h4)]
      rw [List.getElem?_map, List.getElem?_eq_getElem h4]
      have := hds _ (List.getElem_mem h4)
      simp only [Option.map_some, Option.getD_some]
      omega
    · have : k - 16 = ds.length := by omega
      rw [List.getElem?_append_right (by simp; omega)]
      simp [this]
      exact hc'
theorem RL_end (ds : List Nat) (c : Nat) : (RL ds c).getD (17 + ds.length) 0 = 41 := by
  unfold RL
  rw [List.getD_eq_getElem?_getD, List.getElem?_append_right (by simp; omega)]
  simp only [List.length_cons, List.length_nil]
  rw [List.getElem?_append_right (by simp; omega)]
  have : 17 + ds.length - (0 + 1 + 1 + 1 + 1 + 1 + 1 + 1 + 1 + 1 + 1 + 1 + 1 + 1 + 1 + 1 + 1) - (ds.map (48 + ·)).length = 1 := by simp; omega
  rw [this]
  rfl
theorem RL_last (ds : List Nat) (c : Nat) : (RL ds c)[16 + ds.length]? = some c := by
  unfold RL
  rw [List.getElem?_append_right (by simp)]
  simp only [List.length_cons, List.length_nil]
  rw [List.getElem?_append_right (by simp)]
  have : 16 + ds.length - (0 + 1 + 1 + 1 + 1 + 1 + 1 + 1 + 1 + 1 + 1 + 1 + 1 + 1 + 1 + 1 + 1) - (ds.map (48 + ·)).length = 0 := by simp
  rw [this]
  rfl
theorem getD_toA (l : List Nat) (k : Nat) : (List.toArray l).getD k 0 = l.getD k 0 := by
  simp [Array.getD_eq_getD_getElem?, List.getD_eq_getElem?_getD]
theorem item_of {l : List Nat} {i : Int} {n c : Nat} (hi : i = (n : Int)) (h : l[n]? = some c) : Txt.item ⟨l.toArray⟩ i = ⟨#[c]⟩ := by
  subst hi
  have := StrLaws.at_nonneg (x := ⟨l.toArray⟩) (i := (n : Int)) (n := c) (by omega) (by simpa using h)
  unfold Txt.item Txt.charAt
  rw [this]
  rfl
theorem find_is (x y : Str) : Txt.find x y = Txt.find3 x y 0 := by
  unfold Txt.find Txt.find3
  have : fromIndex x.length 0 = 0 := by unfold fromIndex; simp
  rw [this]
  cases occurrences x y 0 x.length 1 <;> rfl

theorem asked_facts (ds : List Nat) (c : Nat) (hds : AD ds) (hc : mk1 c) (hl : ds.length ≤ 6) : Asked ds c ⟨(RL ds c).toArray⟩ ⟨(BL ds c).toArray⟩ (17 + (ds.length : Int)) := by
  have hlen : (⟨(RL ds c).toArray⟩ : Str).length = 18 + ds.length := by unfold Str.length; simp [RL_len]
  have e1 : Str.ofString "229 passive (" = ⟨#[50, 50, 57, 32, 112, 97, 115, 115, 105, 118, 101, 32, 40]⟩ := by decide +kernel
  have e2 : Txt.mul ⟨#[c]⟩ 3 = ⟨#[c, c, c]⟩ := by
    unfold Txt.mul
    have : (decide ((3 : Int) = 1) || decide ((⟨#[c]⟩ : Str).length = 0)) = false := by simp [Str.length]
    simp [Str.length]
  have e3 : Str.ofString ")" = ⟨#[41]⟩ := by decide +kernel
  have e4 : Str.ofString "(" = ⟨#[40]⟩ := by decide +kernel
  have e5 : Str.ofString "229" = ⟨#[50, 50, 57]⟩ := by decide +kernel
  refine ⟨?_, ?_, ?_, ?_, ?_, ?_, ?_, ?_, ?_, ?_, ?_, ?_⟩
  · rw [e1, e2, e3]
    apply Str.ext'
    simp only [Str.cps_append, dStr, RL]
    simp
  · rw [e1, e2, e3]
    simp only [Str.length_append, dStr_length]
    have : ∀ a b d : Nat, a + b + ds.length + d ≤ 1000 → a + b + ds.length + d ≤ sizeLine := fun _ _ _ h => Nat.le_trans h (by decide)
    simp only [Str.length, List.size_toArray, List.length_cons, List.length_nil, Array.size]
    rw [sizeLine_eq]
    omega
  · rw [hlen]; omega
  · rw [hlen]; omega
  · omega
  · unfold Str.length BL; simp; omega
  · show StrLaws.sliceText _ none (some 3) = _
    rw [StrLaws.sliceText_to ⟨by decide, by simp [RL_len]; omega⟩, e5]
    rfl
  · rw [find_is, e4]
    rcases StrLaws.find3_spec ⟨(RL ds c).toArray⟩ 40 0 with ⟨h, hn⟩ | ⟨k, h, _, hk, hk2, hn⟩
    · exact absurd (getD_toA (RL ds c) 12) (fun q => hn 12 (by unfold fromIndex; simp) (by rw [hlen]; omega) (q.trans rfl))
    · rw [h]
      have h1 : ¬ 12 < k := fun q => hn 12 (by unfold fromIndex; simp) q ((getD_toA (RL ds c) 12).trans rfl)
      have hk3 : (RL ds c).getD k 0 = 40 := (getD_toA _ _).symm.trans hk2
      have hk13 : k < 13 := by omega
      have hp : (RL ds c).getD k 0 = [50, 50, 57, 32, 112, 97, 115, 115, 105, 118, 101, 32, 40].getD k 0 := by
        have : RL ds c = [50, 50, 57, 32, 112, 97, 115, 115, 105, 118, 101, 32, 40] ++ ([c, c, c] ++ (ds.map (48 + ·) ++ [c, 41])) := rfl
        rw [this, List.getD_eq_getElem?_getD, List.getElem?_append_left (by exact hk13), ← List.getD_eq_getElem?_getD]
      have all : ∀ k : Nat, k < 13 → [50, 50, 57, 32, 112, 97, 115, 115, 105, 118, 101, 32, 40].getD k 0 = 40 → k = 12 := by decide
      rw [all k hk13 (hp ▸ hk3)]
      rfl
  · rw [e3]
    have f13 : fromIndex (⟨(RL ds c).toArray⟩ : Str).length (12 + 1) = 13 := by unfold fromIndex; simp; decide
    rcases StrLaws.find3_spec ⟨(RL ds c).toArray⟩ 41 (12 + 1) with ⟨h, hn⟩ | ⟨k, h, hk0, hk, hk2, hn⟩
    · exact absurd ((getD_toA (RL ds c) (17 + ds.length)).trans (RL_end ds c)) (hn _ (by rw [f13]; omega) (by rw [hlen]; omega))
    · rw [h]
      rw [f13] at hk0 hn
      rw [hlen] at hk
      have hk3 : (RL ds c).getD k 0 = 41 := (getD_toA _ _).symm.trans hk2
      have h1 : ¬ k < 17 + ds.length := fun q => (RL_mid ds c hds hc hk0 q).1 hk3
      omega
  · exact item_of (n := 13) (by omega) rfl
  · exact item_of (n := 16 + ds.length) (by omega) (RL_last ds c)
  · show StrLaws.sliceText _ (some (12 + 1)) (some _) = _
    rw [StrLaws.sliceText_plain ⟨by decide, by omega, by simp [RL_len] <;> omega⟩]
    congr 2
    have a1 : ((12 + 1 : Int)).toNat = 13 := rfl
    have a2 : (17 + (ds.length : Int) - (12 + 1)).toNat = 4 + ds.length := by omega
    rw [a1, a2]
    show ((RL ds c).drop 13).take (4 + ds.length) = BL ds c
    unfold RL BL
    show ((c :: c :: c :: (ds.map (48 + ·) ++ [c, 41]))).take (4 + ds.length) = _
    have a3 : 4 + ds.length = (1 + ds.length) + 1 + 1 + 1 := by omega
    rw [a3, List.take_succ_cons, List.take_succ_cons, List.take_succ_cons]
    congr 3
    have a4 : ds.map (48 + ·) ++ [c, 41] = (ds.map (48 + ·) ++ [c]) ++ [41] := by simp
    rw [a4, List.take_left']
    simp; omega

theorem free_cut {c : Nat} : ∀ {p d q r : List Nat}, c ∉ p → c ∉ d → p ++ c :: q = d ++ c :: r → p = d ∧ q = r
  | [], [], _, _, _, _, h => ⟨rfl, (List.cons.inj h).2⟩
  | [], a :: d, _, _, _, hd, h => by
    have := (List.cons.inj h).1
    exact absurd (by rw [this]; exact List.mem_cons_self ..) hd
  | a :: p, [], _, _, hp, _, h => by
    have := (List.cons.inj h).1
    exact absurd (by rw [← this]; exact List.mem_cons_self ..) hp
  | a :: p, b :: d, q, r, hp, hd, h => by
    have h1 := (List.cons.inj h).1
    have h2 := (List.cons.inj h).2
    have := free_cut (c := c) (p := p) (d := d) (fun m => hp (List.mem_cons_of_mem _ m)) (fun m => hd (List.mem_cons_of_mem _ m)) h2
    exact ⟨by rw [h1, this.1], this.2⟩
theorem join_count {c : Nat} : ∀ {ps : List Str}, ps ≠ [] → (∀ p ∈ ps, c ∉ p.cps.toList) → (Str.join ⟨#[c]⟩ ps).cps.toList.count c + 1 = ps.length
  | [], h, _ => absurd rfl h
  | [x], _, h => by
    show (x.cps.toList.count c) + 1 = 1
    rw [List.count_eq_zero_of_not_mem (h x (List.mem_cons_self ..))]
  | x :: y :: r, _, h => by
    show ((x ++ (⟨#[c]⟩ : Str) ++ Str.join ⟨#[c]⟩ (y :: r)).cps.toList.count c) + 1 = _
    have ih := join_count (c := c) (ps := y :: r) (by simp) (fun p hp => h p (List.mem_cons_of_mem _ hp))
    have h1 : (⟨#[c]⟩ : Str).cps.toList.count c = 1 := by simp
    rw [Str.cps_append, Str.cps_append, Array.toList_append, Array.toList_append, List.count_append, List.count_append, h1]
    rw [List.count_eq_zero_of_not_mem (h x (List.mem_cons_self ..))]
    simp only [List.length_cons] at ih ⊢
    omega
theorem split_ne (x y : Str) (hx : x.cps.toList ≠ []) : Txt.split x y ≠ [] := by
  intro h
  have := StrLaws.join_split x y
  rw [h] at this
  apply hx
  rw [← this]
  rfl
theorem split_count (l : List Nat) (c : Nat) (hl : l ≠ []) : (Txt.split ⟨l.toArray⟩ ⟨#[c]⟩).length = l.count c + 1 := by
  have h := join_count (c := c) (split_ne ⟨l.toArray⟩ ⟨#[c]⟩ (by simpa using hl)) (StrLaws.split_free ⟨l.toArray⟩ c)
  rw [StrLaws.join_split] at h
  simpa using h.symm
theorem eq_mk {x : Str} {l : List Nat} (h : x.cps.toList = l) : x = ⟨l.toArray⟩ := by
  apply Str.ext'
  rw [← h]
theorem cons_len {α : Type} {l : List α} {n : Nat} (h : l.length = n + 1) : ∃ a t, l = a :: t ∧ t.length = n := by
  cases l with
  | nil => exact nomatch h
  | cons a t => exact ⟨a, t, rfl, Nat.succ.inj h⟩
theorem split_five (ds : List Nat) (c : Nat) (hn : c ∉ ds.map (48 + ·)) : Txt.split ⟨(BL ds c).toArray⟩ ⟨#[c]⟩ = [⟨#[]⟩, ⟨#[]⟩, ⟨#[]⟩, dStr ds, ⟨#[]⟩] := by
  have hlen := split_count (BL ds c) c (by unfold BL; simp)
  have hc : (BL ds c).count c = 4 := by
    unfold BL
    simp only [List.count_cons_self, List.count_append, List.count_nil]
    rw [List.count_eq_zero_of_not_mem hn]
  rw [hc] at hlen
  have hj := StrLaws.join_split ⟨(BL ds c).toArray⟩ ⟨#[c]⟩
  have hf := StrLaws.split_free ⟨(BL ds c).toArray⟩ c
  generalize Txt.split ⟨(BL ds c).toArray⟩ ⟨#[c]⟩ = ps at *
  obtain ⟨p0, ps0, q0, hlen⟩ := cons_len hlen
  obtain ⟨p1, ps1, q1, hlen⟩ := cons_len hlen
  obtain ⟨p2, ps2, q2, hlen⟩ := cons_len hlen
  obtain ⟨p3, ps3, q3, hlen⟩ := cons_len hlen
  obtain ⟨p4, ps4, q4, hlen⟩ := cons_len hlen
  rw [List.eq_nil_of_length_eq_zero hlen] at q4
  subst q4; subst q3; subst q2; subst q1; subst q0
  · have hj2 : p0.cps.toList ++ c :: (p1.cps.toList ++ c :: (p2.cps.toList ++ c :: (p3.cps.toList ++ c :: p4.cps.toList))) = [] ++ c :: ([] ++ c :: ([] ++ c :: (ds.map (48 + ·) ++ c :: []))) := by
      have := congrArg (fun x : Str => x.cps.toList) hj
      simp only [Str.join, Str.cps_append, Array.toList_append, BL] at this
      simpa using this
    have g0 := hf p0 (by simp)
    have g1 := hf p1 (by simp)
    have g2 := hf p2 (by simp)
    have g3 := hf p3 (by simp)
    obtain ⟨a0, r0⟩ := free_cut g0 (by simp) hj2
    obtain ⟨a1, r1⟩ := free_cut g1 (by simp) r0
    obtain ⟨a2, r2⟩ := free_cut g2 (by simp) r1
    obtain ⟨a3, r3⟩ := free_cut g3 hn r2
    rw [eq_mk a0, eq_mk a1, eq_mk a2, eq_mk a3, eq_mk r3]
    rfl
/-- what a mark tells of a stretch -/
def digV (ds : List Nat) : Nat := digitsVal (ds.map (48 + ·))
def askV (ds : List Nat) (c : Nat) : Int := if c ∈ ds.map (48 + ·) then -1 else (digV ds : Int)
theorem allDigits (ds : List Nat) (h : AD ds) : AllDigits (ds.map (48 + ·)) := by
  intro c hc
  obtain ⟨d, hd, rfl⟩ := List.mem_map.mp hc
  have := h d hd
  omega
theorem int_digits (ds : List Nat) (h : AD ds) (h1 : ds ≠ []) (h2 : ds.length ≤ 100) : PySem.intText? (dStr ds) = some (digV ds : Int) := by
  have := intText_digits (x := dStr ds) (by unfold dStr; simpa using allDigits ds h) (by unfold dStr; simpa using h1) (by rw [dStr_length]; omega)
  rw [this]
  unfold dStr digV
  simp
theorem found_is (ds : List Nat) (c : Nat) : (!(Builtin.Str.occurrences (dStr ds) ⟨#[c]⟩ 0 (dStr ds).length 1).isEmpty) = decide (c ∈ ds.map (48 + ·)) := by
  rw [StrLaws.found_one]
  unfold dStr
  simp
theorem c_asked (w : World) (mean : ExcName → Option Value) (mg mb : Str → Option Value) (news : List (Addr × Obj)) (ds : List Nat) (c : Nat) (ts tm : Tok) (hds : AD ds) (hc : mk1 c) (hl : ds.length ≤ 6) (h0 : ds ≠ []) :
    Ct0 w mean mg mb news 20 149 [.str (dStr ds) ts, .str ⟨#[c]⟩ tm] (RetV news fun t => .int (askV ds c) t) := by
  have H := asked_facts ds c hds hc hl
  have hl' : (dStr ds).length ≤ 6 := by rw [dStr_length]; exact hl
  have hm : (Str.mk #[c]).length ≤ 1 := by simp [Str.length]
  by_cases h : c ∈ ds.map (48 + ·)
  · have hv : askV ds c = -1 := by unfold askV; rw [if_pos h]
    rw [hv]
    have hcnt : (BL ds c).count c = 4 + (ds.map (48 + ·)).count c := by
      unfold BL
      simp only [List.count_cons_self, List.count_append, List.count_nil]
      omega
    have h4 : 0 < (ds.map (48 + ·)).count c := List.count_pos_iff.mpr h
    have h5 : (ds.map (48 + ·)).count c ≤ ds.length := by simpa using List.count_le_length (l := ds.map (48 + ·)) (a := c)
    exact c_asked_in w mean mg mb news ds c _ _ _ _ H (split_count _ c (by unfold BL; simp)) (by rw [hcnt]; omega) (by rw [hcnt]; omega) (by rw [found_is]; simpa using h) ts tm hl' hm
  · have hv : askV ds c = (digV ds : Int) := by unfold askV; rw [if_neg h]
    rw [hv]
    exact c_asked_no w mean mg mb news ds c _ _ _ _ H (split_five ds c h) (by rw [found_is]; simpa using h) (int_digits ds hds h0 (by omega)) ts tm hl' hm
end Mine
end

section
set_option maxRecDepth 100000
namespace Mine
open PySem PySem.W PyProof.Rows PySem.Calls PySem.Spec
section
variable {prog : Program} {w : World} {A : Around} {E : Value → Shared → Prop} {s : Shared} {env : Env} {h₀ : Heap} {target : Expr} {body : List Stmt} {Q : Flow → Shared → Prop}

theorem marks_are : ∀ c ∈ (Str.ofString "0123456789|").cps.toList, mk1 c := by
  have e : (Str.ofString "0123456789|").cps.toList = [48, 49, 50, 51, 52, 53, 54, 55, 56, 57, 124] := by decide +kernel
  intro c hc
  rw [e] at hc
  have : ∀ c ∈ [48, 49, 50, 51, 52, 53, 54, 55, 56, 57, 124], c = 124 ∨ (48 ≤ c ∧ c ≤ 57) := by decide
  exact this c hc
theorem letGo_name {x : Str} {px : Pos} {I : Addr} {v : Value} {Q' : Unit → Shared → Prop} {s' : Shared} (h : Q' () s') : wpAny (model prog w) A (letOwnedTupleGo (.Name x px) (.ref I) v) Q' E s' := by
  unfold letOwnedTupleGo
  exact wpAny_pure h

/-- where a turn ends: the iterator, the cell and the base still lie in the ledger; of the names only `ports` may have another value -/
def CellEnd (h₀ : Heap) (L I cA : Addr) (it : Obj) (base : List (Addr × Obj)) (ports : Str) (m₀ : Str → Option Value) (s₁ : Shared) (Q : Flow → Shared → Prop) (f : Flow) (s₂ : Shared) : Prop :=
  match f with
  | .ret v => Q (.ret v) s₂
  | .brk => Q .next s₂
  | _ => ∃ h' tk m' news' oc', s₂ = { s₁ with heap := h', toks := tk } ∧ Fr h₀ L h' m' ∧ News h₀ L h' news' ∧ (I, it) ∈ news' ∧ (cA, oc') ∈ news' ∧ (∃ v, oc'.data = .cell v) ∧ (∀ p ∈ base, p ∈ news') ∧ ∀ y, y ≠ ports → m' y = m₀ y

theorem CellEnd.fin {L I cA : Addr} {it oc' : Obj} {base news' : List (Addr × Obj)} {ports : Str} {m₀ m' : Str → Option Value} {s₁ : Shared} {h' : Heap} {tk : Nat} {v : Option Value} (F : Fr h₀ L h' m') (N : News h₀ L h' news') (h3 : oc'.data = .cell v)
    (h1 : (I, it) ∈ news') (h2 : (cA, oc') ∈ news') (h4 : ∀ p ∈ base, p ∈ news') (h5 : ∀ y, y ≠ ports → m' y = m₀ y) : CellEnd h₀ L I cA it base ports m₀ s₁ Q .next { s₁ with heap := h', toks := tk } :=
  ⟨h', tk, m', news', oc', rfl, F, N, h1, h2, ⟨v, h3⟩, h4, h5⟩
theorem iter_cell {x : Str} {px : Pos} {tx ports : Str} {t : Tok} {m₀ : Str → Option Value} {p0 : Addr × Obj} {rest : List (Addr × Obj)} {cA : Addr} {oc : Obj} {v₀ : Option Value}
    (hh : A.handled = none) (F : Fr h₀ env.locals s.heap m₀) (N : News h₀ env.locals s.heap (p0 :: rest)) (hm : (cA, oc) ∈ p0 :: rest) (hd : oc.data = .cell v₀) (_hne : p0.1 ≠ cA) (hmk : ∀ c ∈ tx.cps.toList, mk1 c)
    (turn : ∀ (c : Nat) (I : Addr) (it : Obj) (u : Tok) (h : Heap) (tk : Nat) (po : Option Value) (oc' : Obj) (v : Option Value), mk1 c → I ≠ cA → I ≠ p0.1 → oc'.data = .cell v →
      Fr h₀ env.locals h (fun y => if y = ports then po else m₀ y) → News h₀ env.locals h [(I, it), (cA, oc'), p0] →
      wpAny (model prog w) A (assign (.Name x px) env (.str ⟨#[c]⟩ u)) (fun _ s₂ => wpAny (model prog w) A (execs body env) (CellEnd h₀ env.locals I cA it [p0] ports m₀ { s with heap := h, toks := tk } Q) E s₂) E { s with heap := h, toks := tk })
    (done : ∀ (h : Heap) (tk : Nat) (po : Option Value), Fr h₀ env.locals h (fun y => if y = ports then po else m₀ y) → News h₀ env.locals h [p0] → Q .next { s with heap := h, toks := tk }) :
    wpAny (model prog w) A (pyIter (.str tx t)) (fun it s₂ => TurnsAt prog w A h₀ env (.Name x px) body Q E it s₂) E s := by
  have hnew := next_is_new F
  have ltc : cA < s.heap.objs.size := Heap.lt_size (N _ hm).1
  have ltp : p0.1 < s.heap.objs.size := Heap.lt_size (N p0 (List.mem_cons_self ..)).1
  have upd : ∀ (m' : Str → Option Value), (∀ y, y ≠ ports → m' y = m₀ y) → m' = fun y => if y = ports then m' ports else m₀ y := by
    intro m' hm'
    funext y
    split
    · rename_i e; rw [e]
    · rename_i e; exact hm' y e
  have go : ∀ (T : String) (o : Obj), Walks prog w A s.heap.objs.size [s.heap.objs.size] [s.heap.objs.size] tx.cps.size (SignAt tx) (fun i h => h.IsStrIter s.heap.objs.size T tx t i) →
      (s.heap.push o).IsStrIter s.heap.objs.size T tx t 0 → TurnsAt prog w A h₀ env (.Name x px) body Q E (.ref s.heap.objs.size) { s with heap := s.heap.push o } := by
    intro T o W hst
    let J : Nat → (Str → Option Value) → List (Addr × Obj) → Prop := fun _ m₁ news₁ => (∀ y, y ≠ ports → m₁ y = m₀ y) ∧ ∃ oc' v, oc'.data = Data.cell v ∧ news₁ = [(cA, oc'), p0]
    refine ⟨s.heap.objs.size, [s.heap.objs.size], [s.heap.objs.size], tx.cps.size, _, _, _, m₀, [(cA, oc), p0], J, rfl, KTurns.ofWalks W (fun i v s Q E _ q => letGo_name q), ?_, ?_, ?_, hst, F.push _, ?_, ⟨fun _ _ => rfl, oc, v₀, hd, rfl⟩, ?_, ?_⟩
    · intro hI
      exact absurd F.ns.lt ((List.mem_singleton.mp hI) ▸ Nat.lt_irrefl _)
    · intro b hb
      rw [List.mem_singleton.mp hb]
      exact hnew
    · intro p hp hI
      have e := List.mem_singleton.mp hI
      rcases List.mem_cons.mp hp with rfl | hp
      · exact absurd e (Nat.ne_of_lt ltc)
      · rw [List.mem_singleton.mp hp] at e; exact absurd e (Nat.ne_of_lt ltp)
    · intro p hp
      have hp' : p ∈ p0 :: rest := by
        rcases List.mem_cons.mp hp with rfl | hp
        · exact hm
        · rw [List.mem_singleton.mp hp]; exact List.mem_cons_self ..
      exact ⟨Heap.get?_push_of_some _ (N p hp').1, (N p hp').2⟩
    · rintro i v m₁ news₁ h₁ tk₁ own hin hP ⟨hJ1, oc', vc, hdc, rfl⟩ hoff hown hget hall hst' F₁ N₁
      obtain ⟨c, u, hc, rfl⟩ := hP
      obtain ⟨it, hit, hic, hid⟩ := hst'
      have hmemI := hall s.heap.objs.size (List.mem_singleton.mpr rfl) hnew _ hit
      rw [upd m₁ hJ1] at F₁
      have N₂ : News h₀ env.locals h₁ [(s.heap.objs.size, it), (cA, oc'), p0] := fun p hp => by
        rcases List.mem_cons.mp hp with rfl | hp
        · exact N₁ _ (List.mem_append_left _ hmemI)
        · exact N₁ _ (List.mem_append_right _ hp)
      have hcm : c ∈ tx.cps.toList := by
        have := Array.mem_of_getElem? hc
        simpa using this
      refine wpAny_mono (turn c s.heap.objs.size it u h₁ tk₁ _ oc' vc (hmk c hcm) (Nat.ne_of_gt ltc) (Nat.ne_of_gt ltp) hdc F₁ N₂) (fun _ s₂ h₂ => wpAny_mono h₂ (fun f s₃ p => ?_) fun _ _ e => e) fun _ _ e => e
      have fin : CellEnd h₀ env.locals s.heap.objs.size cA it [p0] ports m₀ { s with heap := h₁, toks := tk₁ } Q .next s₃ →
          LoopStepU h₀ env.locals [s.heap.objs.size] own (J (i + 1)) { s with heap := h₁, toks := tk₁ } .next s₃ := by
        rintro ⟨h', tk, m', news', oc2, e, F', N', hI, hC, ⟨v2, hv2⟩, hb, hm'⟩
        refine ⟨rfl, h', tk, m', [(cA, oc2), p0], e, F', fun p hp => ?_, fun p hp hI => ?_, hm', oc2, v2, hv2, rfl⟩
        · rcases List.mem_append.mp hp with hp | hp
          · have h1 : p.1 = s.heap.objs.size := List.mem_singleton.mp (hown p hp)
            have h2 : h₁.get? p.1 = some p.2 := hget p hp
            have h3 : p = (s.heap.objs.size, it) := by
              rw [h1, hit] at h2
              exact Prod.ext h1 (Option.some.inj h2).symm
            rw [h3]; exact N' _ hI
          · rcases List.mem_cons.mp hp with rfl | hp
            · exact N' _ hC
            · exact N' _ (hb _ hp)
        · have e := List.mem_singleton.mp hI
          rcases List.mem_cons.mp hp with rfl | hp
          · exact absurd e (Nat.ne_of_lt ltc)
          · rw [List.mem_singleton.mp hp] at e; exact absurd e (Nat.ne_of_lt ltp)
      cases f with
      | ret v => exact .ret p
      | brk => exact .brk p
      | next => exact .next (fin p)
      | cont => exact .cont (fin p)
    · rintro h' tk m' news' F' N' hoff ⟨hJ1, oc', vc, hdc, rfl⟩
      rw [upd m' hJ1] at F'
      exact done h' tk _ F' (fun p hp => N' p (List.mem_cons_of_mem _ hp))
  cases ha : tx.cps.all (· < 128)
  · exact wpAny_pyIter_wide ha (go "str_iterator" _ (Walks.strWide hh _ tx t) ⟨_, Heap.get?_push_size _ rfl, rfl, rfl⟩)
  · exact wpAny_pyIter_ascii ha (go "str_ascii_iterator" _ (Walks.strAscii hh _ tx t) ⟨_, Heap.get?_push_size _ rfl, rfl, rfl⟩)
end
end Mine
end

section
set_option maxRecDepth 100000
namespace Mine
open PySem PySem.W PyProof.Rows PySem.Calls PySem.Spec
section
variable {prog : Program} {w : World} {A : Around} {E : Value → Shared → Prop} {s : Shared} {env : Env} {h₀ : Heap} {body : List Stmt} {Q : Flow → Shared → Prop}
/-- where a turn of a fold over a list of ints ends -/
def FoldEnd (h₀ : Heap) (L I : Addr) (it : Obj) (news : List (Addr × Obj)) (x acc : Str) (r' : Int) (m₀ : Str → Option Value) (s₁ : Shared) (Q : Flow → Shared → Prop) (f : Flow) (s₂ : Shared) : Prop :=
  match f with
  | .ret v => Q (.ret v) s₂
  | .brk => Q .next s₂
  | _ => ∃ h' tk m' news' t', s₂ = { s₁ with heap := h', toks := tk } ∧ Fr h₀ L h' m' ∧ News h₀ L h' news' ∧ (I, it) ∈ news' ∧ (∀ p ∈ news, p ∈ news') ∧ m' acc = some (.int r' t') ∧ ∀ y, y ≠ x → y ≠ acc → m' y = m₀ y
theorem FoldEnd.fin {L I : Addr} {it : Obj} {news news' : List (Addr × Obj)} {x acc : Str} {r r' : Int} {t' : Tok} {m₀ m' : Str → Option Value} {s₁ : Shared} {h' : Heap} {tk : Nat} (F : Fr h₀ L h' m') (N : News h₀ L h' news') (h1 : (I, it) ∈ news') (h2 : ∀ p ∈ news, p ∈ news') (h3 : m' acc = some (.int r t')) (hr : r = r')
    (h4 : ∀ y, y ≠ x → y ≠ acc → m' y = m₀ y) : FoldEnd h₀ L I it news x acc r' m₀ s₁ Q .next { s₁ with heap := h', toks := tk } :=
  ⟨h', tk, m', news', t', rfl, F, N, h1, h2, hr ▸ h3, h4⟩
theorem foldl_next {step : Int → Int → Int} {r0 z : Int} {xs : List Int} {i : Nat} (h : xs[i]? = some z) : (xs.take (i + 1)).foldl step r0 = step ((xs.take i).foldl step r0) z := by
  have hi : i < xs.length := by
    have := List.getElem?_eq_some_iff.mp h
    exact this.1
  rw [List.take_succ, h, List.foldl_append]
  rfl
/-- a fold over a written list of ints: a turn is walked once -/
theorem iter_fold {x acc : Str} {px : Pos} {ax : Addr} {vs : List Value} {n : Nat} {m₀ : Str → Option Value} {news : List (Addr × Obj)} (xs : List Int) (step : Int → Int → Int) (r0 : Int) {t0 : Tok}
    (hh : A.handled = none) (F : Fr h₀ env.locals s.heap m₀) (N : News h₀ env.locals s.heap news) (hm : (ax, ({ cls := .type "list", data := .seq vs.toArray n } : Obj)) ∈ news)
    (hv : ∀ (i : Nat) (v : Value), vs[i]? = some v → ∃ z t, v = .int z t ∧ xs[i]? = some z) (hlen : vs.length = xs.length) (h0 : m₀ acc = some (.int r0 t0)) (hxa : x ≠ acc)
    (turn : ∀ (z r : Int) (I : Addr) (it : Obj) (u t : Tok) (h : Heap) (tk : Nat) (po : Option Value), z ∈ xs →
      Fr h₀ env.locals h (fun y => if y = acc then some (.int r t) else if y = x then po else m₀ y) → News h₀ env.locals h ((I, it) :: news) →
      wpAny (model prog w) A (assign (.Name x px) env (.int z u)) (fun _ s₂ => wpAny (model prog w) A (execs body env) (FoldEnd h₀ env.locals I it news x acc (step r z) m₀ { s with heap := h, toks := tk } Q) E s₂) E { s with heap := h, toks := tk })
    (done : ∀ (h : Heap) (tk : Nat) (t : Tok) (po : Option Value), Fr h₀ env.locals h (fun y => if y = acc then some (.int (xs.foldl step r0) t) else if y = x then po else m₀ y) → News h₀ env.locals h news → Q .next { s with heap := h, toks := tk }) :
    wpAny (model prog w) A (pyIter (.ref ax)) (fun it s₂ => TurnsAt prog w A h₀ env (.Name x px) body Q E it s₂) E s := by
  have hax := N _ hm
  have hl : s.heap.IsList ax vs.toArray := ⟨_, hax.1, rfl, n, rfl⟩
  have hlt : ax < s.heap.objs.size := Heap.lt_size hax.1
  have hne : ax ≠ s.heap.objs.size := Nat.ne_of_lt hlt
  have hnew := next_is_new F
  have upd : ∀ (m' : Str → Option Value) (r : Int) (t : Tok), m' acc = some (.int r t) → (∀ y, y ≠ x → y ≠ acc → m' y = m₀ y) → m' = fun y => if y = acc then some (.int r t) else if y = x then m' x else m₀ y := by
    intro m' r t ha hm'
    funext y
    split
    · rename_i e; rw [e, ha]
    · split
      · rename_i e; rw [e]
      · rename_i e1 e2; exact hm' y e2 e1
  let J : Nat → (Str → Option Value) → List (Addr × Obj) → Prop := fun i m₁ news₁ => (∃ t, m₁ acc = some (.int ((xs.take i).foldl step r0) t)) ∧ (∀ y, y ≠ x → y ≠ acc → m₁ y = m₀ y) ∧ news₁ = news
  refine wpAny_pyIter_list hl ?_
  refine ⟨s.heap.objs.size, [s.heap.objs.size, ax], [s.heap.objs.size], vs.toArray.size, _, _, _, m₀, news, J, rfl, KTurns.ofWalks (Walks.list hh s.heap.objs.size ax hne vs.toArray) (fun i v s Q E _ q => letGo_name q), ?_, ?_, ?_, ?_, F.push _, ?_, ⟨⟨t0, by simpa using h0⟩, fun _ _ _ => rfl, rfl⟩, ?_, ?_⟩
  · intro hI
    rcases List.mem_cons.mp hI with e | hI
    · exact absurd F.ns.lt (e ▸ Nat.lt_irrefl _)
    · exact hax.2.1 (List.mem_singleton.mp hI).symm
  · intro b hb
    rw [List.mem_singleton.mp hb]
    exact hnew
  · intro p hp hI
    exact absurd (Heap.lt_size (N p hp).1) ((List.mem_singleton.mp hI) ▸ Nat.lt_irrefl _)
  · exact ⟨⟨_, Heap.get?_push_size _ rfl, rfl, rfl⟩, hl.at fun o e => Heap.get?_push_of_some _ e⟩
  · exact fun p hp => ⟨Heap.get?_push_of_some _ (N p hp).1, (N p hp).2⟩
  · rintro i v m₁ news₁ h₁ tk₁ own hin hP ⟨⟨t, ht⟩, hJ1, rfl⟩ hoff hown hget hall hst' F₁ N₁
    have hP' : vs[i]? = some v := by simpa using hP
    obtain ⟨z, u, rfl, hz⟩ := hv i v hP'
    obtain ⟨it, hit, hic, hid⟩ := hst'.1
    have hmemI := hall s.heap.objs.size (List.mem_cons_self ..) hnew _ hit
    rw [upd m₁ _ t ht hJ1] at F₁
    have N₂ : News h₀ env.locals h₁ ((s.heap.objs.size, it) :: news₁) := fun p hp => by
      rcases List.mem_cons.mp hp with rfl | hp
      · exact N₁ _ (List.mem_append_left _ hmemI)
      · exact N₁ _ (List.mem_append_right _ hp)
    refine wpAny_mono (turn z _ s.heap.objs.size it u t h₁ tk₁ _ (List.mem_of_getElem? hz) F₁ N₂) (fun _ s₂ h₂ => wpAny_mono h₂ (fun f s₃ p => ?_) fun _ _ e => e) fun _ _ e => e
    have fin : FoldEnd h₀ env.locals s.heap.objs.size it news₁ x acc (step ((xs.take i).foldl step r0) z) m₀ { s with heap := h₁, toks := tk₁ } Q .next s₃ →
        LoopStepU h₀ env.locals [s.heap.objs.size] own (J (i + 1)) { s with heap := h₁, toks := tk₁ } .next s₃ := by
      rintro ⟨h', tk, m', news', t', e, F', N', hI, hb, ha, hm'⟩
      refine ⟨rfl, h', tk, m', news₁, e, F', fun p hp => ?_, fun p hp hI => ?_, ⟨t', by rw [foldl_next hz]; exact ha⟩, hm', rfl⟩
      · rcases List.mem_append.mp hp with hp | hp
        · have h2 : h₁.get? p.1 = some p.2 := hget p hp
          rcases List.mem_cons.mp (hown p hp) with h1 | h1
          · have h3 : p = (s.heap.objs.size, it) := by
              rw [h1, hit] at h2
              exact Prod.ext h1 (Option.some.inj h2).symm
            rw [h3]; exact N' _ hI
          · have h1' := List.mem_singleton.mp h1
            have h4 := (N₂ _ (List.mem_cons_of_mem _ hm)).1
            have h3 : p = (ax, ({ cls := .type "list", data := .seq vs.toArray n } : Obj)) := by
              rw [h1'] at h2
              exact Prod.ext h1' (Option.some.inj (h2.symm.trans h4))
            rw [h3]; exact N' _ (hb _ hm)
        · exact N' _ (hb _ hp)
      · exact absurd (Heap.lt_size (N p hp).1) ((List.mem_singleton.mp hI) ▸ Nat.lt_irrefl _)
    cases f with
    | ret v => exact .ret p
    | brk => exact .brk p
    | next => exact .next (fin p)
    | cont => exact .cont (fin p)
  · rintro h' tk m' news' F' N' hoff ⟨⟨t, ht⟩, hJ1, rfl⟩
    have e : xs.take vs.toArray.size = xs := List.take_of_length_le (by simp [hlen])
    rw [e] at ht
    rw [upd m' _ t ht hJ1] at F'
    exact done h' tk t _ F' N'
end
end Mine
end

section
open PySem PySem.W PyProof.Rows
set_option Elab.async false
namespace Mine
/-- a port that was told, or the fill for a lost one -/
def restJ (u a b c : Int) : Int :=
  let r0 : Int := 0
  let r1 := if 0 ≤ a then (r0 + a).fmod (u - 1) else r0
  let r2 := if 0 ≤ b then (r1 + b).fmod (u - 1) else r1
  if 0 ≤ c then (r2 + c).fmod (u - 1) else r2
def fillJ (u r a : Int) : Int := if 0 ≤ a then a else u - 1 - r
def wholeJ (u a b c : Int) : Int := ((0 * u + fillJ u (restJ u a b c) a) * u + fillJ u (restJ u a b c) b) * u + fillJ u (restJ u a b c) c
section
variable (w : World) (mean : ExcName → Option Value) (mg mb : Str → Option Value) (news : List (Addr × Obj))
theorem reti {news news' : List (Addr × Obj)} {x y : Int} {h₀ h' : Heap} {L : Addr} {m : Str → Option Value} {s : Shared} {Q : Value → Shared → Prop} {t : Tok} {tk' : Nat} (hret : RetV news (fun t => .int x t) h₀ L m s Q) (e : x = y) (F : Fr h₀ L h' m) (N : News h₀ L h' news') (hn : ∀ q ∈ news, q ∈ news') :
    Q (.int y t) { s with heap := h', toks := tk' } := by subst e; exact hret t h' tk' F (fun q hq => N q (hn q hq))
def WStop (p : Prop) : Prop := p
theorem wstop {p : Prop} (h : WStop p) : p := h
theorem wgo {p : Prop} (h : p) : WStop p := h
theorem at3 {a b c : Int} {ta tb tc : Tok} : ∀ (i : Nat) (v : Value), [Value.int a ta, .int b tb, .int c tc][i]? = some v → ∃ z t, v = .int z t ∧ [a, b, c][i]? = some z
  | 0, _, h => ⟨_, _, (Option.some.inj h).symm, rfl⟩
  | 1, _, h => ⟨_, _, (Option.some.inj h).symm, rfl⟩
  | 2, _, h => ⟨_, _, (Option.some.inj h).symm, rfl⟩
  | _ + 3, _, h => nomatch h
set_option maxRecDepth 100000 in
set_option maxHeartbeats 8000000 in
theorem c_joined (lp : Addr) (a b c k u : Int) (n : Nat) (ta tb tc tk : Tok) (hm : (lp, ({ cls := .type "list", data := .seq #[.int a ta, .int b tb, .int c tc] n } : Obj)) ∈ news) (hk0 : 0 ≤ k) (hk1 : k ≤ 6) (hu : 10 ^ k.toNat = u) (hu1 : 10 ≤ u) (hu2 : u ≤ 1000000) :
    Ct w mean mg mb news 2 156 [.ref lp, .int k tk] (RetV news fun t => .int (wholeJ u a b c) t) := by
  k_with_none
  k_with "call ref" => (k_here; (with_reducible show wpAny _ _ (call (Value.ref 135) [Value.int _ _, Value.int _ _]) _ _ _); k_dflt (refine' c_isub _ _ _ _ _ _ _ _ _  _ _ _ _ _ _ _ _ _ _ _ _ _ _ _ _ _ (by k_asm) (by k_asm) (by k_asm) (by k_asm) (by k_asm) (by first | exact rfl | assumption) (by first | ktr_room | k_room) (by first | ktr_units | k_units) ?_;  k_whole); intro t9 h9 tk9 F9 N9; (try dsimp only))
  k_with "call ref" => (k_here; (with_reducible show wpAny _ _ (call (Value.ref 107) [Value.int _ _, Value.int _ _]) _ _ _); k_dflt (refine' c_iadd _ _ _ _ _ _ _ _ _  _ _ _ _ _ _ _ _ _ _ _ _ _ _ _ _ _ (by k_asm) (by k_asm) (by k_asm) (by k_asm) (by k_asm) (by first | exact rfl | assumption) (by first | ktr_room | k_room) (by first | ktr_units | k_units) ?_;  k_whole); intro t9 h9 tk9 F9 N9; (try dsimp only))
  k_with "call ref" => (k_here; (with_reducible show wpAny _ _ (call (Value.ref 114) [Value.int _ _, Value.int _ _]) _ _ _); k_dflt (refine' c_imod _ _ _ _ _ _ _ _ _ ?_ _ _ _ _ _ _ _ _ _ _ _ _ _ _ _ _ _ (by k_asm) (by k_asm) (by k_asm) (by k_asm) (by k_asm) (by first | exact rfl | assumption) (by first | ktr_room | k_room) (by first | ktr_units | k_units) ?_; (next => omega); k_whole); intro t9 h9 tk9 F9 N9; (try dsimp only))
  k_with "call ref" => (k_here; (with_reducible show wpAny _ _ (call (Value.ref 121) [Value.int _ _, Value.int _ _]) _ _ _); k_dflt (refine' c_imul _ _ _ _ _ _ _ _ _ ?_ _ _ _ _ _ _ _ _ _ _ _ _ _ _ _ _ _ (by k_asm) (by k_asm) (by k_asm) (by k_asm) (by k_asm) (by first | exact rfl | assumption) (by first | ktr_room | k_room) (by first | ktr_units | k_units) ?_; (next => omega); k_whole); intro t9 h9 tk9 F9 N9; (try dsimp only))
  k_with "call ref" => (k_here; (with_reducible show wpAny _ _ (call (Value.ref 128) [Value.int _ _, Value.int _ _]) _ _ _); k_dflt (refine' c_ipow _ _ _ _ _ _ _ _ ?_ ?_ _ _ _ _ _ _ _ _ _ _ _ _ _ _ _ _ _ (by k_asm) (by k_asm) (by k_asm) (by k_asm) (by k_asm) (by first | exact rfl | assumption) (by first | ktr_room | k_room) (by first | ktr_units | k_units) ?_; (next => omega); (next => omega); k_whole); intro t9 h9 tk9 F9 N9; (try dsimp only))
  k_with "exec For Name Name cons nil" => (k_here; (rename Fr _ _ _ _ => lF'); (with_unfolding_all refine' For_turns lF' ?_); k_whole)
  k_with "pyIter ref" => (k_here; refine wstop ?_)
  dsimp only [Ct, RetV]
  k_fill
  w_top off
  intros
  rename_i hN hT hF hd0 hu0 hret
  refine wpAny_call ?_
  k_dflt cell_enter
  k_steps
  refine wgo ?_
  (rename Fr _ _ _ _ => lF); (rename News _ _ _ _ => lN)
  refine iter_fold (x := Str.ofString "port") (acc := Str.ofString "rest") (vs := [.int a ta, .int b tb, .int c tc]) [a, b, c] (fun r z => if 0 ≤ z then (r + z).fmod (u - 1) else r) 0 (by with_unfolding_all rfl) lF lN hm at3 rfl (by with_unfolding_all rfl) (by decide) ?turn1 ?done1
  case turn1 =>
    clear lF lN
    intro z r I it t1 t2 h tk po hz F2 N2
    subst hu
    k_steps
    all_goals
      refine FoldEnd.fin (by assumption) (by assumption) (by k_mem) (fun p hp => List.mem_cons_of_mem _ hp) rfl ?_ (fun y h1 h2 => by dsimp only; simp only [h1, h2, if_false])
      simp only [*, if_true, if_false]
  case done1 =>
    clear lF lN
    intro h tk t po F2 N2
    k_steps
    refine wgo ?_
    (rename Fr _ _ _ _ => lF); (rename News _ _ _ _ => lN)
    refine iter_fold (x := Str.ofString "port") (acc := Str.ofString "whole") (vs := [.int a ta, .int b tb, .int c tc]) [a, b, c] (fun r z => r * u + fillJ u (restJ u a b c) z) 0 (by with_unfolding_all rfl) lF lN hm at3 rfl (by with_unfolding_all rfl) (by decide) ?turn2 ?done2
    case turn2 =>
      clear lF lN
      intro z r I it t1 t2 h tk po hz F2 N2
      subst hu
      k_steps
      all_goals
        refine FoldEnd.fin (by assumption) (by assumption) (by k_mem) (fun p hp => List.mem_cons_of_mem _ hp) rfl ?_ (fun y h1 h2 => by dsimp only; simp only [h1, h2, if_false])
        unfold fillJ
        first | (rw [if_neg (by omega)]; rfl) | (rw [if_pos (by omega)])
    case done2 =>
      clear lF lN
      intro h tk t po F2 N2
      k_steps
      all_goals exact reti hret rfl (by assumption) (by assumption) (fun q hq => hq)
end
end Mine
end

section
open PySem PySem.W PyProof.Rows
set_option Elab.async false
namespace Mine
structure WS where
  r : UInt64
  g : UInt64
  b : UInt64
  tr : Tok
  tg : Tok
  tb : Tok
  tw : Tok
  row : Str
abbrev wsPs (n k back : Int) (tn tk tbk : Tok) (c : WS) : List (Str × Value) :=
  [(Str.ofString "row", .str c.row c.tw), (Str.ofString "red", .float c.r c.tr), (Str.ofString "green", .float c.g c.tg), (Str.ofString "blue", .float c.b c.tb), (Str.ofString "hues", .int n tn), (Str.ofString "steps", .int k tk), (Str.ofString "back", .int back tbk)]
abbrev wsP (n p : Int) (i : Nat) (c : WS) : Prop := At n (pl n p i) c.r c.g c.b ∧ c.row = dStr (digs n p i)
theorem lend {news : List (Addr × Obj)} {n k back p : Int} {tn tk tbk tr tg tb tw : Tok} {i : Nat} {m : Str → Option Value} {r g b : UInt64} {row : Str}
    (h1 : m (Str.ofString "row") = some (.str row tw)) (h2 : m (Str.ofString "red") = some (.float r tr)) (h3 : m (Str.ofString "green") = some (.float g tg)) (h4 : m (Str.ofString "blue") = some (.float b tb))
    (h5 : m (Str.ofString "hues") = some (.int n tn)) (h6 : m (Str.ofString "steps") = some (.int k tk)) (h7 : m (Str.ofString "back") = some (.int back tbk)) (hA : At n (pl n p i) r g b) (hr : row = dStr (digs n p i)) :
    LEnd news (wsPs n k back tn tk tbk) (wsP n p i) m news := by
  refine ⟨rfl, ⟨r, g, b, tr, tg, tb, tw, row⟩, ⟨hA, hr⟩, ?_⟩
  intro q hq
  simp only [wsPs, List.mem_cons, List.not_mem_nil, or_false] at hq
  rcases hq with rfl | rfl | rfl | rfl | rfl | rfl | rfl <;> assumption
theorem turn_facts {n p back : Int} {i : Nat} {r g b : UInt64} (hA : At n (pl n p i) r g b) (hco : ∀ q : Int, 1 ≤ q → q < n → (10 * q) % n ≠ 0) (hb : back = 0 ∨ back = n) :
    Flt.toInt Float64.truncOf (Float64.mul (toldF r g b) 4621819117588971520) = (dg n p i : Int) ∧ dg n p i < 10 ∧ (0 < n ∧ n ≤ 1000000) ∧ (0 < pl n p i ∧ pl n p i < n) ∧
    At n (pl n p (i + 1)) (hlsR (leapF ((pl n p i - back) * 10) n)) (hlsG (leapF ((pl n p i - back) * 10) n)) (hlsB (leapF ((pl n p i - back) * 10) n)) ∧
    (back ≤ 0 → IsFin (Float64.mul (leapF ((pl n p i - back) * 10) n) 4618441417868443648)) ∧
    (back ≤ 0 → (Flt.toInt Float64.truncOf (Float64.mul (leapF ((pl n p i - back) * 10) n) 4618441417868443648)).natAbs < 100) ∧
    (back ≤ 0 → At n (pl n p (i + 1)) (hsvR (leapF ((pl n p i - back) * 10) n)) (hsvG (leapF ((pl n p i - back) * 10) n)) (hsvB (leapF ((pl n p i - back) * 10) n))) ∧ ((pl n p i - back) * 10).natAbs < 1000000000 ∧ (n ≠ 0 ∧ n.natAbs < 1000000000) := by
  have T1 := hA.told
  obtain ⟨p0, p1, n1, _⟩ := hA
  have h1 := Int.mul_ediv_add_emod (10 * pl n p i) n
  have h2 := Int.emod_nonneg (10 * pl n p i) (show n ≠ 0 by omega)
  have h3 := Int.emod_lt_of_pos (10 * pl n p i) (show 0 < n by omega)
  have h4 := hco _ p0 p1
  have h5 : 0 ≤ 10 * pl n p i / n := Int.ediv_nonneg (by omega) (by omega)
  have h6 : 10 * pl n p i / n < 10 := Int.ediv_lt_of_lt_mul (by omega) (by omega)
  have hd : (dg n p i : Int) = 10 * pl n p i / n := by unfold dg; omega
  have hp : pl n p (i + 1) = 10 * pl n p i % n := rfl
  refine ⟨?_, ?_, ⟨by omega, n1⟩, ⟨by omega, p1⟩, ?_, ?_, ?_, ?_, ?_, ⟨by omega, by omega⟩⟩
  · rw [hd]
    exact T1.digit _ (by omega) (by omega)
  · unfold dg; omega
  · rw [hp]
    rcases hb with rfl | rfl
    · exact paint_hls (K := 10 * pl n p i / n) n1 (by omega) h3 (by omega) (by omega) (by omega)
    · exact paint_hls (K := 10 * pl back p i / back - 10) n1 (by omega) h3 (by rw [Int.mul_sub]; omega) (by omega) (by omega)
  rotate_right
  · rcases hb with rfl | rfl <;> omega
  all_goals
    intro hb0
    have hb1 : back = 0 := by omega
    subst hb1
    have := paint_hsv (a := (pl n p i - 0) * 10) (K := 10 * pl n p i / n) n1 (show 1 ≤ 10 * pl n p i % n by omega) h3 (by omega) h5 (by omega)
  · exact this.1
  · exact this.2.1
  · exact this.2.2
section
variable (w : World) (mean : ExcName → Option Value) (mg mb : Str → Option Value) (news : List (Addr × Obj))
set_option maxRecDepth 100000 in
set_option maxHeartbeats 8000000 in
theorem c_walked (r g b : UInt64) (n p back : Int) (k : Nat) (tr tg tb tn tks tbk : Tok) (g2 : k ≤ 18) (hA : At n p r g b) (hco : ∀ q : Int, 1 ≤ q → q < n → (10 * q) % n ≠ 0) (hb : back = 0 ∨ back = n) :
    Ct w mean mg mb news 4 142 [.float r tr, .float g tg, .float b tb, .int n tn, .int (k : Int) tks, .int back tbk] (RetV news fun t => .str (dStr (digs n p k)) t) := by
  k_with_none
  k_with "call ref" => (k_here; (with_reducible show wpAny _ _ (call (Value.ref 135) [Value.int _ _, Value.int _ _]) _ _ _); k_dflt (refine' c_isub _ _ _ _ _ _ _ _ _  _ _ _ _ _ _ _ _ _ _ _ _ _ _ _ _ _ (by k_asm) (by k_asm) (by k_asm) (by k_asm) (by k_asm) (by first | exact rfl | assumption) (by first | ktr_room | k_room) (by first | ktr_units | k_units) ?_; k_whole); intro t9 h9 tk9 F9 N9; (try dsimp only))
  k_with "call ref" => (k_here; (with_reducible show wpAny _ _ (call (Value.ref 121) [Value.int _ _, Value.int _ _]) _ _ _); k_dflt (refine' c_imul _ _ _ _ _ _ _ _ _ ?_ _ _ _ _ _ _ _ _ _ _ _ _ _ _ _ _ _ (by k_asm) (by k_asm) (by k_asm) (by k_asm) (by k_asm) (by first | exact rfl | assumption) (by first | ktr_room | k_room) (by first | ktr_units | k_units) ?_; (next => omega); k_whole); intro t9 h9 tk9 F9 N9; (try dsimp only))
  k_with "call ref" => (k_here; (with_reducible show wpAny _ _ (call (Value.ref 100) [Value.int _ _, Value.int _ _]) _ _ _); k_dflt (refine' c_truediv _ _ _ _ _ _ _ _ _ ?_ ?_ ?_ _ _ _ _ _ _ _ _ _ _ _ _ _ _ _ _ _ (by k_asm) (by k_asm) (by k_asm) (by k_asm) (by k_asm) (by first | exact rfl | assumption) (by first | ktr_room | k_room) (by first | ktr_units | k_units) ?_; (next => assumption); (next => assumption); (next => assumption); k_whole); intro t9 h9 tk9 F9 N9; (try dsimp only); (try (rw [show Float64.ofFrac _ _ _ = leapF _ _ from rfl])))
  k_with "call ref" => (k_here; (with_reducible show wpAny _ _ (call (Value.ref 65) [Value.float _ _, Value.float _ _, Value.float _ _]) _ _ _); k_dflt (refine' c_rhls _ _ _ _ _ _ _ _ _ _ _ ?_ ?_ ?_ ?_ _ _ _ _ _ _ _ _ _ _ _ _ _ _ _ _ _ (by k_asm) (by k_asm) (by k_asm) (by k_asm) (by k_asm) (by first | exact rfl | assumption) (by first | ktr_room | k_room) (by first | ktr_units | k_units) ?_; (next => exact Told1.c1 (by assumption)); (next => exact Told1.c2 (by assumption)); (next => exact Told1.c3 (by assumption)); (next => exact Told1.c4 (by assumption)); k_whole); intro p9 y9 z9 t9 t10 t11 h9 tk9 F9 N9; (try dsimp only))
  k_with "call ref" => (k_here; (with_reducible show wpAny _ _ (call (Value.ref 86) [Value.float _ _, Value.float _ _, Value.float _ _]) _ _ _); k_dflt (refine' c_rhsv _ _ _ _ _ _ _ _ _ _ _ ?_ ?_ ?_ _ _ _ _ _ _ _ _ _ _ _ _ _ _ _ _ _ (by k_asm) (by k_asm) (by k_asm) (by k_asm) (by k_asm) (by first | exact rfl | assumption) (by first | ktr_room | k_room) (by first | ktr_units | k_units) ?_; (next => exact Told1.c1 (by assumption)); (next => exact Told1.c2 (by assumption)); (next => exact Told1.c5 (by assumption)); k_whole); intro p9 y9 z9 t9 t10 t11 h9 tk9 F9 N9; (try dsimp only))
  k_with "call ref" => (k_here; (with_reducible show wpAny _ _ (call (Value.ref 72) [Value.float _ _, Value.float 4602678819172646912 _, Value.float 4607182418800017408 _]) _ _ _); k_dflt (refine' c_hls _ _ _ _ _ _ _ _ _  _ _ _ _ _ _ _ _ _ _ _ _ _ _ _ _ _ (by k_asm) (by k_asm) (by k_asm) (by k_asm) (by k_asm) (by first | exact rfl | assumption) (by first | ktr_room | k_room) (by first | ktr_units | k_units) ?_; k_whole); intro p9 t9 t10 t11 h9 tk9 F9 N9; (try dsimp only))
  k_with "call ref" => (k_here; (with_reducible show wpAny _ _ (call (Value.ref 93) [Value.float _ _, Value.float 4607182418800017408 _, Value.float 4607182418800017408 _]) _ _ _); k_dflt (refine' c_hsv _ _ _ _ _ _ _ _ _ ?_ ?_ ?_ _ _ _ _ _ _ _ _ _ _ _ _ _ _ _ _ _ (by k_asm) (by k_asm) (by k_asm) (by k_asm) (by k_asm) (by first | exact rfl | assumption) (by first | ktr_room | k_room) (by first | ktr_units | k_units) ?_; (next => exact isFin_nan (by first | assumption | (apply_assumption; omega))); (next => exact isFin_inf (by first | assumption | (apply_assumption; omega))); (next => first | assumption | (apply_assumption; omega)); k_whole); intro p9 t9 t10 t11 h9 tk9 F9 N9; (try dsimp only))
  k_with "call type:int" => (k_here; (with_reducible show wpAny _ _ (call (Value.type "int") [Value.float _ _]) _ _ _); k_dflt (refine' int_at (by first | exact Told1.f1 (by assumption) | exact Told1.f2 (by assumption)) (by first | assumption | exact Told1.place (by assumption)) ?_; k_whole))
  k_with "subscriptTail" => (k_here; (with_reducible show wpAny _ _ (subscriptTail _ _ (Value.str (Str.ofString "0123456789") _) (Value.int _ _)) _ _ _); k_dflt (refine' digit_of rfl (by assumption) ?_; k_whole); intro t' tk')
  k_with "pyIter ref" => (k_here; (with_reducible show wpAny _ _ (pyIter (Value.ref _)) (fun it s₂ => LoopAtV _ _ _ _ _ _ _ _ _ it s₂) _ _); refine wstop ?_)
  dsimp only [Ct, RetV]
  k_fill
  w_top off
  intros
  rename_i hret
  refine wpAny_call ?_
  k_dflt cell_enter
  k_steps
  refine wgo ?_
  rename_i rgH _ _ rgR lF lN _
  refine rloop (n := k) (wsPs n k back tn tks tbk) (wsP n p) (fun tw => ⟨r, g, b, tr, tg, tb, tw, Str.ofString ""⟩) rfl rgR (small_one (by omega) (by omega) (by omega) (by omega)) (rs0 k) lF lN ?hk (fun _ => ⟨hA, dStr_nil.symm⟩) ?turn ?done
  case hk =>
    apply Exists.intro
    intro q hq
    simp only [wsPs, List.mem_cons, List.not_mem_nil, or_false] at hq
    rcases hq with rfl | rfl | rfl | rfl | rfl | rfl | rfl <;> rfl
  case turn =>
    rintro i t ⟨r, g, b, tr, tg, tb, tw, row⟩ u h tk2 own hi hoff ⟨hA2, hrow⟩ F2 N2
    dsimp only at hA2 hrow F2
    subst hrow
    have T1 := hA2.told
    obtain ⟨e1, e2, e3, e4, e5, e6, e7, e8, e9, e10, e11⟩ := turn_facts hA2 hco hb
    have hl : (dStr (digs n p i)).length ≤ 18 := by rw [dStr_length, digs_length]; omega
    k_steps
    all_goals
      (rename Fr _ _ _ _ => lF9); (rename News _ _ _ _ => lN9)
      refine InvEndN.intro (nx := news) lF9 lN9 (lend (i := i + 1) rfl rfl rfl rfl rfl rfl rfl ?_ (dStr_push _ _)) rfl ?_ ?_
      · first | exact e5 | exact e8 (by omega)
      · intro q hq; simp [hq]
      · intro q hq; simp [hq]
  case done =>
    rintro ⟨r, g, b, tr, tg, tb, tw, row⟩ u h tk2 ⟨hA2, hrow⟩ F2 N2
    dsimp only at hA2 hrow F2
    subst hrow
    k_steps
    all_goals exact hret _ _ _ (by assumption) (by assumption)
theorem c_walkedI (r g b : UInt64) (n p back K : Int) (tr tg tb tn tks tbk : Tok) (h0 : 0 ≤ K) (h1 : K ≤ 18) (hA : At n p r g b) (hco : ∀ q : Int, 1 ≤ q → q < n → (10 * q) % n ≠ 0) (hb : back = 0 ∨ back = n) :
    Ct w mean mg mb news 4 142 [.float r tr, .float g tg, .float b tb, .int n tn, .int K tks, .int back tbk] (RetV news fun t => .str (dStr (digs n p K.toNat)) t) := by
  obtain ⟨k, rfl⟩ := Int.eq_ofNat_of_zero_le h0
  exact c_walked w mean mg mb news r g b n p back k tr tg tb tn tks tbk (by omega) hA hco hb
end
end Mine
end

section
set_option maxRecDepth 100000
namespace Mine
open PySem PySem.W PyProof.Rows PySem.Calls PySem.Spec
def HU (z : Int) : Int := [91, 9901, 3441, 999001, 3367, 333667, 37, 52579].getD z.toNat 0
def SZ (z : Int) : Int := [2, 4, 5, 6, 4, 6, 2, 6].getD z.toNat 0
section
variable {prog : Program} {w : World} {A : Around} {E : Value → Shared → Prop} {s : Shared} {value slice : Expr} {u : Tok} {h₀ : Heap} {L : Addr} {m : Str → Option Value} {news : List (Addr × Obj)} {Q : Value → Shared → Prop}
theorem tab_at {a : Addr} {x0 x1 x2 x3 x4 x5 x6 x7 : Int} {t0 t1 t2 t3 t4 t5 t6 t7 : Tok} {n : Nat} {z : Int} (N : News h₀ L s.heap news)
    (hm : (a, ({ cls := .type "tuple", data := .seq #[.int x0 t0, .int x1 t1, .int x2 t2, .int x3 t3, .int x4 t4, .int x5 t5, .int x6 t6, .int x7 t7] n } : Obj)) ∈ news) (h0 : 0 ≤ z) (h8 : z < 8)
    (h : ∀ t, Q (.int ([x0, x1, x2, x3, x4, x5, x6, x7].getD z.toNat 0) t) s)
    (hs : subscripted slice false (.ref a) (.int z u) = operate [.ref a, .int z u] (getItem (.ref a) (.int z u))) :
    wpAny (model prog w) A (subscriptTail value slice (.ref a) (.int z u)) Q E s := by
  have hT : IsTup s.heap a (List.toArray [.int x0 t0, .int x1 t1, .int x2 t2, .int x3 t3, .int x4 t4, .int x5 t5, .int x6 t6, .int x7 t7]) := ⟨_, N.get hm, rfl, n, rfl⟩
  have : z = 0 ∨ z = 1 ∨ z = 2 ∨ z = 3 ∨ z = 4 ∨ z = 5 ∨ z = 6 ∨ z = 7 := by omega
  rcases this with rfl | rfl | rfl | rfl | rfl | rfl | rfl | rfl
  · exact item_tupleT hT (by decide) (by decide) rfl rfl (h _) hs
  · exact item_tupleT hT (by decide) (by decide) rfl rfl (h _) hs
  · exact item_tupleT hT (by decide) (by decide) rfl rfl (h _) hs
  · exact item_tupleT hT (by decide) (by decide) rfl rfl (h _) hs
  · exact item_tupleT hT (by decide) (by decide) rfl rfl (h _) hs
  · exact item_tupleT hT (by decide) (by decide) rfl rfl (h _) hs
  · exact item_tupleT hT (by decide) (by decide) rfl rfl (h _) hs
  · exact item_tupleT hT (by decide) (by decide) rfl rfl (h _) hs
theorem tab_H {a : Addr} {t0 t1 t2 t3 t4 t5 t6 t7 : Tok} {n : Nat} {z : Int} (N : News h₀ L s.heap news)
    (hm : (a, ({ cls := .type "tuple", data := .seq #[.int 91 t0, .int 9901 t1, .int 3441 t2, .int 999001 t3, .int 3367 t4, .int 333667 t5, .int 37 t6, .int 52579 t7] n } : Obj)) ∈ news) (h0 : 0 ≤ z) (h8 : z < 8)
    (h : ∀ t, 37 ≤ HU z → HU z ≤ 999001 → Q (.int (HU z) t) s)
    (hs : subscripted slice false (.ref a) (.int z u) = operate [.ref a, .int z u] (getItem (.ref a) (.int z u))) :
    wpAny (model prog w) A (subscriptTail value slice (.ref a) (.int z u)) Q E s := by
  have hh : 37 ≤ HU z ∧ HU z ≤ 999001 := by
    have : z = 0 ∨ z = 1 ∨ z = 2 ∨ z = 3 ∨ z = 4 ∨ z = 5 ∨ z = 6 ∨ z = 7 := by omega
    rcases this with rfl | rfl | rfl | rfl | rfl | rfl | rfl | rfl <;> decide
  exact tab_at N hm h0 h8 (fun t => h t hh.1 hh.2) hs
theorem tab_S {a : Addr} {t0 t1 t2 t3 t4 t5 t6 t7 : Tok} {n : Nat} {z : Int} (N : News h₀ L s.heap news)
    (hm : (a, ({ cls := .type "tuple", data := .seq #[.int 2 t0, .int 4 t1, .int 5 t2, .int 6 t3, .int 4 t4, .int 6 t5, .int 2 t6, .int 6 t7] n } : Obj)) ∈ news) (h0 : 0 ≤ z) (h8 : z < 8)
    (h : ∀ t, 2 ≤ SZ z → SZ z ≤ 6 → Q (.int (SZ z) t) s)
    (hs : subscripted slice false (.ref a) (.int z u) = operate [.ref a, .int z u] (getItem (.ref a) (.int z u))) :
    wpAny (model prog w) A (subscriptTail value slice (.ref a) (.int z u)) Q E s := by
  have hh : 2 ≤ SZ z ∧ SZ z ≤ 6 := by
    have : z = 0 ∨ z = 1 ∨ z = 2 ∨ z = 3 ∨ z = 4 ∨ z = 5 ∨ z = 6 ∨ z = 7 := by omega
    rcases this with rfl | rfl | rfl | rfl | rfl | rfl | rfl | rfl <;> decide
  exact tab_at N hm h0 h8 (fun t => h t hh.1 hh.2) hs
theorem fmod8 (x : Int) : 0 ≤ x.fmod 8 ∧ x.fmod 8 < 8 := by
  rw [Int.fmod_eq_emod_of_nonneg x (by decide)]
  omega
end
end Mine
end

section
set_option maxRecDepth 100000
namespace Mine
open PySem PySem.W PyProof.Rows PySem.Calls PySem.Spec
def cntJ (a b c : Int) : Int := (if a = -1 then 1 else 0) + (if b = -1 then 1 else 0) + (if c = -1 then 1 else 0)
/-- all that the walk of the law asks of a wheel n, a size k and a place f -/
structure LawFx (n k f : Int) (d1 d2 d3 : List Nat) (V1 V2 : Int) : Prop where
  f0 : 1 ≤ f
  f1 : f < n
  g1 : Float64.isNaN (Float64.mul (leapF f n) 4618441417868443648) = false
  g2 : Float64.isInf (Float64.mul (leapF f n) 4618441417868443648) = false
  g3 : (Flt.toInt Float64.truncOf (Float64.mul (leapF f n) 4618441417868443648)).natAbs < 100
  a1 : At n f (hsvR (leapF f n)) (hsvG (leapF f n)) (hsvB (leapF f n))
  a2 : At n (n - f) (hsvR (leapF f n)) (hsvB (leapF f n)) (hsvG (leapF f n))
  co : ∀ q : Int, 1 ≤ q → q < n → (10 * q) % n ≠ 0
  i1 : PySem.intText? (dStr (digs n f (3 * k).toNat)) = some V1
  i2 : PySem.intText? (dStr (digs n (n - f) (3 * k).toNat)) = some V2
  v12 : V1 + V2 = 10 ^ (3 * k).toNat - 1
  s1 : Txt.slice (dStr (digs n f (3 * k).toNat)) none (some k) = dStr d1
  s2 : Txt.slice (dStr (digs n f (3 * k).toNat)) (some k) (some (2 * k)) = dStr d2
  s3 : Txt.slice (dStr (digs n f (3 * k).toNat)) (some (2 * k)) none = dStr d3
  l1 : (dStr (digs n f (3 * k).toNat)).length ≤ 18
  l2 : (dStr (digs n (n - f) (3 * k).toNat)).length ≤ 18
  ad1 : AD d1
  ad2 : AD d2
  ad3 : AD d3
  n1 : d1 ≠ []
  n2 : d2 ≠ []
  n3 : d3 ≠ []
  m1 : d1.length ≤ 6
  m2 : d2.length ≤ 6
  m3 : d3.length ≤ 6
  u0 : (10 : Int) ≤ 10 ^ k.toNat
  u1 : (10 : Int) ^ k.toNat ≤ 1000000
  w0 : (0 : Int) ≤ 10 ^ (3 * k).toNat
  w1 : (10 : Int) ^ (3 * k).toNat ≤ 1000000000000000000
  fin : ∀ c, mk1 c → cntJ (askV d1 c) (askV d2 c) (askV d3 c) < 2 → wholeJ (10 ^ k.toNat) (askV d1 c) (askV d2 c) (askV d3 c) * n = f * (10 ^ (3 * k).toNat - 1)
theorem askV_ne (d : List Nat) (c : Nat) : askV d c ≠ -2 := by
  unfold askV
  split <;> omega
end Mine
end

section
set_option maxRecDepth 100000
namespace Mine
open PySem PySem.W PyProof.Rows PySem.Calls PySem.Spec
open NumText
theorem pos_of {n c : Int} (hn : 0 < n) (h : 0 < n * c) : 0 < c := by
  apply Int.lt_of_mul_lt_mul_left (a := n) _ (by omega)
  rw [Int.mul_zero]; exact h
theorem pl_range {n p : Int} (h0 : 1 ≤ p) (h1 : p < n) (co : ∀ q : Int, 1 ≤ q → q < n → (10 * q) % n ≠ 0) : ∀ i, 1 ≤ pl n p i ∧ pl n p i < n
  | 0 => ⟨h0, h1⟩
  | i + 1 => by
    have ⟨a, b⟩ := pl_range h0 h1 co i
    have c := co _ a b
    have d := Int.emod_nonneg (10 * pl n p i) (by omega : n ≠ 0)
    have e := Int.emod_lt_of_pos (10 * pl n p i) (by omega : 0 < n)
    show 1 ≤ (10 * pl n p i) % n ∧ (10 * pl n p i) % n < n
    omega
theorem dg_cast {n q : Int} (h0 : 1 ≤ q) (h1 : q < n) : (((10 * q / n).toNat : Nat) : Int) = 10 * q / n :=
  Int.toNat_of_nonneg (Int.ediv_nonneg (by omega) (by omega))
theorem dg_lt {n q : Int} (h0 : 1 ≤ q) (h1 : q < n) : (10 * q / n).toNat < 10 := by
  have : 10 * q / n < 10 := Int.ediv_lt_of_lt_mul (by omega) (by omega)
  omega
theorem digs_AD {n p : Int} (h0 : 1 ≤ p) (h1 : p < n) (co : ∀ q : Int, 1 ≤ q → q < n → (10 * q) % n ≠ 0) : ∀ i, AD (digs n p i)
  | 0 => fun d hd => nomatch hd
  | i + 1 => by
    intro d hd
    rcases List.mem_append.mp hd with hd | hd
    · exact digs_AD h0 h1 co i d hd
    · rw [List.mem_singleton.mp hd]
      have ⟨a, b⟩ := pl_range h0 h1 co i
      exact dg_lt a b
theorem digV_snoc (ds : List Nat) (d : Nat) : digV (ds ++ [d]) = digV ds * 10 + d := by
  unfold digV
  rw [List.map_append]
  show digitsVal (ds.map (48 + ·) ++ [48 + d]) = _
  rw [digitsVal_snoc]
  omega
theorem digs_inv {n p : Int} (h0 : 1 ≤ p) (h1 : p < n) (co : ∀ q : Int, 1 ≤ q → q < n → (10 * q) % n ≠ 0) : ∀ i, (10 : Int) ^ i * p = n * (digV (digs n p i) : Int) + pl n p i
  | 0 => by
    show (10 : Int) ^ 0 * p = n * ((digV [] : Nat) : Int) + p
    have : digV [] = 0 := rfl
    rw [this]
    simp
  | i + 1 => by
    have ih := digs_inv h0 h1 co i
    have ⟨a, b⟩ := pl_range h0 h1 co i
    show (10 : Int) ^ (i + 1) * p = n * ((digV (digs n p i ++ [dg n p i]) : Nat) : Int) + (10 * pl n p i) % n
    rw [digV_snoc]
    have e := Int.mul_ediv_add_emod (10 * pl n p i) n
    have c : ((dg n p i : Nat) : Int) = 10 * pl n p i / n := dg_cast a b
    rw [Int.pow_succ]
    push_cast
    rw [c]
    generalize 10 * pl n p i / n = D at *
    generalize (10 * pl n p i) % n = R at *
    have : (10 : Int) ^ i * 10 * p = 10 * ((10 : Int) ^ i * p) := by
      grind
    grind
theorem pl_add (n p : Int) (i : Nat) : ∀ j, pl n p (i + j) = pl n (pl n p i) j
  | 0 => rfl
  | j + 1 => by
    show (10 * pl n p (i + j)) % n = (10 * pl n (pl n p i) j) % n
    rw [pl_add n p i j]
theorem digs_add (n p : Int) (i : Nat) : ∀ j, digs n p (i + j) = digs n p i ++ digs n (pl n p i) j
  | 0 => by simp [digs]
  | j + 1 => by
    show digs n p (i + j) ++ [dg n p (i + j)] = digs n p i ++ (digs n (pl n p i) j ++ [dg n (pl n p i) j])
    have : dg n p (i + j) = dg n (pl n p i) j := by unfold dg; rw [pl_add]
    rw [this, digs_add n p i j, List.append_assoc]
theorem co_of {n M T : Int} (h : n * M = 10 * T - 1) : ∀ q : Int, 1 ≤ q → q < n → (10 * q) % n ≠ 0 := by
  intro q h0 h1 hz
  obtain ⟨c, hc⟩ := Int.dvd_of_emod_eq_zero hz
  have e : q = n * (T * c - M * q) := by
    have e1 : n * (T * c - M * q) = T * (n * c) - (n * M) * q := by grind
    rw [e1, ← hc, h]; grind
  have z : q % n = 0 := by rw [e]; exact Int.mul_emod_right ..
  rw [Int.emod_eq_of_lt (by omega) h1] at z
  omega
theorem back_of {n M T p q V : Int} (h : n * M = T - 1) (e : T * p = n * V + q) (p0 : 1 ≤ p) (p1 : p < n) (q0 : 1 ≤ q) (q1 : q < n) : q = p := by
  have e2 : q = p + n * (M * p - V) := by
    have : n * (M * p - V) = (n * M) * p - n * V := by grind
    rw [this, h]; grind
  have : q % n = p % n := by rw [e2]; exact Int.add_mul_emod_self_left ..
  rwa [Int.emod_eq_of_lt (by omega) q1, Int.emod_eq_of_lt (by omega) p1] at this
structure Stretch (n U p0 p1 p2 v1 v2 v3 : Int) : Prop where
  e1 : U * p0 = n * v1 + p1
  e2 : U * p1 = n * v2 + p2
  e3 : U * p2 = n * v3 + p0
  nU : n < U
  a0 : 1 ≤ p0
  a1 : 1 ≤ p1
  a2 : 1 ≤ p2
  b0 : p0 < n
  b1 : p1 < n
  b2 : p2 < n
theorem v_range {n U p q v : Int} (e : U * p = n * v + q) (nU : n < U) (p0 : 1 ≤ p) (p1 : p < n) (q0 : 1 ≤ q) (q1 : q < n) : 1 ≤ v ∧ v ≤ U - 2 := by
  have hn : 0 < n := by omega
  constructor
  · have h1 : U * 1 ≤ U * p := Int.mul_le_mul_of_nonneg_left p0 (by omega)
    have : 0 < n * v := by omega
    exact pos_of hn this
  · have h1 : U * p ≤ U * (n - 1) := Int.mul_le_mul_of_nonneg_left (by omega) (by omega)
    have h2 : U * (n - 1) = n * U - U := by grind
    have h3 : n * v < n * (U - 1) := by
      have : n * (U - 1) = n * U - n := by grind
      omega
    have := Int.lt_of_mul_lt_mul_left h3 (by omega)
    omega
theorem sum_of {n U m p0 p1 p2 v1 v2 v3 : Int} (S : Stretch n U p0 p1 p2 v1 v2 v3) (h : n * m = U * U + U + 1) : v1 + v2 + v3 = U - 1 ∨ v1 + v2 + v3 = 2 * (U - 1) := by
  obtain ⟨e1, e2, e3, nU, a0, a1, a2, b0, b1, b2⟩ := S
  have hn : 0 < n := by omega
  have hP : p0 + p1 + p2 = n * (m * p0 - v1 - U * v1 - v2) := by grind
  have hS : n * (v1 + v2 + v3) = n * ((U - 1) * (m * p0 - v1 - U * v1 - v2)) := by grind
  generalize m * p0 - v1 - U * v1 - v2 = c at *
  have hS' := Int.eq_of_mul_eq_mul_left (by omega) hS
  have c0 : 0 < c := by
    have : 0 < n * c := by omega
    exact pos_of hn this
  have c3 : c < 3 := by
    have : n * c < n * 3 := by omega
    exact Int.lt_of_mul_lt_mul_left this (by omega)
  have : c = 1 ∨ c = 2 := by omega
  rcases this with rfl | rfl
  · left; omega
  · right; omega
end Mine
end

section
set_option maxRecDepth 100000
namespace Mine
open PySem PySem.W PyProof.Rows PySem.Calls PySem.Spec
open NumText
theorem fmod_small {M x : Int} (h0 : 0 ≤ x) (h1 : x < M) : x.fmod M = x := by
  rw [Int.fmod_eq_emod_of_nonneg x (by omega)]
  exact Int.emod_eq_of_lt h0 h1
/-- the remainder of the two others, and the lost one out of it -/
theorem lost {M x y v : Int} (hx0 : 0 ≤ x) (hy0 : 0 ≤ y) (hv0 : 1 ≤ v) (hv1 : v < M) (h : x + y + v = M ∨ x + y + v = 2 * M) : M - (x + y).fmod M = v := by
  have e : (x + y).fmod M = M - v := by
    rcases h with h | h
    · rw [show x + y = M - v by omega]
      exact fmod_small (by omega) (by omega)
    · rw [Int.fmod_eq_emod_of_nonneg _ (by omega), show x + y = (M - v) + M by omega, Int.add_emod_right]
      exact Int.emod_eq_of_lt (by omega) (by omega)
  omega
theorem fill_all {U a b c : Int} (ha : 0 ≤ a) (hb : 0 ≤ b) (hc : 0 ≤ c) : wholeJ U a b c = (a * U + b) * U + c := by
  unfold wholeJ fillJ
  simp only [ha, hb, hc, if_true, Int.zero_mul, Int.zero_add]
theorem fill_a {U a b c : Int} (ha : 1 ≤ a) (ha1 : a ≤ U - 2) (hb : 1 ≤ b) (hb1 : b ≤ U - 2) (hc : 1 ≤ c) (hc1 : c ≤ U - 2) (h : a + b + c = U - 1 ∨ a + b + c = 2 * (U - 1)) : wholeJ U (-1) b c = (a * U + b) * U + c := by
  have e : restJ U (-1) b c = (b + c).fmod (U - 1) := by
    unfold restJ
    simp only [show ¬ (0 : Int) ≤ -1 by decide, show 0 ≤ b by omega, show 0 ≤ c by omega, if_true, if_false, Int.zero_add]
    rw [fmod_small (x := b) (by omega) (by omega)]
  have f : U - 1 - (b + c).fmod (U - 1) = a := lost (by omega) (by omega) (by omega) (by omega) (by omega)
  unfold wholeJ fillJ
  rw [e, f]
  simp only [show ¬ (0 : Int) ≤ -1 by decide, show 0 ≤ b by omega, show 0 ≤ c by omega, if_true, if_false, Int.zero_mul, Int.zero_add]
theorem fill_b {U a b c : Int} (ha : 1 ≤ a) (ha1 : a ≤ U - 2) (hb : 1 ≤ b) (hb1 : b ≤ U - 2) (hc : 1 ≤ c) (hc1 : c ≤ U - 2) (h : a + b + c = U - 1 ∨ a + b + c = 2 * (U - 1)) : wholeJ U a (-1) c = (a * U + b) * U + c := by
  have e : restJ U a (-1) c = (a + c).fmod (U - 1) := by
    unfold restJ
    simp only [show ¬ (0 : Int) ≤ -1 by decide, show 0 ≤ a by omega, show 0 ≤ c by omega, if_true, if_false, Int.zero_add]
    rw [fmod_small (x := a) (by omega) (by omega)]
  have f : U - 1 - (a + c).fmod (U - 1) = b := lost (by omega) (by omega) (by omega) (by omega) (by omega)
  unfold wholeJ fillJ
  rw [e, f]
  simp only [show ¬ (0 : Int) ≤ -1 by decide, show 0 ≤ a by omega, show 0 ≤ c by omega, if_true, if_false, Int.zero_mul, Int.zero_add]
theorem fill_c {U a b c : Int} (ha : 1 ≤ a) (ha1 : a ≤ U - 2) (hb : 1 ≤ b) (hb1 : b ≤ U - 2) (hc : 1 ≤ c) (hc1 : c ≤ U - 2) (h : a + b + c = U - 1 ∨ a + b + c = 2 * (U - 1)) : wholeJ U a b (-1) = (a * U + b) * U + c := by
  have e : restJ U a b (-1) = (a + b).fmod (U - 1) := by
    unfold restJ
    simp only [show ¬ (0 : Int) ≤ -1 by decide, show 0 ≤ a by omega, show 0 ≤ b by omega, if_true, if_false, Int.zero_add]
    rw [fmod_small (x := a) (by omega) (by omega)]
  have f : U - 1 - (a + b).fmod (U - 1) = c := lost (by omega) (by omega) (by omega) (by omega) (by omega)
  unfold wholeJ fillJ
  rw [e, f]
  simp only [show ¬ (0 : Int) ≤ -1 by decide, show 0 ≤ a by omega, show 0 ≤ b by omega, if_true, if_false, Int.zero_mul, Int.zero_add]
theorem joined_is {U : Int} {d1 d2 d3 : List Nat} {c : Nat} (ha : 1 ≤ (digV d1 : Int)) (ha1 : (digV d1 : Int) ≤ U - 2) (hb : 1 ≤ (digV d2 : Int)) (hb1 : (digV d2 : Int) ≤ U - 2) (hc : 1 ≤ (digV d3 : Int)) (hc1 : (digV d3 : Int) ≤ U - 2)
    (h : (digV d1 : Int) + digV d2 + digV d3 = U - 1 ∨ (digV d1 : Int) + digV d2 + digV d3 = 2 * (U - 1)) (hcnt : cntJ (askV d1 c) (askV d2 c) (askV d3 c) < 2) :
    wholeJ U (askV d1 c) (askV d2 c) (askV d3 c) = ((digV d1 : Int) * U + digV d2) * U + digV d3 := by
  unfold askV at *
  by_cases h1 : c ∈ d1.map (48 + ·) <;> by_cases h2 : c ∈ d2.map (48 + ·) <;> by_cases h3 : c ∈ d3.map (48 + ·) <;> simp only [h1, h2, h3, if_true, if_false] at hcnt ⊢
  · exact absurd hcnt (by decide)
  · unfold cntJ at hcnt; simp only [if_true] at hcnt; split at hcnt <;> omega
  · unfold cntJ at hcnt; simp only [if_true] at hcnt; split at hcnt <;> omega
  · exact fill_a ha ha1 hb hb1 hc hc1 h
  · unfold cntJ at hcnt; simp only [if_true] at hcnt; split at hcnt <;> omega
  · exact fill_b ha ha1 hb hb1 hc hc1 h
  · exact fill_c ha ha1 hb hb1 hc hc1 h
  · exact fill_all (by omega) (by omega) (by omega)
theorem slice_to (ds es : List Nat) (k : Int) (h : k = (ds.length : Int)) : Txt.slice (dStr (ds ++ es)) none (some k) = dStr ds := by
  subst h
  show StrLaws.sliceText _ _ _ = _
  rw [StrLaws.sliceText_to ⟨by omega, by unfold dStr; simp; omega⟩]
  unfold dStr
  simp
theorem slice_mid (as ds es : List Nat) (i j : Int) (hi : i = (as.length : Int)) (hj : j = (as.length : Int) + ds.length) : Txt.slice (dStr (as ++ (ds ++ es))) (some i) (some j) = dStr ds := by
  subst hi; subst hj
  show StrLaws.sliceText _ _ _ = _
  rw [StrLaws.sliceText_plain ⟨by omega, by omega, by unfold dStr; simp; omega⟩]
  unfold dStr
  have : ((as.length : Int) + ds.length - as.length).toNat = ds.length := by omega
  rw [this]
  simp
theorem slice_end (as ds : List Nat) (i : Int) (hi : i = (as.length : Int)) : Txt.slice (dStr (as ++ ds)) (some i) none = dStr ds := by
  subst hi
  show StrLaws.sliceText _ _ _ = _
  rw [StrLaws.sliceText_from ⟨by omega, by unfold dStr; simp; omega⟩]
  unfold dStr
  have : ((as.length : Int) + ds.length).toNat - as.length = ds.length := by omega
  simp [this]
  rw [List.take_of_length_le]
  simp
end Mine
end

section
set_option maxRecDepth 100000
namespace Mine
open PySem PySem.W PyProof.Rows PySem.Calls PySem.Spec
open NumText
theorem wheel (z : Int) (h0 : 0 ≤ z) (h8 : z < 8) : ∃ (k : Nat) (m : Int), SZ z = (k : Int) ∧ 2 ≤ k ∧ k ≤ 6 ∧ 37 ≤ HU z ∧ HU z ≤ 999001 ∧ HU z < (10 : Int) ^ k ∧ HU z * m = (10 : Int) ^ k * (10 : Int) ^ k + (10 : Int) ^ k + 1 := by
  have : z = 0 ∨ z = 1 ∨ z = 2 ∨ z = 3 ∨ z = 4 ∨ z = 5 ∨ z = 6 ∨ z = 7 := by omega
  rcases this with rfl | rfl | rfl | rfl | rfl | rfl | rfl | rfl
  · exact ⟨2, 111, by decide +kernel, by decide, by decide, by decide +kernel, by decide +kernel, by decide +kernel, by decide +kernel⟩
  · exact ⟨4, 10101, by decide +kernel, by decide, by decide, by decide +kernel, by decide +kernel, by decide +kernel, by decide +kernel⟩
  · exact ⟨5, 2906161, by decide +kernel, by decide, by decide, by decide +kernel, by decide +kernel, by decide +kernel, by decide +kernel⟩
  · exact ⟨6, 1001001, by decide +kernel, by decide, by decide, by decide +kernel, by decide +kernel, by decide +kernel, by decide +kernel⟩
  · exact ⟨4, 29703, by decide +kernel, by decide, by decide, by decide +kernel, by decide +kernel, by decide +kernel, by decide +kernel⟩
  · exact ⟨6, 2997003, by decide +kernel, by decide, by decide, by decide +kernel, by decide +kernel, by decide +kernel, by decide +kernel⟩
  · exact ⟨2, 273, by decide +kernel, by decide, by decide, by decide +kernel, by decide +kernel, by decide +kernel, by decide +kernel⟩
  · exact ⟨6, 19019019, by decide +kernel, by decide, by decide, by decide +kernel, by decide +kernel, by decide +kernel, by decide +kernel⟩

theorem pow_range {k : Nat} (h2 : 2 ≤ k) (h6 : k ≤ 6) : (10 : Int) ≤ 10 ^ k ∧ (10 : Int) ^ k ≤ 1000000 ∧ (0 : Int) ≤ 10 ^ (3 * k) ∧ (10 : Int) ^ (3 * k) ≤ 1000000000000000000 ∧ (10 : Int) ^ (3 * k) = 10 * 10 ^ (3 * k - 1) := by
  have : k = 2 ∨ k = 3 ∨ k = 4 ∨ k = 5 ∨ k = 6 := by omega
  rcases this with rfl | rfl | rfl | rfl | rfl <;> decide +kernel
theorem v12_of {n T f V1 V2 : Int} (hn : n ≠ 0) (e1 : T * f = n * V1 + f) (e2 : T * (n - f) = n * V2 + (n - f)) : V1 + V2 = T - 1 :=
  Int.eq_of_mul_eq_mul_left hn (by grind)
theorem fin_of {n U p0 p1 p2 v1 v2 v3 : Int} (e1 : U * p0 = n * v1 + p1) (e2 : U * p1 = n * v2 + p2) (e3 : U * p2 = n * v3 + p0) : ((v1 * U + v2) * U + v3) * n = p0 * (U * U * U - 1) := by
  grind
theorem law_of {n m f : Int} {k : Nat} (h2 : 2 ≤ k) (h6 : k ≤ 6) (n0 : 37 ≤ n) (n1 : n ≤ 999001) (nU : n < (10 : Int) ^ k) (hm : n * m = (10 : Int) ^ k * (10 : Int) ^ k + (10 : Int) ^ k + 1) (f0 : 1 ≤ f) (f1 : f < n) :
    ∃ d1 d2 d3 V1 V2, LawFx n (k : Int) f d1 d2 d3 V1 V2 := by
  obtain ⟨u0, u1, w0, w1, wT⟩ := pow_range h2 h6
  have t3 : (3 * (k : Int)).toNat = 3 * k := by omega
  have t1 : ((k : Int)).toNat = k := by omega
  have eT : (10 : Int) ^ (3 * k) = 10 ^ k * 10 ^ k * 10 ^ k := by
    rw [show 3 * k = k + k + k by omega, Int.pow_add, Int.pow_add]
  have hM : n * (m * (10 ^ k - 1)) = (10 : Int) ^ (3 * k) - 1 := by
    rw [eT]
    generalize (10 : Int) ^ k = U at *
    have : n * (m * (U - 1)) = (n * m) * (U - 1) := by grind
    rw [this, hm]; grind
  have co := co_of (n := n) (hM.trans (by rw [wT]))
  obtain ⟨a1, b1⟩ := pl_range f0 f1 co k
  obtain ⟨a2, b2⟩ := pl_range a1 b1 co k
  have e1 := digs_inv f0 f1 co k
  have e2 := digs_inv a1 b1 co k
  have e3 := digs_inv a2 b2 co k
  have D := digs_add n f k (k + k)
  rw [digs_add n (pl n f k) k k, show k + (k + k) = 3 * k by omega] at D
  have P := pl_add n f k (k + k)
  rw [pl_add n (pl n f k) k k, show k + (k + k) = 3 * k by omega] at P
  have eF := digs_inv f0 f1 co (3 * k)
  obtain ⟨aF, bF⟩ := pl_range f0 f1 co (3 * k)
  have bF' := back_of hM eF f0 f1 aF bF
  have eG := digs_inv (n := n) (p := n - f) (by omega) (by omega) co (3 * k)
  obtain ⟨aG, bG⟩ := pl_range (n := n) (p := n - f) (by omega) (by omega) co (3 * k)
  have bG' := back_of hM eG (by omega) (by omega) aG bG
  rw [bF'] at eF P
  rw [bG'] at eG
  rw [← P] at e3
  have ad1 := digs_AD f0 f1 co k
  have ad2 := digs_AD a1 b1 co k
  have ad3 := digs_AD a2 b2 co k
  have l1 := digs_length n f k
  have l2 := digs_length n (pl n f k) k
  have l3 := digs_length n (pl n (pl n f k) k) k
  have lF := digs_length n f (3 * k)
  have lG := digs_length n (n - f) (3 * k)
  have adF := digs_AD f0 f1 co (3 * k)
  have adG := digs_AD (n := n) (p := n - f) (by omega) (by omega) co (3 * k)
  obtain ⟨g1, g3, A1⟩ := paint_hsv (n := n) (a := f) (K := 0) (r := f) (by omega) f0 f1 (by omega) (by omega) (by omega)
  have ne : ∀ d : List Nat, d.length = k → d ≠ [] := fun d hd e => by rw [e] at hd; simp at hd; omega
  have V12 : ((digV (digs n f (3 * k)) : Nat) : Int) + ((digV (digs n (n - f) (3 * k)) : Nat) : Int) = 10 ^ (3 * k) - 1 := by
    exact v12_of (by omega) eF eG
  have S : Stretch n (10 ^ k) f (pl n f k) (pl n (pl n f k) k) (digV (digs n f k)) (digV (digs n (pl n f k) k)) (digV (digs n (pl n (pl n f k) k) k)) := ⟨e1, e2, e3, nU, f0, a1, a2, f1, b1, b2⟩
  have sm := sum_of S hm
  obtain ⟨r1, r1'⟩ := v_range e1 nU f0 f1 a1 b1
  obtain ⟨r2, r2'⟩ := v_range e2 nU a1 b1 a2 b2
  obtain ⟨r3, r3'⟩ := v_range e3 nU a2 b2 f0 f1
  refine ⟨digs n f k, digs n (pl n f k) k, digs n (pl n (pl n f k) k) k, (digV (digs n f (3 * k)) : Int), (digV (digs n (n - f) (3 * k)) : Int), ?_⟩
  constructor
  case f0 => exact f0
  case f1 => exact f1
  case g1 => exact isFin_nan g1
  case g2 => exact isFin_inf g1
  case g3 => exact g3
  case a1 => exact A1
  case a2 => exact A1.swap
  case co => exact co
  case i1 => rw [t3]; exact int_digits _ adF (by intro e; rw [e] at lF; simp at lF; omega) (by omega)
  case i2 => rw [t3]; exact int_digits _ adG (by intro e; rw [e] at lG; simp at lG; omega) (by omega)
  case v12 => rw [t3]; exact V12
  case s1 => rw [t3, D]; exact slice_to _ _ _ (by rw [l1])
  case s2 => rw [t3, D]; exact slice_mid _ _ _ _ _ (by rw [l1]) (by rw [l1, l2]; omega)
  case s3 => rw [t3, D, ← List.append_assoc]; exact slice_end _ _ _ (by rw [List.length_append, l1, l2]; omega)
  case l1 => rw [t3, dStr_length]; omega
  case l2 => rw [t3, dStr_length]; omega
  case ad1 => exact ad1
  case ad2 => exact ad2
  case ad3 => exact ad3
  case n1 => exact ne _ l1
  case n2 => exact ne _ l2
  case n3 => exact ne _ l3
  case m1 => omega
  case m2 => omega
  case m3 => omega
  case u0 => rw [t1]; exact u0
  case u1 => rw [t1]; exact u1
  case w0 => rw [t3]; exact w0
  case w1 => rw [t3]; exact w1
  case fin =>
    intro c _ hcnt
    rw [t1, t3, joined_is r1 r1' r2 r2' r3 r3' sm hcnt, eT]
    exact fin_of e1 e2 e3
theorem law_facts (z d : Int) (h0 : 0 ≤ z) (h8 : z < 8) : ∃ d1 d2 d3 V1 V2, LawFx (HU z) (SZ z) (1 + d.fmod (HU z - 1)) d1 d2 d3 V1 V2 := by
  obtain ⟨k, m, hk, h2, h6, n0, n1, nU, hm⟩ := wheel z h0 h8
  rw [hk]
  have a : 0 ≤ d.fmod (HU z - 1) := Int.fmod_nonneg_of_pos _ (by omega)
  have b : d.fmod (HU z - 1) < HU z - 1 := Int.fmod_lt_of_pos _ (by omega)
  exact law_of h2 h6 n0 n1 nU hm (by omega) (by omega)
end Mine
end
section
open PySem PySem.W PyProof.Rows
set_option Elab.async false
namespace Mine
theorem first_as {prog : Program} {w : World} {A : Around} {E : Value → Shared → Prop} {s : Shared} {t u : Tok} {Q : Value → Shared → Prop} {z d : Int} (h0 : 0 ≤ z) (h8 : z < 8)
    (h : ∀ (f : Int) d1 d2 d3 V1 V2 t' tk', LawFx (HU z) (SZ z) f d1 d2 d3 V1 V2 → Q (.int f t') { s with toks := tk' }) :
    wpAny (model prog w) A (binaryOp .Add (.int 1 t) (.int (d.fmod (HU z - 1)) u)) Q E s := by
  obtain ⟨d1, d2, d3, V1, V2, H⟩ := law_facts z d h0 h8
  exact add_int (h _ d1 d2 d3 V1 V2 _ _ H)
theorem any_no {a b c : Int} (h : ([a, b, c].any fun x => x == -2) = true) (h1 : a ≠ -2) (h2 : b ≠ -2) (h3 : c ≠ -2) : False := by
  simp [h1, h2, h3] at h
theorem cnt_is (a b c : Int) : ((List.count (-1) [a, b, c] : Nat) : Int) = cntJ a b c := by
  unfold cntJ
  by_cases h1 : a = -1 <;> by_cases h2 : b = -1 <;> by_cases h3 : c = -1 <;> simp [List.count_cons, h1, h2, h3]
theorem fin_use {n T f U : Int} {c : Nat} {d1 d2 d3 : List Nat} (hfin : ∀ c, mk1 c → cntJ (askV d1 c) (askV d2 c) (askV d3 c) < 2 → wholeJ U (askV d1 c) (askV d2 c) (askV d3 c) * n = f * T) (hmk : mk1 c)
    (hc : ((List.count (-1) [askV d1 c, askV d2 c, askV d3 c] : Nat) : Int) < 2) (hbad : wholeJ U (askV d1 c) (askV d2 c) (askV d3 c) * n ≠ f * T) : False :=
  hbad (hfin c hmk (by rw [← cnt_is]; exact hc))
set_option maxRecDepth 100000 in
set_option maxHeartbeats 8000000 in
theorem law_walks : PySem.Challenge.rw_wu0039_01.Holds := hd (by
  k_with_none
  k_with "subscriptTail" => (k_here; (with_reducible show wpAny _ _ (subscriptTail (PySem.Expr.List _ _) _ (Value.ref _) (Value.ref _)) _ _ _); walk_at "last subscriptTail")
  k_with "subscriptTail" => (k_here; (with_reducible show wpAny _ _ (subscriptTail _ _ (Value.ref _) (Value.int _ _)) _ _ _); (with_reducible rename News _ _ _ _ => N'); k_dflt (refine' tab_H N' (by k_mem) (by exact (fmod8 _).1) (by exact (fmod8 _).2) ?_ (by with_unfolding_all rfl); k_whole); intro t' hb1' hb2')
  k_with "subscriptTail" => (k_here; (with_reducible show wpAny _ _ (subscriptTail _ _ (Value.ref _) (Value.int _ _)) _ _ _); (with_reducible rename News _ _ _ _ => N'); k_dflt (refine' tab_S N' (by k_mem) (by exact (fmod8 _).1) (by exact (fmod8 _).2) ?_ (by with_unfolding_all rfl); k_whole); intro t' hb1' hb2')
  k_with "binaryOp Add int int" => (k_here; (with_reducible show wpAny _ _ (binaryOp _ (Value.int 1 _) (Value.int (Int.fmod _ (HU _ - 1)) _)) _ _ _); k_dflt (refine' first_as (by exact (fmod8 _).1) (by exact (fmod8 _).2) ?_; k_whole); intro f' d1' d2' d3' V1' V2' t' tk' LF'; obtain ⟨lf0, lf1, lg1, lg2, lg3, la1, la2, lco, li1, li2, lv12, ls1, ls2, ls3, ll1, ll2, lad1, lad2, lad3, ln1, ln2, ln3, lm1, lm2, lm3, lu0, lu1, lw0, lw1, lfin⟩ := LF')
  k_with "call ref" => (k_here; (with_reducible show wpAny _ _ (call (Value.ref 107) [Value.int _ _, Value.int _ _]) _ _ _); k_dflt (refine' c_iadd _ _ _ _ _ _ _ _ _  _ _ _ _ _ _ _ _ _ _ _ _ _ _ _ _ _ (by k_asm) (by k_asm) (by k_asm) (by k_asm) (by k_asm) (by first | exact rfl | assumption) (by first | ktr_room | k_room) (by first | ktr_units | k_units) ?_; k_whole); intro t9 h9 tk9 F9 N9; (try dsimp only))
  k_with "call ref" => (k_here; (with_reducible show wpAny _ _ (call (Value.ref 121) [Value.int _ _, Value.int _ _]) _ _ _); k_dflt (refine' c_imul _ _ _ _ _ _ _ _ _ (by omega) _ _ _ _ _ _ _ _ _ _ _ _ _ _ _ _ _ (by k_asm) (by k_asm) (by k_asm) (by k_asm) (by k_asm) (by first | exact rfl | assumption) (by first | ktr_room | k_room) (by first | ktr_units | k_units) ?_; k_whole); intro t9 h9 tk9 F9 N9; (try dsimp only))
  k_with "call ref" => (k_here; (with_reducible show wpAny _ _ (call (Value.ref 128) [Value.int _ _, Value.int _ _]) _ _ _); k_dflt (refine' c_ipow _ _ _ _ _ _ _ _ (by omega) (by omega) _ _ _ _ _ _ _ _ _ _ _ _ _ _ _ _ _ (by k_asm) (by k_asm) (by k_asm) (by k_asm) (by k_asm) (by first | exact rfl | assumption) (by first | ktr_room | k_room) (by first | ktr_units | k_units) ?_; k_whole); intro t9 h9 tk9 F9 N9; (try dsimp only))
  k_with "call ref" => (k_here; (with_reducible show wpAny _ _ (call (Value.ref 100) [Value.int _ _, Value.int _ _]) _ _ _); k_dflt (refine' c_truediv _ _ _ _ _ _ _ _ _ (by omega) (by omega) (by omega) _ _ _ _ _ _ _ _ _ _ _ _ _ _ _ _ _ (by k_asm) (by k_asm) (by k_asm) (by k_asm) (by k_asm) (by first | exact rfl | assumption) (by first | ktr_room | k_room) (by first | ktr_units | k_units) ?_; k_whole); intro t9 h9 tk9 F9 N9; (try dsimp only); (try (rw [show Float64.ofFrac _ _ _ = leapF _ _ from rfl])))
  k_with "call ref" => (k_here; (with_reducible show wpAny _ _ (call (Value.ref 93) [Value.float _ _, Value.float 4607182418800017408 _, Value.float 4607182418800017408 _]) _ _ _); k_dflt (refine' c_hsv _ _ _ _ _ _ _ _ _ (by assumption) (by assumption) (by assumption) _ _ _ _ _ _ _ _ _ _ _ _ _ _ _ _ _ (by k_asm) (by k_asm) (by k_asm) (by k_asm) (by k_asm) (by first | exact rfl | assumption) (by first | ktr_room | k_room) (by first | ktr_units | k_units) ?_; k_whole); intro p9 t9 t10 t11 h9 tk9 F9 N9; (try dsimp only))
  k_with "call ref" => (k_here; (with_reducible show wpAny _ _ (call (Value.ref 142) [Value.float _ _, Value.float _ _, Value.float _ _, Value.int _ _, Value.int _ _, Value.int _ _]) _ _ _); k_dflt (refine' c_walkedI _ _ _ _ _ _ _ _ _ _ _ _ _ _ _ _ _ _ (by omega) (by omega) (by assumption) (by assumption) (by first | exact Or.inl rfl | exact Or.inr rfl) _ _ _ _ _ _ _ _ _ _ _ _ _ _ _ _ _ (by k_asm) (by k_asm) (by k_asm) (by k_asm) (by k_asm) (by first | exact rfl | assumption) (by first | ktr_room | k_room) (by first | ktr_units | k_units) ?_; k_whole); intro t9 h9 tk9 F9 N9; (try dsimp only))
  k_with "call type:int" => (k_here; (with_reducible show wpAny _ _ (call (Value.type "int") [Value.str _ _]) _ _ _); k_dflt (refine' KIN.call_text (by assumption) (by omega) ?_; k_whole))
  k_with "subscriptTail Name Slice str ref" => (k_here; (with_reducible show wpAny _ _ (subscriptTail _ (Expr.Slice none (some _) none _) (Value.str _ _) (Value.ref _)) _ _ _); (with_reducible rename Fr _ _ _ _ => F'); (with_reducible rename News _ _ _ _ => N'); (refine slice_as_ns (s := ⟨_, _, _, _, _⟩) (by assumption) F' N' (by size_fits) ?_); intro h' t' k' F' N')
  k_with "subscriptTail Name Slice str ref" => (k_here; (with_reducible show wpAny _ _ (subscriptTail _ (Expr.Slice (some _) (some _) none _) (Value.str _ _) (Value.ref _)) _ _ _); (with_reducible rename Fr _ _ _ _ => F'); (with_reducible rename News _ _ _ _ => N'); (refine slice_as_ss (s := ⟨_, _, _, _, _⟩) (by assumption) F' N' (by size_fits) ?_); intro h' t' k' F' N')
  k_with "subscriptTail Name Slice str ref" => (k_here; (with_reducible show wpAny _ _ (subscriptTail _ (Expr.Slice (some _) none none _) (Value.str _ _) (Value.ref _)) _ _ _); (with_reducible rename Fr _ _ _ _ => F'); (with_reducible rename News _ _ _ _ => N'); (refine slice_as_sn (s := ⟨_, _, _, _, _⟩) (by assumption) F' N' (by size_fits) ?_); intro h' t' k' F' N')
  k_with "mine ne" => (refine neN ?_; (try dsimp only); (with_reducible rename (_ ∧ _) ∧ _ => hq); (first | exact hq.1.1 | exact hq.1.2.1 | exact hq.1.2.2 | exact hq.2.1.1 | exact hq.2.1.2.1 | exact hq.2.1.2.2 | exact hq.2.2.1 | exact hq.2.2.2.1 | exact hq.2.2.2.2 | exact (hq.1.1).symm | exact (hq.1.2.1).symm | exact (hq.1.2.2).symm | exact (hq.2.1.1).symm | exact (hq.2.1.2.1).symm | exact (hq.2.1.2.2).symm | exact (hq.2.2.1).symm | exact (hq.2.2.2.1).symm | exact (hq.2.2.2.2).symm))
  k_with "exec For Name Constant cons nil" => (k_here; (rename Fr _ _ _ _ => lF'); (with_unfolding_all refine' For_turns lF' ?_; k_whole))
  k_with "call ref" => (k_here; (with_reducible show wpAny _ _ (call (Value.ref 149) [Value.str (dStr _) _, Value.str ⟨#[_]⟩ _]) _ _ _); k_dflt (refine' c_asked _ _ _ _ _ _ _ _ _ (by assumption) (by assumption) (by assumption) (by assumption) _ _ _ _ _ _ _ _ _ _ _ _ _ _ _ (by k_asm) (by k_asm) (by k_asm) (by k_asm) (by k_asm) (by first | exact rfl | assumption) (by first | ktr_room | k_room) (by first | ktr_units | k_units) ?_; k_whole); intro t9 h9 tk9 F9 N9; (try dsimp only))
  k_with "call ref" => (k_here; (with_reducible show wpAny _ _ (call (Value.ref 156) [Value.ref _, Value.int _ _]) _ _ _); k_dflt (refine' c_joined _ _ _ _ _ _ _ _ _ _ _ _ _ _ _ _ ?jkg0 ?jkg1 ?jkg2 ?jkg3 ?jkg4 ?jkg5 _ _ _ _ _ _ _ _ _ _ _ _ _ _ _ _ _ ?jk1 ?jk2 ?jk3 ?jk4 ?jk5 ?jkK ?jkd ?jku ?_; (case jk1 => k_asm); (case jk2 => k_asm); (case jk3 => k_asm); (case jk4 => k_asm); (case jk5 => k_asm); (case jkK => first | exact rfl | assumption); (case jkd => first | ktr_room | k_room); (case jku => first | ktr_units | k_units); (case jkg0 => k_mem); (case jkg1 => omega); (case jkg2 => omega); (case jkg3 => exact rfl); (case jkg4 => assumption); (case jkg5 => assumption); k_whole); intro t9 h9 tk9 F9 N9; (try dsimp only))
  k_with "pyIter str" => (k_here; (with_reducible rename Fr _ _ _ _ => lF'); (with_reducible rename News _ _ _ _ => lN'); (with_unfolding_all refine' iter_cell (ports := Str.ofString "ports") ?pka lF' lN' ?pkb ?pkc ?pkd marks_are ?_ ?_); (case pkc => assumption); (case pka => with_unfolding_all rfl); (case pkb => k_mem); (case pkd => k_ne); clear lF' lN')
  w_top off
  k_go0
  all_goals try k_fold
  k_steps
  · exfalso
    rename (List.any _ _ = true) => hany
    exact any_no hany (askV_ne _ _) (askV_ne _ _) (askV_ne _ _)
  · exfalso
    refine' fin_use ?qa ?qb ?qc ?qd
    case qb => assumption
    case qd => assumption
    case qc => assumption
    case qa => assumption
  all_goals
    k_dflt (refine' CellEnd.fin ?ra ?rb ?rc ?rd ?re ?rf ?rg)
    case ra => assumption
    case rb => assumption
    case rd => k_mem
    case re => k_mem
    case rc => assumption
    case rf => intro p hp; rw [List.mem_singleton.mp hp]; k_mem
    case rg => intro y hy; dsimp only; rw [if_neg hy, if_neg hy])
end Mine
end
set_option maxRecDepth 100000 in
theorem PySem.Challenge.cw_wu0039_01_holds : PySem.Challenge.rw_wu0039_01.Holds := by
  exact Mine.law_walks
