import PyProof.Rows.All
import Wide.All
import OpenK.AllK
import Wide.FinOn
import PySem.Challenge.RW_xi0004_01
set_option Elab.async false
section
open PySem PySem.W PyProof.Rows
namespace Mine
set_option maxRecDepth 100000 in
set_option maxHeartbeats 8000000 in
open_top hd for PySem.Challenge.rw_xi0004_01
end Mine
end
section
open PySem PySem.W PySem.Spec PySem.Calls PyProof.Rows
namespace Mine
/-- what stands around a call from a def's frame -/
abbrev Ard (hn : Option Value) (dp un : Nat) (gd : Option (List Code)) (cn : Str) (cs : Scope) (L a : Addr) (ccd : Value) (cl : List (Str × Addr)) (outer : List Env) : Around :=
  { handled := hn, depth := dp, frames := some (envX cn cs L a ccd cl :: outer), guards := gd, units := un }
abbrev TopH (mean : ExcName → Option Value) (mg mb : Str → Option Value) (h : Heap) : Prop := Top hd.view_39 (looseW hd.view_39 []) mean mg mb h
/-- the call of f with vs from any def's frame, with news of objects known, ends as Ret says -/
abbrev Calls (hn : Option Value) (w : World) (f : Addr) (vs : List Value) (room : Nat) (news : List (Addr × Obj))
    (Ret : Heap → Addr → (Str → Option Value) → Shared → (Value → Shared → Prop) → Prop) : Prop :=
  ∀ (mean : ExcName → Option Value) (mg mb : Str → Option Value) (dp un : Nat) (gd : Option (List Code)) (cn : Str) (cs : Scope) (a : Addr) (ccd : Value) (cl : List (Str × Addr)) (outer : List Env) (A₀ : Around) (base h₀ : Heap) (L : Addr) (m : Str → Option Value) (s : Shared) (Q E : Value → Shared → Prop),
    Below A₀ base outer h₀ → Fr h₀ L s.heap m → (hd.heap_39 w.params).In h₀ → News h₀ L s.heap news → TopH mean mg mb h₀ → cs.kind = .function →
    dp + room < recursionLimit → un + 8 * room < cLine → Ret h₀ L m s Q →
      wpAny (model Challenge.rw_xi0004_01.row.prog w) (Ard hn dp un gd cn cs L a ccd cl outer) (call (.ref f) vs) Q E s
theorem Calls.use {hn : Option Value} {w : World} {f : Addr} {vs : List Value} {room : Nat} {news : List (Addr × Obj)} {Ret : Heap → Addr → (Str → Option Value) → Shared → (Value → Shared → Prop) → Prop}
    {mean : ExcName → Option Value} {mg mb : Str → Option Value} {dp un : Nat} {gd : Option (List Code)} {cn : Str} {cs : Scope} {a : Addr} {ccd : Value} {cl : List (Str × Addr)} {outer : List Env} {A₀ : Around} {base h₀ : Heap} {L : Addr} {m : Str → Option Value} {s : Shared} {Q E : Value → Shared → Prop}
    (B : Below A₀ base outer h₀) (F : Fr h₀ L s.heap m) (X : (hd.heap_39 w.params).In h₀) (N : News h₀ L s.heap news) (T : TopH mean mg mb h₀) (hk : cs.kind = .function)
    (C : Calls hn w f vs room news Ret) (hd : dp + room < recursionLimit) (hu : un + 8 * room < cLine) (ret : Ret h₀ L m s fun v s' => s.toks ≤ s'.toks → Q v s') :
    wpAny (model Challenge.rw_xi0004_01.row.prog w) (Ard hn dp un gd cn cs L a ccd cl outer) (call (.ref f) vs) Q E s :=
  wpAny_with_toks (Nat.le_refl _) (C mean mg mb dp un gd cn cs a ccd cl outer A₀ base h₀ L m s (fun v s' => s.toks ≤ s'.toks → Q v s') (fun e s' => s.toks ≤ s'.toks → E e s') B F X N T hk hd hu ret)
theorem news_tail {h₀ h : Heap} {L : Addr} {p : Addr × Obj} {news : List (Addr × Obj)} (N : News h₀ L h (p :: news)) : News h₀ L h news := fun q hq => N q (.tail _ hq)
theorem news_lt {h₀ h : Heap} {L : Addr} {news : List (Addr × Obj)} (N : News h₀ L h news) : ∀ p ∈ news, p.1 < h.objs.size := fun p hp => Heap.lt_size (N p hp).1
theorem lt_of_all {T : Addr} {news : List (Addr × Obj)} (h : AllLt T news) : ∀ p ∈ news, p.1 < T := by
  induction news with
  | nil => intro p hp; cases hp
  | cons q r ih =>
    intro p hp
    rcases List.mem_cons.mp hp with rfl | hp
    · exact h.1
    · exact ih h.2 p hp
abbrev tupO (q r : Int) (t1 t2 : Tok) : Obj := { cls := .type "tuple", data := .seq #[.int q t1, .int r t2] }
theorem code_defT {prog : Program} {w : World} {A A₀ : Around} {s : Shared} {K : Frag} {L : Addr} {h₀ base : Heap} {m mg mb : Str → Option Value} {news : List (Addr × Obj)} {p : Program} {loose : List Str} {mean : ExcName → Option Value}
    {env : Env} {outer : List Env} {R : Result → Shared → Prop} {name qual : Str} {params : Arguments} {body : List Stmt} {scope : Scope} {dV kV doc pm cdv ct oc : Value} {an od : Option Addr} {osl : Array (Option Value)} {f : Addr} {args : Args} {binds : List (Str × Value)}
    (B : Below A₀ base outer h₀) (F : Fr h₀ L s.heap m) (X₀ : K.In h₀) (N : News h₀ L s.heap news) (T : Top p loose mean mg mb h₀) (hA : A.frames = some (env :: outer)) (hf : env.frame = some L) (hke : env.scope.kind = .function)
    (ho : K.lookup f = some ⟨oc, od, .func (fnOf name qual params body scope dV kV doc pm an cdv ct), osl⟩) (hcd : codeIn K cdv qual = true) (hroom : A.depth < recursionLimit)
    (hbind : BindsTo s (fnOf name qual params body scope dV kV doc pm an cdv ct) args binds) (hloc : ∀ y ∈ binds, scope.names.lookup y.1 = some .local)
    (h : ∀ g L' h₁ tk, s.toks < tk → Fr h₀ L g m → Fr g L' h₁ (fun y => binds.reverse.lookup y) → News g L' h₁ news → Below A base (env :: outer) g → K.In g → Top p loose mean mg mb g →
      wpAny (model prog w) (A.deeper (envOf qual scope L' f cdv)) (execs body (envOf qual scope L' f cdv))
        (fun fl s' => LeaveK h₀ L m g R (match fl with | .ret v => v | _ => .none) s')
        (fun e s' => wpAny (model prog w) (A.deeper (envOf qual scope L' f cdv)) (leaving (envOf qual scope L' f cdv) e) (fun _ s'' => R (.error e) s'') (fun e' s'' => R (.error e') s'') s')
        { s with heap := h₁, toks := tk })
    (hco : scope.isCoroutine = false) (hgen : scope.isGenerator = false) (hk : scope.kind = .function)
    (hcell : ∀ x ∈ scope.names, x.2 ≠ .cell) (hbn : 0 < binds.length) : codeAny (model prog w) A (.call (.ref f) args) R s :=
  code_def B F X₀ N T hA hf hke ho hcd hroom hbind hloc (fun g L' h₁ a b c d e f => h g L' h₁ _ (Nat.lt_add_of_pos_right hbn) a b c d e f) hco hgen hk hcell
/-- a state's count of tokens, forgotten but for its bound -/
theorem gen_toks {α : Type} {M : Model} {A : Around} {t : Sem α} {Q : α → Shared → Prop} {E : Value → Shared → Prop} {h : Heap} {g : Array GenState} {d : Drawn} {X : Nat} {o : OsState} (k : ∀ tk, X ≤ tk → wpAny M A t Q E ⟨h, g, d, tk, o⟩) : wpAny M A t Q E ⟨h, g, d, X, o⟩ := k X (Nat.le_refl _)
section
variable {h₀ h' : Heap} {L : Addr} {m : Str → Option Value} {news news' : List (Addr × Obj)} {s : Shared} {Q : Value → Shared → Prop} {t : Tok} {tk' : Nat}
theorem ret_int {x y : Int} (hret : ∀ (t : Tok) (h' : Heap) (tk' : Nat), s.toks < t → tk' > t → Fr h₀ L h' m → News h₀ L h' news → Q (.int x t) { s with heap := h', toks := tk' }) (h1 : s.toks < t) (h2 : tk' > t) (e : y = x) (F : Fr h₀ L h' m) (N : News h₀ L h' news) : Q (.int y t) { s with heap := h', toks := tk' } := by
  subst e
  exact hret t h' tk' h1 h2 F N
theorem ret_bytes {x y : Array UInt8} (hret : ∀ (t : Tok) (h' : Heap) (tk' : Nat), Fr h₀ L h' m → News h₀ L h' news → Q (.bytes x t) { s with heap := h', toks := tk' }) (e : y = x) (F : Fr h₀ L h' m) (N : News h₀ L h' news) : Q (.bytes y t) { s with heap := h', toks := tk' } := by
  subst e
  exact hret t h' tk' F N
theorem ret_tup {x y q r : Int} {t1 t2 : Tok} {T : Addr} (hret : ∀ T t1 t2 h' tk', s.toks < t2 → Fr h₀ L h' m → News h₀ L h' ((T, tupO x y t1 t2) :: news) → (∀ p ∈ news, p.1 < T) → Q (.ref T) { s with heap := h', toks := tk' }) (ht : s.toks < t2) (e : q = x ∧ r = y) (F : Fr h₀ L h' m)
    (N : News h₀ L h' news') (hs : ∀ p ∈ (T, tupO q r t1 t2) :: news, p ∈ news') (hl : ∀ p ∈ news, p.1 < T) : Q (.ref T) { s with heap := h', toks := tk' } := by
  obtain ⟨rfl, rfl⟩ := e
  exact hret T t1 t2 h' tk' ht F (fun p hp => N p (hs p hp)) hl
theorem news_less {h : Heap} (N : News h₀ L h news') (hs : ∀ p ∈ news, p ∈ news') : News h₀ L h news := fun p hp => N p (hs p hp)
end
/-- P is owed only where the count of tokens is not behind X -/
def Since (X : Nat) (s : Shared) (P : Prop) : Prop := X ≤ s.toks → P
theorem since {α : Type} {M : Model} {A : Around} {t : Sem α} {Q : α → Shared → Prop} {E : Value → Shared → Prop} {s : Shared} (h : wpAny M A t (fun v s' => Since s.toks s' (Q v s')) E s) : wpAny M A t Q E s :=
  wpAny_with_toks (Nat.le_refl _) (wpAny_mono h (fun _ _ x => x) fun _ _ x _ => x)
end Mine
end
section
namespace Mine
/-- the letters of a number, sixteen of them, the greatest ahead -/
noncomputable def ap (n : Nat) : Array UInt8 := if h : n = 0 then #[] else ap (n / 16) ++ #[UInt8.ofNat (65 + n % 16)]
decreasing_by omega
end Mine
end
section
open PySem PySem.W PySem.Spec PySem.Calls PyProof.Rows
namespace Mine
section
local macro_rules | `(tactic| walk_at "execs cons") => `(tactic| (k_here; (fail_if_success (fail_if_success k_gentoks)); refine gen_toks ?_; intro tk' htk'))
local macro_rules | `(tactic| walk_at "execs nil") => `(tactic| (k_here; (fail_if_success (fail_if_success k_gentoks)); refine gen_toks ?_; intro tk' htk'))
local macro_rules | `(tactic| walk_at "inplaceOp Mult int int") => `(tactic| (plain_pass; k_here; with_reducible refine P.imul_int (hm := IntMulOk.of_left (intBits_le_iff.mpr (by assumption))) ?_))
local macro_rules | `(tactic| walk_at "inplaceOp LShift int int") => `(tactic| (plain_pass; k_here; with_reducible refine ilshift_int (by assumption) (shift_fits (by assumption) (by assumption)) ?_))
theorem shift_fits {x y : Int} (h : x.natAbs < 2 ^ 64) (hy : y < 200) : (Builtin.Int.intBits x : Int) + y ≤ 2 ^ 27 := by
  have := intBits_le_iff.mpr h
  omega
set_option maxRecDepth 100000 in
set_option maxHeartbeats 8000000 in
theorem c_imod (hn : Option Value) (w : World) (news : List (Addr × Obj)) (x y : Int) (tx ty : Tok) (hy : y ≠ 0) :
    Calls hn w 63 [.int x tx, .int y ty] 2 news fun h₀ L m s Q => ∀ t h' tk', s.toks < t → tk' > t → Fr h₀ L h' m → News h₀ L h' news → Q (.int (Int.fmod x y) t) { s with heap := h', toks := tk' } := by
  intro mean mg mb dp un gd cn cs a ccd cl outer A₀ base h₀ L m s Q E B F X N T hk hdp hun hret
  revert X; k_fill; k_with_none; w_top off; intro X
  refine wpAny_call ?_
  k_dflt (refine' code_defT ?k1 ?k2 ?k3 ?k4 ?k5 ?kA ?kF ?kK ?k6 ?k7 ?k8 ?k9 ?kB ?_ ?c2 ?c3 ?c4 ?c5 ?c6; (case kA => exact rfl); (case kF => exact rfl); (case kK => assumption); (case k1 => k_asm); (case k2 => k_asm); (case k3 => k_asm); (case k4 => k_asm); (case k5 => k_asm); (case k6 => k_is); (case k7 => k_is); (case k8 => ktr_room); (case k9 => exact BindsTo.of_eq rfl); (case c5 => decide); (case kB => exact locs rfl); (case c2 => exact rfl); (case c3 => exact rfl); (case c4 => exact rfl); (case c6 => exact Nat.zero_lt_succ _); k_whole; intro g' L' h' tk' htk' FG' F' N' B' X' T'; (try dsimp only); (try k_fold))
  k_steps
  all_goals exact ret_int hret (by (try dsimp only); omega) (by (try dsimp only); omega) (rfl) (by k_asm) (by k_asm)
set_option maxRecDepth 100000 in
set_option maxHeartbeats 8000000 in
theorem c_iadd (hn : Option Value) (w : World) (news : List (Addr × Obj)) (x y : Int) (tx ty : Tok)  :
    Calls hn w 49 [.int x tx, .int y ty] 2 news fun h₀ L m s Q => ∀ t h' tk', s.toks < t → tk' > t → Fr h₀ L h' m → News h₀ L h' news → Q (.int (x + y) t) { s with heap := h', toks := tk' } := by
  intro mean mg mb dp un gd cn cs a ccd cl outer A₀ base h₀ L m s Q E B F X N T hk hdp hun hret
  revert X; k_fill; k_with_none; w_top off; intro X
  refine wpAny_call ?_
  k_dflt (refine' code_defT ?k1 ?k2 ?k3 ?k4 ?k5 ?kA ?kF ?kK ?k6 ?k7 ?k8 ?k9 ?kB ?_ ?c2 ?c3 ?c4 ?c5 ?c6; (case kA => exact rfl); (case kF => exact rfl); (case kK => assumption); (case k1 => k_asm); (case k2 => k_asm); (case k3 => k_asm); (case k4 => k_asm); (case k5 => k_asm); (case k6 => k_is); (case k7 => k_is); (case k8 => ktr_room); (case k9 => exact BindsTo.of_eq rfl); (case c5 => decide); (case kB => exact locs rfl); (case c2 => exact rfl); (case c3 => exact rfl); (case c4 => exact rfl); (case c6 => exact Nat.zero_lt_succ _); k_whole; intro g' L' h' tk' htk' FG' F' N' B' X' T'; (try dsimp only); (try k_fold))
  k_steps
  all_goals exact ret_int hret (by (try dsimp only); omega) (by (try dsimp only); omega) (rfl) (by k_asm) (by k_asm)
set_option maxRecDepth 100000 in
set_option maxHeartbeats 8000000 in
theorem c_isub (hn : Option Value) (w : World) (news : List (Addr × Obj)) (x y : Int) (tx ty : Tok)  :
    Calls hn w 77 [.int x tx, .int y ty] 2 news fun h₀ L m s Q => ∀ t h' tk', s.toks < t → tk' > t → Fr h₀ L h' m → News h₀ L h' news → Q (.int (x - y) t) { s with heap := h', toks := tk' } := by
  intro mean mg mb dp un gd cn cs a ccd cl outer A₀ base h₀ L m s Q E B F X N T hk hdp hun hret
  revert X; k_fill; k_with_none; w_top off; intro X
  refine wpAny_call ?_
  k_dflt (refine' code_defT ?k1 ?k2 ?k3 ?k4 ?k5 ?kA ?kF ?kK ?k6 ?k7 ?k8 ?k9 ?kB ?_ ?c2 ?c3 ?c4 ?c5 ?c6; (case kA => exact rfl); (case kF => exact rfl); (case kK => assumption); (case k1 => k_asm); (case k2 => k_asm); (case k3 => k_asm); (case k4 => k_asm); (case k5 => k_asm); (case k6 => k_is); (case k7 => k_is); (case k8 => ktr_room); (case k9 => exact BindsTo.of_eq rfl); (case c5 => decide); (case kB => exact locs rfl); (case c2 => exact rfl); (case c3 => exact rfl); (case c4 => exact rfl); (case c6 => exact Nat.zero_lt_succ _); k_whole; intro g' L' h' tk' htk' FG' F' N' B' X' T'; (try dsimp only); (try k_fold))
  k_steps
  all_goals exact ret_int hret (by (try dsimp only); omega) (by (try dsimp only); omega) (rfl) (by k_asm) (by k_asm)
set_option maxRecDepth 100000 in
set_option maxHeartbeats 8000000 in
theorem c_imul (hn : Option Value) (w : World) (news : List (Addr × Obj)) (x y : Int) (tx ty : Tok) (hx : x.natAbs < 2 ^ 64) :
    Calls hn w 70 [.int x tx, .int y ty] 2 news fun h₀ L m s Q => ∀ t h' tk', s.toks < t → tk' > t → Fr h₀ L h' m → News h₀ L h' news → Q (.int (x * y) t) { s with heap := h', toks := tk' } := by
  intro mean mg mb dp un gd cn cs a ccd cl outer A₀ base h₀ L m s Q E B F X N T hk hdp hun hret
  revert X; k_fill; k_with_none; w_top off; intro X
  refine wpAny_call ?_
  k_dflt (refine' code_defT ?k1 ?k2 ?k3 ?k4 ?k5 ?kA ?kF ?kK ?k6 ?k7 ?k8 ?k9 ?kB ?_ ?c2 ?c3 ?c4 ?c5 ?c6; (case kA => exact rfl); (case kF => exact rfl); (case kK => assumption); (case k1 => k_asm); (case k2 => k_asm); (case k3 => k_asm); (case k4 => k_asm); (case k5 => k_asm); (case k6 => k_is); (case k7 => k_is); (case k8 => ktr_room); (case k9 => exact BindsTo.of_eq rfl); (case c5 => decide); (case kB => exact locs rfl); (case c2 => exact rfl); (case c3 => exact rfl); (case c4 => exact rfl); (case c6 => exact Nat.zero_lt_succ _); k_whole; intro g' L' h' tk' htk' FG' F' N' B' X' T'; (try dsimp only); (try k_fold))
  k_steps
  all_goals exact ret_int hret (by (try dsimp only); omega) (by (try dsimp only); omega) (rfl) (by k_asm) (by k_asm)
set_option maxRecDepth 100000 in
set_option maxHeartbeats 8000000 in
theorem c_ilshift (hn : Option Value) (w : World) (news : List (Addr × Obj)) (x y : Int) (tx ty : Tok) (hx : x.natAbs < 2 ^ 64) (hy0 : 0 ≤ y) (hy : y < 200) :
    Calls hn w 56 [.int x tx, .int y ty] 2 news fun h₀ L m s Q => ∀ t h' tk', s.toks < t → tk' > t → Fr h₀ L h' m → News h₀ L h' news → Q (.int (x * 2 ^ y.toNat) t) { s with heap := h', toks := tk' } := by
  intro mean mg mb dp un gd cn cs a ccd cl outer A₀ base h₀ L m s Q E B F X N T hk hdp hun hret
  revert X; k_fill; k_with_none; w_top off; intro X
  refine wpAny_call ?_
  k_dflt (refine' code_defT ?k1 ?k2 ?k3 ?k4 ?k5 ?kA ?kF ?kK ?k6 ?k7 ?k8 ?k9 ?kB ?_ ?c2 ?c3 ?c4 ?c5 ?c6; (case kA => exact rfl); (case kF => exact rfl); (case kK => assumption); (case k1 => k_asm); (case k2 => k_asm); (case k3 => k_asm); (case k4 => k_asm); (case k5 => k_asm); (case k6 => k_is); (case k7 => k_is); (case k8 => ktr_room); (case k9 => exact BindsTo.of_eq rfl); (case c5 => decide); (case kB => exact locs rfl); (case c2 => exact rfl); (case c3 => exact rfl); (case c4 => exact rfl); (case c6 => exact Nat.zero_lt_succ _); k_whole; intro g' L' h' tk' htk' FG' F' N' B' X' T'; (try dsimp only); (try k_fold))
  k_steps
  all_goals exact ret_int hret (by (try dsimp only); omega) (by (try dsimp only); omega) (rfl) (by k_asm) (by k_asm)
end
end Mine
end
section
open PySem PySem.W PySem.Spec PySem.Calls PyProof.Rows
namespace Mine
theorem ap_zero : ap 0 = #[] := by unfold ap; simp
theorem ap_pos {n : Nat} (h : n ≠ 0) : ap n = ap (n / 16) ++ #[UInt8.ofNat (65 + n % 16)] := by
  conv => lhs; unfold ap
  simp [h]
theorem ap_start {x : Int} (h : 0 ≤ x) : 0 ≤ (if x < 0 then -x else x) ∧ (if x < 0 then -x else x) ≤ x ∧ ap (if x < 0 then -x else x).toNat ++ #[] = ap x.toNat := by
  rw [if_neg (by omega)]; exact ⟨h, Int.le_refl _, by simp⟩
theorem ap_size : ∀ (k n : Nat), n < 16 ^ k → (ap n).size ≤ k
  | 0, n, h => by
    have : n = 0 := by simpa using h
    subst this; rw [ap_zero]; simp
  | k + 1, n, h => by
    by_cases hn : n = 0
    · subst hn; rw [ap_zero]; simp
    · rw [ap_pos hn]
      have := ap_size k (n / 16) (by rw [Nat.pow_succ] at h; omega)
      simp; omega
theorem ap_small {n : Nat} {x : Int} {v : Array UInt8} (h : ap n ++ v = ap x.toNat) (h1 : x < 2 ^ 200) : v.size ≤ 50 := by
  have h2 := ap_size 50 x.toNat (by
    have e : (16 : Nat) ^ 50 = 2 ^ 200 := by decide
    rw [e]
    omega)
  have h3 := congrArg Array.size h
  rw [Array.size_append] at h3
  omega
theorem add_small {n : Nat} {x : Int} {a : UInt8} {v : Array UInt8} (h : ap n ++ v = ap x.toNat) (h1 : x < 2 ^ 200) : (#[a] : Array UInt8).size + v.size ≤ 16777216 := by
  have := ap_small h h1
  simp; omega
theorem ap_turn {n x : Int} {v : Array UInt8} (h0 : 0 ≤ n) (h1 : n ≤ x) (hr : ap n.toNat ++ v = ap x.toNat) (hn : n ≠ 0) :
    0 ≤ n.fdiv 16 ∧ n.fdiv 16 ≤ x ∧ ap (n.fdiv 16).toNat ++ (#[UInt8.ofNat (65 + (n.fmod 16).toNat)] ++ v) = ap x.toNat := by
  obtain ⟨k, rfl⟩ := Int.eq_ofNat_of_zero_le h0
  have e1 : ((k : Int).fdiv 16) = ((k / 16 : Nat) : Int) := by rw [Int.fdiv_eq_ediv_of_nonneg _ (by decide)]; norm_cast
  have e2 : ((k : Int).fmod 16) = ((k % 16 : Nat) : Int) := by rw [Int.fmod_eq_emod_of_nonneg _ (by decide)]; norm_cast
  rw [e1, e2]
  refine ⟨by omega, by omega, ?_⟩
  rw [← hr, ← Array.append_assoc]
  simp only [Int.toNat_natCast]
  rw [← ap_pos (n := k) (by omega)]
theorem ap_meas {n : Int} (h0 : 0 ≤ n) (hn : n ≠ 0) : (n.fdiv 16).toNat < n.toNat := by
  rw [Int.fdiv_eq_ediv_of_nonneg _ (by decide)]; omega
theorem ap_done {n x : Int} {v : Array UInt8} (hr : ap n.toNat ++ v = ap x.toNat) (hn : n = 0) : v = ap x.toNat := by
  subst hn; rw [← hr]; simp [ap_zero]
set_option maxRecDepth 100000 in
theorem picked_AP : ∀ k : Fin 16, KBy.picked #[65, 66, 67, 68, 69, 70, 71, 72, 73, 74, 75, 76, 77, 78, 79, 80] (some ((k.val : Nat) : Int)) (some ((k.val : Nat) + 1 : Int)) = #[UInt8.ofNat (65 + k.val)] := by decide +kernel
theorem slice_AP {prog : Program} {w : World} {A : Around} {E : Value → Shared → Prop} {s : Shared} {value slice : PySem.Expr} {t tl tu : Tok} {h₀ : Heap} {L : Addr} {m : PySem.Str → Option Value} {news : List (Addr × Obj)} {Q : Value → Shared → Prop} {n : Int}
    (h0 : 0 ≤ n) (h1 : n < 16) (hF : Fr h₀ L s.heap m) (hN : News h₀ L s.heap news)
    (h : ∀ h' t' k, Fr h₀ L h' m → News h₀ L h' news → Q (.bytes #[UInt8.ofNat (65 + n.toNat)] t') { s with heap := h', toks := k })
    (hs : subscripted slice false (.bytes #[65, 66, 67, 68, 69, 70, 71, 72, 73, 74, 75, 76, 77, 78, 79, 80] t) (.ref s.heap.objs.size) = operate [.ref s.heap.objs.size, .bytes #[65, 66, 67, 68, 69, 70, 71, 72, 73, 74, 75, 76, 77, 78, 79, 80] t] (getItem (.bytes #[65, 66, 67, 68, 69, 70, 71, 72, 73, 74, 75, 76, 77, 78, 79, 80] t) (.ref s.heap.objs.size)) := by with_unfolding_all rfl)
    (ht : ∀ r, letTemporaryGo value (.bytes #[65, 66, 67, 68, 69, 70, 71, 72, 73, 74, 75, 76, 77, 78, 79, 80] t) r = pure () := by intro _; with_unfolding_all rfl) :
    wpAny (model prog w) A (subscriptTail value slice (.bytes #[65, 66, 67, 68, 69, 70, 71, 72, 73, 74, 75, 76, 77, 78, 79, 80] t) (.ref s.heap.objs.size)) Q E { s with heap := s.heap.push { cls := .type "slice", data := .fields #[.int n tl, .int (n + 1) tu, .none] } } := by
  obtain ⟨k, rfl⟩ : ∃ k : Fin 16, n = ((k.val : Nat) : Int) := ⟨⟨n.toNat, by omega⟩, by simp; omega⟩
  refine KBc.slice_K hF hN rfl (.int _ _) (.int _ _) (by decide) (fun h' t' k' F' N' _ => ?_) hs ht
  rw [picked_AP]
  simpa using h h' t' k' F' N'
section
local macro_rules | `(tactic| walk_at "exec While Name cons nil") => `(tactic| (plain_pass; k_extra "exec While Name cons nil"))
local macro_rules | `(tactic| walk_at "subscriptTail") => `(tactic| (plain_pass; k_here; (with_reducible show wpAny _ _ (subscriptTail _ (Expr.Slice _ _ none _) (Value.bytes #[65, 66, 67, 68, 69, 70, 71, 72, 73, 74, 75, 76, 77, 78, 79, 80] _) (Value.ref _)) _ _ _); (with_reducible rename Fr _ _ _ _ => F'); (with_reducible rename News _ _ _ _ => N'); (refine slice_AP (s := ⟨_, _, _, _, _⟩) (Int.fmod_nonneg (by assumption) (by decide)) (Int.fmod_lt_of_pos _ (by decide)) F' N' ?_; intro h' t' k' F' N')))
local macro_rules | `(tactic| walk_at "binaryOp Add bytes bytes") => `(tactic| (plain_pass; k_here; (refine KBy.add_bytes (add_small (by assumption) (by assumption)) ?_); intro _ _))
set_option maxRecDepth 100000 in
set_option maxHeartbeats 8000000 in
theorem c_Int2AP (w : World) (news : List (Addr × Obj)) (x : Int) (tx : Tok) (h0 : 0 ≤ x) (h1 : x < 2 ^ 200) :
    Calls none w 35 [.int x tx] 2 news fun h₀ L m s Q => ∀ t h' tk', Fr h₀ L h' m → News h₀ L h' news → Q (.bytes (ap x.toNat) t) { s with heap := h', toks := tk' } := by
  intro mean mg mb dp un gd cn cs a ccd cl outer A₀ base h₀ L m s Q E B F X N T hk hdp hun hret
  revert X; k_fill; k_with_none; w_top off; intro X
  k_with "exec While Name cons nil" => k_while (fun script n v => 0 ≤ n ∧ n ≤ x ∧ ap n.toNat ++ v = ap x.toNat) (fun script n v => n.toNat) "num" "val"
  k_with "state" => exact ap_start h0
  k_with "state" => exact ap_turn (by assumption) (by assumption) (by assumption) (by assumption)
  k_with "measure" => exact ap_meas (by assumption) (by assumption)
  refine wpAny_call ?_
  k_dflt ktr_enter
  k_steps
  exact ret_bytes hret (ap_done (by assumption) (by assumption)) (by k_asm) (by k_asm)
end
end Mine
end
section
open PySem PySem.W PyProof.Rows
namespace Mine
theorem and_dbl (x y : Int) : Builtin.bitAnd (2 * x) y = 2 * Builtin.bitAnd x (y / 2) := by
  rw [kbt_halves]
  have e : 2 * x / 2 = x := by omega
  rw [e, if_neg (by omega)]; omega
theorem and_zero (x : Int) : Builtin.bitAnd x 0 = 0 := by
  have := bitAnd_range x (y := 0) (Int.le_refl _)
  omega
theorem or_16 (k y : Int) (h0 : 0 ≤ y) (h1 : y < 16) : Builtin.bitOr (k * 2 ^ Int.toNat 4) y = 16 * k + y := by
  have e : k * 2 ^ Int.toNat 4 = 2 * (2 * (2 * (2 * k))) := by
    have : (2 : Int) ^ Int.toNat 4 = 16 := by decide
    rw [this]; omega
  rw [bitOr_and, e, and_dbl, and_dbl, and_dbl, and_dbl]
  have e2 : y / 2 / 2 / 2 / 2 = 0 := by omega
  rw [e2, and_zero]; omega
theorem two4 : (2 : Int) ^ Int.toNat 4 = 16 := by decide
/-- the word of the mending loop -/
def DivW (N b q r : Int) : Prop := q * b + r = N ∧ r < b ∧ -256 ≤ r
theorem div_start1 {x y b b1 b2 : Int} (hb : 128 ≤ b) (hb' : b < 256) (h1 : b1 = b / 16) (h2 : b2 = b % 16) (hx0 : 0 ≤ x) (hx : x < b) (hy0 : 0 ≤ y) (hy : y < 16) (hq : x.fdiv (2 ^ Int.toNat 4) = b1) :
    DivW (x * 16 + y) b (1 * 2 ^ Int.toNat 4 - 1) (Builtin.bitOr ((x - b1 * 2 ^ Int.toNat 4 + b1) * 2 ^ Int.toNat 4) y - (1 * 2 ^ Int.toNat 4 - 1) * b2) := by
  rw [or_16 _ _ hy0 hy]
  rw [two4] at hq ⊢
  rw [Int.fdiv_eq_ediv_of_nonneg _ (by decide)] at hq
  unfold DivW
  omega
theorem div_start2 {x y b b1 b2 : Int} (hb : 128 ≤ b) (hb' : b < 256) (h1 : b1 = b / 16) (h2 : b2 = b % 16) (hx0 : 0 ≤ x) (hx : x < b) (hy0 : 0 ≤ y) (hy : y < 16) (hq : x.fdiv (2 ^ Int.toNat 4) ≠ b1) :
    DivW (x * 16 + y) b (x.fdiv b1) (Builtin.bitOr (x.fmod b1 * 2 ^ Int.toNat 4) y - x.fdiv b1 * b2) := by
  rw [or_16 _ _ hy0 hy]
  rw [two4] at hq
  rw [Int.fdiv_eq_ediv_of_nonneg _ (by decide)] at hq
  have hb1 : 8 ≤ b1 := by omega
  rw [Int.fdiv_eq_ediv_of_nonneg _ (by omega), Int.fmod_eq_emod_of_nonneg _ (by omega)]
  have e := Int.mul_ediv_add_emod x b1
  have m0 := Int.emod_nonneg x (show b1 ≠ 0 by omega)
  have m1 := Int.emod_lt_of_pos x (show 0 < b1 by omega)
  have q0 : 0 ≤ x / b1 := Int.ediv_nonneg hx0 (by omega)
  have q1 : x / b1 ≤ 15 := by
    have : x / b1 < 16 := Int.ediv_lt_of_lt_mul (by omega) (by omega)
    omega
  generalize x / b1 = q at *
  generalize x % b1 = r at *
  have hbb : b = 16 * b1 + b2 := by omega
  have p0 : 0 ≤ q * b2 := Int.mul_nonneg q0 (by omega)
  have p1 : q * b2 ≤ 15 * 15 := Int.mul_le_mul q1 (by omega) (by omega) (by omega)
  have e2 : q * b = 16 * (b1 * q) + q * b2 := by
    rw [hbb, Int.mul_add, Int.mul_comm b1 q, ← Int.mul_assoc, Int.mul_comm q 16, Int.mul_assoc]
  unfold DivW
  omega
theorem div_turn {N b q r : Int} (h : DivW N b q r) (hr : r < 0) (hb : 128 ≤ b) : DivW N b (q - 1) (r + b) := by
  obtain ⟨h1, h2, h3⟩ := h
  unfold DivW
  rw [Int.sub_mul]; omega
theorem div_end {N b q r : Int} (h : DivW N b q r) (hr : ¬ r < 0) (hb : 128 ≤ b) : q = N / b ∧ r = N % b := by
  obtain ⟨h1, h2, h3⟩ := h
  have := (Int.ediv_emod_unique (a := N) (b := b) (q := q) (r := r) (by omega)).mpr ⟨by rw [Int.mul_comm]; omega, by omega, h2⟩
  exact ⟨this.1.symm, this.2.symm⟩
theorem div_end1 {N b q r : Int} (h : DivW N b q r) (h1 : r < 0) (hr : ¬ r + b < 0) (hb : 128 ≤ b) : q - 1 = N / b ∧ r + b = N % b := div_end (div_turn h h1 hb) hr hb
theorem div_end2 {N b q r : Int} (h : DivW N b q r) (h1 : r < 0) (h2 : r + b < 0) (hr : ¬ r + b + b < 0) (hb : 128 ≤ b) : q - 1 - 1 = N / b ∧ r + b + b = N % b := div_end (div_turn (div_turn h h1 hb) h2 hb) hr hb
theorem div_out {N b q r : Int} {P : Prop} (h : DivW N b q r) (h3 : r + b + b < 0) (hb : 128 ≤ b) : P := by
  have := h.2.2
  omega
theorem whlIf_no {c : Prop} {inst : Decidable c} {T F : Prop} (h : ¬ c) (f : ¬ c → F) : WhlIf (decide c) T F := by
  unfold WhlIf
  rw [if_neg (by simpa using h)]; exact f h
theorem whlIf_split {c : Prop} {inst : Decidable c} {T F : Prop} (h1 : c → T) (h2 : ¬ c → F) : WhlIf (decide c) T F := by
  unfold WhlIf
  by_cases h : c
  · rw [if_pos (decide_eq_true h)]; exact h1 h
  · rw [if_neg (by simpa using h)]; exact h2 h
end Mine
end
section
open PySem PySem.W PySem.Spec PySem.Calls PyProof.Rows
namespace Mine
section
local macro_rules | `(tactic| walk_at "execs cons") => `(tactic| (k_here; (fail_if_success (fail_if_success k_gentoks)); refine gen_toks ?_; intro tk' htk'; (try dsimp only at htk')))
local macro_rules | `(tactic| walk_at "execs nil") => `(tactic| (k_here; (fail_if_success (fail_if_success k_gentoks)); refine gen_toks ?_; intro tk' htk'; (try dsimp only at htk')))
set_option maxRecDepth 100000 in
set_option maxHeartbeats 8000000 in
theorem c_div2n1n (w : World) (news : List (Addr × Obj)) (x b1 : Int) (tx tb1 tn : Tok) (h1 : 8 ≤ b1) (h2 : b1 < 16) (hx0 : 0 ≤ x) (hx : x < 256) :
    Calls none w 21 [.int x tx, .int b1 tb1, .int 4 tn] 2 news fun h₀ L m s Q =>
      ∀ T t1 t2 h' tk', s.toks < t2 → Fr h₀ L h' m → News h₀ L h' ((T, tupO (x.fdiv b1) (x.fmod b1) t1 t2) :: news) → (∀ p ∈ news, p.1 < T) → Q (.ref T) { s with heap := h', toks := tk' } := by
  intro mean mg mb dp un gd cn cs a ccd cl outer A₀ base h₀ L m s Q E B F X N T hk hdp hun hret
  revert X; k_fill; k_with_none; w_top off; intro X
  have hbits : Builtin.Int.intBits x ≤ 8 := intBits_le_iff.mpr (by omega)
  have hb0 : b1 ≠ 0 := by omega
  refine wpAny_call ?_
  k_dflt (refine' code_defT ?k1 ?k2 ?k3 ?k4 ?k5 ?kA ?kF ?kK ?k6 ?k7 ?k8 ?k9 ?kB ?_ ?c2 ?c3 ?c4 ?c5 ?c6; (case kA => exact rfl); (case kF => exact rfl); (case kK => assumption); (case k1 => k_asm); (case k2 => k_asm); (case k3 => k_asm); (case k4 => k_asm); (case k5 => k_asm); (case k6 => k_is); (case k7 => k_is); (case k8 => ktr_room); (case k9 => exact BindsTo.of_eq rfl); (case c5 => decide); (case kB => exact locs rfl); (case c2 => exact rfl); (case c3 => exact rfl); (case c4 => exact rfl); (case c6 => exact Nat.zero_lt_succ _); k_whole; intro g' L' h' tk' htk' FG' F' N' B' X' T'; (try dsimp only); (try k_fold))
  k_steps
  (refine' ret_tup hret ?ht (⟨rfl, rfl⟩) ?kF ?kN ?hs ?hl; (case kF => k_asm); (case kN => k_asm); (case hs => exact fun _ h => h); (case hl => exact news_lt (by assumption)); (case ht => ((try dsimp only); omega)))
local macro_rules | `(tactic| walk_at "WhlIf") => `(tactic| (k_dflt (first | (refine' whlIf_no ?c ?_; (case c => k_extra "out"); intro hw') | (refine whlIf_split ?_ ?_ <;> intro hw'))))
local macro_rules | `(tactic| walk_at "exec While Compare cons nil") => `(tactic| (k_here; k_dflt (refine whl_start 3 ?_)))
local macro_rules | `(tactic| walk_at "call ref") => `(tactic| (plain_pass; k_here; (with_reducible show wpAny _ _ (call (Value.ref 21) _) _ _ _); (refine' Calls.use ?k1 ?k2 ?k3 ?k4 ?k5 ?kK (c_div2n1n _ _ _ _ _ _ _ ?z1 ?z2 ?z3 ?z4) ?kd ?ku ?_; (case k1 => k_asm); (case k2 => k_asm); (case k3 => k_asm); (case k4 => k_asm); (case k5 => k_asm); (case kK => first | exact rfl | assumption); (case z1 => omega); (case z2 => omega); (case z3 => omega); (case z4 => omega); (case kd => ktr_room); (case ku => ktr_units); k_whole; intro T' t1' t2' h' tk' ht' F' N' l1 htk'; (try dsimp only at ht' htk'))))
set_option maxRecDepth 100000 in
set_option maxHeartbeats 8000000 in
theorem c_div3n2n (w : World) (news : List (Addr × Obj)) (x y b b1 b2 : Int) (tx ty tb tb1 tb2 tn : Tok) (hb : 128 ≤ b) (hb' : b < 256) (h1 : b1 = b / 16) (h2 : b2 = b % 16) (hx0 : 0 ≤ x) (hx : x < b) (hy0 : 0 ≤ y) (hy : y < 16) :
    Calls none w 28 [.int x tx, .int y ty, .int b tb, .int b1 tb1, .int b2 tb2, .int 4 tn] 4 news fun h₀ L m s Q =>
      ∀ T t1 t2 h' tk', s.toks < t2 → Fr h₀ L h' m → News h₀ L h' ((T, tupO ((x * 16 + y) / b) ((x * 16 + y) % b) t1 t2) :: news) → (∀ p ∈ news, p.1 < T) → Q (.ref T) { s with heap := h', toks := tk' } := by
  intro mean mg mb dp un gd cn cs a ccd cl outer A₀ base h₀ L m s Q E B F X N T hk hdp hun hret
  revert X; k_fill; k_with_none; w_top off; intro X
  have hs1 := fun q => div_start1 (x := x) hb hb' h1 h2 hx0 hx hy0 hy q
  have hs2 := fun q => div_start2 (x := x) hb hb' h1 h2 hx0 hx hy0 hy q
  k_with "out" => exact fun q => div_out (hs1 (by assumption)) q hb
  k_with "out" => exact fun q => div_out (hs2 (by assumption)) q hb
  refine wpAny_call ?_
  k_dflt (refine' code_defT ?k1 ?k2 ?k3 ?k4 ?k5 ?kA ?kF ?kK ?k6 ?k7 ?k8 ?k9 ?kB ?_ ?c2 ?c3 ?c4 ?c5 ?c6; (case kA => exact rfl); (case kF => exact rfl); (case kK => assumption); (case k1 => k_asm); (case k2 => k_asm); (case k3 => k_asm); (case k4 => k_asm); (case k5 => k_asm); (case k6 => k_is); (case k7 => k_is); (case k8 => ktr_room); (case k9 => exact BindsTo.of_eq rfl); (case c5 => decide); (case kB => exact locs rfl); (case c2 => exact rfl); (case c3 => exact rfl); (case c4 => exact rfl); (case c6 => exact Nat.zero_lt_succ _); k_whole; intro g' L' h' tk' htk' FG' F' N' B' X' T'; (try dsimp only); (try k_fold))
  k_steps
  all_goals first
    | (refine' ret_tup hret ?ht (div_end (hs1 (by assumption)) (by assumption) hb) ?kF ?kN ?hs ?hl; (case kF => k_asm); (case kN => k_asm); (case hs => (intro p hp; first | exact hp | (cases hp with | head => k_mem | tail _ hp => first | exact hp | exact .tail _ hp | exact .tail _ (.tail _ hp) | exact .tail _ (.tail _ (.tail _ hp)) | exact .tail _ (.tail _ (.tail _ (.tail _ hp))) | exact .tail _ (List.mem_append.mpr (.inl hp)) | exact .tail _ (.tail _ (List.mem_append.mpr (.inl hp)))))); (case hl => exact lt_of_all (And.right (by assumption))); (case ht => ((try dsimp only); omega)))
    | (refine' ret_tup hret ?ht (div_end1 (hs1 (by assumption)) (by assumption) (by assumption) hb) ?kF ?kN ?hs ?hl; (case kF => k_asm); (case kN => k_asm); (case hs => (intro p hp; first | exact hp | (cases hp with | head => k_mem | tail _ hp => first | exact hp | exact .tail _ hp | exact .tail _ (.tail _ hp) | exact .tail _ (.tail _ (.tail _ hp)) | exact .tail _ (.tail _ (.tail _ (.tail _ hp))) | exact .tail _ (List.mem_append.mpr (.inl hp)) | exact .tail _ (.tail _ (List.mem_append.mpr (.inl hp)))))); (case hl => exact lt_of_all (And.right (by assumption))); (case ht => ((try dsimp only); omega)))
    | (refine' ret_tup hret ?ht (div_end2 (hs1 (by assumption)) (by assumption) (by assumption) (by assumption) hb) ?kF ?kN ?hs ?hl; (case kF => k_asm); (case kN => k_asm); (case hs => (intro p hp; first | exact hp | (cases hp with | head => k_mem | tail _ hp => first | exact hp | exact .tail _ hp | exact .tail _ (.tail _ hp) | exact .tail _ (.tail _ (.tail _ hp)) | exact .tail _ (.tail _ (.tail _ (.tail _ hp))) | exact .tail _ (List.mem_append.mpr (.inl hp)) | exact .tail _ (.tail _ (List.mem_append.mpr (.inl hp)))))); (case hl => exact lt_of_all (And.right (by assumption))); (case ht => ((try dsimp only); omega)))
    | (refine' ret_tup hret ?ht (div_end (hs2 (by assumption)) (by assumption) hb) ?kF ?kN ?hs ?hl; (case kF => k_asm); (case kN => k_asm); (case hs => (intro p hp; first | exact hp | (cases hp with | head => k_mem | tail _ hp => first | exact hp | exact .tail _ hp | exact .tail _ (.tail _ hp) | exact .tail _ (.tail _ (.tail _ hp)) | exact .tail _ (.tail _ (.tail _ (.tail _ hp))) | exact .tail _ (List.mem_append.mpr (.inl hp)) | exact .tail _ (.tail _ (List.mem_append.mpr (.inl hp)))))); (case hl => exact lt_of_all (And.right (by assumption))); (case ht => ((try dsimp only); omega)))
    | (refine' ret_tup hret ?ht (div_end1 (hs2 (by assumption)) (by assumption) (by assumption) hb) ?kF ?kN ?hs ?hl; (case kF => k_asm); (case kN => k_asm); (case hs => (intro p hp; first | exact hp | (cases hp with | head => k_mem | tail _ hp => first | exact hp | exact .tail _ hp | exact .tail _ (.tail _ hp) | exact .tail _ (.tail _ (.tail _ hp)) | exact .tail _ (.tail _ (.tail _ (.tail _ hp))) | exact .tail _ (List.mem_append.mpr (.inl hp)) | exact .tail _ (.tail _ (List.mem_append.mpr (.inl hp)))))); (case hl => exact lt_of_all (And.right (by assumption))); (case ht => ((try dsimp only); omega)))
    | (refine' ret_tup hret ?ht (div_end2 (hs2 (by assumption)) (by assumption) (by assumption) (by assumption) hb) ?kF ?kN ?hs ?hl; (case kF => k_asm); (case kN => k_asm); (case hs => (intro p hp; first | exact hp | (cases hp with | head => k_mem | tail _ hp => first | exact hp | exact .tail _ hp | exact .tail _ (.tail _ hp) | exact .tail _ (.tail _ (.tail _ hp)) | exact .tail _ (.tail _ (.tail _ (.tail _ hp))) | exact .tail _ (List.mem_append.mpr (.inl hp)) | exact .tail _ (.tail _ (List.mem_append.mpr (.inl hp)))))); (case hl => exact lt_of_all (And.right (by assumption))); (case ht => ((try dsimp only); omega)))
    | exact div_out (hs1 (by assumption)) (by assumption) hb
    | exact div_out (hs2 (by assumption)) (by assumption) hb
end
end Mine
end
section
namespace Mine
noncomputable def placesGo (b : Nat) : Nat → Nat → Nat → Nat
  | 0, _, p => p
  | f + 1, s, p => if s * 2 % b = 1 ∨ s * 2 % b = b - 1 then p else placesGo b f (s * 2 % b) (p + 1)
/-- how many places: the least power of two that leaves 1 or b - 1 -/
noncomputable def places (b : Nat) : Nat := placesGo b b 1 1
noncomputable def placesOk (b : Nat) : Bool :=
  let p := places b
  decide (1 ≤ p) && decide (p ≤ 125) && (2 ^ p % b == 1 || 2 ^ p % b == b - 1) && (List.range p).all fun j => j == 0 || (2 ^ j % b != 1 && 2 ^ j % b != b - 1)
theorem places_all : (List.range 64).all (fun c => placesOk (129 + 2 * c)) = true := by decide +kernel
theorem places_ok {b : Nat} (h0 : 129 ≤ b) (h1 : b ≤ 255) (h2 : b % 2 = 1) : placesOk b = true := by
  have := List.all_eq_true.mp places_all ((b - 129) / 2) (List.mem_range.mpr (by omega))
  have e : 129 + 2 * ((b - 129) / 2) = b := by omega
  rwa [e] at this
structure Base (b : Nat) : Prop where
  lo : 129 ≤ b
  hi : b ≤ 255
  odd : b % 2 = 1
theorem Base.pos {b : Nat} (B : Base b) : 1 ≤ places b ∧ places b ≤ 125 := by
  have := places_ok B.lo B.hi B.odd
  unfold placesOk at this
  simp only [Bool.and_eq_true, decide_eq_true_eq] at this
  exact this.1.1
theorem Base.at {b : Nat} (B : Base b) : 2 ^ places b % b = 1 ∨ 2 ^ places b % b = b - 1 := by
  have := places_ok B.lo B.hi B.odd
  unfold placesOk at this
  simp only [Bool.and_eq_true, Bool.or_eq_true, beq_iff_eq] at this
  exact this.1.2
theorem Base.ahead {b : Nat} (B : Base b) {j : Nat} (h0 : 1 ≤ j) (h1 : j < places b) : 2 ^ j % b ≠ 1 ∧ 2 ^ j % b ≠ b - 1 := by
  have := places_ok B.lo B.hi B.odd
  unfold placesOk at this
  simp only [Bool.and_eq_true, List.all_eq_true, List.mem_range] at this
  have := this.2 j h1
  simp only [Bool.or_eq_true, Bool.and_eq_true, beq_iff_eq, bne_iff_ne] at this
  rcases this with h | h
  · omega
  · exact h
/-- the first n rests -/
noncomputable def rowL (b n : Nat) : List Int := (List.range n).map fun j => ((2 ^ j % b : Nat) : Int)
theorem rowL_len (b n : Nat) : (rowL b n).length = n := by simp [rowL]
theorem rowL_succ (b n : Nat) : rowL b (n + 1) = rowL b n ++ [((2 ^ n % b : Nat) : Int)] := by simp [rowL, List.range_succ]
theorem rowL_get {b n j : Nat} (h : j < n) : (rowL b n)[j]? = some ((2 ^ j % b : Nat) : Int) := by simp [rowL, h]
theorem rowL_one {b : Nat} (B : Base b) : rowL b 1 = [1] := by
  have := B.lo
  have e : 1 % b = 1 := Nat.mod_eq_of_lt (by omega)
  show [((2 ^ 0 % b : Nat) : Int)] = [1]
  rw [Nat.pow_zero, e]; rfl
theorem Base.next {b : Nat} {z : Int} (hz : z = b) (n : Nat) : Int.fmod (((2 ^ n % b : Nat) : Int) * 2 ^ (Int.toNat 1)) z = ((2 ^ (n + 1) % b : Nat) : Int) := by
  have e : (2 : Int) ^ Int.toNat 1 = 2 := by decide
  rw [e, hz, Int.fmod_eq_emod_of_nonneg _ (by omega)]
  have : (((2 ^ n % b : Nat) : Int) * 2) = ((2 ^ n % b * 2 : Nat) : Int) := by norm_cast
  rw [this]
  have e2 : ((2 ^ n % b * 2 : Nat) : Int) % (b : Int) = ((2 ^ n % b * 2 % b : Nat) : Int) := by norm_cast
  rw [e2, Nat.mod_mul_mod, Nat.pow_succ]
theorem rest_small {b : Nat} (B : Base b) (n : Nat) : (((2 ^ n % b : Nat) : Int)).natAbs < 2 ^ 64 := by
  have h1 := B.lo
  have h2 := B.hi
  have := Nat.mod_lt (2 ^ n) (show 0 < b by omega)
  omega
theorem row_turn {b i : Nat} {z : Int} (B : Base b) (hz : z = b) (hp : i + 1 ≤ places b)
    (h1 : Int.fmod (((2 ^ i % b : Nat) : Int) * 2 ^ (Int.toNat 1)) z ≠ 1) (h2 : Int.fmod (((2 ^ i % b : Nat) : Int) * 2 ^ (Int.toNat 1)) z ≠ z - 1) :
    rowL b (i + 1) ++ [Int.fmod (((2 ^ i % b : Nat) : Int) * 2 ^ (Int.toNat 1)) z] = rowL b (i + 1 + 1) ∧ i + 1 + 1 ≤ places b := by
  have hb := B.lo
  rw [Base.next hz] at h1 h2 ⊢
  rw [rowL_succ b (i + 1)]
  refine ⟨rfl, ?_⟩
  have hne : i + 1 ≠ places b := by
    intro q
    rw [q] at h1 h2
    rcases B.at with h | h <;> rw [h] at h1 h2 <;> omega
  omega
theorem row_brk {b i : Nat} {z : Int} (B : Base b) (hz : z = b) (hp : i + 1 ≤ places b)
    (h : Int.fmod (((2 ^ i % b : Nat) : Int) * 2 ^ (Int.toNat 1)) z = 1 ∨ Int.fmod (((2 ^ i % b : Nat) : Int) * 2 ^ (Int.toNat 1)) z = z - 1) : rowL b (i + 1) = rowL b (places b) := by
  have hb := B.lo
  rw [Base.next hz] at h
  have : i + 1 = places b := by
    by_cases q : i + 1 < places b
    · have := B.ahead (j := i + 1) (by omega) q
      omega
    · omega
  rw [this]
theorem row_out {b n : Nat} {z : Int} {P : Prop} (B : Base b) (hz : z = b) (hn : n = (z - 0).toNat) (hp : n + 1 ≤ places b) : P := by
  have := B.pos
  have := B.lo
  omega
end Mine
end
section
open PySem PySem.W PySem.Spec PySem.Calls PyProof.Rows
set_option maxRecDepth 100000
namespace Mine
/-- every item is an int whose token is ahead of tk, and not nought -/
def TokIn (tk : Nat) (vs : List Value) : Prop := ∀ v ∈ vs, ∃ x, ∃ t : Nat, v = .int x t ∧ 0 < t ∧ t < tk
theorem TokIn.mono {tk tk' : Nat} {vs : List Value} (h : TokIn tk vs) (q : tk ≤ tk') : TokIn tk' vs := fun v hv => let ⟨x, t, a, b, c⟩ := h v hv; ⟨x, t, a, b, Nat.lt_of_lt_of_le c q⟩
theorem TokIn.one {tk : Nat} {x : Int} {t : Tok} {X : Nat} (h0 : X < t) (h1 : tk > t) : TokIn tk [.int x t] := fun _ hv => ⟨x, t, List.mem_singleton.mp hv, Nat.lt_of_le_of_lt (Nat.zero_le X) h0, h1⟩
theorem TokIn.add {tk tk' : Nat} {vs : List Value} {x : Int} {t : Tok} {X : Nat} (h : TokIn tk vs) (q : tk ≤ tk') (h0 : X < t) (h1 : tk' > t) : TokIn tk' (vs ++ [.int x t]) := fun v hv => (List.mem_append.mp hv).elim (h.mono q v) (TokIn.one h0 h1 v)
theorem TokIn.at {tk : Nat} {vs : List Value} {i : Nat} {x : Int} {t : Tok} (h : TokIn tk vs) (e : vs[i]? = some (.int x t)) : Nat.lt 0 t ∧ Nat.lt t tk := by
  obtain ⟨y, u, hv, h0, h1⟩ := h _ (List.mem_of_getElem? e)
  cases hv
  exact ⟨h0, h1⟩
theorem is_arm (p q : Int) (t u : Tok) : isSame (.int p t) (.int q u) = if (p == q && smallInt p) = true then isSame.cachedInt t u else isSame.created (p == q) t u := rfl
/-- is, of two ints that bear tokens: one token is ahead of the other -/
theorem is_ints {M : Model} {A : Around} {E : Value → Shared → Prop} {s : Shared} {Q : Value → Shared → Prop} {p q : Int} {t u : Tok} (h0 : Nat.lt 0 t ∧ Nat.lt t u) (hs : smallInt p = true) (h1 : p = q → Q (.bool true) s) (h2 : p ≠ q → Q (.bool false) s) : wpAny M A (compareOp .Is (.int p t) (.int q u)) Q E s := by
  obtain ⟨a, b⟩ := h0
  have t0 : (t == 0) = false := beq_false_of_ne (Nat.ne_of_gt a)
  have u0 : (u == 0) = false := beq_false_of_ne (Nat.ne_of_gt (Nat.lt_trans a b))
  have tu : (t == u) = false := beq_false_of_ne (Nat.ne_of_lt b)
  by_cases e : p = q
  · subst e
    refine wpAny_bind ?_
    have e1 : isSame (.int p t) (.int p u) = (do rule "is.small-int-cache"; pure true) := by
      refine (is_arm p p t u).trans ?_
      rw [hs, beq_self_eq_true]
      refine (if_pos rfl).trans ?_
      show (if (t == 0 || u == 0) = true then _ else _) = _
      rw [t0, u0]
      exact if_neg Bool.false_ne_true
    rw [e1]
    exact wpAny_bind (wpAny_rule (wpAny_pure (wpAny_pure (h1 rfl))))
  · refine wpAny_bind ?_
    have pq : (p == q) = false := beq_false_of_ne e
    have e1 : isSame (.int p t) (.int q u) = pure false := by
      refine (is_arm p q t u).trans ?_
      rw [pq]
      refine (if_neg Bool.false_ne_true).trans ?_
      simp only [isSame.created, t0, u0, tu, Bool.or_self]
      rfl
    rw [e1]
    exact wpAny_pure (wpAny_pure (h2 e))
theorem all_ne {l : Addr} {news own : List (Addr × Obj)} (h1 : ∀ p ∈ news, p.1 < l) (h2 : ∀ p ∈ own, p.1 ≠ l) : ∀ p ∈ news ++ own, p.1 ≠ l := fun p hp => (List.mem_append.mp hp).elim (fun q => Nat.ne_of_lt (h1 p q)) (h2 p)
section
variable {prog : Program} {w : World} {A : Around} {E : Value → Shared → Prop} {s : Shared} {env : Env} {h₀ : Heap} {Q : Flow → Shared → Prop}
/-- the end of one turn of a loop whose word tells of tokens -/
def TokEnd (h₀ : Heap) (L : Addr) (adr : List Addr) (own : List (Addr × Obj)) (J : Nat → (Str → Option Value) → List (Addr × Obj) → Prop) (s : Shared) (Q : Flow → Shared → Prop) (f : Flow) (s₂ : Shared) : Prop := match f with
  | .ret u => Q (.ret u) s₂
  | .brk => Q .next s₂
  | _ => ∃ h' tk' m' nx, s₂ = { s with heap := h', toks := tk' } ∧ Fr h₀ L h' m' ∧ News h₀ L h' (nx ++ own) ∧ nx.map (·.1) = adr ∧ J tk' m' nx
theorem TokEnd.next {L : Addr} {adr : List Addr} {own : List (Addr × Obj)} {J : Nat → (Str → Option Value) → List (Addr × Obj) → Prop} {h' : Heap} {tk' : Nat} {m' : Str → Option Value} (nx : List (Addr × Obj)) (F : Fr h₀ L h' m') (N : News h₀ L h' (nx ++ own)) (ha : nx.map (·.1) = adr) (hJ : J tk' m' nx) :
    TokEnd h₀ L adr own J s Q .next { s with heap := h', toks := tk' } := ⟨h', tk', m', nx, rfl, F, N, ha, hJ⟩
theorem TokEnd.ret {L : Addr} {adr : List Addr} {own : List (Addr × Obj)} {J : Nat → (Str → Option Value) → List (Addr × Obj) → Prop} {u : Value} {s₂ : Shared} (h : Q (.ret u) s₂) : TokEnd h₀ L adr own J s Q (.ret u) s₂ := h
theorem TokEnd.brk {L : Addr} {adr : List Addr} {own : List (Addr × Obj)} {J : Nat → (Str → Option Value) → List (Addr × Obj) → Prop} {s₂ : Shared} (h : Q .next s₂) : TokEnd h₀ L adr own J s Q .brk s₂ := h
theorem tok_loop {I : Addr} {n : Nat} {P : Nat → Value → Prop} {St : Nat → Heap → Prop} {x : Str} {px : Pos} {body : List Stmt} {m₀ : Str → Option Value} {news : List (Addr × Obj)} (J : Nat → Nat → (Str → Option Value) → List (Addr × Obj) → Prop)
    (W : Walks prog w A I [I] [I] n P St) (hSt : ∀ i h, St i h → ∃ o, h.get? I = some o) (hI0 : h₀.get? I = none) (hLI : env.locals ≠ I) (hnI : ∀ p ∈ news, p.1 ≠ I)
    (hx : env.kindOf x = some .local) (hp : (env.scope.kind == .class || (env.scope.kind == .module && env.locals != env.globals)) = false)
    (hst : St 0 s.heap) (F : Fr h₀ env.locals s.heap m₀) (N : News h₀ env.locals s.heap news) (hJ : J 0 s.toks m₀ news)
    (hE : PassesOwn (model prog w) A env E)
    (step : ∀ i v h tk₀ tk m nx own, i < n → P i v → OwnOff own (news.map (·.1)) → tk₀ ≤ tk → J i tk₀ m nx → Fr h₀ env.locals h (fun y => if y = x then some v else m y) → News h₀ env.locals h (nx ++ own) →
      wpAny (model prog w) A (execs body env) (TokEnd h₀ env.locals (news.map (·.1)) own (J (i + 1)) { s with heap := h, toks := tk } Q) E { s with heap := h, toks := tk })
    (done : ∀ h tk₀ tk m nx, tk₀ ≤ tk → J n tk₀ m nx → Fr h₀ env.locals h m → News h₀ env.locals h nx → Q .next { s with heap := h, toks := tk }) :
    codeAny (model prog w) A (.forLoop (.Name x px) (.ref I) body [] env) (fun r s' => match r with | .ok f => Q f s' | .error e => cameBackBy (model prog w) A env E e s') s := by
  refine codeAny_forLoop_any
    (fun k s' => ∃ h' tk₀ tk m' nx i, s' = { s with heap := h', toks := tk } ∧ St i h' ∧ Fr h₀ env.locals h' m' ∧ News h₀ env.locals h' nx ∧ nx.map (·.1) = news.map (·.1) ∧ tk₀ ≤ tk ∧ J i tk₀ m' nx ∧ i ≤ n ∧ k = n + 1 - i) ?_ (n + 1)
    ⟨s.heap, s.toks, s.toks, m₀, news, 0, rfl, hst, F, N, rfl, Nat.le_refl _, hJ, Nat.zero_le _, rfl⟩
  rintro k s' ⟨h', tk₀, tk, m', nx, i, rfl, hst', F', N', ha, htk, hJ', hi, rfl⟩
  have old : ∀ b o, h₀.get? b = some o → b ∉ [I] := fun b o e hb => by rw [List.mem_singleton.mp hb, hI0] at e; cases e
  have hnx : ∀ p ∈ nx, p.1 ∉ [I] := fun p hp hb => by
    have h1 : p.1 ∈ news.map (·.1) := ha ▸ List.mem_map_of_mem (f := (·.1)) hp
    obtain ⟨q, hq, e⟩ := List.mem_map.mp h1
    exact hnI q hq (e.trans (List.mem_singleton.mp hb))
  have next : ∀ h₁ : Heap, (∀ b o, b ∉ [I] → h'.get? b = some o → h₁.get? b = some o) → Fr h₀ env.locals h₁ m' ∧ News h₀ env.locals h₁ nx := fun h₁ hk₁ =>
    ⟨⟨F'.ns.at' fun o e => hk₁ _ o (by simpa using hLI) e, fun b o e => hk₁ b o (old b o e) (F'.keep b o e), F'.above⟩, fun p hp => ⟨hk₁ _ _ (hnx p hp) (N' p hp).1, (N' p hp).2⟩⟩
  by_cases hlt : i < n
  · refine wpAny_with_toks htk (W.item i _ _ _ hlt hst' fun v h₁ tk₁ hP hst₁ hk₁ htk₁ => ?_)
    obtain ⟨F₁, N₁⟩ := next h₁ hk₁
    obtain ⟨o, ho⟩ := hSt _ _ hst₁
    have Nown : News h₀ env.locals h₁ (nx ++ [(I, o)]) := fun p hp => (List.mem_append.mp hp).elim (N₁ p) fun q => by rw [List.mem_singleton.mp q]; exact ⟨ho, Ne.symm hLI, hI0⟩
    have hoff : OwnOff [(I, o)] (news.map (·.1)) := by
      intro p hp b hb e
      obtain ⟨q, hq, rfl⟩ := List.mem_map.mp hb
      exact hnI q hq (by rw [List.mem_singleton.mp hp] at e; first | exact e | exact e.symm)
    refine wpAny_of_eq rfl ?_
    refine wpAny_assign_Name (wpAny_storeName_local hx F₁.ns (fun h₂ hn₂ hs₂ => ?_) hp)
    replace hs₂ : Heap.SameBut env.locals h₁ h₂ := hs₂
    have F₂ := F₁.set hn₂ hs₂
    have N₂ := Nown.set hs₂
    refine wpAny_mono (wpAny_passesOwn hE (step i v h₂ tk₀ (tk₁ + 1) m' nx _ hlt hP hoff (Nat.le_succ_of_le htk₁) hJ' F₂ N₂)) (fun f s₃ h₃ => ?_) fun _ _ x => x
    have fin : (∃ h' tk' m' nx, s₃ = { s with heap := h', toks := tk' } ∧ Fr h₀ env.locals h' m' ∧ News h₀ env.locals h' (nx ++ [(I, o)]) ∧ nx.map (·.1) = news.map (·.1) ∧ J (i + 1) tk' m' nx) → ∃ k, k < n + 1 - i ∧
        ∃ h' tk₀ tk m' nx i, s₃ = { s with heap := h', toks := tk } ∧ St i h' ∧ Fr h₀ env.locals h' m' ∧ News h₀ env.locals h' nx ∧ nx.map (·.1) = news.map (·.1) ∧ tk₀ ≤ tk ∧ J i tk₀ m' nx ∧ i ≤ n ∧ k = n + 1 - i := by
      rintro ⟨h₄, tk₃, m₃, nx₃, rfl, F₃, N₃, ha₃, hJ₃⟩
      refine ⟨n + 1 - (i + 1), by omega, h₄, tk₃, tk₃, m₃, nx₃, i + 1, rfl, ?_, F₃, fun p hp => N₃ p (List.mem_append.mpr (.inl hp)), ha₃, Nat.le_refl _, hJ₃, hlt, rfl⟩
      refine W.frame _ _ _ hst₁ fun b hb o' e => ?_
      have hb' := List.mem_singleton.mp hb
      subst hb'
      rw [ho] at e
      cases e
      exact (N₃ _ (List.mem_append.mpr (.inr (.head _)))).1
    cases f with
    | ret u => exact h₃
    | brk => exact h₃
    | next => exact fin h₃
    | cont => exact fin h₃
  · have hin : i = n := by omega
    subst hin
    refine wpAny_with_toks htk (W.done _ _ _ hst' fun h₁ tk₁ hk₁ htk₁ => wpAny_execs_nil ?_)
    obtain ⟨F₁, N₁⟩ := next h₁ hk₁
    exact done h₁ tk₀ tk₁ m' nx htk₁ hJ' F₁ N₁
theorem tok_bytes {b : Array UInt8} {tb : Tok} {x : Str} {px : Pos} {body : List Stmt} {m₀ : Str → Option Value} {news : List (Addr × Obj)} (J : List Int → Nat → (Str → Option Value) → List (Addr × Obj) → Prop) {ks : List Int} (hb : KBw.bInts b = ks)
    (hh : A.handled = none) (F : Fr h₀ env.locals s.heap m₀) (N : News h₀ env.locals s.heap news) (hJ : J [] s.toks m₀ news)
    (hE : PassesOwn (model prog w) A env E)
    (step : ∀ pre c post t h tk₀ tk m nx own, ks = pre ++ c :: post → OwnOff own (news.map (·.1)) → tk₀ ≤ tk → J pre tk₀ m nx → Fr h₀ env.locals h (fun y => if y = x then some (.int c t) else m y) → News h₀ env.locals h (nx ++ own) →
      wpAny (model prog w) A (execs body env) (TokEnd h₀ env.locals (news.map (·.1)) own (J (pre ++ [c])) { s with heap := h, toks := tk } Q) E { s with heap := h, toks := tk })
    (done : ∀ h tk₀ tk m nx, tk₀ ≤ tk → J ks tk₀ m nx → Fr h₀ env.locals h m → News h₀ env.locals h nx → Q .next { s with heap := h, toks := tk })
    (hx : env.kindOf x = some .local := by rfl) (hp : (env.scope.kind == .class || (env.scope.kind == .module && env.locals != env.globals)) = false := by rfl) :
    wpAny (model prog w) A (pyIter (.bytes b tb)) (fun it s₂ => codeAny (model prog w) A (.forLoop (.Name x px) it body [] env) (fun r s' => match r with | .ok f => Q f s' | .error e => cameBackBy (model prog w) A env E e s') s₂) E s := by
  subst hb
  refine KBw.pyIter_bytes ?_
  have W := KBw.walks (prog := prog) (w := w) hh s.heap.objs.size b tb
  have hlen : (KBw.bInts b).length = b.size := KBw.ints_length b
  refine tok_loop (fun i => J ((KBw.bInts b).take i)) W (fun i h q => let ⟨o, ho, _⟩ := q; ⟨o, ho⟩) (next_is_new F) (Nat.ne_of_lt F.ns.lt) (fun p hp => Nat.ne_of_lt (Heap.lt_size (N p hp).1)) hx hp ⟨_, Heap.get?_push_size _ rfl, rfl, rfl⟩ (F.push _) (fun p hp => ⟨Heap.get?_push_of_some _ (N p hp).1, (N p hp).2⟩) (by simpa using hJ) hE ?_ ?_
  · rintro i v h tk₀ tk m nx own hi ⟨n, u, hn, rfl⟩ hoff htk hJ' F₁ N₁
    have hn' := KBw.ints_get hn
    have hs : (KBw.bInts b).take (i + 1) = (KBw.bInts b).take i ++ [(n.toNat : Int)] := by simp [List.take_add_one, hn']
    have e : KBw.bInts b = (KBw.bInts b).take i ++ (n.toNat : Int) :: (KBw.bInts b).drop (i + 1) := by
      have ht := List.take_append_drop (i + 1) (KBw.bInts b)
      rw [hs, List.append_assoc] at ht
      exact ht.symm
    rw [hs]
    exact step _ _ _ u h tk₀ tk m nx own e hoff htk hJ' F₁ N₁
  · intro h tk₀ tk m nx htk hJ' F₁ N₁
    rw [← hlen, List.take_length] at hJ'
    exact done h tk₀ tk m nx htk hJ' F₁ N₁
theorem tok_range {r : Addr} {a₀ b₀ : Int} {t₀ u₀ v₀ : Tok} {n : Nat} {x : Str} {px : Pos} {body : List Stmt} {m₀ : Str → Option Value} {news : List (Addr × Obj)} (J : Nat → Nat → (Str → Option Value) → List (Addr × Obj) → Prop)
    (hh : A.handled = none) (hr : IsRange s.heap r a₀ b₀ 1 t₀ u₀ v₀) (hsmall : Builtin.Range.small a₀ b₀ 1 = true) (hn : Builtin.Range.rangeSize a₀ b₀ 1 = (n : Int)) (F : Fr h₀ env.locals s.heap m₀) (N : News h₀ env.locals s.heap news) (hJ : J 0 s.toks m₀ news)
    (hE : PassesOwn (model prog w) A env E)
    (step : ∀ i t h tk₀ tk m nx own, i < n → OwnOff own (news.map (·.1)) → tk₀ ≤ tk → J i tk₀ m nx → Fr h₀ env.locals h (fun y => if y = x then some (.int (a₀ + (i : Int)) t) else m y) → News h₀ env.locals h (nx ++ own) →
      wpAny (model prog w) A (execs body env) (TokEnd h₀ env.locals (news.map (·.1)) own (J (i + 1)) { s with heap := h, toks := tk } Q) E { s with heap := h, toks := tk })
    (done : ∀ h tk₀ tk m nx, tk₀ ≤ tk → J n tk₀ m nx → Fr h₀ env.locals h m → News h₀ env.locals h nx → Q .next { s with heap := h, toks := tk })
    (hx : env.kindOf x = some .local := by rfl) (hp : (env.scope.kind == .class || (env.scope.kind == .module && env.locals != env.globals)) = false := by rfl) :
    wpAny (model prog w) A (pyIter (.ref r)) (fun it s₂ => codeAny (model prog w) A (.forLoop (.Name x px) it body [] env) (fun r s' => match r with | .ok f => Q f s' | .error e => cameBackBy (model prog w) A env E e s') s₂) E s := by
  refine wpAny_pyIter_range hr hsmall ?_
  have W : Walks prog w A s.heap.objs.size [s.heap.objs.size] [s.heap.objs.size] n (fun i v => ∃ t, v = .int (a₀ + i * 1) t)
      (fun i h => IsRangeIter h s.heap.objs.size (a₀ + (i : Nat) * 1) ((n : Int) - (i : Nat)) 1) := Walks.range hh _ a₀ 1 n
  refine tok_loop J W (fun i h q => ⟨_, q⟩) (next_is_new F) (Nat.ne_of_lt F.ns.lt) (fun p hp => Nat.ne_of_lt (Heap.lt_size (N p hp).1)) hx hp (by show IsRangeIter _ _ _ _ _; rw [hn]; simpa using Heap.get?_push_size _ rfl) (F.push _) (fun p hp => ⟨Heap.get?_push_of_some _ (N p hp).1, (N p hp).2⟩) hJ hE ?_ ?_
  · rintro i v h tk₀ tk m nx own hi ⟨t, rfl⟩ hoff htk hJ' F₁ N₁
    have e1 : a₀ + (i : Int) * 1 = a₀ + (i : Int) := by omega
    rw [e1] at F₁
    exact step i t h tk₀ tk m nx own hi hoff htk hJ' F₁ N₁
  · exact done
end
end Mine
end
section
open PySem PySem.W PySem.Spec PySem.Calls PyProof.Rows
namespace Mine
abbrev listO (vs : List Value) (n : Nat) : Obj := listOf vs.toArray n
theorem item_last {prog : Program} {w : World} {A : Around} {E : Value → Shared → Prop} {s : Shared} {h₀ : Heap} {L : Addr} {news : List (Addr × Obj)} {value slice : PySem.Expr} {l : Addr} {vs : List Value} {n k b : Nat} {u : Tok} {Q : Value → Shared → Prop}
    (N : News h₀ L s.heap news) (hm : (l, listOf vs.toArray n) ∈ news) (hi : IntsAre vs (rowL b (k + 1))) (h : ∀ t, Q (.int ((2 ^ k % b : Nat) : Int) t) s)
    (hs : subscripted slice false (.ref l) (.int (-1) u) = operate [.ref l, .int (-1) u] (getItem (.ref l) (.int (-1) u)) := by with_unfolding_all rfl) (hg : ∀ r, letTemporaryGo value (.ref l) r = pure () := by intro _; with_unfolding_all rfl) :
    wpAny (model prog w) A (subscriptTail value slice (.ref l) (.int (-1) u)) Q E s := by
  have hl : vs.length = k + 1 := by rw [hi.length, rowL_len]
  have hx : (rowL b (k + 1))[k]? = some ((2 ^ k % b : Nat) : Int) := rowL_get (Nat.lt_succ_self _)
  obtain ⟨t, ht⟩ := hi.get _ _ hx
  have e2 : (-1 + (vs.length : Int)).toNat = k := by rw [hl]; omega
  exact kim_back N hm rfl rfl (by decide) (by rw [hl]; omega) (by decide) (by rw [e2]; exact ht) (h t) hs hg
theorem ret_list {h₀ h' : Heap} {L : Addr} {m : Str → Option Value} {news news' : List (Addr × Obj)} {s : Shared} {Q : Value → Shared → Prop} {xs ys : List Int} {T : Addr} {vs : List Value} {n tk tk' : Nat}
    (hret : ∀ T vs n h' tk', Fr h₀ L h' m → News h₀ L h' ((T, listO vs n) :: news) → IntsAre vs xs → TokIn tk' vs → (∀ p ∈ news, p.1 < T) → Q (.ref T) { s with heap := h', toks := tk' })
    (hi : IntsAre vs ys) (e : ys = xs) (F : Fr h₀ L h' m) (N : News h₀ L h' news') (hs : ∀ p ∈ (T, listO vs n) :: news, p ∈ news') (hT : TokIn tk vs) (htk : tk ≤ tk') (hl : ∀ p ∈ news, p.1 < T) : Q (.ref T) { s with heap := h', toks := tk' } := by
  subst e
  exact hret T vs n h' tk' F (fun p hp => N p (hs p hp)) hi (hT.mono htk) hl
theorem row_names {a b : Option Value} {u m : Str → Option Value} : ∀ y, [Str.ofString "step", Str.ofString "turn"].contains y = false → (if y = Str.ofString "step" then a else if y = Str.ofString "turn" then b else if [Str.ofString "step", Str.ofString "turn"].contains y = true then u y else m y) = m y := by
  intro y hy
  have h := hy
  simp only [List.contains_cons, Bool.or_eq_false_iff, beq_eq_false_iff_ne] at h
  rw [if_neg h.1, if_neg h.2.1, if_neg (by rw [hy]; decide)]
/-- the word of the row's loop -/
def rowJ (b : Nat) (l : Addr) (news : List (Addr × Obj)) (stored : List Str) (m₀ : Str → Option Value) (i tk : Nat) (m : Str → Option Value) (nx : List (Addr × Obj)) : Prop :=
  ∃ (vs : List Value) (n : Nat) (u : Str → Option Value), nx = (l, listO vs n) :: news ∧ IntsAre vs (rowL b (i + 1)) ∧ i + 1 ≤ places b ∧ TokIn tk vs ∧ m = fun y => if stored.contains y then u y else m₀ y
theorem rowJ.intro {b : Nat} {l : Addr} {news : List (Addr × Obj)} {stored : List Str} {m₀ : Str → Option Value} {i tk : Nat} {m : Str → Option Value} {vs : List Value} {n : Nat} (hI : IntsAre vs (rowL b (i + 1))) (hp : i + 1 ≤ places b) (hT : TokIn tk vs) (hm : ∀ y, stored.contains y = false → m y = m₀ y) :
    rowJ b l news stored m₀ i tk m ((l, listO vs n) :: news) := ⟨vs, n, m, rfl, hI, hp, hT, funext fun y => by
  by_cases h : stored.contains y = true
  · rw [if_pos h]
  · rw [if_neg h]; exact hm y (by simpa using h)⟩
theorem rowJ.turn {b : Nat} {z : Int} {l : Addr} {news : List (Addr × Obj)} {stored : List Str} {m₀ : Str → Option Value} {i tk tk' : Nat} {m : Str → Option Value} {vs : List Value} {n X : Nat} {t : Tok} (hB : Base b) (hz : z = b) (hI : IntsAre vs (rowL b (i + 1))) (hp : i + 1 ≤ places b) (hT : TokIn tk vs)
    (h1 : Int.fmod (((2 ^ i % b : Nat) : Int) * 2 ^ (Int.toNat 1)) z ≠ 1) (h2 : Int.fmod (((2 ^ i % b : Nat) : Int) * 2 ^ (Int.toNat 1)) z ≠ z - 1) (q : tk ≤ tk') (h3 : X < t) (h4 : tk' > t) (hm : ∀ y, stored.contains y = false → m y = m₀ y) :
    rowJ b l news stored m₀ (i + 1) tk' m ((l, listOf (vs.toArray.push (.int (Int.fmod (((2 ^ i % b : Nat) : Int) * 2 ^ (Int.toNat 1)) z) t)) n) :: news) := by
  rw [List.push_toArray]
  have e := row_turn hB hz hp h1 h2
  exact rowJ.intro (e.1 ▸ IntsAre.append hI (.cons _ _ .nil)) e.2 (hT.add q h3 h4) hm
theorem row_loop {prog : Program} {w : World} {A : Around} {E : Value → Shared → Prop} {s : Shared} {env : Env} {h₀ : Heap} {Q : Flow → Shared → Prop} {r l : Addr} {b : Nat} {z : Int} {t₀ u₀ v₀ : Tok} {x : Str} {px : Pos} {body : List Stmt} {m₀ : Str → Option Value} {news news' : List (Addr × Obj)} {vs₀ : List Value} {n₀ : Nat} (stored : List Str)
    (hB : Base b) (hz : z = b) (hh : A.handled = none) (hr : IsRange s.heap r 0 z 1 t₀ u₀ v₀) (F : Fr h₀ env.locals s.heap m₀) (N : News h₀ env.locals s.heap news') (hN : ∀ p ∈ (l, listO vs₀ n₀) :: news, p ∈ news') (hI : IntsAre vs₀ [1]) (hT : TokIn s.toks vs₀)
    (hE : PassesOwn (model prog w) A env E)
    (step : ∀ (i : Nat) (t : Tok) (h : Heap) (tk : Nat) (vs : List Value) (n : Nat) (u : Str → Option Value) (own : List (Addr × Obj)), OwnOff own (((l, listO vs₀ n₀) :: news).map (·.1)) → IntsAre vs (rowL b (i + 1)) → i + 1 ≤ places b → TokIn tk vs → Fr h₀ env.locals h (fun y => if y = x then some (.int ((0 : Int) + (i : Int)) t) else if stored.contains y then u y else m₀ y) → News h₀ env.locals h ((l, listO vs n) :: news ++ own) →
      wpAny (model prog w) A (execs body env) (TokEnd h₀ env.locals (((l, listO vs₀ n₀) :: news).map (·.1)) own (rowJ b l news stored m₀ (i + 1)) { s with heap := h, toks := tk } Q) E { s with heap := h, toks := tk })
    (hx : env.kindOf x = some .local := by rfl) (hp : (env.scope.kind == .class || (env.scope.kind == .module && env.locals != env.globals)) = false := by rfl) :
    wpAny (model prog w) A (pyIter (.ref r)) (fun it s₂ => codeAny (model prog w) A (.forLoop (.Name x px) it body [] env) (fun r s' => match r with | .ok f => Q f s' | .error e => cameBackBy (model prog w) A env E e s') s₂) E s := by
  have hlo := hB.lo
  have hhi := hB.hi
  have N₁ : News h₀ env.locals s.heap ((l, listO vs₀ n₀) :: news) := fun p hp => N p (hN p hp)
  have hn : Builtin.Range.rangeSize 0 z 1 = (b : Int) := by
    rw [hz]; exact (rangeSize_nat 0 _).trans (by simp)
  refine tok_range (rowJ b l news stored m₀) hh hr (by unfold Builtin.Range.small; rw [hn]; simp [Builtin.Range.rangeFitsLong]; omega) hn F N₁ (rowJ.intro (by rw [Nat.zero_add, rowL_one hB]; exact hI) hB.pos.1 hT fun _ _ => rfl) hE ?_ ?_ hx hp
  · rintro i t h tk₀ tk m nx own _ hoff htk ⟨vs, n, u, rfl, hI', hp', hT', rfl⟩ F₁ N₁
    exact step i t h tk vs n u own hoff hI' hp' (hT'.mono htk) F₁ N₁
  · rintro h tk₀ tk m nx htk ⟨vs, n, u, rfl, hI', hp', _⟩ F₁ N₁
    have := row_out (P := False) (n := b) hB hz (by omega) hp'
    exact this.elim
section
local macro_rules | `(tactic| walk_at "execs cons") => `(tactic| (k_here; (fail_if_success (fail_if_success k_gentoks)); refine gen_toks ?_; intro tk' htk'; (try dsimp only at htk')))
local macro_rules | `(tactic| walk_at "execs nil") => `(tactic| (k_here; (fail_if_success (fail_if_success k_gentoks)); refine gen_toks ?_; intro tk' htk'; (try dsimp only at htk')))
local macro_rules | `(tactic| k_all) => `(tactic| exact all_ne (by assumption) (OwnOff.ne (by assumption) (List.Mem.head _)))
local macro_rules | `(tactic| walk_at "subscriptTail Name UnaryOp ref int") => `(tactic| (k_here; (with_reducible show wpAny _ _ (subscriptTail _ _ (Value.ref _) (Value.int (-1) _)) _ _ _); k_dflt (refine' item_last ?N ?m ?i ?_; (case N => k_asm); (case m => k_memK); (case i => assumption); intro t')))
local macro_rules | `(tactic| walk_at "exec For Name Call cons nil") => `(tactic| (k_here; k_dflt (refine wpAny_For ?_ (by intro _; rfl); refine since ?_)))
local macro_rules | `(tactic| walk_at "Since") => `(tactic| (intro htk'; (try dsimp only at htk')))
local macro_rules | `(tactic| walk_at "pyIter ref") => `(tactic| (k_dflt ((k_extra "pyIter ref"))))
local macro_rules | `(tactic| walk_at "call ref") => `(tactic| (plain_pass; k_here; (with_reducible show wpAny _ _ (call (Value.ref 63) _) _ _ _); (refine' Calls.use ?k1 ?k2 ?k3 ?k4 ?k5 ?kK (c_imod _ _ _ _ _ _ _ ?z1) ?kd ?ku ?_; (case k1 => k_asm); (case k2 => k_asm); (case k3 => k_asm); (case k4 => k_asm); (case k5 => k_asm); (case kK => first | exact rfl | assumption); (case z1 => omega); (case kd => ktr_room); (case ku => ktr_units); k_whole; intro t' h' tk' ht1' ht2' F' N' htk'; (try dsimp only at ht1' ht2' htk'))))
local macro_rules | `(tactic| walk_at "call ref") => `(tactic| (plain_pass; k_here; (with_reducible show wpAny _ _ (call (Value.ref 56) _) _ _ _); (refine' Calls.use ?k1 ?k2 ?k3 ?k4 ?k5 ?kK (c_ilshift _ _ _ _ _ _ _ ?z1 ?z2 ?z3) ?kd ?ku ?_; (case k1 => k_asm); (case k2 => k_asm); (case k3 => k_asm); (case k4 => k_asm); (case k5 => k_asm); (case kK => first | exact rfl | assumption); (case z1 => exact rest_small (by assumption) _); (case z2 => decide); (case z3 => decide); (case kd => ktr_room); (case ku => ktr_units); k_whole; intro t' h' tk' ht1' ht2' F' N' htk'; (try dsimp only at ht1' ht2' htk'))))
set_option maxRecDepth 100000 in
set_option maxHeartbeats 8000000 in
theorem c_law_row (w : World) (news : List (Addr × Obj)) (b : Nat) (z : Int) (tb : Tok) (hz : z = b) (hB : Base b) :
    Calls none w 84 [.int z tb] 4 news fun h₀ L m s Q =>
      ∀ T vs n h' tk', Fr h₀ L h' m → News h₀ L h' ((T, listO vs n) :: news) → IntsAre vs (rowL b (places b)) → TokIn tk' vs → (∀ p ∈ news, p.1 < T) → Q (.ref T) { s with heap := h', toks := tk' } := by
  intro mean mg mb dp un gd cn cs a ccd cl outer A₀ base h₀ L m s Q E B F X N T hk hdp hun hret
  revert X; k_fill; k_with_none; w_top off; intro X
  have hlo := hB.lo
  have hhi := hB.hi
  have hpl := hB.pos.2
  k_with "pyIter ref" => (refine' row_loop ["step", "turn"] hB hz ?hh ?hr ?F ?N ?hN ?hI ?hT ?hE ?step; (case hh => rfl); (case hr => assumption); (case F => k_asm); (case N => k_asm); (case hN => exact fun _ h => h); (case hI => exact IntsAre.cons _ _ IntsAre.nil); (case hT => exact TokIn.one (by assumption) (by (try dsimp only); omega)); (case hE => first | passes_own | with_unfolding_all passes_own) ; intro i t h tk vs n u own hoff' hI' hp' hT' F' N'; (have hlen' := hI'.length); rw [rowL_len] at hlen')
  refine wpAny_call ?_
  k_dflt (refine' code_defT ?k1 ?k2 ?k3 ?k4 ?k5 ?kA ?kF ?kK ?k6 ?k7 ?k8 ?k9 ?kB ?_ ?c2 ?c3 ?c4 ?c5 ?c6; (case kA => exact rfl); (case kF => exact rfl); (case kK => assumption); (case k1 => k_asm); (case k2 => k_asm); (case k3 => k_asm); (case k4 => k_asm); (case k5 => k_asm); (case k6 => k_is); (case k7 => k_is); (case k8 => ktr_room); (case k9 => exact BindsTo.of_eq rfl); (case c5 => decide); (case kB => exact locs rfl); (case c2 => exact rfl); (case c3 => exact rfl); (case c4 => exact rfl); (case c6 => exact Nat.zero_lt_succ _); k_whole; intro g' L' h' tk' htk' FG' F' N' B' X' T'; (try dsimp only); (try k_fold))
  k_steps
  all_goals try (show TokEnd _ _ _ _ _ _ _ Flow.brk _; refine TokEnd.brk ?_; show wpAny _ _ _ _ _ _; k_steps)
  all_goals first
    | exact ret_list hret (by assumption) (row_brk hB hz (by assumption) (.inl (by assumption))) (by k_asm) (by k_asm) (by (intro p hp; first | exact hp | (cases hp with | head => k_mem | tail _ hp => first | exact hp | exact .tail _ hp | exact .tail _ (.tail _ hp) | exact .tail _ (.tail _ (.tail _ hp)) | exact .tail _ (.tail _ (.tail _ (.tail _ hp))) | exact .tail _ (List.mem_append.mpr (.inl hp)) | exact .tail _ (.tail _ (List.mem_append.mpr (.inl hp)))))) (by assumption) (by omega) (by assumption)
    | exact ret_list hret (by assumption) (row_brk hB hz (by assumption) (.inr (by assumption))) (by k_asm) (by k_asm) (by (intro p hp; first | exact hp | (cases hp with | head => k_mem | tail _ hp => first | exact hp | exact .tail _ hp | exact .tail _ (.tail _ hp) | exact .tail _ (.tail _ (.tail _ hp)) | exact .tail _ (.tail _ (.tail _ (.tail _ hp))) | exact .tail _ (List.mem_append.mpr (.inl hp)) | exact .tail _ (.tail _ (List.mem_append.mpr (.inl hp)))))) (by assumption) (by omega) (by assumption)
    | (refine' TokEnd.next ((_, listOf (Array.push _ _) _) :: _) ?F ?N rfl (rowJ.turn hB hz (by assumption) (by assumption) (by assumption) (by assumption) (by assumption) ?q ?h3 ?h4 ?m); (case F => k_asm); (case N => k_asm); (case q => omega); (case h3 => assumption); (case h4 => omega); (case m => exact row_names))
end
end Mine
end
section
open PySem PySem.W PySem.Calls PyProof.Rows
namespace Mine
open Builtin
set_option maxRecDepth 100000
theorem slot_lstrip : Slot "bytes" "lstrip" "bytes.lstrip" :=
  .of (owner := "bytes") (n := "lstrip") (by rw [typeLookup_type, builtinLookup_eq_fast]; kernel_rfl) (by decide +kernel) (by decide +kernel) (by decide +kernel)
    (by first | exact .inl (by decide +kernel) | exact .inr (by decide +kernel)) (by rw [isSubtype_type]; kernel_rfl)
theorem type_lstrip : typeOf (.builtin "bytes.lstrip") = pure (.type "method_descriptor") := by show builtinType _ = _; rw [builtinType_eq_fast]; kernel_rfl
theorem entry_lstrip : entryFor table "bytes.lstrip" = some Builtin.«bytes.lstrip» := entryFor_of_tree (by kernel_rfl)
theorem args_lstrip (a b : Value) : argsOk "bytes.lstrip" ⟨[a, b], []⟩ := by
  unfold argsOk; rw [signature?_of (id := "bytes.lstrip") (n := ['p', 'i', 'r', 't', 's', 'l']) (o := ['s', 'e', 't', 'y', 'b']) (by kernel_rfl) FB.owner_bytes]; kernel_rfl
/-- what is left behind the letters A -/
def noA (b : Array UInt8) : Array UInt8 := (b.toList.dropWhile (· == 65)).toArray
theorem dropWhile_len {l : List UInt8} {f : UInt8 → Bool} (h : (l.dropWhile f).length = l.length) : l.dropWhile f = l := by
  cases l with
  | nil => rfl
  | cons a r =>
    rw [List.dropWhile_cons] at h ⊢
    split at h
    · have := (List.dropWhile_suffix f (l := r)).length_le
      rw [List.length_cons] at h; omega
    · rename_i q; rw [if_neg q]
theorem contains_A (x : UInt8) : (#[65] : Array UInt8).contains x = (x == 65) := by
  cases h : (x == 65) with
  | true => have := eq_of_beq h; subst this; simp
  | false =>
    rw [Array.contains_eq_mem]
    simp only [decide_eq_false_iff_not, List.mem_toArray, List.mem_singleton]
    intro q; subst q; simp at h
theorem meets_lstrip (b : Array UInt8) (t t2 : Tok) :
    Meets («bytes.lstrip» ⟨[.bytes b t, .bytes #[65] t2], []⟩) (fun _ R s => b.size ≤ sizeLine ∧ ∀ t' k, R (.ok (.ret (.bytes (noA b) t'))) { s with toks := k }) := by
  refine .of_wp fun prog w A R s hS => ?_
  obtain ⟨hsz, h⟩ := hS
  show wpAny _ _ (Bytes.bytesLike "bytes.lstrip" (.bytes #[65] t2) >>= fun r => _) _ _ s
  refine wpAny_bind (wpAny_of_eq KBd.like_eq ?_)
  show wpAny _ _ (if (b.toList.dropWhile (#[65] : Array UInt8).contains).length == b.size then _ else _) _ _ s
  have hf : (#[65] : Array UInt8).contains = fun x => x == 65 := funext contains_A
  rw [hf]
  split
  · rename_i hq
    have hq' : (b.toList.dropWhile fun x => x == 65).length = b.toList.length := by simpa using hq
    have e := dropWhile_len hq'
    refine wpAny_bind (wpAny_rule (wpAny_bind ?_))
    show wpAny _ _ (typeOf (.bytes b t) >>= fun r => _) _ _ s
    refine wpAny_bind (wpAny_typeOf (typeIs_bytes s b t) ?_)
    refine wpAny_pure (wpAny_pure ⟨_, rfl, ?_⟩)
    have h' := h t s.toks
    unfold noA at h'
    rw [e] at h'
    simpa using h'
  · refine wpAny_bind ?_
    show wpAny _ _ (mkBytes _) _ _ s
    have hz : ((b.toList.dropWhile fun x => x == 65).toArray).size ≤ sizeLine := by
      have := (List.dropWhile_suffix (fun x => x == 65) (l := b.toList)).length_le
      simp only [List.size_toArray]
      simp only [Array.length_toList] at this
      omega
    exact wpAny_mkBytes (wpAny_pure ⟨_, rfl, h _ _⟩) hz
section
variable {prog : Program} {w : World} {A : Around} {E : Value → Shared → Prop} {s : Shared} {b : Array UInt8} {t t2 : Tok} {Q : Value → Shared → Prop}
theorem call_lstrip (hsz : b.size ≤ 16777216) (h : ∀ t' k, Q (.bytes (noA b) t') { s with toks := k }) : wpAny (model prog w) A (call (.builtin "bytes.lstrip") [.bytes b t, .bytes #[65] t2]) Q E s :=
  call_meets slot_lstrip (typeIs_bytes _ _ _) entry_lstrip (args_lstrip _ _) (meets_lstrip b t t2) ⟨by rw [sizeLine_eq]; exact hsz, h⟩
theorem method_lstrip {M : Model} {pl : Sem Bool} {Q : Value × List Value → Shared → Prop} (h : Q (.builtin "bytes.lstrip", [.bytes b t]) s) : wpAny M A (getMethod (.bytes b t) "lstrip" pl) Q E s := by
  with_reducible exact KBd.method_of (.bytes b t) (typeIs_bytes _ _ _) slot_lstrip type_lstrip KBd.noRef h
end
end Mine
end
section
open PySem PySem.W PySem.Calls PyProof.Rows
namespace Mine
/-- what a row of letters is worth -/
def valL (xs : List Int) : Int := xs.foldl (fun a l => a * 16 + l - 65) 0
def Letters (xs : List Int) : Prop := ∀ x ∈ xs, 65 ≤ x ∧ x ≤ 80
theorem valL_nil : valL [] = 0 := rfl
theorem valL_snoc (xs : List Int) (l : Int) : valL (xs ++ [l]) = valL xs * 16 + l - 65 := by simp [valL]
theorem Letters.snoc {xs : List Int} {l : Int} (h : Letters xs) (h0 : 65 ≤ l) (h1 : l ≤ 80) : Letters (xs ++ [l]) := by
  intro x hx
  rcases List.mem_append.mp hx with hx | hx
  · exact h x hx
  · have : x = l := by simpa using hx
    subst this; exact ⟨h0, h1⟩
theorem Letters.front {xs : List Int} {l : Int} (h : Letters (xs ++ [l])) : Letters xs ∧ 65 ≤ l ∧ l ≤ 80 :=
  ⟨fun x hx => h x (List.mem_append.mpr (.inl hx)), h l (by simp)⟩
theorem snoc_ind {P : List Int → Prop} (h0 : P []) (h1 : ∀ xs l, P xs → P (xs ++ [l])) (xs : List Int) : P xs := by
  have : ∀ n, ∀ xs : List Int, xs.length = n → P xs := by
    intro n
    induction n with
    | zero => intro xs h; have : xs = [] := by simpa using h
              subst this; exact h0
    | succ n ih =>
      intro xs h
      have hne : xs ≠ [] := by intro q; subst q; simp at h
      rw [← List.dropLast_concat_getLast hne]
      exact h1 _ _ (ih _ (by rw [List.length_dropLast]; omega))
  exact this _ xs rfl
theorem valL_nonneg (xs : List Int) : Letters xs → 0 ≤ valL xs := by
  refine snoc_ind (P := fun xs => Letters xs → 0 ≤ valL xs) (fun _ => by decide) (fun xs l ih h => ?_) xs
  have := ih h.front.1
  have := h.front.2
  rw [valL_snoc]; omega
theorem ap_zero' : ap 0 = #[] := by unfold ap; simp
theorem ap_pos' {n : Nat} (h : n ≠ 0) : ap n = ap (n / 16) ++ #[UInt8.ofNat (65 + n % 16)] := by
  conv => lhs; unfold ap
  simp [h]
theorem bInts_append (a c : Array UInt8) : KBw.bInts (a ++ c) = KBw.bInts a ++ KBw.bInts c := by simp [KBw.bInts]
theorem bInts_ap : ∀ n : Nat, Letters (KBw.bInts (ap n)) ∧ valL (KBw.bInts (ap n)) = n := by
  intro n
  induction n using Nat.strongRecOn with
  | ind n ih =>
    by_cases h : n = 0
    · subst h
      rw [ap_zero']
      exact ⟨fun x hx => (by simp [KBw.bInts] at hx), rfl⟩
    · have := ih (n / 16) (by omega)
      have e : KBw.bInts #[UInt8.ofNat (65 + n % 16)] = [((65 + n % 16 : Nat) : Int)] := by
        show [((UInt8.ofNat (65 + n % 16)).toNat : Int)] = _
        rw [UInt8.toNat_ofNat_of_lt' (by show _ < 256; omega)]
      rw [ap_pos' h, bInts_append, e]
      refine ⟨this.1.snoc (by omega) (by omega), ?_⟩
      rw [valL_snoc, this.2]
      omega
theorem noA_letters (xs : List Int) : Letters xs → ((xs.map fun n => n.toNat.toUInt8).dropWhile (· == 65)).toArray = ap (valL xs).toNat := by
  refine snoc_ind (P := fun xs => Letters xs → ((xs.map fun n => n.toNat.toUInt8).dropWhile (· == 65)).toArray = ap (valL xs).toNat) (fun _ => by simp [valL_nil, ap_zero']) (fun xs l ih h => ?_) xs
  have hx := ih h.front.1
  have h0 := valL_nonneg xs h.front.1
  have hl := h.front.2
  rw [List.map_append, List.dropWhile_append, valL_snoc]
  have e : ((xs.map fun n => n.toNat.toUInt8).dropWhile (· == 65)) = (ap (valL xs).toNat).toList := by rw [← hx]
  rw [e]
  obtain ⟨k, hk⟩ := Int.eq_ofNat_of_zero_le h0
  obtain ⟨j, hj⟩ : ∃ j : Nat, l = ((65 + j : Nat) : Int) := ⟨(l - 65).toNat, by omega⟩
  have hj15 : j ≤ 15 := by omega
  have e3 : (((k : Nat) : Int) * 16 + ((65 + j : Nat) : Int) - 65).toNat = k * 16 + j := by omega
  rw [hk, hj, e3]
  simp only [List.map_cons, List.map_nil, Int.toNat_natCast]
  have el : (65 + j).toUInt8 = UInt8.ofNat (65 + j) := rfl
  by_cases hz : k = 0
  · subst hz
    rw [ap_zero']
    simp only [List.isEmpty_nil, if_true, Nat.zero_mul, Nat.zero_add]
    by_cases hj0 : j = 0
    · subst hj0
      rw [ap_zero']; rfl
    · have hne : ((65 + j).toUInt8 == 65) = false := by
        rw [el]
        apply beq_false_of_ne
        intro q
        have := congrArg UInt8.toNat q
        rw [UInt8.toNat_ofNat_of_lt' (by show _ < 256; omega)] at this
        have h65 : (65 : UInt8).toNat = 65 := rfl
        omega
      rw [List.dropWhile_cons, hne, ap_pos' hj0]
      have : j / 16 = 0 := by omega
      rw [this, ap_zero', Nat.mod_eq_of_lt (by omega : j < 16)]
      simp
  · have hne : (ap k).toList.isEmpty = false := by
      rw [ap_pos' hz]; simp
    rw [hne]
    simp only [Bool.false_eq_true, if_false]
    rw [ap_pos' (n := k * 16 + j) (by omega)]
    have e1 : (k * 16 + j) / 16 = k := by omega
    have e2 : (k * 16 + j) % 16 = j := by omega
    rw [e1, e2, el, ← Array.toList_inj]
    simp only [Array.toList_append]
/-- the word of the loop over the letters -/
def DivW2 (z : Int) (pre : List Int) (worth rest : Int) (items : List Int) : Prop :=
  worth = valL pre ∧ rest = valL pre % z ∧ 0 ≤ rest ∧ rest < z ∧ Letters items ∧ valL items = valL pre / z ∧ items.length = pre.length
theorem divided_start {z : Int} (hz : 0 < z) : (0 : Int) = valL [] ∧ (0 : Int) = valL [] % z ∧ (0 : Int) ≤ 0 ∧ 0 < z ∧ Letters [] ∧ valL [] = valL [] / z ∧ ([] : List Int).length = ([] : List Int).length :=
  ⟨rfl, by simp [valL_nil], Int.le_refl _, hz, (fun x hx => by simp at hx), by simp [valL_nil], rfl⟩
theorem divided_turn {z l worth rest : Int} {pre items : List Int} (hz : 128 ≤ z) (h1 : worth = valL pre) (h2 : rest = valL pre % z) (h3 : 0 ≤ rest) (h4 : rest < z) (h5 : Letters items) (h6 : valL items = valL pre / z) (h7 : items.length = pre.length)
    (hl : ¬ l < 65) (hl' : ¬ l > 80) :
    worth * 16 + l - 65 = valL (pre ++ [l]) ∧ (rest * 16 + (l - 65)) % z = valL (pre ++ [l]) % z ∧ 0 ≤ (rest * 16 + (l - 65)) % z ∧ (rest * 16 + (l - 65)) % z < z ∧ Letters (items ++ [(rest * 16 + (l - 65)) / z + 65]) ∧
      valL (items ++ [(rest * 16 + (l - 65)) / z + 65]) = valL (pre ++ [l]) / z ∧ (items ++ [(rest * 16 + (l - 65)) / z + 65]).length = (pre ++ [l]).length := by
  have hzp : 0 < z := by omega
  have q0 : 0 ≤ (rest * 16 + (l - 65)) / z := Int.ediv_nonneg (by omega) (by omega)
  have q1 : (rest * 16 + (l - 65)) / z < 16 := Int.ediv_lt_of_lt_mul hzp (by omega)
  have e : valL pre * 16 + l - 65 = (rest * 16 + (l - 65)) + (valL pre / z * 16) * z := by
    have := Int.mul_ediv_add_emod (valL pre) z
    rw [Int.mul_assoc, Int.mul_comm 16 z, ← Int.mul_assoc, Int.mul_comm (valL pre / z) z]
    omega
  have ed : (valL pre * 16 + l - 65) / z = (rest * 16 + (l - 65)) / z + valL pre / z * 16 := by
    rw [e, Int.add_mul_ediv_right _ _ (by omega)]
  have em : (valL pre * 16 + l - 65) % z = (rest * 16 + (l - 65)) % z := by
    rw [e, Int.add_mul_emod_self_right]
  rw [valL_snoc, valL_snoc, h6, ed, em, h1]
  exact ⟨rfl, rfl, Int.emod_nonneg _ (by omega), Int.emod_lt_of_pos _ hzp, h5.snoc (by omega) (by omega), by omega, by simp [h7]⟩
theorem letter_in {ks pre post : List Int} {l : Int} (hL : Letters ks) (h : ks = pre ++ l :: post) : 65 ≤ l ∧ l ≤ 80 := hL l (by rw [h]; simp)
theorem Letters.in {xs : List Int} (h : Letters xs) : ∀ x ∈ xs, 0 ≤ x ∧ x < 256 := fun x hx => by have := h x hx; omega
theorem shr4 (z : Int) : z.fdiv (2 ^ Int.toNat 4) = z / 16 := by
  have e : (2 : Int) ^ Int.toNat 4 = 16 := by decide
  rw [e, Int.fdiv_eq_ediv_of_nonneg _ (by decide)]
end Mine
end
section
open PySem PySem.W PySem.Spec PySem.Calls PyProof.Rows
namespace Mine
abbrev divO (x y : Int) (b : Array UInt8) (t1 t2 t3 : Tok) : Obj := { cls := .type "tuple", data := .seq #[.int x t1, .int y t2, .bytes b t3] }
theorem divided_end {b x : Nat} {z worth rest : Int} {ks items : List Int} (hz : z = b) (hb : 0 < z) (hv : valL ks = x) (h1 : worth = valL ks) (h2 : rest = valL ks % z) (h5 : Letters items) (h6 : valL items = valL ks / z) :
    worth = x ∧ rest = ((x % b : Nat) : Int) ∧ noA (byteArr items) = ap (x / b) := by
  refine ⟨h1.trans hv, ?_, ?_⟩
  · rw [h2, hv, hz]; norm_cast
  · have e := noA_letters items h5
    have e2 : noA (byteArr items) = ((items.map fun n => n.toNat.toUInt8).dropWhile (· == 65)).toArray := rfl
    rw [e2, e, h6, hv, hz]
    congr 1
theorem ret_div {h₀ h' : Heap} {L : Addr} {m : Str → Option Value} {news news' : List (Addr × Obj)} {s : Shared} {Q : Value → Shared → Prop} {x y u v : Int} {B C : Array UInt8} {t1 t2 t3 : Tok} {T : Addr} {tk' : Nat}
    (hret : ∀ T t1 t2 t3 h' tk', s.toks ≤ t2 → Fr h₀ L h' m → News h₀ L h' ((T, divO x y B t1 t2 t3) :: news) → (∀ p ∈ news, p.1 < T) → Q (.ref T) { s with heap := h', toks := tk' }) (ht : s.toks ≤ t2) (e : u = x ∧ v = y ∧ C = B) (F : Fr h₀ L h' m)
    (N : News h₀ L h' news') (hs : ∀ p ∈ (T, divO u v C t1 t2 t3) :: news, p ∈ news') (hl : ∀ p ∈ news, p.1 < T) : Q (.ref T) { s with heap := h', toks := tk' } := by
  obtain ⟨rfl, rfl, rfl⟩ := e
  exact hret T t1 t2 t3 h' tk' ht F (fun p hp => N p (hs p hp)) hl
theorem ne_tups {prog : Program} {w : World} {A : Around} {E : Value → Shared → Prop} {s : Shared} {h₀ : Heap} {L : Addr} {news : List (Addr × Obj)} {Q : Value → Shared → Prop} {a b : Addr} {x1 y1 x2 y2 : Int} {t1 t2 t3 t4 : Tok}
    (N : News h₀ L s.heap news) (ma : (a, tupO x1 y1 t1 t2) ∈ news) (mb : (b, tupO x2 y2 t3 t4) ∈ news) (hu : A.units + 64 < cLine) (e : x1 = x2 ∧ y1 = y2) (h : Q (.bool false) s) :
    wpAny (model prog w) A (compareOp .NotEq (.ref a) (.ref b)) Q E s := by
  refine ne_dataH (da := .tuple [.int x1, .int y1]) (db := .tuple [.int x2, .int y2]) (reads_tuple_at (N.get ma) rfl rfl (.cons (.int _ _) (.cons (.int _ _) .nil))) (reads_tuple_at (N.get mb) rfl rfl (.cons (.int _ _) (.cons (.int _ _) .nil))) rfl rfl hu ?_
  have : PyData.eqv (.tuple [.int x1, .int y1]) (.tuple [.int x2, .int y2]) = true := by simp [PyData.eqv, PyData.eqvAll, e.1, e.2]
  rw [this]; exact h
theorem tup_eq {r l z : Int} (hz : 0 < z) : (r * 16 + (l - 65)) / z = (r * 16 + l - 65).fdiv z ∧ (r * 16 + (l - 65)) % z = (r * 16 + l - 65).fmod z := by
  rw [Int.fdiv_eq_ediv_of_nonneg _ (by omega), Int.fmod_eq_emod_of_nonneg _ (by omega)]
  have : r * 16 + (l - 65) = r * 16 + l - 65 := by omega
  rw [this]; exact ⟨rfl, rfl⟩
abbrev nW : Str := Str.ofString "worth"
abbrev nR : Str := Str.ofString "rest"
abbrev sDiv : List Str := [Str.ofString "worth", Str.ofString "rest", Str.ofString "told", Str.ofString "letter"]
/-- the word of the loop over the letters, with the frame, the ledger and the tokens -/
def divJ (T₀ : Nat) (z : Int) (l : Addr) (news : List (Addr × Obj)) (m₀ : Str → Option Value) (pre : List Int) (tk : Nat) (m : Str → Option Value) (nx : List (Addr × Obj)) : Prop :=
  ∃ (worth rest : Int) (tw tr : Tok) (vs : List Value) (items : List Int) (n : Nat) (u : Str → Option Value), nx = (l, listOf vs.toArray n) :: news ∧ IntsAre vs items ∧ DivW2 z pre worth rest items ∧ T₀ ≤ tr ∧ T₀ ≤ tk ∧
    m = fun y => if y = nW then some (.int worth tw) else if y = nR then some (.int rest tr) else if sDiv.contains y then u y else m₀ y
theorem divJ.intro {T₀ tk : Nat} {z : Int} {l : Addr} {news : List (Addr × Obj)} {m₀ m : Str → Option Value} {pre : List Int} {worth rest : Int} {tw tr : Tok} {vs : List Value} {items : List Int} {n : Nat} (hI : IntsAre vs items) (hW : DivW2 z pre worth rest items) (h1 : T₀ ≤ tr) (h2 : T₀ ≤ tk)
    (hw : m nW = some (.int worth tw)) (hr : m nR = some (.int rest tr)) (hm : ∀ y, sDiv.contains y = false → m y = m₀ y) : divJ T₀ z l news m₀ pre tk m ((l, listOf vs.toArray n) :: news) :=
  ⟨worth, rest, tw, tr, vs, items, n, m, rfl, hI, hW, h1, h2, funext fun y => by
    by_cases e : y = nW
    · rw [if_pos e, e, hw]
    · rw [if_neg e]
      by_cases e : y = nR
      · rw [if_pos e, e, hr]
      · rw [if_neg e]
        by_cases h : sDiv.contains y = true
        · rw [if_pos h]
        · rw [if_neg h]; exact hm y (by simpa using h)⟩
theorem div_names {m₀ : Str → Option Value} {a b c d e f : Option Value} {u : Str → Option Value} : ∀ y, sDiv.contains y = false → (if y = nR then a else if y = nW then b else if y = Str.ofString "told" then c else if y = Str.ofString "letter" then d else if y = nW then e else if y = nR then f else if sDiv.contains y then u y else m₀ y) = m₀ y := by
  intro y hy
  have h := hy
  simp only [List.contains_cons, Bool.or_eq_false_iff, beq_eq_false_iff_ne] at h
  rw [if_neg h.2.1, if_neg h.1, if_neg h.2.2.1, if_neg h.2.2.2.1, if_neg h.1, if_neg h.2.1, if_neg (by rw [hy]; decide)]
theorem div_loop {prog : Program} {w : World} {A : Around} {E : Value → Shared → Prop} {s : Shared} {env : Env} {h₀ : Heap} {Q : Flow → Shared → Prop} {l : Addr} {b : Array UInt8} {z : Int} {tb : Tok} {x : Str} {px : Pos} {body : List Stmt} {m₀ : Str → Option Value} {news news' : List (Addr × Obj)} {n₀ : Nat} {tw tr : Tok} {ks : List Int} (T₀ : Nat)
    (hb : KBw.bInts b = ks) (hz : 0 < z) (hh : A.handled = none) (F : Fr h₀ env.locals s.heap m₀) (N : News h₀ env.locals s.heap news') (hN : ∀ p ∈ (l, listOf #[] n₀) :: news, p ∈ news') (hw : m₀ nW = some (.int 0 tw)) (hr : m₀ nR = some (.int 0 tr)) (h1 : T₀ ≤ tr) (h2 : T₀ ≤ s.toks)
    (hE : PassesOwn (model prog w) A env E)
    (step : ∀ (pre post : List Int) (c : Int) (t : Tok) (h : Heap) (tk : Nat) (worth rest : Int) (tw tr : Tok) (vs : List Value) (items : List Int) (n : Nat) (u : Str → Option Value) (own : List (Addr × Obj)), ks = pre ++ c :: post → pre.length < ks.length → OwnOff own (((l, listOf #[] n₀) :: news).map (·.1)) → IntsAre vs items → items.length = pre.length → vs.length = pre.length → DivW2 z pre worth rest items → T₀ ≤ tr → T₀ ≤ tk →
      Fr h₀ env.locals h (fun y => if y = x then some (.int c t) else if y = nW then some (.int worth tw) else if y = nR then some (.int rest tr) else if sDiv.contains y then u y else m₀ y) → News h₀ env.locals h ((l, listOf vs.toArray n) :: news ++ own) →
      wpAny (model prog w) A (execs body env) (TokEnd h₀ env.locals (((l, listOf #[] n₀) :: news).map (·.1)) own (divJ T₀ z l news m₀ (pre ++ [c])) { s with heap := h, toks := tk } Q) E { s with heap := h, toks := tk })
    (done : ∀ (h : Heap) (tk : Nat) (worth rest : Int) (tw tr : Tok) (vs : List Value) (items : List Int) (n : Nat) (u : Str → Option Value), IntsAre vs items → items.length = ks.length → vs.length = ks.length → DivW2 z ks worth rest items → T₀ ≤ tr → T₀ ≤ tk →
      Fr h₀ env.locals h (fun y => if y = nW then some (.int worth tw) else if y = nR then some (.int rest tr) else if sDiv.contains y then u y else m₀ y) → News h₀ env.locals h ((l, listOf vs.toArray n) :: news) → Q .next { s with heap := h, toks := tk })
    (hx : env.kindOf x = some .local := by rfl) (hp : (env.scope.kind == .class || (env.scope.kind == .module && env.locals != env.globals)) = false := by rfl) :
    wpAny (model prog w) A (pyIter (.bytes b tb)) (fun it s₂ => codeAny (model prog w) A (.forLoop (.Name x px) it body [] env) (fun r s' => match r with | .ok f => Q f s' | .error e => cameBackBy (model prog w) A env E e s') s₂) E s := by
  have N₁ : News h₀ env.locals s.heap ((l, listOf #[] n₀) :: news) := fun p hp => N p (hN p hp)
  refine tok_bytes (divJ T₀ z l news m₀) hb hh F N₁ (divJ.intro .nil (divided_start hz) h1 h2 hw hr fun _ _ => rfl) hE ?_ ?_ hx hp
  · rintro pre c post t h tk₀ tk m nx own e hoff htk ⟨worth, rest, tw, tr, vs, items, n, u, rfl, hI, hW, h1, h2, rfl⟩ F₁ N₁
    have hl := hW.2.2.2.2.2.2
    exact step pre post c t h tk worth rest tw tr vs items n u own e (by rw [e]; simp) hoff hI hl (hI.length.trans hl) hW h1 (Nat.le_trans h2 htk) F₁ N₁
  · rintro h tk₀ tk m nx htk ⟨worth, rest, tw, tr, vs, items, n, u, rfl, hI, hW, h1, h2, rfl⟩ F₁ N₁
    have hl := hW.2.2.2.2.2.2
    exact done h tk worth rest tw tr vs items n u hI hl (hI.length.trans hl) hW h1 (Nat.le_trans h2 htk) F₁ N₁
section
local macro_rules | `(tactic| walk_at "execs cons") => `(tactic| (k_here; (fail_if_success (fail_if_success k_gentoks)); refine gen_toks ?_; intro tk' htk'; (try dsimp only at htk')))
local macro_rules | `(tactic| walk_at "execs nil") => `(tactic| (k_here; (fail_if_success (fail_if_success k_gentoks)); refine gen_toks ?_; intro tk' htk'; (try dsimp only at htk')))
local macro_rules | `(tactic| k_all) => `(tactic| exact all_ne (by assumption) (OwnOff.ne (by assumption) (List.Mem.head _)))
local macro_rules | `(tactic| walk_at "exec For Name Name cons nil") => `(tactic| (k_here; k_dflt (refine wpAny_For ?_ (by intro _; rfl); refine since ?_)))
local macro_rules | `(tactic| walk_at "Since") => `(tactic| (intro htk'; (try dsimp only at htk')))
local macro_rules | `(tactic| walk_at "compareOp NotEq ref ref") => `(tactic| (k_here; k_dflt ((refine' ne_tups ?N ?ma ?mb ?hu ?e ?_; (case N => k_asm); (case ma => k_mem); (case mb => k_mem); (case hu => (rw [units_deeper]; dsimp only [Ard]; omega)); (case e => exact tup_eq (by assumption)); (rename News _ _ _ _ => nX'); (have nY' := news_tail nX'); clear nX'))))
local macro_rules | `(tactic| walk_at "call type:bytes") => `(tactic| (k_here; (with_reducible show wpAny _ _ (call (Value.type "bytes") [Value.ref _]) _ _ _); k_dflt ((refine' KBa.make_K ?kbaF ?kbaN ?kbah ?kbal ?kbai ?kbar ?kban ?_; (case kbaF => k_asm); (case kbaN => k_asm); (case kbah => rfl); (case kbal => kba_isList); (case kbai => assumption); (case kbar => exact Letters.in (by assumption)); (case kban => omega); intro h' t' k' F' N' kbaIn))))
local macro_rules | `(tactic| walk_at "getMethod bytes") => `(tactic| (k_here; k_dflt ((refine method_lstrip ?_))))
local macro_rules | `(tactic| walk_at "call builtin:bytes.lstrip") => `(tactic| (k_here; k_dflt ((refine call_lstrip ?hz ?_; (case hz => (rw [byteArr_size]; omega)); intro t' k'))))
local macro_rules | `(tactic| walk_at "pyIter bytes") => `(tactic| (k_dflt ((k_extra "pyIter bytes"))))
local macro_rules | `(tactic| walk_at "call ref") => `(tactic| (plain_pass; k_here; (with_reducible show wpAny _ _ (call (Value.ref 28) _) _ _ _); (refine' Calls.use ?k1 ?k2 ?k3 ?k4 ?k5 ?kK (c_div3n2n _ _ _ _ _ _ _ _ _ _ _ _ _ ?z1 ?z2 ?z3 ?z4 ?z5 ?z6 ?z7 ?z8) ?kd ?ku ?_; (case k1 => k_asm); (case k2 => k_asm); (case k3 => k_asm); (case k4 => k_asm); (case k5 => k_asm); (case kK => first | exact rfl | assumption); (case z1 => omega); (case z2 => omega); (case z3 => exact shr4 _); (case z4 => exact bitAnd_m4 _); (case z5 => omega); (case z6 => omega); (case z7 => omega); (case z8 => omega); (case kd => ktr_room); (case ku => ktr_units); k_whole; intro T' t1' t2' h' tk' ht' F' N' l1 htk'; (try dsimp only at ht' htk'); (have ln' := l1 _ (List.Mem.head _)); (try dsimp only at ln'); (replace ln' := ltN ln'))))
set_option maxRecDepth 100000 in
set_option maxHeartbeats 8000000 in
theorem c_divided (w : World) (news : List (Addr × Obj)) (b x : Nat) (z : Int) (W : Array UInt8) (ks : List Int) (tb tw : Tok) (hz : z = b) (hB : Base b) (hks : KBw.bInts W = ks) (hL : Letters ks) (hv : valL ks = x) (hlen : ks.length ≤ 60) :
    Calls none w 91 [.bytes W tw, .int z tb] 12 news fun h₀ L m s Q =>
      ∀ T t1 t2 t3 h' tk', s.toks ≤ t2 → Fr h₀ L h' m → News h₀ L h' ((T, divO x ((x % b : Nat) : Int) (ap (x / b)) t1 t2 t3) :: news) → (∀ p ∈ news, p.1 < T) → Q (.ref T) { s with heap := h', toks := tk' } := by
  intro mean mg mb dp un gd cn cs a ccd cl outer A₀ base h₀ L m s Q E B F X N T hk hdp hun hret
  revert X; k_fill; k_with_none; w_top off; intro X
  have hlo := hB.lo
  have hhi := hB.hi
  have hz1 : 129 ≤ z := by omega
  have hz2 : z ≤ 255 := by omega
  have hz0 : z ≠ 0 := by omega
  have hzp : 0 < z := by omega
  have hk60 := hlen
  k_with "pyIter bytes" => (refine' div_loop s.toks hks hzp ?hh ?F ?N ?hN ?hw ?hr ?h1 ?h2 ?hE ?step ?done; (case hh => rfl); (case F => k_asm); (case N => k_asm); (case hN => exact fun _ h => .tail _ h); (case hw => with_unfolding_all rfl); (case hr => with_unfolding_all rfl); (case h1 => (try dsimp only); omega); (case h2 => (try dsimp only); omega); (case hE => first | passes_own | with_unfolding_all passes_own); (case' step => (intro pre post c t h tk worth rest tw tr vs items n u own heq' hpl' hoff' hI' hil' hvl' hW' hr' htk' F' N'; (have hpos' := hW'.2.2.1); (have hlt' := hW'.2.2.2.1))); (case' done => (intro h tk worth rest tw tr vs items n u hI' hil' hvl' hW' hr' htk' F' N'; (have hL' := hW'.2.2.2.2.1))))
  refine wpAny_call ?_
  k_dflt (refine' code_defT ?k1 ?k2 ?k3 ?k4 ?k5 ?kA ?kF ?kK ?k6 ?k7 ?k8 ?k9 ?kB ?_ ?c2 ?c3 ?c4 ?c5 ?c6; (case kA => exact rfl); (case kF => exact rfl); (case kK => assumption); (case k1 => k_asm); (case k2 => k_asm); (case k3 => k_asm); (case k4 => k_asm); (case k5 => k_asm); (case k6 => k_is); (case k7 => k_is); (case k8 => ktr_room); (case k9 => exact BindsTo.of_eq rfl); (case c5 => decide); (case kB => exact locs rfl); (case c2 => exact rfl); (case c3 => exact rfl); (case c4 => exact rfl); (case c6 => exact Nat.zero_lt_succ _); k_whole; intro g' L' h' tk' htk' FG' F' N' B' X' T'; (try dsimp only); (try k_fold))
  k_steps
  all_goals first
    | exact absurd (letter_in hL (by assumption)) (by omega)
    | exact ret_div hret hr' (divided_end hz hzp hv hW'.1 hW'.2.1 hW'.2.2.2.2.1 hW'.2.2.2.2.2.1) (by k_asm) (by k_asm) (by (intro p hp; first | exact hp | (cases hp with | head => k_mem | tail _ hp => first | exact hp | exact .tail _ hp | exact .tail _ (.tail _ hp) | exact .tail _ (.tail _ (.tail _ hp)) | exact .tail _ (.tail _ (.tail _ (.tail _ hp))) | exact .tail _ (List.mem_append.mpr (.inl hp)) | exact .tail _ (.tail _ (List.mem_append.mpr (.inl hp)))))) (lt_of_all (And.right (by assumption)))
    | ((rename News _ _ _ _ => nX'); (refine' TokEnd.next ((_, listOf (List.toArray (_ ++ [_])) _) :: _) ?F (news_tail nX') rfl (divJ.intro (IntsAre.append hI' (.cons _ _ .nil)) (divided_turn (by omega) hW'.1 hW'.2.1 hW'.2.2.1 hW'.2.2.2.1 hW'.2.2.2.2.1 hW'.2.2.2.2.2.1 hW'.2.2.2.2.2.2 (by omega) (by omega)) ?h1 ?h2 rfl rfl div_names); (case F => k_asm); (case h1 => omega); (case h2 => (try dsimp only); omega)))
end
end Mine
end
section
open PySem
namespace Mine
variable {M : Model}
/-- what the last rule of a run tells -/
def Inv (M : Model) (Γ : Ctx) (p : Pos) (t : Sem Fin) (fs : List Frame) (s : Shared) (e : End) (s' : Shared) : Prop := match fs with
  | [] => match t with
    | .pure (.done f) => End.ret (.ok f) = e ∧ s = s'
    | .pure (.again c) => Runs M (Γ.goto c) p (M.den c) [] s e s'
    | .raise x => End.ret (.error x) = e ∧ s = s'
    | .rule _ k => Runs M Γ p (k ()) [] s e s'
    | .at p' k => Runs M Γ p' (k ()) [] s e s'
    | .load a _ k => ∃ o, s.heap.get? a = some o ∧ Runs M Γ p (k o) [] s e s'
    | .update a _ f k => Runs M Γ p (k ()) [] { s with heap := s.heap.update a f } e s'
    | .loadIfAlive a k => Runs M Γ p (k (s.heap.get? a)) [] s e s'
    | .point _ k => Runs M Γ p (k ()) [] s e s'
    | .alloc o k => Runs M Γ p (k s.heap.objs.size) [] { s with heap := s.heap.push o } e s'
    | .fresh k => Runs M Γ p (k s.toks) [] { s with toks := s.toks + 1 } e s'
    | .ask k => Runs M Γ p (k ⟨M.prog, M.w.params⟩) [] s e s'
    | .choose src n k => Runs M Γ p (k (M.w.draws src (s.drawn.get src) % n)) [] { s with drawn := s.drawn.bump src } e s'
    | .os q _ k => Runs M Γ p (k (Os.step s.os q).2) [] { s with os := (Os.step s.os q).1 } e s'
    | .handled own k => Runs M Γ p (k (if own then Γ.own else Γ.handled)) [] s e s'
    | .genState g k => ∃ st : GenState, s.gens[g]? = some st ∧ Runs M Γ p (k st.seen) [] s e s'
    | .stack k => Runs M Γ p (k ((Γ.code, p) :: Γ.below)) [] s e s'
    | .thread k => Runs M Γ p (k 0) [] s e s'
    | .newGen c k => Runs M Γ p (k s.gens.size) [] { s with gens := s.gens.push (.fresh c) } e s'
    | .call c h g l k => ∃ e₁ s₁, Runs M (Γ.enter c h p) p (M.den c) [] s e₁ s₁ ∧ match e₁ with
      | .ret r => Runs M Γ p (k r) [] s₁ e s'
      | .susp v g₀ l₀ k₀ c₀ p₀ fs => End.susp v g₀ l₀ k₀ c₀ p₀ (fs ++ [.ret k h g l Γ.code p []]) = e ∧ s₁ = s'
    | .yield v g l k => End.susp v g l k Γ.code p [] = e ∧ s = s'
    | .resume g r _ k => ∃ st : GenState, s.gens[g]? = some st ∧ match st with
      | .fresh c => match r with
        | .send v => (v = .none → ∃ e₁ s₁, Runs M (Γ.wake c p) p (M.den c) [] (s.setGen g .running) e₁ s₁ ∧ Runs M Γ p (k e₁.result) [] (s₁.setGen g e₁.genState) e s') ∧ (v ≠ .none → Runs M Γ p (k .justStarted) [] s e s')
        | .throw x => Runs M Γ p (k (.raised x)) [] (s.setGen g .finished) e s'
      | .suspended k₀ _ c₀ p₀ fs _ => ∃ e₁ s₁, Runs M (Γ.wake c₀ p) p₀ (k₀ r) fs (s.setGen g .running) e₁ s₁ ∧ Runs M Γ p (k e₁.result) [] (s₁.setGen g e₁.genState) e s'
      | .running => Runs M Γ p (k .running) [] s e s'
      | .finished => Runs M Γ p (k .finished) [] s e s'
    | _ => True
  | F :: fs => ∃ e₁ s₁, Runs M (Γ.over (F :: fs)) p t [] s e₁ s₁ ∧ match e₁ with
    | .ret r => match F with
      | .ret k _ _ _ c₁ p₁ _ => Runs M (Γ.goto c₁) p₁ (k r) fs s₁ e s'
      | .gen g k _ c₁ p₁ => Runs M (Γ.goto c₁) p₁ (k (End.ret r).result) fs (s₁.setGen g .finished) e s'
    | .susp v g₀ l₀ k₀ c₀ p₀ fs₀ => (splitAtGen (F :: fs) = none → End.susp v g₀ l₀ k₀ c₀ p₀ (fs₀ ++ F :: fs) = e ∧ s₁ = s') ∧
      ∀ pre g k c₁ p₁ rest, splitAtGen (F :: fs) = some (pre, (g, k, c₁, p₁), rest) → Runs M (Γ.goto c₁) p₁ (k (.yielded v)) rest (s₁.setGen g (End.susp v g₀ l₀ k₀ c₀ p₀ (fs₀ ++ pre)).genState) e s'
theorem inv {Γ : Ctx} {p : Pos} {t : Sem Fin} {fs : List Frame} {s : Shared} {e : End} {s' : Shared} (h : Runs M Γ p t fs s e s') : Inv M Γ p t fs s e s' := by
  cases h with
  | done | raise | yield => exact ⟨rfl, rfl⟩
  | again _ h | rule h | «at» h | loadIfAlive h | point h | alloc h | fresh h | ask h | os h | handled h | stack h | thread h | newGen h | update _ h | choose _ h => exact h
  | load ho h | genState ho h => exact ⟨_, ho, h⟩
  | call h h' => exact ⟨_, _, h, h'⟩
  | callSusp h => exact ⟨_, _, h, rfl, rfl⟩
  | resumeFresh hg h _ h' => exact ⟨_, hg, fun _ => ⟨_, _, h, h'⟩, fun q => absurd rfl q⟩
  | resumeSuspended hg h _ h' => exact ⟨_, hg, _, _, h, h'⟩
  | resumeJustStarted hg hv h => exact ⟨_, hg, fun q => absurd q hv, fun _ => h⟩
  | resumeThrowFresh hg h | resumeRunning hg h | resumeFinished hg h => exact ⟨_, hg, h⟩
  | segRet h h' | segGen h h' => exact ⟨_, _, h, h'⟩
  | segSuspOut hs h => exact ⟨_, _, h, fun _ => ⟨rfl, rfl⟩, fun _ _ _ _ _ _ q => by rw [hs] at q; cases q⟩
  | segSuspGen hs h _ h' => exact ⟨_, _, h, fun q => (by rw [hs] at q; cases q), fun _ _ _ _ _ _ q => by rw [hs] at q; cases q; exact h'⟩
theorem some_one {α : Type} {o : Option α} {x y : α} (h : o = some x) (h' : o = some y) : x = y := Option.some.inj (h.symm.trans h')
/-- a run has one end -/
theorem runs_one {Γ : Ctx} {p : Pos} {t : Sem Fin} {fs : List Frame} {s : Shared} {e₁ : End} {s₁ : Shared} (h₁ : Runs M Γ p t fs s e₁ s₁) :
    ∀ {e₂ : End} {s₂ : Shared}, Runs M Γ p t fs s e₂ s₂ → e₁ = e₂ ∧ s₁ = s₂ := by
  induction h₁ with
  | done | raise | yield => exact fun h => inv h
  | again _ _ ih | rule _ ih | «at» _ ih | loadIfAlive _ ih | point _ ih | alloc _ ih | fresh _ ih | ask _ ih | os _ ih | handled _ ih | stack _ ih | thread _ ih | newGen _ ih | update _ _ ih | choose _ _ ih => exact fun h => ih (inv h)
  | load ho _ ih | genState ho _ ih =>
    intro e₂ s₂ h
    obtain ⟨o, ho', x⟩ := inv h
    obtain rfl := some_one ho ho'
    exact ih x
  | call _ _ ih1 ih2 =>
    intro e₂ s₂ h
    obtain ⟨o, t, x, y⟩ := inv h
    obtain ⟨rfl, rfl⟩ := ih1 x
    exact ih2 y
  | callSusp _ ih =>
    intro e₂ s₂ h
    obtain ⟨o, t, x, y⟩ := inv h
    obtain ⟨rfl, rfl⟩ := ih x
    exact y
  | resumeFresh hg _ _ _ ih1 ih2 =>
    intro e₂ s₂ h
    obtain ⟨o, hg', x⟩ := inv h
    obtain rfl := some_one hg hg'
    obtain ⟨e, t, x, y⟩ := x.1 rfl
    obtain ⟨rfl, rfl⟩ := ih1 x
    exact ih2 y
  | resumeSuspended hg _ _ _ ih1 ih2 =>
    intro e₂ s₂ h
    obtain ⟨o, hg', x⟩ := inv h
    obtain rfl := some_one hg hg'
    obtain ⟨e, t, x, y⟩ := x
    obtain ⟨rfl, rfl⟩ := ih1 x
    exact ih2 y
  | resumeJustStarted hg hv _ ih =>
    intro e₂ s₂ h
    obtain ⟨o, hg', x⟩ := inv h
    obtain rfl := some_one hg hg'
    exact ih (x.2 hv)
  | resumeThrowFresh hg _ ih | resumeRunning hg _ ih | resumeFinished hg _ ih =>
    intro e₂ s₂ h
    obtain ⟨o, hg', x⟩ := inv h
    obtain rfl := some_one hg hg'
    exact ih x
  | segRet _ _ ih1 ih2 | segGen _ _ ih1 ih2 =>
    intro e₂ s₂ h
    obtain ⟨o, t, x, y⟩ := inv h
    obtain ⟨rfl, rfl⟩ := ih1 x
    exact ih2 y
  | segSuspOut hs _ ih =>
    intro e₂ s₂ h
    obtain ⟨o, t, x, y⟩ := inv h
    obtain ⟨rfl, rfl⟩ := ih x
    exact y.1 hs
  | segSuspGen hs _ _ _ ih1 ih2 =>
    intro e₂ s₂ h
    obtain ⟨o, t, x, y⟩ := inv h
    obtain ⟨rfl, rfl⟩ := ih1 x
    exact ih2 (y.2 _ _ _ _ _ _ hs)
theorem wakes_one {Γ : Ctx} {p : Pos} {g : Nat} {r : Resume} {s : Shared} {a₁ a₂ : GenResult} {s₁ s₂ : Shared} (h₁ : Wakes M Γ p g r s a₁ s₁) (h₂ : Wakes M Γ p g r s a₂ s₂) : a₁ = a₂ ∧ s₁ = s₂ := by
  unfold Wakes at h₁ h₂
  cases hg : s.gens[g]? with
  | none => simp only [hg] at h₁
  | some gs =>
    simp only [hg] at h₁ h₂
    cases gs with
    | fresh c =>
      cases r with
      | send v =>
        cases v with
        | none =>
          obtain ⟨e₁, t₁, x₁, _, rfl, rfl⟩ := h₁
          obtain ⟨e₂, t₂, x₂, _, rfl, rfl⟩ := h₂
          obtain ⟨rfl, rfl⟩ := runs_one x₁ x₂
          exact ⟨rfl, rfl⟩
        | _ => exact ⟨h₁.1.trans h₂.1.symm, h₁.2.trans h₂.2.symm⟩
      | throw x => exact ⟨h₁.1.trans h₂.1.symm, h₁.2.trans h₂.2.symm⟩
    | suspended k₀ l₀ c₀ p₀ fs cl =>
      obtain ⟨e₁, t₁, x₁, _, rfl, rfl⟩ := h₁
      obtain ⟨e₂, t₂, x₂, _, rfl, rfl⟩ := h₂
      obtain ⟨rfl, rfl⟩ := runs_one x₁ x₂
      exact ⟨rfl, rfl⟩
    | running => exact ⟨h₁.1.trans h₂.1.symm, h₁.2.trans h₂.2.symm⟩
    | finished => exact ⟨h₁.1.trans h₂.1.symm, h₁.2.trans h₂.2.symm⟩
theorem wpCode_both {Γ : Ctx} {R R' : Result → Shared → Prop} {p : Pos} {s : Shared} (h : wpCode M Γ R p s) (h' : wpCode M Γ R' p s) : wpCode M Γ (fun r s => R r s ∧ R' r s) p s := by
  obtain ⟨r, t, x, y⟩ := h
  obtain ⟨r', t', x', y'⟩ := h'
  obtain ⟨q, rfl⟩ := runs_one x x'
  cases q
  exact ⟨r, t, x, y, y'⟩
/-- what is shown twice of a tree holds at once -/
theorem wp_both {α : Type} {Γ : Ctx} {Q Q' : α → Pos → Shared → Prop} {E E' : Value → Pos → Shared → Prop} (t : Sem α) :
    ∀ {p : Pos} {s : Shared}, Sem.wp M Γ t Q E p s → Sem.wp M Γ t Q' E' p s → Sem.wp M Γ t (fun a p s => Q a p s ∧ Q' a p s) (fun e p s => E e p s ∧ E' e p s) p s := by
  induction t with
  | pure | raise => exact fun h h' => ⟨h, h'⟩
  | unsupported | finish | yield | fork | await | register => exact fun h _ => h
  | rule _ k ih | «at» _ k ih | alloc _ k ih | loadIfAlive _ k ih | point _ k ih | fresh k ih | ask k ih | os _ _ k ih | handled _ k ih | newGen _ k ih | stack k ih | thread k ih => exact fun h h' => ih _ h h'
  | load a _ k ih | genState a k ih =>
    rintro p s ⟨o, ho, h⟩ ⟨o', ho', h'⟩
    rw [ho] at ho'; cases ho'
    exact ⟨o, ho, ih _ h h'⟩
  | update a _ f k ih | choose _ _ k ih => exact fun h h' => ⟨h.1, ih _ h.2 h'.2⟩
  | call c h g l k ih => exact fun h h' => wpCode_mono (fun r s x => ih _ x.1 x.2) (wpCode_both h h')
  | resume g r l k ih =>
    rintro p s ⟨a, t, x, y⟩ ⟨a', t', x', y'⟩
    obtain ⟨rfl, rfl⟩ := wakes_one x x'
    exact ⟨a, t, x, ih _ y y'⟩
theorem wpAny_both {α : Type} {A : Around} {t : Sem α} {Q Q' : α → Shared → Prop} {E E' : Value → Shared → Prop} {s : Shared} (h : wpAny M A t Q E s) (h' : wpAny M A t Q' E' s) :
    wpAny M A t (fun a s => Q a s ∧ Q' a s) (fun e s => E e s ∧ E' e s) s := fun Γ p hΓ => wp_both t (h Γ p hΓ) (h' Γ p hΓ)
end Mine
end
section
open PySem PyProof.Rows
set_option maxRecDepth 100000
namespace Mine
theorem unchain_plain : plainId "proto.unchain" = true := by decide +kernel
theorem unchain_entry : entryFor table "proto.unchain" = some Builtin.«proto.unchain» := entryFor_of_tree (by kernel_rfl)
/-- the exception being handled, if one is, has no context -/
def Calm (A : Around) (h : Heap) : Prop := A.handled = none ∨ ∃ e oe ws, A.handled = some (.ref e) ∧ h.get? e = some oe ∧ oe.data = .fields ws ∧ ws[2]? = some .none
theorem Calm.at {A : Around} {h h' : Heap} (x : Calm A h) (k : ∀ b o, h.get? b = some o → h'.get? b = some o) : Calm A h' := by
  rcases x with x | ⟨e, oe, ws, x, y, z⟩
  · exact .inl x
  · exact .inr ⟨e, oe, ws, x, k _ _ y, z⟩
section
variable {prog : Program} {w : World} {A : Around} {E : Value → Shared → Prop} {s : Shared}
theorem raise_calm {α : Type} {x : Addr} {ox : Obj} {vs : Array Value} {Q : α → Shared → Prop} (hc : Calm A s.heap) (hnew : ∀ e o ws, s.heap.get? e = some o → o.data = .fields ws → A.handled = some (.ref e) → e ≠ x) (hx : s.heap.get? x = some ox) (hdx : ox.data = .fields vs) (hsz : 2 < vs.size)
    (h : ∀ h', Heap.SameBut x s.heap h' → (∃ o', h'.get? x = some o' ∧ o'.cls = ox.cls) → E (.ref x) { s with heap := h' }) : wpAny (model prog w) A (raiseNew (.ref x) : Sem α) Q E s := by
  unfold raiseNew
  refine wpAny_bind (wpAny_handled ?_)
  rcases hc with hc | ⟨e, oe, ws, hc, he, hde, h2⟩
  · rw [hc]
    exact wpAny_bind (wpAny_pure (wpAny_throw (h _ (Heap.SameBut.refl ..) ⟨_, hx, rfl⟩)))
  · have hne : e ≠ x := hnew e oe ws he hde hc
    rw [hc]
    show wpAny _ _ (if (Value.ref e != Value.ref x) = true then (holding [Value.ref x] (runValue (Code.builtin "proto.unchain" { pos := [Value.ref x, .ref e, .ref e, Value.bool false] })) >>= fun _ => updateField x 2 (.ref e) >>= fun _ => throw (Value.ref x)) else throw (Value.ref x)) _ _ _
    rw [if_pos (by simpa using hne)]
    refine wpAny_bind (wpAny_holding (wpAny_runValue (codeAny_builtin unchain_entry ?_)))
    rw [Around.under_plainId unchain_plain _]
    show wpAny _ _ (field (.ref e) 2 >>= _) _ _ _
    refine wpAny_bind (wpAny_field he hde h2 ?_)
    show wpAny _ _ (ret .none) _ _ _
    refine wpAny_pure ?_
    show wpAny _ _ (updateField x 2 (.ref e) >>= _) _ _ _
    refine wpAny_bind ?_
    unfold updateField
    refine wpAny_bind (wpAny_load hx ?_)
    rw [hdx]
    show wpAny _ _ (if 2 < vs.size then _ else _) _ _ _
    rw [if_pos hsz]
    refine wpAny_update hx (wpAny_throw (h _ (Heap.SameBut.update ..) ⟨_, Heap.get?_update_self _ hx (Obj.isFreed_of_fields (Obj.data_mapFields hdx _)), Obj.cls_mapFields _ _⟩))
theorem stop_calm {α : Type} {Q : α → Shared → Prop} {s : Shared} (hc : Calm A s.heap)
    (h : ∀ h' x, (∀ b o, s.heap.get? b = some o → h'.get? b = some o) → (∃ o', h'.get? x = some o' ∧ o'.cls = .type "StopIteration") → E (.ref x) { s with heap := h' }) :
    wpAny (model prog w) A (newExc (.type "StopIteration") [] >>= fun e => (raiseNew e : Sem α)) Q E s := by
  refine wpAny_bind ?_
  simp only [newExc, newTuple]
  refine wpAny_bind (wpAny_newObj_type ?_ (by size_fits))
  refine wpAny_bind (m := firstArgMember _ _) (wpAny_of_eq (a := Value.none) (by first | rfl | (simp only [firstArgMember]; rfl)) ?_)
  refine wpAny_newObj_type ?_ (by size_fits)
  have old : ∀ (o₁ o₂ : Obj) b o, s.heap.get? b = some o → ((s.heap.push o₁).push o₂).get? b = some o := fun _ _ b o q => Heap.get?_push_of_some _ (Heap.get?_push_of_some _ q)
  refine raise_calm (hc.at (old _ _)) ?_ (Heap.get?_push_size _ rfl) rfl (by rw [Array.size_append]; simp only [List.size_toArray, List.length_cons, List.length_nil]; omega) (fun h' hs hx => h h' _ (fun b o q => hs.extBut b o (Nat.ne_of_lt (by rw [Heap.size_push]; exact Nat.lt_succ_of_lt (Heap.lt_size q))) (old _ _ b o q)) hx)
  intro e o ws _ _ hh
  rcases hc with hc | ⟨e', oe, _, hc, he, _, _⟩
  · rw [hc] at hh; cases hh
  · rw [hc] at hh; cases hh
    exact Nat.ne_of_lt (by rw [Heap.size_push]; exact Nat.lt_succ_of_lt (Heap.lt_size he))
theorem tuple_end_calm {it t : Addr} {i : Nat} {items : Array Value} {Q : Option Value → Shared → Prop} (hc : Calm A s.heap) (hni : ∀ e, A.handled = some (.ref e) → e ≠ it)
    (hit : s.heap.IsTupleIter it t i) (ht : s.heap.IsTuple t items) (hx : items[i]? = none)
    (hQ : ∀ h', Heap.ExtBut it s.heap h' → Q none { s with heap := h' }) : wpAny (model prog w) A (pyNext (.ref it)) Q E s := by
  obtain ⟨o, ho, hcls, hd⟩ := id hit
  obtain ⟨ol, hol, _, nl, hdl⟩ := ht
  unfold pyNext
  refine wpAny_bind (wpAny_attempt (wpAny_callSpecial?_slot (name := Str.ofString "__next__") hit.typeIs F.slot_tuple_iterator_next
    (wpAny_call_entry F.slot_tuple_iterator_next hit.typeIs F.entry_tuple_iterator_next ?_ (F.args_tuple_iterator_next_1 _))))
  show wpAny _ _ (field (.ref it) 0 >>= _) _ _ s
  refine wpAny_bind (wpAny_field ho hd (x := .ref t) rfl ?_)
  show wpAny _ _ (if (Value.ref t == Value.none) = true then _ else _) _ _ s
  rw [if_neg (show ¬ ((Value.ref t == Value.none) = true) from Bool.false_ne_true)]
  show wpAny _ _ (field (.ref it) 1 >>= _) _ _ s
  refine wpAny_bind (wpAny_field ho hd (x := .int i 0) rfl ?_)
  show wpAny _ _ (seqItems? (.ref t) >>= _) _ _ s
  refine wpAny_bind (wpAny_seqItems hol hdl ?_)
  simp only [Int.toNat_natCast, hx]
  refine wpAny_bind (wpAny_rule (wpAny_bind (wpAny_setField ho hd (by simp) ?_)))
  have up : ∀ b o', b ≠ it → s.heap.get? b = some o' → (s.heap.update it (Obj.mapFields (·.setIfInBounds 0 Value.none))).get? b = some o' := fun b o' hb q => (Heap.get?_update_other _ _ (Ne.symm hb)).trans q
  have hc' : Calm A.in1 (s.heap.update it (Obj.mapFields (·.setIfInBounds 0 Value.none))) := by
    rcases hc with hc | ⟨e, oe, ws, hc, he, r⟩
    · exact .inl hc
    · exact .inr ⟨e, oe, ws, hc, up e oe (hni e hc) he, r⟩
  refine stop_calm hc' fun h' x k hx' => ?_
  refine wpAny_bind (wpAny_isInstance (T := "StopIteration") (b := true) hx' isSubtype_stop ?_)
  exact wpAny_pure (hQ _ fun b o' hb q => k b o' (up b o' hb q))
theorem unpack_calm {t : Addr} {items : Array Value} {Q : List Value → Shared → Prop} (hc : Calm A s.heap) (ht : s.heap.IsTuple t items)
    (hQ : ∀ h', Heap.ExtBut s.heap.objs.size s.heap h' → Q items.toList { s with heap := h' }) : wpAny (model prog w) A (unpackItems (.ref t) items.size none) Q E s := by
  have hlt : t ≠ s.heap.objs.size := by obtain ⟨o, ho, _⟩ := ht; exact Nat.ne_of_lt (Heap.lt_size ho)
  have hni : ∀ e, A.handled = some (.ref e) → e ≠ s.heap.objs.size := fun e he => by
    rcases hc with hc | ⟨e', oe, ws, hc, he', r⟩
    · rw [hc] at he; cases he
    · rw [hc] at he; cases he; exact Nat.ne_of_lt (Heap.lt_size he')
  unfold unpackItems
  refine wpAny_bind ?_
  · unfold notIterableAtAll
    refine wpAny_bind (wpAny_specialOf ht.typeIs F.slot_tuple_iter.lookup ?_)
    refine wpAny_pure ?_
    simp only [Bool.false_eq_true, if_false]
    refine wpAny_bind (wpAny_holding (wpAny_pyIter_tuple ht ?_))
    refine wpAny_bind (wpAny_holding (wpAny_draw_tuple hlt items.size 0 _ _ ⟨_, Heap.get?_push_size _ rfl, rfl, rfl⟩ (ht.push _) (by omega) fun h₁ hit₁ hs₁ => ?_))
    have hall : List.take items.size (List.drop 0 items.toList) = items.toList := by
      rw [List.drop_zero]; exact List.take_of_length_le (by simp)
    rw [hall]
    rw [if_neg (by simp)]
    have ht₁ : h₁.IsTuple t items := (ht.push _).extBut hs₁.extBut hlt
    have up : ∀ b o, b ≠ s.heap.objs.size → s.heap.get? b = some o → h₁.get? b = some o := fun b o hb e => hs₁.extBut b o hb (Heap.get?_push_of_some _ e)
    have hc₁ : Calm A h₁ := by
      rcases hc with hc | ⟨e, oe, ws, hc, he, r⟩
      · exact .inl hc
      · exact .inr ⟨e, oe, ws, hc, up e oe (hni e hc) he, r⟩
    refine wpAny_bind (wpAny_holding (tuple_end_calm hc₁ hni hit₁ ht₁ (by simp) fun h₂ he₂ => ?_))
    simp only [Option.isSome_none, Bool.false_eq_true, if_false]
    exact wpAny_pure (hQ h₂ fun b o hb e => he₂ b o hb (up b o hb e))
theorem assign_calm {env : Env} {elts : List Expr} {x1} {pos : Pos} {t : Addr} {items : Array Value} {Q : Unit → Shared → Prop} (hc : Calm A s.heap) (ht : s.heap.IsTuple t items)
    (hn : (assignEach elts env).length = items.size) (hstar : (assignEach elts env).findIdx? (·.1) = none)
    (h : ∀ h', Heap.ExtBut s.heap.objs.size s.heap h' → wpAny (model prog w) A (assignInOrder ((assignEach elts env).map (·.2)) items.toList) Q E { s with heap := h' }) :
    wpAny (model prog w) A (assign (.Tuple elts x1 pos) env (.ref t)) Q E s := by
  rw [arm_assign_Tuple]
  refine wpAny_bind (wpAny_standAt ?_)
  unfold unpack
  rw [hn, hstar]
  exact wpAny_bind (wpAny_holding (unpack_calm hc ht h))
end
end Mine
end
section
open PySem PySem.W PySem.Spec PySem.Calls PyProof.Rows
set_option maxRecDepth 100000
namespace Mine
/-- the ledger bears the exception at hand, if one is being handled; it has no context -/
def CalmN (A : Around) (news : List (Addr × Obj)) : Prop := A.handled = none ∨ ∃ e oe ws, A.handled = some (.ref e) ∧ (e, oe) ∈ news ∧ oe.data = .fields ws ∧ ws[2]? = some .none
theorem CalmN.at {A : Around} {h₀ h : Heap} {L : Addr} {news : List (Addr × Obj)} (x : CalmN A news) (N : News h₀ L h news) : Calm A h := by
  rcases x with x | ⟨e, oe, ws, x, y, z⟩
  · exact .inl x
  · exact .inr ⟨e, oe, ws, x, (N _ y).1, z⟩
def off2 (xi xv : Str) (m m' : Str → Option Value) : Prop := ∀ y, y ≠ xi → y ≠ xv → m' y = m y
theorem off2_eq {xi xv : Str} {m m' : Str → Option Value} {v u : Value} (h : off2 xi xv m m') : (fun y => if y = xv then some v else if y = xi then some u else m' y) = fun y => if y = xv then some v else if y = xi then some u else m y := by
  funext y
  by_cases h1 : y = xv
  · simp [h1]
  · by_cases h2 : y = xi
    · simp [h2]
    · simp only [if_neg h1, if_neg h2]; exact h y h2 h1
section
variable {prog : Program} {w : World} {A : Around} {E : Value → Shared → Prop} {s : Shared} {env : Env} {h₀ : Heap} {m : Str → Option Value} {news : List (Addr × Obj)} {Q : Flow → Shared → Prop}
def EnumEnd (h₀ : Heap) (L : Addr) (xi xv : Str) (m : Str → Option Value) (news own : List (Addr × Obj)) (s : Shared) (Q : Flow → Shared → Prop) (P : Prop) (f : Flow) (s₂ : Shared) : Prop := match f with
  | .ret u => Q (.ret u) s₂
  | .brk => Q .next s₂
  | _ => P ∧ ∃ h' tk' m', s₂ = { s with heap := h', toks := tk' } ∧ Fr h₀ L h' m' ∧ off2 xi xv m m' ∧ News h₀ L h' (news ++ own)
theorem EnumEnd.next {L : Addr} {xi xv : Str} {own : List (Addr × Obj)} {P : Prop} {h' : Heap} {tk' : Nat} {m' : Str → Option Value} (hP : P) (F : Fr h₀ L h' m') (ho : off2 xi xv m m') (N : News h₀ L h' (news ++ own)) :
    EnumEnd h₀ L xi xv m news own s Q P .next { s with heap := h', toks := tk' } := ⟨hP, h', tk', m', rfl, F, ho, N⟩
theorem EnumEnd.ret {L : Addr} {xi xv : Str} {own : List (Addr × Obj)} {P : Prop} {u : Value} {s₂ : Shared} (h : Q (.ret u) s₂) : EnumEnd h₀ L xi xv m news own s Q P (.ret u) s₂ := h
theorem enum_loop {xi xv : Str} {pi pv pt : Pos} {x1} {body orelse : List Stmt} {e it l : Addr} {items : Array Value} {R : Result → Shared → Prop} (P : Nat → Prop)
    (hxi : env.kindOf xi = some .local) (hxv : env.kindOf xv = some .local) (hp : (env.scope.kind == .class || (env.scope.kind == .module && env.locals != env.globals)) = false)
    (hei : e ≠ it) (heL : e ≠ env.locals) (hiL : it ≠ env.locals) (he0 : h₀.get? e = none) (hi0 : h₀.get? it = none) (hnew : ∀ p ∈ news, p.1 ≠ e ∧ p.1 ≠ it) (hlm : ∃ o, (l, o) ∈ news)
    (he : IsEnum s.heap e it 0 .none) (hit : s.heap.IsListIter it l 0) (hl : s.heap.IsList l items) (F : Fr h₀ env.locals s.heap m) (N : News h₀ env.locals s.heap news)
    (hc : CalmN A news) (hend : A.handled = none ∨ ((∀ j, j < items.size → P j) → False))
    (step : ∀ i v t h tk own, items[i]? = some v → (∀ j, j < i → P j) → Fr h₀ env.locals h (fun y => if y = xv then some v else if y = xi then some (.int (i : Nat) t) else m y) → News h₀ env.locals h (news ++ own) →
      wpAny (model prog w) A (execs body env) (EnumEnd h₀ env.locals xi xv m news own { s with heap := h, toks := tk } (fun f s' => R (.ok f) s') (P i)) (notedBy (model prog w) A env fun e s' => R (.error e) s') { s with heap := h, toks := tk })
    (done : ∀ h tk m', (∀ j, j < items.size → P j) → Fr h₀ env.locals h m' → off2 xi xv m m' → News h₀ env.locals h news →
      wpAny (model prog w) A (execs orelse env) (fun f s₃ => R (.ok f) s₃) (notedBy (model prog w) A env fun e s' => R (.error e) s') { s with heap := h, toks := tk }) :
    codeAny (model prog w) A (.forLoop (.Tuple [.Name xi pi, .Name xv pv] x1 pt) (.ref e) body orelse env) R s := by
  have old : ∀ b o, h₀.get? b = some o → b ≠ e ∧ b ≠ it := fun b o q => ⟨fun x => (by rw [x, he0] at q; cases q), fun x => (by rw [x, hi0] at q; cases q)⟩
  refine codeAny_forLoop_any
    (fun k s' => ∃ h' tk m' i old', s' = { s with heap := h', toks := tk } ∧ IsEnum h' e it ((i : Nat) : Int) old' ∧ h'.IsListIter it l i ∧ h'.IsList l items ∧ Fr h₀ env.locals h' m' ∧ off2 xi xv m m' ∧ News h₀ env.locals h' news ∧ (∀ j, j < i → P j) ∧ i ≤ items.size ∧
      k = items.size + 1 - i) ?_ (items.size + 1)
    ⟨s.heap, s.toks, m, 0, .none, rfl, he, hit, hl, F, fun _ _ _ => rfl, N, fun j hj => absurd hj (Nat.not_lt_zero _), Nat.zero_le _, rfl⟩
  rintro k s' ⟨H, tk, m', i, old', rfl, he', hit', hl', F', hoff, N', hP, hi, rfl⟩
  cases hv : items[i]? with
  | none =>
    have hsz : i = items.size := Nat.le_antisymm hi (by simpa using hv)
    subst hsz
    have hh : A.handled = none := hend.elim id fun q => (q hP).elim
    refine wpAny_pyNext_enum_end hh he' hit' hl' hv fun h₁ he₁ => ?_
    exact done h₁ tk m' hP ⟨F'.ns.at' fun o q => he₁ _ o (Ne.symm hiL) q, fun b o q => he₁ b o (old b o q).2 (F'.keep b o q), F'.above⟩ hoff fun p hp => ⟨he₁ _ _ (hnew p hp).2 (N' p hp).1, (N' p hp).2⟩
  | some v =>
    have hlt : i < items.size := (Array.getElem?_eq_some_iff.mp hv).1
    have heH : e < H.objs.size := Heap.lt_size he'
    have hLH : env.locals < H.objs.size := F'.ns.lt
    obtain ⟨oi, hoi, _⟩ := id hit'
    obtain ⟨ol, hol, _⟩ := id hl'
    have hiH : it < H.objs.size := Heap.lt_size hoi
    have hlH : l < H.objs.size := Heap.lt_size hol
    refine wpAny_pyNext_enum_item he' hit' hl' hv hei fun h₁ heo hit₁ ht₁ hz₁ hk₁ => ?_
    refine wpAny_letOwnedTupleGo_enum heo fun h₂ he₂ hs₂ => ?_
    replace hs₂ : Heap.SameBut e h₁ h₂ := hs₂
    have ht₂ : h₂.IsTuple H.objs.size #[.int i tk, v] := ⟨_, (hs₂.2 _ (Nat.ne_of_gt heH)).trans ht₁, rfl, _, rfl⟩
    have hz₂ : h₂.objs.size = H.objs.size + 1 := hs₂.1.trans hz₁
    have up₂ : ∀ b o, b ≠ e → b ≠ it → H.get? b = some o → h₂.get? b = some o := fun b o hbe hbi q => hs₂.extBut b o hbe (hk₁ b o hbe hbi q)
    have N₂ : News h₀ env.locals h₂ news := fun p hp => ⟨up₂ _ _ (hnew p hp).1 (hnew p hp).2 (N' p hp).1, (N' p hp).2⟩
    refine assign_calm (hc.at N₂) ht₂ rfl rfl fun h₃ hx₃ => ?_
    replace hx₃ : Heap.ExtBut h₂.objs.size h₂ h₃ := hx₃
    have up₃ : ∀ b o, b < H.objs.size → h₂.get? b = some o → h₃.get? b = some o := fun b o hb x => hx₃ b o (by rw [hz₂]; exact Nat.ne_of_lt (Nat.lt_succ_of_lt hb)) x
    have F₃ : Fr h₀ env.locals h₃ m' := ⟨F'.ns.at' fun o q => up₃ _ o hLH (up₂ _ o (Ne.symm heL) (Ne.symm hiL) q), fun b o q => up₃ b o (Heap.lt_size (F'.keep b o q)) (up₂ b o (old b o q).1 (old b o q).2 (F'.keep b o q)), F'.above⟩
    have N₃ : News h₀ env.locals h₃ news := fun p hp => ⟨up₃ _ _ (Heap.lt_size (N' p hp).1) (N₂ p hp).1, (N' p hp).2⟩
    show wpAny _ A (do holding [v] (assign (.Name xi pi) env (.int i tk)); do holding [] (assign (.Name xv pv) env v); pure ()) _ _ _
    refine wpAny_bind (wpAny_holding (wpAny_assign_Name (wpAny_storeName_local hxi F₃.ns (fun h₄ hn₄ hs₄ => ?_) hp)))
    replace hs₄ : Heap.SameBut env.locals h₃ h₄ := hs₄
    have F₄ := F₃.set hn₄ hs₄
    refine wpAny_bind (wpAny_holding (wpAny_assign_Name (wpAny_storeName_local hxv F₄.ns (fun h₅ hn₅ hs₅ => wpAny_pure ?_) hp)))
    replace hs₅ : Heap.SameBut env.locals h₄ h₅ := hs₅
    have F₅ := F₄.set hn₅ hs₅
    have N₅ : News h₀ env.locals h₅ news := (N₃.set hs₄).set hs₅
    rw [off2_eq hoff] at F₅
    have up₅ : ∀ b o, b ≠ env.locals → b < H.objs.size → h₂.get? b = some o → h₅.get? b = some o := fun b o hbL hb q => hs₅.extBut b o hbL (hs₄.extBut b o hbL (up₃ b o hb q))
    have upT : ∀ b o, b ≠ env.locals → b < H.objs.size → b ≠ e → b ≠ it → H.get? b = some o → h₅.get? b = some o := fun b o hbL hb hbe hbi q => up₅ b o hbL hb (up₂ b o hbe hbi q)
    obtain ⟨oi₁, hoi₁, hic₁, hid₁⟩ := id hit₁
    have he₅ := up₅ e _ heL heH he₂
    have hi₅ := up₅ it oi₁ hiL hiH (hs₂.extBut it oi₁ (Ne.symm hei) hoi₁)
    obtain ⟨oe, hoe, henum⟩ : ∃ oe, h₅.get? e = some oe ∧ ∀ h', h'.get? e = some oe → IsEnum h' e it ((i : Int) + 1) v := ⟨_, he₅, fun h' q => q⟩
    have Nown : News h₀ env.locals h₅ (news ++ [(e, oe), (it, oi₁)]) := fun p hp => by
      rcases List.mem_append.mp hp with hp | hp
      · exact N₅ p hp
      · rcases List.mem_cons.mp hp with rfl | hp
        · exact ⟨hoe, heL, he0⟩
        · rw [List.mem_singleton.mp hp]; exact ⟨hi₅, hiL, hi0⟩
    refine wpAny_mono (step i v tk h₅ _ _ hv hP F₅ Nown) (fun f s₃ h₆ => ?_) fun _ _ x => x
    have fin : (P i ∧ ∃ h' tk' m', s₃ = { s with heap := h', toks := tk' } ∧ Fr h₀ env.locals h' m' ∧ off2 xi xv m m' ∧ News h₀ env.locals h' (news ++ [(e, oe), (it, oi₁)])) → ∃ k, k < items.size + 1 - i ∧
        ∃ h' tk m' i old', s₃ = { s with heap := h', toks := tk } ∧ IsEnum h' e it ((i : Nat) : Int) old' ∧ h'.IsListIter it l i ∧ h'.IsList l items ∧ Fr h₀ env.locals h' m' ∧ off2 xi xv m m' ∧ News h₀ env.locals h' news ∧ (∀ j, j < i → P j) ∧ i ≤ items.size ∧
      k = items.size + 1 - i := by
      rintro ⟨hPi, h', tk', m₂, rfl, F₆, hoff₆, N₆⟩
      obtain ⟨ol', hlm'⟩ := hlm
      obtain ⟨ol₂, hol₂, hlr⟩ := id hl
      have hols : ol' = ol₂ := by have := (N _ hlm').1; rw [hol₂] at this; exact (Option.some.inj this).symm
      refine ⟨items.size + 1 - (i + 1), by omega, h', tk', m₂, i + 1, v, rfl, ?_, ⟨oi₁, ?_, hic₁, hid₁⟩, ?_, F₆, hoff₆, fun p hp => N₆ p (List.mem_append.mpr (.inl hp)), fun j hj => ?_, hlt, rfl⟩
      · have : ((i + 1 : Nat) : Int) = (i : Int) + 1 := by push_cast; rfl
        rw [this]
        exact henum h' (N₆ _ (List.mem_append.mpr (.inr (.head _)))).1
      · exact (N₆ _ (List.mem_append.mpr (.inr (.tail _ (.head _))))).1
      · exact ⟨ol₂, hols ▸ (N₆ _ (List.mem_append.mpr (.inl hlm'))).1, hlr⟩
      · rcases Nat.lt_or_eq_of_le (Nat.le_of_lt_succ hj) with q | q
        · exact hP j q
        · exact q ▸ hPi
    cases f with
    | ret u => exact h₆
    | brk => exact h₆
    | next => exact fin h₆
    | cont => exact fin h₆
theorem enum_call {xi xv : Str} {pi pv pt : Pos} {x1} {body orelse : List Stmt} {l : Addr} {vs : List Value} {n : Nat} (P : Nat → Prop)
    (F : Fr h₀ env.locals s.heap m) (N : News h₀ env.locals s.heap news) (hm : (l, listOf vs.toArray n) ∈ news) (hc : CalmN A news) (hend : A.handled = none ∨ ((∀ j, j < vs.length → P j) → False))
    (step : ∀ i v t h tk own, vs[i]? = some v → (∀ j, j < i → P j) → Fr h₀ env.locals h (fun y => if y = xv then some v else if y = xi then some (.int (i : Nat) t) else m y) → News h₀ env.locals h (news ++ own) →
      wpAny (model prog w) A (execs body env) (EnumEnd h₀ env.locals xi xv m news own { s with heap := h, toks := tk } Q (P i)) E { s with heap := h, toks := tk })
    (done : ∀ h tk m', (∀ j, j < vs.length → P j) → Fr h₀ env.locals h m' → off2 xi xv m m' → News h₀ env.locals h news → wpAny (model prog w) A (execs orelse env) Q E { s with heap := h, toks := tk })
    (hE : PassesOwn (model prog w) A env E)
    (hxi : env.kindOf xi = some .local := by rfl) (hxv : env.kindOf xv = some .local := by rfl) (hp : (env.scope.kind == .class || (env.scope.kind == .module && env.locals != env.globals)) = false := by rfl) :
    wpAny (model prog w) A (call (.type "enumerate") [.ref l]) (fun x s₁ => wpAny (model prog w) A (pyIter x) (fun it s₂ =>
      codeAny (model prog w) A (.forLoop (.Tuple [.Name xi pi, .Name xv pv] x1 pt) it body orelse env) (fun r s' => match r with | .ok f => Q f s' | .error e => cameBackBy (model prog w) A env E e s') s₂) E s₁) E s := by
  have hl : s.heap.IsList l vs.toArray := ⟨_, (N _ hm).1, rfl, n, rfl⟩
  have hLs : env.locals < s.heap.objs.size := F.ns.lt
  have hab : h₀.objs.size ≤ env.locals := F.above
  refine call_enumerate_list hl fun h' hE' hI hsz hk => ?_
  refine wpAny_pyIter_enum hE' ?_
  have F' : Fr h₀ env.locals h' m := ⟨F.ns.keeps hk, fun b o e => hk b o (F.keep b o e), F.above⟩
  have N' : News h₀ env.locals h' news := fun p hp => ⟨hk _ _ (N p hp).1, (N p hp).2⟩
  have none0 : ∀ a, s.heap.objs.size ≤ a → h₀.get? a = none := fun a ha => Heap.get?_none_of_le (Nat.le_trans hab (Nat.le_trans (Nat.le_of_lt hLs) ha))
  refine enum_loop (P := P) (e := s.heap.objs.size + 1) (it := s.heap.objs.size) (items := vs.toArray) hxi hxv hp (Nat.succ_ne_self _) (Nat.ne_of_gt (Nat.lt_succ_of_lt hLs)) (Nat.ne_of_gt hLs) (none0 _ (Nat.le_succ _)) (none0 _ (Nat.le_refl _)) ?_ ⟨_, hm⟩ hE' hI ⟨_, (N' _ hm).1, rfl, n, rfl⟩ F' N' hc (by simpa using hend) ?_ ?_
  · intro p hp
    have := Heap.lt_size (N p hp).1
    exact ⟨Nat.ne_of_lt (Nat.lt_succ_of_lt this), Nat.ne_of_lt this⟩
  · intro i v t h tk own hi hP F₁ N₁
    exact wpAny_passesOwn hE (step i v t h tk own (by simpa using hi) hP F₁ N₁)
  · intro h tk m' hP F₁ ho N₁
    exact wpAny_passesOwn hE (done h tk m' (by simpa using hP) F₁ ho N₁)
end
end Mine
end
section
open PySem PySem.W PySem.Spec PySem.Calls PyProof.Rows
set_option maxRecDepth 100000
namespace Mine
/-- the exception e has no context -/
def C0 (h : Heap) (e : Addr) : Prop := ∃ oe vs, h.get? e = some oe ∧ oe.data = .fields vs ∧ vs[2]? = some .none
section
variable {M : Model} {A : Around} {E : Value → Shared → Prop} {s : Shared}
theorem entry_C {base : Heap} {env : Env} {outer : List Env} {L e : Addr} {oe : Obj} {vs : Array Value} {head : Value} {hadNext : Bool} {Q : Unit → Shared → Prop}
    (hfr : A.frames = some (env :: outer)) (hl : s.heap.FunFrames base (env :: outer)) (hf : env.frame = some L)
    (he : s.heap.get? e = some oe) (hd : oe.data = .fields vs) (h1 : 1 < vs.size) (h2 : vs[2]? = some .none)
    (h : ∀ h' T, C0 h' e → T ≠ e → (∃ oT ts, h'.get? T = some oT ∧ oT.data = .fields ts ∧ 3 < ts.size) → (∃ oe' vs', h'.get? e = some oe' ∧ oe'.data = .fields vs' ∧ vs'[1]? = some (.ref T)) → Q () { s with heap := h' }) :
    wpAny M A (do let a ← frameOf env; let pl ← entryPlaceOf L hadNext; let b ← EntryCells.newEntry head a .none (rawInt L) .none pl; setField (.ref e) 1 b) Q E s := by
  have hene : e ∉ (env :: outer).filterMap (·.frame) := fun hm => by
    obtain ⟨_, o, ho, hnf⟩ := hl.mem hm
    rw [he] at ho; injection ho with ho; subst ho; exact hnf vs hd
  refine wpAny_bind (wpAny_frameOf_fun hfr hl hf fun h₁ hs₁ => ?_)
  refine wpAny_bind (wpAny_entryPlaceOf fun pl hpl => ?_)
  unfold EntryCells.newEntry newFields
  refine wpAny_bind (wpAny_newObj_type ?_ (hpl.sizeOk5 _ _ _ _ _))
  have he₁ : h₁.get? e = some oe := (hs₁.2.1 e hene).trans he
  have he₂ := Heap.get?_push_of_some (h := h₁) { cls := .type "traceback", dict := none, data := .fields ([head, .ref L, .none, rawInt L, .none] ++ (if pl.isEmpty then List.replicate 6 Value.none else pl)).toArray } he₁
  have hTe : h₁.objs.size ≠ e := Nat.ne_of_gt (Heap.lt_size he₁)
  have hd₃ := Obj.data_mapFields hd (·.setIfInBounds 1 (Value.ref h₁.objs.size))
  have he₃ := Heap.get?_update_self (Obj.mapFields (·.setIfInBounds 1 (Value.ref h₁.objs.size))) he₂ (Obj.isFreed_of_fields hd₃)
  have hT₃ := (Heap.get?_update_other (h₁.push { cls := .type "traceback", dict := none, data := .fields ([head, .ref L, .none, rawInt L, .none] ++ (if pl.isEmpty then List.replicate 6 Value.none else pl)).toArray })
    (Obj.mapFields (·.setIfInBounds 1 (Value.ref h₁.objs.size))) (Ne.symm hTe)).trans (Heap.get?_push_size h₁ rfl)
  refine wpAny_setField he₂ hd h1 (h _ h₁.objs.size ⟨_, _, he₃, hd₃, by rw [Array.getElem?_setIfInBounds_ne (by decide)]; exact h2⟩ hTe ⟨_, _, hT₃, rfl, by simp only [List.size_toArray, List.length_append, List.length_cons, List.length_nil]; omega⟩ ⟨_, _, he₃, hd₃, by simp [h1]⟩)
/-- noteFrame of an exception under way -/
theorem looks_C {base : Heap} {env : Env} {outer : List Env} {L e : Addr} {cls a0 : Value}
    (hfr : A.frames = some (env :: outer)) (hf : env.frame = some L) (hfl : Heap.FlyingW base (env :: outer) e cls a0 s.heap) (hc : C0 s.heap e) : wpAny M A (noteFrame (.ref e) env) (fun _ s' => C0 s'.heap e) E s := by
  obtain ⟨_, _, hl, oe, vs, T, oT, ts, he, ⟨hcls, h0⟩, hd, h1, hnT, hTe, hT, hdT, h3⟩ := hfl
  obtain ⟨oe', vs', he', hd', h2⟩ := hc
  rw [he] at he'
  cases he'
  rw [hd] at hd'
  cases hd'
  unfold noteFrame
  simp only [hf]
  refine wpAny_bind (wpAny_field he hd h1 ?_)
  rw [if_pos (show (Value.ref T != Value.none) = true from by simp)]
  refine wpAny_bind (wpAny_field hT hdT h3 ?_)
  rw [if_neg (show ¬ ((Value.none == rawInt L) = true) from by simp [rawInt])]
  refine wpAny_bind (wpAny_setField hT hdT (Array.getElem?_eq_some_iff.mp h3).1 ?_)
  have other : ∀ b, b ≠ T → (s.heap.update T (Obj.mapFields (·.setIfInBounds 3 Value.none))).get? b = s.heap.get? b := fun b hb => Heap.get?_update_other _ _ (Ne.symm hb)
  have noRecord : ∀ b o, s.heap.get? b = some o → (∀ vs, o.data ≠ .fields vs) → b ≠ T := fun b o hb hnf q => by
    rw [q, hT] at hb; injection hb with hb; subst hb; exact hnf ts hdT
  exact entry_C hfr (hl.of_keeps fun b o hb hnf => ⟨o, (other b (noRecord b o hb hnf)).trans hb, rfl⟩) hf ((other e (Ne.symm hTe)).trans he) hd (Array.getElem?_eq_some_iff.mp h1).1 h2 fun h' T x _ _ _ => x
theorem flight_C {e T : Addr} {oe oT : Obj} {vs ts : Array Value} (he : s.heap.get? e = some oe) (hd : oe.data = .fields vs) (h1 : vs[1]? = some (.ref T)) (h2 : vs[2]? = some .none) (hTe : T ≠ e) (hT : s.heap.get? T = some oT) (hdT : oT.data = .fields ts) (h3 : 3 < ts.size) :
    wpAny M A (setFlight (.ref e) none) (fun _ s' => C0 s'.heap e) E s := by
  unfold setFlight
  refine wpAny_bind (wpAny_field he hd h1 ?_)
  rw [if_pos (show (Value.ref T != Value.none) = true from by simp)]
  exact wpAny_setField hT hdT h3 ⟨oe, vs, (Heap.get?_update_other _ _ hTe).trans he, hd, h2⟩
theorem lands_C {base : Heap} {e : Addr} {cls a0 fl : Value} (ht : s.heap.TracedAtW base e cls a0 fl) (hc : C0 s.heap e) : wpAny M A (setFlight (.ref e) none) (fun _ s' => C0 s'.heap e) E s := by
  obtain ⟨oe, vs, T, oT, ts, he, ⟨hcls, h0⟩, hd, h1, hnT, hTe, hT, hdT, h3⟩ := ht
  obtain ⟨oe', vs', he', hd', h2⟩ := hc
  rw [he] at he'
  cases he'
  rw [hd] at hd'
  cases hd'
  exact flight_C he hd h1 h2 hTe hT hdT (Array.getElem?_eq_some_iff.mp h3).1
/-- an exception leaves the frame that made it -/
theorem leaves_C {base h : Heap} {env : Env} {outer : List Env} {L e : Addr} {cls : Value} {args : List Value}
    (hfr : A.frames = some (env :: outer)) (hf : env.frame = some L) (hl : h.FunFrames base (env :: outer)) (hx : Heap.MadeExcOf h s.heap e cls args) : wpAny M A (leaving env (.ref e)) (fun _ s' => C0 s'.heap e) E s := by
  obtain ⟨t, he, htn, ht⟩ := hx.there
  unfold leaving noteFrame
  simp only [hf]
  refine wpAny_bind (wpAny_bind (wpAny_field he rfl (x := .none) rfl ?_))
  rw [if_neg (by decide)]
  refine entry_C hfr (hl.of_keeps fun b o hb _ => ⟨o, hx.keeps b o hb, rfl⟩) hf he rfl (by simp) rfl fun h' T x y z q => ?_
  obtain ⟨oT, ts, hT, hdT, h3⟩ := z
  obtain ⟨oe, vs, he', hd', h2⟩ := x
  obtain ⟨oe', vs', he2, hd2, h1⟩ := q
  rw [he'] at he2
  cases he2
  rw [hd'] at hd2
  cases hd2
  exact flight_C he' hd' h1 h2 y hT hdT h3
end
section
variable {M : Model} {A : Around} {E : Value → Shared → Prop} {s' : Shared} {base g g₂ h : Heap} {outer : List Env} {L a e t : Addr} {m : Str → Option Value} {name : Str} {scope : Scope} {cd : Value} {Q : Unit → Shared → Prop} {news : List (Addr × Obj)}
theorem leave_raiseC {cls : Value} {vs : List Value} (K : Below A base outer g) (hx : Heap.MadeExcOf h s'.heap e cls vs) (F : Fr g L h m) (N : News g L h news)
    (hQ : ∀ h' t, RaisedS base g outer e cls t vs news h' → g.UpToSlots h' → C0 h' e → Q () { s' with heap := h' }) (hk : scope.kind = .function := by rfl) :
    wpAny M (A.deeper (envOf name scope L a cd)) (leaving (envOf name scope L a cd) (.ref e)) Q E s' := by
  have K' := K.push (name := name) (a := a) (cd := cd) F hk
  have w1 := leave_raiseS (M := M) (a := a) (name := name) (scope := scope) (cd := cd) (E := E) (Q := fun _ s'' => ∃ h' t, s'' = { s' with heap := h' } ∧ RaisedS base g outer e cls t vs news h' ∧ g.UpToSlots h') K hx F N (fun h' t R _ U => ⟨h', t, rfl, R, U⟩) hk
  have w2 := leaves_C (M := M) (E := E) K'.stack rfl K'.frames hx
  refine wpAny_mono (wpAny_both w1 w2) (fun _ s'' x => ?_) fun _ _ x => x.1
  obtain ⟨⟨h', t, rfl, R, U⟩, c⟩ := x
  exact hQ h' t R U c
end
end Mine
end
section
open PySem PySem.W PySem.Spec PySem.Calls PyProof.Rows
set_option maxRecDepth 100000
namespace Mine
section
variable {M : Model} {A : Around} {E : Value → Shared → Prop} {s : Shared}
theorem looks_onC {base : Heap} {env : Env} {outer : List Env} {L e : Addr} {cls a0 : Value} {Q : Unit → Shared → Prop} (hfr : A.frames = some (env :: outer)) (hf : env.frame = some L) (hfl : Heap.FlyingW base (env :: outer) e cls a0 s.heap) (hc : C0 s.heap e)
    (hQ : ∀ h', Heap.HeldW base (env :: outer) e cls a0 L h' → s.heap.UpToSlots h' → C0 h' e → Q () { s with heap := h' }) : wpAny M A (noteFrame (.ref e) env) Q E s := by
  have w1 := wpAny_looks_onW (M := M) (E := E) (Q := fun _ s'' => ∃ h', s'' = { s with heap := h' } ∧ Heap.HeldW base (env :: outer) e cls a0 L h' ∧ s.heap.UpToSlots h') hfr hf hfl fun h' x y => ⟨h', rfl, x, y⟩
  refine wpAny_mono (wpAny_both w1 (looks_C (E := E) hfr hf hfl hc)) (fun _ s'' x => ?_) fun _ _ x => x.1
  obtain ⟨⟨h', rfl, a, b⟩, c⟩ := x
  exact hQ h' a b c
theorem landsC {base : Heap} {l : List Env} {e L : Addr} {cls a0 : Value} {Q : Unit → Shared → Prop} (hh : Heap.HeldW base l e cls a0 L s.heap) (hc : C0 s.heap e)
    (hQ : ∀ h', Heap.FlyingW base l e cls a0 h' → s.heap.UpToSlots h' → C0 h' e → Q () { s with heap := h' }) : wpAny M A (setFlight (.ref e) none) Q E s := by
  have w1 := wpAny_landsW (M := M) (A := A) (E := E) (Q := fun _ s'' => ∃ h', s'' = { s with heap := h' } ∧ Heap.FlyingW base l e cls a0 h' ∧ s.heap.UpToSlots h') hh fun h' x y => ⟨h', rfl, x, y⟩
  refine wpAny_mono (wpAny_both w1 (lands_C (E := E) hh.2.2.2 hc)) (fun _ s'' x => ?_) fun _ _ x => x.1
  obtain ⟨⟨h', rfl, a, b⟩, c⟩ := x
  exact hQ h' a b c
theorem lands_againC {base : Heap} {l : List Env} {e : Addr} {cls a0 : Value} {Q : Unit → Shared → Prop} (hh : Heap.FlyingW base l e cls a0 s.heap) (hc : C0 s.heap e)
    (hQ : ∀ h', Heap.FlyingW base l e cls a0 h' → s.heap.UpToSlots h' → C0 h' e → Q () { s with heap := h' }) : wpAny M A (setFlight (.ref e) none) Q E s := by
  have w1 := lands_againW (M := M) (A := A) (E := E) (Q := fun _ s'' => ∃ h', s'' = { s with heap := h' } ∧ Heap.FlyingW base l e cls a0 h' ∧ s.heap.UpToSlots h') hh fun h' x y => ⟨h', rfl, x, y⟩
  refine wpAny_mono (wpAny_both w1 (lands_C (E := E) hh.2.2.2.at hc)) (fun _ s'' x => ?_) fun _ _ x => x.1
  obtain ⟨⟨h', rfl, a, b⟩, c⟩ := x
  exact hQ h' a b c
end
section
variable {prog : Program} {w : World} {A₀ : Around} {E : Value → Shared → Prop} {s' : Shared} {base g g₀ G : Heap} {outer : List Env} {L a e t : Addr} {m : Str → Option Value} {name : Str} {scope : Scope} {cd : Value}
  {vs : List Value} {b₀ : Stmt} {suite : List Stmt} {pos np : Pos} {rest : List ExceptHandler} {Q : Flow → Shared → Prop} {news : List (Addr × Obj)} {KF : Frag}
  {p : Program} {loose : List Str} {mean : ExcName → Option Value} {mg mb : Str → Option Value} {x : Str} {X T' : String}
/-- an except clause catches an exception without context: in its suite the ledger bears it -/
theorem caught_C (R : RaisedS base G (envOf name scope L a cd :: outer) e (.type X) t vs news s'.heap) (F : Fr g L G m) (K : Below A₀ base outer g) (hsm : G.UpToSlots s'.heap) (hC : C0 s'.heap e) (XB : KF.In base) (TB : Top p loose mean mg mb base)
    (D : KtsDicts (outer.filterMap (·.frame)) g) (T0 : KtsTurn (outer.filterMap (·.frame)) g₀ g)
    (ex : nsIn KF mainGlobals x = some none) (hv : bootBuiltins x = some (.type T')) (hn' : x ≠ "__name__")
    (hexc : isSubtype (.type T') (.type "BaseException") = pure true) (hnt : isSubtype (.type ((Manifest.find? T').elim "type" fun y => y.metatype)) (.type "tuple") = pure false) (hsub : isSubtype (.type X) (.type T') = pure true)
    (k : ∀ h' g' oe ws, KtsTurn (outer.filterMap (·.frame)) g₀ g' → Fr g' L h' m → oe.data = .fields ws → ws[2]? = some .none → News g' L h' ((e, oe) :: news) → Below A₀ base outer g' → KF.In g' → Top p loose mean mg mb g' → KtsDicts (outer.filterMap (·.frame)) g' →
      wpAny (model prog w) ((A₀.deeper (envOf name scope L a cd)).mark (some (.ref e))) (execs (b₀ :: suite) (envOf name scope L a cd)) Q E { s' with heap := h' })
    (hk : scope.kind = .function := by rfl) (hx : (envOf name scope L a cd).kindOf x = some .globalImplicit := by rfl) (hd : (x == ("__debug__" : Str)) = false := by decide)
    (hE : PassesOwnAt (model prog w) ((A₀.deeper (envOf name scope L a cd)).mark (some (.ref e))) (A₀.deeper (envOf name scope L a cd)) (envOf name scope L a cd) E := by passes_own) :
    wpAny (model prog w) (A₀.deeper (envOf name scope L a cd)) (noteFrame (.ref e) (envOf name scope L a cd))
      (fun _ s₂ => wpAny (model prog w) (A₀.deeper (envOf name scope L a cd)) (setFlight (.ref e) none) (fun _ s₃ =>
        wpAny (model prog w) (A₀.deeper (envOf name scope L a cd)) (handleBy (.ref e) (envOf name scope L a cd) (.ExceptHandler (some (.Name x np)) none (b₀ :: suite) pos :: rest)) Q E s₃) E s₂) E s' := by
  obtain ⟨⟨B, hB, hBG, hl, hfl, hnew⟩, htup⟩ := R
  have hL : B.get? L = none := by
    obtain ⟨_, ⟨L', _, hf, hn', _⟩, _⟩ := hfl.2.2.1
    obtain rfl : L = L' := Option.some.inj hf
    exact hn'
  refine looks_onC (Around.frames_deeper K.stack) rfl hfl hC fun h₄ hheld₄ hsm₄ c₄ => ?_
  refine landsC hheld₄ c₄ fun h₅ hheld hsm₅' c₅ => ?_
  have hsm₅ := hsm₄.trans hsm₅'
  obtain ⟨g₅, T₅, F₅, K₅⟩ := kts_ground K F hBG hheld.1 (hsm.trans hsm₅)
  have X₅ : KF.In g₅ := XB.keeps K₅.stays
  have P₅ : TopRead p loose mg mb g₅ := topRead_of (TB.keeps K₅.stays)
  obtain ⟨ob, hob, hobc⟩ := hheld.there
  refine wpAny_handleBy_builtin (X := X) (T := T') (b := true) hexc hnt hsub (name_B F₅ X₅ P₅ ex hv hn' ⟨rfl, ⟨ob, hob, hobc⟩, ?_⟩ hk hx hd)
  refine lands_againC hheld c₅ fun h₆ hfl₆ hsm₆ c₆ => ?_
  obtain ⟨g₆, T₆, F₆, K₆⟩ := kts_ground K F hBG hfl₆.1 ((hsm.trans hsm₅).trans hsm₆)
  obtain ⟨oe, ws, hoe, hoed, hoe2⟩ := c₆
  have ne₆ : g₆.get? e = none := T₆.none_ _ (kts_fresh F hBG hfl₆.2.1 fun o ho m => by
    obtain ⟨_, o', ho', hd⟩ := K.frames.mem m
    rw [ho] at ho'
    cases ho'
    obtain ⟨sl, hs⟩ := ((hsm.trans hsm₅).trans hsm₆) _ _ (F.keep _ _ ho) hd
    rw [hoe] at hs
    cases hs
    exact hd _ hoed)
  have Nl : News g₆ L h₆ news := fun q hq => ⟨hfl₆.1 _ _ (hl q hq).1, (fun z => by have := (hl q hq).1; rw [z, hL] at this; cases this), T₆.none_ _ (kts_none F.keep (hl q hq).2.1)⟩
  have N₆ := News.more F₆ Nl hoe (fun es n q => by rw [hoed] at q; cases q) ne₆
  have X₆ : KF.In g₆ := XB.keeps K₆.stays
  have P₆ : Top p loose mean mg mb g₆ := TB.keeps K₆.stays
  have D₆ : KtsDicts (outer.filterMap (·.frame)) g₆ := D.turn T₆
  exact wpAny_passesOwnAt hE (k h₆ g₆ oe ws (T0.trans T₆) F₆ hoed hoe2 N₆ K₆ X₆ P₆ D₆)
end
end Mine
end
section
open PySem PySem.W PySem.Spec PySem.Calls PyProof.Rows
namespace Mine
theorem small_of {xs : List Int} {i : Nat} {x : Int} (h : ∀ x ∈ xs, 0 ≤ x ∧ x ≤ 256) (e : xs[i]? = some x) : smallInt x = true := by
  have := h x (List.mem_of_getElem? e)
  simp [smallInt]; omega
theorem idx_eq {xs : List Int} {v x : Int} {i k : Nat} (hk : xs[k]? = some v) (hj : ∀ j, j < k → xs[j]? ≠ some v) (hx : xs[i]? = some x) (hP : ∀ j, j < i → xs[j]? ≠ some v) (e : x = v) : i = k := by
  subst e
  rcases Nat.lt_trichotomy i k with q | q | q
  · exact absurd hx (hj i q)
  · exact q
  · exact absurd hk (hP k q)
theorem not_here {xs : List Int} {v x : Int} {i : Nat} (hj : ∀ j : Nat, xs[j]? ≠ some v) (e : x = v) : xs[i]? ≠ some x := by
  subst e
  exact hj i
theorem off2_two {xi xv : Str} {m : Str → Option Value} {a b : Option Value} : off2 xi xv m (fun y => if y = xv then a else if y = xi then b else m y) := fun y h1 h2 => by
  show (if y = xv then a else if y = xi then b else m y) = m y
  rw [if_neg h2, if_neg h1]
abbrev listO2 (vs : List Value) (n : Nat) : Obj := listOf vs.toArray n
section
local macro_rules | `(tactic| walk_at "execs cons") => `(tactic| (k_here; (fail_if_success (fail_if_success k_gentoks)); refine gen_toks ?_; intro tk' htk'; (try dsimp only at htk')))
local macro_rules | `(tactic| walk_at "execs nil") => `(tactic| (k_here; (fail_if_success (fail_if_success k_gentoks)); refine gen_toks ?_; intro tk' htk'; (try dsimp only at htk')))
local macro_rules | `(tactic| walk_at "compareOp Is int int") => `(tactic| (k_here; k_dflt (((refine is_ints ?z0 ?z1 ?_ ?_); (case z0 => assumption); (case z1 => assumption); (all_goals intro hx')))))
local macro_rules | `(tactic| walk_at "exec For Tuple Call cons cons") => `(tactic| (k_here; k_dflt (refine wpAny_For ?_ (by intro _; rfl))))
local macro_rules | `(tactic| walk_at "call type:enumerate") => `(tactic| (k_here; k_dflt ((k_extra "call type:enumerate"))))
local macro_rules | `(tactic| walk_at "EnumEnd") => `(tactic| (k_dflt ((first | refine EnumEnd.ret ?_ | k_extra "EnumEnd"))))
set_option maxRecDepth 100000 in
set_option maxHeartbeats 8000000 in
theorem c_index_found (hn : Option Value) (w : World) (news : List (Addr × Obj)) (l : Addr) (vs : List Value) (n : Nat) (xs : List Int) (v : Int) (k : Nat) (tv : Tok)
    (hT : TokIn tv vs) (hS : ∀ x ∈ xs, 0 ≤ x ∧ x ≤ 256) (hm : (l, listOf vs.toArray n) ∈ news) (hI : IntsAre vs xs) (hk : xs[k]? = some v) (hj : ∀ j, j < k → xs[j]? ≠ some v)
    (hcalm : hn = none ∨ ∃ e oe ws, hn = some (.ref e) ∧ (e, oe) ∈ news ∧ oe.data = .fields ws ∧ ws[2]? = some .none) :
    Calls hn w 42 [.ref l, .int v tv] 2 news fun h₀ L m s Q => ∀ t h' tk', Fr h₀ L h' m → News h₀ L h' news → Q (.int (k : Nat) t) { s with heap := h', toks := tk' } := by
  intro mean mg mb dp un gd cn cs a ccd cl outer A₀ base h₀ L m s Q E B F X N T hkk hdp hun hret
  revert X; k_fill; k_with_none; w_top off; intro X
  have hlen : k < vs.length := by rw [hI.length]; exact (List.getElem?_eq_some_iff.mp hk).1
  k_with "call type:enumerate" => (refine' enum_call (fun j => xs[j]? ≠ some v) ?F ?N hm hcalm (.inr fun q => q k hlen hk) ?step ?done ?hE; (case F => k_asm); (case N => k_asm); (case hE => first | passes_own | with_unfolding_all passes_own); (case done => intro _ _ _ q; exact absurd hk (q k hlen)); intro i u t h tk own hi hP F' N'; (obtain ⟨x, t', hu, hx⟩ := hI.at i u hi); subst hu; (have ht9' := hT.at hi); (have hs9' := small_of hS hx))
  refine wpAny_call ?_
  k_dflt (refine' code_defT ?k1 ?k2 ?k3 ?k4 ?k5 ?kA ?kF ?kK ?k6 ?k7 ?k8 ?k9 ?kB ?_ ?c2 ?c3 ?c4 ?c5 ?c6; (case kA => exact rfl); (case kF => exact rfl); (case kK => assumption); (case k1 => k_asm); (case k2 => k_asm); (case k3 => k_asm); (case k4 => k_asm); (case k5 => k_asm); (case k6 => k_is); (case k7 => k_is); (case k8 => ktr_room); (case k9 => exact BindsTo.of_eq rfl); (case c5 => decide); (case kB => exact locs rfl); (case c2 => exact rfl); (case c3 => exact rfl); (case c4 => exact rfl); (case c6 => exact Nat.zero_lt_succ _); k_whole; intro g' L' h' tk' htk' FG' F' N' B' X' T'; (try dsimp only); (try k_fold))
  k_steps
  all_goals first
    | (have e9 := idx_eq hk hj (by assumption) (by assumption) (by assumption); subst e9; exact hret _ _ _ (by k_asm) (news_less (by k_asm) (fun p hp => List.mem_append.mpr (.inl hp))))
    | exact absurd (by assumption) (by assumption)
    | ((rename Fr _ _ _ _ => fX'); (rename News _ _ _ _ => nX'); refine EnumEnd.next (fun q => absurd (Option.some.inj (hx.symm.trans q)) ?_) fX' off2_two nX'; assumption)
local macro_rules | `(tactic| walk_at "leaving ref") => `(tactic| (k_here; (refine' leave_raiseC ?k1 (Heap.MadeExc.of (by assumption)) ?k2 ?k3 ?_; (case k1 => assumption); (case k2 => assumption); (case k3 => k_asm); k_whole; intro h' t' S' U' C'; (try dsimp only at S' U' C' ⊢))))
set_option maxRecDepth 100000 in
set_option maxHeartbeats 8000000 in
theorem c_index_raise (w : World) (news : List (Addr × Obj)) (l : Addr) (vs : List Value) (n : Nat) (xs : List Int) (v : Int) (tv : Tok)
    (hT : TokIn tv vs) (hS : ∀ x ∈ xs, 0 ≤ x ∧ x ≤ 256) (hm : (l, listOf vs.toArray n) ∈ news) (hI : IntsAre vs xs) (hj : ∀ j : Nat, xs[j]? ≠ some v)
    (mean : ExcName → Option Value) (mg mb : Str → Option Value) (dp un : Nat) (gd : Option (List Code)) (cn : Str) (cs : Scope) (a : Addr) (ccd : Value) (cl : List (Str × Addr)) (outer : List Env) (A₀ : Around) (base h₀ : Heap) (L : Addr) (m : Str → Option Value) (s : Shared) (Q E : Value → Shared → Prop)
    (B : Below A₀ base outer h₀) (F : Fr h₀ L s.heap m) (X : (hd.heap_39 w.params).In h₀) (N : News h₀ L s.heap news) (T : TopH mean mg mb h₀) (hkk : cs.kind = .function) (hdp : dp + 2 < recursionLimit) (hun : un + 8 * 2 < cLine)
    (hret : ∀ G e t vs' h' tk', Fr h₀ L G m → RaisedS base G (envX cn cs L a ccd cl :: outer) e (.type "ValueError") t vs' news h' → G.UpToSlots h' → C0 h' e → E (.ref e) { s with heap := h', toks := tk' }) :
    wpAny (model Challenge.rw_xi0004_01.row.prog w) (Ard none dp un gd cn cs L a ccd cl outer) (call (.ref 42) [.ref l, .int v tv]) Q E s := by
  revert X; k_fill; k_with_none; w_top off; intro X
  k_with "call type:enumerate" => (refine' enum_call (fun j => xs[j]? ≠ some v) ?F ?N hm (.inl rfl) (.inl rfl) ?step ?done ?hE; (case F => k_asm); (case N => k_asm); (case hE => first | passes_own | with_unfolding_all passes_own); (case' step => (intro i u t h tk own hi hP F' N'; (obtain ⟨x, t', hu, hx⟩ := hI.at i u hi); subst hu; (have ht9' := hT.at hi); (have hs9' := small_of hS hx))); (case' done => (intro h tk m' hP F' ho N')))
  refine wpAny_call ?_
  k_dflt (refine' code_defT ?k1 ?k2 ?k3 ?k4 ?k5 ?kA ?kF ?kK ?k6 ?k7 ?k8 ?k9 ?kB ?_ ?c2 ?c3 ?c4 ?c5 ?c6; (case kA => exact rfl); (case kF => exact rfl); (case kK => assumption); (case k1 => k_asm); (case k2 => k_asm); (case k3 => k_asm); (case k4 => k_asm); (case k5 => k_asm); (case k6 => k_is); (case k7 => k_is); (case k8 => ktr_room); (case k9 => exact BindsTo.of_eq rfl); (case c5 => decide); (case kB => exact locs rfl); (case c2 => exact rfl); (case c3 => exact rfl); (case c4 => exact rfl); (case c6 => exact Nat.zero_lt_succ _); k_whole; intro g' L' h' tk' htk' FG' F' N' B' X' T'; (try dsimp only); (try k_fold))
  k_steps
  all_goals first
    | exact hret _ _ _ _ _ _ FG' (by assumption) (by assumption) (by assumption)
    | exact absurd (by assumption) (by assumption)
    | ((rename Fr _ _ _ _ => fX'); (rename News _ _ _ _ => nX'); refine EnumEnd.next (fun q => absurd (Option.some.inj (hx.symm.trans q)) ?_) fX' off2_two nX'; assumption)
    | exact absurd hx (not_here hj (by assumption))
theorem c_index_raiseT (w : World) (news : List (Addr × Obj)) (l : Addr) (vs : List Value) (n : Nat) (xs : List Int) (v : Int) (tv : Tok)
    (hT : TokIn tv vs) (hS : ∀ x ∈ xs, 0 ≤ x ∧ x ≤ 256) (hm : (l, listOf vs.toArray n) ∈ news) (hI : IntsAre vs xs) (hj : ∀ j : Nat, xs[j]? ≠ some v)
    (mean : ExcName → Option Value) (mg mb : Str → Option Value) (dp un : Nat) (gd : Option (List Code)) (cn : Str) (cs : Scope) (a : Addr) (ccd : Value) (cl : List (Str × Addr)) (outer : List Env) (A₀ : Around) (base h₀ : Heap) (L : Addr) (m : Str → Option Value) (s : Shared) (Q E : Value → Shared → Prop)
    (B : Below A₀ base outer h₀) (F : Fr h₀ L s.heap m) (X : (hd.heap_39 w.params).In h₀) (N : News h₀ L s.heap news) (T : TopH mean mg mb h₀) (hkk : cs.kind = .function) (hdp : dp + 2 < recursionLimit) (hun : un + 8 * 2 < cLine)
    (hret : ∀ G e t vs' h' tk', s.toks ≤ tk' → Fr h₀ L G m → RaisedS base G (envX cn cs L a ccd cl :: outer) e (.type "ValueError") t vs' news h' → G.UpToSlots h' → C0 h' e → E (.ref e) { s with heap := h', toks := tk' }) :
    wpAny (model Challenge.rw_xi0004_01.row.prog w) (Ard none dp un gd cn cs L a ccd cl outer) (call (.ref 42) [.ref l, .int v tv]) Q E s :=
  wpAny_with_toks (Nat.le_refl _) (c_index_raise w news l vs n xs v tv hT hS hm hI hj mean mg mb dp un gd cn cs a ccd cl outer A₀ base h₀ L m s (fun v s' => s.toks ≤ s'.toks → Q v s') (fun e s' => s.toks ≤ s'.toks → E e s') B F X N T hkk hdp hun fun G e t vs' h' tk' a b c d q => hret G e t vs' h' tk' q a b c d)
end
end Mine
end
section
open PySem PySem.W PySem.Spec PySem.Calls PyProof.Rows
set_option maxRecDepth 100000
namespace Mine
section
variable {prog : Program} {w : World} {A₀ A : Around} {s : Shared} {base h₀ : Heap} {env : Env} {L : Addr} {m : Str → Option Value} {news : List (Addr × Obj)} {K : Frag} {p : Program} {loose : List Str} {mean : ExcName → Option Value} {mg mb : Str → Option Value}
    {R : Result → Shared → Prop} {name qual : Str} {params : Arguments} {body : List Stmt} {scope : Scope} {dV kV doc pm cdv ct oc : Value} {an od : Option Addr} {osl : Array (Option Value)} {f : Addr} {args : Args} {binds : List (Str × Value)}
theorem enterX (B : Below A₀ base [] h₀) (F : Fr h₀ L s.heap m) (N : News h₀ L s.heap news) (hA : A.frames = some [env]) (hf : env.frame = some L) (hke : env.scope.kind = .function) :
    ∃ oL es ep, (hideAll s.heap (news.map (·.1))).get? L = some oL ∧ oL.data = .dict es ep ∧ (∀ h', h'.get? L = some oL → Heap.Ns h' L m) ∧ (∀ (sl : Array (Option Value)) h', h'.get? L = some { oL with slots := sl } → Heap.Ns h' L m) ∧
      h₀.StaysIn (hideAll s.heap (news.map (·.1))) ∧ Below A base [env] (hideAll s.heap (news.map (·.1))) := by
  have nm : ∀ b o, h₀.get? b = some o → b ∉ news.map (·.1) := fun b o e q => by
    obtain ⟨p, hp, rfl⟩ := List.mem_map.mp q
    rw [(N p hp).2.2] at e; cases e
  have st : h₀.StaysIn (hideAll s.heap (news.map (·.1))) := fun b o e => hideAll_get _ (F.keep b o e) (nm b o e)
  obtain ⟨oL, es, ep, hL, hLd, hLk, hLf⟩ := F.ns
  have nL : L ∉ news.map (·.1) := fun q => by
    obtain ⟨p, hp, e⟩ := List.mem_map.mp q
    exact (N p hp).2.1 e
  have hLg := hideAll_get (news.map (·.1)) hL nL
  refine ⟨oL, es, ep, hLg, hLd, fun h' e => ⟨oL, es, ep, e, hLd, hLk, hLf⟩, fun sl h' e => ⟨_, es, ep, e, hLd, hLk, hLf⟩, st, ⟨hA, fun b o e => st b o (B.stays b o e), ?_⟩⟩
  exact ⟨by rw [hke]; decide, ⟨L, oL, hf, fresh_of_stays B.stays (kts_self F), hLg, fun vs q => by rw [hLd] at q; cases q⟩, trivial⟩
theorem code_defXS0 (B : Below A₀ base [] h₀) (F : Fr h₀ L s.heap m) (X₀ : K.In h₀) (N : News h₀ L s.heap news) (T : Top p loose mean mg mb h₀) (hA : A.frames = some [env]) (hf : env.frame = some L) (hke : env.scope.kind = .function)
    (ho : K.lookup f = some ⟨oc, od, .func (fnOf name qual params body scope dV kV doc pm an cdv ct), osl⟩) (hcd : codeIn K cdv qual = true) (hroom : A.depth < recursionLimit)
    (hbind : BindsTo s (fnOf name qual params body scope dV kV doc pm an cdv ct) args binds) (hloc : ∀ y ∈ binds, scope.names.lookup y.1 = some .local)
    (h : ∀ g L' h₁ tk, s.toks < tk → Fr h₀ L g m → Fr g L' h₁ (fun y => binds.reverse.lookup y) → News g L' h₁ news → Below A base [env] g → K.In g → Top p loose mean mg mb g → KtsDicts [L] g →
      wpAny (model prog w) (A.deeper (envOf qual scope L' f cdv)) (execs body (envOf qual scope L' f cdv))
        (fun fl s' => LeaveS0 [L] h₀ L m g R (match fl with | .ret v => v | _ => .none) s')
        (fun e s' => wpAny (model prog w) (A.deeper (envOf qual scope L' f cdv)) (leaving (envOf qual scope L' f cdv) e) (fun _ s'' => R (.error e) s'') (fun e' s'' => R (.error e') s'') s')
        { s with heap := h₁, toks := tk })
    (hco : scope.isCoroutine = false) (hgen : scope.isGenerator = false) (hk : scope.kind = .function)
    (hcell : ∀ x ∈ scope.names, x.2 ≠ .cell) (hbn : 0 < binds.length) : codeAny (model prog w) A (.call (.ref f) args) R s := by
  have X := X₀.keeps F.keep
  refine codeAny_call_def (fd := fnOf name qual params body scope dV kV doc pm an cdv ct) (body := body) (binds := binds) hroom (X _ _ ho) rfl (T.nolimit.keeps F.keep) (codeRec_of X hcd) rfl hbind hcell hloc (fun h₁ hns hk₁ => ?_) hco hgen hk
  obtain ⟨oL, es, ep, hLg, hLd, hN, hNs, st, B₂⟩ := enterX B F N hA hf hke
  refine wpAny_mono (h _ s.heap.objs.size h₁ _ (Nat.lt_add_of_pos_right hbn) ⟨hN _ hLg, st, F.above⟩ ⟨hns, fun b o e => hk₁ b o (of_hideAll _ e), Nat.le_of_eq (hideAll_size _ _)⟩
    (fun p hp => ⟨hk₁ _ _ (N p hp).1, Nat.ne_of_lt (Heap.lt_size (N p hp).1), hideAll_none _ (List.mem_map_of_mem hp)⟩) B₂ (X₀.keeps st) (T.keeps st) (fun b hb => by
      rw [List.mem_singleton.mp hb]
      exact ⟨oL, es, ep, hLg, hLd⟩)) (fun fl s' hl => ?_) fun _ _ y => y
  obtain ⟨g', L', m', news', T', F', N', k⟩ := hl
  have nL₀ : h₀.get? L = none := kts_self F
  obtain ⟨sl, hs⟩ := T'.up hLg
  refine k ⟨hNs sl _ (F'.keep _ _ hs), fun b o e => F'.keep b o (T'.other b o (st b o e) (fun q => by
    rw [List.mem_singleton.mp q, nL₀] at e
    cases e)), F.above⟩ fun p hp => ⟨(N' p hp).1, fun q => ?_, ?_⟩
  · have := (N' p hp).2.2; rw [q, hs] at this; cases this
  · cases q : h₀.get? p.1 with
    | none => rfl
    | some o =>
      obtain ⟨sl', hs'⟩ := T'.up (st _ _ q)
      have := (N' p hp).2.2
      rw [hs'] at this
      cases this
end
end Mine
end
section
open PySem PySem.W PySem.Spec PySem.Calls PyProof.Rows
namespace Mine
theorem word_letters {x : Int} {N : Nat} (h : x = N) : Letters (KBw.bInts (ap x.toNat)) := (bInts_ap _).1
theorem word_val {x : Int} {N : Nat} (h : x = N) : valL (KBw.bInts (ap x.toNat)) = (N : Int) := by
  rw [(bInts_ap _).2]; omega
theorem word_len {x : Int} {N : Nat} (h : x = N) (h1 : x < 2 ^ 200) : (KBw.bInts (ap x.toNat)).length ≤ 60 := by
  rw [KBw.ints_length]
  have := ap_size 50 x.toNat (by
    have e : (16 : Nat) ^ 50 = 2 ^ 200 := by decide
    rw [e]; omega)
  omega
theorem ap_head : ∀ n : Nat, n ≠ 0 → ∃ c rest, KBw.bInts (ap n) = c :: rest ∧ c ≠ 65 := by
  intro n
  induction n using Nat.strongRecOn with
  | ind n ih =>
    intro h
    rw [ap_pos' h, bInts_append]
    by_cases h16 : n / 16 = 0
    · rw [h16, ap_zero']
      have e : KBw.bInts #[UInt8.ofNat (65 + n % 16)] = [((65 + n % 16 : Nat) : Int)] := by
        show [((UInt8.ofNat (65 + n % 16)).toNat : Int)] = _
        rw [UInt8.toNat_ofNat_of_lt' (by show _ < 256; omega)]
      rw [e]
      exact ⟨((65 + n % 16 : Nat) : Int), [], rfl, by omega⟩
    · obtain ⟨c, rest, e, hc⟩ := ih (n / 16) (by omega) h16
      rw [e]
      exact ⟨c, rest ++ _, rfl, hc⟩
theorem quot_eq {x z : Int} {N b : Nat} (h : x = N) (hz : z = b) : x.fdiv z = ((N / b : Nat) : Int) := by
  rw [h, hz, Int.fdiv_eq_ediv_of_nonneg _ (by omega)]; norm_cast
theorem quot_pos {x z : Int} {N b : Nat} (h : x = N) (hz : z = b) : 0 ≤ x.fdiv z := by rw [quot_eq h hz]; exact Int.natCast_nonneg _
theorem quot_small {x z : Int} {N b : Nat} (h : x = N) (hz : z = b) (h1 : x < 2 ^ 200) : x.fdiv z < 2 ^ 200 := by
  rw [quot_eq h hz]
  have := Nat.div_le_self N b
  omega
theorem quot_ap {x z : Int} {N b : Nat} (h : x = N) (hz : z = b) : ap (N / b) = ap (x.fdiv z).toNat := by rw [quot_eq h hz]; rfl
theorem word_front {x : Int} {N : Nat} (h : x = N) : KBy.picked (ap x.toNat) none (some 1) ≠ #[65] := by
  intro q
  have hp := KBc.ints_picked (rfl : KBw.bInts (ap x.toNat) = _) none (some 1)
  rw [q] at hp
  have e1 : KBw.bInts #[65] = [65] := rfl
  rw [e1] at hp
  by_cases h0 : x.toNat = 0
  · rw [h0, ap_zero'] at hp
    simp [KBw.bInts] at hp
  · obtain ⟨c, rest, e, hc⟩ := ap_head _ h0
    rw [e] at hp
    simp only [Option.elim, List.drop_zero, Nat.sub_zero] at hp
    cases hn : clipAt (c :: rest).length 1 with
    | zero => rw [hn] at hp; simp at hp
    | succ n => rw [hn] at hp; simp at hp; exact hc hp.1.symm
theorem bytes_same {a b : Array UInt8} (h : a = b) : ¬ ((a.toList != b.toList) = true) := by
  subst h; simp
theorem eq_front {prog : Program} {w : World} {A : Around} {E : Value → Shared → Prop} {s : Shared} {Q : Value → Shared → Prop} {b : Array UInt8} {t u : Tok} (hne : b ≠ #[65]) (h : Q (.bool false) s) : wpAny (model prog w) A (compareOp .Eq (.bytes b t) (.bytes #[65] u)) Q E s := by
  refine eq_bytes ?_
  have : (b.toList == (#[65] : Array UInt8).toList) = false := by
    apply beq_false_of_ne
    intro q
    exact hne (Array.toList_inj.mp q)
  rw [this]; exact h
section
local macro_rules | `(tactic| walk_at "execs cons") => `(tactic| (k_here; (fail_if_success (fail_if_success k_gentoks)); refine gen_toks ?_; intro tk' htk'; (try dsimp only at htk')))
local macro_rules | `(tactic| walk_at "execs nil") => `(tactic| (k_here; (fail_if_success (fail_if_success k_gentoks)); refine gen_toks ?_; intro tk' htk'; (try dsimp only at htk')))
local macro_rules | `(tactic| walk_at "Since") => `(tactic| (intro htk'; (try dsimp only at htk')))
local macro_rules | `(tactic| walk_at "call builtin:isinstance") => `(tactic| (k_here; (fail_if_success (with_reducible show wpAny _ _ _ (fun _ s' => Since _ s' _) _ _)); k_dflt (refine since ?_)))
local macro_rules | `(tactic| walk_at "subscriptTail") => `(tactic| (plain_pass; k_here; (with_reducible show wpAny _ _ (subscriptTail _ (Expr.Slice none _ none _) (Value.bytes _ _) (Value.ref _)) _ _ _); (with_reducible rename Fr _ _ _ _ => F'); (with_reducible rename News _ _ _ _ => N'); ((refine since ?_); (refine KBc.slice_K (s := ⟨_, _, _, _, _⟩) F' N' rfl .none (.int _ _) ?z (fun h' t' k' F' N' _ => ?_)); (case z => omega))))
local macro_rules | `(tactic| walk_at "compareOp Eq bytes bytes") => `(tactic| (k_here; k_dflt (refine eq_front (by assumption) ?_)))
local macro_rules | `(tactic| walk_at "LeaveS0") => `(tactic| (k_dflt (refine' leaveS0_ ?F ?N ?T ?_; (case F => k_asm); (case N => k_asm); (case T => first | assumption | exact KtsTurn.refl); k_whole); intro kF kN; (try dsimp only at kF kN ⊢)))
local macro_rules | `(tactic| walk_at "noteFrame ref") => `(tactic| (k_here; (rename RaisedS _ _ _ _ _ _ _ _ _ => rsX); k_dflt (refine' caught_C (T' := "ValueError") ?R ?F ?K ?U ?C ?XB ?TB ?D ?T0 ?ex PyProof.Rows.Boot.«ValueError» ?hn PySem.F.isExc_ValueError PySem.F.notTuple_ValueError ?hs ?_; (case R => assumption); (case F => assumption); (case K => assumption); (case U => assumption); (case C => assumption); (case XB => assumption); (case TB => assumption); (case D => assumption); (case T0 => first | assumption | exact KtsTurn.refl); (case hs => kts_sub); (case ex => k_is); (case hn => decide); k_whole); intro h' g' oe' ws' T' F' hod' ho2' N' K' X' P' D'))
local macro_rules | `(tactic| walk_at "call ref") => `(tactic| (plain_pass; k_here; (with_reducible show wpAny _ _ (call (Value.ref 35) _) _ _ _); (refine' Calls.use ?k1 ?k2 ?k3 ?k4 ?k5 ?kK (c_Int2AP _ _ _ _ ?z1 ?z2) ?kd ?ku ?_; (case k1 => k_asm); (case k2 => k_asm); (case k3 => k_asm); (case k4 => k_asm); (case k5 => k_asm); (case kK => first | exact rfl | assumption); (case z1 => k_extra "num"); (case z2 => k_extra "num"); (case kd => ktr_room); (case ku => ktr_units); k_whole; intro t' h' tk' F' N' htk'; (try dsimp only at htk'))))
local macro_rules | `(tactic| walk_at "call ref") => `(tactic| (plain_pass; k_here; (with_reducible show wpAny _ _ (call (Value.ref 91) _) _ _ _); (refine' Calls.use ?k1 ?k2 ?k3 ?k4 ?k5 ?kK (c_divided _ _ _ _ _ _ _ _ _ ?z1 ?z2 rfl ?z4 ?z5 ?z6) ?kd ?ku ?_; (case k1 => k_asm); (case k2 => k_asm); (case k3 => k_asm); (case k4 => k_asm); (case k5 => k_asm); (case kK => first | exact rfl | assumption); (case z1 => assumption); (case z2 => assumption); (case z4 => k_extra "word"); (case z5 => k_extra "word"); (case z6 => k_extra "word"); (case kd => ktr_room); (case ku => ktr_units); k_whole; intro T' t1' t2' t3' h' tk' ht' F' N' l1 htk'; (try dsimp only at ht' htk'))))
local macro_rules | `(tactic| walk_at "call ref") => `(tactic| (plain_pass; k_here; (with_reducible show wpAny _ _ (call (Value.ref 42) _) _ _ _); (k_extra "idx")))
local macro_rules | `(tactic| walk_at "call ref") => `(tactic| (plain_pass; k_here; (with_reducible show wpAny _ _ (call (Value.ref 56) _) _ _ _); (refine' Calls.use ?k1 ?k2 ?k3 ?k4 ?k5 ?kK (c_ilshift _ _ _ _ _ _ _ ?z1 ?z2 ?z3) ?kd ?ku ?_; (case k1 => k_asm); (case k2 => k_asm); (case k3 => k_asm); (case k4 => k_asm); (case k5 => k_asm); (case kK => first | exact rfl | assumption); (case z1 => decide); (case z2 => omega); (case z3 => omega); (case kd => ktr_room); (case ku => ktr_units); k_whole; intro t' h' tk' ht1' ht2' F' N' htk'; (try dsimp only at ht1' ht2' htk'))))
local macro_rules | `(tactic| walk_at "call ref") => `(tactic| (plain_pass; k_here; (with_reducible show wpAny _ _ (call (Value.ref 77) _) _ _ _); (refine' Calls.use ?k1 ?k2 ?k3 ?k4 ?k5 ?kK (c_isub _ _ _ _ _ _ _) ?kd ?ku ?_; (case k1 => k_asm); (case k2 => k_asm); (case k3 => k_asm); (case k4 => k_asm); (case k5 => k_asm); (case kK => first | exact rfl | assumption); (case kd => ktr_room); (case ku => ktr_units); k_whole; intro t' h' tk' ht1' ht2' F' N' htk'; (try dsimp only at ht1' ht2' htk'))))
local macro_rules | `(tactic| walk_at "call ref") => `(tactic| (plain_pass; k_here; (with_reducible show wpAny _ _ (call (Value.ref 49) _) _ _ _); (refine' Calls.use ?k1 ?k2 ?k3 ?k4 ?k5 ?kK (c_iadd _ _ _ _ _ _ _) ?kd ?ku ?_; (case k1 => k_asm); (case k2 => k_asm); (case k3 => k_asm); (case k4 => k_asm); (case k5 => k_asm); (case kK => first | exact rfl | assumption); (case kd => ktr_room); (case ku => ktr_units); k_whole; intro t' h' tk' ht1' ht2' F' N' htk'; (try dsimp only at ht1' ht2' htk'))))
local macro_rules | `(tactic| walk_at "call ref") => `(tactic| (plain_pass; k_here; (with_reducible show wpAny _ _ (call (Value.ref 63) _) _ _ _); (refine' Calls.use ?k1 ?k2 ?k3 ?k4 ?k5 ?kK (c_imod _ _ _ _ _ _ _ ?z1) ?kd ?ku ?_; (case k1 => k_asm); (case k2 => k_asm); (case k3 => k_asm); (case k4 => k_asm); (case k5 => k_asm); (case kK => first | exact rfl | assumption); (case z1 => omega); (case kd => ktr_room); (case ku => ktr_units); k_whole; intro t' h' tk' ht1' ht2' F' N' htk'; (try dsimp only at ht1' ht2' htk'))))
set_option maxRecDepth 100000 in
set_option maxHeartbeats 8000000 in
theorem c_healed_same (w : World) (news : List (Addr × Obj)) (b N₀ : Nat) (x z : Int) (l : Addr) (tx tb : Tok)  (hz : z = b) (hx : x = N₀) (hB : Base b) (hN : x < 2 ^ 200) (hr : N₀ % b = 0)
    (mean : ExcName → Option Value) (mg mb : Str → Option Value) (dp un : Nat) (gd : Option (List Code)) (cn : Str) (cs : Scope) (a : Addr) (ccd : Value) (cl : List (Str × Addr)) (A₀ : Around) (base h₀ : Heap) (L : Addr) (m : Str → Option Value) (s : Shared) (Q E : Value → Shared → Prop)
    (B : Below A₀ base [] h₀) (F : Fr h₀ L s.heap m) (X : (hd.heap_39 w.params).In h₀) (XB : (hd.heap_39 w.params).In base) (N : News h₀ L s.heap news) (T : TopH mean mg mb h₀) (TB : TopH mean mg mb base) (hkk : cs.kind = .function) (hdp : dp + 16 < recursionLimit) (hun : un + 8 * 16 < cLine) 
    (hret : ∀ t h' tk', Fr h₀ L h' m → News h₀ L h' news → Q (.int (x) t) { s with heap := h', toks := tk' }) :
    wpAny (model Challenge.rw_xi0004_01.row.prog w) (Ard none dp un gd cn cs L a ccd cl []) (call (.ref 98) [.int x tx, .int z tb, .ref l]) Q E s := by
  revert XB X; k_fill; k_with_none; w_top off; intro XB X
  have hlo := hB.lo
  have hhi := hB.hi
  have hx0 : 0 ≤ x := by omega
  have hw1 := word_letters hx
  have hw2 := word_val hx
  have hw3 := word_len hx hN
  have hw4 := word_front hx
  have hq0 := quot_pos (z := z) hx hz
  have hq1 := quot_small (z := z) hx hz hN
  have hq2 := quot_ap (z := z) hx hz
  k_with "num" => assumption
  k_with "word" => assumption
  skip
  refine wpAny_call ?_
  k_dflt (refine' code_defXS0 ?k1 ?k2 ?k3 ?k4 ?k5 ?kA ?kF ?kK ?k6 ?k7 ?k8 ?k9 ?kB ?_ ?c2 ?c3 ?c4 ?c5 ?c6; (case kA => exact rfl); (case kF => exact rfl); (case kK => assumption); (case k1 => k_asm); (case k2 => k_asm); (case k3 => k_asm); (case k4 => k_asm); (case k5 => k_asm); (case k6 => k_is); (case k7 => k_is); (case k8 => ktr_room); (case k9 => exact BindsTo.of_eq rfl); (case c5 => decide); (case kB => exact locs rfl); (case c2 => exact rfl); (case c3 => exact rfl); (case c4 => exact rfl); (case c6 => exact Nat.zero_lt_succ _); k_whole; intro g' L' h' tk' htk' FG' F' N' B' X' T' D'; (try dsimp only); (try k_fold))
  k_steps
  all_goals first
    | (exfalso; omega)
    | exact absurd (by assumption) (bytes_same hq2)
    | exact hret _ _ _ (by k_asm) (news_less (by k_asm) (fun p hp => by first | exact hp | exact .tail _ hp | exact .tail _ (.tail _ hp)))
set_option maxRecDepth 100000 in
set_option maxHeartbeats 8000000 in
theorem c_healed_less (w : World) (news : List (Addr × Obj)) (b N₀ : Nat) (x z : Int) (l : Addr) (tx tb : Tok) (vs : List Value) (n : Nat) (xs : List Int) (k : Nat) (hI : IntsAre vs xs) (hS : ∀ x ∈ xs, 0 ≤ x ∧ x ≤ 256) (hm : (l, listOf vs.toArray n) ∈ news) (hz : z = b) (hx : x = N₀) (hB : Base b) (hN : x < 2 ^ 200) (hr : N₀ % b ≠ 0) (hk : xs[k]? = some (((N₀ % b : Nat)) : Int)) (hj : ∀ j, j < k → xs[j]? ≠ some (((N₀ % b : Nat)) : Int)) (hkp : k < 200)
    (mean : ExcName → Option Value) (mg mb : Str → Option Value) (dp un : Nat) (gd : Option (List Code)) (cn : Str) (cs : Scope) (a : Addr) (ccd : Value) (cl : List (Str × Addr)) (A₀ : Around) (base h₀ : Heap) (L : Addr) (m : Str → Option Value) (s : Shared) (Q E : Value → Shared → Prop)
    (B : Below A₀ base [] h₀) (F : Fr h₀ L s.heap m) (X : (hd.heap_39 w.params).In h₀) (XB : (hd.heap_39 w.params).In base) (N : News h₀ L s.heap news) (T : TopH mean mg mb h₀) (TB : TopH mean mg mb base) (hkk : cs.kind = .function) (hdp : dp + 16 < recursionLimit) (hun : un + 8 * 16 < cLine) (hT : TokIn s.toks vs)
    (hret : ∀ t h' tk', Fr h₀ L h' m → News h₀ L h' news → Q (.int (x - 1 * 2 ^ (Int.toNat (k : Nat))) t) { s with heap := h', toks := tk' }) :
    wpAny (model Challenge.rw_xi0004_01.row.prog w) (Ard none dp un gd cn cs L a ccd cl []) (call (.ref 98) [.int x tx, .int z tb, .ref l]) Q E s := by
  revert XB X; k_fill; k_with_none; w_top off; intro XB X
  have hlo := hB.lo
  have hhi := hB.hi
  have hx0 : 0 ≤ x := by omega
  have hw1 := word_letters hx
  have hw2 := word_val hx
  have hw3 := word_len hx hN
  have hw4 := word_front hx
  have hq0 := quot_pos (z := z) hx hz
  have hq1 := quot_small (z := z) hx hz hN
  have hq2 := quot_ap (z := z) hx hz
  k_with "num" => assumption
  k_with "word" => assumption
  k_with "idx" => (refine' Calls.use ?k1 ?k2 ?k3 ?k4 ?k5 ?kK (c_index_found none _ _ l vs n xs _ k _ ?hT hS ?hm hI ?hk ?hj (.inl rfl)) ?kd ?ku ?_; (case k1 => k_asm); (case k2 => k_asm); (case k3 => k_asm); (case k4 => k_asm); (case k5 => k_asm); (case kK => first | exact rfl | assumption); (case hT => exact hT.mono (by (try dsimp only); omega)); (case hm => first | exact hm | exact .tail _ hm | exact .tail _ (.tail _ hm) | exact .tail _ (.tail _ (.tail _ hm))); (case hk => exact hk); (case hj => exact hj); (case kd => ktr_room); (case ku => ktr_units); k_whole; intro t' h' tk' F' N' htk'; (try dsimp only at htk'))
  refine wpAny_call ?_
  k_dflt (refine' code_defXS0 ?k1 ?k2 ?k3 ?k4 ?k5 ?kA ?kF ?kK ?k6 ?k7 ?k8 ?k9 ?kB ?_ ?c2 ?c3 ?c4 ?c5 ?c6; (case kA => exact rfl); (case kF => exact rfl); (case kK => assumption); (case k1 => k_asm); (case k2 => k_asm); (case k3 => k_asm); (case k4 => k_asm); (case k5 => k_asm); (case k6 => k_is); (case k7 => k_is); (case k8 => ktr_room); (case k9 => exact BindsTo.of_eq rfl); (case c5 => decide); (case kB => exact locs rfl); (case c2 => exact rfl); (case c3 => exact rfl); (case c4 => exact rfl); (case c6 => exact Nat.zero_lt_succ _); k_whole; intro g' L' h' tk' htk' FG' F' N' B' X' T' D'; (try dsimp only); (try k_fold))
  k_steps
  all_goals first
    | (exfalso; omega)
    | exact absurd (by assumption) (bytes_same hq2)
    | exact hret _ _ _ (by k_asm) (news_less (by k_asm) (fun p hp => by first | exact hp | exact .tail _ hp | exact .tail _ (.tail _ hp)))
set_option maxRecDepth 100000 in
set_option maxHeartbeats 8000000 in
theorem c_healed_more (w : World) (news : List (Addr × Obj)) (b N₀ : Nat) (x z : Int) (l : Addr) (tx tb : Tok) (vs : List Value) (n : Nat) (xs : List Int) (k : Nat) (hI : IntsAre vs xs) (hS : ∀ x ∈ xs, 0 ≤ x ∧ x ≤ 256) (hm : (l, listOf vs.toArray n) ∈ news) (hz : z = b) (hx : x = N₀) (hB : Base b) (hN : x < 2 ^ 200) (hr : N₀ % b ≠ 0) (hno : ∀ j : Nat, xs[j]? ≠ some (((N₀ % b : Nat)) : Int)) (hk : xs[k]? = some (Int.fmod (-((N₀ % b : Nat) : Int)) z)) (hj : ∀ j, j < k → xs[j]? ≠ some (Int.fmod (-((N₀ % b : Nat) : Int)) z)) (hkp : k < 200)
    (mean : ExcName → Option Value) (mg mb : Str → Option Value) (dp un : Nat) (gd : Option (List Code)) (cn : Str) (cs : Scope) (a : Addr) (ccd : Value) (cl : List (Str × Addr)) (A₀ : Around) (base h₀ : Heap) (L : Addr) (m : Str → Option Value) (s : Shared) (Q E : Value → Shared → Prop)
    (B : Below A₀ base [] h₀) (F : Fr h₀ L s.heap m) (X : (hd.heap_39 w.params).In h₀) (XB : (hd.heap_39 w.params).In base) (N : News h₀ L s.heap news) (T : TopH mean mg mb h₀) (TB : TopH mean mg mb base) (hkk : cs.kind = .function) (hdp : dp + 16 < recursionLimit) (hun : un + 8 * 16 < cLine) (hT : TokIn s.toks vs)
    (hret : ∀ t h' tk', Fr h₀ L h' m → News h₀ L h' news → Q (.int (x + 1 * 2 ^ (Int.toNat (k : Nat))) t) { s with heap := h', toks := tk' }) :
    wpAny (model Challenge.rw_xi0004_01.row.prog w) (Ard none dp un gd cn cs L a ccd cl []) (call (.ref 98) [.int x tx, .int z tb, .ref l]) Q E s := by
  revert XB X; k_fill; k_with_none; w_top off; intro XB X
  have hlo := hB.lo
  have hhi := hB.hi
  have hx0 : 0 ≤ x := by omega
  have hw1 := word_letters hx
  have hw2 := word_val hx
  have hw3 := word_len hx hN
  have hw4 := word_front hx
  have hq0 := quot_pos (z := z) hx hz
  have hq1 := quot_small (z := z) hx hz hN
  have hq2 := quot_ap (z := z) hx hz
  k_with "num" => assumption
  k_with "word" => assumption
  k_with "idx" => (refine' c_index_raiseT _ _ l vs n xs _ _ ?hT hS ?hm hI hno _ _ _ _ _ _ _ _ _ _ _ _ _ _ _ _ _ _ _ _ ?k1 ?k2 ?k3 ?k4 ?k5 ?kK ?kd ?ku ?_; (case k1 => k_asm); (case k2 => k_asm); (case k3 => k_asm); (case k4 => k_asm); (case k5 => k_asm); (case kK => first | exact rfl | assumption); (case hT => exact hT.mono (by (try dsimp only); omega)); (case hm => first | exact hm | exact .tail _ hm | exact .tail _ (.tail _ hm) | exact .tail _ (.tail _ (.tail _ hm))); (case kd => ktr_room); (case ku => ktr_units); k_whole; intro G' e' t' vs' h' tk' htk' FG' S' U' C'; (try dsimp only at htk'))
  k_with "idx" => (refine' Calls.use ?k1 ?k2 ?k3 ?k4 ?k5 ?kK (c_index_found _ _ _ l vs n xs _ k _ ?hT hS ?hm hI ?hk ?hj (.inr ⟨_, _, _, rfl, List.Mem.head _, by assumption, by assumption⟩)) ?kd ?ku ?_; (case k1 => k_asm); (case k2 => k_asm); (case k3 => k_asm); (case k4 => k_asm); (case k5 => k_asm); (case kK => first | exact rfl | assumption); (case hT => exact hT.mono (by (try dsimp only); omega)); (case hm => first | exact hm | exact .tail _ hm | exact .tail _ (.tail _ hm) | exact .tail _ (.tail _ (.tail _ hm))); (case hk => exact hk); (case hj => exact hj); (case kd => ktr_room); (case ku => ktr_units); k_whole; intro t' h' tk' F' N' htk'; (try dsimp only at htk'))
  refine wpAny_call ?_
  k_dflt (refine' code_defXS0 ?k1 ?k2 ?k3 ?k4 ?k5 ?kA ?kF ?kK ?k6 ?k7 ?k8 ?k9 ?kB ?_ ?c2 ?c3 ?c4 ?c5 ?c6; (case kA => exact rfl); (case kF => exact rfl); (case kK => assumption); (case k1 => k_asm); (case k2 => k_asm); (case k3 => k_asm); (case k4 => k_asm); (case k5 => k_asm); (case k6 => k_is); (case k7 => k_is); (case k8 => ktr_room); (case k9 => exact BindsTo.of_eq rfl); (case c5 => decide); (case kB => exact locs rfl); (case c2 => exact rfl); (case c3 => exact rfl); (case c4 => exact rfl); (case c6 => exact Nat.zero_lt_succ _); k_whole; intro g' L' h' tk' htk' FG' F' N' B' X' T' D'; (try dsimp only); (try k_fold))
  k_steps
  all_goals first
    | (exfalso; omega)
    | exact absurd (by assumption) (bytes_same hq2)
    | exact hret _ _ _ (by k_asm) (news_less (by k_asm) (fun p hp => by first | exact hp | exact .tail _ hp | exact .tail _ (.tail _ hp)))
end
end Mine
end
section
namespace Mine
theorem odd_coprime {b : Nat} (B : Base b) (j : Nat) : Nat.Coprime b (2 ^ j) := by
  have h : Nat.gcd 2 b = 1 := by rw [Nat.gcd_rec, B.odd]; rfl
  exact Nat.Coprime.pow_right j (Nat.coprime_comm.mp h)
theorem pow_split {j k : Nat} (h : j ≤ k) : 2 ^ k = 2 ^ j * 2 ^ (k - j) := by rw [← Nat.pow_add]; congr 1; omega
theorem pow_cancel {b j k : Nat} (B : Base b) (h : j ≤ k) (e : 2 ^ k % b = 2 ^ j % b) : 2 ^ (k - j) % b = 1 := by
  have h1 : (2 ^ k - 2 ^ j) % b = 0 := Nat.sub_mod_eq_zero_of_mod_eq e
  have h2 : b ∣ 2 ^ j * (2 ^ (k - j) - 1) := by
    have e2 : 2 ^ j * (2 ^ (k - j) - 1) = 2 ^ k - 2 ^ j := by rw [Nat.mul_sub, Nat.mul_one, ← pow_split h]
    rw [e2]; exact Nat.dvd_of_mod_eq_zero h1
  have h3 := Nat.Coprime.dvd_of_dvd_mul_left (odd_coprime B j) h2
  obtain ⟨q, hq⟩ := h3
  have hp : 0 < 2 ^ (k - j) := Nat.pow_pos (by decide)
  have hlo := B.lo
  have e3 : 2 ^ (k - j) = 1 + b * q := by omega
  rw [e3, Nat.add_mul_mod_self_left, Nat.mod_eq_of_lt (by omega)]
theorem pow_neg {b j k : Nat} (B : Base b) (h : j ≤ k) (e : 2 ^ j % b + 2 ^ k % b = b) : 2 ^ (k - j) % b = b - 1 := by
  have hlo := B.lo
  have h1 : (2 ^ j + 2 ^ k) % b = 0 := by rw [Nat.add_mod, e, Nat.mod_self]
  have h2 : b ∣ 2 ^ j * (1 + 2 ^ (k - j)) := by
    have e2 : 2 ^ j * (1 + 2 ^ (k - j)) = 2 ^ j + 2 ^ k := by rw [Nat.mul_add, Nat.mul_one, ← pow_split h]
    rw [e2]; exact Nat.dvd_of_mod_eq_zero h1
  have h3 := Nat.Coprime.dvd_of_dvd_mul_left (odd_coprime B j) h2
  have h4 := Nat.mod_eq_zero_of_dvd h3
  have hlt := Nat.mod_lt (2 ^ (k - j)) (show 0 < b by omega)
  rw [Nat.add_mod, Nat.mod_eq_of_lt (show 1 < b by omega)] at h4
  generalize 2 ^ (k - j) % b = r at *
  by_cases q : 1 + r < b
  · rw [Nat.mod_eq_of_lt q] at h4; omega
  · omega
theorem rests_inj {b j k : Nat} (B : Base b) (h : j < k) (hk : k < places b) : 2 ^ j % b ≠ 2 ^ k % b := fun e =>
  (B.ahead (j := k - j) (by omega) (by omega)).1 (pow_cancel B (Nat.le_of_lt h) e.symm)
theorem rests_neg_le {b j k : Nat} (B : Base b) (h : j ≤ k) (hk : k < places b) : 2 ^ j % b + 2 ^ k % b ≠ b := fun e => by
  rcases Nat.lt_or_eq_of_le h with h | rfl
  · exact (B.ahead (j := k - j) (by omega) (by omega)).2 (pow_neg B (Nat.le_of_lt h) e)
  · have := B.odd
    omega
theorem rests_neg {b j k : Nat} (B : Base b) (hj : j < places b) (hk : k < places b) : 2 ^ j % b + 2 ^ k % b ≠ b := by
  rcases Nat.le_total j k with h | h
  · exact rests_neg_le B h hk
  · rw [Nat.add_comm]; exact rests_neg_le B h hj
theorem rest_ne {b : Nat} (B : Base b) : ∀ i : Nat, 0 < 2 ^ i % b := by
  intro i
  have hlo := B.lo
  have hodd := B.odd
  induction i with
  | zero => rw [Nat.pow_zero, Nat.mod_eq_of_lt (by omega)]; omega
  | succ i ih =>
    have hlt := Nat.mod_lt (2 ^ i) (show 0 < b by omega)
    rw [Nat.pow_succ, Nat.mul_mod]
    rw [Nat.mod_eq_of_lt (show 2 < b by omega)]
    generalize 2 ^ i % b = r at *
    by_cases h : r * 2 < b
    · rw [Nat.mod_eq_of_lt h]; omega
    · rw [Nat.mod_eq_sub_mod (by omega), Nat.mod_eq_of_lt (by omega)]; omega
/-- what the healing of N gives back -/
def Heal (b N : Nat) (res : Int) : Prop :=
  (N % b = 0 ∧ res = N) ∨ (N % b ≠ 0 ∧ ∃ k, k < places b ∧ 2 ^ k % b = N % b ∧ res = N - 2 ^ k) ∨
  (N % b ≠ 0 ∧ (∀ j, j < places b → 2 ^ j % b ≠ N % b) ∧ ∃ k, k < places b ∧ 2 ^ k % b = b - N % b ∧ res = N + 2 ^ k)
theorem heal_whole {b m : Nat} : Heal b (b * m) ((b * m : Nat) : Int) := .inl ⟨Nat.mul_mod_right b m, rfl⟩
theorem heal_plus {b m k : Nat} (B : Base b) (hk : k < places b) : Heal b (b * m + 2 ^ k) ((b * m : Nat) : Int) := by
  have h0 := rest_ne B k
  have e : (b * m + 2 ^ k) % b = 2 ^ k % b := by rw [Nat.mul_add_mod]
  refine .inr (.inl ⟨by omega, k, hk, e.symm, ?_⟩)
  push_cast; omega
theorem heal_minus {b m k N : Nat} (B : Base b) (hk : k < places b) (e : N + 2 ^ k = b * m) : Heal b N ((b * m : Nat) : Int) := by
  have h0 := rest_ne B k
  have hlo := B.lo
  have hlt := Nat.mod_lt (2 ^ k) (show 0 < b by omega)
  have hlN := Nat.mod_lt N (show 0 < b by omega)
  have h1 : (N % b + 2 ^ k % b) % b = 0 := by rw [← Nat.add_mod, e, Nat.mul_mod_right]
  have h2 : N % b + 2 ^ k % b = b := by
    generalize N % b = r at *
    generalize 2 ^ k % b = q at *
    by_cases h : r + q < b
    · rw [Nat.mod_eq_of_lt h] at h1; omega
    · rw [Nat.mod_eq_sub_mod (by omega), Nat.mod_eq_of_lt (by omega)] at h1; omega
  refine .inr (.inr ⟨by omega, fun j hj q => rests_neg B hj hk (by omega), k, hk, by omega, ?_⟩)
  rw [← e]; push_cast; rfl
theorem heal_far {b m : Nat} (B : Base b) : Heal b (b * m + 2 ^ places b) (if 2 ^ places b % b = 1 then ((b * m + 2 ^ places b : Nat) : Int) - 1 else ((b * m + 2 ^ places b : Nat) : Int) + 1) := by
  have hlo := B.lo
  have e : (b * m + 2 ^ places b) % b = 2 ^ places b % b := by rw [Nat.mul_add_mod]
  have h1 : 2 ^ 0 % b = 1 := Nat.mod_eq_of_lt (by omega)
  have hp := B.pos.1
  rcases B.at with h | h
  · rw [if_pos h]
    exact .inr (.inl ⟨by omega, 0, hp, by omega, rfl⟩)
  · rw [if_neg (by omega)]
    refine .inr (.inr ⟨by omega, fun j hj q => ?_, 0, hp, by omega, rfl⟩)
    rcases Nat.eq_zero_or_pos j with rfl | hj0
    · omega
    · exact (B.ahead hj0 hj).2 (by omega)
end Mine
end
section
open PySem PySem.W PySem.Spec PySem.Calls PyProof.Rows
namespace Mine
theorem twice_left {b j : Nat} (h : j < places b) : (rowL b (places b) ++ rowL b (places b))[j]? = some ((2 ^ j % b : Nat) : Int) := by
  rw [List.getElem?_append_left (by rw [rowL_len]; exact h)]; exact rowL_get h
theorem twice_any {b j : Nat} {v : Int} (h : (rowL b (places b) ++ rowL b (places b))[j]? = some v) : ∃ i, i < places b ∧ v = ((2 ^ i % b : Nat) : Int) := by
  by_cases q : j < places b
  · rw [twice_left q] at h
    exact ⟨j, q, (Option.some.inj h).symm⟩
  · rw [List.getElem?_append_right (by rw [rowL_len]; omega), rowL_len] at h
    by_cases q2 : j - places b < places b
    · rw [rowL_get q2] at h
      exact ⟨_, q2, (Option.some.inj h).symm⟩
    · rw [List.getElem?_eq_none (by rw [rowL_len]; omega)] at h
      cases h
theorem twice_small {b : Nat} (B : Base b) : ∀ x ∈ rowL b (places b) ++ rowL b (places b), 0 ≤ x ∧ x ≤ 256 := by
  intro x hx
  obtain ⟨j, hj⟩ := List.mem_iff_getElem?.mp hx
  obtain ⟨i, _, rfl⟩ := twice_any hj
  have h1 := B.lo
  have h2 := B.hi
  have := Nat.mod_lt (2 ^ i) (show 0 < b by omega)
  omega
theorem below_eq {b r : Nat} {z : Int} (hz : z = b) (h0 : r ≠ 0) (hr : r < b) : Int.fmod (-(r : Int)) z = ((b - r : Nat) : Int) := by
  rw [hz, Int.fmod_eq_emod_of_nonneg _ (by omega), show -(r : Int) = ((b - r : Nat) : Int) + (b : Int) * (-1) by omega, Int.add_mul_emod_self_left, Int.emod_eq_of_lt (by omega) (by omega)]
theorem c_healed (w : World) (news : List (Addr × Obj)) (b : Nat) (x z res : Int) (l : Addr) (tx tb : Tok) (us : List Value) (n : Nat) (hI : IntsAre us (rowL b (places b) ++ rowL b (places b))) (hm : (l, listOf us.toArray n) ∈ news) (hz : z = b) (hx0 : 0 ≤ x) (hB : Base b) (hN : x < 2 ^ 200) (H : Heal b x.toNat res)
    (mean : ExcName → Option Value) (mg mb : Str → Option Value) (dp un : Nat) (gd : Option (List Code)) (cn : Str) (cs : Scope) (a : Addr) (ccd : Value) (cl : List (Str × Addr)) (A₀ : Around) (base h₀ : Heap) (L : Addr) (m : Str → Option Value) (s : Shared) (Q E : Value → Shared → Prop)
    (B : Below A₀ base [] h₀) (F : Fr h₀ L s.heap m) (X : (hd.heap_39 w.params).In h₀) (XB : (hd.heap_39 w.params).In base) (N : News h₀ L s.heap news) (T : TopH mean mg mb h₀) (TB : TopH mean mg mb base) (hkk : cs.kind = .function) (hdp : dp + 16 < recursionLimit) (hun : un + 8 * 16 < cLine) (hT : TokIn s.toks us)
    (hret : ∀ t h' tk', Fr h₀ L h' m → News h₀ L h' news → Q (.int res t) { s with heap := h', toks := tk' }) :
    wpAny (model Challenge.rw_xi0004_01.row.prog w) (Ard none dp un gd cn cs L a ccd cl []) (call (.ref 98) [.int x tx, .int z tb, .ref l]) Q E s := by
  have hx : x = (x.toNat : Int) := by omega
  have hp := hB.pos
  have hlo := hB.lo
  rcases H with ⟨h0, rfl⟩ | ⟨h0, k, hk, hv, rfl⟩ | ⟨h0, hno, k, hk, hv, rfl⟩
  · rw [← hx] at hret
    exact c_healed_same w news b x.toNat x z l tx tb hz hx hB hN h0 mean mg mb dp un gd cn cs a ccd cl A₀ base h₀ L m s Q E B F X XB N T TB hkk hdp hun hret
  · refine c_healed_less w news b x.toNat x z l tx tb us n _ k hI (twice_small hB) hm hz hx hB hN h0 (by rw [twice_left hk, hv]) (fun j hj q => ?_) (by omega) mean mg mb dp un gd cn cs a ccd cl A₀ base h₀ L m s Q E B F X XB N T TB hkk hdp hun hT ?_
    · rw [twice_left (by omega)] at q
      have q' := Option.some.inj q
      rw [← hv] at q'
      exact rests_inj hB hj hk (by omega)
    · intro t h' tk' F' N'
      have e : x - 1 * 2 ^ (Int.toNat (k : Int)) = (x.toNat : Int) - 2 ^ k := by rw [Int.toNat_natCast, ← hx]; omega
      rw [e]
      exact hret t h' tk' F' N'
  · have hlt := Nat.mod_lt x.toNat (show 0 < b by omega)
    have eb := below_eq hz h0 hlt
    refine c_healed_more w news b x.toNat x z l tx tb us n _ k hI (twice_small hB) hm hz hx hB hN h0 (fun j q => ?_) (by rw [twice_left hk, eb, hv]) (fun j hj q => ?_) (by omega) mean mg mb dp un gd cn cs a ccd cl A₀ base h₀ L m s Q E B F X XB N T TB hkk hdp hun hT ?_
    · obtain ⟨i, hi, e⟩ := twice_any q
      exact hno i hi (by omega)
    · rw [twice_left (by omega), eb, ← hv] at q
      have q' := Option.some.inj q
      exact rests_inj hB hj hk (by omega)
    · intro t h' tk' F' N'
      have e : x + 1 * 2 ^ (Int.toNat (k : Int)) = (x.toNat : Int) + 2 ^ k := by rw [Int.toNat_natCast, ← hx]; omega
      rw [e]
      exact hret t h' tk' F' N'
theorem TokIn.twice {tk : Nat} {vs : List Value} (h : TokIn tk vs) : TokIn tk (vs ++ vs) := fun v hv => (List.mem_append.mp hv).elim (h v) (h v)
theorem c_healedT (w : World) (news : List (Addr × Obj)) (b : Nat) (x z res : Int) (l : Addr) (tx tb : Tok) (us : List Value) (items : Array Value) (n : Nat) (hI : IntsAre us (rowL b (places b) ++ rowL b (places b))) (hi : items = us.toArray) (hm : (l, listOf items n) ∈ news) (hz : z = b) (hx0 : 0 ≤ x) (hB : Base b) (hN : x < 2 ^ 200) (H : Heal b x.toNat res)
    (mean : ExcName → Option Value) (mg mb : Str → Option Value) (dp un : Nat) (gd : Option (List Code)) (cn : Str) (cs : Scope) (a : Addr) (ccd : Value) (cl : List (Str × Addr)) (A₀ : Around) (base h₀ : Heap) (L : Addr) (m : Str → Option Value) (s : Shared) (Q E : Value → Shared → Prop)
    (B : Below A₀ base [] h₀) (F : Fr h₀ L s.heap m) (X : (hd.heap_39 w.params).In h₀) (XB : (hd.heap_39 w.params).In base) (N : News h₀ L s.heap news) (T : TopH mean mg mb h₀) (TB : TopH mean mg mb base) (hkk : cs.kind = .function) (hdp : dp + 16 < recursionLimit) (hun : un + 8 * 16 < cLine) (hT : TokIn s.toks us)
    (hret : ∀ t h' tk', s.toks ≤ tk' → Fr h₀ L h' m → News h₀ L h' news → Q (.int res t) { s with heap := h', toks := tk' }) :
    wpAny (model Challenge.rw_xi0004_01.row.prog w) (Ard none dp un gd cn cs L a ccd cl []) (call (.ref 98) [.int x tx, .int z tb, .ref l]) Q E s := by
  subst hi
  exact wpAny_with_toks (Nat.le_refl _) (c_healed w news b x z res l tx tb us n hI hm hz hx0 hB hN H mean mg mb dp un gd cn cs a ccd cl A₀ base h₀ L m s (fun v s' => s.toks ≤ s'.toks → Q v s') (fun e s' => s.toks ≤ s'.toks → E e s') B F X XB N T TB hkk hdp hun hT fun t h' tk' F' N' hle => hret t h' tk' hle F' N')
end Mine
end
section
namespace Mine
noncomputable abbrev farOf (b : Nat) : Int := 2 ^ Int.toNat (places b : Int)
noncomputable abbrev mostOf (b : Nat) (z : Int) : Int := ((farOf b).fdiv z).fdiv 2
noncomputable abbrev wholeOf (b : Nat) (z c1 c2 : Int) : Int := z * c1.fmod (mostOf b z + 1) + z * c2.fmod (mostOf b z + 1)
noncomputable abbrev placeOf (b : Nat) (c3 : Int) : Int := c3.fmod (places b : Int)
noncomputable abbrev carryOf (b : Nat) (c3 : Int) : Int := 1 * 2 ^ Int.toNat (placeOf b c3)
theorem far_eq (b : Nat) : farOf b = ((2 ^ places b : Nat) : Int) := by
  show (2 : Int) ^ Int.toNat (places b : Int) = _
  rw [Int.toNat_natCast]; norm_cast
theorem most_eq {b : Nat} {z : Int} (hz : z = b) : mostOf b z = ((2 ^ places b / b / 2 : Nat) : Int) := by
  show ((farOf b).fdiv z).fdiv 2 = _
  rw [far_eq, hz, Int.fdiv_eq_ediv_of_nonneg _ (Int.natCast_nonneg b), Int.fdiv_eq_ediv_of_nonneg _ (by decide)]
  norm_cast
theorem mod_in {b : Nat} {z : Int} (hz : z = b) (c : Int) : ∃ f : Nat, c.fmod (mostOf b z + 1) = (f : Int) ∧ f ≤ 2 ^ places b / b / 2 := by
  rw [most_eq hz]
  generalize 2 ^ places b / b / 2 = M
  rw [Int.fmod_eq_emod_of_nonneg _ (by omega)]
  have h0 := Int.emod_nonneg c (show ((M : Int) + 1) ≠ 0 by omega)
  have h1 := Int.emod_lt_of_pos c (show (0 : Int) < (M : Int) + 1 by omega)
  exact ⟨(c % ((M : Int) + 1)).toNat, by omega, by omega⟩
theorem place_in {b : Nat} (B : Base b) (c : Int) : ∃ k : Nat, placeOf b c = (k : Int) ∧ k < places b := by
  have hp := B.pos
  show ∃ k : Nat, c.fmod (places b : Int) = _ ∧ _
  rw [Int.fmod_eq_emod_of_nonneg _ (by omega)]
  have h0 := Int.emod_nonneg c (show (places b : Int) ≠ 0 by omega)
  have h1 := Int.emod_lt_of_pos c (show (0 : Int) < places b by omega)
  exact ⟨(c % (places b : Int)).toNat, by omega, by omega⟩
structure LawFacts (b : Nat) (z c1 c2 c3 : Int) : Prop where
  most : 0 ≤ mostOf b z
  most1 : mostOf b z + 1 ≠ 0
  k0 : 0 ≤ placeOf b c3
  k1 : placeOf b c3 < places b
  w0 : 0 ≤ wholeOf b z c1 c2
  w1 : wholeOf b z c1 c2 ≤ farOf b
  far : farOf b ≤ 2 ^ 125
  far0 : 0 < farOf b
  cr0 : 0 < carryOf b c3
  cr1 : carryOf b c3 ≤ 2 ^ 125
  h1 : Heal b (wholeOf b z c1 c2).toNat (wholeOf b z c1 c2)
  h2 : Heal b (wholeOf b z c1 c2 + carryOf b c3).toNat (wholeOf b z c1 c2)
  h3 : carryOf b c3 ≤ wholeOf b z c1 c2 → Heal b (wholeOf b z c1 c2 - carryOf b c3).toNat (wholeOf b z c1 c2)
  h4 : (farOf b).fmod z = 1 → Heal b (wholeOf b z c1 c2 + farOf b).toNat (wholeOf b z c1 c2 + farOf b - 1)
  h5 : (farOf b).fmod z ≠ 1 → Heal b (wholeOf b z c1 c2 + farOf b).toNat (wholeOf b z c1 c2 + farOf b + 1)
theorem law_facts {b : Nat} {z : Int} (hz : z = b) (B : Base b) (c1 c2 c3 : Int) : LawFacts b z c1 c2 c3 := by
  obtain ⟨f, hf, hf1⟩ := mod_in hz c1
  obtain ⟨g, hg, hg1⟩ := mod_in hz c2
  obtain ⟨k, hk, hk1⟩ := place_in B c3
  have hp := B.pos
  have hlo := B.lo
  have em := most_eq (b := b) hz
  have ef := far_eq b
  have ew : wholeOf b z c1 c2 = ((b * (f + g) : Nat) : Int) := by
    show z * c1.fmod (mostOf b z + 1) + z * c2.fmod (mostOf b z + 1) = _
    rw [hf, hg, hz]; push_cast; rw [Int.mul_add]
  have ec : carryOf b c3 = ((2 ^ k : Nat) : Int) := by
    show 1 * 2 ^ Int.toNat (placeOf b c3) = _
    rw [hk, Int.toNat_natCast, Int.one_mul]; norm_cast
  have efm : (farOf b).fmod z = ((2 ^ places b % b : Nat) : Int) := by
    rw [ef, hz, Int.fmod_eq_emod_of_nonneg _ (by omega)]; norm_cast
  have hle : b * (f + g) ≤ 2 ^ places b := by
    have h1 : f + g ≤ 2 ^ places b / b := by omega
    exact Nat.le_trans (Nat.mul_le_mul_left b h1) (Nat.mul_div_le _ _)
  have hfar : 2 ^ places b ≤ 2 ^ 125 := Nat.pow_le_pow_right (by decide) hp.2
  have hcar : 2 ^ k ≤ 2 ^ 125 := Nat.pow_le_pow_right (by decide) (by omega)
  have hf0 : 0 < 2 ^ places b := Nat.pow_pos (by decide)
  have hc0 : 0 < 2 ^ k := Nat.pow_pos (by decide)
  have hh := heal_far (m := f + g) B
  refine { most := by rw [em]; omega, most1 := by rw [em]; omega, k0 := by rw [hk]; omega, k1 := by rw [hk]; omega, w0 := by rw [ew]; omega, w1 := by rw [ew, ef]; omega, far := by rw [ef]; exact_mod_cast hfar, far0 := by rw [ef]; exact_mod_cast hf0, cr0 := by rw [ec]; exact_mod_cast hc0, cr1 := by rw [ec]; exact_mod_cast hcar, h1 := ?_, h2 := ?_, h3 := ?_, h4 := ?_, h5 := ?_ }
  · rw [ew, Int.toNat_natCast]; exact heal_whole
  · rw [ew, ec, ← Int.natCast_add, Int.toNat_natCast]; exact heal_plus B hk1
  · intro hle'
    rw [ew, ec] at hle' ⊢
    have hN : 2 ^ k ≤ b * (f + g) := by exact_mod_cast hle'
    have e : ((b * (f + g) : Nat) : Int) - ((2 ^ k : Nat) : Int) = ((b * (f + g) - 2 ^ k : Nat) : Int) := by omega
    rw [e, Int.toNat_natCast]
    exact heal_minus B hk1 (by omega)
  · intro h
    rw [efm] at h
    rw [if_pos (by exact_mod_cast h)] at hh
    rw [ew, ef, ← Int.natCast_add, Int.toNat_natCast]; exact hh
  · intro h
    rw [efm] at h
    rw [if_neg (by intro q; exact h (by exact_mod_cast q))] at hh
    rw [ew, ef, ← Int.natCast_add, Int.toNat_natCast]; exact hh
end Mine
end
section
open PySem PySem.W PySem.Spec PySem.Calls PyProof.Rows PyProof.Rows.LCg
set_option maxRecDepth 100000
set_option maxHeartbeats 2000000
namespace Mine
/-- an element of a comprehension has been evaluated: the ledger stands as it was -/
def EltEnd (h₀ : Heap) (L : Addr) (m : Str → Option Value) (s : Shared) (all : List (Addr × Obj)) (J : Value → Prop) (y : Value) (s₂ : Shared) : Prop := ∃ h' tk, s₂ = { s with heap := h', toks := tk } ∧ Fr h₀ L h' m ∧ News h₀ L h' all ∧ J y
theorem EltEnd.intro {h₀ : Heap} {L : Addr} {m : Str → Option Value} {s : Shared} {all all' : List (Addr × Obj)} {J : Value → Prop} {y : Value} {h' : Heap} {tk : Nat} (F : Fr h₀ L h' m) (N : News h₀ L h' all') (hs : ∀ p ∈ all, p ∈ all') (hJ : J y) : EltEnd h₀ L m s all J y { s with heap := h', toks := tk } := ⟨h', tk, rfl, F, fun p hp => N p (hs p hp), hJ⟩
section
variable {prog : Program} {w : World} {A : Around} {E : Value → Shared → Prop} {s : Shared} {h₀ : Heap} {L : Addr} {m : Str → Option Value} {env : Env}
def EnumAt (prog : Program) (w : World) (A : Around) (h₀ : Heap) (L : Addr) (m : Str → Option Value) (env : Env) (elt : PySem.Expr) (x x₂ : Str) (scope : Scope) (cl : List (Str × Addr)) (Fin : Shared → List Value → List (Addr × Obj) → Prop) (xv : Value) (s₁ : Shared) : Prop :=
  ∃ (e it l : Addr) (its : List Value) (n : Nat) (news : List (Addr × Obj)) (J : Nat → List Value → Prop), xv = .ref e ∧ A.handled = none ∧ e ≠ it ∧ (∀ p ∈ news, p.1 ≠ e ∧ p.1 ≠ it) ∧ L ≠ e ∧ L ≠ it ∧ h₀.get? e = none ∧ h₀.get? it = none ∧ (l, listOf its.toArray n) ∈ news ∧ IsEnum s₁.heap e it 0 .none ∧ s₁.heap.IsListIter it l 0 ∧
    Fr h₀ L s₁.heap m ∧ News h₀ L s₁.heap news ∧ its.length ≤ sizeLine ∧ J 0 [] ∧
    (∀ (i : Nat) (ys : List Value) (v : Value) (t : Tok) (oe oi : Obj) (C : Addr) (oC : Obj) (D : Addr) (m₂ : Str → Option Value) (h : Heap) (tk : Nat) (E' : Value → Shared → Prop), its[i]? = some v → J i ys → NsObj oC m₂ → m₂ x = some (.int (i : Nat) t) → m₂ x₂ = some v → Fr h₀ L h m → News h₀ L h ((e, oe) :: (it, oi) :: (C, oC) :: (D, lst ys) :: news) →
      wpAny (model prog w) A (eval elt (compEnvC scope cl C env)) (EltEnd h₀ L m { s₁ with heap := h, toks := tk } ((e, oe) :: (it, oi) :: (C, oC) :: (D, lst ys) :: news) fun y => J (i + 1) (ys ++ [y])) E' { s₁ with heap := h, toks := tk }) ∧
    ∀ s₂ ys, (∃ h, s₂ = { s₁ with heap := h }) → J its.length ys → Fin s₂ ys news
theorem EnumAt.call {elt : PySem.Expr} {x x₂ : Str} {scope : Scope} {cl : List (Str × Addr)} {Fin : Shared → List Value → List (Addr × Obj) → Prop} {l : Addr} {its : List Value} {n : Nat} {news : List (Addr × Obj)} (J : Nat → List Value → Prop)
    (hh : A.handled = none) (F : Fr h₀ L s.heap m) (N : News h₀ L s.heap news) (hm : (l, listOf its.toArray n) ∈ news) (hsz : its.length ≤ sizeLine) (h0 : J 0 [])
    (step : ∀ (i : Nat) (ys : List Value) (v : Value) (t : Tok) (e it : Addr) (oe oi : Obj) (C : Addr) (oC : Obj) (D : Addr) (m₂ : Str → Option Value) (h : Heap) (tk : Nat) (E' : Value → Shared → Prop), its[i]? = some v → J i ys → NsObj oC m₂ → m₂ x = some (.int (i : Nat) t) → m₂ x₂ = some v → Fr h₀ L h m → News h₀ L h ((e, oe) :: (it, oi) :: (C, oC) :: (D, lst ys) :: news) →
      wpAny (model prog w) A (eval elt (compEnvC scope cl C env)) (EltEnd h₀ L m { s with heap := h, toks := tk } ((e, oe) :: (it, oi) :: (C, oC) :: (D, lst ys) :: news) fun y => J (i + 1) (ys ++ [y])) E' { s with heap := h, toks := tk })
    (fin : ∀ s₂ ys, (∃ h, s₂ = { s with heap := h }) → J its.length ys → Fin s₂ ys news) :
    wpAny (model prog w) A (call (.type "enumerate") [.ref l]) (EnumAt prog w A h₀ L m env elt x x₂ scope cl Fin) E s := by
  have hl : s.heap.IsList l its.toArray := ⟨_, (N _ hm).1, rfl, n, rfl⟩
  have hLs : L < s.heap.objs.size := F.ns.lt
  refine call_enumerate_list hl fun h' hE' hI hsz' hk => ?_
  have F' : Fr h₀ L h' m := ⟨F.ns.keeps hk, fun b o e => hk b o (F.keep b o e), F.above⟩
  have N' : News h₀ L h' news := fun p hp => ⟨hk _ _ (N p hp).1, (N p hp).2⟩
  have none0 : ∀ a, s.heap.objs.size ≤ a → h₀.get? a = none := fun a ha => Heap.get?_none_of_le (Nat.le_trans F.above (Nat.le_trans (Nat.le_of_lt hLs) ha))
  refine ⟨s.heap.objs.size + 1, s.heap.objs.size, l, its, n, news, J, rfl, hh, Nat.succ_ne_self _, fun p hp => ?_, Nat.ne_of_lt (Nat.lt_succ_of_lt hLs), Nat.ne_of_lt hLs, none0 _ (Nat.le_succ _), none0 _ (Nat.le_refl _), hm, hE', hI, F', N', hsz, h0, ?_, ?_⟩
  · have := Heap.lt_size (N p hp).1
    exact ⟨Nat.ne_of_lt (Nat.lt_succ_of_lt this), Nat.ne_of_lt this⟩
  · intro i ys v t oe oi C oC D m₂ h tk E' a b c d f g q
    exact step i ys v t _ _ oe oi C oC D m₂ h tk E' a b c d f g q
  · rintro s₂ ys ⟨h, rfl⟩ hJ
    exact fin _ ys ⟨h, rfl⟩ hJ
theorem block_E {elt iter : PySem.Expr} {x x₂ : Str} {px px₂ tp : Pos} {tk} {scope : Scope} {cl : List (Str × Addr)} {pos : Pos} {s₁ : Shared} {xv : Value} {Fin : Shared → List Value → List (Addr × Obj) → Prop} {RR : Value → Addr → Result → Shared → Prop}
    (hcell : ∀ y ∈ scope.names, y.2 ≠ .cell) (hkind : scope.kind = .function) (hx : scope.names.lookup x = some .local) (hx₂ : scope.names.lookup x₂ = some .local) (hxx : x ≠ x₂)
    (H : EnumAt prog w A h₀ L m env elt x x₂ scope cl Fin xv s₁)
    (hRR : ∀ D C h tk m' ys news', Fr h₀ L h m → News h₀ L h ((D, lst ys) :: news') → Off1 D news' → h.Ns C m' → h₀.get? C = none → h₀.get? D = none → C ≠ L → D ≠ L → C ≠ D → (∀ p ∈ news', p.1 ≠ C) → Fin s₁ ys news' → RR (.ref D) C (.ok .next) { s₁ with heap := h, toks := tk }) :
    wpAny (model prog w) A (pyIter xv) (fun itv s₂ => wpAny (model prog w) A (newList []) (fun acc s₃ => wpAny (model prog w) A (newFunctionEnv scope env.globals cl [] env.qual none .none (some env)) (fun cenv s₄ =>
      codeAny (model prog w) A (.compStart (.ListComp elt [⟨.Tuple [.Name x px, .Name x₂ px₂] tk tp, iter, [], 0⟩] scope pos) 0 itv acc { cenv with scope := relabel scope env }) (RR acc cenv.locals) s₄) E s₃) E s₂) E s₁ := by
  obtain ⟨e, it, l, its, nn, news, J, rfl, hh, hei, hoff, heL, hiL, he0, hi0, hml, hE, hI, F, N, hsz, hJ0, step, fin⟩ := H
  refine wpAny_pyIter_enum hE ?_
  refine wpAny_newObj_type (wpAny_newFunctionEnv hcell (by intro y hy; simp at hy) (fun h₁ hns₁ hsb₁ => ?_) hkind)
  dsimp only at hns₁ hsb₁ ⊢
  generalize hH2 : s₁.heap.push { cls := .type "list", dict := none, data := .seq ([] : List Value).toArray } = H2 at hns₁ hsb₁ ⊢
  have hC : H2.objs.size = s₁.heap.objs.size + 1 := by rw [← hH2, Heap.size_push]
  have hDC : s₁.heap.objs.size ≠ H2.objs.size := by rw [hC]; exact Nat.ne_of_lt (Nat.lt_succ_self _)
  have below : ∀ b, b < s₁.heap.objs.size → b ≠ H2.objs.size ∧ b ≠ s₁.heap.objs.size := fun b hb => ⟨by rw [hC]; exact Nat.ne_of_lt (Nat.lt_succ_of_lt hb), Nat.ne_of_lt hb⟩
  have old : ∀ b o, s₁.heap.get? b = some o → h₁.get? b = some o := fun b o e => hsb₁.extBut b o (below b (Heap.lt_size e)).1 (Heap.get?_push_of_some _ (hH2 ▸ Heap.get?_push_of_some _ e))
  have hacc : h₁.get? s₁.heap.objs.size = some (lst []) := hsb₁.extBut _ _ hDC (Heap.get?_push_of_some _ (hH2 ▸ Heap.get?_push_size _ rfl))
  have fresh : ∀ a, s₁.heap.objs.size ≤ a → s₁.heap.get? a = none := fun a ha => by
    cases e : s₁.heap.get? a with
    | none => rfl
    | some o' => exact absurd (Heap.lt_size e) (Nat.not_lt.mpr ha)
  have fresh₀ : ∀ a, s₁.heap.objs.size ≤ a → h₀.get? a = none := fun a ha => by
    cases e : h₀.get? a with
    | none => rfl
    | some o' => have := F.keep a o' e; rw [fresh a ha] at this; cases this
  have hD₀ : h₀.get? s₁.heap.objs.size = none := fresh₀ _ (Nat.le_refl _)
  have hC₀ : h₀.get? H2.objs.size = none := fresh₀ _ (by rw [hC]; exact Nat.le_succ _)
  have hLlt : L < s₁.heap.objs.size := F.ns.lt
  have hDL : s₁.heap.objs.size ≠ L := Ne.symm (below L hLlt).2
  have hCL : H2.objs.size ≠ L := Ne.symm (below L hLlt).1
  have helt : e < s₁.heap.objs.size := Heap.lt_size hE
  obtain ⟨oi₀, hoi₀, _⟩ := id hI
  have hilt : it < s₁.heap.objs.size := Heap.lt_size hoi₀
  have offD : ∀ p ∈ news, p.1 ≠ H2.objs.size ∧ p.1 ≠ s₁.heap.objs.size := fun p hp => below _ (Heap.lt_size (N p hp).1)
  have loop : ∀ s₃ : Shared, s₃ = { s₁ with heap := h₁, toks := s₁.toks + ([] : List (Str × Value)).length } →
      codeAny (model prog w) A (.compLoop (.ListComp elt [⟨.Tuple [.Name x px, .Name x₂ px₂] tk tp, iter, [], 0⟩] scope pos) 0 (.ref e) (.ref s₁.heap.objs.size) (compEnvC scope cl H2.objs.size env))
        (RR (.ref s₁.heap.objs.size) H2.objs.size) s₃ := by
    rintro s₃ rfl
    refine LCp.codeAny_compLoop_pair
      (fun k s' => ∃ h' tk i ys m' old', s' = { s₁ with heap := h', toks := tk } ∧ i ≤ its.length ∧ k = its.length + 1 - i ∧ ys.length = i ∧ IsEnum h' e it ((i : Nat) : Int) old' ∧ h'.IsListIter it l i ∧ Fr h₀ L h' m ∧ h'.Ns H2.objs.size m' ∧ News h₀ L h' ((s₁.heap.objs.size, lst ys) :: news) ∧ J i ys) ?_ (its.length + 1)
      ⟨h₁, _, 0, [], _, .none, rfl, Nat.zero_le _, rfl, rfl, old _ _ hE, ⟨oi₀, old _ _ hoi₀, (by obtain ⟨o', ho', r⟩ := hI; rw [hoi₀] at ho'; cases ho'; exact r)⟩, F.keeps old, hns₁, fun p hp => ?_, hJ0⟩
    · rintro k s' ⟨h', tk, i, ys, m', old', rfl, hi, rfl, hyl, hE', hI', F', hn', N', hJ⟩
      have hl' : h'.IsList l its.toArray := ⟨_, (N' _ (List.mem_cons_of_mem _ hml)).1, rfl, nn, rfl⟩
      cases hv : its[i]? with
      | some v =>
        have hlt : i < its.length := (List.getElem?_eq_some_iff.mp hv).1
        have heH : e < h'.objs.size := Heap.lt_size hE'
        have hLH : L < h'.objs.size := F'.ns.lt
        obtain ⟨oi, hoi, _⟩ := id hI'
        have hiH : it < h'.objs.size := Heap.lt_size hoi
        have hCH : H2.objs.size < h'.objs.size := hn'.lt
        have hDH : s₁.heap.objs.size < h'.objs.size := Heap.lt_size (N' _ List.mem_cons_self).1
        refine wpAny_pyNext_enum_item hE' hI' hl' (by simpa using hv) hei fun h₂ heo hit₂ ht₂ hz₂ hk₂ => ?_
        refine wpAny_letOwnedTupleGo_enum heo fun h₃ he₃ hs₃ => ?_
        replace hs₃ : Heap.SameBut e h₂ h₃ := hs₃
        have ht₃ : IsTup h₃ h'.objs.size #[.int (i : Nat) tk, v] := ⟨_, (hs₃.2 _ (Nat.ne_of_gt heH)).trans ht₂, rfl, _, rfl⟩
        have hz₃ : h₃.objs.size = h'.objs.size + 1 := hs₃.1.trans hz₂
        have up₃ : ∀ b o, b ≠ e → b ≠ it → h'.get? b = some o → h₃.get? b = some o := fun b o hbe hbi q => hs₃.extBut b o hbe (hk₂ b o hbe hbi q)
        refine assign_Tuple_tuple hh ht₃ rfl rfl fun h₅ hx₅ => ?_
        have up₅ : ∀ b o, b < h'.objs.size → h₃.get? b = some o → h₅.get? b = some o := fun b o hb q => hx₅ b o (by rw [hz₃]; exact Nat.ne_of_lt (Nat.lt_succ_of_lt hb)) q
        have upA : ∀ b o, b ≠ e → b ≠ it → h'.get? b = some o → h₅.get? b = some o := fun b o hbe hbi q => up₅ b o (Heap.lt_size q) (up₃ b o hbe hbi q)
        have hCe : H2.objs.size ≠ e := fun q => Nat.lt_irrefl e (by rw [← q] at helt; rw [hC] at helt; exact absurd helt (Nat.not_lt.mpr (Nat.le_succ _)))
        have hCi : H2.objs.size ≠ it := fun q => Nat.lt_irrefl it (by rw [← q] at hilt; rw [hC] at hilt; exact absurd hilt (Nat.not_lt.mpr (Nat.le_succ _)))
        have hDe : s₁.heap.objs.size ≠ e := Nat.ne_of_gt helt
        have hDi : s₁.heap.objs.size ≠ it := Nat.ne_of_gt hilt
        refine assignInOrder_cons (wpAny_assign_Name (wpAny_storeName_local (lookup_relabel_local hx) (hn'.at' fun o q => upA _ o hCe hCi q) (fun h₆ hn₆ hs₆ => ?_) (by simp [compEnvC, relabel, hkind])))
        refine assignInOrder_cons (wpAny_assign_Name (wpAny_storeName_local (lookup_relabel_local hx₂) hn₆ (fun h₇ hn₇ hs₇ => ?_) (by simp [compEnvC, relabel, hkind])))
        refine assignInOrder_nil ?_
        have up₇ : ∀ b o, b ≠ H2.objs.size → b < h'.objs.size → h₃.get? b = some o → h₇.get? b = some o := fun b o hb hlt q => hs₇.extBut b o hb (hs₆.extBut b o hb (up₅ b o hlt q))
        have upB : ∀ b o, b ≠ H2.objs.size → b ≠ e → b ≠ it → h'.get? b = some o → h₇.get? b = some o := fun b o hbC hbe hbi q => up₇ b o hbC (Heap.lt_size q) (up₃ b o hbe hbi q)
        obtain ⟨oi₂, hoi₂, hic₂, hid₂⟩ := id hit₂
        have he₇ := up₇ e _ (Ne.symm hCe) heH he₃
        have hi₇ := up₇ it oi₂ (Ne.symm hCi) hiH (hs₃.extBut it oi₂ (Ne.symm hei) hoi₂)
        obtain ⟨oe, hoe, henum⟩ : ∃ oe, h₇.get? e = some oe ∧ ∀ h'', h''.get? e = some oe → IsEnum h'' e it ((i : Int) + 1) v := ⟨_, he₇, fun h'' q => q⟩
        obtain ⟨oC, heC, hoC⟩ := ns_obj hn₇
        have oldn : ∀ b o, h₀.get? b = some o → b ≠ e ∧ b ≠ it ∧ b ≠ H2.objs.size := fun b o q => ⟨fun z => (by rw [z, he0] at q; cases q), fun z => (by rw [z, hi0] at q; cases q), fun z => (by rw [z, hC₀] at q; cases q)⟩
        have F₇ : Fr h₀ L h₇ m := ⟨F'.ns.at' fun o q => upB _ o (Ne.symm hCL) heL hiL q, fun b o q => upB b o (oldn b o q).2.2 (oldn b o q).1 (oldn b o q).2.1 (F'.keep b o q), F'.above⟩
        have N₇ : News h₀ L h₇ ((e, oe) :: (it, oi₂) :: (H2.objs.size, oC) :: (s₁.heap.objs.size, lst ys) :: news) := fun p hp => by
          rcases List.mem_cons.mp hp with rfl | hp
          · exact ⟨hoe, Ne.symm heL, he0⟩
          rcases List.mem_cons.mp hp with rfl | hp
          · exact ⟨hi₇, Ne.symm hiL, hi0⟩
          rcases List.mem_cons.mp hp with rfl | hp
          · exact ⟨heC, hCL, hC₀⟩
          have z := N' p hp
          refine ⟨?_, z.2⟩
          rcases List.mem_cons.mp hp with rfl | hp
          · exact upB _ _ hDC hDe hDi z.1
          · exact upB _ _ (offD p hp).1 (hoff p hp).1 (hoff p hp).2 z.1
        refine wpAny_mono (step i ys v tk oe oi₂ H2.objs.size oC s₁.heap.objs.size _ h₇ _ _ hv hJ hoC (by simp [hxx]) (by simp) F₇ N₇) (fun y s₄ h₄ => ?_) fun _ _ e => e
        obtain ⟨h₈, tk₈, rfl, F₈, N₈, hJ₈⟩ := h₄
        have zD := (N₈ (s₁.heap.objs.size, lst ys) (.tail _ (.tail _ (.tail _ (.head _))))).1
        have zC := (N₈ (H2.objs.size, oC) (.tail _ (.tail _ (.head _)))).1
        refine append_at (hsz := by show ys.toArray.size ≤ sizeLine; rw [List.size_toArray, hyl]; exact Nat.le_trans hi hsz) zD fun h₉ hs₉ hD₉ => ?_
        refine ⟨its.length + 1 - (i + 1), by omega, h₉, tk₈, i + 1, ys ++ [y], _, v, rfl, hlt, rfl, by rw [List.length_append, List.length_singleton, hyl], ?_, ⟨oi₂, hs₉.extBut _ _ (Ne.symm hDi) (N₈ _ (.tail _ (.head _))).1, hic₂, hid₂⟩, F₈.change hs₉ hDL hD₀, (hoC.ns zC).sameBut hs₉ (Ne.symm hDC), fun p hp => ?_, hJ₈⟩
        · have e1 : ((i + 1 : Nat) : Int) = (i : Int) + 1 := by push_cast; rfl
          rw [e1]
          exact henum h₉ (hs₉.extBut _ _ (Ne.symm hDe) (N₈ _ (.head _)).1)
        · rcases List.mem_cons.mp hp with rfl | hp
          · exact ⟨hD₉.trans (congrArg some (lst_snoc ys y)), hDL, hD₀⟩
          · have z := N₈ p (.tail _ (.tail _ (.tail _ (.tail _ hp))))
            exact ⟨hs₉.extBut _ _ (offD p hp).2 z.1, z.2⟩
      | none =>
        have hin : i = its.length := Nat.le_antisymm hi (by simpa using hv)
        subst hin
        refine wpAny_pyNext_enum_end hh hE' hI' hl' (by simp) fun h₂ he₂ => ?_
        have up : ∀ b o, b ≠ it → h'.get? b = some o → h₂.get? b = some o := fun b o hb q => he₂ b o hb q
        have hCi : H2.objs.size ≠ it := fun q => Nat.lt_irrefl it (by rw [← q] at hilt; rw [hC] at hilt; exact absurd hilt (Nat.not_lt.mpr (Nat.le_succ _)))
        have hDi : s₁.heap.objs.size ≠ it := Nat.ne_of_gt hilt
        refine hRR _ _ h₂ tk _ ys news ⟨F'.ns.at' fun o q => up _ o hiL q, fun b o q => up b o (fun z => by rw [z, hi0] at q; cases q) (F'.keep b o q), F'.above⟩ (fun p hp => ⟨up _ _ ?_ (N' p hp).1, (N' p hp).2⟩) ?_ (hn'.at' fun o q => up _ o hCi q) hC₀ hD₀ hCL hDL (Ne.symm hDC) (fun p hp => (offD p hp).1) (fin s₁ ys ⟨_, rfl⟩ hJ)
        · rcases List.mem_cons.mp hp with rfl | hp
          · exact hDi
          · exact (hoff p hp).2
        · exact Off3.one (I := s₁.heap.objs.size) (C := s₁.heap.objs.size) (Off3.of fun p hp => ⟨(offD p hp).2, (offD p hp).2, (offD p hp).2⟩)
    · rcases List.mem_cons.mp hp with rfl | hp
      · exact ⟨hacc, hDL, hD₀⟩
      · exact ⟨old _ _ (N p hp).1, (N p hp).2⟩
  exact codeAny_compStart_list (loop _ rfl) (wpAny_pyIter_enum (old _ _ hE) (loop _ rfl))
end
end Mine
end
section
open PySem PySem.W PySem.Spec PySem.Calls PyProof.Rows PyProof.Rows.LCg
set_option maxRecDepth 100000
set_option maxHeartbeats 2000000
namespace Mine
section
variable {prog : Program} {w : World} {A : Around} {E : Value → Shared → Prop} {s : Shared} {h₀ : Heap} {L : Addr} {m : Str → Option Value} {env : Env}
theorem assign_comp_E {elt iter : PySem.Expr} {x x₂ y : Str} {px px₂ tp py : Pos} {tk} {scope : Scope} {cl : List (Str × Addr)} {pos spos : Pos} {Q : Flow → Shared → Prop} (F₀ : Fr h₀ L s.heap m) (hLe : env.locals = L)
    (hsw : swapsWith (.ListComp elt [⟨.Tuple [.Name x px, .Name x₂ px₂] tk tp, iter, [], 0⟩] scope pos) (some (.Name y py)) spos.line env = pure true)
    (hclos : closureFor scope env = pure cl) (hcell : ∀ z ∈ scope.names, z.2 ≠ .cell) (hkind : scope.kind = .function)
    (hnames : ∀ z ∈ scope.names, z.2 = .local → scope.names.lookup z.1 = some .local) (hx : scope.names.lookup x = some .local) (hx₂ : scope.names.lookup x₂ = some .local) (hxx : x ≠ x₂)
    (hy : env.kindOf y = some .local) (hp : (env.scope.kind == .class || (env.scope.kind == .module && env.locals != env.globals)) = false)
    (h : wpAny (model prog w) A (eval iter env) (EnumAt prog w A h₀ L m env elt x x₂ scope cl (fun s₂ => FinA h₀ L m s₂ y Q)) E s)
    (hs : ∀ x, foldedSetIterable iter env x = pure x := by intro _; rfl) :
    wpAny (model prog w) A (exec (.Assign [.Name y py] (.ListComp elt [⟨.Tuple [.Name x px, .Name x₂ px₂] tk tp, iter, [], 0⟩] scope pos) spos) env) Q E s := by
  subst hLe
  rw [exec_Assign_Name_used _ _ _ _ hsw]
  refine wpAny_bind (wpAny_standAt (wpAny_bind ?_))
  show wpAny _ A (do let _ ← comprehension (.ListComp elt [⟨.Tuple [.Name x px, .Name x₂ px₂] tk tp, iter, [], 0⟩] scope pos) scope env _ (newList []) false (eval iter env) (some (assign (.Name y py) env))) _ _ s
  refine wpAny_bind (wpAny_mono (wpAny_comprehension_free (use := some (assign (.Name y py) env)) (Q := fun _ s' => Q .next s') rfl hs hclos hkind hnames
    (wpAny_mono h (fun xv s₁ h₁ => ?_) fun _ _ e => e)) (fun _ s' hq => wpAny_pure (wpAny_pure hq)) fun _ _ e => e)
  refine block_E hcell hkind hx hx₂ hxx h₁ ?_
  intro D C h' tk m' ys news' F' N' o1 hn hC₀ hD₀ hCL hDL hCD offC fin
  show wpAny _ A (assign (.Name y py) env (.ref D)) _ _ _
  refine wpAny_assign_Name (wpAny_storeName_local hy F'.ns (fun h₂ hn₂ hs₂ => ?_) hp)
  have hL₀ : h₀.get? env.locals = none := Heap.get?_none_of_le F'.above
  have F₂ : Fr h₀ env.locals h₂ (fun z => if z = y then some (.ref D) else m z) := ⟨hn₂, fun b o e => hs₂.extBut b o (fun q => by rw [q, hL₀] at e; cases e) (F'.keep b o e), F'.above⟩
  refine ⟨m', hn.sameBut hs₂ hCL, fun h'' hs'' => fin D h'' _ (F₂.change hs'' hCL hC₀) (fun p hp => ?_) o1⟩
  have z : h₂.get? p.1 = some p.2 := hs₂.extBut _ _ (N' p hp).2.1 (N' p hp).1
  refine ⟨hs''.extBut _ _ ?_ z, (N' p hp).2⟩
  rcases List.mem_cons.mp hp with rfl | hp
  · exact Ne.symm hCD
  · exact offC p hp
/-- the turns of a comprehension, by a word of the elements made so far -/
theorem compRest_all {elt : PySem.Expr} {x : Str} {scope : Scope} {cl : List (Str × Addr)} {S : List (Addr × Obj) → Prop} {P : Nat → Value → Prop} {Fin : List Value → List (Addr × Obj) → Prop} {news : List (Addr × Obj)} {n : Nat} (J : Nat → List Value → Prop) (hS : S news)
    (step : ∀ (i : Nat) (ys : List Value) (v : Value) (I : Addr) (oI : Obj) (C : Addr) (oC : Obj) (D : Addr) (m₂ : Str → Option Value) (h : Heap) (tk : Nat) (E' : Value → Shared → Prop), i < n → J i ys → P i v → NsObj oC m₂ → m₂ x = some v → Fr h₀ L h m → News h₀ L h ((I, oI) :: (C, oC) :: (D, lst ys) :: news) →
      wpAny (model prog w) A (eval elt (compEnvC scope cl C env)) (EltEnd h₀ L m { s with heap := h, toks := tk } ((I, oI) :: (C, oC) :: (D, lst ys) :: news) fun y => J (i + 1) (ys ++ [y])) E' { s with heap := h, toks := tk })
    (fin : ∀ ys, J n ys → Fin ys news) : ∀ (k i : Nat) (ys : List Value), i + k = n → J i ys → CompRest prog w A h₀ L m env elt x scope cl s S P Fin k i ys news := by
  intro k
  induction k with
  | zero =>
    intro i ys hi hJ
    have : i = n := by omega
    subst this
    exact CompRest.zero (fin ys hJ)
  | succ k ih =>
    intro i ys hi hJ
    refine CompRest.succ fun v I oI C oC D m₂ h tk E' hP hC hx F N off ne => ?_
    refine wpAny_mono (step i ys v I oI C oC D m₂ h tk E' (by omega) hJ hP hC hx F N) (fun y s₂ q => ?_) fun _ _ e => e
    obtain ⟨h', tk', rfl, F', N', hJ'⟩ := q
    exact CompEnd.intro F' N' news (fun _ hp => hp) off hS (ih (i + 1) (ys ++ [y]) (by omega) hJ')
end
end Mine
end
section
open PySem PySem.W PySem.Spec PySem.Calls PyProof.Rows
namespace Mine
section
variable {prog : Program} {w : World} {A : Around} {E : Value → Shared → Prop} {s : Shared} {h₀ : Heap} {L t : Addr} {m : Str → Option Value} {news : List (Addr × Obj)}
theorem sum_ints {items : Array Value} {ns : List Int} {k : Nat} {Q : Value → Shared → Prop} (hh : A.handled = none) (F : Fr h₀ L s.heap m) (N : News h₀ L s.heap news) (hm : (t, listOf items k) ∈ news) (hi : IntsAre items.toList ns)
    (h : ∀ x h' tk t', Fr h₀ L h' m → News h₀ L h' news → Q (.int x t') { s with heap := h', toks := tk }) :
    wpAny (model prog w) A (call (.builtin "sum") [.ref t]) Q E s := by
  have hl : s.heap.IsList t items := ⟨_, (N _ hm).1, rfl, k, rfl⟩
  obtain ⟨xs, hx⟩ := hi.allInts.items
  have e : items.toList.toArray = items := by simp
  rw [e] at hx
  rw [hx] at hl
  exact sum_intListG hh hl fun h' tk t' hk => h _ h' tk t' (F.keeps hk) (N.grown hk)
theorem ne_lists {vs us : List Value} {xs ys : List Int} {j k : Nat} {a b : Addr} {Q : Value → Shared → Prop} (N : News h₀ L s.heap news) (ma : (a, listOf vs.toArray j) ∈ news) (mb : (b, listOf us.toArray k) ∈ news) (ia : IntsAre vs xs) (ib : IntsAre us ys) (e : xs = ys) (hu : A.units + 64 < cLine) (h : Q (.bool false) s) :
    wpAny (model prog w) A (compareOp .NotEq (.ref a) (.ref b)) Q E s := by
  subst e
  refine ne_dataH (reads_list_at (N.get ma) rfl rfl (ia.reads _)) (reads_list_at (N.get mb) rfl rfl (ib.reads _)) (shaped_ints _) (shaped_ints _) hu ?_
  have : PyData.eqv (.list (xs.map PyData.int)) (.list (xs.map PyData.int)) = true := by
    show PyData.eqvAll (xs.map PyData.int) (xs.map PyData.int) = true
    rw [ked_eqvAll]; simp
  rw [this]; exact h
end
end Mine
end
section
open PySem PySem.W PySem.Spec PySem.Calls PyProof.Rows PyProof.Rows.LCg
namespace Mine
theorem cells_more {ys : List Value} {i : Nat} {x : Int} {t : Tok} (h : ∃ cs, IntsAre ys cs ∧ cs.length = i) : ∃ cs, IntsAre (ys ++ [.int x t]) cs ∧ cs.length = i + 1 := by
  obtain ⟨cs, h1, h2⟩ := h
  exact ⟨cs ++ [x], IntsAre.append h1 (.cons _ _ .nil), by simp [h2]⟩
theorem range_n {p : Nat} : Builtin.Range.rangeSize 0 (p : Int) 1 = (p : Int) := (rangeSize_nat _ _).trans (by simp)
theorem small_places {n : Nat} (h : n ≤ 125) : Builtin.Range.small 0 (n : Int) 1 = true := by
  unfold Builtin.Range.small; rw [rangeSize_nat]; simp [Builtin.Range.rangeFitsLong]; omega
/-- the rests below nought -/
noncomputable def negL (b n : Nat) : List Int := (List.range n).map fun j => (b : Int) - ((2 ^ j % b : Nat) : Int)
theorem negL_succ (b n : Nat) : negL b (n + 1) = negL b n ++ [(b : Int) - ((2 ^ n % b : Nat) : Int)] := by simp [negL, List.range_succ]
theorem row_at {b n i : Nat} {x : Int} (h : (rowL b n)[i]? = some x) : x = ((2 ^ i % b : Nat) : Int) := by
  unfold rowL at h
  rw [List.getElem?_map] at h
  cases hr : (List.range n)[i]? with
  | none => rw [hr] at h; cases h
  | some k =>
    rw [hr] at h
    obtain ⟨hlt, hk⟩ := List.getElem?_eq_some_iff.mp hr
    rw [List.getElem_range] at hk
    subst hk
    exact (Option.some.inj h).symm
theorem pow_elt {b i : Nat} {z : Int} (hz : z = b) : Int.fmod (2 ^ Int.toNat (0 + (i : Int))) z = ((2 ^ i % b : Nat) : Int) := by
  have e : Int.toNat (0 + (i : Int)) = i := by omega
  rw [e, hz, Int.fmod_eq_emod_of_nonneg _ (by omega)]
  norm_cast
theorem row_more {ys : List Value} {b i : Nat} {x : Int} {t : Tok} (h : IntsAre ys (rowL b i)) (e : x = ((2 ^ i % b : Nat) : Int)) : IntsAre (ys ++ [.int x t]) (rowL b (i + 1)) := by
  subst e; rw [rowL_succ]; exact IntsAre.append h (.cons _ _ .nil)
theorem neg_more {ys : List Value} {b i : Nat} {x : Int} {t : Tok} (h : IntsAre ys (negL b i)) (e : x = (b : Int) - ((2 ^ i % b : Nat) : Int)) : IntsAre (ys ++ [.int x t]) (negL b (i + 1)) := by
  subst e; rw [negL_succ]; exact IntsAre.append h (.cons _ _ .nil)
theorem sub_elt {b i : Nat} {z : Int} (hz : z = b) : z - ((2 ^ i % b : Nat) : Int) = (b : Int) - ((2 ^ i % b : Nat) : Int) := by rw [hz]
theorem rest_pos {b : Nat} (B : Base b) : ∀ i : Nat, 0 < 2 ^ i % b := by
  intro i
  have hlo := B.lo
  have hodd := B.odd
  induction i with
  | zero => rw [Nat.pow_zero, Nat.mod_eq_of_lt (by omega)]; omega
  | succ i ih =>
    have hlt := Nat.mod_lt (2 ^ i) (show 0 < b by omega)
    rw [Nat.pow_succ, Nat.mul_mod]
    rw [Nat.mod_eq_of_lt (show 2 < b by omega)]
    generalize 2 ^ i % b = r at *
    by_cases h : r * 2 < b
    · rw [Nat.mod_eq_of_lt h]; omega
    · rw [Nat.mod_eq_sub_mod (by omega), Nat.mod_eq_of_lt (by omega)]; omega
theorem imod_elt {b i : Nat} {z : Int} (hz : z = b) (B : Base b) : Int.fmod (-((2 ^ i % b : Nat) : Int)) z = (b : Int) - ((2 ^ i % b : Nat) : Int) := by
  have h0 := rest_pos B i
  have hlt := Nat.mod_lt (2 ^ i) (show 0 < b by have := B.lo; omega)
  rw [hz, Int.fmod_eq_emod_of_nonneg _ (by omega)]
  generalize 2 ^ i % b = r at *
  rw [show -(r : Int) = ((b : Int) - r) + (b : Int) * (-1) by omega, Int.add_mul_emod_self_left, Int.emod_eq_of_lt (by omega) (by omega)]
theorem ne_eq {prog : Program} {w : World} {A : Around} {E : Value → Shared → Prop} {s : Shared} {Q : Value → Shared → Prop} {x y : Int} {t u : Tok} (e : x = y) (h : Q (.bool false) s) : wpAny (model prog w) A (compareOp .NotEq (.int x t) (.int y u)) Q E s := by
  subst e
  refine ne_int ?_
  rw [show (x != x) = false by simp]; exact h
theorem near_other {b : Nat} {z : Int} (hz : z = b) (B : Base b) (h : Int.fmod (2 ^ Int.toNat (places b : Int)) z ≠ 1) : Int.fmod (2 ^ Int.toNat (places b : Int)) z = z - 1 := by
  have hlo := B.lo
  rw [Int.toNat_natCast, hz, Int.fmod_eq_emod_of_nonneg _ (by omega)] at h ⊢
  have e : ((2 : Int) ^ places b) % (b : Int) = ((2 ^ places b % b : Nat) : Int) := by norm_cast
  rw [e] at h ⊢
  rcases B.at with q | q <;> omega
theorem cell_item {prog : Program} {w : World} {A : Around} {E : Value → Shared → Prop} {s : Shared} {h₀ : Heap} {L : Addr} {news : List (Addr × Obj)} {value slice : PySem.Expr} {l : Addr} {ys : List Value} {cs : List Int} {n : Nat} {k : Int} {u : Tok} {Q : Value → Shared → Prop}
    (N : News h₀ L s.heap news) (hm : (l, listOf ys.toArray n) ∈ news) (hi : IntsAre ys cs) (h0 : 0 ≤ k) (h1 : k < 4) (e : cs.length = 4) (h : ∀ t, Q (.int (cs.getD k.toNat 0) t) s)
    (hs : subscripted slice false (.ref l) (.int k u) = operate [.ref l, .int k u] (getItem (.ref l) (.int k u)) := by with_unfolding_all rfl) (hg : ∀ r, letTemporaryGo value (.ref l) r = pure () := by intro _; with_unfolding_all rfl) :
    wpAny (model prog w) A (subscriptTail value slice (.ref l) (.int k u)) Q E s := by
  have hx : cs[k.toNat]? = some (cs.getD k.toNat 0) := by
    rw [List.getD_eq_getElem?_getD]
    rw [List.getElem?_eq_getElem (by omega)]; rfl
  obtain ⟨t, ht⟩ := hi.get _ _ hx
  exact kim_list N hm rfl rfl h0 (by omega) ht (h t) hs hg
theorem lt_four {i : Nat} {v a b c d : Value} (h : [a, b, c, d][i]? = some v) : i < 4 := (List.getElem?_eq_some_iff.mp h).1
theorem execs_cons_T {M : Model} {A : Around} {st : Stmt} {rest : List Stmt} {env : Env} {Q : Flow → Shared → Prop} {E : Value → Shared → Prop} {s : Shared} (h : wpAny M A (exec st env) (fun f s' => Since s.toks s' (match f with | .next => wpAny M A (execs rest env) Q E s' | f => Q f s')) E s) : wpAny M A (execs (st :: rest) env) Q E s := wpAny_execs_cons (since h)
theorem base_ex (c : Int) : ∃ b : Nat, 129 + c.fmod 64 * 2 = (b : Int) ∧ Base b := by
  rw [Int.fmod_eq_emod_of_nonneg _ (by decide)]
  have h0 := Int.emod_nonneg c (show (64 : Int) ≠ 0 by decide)
  have h1 := Int.emod_lt_of_pos c (show (0 : Int) < 64 by decide)
  refine ⟨(129 + c % 64 * 2).toNat, by omega, ⟨by omega, by omega, by omega⟩⟩
section
local macro_rules | `(tactic| walk_at "execs cons") => `(tactic| (k_here; k_dflt (refine execs_cons_T ?_)))
local macro_rules | `(tactic| walk_at "Since") => `(tactic| (intro htk'; (try dsimp only at htk'); (try dsimp only)))
local macro_rules | `(tactic| walk_at "execs cons") => `(tactic| (k_here; (fail_if_success (fail_if_success k_gentoks)); refine gen_toks ?_; intro tk' htk'; (try dsimp only at htk')))
local macro_rules | `(tactic| walk_at "execs nil") => `(tactic| (k_here; (fail_if_success (fail_if_success k_gentoks)); refine gen_toks ?_; intro tk' htk'; (try dsimp only at htk')))

local macro_rules | `(tactic| walk_at "exec Assign cons ListComp") => `(tactic| (k_here; k_dflt ((refine' assign_comp_E (F₀ := ?F) ?za ?zb ?zc ?zd ?ze ?zf ?zg ?zh ?zi ?zj ?zk ?_; (case F => k_asm); (case za => exact rfl); (case ze => exact rfl); (case zg => exact rfl); (case zh => exact rfl); (case zi => decide); (case zj => exact rfl); (case zk => exact rfl); (case zd => decide); (case zf => decide); (case zc => with_unfolding_all rfl); (case zb => with_unfolding_all rfl)))))
local macro_rules | `(tactic| walk_at "call builtin:sum") => `(tactic| (k_here; k_dflt ((refine' sum_ints ?hh ?F ?N ?hm ?hi ?_; (case hh => rfl); (case F => k_asm); (case N => k_asm); (case hm => k_mem); (case hi => exact IntsAre.pick (by assumption) _ _ _); intro x' h' tk' t' F' N'))))
local macro_rules | `(tactic| walk_at "EltEnd") => `(tactic| (k_here; k_dflt ((k_extra "elt"))))
local macro_rules | `(tactic| walk_at "call type:enumerate") => `(tactic| (k_here; k_dflt ((k_extra "enum"))))
local macro_rules | `(tactic| walk_at "call ref") => `(tactic| (k_here; (with_reducible show wpAny _ _ (call (Value.ref 84) _) _ _ _); k_dflt ((k_extra "call 84"))))
local macro_rules | `(tactic| walk_at "call ref") => `(tactic| (k_here; (with_reducible show wpAny _ _ (call (Value.ref 63) _) _ _ _); k_dflt ((refine' Calls.use ?k1 ?k2 ?k3 ?k4 ?k5 ?kK (c_imod _ _ _ _ _ _ _ ?z1) ?kd ?ku ?_; (case k1 => k_asm); (case k2 => k_asm); (case k3 => k_asm); (case k4 => k_asm); (case k5 => k_asm); (case kK => first | exact rfl | assumption); (case z1 => omega); (case kd => ktr_room); (case ku => ktr_units); k_whole; intro t' h' tk' ht1' ht2' F' N' htk'; (try dsimp only at ht1' ht2' htk')))))
local macro_rules | `(tactic| walk_at "call ref") => `(tactic| (k_here; (with_reducible show wpAny _ _ (call (Value.ref 56) _) _ _ _); k_dflt ((refine' Calls.use ?k1 ?k2 ?k3 ?k4 ?k5 ?kK (c_ilshift _ _ _ _ _ _ _ ?z1 ?z2 ?z3) ?kd ?ku ?_; (case k1 => k_asm); (case k2 => k_asm); (case k3 => k_asm); (case k4 => k_asm); (case k5 => k_asm); (case kK => first | exact rfl | assumption); (case z1 => decide); (case z2 => omega); (case z3 => omega); (case kd => ktr_room); (case ku => ktr_units); k_whole; intro t' h' tk' ht1' ht2' F' N' htk'; (try dsimp only at ht1' ht2' htk')))))
local macro_rules | `(tactic| walk_at "call ref") => `(tactic| (k_here; (with_reducible show wpAny _ _ (call (Value.ref 77) _) _ _ _); k_dflt ((refine' Calls.use ?k1 ?k2 ?k3 ?k4 ?k5 ?kK (c_isub _ _ _ _ _ _ _) ?kd ?ku ?_; (case k1 => k_asm); (case k2 => k_asm); (case k3 => k_asm); (case k4 => k_asm); (case k5 => k_asm); (case kK => first | exact rfl | assumption); (case kd => ktr_room); (case ku => ktr_units); k_whole; intro t' h' tk' ht1' ht2' F' N' htk'; (try dsimp only at ht1' ht2' htk')))))
local macro_rules | `(tactic| walk_at "call ref") => `(tactic| (k_here; (with_reducible show wpAny _ _ (call (Value.ref 49) _) _ _ _); k_dflt ((refine' Calls.use ?k1 ?k2 ?k3 ?k4 ?k5 ?kK (c_iadd _ _ _ _ _ _ _) ?kd ?ku ?_; (case k1 => k_asm); (case k2 => k_asm); (case k3 => k_asm); (case k4 => k_asm); (case k5 => k_asm); (case kK => first | exact rfl | assumption); (case kd => ktr_room); (case ku => ktr_units); k_whole; intro t' h' tk' ht1' ht2' F' N' htk'; (try dsimp only at ht1' ht2' htk')))))
local macro_rules | `(tactic| walk_at "call ref") => `(tactic| (k_here; (with_reducible show wpAny _ _ (call (Value.ref 70) _) _ _ _); k_dflt ((refine' Calls.use ?k1 ?k2 ?k3 ?k4 ?k5 ?kK (c_imul _ _ _ _ _ _ _ ?z1) ?kd ?ku ?_; (case k1 => k_asm); (case k2 => k_asm); (case k3 => k_asm); (case k4 => k_asm); (case k5 => k_asm); (case kK => first | exact rfl | assumption); (case z1 => omega); (case kd => ktr_room); (case ku => ktr_units); k_whole; intro t' h' tk' ht1' ht2' F' N' htk'; (try dsimp only at ht1' ht2' htk')))))
local macro_rules | `(tactic| walk_at "CompSrc") => `(tactic| (k_here; k_dflt ((first
  | (refine LCg.CompSrc.range (by rfl) (by k_asm) (by k_asm) (by assumption) (by k_extra "src s") (by k_extra "src n") (by k_extra "src z") ?_; intro g'; k_extra "src R")
  | (refine LCg.CompSrc.ledger (by rfl) (by k_asm) (by k_asm) (by k_mem) (by k_extra "src Z") ?_; intro g'; k_extra "src L")))))
local macro_rules | `(tactic| walk_at "compareOp NotEq ref ref") => `(tactic| (k_here; k_dflt ((refine' ne_lists ?zN ?za ?zb ?zi ?zj ?ze ?zu ?_; (case zN => k_asm); (case za => k_mem); (case zb => k_mem); (case zi => assumption); (case zj => assumption); (case ze => rfl); (case zu => units_room)))))
local macro_rules | `(tactic| walk_at "compareOp NotEq int int") => `(tactic| (k_here; k_dflt ((refine ne_eq ?ze ?_; (case ze => k_extra "eq")))))
local macro_rules | `(tactic| walk_at "subscriptTail") => `(tactic| (k_here; (with_reducible show wpAny _ _ (subscriptTail _ _ (Value.ref _) (Value.int _ _)) _ _ _); k_dflt ((k_extra "cell"))))
local macro_rules | `(tactic| walk_at "call builtin:len") => `(tactic| (k_here; k_dflt ((k_extra "len"))))
local macro_rules | `(tactic| walk_at "call ref") => `(tactic| (k_here; (with_reducible show wpAny _ _ (call (Value.ref 98) _) _ _ _); k_dflt ((refine' c_healedT _ _ _ _ _ _ _ _ _ _ _ _ ?hdI ?hdi ?hdm ?hdz ?hdx ?hdb ?hdn ?hdH _ _ _ _ _ _ _ _ _ _ _ _ _ _ _ _ _ _ _ ?hdB ?hdF ?hdX ?hdY ?hdN ?hdT ?hdU ?hdk ?hdd ?hdu ?hdt ?_; (case hdF => k_asm); (case hdN => k_asm); (case hdB => k_asm); (case hdX => k_asm); (case hdY => k_asm); (case hdT => k_asm); (case hdU => k_asm); (case hdm => k_mem); (case hdI => k_extra "twice"); (case hdi => first | rfl | simp); (case hdz => assumption); (case hdb => assumption); (case hdH => k_extra "heal"); (case hdx => omega); (case hdn => omega); (case hdk => first | exact rfl | assumption); (case hdd => ktr_room); (case hdu => ktr_units); (case hdt => k_extra "toks"); k_whole; intro t' h' tk' htk' F' N'; (try dsimp only at htk')))))
local macro_rules | `(tactic| walk_at "binaryOp Add ref ref") => `(tactic| (k_here; (fail_if_success (with_reducible show wpAny _ _ _ (fun _ s' => Since _ s' _) _ _)); k_dflt (refine since ?_)))
set_option maxRecDepth 100000 in
set_option maxHeartbeats 8000000 in
theorem holds : PySem.Challenge.rw_xi0004_01.Holds := Mine.hd (by
  k_go0
  k_with_none
  all_goals try k_fold
  k_with "elt" => (refine' EltEnd.intro ?F ?N ?hs (cells_more hJ); (case F => k_asm); (case N => k_asm); (case hs => exact fun _ h => .tail _ h))
  k_with "call 84" => ((rename List Int => cs); obtain ⟨b, hz, hB⟩ := base_ex (cs.getD (Int.toNat 0) 0); (refine' Calls.use ?k1 ?k2 ?k3 ?k4 ?k5 ?kK (c_law_row _ _ b _ _ hz hB) ?kd ?ku ?_; (case k1 => k_asm); (case k2 => k_asm); (case k3 => k_asm); (case k4 => k_asm); (case k5 => k_asm); (case kK => first | exact rfl | assumption); (case kd => ktr_room); (case ku => ktr_units); k_whole; intro T vs n h' tk' F' N' hI hT l1 htk'; (try dsimp only at htk'); (try simp only [List.cons_append, List.nil_append] at N' l1); (have hlen := hI.length); rw [rowL_len] at hlen; (have hpl := hB.pos); (have hlo := hB.lo); (have hhi := hB.hi); (have LF := law_facts hz hB (cs.getD (Int.toNat 1) 0) (cs.getD (Int.toNat 2) 0) (cs.getD (Int.toNat 3) 0)); (have hL1 := LF.most); (have hL2 := LF.most1); (have hL3 := LF.k0); (have hL4 := LF.k1); (have hL5 := LF.w0); (have hL6 := LF.w1); (have hL7 := LF.far); (have hL8 := LF.far0); (have hL9 := LF.cr0); (have hL10 := LF.cr1); dsimp only [farOf, mostOf, wholeOf, placeOf, carryOf] at hL1 hL2 hL3 hL4 hL5 hL6 hL7 hL8 hL9 hL10))
  k_with "len" => (refine kst_len (by k_asm) (by k_mem) hlen (by omega) ?_)
  k_with "src n" => exact range_n
  k_with "src s" => exact small_places hpl.2
  k_with "src z" => exact Nat.le_trans hpl.2 (Nat.le_of_ble_eq_true rfl)
  k_with "src R" => focus (refine compRest_all (fun i ys => IntsAre ys (rowL b i)) trivial ?_ ?_ _ 0 [] (Nat.zero_add _) .nil; intro i ys v I oI C oC D m₂ h tk E' hi hJ hP hC hx F' N'; (obtain ⟨tv, hv⟩ := hP); subst hv; rotate_left; intro ys hys D h tk F' N' o1; rotate_left)
  k_with "src Z" => exact Nat.le_trans (Nat.le_of_eq (List.size_toArray.trans hlen)) (Nat.le_trans hpl.2 (Nat.le_of_ble_eq_true rfl))
  k_with "src L" => focus (refine compRest_all (fun i ys => IntsAre ys (negL b i)) (.inr ⟨_, by k_mem, rfl, _, rfl⟩) ?_ ?_ _ 0 [] (Nat.zero_add _) .nil; intro i ys v I oI C oC D m₂ h tk E' hi hJ hP hC hx F' N'; (obtain ⟨xv, tv, hv, hxv⟩ := hI.at i v (by simpa using hP)); subst hv; (replace hxv := row_at hxv); subst hxv; rotate_left; intro ys hys D h tk F' N' o1; rotate_left)
  k_with "elt" => (refine' EltEnd.intro ?F2 ?N2 (fun _ h => h) (row_more hJ (pow_elt hz)); (case F2 => k_asm); (case N2 => k_asm))
  k_with "elt" => (refine EltEnd.intro (by k_asm) (by k_asm) (fun _ h => h) (neg_more hJ (sub_elt hz)))
  k_with "elt" => (refine EltEnd.intro (by k_asm) (by k_asm) (fun _ h => h) (neg_more hJ (imod_elt hz hB)))
  k_with "eq" => rfl
  k_with "eq" => exact near_other hz hB (by assumption)
  k_with "eq" => exact (Int.mul_add _ _ _).symm
  k_with "eq" => exact Int.one_mul _
  k_with "heal" => exact LF.h1
  k_with "heal" => exact LF.h2
  k_with "heal" => exact LF.h3 (by assumption)
  k_with "heal" => exact LF.h4 (by assumption)
  k_with "heal" => exact LF.h5 (by assumption)
  k_with "twice" => exact IntsAre.append hI hI
  k_with "toks" => exact TokIn.twice (hT.mono (by (try dsimp only); omega))
  k_with "cell" => (refine cell_item (by k_asm) (by k_mem) hcs (by decide) (by decide) hlen4 ?_; intro t)
  k_with "enum" => (refine' EnumAt.call (its := [.int 7 _, .int 8 _, .int 5 _, .int 66 _]) (fun i ys => ∃ cs, IntsAre ys cs ∧ cs.length = i) ?hh ?F ?N ?hm ?hsz ?h0 ?step ?fin; (case hh => rfl); (case F => k_asm); (case N => k_asm); (case hm => k_mem); (case hsz => exact Nat.le_of_ble_eq_true rfl); (case h0 => exact ⟨[], .nil, rfl⟩); (case' step => (intro i ys v t e it oe oi C oC D m₂ h tk E' hi hJ hC hx hx₂ F' N'; (have hi4 := lt_four hi); (obtain ⟨c, tc, hv, _⟩ := IntsAre.at (.cons 7 _ (.cons 8 _ (.cons 5 _ (.cons 66 _ .nil)))) i v hi); subst hv)); (case' fin => (rintro s₂ ys ⟨h, rfl⟩ ⟨cs, hcs, hlen4⟩; replace hlen4 : cs.length = 4 := hlen4; intro D h tk F' N' o1)))
  k_steps)
end
end Mine
end
theorem PySem.Challenge.cw_xi0004_01_holds : PySem.Challenge.rw_xi0004_01.Holds := by
  exact Mine.holds
