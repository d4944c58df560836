import PyProof.Rows.All
import Wide.All
import OpenK.AllK
import Wide.FinOn
import PySem.Challenge.RW_uj0005_01
open PySem PySem.W PyProof.Rows
set_option Elab.async false
set_option maxRecDepth 100000
set_option rowWalk.seconds 0
set_option linter.unusedVariables false

set_option maxRecDepth 100000 in
set_option maxHeartbeats 0 in
open_top hd for PySem.Challenge.rw_uj0005_01
namespace Mine
local macro_rules | `(tactic| walk_at "M_SPARE0") => `(tactic| skip)
local macro_rules | `(tactic| walk_at "M_SPARE1") => `(tactic| skip)
local macro_rules | `(tactic| walk_at "M_SPARE2") => `(tactic| skip)
local macro_rules | `(tactic| walk_at "M_SPARE3") => `(tactic| skip)
local macro_rules | `(tactic| walk_at "M_SPARE4") => `(tactic| skip)
local macro_rules | `(tactic| walk_at "M_SPARE5") => `(tactic| skip)
local macro_rules | `(tactic| walk_at "M_SPARE6") => `(tactic| skip)
local macro_rules | `(tactic| walk_at "M_SPARE7") => `(tactic| skip)
local macro_rules | `(tactic| walk_at "M_SPARE8") => `(tactic| skip)
local macro_rules | `(tactic| walk_at "M_SPARE9") => `(tactic| skip)
local macro_rules | `(tactic| walk_at "M_SPARE10") => `(tactic| skip)
local macro_rules | `(tactic| walk_at "M_SPARE11") => `(tactic| skip)
local macro_rules | `(tactic| walk_at "M_SPARE12") => `(tactic| skip)
local macro_rules | `(tactic| walk_at "M_SPARE13") => `(tactic| skip)
local macro_rules | `(tactic| walk_at "M_SPARE14") => `(tactic| skip)
local macro_rules | `(tactic| walk_at "M_SPARE15") => `(tactic| skip)
local macro_rules | `(tactic| walk_at "M_SPARE16") => `(tactic| skip)
local macro_rules | `(tactic| walk_at "M_SPARE17") => `(tactic| skip)
local macro_rules | `(tactic| walk_at "M_SPARE18") => `(tactic| skip)
local macro_rules | `(tactic| walk_at "M_SPARE19") => `(tactic| skip)
local macro_rules | `(tactic| walk_at "M_SPARE20") => `(tactic| skip)
local macro_rules | `(tactic| walk_at "M_SPARE21") => `(tactic| skip)
local macro_rules | `(tactic| walk_at "M_SPARE22") => `(tactic| skip)
local macro_rules | `(tactic| walk_at "M_SPARE23") => `(tactic| skip)
local macro_rules | `(tactic| walk_at "M_SPARE24") => `(tactic| skip)
abbrev Led := List (Addr × Obj)
/-- the codes of the defs that hold defs of their own, and their tables -/
def CodesAt (h : Heap) : Prop := CodeHd h 48 44 ∧ CodeHd h 55 51 ∧ CodeHd h 154 150 ∧ CodeHd h 199 195 ∧ CodeHd h 204 202
/-- what a call of `f` with `vs` does, wherever it stands: the ledger `news` becomes `news'`, the answer is `r`, and `Post r news'` -/
def Con (w : World) (p : Program) (loose : List Str) (mean : ExcName → Option Value) (mg mb : Str → Option Value) (f : Value) (vs : List Value) (kw : List (Str × Value)) (D U : Nat) (news : Led) (Post : Value → Led → Prop) : Prop :=
  ∀ (dp un : Nat) (gd : Option (List Code)) (env : Env) (outer : List Env) (A₀ : Around) (base h₀ : Heap) (L : Addr) (m : Str → Option Value) (s : Shared) (R : Result → Shared → Prop),
    Below A₀ base outer h₀ → Fr h₀ L s.heap m → (hd.heap_39 w.params).In h₀ → News h₀ L s.heap news → Top p loose mean mg mb h₀ → CodesAt base → env.frame = some L → env.scope.kind = .function → dp + D < recursionLimit → un + U < cLine →
    (∀ r news' h' tk', Fr h₀ L h' m → News h₀ L h' news' → Post r news' → R (.ok (.ret r)) { s with heap := h', toks := tk' }) →
    codeAny (model PySem.Challenge.rw_uj0005_01.row.prog w) { handled := none, depth := dp, frames := some (env :: outer), guards := gd, units := un } (.call f ⟨vs, kw⟩) R s


theorem Con.use {w : World} {p : Program} {loose : List Str} {mean : ExcName → Option Value} {mg mb : Str → Option Value} {f : Value} {vs : List Value} {kw : List (Str × Value)} {D U : Nat} {news : Led} {Post : Value → Led → Prop}
    {dp un : Nat} {gd : Option (List Code)} {env : Env} {outer : List Env} {A₀ : Around} {base h₀ : Heap} {L : Addr} {m : Str → Option Value} {s : Shared} {Q E : Value → Shared → Prop}
    (C : Con w p loose mean mg mb f vs kw D U news Post) (B : Below A₀ base outer h₀) (F : Fr h₀ L s.heap m) (X : (hd.heap_39 w.params).In h₀) (N : News h₀ L s.heap news) (T : Top p loose mean mg mb h₀) (hc : CodesAt base)
    (hf : env.frame = some L) (hk : env.scope.kind = .function) (hdp : dp + D < recursionLimit) (hu : un + U < cLine)
    (h : ∀ r news' h' tk', Fr h₀ L h' m → News h₀ L h' news' → Post r news' → Q r { s with heap := h', toks := tk' }) :
    wpAny (model PySem.Challenge.rw_uj0005_01.row.prog w) { handled := none, depth := dp, frames := some (env :: outer), guards := gd, units := un } (call f vs kw) Q E s :=
  wpAny_call (C dp un gd env outer A₀ base h₀ L m s _ B F X N T hc hf hk hdp hu h)
/-- a ledger in another order, or less of it -/
theorem newsSub {h₀ h : Heap} {L : Addr} {news news' : Led} (N : News h₀ L h news') (hs : ∀ p ∈ news, p ∈ news') : News h₀ L h news := fun p hp => N p (hs p hp)
theorem allLt_ne {x d : Nat} : ∀ {l : Led}, AllLt x l → x ≤ d → ∀ p ∈ l, p.1 ≠ d
  | [], _, _, _, hp => nomatch hp
  | q :: r, h, hx, p, hp => by
    rcases List.mem_cons.mp hp with rfl | hp
    · exact Nat.ne_of_lt (Nat.lt_of_lt_of_le h.1 hx)
    · exact allLt_ne h.2 hx p hp
end Mine

namespace Mine
example : True := by
  k_with_none
  trivial
local macro_rules | `(tactic| walk_at "M_ENTER") => `(tactic| (refine' code_def ?k1 ?k2 ?k3 ?k4 ?k5 ?kA ?kF ?kK ?k6 ?k7 ?k8 ?k9 ?kB ?_ ?c2 ?c3 ?c4 ?c5; (case kA => exact rfl); (case kF => assumption); (case kK => assumption); (case k1 => k_asm); (case k2 => k_asm); (case k3 => k_asm); (case k4 => k_asm); (case k5 => k_asm); (case k6 => k_is); (case k7 => k_is); (case k8 => ktr_room); (case k9 => first | exact BindsTo.of_eq rfl | exact binds_K (by k_in) rfl (by k_is) rfl rfl rfl | (refine' kp_binds ?kx ?ke; (case kx => k_in); (case ke => exact fun _ => rfl))); (case c5 => decide); (case kB => exact locs rfl); (case c2 => exact rfl); (case c3 => exact rfl); (case c4 => exact rfl); k_whole; intro g' L' h' FG' F' N' B' X' T'; (try dsimp only); (try k_lift B'); (try k_fold)))
local macro_rules | `(tactic| walk_at "M_ENTERC") => `(tactic| (refine' code_defC ?k1 ?k2 ?k3 ?k4 ?k5 ?kA ?kF ?kK ?k6 ?k7 ?k8 ?k9 ?kB ?kD ?_ ?c2 ?c3 ?c4; (case kA => exact rfl); (case kF => assumption); (case kK => assumption); (case k1 => k_asm); (case k2 => k_asm); (case k3 => k_asm); (case k4 => k_asm); (case k5 => k_asm); (case k6 => k_is); (case k7 => k_is); (case k8 => ktr_room); (case k9 => first | exact BindsTo.of_eq rfl | exact binds_K (by k_in) rfl (by k_is) rfl rfl rfl | (refine' kp_binds ?kx ?ke; (case kx => k_in); (case ke => exact fun _ => rfl))); (case kB => exact rfl); (case kD => decide +kernel); (case c2 => exact rfl); (case c3 => exact rfl); (case c4 => exact rfl); k_whole; intro g' L' h' tk' cells' FG' F' N' Y' B' X' T' l1; (try k_lt l1); k_cells Y'; (try simp only [List.cons_append, List.nil_append] at N'); (try dsimp only); (try k_lift B'); (try k_fold)))
local macro_rules | `(tactic| k_all) => `(tactic| first | assumption | exact allLt_ne (by assumption) (by omega))
local macro_rules | `(tactic| walk_at "M_SIDE") => `(tactic| ((case kB => k_asm); (case kF => k_asm); (case kX => k_asm); (case kN => k_asm); (case kT => k_asm); (case kc => assumption); (case kf => first | rfl | assumption); (case kk => first | rfl | assumption); (case kd => ktr_room); (case ku => ktr_units)))
variable {w : World} {p : Program} {loose : List Str} {mean : ExcName → Option Value} {mg mb : Str → Option Value}

theorem fin_nan {x : UInt64} (h : Float64.isFinite x = true) (h' : Float64.isNaN x = true) : False := by
  rw [PySem.Flt.nan_or_inf_or_finite, h'] at h; simp at h
theorem fin_inf {x : UInt64} (h : Float64.isFinite x = true) (h' : Float64.isInf x = true) : False := by
  rw [PySem.Flt.nan_or_inf_or_finite, h'] at h; simp at h

def nearM (x : UInt64) (u : Int) : UInt64 := Float64.add (Float64.mul (Float64.mul x (Float64.ofInt u)) (Float64.ofInt (2 ^ Int.toNat 20))) 4602678819172646912

set_option maxHeartbeats 0 in
theorem near_c {news : Led} {x : UInt64} {u k : Int} {t1 t2 : Tok} (hu : 0 < u ∧ u < 13) (hf : Float64.isFinite (nearM x u) = true) (hk : Flt.toInt Float64.truncOf (nearM x u) = k) :
    Con w p loose mean mg mb (.ref 181) [.float x t1, .int u t2] [] 1 8 news (fun r n' => (∃ t, r = .int k t) ∧ n' = news) := by
  unfold Con; k_fill; intros; rename_i hret
  k_dflt (walk_at "M_ENTER")
  k_steps
  · exact (fin_nan hf (by assumption)).elim
  · exact (fin_inf hf (by assumption)).elim
  · exact hret _ _ _ _ (by assumption) (by assumption) ⟨⟨_, by rw [← hk]; rfl⟩, rfl⟩


abbrev tupO (vs : List Value) : Obj := { cls := .type "tuple", data := .seq vs.toArray }
abbrev hsvI (h : UInt64) : Int := Flt.toInt Float64.truncOf (Float64.mul h 4618441417868443648)
def hsvM (h s v : UInt64) : Option (UInt64 × UInt64 × UInt64) :=
  if (Float64.cmp s 0 == some Ordering.eq) = true then some (v, v, v)
  else if Float64.isFinite (Float64.mul h 4618441417868443648) = true ∧ (hsvI h).natAbs < 2 ^ 1024 - 2 ^ 970 then
    let f := Float64.sub (Float64.mul h 4618441417868443648) (Float64.ofInt (hsvI h))
    let p := Float64.mul v (Float64.sub 4607182418800017408 s)
    let q := Float64.mul v (Float64.sub 4607182418800017408 (Float64.mul s f))
    let t := Float64.mul v (Float64.sub 4607182418800017408 (Float64.mul s (Float64.sub 4607182418800017408 f)))
    if (hsvI h).fmod 6 = 0 then some (v, t, p)
    else if (hsvI h).fmod 6 = 1 then some (q, v, p)
    else if (hsvI h).fmod 6 = 2 then some (p, v, t)
    else if (hsvI h).fmod 6 = 3 then some (p, q, v)
    else if (hsvI h).fmod 6 = 4 then some (t, p, v)
    else if (hsvI h).fmod 6 = 5 then some (v, p, q)
    else none
  else none
theorem hsvM_fin {h s v : UInt64} {r} (hM : hsvM h s v = some r) (hs : (Float64.cmp s 0 == some Ordering.eq) = false) : Float64.isFinite (Float64.mul h 4618441417868443648) = true ∧ (hsvI h).natAbs < 2 ^ 1024 - 2 ^ 970 := by
  unfold hsvM at hM
  rw [if_neg (by rw [hs]; exact Bool.false_ne_true)] at hM
  by_cases hc : Float64.isFinite (Float64.mul h 4618441417868443648) = true ∧ (hsvI h).natAbs < 2 ^ 1024 - 2 ^ 970
  · exact hc
  · rw [if_neg hc] at hM; cases hM

set_option maxHeartbeats 0 in
theorem hsv_c {news : Led} {h s v r g b : UInt64} {t1 t2 t3 : Tok} (hM : hsvM h s v = some (r, g, b)) :
    Con w p loose mean mg mb (.ref 28) [.float h t1, .float s t2, .float v t3] [] 1 8 news (fun a n' => ∃ d u1 u2 u3, a = .ref d ∧ (∀ p ∈ news, p.1 < d) ∧ n' = (d, tupO [.float r u1, .float g u2, .float b u3]) :: news) := by
  unfold Con; k_fill; intros; rename_i hret
  k_dflt (walk_at "M_ENTER")
  k_steps
  all_goals (try (rename (Float64.cmp s 0 == some Ordering.eq) = false => hs; have hfin := hsvM_fin hM hs))
  all_goals first
    | exact (fin_nan hfin.1 (by assumption)).elim
    | exact (fin_inf hfin.1 (by assumption)).elim
    | exact (Nat.not_lt.mpr (by assumption) hfin.2).elim
    | skip
  all_goals unfold hsvM at hM
  · rw [if_pos (by assumption)] at hM
    cases hM
    exact hret _ _ _ _ (by assumption) (by assumption) ⟨_, _, _, _, rfl, by assumption, rfl⟩
  all_goals
    rw [if_neg (by rw [hs]; exact Bool.false_ne_true), if_pos hfin] at hM
    dsimp only at hM
    repeat first
      | rw [if_neg (by assumption)] at hM
      | rw [if_pos (by assumption)] at hM
      | (cases hM; done)
  all_goals
    cases hM
    exact hret _ _ _ _ (by assumption) (by assumption) ⟨_, _, _, _, rfl, by assumption, rfl⟩
end Mine

namespace Mine
local macro_rules | `(tactic| walk_at "M_SPARE0") => `(tactic| skip)
local macro_rules | `(tactic| walk_at "M_SPARE1") => `(tactic| skip)
local macro_rules | `(tactic| walk_at "M_SPARE2") => `(tactic| skip)
local macro_rules | `(tactic| walk_at "M_SPARE3") => `(tactic| skip)
local macro_rules | `(tactic| walk_at "M_SPARE4") => `(tactic| skip)
local macro_rules | `(tactic| walk_at "M_SPARE5") => `(tactic| skip)
local macro_rules | `(tactic| walk_at "M_SPARE6") => `(tactic| skip)
local macro_rules | `(tactic| walk_at "M_SPARE7") => `(tactic| skip)
local macro_rules | `(tactic| walk_at "M_SPARE8") => `(tactic| skip)
local macro_rules | `(tactic| walk_at "M_SPARE9") => `(tactic| skip)
local macro_rules | `(tactic| walk_at "M_SPARE10") => `(tactic| skip)
local macro_rules | `(tactic| walk_at "M_SPARE11") => `(tactic| skip)
local macro_rules | `(tactic| walk_at "M_SPARE12") => `(tactic| skip)
local macro_rules | `(tactic| walk_at "M_SPARE13") => `(tactic| skip)
local macro_rules | `(tactic| walk_at "M_SPARE14") => `(tactic| skip)
local macro_rules | `(tactic| walk_at "M_SPARE15") => `(tactic| skip)
local macro_rules | `(tactic| walk_at "M_SPARE16") => `(tactic| skip)
local macro_rules | `(tactic| walk_at "M_SPARE17") => `(tactic| skip)
local macro_rules | `(tactic| walk_at "M_SPARE18") => `(tactic| skip)
local macro_rules | `(tactic| walk_at "M_SPARE19") => `(tactic| skip)
local macro_rules | `(tactic| walk_at "M_SPARE20") => `(tactic| skip)
local macro_rules | `(tactic| walk_at "M_SPARE21") => `(tactic| skip)
local macro_rules | `(tactic| walk_at "M_SPARE22") => `(tactic| skip)
local macro_rules | `(tactic| walk_at "M_SPARE23") => `(tactic| skip)
local macro_rules | `(tactic| walk_at "M_SPARE24") => `(tactic| skip)
example : True := by
  k_with_none
  trivial
local macro_rules | `(tactic| walk_at "M_ENTER") => `(tactic| (refine' code_def ?k1 ?k2 ?k3 ?k4 ?k5 ?kA ?kF ?kK ?k6 ?k7 ?k8 ?k9 ?kB ?_ ?c2 ?c3 ?c4 ?c5; (case kA => exact rfl); (case kF => assumption); (case kK => assumption); (case k1 => k_asm); (case k2 => k_asm); (case k3 => k_asm); (case k4 => k_asm); (case k5 => k_asm); (case k6 => k_is); (case k7 => k_is); (case k8 => ktr_room); (case k9 => first | exact BindsTo.of_eq rfl | exact binds_K (by k_in) rfl (by k_is) rfl rfl rfl | (refine' kp_binds ?kx ?ke; (case kx => k_in); (case ke => exact fun _ => rfl))); (case c5 => decide); (case kB => exact locs rfl); (case c2 => exact rfl); (case c3 => exact rfl); (case c4 => exact rfl); k_whole; intro g' L' h' FG' F' N' B' X' T'; (try dsimp only); (try k_lift B'); (try k_fold)))
local macro_rules | `(tactic| walk_at "M_ENTERC") => `(tactic| (refine' code_defC ?k1 ?k2 ?k3 ?k4 ?k5 ?kA ?kF ?kK ?k6 ?k7 ?k8 ?k9 ?kB ?kD ?_ ?c2 ?c3 ?c4; (case kA => exact rfl); (case kF => assumption); (case kK => assumption); (case k1 => k_asm); (case k2 => k_asm); (case k3 => k_asm); (case k4 => k_asm); (case k5 => k_asm); (case k6 => k_is); (case k7 => k_is); (case k8 => ktr_room); (case k9 => first | exact BindsTo.of_eq rfl | exact binds_K (by k_in) rfl (by k_is) rfl rfl rfl | (refine' kp_binds ?kx ?ke; (case kx => k_in); (case ke => exact fun _ => rfl))); (case kB => exact rfl); (case kD => decide +kernel); (case c2 => exact rfl); (case c3 => exact rfl); (case c4 => exact rfl); k_whole; intro g' L' h' tk' cells' FG' F' N' Y' B' X' T' l1; (try k_lt l1); k_cells Y'; (try simp only [List.cons_append, List.nil_append] at N'); (try dsimp only); (try k_lift B'); (try k_fold)))
local macro_rules | `(tactic| k_all) => `(tactic| first | assumption | exact allLt_ne (by assumption) (by omega))
local macro_rules | `(tactic| walk_at "M_SIDE") => `(tactic| ((case kB => k_asm); (case kF => k_asm); (case kX => k_asm); (case kN => k_asm); (case kT => k_asm); (case kc => assumption); (case kf => first | rfl | assumption); (case kk => first | rfl | assumption); (case kd => ktr_room); (case ku => ktr_units)))
variable {w : World} {p : Program} {loose : List Str} {mean : ExcName → Option Value} {mg mb : Str → Option Value}

def mx3 (a b c : UInt64) : UInt64 := if (Float64.cmp a b == some .lt) = true then (if (Float64.cmp b c == some .lt) = true then c else b) else (if (Float64.cmp a c == some .lt) = true then c else a)
def mn3 (a b c : UInt64) : UInt64 := if (Float64.cmp b a == some .lt) = true then (if (Float64.cmp c b == some .lt) = true then c else b) else (if (Float64.cmp c a == some .lt) = true then c else a)

open PySem.Flt in
theorem max3_f {prog : Program} {A : Around} {E : Value → Shared → Prop} {s : Shared} {a b c : UInt64} {t u x : Tok} {Q : Value → Shared → Prop} {h₀ : Heap} {L : Addr} {m : Str → Option Value} {news : Led} (hh : A.handled = none)
    (F : Fr h₀ L s.heap m) (N : News h₀ L s.heap news)
    (h : ∀ h' tk v, Fr h₀ L h' m → News h₀ L h' news → Q (.float (mx3 a b c) v) { s with heap := h', toks := tk }) :
    wpAny (model prog w) A (call (.builtin "max") [.float a t, .float b u, .float c x]) Q E s := by
  have hT : (s.heap.push { cls := .type "tuple", data := .seq #[.float a t, .float b u, .float c x] }).IsTuple s.heap.objs.size #[.float a t, .float b u, .float c x] := ⟨_, Heap.get?_push_size _ rfl, rfl, 0, rfl⟩
  refine call_max_three (wpAny_pyIter_tuple hT ?_)
  have hsz : (s.heap.push { cls := .type "tuple", data := .seq #[.float a t, .float b u, .float c x] }).objs.size = s.heap.objs.size + 1 := Heap.size_push ..
  refine ⟨_, [_, s.heap.objs.size], [_], _, _, _, _, rfl, Walks.tuple (A := A.in1) hh _ s.heap.objs.size (by rw [hsz]; exact Nat.ne_of_lt (Nat.lt_succ_self _)) #[.float a t, .float b u, .float c x],
    ⟨⟨_, Heap.get?_push_size _ rfl, rfl, rfl⟩, hT.push _⟩, fun d hd => ?_, by simp, cmpOf_gt #[.float a t, .float b u, .float c x] (by simp [NumV.float]), fun v h' tk hP hk => ?_⟩
  · show d < ((s.heap.push _).push _).objs.size
    rw [Heap.size_push, hsz]
    rcases List.mem_cons.mp hd with rfl | hd
    · rw [hsz]; exact Nat.lt_succ_self _
    · rcases List.mem_cons.mp hd with rfl | hd
      · exact Nat.lt_succ_of_lt (Nat.lt_succ_self _)
      · cases hd
  · have hold : ∀ d o, s.heap.get? d = some o → h'.get? d = some o := fun d o e => by
      refine hk d o (fun hm => ?_) (Heap.get?_push_of_some _ (Heap.get?_push_of_some _ e))
      rcases List.mem_cons.mp hm with e1 | hm
      · have := Heap.lt_size e; rw [e1, hsz] at this; exact Nat.lt_irrefl _ (Nat.lt_of_succ_lt this)
      · cases hm
    have hv : ∃ y, v = .float (mx3 a b c) y := by
      unfold mx3
      cases h1 : (Float64.cmp a b == some .lt) <;> cases h2 : (Float64.cmp b c == some .lt) <;> cases h3 : (Float64.cmp a c == some .lt) <;> simp [argBest, ltV, h1, h2, h3] at hP <;> exact ⟨_, by rw [← hP]; rfl⟩
    obtain ⟨y, rfl⟩ := hv
    exact h h' tk y (F.grownK hold) (N.grown hold)
open PySem.Flt in
theorem min3_f {prog : Program} {A : Around} {E : Value → Shared → Prop} {s : Shared} {a b c : UInt64} {t u x : Tok} {Q : Value → Shared → Prop} {h₀ : Heap} {L : Addr} {m : Str → Option Value} {news : Led} (hh : A.handled = none)
    (F : Fr h₀ L s.heap m) (N : News h₀ L s.heap news)
    (h : ∀ h' tk v, Fr h₀ L h' m → News h₀ L h' news → Q (.float (mn3 a b c) v) { s with heap := h', toks := tk }) :
    wpAny (model prog w) A (call (.builtin "min") [.float a t, .float b u, .float c x]) Q E s := by
  have hT : (s.heap.push { cls := .type "tuple", data := .seq #[.float a t, .float b u, .float c x] }).IsTuple s.heap.objs.size #[.float a t, .float b u, .float c x] := ⟨_, Heap.get?_push_size _ rfl, rfl, 0, rfl⟩
  refine call_min_three (wpAny_pyIter_tuple hT ?_)
  have hsz : (s.heap.push { cls := .type "tuple", data := .seq #[.float a t, .float b u, .float c x] }).objs.size = s.heap.objs.size + 1 := Heap.size_push ..
  refine ⟨_, [_, s.heap.objs.size], [_], _, _, _, _, rfl, Walks.tuple (A := A.in1) hh _ s.heap.objs.size (by rw [hsz]; exact Nat.ne_of_lt (Nat.lt_succ_self _)) #[.float a t, .float b u, .float c x],
    ⟨⟨_, Heap.get?_push_size _ rfl, rfl, rfl⟩, hT.push _⟩, fun d hd => ?_, by simp, cmpOf_lt #[.float a t, .float b u, .float c x] (by simp [NumV.float]), fun v h' tk hP hk => ?_⟩
  · show d < ((s.heap.push _).push _).objs.size
    rw [Heap.size_push, hsz]
    rcases List.mem_cons.mp hd with rfl | hd
    · rw [hsz]; exact Nat.lt_succ_self _
    · rcases List.mem_cons.mp hd with rfl | hd
      · exact Nat.lt_succ_of_lt (Nat.lt_succ_self _)
      · cases hd
  · have hold : ∀ d o, s.heap.get? d = some o → h'.get? d = some o := fun d o e => by
      refine hk d o (fun hm => ?_) (Heap.get?_push_of_some _ (Heap.get?_push_of_some _ e))
      rcases List.mem_cons.mp hm with e1 | hm
      · have := Heap.lt_size e; rw [e1, hsz] at this; exact Nat.lt_irrefl _ (Nat.lt_of_succ_lt this)
      · cases hm
    have hv : ∃ y, v = .float (mn3 a b c) y := by
      unfold mn3
      cases h1 : (Float64.cmp b a == some .lt) <;> cases h2 : (Float64.cmp c b == some .lt) <;> cases h3 : (Float64.cmp c a == some .lt) <;> simp [argBest, ltV, h1, h2, h3] at hP <;> exact ⟨_, by rw [← hP]; rfl⟩
    obtain ⟨y, rfl⟩ := hv
    exact h h' tk y (F.grownK hold) (N.grown hold)

local macro_rules | `(tactic| walk_at "call builtin:max") => `(tactic| ((with_reducible show wpAny _ _ (call _ [Value.float _ _, Value.float _ _, Value.float _ _]) _ _ _); (rename News _ _ _ _ => N'); (rename Fr _ _ _ _ => F'); refine max3_f rfl F' N' ?_; clear N'; intro _ _ _ _ _))
local macro_rules | `(tactic| walk_at "call builtin:min") => `(tactic| ((with_reducible show wpAny _ _ (call _ [Value.float _ _, Value.float _ _, Value.float _ _]) _ _ _); (rename News _ _ _ _ => N'); (rename Fr _ _ _ _ => F'); refine min3_f rfl F' N' ?_; clear N'; intro _ _ _ _ _))

def hueM (x : UInt64) : UInt64 := (Float64.divmod (Float64.div x 4618441417868443648) 4607182418800017408).snd
/-- what rgb_to_hsv gives: hue, share, value -/
def rgbM (r g b : UInt64) : Option (UInt64 × UInt64 × UInt64) :=
  let mx := mx3 r g b
  let mn := mn3 r g b
  if (Float64.cmp mn mx == some Ordering.eq) = true then some (0, 0, mx)
  else if ¬ Float64.isZero mx = true ∧ ¬ Float64.isZero (Float64.sub mx mn) = true then
    let s := Float64.div (Float64.sub mx mn) mx
    let rc := Float64.div (Float64.sub mx r) (Float64.sub mx mn)
    let gc := Float64.div (Float64.sub mx g) (Float64.sub mx mn)
    let bc := Float64.div (Float64.sub mx b) (Float64.sub mx mn)
    if (Float64.cmp r mx == some Ordering.eq) = true then some (hueM (Float64.sub bc gc), s, mx)
    else if (Float64.cmp g mx == some Ordering.eq) = true then some (hueM (Float64.sub (Float64.add 4611686018427387904 rc) bc), s, mx)
    else some (hueM (Float64.sub (Float64.add 4616189618054758400 gc) rc), s, mx)
  else none
theorem bF {b : Bool} (h : b = false) : ¬ b = true := by rw [h]; exact Bool.false_ne_true
theorem rgbM_fin {r g b : UInt64} {x} (hM : rgbM r g b = some x) (hs : (Float64.cmp (mn3 r g b) (mx3 r g b) == some Ordering.eq) = false) : ¬ Float64.isZero (mx3 r g b) = true ∧ ¬ Float64.isZero (Float64.sub (mx3 r g b) (mn3 r g b)) = true := by
  unfold rgbM at hM
  dsimp only at hM
  rw [if_neg (bF hs)] at hM
  by_cases hc : ¬ Float64.isZero (mx3 r g b) = true ∧ ¬ Float64.isZero (Float64.sub (mx3 r g b) (mn3 r g b)) = true
  · exact hc
  · rw [if_neg hc] at hM; cases hM

set_option maxHeartbeats 0 in
theorem rgb_c {news : Led} {r g b h s v : UInt64} {t1 t2 t3 : Tok} (hM : rgbM r g b = some (h, s, v)) :
    Con w p loose mean mg mb (.ref 21) [.float r t1, .float g t2, .float b t3] [] 1 8 news (fun a n' => ∃ d u1 u2 u3, a = .ref d ∧ (∀ p ∈ news, p.1 < d) ∧ n' = (d, tupO [.float h u1, .float s u2, .float v u3]) :: news) := by
  unfold Con; k_fill; intros; rename_i hret
  k_dflt (walk_at "M_ENTER")
  k_steps
  all_goals (try (rename (Float64.cmp (mn3 r g b) (mx3 r g b) == some Ordering.eq) = false => hs; have hfin := rgbM_fin hM hs))
  all_goals first
    | exact (hfin.1 (by assumption)).elim
    | exact (hfin.2 (by assumption)).elim
    | skip
  all_goals (unfold rgbM at hM; dsimp only at hM)
  · rw [if_pos (by assumption)] at hM
    cases hM
    exact hret _ _ _ _ (by assumption) (by assumption) ⟨_, _, _, _, rfl, by assumption, rfl⟩
  all_goals
    rw [if_neg (bF hs), if_pos hfin] at hM
    repeat first
      | rw [if_neg (bF (by assumption))] at hM
      | rw [if_pos (by assumption)] at hM
  all_goals
    cases hM
    exact hret _ _ _ _ (by assumption) (by assumption) ⟨_, _, _, _, rfl, by assumption, rfl⟩
end Mine

namespace Mine
example : True := by
  k_with_none
  trivial
local macro_rules | `(tactic| walk_at "M_ENTER") => `(tactic| (refine' code_def ?k1 ?k2 ?k3 ?k4 ?k5 ?kA ?kF ?kK ?k6 ?k7 ?k8 ?k9 ?kB ?_ ?c2 ?c3 ?c4 ?c5; (case kA => exact rfl); (case kF => assumption); (case kK => assumption); (case k1 => k_asm); (case k2 => k_asm); (case k3 => k_asm); (case k4 => k_asm); (case k5 => k_asm); (case k6 => k_is); (case k7 => k_is); (case k8 => ktr_room); (case k9 => first | exact BindsTo.of_eq rfl | exact binds_K (by k_in) rfl (by k_is) rfl rfl rfl | (refine' kp_binds ?kx ?ke; (case kx => k_in); (case ke => exact fun _ => rfl))); (case c5 => decide); (case kB => exact locs rfl); (case c2 => exact rfl); (case c3 => exact rfl); (case c4 => exact rfl); k_whole; intro g' L' h' FG' F' N' B' X' T'; (try dsimp only); (try k_lift B'); (try k_fold)))
local macro_rules | `(tactic| walk_at "M_ENTERC") => `(tactic| (refine' code_defC ?k1 ?k2 ?k3 ?k4 ?k5 ?kA ?kF ?kK ?k6 ?k7 ?k8 ?k9 ?kB ?kD ?_ ?c2 ?c3 ?c4; (case kA => exact rfl); (case kF => assumption); (case kK => assumption); (case k1 => k_asm); (case k2 => k_asm); (case k3 => k_asm); (case k4 => k_asm); (case k5 => k_asm); (case k6 => k_is); (case k7 => k_is); (case k8 => ktr_room); (case k9 => first | exact BindsTo.of_eq rfl | exact binds_K (by k_in) rfl (by k_is) rfl rfl rfl | (refine' kp_binds ?kx ?ke; (case kx => k_in); (case ke => exact fun _ => rfl))); (case kB => exact rfl); (case kD => decide +kernel); (case c2 => exact rfl); (case c3 => exact rfl); (case c4 => exact rfl); k_whole; intro g' L' h' tk' cells' FG' F' N' Y' B' X' T' l1; (try k_lt l1); k_cells Y'; (try simp only [List.cons_append, List.nil_append] at N'); (try dsimp only); (try k_lift B'); (try k_fold)))
local macro_rules | `(tactic| k_all) => `(tactic| first | assumption | exact allLt_ne (by assumption) (by omega))
local macro_rules | `(tactic| walk_at "M_SIDE") => `(tactic| ((case kB => k_asm); (case kF => k_asm); (case kX => k_asm); (case kN => k_asm); (case kT => k_asm); (case kc => assumption); (case kf => first | rfl | assumption); (case kk => first | rfl | assumption); (case kd => ktr_room); (case ku => ktr_units)))
variable {w : World} {p : Program} {loose : List Str} {mean : ExcName → Option Value} {mg mb : Str → Option Value}
/-- a list of the call's own -/
abbrev lstO (vs : List Value) (n : Nat) : Obj := { cls := .type "list", data := .seq vs.toArray n }
theorem isList_of {h₀ h : Heap} {L l : Addr} {vs : List Value} {n : Nat} {news : Led} (N : News h₀ L h news) (hm : (l, lstO vs n) ∈ news) : h.IsList l vs.toArray := ⟨_, N.get hm, rfl, n, rfl⟩

theorem item_l {prog : Program} {A : Around} {E : Value → Shared → Prop} {s : Shared} {h₀ : Heap} {L l : Addr} {vs : List Value} {ns : List Int} {n : Nat} {k : Int} {u : Tok} {news : Led} {value slice : Expr} {Q : Value → Shared → Prop}
    (N : News h₀ L s.heap news) (hm : (l, lstO vs n) ∈ news) (hi : IntsAre vs ns) (h0 : 0 ≤ k) (h1 : k < ns.length) (hlen : ns.length < 2 ^ 20) (h : ∀ t, Q (.int (ns.getD k.toNat 0) t) s)
    (hs : subscripted slice false (.ref l) (.int k u) = operate [.ref l, .int k u] (getItem (.ref l) (.int k u)) := by with_unfolding_all rfl) :
    wpAny (model prog w) A (subscriptTail value slice (.ref l) (.int k u)) Q E s := by
  have hl := isList_of N hm
  have hk : k.toNat < ns.length := by omega
  obtain ⟨t, ht⟩ := hi.get k.toNat (ns.getD k.toNat 0) (by simp [hk])
  exact tail_any hl.typeIs slot_list_getitem.lookup (wpAny_getItem_list hl h0 (by omega) (by simpa using ht) (h t)) hs

def BR (ns : List Int) (x lo hi : Int) : Prop := 0 ≤ lo ∧ lo ≤ hi ∧ hi ≤ ns.length ∧ (∀ i : Nat, (i : Int) < lo → ns.getD i 0 ≤ x) ∧ (∀ i : Nat, hi ≤ i → i < ns.length → x < ns.getD i 0)
theorem BR.start (ns : List Int) (x : Int) : BR ns x 0 ns.length := ⟨by omega, by omega, by omega, by intro i hi; omega, by intro i h1 h2; omega⟩
theorem BR.mid {ns : List Int} {x lo hi : Int} (h : BR ns x lo hi) (hlt : lo < hi) : 0 ≤ (lo + hi).fdiv 2 ∧ (lo + hi).fdiv 2 < ns.length ∧ lo ≤ (lo + hi).fdiv 2 ∧ (lo + hi).fdiv 2 < hi := by
  obtain ⟨a, b, c, _, _⟩ := h
  have : (lo + hi).fdiv 2 = (lo + hi) / 2 := Int.fdiv_eq_ediv_of_nonneg _ (by omega)
  omega
def Sorted (ns : List Int) : Prop := ∀ i j : Nat, i ≤ j → j < ns.length → ns.getD i 0 ≤ ns.getD j 0
theorem BR.toHi {ns : List Int} {x lo hi : Int} (hs : Sorted ns) (h : BR ns x lo hi) (hlt : lo < hi) (hx : x < ns.getD ((lo + hi).fdiv 2).toNat 0) : BR ns x lo ((lo + hi).fdiv 2) := by
  obtain ⟨m0, m1, m2, m3⟩ := h.mid hlt
  refine ⟨h.1, m2, by omega, h.2.2.2.1, fun i h1 h2 => ?_⟩
  have := hs ((lo + hi).fdiv 2).toNat i (by omega) h2
  omega
theorem BR.toLo {ns : List Int} {x lo hi : Int} (hs : Sorted ns) (h : BR ns x lo hi) (hlt : lo < hi) (hx : ¬ x < ns.getD ((lo + hi).fdiv 2).toNat 0) : BR ns x ((lo + hi).fdiv 2 + 1) hi := by
  obtain ⟨m0, m1, m2, m3⟩ := h.mid hlt
  refine ⟨by omega, by omega, h.2.2.1, fun i h1 => ?_, h.2.2.2.2⟩
  have := hs i ((lo + hi).fdiv 2).toNat (by omega) (by omega)
  omega
theorem BR.done {ns : List Int} {x lo hi : Int} (h : BR ns x lo hi) (hlt : ¬ lo < hi) : BR ns x lo lo := by
  have : hi = lo := by have := h.2.1; omega
  rw [this] at h; exact h

local macro_rules | `(tactic| walk_at "exec While Compare cons nil") => `(tactic| k_extra "exec While Compare cons nil")
set_option maxHeartbeats 0 in
theorem bisr_c {news : Led} {l : Addr} {vs : List Value} {ns : List Int} {n : Nat} {x : Int} {t2 : Tok} (hi : IntsAre vs ns) (hlen : ns.length < 2 ^ 20) (hs : Sorted ns) :
    Con w p loose mean mg mb (.ref 88) [.ref l, .int x t2] [] 1 8 ((l, lstO vs n) :: news) (fun r n' => (∃ k t, r = .int k t ∧ BR ns x k k) ∧ n' = (l, lstO vs n) :: news) := by
  unfold Con; k_fill; intros; rename_i hret
  k_dflt (walk_at "M_ENTER")
  k_with "state" => first | exact BR.start _ _ | exact BR.toHi hs kInv (by assumption) (by assumption) | exact BR.toLo hs kInv (by assumption) (by assumption)
  k_with "measure" => (have hb := BR.mid kInv (by assumption); omega)
  k_with "exec While Compare cons nil" => k_while (fun ns lo hi => BR ns x lo hi) (fun _ lo hi => (hi - lo).toNat) "lo" "hi"
  k_with "subscriptTail Name Name ref int" => (have hb := BR.mid kInv (by assumption); with_unfolding_all refine' item_l ?k1 ?k2 hi hb.1 hb.2.1 hlen ?_; (case k1 => k_asm); (case k2 => k_mem); intro t')
  k_steps
  exact hret _ _ _ _ (by assumption) (by assumption) ⟨⟨_, _, rfl, kInv.done (by assumption)⟩, rfl⟩

theorem BR.toHi' {ns : List Int} {x lo hi : Int} (hs : Sorted ns) (h : BR ns (x - 1) lo hi) (hlt : lo < hi) (hx : ¬ ns.getD ((lo + hi).fdiv 2).toNat 0 < x) : BR ns (x - 1) lo ((lo + hi).fdiv 2) := h.toHi hs hlt (by omega)
theorem BR.toLo' {ns : List Int} {x lo hi : Int} (hs : Sorted ns) (h : BR ns (x - 1) lo hi) (hlt : lo < hi) (hx : ns.getD ((lo + hi).fdiv 2).toNat 0 < x) : BR ns (x - 1) ((lo + hi).fdiv 2 + 1) hi := h.toLo hs hlt (by omega)
set_option maxHeartbeats 0 in
theorem bisl_c {news : Led} {l : Addr} {vs : List Value} {ns : List Int} {n : Nat} {x : Int} {t2 : Tok} (hi : IntsAre vs ns) (hlen : ns.length < 2 ^ 20) (hs : Sorted ns) :
    Con w p loose mean mg mb (.ref 106) [.ref l, .int x t2] [] 1 8 ((l, lstO vs n) :: news) (fun r n' => (∃ k t, r = .int k t ∧ BR ns (x - 1) k k) ∧ n' = (l, lstO vs n) :: news) := by
  unfold Con; k_fill; intros; rename_i hret
  k_dflt (walk_at "M_ENTER")
  k_with "state" => first | exact BR.start _ _ | exact BR.toHi' hs kInv (by assumption) (by assumption) | exact BR.toLo' hs kInv (by assumption) (by assumption)
  k_with "measure" => (have hb := BR.mid kInv (by assumption); omega)
  k_with "exec While Compare cons nil" => k_while (fun ns lo hi => BR ns (x - 1) lo hi) (fun _ lo hi => (hi - lo).toNat) "lo" "hi"
  k_with "subscriptTail Name Name ref int" => (have hb := BR.mid kInv (by assumption); with_unfolding_all refine' item_l ?k1 ?k2 hi hb.1 hb.2.1 hlen ?_; (case k1 => k_asm); (case k2 => k_mem); intro t')
  k_steps
  exact hret _ _ _ _ (by assumption) (by assumption) ⟨⟨_, _, rfl, kInv.done (by assumption)⟩, rfl⟩


set_option maxHeartbeats 0 in
theorem bisr4_c {news : Led} {l : Addr} {vs : List Value} {ns : List Int} {n : Nat} {x : Int} {t2 t3 : Tok} (hi : IntsAre vs ns) (hlen : ns.length < 2 ^ 20) (hs : Sorted ns) :
    Con w p loose mean mg mb (.ref 88) [.ref l, .int x t2, .int 0 t3, .none] [] 1 8 ((l, lstO vs n) :: news) (fun r n' => (∃ k t, r = .int k t ∧ BR ns x k k) ∧ n' = (l, lstO vs n) :: news) := by
  unfold Con; k_fill; intros; rename_i hret
  k_with_none
  k_dflt (walk_at "M_ENTER")
  k_with "state" => first | exact BR.start _ _ | exact BR.toHi hs kInv (by assumption) (by assumption) | exact BR.toLo hs kInv (by assumption) (by assumption)
  k_with "measure" => (have hb := BR.mid kInv (by assumption); omega)
  k_with "exec While Compare cons nil" => k_while (fun ns lo hi => BR ns x lo hi) (fun _ lo hi => (hi - lo).toNat) "lo" "hi"
  k_with "subscriptTail Name Name ref int" => (have hb := BR.mid kInv (by assumption); with_unfolding_all refine' item_l ?k1 ?k2 hi hb.1 hb.2.1 hlen ?_; (case k1 => k_asm); (case k2 => k_mem); intro t')
  k_steps
  exact hret _ _ _ _ (by assumption) (by assumption) ⟨⟨_, _, rfl, kInv.done (by assumption)⟩, rfl⟩
set_option maxHeartbeats 0 in
theorem bisl4_c {news : Led} {l : Addr} {vs : List Value} {ns : List Int} {n : Nat} {x : Int} {t2 t3 : Tok} (hi : IntsAre vs ns) (hlen : ns.length < 2 ^ 20) (hs : Sorted ns) :
    Con w p loose mean mg mb (.ref 106) [.ref l, .int x t2, .int 0 t3, .none] [] 1 8 ((l, lstO vs n) :: news) (fun r n' => (∃ k t, r = .int k t ∧ BR ns (x - 1) k k) ∧ n' = (l, lstO vs n) :: news) := by
  unfold Con; k_fill; intros; rename_i hret
  k_with_none
  k_dflt (walk_at "M_ENTER")
  k_with "state" => first | exact BR.start _ _ | exact BR.toHi' hs kInv (by assumption) (by assumption) | exact BR.toLo' hs kInv (by assumption) (by assumption)
  k_with "measure" => (have hb := BR.mid kInv (by assumption); omega)
  k_with "exec While Compare cons nil" => k_while (fun ns lo hi => BR ns (x - 1) lo hi) (fun _ lo hi => (hi - lo).toNat) "lo" "hi"
  k_with "subscriptTail Name Name ref int" => (have hb := BR.mid kInv (by assumption); with_unfolding_all refine' item_l ?k1 ?k2 hi hb.1 hb.2.1 hlen ?_; (case k1 => k_asm); (case k2 => k_mem); intro t')
  k_steps
  exact hret _ _ _ _ (by assumption) (by assumption) ⟨⟨_, _, rfl, kInv.done (by assumption)⟩, rfl⟩

theorem BR.start' (ns : List Int) (g : Int → Int) (x : Int) : BR (ns.map g) x 0 ns.length := by have := BR.start (ns.map g) x; rwa [List.length_map] at this
theorem getD_mapg {ns : List Int} {g : Int → Int} {k : Int} (h0 : 0 ≤ k) (h1 : k < (ns.map g).length) : (ns.map g).getD k.toNat 0 = g (ns.getD k.toNat 0) := by
  rw [List.length_map] at h1
  have : k.toNat < ns.length := by omega
  simp [List.getD_eq_getElem?_getD, this]
theorem BR.toHiM {ns : List Int} {g : Int → Int} {x lo hi : Int} (hs : Sorted (ns.map g)) (h : BR (ns.map g) x lo hi) (hlt : lo < hi) (hx : x < g (ns.getD ((lo + hi).fdiv 2).toNat 0)) : BR (ns.map g) x lo ((lo + hi).fdiv 2) :=
  h.toHi hs hlt (by rw [getD_mapg (h.mid hlt).1 (h.mid hlt).2.1]; exact hx)
theorem BR.toLoM {ns : List Int} {g : Int → Int} {x lo hi : Int} (hs : Sorted (ns.map g)) (h : BR (ns.map g) x lo hi) (hlt : lo < hi) (hx : ¬ x < g (ns.getD ((lo + hi).fdiv 2).toNat 0)) : BR (ns.map g) x ((lo + hi).fdiv 2 + 1) hi :=
  h.toLo hs hlt (by rw [getD_mapg (h.mid hlt).1 (h.mid hlt).2.1]; exact hx)
set_option maxHeartbeats 0 in
/-- by a key: what the key tells of the item at i is g of it -/
theorem bisrk_c {news : Led} {l kf : Addr} {oc : Value} {od : Option Addr} {fd : FuncData} {sl : Array (Option Value)} {vs : List Value} {ns : List Int} {n : Nat} {x : Int} {t2 : Tok} {g : Int → Int} {D U : Nat} (hi : IntsAre vs ns) (hlen : ns.length < 2 ^ 20) (hs : Sorted (ns.map g))
    (hk : ∀ (i : Nat) (t : Tok), i < ns.length → Con w p loose mean mg mb (.ref kf) [.int (ns.getD i 0) t] [] D U ((kf, ⟨oc, od, .func fd, sl⟩) :: (l, lstO vs n) :: news) (fun r n' => (∃ t, r = .int (g (ns.getD i 0)) t) ∧ n' = (kf, ⟨oc, od, .func fd, sl⟩) :: (l, lstO vs n) :: news)) :
    Con w p loose mean mg mb (.ref 88) [.ref l, .int x t2] [(Str.ofString "key", .ref kf)] (D + 2) (U + 8) ((kf, ⟨oc, od, .func fd, sl⟩) :: (l, lstO vs n) :: news) (fun r n' => (∃ k t, r = .int k t ∧ BR (ns.map g) x k k) ∧ n' = (kf, ⟨oc, od, .func fd, sl⟩) :: (l, lstO vs n) :: news) := by
  unfold Con; k_fill; intros; rename_i hret
  k_with_none
  k_dflt (walk_at "M_ENTER")
  k_with "state" => first | exact BR.start' _ _ _ | exact BR.toHiM hs kInv (by assumption) (by assumption) | exact BR.toLoM hs kInv (by assumption) (by assumption)
  k_with "measure" => (have hb := BR.mid kInv (by assumption); omega)
  k_with "exec While Compare cons nil" => k_while (fun ns lo hi => BR (ns.map g) x lo hi) (fun _ lo hi => (hi - lo).toNat) "lo" "hi"
  k_with "subscriptTail Name Name ref int" => (have hb := BR.mid kInv (by assumption); with_unfolding_all refine' item_l ?k1 ?k2 hi hb.1 (by have := hb.2.1; simpa using this) hlen ?_; (case k1 => k_asm); (case k2 => k_mem); intro t')
  k_with "callWith ref" => (k_dflt (refine' callWith_F ?k1 ?_; (case k1 => exact FnAt.of (by k_asm) (by k_mem)); k_whole))
  k_with "call ref" => (have hb := BR.mid kInv (by assumption); k_dflt (refine' Con.use (hk _ _ ?lt) ?kB ?kF ?kX ?kN ?kT ?kc ?kf ?kk ?kd ?ku ?_; (case lt => (have h2 := hb.2.1; rw [List.length_map] at h2; have h1 := hb.1; omega)); walk_at "M_SIDE"; k_whole); rintro r9 n9 h9 tk9 F9 N9 ⟨⟨t9, rfl⟩, rfl⟩; (try dsimp only))
  k_steps
  exact hret _ _ _ _ (by assumption) (by assumption) ⟨⟨_, _, rfl, kInv.done (by assumption)⟩, rfl⟩
end Mine

namespace Mine
local macro_rules | `(tactic| walk_at "M_SPARE0") => `(tactic| skip)
local macro_rules | `(tactic| walk_at "M_SPARE1") => `(tactic| skip)
local macro_rules | `(tactic| walk_at "M_SPARE2") => `(tactic| skip)
local macro_rules | `(tactic| walk_at "M_SPARE3") => `(tactic| skip)
local macro_rules | `(tactic| walk_at "M_SPARE4") => `(tactic| skip)
local macro_rules | `(tactic| walk_at "M_SPARE5") => `(tactic| skip)
local macro_rules | `(tactic| walk_at "M_SPARE6") => `(tactic| skip)
local macro_rules | `(tactic| walk_at "M_SPARE7") => `(tactic| skip)
local macro_rules | `(tactic| walk_at "M_SPARE8") => `(tactic| skip)
local macro_rules | `(tactic| walk_at "M_SPARE9") => `(tactic| skip)
local macro_rules | `(tactic| walk_at "M_SPARE10") => `(tactic| skip)
local macro_rules | `(tactic| walk_at "M_SPARE11") => `(tactic| skip)
local macro_rules | `(tactic| walk_at "M_SPARE12") => `(tactic| skip)
local macro_rules | `(tactic| walk_at "M_SPARE13") => `(tactic| skip)
local macro_rules | `(tactic| walk_at "M_SPARE14") => `(tactic| skip)
local macro_rules | `(tactic| walk_at "M_SPARE15") => `(tactic| skip)
local macro_rules | `(tactic| walk_at "M_SPARE16") => `(tactic| skip)
local macro_rules | `(tactic| walk_at "M_SPARE17") => `(tactic| skip)
local macro_rules | `(tactic| walk_at "M_SPARE18") => `(tactic| skip)
local macro_rules | `(tactic| walk_at "M_SPARE19") => `(tactic| skip)
local macro_rules | `(tactic| walk_at "M_SPARE20") => `(tactic| skip)
local macro_rules | `(tactic| walk_at "M_SPARE21") => `(tactic| skip)
local macro_rules | `(tactic| walk_at "M_SPARE22") => `(tactic| skip)
local macro_rules | `(tactic| walk_at "M_SPARE23") => `(tactic| skip)
local macro_rules | `(tactic| walk_at "M_SPARE24") => `(tactic| skip)
example : True := by
  k_with_none
  trivial
local macro_rules | `(tactic| walk_at "M_ENTER") => `(tactic| (refine' code_def ?k1 ?k2 ?k3 ?k4 ?k5 ?kA ?kF ?kK ?k6 ?k7 ?k8 ?k9 ?kB ?_ ?c2 ?c3 ?c4 ?c5; (case kA => exact rfl); (case kF => assumption); (case kK => assumption); (case k1 => k_asm); (case k2 => k_asm); (case k3 => k_asm); (case k4 => k_asm); (case k5 => k_asm); (case k6 => k_is); (case k7 => k_is); (case k8 => ktr_room); (case k9 => first | exact BindsTo.of_eq rfl | exact binds_K (by k_in) rfl (by k_is) rfl rfl rfl | (refine' kp_binds ?kx ?ke; (case kx => k_in); (case ke => exact fun _ => rfl))); (case c5 => decide); (case kB => exact locs rfl); (case c2 => exact rfl); (case c3 => exact rfl); (case c4 => exact rfl); k_whole; intro g' L' h' FG' F' N' B' X' T'; (try dsimp only); (try k_lift B'); (try k_fold)))
local macro_rules | `(tactic| walk_at "M_ENTERC") => `(tactic| (refine' code_defC ?k1 ?k2 ?k3 ?k4 ?k5 ?kA ?kF ?kK ?k6 ?k7 ?k8 ?k9 ?kB ?kD ?_ ?c2 ?c3 ?c4; (case kA => exact rfl); (case kF => assumption); (case kK => assumption); (case k1 => k_asm); (case k2 => k_asm); (case k3 => k_asm); (case k4 => k_asm); (case k5 => k_asm); (case k6 => k_is); (case k7 => k_is); (case k8 => ktr_room); (case k9 => first | exact BindsTo.of_eq rfl | exact binds_K (by k_in) rfl (by k_is) rfl rfl rfl | (refine' kp_binds ?kx ?ke; (case kx => k_in); (case ke => exact fun _ => rfl))); (case kB => exact rfl); (case kD => decide +kernel); (case c2 => exact rfl); (case c3 => exact rfl); (case c4 => exact rfl); k_whole; intro g' L' h' tk' cells' FG' F' N' Y' B' X' T' l1; (try k_lt l1); k_cells Y'; (try simp only [List.cons_append, List.nil_append] at N'); (try dsimp only); (try k_lift B'); (try k_fold)))
local macro_rules | `(tactic| k_all) => `(tactic| first | assumption | exact allLt_ne (by assumption) (by omega))
local macro_rules | `(tactic| walk_at "M_SIDE") => `(tactic| ((case kB => k_asm); (case kF => k_asm); (case kX => k_asm); (case kN => k_asm); (case kT => k_asm); (case kc => assumption); (case kf => first | rfl | assumption); (case kk => first | rfl | assumption); (case kd => ktr_room); (case ku => ktr_units)))
variable {w : World} {p : Program} {loose : List Str} {mean : ExcName → Option Value} {mg mb : Str → Option Value}
theorem getD_eq {ns : List Int} {i : Nat} (h : i < ns.length) : ns.getD i 0 = ns[i] := by simp [List.getD_eq_getElem?_getD, h]
theorem sorted_iff {ns : List Int} : Sorted ns ↔ ns.Pairwise (· ≤ ·) := by
  rw [List.pairwise_iff_getElem]
  constructor
  · intro h i j hi hj hij
    have := h i j (by omega) hj
    rwa [getD_eq hi, getD_eq hj] at this
  · intro h i j hij hj
    rw [getD_eq (by omega : i < ns.length), getD_eq hj]
    rcases Nat.lt_or_eq_of_le hij with h1 | rfl
    · exact h i j (by omega) hj h1
    · exact Int.le_refl _
theorem sorted_ins {ns : List Int} {x : Int} {k : Nat} (hs : Sorted ns) (h1 : ∀ i : Nat, i < k → i < ns.length → ns.getD i 0 ≤ x) (h2 : ∀ i : Nat, k ≤ i → i < ns.length → x ≤ ns.getD i 0) : Sorted (ns.take k ++ x :: ns.drop k) := by
  rw [sorted_iff] at hs ⊢
  rw [List.pairwise_append]
  have hs' := hs
  rw [← List.take_append_drop k ns, List.pairwise_append] at hs'
  refine ⟨hs'.1, List.pairwise_cons.mpr ⟨fun y hy => ?_, hs'.2.1⟩, fun y hy z hz => ?_⟩
  · obtain ⟨i, hi, rfl⟩ := List.getElem_of_mem hy
    rw [List.length_drop] at hi
    have := h2 (k + i) (by omega) (by omega)
    rw [getD_eq (by omega)] at this
    simpa using this
  · obtain ⟨i, hi, rfl⟩ := List.getElem_of_mem hy
    rw [List.length_take] at hi
    rcases List.mem_cons.mp hz with rfl | hz
    · have := h1 i (by omega) (by omega)
      rw [getD_eq (by omega)] at this
      simpa using this
    · exact hs'.2.2 _ hy z hz
theorem kl_ins_nat (l : List Value) {k : Int} (y : Value) (h0 : 0 ≤ k) (h1 : k ≤ l.length) : kl_ins l k y = l.take k.toNat ++ y :: l.drop k.toNat := by
  unfold kl_ins
  rw [if_neg (by omega), Nat.min_eq_left (by omega)]
theorem ints_ins : ∀ {vs : List Value} {ns : List Int}, IntsAre vs ns → ∀ (k : Nat) (x : Int) (t : Tok), IntsAre (vs.take k ++ Value.int x t :: vs.drop k) (ns.take k ++ x :: ns.drop k) := fun h k x t =>
  (h.take k).append (IntsAre.cons _ _ (h.drop k))
theorem perm_ins (ns : List Int) (k : Nat) (x : Int) : (ns.take k ++ x :: ns.drop k).Perm (x :: ns) := by
  have := (List.perm_middle (a := x) (l₁ := ns.take k) (l₂ := ns.drop k))
  rwa [List.take_append_drop] at this
theorem fitsIx {k : Int} (h0 : 0 ≤ k) (h1 : k < 2 ^ 20) : Builtin.List.listFitsIndex k = true := by
  unfold Builtin.List.listFitsIndex
  simp only [Bool.and_eq_true, decide_eq_true_eq]
  omega
theorem fitsSz {vs : List Value} {ns : List Int} (hi : IntsAre vs ns) (h1 : ns.length < 2 ^ 20) : vs.toArray.toList.length ≤ sizeLine := by
  have := hi.length
  rw [sizeLine_eq, show vs.toArray.toList = vs from rfl]
  omega
theorem BR.ins {ns : List Int} {x k : Int} (hs : Sorted ns) (h : BR ns x k k) : Sorted (ns.take k.toNat ++ x :: ns.drop k.toNat) :=
  sorted_ins hs (fun i h1 _ => h.2.2.2.1 i (by omega)) (fun i h1 h2 => Int.le_of_lt (h.2.2.2.2 i (by have := h.1; omega) h2))
theorem BR.ins' {ns : List Int} {x k : Int} (hs : Sorted ns) (h : BR ns (x - 1) k k) : Sorted (ns.take k.toNat ++ x :: ns.drop k.toNat) :=
  sorted_ins hs (fun i h1 _ => by have := h.2.2.2.1 i (by omega); omega) (fun i h1 h2 => by have := h.2.2.2.2 i (by have := h.1; omega) h2; omega)
set_option maxHeartbeats 0 in
theorem insr_c {news : Led} {l : Addr} {vs : List Value} {ns : List Int} {n : Nat} {x : Int} {t2 : Tok} (hi : IntsAre vs ns) (hlen : ns.length < 2 ^ 20 - 1) (hs : Sorted ns) (hoff : ∀ p ∈ news, p.1 ≠ l) :
    Con w p loose mean mg mb (.ref 79) [.ref l, .int x t2] [] 2 40 ((l, lstO vs n) :: news) (fun r n' => r = .none ∧ ∃ vs' ns', n' = (l, lstO vs' (n + 1)) :: news ∧ IntsAre vs' ns' ∧ Sorted ns' ∧ ns'.Perm (x :: ns)) := by
  unfold Con; k_fill; intros; rename_i hret
  k_with_none
  k_dflt (walk_at "M_ENTER")
  k_with "call ref" => (k_dflt (refine' Con.use (bisr4_c hi (by omega) hs) ?kB ?kF ?kX ?kN ?kT ?kc ?kf ?kk ?kd ?ku ?_; walk_at "M_SIDE"; k_whole); rintro r9 n9 h9 tk9 F9 N9 ⟨⟨k9, t9, rfl, hb9⟩, rfl⟩; (try dsimp only))
  k_with "call builtin:list.insert" => ((have hvl : vs.length = ns.length := hi.length); (have hk9 := hb9.1); (have hk8 := hb9.2.2.1); k_dflt (refine' kl_insert ?F ?N (fitsIx hk9 (by omega)) (kl_ins_nat vs _ (by omega) (by omega)) (Upd.head hoff) (fitsSz hi (by omega)) ?_; (case F => k_asm); (case N => k_asm); k_whole); intro h9 F9 N9)
  k_steps
  exact hret _ _ _ _ (by assumption) (by assumption) ⟨rfl, _, _, rfl, ints_ins hi _ _ _, hb9.ins hs, perm_ins _ _ _⟩
set_option maxHeartbeats 0 in
theorem insl_c {news : Led} {l : Addr} {vs : List Value} {ns : List Int} {n : Nat} {x : Int} {t2 : Tok} (hi : IntsAre vs ns) (hlen : ns.length < 2 ^ 20 - 1) (hs : Sorted ns) (hoff : ∀ p ∈ news, p.1 ≠ l) :
    Con w p loose mean mg mb (.ref 97) [.ref l, .int x t2] [] 2 40 ((l, lstO vs n) :: news) (fun r n' => r = .none ∧ ∃ vs' ns', n' = (l, lstO vs' (n + 1)) :: news ∧ IntsAre vs' ns' ∧ Sorted ns' ∧ ns'.Perm (x :: ns)) := by
  unfold Con; k_fill; intros; rename_i hret
  k_with_none
  k_dflt (walk_at "M_ENTER")
  k_with "call ref" => (k_dflt (refine' Con.use (bisl4_c hi (by omega) hs) ?kB ?kF ?kX ?kN ?kT ?kc ?kf ?kk ?kd ?ku ?_; walk_at "M_SIDE"; k_whole); rintro r9 n9 h9 tk9 F9 N9 ⟨⟨k9, t9, rfl, hb9⟩, rfl⟩; (try dsimp only))
  k_with "call builtin:list.insert" => ((have hvl : vs.length = ns.length := hi.length); (have hk9 := hb9.1); (have hk8 := hb9.2.2.1); k_dflt (refine' kl_insert ?F ?N (fitsIx hk9 (by omega)) (kl_ins_nat vs _ (by omega) (by omega)) (Upd.head hoff) (fitsSz hi (by omega)) ?_; (case F => k_asm); (case N => k_asm); k_whole); intro h9 F9 N9)
  k_steps
  exact hret _ _ _ _ (by assumption) (by assumption) ⟨rfl, _, _, rfl, ints_ins hi _ _ _, hb9.ins' hs, perm_ins _ _ _⟩
end Mine

namespace Mine
example : True := by
  k_with_none
  trivial
local macro_rules | `(tactic| walk_at "M_ENTER") => `(tactic| (refine' code_def ?k1 ?k2 ?k3 ?k4 ?k5 ?kA ?kF ?kK ?k6 ?k7 ?k8 ?k9 ?kB ?_ ?c2 ?c3 ?c4 ?c5; (case kA => exact rfl); (case kF => assumption); (case kK => assumption); (case k1 => k_asm); (case k2 => k_asm); (case k3 => k_asm); (case k4 => k_asm); (case k5 => k_asm); (case k6 => k_is); (case k7 => k_is); (case k8 => ktr_room); (case k9 => first | exact BindsTo.of_eq rfl | exact binds_K (by k_in) rfl (by k_is) rfl rfl rfl | (refine' kp_binds ?kx ?ke; (case kx => k_in); (case ke => exact fun _ => rfl))); (case c5 => decide); (case kB => exact locs rfl); (case c2 => exact rfl); (case c3 => exact rfl); (case c4 => exact rfl); k_whole; intro g' L' h' FG' F' N' B' X' T'; (try dsimp only); (try k_lift B'); (try k_fold)))
local macro_rules | `(tactic| walk_at "M_ENTERC") => `(tactic| (refine' code_defC ?k1 ?k2 ?k3 ?k4 ?k5 ?kA ?kF ?kK ?k6 ?k7 ?k8 ?k9 ?kB ?kD ?_ ?c2 ?c3 ?c4; (case kA => exact rfl); (case kF => assumption); (case kK => assumption); (case k1 => k_asm); (case k2 => k_asm); (case k3 => k_asm); (case k4 => k_asm); (case k5 => k_asm); (case k6 => k_is); (case k7 => k_is); (case k8 => ktr_room); (case k9 => first | exact BindsTo.of_eq rfl | exact binds_K (by k_in) rfl (by k_is) rfl rfl rfl | (refine' kp_binds ?kx ?ke; (case kx => k_in); (case ke => exact fun _ => rfl))); (case kB => exact rfl); (case kD => decide +kernel); (case c2 => exact rfl); (case c3 => exact rfl); (case c4 => exact rfl); k_whole; intro g' L' h' tk' cells' FG' F' N' Y' B' X' T' l1; (try k_lt l1); k_cells Y'; (try simp only [List.cons_append, List.nil_append] at N'); (try dsimp only); (try k_lift B'); (try k_fold)))
local macro_rules | `(tactic| walk_at "M_ENTERN") => `(tactic| (refine' code_nest ?k1 ?k2 ?k3 ?k4 ?k5 ?kA ?kF ?kK ?k6 ?k7 ?k8 ?k9 ?kB ?_ ?c2 ?c3 ?c4 ?c5; (case kA => exact rfl); (case kF => assumption); (case kK => assumption); (case k1 => k_asm); (case k2 => k_asm); (case k3 => k_asm); (case k4 => k_asm); (case k5 => k_asm); (case k6 => k_mem); (case k7 => exact codeRec_news (by k_asm) (by k_mem) (by assumption) (by assumption)); (case k8 => ktr_room); (case k9 => exact BindsTo.of_eq rfl); (case c5 => decide); (case kB => exact locs rfl); (case c2 => exact rfl); (case c3 => exact rfl); (case c4 => exact rfl); k_whole; intro g' L' h' FG' F' N' B' X' T'; (try dsimp only); (try k_lift B'); (try k_fold)))
local macro_rules | `(tactic| k_all) => `(tactic| first | assumption | exact allLt_ne (by assumption) (by omega))
local macro_rules | `(tactic| walk_at "M_SIDE") => `(tactic| ((case kB => k_asm); (case kF => k_asm); (case kX => k_asm); (case kN => k_asm); (case kT => k_asm); (case kc => assumption); (case kf => first | rfl | assumption); (case kk => first | rfl | assumption); (case kd => ktr_room); (case ku => ktr_units)))
variable {w : World} {p : Program} {loose : List Str} {mean : ExcName → Option Value} {mg mb : Str → Option Value}
theorem updF_same {d : Addr} {o : Obj} {l : Led} {g : Obj → Led} (U : UpdF d o l g) : g o = l := by
  induction U with
  | head => rfl
  | tail _ _ ih => simp [ih]
theorem allLt_mem {x : Nat} : ∀ {l : Led}, AllLt x l → ∀ q ∈ l, @LT.lt Nat _ q.1 x
  | [], _, _, hq => nomatch hq
  | p :: r, h, q, hq => by
    rcases List.mem_cons.mp hq with rfl | hq
    · exact h.1
    · exact allLt_mem h.2 q hq
theorem ints_rep (x : Int) (t : Tok) : ∀ k : Nat, IntsAre (List.replicate k (Value.int x t)) (List.replicate k x)
  | 0 => .nil
  | k + 1 => .cons x t (ints_rep x t k)
/-- what stands above Lb is not at c -/
def AllOff (Lb c : Nat) : Led → Prop
  | [] => True
  | q :: r => (@LT.lt Nat _ Lb q.1 → @Ne Nat q.1 c) ∧ AllOff Lb c r
theorem allOff_of {Lb c : Nat} : ∀ {l : Led}, (∀ q ∈ l, @LT.lt Nat _ Lb q.1 → @Ne Nat q.1 c) → AllOff Lb c l
  | [], _ => trivial
  | p :: _, h => ⟨h p (.head _), allOff_of fun q hq => h q (.tail _ hq)⟩
/-- a def within a def: its code is made once, and found again -/
theorem nest_any {M : Model} {A : Around} {E : Value → Shared → Prop} {s : Shared} {h₀ : Heap} {L a c P : Addr} {m : Str → Option Value} {cn : Str} {cs : Scope} {ccd : Value} {cl : List (Str × Addr)} {news tl : Led} {g : Obj → Led}
    {name qual : Str} {params : Arguments} {body : List Stmt} {scope : Scope} {ps : Array Value} {pos : Pos} {firstLine : Nat} {clos : List (Str × Addr)} {Lb : Nat} {Q : Value → Shared → Prop}
    (F : Fr h₀ L s.heap m) (N : News h₀ L s.heap news) (T : Top p loose mean mg mb h₀) (C : CodeHd h₀ c P) (hcd : ccd = .ref c) (U : UpdF P (tabObj ps) news g) (hmem : (P, tabObj ps) ∈ news)
    (hlt : AllLt Lb tl) (hoffP : ∀ q ∈ tl, q.1 ≠ P) (hsub : ∀ q ∈ tl, q ∈ news)
    (htab : ps = #[] ∨ ∃ c' oc vs t, ps = #[rawInt pos.line, rawInt pos.col, .ref c'] ∧ (c', oc) ∈ tl ∧ oc.data = .fields vs ∧ vs[1]? = some (.str qual t))
    (hcl : closureFor scope (envX cn cs L a ccd cl) = pure clos)
    (h : ∀ f c' oc vs t ctv doc h' tk, Fr h₀ L h' m →
      News h₀ L h' ((f, fnMade name qual params body scope clos doc ((mg "__name__").getD .none) c' ctv) :: (c', oc) :: g (tabObj #[rawInt pos.line, rawInt pos.col, .ref c'])) →
      oc.data = .fields vs → vs[1]? = some (.str qual t) → (∀ q ∈ news, q.1 < f) → @LT.lt Nat _ c' f → AllOff Lb c' news → @Ne Nat c' P → ((c', oc) ∈ tl ∨ ∀ q ∈ news, q.1 < c') → (ps = #[] ∨ ps = #[rawInt pos.line, rawInt pos.col, .ref c']) → Q (.ref f) { s with heap := h', toks := tk }) :
    wpAny M A (makeFunction name qual params (.stmts body) scope (envX cn cs L a ccd cl) [] [] [] pos firstLine) Q E s := by
  rcases htab with rfl | ⟨c', oc, vs, t, rfl, hm, hd, hv⟩
  · refine nest_K F N T C hcd U trivial rfl hcl fun f c' oc vs t ctv doc h' tk F' N' hd hv h1 h2 => ?_
    exact h f c' oc vs t ctv doc h' tk F' N' hd hv (fun q hq => Nat.lt_trans (h1 q hq) h2) h2 (allOff_of fun q hq _ => Nat.ne_of_lt (h1 q hq)) (Nat.ne_of_gt (h1 _ hmem)) (.inr h1) (.inl rfl)
  · have hn := hsub _ hm
    refine nestHit_K F N T C hcd hmem (by simp [TriplesOk, rawInt]) (by simp [codeAmong, rawInt]; rfl) hcl fun f ctv doc h' tk F' N' h1 => ?_
    refine h f c' oc vs t ctv doc h' tk F' (fun q hq => ?_) hd hv h1 (h1 _ hn) (allOff_of fun q hq hl => Nat.ne_of_gt (Nat.lt_trans (allLt_mem hlt _ hm) hl)) (hoffP _ hm) (.inl hm) (.inr rfl)
    rw [updF_same U] at hq
    rcases List.mem_cons.mp hq with rfl | hq
    · exact N' _ (.head _)
    · rcases List.mem_cons.mp hq with rfl | hq
      · exact N' _ (.tail _ hn)
      · exact N' _ (.tail _ hq)

end Mine

namespace Mine
local macro_rules | `(tactic| walk_at "M_SPARE0") => `(tactic| skip)
local macro_rules | `(tactic| walk_at "M_SPARE1") => `(tactic| skip)
local macro_rules | `(tactic| walk_at "M_SPARE2") => `(tactic| skip)
local macro_rules | `(tactic| walk_at "M_SPARE3") => `(tactic| skip)
local macro_rules | `(tactic| walk_at "M_SPARE4") => `(tactic| skip)
local macro_rules | `(tactic| walk_at "M_SPARE5") => `(tactic| skip)
local macro_rules | `(tactic| walk_at "M_SPARE6") => `(tactic| skip)
local macro_rules | `(tactic| walk_at "M_SPARE7") => `(tactic| skip)
local macro_rules | `(tactic| walk_at "M_SPARE8") => `(tactic| skip)
local macro_rules | `(tactic| walk_at "M_SPARE9") => `(tactic| skip)
local macro_rules | `(tactic| walk_at "M_SPARE10") => `(tactic| skip)
local macro_rules | `(tactic| walk_at "M_SPARE11") => `(tactic| skip)
local macro_rules | `(tactic| walk_at "M_SPARE12") => `(tactic| skip)
local macro_rules | `(tactic| walk_at "M_SPARE13") => `(tactic| skip)
local macro_rules | `(tactic| walk_at "M_SPARE14") => `(tactic| skip)
local macro_rules | `(tactic| walk_at "M_SPARE15") => `(tactic| skip)
local macro_rules | `(tactic| walk_at "M_SPARE16") => `(tactic| skip)
local macro_rules | `(tactic| walk_at "M_SPARE17") => `(tactic| skip)
local macro_rules | `(tactic| walk_at "M_SPARE18") => `(tactic| skip)
local macro_rules | `(tactic| walk_at "M_SPARE19") => `(tactic| skip)
local macro_rules | `(tactic| walk_at "M_SPARE20") => `(tactic| skip)
local macro_rules | `(tactic| walk_at "M_SPARE21") => `(tactic| skip)
local macro_rules | `(tactic| walk_at "M_SPARE22") => `(tactic| skip)
local macro_rules | `(tactic| walk_at "M_SPARE23") => `(tactic| skip)
local macro_rules | `(tactic| walk_at "M_SPARE24") => `(tactic| skip)
/-! pure facts of digits -/
def valD (f : Nat → Int) (B : Int) : Nat → Nat → Int
  | _, 0 => 0
  | lo, k + 1 => f lo + B * valD f B (lo + 1) k
theorem valD_add (f : Nat → Int) (B : Int) : ∀ (a b lo : Nat), valD f B lo (a + b) = valD f B lo a + B ^ a * valD f B (lo + a) b
  | 0, b, lo => by simp [valD]
  | a + 1, b, lo => by
    rw [show a + 1 + b = (a + b) + 1 from by omega, valD, valD, valD_add f B a b (lo + 1), Int.pow_succ, show lo + 1 + a = lo + (a + 1) from by omega, Int.mul_add, Int.mul_comm (B ^ a) B]
    rw [Int.add_assoc, Int.mul_assoc]
theorem valD_congr {f g : Nat → Int} {B : Int} : ∀ (k lo : Nat), (∀ i, lo ≤ i → i < lo + k → f i = g i) → valD f B lo k = valD g B lo k
  | 0, _, _ => rfl
  | k + 1, lo, h => by
    rw [valD, valD, h lo (Nat.le_refl _) (by omega), valD_congr k (lo + 1) fun i h1 h2 => h i (by omega) (by omega)]

theorem or_shift (X s : Nat) : X ||| (X >>> s <<< s) = X := by
  apply Nat.eq_of_testBit_eq
  intro i
  rw [Nat.testBit_or, Nat.testBit_shiftLeft, Nat.testBit_shiftRight]
  by_cases h : s ≤ i
  · simp [h]
  · simp [h]
theorem and_shift (X s : Nat) : X &&& (X >>> s <<< s) = X >>> s <<< s := by
  apply Nat.eq_of_testBit_eq
  intro i
  rw [Nat.testBit_and, Nat.testBit_shiftLeft, Nat.testBit_shiftRight]
  by_cases h : s ≤ i
  · simp [h]
  · simp [h]
theorem bitNot_cast (n : Nat) : Builtin.bitNot ((n : Nat) : Int) = -(n : Int) - 1 := by
  unfold Builtin.bitNot; omega
theorem xor_nat (X Y : Nat) : Builtin.bitXor (X : Int) (Y : Int) = ((X ||| Y : Nat) : Int) - ((X &&& Y : Nat) : Int) := by
  have hb : ∀ n : Nat, Builtin.bitNot (-(n : Int) - 1) = n := fun n => by unfold Builtin.bitNot; omega
  unfold Builtin.bitXor Builtin.bitOr Builtin.bitAnd
  rw [bitNot_cast, bitNot_cast]
  have h1 : decide (0 ≤ -(X : Int) - 1) = false := by simp; omega
  have h2 : decide (0 ≤ -(Y : Int) - 1) = false := by simp; omega
  have h3 : decide (0 ≤ (X : Int)) = true := by simp
  have h4 : decide (0 ≤ (Y : Int)) = true := by simp
  simp only [h1, h2, h3, h4, hb, Int.toNat_natCast]
  rw [bitNot_cast, hb]
theorem xor_low {x : Int} (h : 0 ≤ x) (s : Nat) : Builtin.bitXor x (x.fdiv (2 ^ s) * 2 ^ s) = x % 2 ^ s := by
  obtain ⟨X, rfl⟩ : ∃ X : Nat, x = X := ⟨x.toNat, by omega⟩
  have e : ((X : Int).fdiv (2 ^ s) * 2 ^ s) = ((X >>> s <<< s : Nat) : Int) := by
    rw [Int.fdiv_eq_ediv_of_nonneg _ (Int.le_of_lt (Int.pow_pos (by decide))), Nat.shiftLeft_eq, Nat.shiftRight_eq_div_pow]
    push_cast
    rfl
  rw [e, xor_nat, or_shift, and_shift, ← e, Int.fdiv_eq_ediv_of_nonneg _ (Int.le_of_lt (Int.pow_pos (by decide)))]
  have := Int.mul_ediv_add_emod (X : Int) (2 ^ s)
  rw [Int.mul_comm] at this
  omega
structure DigOk (ds ds' : List Int) (B x lo hi : Int) : Prop where
  out : ∀ i : Nat, (i : Int) < lo ∨ hi ≤ i → ds'.getD i 0 = ds.getD i 0
  inn : ∀ i : Nat, lo ≤ i → (i : Int) < hi → 0 ≤ ds'.getD i 0 ∧ ds'.getD i 0 < B
  val : valD (fun i => ds'.getD i 0) B lo.toNat (hi - lo).toNat = x
theorem getD_set (ds : List Int) (i j : Nat) (x : Int) (h : i < ds.length) : (ds.set i x).getD j 0 = if i = j then x else ds.getD j 0 := by
  simp only [List.getD_eq_getElem?_getD, List.getElem?_set]
  by_cases e : i = j
  · subst e; simp [h]
  · simp [e]
theorem DigOk.base {ds : List Int} {B x lo hi : Int} (h0 : 0 ≤ lo) (h1 : lo + 1 = hi) (h2 : hi ≤ ds.length) (hx0 : 0 ≤ x) (hx1 : x < B ^ (hi - lo).toNat) : DigOk ds (ds.set lo.toNat x) B x lo hi := by
  have e : (hi - lo).toNat = 1 := by omega
  rw [e, Int.pow_succ, Int.pow_zero, Int.one_mul] at hx1
  refine ⟨fun i hi => ?_, fun i h3 h4 => ?_, ?_⟩
  · rw [getD_set _ _ _ _ (by omega), if_neg (by omega)]
  · rw [getD_set _ _ _ _ (by omega), if_pos (by omega)]; exact ⟨hx0, hx1⟩
  · rw [e]
    simp only [valD]
    rw [getD_set _ _ _ _ (by omega), if_pos rfl]; omega
theorem DigOk.join {ds d1 d2 : List Int} {B x lower upper lo M hi : Int} (a : DigOk ds d1 B lower lo M) (b : DigOk d1 d2 B upper M hi) (h0 : 0 ≤ lo) (h1 : lo ≤ M) (h2 : M ≤ hi) (hx : x = lower + B ^ (M - lo).toNat * upper) : DigOk ds d2 B x lo hi := by
  refine ⟨fun i h => ?_, fun i h3 h4 => ?_, ?_⟩
  · rw [b.out i (by omega), a.out i (by omega)]
  · by_cases h5 : (i : Int) < M
    · rw [b.out i (by omega)]; exact a.inn i h3 h5
    · exact b.inn i (by omega) h4
  · have e : (hi - lo).toNat = (M - lo).toNat + (hi - M).toNat := by omega
    rw [e, valD_add, show lo.toNat + (M - lo).toNat = M.toNat from by omega, b.val, hx, ← a.val]
    congr 1
    exact valD_congr _ _ fun i h3 h4 => b.out i (by omega)
theorem half_is (a : Int) : a.fdiv (2 ^ Int.toNat 1) = a / 2 := Int.fdiv_eq_ediv_of_nonneg _ (by decide)
theorem pow_shift {n d : Int} (hn : 0 ≤ n) (hd : 0 ≤ d) : (2 : Int) ^ (d * n).toNat = (2 ^ n.toNat) ^ d.toNat := by
  have : (d * n).toNat = n.toNat * d.toNat := by
    obtain ⟨N, rfl⟩ : ∃ N : Nat, n = N := ⟨n.toNat, by omega⟩
    obtain ⟨D, rfl⟩ : ∃ D : Nat, d = D := ⟨d.toNat, by omega⟩
    rw [← Int.natCast_mul, Int.toNat_natCast, Int.toNat_natCast, Int.toNat_natCast, Nat.mul_comm]
  rw [this, Int.pow_mul]
/-- what is handed to the two halves -/
structure HalfOk (x n lo hi M lower upper : Int) : Prop where
  lo_lt : lo < M
  lt_hi : M < hi
  l0 : 0 ≤ lower
  l1 : lower < (2 ^ n.toNat) ^ (M - lo).toNat
  u0 : 0 ≤ upper
  le : lower ≤ x
  u1 : upper < (2 ^ n.toNat) ^ (hi - M).toNat
  sum : x = lower + (2 ^ n.toNat) ^ (M - lo).toNat * upper
theorem half_ok {x n lo hi : Int} (h0 : 0 ≤ lo) (h1 : lo < hi) (hne : lo + 1 ≠ hi) (hn : 0 < n) (hx0 : 0 ≤ x) (hx1 : x < (2 ^ n.toNat) ^ (hi - lo).toNat) :
    HalfOk x n lo hi ((lo + hi).fdiv (2 ^ Int.toNat 1)) (Builtin.bitXor x (x.fdiv (2 ^ (((lo + hi).fdiv (2 ^ Int.toNat 1) - lo) * n).toNat) * 2 ^ (((lo + hi).fdiv (2 ^ Int.toNat 1) - lo) * n).toNat)) (x.fdiv (2 ^ (((lo + hi).fdiv (2 ^ Int.toNat 1) - lo) * n).toNat)) := by
  rw [half_is, xor_low hx0]
  generalize hM : (lo + hi) / 2 = M
  have a1 : lo < M := by omega
  have a2 : M < hi := by omega
  rw [pow_shift (by omega) (by omega : 0 ≤ M - lo)]
  have hB : (0 : Int) < (2 ^ n.toNat) ^ (M - lo).toNat := Int.pow_pos (Int.pow_pos (by decide))
  rw [Int.fdiv_eq_ediv_of_nonneg _ (Int.le_of_lt hB)]
  refine ⟨a1, a2, Int.emod_nonneg _ (by omega), Int.emod_lt_of_pos _ hB, Int.ediv_nonneg hx0 (Int.le_of_lt hB), ?_, ?_, ?_⟩
  · have h1 := Int.mul_ediv_add_emod x ((2 ^ n.toNat) ^ (M - lo).toNat)
    have h2 := Int.mul_nonneg (Int.le_of_lt hB) (Int.ediv_nonneg hx0 (Int.le_of_lt hB))
    omega
  · refine Int.ediv_lt_of_lt_mul hB ?_
    rw [← Int.pow_add, show (hi - M).toNat + (M - lo).toNat = (hi - lo).toNat from by omega]
    exact hx1
  · have := Int.mul_ediv_add_emod x ((2 ^ n.toNat) ^ (M - lo).toNat)
    omega
/-- as many digits as the bits ask -/
theorem cnt_ok {a n : Int} {cnt : Nat} (h0 : 0 ≤ a) (hn : 0 < n) (hc : (↑(Builtin.Int.intBits a) + n - 1).fdiv n = (cnt : Int)) : a < (2 ^ n.toNat) ^ cnt := by
  rw [Int.fdiv_eq_ediv_of_nonneg _ (by omega)] at hc
  have h1 : Builtin.Int.intBits a ≤ n.toNat * cnt := by
    have h2 := Int.emod_lt_of_pos (↑(Builtin.Int.intBits a) + n - 1) hn
    have h3 := Int.mul_ediv_add_emod (↑(Builtin.Int.intBits a) + n - 1) n
    rw [hc] at h3
    have h4 : ((n.toNat * cnt : Nat) : Int) = n * cnt := by push_cast; rw [Int.toNat_of_nonneg (by omega)]
    have h5 : ((Builtin.Int.intBits a : Nat) : Int) ≤ ((n.toNat * cnt : Nat) : Int) := by rw [h4]; omega
    exact_mod_cast h5
  have h2 := intBits_le_iff.mp h1
  rw [← Int.pow_mul]
  have h3 : ((2 ^ (n.toNat * cnt) : Nat) : Int) = (2 : Int) ^ (n.toNat * cnt) := by push_cast; rfl
  rw [← h3]
  omega
end Mine

namespace Mine
example : True := by
  k_with_none
  trivial
local macro_rules | `(tactic| walk_at "M_ENTER") => `(tactic| (refine' code_def ?k1 ?k2 ?k3 ?k4 ?k5 ?kA ?kF ?kK ?k6 ?k7 ?k8 ?k9 ?kB ?_ ?c2 ?c3 ?c4 ?c5; (case kA => exact rfl); (case kF => assumption); (case kK => assumption); (case k1 => k_asm); (case k2 => k_asm); (case k3 => k_asm); (case k4 => k_asm); (case k5 => k_asm); (case k6 => k_is); (case k7 => k_is); (case k8 => ktr_room); (case k9 => first | exact BindsTo.of_eq rfl | exact binds_K (by k_in) rfl (by k_is) rfl rfl rfl | (refine' kp_binds ?kx ?ke; (case kx => k_in); (case ke => exact fun _ => rfl))); (case c5 => decide); (case kB => exact locs rfl); (case c2 => exact rfl); (case c3 => exact rfl); (case c4 => exact rfl); k_whole; intro g' L' h' FG' F' N' B' X' T'; (try dsimp only); (try k_lift B'); (try k_fold)))
local macro_rules | `(tactic| walk_at "M_ENTERC") => `(tactic| (refine' code_defC ?k1 ?k2 ?k3 ?k4 ?k5 ?kA ?kF ?kK ?k6 ?k7 ?k8 ?k9 ?kB ?kD ?_ ?c2 ?c3 ?c4; (case kA => exact rfl); (case kF => assumption); (case kK => assumption); (case k1 => k_asm); (case k2 => k_asm); (case k3 => k_asm); (case k4 => k_asm); (case k5 => k_asm); (case k6 => k_is); (case k7 => k_is); (case k8 => ktr_room); (case k9 => first | exact BindsTo.of_eq rfl | exact binds_K (by k_in) rfl (by k_is) rfl rfl rfl | (refine' kp_binds ?kx ?ke; (case kx => k_in); (case ke => exact fun _ => rfl))); (case kB => exact rfl); (case kD => decide +kernel); (case c2 => exact rfl); (case c3 => exact rfl); (case c4 => exact rfl); k_whole; intro g' L' h' tk' cells' FG' F' N' Y' B' X' T' l1; (try k_lt l1); k_cells Y'; (try simp only [List.cons_append, List.nil_append] at N'); (try dsimp only); (try k_lift B'); (try k_fold)))
local macro_rules | `(tactic| walk_at "M_ENTERN") => `(tactic| (refine' code_nest ?k1 ?k2 ?k3 ?k4 ?k5 ?kA ?kF ?kK ?k6 ?k7 ?k8 ?k9 ?kB ?_ ?c2 ?c3 ?c4 ?c5; (case kA => exact rfl); (case kF => assumption); (case kK => assumption); (case k1 => k_asm); (case k2 => k_asm); (case k3 => k_asm); (case k4 => k_asm); (case k5 => k_asm); (case k6 => k_mem); (case k7 => exact codeRec_news (by k_asm) (by k_mem) (by assumption) (by assumption)); (case k8 => ktr_room); (case k9 => exact BindsTo.of_eq rfl); (case c5 => decide); (case kB => exact locs rfl); (case c2 => exact rfl); (case c3 => exact rfl); (case c4 => exact rfl); k_whole; intro g' L' h' FG' F' N' B' X' T'; (try dsimp only); (try k_lift B'); (try k_fold)))
local macro_rules | `(tactic| k_all) => `(tactic| first | assumption | exact allLt_ne (by assumption) (by omega))
local macro_rules | `(tactic| walk_at "M_SIDE") => `(tactic| ((case kB => k_asm); (case kF => k_asm); (case kX => k_asm); (case kN => k_asm); (case kT => k_asm); (case kc => assumption); (case kf => first | rfl | assumption); (case kk => first | rfl | assumption); (case kd => ktr_room); (case ku => ktr_units)))
variable {w : World} {p : Program} {loose : List Str} {mean : ExcName → Option Value} {mg mb : Str → Option Value}
theorem foldl_rep (v : Value) : ∀ (k : Nat) (acc : List Value), (List.foldl (fun x1 x2 => x1 ++ x2) acc.toArray (List.replicate k #[v])) = (acc ++ List.replicate k v).toArray
  | 0, acc => by simp
  | k + 1, acc => by
    rw [List.replicate_succ, List.foldl_cons]
    have : acc.toArray ++ #[v] = (acc ++ [v]).toArray := by simp
    rw [this, foldl_rep v k (acc ++ [v])]
    simp [List.replicate_succ]
theorem mul_rep {prog : Program} {A : Around} {E : Value → Shared → Prop} {s : Shared} {h₀ : Heap} {L : Addr} {m : Str → Option Value} {news : Led} {l : Addr} {v : Value} {k n : Nat} {x : Int} {u : Tok} {Q : Value → Shared → Prop}
    (F : Fr h₀ L s.heap m) (N : News h₀ L s.heap news) (hm : (l, lstO [v] n) ∈ news) (hx : x = k) (hk : k < 2 ^ 20)
    (h : ∀ D h', (∀ p ∈ news, p.1 < D) → Fr h₀ L h' m → News h₀ L h' ((D, lstO (List.replicate k v) 0) :: news) → Q (.ref D) { s with heap := h' }) :
    wpAny (model prog w) A (binaryOp .Mult (.ref l) (.int x u)) Q E s := by
  refine mul_list F N (N.get hm) (by omega) (by omega) (by subst hx; simp; omega) fun h' F' N' => ?_
  refine h _ h' (fun p hp => Heap.lt_size (N.get hp)) F' ?_
  have e : (List.foldl (fun x1 x2 => x1 ++ x2) #[] (List.replicate (if ([v].toArray).isEmpty = true then 0 else x.toNat) [v].toArray)) = (List.replicate k v).toArray := by
    subst hx
    have := foldl_rep v k []
    simpa using this
  rw [e] at N'
  exact N'
theorem len_l {prog : Program} {A : Around} {E : Value → Shared → Prop} {s : Shared} {h₀ : Heap} {L : Addr} {news : Led} {l : Addr} {vs : List Value} {k n : Nat} {Q : Value → Shared → Prop}
    (N : News h₀ L s.heap news) (hm : (l, lstO vs n) ∈ news) (hk : vs.length = k) (hk2 : k < 2 ^ 20) (h : ∀ t tk', Q (.int k t) { s with toks := tk' }) :
    wpAny (model prog w) A (call (.builtin "len") [.ref l]) Q E s := by
  refine len_list (isList_of N hm) (by simp; omega) ?_
  subst hk
  exact h _ _

theorem shift_ok {lo hi n : Int} {c : Nat} (h0 : 0 ≤ lo) (h1 : lo < hi) (h2 : hi ≤ c) (hc : c < 100) (hn : 0 < n ∧ n < 20) : 0 ≤ ((lo + hi).fdiv (2 ^ Int.toNat 1) - lo) * n ∧ ((lo + hi).fdiv (2 ^ Int.toNat 1) - lo) * n < 2000 := by
  rw [half_is]
  have a : 0 ≤ (lo + hi) / 2 - lo := by omega
  have b : (lo + hi) / 2 - lo < 100 := by omega
  constructor
  · exact Int.mul_nonneg a (by omega)
  · have := Int.mul_le_mul (a := (lo + hi) / 2 - lo) (b := n) (c := 99) (d := 19) (by omega) (by omega) (by omega) (by omega)
    omega

/-- the spec of `inner` in _int2digits -/
def InnerSpec (w : World) (p : Program) (loose : List Str) (mean : ExcName → Option Value) (mg mb : Str → Option Value) (f c' D : Addr) (fo oc : Obj) (rest : Led) (nn : Int) (c : Nat) (d : Nat) : Prop :=
  ∀ (x lo hi : Int) (tx t1 t2 : Tok) (ds : List Int) (vs : List Value), IntsAre vs ds → ds.length = c → 0 ≤ lo → lo < hi → hi ≤ c → (hi - lo).toNat ≤ d + 1 → 0 ≤ x → x < (2 ^ nn.toNat) ^ (hi - lo).toNat → Builtin.Int.intBits x ≤ 80 →
    Con w p loose mean mg mb (.ref f) [.int x tx, .int lo t1, .int hi t2] [] (d + 1) (20 * (d + 1)) ((f, fo) :: (c', oc) :: (D, lstO vs 0) :: rest) (fun r n' => r = .none ∧ ∃ ds' vs', n' = (f, fo) :: (c', oc) :: (D, lstO vs' 0) :: rest ∧ IntsAre vs' ds' ∧ ds'.length = c ∧ DigOk ds ds' (2 ^ nn.toNat) x lo hi)
theorem inner_gen {h₀ h : Heap} {L : Addr} {f c' D : Addr} {fo oc : Obj} {rest : Led} {vs0 : List Value} {n0 : Nat} {nn : Int} {c : Nat} {G : Prop} (_N : News h₀ L h ((f, fo) :: (c', oc) :: (D, lstO vs0 n0) :: rest))
    (step : ∀ d, (∀ e, e < d → InnerSpec w p loose mean mg mb f c' D fo oc rest nn c e) → InnerSpec w p loose mean mg mb f c' D fo oc rest nn c d)
    (go : (∀ d, InnerSpec w p loose mean mg mb f c' D fo oc rest nn c d) → G) : G :=
  go (fun d => Nat.strongRecOn d step)
theorem bits_mono {x y : Int} {k : Nat} (h0 : 0 ≤ y) (h : y ≤ x) (hx : Builtin.Int.intBits x ≤ k) : Builtin.Int.intBits y ≤ k := intBits_le_of_natAbs (by omega) hx
local macro_rules | `(tactic| walk_at "exec FunctionDef") => `(tactic| k_extra "exec FunctionDef")
local macro_rules | `(tactic| walk_at "binaryOp LShift int int") => `(tactic| k_extra "M_LSH")
/-- a table of codes: empty, or with the one code of the one def within -/
def TabIs (ln col : Nat) (q : Str) (ps : Array Value) (tl : Led) : Prop :=
  ps = #[] ∨ ∃ c' oc vs t, ps = #[rawInt ln, rawInt col, .ref c'] ∧ (c', oc) ∈ tl ∧ oc.data = .fields vs ∧ vs[1]? = some (.str q t)
set_option maxHeartbeats 0 in
theorem i2d_c {news tl : Led} {ps : Array Value} {a n : Int} {cnt : Nat} {t1 t2 : Tok} (ha : 0 ≤ a ∧ Builtin.Int.intBits a ≤ 80) (hn : 0 < n ∧ n < 20) (hcnt : (↑(Builtin.Int.intBits a) + n - 1).fdiv n = (cnt : Int)) (hc0 : cnt < 100) (hoff : ∀ p ∈ news, p.1 ≠ 44)
    (htl : ∀ q ∈ tl, q ∈ news) (htab : TabIs 73 4 (Str.ofString "_int2digits.<locals>.inner") ps tl) :
    Con w p loose mean mg mb (.ref 49) [.int a t1, .int n t2] [] 105 4000 ((44, tabObj ps) :: news) (fun r n' => ∃ D c' oc vc tc vs ds, r = .ref D ∧ n' = (D, lstO vs 0) :: (c', oc) :: (44, tabObj #[rawInt 73, rawInt 4, .ref c']) :: news ∧ oc.data = .fields vc ∧ vc[1]? = some (.str (Str.ofString "_int2digits.<locals>.inner") tc) ∧
      (∀ p ∈ news, p.1 < D) ∧ 44 < D ∧ D ≠ c' ∧ c' ≠ 44 ∧ (ps = #[] ∨ ps = #[rawInt 73, rawInt 4, .ref c']) ∧ ((c', oc) ∈ tl ∨ ∀ p ∈ news, p.1 < c') ∧ IntsAre vs ds ∧ ds.length = cnt ∧ (∀ i : Nat, i < cnt → 0 ≤ ds.getD i 0 ∧ ds.getD i 0 < 2 ^ n.toNat) ∧ valD (fun i => ds.getD i 0) (2 ^ n.toNat) 0 cnt = a) := by
  unfold Con; k_fill; intros; rename_i hret
  rename CodesAt _ => hcodes
  have hC := hcodes.1
  k_with_none
  k_dflt (walk_at "M_ENTERC")
  rename _ ∧ AllLt _ _ => l1
  obtain ⟨l1a, l1b⟩ := l1
  k_with "exec FunctionDef" => (k_dflt (refine' nestDef_K ?d0 ?k0 ?a0 ?_; (case d0 => exact rfl); (case k0 => exact rfl); (case a0 => exact rfl)); k_dflt (refine' nest_any ?F ?N ?T ?C ?cd ?U ?mem (allLt_of fun q hq => allLt_mem l1b q (htl q hq)) (fun q hq => hoff q (htl q hq)) ?sub htab ?cl ?_; (case F => k_asm); (case N => k_asm); (case T => k_asm); (case cd => exact rfl); (case C => kn_code); (case U => k_updF); (case mem => k_mem); (case sub => (intro q9 hq9; replace hq9 := htl q9 hq9; repeat (first | exact hq9 | apply List.Mem.tail))); (case cl => exact rfl); k_whole); intro f9 c9 oc9 vc9 tc9 ct9 dc9 h9 tk9 F9 N9 d1 d2 l1 l2 l3 l4 l5 l6; (replace l5 := l5.imp_right fun h => (fun q hq => h q (by repeat (first | exact hq | apply List.Mem.tail)) : ∀ q ∈ news, q.1 < c9)); (try dsimp only at N9); (try k_lt l1); (try simp only [AllOff] at l3))
  k_with "binaryOp Mult ref int" => (k_dflt (refine' mul_rep ?kF ?kN ?km hcnt (by omega) ?_; (case kF => k_asm); (case kN => k_asm); (case km => k_mem); k_whole); intro D9 h9 l9 F9 N9; (try k_lt l9))
  k_with "call builtin:len" => (k_dflt (refine' len_l ?kN ?km (List.length_replicate (n := cnt)) (by omega) ?_; (case kN => k_asm); (case km => k_mem)); intro t9 tk9)
  k_steps
  · rename News _ _ _ ((_, fnMade _ _ _ _ _ _ _ _ _ _) :: (_, _) :: (_, lstO _ _) :: _) => N5
    have hcpos : 0 < cnt := by
      rcases Nat.eq_zero_or_pos cnt with h | h
      · subst h
        have h9 := cnt_ok ha.1 hn.1 hcnt
        rw [Int.pow_zero] at h9
        omega
      · exact h
    refine inner_gen (w := w) (p := p) (loose := loose) (mean := mean) (mg := mg) (mb := mb) (nn := n) (c := cnt) N5 ?_ ?_
    · clear hret
      intro d IH x lo hi tx t1 t2 ds vs hI hlen h0 h1 h2 hd hx0 hx1 hxb
      unfold Con; intros; rename_i hret
      rename CodesAt _ => hcodes
      k_dflt (walk_at "M_ENTERN")
      have hsh := shift_ok h0 h1 h2 hc0 hn
      k_with "M_LSH" => (refine lshift_int hsh.1 ?_ ?_; (have hb9 := intBits_fdiv_le (y := 2 ^ (((lo + hi).fdiv (2 ^ Int.toNat 1) - lo) * n).toNat) hxb; have hb8 := hsh.2; omega))
      k_with "call ref" => first
        | (k_dflt (refine' Con.use (IH (d - 1) (by have := hH.lo_lt; have := hH.lt_hi; omega) _ _ _ _ _ _ ds9 vs9 hI9 hlen9 (by have := hH.lo_lt; omega) hH.lt_hi h2 (by have := hH.lo_lt; omega) hH.u0 hH.u1 (intBits_fdiv_le hxb)) ?kB ?kF ?kX ?kN ?kT ?kc ?kf ?kk ?kd ?ku ?_; walk_at "M_SIDE"; k_whole); rintro r9 n9 h9 tk9 F9 N9 ⟨rfl, ds8, vs8, rfl, hI8, hlen8, hD8⟩; (try dsimp only))
        | (have hH := half_ok h0 h1 (by assumption) hn.1 hx0 hx1; k_dflt (refine' Con.use (IH (d - 1) (by have := hH.lo_lt; have := hH.lt_hi; omega) _ _ _ _ _ _ ds vs hI hlen h0 hH.lo_lt (by have := hH.lt_hi; omega) (by have := hH.lt_hi; omega) hH.l0 hH.l1 (bits_mono hH.l0 hH.le hxb)) ?kB ?kF ?kX ?kN ?kT ?kc ?kf ?kk ?kd ?ku ?_; walk_at "M_SIDE"; k_whole); rintro r9 n9 h9 tk9 F9 N9 ⟨rfl, ds9, vs9, rfl, hI9, hlen9, hD9⟩; (try dsimp only))
      k_steps
      · exact hret _ _ _ _ (by assumption) (by assumption) ⟨rfl, _, _, rfl, by assumption, by rw [List.length_set]; exact hlen, DigOk.base h0 (by assumption) (by omega) hx0 hx1⟩
      · exact hret _ _ _ _ (by assumption) (by assumption) ⟨rfl, _, _, rfl, hI8, hlen8, hD9.join hD8 h0 (Int.le_of_lt hH.lo_lt) (Int.le_of_lt hH.lt_hi) hH.sum⟩
    · intro hspec
      k_with "call ref" => (k_dflt (refine' Con.use (hspec cnt a 0 cnt _ _ _ (List.replicate cnt 0) _ ?kI List.length_replicate (Int.le_refl _) (by omega) (Int.le_refl _) (by omega) ha.1 ?kp ha.2) ?kB ?kF ?kX ?kN ?kT ?kc ?kf ?kk ?kd ?ku ?_; (case kp => (have h9 := cnt_ok ha.1 hn.1 hcnt; simpa using h9)); walk_at "M_SIDE"; (case kI => exact ints_rep _ _ _); k_whole); rintro r9 n9 h9 tk9 F9 N9 ⟨rfl, ds9, vs9, rfl, hI9, hlen9, hD9⟩; (try dsimp only))
      k_steps
      rename News _ _ _ ((_, _) :: (_, _) :: (_, lstO _ 0) :: _) => N5
      exact hret _ _ _ _ (by assumption) (newsSub N5 (List.forall_mem_cons.mpr ⟨by k_mem, List.forall_mem_cons.mpr ⟨by k_mem, List.forall_mem_cons.mpr ⟨by k_mem, fun q hq => by repeat (first | exact hq | apply List.Mem.tail)⟩⟩⟩))
        ⟨_, _, _, _, _, _, _, rfl, rfl, d1, d2, fun q hq => Nat.lt_trans (allLt_mem l1b q hq) (by omega), ltN (by omega), neN (by omega), l4, l6, l5, hI9, hlen9, fun i hi => hD9.inn i (by omega) (by omega), by simpa using hD9.val⟩
  · have hc00 : cnt = 0 := by
      rename a = 0 => ha0
      subst ha0
      have : ((Builtin.Int.intBits 0 : Nat) : Int) = 0 := rfl
      rw [this, Int.fdiv_eq_ediv_of_nonneg _ (by omega)] at hcnt
      have h9 : (0 + n - 1) / n = 0 := Int.ediv_eq_zero_of_lt (by omega) (by omega)
      omega
    subst hc00
    rename News _ _ _ ((_, _) :: (_, _) :: (_, lstO _ 0) :: _) => N5
    exact hret _ _ _ _ (by assumption) (newsSub N5 (List.forall_mem_cons.mpr ⟨by k_mem, List.forall_mem_cons.mpr ⟨by k_mem, List.forall_mem_cons.mpr ⟨by k_mem, fun q hq => by repeat (first | exact hq | apply List.Mem.tail)⟩⟩⟩))
        ⟨_, _, _, _, _, _, _, rfl, rfl, d1, d2, fun q hq => Nat.lt_trans (allLt_mem l1b q hq) (by omega), ltN (by omega), neN (by omega), l4, l6, l5, ints_rep _ _ _, List.length_replicate, fun i hi => absurd hi (Nat.not_lt_zero _), by simp only [valD]; omega⟩
end Mine

namespace Mine
local macro_rules | `(tactic| walk_at "M_SPARE0") => `(tactic| skip)
local macro_rules | `(tactic| walk_at "M_SPARE1") => `(tactic| skip)
local macro_rules | `(tactic| walk_at "M_SPARE2") => `(tactic| skip)
local macro_rules | `(tactic| walk_at "M_SPARE3") => `(tactic| skip)
local macro_rules | `(tactic| walk_at "M_SPARE4") => `(tactic| skip)
local macro_rules | `(tactic| walk_at "M_SPARE5") => `(tactic| skip)
local macro_rules | `(tactic| walk_at "M_SPARE6") => `(tactic| skip)
local macro_rules | `(tactic| walk_at "M_SPARE7") => `(tactic| skip)
local macro_rules | `(tactic| walk_at "M_SPARE8") => `(tactic| skip)
local macro_rules | `(tactic| walk_at "M_SPARE9") => `(tactic| skip)
local macro_rules | `(tactic| walk_at "M_SPARE10") => `(tactic| skip)
local macro_rules | `(tactic| walk_at "M_SPARE11") => `(tactic| skip)
local macro_rules | `(tactic| walk_at "M_SPARE12") => `(tactic| skip)
local macro_rules | `(tactic| walk_at "M_SPARE13") => `(tactic| skip)
local macro_rules | `(tactic| walk_at "M_SPARE14") => `(tactic| skip)
local macro_rules | `(tactic| walk_at "M_SPARE15") => `(tactic| skip)
local macro_rules | `(tactic| walk_at "M_SPARE16") => `(tactic| skip)
local macro_rules | `(tactic| walk_at "M_SPARE17") => `(tactic| skip)
local macro_rules | `(tactic| walk_at "M_SPARE18") => `(tactic| skip)
local macro_rules | `(tactic| walk_at "M_SPARE19") => `(tactic| skip)
local macro_rules | `(tactic| walk_at "M_SPARE20") => `(tactic| skip)
local macro_rules | `(tactic| walk_at "M_SPARE21") => `(tactic| skip)
local macro_rules | `(tactic| walk_at "M_SPARE22") => `(tactic| skip)
local macro_rules | `(tactic| walk_at "M_SPARE23") => `(tactic| skip)
local macro_rules | `(tactic| walk_at "M_SPARE24") => `(tactic| skip)
example : True := by
  k_with_none
  trivial
local macro_rules | `(tactic| walk_at "M_ENTER") => `(tactic| (refine' code_def ?k1 ?k2 ?k3 ?k4 ?k5 ?kA ?kF ?kK ?k6 ?k7 ?k8 ?k9 ?kB ?_ ?c2 ?c3 ?c4 ?c5; (case kA => exact rfl); (case kF => assumption); (case kK => assumption); (case k1 => k_asm); (case k2 => k_asm); (case k3 => k_asm); (case k4 => k_asm); (case k5 => k_asm); (case k6 => k_is); (case k7 => k_is); (case k8 => ktr_room); (case k9 => first | exact BindsTo.of_eq rfl | exact binds_K (by k_in) rfl (by k_is) rfl rfl rfl | (refine' kp_binds ?kx ?ke; (case kx => k_in); (case ke => exact fun _ => rfl))); (case c5 => decide); (case kB => exact locs rfl); (case c2 => exact rfl); (case c3 => exact rfl); (case c4 => exact rfl); k_whole; intro g' L' h' FG' F' N' B' X' T'; (try dsimp only); (try k_lift B'); (try k_fold)))
local macro_rules | `(tactic| walk_at "M_ENTERC") => `(tactic| (refine' code_defC ?k1 ?k2 ?k3 ?k4 ?k5 ?kA ?kF ?kK ?k6 ?k7 ?k8 ?k9 ?kB ?kD ?_ ?c2 ?c3 ?c4; (case kA => exact rfl); (case kF => assumption); (case kK => assumption); (case k1 => k_asm); (case k2 => k_asm); (case k3 => k_asm); (case k4 => k_asm); (case k5 => k_asm); (case k6 => k_is); (case k7 => k_is); (case k8 => ktr_room); (case k9 => first | exact BindsTo.of_eq rfl | exact binds_K (by k_in) rfl (by k_is) rfl rfl rfl | (refine' kp_binds ?kx ?ke; (case kx => k_in); (case ke => exact fun _ => rfl))); (case kB => exact rfl); (case kD => decide +kernel); (case c2 => exact rfl); (case c3 => exact rfl); (case c4 => exact rfl); k_whole; intro g' L' h' tk' cells' FG' F' N' Y' B' X' T' l1; (try k_lt l1); k_cells Y'; (try simp only [List.cons_append, List.nil_append] at N'); (try dsimp only); (try k_lift B'); (try k_fold)))
local macro_rules | `(tactic| walk_at "M_ENTERN") => `(tactic| (refine' code_nest ?k1 ?k2 ?k3 ?k4 ?k5 ?kA ?kF ?kK ?k6 ?k7 ?k8 ?k9 ?kB ?_ ?c2 ?c3 ?c4 ?c5; (case kA => exact rfl); (case kF => assumption); (case kK => assumption); (case k1 => k_asm); (case k2 => k_asm); (case k3 => k_asm); (case k4 => k_asm); (case k5 => k_asm); (case k6 => k_mem); (case k7 => exact codeRec_news (by k_asm) (by k_mem) (by assumption) (by assumption)); (case k8 => ktr_room); (case k9 => exact BindsTo.of_eq rfl); (case c5 => decide); (case kB => exact locs rfl); (case c2 => exact rfl); (case c3 => exact rfl); (case c4 => exact rfl); k_whole; intro g' L' h' FG' F' N' B' X' T'; (try dsimp only); (try k_lift B'); (try k_fold)))
local macro_rules | `(tactic| k_all) => `(tactic| first | assumption | exact allLt_ne (by assumption) (by omega))
local macro_rules | `(tactic| walk_at "M_SIDE") => `(tactic| ((case kB => k_asm); (case kF => k_asm); (case kX => k_asm); (case kN => k_asm); (case kT => k_asm); (case kc => assumption); (case kf => first | rfl | assumption); (case kk => first | rfl | assumption); (case kd => ktr_room); (case ku => ktr_units)))
variable {w : World} {p : Program} {loose : List Str} {mean : ExcName → Option Value} {mg mb : Str → Option Value}
theorem intEq {x y : Int} {t : Tok} (h : x = y) : Value.int x t = Value.int y t := by rw [h]
theorem valD_bound {f : Nat → Int} {B : Int} (hB : 0 < B) : ∀ (k lo : Nat), (∀ i, lo ≤ i → i < lo + k → 0 ≤ f i ∧ f i < B) → 0 ≤ valD f B lo k ∧ valD f B lo k < B ^ k
  | 0, _, _ => by simp [valD]
  | k + 1, lo, h => by
    obtain ⟨h1, h2⟩ := h lo (Nat.le_refl _) (by omega)
    obtain ⟨h3, h4⟩ := valD_bound hB k (lo + 1) fun i a b => h i (by omega) (by omega)
    rw [valD, Int.pow_succ, Int.mul_comm _ B]
    have h5 := Int.mul_nonneg (Int.le_of_lt hB) h3
    have h6 : B * (valD f B (lo + 1) k + 1) ≤ B * B ^ k := Int.mul_le_mul_of_nonneg_left (by omega) (Int.le_of_lt hB)
    rw [Int.mul_add] at h6
    omega
theorem bits_lt {x : Int} {k : Nat} (h0 : 0 ≤ x) (h : x < 2 ^ k) : Builtin.Int.intBits x ≤ k := by
  rw [intBits_le_iff]
  have h3 : ((2 ^ k : Nat) : Int) = (2 : Int) ^ k := by push_cast; rfl
  rw [← h3] at h
  omega
theorem bits_valD {f : Nat → Int} {n : Int} {lo k : Nat} (hn : 0 < n ∧ n < 20) (h : ∀ i, lo ≤ i → i < lo + k → 0 ≤ f i ∧ f i < 2 ^ n.toNat) (hk : k ≤ 100) : Builtin.Int.intBits (valD f (2 ^ n.toNat) lo k) ≤ 2000 := by
  obtain ⟨h1, h2⟩ := valD_bound (Int.pow_pos (by decide)) k lo h
  rw [← Int.pow_mul] at h2
  have h3 := bits_lt h1 h2
  have h4 : n.toNat * k ≤ 20 * 100 := Nat.mul_le_mul (by omega) hk
  omega
theorem valD_halves {f : Nat → Int} {n lo hi : Int} (h0 : 0 ≤ lo) (h1 : lo < hi) (hne : lo + 1 ≠ hi) (hn : 0 < n) :
    lo < (lo + hi).fdiv (2 ^ Int.toNat 1) ∧ (lo + hi).fdiv (2 ^ Int.toNat 1) < hi ∧
    valD f (2 ^ n.toNat) ((lo + hi).fdiv (2 ^ Int.toNat 1)).toNat (hi - (lo + hi).fdiv (2 ^ Int.toNat 1)).toNat * 2 ^ (((lo + hi).fdiv (2 ^ Int.toNat 1) - lo) * n).toNat + valD f (2 ^ n.toNat) lo.toNat ((lo + hi).fdiv (2 ^ Int.toNat 1) - lo).toNat = valD f (2 ^ n.toNat) lo.toNat (hi - lo).toNat := by
  rw [half_is]
  generalize hM : (lo + hi) / 2 = M
  have a1 : lo < M := by omega
  have a2 : M < hi := by omega
  refine ⟨a1, a2, ?_⟩
  rw [pow_shift (by omega) (by omega : 0 ≤ M - lo), show (hi - lo).toNat = (M - lo).toNat + (hi - M).toNat from by omega, valD_add, show lo.toNat + (M - lo).toNat = M.toNat from by omega, Int.mul_comm]
  omega
def InnerSpec2 (w : World) (p : Program) (loose : List Str) (mean : ExcName → Option Value) (mg mb : Str → Option Value) (f : Addr) (led : Led) (ds : List Int) (nn : Int) (c : Nat) (d : Nat) : Prop :=
  ∀ (lo hi : Int) (t1 t2 : Tok), 0 ≤ lo → lo < hi → hi ≤ c → (hi - lo).toNat ≤ d + 1 →
    Con w p loose mean mg mb (.ref f) [.int lo t1, .int hi t2] [] (d + 1) (20 * (d + 1)) led (fun r n' => (∃ t, r = .int (valD (fun i => ds.getD i 0) (2 ^ nn.toNat) lo.toNat (hi - lo).toNat) t) ∧ n' = led)
theorem inner_gen2 {h₀ h : Heap} {L : Addr} {f : Addr} {fo : Obj} {rest : Led} {ds : List Int} {nn : Int} {c : Nat} {G : Prop} (_N : News h₀ L h ((f, fo) :: rest))
    (step : ∀ d, (∀ e, e < d → InnerSpec2 w p loose mean mg mb f ((f, fo) :: rest) ds nn c e) → InnerSpec2 w p loose mean mg mb f ((f, fo) :: rest) ds nn c d)
    (go : (∀ d, InnerSpec2 w p loose mean mg mb f ((f, fo) :: rest) ds nn c d) → G) : G :=
  go (fun d => Nat.strongRecOn d step)
local macro_rules | `(tactic| walk_at "exec FunctionDef") => `(tactic| k_extra "exec FunctionDef")
local macro_rules | `(tactic| walk_at "binaryOp LShift int int") => `(tactic| k_extra "M_LSH")
local macro_rules | `(tactic| walk_at "call ref") => `(tactic| k_extra "call ref")
set_option maxHeartbeats 0 in
theorem d2i_c {news tl : Led} {D : Addr} {k : Nat} {vs : List Value} {ds : List Int} {ps : Array Value} {n : Int} {cnt : Nat} {t2 : Tok} (hI : IntsAre vs ds) (hlen : ds.length = cnt) (hds : ∀ i : Nat, i < cnt → 0 ≤ ds.getD i 0 ∧ ds.getD i 0 < 2 ^ n.toNat) (hn : 0 < n ∧ n < 20) (hc0 : cnt < 100) (hoff : ∀ p ∈ (D, lstO vs k) :: news, p.1 ≠ 51)
    (htl : ∀ q ∈ tl, q ∈ news) (htab : TabIs 88 4 (Str.ofString "_digits2int.<locals>.inner") ps tl) :
    Con w p loose mean mg mb (.ref 56) [.ref D, .int n t2] [] 105 4000 ((51, tabObj ps) :: (D, lstO vs k) :: news) (fun r n' => ∃ c' oc vc tc t, r = .int (valD (fun i => ds.getD i 0) (2 ^ n.toNat) 0 cnt) t ∧ n' = (c', oc) :: (51, tabObj #[rawInt 88, rawInt 4, .ref c']) :: (D, lstO vs k) :: news ∧ oc.data = .fields vc ∧ vc[1]? = some (.str (Str.ofString "_digits2int.<locals>.inner") tc) ∧
      c' ≠ 51 ∧ (ps = #[] ∨ ps = #[rawInt 88, rawInt 4, .ref c']) ∧ ((c', oc) ∈ tl ∨ (D < c' ∧ ∀ p ∈ news, p.1 < c'))) := by
  unfold Con; k_fill; intros; rename_i hret
  rename CodesAt _ => hcodes
  have hC := hcodes.2.1
  k_with_none
  k_dflt (walk_at "M_ENTERC")
  rename _ ∧ _ ∧ AllLt _ _ => l1
  have l1b : AllLt _ ((D, lstO vs k) :: news) := l1.2
  have l1c := l1.2.2
  k_with "exec FunctionDef" => (k_dflt (refine' nestDef_K ?d0 ?k0 ?a0 ?_; (case d0 => exact rfl); (case k0 => exact rfl); (case a0 => exact rfl)); k_dflt (refine' nest_any ?F ?N ?T ?C ?cd ?U ?mem (allLt_of fun q hq => allLt_mem l1c q (htl q hq)) (fun q hq => hoff q (.tail _ (htl q hq))) ?sub htab ?cl ?_; (case F => k_asm); (case N => k_asm); (case T => k_asm); (case cd => exact rfl); (case C => kn_code); (case U => k_updF); (case mem => k_mem); (case sub => (intro q9 hq9; replace hq9 := htl q9 hq9; repeat (first | exact hq9 | apply List.Mem.tail))); (case cl => exact rfl); k_whole); intro f9 c9 oc9 vc9 tc9 ct9 dc9 h9 tk9 F9 N9 d1 d2 l1 l2 l3 l4 l5 l6; (replace l5 := l5.imp_right fun h => (⟨h (D, lstO vs k) (by k_mem), fun q hq => h q (by repeat (first | exact hq | apply List.Mem.tail))⟩ : D < c9 ∧ ∀ q ∈ news, q.1 < c9)); (try dsimp only at N9); (try k_lt l1); (try simp only [AllOff] at l3))
  k_with "call builtin:len" => (k_dflt (refine' len_l ?kN ?km (hI.length.trans hlen) (by omega) ?_; (case kN => k_asm); (case km => k_mem)); intro t9 tk9)
  k_steps
  · have hcpos : 0 < cnt := by
      rcases Nat.eq_zero_or_pos cnt with h | h
      · exfalso; subst h; simp_all
      · exact h
    rename News _ _ _ ((_, fnMade _ _ _ _ _ _ _ _ _ _) :: (_, _) :: _) => N5
    refine inner_gen2 (w := w) (p := p) (loose := loose) (mean := mean) (mg := mg) (mb := mb) (ds := ds) (nn := n) (c := cnt) N5 ?_ ?_
    · clear hret
      intro d IH lo hi t1 t2 h0 h1 h2 hd
      unfold Con; intros; rename_i hret
      rename CodesAt _ => hcodes
      k_dflt (walk_at "M_ENTERN")
      have hsh := shift_ok h0 h1 h2 hc0 hn
      k_with "subscriptTail Name Name ref int" => (with_unfolding_all refine' item_l ?k1 ?k2 hI h0 (by omega) (by omega) ?_; (case k1 => k_asm); (case k2 => k_mem); intro t')
      k_with "M_LSH" => (refine lshift_int hsh.1 ?_ ?_; (have hb9 := bits_valD (f := fun i => ds.getD i 0) (lo := ((lo + hi).fdiv (2 ^ Int.toNat 1)).toNat) (k := (hi - (lo + hi).fdiv (2 ^ Int.toNat 1)).toNat) hn (fun i a b => hds i (by have := hH.1; omega)) (by have := hH.1; omega); have hb8 := hsh.2; omega))
      k_with "call ref" => first
        | (k_dflt (refine' Con.use (IH (d - 1) (by have := hH.1; have := hH.2.1; omega) _ _ _ _ h0 hH.1 (by have := hH.2.1; omega) (by have := hH.2.1; omega)) ?kB ?kF ?kX ?kN ?kT ?kc ?kf ?kk ?kd ?ku ?_; walk_at "M_SIDE"; k_whole); rintro r9 n9 h9 tk9 F9 N9 ⟨⟨t9, rfl⟩, rfl⟩; (try dsimp only))
        | (have hH := valD_halves (f := fun i => ds.getD i 0) h0 h1 (by assumption) hn.1; k_dflt (refine' Con.use (IH (d - 1) (by have := hH.1; have := hH.2.1; omega) _ _ _ _ (by have := hH.1; omega) hH.2.1 h2 (by have := hH.1; omega)) ?kB ?kF ?kX ?kN ?kT ?kc ?kf ?kk ?kd ?ku ?_; walk_at "M_SIDE"; k_whole); rintro r9 n9 h9 tk9 F9 N9 ⟨⟨t9, rfl⟩, rfl⟩; (try dsimp only))
      k_steps
      · exact hret _ _ _ _ (by assumption) (by assumption) ⟨⟨_, intEq (by rw [show (hi - lo).toNat = 1 from by omega]; simp only [valD, Int.mul_zero, Int.add_zero])⟩, rfl⟩
      · exact hret _ _ _ _ (by assumption) (by assumption) ⟨⟨_, intEq hH.2.2⟩, rfl⟩
    · intro hspec
      k_with "call ref" => (k_dflt (refine' Con.use (hspec cnt 0 cnt _ _ (Int.le_refl _) (by omega) (Int.le_refl _) (by omega)) ?kB ?kF ?kX ?kN ?kT ?kc ?kf ?kk ?kd ?ku ?_; walk_at "M_SIDE"; k_whole); rintro r9 n9 h9 tk9 F9 N9 ⟨⟨t9, rfl⟩, rfl⟩; (try dsimp only))
      k_steps
      rename News _ _ _ ((_, _) :: (_, _) :: _) => N5
      refine' hret _ _ _ _ (by assumption) (newsSub N5 (List.forall_mem_cons.mpr ⟨by k_mem, List.forall_mem_cons.mpr ⟨by k_mem, fun q hq => by repeat (first | exact hq | apply List.Mem.tail)⟩⟩))
        ⟨_, _, _, _, _, intEq (by rw [show ((cnt : Int) - 0).toNat = cnt from by omega]; rfl), rfl, d1, d2, l4, l6, l5⟩
  · have hc00 : cnt = 0 := by
      rcases Nat.eq_zero_or_pos cnt with h | h
      · exact h
      · exfalso; simp_all
    subst hc00
    rename News _ _ _ ((_, _) :: (_, _) :: _) => N5
    exact hret _ _ _ _ (by assumption) (newsSub N5 (List.forall_mem_cons.mpr ⟨by k_mem, List.forall_mem_cons.mpr ⟨by k_mem, fun q hq => by repeat (first | exact hq | apply List.Mem.tail)⟩⟩))
        ⟨_, _, _, _, _, rfl, rfl, d1, d2, l4, l6, l5⟩
end Mine

namespace Mine
example : True := by
  k_with_none
  trivial
local macro_rules | `(tactic| walk_at "M_ENTER") => `(tactic| (refine' code_def ?k1 ?k2 ?k3 ?k4 ?k5 ?kA ?kF ?kK ?k6 ?k7 ?k8 ?k9 ?kB ?_ ?c2 ?c3 ?c4 ?c5; (case kA => exact rfl); (case kF => assumption); (case kK => assumption); (case k1 => k_asm); (case k2 => k_asm); (case k3 => k_asm); (case k4 => k_asm); (case k5 => k_asm); (case k6 => k_is); (case k7 => k_is); (case k8 => ktr_room); (case k9 => first | exact BindsTo.of_eq rfl | exact binds_K (by k_in) rfl (by k_is) rfl rfl rfl | (refine' kp_binds ?kx ?ke; (case kx => k_in); (case ke => exact fun _ => rfl))); (case c5 => decide); (case kB => exact locs rfl); (case c2 => exact rfl); (case c3 => exact rfl); (case c4 => exact rfl); k_whole; intro g' L' h' FG' F' N' B' X' T'; (try dsimp only); (try k_lift B'); (try k_fold)))
local macro_rules | `(tactic| walk_at "M_ENTERC") => `(tactic| (refine' code_defC ?k1 ?k2 ?k3 ?k4 ?k5 ?kA ?kF ?kK ?k6 ?k7 ?k8 ?k9 ?kB ?kD ?_ ?c2 ?c3 ?c4; (case kA => exact rfl); (case kF => assumption); (case kK => assumption); (case k1 => k_asm); (case k2 => k_asm); (case k3 => k_asm); (case k4 => k_asm); (case k5 => k_asm); (case k6 => k_is); (case k7 => k_is); (case k8 => ktr_room); (case k9 => first | exact BindsTo.of_eq rfl | exact binds_K (by k_in) rfl (by k_is) rfl rfl rfl | (refine' kp_binds ?kx ?ke; (case kx => k_in); (case ke => exact fun _ => rfl))); (case kB => exact rfl); (case kD => decide +kernel); (case c2 => exact rfl); (case c3 => exact rfl); (case c4 => exact rfl); k_whole; intro g' L' h' tk' cells' FG' F' N' Y' B' X' T' l1; (try k_lt l1); k_cells Y'; (try simp only [List.cons_append, List.nil_append] at N'); (try dsimp only); (try k_lift B'); (try k_fold)))
local macro_rules | `(tactic| walk_at "M_ENTERN") => `(tactic| (refine' code_nest ?k1 ?k2 ?k3 ?k4 ?k5 ?kA ?kF ?kK ?k6 ?k7 ?k8 ?k9 ?kB ?_ ?c2 ?c3 ?c4 ?c5; (case kA => exact rfl); (case kF => assumption); (case kK => assumption); (case k1 => k_asm); (case k2 => k_asm); (case k3 => k_asm); (case k4 => k_asm); (case k5 => k_asm); (case k6 => k_mem); (case k7 => exact codeRec_news (by k_asm) (by k_mem) (by assumption) (by assumption)); (case k8 => ktr_room); (case k9 => exact BindsTo.of_eq rfl); (case c5 => decide); (case kB => exact locs rfl); (case c2 => exact rfl); (case c3 => exact rfl); (case c4 => exact rfl); k_whole; intro g' L' h' FG' F' N' B' X' T'; (try dsimp only); (try k_lift B'); (try k_fold)))
local macro_rules | `(tactic| k_all) => `(tactic| first | assumption | exact allLt_ne (by assumption) (by omega))
local macro_rules | `(tactic| walk_at "M_SIDE") => `(tactic| ((case kB => k_asm); (case kF => k_asm); (case kX => k_asm); (case kN => k_asm); (case kT => k_asm); (case kc => assumption); (case kf => first | rfl | assumption); (case kk => first | rfl | assumption); (case kd => ktr_room); (case ku => ktr_units)))
variable {w : World} {p : Program} {loose : List Str} {mean : ExcName → Option Value} {mg mb : Str → Option Value}
section
variable {prog : Program} {A : Around} {E : Value → Shared → Prop} {Q : Flow → Shared → Prop} {s : Shared} {env : Env} {h₀ : Heap} {L : Addr}
/-- a for, by what holds of it, over any iterator whose next is told in the turn -/
theorem for_state {σ : Type} {x : Str} {px : Pos} {body : List Stmt} {it : Value} {m₀ : Str → Option Value} (Led : σ → List (Addr × Obj)) (ps : σ → List (Str × Value)) (stored : List Str) (P : σ → Prop) (μ : σ → Nat) (c₀ : σ)
    (F : Fr h₀ L s.heap m₀) (N : News h₀ L s.heap (Led c₀)) (hk : ∀ p ∈ ps c₀, m₀ p.1 = some p.2) (hp : P c₀)
    (turn : ∀ (c : σ) (u : Str → Option Value) h tk, P c → Fr h₀ L h (kstB (fun z => if stored.contains z then u z else m₀ z) (ps c)) → News h₀ L h (Led c) →
      wpAny (model prog w) A (pyNext it) (fun r s₁ => match r with
        | none => Q .next s₁
        | some v => wpAny (model prog w) A (assign (.Name x px) env v) (fun _ s₂ => wpAny (model prog w) A (execs body env) (KswPost h₀ L s Led ps (fun _ => True) stored m₀ P μ Q c) E s₂) E s₁) E { s with heap := h, toks := tk })
    (hE : PassesOwn (model prog w) A env E := by passes_own) :
    codeAny (model prog w) A (.forLoop (.Name x px) it body [] env) (fun r s' => match r with | .ok f => Q f s' | .error e => cameBackBy (model prog w) A env E e s') s := by
  refine codeAny_forLoop (fun n s' => ∃ (c : σ) (h₁ : Heap) (tk₁ : Nat) (m₁ : Str → Option Value), s' = { s with heap := h₁, toks := tk₁ } ∧ μ c = n ∧ P c ∧ (∀ p ∈ ps c, m₁ p.1 = some p.2) ∧ (∀ z, (∀ p ∈ ps c, z ≠ p.1) → stored.contains z = false → m₁ z = m₀ z) ∧ Fr h₀ L h₁ m₁ ∧ News h₀ L h₁ (Led c)) ?_ (μ c₀) ⟨c₀, s.heap, s.toks, m₀, rfl, rfl, hp, hk, fun _ _ _ => rfl, F, N⟩
  rintro n s' ⟨c, h₁, tk₁, m₁, rfl, hn, hp', h1, h2, F₁, N₁⟩
  subst hn
  refine wpAny_mono (turn c m₁ h₁ tk₁ hp' (ksw_fr h1 h2 F₁) N₁) (fun r s₁ hr => ?_) hE
  cases r with
  | none => exact wpAny_execs_nil hr
  | some v =>
    refine wpAny_mono hr (fun _ s₂ hs2 => wpAny_mono hs2 (fun f s₃ q => ?_) hE) hE
    cases f with
    | ret v => exact q
    | brk => exact q
    | next =>
      obtain ⟨c', h', tk', m', news', rfl, F', N', hn, _, hk9, hr9, hp9, hm9⟩ := q
      exact ⟨μ c', hm9, c', h', tk', m', rfl, rfl, hp9, hk9, hr9, F', fun p hp => N' p (hn p hp)⟩
    | cont =>
      obtain ⟨c', h', tk', m', news', rfl, F', N', hn, _, hk9, hr9, hp9, hm9⟩ := q
      exact ⟨μ c', hm9, c', h', tk', m', rfl, rfl, hp9, hk9, hr9, F', fun p hp => N' p (hn p hp)⟩
/-- what is wanted of the iterator of a for -/
def ForAt (prog : Program) (w : World) (A : Around) (env : Env) (x : Str) (px : Pos) (body : List Stmt) (Q : Flow → Shared → Prop) (E : Value → Shared → Prop) (it : Value) (s₂ : Shared) : Prop :=
  codeAny (model prog w) A (.forLoop (.Name x px) it body [] env) (fun r s' => match r with | .ok f => Q f s' | .error e => cameBackBy (model prog w) A env E e s') s₂
theorem For_at {x : Str} {px pos : Pos} {iter : Expr} {body : List Stmt}
    (h : wpAny (model prog w) A (eval iter env) (fun xv s₁ => wpAny (model prog w) A (pyIter xv) (fun it s₂ => ForAt prog w A env x px body Q E it s₂) E s₁) E s)
    (hs : ∀ x, foldedSetIterable iter env x = pure x := by intro _; rfl) :
    wpAny (model prog w) A (exec (.For (.Name x px) iter body [] pos) env) Q E s := wpAny_For h hs
theorem off_one {h : Heap} {m : Str → Option Value} {I : Addr} {o : Obj} {rest : Led} (F : Fr h₀ L h m) (N : News h₀ L h ((I, o) :: rest)) {h' : Heap} (hoff : ∀ p ∈ rest, p.1 ≠ I) (hs : ∀ b o, b ≠ I → h.get? b = some o → h'.get? b = some o) : Fr h₀ L h' m ∧ News h₀ L h' rest := by
  obtain ⟨n1, n2, n3⟩ := N _ (.head _)
  refine ⟨⟨F.ns.at' fun o e => hs _ o (Ne.symm n2) e, fun b o e => hs b o (fun q => ?_) (F.keep b o e), F.above⟩, fun p hp => ⟨hs _ _ (hoff p hp) (N p (.tail _ hp)).1, (N p (.tail _ hp)).2⟩⟩
  subst q; rw [e] at n3; cases n3
def RevOf (o : Obj) (l : Addr) (z : Int) : Prop := o.cls = .type "list_reverseiterator" ∧ o.data = .fields #[.ref l, rawInt z]
theorem RevOf.start (l : Addr) (z : Int) : RevOf (revObj l z) l z := ⟨rfl, rfl⟩
theorem next_rev {I l : Addr} {o : Obj} {z : Int} {rest : Led} {vs : List Value} {ns : List Int} {k : Nat} {m : Str → Option Value} {Q : Option Value → Shared → Prop} (hh : A.handled = none) (F : Fr h₀ L s.heap m) (N : News h₀ L s.heap ((I, o) :: rest)) (hR : RevOf o l z) (hl : (l, lstO vs k) ∈ rest) (hI : IntsAre vs ns) (hoff : ∀ p ∈ rest, p.1 ≠ I)
    (hz : -1 ≤ z ∧ z < ns.length)
    (h0 : z = -1 → ∀ h', Fr h₀ L h' m → News h₀ L h' rest → Q none { s with heap := h' })
    (h1 : 0 ≤ z → ∀ t o' h', RevOf o' l (z - 1) → Fr h₀ L h' m → News h₀ L h' ((I, o') :: rest) → Q (some (.int (ns.getD z.toNat 0) t)) { s with heap := h' }) :
    wpAny (model prog w) A (pyNext (.ref I)) Q E s := by
  have hit : s.heap.IsRevIter I l z := ⟨_, (N _ (.head _)).1, hR.1, hR.2⟩
  have hls := isList_of N (.tail _ hl)
  obtain ⟨_, n2, n3⟩ := N _ (.head _)
  by_cases h : z = -1
  · subst h
    exact wpAny_pyNext_rev_end hh hit fun h' he' => by
      obtain ⟨F', N'⟩ := off_one F N hoff he'
      exact h0 rfl h' F' N'
  · have hk : z.toNat < ns.length := by omega
    obtain ⟨t, ht⟩ := hI.get z.toNat (ns.getD z.toNat 0) (by simp [hk])
    have e : z = (z.toNat : Int) := by omega
    rw [e] at hit
    refine wpAny_pyNext_rev_item hit hls (x := .int (ns.getD z.toNat 0) t) (by simpa using ht) fun h' hit' hs' => ?_
    rw [← e] at hit'
    obtain ⟨F', N'⟩ := off_one F N hoff (fun b o hb eo => (hs'.2 b hb).trans eo)
    obtain ⟨o', ho, hc, hd⟩ := hit'
    refine h1 (by omega) t o' h' ⟨hc, hd⟩ F' fun p hp => ?_
    rcases List.mem_cons.mp hp with rfl | hp
    · exact ⟨ho, n2, n3⟩
    · exact N' p hp
def zOf (o : Obj) : Nat := match o.data with
  | .fields (vs : Array Value) => (match vs.toList with | _ :: Value.int z _ :: _ => (z + 1).toNat | _ => 0)
  | _ => 0
theorem zOf_of {o : Obj} {l : Addr} {z : Int} (h : RevOf o l z) : zOf o = (z + 1).toNat := by
  unfold zOf
  rw [h.2]
  rfl
theorem rev_snoc {ns : List Int} {k : Nat} (h : k < ns.length) : ns.reverse.take (ns.length - 1 - k) ++ [ns.getD k 0] = ns.reverse.take (ns.length - k) := by
  have e : ns.length - k = (ns.length - 1 - k) + 1 := by omega
  rw [e, List.take_add_one]
  congr 1
  rw [List.getElem?_reverse (by omega)]
  rw [show ns.length - 1 - (ns.length - 1 - k) = k from by omega]
  simp [h]
/-- a for over reversed(list of ints) that turns one int and fills one list of ints -/
theorem rev_loop {x : Str} {px : Pos} {body : List Stmt} {m₀ : Str → Option Value} {I l q : Addr} {rest : Led} {vs : List Value} {ns : List Int} {k : Nat} {z0 : Int} {y : Str} {a0 : Int} {t0 : Tok}
    (J : List Int → Int → List Int → Prop) (stored : List Str) (hh : A.handled = none) (F : Fr h₀ L s.heap m₀) (N : News h₀ L s.heap ((I, revObj l z0) :: (q, lstO [] 0) :: rest)) (hl : (l, lstO vs k) ∈ rest) (hI : IntsAre vs ns) (hz0 : z0 = (ns.length : Int) - 1) (hoff : ∀ p ∈ rest, p.1 ≠ I) (hqI : q ≠ I)
    (hy : m₀ y = some (.int a0 t0)) (hJ : J [] a0 [])
    (turn : ∀ (oo o : Obj) (pre : List Int) (d r : Int) (td t : Tok) (qvs : List Value) (qs : List Int) (kn : Nat) (u : Str → Option Value) (h : Heap) (tk : Nat) (z : Int), RevOf o l z → zOf o < zOf oo → -1 ≤ z → z + 1 < ns.length → d = ns.getD (z + 1).toNat 0 → J pre r qs → IntsAre qvs qs → qs.length < ns.length →
      Fr h₀ L h (kstB (fun z => if stored.contains z then u z else m₀ z) [(y, .int r t)]) → News h₀ L h ((I, o) :: (q, lstO qvs kn) :: rest) →
      wpAny (model prog w) A (assign (.Name x px) env (.int d td)) (fun _ s₂ => wpAny (model prog w) A (execs body env) (KswPost h₀ L s (fun c : Obj × (Int × Tok) × List Value × Nat => (I, c.1) :: (q, lstO c.2.2.1 c.2.2.2) :: rest) (fun c => [(y, .int c.2.1.1 c.2.1.2)]) (fun _ => True) stored m₀ (fun c => RevOf c.1 l z ∧ ∃ qs', IntsAre c.2.2.1 qs' ∧ J (pre ++ [d]) c.2.1.1 qs' ∧ qs'.length = qs.length + 1) (fun c => zOf c.1) Q (oo, (r, t), qvs, kn)) E s₂) E { s with heap := h, toks := tk })
    (done : ∀ (pre : List Int) (r : Int) (t : Tok) (qvs : List Value) (qs : List Int) (kn : Nat) (u : Str → Option Value) (h : Heap) (tk : Nat), pre = ns.reverse → J pre r qs → IntsAre qvs qs → qs.length = ns.length →
      Fr h₀ L h (kstB (fun z => if stored.contains z then u z else m₀ z) [(y, .int r t)]) → News h₀ L h ((q, lstO qvs kn) :: rest) → Q .next { s with heap := h, toks := tk })
    (hE : PassesOwn (model prog w) A env E) :
    wpAny (model prog w) A (pyIter (.ref I)) (fun it s₂ => ForAt prog w A env x px body Q E it s₂) E s := by
  refine wpAny_pyIter_revIter (⟨_, (N _ (.head _)).1, rfl, rfl⟩ : s.heap.IsRevIter I l z0) ?_
  refine for_state (σ := Obj × (Int × Tok) × List Value × Nat) (fun c => (I, c.1) :: (q, lstO c.2.2.1 c.2.2.2) :: rest) (fun c => [(y, .int c.2.1.1 c.2.1.2)]) stored
    (fun c => ∃ (z : Int) (qs : List Int), RevOf c.1 l z ∧ -1 ≤ z ∧ z < ns.length ∧ IntsAre c.2.2.1 qs ∧ J (ns.reverse.take (ns.length - (z + 1).toNat)) c.2.1.1 qs ∧ qs.length = ns.length - (z + 1).toNat) (fun c => zOf c.1) (revObj l z0, (a0, t0), [], 0) F N ?_ ?_ ?_ hE
  · intro p hp; rw [List.mem_singleton.mp hp]; exact hy
  · refine ⟨z0, [], RevOf.start l z0, by omega, by omega, .nil, ?_, by simp; omega⟩
    rw [show ns.length - (z0 + 1).toNat = 0 from by omega]
    exact hJ
  · rintro ⟨oo, ⟨r, t⟩, qvs, kn⟩ u h tk ⟨z, qs, hR, hz1, hz2, hq, hJz, hql⟩ F' N'
    dsimp only at hR hq hJz hql F' N' ⊢
    have hoff' : ∀ p ∈ (q, lstO qvs kn) :: rest, p.1 ≠ I := fun p hp => by
      rcases List.mem_cons.mp hp with rfl | hp
      · exact hqI
      · exact hoff p hp
    refine next_rev hh F' N' hR (.tail _ hl) hI hoff' ⟨hz1, hz2⟩ (fun e h' F9 N9 => ?_) (fun e td o h' hR' F9 N9 => ?_)
    · subst e
      have e9 : ns.reverse.take (ns.length - (-1 + 1 : Int).toNat) = ns.reverse := List.take_of_length_le (by simp)
      rw [e9] at hJz
      exact done _ r t qvs qs kn u h' tk rfl hJz hq (by simpa using hql) F9 N9
    · have e1 : (z + 1).toNat = z.toNat + 1 := by omega
      have e2 := rev_snoc (ns := ns) (k := z.toNat) (by omega)
      have hlt : zOf o < zOf oo := by rw [zOf_of hR, zOf_of hR']; omega
      have T := turn oo o (ns.reverse.take (ns.length - (z + 1).toNat)) (ns.getD z.toNat 0) r td t qvs qs kn u h' tk (z - 1) hR' hlt (by omega) (by omega) (by rw [show z - 1 + 1 = z from by omega]) hJz hq (by omega) F9 N9
      refine wpAny_mono T (fun _ s₂ h2 => wpAny_mono h2 (fun f s₃ h3 => ?_) fun _ _ x => x) fun _ _ x => x
      have fin : KswEnd h₀ L s (fun c : Obj × (Int × Tok) × List Value × Nat => (I, c.1) :: (q, lstO c.2.2.1 c.2.2.2) :: rest) (fun c => [(y, .int c.2.1.1 c.2.1.2)]) (fun _ => True) stored m₀ (fun c => RevOf c.1 l (z - 1) ∧ ∃ qs', IntsAre c.2.2.1 qs' ∧ J (ns.reverse.take (ns.length - (z + 1).toNat) ++ [ns.getD z.toNat 0]) c.2.1.1 qs' ∧ qs'.length = qs.length + 1) (fun c => zOf c.1) (oo, (r, t), qvs, kn) s₃ →
          KswEnd h₀ L s (fun c : Obj × (Int × Tok) × List Value × Nat => (I, c.1) :: (q, lstO c.2.2.1 c.2.2.2) :: rest) (fun c => [(y, .int c.2.1.1 c.2.1.2)]) (fun _ => True) stored m₀ (fun c => ∃ (z : Int) (qs : List Int), RevOf c.1 l z ∧ -1 ≤ z ∧ z < ns.length ∧ IntsAre c.2.2.1 qs ∧ J (ns.reverse.take (ns.length - (z + 1).toNat)) c.2.1.1 qs ∧ qs.length = ns.length - (z + 1).toNat) (fun c => zOf c.1) (oo, (r, t), qvs, kn) s₃ := by
        rintro ⟨c', h9, tk9, m9, n9, e9, F8, N8, hn, hf, hk9, hr9, ⟨hR9, qs', hq', hJ', hl'⟩, hm9⟩
        refine ⟨c', h9, tk9, m9, n9, e9, F8, N8, hn, hf, hk9, hr9, ⟨z - 1, qs', hR9, by omega, by omega, hq', ?_, by omega⟩, hm9⟩
        rw [show (z - 1 + 1).toNat = z.toNat from by omega, ← e2, show ns.length - 1 - z.toNat = ns.length - (z + 1).toNat from by omega]
        exact hJ'
      cases f with
      | ret v => exact h3
      | brk => exact h3
      | next => exact fin h3
      | cont => exact fin h3
end
end Mine

namespace Mine
local macro_rules | `(tactic| walk_at "M_SPARE0") => `(tactic| skip)
local macro_rules | `(tactic| walk_at "M_SPARE1") => `(tactic| skip)
local macro_rules | `(tactic| walk_at "M_SPARE2") => `(tactic| skip)
local macro_rules | `(tactic| walk_at "M_SPARE3") => `(tactic| skip)
local macro_rules | `(tactic| walk_at "M_SPARE4") => `(tactic| skip)
local macro_rules | `(tactic| walk_at "M_SPARE5") => `(tactic| skip)
local macro_rules | `(tactic| walk_at "M_SPARE6") => `(tactic| skip)
local macro_rules | `(tactic| walk_at "M_SPARE7") => `(tactic| skip)
local macro_rules | `(tactic| walk_at "M_SPARE8") => `(tactic| skip)
local macro_rules | `(tactic| walk_at "M_SPARE9") => `(tactic| skip)
local macro_rules | `(tactic| walk_at "M_SPARE10") => `(tactic| skip)
local macro_rules | `(tactic| walk_at "M_SPARE11") => `(tactic| skip)
local macro_rules | `(tactic| walk_at "M_SPARE12") => `(tactic| skip)
local macro_rules | `(tactic| walk_at "M_SPARE13") => `(tactic| skip)
local macro_rules | `(tactic| walk_at "M_SPARE14") => `(tactic| skip)
local macro_rules | `(tactic| walk_at "M_SPARE15") => `(tactic| skip)
local macro_rules | `(tactic| walk_at "M_SPARE16") => `(tactic| skip)
local macro_rules | `(tactic| walk_at "M_SPARE17") => `(tactic| skip)
local macro_rules | `(tactic| walk_at "M_SPARE18") => `(tactic| skip)
local macro_rules | `(tactic| walk_at "M_SPARE19") => `(tactic| skip)
local macro_rules | `(tactic| walk_at "M_SPARE20") => `(tactic| skip)
local macro_rules | `(tactic| walk_at "M_SPARE21") => `(tactic| skip)
local macro_rules | `(tactic| walk_at "M_SPARE22") => `(tactic| skip)
local macro_rules | `(tactic| walk_at "M_SPARE23") => `(tactic| skip)
local macro_rules | `(tactic| walk_at "M_SPARE24") => `(tactic| skip)
example : True := by
  k_with_none
  trivial
local macro_rules | `(tactic| walk_at "M_ENTER") => `(tactic| (refine' code_def ?k1 ?k2 ?k3 ?k4 ?k5 ?kA ?kF ?kK ?k6 ?k7 ?k8 ?k9 ?kB ?_ ?c2 ?c3 ?c4 ?c5; (case kA => exact rfl); (case kF => assumption); (case kK => assumption); (case k1 => k_asm); (case k2 => k_asm); (case k3 => k_asm); (case k4 => k_asm); (case k5 => k_asm); (case k6 => k_is); (case k7 => k_is); (case k8 => ktr_room); (case k9 => first | exact BindsTo.of_eq rfl | exact binds_K (by k_in) rfl (by k_is) rfl rfl rfl | (refine' kp_binds ?kx ?ke; (case kx => k_in); (case ke => exact fun _ => rfl))); (case c5 => decide); (case kB => exact locs rfl); (case c2 => exact rfl); (case c3 => exact rfl); (case c4 => exact rfl); k_whole; intro g' L' h' FG' F' N' B' X' T'; (try dsimp only); (try k_lift B'); (try k_fold)))
local macro_rules | `(tactic| walk_at "M_ENTERC") => `(tactic| (refine' code_defC ?k1 ?k2 ?k3 ?k4 ?k5 ?kA ?kF ?kK ?k6 ?k7 ?k8 ?k9 ?kB ?kD ?_ ?c2 ?c3 ?c4; (case kA => exact rfl); (case kF => assumption); (case kK => assumption); (case k1 => k_asm); (case k2 => k_asm); (case k3 => k_asm); (case k4 => k_asm); (case k5 => k_asm); (case k6 => k_is); (case k7 => k_is); (case k8 => ktr_room); (case k9 => first | exact BindsTo.of_eq rfl | exact binds_K (by k_in) rfl (by k_is) rfl rfl rfl | (refine' kp_binds ?kx ?ke; (case kx => k_in); (case ke => exact fun _ => rfl))); (case kB => exact rfl); (case kD => decide +kernel); (case c2 => exact rfl); (case c3 => exact rfl); (case c4 => exact rfl); k_whole; intro g' L' h' tk' cells' FG' F' N' Y' B' X' T' l1; (try k_lt l1); k_cells Y'; (try simp only [List.cons_append, List.nil_append] at N'); (try dsimp only); (try k_lift B'); (try k_fold)))
local macro_rules | `(tactic| walk_at "M_ENTERN") => `(tactic| (refine' code_nest ?k1 ?k2 ?k3 ?k4 ?k5 ?kA ?kF ?kK ?k6 ?k7 ?k8 ?k9 ?kB ?_ ?c2 ?c3 ?c4 ?c5; (case kA => exact rfl); (case kF => assumption); (case kK => assumption); (case k1 => k_asm); (case k2 => k_asm); (case k3 => k_asm); (case k4 => k_asm); (case k5 => k_asm); (case k6 => k_mem); (case k7 => exact codeRec_news (by k_asm) (by k_mem) (by assumption) (by assumption)); (case k8 => ktr_room); (case k9 => exact BindsTo.of_eq rfl); (case c5 => decide); (case kB => exact locs rfl); (case c2 => exact rfl); (case c3 => exact rfl); (case c4 => exact rfl); k_whole; intro g' L' h' FG' F' N' B' X' T'; (try dsimp only); (try k_lift B'); (try k_fold)))
local macro_rules | `(tactic| k_all) => `(tactic| first | assumption | exact allLt_ne (by assumption) (by omega))
local macro_rules | `(tactic| walk_at "M_SIDE") => `(tactic| ((case kB => k_asm); (case kF => k_asm); (case kX => k_asm); (case kN => k_asm); (case kT => k_asm); (case kc => assumption); (case kf => first | rfl | assumption); (case kk => first | rfl | assumption); (case kd => ktr_room); (case ku => ktr_units)))
local macro_rules | `(tactic| walk_at "M_SIDE2") => `(tactic| ((case kB => k_asm); (case kF => k_asm); (case kX => k_asm); (case kT => k_asm); (case kc => assumption); (case kf => first | rfl | assumption); (case kk => first | rfl | assumption); (case kd => ktr_room); (case ku => ktr_units)))
variable {w : World} {p : Program} {loose : List Str} {mean : ExcName → Option Value} {mg mb : Str → Option Value}
theorem divmod_l {prog : Program} {A : Around} {E : Value → Shared → Prop} {s : Shared} {h₀ : Heap} {L : Addr} {m : Str → Option Value} {news : Led} {a b : Int} {t u : Tok} {Q : Value → Shared → Prop} (F : Fr h₀ L s.heap m) (N : News h₀ L s.heap news) (hb : 0 < b ∧ b < 2 ^ 20)
    (h : ∀ D t1 t2 tk h', (∀ p ∈ news, p.1 < D) → Fr h₀ L h' m → News h₀ L h' ((D, tupO [.int (a.fdiv b) t1, .int (a.fmod b) t2]) :: news) → Q (.ref D) { s with toks := tk, heap := h' }) :
    wpAny (model prog w) A (call (.builtin "divmod") [.int a t, .int b u]) Q E s :=
  divmod_N F N (by omega) (fun h' F' N' => h _ _ _ _ h' (fun p hp => Heap.lt_size (N.get hp)) F' N') (Or.inl (PyProof.noPylong_small (by omega)))
local macro_rules | `(tactic| walk_at "call builtin:divmod") => `(tactic| k_extra "M_DIVMOD")
set_option maxHeartbeats 0 in
theorem d2n1n_c {news : Led} {a b n : Int} {t1 t2 t3 : Tok} (hb : 0 < b ∧ b < 2 ^ 20) (hn : (Builtin.Int.intBits a : Int) - n ≤ 4000) :
    Con w p loose mean mg mb (.ref 35) [.int a t1, .int b t2, .int n t3] [] 1 20 news (fun r n' => ∃ d u1 u2, r = .ref d ∧ n' = (d, tupO [.int (a.fdiv b) u1, .int (a.fmod b) u2]) :: news ∧ ∀ p ∈ news, p.1 < d) := by
  unfold Con; k_fill; intros; rename_i hret
  k_with_none
  k_dflt (walk_at "M_ENTER")
  k_with "M_DIVMOD" => (k_dflt (refine' divmod_l ?F ?N hb ?_; (case F => k_asm); (case N => k_asm); k_whole); intro D9 u1 u2 tk9 h9 l9 F9 N9)
  k_steps
  rename News _ _ _ ((_, _) :: _) => N5
  exact hret _ _ _ _ (by assumption) N5 ⟨_, _, _, rfl, rfl, l9⟩
def hv (B : Int) (l : List Int) : Int := l.foldl (fun v d => v * B + d) 0
theorem hv_snoc (B : Int) (l : List Int) (d : Int) : hv B (l ++ [d]) = hv B l * B + d := by simp [hv]
theorem hv_rev {B : Int} (f : Nat → Int) : ∀ (k : Nat) (l : List Int), l.length = k → (∀ i, i < k → l.getD i 0 = f i) → hv B l.reverse = valD f B 0 k := by
  have key : ∀ (k lo : Nat) (l : List Int), l.length = k → (∀ i, i < k → l.getD i 0 = f (lo + i)) → hv B l.reverse = valD f B lo k := by
    intro k
    induction k with
    | zero => intro lo l h _; rw [List.length_eq_zero_iff.mp h]; rfl
    | succ k ih =>
      intro lo l h hf
      cases l with
      | nil => cases h
      | cons x r =>
        rw [List.reverse_cons, hv_snoc, valD, ih (lo + 1) r (by simpa using h) (fun i hi => by have := hf (i + 1) (by omega); rw [show lo + 1 + i = lo + (i + 1) from by omega]; simpa using this)]
        have h0 := hf 0 (by omega)
        simp only [List.getD_cons_zero, Nat.add_zero] at h0
        rw [h0, Int.mul_comm B]
        omega
  intro k l h hf
  exact key k 0 l h (fun i hi => by rw [Nat.zero_add]; exact hf i hi)
def DJ (B b : Int) (pre : List Int) (r : Int) (qs : List Int) : Prop := 0 ≤ r ∧ r < b ∧ hv B qs * b + r = hv B pre ∧ ∀ q ∈ qs, 0 ≤ q ∧ q < B
theorem DJ.step {B b d r : Int} {pre qs : List Int} (h : DJ B b pre r qs) (hd : 0 ≤ d ∧ d < B) : DJ B b (pre ++ [d]) ((r * B + d).fmod b) (qs ++ [(r * B + d).fdiv b]) := by
  obtain ⟨h0, h1, h2, h3⟩ := h
  have hb : 0 < b := by omega
  have hB : 0 < B := by omega
  have p0 : 0 ≤ r * B := Int.mul_nonneg h0 (by omega)
  have p1 : (r + 1) * B ≤ b * B := Int.mul_le_mul_of_nonneg_right (by omega) (by omega)
  rw [Int.add_mul, Int.one_mul] at p1
  rw [Int.fmod_eq_emod_of_nonneg _ (by omega), Int.fdiv_eq_ediv_of_nonneg _ (by omega)]
  have e := Int.mul_ediv_add_emod (r * B + d) b
  refine ⟨Int.emod_nonneg _ (by omega), Int.emod_lt_of_pos _ hb, ?_, fun q hq => ?_⟩
  · rw [hv_snoc, hv_snoc, ← h2, Int.add_mul, Int.add_mul, Int.mul_right_comm (hv B qs) B b, Int.mul_comm ((r * B + d) / b) b]
    omega
  · rcases List.mem_append.mp hq with hq | hq
    · exact h3 q hq
    · rw [List.mem_singleton.mp hq]
      exact ⟨Int.ediv_nonneg (by omega) (by omega), Int.ediv_lt_of_lt_mul hb (by rw [Int.mul_comm B b]; omega)⟩
theorem DJ.rbits {B b r : Int} {pre qs : List Int} (h : DJ B b pre r qs) (hb : b < 2 ^ 19) : Builtin.Int.intBits r ≤ 19 := bits_lt h.1 (Int.lt_trans h.2.1 hb)
theorem DJ.bits {B b d r : Int} {pre qs : List Int} (h : DJ B b pre r qs) (hb : b < 2 ^ 19) (hB : B ≤ 2 ^ 20) (hd : 0 ≤ d ∧ d < B) : Builtin.Int.intBits (r * B + d) ≤ 40 := by
  obtain ⟨h0, h1, _, _⟩ := h
  have p0 : 0 ≤ r * B := Int.mul_nonneg h0 (by omega)
  have p1 : r * B ≤ 2 ^ 19 * 2 ^ 20 := Int.mul_le_mul (by omega) hB (by omega) (by decide)
  exact bits_lt (by omega) (by omega)
theorem ints_snoc {vs : List Value} {ns : List Int} (h : IntsAre vs ns) (d : Int) (t : Tok) : IntsAre (vs ++ [.int d t]) (ns ++ [d]) := h.append (.cons d t .nil)
theorem bits_b {b : Int} (hb : 1 < b ∧ b < 2 ^ 19) : 0 < (Builtin.Int.intBits b : Int) ∧ (Builtin.Int.intBits b : Int) < 20 := by
  have h1 : Builtin.Int.intBits b ≤ 19 := bits_lt (by omega) hb.2
  have h2 : ¬ Builtin.Int.intBits b ≤ 0 := by
    rw [intBits_le_iff]; omega
  omega
theorem pow_le20 {n : Int} (hn : 0 < n ∧ n < 20) : (2 : Int) ^ n.toNat ≤ 2 ^ 20 := by
  have h : n.toNat ≤ 20 := by omega
  have := Nat.pow_le_pow_right (n := 2) (by decide) h
  have h3 : ((2 ^ n.toNat : Nat) : Int) = (2 : Int) ^ n.toNat := by push_cast; rfl
  rw [← h3]
  omega
local macro_rules | `(tactic| walk_at "exec For Name Call cons nil") => `(tactic| k_extra "M_FOR")
local macro_rules | `(tactic| walk_at "pyIter ref") => `(tactic| k_extra "pyIter ref")
local macro_rules | `(tactic| walk_at "binaryOp LShift int int") => `(tactic| k_extra "M_LSH")
local macro_rules | `(tactic| walk_at "call ref") => `(tactic| k_extra "call ref")
local macro_rules | `(tactic| walk_at "KswEnd") => `(tactic| k_extra "M_END")
theorem divmod_unique {a b q r : Int} (h0 : 0 ≤ r) (h1 : r < b) (h2 : q * b + r = a) : q = a.fdiv b ∧ r = a.fmod b := by
  rw [Int.fdiv_eq_ediv_of_nonneg _ (by omega), Int.fmod_eq_emod_of_nonneg _ (by omega)]
  have h3 : a = r + b * q := by rw [Int.mul_comm b q]; omega
  constructor
  · rw [h3, Int.add_mul_ediv_left _ _ (by omega), Int.ediv_eq_zero_of_lt h0 h1]; omega
  · rw [h3, Int.add_mul_emod_self_left, Int.emod_eq_of_lt h0 h1]
theorem mem_tails {α : Type} {l r : List α} (h : ∃ k, r = l.drop k) : ∀ p ∈ r, p ∈ l := by
  obtain ⟨k, rfl⟩ := h
  exact fun p hp => List.mem_of_mem_drop hp
set_option maxHeartbeats 0 in
theorem dpos_c {news : Led} {ps44 ps51 : Array Value} {a b : Int} {cnt : Nat} {t1 t2 : Tok} (ha : 0 ≤ a ∧ Builtin.Int.intBits a ≤ 80) (hb : 1 < b ∧ b < 2 ^ 19) (hcnt : ((Builtin.Int.intBits a : Int) + (Builtin.Int.intBits b : Int) - 1).fdiv (Builtin.Int.intBits b : Int) = (cnt : Int)) (hc0 : cnt < 100) (hoff : ∀ p ∈ news, p.1 ≠ 44 ∧ p.1 ≠ 51)
    (htab44 : TabIs 73 4 (Str.ofString "_int2digits.<locals>.inner") ps44 news) (htab51 : TabIs 88 4 (Str.ofString "_digits2int.<locals>.inner") ps51 news) :
    Con w p loose mean mg mb (.ref 63) [.int a t1, .int b t2] [] 110 5000 ((44, tabObj ps44) :: (51, tabObj ps51) :: news) (fun r n' => ∃ d u1 u2 c4 oc4 v4 tc4 c5 oc5 v5 tc5, r = .ref d ∧ n' = (d, tupO [.int (a.fdiv b) u1, .int (a.fmod b) u2]) :: (44, tabObj #[rawInt 73, rawInt 4, .ref c4]) :: (51, tabObj #[rawInt 88, rawInt 4, .ref c5]) :: (c4, oc4) :: (c5, oc5) :: news ∧ (∀ p ∈ (44, tabObj ps44) :: (51, tabObj ps51) :: news, p.1 < d) ∧
      (oc4.data = .fields v4 ∧ v4[1]? = some (.str (Str.ofString "_int2digits.<locals>.inner") tc4) ∧ (ps44 = #[] ∨ ps44 = #[rawInt 73, rawInt 4, .ref c4])) ∧ (oc5.data = .fields v5 ∧ v5[1]? = some (.str (Str.ofString "_digits2int.<locals>.inner") tc5) ∧ (ps51 = #[] ∨ ps51 = #[rawInt 88, rawInt 4, .ref c5])) ∧
      (c4 ≠ 44 ∧ c4 ≠ 51 ∧ c5 ≠ 44 ∧ c5 ≠ 51 ∧ ((c4, oc4) ∈ news ∨ ∀ p ∈ news, p.1 < c4) ∧ ((c5, oc5) ∈ news ∨ ∀ p ∈ news, p.1 < c5))) := by
  unfold Con; k_fill; intros; rename_i hret
  rename CodesAt _ => hcodes
  k_with_none
  k_dflt (walk_at "M_ENTER")
  have hb2 := bits_b hb
  have hB := pow_le20 hb2
  k_with "M_FOR" => (k_dflt (refine For_at ?_ ?_; rotate_left; (intro _; rfl)))
  k_with "M_LSH" => (refine lshift_int (Int.le_of_lt hb2.1) ?_ ?_; (have hb9 := hJ9.rbits hb.2; have hb8 := hb2.2; omega))
  k_with "M_END" => ((rename News _ _ _ _ => nE'); (try simp only [List.push_toArray] at nE'); (refine ksw_end (_, (_, _), _, _) (by assumption) nE' (by kst_in) trivial (by kst_all) (by ksw_same) ⟨hR9, _, ints_snoc hq9 _ _, hJ9.step hd9, by simp⟩ hz9))
  k_with "pyIter ref" => (k_dflt (refine' rev_loop (y := Str.ofString "r") (DJ (2 ^ (Builtin.Int.intBits b : Int).toNat) b) [Str.ofString "a_digit", Str.ofString "q_digit"] ?hh ?F ?N ?hl hI9 ?hz ?hoff ?hq ?hy ?hJ ?turn ?done ?hE; (case hh => exact rfl); (case hE => passes_own); (case F => k_asm); (case N => k_asm); (case hl => k_mem); (case hz => rw [hI9.length]); (case hoff => exact allLt_ne (And.right (by assumption)) (Nat.le_refl _)); (case hq => exact neN (by omega)); (case hy => exact rfl); (case hJ => exact ⟨by omega, by omega, by simp [hv], by simp⟩); (case' done => intro pre9 r9 t9 qvs9 qs9 kn9 u9 h9 tk9 hpre9 hJ9 hq9 hql9 F9 N9; dsimp only [kstB] at F9); (case' turn => (intro oo9 o9 pre9 d9 r9 td9 t9 qvs9 qs9 kn9 u9 h9 tk9 z9 hR9 hz9 hz1 hz2 hdd9 hJ9 hq9 hql9 F9 N9; (dsimp only [kstB] at F9); (have hd9 : 0 ≤ d9 ∧ d9 < 2 ^ (Builtin.Int.intBits b : Int).toNat := hdd9 ▸ hds9 _ (by omega))))))
  k_with "call builtin:list.reverse" => (k_dflt (refine' kl_reverse (l := qvs9.reverse) ?F ?N rfl ?U (fitsSz hq9 (by omega)) ?_; (case F => k_asm); (case N => k_asm); (case U => exact Upd.head (allLt_ne (by assumption) (Nat.le_refl _))); k_whole); intro h9 F9 N9)
  k_with "call ref" => first
    | (k_dflt (refine' Con.use (d2i_c (news := (c9, oc9) :: (44, tabObj #[rawInt 73, rawInt 4, .ref c9]) :: news) (tl := news) (cnt := cnt) hq9.reverse (by simp [hql9, hl9]) ?hdig hb2 hc0 ?hof ?htl htab51) ?kB ?kF ?kX ?kN ?kT ?kc ?kf ?kk ?kd ?ku ?_; (case hdig => exact fun i hi => hJ9.2.2.2 _ (by rw [List.getD_eq_getElem?_getD, List.getElem?_eq_getElem (by simp; omega), Option.getD_some]; exact List.mem_reverse.mp (List.getElem_mem _))); (case hof => exact List.forall_mem_cons.mpr ⟨neN (by omega), List.forall_mem_cons.mpr ⟨hcn9.elim (fun h => (hoff _ h).2) (fun h => Nat.ne_of_gt (h (51, tabObj ps51) (.head _))), List.forall_mem_cons.mpr ⟨(show (44 : Nat) ≠ 51 by decide), fun q hq => (hoff q hq).2⟩⟩⟩); (case htl => exact fun q hq => .tail _ (.tail _ hq)); (case kN => exact newsSub (by k_asm) (List.forall_mem_cons.mpr ⟨by k_mem, List.forall_mem_cons.mpr ⟨by k_mem, List.forall_mem_cons.mpr ⟨by k_mem, List.forall_mem_cons.mpr ⟨by k_mem, fun q hq => by repeat (first | exact hq | apply List.Mem.tail)⟩⟩⟩⟩)); walk_at "M_SIDE2"; k_whole); rintro r8 n8 h8 tk8 F8 N8 ⟨c8, oc8, vc8, tc8, t8, rfl, rfl, hoc8, hvc8, hc51, hps51, hcn8⟩; (try dsimp only))
    | (k_dflt (refine' Con.use (d2n1n_c (n := (Builtin.Int.intBits b : Int)) (by omega) ?hbits) ?kB ?kF ?kX ?kN ?kT ?kc ?kf ?kk ?kd ?ku ?_; (case hbits => (have h7 := hJ9.bits hb.2 hB hd9; omega)); walk_at "M_SIDE"; k_whole); rintro r8 n8 h8 tk8 F8 N8 ⟨d8, u8, v8, rfl, rfl, l8⟩; (try dsimp only); (try k_lt l8))
    | (k_dflt (refine' Con.use (i2d_c (news := (51, tabObj ps51) :: news) (tl := news) ha hb2 hcnt hc0 ?ho ?hs htab44) ?kB ?kF ?kX ?kN ?kT ?kc ?kf ?kk ?kd ?ku ?_; (case ho => exact List.forall_mem_cons.mpr ⟨neN (by omega), fun q hq => (hoff q hq).1⟩); (case hs => exact fun q hq => .tail _ hq); walk_at "M_SIDE"; k_whole); rintro r9 n9 h9 tk9 F9 N9 ⟨D9, c9, oc9, vc9, tc9, vs9, ds9, rfl, rfl, hoc9, hvc9, hDn9, hD44, hDc9, hc44, hps44, hcn9, hI9, hl9, hds9, hval9⟩; (try dsimp only))
  k_steps
  have e1 : valD (fun i => qs9.reverse.getD i 0) (2 ^ (Builtin.Int.intBits b : Int).toNat) 0 cnt = a.fdiv b ∧ r9 = a.fmod b := by
    have h1 := hv_rev (B := 2 ^ (Builtin.Int.intBits b : Int).toNat) (fun i => qs9.reverse.getD i 0) cnt qs9.reverse (by simp [hql9, hl9]) (fun _ _ => rfl)
    have h2 := hv_rev (B := 2 ^ (Builtin.Int.intBits b : Int).toNat) (fun i => ds9.getD i 0) cnt ds9 hl9 (fun _ _ => rfl)
    rw [List.reverse_reverse] at h1
    rw [← h1]
    obtain ⟨j0, j1, j2, _⟩ := hJ9
    rw [hpre9, h2, hval9] at j2
    exact divmod_unique j0 j1 j2
  rename News _ _ _ ((_, tupO _) :: _) => N5
  have hgt : ∀ p ∈ news, p.1 < _ := allLt_mem (l := news) (by first | exact And.right (And.right (And.right (And.right (And.right (And.right (And.right (by assumption))))))) | exact And.right (And.right (And.right (And.right (And.right (And.right (by assumption)))))) | exact And.right (And.right (And.right (And.right (And.right (by assumption))))))
  rw [e1.1, e1.2] at N5
  exact hret _ _ _ _ (by assumption) (newsSub (news := (_, tupO _) :: (44, _) :: (51, _) :: (c9, oc9) :: (c8, oc8) :: news) N5 (List.forall_mem_cons.mpr ⟨by k_mem, List.forall_mem_cons.mpr ⟨by k_mem, List.forall_mem_cons.mpr ⟨by k_mem, List.forall_mem_cons.mpr ⟨by k_mem, List.forall_mem_cons.mpr ⟨by k_mem, fun q hq => by repeat (first | exact hq | apply List.Mem.tail)⟩⟩⟩⟩⟩))
    ⟨_, _, _, _, _, _, _, _, _, _, _, rfl, rfl, List.forall_mem_cons.mpr ⟨ltN (by omega), List.forall_mem_cons.mpr ⟨ltN (by omega), hgt⟩⟩, ⟨hoc9, hvc9, hps44⟩, ⟨hoc8, hvc8, hps51⟩,
      hc44, hcn9.elim (fun h => (hoff _ h).2) (fun h => Nat.ne_of_gt (h (51, tabObj ps51) (.head _))), hcn8.elim (fun h => (hoff _ h).1) (fun h => Nat.ne_of_gt (h.2 (44, tabObj _) (.tail _ (.head _)))), hc51,
      hcn9.imp_right (fun h p hp => h p (.tail _ hp)), hcn8.imp_right (fun h p hp => h.2 p (.tail _ (.tail _ hp)))⟩
end Mine

namespace Mine
example : True := by
  k_with_none
  trivial
local macro_rules | `(tactic| walk_at "M_ENTER") => `(tactic| (refine' code_def ?k1 ?k2 ?k3 ?k4 ?k5 ?kA ?kF ?kK ?k6 ?k7 ?k8 ?k9 ?kB ?_ ?c2 ?c3 ?c4 ?c5; (case kA => exact rfl); (case kF => assumption); (case kK => assumption); (case k1 => k_asm); (case k2 => k_asm); (case k3 => k_asm); (case k4 => k_asm); (case k5 => k_asm); (case k6 => k_is); (case k7 => k_is); (case k8 => ktr_room); (case k9 => first | exact BindsTo.of_eq rfl | exact binds_K (by k_in) rfl (by k_is) rfl rfl rfl | (refine' kp_binds ?kx ?ke; (case kx => k_in); (case ke => exact fun _ => rfl))); (case c5 => decide); (case kB => exact locs rfl); (case c2 => exact rfl); (case c3 => exact rfl); (case c4 => exact rfl); k_whole; intro g' L' h' FG' F' N' B' X' T'; (try dsimp only); (try k_lift B'); (try k_fold)))
local macro_rules | `(tactic| walk_at "M_ENTERC") => `(tactic| (refine' code_defC ?k1 ?k2 ?k3 ?k4 ?k5 ?kA ?kF ?kK ?k6 ?k7 ?k8 ?k9 ?kB ?kD ?_ ?c2 ?c3 ?c4; (case kA => exact rfl); (case kF => assumption); (case kK => assumption); (case k1 => k_asm); (case k2 => k_asm); (case k3 => k_asm); (case k4 => k_asm); (case k5 => k_asm); (case k6 => k_is); (case k7 => k_is); (case k8 => ktr_room); (case k9 => first | exact BindsTo.of_eq rfl | exact binds_K (by k_in) rfl (by k_is) rfl rfl rfl | (refine' kp_binds ?kx ?ke; (case kx => k_in); (case ke => exact fun _ => rfl))); (case kB => exact rfl); (case kD => decide +kernel); (case c2 => exact rfl); (case c3 => exact rfl); (case c4 => exact rfl); k_whole; intro g' L' h' tk' cells' FG' F' N' Y' B' X' T' l1; (try k_lt l1); k_cells Y'; (try simp only [List.cons_append, List.nil_append] at N'); (try dsimp only); (try k_lift B'); (try k_fold)))
local macro_rules | `(tactic| walk_at "M_ENTERN") => `(tactic| (refine' code_nest ?k1 ?k2 ?k3 ?k4 ?k5 ?kA ?kF ?kK ?k6 ?k7 ?k8 ?k9 ?kB ?_ ?c2 ?c3 ?c4 ?c5; (case kA => exact rfl); (case kF => assumption); (case kK => assumption); (case k1 => k_asm); (case k2 => k_asm); (case k3 => k_asm); (case k4 => k_asm); (case k5 => k_asm); (case k6 => k_mem); (case k7 => exact codeRec_news (by k_asm) (by k_mem) (by assumption) (by assumption)); (case k8 => ktr_room); (case k9 => exact BindsTo.of_eq rfl); (case c5 => decide); (case kB => exact locs rfl); (case c2 => exact rfl); (case c3 => exact rfl); (case c4 => exact rfl); k_whole; intro g' L' h' FG' F' N' B' X' T'; (try dsimp only); (try k_lift B'); (try k_fold)))
local macro_rules | `(tactic| k_all) => `(tactic| first | assumption | exact allLt_ne (by assumption) (by omega))
local macro_rules | `(tactic| walk_at "M_SIDE") => `(tactic| ((case kB => k_asm); (case kF => k_asm); (case kX => k_asm); (case kN => k_asm); (case kT => k_asm); (case kc => assumption); (case kf => first | rfl | assumption); (case kk => first | rfl | assumption); (case kd => ktr_room); (case ku => ktr_units)))
local macro_rules | `(tactic| walk_at "M_SIDE2") => `(tactic| ((case kB => k_asm); (case kF => k_asm); (case kX => k_asm); (case kT => k_asm); (case kc => assumption); (case kf => first | rfl | assumption); (case kk => first | rfl | assumption); (case kd => ktr_room); (case ku => ktr_units)))
variable {w : World} {p : Program} {loose : List Str} {mean : ExcName → Option Value} {mg mb : Str → Option Value}
/-- what a division leaves: the pair, and the two tables filled -/
def DivPost (ps44 ps51 : Array Value) (news : Led) (q r : Int) (v : Value) (n' : Led) : Prop := ∃ d u1 u2 c4 oc4 v4 tc4 c5 oc5 v5 tc5, v = .ref d ∧ n' = (d, tupO [.int q u1, .int r u2]) :: (44, tabObj #[rawInt 73, rawInt 4, .ref c4]) :: (51, tabObj #[rawInt 88, rawInt 4, .ref c5]) :: (c4, oc4) :: (c5, oc5) :: news ∧ (∀ p ∈ (44, tabObj ps44) :: (51, tabObj ps51) :: news, p.1 < d) ∧
      (oc4.data = .fields v4 ∧ v4[1]? = some (.str (Str.ofString "_int2digits.<locals>.inner") tc4) ∧ (ps44 = #[] ∨ ps44 = #[rawInt 73, rawInt 4, .ref c4])) ∧ (oc5.data = .fields v5 ∧ v5[1]? = some (.str (Str.ofString "_digits2int.<locals>.inner") tc5) ∧ (ps51 = #[] ∨ ps51 = #[rawInt 88, rawInt 4, .ref c5])) ∧
      (c4 ≠ 44 ∧ c4 ≠ 51 ∧ c5 ≠ 44 ∧ c5 ≠ 51 ∧ ((c4, oc4) ∈ news ∨ ∀ p ∈ news, p.1 < c4) ∧ ((c5, oc5) ∈ news ∨ ∀ p ∈ news, p.1 < c5))
theorem cnt_ex {x n : Int} (hx : 0 ≤ x ∧ x ≤ 80) (hn : 0 < n ∧ n < 20) : ∃ cnt : Nat, (x + n - 1).fdiv n = (cnt : Int) ∧ cnt < 100 := by
  rw [Int.fdiv_eq_ediv_of_nonneg _ (by omega)]
  have h0 : 0 ≤ (x + n - 1) / n := Int.ediv_nonneg (by omega) (by omega)
  have h1 : (x + n - 1) / n < 100 := Int.ediv_lt_of_lt_mul hn.1 (by omega)
  exact ⟨((x + n - 1) / n).toNat, by omega, by omega⟩
local macro_rules | `(tactic| walk_at "call ref") => `(tactic| k_extra "call ref")
set_option maxHeartbeats 0 in
theorem idivA_c {news : Led} {ps44 ps51 : Array Value} {a b : Int} {t1 t2 : Tok} (ha : 0 ≤ a ∧ Builtin.Int.intBits a ≤ 80) (hb : 1 < b ∧ b < 2 ^ 19) (hoff : ∀ p ∈ news, p.1 ≠ 44 ∧ p.1 ≠ 51)
    (htab44 : TabIs 73 4 (Str.ofString "_int2digits.<locals>.inner") ps44 news) (htab51 : TabIs 88 4 (Str.ofString "_digits2int.<locals>.inner") ps51 news) :
    Con w p loose mean mg mb (.ref 70) [.int a t1, .int b t2] [] 112 5100 ((44, tabObj ps44) :: (51, tabObj ps51) :: news) (DivPost ps44 ps51 news (a.fdiv b) (a.fmod b)) := by
  have hb0 : b ≠ 0 := by omega
  have hb1 : ¬ b < 0 := by omega
  have ha1 : ¬ a < 0 := by omega
  obtain ⟨cnt, hcnt, hc0⟩ := cnt_ex (x := (Builtin.Int.intBits a : Int)) (by omega) (bits_b hb)
  unfold Con; k_fill; intros; rename_i hret
  k_with_none
  k_dflt (walk_at "M_ENTER")
  k_with "call ref" => (k_dflt (refine' Con.use (dpos_c ha hb hcnt hc0 hoff htab44 htab51) ?kB ?kF ?kX ?kN ?kT ?kc ?kf ?kk ?kd ?ku ?_; walk_at "M_SIDE"; k_whole); rintro r8 n8 h8 tk8 F8 N8 ⟨d, u1, u2, c4, oc4, v4, tc4, c5, oc5, v5, tc5, rfl, rfl, hh1, hh2, hh3, hh4⟩; (try dsimp only))
  k_steps
  all_goals try (exfalso; omega)
  exact hret _ _ _ _ (by assumption) (by assumption) ⟨_, _, _, _, _, _, _, _, _, _, _, rfl, rfl, hh1, hh2, hh3, hh4⟩
theorem neg2_div (a b : Int) : (-a).fdiv (-b) = a.fdiv b ∧ -(-a).fmod (-b) = a.fmod b := by
  have h := Int.neg_fdiv_neg a b
  refine ⟨h, ?_⟩
  rw [Int.fmod_def, Int.fmod_def, h, Int.neg_mul]
  omega
theorem bitNot_is (a : Int) : Builtin.bitNot a = -a - 1 := by unfold Builtin.bitNot; omega
theorem neg_div {a b : Int} (hb : 0 < b) : Builtin.bitNot ((Builtin.bitNot a).fdiv b) = a.fdiv b ∧ b + Builtin.bitNot ((Builtin.bitNot a).fmod b) = a.fmod b := by
  rw [bitNot_is, bitNot_is, bitNot_is]
  have h0 := Int.emod_nonneg (-a - 1) (by omega : b ≠ 0)
  have h1 := Int.emod_lt_of_pos (-a - 1) hb
  have h2 := Int.mul_ediv_add_emod (-a - 1) b
  rw [Int.fdiv_eq_ediv_of_nonneg (-a - 1) (by omega), Int.fmod_eq_emod_of_nonneg (-a - 1) (by omega)]
  refine divmod_unique (by omega) (by omega) ?_
  rw [Int.sub_mul, Int.neg_mul, Int.mul_comm ((-a - 1) / b) b]
  omega
set_option maxHeartbeats 0 in
theorem idivB_c {news : Led} {ps44 ps51 : Array Value} {a b : Int} {t1 t2 : Tok} (ha : a < 0 ∧ Builtin.Int.intBits (Builtin.bitNot a) ≤ 80) (hb : 1 < b ∧ b < 2 ^ 19) (hoff : ∀ p ∈ news, p.1 ≠ 44 ∧ p.1 ≠ 51)
    (htab44 : TabIs 73 4 (Str.ofString "_int2digits.<locals>.inner") ps44 news) (htab51 : TabIs 88 4 (Str.ofString "_digits2int.<locals>.inner") ps51 news) :
    Con w p loose mean mg mb (.ref 70) [.int a t1, .int b t2] [] 114 5200 ((44, tabObj ps44) :: (51, tabObj ps51) :: news) (DivPost ps44 ps51 news (a.fdiv b) (a.fmod b)) := by
  have hb0 : b ≠ 0 := by omega
  have hb1 : ¬ b < 0 := by omega
  have ha1 : a < 0 := ha.1
  have hbn : 0 ≤ Builtin.bitNot a := by rw [bitNot_is]; omega
  have hn := neg_div (a := a) (b := b) (by omega)
  unfold Con; k_fill; intros; rename_i hret
  k_with_none
  k_dflt (walk_at "M_ENTER")
  k_with "call ref" => (k_dflt (refine' Con.use (idivA_c ⟨hbn, ha.2⟩ hb hoff htab44 htab51) ?kB ?kF ?kX ?kN ?kT ?kc ?kf ?kk ?kd ?ku ?_; walk_at "M_SIDE"; k_whole); rintro r8 n8 h8 tk8 F8 N8 ⟨d, u1, u2, c4, oc4, v4, tc4, c5, oc5, v5, tc5, rfl, rfl, hh1, hh2, hh3, hh4⟩; (try dsimp only))
  k_steps
  all_goals try (exfalso; omega)
  have hgt : ∀ p ∈ news, p.1 < _ := allLt_mem (l := news) (And.right (And.right (And.right (And.right (And.right (by assumption))))))
  rename News _ _ _ ((_, tupO _) :: (_, tupO _) :: _) => N5
  rw [hn.1, hn.2] at N5
  exact hret _ _ _ _ (by assumption) (newsSub (news := (_, tupO _) :: (44, _) :: (51, _) :: (c4, oc4) :: (c5, oc5) :: news) N5 (List.forall_mem_cons.mpr ⟨by k_mem, List.forall_mem_cons.mpr ⟨by k_mem, List.forall_mem_cons.mpr ⟨by k_mem, List.forall_mem_cons.mpr ⟨by k_mem, List.forall_mem_cons.mpr ⟨by k_mem, fun q hq => by repeat (first | exact hq | apply List.Mem.tail)⟩⟩⟩⟩⟩))
    ⟨_, _, _, _, _, _, _, _, _, _, _, rfl, rfl, List.forall_mem_cons.mpr ⟨ltN (by omega), List.forall_mem_cons.mpr ⟨ltN (by omega), hgt⟩⟩, hh2, hh3, hh4⟩
set_option maxHeartbeats 0 in
theorem idivC_c {news : Led} {ps44 ps51 : Array Value} {a b : Int} {t1 t2 : Tok} (ha : (0 ≤ -a ∧ Builtin.Int.intBits (-a) ≤ 80) ∨ (-a < 0 ∧ Builtin.Int.intBits (Builtin.bitNot (-a)) ≤ 80)) (hb : 1 < -b ∧ -b < 2 ^ 19) (hoff : ∀ p ∈ news, p.1 ≠ 44 ∧ p.1 ≠ 51)
    (htab44 : TabIs 73 4 (Str.ofString "_int2digits.<locals>.inner") ps44 news) (htab51 : TabIs 88 4 (Str.ofString "_digits2int.<locals>.inner") ps51 news) :
    Con w p loose mean mg mb (.ref 70) [.int a t1, .int b t2] [] 116 5300 ((44, tabObj ps44) :: (51, tabObj ps51) :: news) (DivPost ps44 ps51 news (a.fdiv b) (a.fmod b)) := by
  have hb0 : b ≠ 0 := by omega
  have hb1 : b < 0 := by omega
  have hcon : ∀ t1 t2, Con w p loose mean mg mb (.ref 70) [.int (-a) t1, .int (-b) t2] [] 114 5200 ((44, tabObj ps44) :: (51, tabObj ps51) :: news) (DivPost ps44 ps51 news ((-a).fdiv (-b)) ((-a).fmod (-b))) := by
    intro t1 t2
    rcases ha with ha | ha
    · unfold Con; intros; exact idivA_c ha hb hoff htab44 htab51 _ _ _ _ _ _ _ _ _ _ _ _ (by assumption) (by assumption) (by assumption) (by assumption) (by assumption) (by assumption) (by assumption) (by assumption) (by omega) (by omega) (by assumption)
    · exact idivB_c ha hb hoff htab44 htab51
  unfold Con; k_fill; intros; rename_i hret
  k_with_none
  k_dflt (walk_at "M_ENTER")
  k_with "call ref" => (k_dflt (refine' Con.use (hcon _ _) ?kB ?kF ?kX ?kN ?kT ?kc ?kf ?kk ?kd ?ku ?_; walk_at "M_SIDE"; k_whole); rintro r8 n8 h8 tk8 F8 N8 ⟨d, u1, u2, c4, oc4, v4, tc4, c5, oc5, v5, tc5, rfl, rfl, hh1, hh2, hh3, hh4⟩; (try dsimp only))
  k_steps
  all_goals try (exfalso; omega)
  have hgt : ∀ p ∈ news, p.1 < _ := allLt_mem (l := news) (And.right (And.right (And.right (And.right (And.right (by assumption))))))
  rename News _ _ _ ((_, tupO _) :: (_, tupO _) :: _) => N5
  rw [(neg2_div a b).1, (neg2_div a b).2] at N5
  exact hret _ _ _ _ (by assumption) (newsSub (news := (_, tupO _) :: (44, _) :: (51, _) :: (c4, oc4) :: (c5, oc5) :: news) N5 (List.forall_mem_cons.mpr ⟨by k_mem, List.forall_mem_cons.mpr ⟨by k_mem, List.forall_mem_cons.mpr ⟨by k_mem, List.forall_mem_cons.mpr ⟨by k_mem, List.forall_mem_cons.mpr ⟨by k_mem, fun q hq => by repeat (first | exact hq | apply List.Mem.tail)⟩⟩⟩⟩⟩))
    ⟨_, _, _, _, _, _, _, _, _, _, _, rfl, rfl, List.forall_mem_cons.mpr ⟨ltN (by omega), List.forall_mem_cons.mpr ⟨ltN (by omega), hgt⟩⟩, hh2, hh3, hh4⟩
end Mine

namespace Mine
local macro_rules | `(tactic| walk_at "M_SPARE0") => `(tactic| skip)
local macro_rules | `(tactic| walk_at "M_SPARE1") => `(tactic| skip)
local macro_rules | `(tactic| walk_at "M_SPARE2") => `(tactic| skip)
local macro_rules | `(tactic| walk_at "M_SPARE3") => `(tactic| skip)
local macro_rules | `(tactic| walk_at "M_SPARE4") => `(tactic| skip)
local macro_rules | `(tactic| walk_at "M_SPARE5") => `(tactic| skip)
local macro_rules | `(tactic| walk_at "M_SPARE6") => `(tactic| skip)
local macro_rules | `(tactic| walk_at "M_SPARE7") => `(tactic| skip)
local macro_rules | `(tactic| walk_at "M_SPARE8") => `(tactic| skip)
local macro_rules | `(tactic| walk_at "M_SPARE9") => `(tactic| skip)
local macro_rules | `(tactic| walk_at "M_SPARE10") => `(tactic| skip)
local macro_rules | `(tactic| walk_at "M_SPARE11") => `(tactic| skip)
local macro_rules | `(tactic| walk_at "M_SPARE12") => `(tactic| skip)
local macro_rules | `(tactic| walk_at "M_SPARE13") => `(tactic| skip)
local macro_rules | `(tactic| walk_at "M_SPARE14") => `(tactic| skip)
local macro_rules | `(tactic| walk_at "M_SPARE15") => `(tactic| skip)
local macro_rules | `(tactic| walk_at "M_SPARE16") => `(tactic| skip)
local macro_rules | `(tactic| walk_at "M_SPARE17") => `(tactic| skip)
local macro_rules | `(tactic| walk_at "M_SPARE18") => `(tactic| skip)
local macro_rules | `(tactic| walk_at "M_SPARE19") => `(tactic| skip)
local macro_rules | `(tactic| walk_at "M_SPARE20") => `(tactic| skip)
local macro_rules | `(tactic| walk_at "M_SPARE21") => `(tactic| skip)
local macro_rules | `(tactic| walk_at "M_SPARE22") => `(tactic| skip)
local macro_rules | `(tactic| walk_at "M_SPARE23") => `(tactic| skip)
local macro_rules | `(tactic| walk_at "M_SPARE24") => `(tactic| skip)
example : True := by
  k_with_none
  trivial
local macro_rules | `(tactic| walk_at "M_ENTER") => `(tactic| (refine' code_def ?k1 ?k2 ?k3 ?k4 ?k5 ?kA ?kF ?kK ?k6 ?k7 ?k8 ?k9 ?kB ?_ ?c2 ?c3 ?c4 ?c5; (case kA => exact rfl); (case kF => assumption); (case kK => assumption); (case k1 => k_asm); (case k2 => k_asm); (case k3 => k_asm); (case k4 => k_asm); (case k5 => k_asm); (case k6 => k_is); (case k7 => k_is); (case k8 => ktr_room); (case k9 => first | exact BindsTo.of_eq rfl | exact binds_K (by k_in) rfl (by k_is) rfl rfl rfl | (refine' kp_binds ?kx ?ke; (case kx => k_in); (case ke => exact fun _ => rfl))); (case c5 => decide); (case kB => exact locs rfl); (case c2 => exact rfl); (case c3 => exact rfl); (case c4 => exact rfl); k_whole; intro g' L' h' FG' F' N' B' X' T'; (try dsimp only); (try k_lift B'); (try k_fold)))
local macro_rules | `(tactic| walk_at "M_ENTERC") => `(tactic| (refine' code_defC ?k1 ?k2 ?k3 ?k4 ?k5 ?kA ?kF ?kK ?k6 ?k7 ?k8 ?k9 ?kB ?kD ?_ ?c2 ?c3 ?c4; (case kA => exact rfl); (case kF => assumption); (case kK => assumption); (case k1 => k_asm); (case k2 => k_asm); (case k3 => k_asm); (case k4 => k_asm); (case k5 => k_asm); (case k6 => k_is); (case k7 => k_is); (case k8 => ktr_room); (case k9 => first | exact BindsTo.of_eq rfl | exact binds_K (by k_in) rfl (by k_is) rfl rfl rfl | (refine' kp_binds ?kx ?ke; (case kx => k_in); (case ke => exact fun _ => rfl))); (case kB => exact rfl); (case kD => decide +kernel); (case c2 => exact rfl); (case c3 => exact rfl); (case c4 => exact rfl); k_whole; intro g' L' h' tk' cells' FG' F' N' Y' B' X' T' l1; (try k_lt l1); k_cells Y'; (try simp only [List.cons_append, List.nil_append] at N'); (try dsimp only); (try k_lift B'); (try k_fold)))
local macro_rules | `(tactic| walk_at "M_ENTERN") => `(tactic| (refine' code_nest ?k1 ?k2 ?k3 ?k4 ?k5 ?kA ?kF ?kK ?k6 ?k7 ?k8 ?k9 ?kB ?_ ?c2 ?c3 ?c4 ?c5; (case kA => exact rfl); (case kF => assumption); (case kK => assumption); (case k1 => k_asm); (case k2 => k_asm); (case k3 => k_asm); (case k4 => k_asm); (case k5 => k_asm); (case k6 => k_mem); (case k7 => exact codeRec_news (by k_asm) (by k_mem) (by assumption) (by assumption)); (case k8 => ktr_room); (case k9 => exact BindsTo.of_eq rfl); (case c5 => decide); (case kB => exact locs rfl); (case c2 => exact rfl); (case c3 => exact rfl); (case c4 => exact rfl); k_whole; intro g' L' h' FG' F' N' B' X' T'; (try dsimp only); (try k_lift B'); (try k_fold)))
local macro_rules | `(tactic| k_all) => `(tactic| first | assumption | exact allLt_ne (by assumption) (by omega))
local macro_rules | `(tactic| walk_at "M_SIDE") => `(tactic| ((case kB => k_asm); (case kF => k_asm); (case kX => k_asm); (case kN => k_asm); (case kT => k_asm); (case kc => assumption); (case kf => first | rfl | assumption); (case kk => first | rfl | assumption); (case kd => ktr_room); (case ku => ktr_units)))
local macro_rules | `(tactic| walk_at "M_SIDE2") => `(tactic| ((case kB => k_asm); (case kF => k_asm); (case kX => k_asm); (case kT => k_asm); (case kc => assumption); (case kf => first | rfl | assumption); (case kk => first | rfl | assumption); (case kd => ktr_room); (case ku => ktr_units)))
variable {w : World} {p : Program} {loose : List Str} {mean : ExcName → Option Value} {mg mb : Str → Option Value}
abbrev T4 (c : Addr) : Obj := tabObj #[rawInt 73, rawInt 4, .ref c]
abbrev T5 (c : Addr) : Obj := tabObj #[rawInt 88, rawInt 4, .ref c]
/-- the two tables stand filled in the ledger -/
structure DivIn (c4 c5 : Addr) (led : Led) : Prop where
  m4 : (44, T4 c4) ∈ led
  m5 : (51, T5 c5) ∈ led
  k4 : ∃ oc vc tc, (c4, oc) ∈ led ∧ oc.data = .fields vc ∧ vc[1]? = some (.str (Str.ofString "_int2digits.<locals>.inner") tc)
  k5 : ∃ oc vc tc, (c5, oc) ∈ led ∧ oc.data = .fields vc ∧ vc[1]? = some (.str (Str.ofString "_digits2int.<locals>.inner") tc)
  n4 : c4 ≠ 44 ∧ c4 ≠ 51
  n5 : c5 ≠ 44 ∧ c5 ≠ 51
  off : ∀ p ∈ led, p = (44, T4 c4) ∨ p = (51, T5 c5) ∨ (p.1 ≠ 44 ∧ p.1 ≠ 51)
theorem DivIn.sub {c4 c5 : Addr} {led led' : Led} (h : DivIn c4 c5 led) (hs : ∀ p ∈ led, p ∈ led') (ho : ∀ p ∈ led', p ∈ led ∨ (p.1 ≠ 44 ∧ p.1 ≠ 51)) : DivIn c4 c5 led' :=
  ⟨hs _ h.m4, hs _ h.m5, let ⟨a, b, c, d, e⟩ := h.k4; ⟨a, b, c, hs _ d, e⟩, let ⟨a, b, c, d, e⟩ := h.k5; ⟨a, b, c, hs _ d, e⟩, h.n4, h.n5, fun p hp => (ho p hp).elim (h.off p) fun h => .inr (.inr h)⟩
theorem DivIn.cons {c4 c5 : Addr} {led : Led} {q : Addr × Obj} (h : DivIn c4 c5 led) (hq : q.1 ≠ 44 ∧ q.1 ≠ 51) : DivIn c4 c5 (q :: led) :=
  h.sub (fun _ hp => .tail _ hp) fun p hp => by
    rcases List.mem_cons.mp hp with rfl | hp
    · exact .inr hq
    · exact .inl hp
theorem DivIn.set {c4 c5 : Addr} {led : Led} {x : Addr} {o o' : Obj} (h : DivIn c4 c5 ((x, o) :: led)) (hx : x ≠ 44 ∧ x ≠ 51) (hc : x ≠ c4 ∧ x ≠ c5) : DivIn c4 c5 ((x, o') :: led) := by
  have key : ∀ p : Addr × Obj, p ∈ (x, o) :: led → p.1 ≠ x → p ∈ (x, o') :: led := fun p hp hn => by
    rcases List.mem_cons.mp hp with rfl | hp
    · exact absurd rfl hn
    · exact .tail _ hp
  refine ⟨key _ h.m4 (Ne.symm hx.1), key _ h.m5 (Ne.symm hx.2), ?_, ?_, h.n4, h.n5, fun p hp => ?_⟩
  · obtain ⟨a, b, c, d, e⟩ := h.k4
    exact ⟨a, b, c, key _ d (Ne.symm hc.1), e⟩
  · obtain ⟨a, b, c, d, e⟩ := h.k5
    exact ⟨a, b, c, key _ d (Ne.symm hc.2), e⟩
  · rcases List.mem_cons.mp hp with rfl | hp
    · exact .inr (.inr hx)
    · exact h.off p (.tail _ hp)
theorem Con.post {f : Value} {vs : List Value} {kw : List (Str × Value)} {D U : Nat} {news news' : Led} {Post Post' : Value → Led → Prop} (C : Con w p loose mean mg mb f vs kw D U news Post) (hs : ∀ q ∈ news, q ∈ news')
    (hp : ∀ r n, Post r n → ∃ n', (∀ q ∈ n', q ∈ n) ∧ Post' r n') : Con w p loose mean mg mb f vs kw D U news' Post' := by
  unfold Con at C ⊢
  intro dp un gd env outer A₀ base h₀ L m s R B F X N T hc hf hk hd hu hret
  refine C dp un gd env outer A₀ base h₀ L m s R B F X (newsSub N hs) T hc hf hk hd hu fun r n' h' tk' F' N' P => ?_
  obtain ⟨n2, hn, P2⟩ := hp r n' P
  exact hret r n2 h' tk' F' (newsSub N' hn) P2
/-- a division by 4 or 17550 where the tables stand filled -/
theorem idiv_c {led : Led} {c4 c5 : Addr} {a b : Int} {t1 t2 : Tok} (hD : DivIn c4 c5 led) (ha : Builtin.Int.intBits a ≤ 80 ∧ Builtin.Int.intBits (Builtin.bitNot a) ≤ 80) (hb : 1 < b ∧ b < 2 ^ 19) :
    Con w p loose mean mg mb (.ref 70) [.int a t1, .int b t2] [] 116 5300 led (fun r n' => ∃ d u1 u2, r = .ref d ∧ n' = (d, tupO [.int (a.fdiv b) u1, .int (a.fmod b) u2]) :: led ∧ (∀ p ∈ led, p.1 < d)) := by
  let nw : Led := led.filter fun p => decide (p.1 ≠ 44 ∧ p.1 ≠ 51)
  have hnw : ∀ p, p ∈ nw ↔ p ∈ led ∧ (p.1 ≠ 44 ∧ p.1 ≠ 51) := fun p => by simp [nw]
  have hoff : ∀ p ∈ nw, p.1 ≠ 44 ∧ p.1 ≠ 51 := fun p hp => ((hnw p).mp hp).2
  have h4 : TabIs 73 4 (Str.ofString "_int2digits.<locals>.inner") #[rawInt 73, rawInt 4, .ref c4] nw := by
    obtain ⟨oc, vc, tc, x1, x2, x3⟩ := hD.k4
    exact .inr ⟨c4, oc, vc, tc, rfl, (hnw _).mpr ⟨x1, hD.n4⟩, x2, x3⟩
  have h5 : TabIs 88 4 (Str.ofString "_digits2int.<locals>.inner") #[rawInt 88, rawInt 4, .ref c5] nw := by
    obtain ⟨oc, vc, tc, x1, x2, x3⟩ := hD.k5
    exact .inr ⟨c5, oc, vc, tc, rfl, (hnw _).mpr ⟨x1, hD.n5⟩, x2, x3⟩
  have C : Con w p loose mean mg mb (.ref 70) [.int a t1, .int b t2] [] 116 5300 ((44, T4 c4) :: (51, T5 c5) :: nw) (DivPost #[rawInt 73, rawInt 4, .ref c4] #[rawInt 88, rawInt 4, .ref c5] nw (a.fdiv b) (a.fmod b)) := by
    unfold Con
    intro dp un gd env outer A₀ base h₀ L m s R B F X N T hc hf hk hd hu hret
    by_cases hn : a < 0
    · exact idivB_c ⟨hn, ha.2⟩ hb hoff h4 h5 dp un gd env outer A₀ base h₀ L m s R B F X N T hc hf hk (by omega) (by omega) hret
    · exact idivA_c ⟨by omega, ha.1⟩ hb hoff h4 h5 dp un gd env outer A₀ base h₀ L m s R B F X N T hc hf hk (by omega) (by omega) hret
  refine C.post (fun q hq => ?_) fun r n' P => ?_
  · rcases List.mem_cons.mp hq with rfl | hq
    · exact hD.m4
    · rcases List.mem_cons.mp hq with rfl | hq
      · exact hD.m5
      · exact ((hnw _).mp hq).1
  · obtain ⟨d, u1, u2, c4', oc4, v4, tc4, c5', oc5, v5, tc5, rfl, rfl, hgt, h4', h5', _⟩ := P
    have e4 : c4 = c4' := by
      rcases h4'.2.2 with h | h
      · simp at h
      · simpa using h
    have e5 : c5 = c5' := by
      rcases h5'.2.2 with h | h
      · simp at h
      · simpa using h
    subst e4 e5
    refine ⟨(d, tupO [.int (a.fdiv b) u1, .int (a.fmod b) u2]) :: led, fun q hq => ?_, d, u1, u2, rfl, rfl, fun q hq => ?_⟩
    · rcases List.mem_cons.mp hq with rfl | hq
      · exact .head _
      · rcases hD.off q hq with rfl | rfl | h
        · exact .tail _ (.head _)
        · exact .tail _ (.tail _ (.head _))
        · exact .tail _ (.tail _ (.tail _ (.tail _ (.tail _ ((hnw _).mpr ⟨hq, h⟩)))))
    · rcases hD.off q hq with rfl | rfl | h
      · exact hgt _ (.head _)
      · exact hgt _ (.tail _ (.head _))
      · exact hgt _ (.tail _ (.tail _ ((hnw _).mpr ⟨hq, h⟩)))

end Mine

namespace Mine
example : True := by
  k_with_none
  trivial
local macro_rules | `(tactic| walk_at "M_ENTER") => `(tactic| (refine' code_def ?k1 ?k2 ?k3 ?k4 ?k5 ?kA ?kF ?kK ?k6 ?k7 ?k8 ?k9 ?kB ?_ ?c2 ?c3 ?c4 ?c5; (case kA => exact rfl); (case kF => assumption); (case kK => assumption); (case k1 => k_asm); (case k2 => k_asm); (case k3 => k_asm); (case k4 => k_asm); (case k5 => k_asm); (case k6 => k_is); (case k7 => k_is); (case k8 => ktr_room); (case k9 => first | exact BindsTo.of_eq rfl | exact binds_K (by k_in) rfl (by k_is) rfl rfl rfl | (refine' kp_binds ?kx ?ke; (case kx => k_in); (case ke => exact fun _ => rfl))); (case c5 => decide); (case kB => exact locs rfl); (case c2 => exact rfl); (case c3 => exact rfl); (case c4 => exact rfl); k_whole; intro g' L' h' FG' F' N' B' X' T'; (try dsimp only); (try k_lift B'); (try k_fold)))
local macro_rules | `(tactic| walk_at "M_ENTERC") => `(tactic| (refine' code_defC ?k1 ?k2 ?k3 ?k4 ?k5 ?kA ?kF ?kK ?k6 ?k7 ?k8 ?k9 ?kB ?kD ?_ ?c2 ?c3 ?c4; (case kA => exact rfl); (case kF => assumption); (case kK => assumption); (case k1 => k_asm); (case k2 => k_asm); (case k3 => k_asm); (case k4 => k_asm); (case k5 => k_asm); (case k6 => k_is); (case k7 => k_is); (case k8 => ktr_room); (case k9 => first | exact BindsTo.of_eq rfl | exact binds_K (by k_in) rfl (by k_is) rfl rfl rfl | (refine' kp_binds ?kx ?ke; (case kx => k_in); (case ke => exact fun _ => rfl))); (case kB => exact rfl); (case kD => decide +kernel); (case c2 => exact rfl); (case c3 => exact rfl); (case c4 => exact rfl); k_whole; intro g' L' h' tk' cells' FG' F' N' Y' B' X' T' l1; (try k_lt l1); k_cells Y'; (try simp only [List.cons_append, List.nil_append] at N'); (try dsimp only); (try k_lift B'); (try k_fold)))
local macro_rules | `(tactic| walk_at "M_ENTERN") => `(tactic| (refine' code_nest ?k1 ?k2 ?k3 ?k4 ?k5 ?kA ?kF ?kK ?k6 ?k7 ?k8 ?k9 ?kB ?_ ?c2 ?c3 ?c4 ?c5; (case kA => exact rfl); (case kF => assumption); (case kK => assumption); (case k1 => k_asm); (case k2 => k_asm); (case k3 => k_asm); (case k4 => k_asm); (case k5 => k_asm); (case k6 => k_mem); (case k7 => exact codeRec_news (by k_asm) (by k_mem) (by assumption) (by assumption)); (case k8 => ktr_room); (case k9 => exact BindsTo.of_eq rfl); (case c5 => decide); (case kB => exact locs rfl); (case c2 => exact rfl); (case c3 => exact rfl); (case c4 => exact rfl); k_whole; intro g' L' h' FG' F' N' B' X' T'; (try dsimp only); (try k_lift B'); (try k_fold)))
local macro_rules | `(tactic| k_all) => `(tactic| first | assumption | exact allLt_ne (by assumption) (by omega))
local macro_rules | `(tactic| walk_at "M_SIDE") => `(tactic| ((case kB => k_asm); (case kF => k_asm); (case kX => k_asm); (case kN => k_asm); (case kT => k_asm); (case kc => assumption); (case kf => first | rfl | assumption); (case kk => first | rfl | assumption); (case kd => ktr_room); (case ku => ktr_units)))
local macro_rules | `(tactic| walk_at "M_SIDE2") => `(tactic| ((case kB => k_asm); (case kF => k_asm); (case kX => k_asm); (case kT => k_asm); (case kc => assumption); (case kf => first | rfl | assumption); (case kk => first | rfl | assumption); (case kd => ktr_room); (case ku => ktr_units)))
variable {w : World} {p : Program} {loose : List Str} {mean : ExcName → Option Value} {mg mb : Str → Option Value}
theorem Con.upd {f : Value} {vs : List Value} {kw : List (Str × Value)} {D U : Nat} {l : Addr} {o : Obj} {led : Led} {g : Obj → Led} {Pq : Value → Obj → Prop}
    (C : ∀ news : Led, (∀ q ∈ news, q.1 ≠ l) → Con w p loose mean mg mb f vs kw D U ((l, o) :: news) (fun r n' => ∃ o', n' = (l, o') :: news ∧ Pq r o')) (hU : UpdF l o led g) :
    Con w p loose mean mg mb f vs kw D U led (fun r n' => ∃ o', n' = g o' ∧ Pq r o') := by
  obtain ⟨pre, post, rfl, hg, h1, h2⟩ := hU.split
  refine (C (pre ++ post) (fun q hq => (List.mem_append.mp hq).elim (h1 q) (h2 q))).post (fun q hq => ?_) fun r n' P => ?_
  · rcases List.mem_cons.mp hq with rfl | hq
    · exact List.mem_append.mpr (.inr (.head _))
    · exact (List.mem_append.mp hq).elim (fun h => List.mem_append.mpr (.inl h)) (fun h => List.mem_append.mpr (.inr (.tail _ h)))
  · obtain ⟨o', rfl, hP⟩ := P
    refine ⟨g o', fun q hq => ?_, o', rfl, hP⟩
    rw [hg] at hq
    rcases List.mem_append.mp hq with h | h
    · exact .tail _ (List.mem_append.mpr (.inl h))
    · rcases List.mem_cons.mp h with rfl | h
      · exact .head _
      · exact .tail _ (List.mem_append.mpr (.inr h))
theorem insrU_c {led : Led} {g : Obj → Led} {l : Addr} {vs : List Value} {ns : List Int} {n : Nat} {x : Int} {t2 : Tok} (hi : IntsAre vs ns) (hlen : ns.length < 2 ^ 20 - 1) (hs : Sorted ns) (hU : UpdF l (lstO vs n) led g) :
    Con w p loose mean mg mb (.ref 79) [.ref l, .int x t2] [] 2 40 led (fun r n' => ∃ o', n' = g o' ∧ r = .none ∧ ∃ vs' ns', o' = lstO vs' (n + 1) ∧ IntsAre vs' ns' ∧ Sorted ns' ∧ ns'.Perm (x :: ns)) :=
  Con.upd (fun news hoff => (insr_c hi hlen hs hoff).post (fun _ h => h) fun r n' P => by
    obtain ⟨h1, vs', ns', rfl, h2⟩ := P
    exact ⟨_, fun _ h => h, _, rfl, h1, vs', ns', rfl, h2⟩) hU
theorem inslU_c {led : Led} {g : Obj → Led} {l : Addr} {vs : List Value} {ns : List Int} {n : Nat} {x : Int} {t2 : Tok} (hi : IntsAre vs ns) (hlen : ns.length < 2 ^ 20 - 1) (hs : Sorted ns) (hU : UpdF l (lstO vs n) led g) :
    Con w p loose mean mg mb (.ref 97) [.ref l, .int x t2] [] 2 40 led (fun r n' => ∃ o', n' = g o' ∧ r = .none ∧ ∃ vs' ns', o' = lstO vs' (n + 1) ∧ IntsAre vs' ns' ∧ Sorted ns' ∧ ns'.Perm (x :: ns)) :=
  Con.upd (fun news hoff => (insl_c hi hlen hs hoff).post (fun _ h => h) fun r n' P => by
    obtain ⟨h1, vs', ns', rfl, h2⟩ := P
    exact ⟨_, fun _ h => h, _, rfl, h1, vs', ns', rfl, h2⟩) hU
theorem kl_cut_at : ∀ (l : List Value) (k : Nat) (y : Value), l[k]? = some y → kl_cut l k = some (l.take k, y, l.drop (k + 1))
  | [], k, y, h => by simp at h
  | x :: r, 0, y, h => by simp at h; subst h; rfl
  | x :: r, k + 1, y, h => by
    have := kl_cut_at r k y (by simpa using h)
    simp [kl_cut, this]
theorem pop_l {prog : Program} {A : Around} {E : Value → Shared → Prop} {s : Shared} {h₀ : Heap} {L : Addr} {m : Str → Option Value} {news news' : Led} {l : Addr} {vs : List Value} {ns : List Int} {n : Nat} {i : Int} {u : Tok} {Q : Value → Shared → Prop}
    (F : Fr h₀ L s.heap m) (N : News h₀ L s.heap news) (hI : IntsAre vs ns) (h0 : 0 ≤ i) (h1 : i < ns.length) (hlen : ns.length < 2 ^ 20) (U : Upd l (lstO vs n) (lstO (vs.take i.toNat ++ vs.drop (i.toNat + 1)) (n + 1)) news news')
    (h : ∀ t h', Fr h₀ L h' m → News h₀ L h' news' → IntsAre (vs.take i.toNat ++ vs.drop (i.toNat + 1)) (ns.take i.toNat ++ ns.drop (i.toNat + 1)) → Q (.int (ns.getD i.toNat 0) t) { s with heap := h' }) :
    wpAny (model prog w) A (call (.builtin "list.pop") [.ref l, .int i u]) Q E s := by
  have hk : i.toNat < ns.length := by omega
  obtain ⟨t, ht⟩ := hI.get i.toNat (ns.getD i.toNat 0) (by simp [hk])
  have hl := hI.length
  refine kl_popAt (its := vs.toArray) F N (fitsIx h0 (by omega)) (k := i.toNat) ?_ (kl_cut_at vs i.toNat _ ht) U (fitsSz hI hlen) fun h' F' N' => h t h' F' N' ((hI.take _).append (hI.drop _))
  unfold seqIndex?
  rw [List.size_toArray]
  dsimp only
  have e : (if i < 0 then i + (vs.length : Int) else i) = i := if_neg (by omega)
  rw [e, if_pos (by simp; omega)]

/-- what is shown of a sorted hand -/
def showM (hs : List Int) : List Int :=
  let place := (hs.sum).fmod 4
  let hidden := hs.getD place.toNat 0
  let h1 := hs.take place.toNat ++ hs.drop (place.toNat + 1)
  let order := (hidden - place).fdiv 4
  let h2 := h1.take (order.fdiv 2).toNat ++ h1.drop ((order.fdiv 2).toNat + 1)
  [hidden, h1.getD (order.fdiv 2).toNat 0] ++ (if order.fmod 2 = 1 then h2.reverse else h2)
section
variable {prog : Program} {h₀ h' : Heap} {L I : Addr} {it : Obj} {s₁ : Shared} {tk : Nat} {m' : Str → Option Value} {t : Led} {lp : Addr × Obj} {rest : (Str → Option Value) → Led → Prop}
theorem UnrEnd.mid0 (F : Fr h₀ L h' m') (N : News h₀ L h' ((I, it) :: t)) (ht : ∀ p ∈ t, p.1 ≠ I) (r : rest m' t) : UnrEnd h₀ L s₁ I it rest { s₁ with heap := h', toks := tk } :=
  UnrEnd.intro F N t (fun _ h => h) ht r
theorem UnrEnd.mid1 {a : Addr × Obj} (F : Fr h₀ L h' m') (N : News h₀ L h' (a :: (I, it) :: t)) (ha : a.1 ≠ I) (ht : ∀ p ∈ t, p.1 ≠ I) (r : rest m' (a :: t)) : UnrEnd h₀ L s₁ I it rest { s₁ with heap := h', toks := tk } :=
  UnrEnd.intro F N (a :: t) (fun p hp => by
    rcases List.mem_cons.mp hp with rfl | hp
    · exact .tail _ (.head _)
    · rcases List.mem_cons.mp hp with rfl | hp
      · exact .head _
      · exact .tail _ (.tail _ hp)) (fun p hp => by
    rcases List.mem_cons.mp hp with rfl | hp
    · exact ha
    · exact ht p hp) r
theorem UnrEnd.mid2 {a b : Addr × Obj} (F : Fr h₀ L h' m') (N : News h₀ L h' (a :: b :: (I, it) :: t)) (ha : a.1 ≠ I) (hb : b.1 ≠ I) (ht : ∀ p ∈ t, p.1 ≠ I) (r : rest m' (a :: b :: t)) : UnrEnd h₀ L s₁ I it rest { s₁ with heap := h', toks := tk } :=
  UnrEnd.intro F N (a :: b :: t) (fun p hp => by
    simp only [List.mem_cons] at hp ⊢
    rcases hp with h | h | h | h <;> simp [h]) (fun p hp => by
    rcases List.mem_cons.mp hp with rfl | hp
    · exact ha
    · rcases List.mem_cons.mp hp with rfl | hp
      · exact hb
      · exact ht p hp) r
end
theorem DivIn.cl {c4 c5 x : Addr} {o : Obj} {led : Led} (h : DivIn c4 c5 led) (hx : AllLt x led) : DivIn c4 c5 ((x, o) :: led) :=
  h.cons ⟨(allLt_ne hx (Nat.le_refl _) _ h.m4).symm, (allLt_ne hx (Nat.le_refl _) _ h.m5).symm⟩
theorem bits80 {a : Int} (h : -2 ^ 79 ≤ a ∧ a < 2 ^ 79) : Builtin.Int.intBits a ≤ 80 ∧ Builtin.Int.intBits (Builtin.bitNot a) ≤ 80 := by
  rw [intBits_le_iff, intBits_le_iff]
  unfold Builtin.bitNot
  omega
/-- four of 27 cards, rising -/
def Hand4 (hs : List Int) : Prop := ∃ a b c d, hs = [a, b, c, d] ∧ 0 ≤ a ∧ a < b ∧ b < c ∧ c < d ∧ d < 27
def Cards (rs : List Int) : Prop := rs.Nodup ∧ ∀ r ∈ rs, 0 ≤ r ∧ r < 27
theorem Cards.hand {ns rs : List Int} (h : Cards rs) (hl : rs.length = 4) (hP : ns.Perm rs) (hs : Sorted ns) : Hand4 ns := by
  have hl2 : ns.length = 4 := hP.length_eq.trans hl
  have hn : ns.Nodup := hP.nodup_iff.mpr h.1
  have hb : ∀ r ∈ ns, 0 ≤ r ∧ r < 27 := fun r hr => h.2 r (hP.mem_iff.mp hr)
  match ns, hl2 with
  | [a, b, c, d], _ =>
    have hs' := sorted_iff.mp hs
    simp only [List.pairwise_cons, List.nodup_cons, List.mem_cons, List.not_mem_nil, or_false, forall_eq_or_imp, forall_eq, not_or] at hs' hn hb
    exact ⟨a, b, c, d, rfl, by omega, by omega, by omega, by omega, by omega⟩
theorem ord_le {x : Int} (h : 0 ≤ x ∧ x ≤ 23) : 0 ≤ (x.fdiv 4).fdiv 2 ∧ (x.fdiv 4).fdiv 2 < 3 := by
  rw [Int.fdiv_eq_ediv_of_nonneg _ (by decide), Int.fdiv_eq_ediv_of_nonneg _ (by decide)]
  omega
theorem hand4_get {a b c d i : Int} (h : 0 ≤ a ∧ a < b ∧ b < c ∧ c < d ∧ d < 27) (hi : 0 ≤ i ∧ i < 4) : 0 ≤ [a, b, c, d].getD i.toNat 0 - i ∧ [a, b, c, d].getD i.toNat 0 - i ≤ 23 := by
  have : i = 0 ∨ i = 1 ∨ i = 2 ∨ i = 3 := by omega
  rcases this with rfl | rfl | rfl | rfl <;> simp <;> omega
section
variable {prog : Program} {A : Around} {E : Value → Shared → Prop} {s : Shared} {h₀ : Heap} {L : Addr} {m : Str → Option Value} {news : Led} {l : Addr} {vs : List Value} {ns : List Int} {n : Nat} {g : Obj → Led} {Q : Value → Shared → Prop}
theorem UpdF.at {d : Addr} {o : Obj} (o' : Obj) : ∀ {led : Led} {g : Obj → Led}, UpdF d o led g → Upd d o o' led (g o')
  | _, _, .head h => .head h
  | _, _, .tail h r => .tail h (UpdF.at o' r)
theorem popF {i : Int} {u : Tok} (F : Fr h₀ L s.heap m) (N : News h₀ L s.heap news) (hI : IntsAre vs ns) (h0 : 0 ≤ i) (h1 : i < ns.length) (hlen : ns.length < 2 ^ 20) (U : UpdF l (lstO vs n) news g)
    (h : ∀ t h' x vs' ns', x = ns.getD i.toNat 0 → ns' = ns.take i.toNat ++ ns.drop (i.toNat + 1) → ns'.length + 1 = ns.length → Fr h₀ L h' m → News h₀ L h' (g (lstO vs' (n + 1))) → IntsAre vs' ns' → Q (.int x t) { s with heap := h' }) :
    wpAny (model prog w) A (call (.builtin "list.pop") [.ref l, .int i u]) Q E s :=
  pop_l F N hI h0 h1 hlen (UpdF.at _ U) fun t h' F' N' hI' => h t h' _ _ _ rfl rfl (by simp only [List.length_append, List.length_take, List.length_drop]; omega) F' N' hI'
theorem revF (F : Fr h₀ L s.heap m) (N : News h₀ L s.heap news) (hI : IntsAre vs ns) (hlen : ns.length < 2 ^ 20) (U : UpdF l (lstO vs n) news g)
    (h : ∀ h' vs' ns', ns' = ns.reverse → ns'.length = ns.length → Fr h₀ L h' m → News h₀ L h' (g (lstO vs' n)) → IntsAre vs' ns' → Q .none { s with heap := h' }) :
    wpAny (model prog w) A (call (.builtin "list.reverse") [.ref l]) Q E s :=
  kl_reverse (its := vs.toArray) F N (by simp) (UpdF.at _ U) (by simpa using fitsSz hI hlen) fun h' F' N' => h h' _ _ rfl List.length_reverse F' N' hI.reverse
end
local macro_rules | `(tactic| walk_at "call ref") => `(tactic| k_extra "call ref")
local macro_rules | `(tactic| walk_at "exec For Name Name cons nil") => `(tactic| k_extra "M_FORL")
local macro_rules | `(tactic| walk_at "pyIter ref") => `(tactic| k_extra "M_ITERL")
local macro_rules | `(tactic| walk_at "UnrEnd") => `(tactic| k_extra "M_UNR")
def ShowPost (news : Led) (l : Addr) (n : Nat) (r0 r1 r2 r3 : Int) (t0 t1 t2 t3 : Tok) (r : Value) (n' : Led) : Prop :=
  ∃ x us hs, r = .ref x ∧ n' = (x, lstO us 0) :: (l, lstO [.int r0 t0, .int r1 t1, .int r2 t2, .int r3 t3] n) :: news ∧ AllLt x ((l, lstO [.int r0 t0, .int r1 t1, .int r2 t2, .int r3 t3] n) :: news) ∧ hs.Perm [r3, r2, r1, r0] ∧ Hand4 hs ∧ IntsAre us (showM hs)
set_option maxHeartbeats 0 in
theorem show_c {news : Led} {l c4 c5 : Addr} {n : Nat} {r0 r1 r2 r3 : Int} {t0 t1 t2 t3 : Tok} (hD : DivIn c4 c5 ((l, lstO [.int r0 t0, .int r1 t1, .int r2 t2, .int r3 t3] n) :: news)) (hr : Cards [r3, r2, r1, r0]) :
    Con w p loose mean mg mb (.ref 193) [.ref l] [] 120 5500 ((l, lstO [.int r0 t0, .int r1 t1, .int r2 t2, .int r3 t3] n) :: news) (ShowPost news l n r0 r1 r2 r3 t0 t1 t2 t3) := by
  unfold Con; k_fill; intros; rename_i hret
  k_with_none
  k_dflt (walk_at "M_ENTER")
  k_with "M_FORL" => (k_here; (rename Fr _ _ _ _ => lF'); (with_unfolding_all refine' For_invVF lF' ?k1 ?k2 ?_; (case k1 => exact rfl); (case k2 => exact rfl); k_whole))
  k_with "M_ITERL" => ((with_reducible show wpAny _ _ (pyIter (Value.ref _)) (fun it s₂ => LoopAtV _ _ _ _ _ _ _ _ _ it s₂) _ _); (rename Fr _ _ _ _ => lF'); (rename News _ _ _ _ => lN'); (with_unfolding_all refine iter_listUnr (lo := lstO [.int r0 t0, .int r1 t1, .int r2 t2, .int r3 t3] n) (vs := [.int r0 t0, .int r1 t1, .int r2 t2, .int r3 t3]) (by rfl) lF' lN' (by k_mem) (by rfl) (by rfl) ?_); clear lF' lN'; intro i' l1; (try k_lt l1))
  k_with "M_UNR" => first
    | refine UnrEnd.mid0 (by assumption) (by assumption) (allLt_ne (by assumption) (Nat.le_refl _)) ⟨by k_mem, ?_⟩
    | refine UnrEnd.mid1 (by assumption) (by assumption) (by k_ne) (allLt_ne (by assumption) (Nat.le_refl _)) ⟨by k_mem, ?_⟩
    | refine UnrEnd.mid2 (by assumption) (by assumption) (by k_ne) (by k_ne) (allLt_ne (by assumption) (Nat.le_refl _)) ⟨by k_mem, ?_⟩
  k_with "call ref" => first
    | (k_dflt (refine' Con.use (insrU_c hI9 (by omega) hS9 ?hU) ?kB ?kF ?kX ?kN ?kT ?kc ?kf ?kk ?kd ?ku ?_; walk_at "M_SIDE"; (case hU => k_updF); k_whole); rintro r8 n8 h8 tk8 F8 N8 ⟨o8, rfl, rfl, vs9, ns9, rfl, hI9, hS9, hP9⟩; (replace hP7 := hP9.trans (List.Perm.cons _ hP7)); (have hL9 := hP7.length_eq); (simp only [List.length_cons, List.length_nil] at hL9); (try dsimp only at N8); (try dsimp only))
    | (k_dflt (refine' Con.use (insrU_c .nil (by decide) ?hS ?hU) ?kB ?kF ?kX ?kN ?kT ?kc ?kf ?kk ?kd ?ku ?_; walk_at "M_SIDE"; (case hU => k_updF); (case hS => exact fun i j h1 h2 => absurd h2 (Nat.not_lt_zero _)); k_whole); rintro r8 n8 h8 tk8 F8 N8 ⟨o8, rfl, rfl, vs9, ns9, rfl, hI9, hS9, hP9⟩; (have hP7 := hP9); (have hL9 := hP7.length_eq); (simp only [List.length_cons, List.length_nil] at hL9); (try dsimp only at N8); (try dsimp only))
    | ((have hH := hr.hand rfl hP7 hS9); obtain ⟨ha, hb, hc, hd, rfl, hH⟩ := hH; (have hg := hand4_get (i := [ha, hb, hc, hd].sum.fmod 4) hH ⟨Int.fmod_nonneg_of_pos _ (by decide), Int.fmod_lt_of_pos _ (by decide)⟩); (have hp4 : 0 ≤ [ha, hb, hc, hd].sum.fmod 4 ∧ [ha, hb, hc, hd].sum.fmod 4 < 4 := ⟨Int.fmod_nonneg_of_pos _ (by decide), Int.fmod_lt_of_pos _ (by decide)⟩);
       (k_dflt (refine' Con.use (idiv_c ?hD (bits80 (by simp only [List.sum_cons, List.sum_nil]; omega)) (by decide)) ?kB ?kF ?kX ?kN ?kT ?kc ?kf ?kk ?kd ?ku ?_; walk_at "M_SIDE"; (case hD => exact hD.cl (by assumption)); k_whole)); rintro r8 n8 h8 tk8 F8 N8 ⟨d9, u1, u2, rfl, rfl, l9⟩; (try k_lt l9); (try dsimp only))
    | ((have ho9 := ord_le hg); (k_dflt (refine' Con.use (idiv_c ?hD (bits80 (by omega)) (by decide)) ?kB ?kF ?kX ?kN ?kT ?kc ?kf ?kk ?kd ?ku ?_; walk_at "M_SIDE"; (case hD => exact (hD.cl (by assumption)).cl (by assumption)); k_whole)); rintro r8 n8 h8 tk8 F8 N8 ⟨d9, u1, u2, rfl, rfl, l9⟩; (try k_lt l9); (try dsimp only))
  k_with "call builtin:list.pop" => ((k_dflt (refine' popF ?F ?N hI9 ?h0 ?h1 ?hl ?U ?_; (case F => k_asm); (case N => k_asm); (case U => k_updF); (case h0 => omega); (case h1 => (simp only [List.length_cons, List.length_nil] at *; omega)); (case hl => (simp only [List.length_cons, List.length_nil] at *; omega)))); clear hI9; intro t7 h7 x9 vs9 ns9 hx9 hns9 hL9 F7 N7 hI9; (try rw [← hx9] at hg); (try dsimp only at N7); (try dsimp only))
  k_with "call builtin:list.reverse" => (dsimp only; (k_dflt (refine' revF ?F ?N hI9 ?hl ?U ?_; (case F => k_asm); (case N => k_asm); (case U => k_updF); (case hl => (simp only [List.length_cons, List.length_nil] at *; omega)))); clear hI9; intro h7 vs9 ns9 hns9 hL9 F7 N7 hI9; (try dsimp only at N7); (try dsimp only))
  k_steps
  · rename Int.fmod _ 2 = 1 => hcond; rename _ < _ ∧ _ < _ ∧ _ < _ ∧ _ < _ ∧ _ < _ ∧ AllLt _ _ => lz
    rename News _ _ _ _ => hN; rename Fr _ _ _ _ => hF; rename IntsAre _ _ => hJ
    refine' hret _ ((_, lstO _ 0) :: (l, lstO [.int r0 t0, .int r1 t1, .int r2 t2, .int r3 t3] n) :: news) _ _ hF (newsSub hN ?h1) ⟨_, _, _, rfl, rfl, lz.2.2.2.2, hP7, ⟨_, _, _, _, rfl, hH⟩, ?h2⟩
    case' h2 =>
      subst_vars
      unfold showM
      dsimp only
      rw [if_pos hcond]
      exact hJ
    case' h1 =>
      intro q hq
      rcases List.mem_cons.mp hq with rfl | hq
      · exact .head _
      · exact .tail _ (.tail _ (.tail _ (.tail _ (.tail _ hq))))
  · rename Int.fmod _ 2 ≠ 1 => hcond; rename _ < _ ∧ _ < _ ∧ _ < _ ∧ _ < _ ∧ _ < _ ∧ AllLt _ _ => lz
    rename News _ _ _ _ => hN; rename Fr _ _ _ _ => hF; rename IntsAre _ _ => hJ
    refine' hret _ ((_, lstO _ 0) :: (l, lstO [.int r0 t0, .int r1 t1, .int r2 t2, .int r3 t3] n) :: news) _ _ hF (newsSub hN ?h3) ⟨_, _, _, rfl, rfl, lz.2.2.2.2, hP7, ⟨_, _, _, _, rfl, hH⟩, ?h4⟩
    case' h4 =>
      subst_vars
      unfold showM
      dsimp only
      rw [if_neg hcond]
      exact hJ
    case' h3 =>
      intro q hq
      rcases List.mem_cons.mp hq with rfl | hq
      · exact .head _
      · exact .tail _ (.tail _ (.tail _ (.tail _ (.tail _ hq))))
end Mine

namespace Mine
local macro_rules | `(tactic| walk_at "M_SPARE0") => `(tactic| skip)
local macro_rules | `(tactic| walk_at "M_SPARE1") => `(tactic| skip)
local macro_rules | `(tactic| walk_at "M_SPARE2") => `(tactic| skip)
local macro_rules | `(tactic| walk_at "M_SPARE3") => `(tactic| skip)
local macro_rules | `(tactic| walk_at "M_SPARE4") => `(tactic| skip)
local macro_rules | `(tactic| walk_at "M_SPARE5") => `(tactic| skip)
local macro_rules | `(tactic| walk_at "M_SPARE6") => `(tactic| skip)
local macro_rules | `(tactic| walk_at "M_SPARE7") => `(tactic| skip)
local macro_rules | `(tactic| walk_at "M_SPARE8") => `(tactic| skip)
local macro_rules | `(tactic| walk_at "M_SPARE9") => `(tactic| skip)
local macro_rules | `(tactic| walk_at "M_SPARE10") => `(tactic| skip)
local macro_rules | `(tactic| walk_at "M_SPARE11") => `(tactic| skip)
local macro_rules | `(tactic| walk_at "M_SPARE12") => `(tactic| skip)
local macro_rules | `(tactic| walk_at "M_SPARE13") => `(tactic| skip)
local macro_rules | `(tactic| walk_at "M_SPARE14") => `(tactic| skip)
local macro_rules | `(tactic| walk_at "M_SPARE15") => `(tactic| skip)
local macro_rules | `(tactic| walk_at "M_SPARE16") => `(tactic| skip)
local macro_rules | `(tactic| walk_at "M_SPARE17") => `(tactic| skip)
local macro_rules | `(tactic| walk_at "M_SPARE18") => `(tactic| skip)
local macro_rules | `(tactic| walk_at "M_SPARE19") => `(tactic| skip)
local macro_rules | `(tactic| walk_at "M_SPARE20") => `(tactic| skip)
local macro_rules | `(tactic| walk_at "M_SPARE21") => `(tactic| skip)
local macro_rules | `(tactic| walk_at "M_SPARE22") => `(tactic| skip)
local macro_rules | `(tactic| walk_at "M_SPARE23") => `(tactic| skip)
local macro_rules | `(tactic| walk_at "M_SPARE24") => `(tactic| skip)
example : True := by
  k_with_none
  trivial
local macro_rules | `(tactic| walk_at "M_ENTER") => `(tactic| (refine' code_def ?k1 ?k2 ?k3 ?k4 ?k5 ?kA ?kF ?kK ?k6 ?k7 ?k8 ?k9 ?kB ?_ ?c2 ?c3 ?c4 ?c5; (case kA => exact rfl); (case kF => assumption); (case kK => assumption); (case k1 => k_asm); (case k2 => k_asm); (case k3 => k_asm); (case k4 => k_asm); (case k5 => k_asm); (case k6 => k_is); (case k7 => k_is); (case k8 => ktr_room); (case k9 => first | exact BindsTo.of_eq rfl | exact binds_K (by k_in) rfl (by k_is) rfl rfl rfl | (refine' kp_binds ?kx ?ke; (case kx => k_in); (case ke => exact fun _ => rfl))); (case c5 => decide); (case kB => exact locs rfl); (case c2 => exact rfl); (case c3 => exact rfl); (case c4 => exact rfl); k_whole; intro g' L' h' FG' F' N' B' X' T'; (try dsimp only); (try k_lift B'); (try k_fold)))
local macro_rules | `(tactic| walk_at "M_ENTERC") => `(tactic| (refine' code_defC ?k1 ?k2 ?k3 ?k4 ?k5 ?kA ?kF ?kK ?k6 ?k7 ?k8 ?k9 ?kB ?kD ?_ ?c2 ?c3 ?c4; (case kA => exact rfl); (case kF => assumption); (case kK => assumption); (case k1 => k_asm); (case k2 => k_asm); (case k3 => k_asm); (case k4 => k_asm); (case k5 => k_asm); (case k6 => k_is); (case k7 => k_is); (case k8 => ktr_room); (case k9 => first | exact BindsTo.of_eq rfl | exact binds_K (by k_in) rfl (by k_is) rfl rfl rfl | (refine' kp_binds ?kx ?ke; (case kx => k_in); (case ke => exact fun _ => rfl))); (case kB => exact rfl); (case kD => decide +kernel); (case c2 => exact rfl); (case c3 => exact rfl); (case c4 => exact rfl); k_whole; intro g' L' h' tk' cells' FG' F' N' Y' B' X' T' l1; (try k_lt l1); k_cells Y'; (try simp only [List.cons_append, List.nil_append] at N'); (try dsimp only); (try k_lift B'); (try k_fold)))
local macro_rules | `(tactic| walk_at "M_ENTERN") => `(tactic| (refine' code_nest ?k1 ?k2 ?k3 ?k4 ?k5 ?kA ?kF ?kK ?k6 ?k7 ?k8 ?k9 ?kB ?_ ?c2 ?c3 ?c4 ?c5; (case kA => exact rfl); (case kF => assumption); (case kK => assumption); (case k1 => k_asm); (case k2 => k_asm); (case k3 => k_asm); (case k4 => k_asm); (case k5 => k_asm); (case k6 => k_mem); (case k7 => exact codeRec_news (by k_asm) (by k_mem) (by assumption) (by assumption)); (case k8 => ktr_room); (case k9 => exact BindsTo.of_eq rfl); (case c5 => decide); (case kB => exact locs rfl); (case c2 => exact rfl); (case c3 => exact rfl); (case c4 => exact rfl); k_whole; intro g' L' h' FG' F' N' B' X' T'; (try dsimp only); (try k_lift B'); (try k_fold)))
local macro_rules | `(tactic| k_all) => `(tactic| first | assumption | exact allLt_ne (by assumption) (by omega))
local macro_rules | `(tactic| walk_at "M_SIDE") => `(tactic| ((case kB => k_asm); (case kF => k_asm); (case kX => k_asm); (case kN => k_asm); (case kT => k_asm); (case kc => assumption); (case kf => first | rfl | assumption); (case kk => first | rfl | assumption); (case kd => ktr_room); (case ku => ktr_units)))
local macro_rules | `(tactic| walk_at "M_SIDE2") => `(tactic| ((case kB => k_asm); (case kF => k_asm); (case kX => k_asm); (case kT => k_asm); (case kc => assumption); (case kf => first | rfl | assumption); (case kk => first | rfl | assumption); (case kd => ktr_room); (case ku => ktr_units)))
variable {w : World} {p : Program} {loose : List Str} {mean : ExcName → Option Value} {mg mb : Str → Option Value}
local macro_rules | `(tactic| walk_at "pyIter ref") => `(tactic| k_extra "M_ITERL")
local macro_rules | `(tactic| walk_at "UnrEnd") => `(tactic| k_extra "M_UNR")
def rowM : List Int := [0, 1, 2, 5, 7, 8, 17, 23, 25, 26, 35, 41, 43, 44, 53, 59, 61, 62, 71, 77, 79, 80, 89, 95, 97, 98, 107]
abbrev wayM (key c : Int) : Int := if (c - key.fdiv 9).fmod 12 < (key.fdiv 9 - c).fmod 12 then (c - key.fdiv 9).fmod 12 else (key.fdiv 9 - c).fmod 12
abbrev overM (key c : Int) : Int := if 0 > wayM key c - 2 then 0 else wayM key c - 2
abbrev cardIx (key c : Int) : Int := key.fmod 3 - ((key.fdiv 3).fmod 3 * key.fmod 3 * if 2 < overM key c then 2 else overM key c).fdiv 4
theorem cardIx_ok : ∀ key ∈ rowM, ∀ c ∈ [(0 : Int), 4, 8], 0 ≤ cardIx key c ∧ cardIx key c < 3 := by decide +kernel
abbrev signs3 : Str := Str.ofString "\n\"\\"
theorem item_card {prog : Program} {A : Around} {E : Value → Shared → Prop} {s : Shared} {value slice : Expr} {t u : Tok} {Q : Value → Shared → Prop} {key : Int} (c : Int) (hk : key ∈ rowM) (hc : c ∈ [(0 : Int), 4, 8])
    (h : (1 ≤ (Txt.item signs3 (cardIx key c)).length ∧ (Txt.item signs3 (cardIx key c)).length ≤ 1) → Q (.str (Txt.item signs3 (cardIx key c)) s.toks) { s with toks := s.toks + 1 })
    (hs : subscripted slice false (.str signs3 t) (.int (cardIx key c) u) = operate [.str signs3 t, .int (cardIx key c) u] (getItem (.str signs3 t) (.int (cardIx key c) u)) := by with_unfolding_all rfl)
    (ht : ∀ r, letTemporaryGo value (.str signs3 t) r = pure () := by intro _; with_unfolding_all rfl) :
    wpAny (model prog w) A (subscriptTail value slice (.str signs3 t) (.int (cardIx key c) u)) Q E s := by
  have hb := cardIx_ok key hk c hc
  have hl : (signs3.length : Int) = 3 := by decide
  exact item_str (fitsSsize_of (N := 9223372036854775808) (by omega) (by omega) (Int.le_refl _)) (by omega) (by omega) h hs ht
/-- the three signs of a card -/
def cardM (key : Int) : Str := Str.ofString "" ++ Txt.item signs3 (cardIx key 0) ++ Txt.item signs3 (cardIx key 4) ++ Txt.item signs3 (cardIx key 8)
set_option maxHeartbeats 0 in
theorem card_c {news : Led} {key : Int} {t : Tok} (hk : key ∈ rowM) :
    Con w p loose mean mg mb (.ref 174) [.int key t] [] 3 200 news (fun r n' => (∃ t, r = .str (cardM key) t) ∧ n' = news) := by
  unfold Con; k_fill; intros; rename_i hret
  k_with_none
  k_dflt (walk_at "M_ENTER")
  k_with "M_ITERL" => ((with_reducible show wpAny _ _ (pyIter (Value.ref _)) (fun it s₂ => LoopAtV _ _ _ _ _ _ _ _ _ it s₂) _ _); (rename Fr _ _ _ _ => lF'); (rename News _ _ _ _ => lN'); (with_unfolding_all refine' iter_listUnr (lo := lstO [.int 0 _, .int 4 _, .int 8 _] 0) (vs := [.int 0 _, .int 4 _, .int 8 _]) ?k1 lF' lN' ?k2 ?k3 ?k4 ?_; (case k2 => k_mem); (case k1 => rfl); (case k3 => rfl); (case k4 => rfl)); clear lF' lN'; intro i' l1; (try k_lt l1))
  k_with "M_UNR" => first
    | refine UnrEnd.mid0 (by assumption) (by assumption) (allLt_ne (by assumption) (Nat.le_refl _)) ⟨by k_mem, ?_⟩
    | refine UnrEnd.mid1 (by assumption) (by assumption) (by k_ne) (allLt_ne (by assumption) (Nat.le_refl _)) ⟨by k_mem, ?_⟩
    | refine UnrEnd.mid2 (by assumption) (by assumption) (by k_ne) (by k_ne) (allLt_ne (by assumption) (Nat.le_refl _)) ⟨by k_mem, ?_⟩
  k_with "subscriptTail Name BinOp str int" => first
    | refine item_card 0 hk (by decide) ?_ (by with_unfolding_all rfl) (by intro _; with_unfolding_all rfl); intro _
    | refine item_card 4 hk (by decide) ?_ (by with_unfolding_all rfl) (by intro _; with_unfolding_all rfl); intro _
    | refine item_card 8 hk (by decide) ?_ (by with_unfolding_all rfl) (by intro _; with_unfolding_all rfl); intro _
  k_steps
  rename News _ _ _ _ => hN
  exact hret _ news _ _ (by assumption) (newsSub hN fun q hq => by repeat (first | exact hq | apply List.Mem.tail)) ⟨⟨_, rfl⟩, rfl⟩

end Mine

namespace Mine
example : True := by
  k_with_none
  trivial
local macro_rules | `(tactic| walk_at "M_ENTER") => `(tactic| (refine' code_def ?k1 ?k2 ?k3 ?k4 ?k5 ?kA ?kF ?kK ?k6 ?k7 ?k8 ?k9 ?kB ?_ ?c2 ?c3 ?c4 ?c5; (case kA => exact rfl); (case kF => assumption); (case kK => assumption); (case k1 => k_asm); (case k2 => k_asm); (case k3 => k_asm); (case k4 => k_asm); (case k5 => k_asm); (case k6 => k_is); (case k7 => k_is); (case k8 => ktr_room); (case k9 => first | exact BindsTo.of_eq rfl | exact binds_K (by k_in) rfl (by k_is) rfl rfl rfl | (refine' kp_binds ?kx ?ke; (case kx => k_in); (case ke => exact fun _ => rfl))); (case c5 => decide); (case kB => exact locs rfl); (case c2 => exact rfl); (case c3 => exact rfl); (case c4 => exact rfl); k_whole; intro g' L' h' FG' F' N' B' X' T'; (try dsimp only); (try k_lift B'); (try k_fold)))
local macro_rules | `(tactic| walk_at "M_ENTERC") => `(tactic| (refine' code_defC ?k1 ?k2 ?k3 ?k4 ?k5 ?kA ?kF ?kK ?k6 ?k7 ?k8 ?k9 ?kB ?kD ?_ ?c2 ?c3 ?c4; (case kA => exact rfl); (case kF => assumption); (case kK => assumption); (case k1 => k_asm); (case k2 => k_asm); (case k3 => k_asm); (case k4 => k_asm); (case k5 => k_asm); (case k6 => k_is); (case k7 => k_is); (case k8 => ktr_room); (case k9 => first | exact BindsTo.of_eq rfl | exact binds_K (by k_in) rfl (by k_is) rfl rfl rfl | (refine' kp_binds ?kx ?ke; (case kx => k_in); (case ke => exact fun _ => rfl))); (case kB => exact rfl); (case kD => decide +kernel); (case c2 => exact rfl); (case c3 => exact rfl); (case c4 => exact rfl); k_whole; intro g' L' h' tk' cells' FG' F' N' Y' B' X' T' l1; (try k_lt l1); k_cells Y'; (try simp only [List.cons_append, List.nil_append] at N'); (try dsimp only); (try k_lift B'); (try k_fold)))
local macro_rules | `(tactic| walk_at "M_ENTERN") => `(tactic| (refine' code_nest ?k1 ?k2 ?k3 ?k4 ?k5 ?kA ?kF ?kK ?k6 ?k7 ?k8 ?k9 ?kB ?_ ?c2 ?c3 ?c4 ?c5; (case kA => exact rfl); (case kF => assumption); (case kK => assumption); (case k1 => k_asm); (case k2 => k_asm); (case k3 => k_asm); (case k4 => k_asm); (case k5 => k_asm); (case k6 => k_mem); (case k7 => exact codeRec_news (by k_asm) (by k_mem) (by assumption) (by assumption)); (case k8 => ktr_room); (case k9 => exact BindsTo.of_eq rfl); (case c5 => decide); (case kB => exact locs rfl); (case c2 => exact rfl); (case c3 => exact rfl); (case c4 => exact rfl); k_whole; intro g' L' h' FG' F' N' B' X' T'; (try dsimp only); (try k_lift B'); (try k_fold)))
local macro_rules | `(tactic| k_all) => `(tactic| first | assumption | exact allLt_ne (by assumption) (by omega))
local macro_rules | `(tactic| walk_at "M_SIDE") => `(tactic| ((case kB => k_asm); (case kF => k_asm); (case kX => k_asm); (case kN => k_asm); (case kT => k_asm); (case kc => assumption); (case kf => first | rfl | assumption); (case kk => first | rfl | assumption); (case kd => ktr_room); (case ku => ktr_units)))
local macro_rules | `(tactic| walk_at "M_SIDE2") => `(tactic| ((case kB => k_asm); (case kF => k_asm); (case kX => k_asm); (case kT => k_asm); (case kc => assumption); (case kf => first | rfl | assumption); (case kk => first | rfl | assumption); (case kd => ktr_room); (case ku => ktr_units)))
variable {w : World} {p : Program} {loose : List Str} {mean : ExcName → Option Value} {mg mb : Str → Option Value}
/-- so many choices of `size` lower ranks -/
def choM (top size : Int) : Int := (List.foldl (fun (σ : Int × Unit) k => ((σ.fst * (top - k)).fdiv (k + 1), ())) (1, ()) (rangeInts 0 1 (size - 0).toNat)).fst
set_option maxHeartbeats 0 in
theorem choices_c {news : Led} {top size : Int} {t1 t2 : Tok} (h1 : 0 ≤ top ∧ top < 28) (h2 : 0 ≤ size ∧ size ≤ 4) :
    Con w p loose mean mg mb (.ref 167) [.int top t1, .int size t2] [] 3 40 news (fun r n' => (∃ t, r = .int (choM top size) t) ∧ n' = news) := by
  unfold Con; k_fill; intros; rename_i hret
  k_with_none
  k_dflt (walk_at "M_ENTER")
  k_steps
  exact hret _ _ _ _ (by assumption) (by assumption) ⟨⟨_, rfl⟩, rfl⟩
def choAt (size : Int) (ns : List Int) : List Int := ns.map fun top => choM top size
def ranks27 : List Int := (List.range 27).map fun (n : Nat) => (n : Int)
theorem cho_sorted : ∀ size ∈ [(1 : Int), 2, 3, 4], (choAt size ranks27).Pairwise (· ≤ ·) := by decide +kernel
theorem cho_step : ∀ r : Fin 27, ∀ size : Fin 4, choM ((r : Nat) + 1 : Int) ((size : Nat) + 1 : Int) = choM (r : Nat) ((size : Nat) + 1 : Int) + choM (r : Nat) (size : Nat) := by decide +kernel
theorem cho_zero : ∀ r : Fin 28, choM (r : Nat) 0 = 1 := by decide +kernel
theorem cho_one : ∀ r : Fin 28, choM (r : Nat) 1 = (r : Nat) := by decide +kernel
theorem cho_nonneg : ∀ r : Fin 28, ∀ size : Fin 5, 0 ≤ choM (r : Nat) (size : Nat) := by decide +kernel
theorem cho_top : choM 27 4 = 17550 := by decide +kernel
theorem cho_mono : ∀ r q : Fin 28, ∀ size : Fin 5, (r : Nat) ≤ q → choM (r : Nat) (size : Nat) ≤ choM (q : Nat) (size : Nat) := by decide +kernel

end Mine

namespace Mine
local macro_rules | `(tactic| walk_at "M_SPARE0") => `(tactic| skip)
local macro_rules | `(tactic| walk_at "M_SPARE1") => `(tactic| skip)
local macro_rules | `(tactic| walk_at "M_SPARE2") => `(tactic| skip)
local macro_rules | `(tactic| walk_at "M_SPARE3") => `(tactic| skip)
local macro_rules | `(tactic| walk_at "M_SPARE4") => `(tactic| skip)
local macro_rules | `(tactic| walk_at "M_SPARE5") => `(tactic| skip)
local macro_rules | `(tactic| walk_at "M_SPARE6") => `(tactic| skip)
local macro_rules | `(tactic| walk_at "M_SPARE7") => `(tactic| skip)
local macro_rules | `(tactic| walk_at "M_SPARE8") => `(tactic| skip)
local macro_rules | `(tactic| walk_at "M_SPARE9") => `(tactic| skip)
local macro_rules | `(tactic| walk_at "M_SPARE10") => `(tactic| skip)
local macro_rules | `(tactic| walk_at "M_SPARE11") => `(tactic| skip)
local macro_rules | `(tactic| walk_at "M_SPARE12") => `(tactic| skip)
local macro_rules | `(tactic| walk_at "M_SPARE13") => `(tactic| skip)
local macro_rules | `(tactic| walk_at "M_SPARE14") => `(tactic| skip)
local macro_rules | `(tactic| walk_at "M_SPARE15") => `(tactic| skip)
local macro_rules | `(tactic| walk_at "M_SPARE16") => `(tactic| skip)
local macro_rules | `(tactic| walk_at "M_SPARE17") => `(tactic| skip)
local macro_rules | `(tactic| walk_at "M_SPARE18") => `(tactic| skip)
local macro_rules | `(tactic| walk_at "M_SPARE19") => `(tactic| skip)
local macro_rules | `(tactic| walk_at "M_SPARE20") => `(tactic| skip)
local macro_rules | `(tactic| walk_at "M_SPARE21") => `(tactic| skip)
local macro_rules | `(tactic| walk_at "M_SPARE22") => `(tactic| skip)
local macro_rules | `(tactic| walk_at "M_SPARE23") => `(tactic| skip)
local macro_rules | `(tactic| walk_at "M_SPARE24") => `(tactic| skip)
example : True := by
  k_with_none
  trivial
local macro_rules | `(tactic| walk_at "M_ENTER") => `(tactic| (refine' code_def ?k1 ?k2 ?k3 ?k4 ?k5 ?kA ?kF ?kK ?k6 ?k7 ?k8 ?k9 ?kB ?_ ?c2 ?c3 ?c4 ?c5; (case kA => exact rfl); (case kF => assumption); (case kK => assumption); (case k1 => k_asm); (case k2 => k_asm); (case k3 => k_asm); (case k4 => k_asm); (case k5 => k_asm); (case k6 => k_is); (case k7 => k_is); (case k8 => ktr_room); (case k9 => first | exact BindsTo.of_eq rfl | exact binds_K (by k_in) rfl (by k_is) rfl rfl rfl | (refine' kp_binds ?kx ?ke; (case kx => k_in); (case ke => exact fun _ => rfl))); (case c5 => decide); (case kB => exact locs rfl); (case c2 => exact rfl); (case c3 => exact rfl); (case c4 => exact rfl); k_whole; intro g' L' h' FG' F' N' B' X' T'; (try dsimp only); (try k_lift B'); (try k_fold)))
local macro_rules | `(tactic| walk_at "M_ENTERC") => `(tactic| (refine' code_defC ?k1 ?k2 ?k3 ?k4 ?k5 ?kA ?kF ?kK ?k6 ?k7 ?k8 ?k9 ?kB ?kD ?_ ?c2 ?c3 ?c4; (case kA => exact rfl); (case kF => assumption); (case kK => assumption); (case k1 => k_asm); (case k2 => k_asm); (case k3 => k_asm); (case k4 => k_asm); (case k5 => k_asm); (case k6 => k_is); (case k7 => k_is); (case k8 => ktr_room); (case k9 => first | exact BindsTo.of_eq rfl | exact binds_K (by k_in) rfl (by k_is) rfl rfl rfl | (refine' kp_binds ?kx ?ke; (case kx => k_in); (case ke => exact fun _ => rfl))); (case kB => exact rfl); (case kD => decide +kernel); (case c2 => exact rfl); (case c3 => exact rfl); (case c4 => exact rfl); k_whole; intro g' L' h' tk' cells' FG' F' N' Y' B' X' T' l1; (try k_lt l1); k_cells Y'; (try simp only [List.cons_append, List.nil_append] at N'); (try dsimp only); (try k_lift B'); (try k_fold)))
local macro_rules | `(tactic| walk_at "M_ENTERN") => `(tactic| (refine' code_nest ?k1 ?k2 ?k3 ?k4 ?k5 ?kA ?kF ?kK ?k6 ?k7 ?k8 ?k9 ?kB ?_ ?c2 ?c3 ?c4 ?c5; (case kA => exact rfl); (case kF => assumption); (case kK => assumption); (case k1 => k_asm); (case k2 => k_asm); (case k3 => k_asm); (case k4 => k_asm); (case k5 => k_asm); (case k6 => k_mem); (case k7 => exact codeRec_news (by k_asm) (by k_mem) (by assumption) (by assumption)); (case k8 => ktr_room); (case k9 => exact BindsTo.of_eq rfl); (case c5 => decide); (case kB => exact locs rfl); (case c2 => exact rfl); (case c3 => exact rfl); (case c4 => exact rfl); k_whole; intro g' L' h' FG' F' N' B' X' T'; (try dsimp only); (try k_lift B'); (try k_fold)))
local macro_rules | `(tactic| k_all) => `(tactic| first | assumption | exact allLt_ne (by assumption) (by omega))
local macro_rules | `(tactic| walk_at "M_SIDE") => `(tactic| ((case kB => k_asm); (case kF => k_asm); (case kX => k_asm); (case kN => k_asm); (case kT => k_asm); (case kc => assumption); (case kf => first | rfl | assumption); (case kk => first | rfl | assumption); (case kd => ktr_room); (case ku => ktr_units)))
local macro_rules | `(tactic| walk_at "M_SIDE2") => `(tactic| ((case kB => k_asm); (case kF => k_asm); (case kX => k_asm); (case kT => k_asm); (case kc => assumption); (case kf => first | rfl | assumption); (case kk => first | rfl | assumption); (case kd => ktr_room); (case ku => ktr_units)))
variable {w : World} {p : Program} {loose : List Str} {mean : ExcName → Option Value} {mg mb : Str → Option Value}
theorem wpAny_callBorrowed {M : Model} {A : Around} {E : Value → Shared → Prop} {s : Shared} {f : Value} {pos : List Value} {Q : Value → Shared → Prop}
    (hc : codeAny M A (.call f ⟨pos, []⟩) (fun r s' => match r with | .ok (.ret v) => Q v s' | .ok _ => False | .error e => E e s') s) :
    wpAny M A (callBorrowed f pos) Q E s := fun Γ p hΓ => by
  have h1 := hc _ p rfl (hΓ.enter _ none p (by intro x; cases x))
  unfold callBorrowed
  rw [Sem.wp]
  refine wpCode_mono (fun r s' h => ?_) h1
  cases r with
  | ok f => cases f <;> simp_all [Sem.wp]
  | error e => simpa [Sem.wp] using h
theorem slot_ci_next : Slot "callable_iterator" "__next__" "callable_iterator.__next__" :=
  .of (owner := "callable_iterator") (n := "__next__") (by rw [typeLookup_type, builtinLookup_eq_fast]; kernel_rfl) (by decide +kernel) (by decide +kernel) (by decide +kernel)
    (by first | exact .inl (by decide +kernel) | exact .inr (by decide +kernel)) (by rw [isSubtype_type]; kernel_rfl)
theorem entry_ci_next : entryFor table "callable_iterator.__next__" = some Builtin.«callable_iterator.__next__» := entryFor_of_tree (by kernel_rfl)
theorem owner_ci : Manifest.owners.lookup (String.ofList ['r', 'o', 't', 'a', 'r', 'e', 't', 'i', '_', 'e', 'l', 'b', 'a', 'l', 'l', 'a', 'c'].reverse) = some Manifest.sig_callable_iterator := by kernel_rfl
theorem args_ci_next_1 (a : Value) : argsOk "callable_iterator.__next__" ⟨[a], []⟩ := by
  unfold argsOk; rw [signature?_of (id := "callable_iterator.__next__") (n := ['_', '_', 't', 'x', 'e', 'n', '_', '_']) (o := ['r', 'o', 't', 'a', 'r', 'e', 't', 'i', '_', 'e', 'l', 'b', 'a', 'l', 'l', 'a', 'c']) (by kernel_rfl) owner_ci]; kernel_rfl
theorem slot_ci_iter : Slot "callable_iterator" "__iter__" "callable_iterator.__iter__" :=
  .of (owner := "callable_iterator") (n := "__iter__") (by rw [typeLookup_type, builtinLookup_eq_fast]; kernel_rfl) (by decide +kernel) (by decide +kernel) (by decide +kernel)
    (by first | exact .inl (by decide +kernel) | exact .inr (by decide +kernel)) (by rw [isSubtype_type]; kernel_rfl)
theorem args_ci_iter_1 (a : Value) : argsOk "callable_iterator.__iter__" ⟨[a], []⟩ := by
  unfold argsOk; rw [signature?_of (id := "callable_iterator.__iter__") (n := ['_', '_', 'r', 'e', 't', 'i', '_', '_']) (o := ['r', 'o', 't', 'a', 'r', 'e', 't', 'i', '_', 'e', 'l', 'b', 'a', 'l', 'l', 'a', 'c']) (by kernel_rfl) owner_ci]; kernel_rfl
theorem entry_ci_iter : entryFor table "callable_iterator.__iter__" = some Builtin.«dict_keyiterator.__iter__» :=
  entryFor_alias (id' := "dict_keyiterator.__iter__") (by kernel_rfl) (by first | rfl | decide +kernel | (unfold String.splitOn; simp +decide [String.splitOnAux])) (by decide +kernel) (by kernel_rfl)
abbrev ciO (f x : Value) (e : Bool) : Obj := { cls := .type "callable_iterator", data := .fields #[f, x, .bool e] }
def CiOf (o : Obj) (f x : Value) (e : Bool) : Prop := o.cls = .type "callable_iterator" ∧ o.data = .fields #[f, x, .bool e]
section
variable {prog : Program} {A : Around} {E : Value → Shared → Prop} {s : Shared} {h₀ : Heap} {L I : Addr} {m : Str → Option Value} {news rest : Led} {o : Obj}
theorem CiOf.typeIs {h : Heap} {f x : Value} {e : Bool} {g} {d} {t} {os} (hR : CiOf o f x e) (hI : h.get? I = some o) : Shared.TypeIs ⟨h, g, d, t, os⟩ (.ref I) "callable_iterator" := ⟨o, hI, hR.1⟩
theorem pyIter_ci {f x : Value} {e : Bool} {Q : Value → Shared → Prop} (hI : s.heap.get? I = some o) (hR : CiOf o f x e) (h : Q (.ref I) s) : wpAny (model prog w) A (pyIter (.ref I)) Q E s := by
  have hT : s.TypeIs (.ref I) "callable_iterator" := ⟨o, hI, hR.1⟩
  refine wpAny_pyIter_slot hT slot_ci_iter (wpAny_call_entry slot_ci_iter hT entry_ci_iter ?_ (args_ci_iter_1 _))
  show wpAny _ _ (ret (.ref I)) _ _ s
  exact wpAny_pure ⟨_, rfl, "callable_iterator", _, hT, slot_ci_next.lookup, h⟩
/-- the end of a walk: the exception's two objects, nothing else -/
theorem stop_any {α : Type} {Q : α → Shared → Prop} {E' : Value → Shared → Prop} (hh : A.handled = none)
    (hE : ∀ e h', (∀ b o, s.heap.get? b = some o → h'.get? b = some o) → Shared.TypeIs { s with heap := h' } e "StopIteration" → E' e { s with heap := h' }) :
    wpAny (model prog w) A (Builtin.SmallTypes.stopIteration : Sem α) Q E' s := by
  first
  | show wpAny _ _ (newExc (.type "StopIteration") [] >>= _) _ _ _
  | unfold Builtin.SmallTypes.stopIteration
  refine wpAny_bind ?_
  simp only [newExc, newTuple]
  refine wpAny_bind (wpAny_newObj_type ?_ (by size_fits))
  refine wpAny_bind (m := firstArgMember _ _) (wpAny_of_eq (a := Value.none) (by first | rfl | (simp only [firstArgMember]; rfl)) ?_)
  refine wpAny_newObj_type ?_ (by size_fits)
  simp only [raiseNew]
  refine wpAny_bind (wpAny_handled ?_)
  rw [hh]
  refine wpAny_bind (wpAny_pure (wpAny_throw ?_))
  refine hE _ _ (fun b o e => Heap.get?_push_of_some _ (Heap.get?_push_of_some _ e)) ⟨_, Heap.get?_push_size _ rfl, rfl⟩
end

end Mine

namespace Mine
example : True := by
  k_with_none
  trivial
local macro_rules | `(tactic| walk_at "M_ENTER") => `(tactic| (refine' code_def ?k1 ?k2 ?k3 ?k4 ?k5 ?kA ?kF ?kK ?k6 ?k7 ?k8 ?k9 ?kB ?_ ?c2 ?c3 ?c4 ?c5; (case kA => exact rfl); (case kF => assumption); (case kK => assumption); (case k1 => k_asm); (case k2 => k_asm); (case k3 => k_asm); (case k4 => k_asm); (case k5 => k_asm); (case k6 => k_is); (case k7 => k_is); (case k8 => ktr_room); (case k9 => first | exact BindsTo.of_eq rfl | exact binds_K (by k_in) rfl (by k_is) rfl rfl rfl | (refine' kp_binds ?kx ?ke; (case kx => k_in); (case ke => exact fun _ => rfl))); (case c5 => decide); (case kB => exact locs rfl); (case c2 => exact rfl); (case c3 => exact rfl); (case c4 => exact rfl); k_whole; intro g' L' h' FG' F' N' B' X' T'; (try dsimp only); (try k_lift B'); (try k_fold)))
local macro_rules | `(tactic| walk_at "M_ENTERC") => `(tactic| (refine' code_defC ?k1 ?k2 ?k3 ?k4 ?k5 ?kA ?kF ?kK ?k6 ?k7 ?k8 ?k9 ?kB ?kD ?_ ?c2 ?c3 ?c4; (case kA => exact rfl); (case kF => assumption); (case kK => assumption); (case k1 => k_asm); (case k2 => k_asm); (case k3 => k_asm); (case k4 => k_asm); (case k5 => k_asm); (case k6 => k_is); (case k7 => k_is); (case k8 => ktr_room); (case k9 => first | exact BindsTo.of_eq rfl | exact binds_K (by k_in) rfl (by k_is) rfl rfl rfl | (refine' kp_binds ?kx ?ke; (case kx => k_in); (case ke => exact fun _ => rfl))); (case kB => exact rfl); (case kD => decide +kernel); (case c2 => exact rfl); (case c3 => exact rfl); (case c4 => exact rfl); k_whole; intro g' L' h' tk' cells' FG' F' N' Y' B' X' T' l1; (try k_lt l1); k_cells Y'; (try simp only [List.cons_append, List.nil_append] at N'); (try dsimp only); (try k_lift B'); (try k_fold)))
local macro_rules | `(tactic| walk_at "M_ENTERN") => `(tactic| (refine' code_nest ?k1 ?k2 ?k3 ?k4 ?k5 ?kA ?kF ?kK ?k6 ?k7 ?k8 ?k9 ?kB ?_ ?c2 ?c3 ?c4 ?c5; (case kA => exact rfl); (case kF => assumption); (case kK => assumption); (case k1 => k_asm); (case k2 => k_asm); (case k3 => k_asm); (case k4 => k_asm); (case k5 => k_asm); (case k6 => k_mem); (case k7 => exact codeRec_news (by k_asm) (by k_mem) (by assumption) (by assumption)); (case k8 => ktr_room); (case k9 => exact BindsTo.of_eq rfl); (case c5 => decide); (case kB => exact locs rfl); (case c2 => exact rfl); (case c3 => exact rfl); (case c4 => exact rfl); k_whole; intro g' L' h' FG' F' N' B' X' T'; (try dsimp only); (try k_lift B'); (try k_fold)))
local macro_rules | `(tactic| k_all) => `(tactic| first | assumption | exact allLt_ne (by assumption) (by omega))
local macro_rules | `(tactic| walk_at "M_SIDE") => `(tactic| ((case kB => k_asm); (case kF => k_asm); (case kX => k_asm); (case kN => k_asm); (case kT => k_asm); (case kc => assumption); (case kf => first | rfl | assumption); (case kk => first | rfl | assumption); (case kd => ktr_room); (case ku => ktr_units)))
local macro_rules | `(tactic| walk_at "M_SIDE2") => `(tactic| ((case kB => k_asm); (case kF => k_asm); (case kX => k_asm); (case kT => k_asm); (case kc => assumption); (case kf => first | rfl | assumption); (case kk => first | rfl | assumption); (case kd => ktr_room); (case ku => ktr_units)))
variable {w : World} {p : Program} {loose : List Str} {mean : ExcName → Option Value} {mg mb : Str → Option Value}
open Builtin Builtin.ObjectAttr
theorem store_function : StoreFacts "function" [.type "function", .type "object"] "object.__setattr__" "object" where
  mro := by rw [mroOf_type]; kernel_rfl
  slot := .of (owner := "object") (n := "__setattr__") (by rw [typeLookup_type, builtinLookup_eq_fast]; kernel_rfl) (by decide +kernel) (by decide +kernel) (by decide +kernel) (by first | exact .inl (by decide +kernel) | exact .inr (by decide +kernel)) (by rw [isSubtype_type]; kernel_rfl)
  entry := F.store_object.entry
  kind := F.store_object.kind
  split := F.store_object.split
  hasOwner := by decide +kernel
  args := F.store_object.args
  passes := fun self => by kernel_rfl
theorem fn_noread : typeLookup (.type "function") (Str.ofString "read") = pure none := by rw [typeLookup_type, builtinLookup_eq_fast]; kernel_rfl
section
variable {prog : Program} {A : Around} {E : Value → Shared → Prop} {h : Heap} {g : Array GenState} {d : Drawn} {t : Nat} {os : OsState}
theorem fn_store {f : Addr} {o : Obj} {name : Str} {v : Value} {Q : Unit → Shared → Prop} (hx : h.get? f = some o) (hc : o.cls = .type "function") (hdn : o.dict = none) (hda : ∀ c, o.data ≠ .cls c) (hB : typeLookup (.type "function") name = pure none)
    (hq : ∀ h' tk' oD, h'.get? f = some { cls := o.cls, dict := some h.objs.size, data := o.data, slots := o.slots } → h'.get? h.objs.size = some oD → LCg.NsObj oD (fun y => if y = name then some v else none) → (∀ b o, b ≠ f → h.get? b = some o → h'.get? b = some o) → Q () ⟨h', g, d, tk', os⟩) :
    wpAny (model prog w) A (setAttr (.ref f) name v) Q E ⟨h, g, d, t, os⟩ := by
  have hT : Shared.TypeIs ⟨h, g, d, t, os⟩ (.ref f) "function" := ⟨o, hx, hc⟩
  have hpass := store_function.passes (.ref f)
  unfold setAttr
  refine wpAny_bind ?_
  unfold mkText
  refine wpAny_bind (wpAny_fresh' (wpAny_pure ?_))
  refine wpAny_bind (wpAny_callSpecial?_slot ⟨o, hx, hc⟩ store_function.slot (wpAny_call_entry store_function.slot ⟨o, hx, hc⟩ store_function.entry ?_ (store_function.args ..)))
  unfold Builtin.«object.__setattr__»
  have hB' := hB
  repeat (first | rw [refuse_eq] | (rw [store_function.mro]) | (rw [hpass]) | rw [hB] | (with_reducible refine wpAny_loadPart_at hx ?_; rw [hc]) | wp_step)
  rw [hdn, if_neg (by simp only [typeHasDict]; decide +kernel)]
  split
  · rename_i hcd
    cases hcd
  split
  · rename_i c hcd
    exact absurd hcd (hda c)
  · have hx₁ : (h.push { cls := .type "dict", data := .dict #[] }).get? f = some o := Heap.get?_push_of_some _ hx
    have hxs : f ≠ h.objs.size := Nat.ne_of_lt (Heap.lt_size hx)
    refine wpAny_bind (wpAny_alloc' ?_)
    refine wpAny_bind (wpAny_update' hx₁ ?_)
    unfold dictMade
    first
    | refine wpAny_pure ?_
    | (refine wpAny_bind ?_; refine wpAny_pure ?_)
    have hgd : ((h.push { cls := .type "dict", data := .dict #[] }).update f fun o => { cls := o.cls, dict := some h.objs.size, data := o.data, slots := o.slots }).get? h.objs.size
        = some { cls := .type "dict", data := .dict #[] } :=
      (Heap.get?_update_ne _ _ _ _ hxs.symm).trans (Heap.get?_push_at rfl rfl)
    have hnd : ((h.push { cls := .type "dict", data := .dict #[] }).update f fun o => { cls := o.cls, dict := some h.objs.size, data := o.data, slots := o.slots }).Ns h.objs.size (fun _ => none) :=
      ⟨_, #[], _, hgd, rfl, fun e he => absurd he (by simp), fun _ => rfl⟩
    show wpAny _ _ (storeInDict h.objs.size (.str name t) name v) _ _ _
    unfold storeInDict newKeyGuard
    refine wpAny_bind (wpAny_pure (wpAny_bind (wpAny_nsSet1 (Heap.Ns1.of_empty hnd) fun h' hn' hs => ?_)))
    obtain ⟨oD, esD, epD, hoD, hdD, hcD⟩ := hn'.count (Within.cons name v Within.nil)
    refine wpAny_bind (wpAny_lookBehind hoD (by rw [hdD]; exact pastItsLine_dict (Nat.le_trans hcD (by rw [List.length_cons, List.length_nil, sizeLine_eq]; omega))) ?_)
    have hx' : h'.get? f = some { cls := o.cls, dict := some h.objs.size, data := o.data, slots := o.slots } := by
      refine (hs.2 f hxs).trans (Heap.get?_update_self _ hx₁ ?_)
      have hfr := (Heap.get?_some_iff.mp hx).2
      obtain ⟨oc, od, odt, osl⟩ := o
      cases odt <;> first | rfl | exact hfr
    obtain ⟨o', es, ep, e1, e2, e3, eu, e4⟩ := hn'
    refine wpAny_pure ⟨_, rfl, wpAny_pure (hq h' _ o' hx' e1 ⟨es, ep, e2, e3, e4⟩ fun b ob hbx hb => ?_)⟩
    exact (hs.2 b (Nat.ne_of_lt (Heap.lt_size hb))).trans ((Heap.get?_update_ne _ _ _ _ hbx).trans (Heap.get?_push_of_some _ hb))
theorem slot_fn_ga : typeLookup (.type "function") (Str.ofString "__getattribute__") = pure (some (.builtin "object.__getattribute__")) := by rw [typeLookup_type, builtinLookup_eq_fast]; kernel_rfl
theorem slot_fn_nga : typeLookup (.type "function") (Str.ofString "__getattr__") = pure none := by rw [typeLookup_type, builtinLookup_eq_fast]; kernel_rfl
theorem slot_fn_getattribute : Slot "function" "__getattribute__" "object.__getattribute__" :=
  .of (owner := "object") (n := "__getattribute__") (by rw [typeLookup_type, builtinLookup_eq_fast]; kernel_rfl) (by decide +kernel) (by decide +kernel) (by decide +kernel) (by first | exact .inl (by decide +kernel) | exact .inr (by decide +kernel)) (by rw [isSubtype_type]; kernel_rfl)
theorem entry_object_ga : entryFor table "object.__getattribute__" = some Builtin.«object.__getattribute__» := entryFor_of_tree (by kernel_rfl)
theorem args_object_ga (a b : Value) : argsOk "object.__getattribute__" ⟨[a, b], []⟩ := by unfold argsOk; kernel_rfl
theorem fn_ga {f dx b : Addr} {o oD : Obj} {mA : Str → Option Value} {name : Str} {u : Tok} {Q : Fin → Shared → Prop} (hx : h.get? f = some o) (hc : o.cls = .type "function") (hdn : o.dict = some dx) (hda : ∀ c, o.data ≠ .cls c) (hB : typeLookup (.type "function") name = pure none)
    (hdx : h.get? dx = some oD) (hm : LCg.NsObj oD mA) (hv : mA name = some (.ref b)) (hq : Q (.done (.ret (.ref b))) ⟨h, g, d, t, os⟩) :
    wpAny (model prog w) A (Builtin.«object.__getattribute__» ⟨[.ref f, .str name u], []⟩) Q E ⟨h, g, d, t, os⟩ := by
  have hT : Shared.TypeIs ⟨h, g, d, t, os⟩ (.ref f) "function" := ⟨o, hx, hc⟩
  have hns : h.Ns dx mA := hm.ns hdx
  unfold Builtin.«object.__getattribute__»
  repeat (any_goals (first | assumption | rw [hdn] | (with_reducible refine wpAny_loadPart_at hx ?_; rw [hc]) | (with_reducible refine wpAny_nsGet hns ?_; rw [hv]) | wp_step))
  split
  · rename_i c hcd
    exact absurd hcd (hda c)
  · repeat (any_goals (first | assumption | (with_reducible refine wpAny_loadPart_at hx ?_; rw [hc, hdn]) | (with_reducible refine wpAny_nsGet hns ?_; rw [hv]) | wp_step))
set_option maxHeartbeats 4000000 in
/-- an attribute of a function's own, called -/
theorem fn_method {f dx b : Addr} {o oD : Obj} {mA : Str → Option Value} {name : Str} {pl : Sem Bool} {Q : Value × List Value → Shared → Prop} (hx : h.get? f = some o) (hc : o.cls = .type "function") (hdn : o.dict = some dx) (hda : ∀ c, o.data ≠ .cls c) (hB : typeLookup (.type "function") name = pure none)
    (hdx : h.get? dx = some oD) (hm : LCg.NsObj oD mA) (hv : mA name = some (.ref b)) (hq : ∀ tk, Q (.ref b, []) ⟨h, g, d, tk, os⟩) :
    wpAny (model prog w) A (getMethod (.ref f) name pl) Q E ⟨h, g, d, t, os⟩ := by
  have hT : ∀ tk, Shared.TypeIs ⟨h, g, d, tk, os⟩ (.ref f) "function" := fun _ => ⟨o, hx, hc⟩
  have f4 := slot_fn_getattribute.bind (.ref f)
  have f3 := slot_fn_ga
  have f2 := slot_fn_nga
  have hcan : (Manifest.canonical "object.__getattribute__" != "object.__getattribute__") = false := by decide +kernel
  unfold getMethod
  refine wpAny_bind (wpAny_specialOf (hT _) slot_fn_ga ?_)
  dsimp only
  rw [if_neg (by rw [hcan]; exact Bool.false_ne_true)]
  refine wpAny_bind (wpAny_specialOf (hT _) slot_fn_nga ?_)
  rw [if_neg (by exact Bool.false_ne_true)]
  refine wpAny_bind (wpAny_specialOf (hT _) hB ?_)
  dsimp only
  clear hcan
  unfold getAttr getAttrBy
  repeat (any_goals (first | assumption | exact hT _ | with_reducible refine wpAny_typeOf (hT _) ?_ | ((with_reducible show wpAny _ _ (call (Value.builtin "object.__getattribute__") _ _) _ _ _); refine wpAny_call_entry slot_fn_getattribute (hT _) entry_object_ga (fn_ga hx hc hdn hda hB hdx hm hv ?_) (args_object_ga _ _); refine ⟨_, rfl, ?_⟩) | wp_step))
  exact hq _
end

end Mine

namespace Mine
local macro_rules | `(tactic| walk_at "M_SPARE0") => `(tactic| skip)
local macro_rules | `(tactic| walk_at "M_SPARE1") => `(tactic| skip)
local macro_rules | `(tactic| walk_at "M_SPARE2") => `(tactic| skip)
local macro_rules | `(tactic| walk_at "M_SPARE3") => `(tactic| skip)
local macro_rules | `(tactic| walk_at "M_SPARE4") => `(tactic| skip)
local macro_rules | `(tactic| walk_at "M_SPARE5") => `(tactic| skip)
local macro_rules | `(tactic| walk_at "M_SPARE6") => `(tactic| skip)
local macro_rules | `(tactic| walk_at "M_SPARE7") => `(tactic| skip)
local macro_rules | `(tactic| walk_at "M_SPARE8") => `(tactic| skip)
local macro_rules | `(tactic| walk_at "M_SPARE9") => `(tactic| skip)
local macro_rules | `(tactic| walk_at "M_SPARE10") => `(tactic| skip)
local macro_rules | `(tactic| walk_at "M_SPARE11") => `(tactic| skip)
local macro_rules | `(tactic| walk_at "M_SPARE12") => `(tactic| skip)
local macro_rules | `(tactic| walk_at "M_SPARE13") => `(tactic| skip)
local macro_rules | `(tactic| walk_at "M_SPARE14") => `(tactic| skip)
local macro_rules | `(tactic| walk_at "M_SPARE15") => `(tactic| skip)
local macro_rules | `(tactic| walk_at "M_SPARE16") => `(tactic| skip)
local macro_rules | `(tactic| walk_at "M_SPARE17") => `(tactic| skip)
local macro_rules | `(tactic| walk_at "M_SPARE18") => `(tactic| skip)
local macro_rules | `(tactic| walk_at "M_SPARE19") => `(tactic| skip)
local macro_rules | `(tactic| walk_at "M_SPARE20") => `(tactic| skip)
local macro_rules | `(tactic| walk_at "M_SPARE21") => `(tactic| skip)
local macro_rules | `(tactic| walk_at "M_SPARE22") => `(tactic| skip)
local macro_rules | `(tactic| walk_at "M_SPARE23") => `(tactic| skip)
local macro_rules | `(tactic| walk_at "M_SPARE24") => `(tactic| skip)
example : True := by
  k_with_none
  trivial
local macro_rules | `(tactic| walk_at "M_ENTER") => `(tactic| (refine' code_def ?k1 ?k2 ?k3 ?k4 ?k5 ?kA ?kF ?kK ?k6 ?k7 ?k8 ?k9 ?kB ?_ ?c2 ?c3 ?c4 ?c5; (case kA => exact rfl); (case kF => assumption); (case kK => assumption); (case k1 => k_asm); (case k2 => k_asm); (case k3 => k_asm); (case k4 => k_asm); (case k5 => k_asm); (case k6 => k_is); (case k7 => k_is); (case k8 => ktr_room); (case k9 => first | exact BindsTo.of_eq rfl | exact binds_K (by k_in) rfl (by k_is) rfl rfl rfl | (refine' kp_binds ?kx ?ke; (case kx => k_in); (case ke => exact fun _ => rfl))); (case c5 => decide); (case kB => exact locs rfl); (case c2 => exact rfl); (case c3 => exact rfl); (case c4 => exact rfl); k_whole; intro g' L' h' FG' F' N' B' X' T'; (try dsimp only); (try k_lift B'); (try k_fold)))
local macro_rules | `(tactic| walk_at "M_ENTERC") => `(tactic| (refine' code_defC ?k1 ?k2 ?k3 ?k4 ?k5 ?kA ?kF ?kK ?k6 ?k7 ?k8 ?k9 ?kB ?kD ?_ ?c2 ?c3 ?c4; (case kA => exact rfl); (case kF => assumption); (case kK => assumption); (case k1 => k_asm); (case k2 => k_asm); (case k3 => k_asm); (case k4 => k_asm); (case k5 => k_asm); (case k6 => k_is); (case k7 => k_is); (case k8 => ktr_room); (case k9 => first | exact BindsTo.of_eq rfl | exact binds_K (by k_in) rfl (by k_is) rfl rfl rfl | (refine' kp_binds ?kx ?ke; (case kx => k_in); (case ke => exact fun _ => rfl))); (case kB => exact rfl); (case kD => decide +kernel); (case c2 => exact rfl); (case c3 => exact rfl); (case c4 => exact rfl); k_whole; intro g' L' h' tk' cells' FG' F' N' Y' B' X' T' l1; (try k_lt l1); k_cells Y'; (try simp only [List.cons_append, List.nil_append] at N'); (try dsimp only); (try k_lift B'); (try k_fold)))
local macro_rules | `(tactic| walk_at "M_ENTERN") => `(tactic| (refine' code_nest ?k1 ?k2 ?k3 ?k4 ?k5 ?kA ?kF ?kK ?k6 ?k7 ?k8 ?k9 ?kB ?_ ?c2 ?c3 ?c4 ?c5; (case kA => exact rfl); (case kF => assumption); (case kK => assumption); (case k1 => k_asm); (case k2 => k_asm); (case k3 => k_asm); (case k4 => k_asm); (case k5 => k_asm); (case k6 => k_mem); (case k7 => exact codeRec_news (by k_asm) (by k_mem) (by assumption) (by assumption)); (case k8 => ktr_room); (case k9 => exact BindsTo.of_eq rfl); (case c5 => decide); (case kB => exact locs rfl); (case c2 => exact rfl); (case c3 => exact rfl); (case c4 => exact rfl); k_whole; intro g' L' h' FG' F' N' B' X' T'; (try dsimp only); (try k_lift B'); (try k_fold)))
local macro_rules | `(tactic| k_all) => `(tactic| first | assumption | exact allLt_ne (by assumption) (by omega))
local macro_rules | `(tactic| walk_at "M_SIDE") => `(tactic| ((case kB => k_asm); (case kF => k_asm); (case kX => k_asm); (case kN => k_asm); (case kT => k_asm); (case kc => assumption); (case kf => first | rfl | assumption); (case kk => first | rfl | assumption); (case kd => ktr_room); (case ku => ktr_units)))
local macro_rules | `(tactic| walk_at "M_SIDE2") => `(tactic| ((case kB => k_asm); (case kF => k_asm); (case kX => k_asm); (case kT => k_asm); (case kc => assumption); (case kf => first | rfl | assumption); (case kk => first | rfl | assumption); (case kd => ktr_room); (case ku => ktr_units)))
variable {w : World} {p : Program} {loose : List Str} {mean : ExcName → Option Value} {mg mb : Str → Option Value}
section
variable {prog : Program} {h₀ h' : Heap} {L I : Addr} {it : Obj} {s₁ : Shared} {tk : Nat} {m' : Str → Option Value} {t : Led} {rest : (Str → Option Value) → Led → Prop}
theorem UnrEnd.mid3 {a b c : Addr × Obj} (F : Fr h₀ L h' m') (N : News h₀ L h' (a :: b :: c :: (I, it) :: t)) (ha : a.1 ≠ I) (hb : b.1 ≠ I) (hc : c.1 ≠ I) (ht : ∀ p ∈ t, p.1 ≠ I) (r : rest m' (a :: b :: c :: t)) : UnrEnd h₀ L s₁ I it rest { s₁ with heap := h', toks := tk } :=
  UnrEnd.intro F N (a :: b :: c :: t) (fun p hp => by
    simp only [List.mem_cons] at hp ⊢
    rcases hp with h | h | h | h | h <;> simp [h]) (fun p hp => by
    rcases List.mem_cons.mp hp with rfl | hp
    · exact ha
    · rcases List.mem_cons.mp hp with rfl | hp
      · exact hb
      · rcases List.mem_cons.mp hp with rfl | hp
        · exact hc
        · exact ht p hp) r
end
theorem ints3 {vs : List Value} {a b c : Int} (h : IntsAre vs [a, b, c]) : ∃ ta tb tc, vs = [.int a ta, .int b tb, .int c tc] := by
  cases h with
  | cons _ ta h => cases h with
    | cons _ tb h => cases h with
      | cons _ tc h => cases h; exact ⟨ta, tb, tc, rfl⟩
theorem idx3 {a b c k : Int} {ta tb tc : Tok} (h : a < b ∧ b < c) (hk : k = a ∨ k = b ∨ k = c) : ∃ j : Nat, j < 3 ∧ [a, b, c].getD j 0 = k ∧ kf_at k [.int a ta, .int b tb, .int c tc] = some j := by
  rcases hk with rfl | rfl | rfl
  · exact ⟨0, by decide, rfl, by simp [kf_at, isInt]⟩
  · exact ⟨1, by decide, rfl, by simp [kf_at, isInt, (beq_false_of_ne (by omega) : (a == k) = false)]⟩
  · exact ⟨2, by decide, rfl, by simp [kf_at, isInt, (beq_false_of_ne (by omega) : (a == k) = false), (beq_false_of_ne (by omega) : (b == k) = false)]⟩
theorem Cards.hand3 {ns : List Int} {r0 r1 r2 : Int} (h : Cards [r2, r1, r0]) (hP : ns.Perm [r2, r1, r0]) (hs : Sorted ns) : ∃ a b c, ns = [a, b, c] ∧ 0 ≤ a ∧ a < b ∧ b < c ∧ c < 27 ∧ (r0 = a ∨ r0 = b ∨ r0 = c) := by
  have hl2 : ns.length = 3 := hP.length_eq
  have hn : ns.Nodup := hP.nodup_iff.mpr h.1
  have hb : ∀ r ∈ ns, 0 ≤ r ∧ r < 27 := fun r hr => h.2 r (hP.mem_iff.mp hr)
  have hm : r0 ∈ ns := hP.mem_iff.mpr (by simp)
  match ns, hl2 with
  | [a, b, c], _ =>
    have hs' := sorted_iff.mp hs
    simp only [List.pairwise_cons, List.nodup_cons, List.mem_cons, List.not_mem_nil, or_false, forall_eq_or_imp, forall_eq, not_or] at hs' hn hb hm
    exact ⟨a, b, c, rfl, by omega, by omega, by omega, by omega, hm⟩
local macro_rules | `(tactic| walk_at "M_ENTERL") => `(tactic| (refine' kla_code ?k1 ?k2 ?k3 ?k4 ?k5 ?kA ?kF ?kK ?k6 ?k7 ?k8 ?k9 ?kB ?_ ?c2 ?c3 ?c4 ?c5; (case kA => exact rfl); (case kF => assumption); (case kK => assumption); (case k1 => k_asm); (case k2 => k_asm); (case k3 => k_asm); (case k4 => k_asm); (case k5 => k_asm); (case k6 => k_mem); (case k7 => exact codeRec_news (by k_asm) (by k_mem) (by assumption) (by assumption)); (case k8 => ktr_room); (case k9 => exact rfl); (case c5 => decide); (case kB => exact locs rfl); (case c2 => exact rfl); (case c3 => exact rfl); (case c4 => exact rfl); k_whole; intro g' L' h' FG' F' N' B' X' T'; (try dsimp only); (try k_lift B'); (try k_fold)))
/-- a lambda within a def: its code is made once, and found again -/
theorem lam_any {M : Model} {A : Around} {E : Value → Shared → Prop} {s : Shared} {h₀ : Heap} {L a c P : Addr} {m : Str → Option Value} {cn : Str} {cs : Scope} {ccd : Value} {cl : List (Str × Addr)} {news tl : Led} {g : Obj → Led}
    {name qual : Str} {params : Arguments} {body : Expr} {scope : Scope} {ps : Array Value} {pos : Pos} {firstLine : Nat} {clos : List (Str × Addr)} {Q : Value → Shared → Prop}
    (F : Fr h₀ L s.heap m) (N : News h₀ L s.heap news) (T : Top p loose mean mg mb h₀) (C : CodeHd h₀ c P) (hcd : ccd = .ref c) (U : UpdF P (tabObj ps) news g) (hmem : (P, tabObj ps) ∈ news)
    (hsub : ∀ q ∈ tl, q ∈ news) (hoff : ∀ q ∈ tl, q.1 ≠ P)
    (htab : ps = #[] ∨ ∃ c' oc vs t, ps = #[rawInt pos.line, rawInt pos.col, .ref c'] ∧ (c', oc) ∈ tl ∧ oc.data = .fields vs ∧ vs[1]? = some (.str qual t))
    (hcl : closureFor scope (envX cn cs L a ccd cl) = pure clos)
    (h : ∀ f c' oc vs t ctv h' tk, Fr h₀ L h' m →
      News h₀ L h' ((f, kla_obj name qual params body scope clos ((mg "__name__").getD .none) c' ctv) :: (c', oc) :: g (tabObj #[rawInt pos.line, rawInt pos.col, .ref c'])) →
      oc.data = .fields vs → vs[1]? = some (.str qual t) → (∀ q ∈ news, q.1 < f) → @LT.lt Nat _ c' f → @Ne Nat c' P → ((c', oc) ∈ tl ∨ ∀ q ∈ news, q.1 < c') → Q (.ref f) { s with heap := h', toks := tk }) :
    wpAny M A (makeFunction name qual params (.expr body) scope (envX cn cs L a ccd cl) [] [] [] pos firstLine) Q E s := by
  rcases htab with rfl | ⟨c', oc, vs, t, rfl, hm, hd, hv⟩
  · refine kla_nest F N T C hcd U trivial rfl hcl fun f c' oc vs t ctv h' tk F' N' hd hv h1 h2 => ?_
    exact h f c' oc vs t ctv h' tk F' N' hd hv (fun q hq => Nat.lt_trans (h1 q hq) h2) h2 (Nat.ne_of_gt (h1 _ hmem)) (.inr h1)
  · have hn := hsub _ hm
    refine kla_hit F N T C hcd hmem (by simp [TriplesOk, rawInt]) (by simp [codeAmong, rawInt]; rfl) hcl fun f ctv h' tk F' N' h1 => ?_
    refine h f c' oc vs t ctv h' tk F' (fun q hq => ?_) hd hv h1 (h1 _ hn) (hoff _ hm) (.inl hm)
    rw [updF_same U] at hq
    rcases List.mem_cons.mp hq with rfl | hq
    · exact N' _ (.head _)
    · rcases List.mem_cons.mp hq with rfl | hq
      · exact N' _ (.tail _ hn)
      · exact N' _ (.tail _ hq)
/-- bisect by a key, whatever else the ledger holds -/
theorem bisrkL {led : Led} {l kf : Addr} {oc : Value} {od : Option Addr} {fd : FuncData} {sl : Array (Option Value)} {vs : List Value} {ns : List Int} {n : Nat} {x : Int} {t2 : Tok} {g : Int → Int} {D U : Nat} (hkf : (kf, (⟨oc, od, .func fd, sl⟩ : Obj)) ∈ led) (hl : (l, lstO vs n) ∈ led) (hi : IntsAre vs ns) (hlen : ns.length < 2 ^ 20) (hs : Sorted (ns.map g))
    (hk : ∀ (i : Nat) (t : Tok), i < ns.length → Con w p loose mean mg mb (.ref kf) [.int (ns.getD i 0) t] [] D U led (fun r n' => (∃ t, r = .int (g (ns.getD i 0)) t) ∧ n' = led)) :
    Con w p loose mean mg mb (.ref 88) [.ref l, .int x t2] [(Str.ofString "key", .ref kf)] (D + 2) (U + 8) led (fun r n' => (∃ k t, r = .int k t ∧ BR (ns.map g) x k k) ∧ n' = led) := by
  have hsub : ∀ q ∈ (kf, (⟨oc, od, .func fd, sl⟩ : Obj)) :: (l, lstO vs n) :: led, q ∈ led := fun q hq => by
    rcases List.mem_cons.mp hq with rfl | hq
    · exact hkf
    · rcases List.mem_cons.mp hq with rfl | hq
      · exact hl
      · exact hq
  have hsup : ∀ q ∈ led, q ∈ (kf, (⟨oc, od, .func fd, sl⟩ : Obj)) :: (l, lstO vs n) :: led := fun q hq => .tail _ (.tail _ hq)
  refine (bisrk_c (news := led) hi hlen hs fun i t hlt => (hk i t hlt).post hsup fun r n' P => ?_).post hsub fun r n' P => ?_
  · obtain ⟨h1, rfl⟩ := P
    exact ⟨_, hsub, h1, rfl⟩
  · obtain ⟨h1, rfl⟩ := P
    exact ⟨_, hsup, h1, rfl⟩
local macro_rules | `(tactic| walk_at "eval Lambda") => `(tactic| k_extra "M_LAM")
local macro_rules | `(tactic| walk_at "call ref") => `(tactic| k_extra "call ref")
local macro_rules | `(tactic| walk_at "exec For Name Name cons nil") => `(tactic| k_extra "M_FORL")
local macro_rules | `(tactic| walk_at "pyIter ref") => `(tactic| k_extra "M_ITERL")
local macro_rules | `(tactic| walk_at "UnrEnd") => `(tactic| k_extra "M_UNR")
abbrev L3 (r0 r1 r2 : Int) (t0 t1 t2 : Tok) (n : Nat) : Obj := lstO [.int r0 t0, .int r1 t1, .int r2 t2] n
/-- what is named of three shown cards -/
def NamedIs (r0 r1 r2 N : Int) : Prop := ∃ (a b c : Int) (j : Nat) (num cnt : Int), [a, b, c].Perm [r2, r1, r0] ∧ (0 ≤ a ∧ a < b ∧ b < c ∧ c < 27) ∧ j < 3 ∧ [a, b, c].getD j 0 = r0 ∧ num = 4 * (2 * (j : Int) + if r2 < r1 then 1 else 0) + (-(r0 + r1 + r2)).fmod 4 ∧ BR [a, b - 1, c - 2] num cnt cnt ∧ N = num + cnt
def NamedPost (news : Led) (l : Addr) (n : Nat) (r0 r1 r2 : Int) (t0 t1 t2 : Tok) (r : Value) (n' : Led) : Prop :=
  ∃ N t c9 oc9 vc9 tc9, r = .int N t ∧ n' = (195, tabObj #[rawInt 264, rawInt 56, .ref c9]) :: (c9, oc9) :: (l, L3 r0 r1 r2 t0 t1 t2 n) :: news ∧ oc9.data = .fields vc9 ∧ vc9[1]? = some (.str (Str.ofString "_law_named.<locals>.<lambda>") tc9) ∧ c9 ≠ 195 ∧
    ((c9, oc9) ∈ news ∨ AllLt c9 ((l, L3 r0 r1 r2 t0 t1 t2 n) :: news)) ∧ NamedIs r0 r1 r2 N
set_option maxHeartbeats 0 in
theorem named_c {news : Led} {l c4 c5 : Addr} {n : Nat} {r0 r1 r2 : Int} {t0 t1 t2 : Tok} {ps : Array Value} (hD : DivIn c4 c5 ((l, L3 r0 r1 r2 t0 t1 t2 n) :: news)) (hr : Cards [r2, r1, r0]) (hoff : ∀ q ∈ (l, L3 r0 r1 r2 t0 t1 t2 n) :: news, q.1 ≠ 195) (htab : TabIs 264 56 (Str.ofString "_law_named.<locals>.<lambda>") ps news) :
    Con w p loose mean mg mb (.ref 200) [.ref l] [] 120 5500 ((195, tabObj ps) :: (l, L3 r0 r1 r2 t0 t1 t2 n) :: news) (NamedPost news l n r0 r1 r2 t0 t1 t2) := by
  unfold Con; k_fill; intros; rename_i hret
  rename CodesAt _ => hcodes; have hC := hcodes.2.2.2.1
  k_with_none
  k_dflt (walk_at "M_ENTERC")
  k_with "M_FORL" => (k_here; (rename Fr _ _ _ _ => lF'); (with_unfolding_all refine' For_invVF lF' ?k1 ?k2 ?_; (case k1 => exact rfl); (case k2 => exact rfl); k_whole))
  k_with "M_ITERL" => ((with_reducible show wpAny _ _ (pyIter (Value.ref _)) (fun it s₂ => LoopAtV _ _ _ _ _ _ _ _ _ it s₂) _ _); (rename Fr _ _ _ _ => lF'); (rename News _ _ _ _ => lN'); (with_unfolding_all refine iter_listUnr (lo := L3 r0 r1 r2 t0 t1 t2 n) (vs := [.int r0 t0, .int r1 t1, .int r2 t2]) (by rfl) lF' lN' (by k_mem) (by rfl) (by rfl) ?_); clear lF' lN'; intro i' l1; (try k_lt l1))
  k_with "M_UNR" => first
    | refine UnrEnd.mid0 (by assumption) (by assumption) (allLt_ne (by assumption) (Nat.le_refl _)) ⟨by k_mem, ?_⟩
    | refine UnrEnd.mid1 (by assumption) (by assumption) (by k_ne) (allLt_ne (by assumption) (Nat.le_refl _)) ⟨by k_mem, ?_⟩
    | refine UnrEnd.mid2 (by assumption) (by assumption) (by k_ne) (by k_ne) (allLt_ne (by assumption) (Nat.le_refl _)) ⟨by k_mem, ?_⟩
    | refine UnrEnd.mid3 (by assumption) (by assumption) (by k_ne) (by k_ne) (by k_ne) (allLt_ne (by assumption) (Nat.le_refl _)) ⟨by k_mem, ?_⟩
  k_with "call builtin:list.index" => (have hH := hr.hand3 hP7 hS9; obtain ⟨ha, hb, hc, rfl, hH⟩ := hH; obtain ⟨ta, tb, tc, rfl⟩ := ints3 hI9; obtain ⟨j9, hj1, hj2, hj3⟩ := idx3 (ta := ta) (tb := tb) (tc := tc) ⟨hH.2.1, hH.2.2.1⟩ hH.2.2.2.2; (k_dflt (refine' kf_index (j := j9) ?N ?m ?i ?e ?c ?z ?_; (case N => k_asm); (case m => k_mem); (case i => rfl); (case e => exact hj3); (case c => rfl); (case z => ki_room))))
  k_with "call ref" => first
    | (k_dflt (refine' Con.use (inslU_c hI9 (by omega) hS9 ?hU) ?kB ?kF ?kX ?kN ?kT ?kc ?kf ?kk ?kd ?ku ?_; walk_at "M_SIDE"; (case hU => k_updF); k_whole); rintro r8 n8 h8 tk8 F8 N8 ⟨o8, rfl, rfl, vs9, ns9, rfl, hI9, hS9, hP9⟩; (replace hP7 := hP9.trans (List.Perm.cons _ hP7)); (have hL9 := hP7.length_eq); (simp only [List.length_cons, List.length_nil] at hL9); (try dsimp only at N8); (try dsimp only))
    | (k_dflt (refine' Con.use (inslU_c .nil (by decide) ?hS ?hU) ?kB ?kF ?kX ?kN ?kT ?kc ?kf ?kk ?kd ?ku ?_; walk_at "M_SIDE"; (case hU => k_updF); (case hS => exact fun i j h1 h2 => absurd h2 (Nat.not_lt_zero _)); k_whole); rintro r8 n8 h8 tk8 F8 N8 ⟨o8, rfl, rfl, vs9, ns9, rfl, hI9, hS9, hP9⟩; (have hP7 := hP9); (have hL9 := hP7.length_eq); (simp only [List.length_cons, List.length_nil] at hL9); (try dsimp only at N8); (try dsimp only))
    | ((have hb0 := hr.2 r0 (by simp)); (have hb1 := hr.2 r1 (by simp)); (have hb2 := hr.2 r2 (by simp)); (k_dflt (refine' Con.use (idiv_c ?hD (bits80 (by omega)) (by decide)) ?kB ?kF ?kX ?kN ?kT ?kc ?kf ?kk ?kd ?ku ?_; walk_at "M_SIDE"; (case hD => exact ((hD.cons (q := (195, tabObj ps)) ⟨show (195 : Nat) ≠ 44 by decide, show (195 : Nat) ≠ 51 by decide⟩).cons (q := (_, _)) ⟨neN (by omega), neN (by omega)⟩).cl (by assumption)); k_whole)); rintro r8 n8 h8 tk8 F8 N8 ⟨d9, u1, u2, rfl, rfl, l9⟩; (try k_lt l9); (try dsimp only))
  k_with "callWith ref" => (k_dflt (refine' callWith_F ?k1 ?_; (case k1 => exact FnAt.of (by k_asm) (by k_mem)); k_whole))
  k_with "M_LAM" => (k_here; kn_here; k_dflt (refine' kla_eval ?d0 ?_; (case d0 => exact rfl)); k_dflt (refine' lam_any ?F ?N ?T ?C ?cd ?U ?mem ?sub (fun q hq => hoff q (.tail _ hq)) htab ?cl ?_; (case F => k_asm); (case N => k_asm); (case T => k_asm); (case cd => exact rfl); (case C => kn_code); (case U => k_updF); (case mem => k_mem); (case sub => (intro q9 hq9; repeat (first | exact hq9 | apply List.Mem.tail))); (case cl => exact rfl); k_whole); intro f9 c9 oc9 vc9 tc9 ct9 h9 tk9 F9 N9 d1 d2 l1 l2 l3 l4; (try dsimp only at N9); (try k_lt l1))
  k_steps
  have hi3 : IntsAre [.int ha ta, .int hb tb, .int hc tc] [ha, hb, hc] := .cons _ _ (.cons _ _ (.cons _ _ .nil))
  refine' Con.use (bisrkL (g := fun k => [ha, hb, hc].getD k.toNat 0 - k) (vs := [.int 0 _, .int 1 _, .int 2 _]) (ns := [0, 1, 2]) (D := 2) (U := 20) ?hkf ?hl ?hi (by decide) ?hs ?hk) ?kB ?kF ?kX ?kN ?kT ?kc ?kf ?kk ?kd ?ku ?_
  case' kN => k_asm
  walk_at "M_SIDE2"
  case hkf => exact .head _
  case hl => k_mem
  case hi => exact .cons _ _ (.cons _ _ (.cons _ _ .nil))
  case hs =>
    rw [sorted_iff]
    simp
    omega
  case hk =>
    clear hret
    intro i t hi
    have hi2 : 0 ≤ [0, 1, 2].getD i (0 : Int) ∧ [0, 1, 2].getD i (0 : Int) < 3 := by
      match i, hi with
      | 0, _ => decide
      | 1, _ => decide
      | 2, _ => decide
    generalize [0, 1, 2].getD i (0 : Int) = kk at hi2 ⊢
    unfold Con; intros; rename_i hret
    rename CodesAt _ => hcodes
    k_dflt (walk_at "M_ENTERL")
    k_with "subscriptTail Name Name ref int" => (with_unfolding_all refine' item_l ?k1 ?k2 hi3 hi2.1 hi2.2 (by decide) ?_; (case k1 => k_asm); (case k2 => k_mem); intro t')
    k_steps
    exact hret _ _ _ _ (by assumption) (by assumption) ⟨⟨_, rfl⟩, rfl⟩
  rintro r9 n9 h9 tk9 F9 N9 ⟨⟨k9, t9, rfl, hB9⟩, rfl⟩
  k_steps
  rename News _ _ _ _ => hN; rename Fr _ _ _ _ => hF
  refine hret _ ((195, tabObj #[rawInt 264, rawInt 56, .ref c9]) :: (c9, oc9) :: (l, L3 r0 r1 r2 t0 t1 t2 n) :: news) _ _ hF (newsSub hN (List.forall_mem_cons.mpr ⟨by k_mem, List.forall_mem_cons.mpr ⟨by k_mem, List.forall_mem_cons.mpr ⟨by k_mem, fun q hq => by repeat (first | exact hq | apply List.Mem.tail)⟩⟩⟩))
    ⟨_, _, c9, oc9, vc9, tc9, rfl, rfl, d1, d2, l3, l4.imp_right fun h => ⟨h _ (by k_mem), allLt_of fun q hq => h q (by repeat (first | exact hq | apply List.Mem.tail))⟩, ha, hb, hc, j9, _, k9, hP7, ⟨hH.1, hH.2.1, hH.2.2.1, hH.2.2.2.1⟩, hj1, hj2, ?_, ?_, rfl⟩
  · have e : r0 + (r1 + (r2 + 0)) = r0 + r1 + r2 := by omega
    rw [e]
    by_cases h : r2 < r1
    · rw [if_pos h, if_pos (decide_eq_true (show [r0, r1, r2].getD (Int.toNat 2) 0 < [r0, r1, r2].getD (Int.toNat 1) 0 from h))]
    · rw [if_neg h, if_neg (by simpa using h)]
  · have e2 : [ha - 0, hb - 1, hc - 2] = [ha, hb - 1, hc - 2] := by rw [Int.sub_zero]
    rw [← e2]
    exact hB9

end Mine

namespace Mine
example : True := by
  k_with_none
  trivial
local macro_rules | `(tactic| walk_at "M_ENTER") => `(tactic| (refine' code_def ?k1 ?k2 ?k3 ?k4 ?k5 ?kA ?kF ?kK ?k6 ?k7 ?k8 ?k9 ?kB ?_ ?c2 ?c3 ?c4 ?c5; (case kA => exact rfl); (case kF => assumption); (case kK => assumption); (case k1 => k_asm); (case k2 => k_asm); (case k3 => k_asm); (case k4 => k_asm); (case k5 => k_asm); (case k6 => k_is); (case k7 => k_is); (case k8 => ktr_room); (case k9 => first | exact BindsTo.of_eq rfl | exact binds_K (by k_in) rfl (by k_is) rfl rfl rfl | (refine' kp_binds ?kx ?ke; (case kx => k_in); (case ke => exact fun _ => rfl))); (case c5 => decide); (case kB => exact locs rfl); (case c2 => exact rfl); (case c3 => exact rfl); (case c4 => exact rfl); k_whole; intro g' L' h' FG' F' N' B' X' T'; (try dsimp only); (try k_lift B'); (try k_fold)))
local macro_rules | `(tactic| walk_at "M_ENTERC") => `(tactic| (refine' code_defC ?k1 ?k2 ?k3 ?k4 ?k5 ?kA ?kF ?kK ?k6 ?k7 ?k8 ?k9 ?kB ?kD ?_ ?c2 ?c3 ?c4; (case kA => exact rfl); (case kF => assumption); (case kK => assumption); (case k1 => k_asm); (case k2 => k_asm); (case k3 => k_asm); (case k4 => k_asm); (case k5 => k_asm); (case k6 => k_is); (case k7 => k_is); (case k8 => ktr_room); (case k9 => first | exact BindsTo.of_eq rfl | exact binds_K (by k_in) rfl (by k_is) rfl rfl rfl | (refine' kp_binds ?kx ?ke; (case kx => k_in); (case ke => exact fun _ => rfl))); (case kB => exact rfl); (case kD => decide +kernel); (case c2 => exact rfl); (case c3 => exact rfl); (case c4 => exact rfl); k_whole; intro g' L' h' tk' cells' FG' F' N' Y' B' X' T' l1; (try k_lt l1); k_cells Y'; (try simp only [List.cons_append, List.nil_append] at N'); (try dsimp only); (try k_lift B'); (try k_fold)))
local macro_rules | `(tactic| walk_at "M_ENTERN") => `(tactic| (refine' code_nest ?k1 ?k2 ?k3 ?k4 ?k5 ?kA ?kF ?kK ?k6 ?k7 ?k8 ?k9 ?kB ?_ ?c2 ?c3 ?c4 ?c5; (case kA => exact rfl); (case kF => assumption); (case kK => assumption); (case k1 => k_asm); (case k2 => k_asm); (case k3 => k_asm); (case k4 => k_asm); (case k5 => k_asm); (case k6 => k_mem); (case k7 => exact codeRec_news (by k_asm) (by k_mem) (by assumption) (by assumption)); (case k8 => ktr_room); (case k9 => exact BindsTo.of_eq rfl); (case c5 => decide); (case kB => exact locs rfl); (case c2 => exact rfl); (case c3 => exact rfl); (case c4 => exact rfl); k_whole; intro g' L' h' FG' F' N' B' X' T'; (try dsimp only); (try k_lift B'); (try k_fold)))
local macro_rules | `(tactic| k_all) => `(tactic| first | assumption | exact allLt_ne (by assumption) (by omega))
local macro_rules | `(tactic| walk_at "M_SIDE") => `(tactic| ((case kB => k_asm); (case kF => k_asm); (case kX => k_asm); (case kN => k_asm); (case kT => k_asm); (case kc => assumption); (case kf => first | rfl | assumption); (case kk => first | rfl | assumption); (case kd => ktr_room); (case ku => ktr_units)))
local macro_rules | `(tactic| walk_at "M_SIDE2") => `(tactic| ((case kB => k_asm); (case kF => k_asm); (case kX => k_asm); (case kT => k_asm); (case kc => assumption); (case kf => first | rfl | assumption); (case kk => first | rfl | assumption); (case kd => ktr_room); (case ku => ktr_units)))
variable {w : World} {p : Program} {loose : List Str} {mean : ExcName → Option Value} {mg mb : Str → Option Value}
theorem UpdF.mem {d : Addr} {o : Obj} {led : Led} {g : Obj → Led} (U : UpdF d o led g) : (d, o) ∈ led := by
  obtain ⟨pre, post, rfl, _, _, _⟩ := U.split
  exact List.mem_append.mpr (.inr (.head _))
theorem UpdF.news {d : Addr} {o o' : Obj} {led : Led} {g : Obj → Led} {h₀ h h' : Heap} {L : Addr} (U : UpdF d o led g) (N : News h₀ L h led) (hd : h'.get? d = some o') (hk : ∀ b ob, b ≠ d → h.get? b = some ob → h'.get? b = some ob) : News h₀ L h' (g o') := by
  have hm := UpdF.mem U
  obtain ⟨pre, post, rfl, hg, h1, h2⟩ := U.split
  intro q hq
  rw [hg] at hq
  rcases List.mem_append.mp hq with h | h
  · have := N q (List.mem_append.mpr (.inl h))
    exact ⟨hk _ _ (h1 q h) this.1, this.2⟩
  · rcases List.mem_cons.mp h with rfl | h
    · exact ⟨hd, (N _ hm).2⟩
    · have := N q (List.mem_append.mpr (.inr (.tail _ h)))
      exact ⟨hk _ _ (h2 q h) this.1, this.2⟩
theorem fr_upd {d : Addr} {o : Obj} {led : Led} {h₀ h h' : Heap} {L : Addr} {m : Str → Option Value} (F : Fr h₀ L h m) (N : News h₀ L h led) (hm : (d, o) ∈ led) (hk : ∀ b ob, b ≠ d → h.get? b = some ob → h'.get? b = some ob) : Fr h₀ L h' m := by
  obtain ⟨_, n2, n3⟩ := N _ hm
  exact ⟨F.ns.at' fun o e => hk _ o (Ne.symm n2) e, fun b o e => hk b o (fun q => by subst q; rw [e] at n3; cases n3) (F.keep b o e), F.above⟩
theorem setattr_F {prog : Program} {A : Around} {E : Value → Shared → Prop} {s : Shared} {h₀ : Heap} {L f : Addr} {m : Str → Option Value} {o : Obj} {led : Led} {g : Obj → Led} {name : Str} {v : Value} {Q : Unit → Shared → Prop}
    (F : Fr h₀ L s.heap m) (N : News h₀ L s.heap led) (U : UpdF f o led g) (hc : o.cls = .type "function") (hdn : o.dict = none) (hda : ∀ c, o.data ≠ .cls c) (hB : typeLookup (.type "function") name = pure none)
    (h : ∀ dx oD h' tk', LCg.NsObj oD (fun y => if y = name then some v else none) → (∀ q ∈ led, q.1 < dx) → Fr h₀ L h' m → News h₀ L h' ((dx, oD) :: g { cls := o.cls, dict := some dx, data := o.data, slots := o.slots }) → Q () { s with heap := h', toks := tk' }) :
    wpAny (model prog w) A (setAttr (.ref f) name v) Q E s := by
  obtain ⟨hp, gn, d, t, os⟩ := s
  have hm := UpdF.mem U
  refine fn_store (News.get N hm) hc hdn hda hB fun h' tk' oD h1 h2 h3 h4 => ?_
  have N' := UpdF.news (L := L) U N h1 h4
  refine h _ oD h' tk' h3 (fun q hq => Heap.lt_size (N.get hq)) (fr_upd F N hm h4) fun q hq => ?_
  rcases List.mem_cons.mp hq with rfl | hq
  · refine ⟨h2, fun e => ?_, none_at_size F⟩
    have := F.ns.lt
    have e2 : hp.objs.size = L := e
    rw [← e2] at this
    exact Nat.lt_irrefl _ this
  · exact N' q hq
abbrev oneS (c : Nat) : Str := ⟨#[c]⟩
theorem strs_carried : ∀ {ys : List Value} {ss : List Str}, CarriedAll ys (ss.map PyData.str) → StrsAre ys ss
  | _, [], h => by cases h; exact .nil
  | _, s :: ss, h => by
    cases h with
    | cons h1 h2 =>
      cases h1
      exact .cons _ _ (strs_carried h2)
theorem list_strF {prog : Program} {A : Around} {E : Value → Shared → Prop} {s : Shared} {h₀ : Heap} {L : Addr} {m : Str → Option Value} {news : Led} {text : Str} {t : Tok} {Q : Value → Shared → Prop} (hh : A.handled = none) (F : Fr h₀ L s.heap m) (N : News h₀ L s.heap news) (hsz : text.length ≤ sizeLine)
    (h : ∀ D n ys h' tk, StrsAre ys (text.cps.toList.map oneS) → (∀ q ∈ news, q.1 < D) → Fr h₀ L h' m → News h₀ L h' ((D, lstO ys n) :: news) → Q (.ref D) { s with heap := h', toks := tk }) :
    wpAny (model prog w) A (call (.type "list") [.str text t]) Q E s := by
  refine list_strD hh F N (fun h' tk ys F' N' hk hn hl hP hc => ?_) hsz
  obtain ⟨n, NX⟩ := made_enters hP F' N' hn
  exact h _ n ys h' tk (strs_carried hc) (fun q hq => Heap.lt_size (N.get hq)) F' NX
local macro_rules | `(tactic| walk_at "call type:list") => `(tactic| k_extra "M_LIST")
local macro_rules | `(tactic| walk_at "setAttr ref") => `(tactic| k_extra "M_SETATTR")
theorem len_lst {prog : Program} {A : Around} {E : Value → Shared → Prop} {s : Shared} {h₀ : Heap} {L l : Addr} {vs : List Value} {n : Nat} {led : Led} {Q : Value → Shared → Prop} (N : News h₀ L s.heap led) (hm : (l, lstO vs n) ∈ led) (hsz : vs.length ≤ sizeLine)
    (h : ∀ t tk, Q (.int (vs.length : Nat) t) { s with toks := tk }) : wpAny (model prog w) A (call (.builtin "len") [.ref l]) Q E s := by
  refine Calls.call_len_list (isList_of N hm) ?_ ?_
  · rw [sizeLine_eq] at hsz
    simp only [List.size_toArray]
    omega
  · exact h _ _
theorem pop0_F {prog : Program} {A : Around} {E : Value → Shared → Prop} {s : Shared} {h₀ : Heap} {L l : Addr} {m : Str → Option Value} {v : Value} {vs : List Value} {n : Nat} {led : Led} {g : Obj → Led} {u : Tok} {Q : Value → Shared → Prop} (F : Fr h₀ L s.heap m) (N : News h₀ L s.heap led) (U : UpdF l (lstO (v :: vs) n) led g) (hz : (v :: vs).length ≤ sizeLine)
    (h : ∀ h', Fr h₀ L h' m → News h₀ L h' (g (lstO vs (n + 1))) → Q v { s with heap := h' }) : wpAny (model prog w) A (call (.builtin "list.pop") [.ref l, .int 0 u]) Q E s :=
  kl_popAt (its := (v :: vs).toArray) F N (fitsIx (by decide) (by decide)) (k := 0) (by unfold seqIndex?; simp) rfl (UpdF.at _ U) hz h
theorem join_nil : Txt.join (Str.ofString "") [] = Str.ofString "" := by decide +kernel
theorem join_one' (c : Nat) : Txt.join (Str.ofString "") [oneS c] = oneS c := by
  first
  | rfl
  | (have e : Txt.join (Str.ofString "") [oneS c] = Str.join (Str.ofString "") [oneS c] := StrLaws.glued_eq_join ..
     rw [e]; rfl)
theorem join_one {prog : Program} {A : Around} {E : Value → Shared → Prop} {s : Shared} {D : Addr} {h₀ : Heap} {L : Addr} {news : Led} {c : Nat} {t t0 : Tok} {Q : Value → Shared → Prop} (N : News h₀ L s.heap news) (hm : (D, LCg.lst [.str (oneS c) t0]) ∈ news)
    (h : ∀ t' k, Q (.str (oneS c) t') { s with toks := k }) : wpAny (model prog w) A (call (.builtin "str.join") [.str (Str.ofString "") t, .ref D]) Q E s := by
  refine join_list (items := [Value.str (oneS c) t0].toArray) ⟨_, (N _ hm).1, rfl, _, rfl⟩ (.cons _ _ .nil) (by have h3 : (oneS c).length = 1 := rfl; have h4 : (Str.ofString "").length = 0 := rfl; simp [h3, h4]) fun t' k => ?_
  rw [join_one']
  exact h t' k
/-- what a call of the stream's read tells: the next sign, or none -/
def ReadCon (w : World) (p : Program) (loose : List Str) (mean : ExcName → Option Value) (mg mb : Str → Option Value) (D f2 c2 C : Addr) (o2 oc2 oC : Obj) : Prop :=
  ∀ (rest : Led) (cs : List Nat) (vs : List Value) (k : Nat) (t : Tok), (∀ q ∈ rest, q.1 ≠ D) → cs.length ≤ 40 → StrsAre vs (cs.map oneS) →
    Con w p loose mean mg mb (.ref f2) [.int 1 t] [] 4 100 ((D, lstO vs k) :: (f2, o2) :: (c2, oc2) :: (C, oC) :: rest)
      (fun r n' => ∃ t vs' k', r = .str (match cs with | [] => Str.ofString "" | c :: _ => oneS c) t ∧ n' = (D, lstO vs' k') :: (f2, o2) :: (c2, oc2) :: (C, oC) :: rest ∧ StrsAre vs' (cs.tail.map oneS))
local macro_rules | `(tactic| walk_at "M_ENTERL") => `(tactic| (refine' kla_code ?k1 ?k2 ?k3 ?k4 ?k5 ?kA ?kF ?kK ?k6 ?k7 ?k8 ?k9 ?kB ?_ ?c2 ?c3 ?c4 ?c5; (case kA => exact rfl); (case kF => assumption); (case kK => assumption); (case k1 => k_asm); (case k2 => k_asm); (case k3 => k_asm); (case k4 => k_asm); (case k5 => k_asm); (case k6 => k_mem); (case k7 => exact codeRec_news (by k_asm) (by k_mem) (by assumption) (by assumption)); (case k8 => ktr_room); (case k9 => exact rfl); (case c5 => decide); (case kB => exact locs rfl); (case c2 => exact rfl); (case c3 => exact rfl); (case c4 => exact rfl); k_whole; intro g' L' h' FG' F' N' B' X' T'; (try dsimp only); (try k_lift B'); (try k_fold)))
theorem strs_len : ∀ {vs : List Value} {ss : List Str}, StrsAre vs ss → vs.length = ss.length
  | _, _, .nil => rfl
  | _, _, .cons _ _ h => congrArg (· + 1) (strs_len h)
local macro_rules | `(tactic| walk_at "call builtin:len") => `(tactic| k_extra "call builtin:len")
local macro_rules | `(tactic| walk_at "call builtin:list.pop") => `(tactic| k_extra "call builtin:list.pop")
local macro_rules | `(tactic| walk_at "CompEnd") => `(tactic| k_extra "CompEnd")
local macro_rules | `(tactic| walk_at "CompSrc") => `(tactic| k_extra "CompSrc")
local macro_rules | `(tactic| walk_at "call builtin:str.join") => `(tactic| k_extra "M_JOIN")
def StreamPost (w : World) (p : Program) (loose : List Str) (mean : ExcName → Option Value) (mg mb : Str → Option Value) (text : Str) (news : Led) (r : Value) (n' : Led) : Prop :=
  ∃ (D : Addr) (n : Nat) (ys : List Value) (f1 : Addr) (o1 : Obj) (dx : Addr) (oD : Obj) (f2 : Addr) (o2 : Obj) (c2 : Addr) (oc2 : Obj) (C : Addr) (oC : Obj) (ps : Array Value), r = .ref f1 ∧ n' = (dx, oD) :: (f2, o2) :: (c2, oc2) :: (f1, o1) :: (D, lstO ys n) :: (C, oC) :: (150, tabObj ps) :: news ∧
    (∀ q ∈ news, q.1 < C) ∧ (@LT.lt Nat _ C D ∧ @LT.lt Nat _ D f1 ∧ @LT.lt Nat _ f1 c2 ∧ @LT.lt Nat _ c2 f2 ∧ @LT.lt Nat _ f2 dx) ∧ (o1.cls = .type "function" ∧ o1.dict = some dx ∧ ∀ c, o1.data ≠ .cls c) ∧ LCg.NsObj oD (fun y => if y = Str.ofString "read" then some (.ref f2) else none) ∧
    StrsAre ys (text.cps.toList.map oneS) ∧ (∃ oc od fd sl, o2 = (⟨oc, od, .func fd, sl⟩ : Obj)) ∧ ReadCon w p loose mean mg mb D f2 c2 C o2 oc2 oC
set_option maxHeartbeats 0 in
theorem stream_c {news : Led} {text : Str} {t1 : Tok} (h1 : text.length ≤ 40) (hoff : ∀ q ∈ news, q.1 ≠ 150) :
    Con w p loose mean mg mb (.ref 155) [.str text t1] [] 3 40 ((150, tabObj #[]) :: news) (StreamPost w p loose mean mg mb text news) := by
  unfold Con; k_fill; intros; rename_i hret
  rename CodesAt _ => hcodes; have hC := hcodes.2.2.1
  k_with_none
  k_dflt (walk_at "M_ENTERC")
  k_with "M_LIST" => (k_dflt (refine' list_strF ?kh ?kF ?kN (Nat.le_trans h1 (by decide)) ?_; (case kh => exact rfl); (case kF => k_asm); (case kN => k_asm)); intro D9 n9 ys9 h9 tk9 hys9 lD9 F9 N9; (try k_lt lD9); (try dsimp only))
  k_with "M_SETATTR" => (k_dflt (refine' setattr_F ?kF ?kN ?kU ?k1 ?k2 ?k3 ?k4 ?_; (case kF => k_asm); (case kN => k_asm); (case kU => k_updF); (case k1 => rfl); (case k2 => rfl); (case k3 => (intro c hc; cases hc)); (case k4 => exact fn_noread); k_whole); intro dx9 oD9 h9 tk9 hD9 l9 F9 N9; (try k_lt l9); (try dsimp only at N9); (try dsimp only))
  k_steps
  rename News _ _ _ _ => hN; rename Fr _ _ _ _ => hF
  refine' hret _ _ _ _ hF (newsSub (news := (dx9, oD9) :: (_, _) :: (_, _) :: (_, _) :: (D9, lstO ys9 n9) :: (_, _) :: (150, tabObj _) :: news) hN (List.forall_mem_cons.mpr ⟨.head _, List.forall_mem_cons.mpr ⟨.tail _ (.head _), List.forall_mem_cons.mpr ⟨.tail _ (.tail _ (.head _)), List.forall_mem_cons.mpr ⟨.tail _ (.tail _ (.tail _ (.head _))), List.forall_mem_cons.mpr ⟨by k_mem, List.forall_mem_cons.mpr ⟨.tail _ (.tail _ (.tail _ (.tail _ (.tail _ (.tail _ (.head _)))))), List.forall_mem_cons.mpr ⟨by k_mem, fun q hq => by repeat (first | exact hq | apply List.Mem.tail)⟩⟩⟩⟩⟩⟩⟩))
    ⟨_, _, _, _, _, _, _, _, _, _, _, _, _, _, rfl, rfl, ?h1, ⟨ltN (by omega), ltN (by omega), ltN (by omega), ltN (by omega), ltN (by omega)⟩, ⟨rfl, rfl, ?h2⟩, hD9, hys9, ⟨_, _, _, _, rfl⟩, ?h3⟩
  case h1 => exact fun q hq => Nat.lt_succ_of_lt (allLt_mem (And.right (a := 150 < _) (by assumption)) q hq)
  case h2 => exact fun c hc => by cases hc
  case h3 =>
    clear hret
    intro rest cs vs k t hoff9 hcs hvs
    unfold Con; intros; rename_i hret
    k_with_none
    k_dflt (walk_at "M_ENTERL")
    cases cs with
    | nil => 
      cases hvs
      k_with "CompSrc" => (k_dflt (refine LCg.CompSrc.range (n := 0) (by rfl) (by k_asm) (by k_asm) (by assumption) (by decide) (by decide) (by decide) ?_); intro g')
      k_steps
      rename News _ _ _ _ => hN; rename Fr _ _ _ _ => hF
      rw [join_nil]
      exact hret _ _ _ _ hF (newsSub hN fun q hq => .tail _ hq) ⟨_, _, _, rfl, rfl, .nil⟩
    | cons c cs =>
      cases hvs
      rename StrsAre _ (List.map oneS cs) => hvs
      have hlv := strs_len hvs
      simp only [List.length_map, List.length_cons] at hlv hcs
      k_with "call builtin:len" => (k_dflt (refine' len_lst ?kN ?km ?kz ?_; (case kN => k_asm); (case km => k_mem); (case kz => (rw [sizeLine_eq, List.length_cons]; omega))); intro t9 tk9; (try dsimp only))
      k_with "CompSrc" => ((rename IsRange _ _ _ _ _ _ _ _ => rgX); rw [if_neg (by rw [List.length_cons]; omega)] at rgX; k_dflt (refine LCg.CompSrc.range (n := 1) (b := 1) (by rfl) (by k_asm) (by k_asm) rgX (by decide) (by decide) (by decide) ?_); intro g')
      k_with "call builtin:list.pop" => (k_dflt (refine' pop0_F ?kF ?kN ?kU ?kz ?_; (case kF => k_asm); (case kN => k_asm); (case kU => k_updF); (case kz => (rw [sizeLine_eq, List.length_cons]; omega))); intro h9 F9 N9; (try dsimp only at N9); (try dsimp only))
      k_with "M_JOIN" => (k_dflt (refine' join_one ?kN ?km ?_; (case kN => k_asm); (case km => k_mem)); intro t8 tk8; (try dsimp only))
      k_with "CompEnd" => (refine LCg.CompEnd.intro (by assumption) (by assumption) _ (fun p hp => hp) (by with_unfolding_all assumption) trivial ?_; (try dsimp only))
      k_steps
      rename News _ _ _ _ => hN; rename Fr _ _ _ _ => hF
      exact hret _ _ _ _ hF (newsSub hN fun q hq => .tail _ hq) ⟨_, _, _, rfl, rfl, hvs⟩

end Mine

namespace Mine
local macro_rules | `(tactic| walk_at "M_SPARE0") => `(tactic| skip)
local macro_rules | `(tactic| walk_at "M_SPARE1") => `(tactic| skip)
local macro_rules | `(tactic| walk_at "M_SPARE2") => `(tactic| skip)
local macro_rules | `(tactic| walk_at "M_SPARE3") => `(tactic| skip)
local macro_rules | `(tactic| walk_at "M_SPARE4") => `(tactic| skip)
local macro_rules | `(tactic| walk_at "M_SPARE5") => `(tactic| skip)
local macro_rules | `(tactic| walk_at "M_SPARE6") => `(tactic| skip)
local macro_rules | `(tactic| walk_at "M_SPARE7") => `(tactic| skip)
local macro_rules | `(tactic| walk_at "M_SPARE8") => `(tactic| skip)
local macro_rules | `(tactic| walk_at "M_SPARE9") => `(tactic| skip)
local macro_rules | `(tactic| walk_at "M_SPARE10") => `(tactic| skip)
local macro_rules | `(tactic| walk_at "M_SPARE11") => `(tactic| skip)
local macro_rules | `(tactic| walk_at "M_SPARE12") => `(tactic| skip)
local macro_rules | `(tactic| walk_at "M_SPARE13") => `(tactic| skip)
local macro_rules | `(tactic| walk_at "M_SPARE14") => `(tactic| skip)
local macro_rules | `(tactic| walk_at "M_SPARE15") => `(tactic| skip)
local macro_rules | `(tactic| walk_at "M_SPARE16") => `(tactic| skip)
local macro_rules | `(tactic| walk_at "M_SPARE17") => `(tactic| skip)
local macro_rules | `(tactic| walk_at "M_SPARE18") => `(tactic| skip)
local macro_rules | `(tactic| walk_at "M_SPARE19") => `(tactic| skip)
local macro_rules | `(tactic| walk_at "M_SPARE20") => `(tactic| skip)
local macro_rules | `(tactic| walk_at "M_SPARE21") => `(tactic| skip)
local macro_rules | `(tactic| walk_at "M_SPARE22") => `(tactic| skip)
local macro_rules | `(tactic| walk_at "M_SPARE23") => `(tactic| skip)
local macro_rules | `(tactic| walk_at "M_SPARE24") => `(tactic| skip)
example : True := by
  k_with_none
  trivial
local macro_rules | `(tactic| walk_at "M_ENTER") => `(tactic| (refine' code_def ?k1 ?k2 ?k3 ?k4 ?k5 ?kA ?kF ?kK ?k6 ?k7 ?k8 ?k9 ?kB ?_ ?c2 ?c3 ?c4 ?c5; (case kA => exact rfl); (case kF => assumption); (case kK => assumption); (case k1 => k_asm); (case k2 => k_asm); (case k3 => k_asm); (case k4 => k_asm); (case k5 => k_asm); (case k6 => k_is); (case k7 => k_is); (case k8 => ktr_room); (case k9 => first | exact BindsTo.of_eq rfl | exact binds_K (by k_in) rfl (by k_is) rfl rfl rfl | (refine' kp_binds ?kx ?ke; (case kx => k_in); (case ke => exact fun _ => rfl))); (case c5 => decide); (case kB => exact locs rfl); (case c2 => exact rfl); (case c3 => exact rfl); (case c4 => exact rfl); k_whole; intro g' L' h' FG' F' N' B' X' T'; (try dsimp only); (try k_lift B'); (try k_fold)))
local macro_rules | `(tactic| walk_at "M_ENTERC") => `(tactic| (refine' code_defC ?k1 ?k2 ?k3 ?k4 ?k5 ?kA ?kF ?kK ?k6 ?k7 ?k8 ?k9 ?kB ?kD ?_ ?c2 ?c3 ?c4; (case kA => exact rfl); (case kF => assumption); (case kK => assumption); (case k1 => k_asm); (case k2 => k_asm); (case k3 => k_asm); (case k4 => k_asm); (case k5 => k_asm); (case k6 => k_is); (case k7 => k_is); (case k8 => ktr_room); (case k9 => first | exact BindsTo.of_eq rfl | exact binds_K (by k_in) rfl (by k_is) rfl rfl rfl | (refine' kp_binds ?kx ?ke; (case kx => k_in); (case ke => exact fun _ => rfl))); (case kB => exact rfl); (case kD => decide +kernel); (case c2 => exact rfl); (case c3 => exact rfl); (case c4 => exact rfl); k_whole; intro g' L' h' tk' cells' FG' F' N' Y' B' X' T' l1; (try k_lt l1); k_cells Y'; (try simp only [List.cons_append, List.nil_append] at N'); (try dsimp only); (try k_lift B'); (try k_fold)))
local macro_rules | `(tactic| walk_at "M_ENTERN") => `(tactic| (refine' code_nest ?k1 ?k2 ?k3 ?k4 ?k5 ?kA ?kF ?kK ?k6 ?k7 ?k8 ?k9 ?kB ?_ ?c2 ?c3 ?c4 ?c5; (case kA => exact rfl); (case kF => assumption); (case kK => assumption); (case k1 => k_asm); (case k2 => k_asm); (case k3 => k_asm); (case k4 => k_asm); (case k5 => k_asm); (case k6 => k_mem); (case k7 => exact codeRec_news (by k_asm) (by k_mem) (by assumption) (by assumption)); (case k8 => ktr_room); (case k9 => exact BindsTo.of_eq rfl); (case c5 => decide); (case kB => exact locs rfl); (case c2 => exact rfl); (case c3 => exact rfl); (case c4 => exact rfl); k_whole; intro g' L' h' FG' F' N' B' X' T'; (try dsimp only); (try k_lift B'); (try k_fold)))
local macro_rules | `(tactic| k_all) => `(tactic| first | assumption | exact allLt_ne (by assumption) (by omega))
local macro_rules | `(tactic| walk_at "M_SIDE") => `(tactic| ((case kB => k_asm); (case kF => k_asm); (case kX => k_asm); (case kN => k_asm); (case kT => k_asm); (case kc => assumption); (case kf => first | rfl | assumption); (case kk => first | rfl | assumption); (case kd => ktr_room); (case ku => ktr_units)))
local macro_rules | `(tactic| walk_at "M_SIDE2") => `(tactic| ((case kB => k_asm); (case kF => k_asm); (case kX => k_asm); (case kT => k_asm); (case kc => assumption); (case kf => first | rfl | assumption); (case kk => first | rfl | assumption); (case kd => ktr_room); (case ku => ktr_units)))
local macro_rules | `(tactic| walk_at "eval Constant int") => `(tactic| (refine wpAny_Constant_int ?_; (try dsimp only)))
variable {w : World} {p : Program} {loose : List Str} {mean : ExcName → Option Value} {mg mb : Str → Option Value}
abbrev lexD (a1 a2 a3 a4 : Int) (k1 k2 k3 k4 : Tok) (n : Int) (tn : Tok) (f1 : Addr) (tw : Tok) (pb : Addr) : Obj :=
  dictOf [⟨a1, .str (Str.ofString "lineno") k1, .int n tn⟩, ⟨a2, .str (Str.ofString "instream") k2, .ref f1⟩, ⟨a3, .str (Str.ofString "whitespace") k3, .str (Str.ofString "\n\t\r ") tw⟩, ⟨a4, .str (Str.ofString "pushback") k4, .ref pb⟩] 4
local macro_rules | `(tactic| walk_at "getMethod ref") => `(tactic| k_extra "M_GETM")
local macro_rules | `(tactic| walk_at "call ref") => `(tactic| k_extra "call ref")
variable {a1 a2 a3 a4 : Int} {k1 k2 k3 k4 tw : Tok} {D f2 c2 C dx x f1 ds pb : Addr} {o2 oc2 oC o1 oD : Obj}
theorem fn_methodF {prog : Program} {A : Around} {E : Value → Shared → Prop} {s : Shared} {h₀ : Heap} {L f dx b : Addr} {o oD : Obj} {led : Led} {mA : Str → Option Value} {name : Str} {pl : Sem Bool} {Q : Value × List Value → Shared → Prop} (N : News h₀ L s.heap led) (hf : (f, o) ∈ led) (hd : (dx, oD) ∈ led) (ho : o.cls = .type "function" ∧ o.dict = some dx ∧ ∀ c, o.data ≠ .cls c) (hm : LCg.NsObj oD mA) (hv : mA name = some (.ref b)) (hB : typeLookup (.type "function") name = pure none)
    (hq : ∀ tk, Q (.ref b, []) { s with toks := tk }) : wpAny (model prog w) A (getMethod (.ref f) name pl) Q E s := by
  obtain ⟨hp, g, d, t, os⟩ := s
  exact fn_method (N.get hf) ho.1 ho.2.1 ho.2.2 hB (N.get hd) hm hv hq
def LexNe (D f2 c2 C dx x f1 ds : Addr) : Prop := (@Ne Nat D dx ∧ @Ne Nat D x ∧ @Ne Nat D f1 ∧ @Ne Nat D ds) ∧ (@Ne Nat dx f2 ∧ @Ne Nat dx c2 ∧ @Ne Nat dx C ∧ @Ne Nat dx x ∧ @Ne Nat dx f1 ∧ @Ne Nat dx ds)
def hdS (cs : List Nat) : Str := match cs with | [] => Str.ofString "" | c :: _ => oneS c
def nlS (x : Str) : Int := if (x == Str.ofString "\n") = true then 1 else 0
/-- what stands still of a lexer and its stream -/
structure LexOk (w : World) (p : Program) (loose : List Str) (mean : ExcName → Option Value) (mg mb : Str → Option Value) (D f2 c2 C dx x f1 ds : Addr) (o2 oc2 oC o1 oD : Obj) : Prop where
  read : ReadCon w p loose mean mg mb D f2 c2 C o2 oc2 oC
  fn : ∃ oc od fd sl, o2 = (⟨oc, od, .func fd, sl⟩ : Obj)
  strm : o1.cls = .type "function" ∧ o1.dict = some ds ∧ ∀ c, o1.data ≠ .cls c
  attr : LCg.NsObj oD (fun y => if y = Str.ofString "read" then some (.ref f2) else none)
  ne : LexNe D f2 c2 C dx x f1 ds
/-- the lexer in the ledger: signs left, line number -/
abbrev lexLed (a1 a2 a3 a4 : Int) (k1 k2 k3 k4 tw : Tok) (D f2 c2 C dx x f1 ds pb : Addr) (o2 oc2 oC o1 oD : Obj) (vs : List Value) (k : Nat) (n : Int) (tn : Tok) (rest : Led) : Led :=
  (D, lstO vs k) :: (f2, o2) :: (c2, oc2) :: (C, oC) :: (dx, lexD a1 a2 a3 a4 k1 k2 k3 k4 n tn f1 tw pb) :: (x, instObj 144 dx) :: (f1, o1) :: (ds, oD) :: rest
set_option maxHeartbeats 0 in
theorem rchar_c {rest : Led} {cs : List Nat} {vs : List Value} {k : Nat} {n : Int} {tn : Tok} (hL : LexOk w p loose mean mg mb D f2 c2 C dx x f1 ds o2 oc2 oC o1 oD) (hoD : ∀ q ∈ rest, q.1 ≠ D) (hox : ∀ q ∈ rest, q.1 ≠ dx) (hcs : cs.length ≤ 40) (hvs : StrsAre vs (cs.map oneS)) :
    Con w p loose mean mg mb (.ref 127) [.ref x] [] 6 200 (lexLed a1 a2 a3 a4 k1 k2 k3 k4 tw D f2 c2 C dx x f1 ds pb o2 oc2 oC o1 oD vs k n tn rest)
      (fun r n' => ∃ t vs' k' tn' m, r = .str (hdS cs) t ∧ m = n + nlS (hdS cs) ∧ n' = lexLed a1 a2 a3 a4 k1 k2 k3 k4 tw D f2 c2 C dx x f1 ds pb o2 oc2 oC o1 oD vs' k' m tn' rest ∧ StrsAre vs' (cs.tail.map oneS)) := by
  obtain ⟨hR, h2, h1, hD, hne9⟩ := hL
  obtain ⟨q1, q2, q3, q4, rfl⟩ := h2
  unfold LexNe at hne9
  unfold Con; k_fill; intros; rename_i hret
  k_with_none
  k_dflt (walk_at "M_ENTER")
  k_with "M_GETM" => (k_dflt (refine' fn_methodF ?kN ?k1 ?k2 h1 hD ?k3 fn_noread ?_; (case kN => k_asm); (case k1 => k_mem); (case k2 => k_mem); (case k3 => exact if_pos rfl)); intro tk9; (try dsimp only))
  k_with "callWith ref" => (k_dflt (refine' callWith_F ?k1 ?_; (case k1 => exact FnAt.of (by k_asm) (by k_mem)); k_whole))
  k_with "call ref" => (k_dflt (refine' Con.use (hR _ cs vs k _ ?hr hcs hvs) ?kB ?kF ?kX ?kN ?kT ?kc ?kf ?kk ?kd ?ku ?_; walk_at "M_SIDE"; (case hr => k_all); k_whole); rintro r9 n9 h9 tk9 F9 N9 ⟨t9, vs9, k9, rfl, rfl, hvs9⟩; (try dsimp only))
  k_steps
  · rename (_ == Str.ofString "\n") = true => hc
    have e : nlS (hdS cs) = 1 := if_pos hc
    exact hret _ _ _ _ (by assumption) (by assumption) ⟨_, _, _, _, _, rfl, (by rw [e]), rfl, hvs9⟩
  · rename (_ == Str.ofString "\n") = false => hc
    have e : nlS (hdS cs) = 0 := if_neg (ne_true_of_eq_false hc)
    exact hret _ _ _ _ (by assumption) (by assumption) ⟨_, _, _, _, _, rfl, (by rw [e, Int.add_zero]), rfl, hvs9⟩

end Mine

namespace Mine
example : True := by
  k_with_none
  trivial
local macro_rules | `(tactic| walk_at "M_ENTER") => `(tactic| (refine' code_def ?k1 ?k2 ?k3 ?k4 ?k5 ?kA ?kF ?kK ?k6 ?k7 ?k8 ?k9 ?kB ?_ ?c2 ?c3 ?c4 ?c5; (case kA => exact rfl); (case kF => assumption); (case kK => assumption); (case k1 => k_asm); (case k2 => k_asm); (case k3 => k_asm); (case k4 => k_asm); (case k5 => k_asm); (case k6 => k_is); (case k7 => k_is); (case k8 => ktr_room); (case k9 => first | exact BindsTo.of_eq rfl | exact binds_K (by k_in) rfl (by k_is) rfl rfl rfl | (refine' kp_binds ?kx ?ke; (case kx => k_in); (case ke => exact fun _ => rfl))); (case c5 => decide); (case kB => exact locs rfl); (case c2 => exact rfl); (case c3 => exact rfl); (case c4 => exact rfl); k_whole; intro g' L' h' FG' F' N' B' X' T'; (try dsimp only); (try k_lift B'); (try k_fold)))
local macro_rules | `(tactic| walk_at "M_ENTERC") => `(tactic| (refine' code_defC ?k1 ?k2 ?k3 ?k4 ?k5 ?kA ?kF ?kK ?k6 ?k7 ?k8 ?k9 ?kB ?kD ?_ ?c2 ?c3 ?c4; (case kA => exact rfl); (case kF => assumption); (case kK => assumption); (case k1 => k_asm); (case k2 => k_asm); (case k3 => k_asm); (case k4 => k_asm); (case k5 => k_asm); (case k6 => k_is); (case k7 => k_is); (case k8 => ktr_room); (case k9 => first | exact BindsTo.of_eq rfl | exact binds_K (by k_in) rfl (by k_is) rfl rfl rfl | (refine' kp_binds ?kx ?ke; (case kx => k_in); (case ke => exact fun _ => rfl))); (case kB => exact rfl); (case kD => decide +kernel); (case c2 => exact rfl); (case c3 => exact rfl); (case c4 => exact rfl); k_whole; intro g' L' h' tk' cells' FG' F' N' Y' B' X' T' l1; (try k_lt l1); k_cells Y'; (try simp only [List.cons_append, List.nil_append] at N'); (try dsimp only); (try k_lift B'); (try k_fold)))
local macro_rules | `(tactic| walk_at "M_ENTERN") => `(tactic| (refine' code_nest ?k1 ?k2 ?k3 ?k4 ?k5 ?kA ?kF ?kK ?k6 ?k7 ?k8 ?k9 ?kB ?_ ?c2 ?c3 ?c4 ?c5; (case kA => exact rfl); (case kF => assumption); (case kK => assumption); (case k1 => k_asm); (case k2 => k_asm); (case k3 => k_asm); (case k4 => k_asm); (case k5 => k_asm); (case k6 => k_mem); (case k7 => exact codeRec_news (by k_asm) (by k_mem) (by assumption) (by assumption)); (case k8 => ktr_room); (case k9 => exact BindsTo.of_eq rfl); (case c5 => decide); (case kB => exact locs rfl); (case c2 => exact rfl); (case c3 => exact rfl); (case c4 => exact rfl); k_whole; intro g' L' h' FG' F' N' B' X' T'; (try dsimp only); (try k_lift B'); (try k_fold)))
local macro_rules | `(tactic| k_all) => `(tactic| first | assumption | exact allLt_ne (by assumption) (by omega))
local macro_rules | `(tactic| walk_at "M_SIDE") => `(tactic| ((case kB => k_asm); (case kF => k_asm); (case kX => k_asm); (case kN => k_asm); (case kT => k_asm); (case kc => assumption); (case kf => first | rfl | assumption); (case kk => first | rfl | assumption); (case kd => ktr_room); (case ku => ktr_units)))
local macro_rules | `(tactic| walk_at "M_SIDE2") => `(tactic| ((case kB => k_asm); (case kF => k_asm); (case kX => k_asm); (case kT => k_asm); (case kc => assumption); (case kf => first | rfl | assumption); (case kk => first | rfl | assumption); (case kd => ktr_room); (case ku => ktr_units)))
local macro_rules | `(tactic| walk_at "eval Constant int") => `(tactic| (refine wpAny_Constant_int ?_; (try dsimp only)))
variable {w : World} {p : Program} {loose : List Str} {mean : ExcName → Option Value} {mg mb : Str → Option Value}
variable {a1 a2 a3 a4 : Int} {k1 k2 k3 k4 tw : Tok} {D f2 c2 C dx x f1 ds pb : Addr} {o2 oc2 oC o1 oD : Obj}
theorem fn127 {h : Heap} (X : (hd.heap_39 w.params).In h) : ∃ o fd, h.get? 127 = some o ∧ o.data = .func fd := ⟨_, _, X 127 _ rfl, rfl⟩
theorem off_upd {h h' : Heap} {h₀ : Heap} {L I : Addr} {m : Str → Option Value} {o o' : Obj} {rest : Led} (F : Fr h₀ L h m) (N : News h₀ L h ((I, o) :: rest)) (hoff : ∀ p ∈ rest, p.1 ≠ I) (hd : h'.get? I = some o') (hk : ∀ b ob, b ≠ I → h.get? b = some ob → h'.get? b = some ob) : Fr h₀ L h' m ∧ News h₀ L h' ((I, o') :: rest) :=
  ⟨fr_upd F N (.head _) hk, UpdF.news (.head hoff) N hd hk⟩
theorem borrows_meth {prog : Program} {A : Around} {E : Value → Shared → Prop} {s : Shared} {M f : Addr} {self : Value} {oF : Obj} {fd : FuncData} {Q : Bool → Shared → Prop} (hM : s.heap.get? M = some (methodObj (.ref f) self)) (hF : s.heap.get? f = some oF) (hFd : oF.data = .func fd) (h : Q true s) :
    wpAny (model prog w) A (borrowsExactly (.ref M)) Q E s := by
  unfold borrowsExactly
  dsimp only
  refine wpAny_bind (wpAny_load hM ?_)
  dsimp only
  rw [if_pos (by decide)]
  show wpAny _ _ (load f >>= _) _ _ _
  refine wpAny_bind (wpAny_load hF ?_)
  rw [hFd]
  exact wpAny_pure h
theorem ci_let {prog : Program} {A : Around} {E : Value → Shared → Prop} {s : Shared} {M f : Addr} {self : Value} {oF : Obj} {fd : FuncData} {who : String} {busy : Code → Bool} {Q : Unit → Shared → Prop} (hM : s.heap.get? M = some (methodObj (.ref f) self)) (hF : s.heap.get? f = some oF) (hFd : oF.data = .func fd) (h : Q () s) :
    wpAny (model prog w) A (slotLetsGo who (.ref M) busy) Q E s := by
  unfold slotLetsGo
  dsimp only
  refine wpAny_bind (borrows_meth hM hF hFd ?_)
  rw [if_pos rfl]
  exact wpAny_pure h
theorem out_of_slot {prog : Program} {A : Around} {E : Value → Shared → Prop} {s : Shared} {M f : Addr} {self : Value} {oF : Obj} {fd : FuncData} {Q : Value → Shared → Prop} (hM : s.heap.get? M = some (methodObj (.ref f) self)) (hF : s.heap.get? f = some oF) (hFd : oF.data = .func fd)
    (h : codeAny (model prog w) A (.call (.ref f) ⟨[self], []⟩) (fun r s' => match r with | .ok (.ret v) => Q v s' | .ok _ => False | .error e => E e s') s) :
    wpAny (model prog w) A (callOutOfASlot (.ref M) []) Q E s := by
  unfold callOutOfASlot
  refine wpAny_bind (borrows_meth hM hF hFd ?_)
  rw [if_pos rfl]
  exact wpAny_callBorrowed (method_call hM h)
theorem set_fld {prog : Program} {A : Around} {E : Value → Shared → Prop} {s : Shared} {I : Addr} {o : Obj} {vs : Array Value} {i : Nat} {x : Value} {Q : Unit → Shared → Prop} (hI : s.heap.get? I = some o) (hd : o.data = .fields vs) (hi : i < vs.size)
    (h : ∀ h' o', h'.get? I = some o' → o'.cls = o.cls → o'.data = .fields (vs.setIfInBounds i x) → (∀ b ob, b ≠ I → s.heap.get? b = some ob → h'.get? b = some ob) → Q () { s with heap := h' }) : wpAny (model prog w) A (setField (.ref I) i x) Q E s :=
  wpAny_setField hI hd hi (h _ _ (Heap.get?_update_self _ hI (Obj.isFreed_of_fields (Obj.data_mapFields hd _))) (Obj.cls_mapFields ..) (Obj.data_mapFields hd _) fun _ _ hb e => (Heap.get?_update_ne _ _ _ _ hb).trans e)
set_option maxHeartbeats 4000000 in
/-- the iterator's end: its fields let go, and the walk is over -/
theorem ci_end {prog : Program} {A : Around} {E : Value → Shared → Prop} {s : Shared} {I M f : Addr} {o : Obj} {self xv : Value} {e : Bool} {oF : Obj} {fd : FuncData} {Q : Unit → Shared → Prop} (hI : s.heap.get? I = some o) (hR : CiOf o (.ref M) xv e) (hM : s.heap.get? M = some (methodObj (.ref f) self)) (hF : s.heap.get? f = some oF) (hFd : oF.data = .func fd)
    (h : ∀ h' o', h'.get? I = some o' → CiOf o' .none .none true → (∀ b ob, b ≠ I → s.heap.get? b = some ob → h'.get? b = some ob) → Q () { s with heap := h' }) :
    wpAny (model prog w) A (do
      slotLetsGo "callable_iterator.__next__" (← field (.ref I) 0) fun | .builtin "callable_iterator.__next__" x => x.pos.head? == some (.ref I) | _ => false
      setField (.ref I) 0 .none; setField (.ref I) 1 .none; setField (.ref I) 2 (.bool true)) Q E s := by
  refine wpAny_bind (wpAny_field hI hR.2 (x := .ref M) rfl ?_)
  refine wpAny_bind (ci_let hM hF hFd ?_)
  refine wpAny_bind (set_fld hI hR.2 (by simp) fun h1 o1 e1 c1 d1 k1 => ?_)
  refine wpAny_bind (set_fld e1 d1 (by simp) fun h2 o2 e2 c2 d2 k2 => ?_)
  refine set_fld e2 d2 (by simp) fun h3 o3 e3 c3 d3 k3 => ?_
  refine h h3 o3 e3 ⟨((c3.trans c2).trans c1).trans hR.1, by rw [d3]; simp⟩ fun b ob hb e => k3 b ob hb (k2 b ob hb (k1 b ob hb e))
set_option maxHeartbeats 4000000 in
theorem next_ci {prog : Program} {A : Around} {E : Value → Shared → Prop} {s : Shared} {h₀ : Heap} {L I M x : Addr} {m : Str → Option Value} {o : Obj} {tS : Tok} {rest : Led} {Q : Option Value → Shared → Prop} (hh : A.handled = none) (F : Fr h₀ L s.heap m) (X : (hd.heap_39 w.params).In h₀) (N : News h₀ L s.heap ((I, o) :: (M, methodObj (.ref 127) (.ref x)) :: rest)) (hR : CiOf o (.ref M) (.str (Str.ofString "") tS) false)
    (hc : codeAny (model prog w) A.in1 (.call (.ref 127) ⟨[.ref x], []⟩) (fun r s' => match r with
      | .ok (.ret v) => ∃ z u h' tk' rest', v = .str z u ∧ s' = { s with heap := h', toks := tk' } ∧ Fr h₀ L h' m ∧ News h₀ L h' ((I, o) :: (M, methodObj (.ref 127) (.ref x)) :: rest') ∧ (∀ q ∈ (M, methodObj (.ref 127) (.ref x)) :: rest', q.1 ≠ I) ∧
          (z ≠ Str.ofString "" → Q (some (.str z u)) { s with heap := h', toks := tk' }) ∧
          (z = Str.ofString "" → ∀ h'' o' , CiOf o' .none .none true → Fr h₀ L h'' m → News h₀ L h'' ((I, o') :: (M, methodObj (.ref 127) (.ref x)) :: rest') → Q none { s with heap := h'', toks := tk' })
      | _ => False) s) : wpAny (model prog w) A (pyNext (.ref I)) Q E s := by
  have hI := N.get (.head _)
  obtain ⟨oF, fd, hF, hFd⟩ := fn127 (X.keeps F.keep)
  unfold pyNext
  refine wpAny_bind (wpAny_attempt (wpAny_callSpecial?_slot (name := Str.ofString "__next__") ⟨o, hI, hR.1⟩ slot_ci_next
    (wpAny_call_entry slot_ci_next ⟨o, hI, hR.1⟩ entry_ci_next ?_ (args_ci_next_1 _))))
  unfold Builtin.«callable_iterator.__next__»
  refine wpAny_bind (wpAny_of_eq (a := (Value.ref I, [])) rfl ?_)
  try dsimp only
  refine wpAny_bind (wpAny_field hI hR.2 (x := .bool false) rfl ?_)
  rw [if_neg (by decide)]
  refine wpAny_bind (wpAny_field hI hR.2 (x := .ref M) rfl ?_)
  refine wpAny_bind (wpAny_attempt (out_of_slot (N.get (.tail _ (.head _))) hF hFd (codeAny_mono hc fun r s' hr => ?_)))
  cases r with
  | error e => exact hr.elim
  | ok fl =>
    cases fl with
    | next => exact hr.elim
    | brk => exact hr.elim
    | cont => exact hr.elim
    | ret v =>
      obtain ⟨z, u, h', tk', rest', rfl, rfl, F', N', hoff, hq1, hq0⟩ := hr
      have hI' := N'.get (.head _)
      dsimp only
      refine wpAny_bind (wpAny_field hI' hR.2 (x := .bool false) rfl ?_)
      rw [if_neg (by decide)]
      refine wpAny_bind (wpAny_field hI' hR.2 (x := .str (Str.ofString "") tS) rfl ?_)
      refine wpAny_bind (wpAny_holding (eqBool_str ?_))
      by_cases hz : z = Str.ofString ""
      · rw [if_neg (by rw [hz]; decide)]
        refine wpAny_bind (wpAny_rule ?_)
        obtain ⟨oF', fd', hF', hFd'⟩ := fn127 (X.keeps F'.keep)
        refine wpAny_bind (wpAny_mono (ci_end hI' hR (N'.get (.tail _ (.head _))) hF' hFd' (Q := fun _ s1 => ∃ h1 o1, s1 = { s with heap := h1, toks := tk' } ∧ h1.get? I = some o1 ∧ CiOf o1 .none .none true ∧ (∀ b ob, b ≠ I → h'.get? b = some ob → h1.get? b = some ob)) (fun h1 o1 e1 c1 k1 => ⟨h1, o1, rfl, e1, c1, k1⟩)) (fun _ s1 hs1 => ?_) fun _ _ e => e)
        obtain ⟨h1, o1, rfl, e1, c1, k1⟩ := hs1
        obtain ⟨F1, N1⟩ := off_upd F' N' hoff e1 k1
        refine stop_any (by exact hh) fun e h2 k2 hT => ?_
        refine wpAny_bind (wpAny_isInstance hT isSubtype_stop ?_)
        rw [if_pos rfl]
        exact wpAny_pure (hq0 hz h2 o1 c1 (F1.keeps k2) (N1.grown k2))
      · have hz2 : (Str.ofString "" == z) = false := by
          rw [beq_eq_false_iff_ne]
          exact Ne.symm hz
        rw [hz2, if_pos (by decide)]
        exact wpAny_pure ⟨_, rfl, wpAny_pure (hq1 hz)⟩
theorem next_ci_done {prog : Program} {A : Around} {E : Value → Shared → Prop} {s : Shared} {h₀ : Heap} {L I : Addr} {m : Str → Option Value} {o : Obj} {led : Led} {Q : Option Value → Shared → Prop} (hh : A.handled = none) (F : Fr h₀ L s.heap m) (N : News h₀ L s.heap led) (hm : (I, o) ∈ led) (hR : CiOf o .none .none true)
    (hq : ∀ h', Fr h₀ L h' m → News h₀ L h' led → Q none { s with heap := h' }) : wpAny (model prog w) A (pyNext (.ref I)) Q E s := by
  have hI := N.get hm
  unfold pyNext
  refine wpAny_bind (wpAny_attempt (wpAny_callSpecial?_slot (name := Str.ofString "__next__") ⟨o, hI, hR.1⟩ slot_ci_next
    (wpAny_call_entry slot_ci_next ⟨o, hI, hR.1⟩ entry_ci_next ?_ (args_ci_next_1 _))))
  unfold Builtin.«callable_iterator.__next__»
  refine wpAny_bind (wpAny_of_eq (a := (Value.ref I, [])) rfl ?_)
  try dsimp only
  refine wpAny_bind (wpAny_field hI hR.2 (x := .bool true) rfl ?_)
  rw [if_pos (by decide)]
  refine wpAny_bind (wpAny_rule ?_)
  refine wpAny_bind (stop_any (by exact hh) fun e h2 k2 hT => ?_)
  refine wpAny_bind (wpAny_isInstance hT isSubtype_stop ?_)
  rw [if_pos rfl]
  exact wpAny_pure (hq h2 (F.keeps k2) (N.grown k2))

end Mine

namespace Mine
local macro_rules | `(tactic| walk_at "M_SPARE0") => `(tactic| skip)
local macro_rules | `(tactic| walk_at "M_SPARE1") => `(tactic| skip)
local macro_rules | `(tactic| walk_at "M_SPARE2") => `(tactic| skip)
local macro_rules | `(tactic| walk_at "M_SPARE3") => `(tactic| skip)
local macro_rules | `(tactic| walk_at "M_SPARE4") => `(tactic| skip)
local macro_rules | `(tactic| walk_at "M_SPARE5") => `(tactic| skip)
local macro_rules | `(tactic| walk_at "M_SPARE6") => `(tactic| skip)
local macro_rules | `(tactic| walk_at "M_SPARE7") => `(tactic| skip)
local macro_rules | `(tactic| walk_at "M_SPARE8") => `(tactic| skip)
local macro_rules | `(tactic| walk_at "M_SPARE9") => `(tactic| skip)
local macro_rules | `(tactic| walk_at "M_SPARE10") => `(tactic| skip)
local macro_rules | `(tactic| walk_at "M_SPARE11") => `(tactic| skip)
local macro_rules | `(tactic| walk_at "M_SPARE12") => `(tactic| skip)
local macro_rules | `(tactic| walk_at "M_SPARE13") => `(tactic| skip)
local macro_rules | `(tactic| walk_at "M_SPARE14") => `(tactic| skip)
local macro_rules | `(tactic| walk_at "M_SPARE15") => `(tactic| skip)
local macro_rules | `(tactic| walk_at "M_SPARE16") => `(tactic| skip)
local macro_rules | `(tactic| walk_at "M_SPARE17") => `(tactic| skip)
local macro_rules | `(tactic| walk_at "M_SPARE18") => `(tactic| skip)
local macro_rules | `(tactic| walk_at "M_SPARE19") => `(tactic| skip)
local macro_rules | `(tactic| walk_at "M_SPARE20") => `(tactic| skip)
local macro_rules | `(tactic| walk_at "M_SPARE21") => `(tactic| skip)
local macro_rules | `(tactic| walk_at "M_SPARE22") => `(tactic| skip)
local macro_rules | `(tactic| walk_at "M_SPARE23") => `(tactic| skip)
local macro_rules | `(tactic| walk_at "M_SPARE24") => `(tactic| skip)
example : True := by
  k_with_none
  trivial
local macro_rules | `(tactic| walk_at "M_ENTER") => `(tactic| (refine' code_def ?k1 ?k2 ?k3 ?k4 ?k5 ?kA ?kF ?kK ?k6 ?k7 ?k8 ?k9 ?kB ?_ ?c2 ?c3 ?c4 ?c5; (case kA => exact rfl); (case kF => assumption); (case kK => assumption); (case k1 => k_asm); (case k2 => k_asm); (case k3 => k_asm); (case k4 => k_asm); (case k5 => k_asm); (case k6 => k_is); (case k7 => k_is); (case k8 => ktr_room); (case k9 => first | exact BindsTo.of_eq rfl | exact binds_K (by k_in) rfl (by k_is) rfl rfl rfl | (refine' kp_binds ?kx ?ke; (case kx => k_in); (case ke => exact fun _ => rfl))); (case c5 => decide); (case kB => exact locs rfl); (case c2 => exact rfl); (case c3 => exact rfl); (case c4 => exact rfl); k_whole; intro g' L' h' FG' F' N' B' X' T'; (try dsimp only); (try k_lift B'); (try k_fold)))
local macro_rules | `(tactic| walk_at "M_ENTERC") => `(tactic| (refine' code_defC ?k1 ?k2 ?k3 ?k4 ?k5 ?kA ?kF ?kK ?k6 ?k7 ?k8 ?k9 ?kB ?kD ?_ ?c2 ?c3 ?c4; (case kA => exact rfl); (case kF => assumption); (case kK => assumption); (case k1 => k_asm); (case k2 => k_asm); (case k3 => k_asm); (case k4 => k_asm); (case k5 => k_asm); (case k6 => k_is); (case k7 => k_is); (case k8 => ktr_room); (case k9 => first | exact BindsTo.of_eq rfl | exact binds_K (by k_in) rfl (by k_is) rfl rfl rfl | (refine' kp_binds ?kx ?ke; (case kx => k_in); (case ke => exact fun _ => rfl))); (case kB => exact rfl); (case kD => decide +kernel); (case c2 => exact rfl); (case c3 => exact rfl); (case c4 => exact rfl); k_whole; intro g' L' h' tk' cells' FG' F' N' Y' B' X' T' l1; (try k_lt l1); k_cells Y'; (try simp only [List.cons_append, List.nil_append] at N'); (try dsimp only); (try k_lift B'); (try k_fold)))
local macro_rules | `(tactic| walk_at "M_ENTERN") => `(tactic| (refine' code_nest ?k1 ?k2 ?k3 ?k4 ?k5 ?kA ?kF ?kK ?k6 ?k7 ?k8 ?k9 ?kB ?_ ?c2 ?c3 ?c4 ?c5; (case kA => exact rfl); (case kF => assumption); (case kK => assumption); (case k1 => k_asm); (case k2 => k_asm); (case k3 => k_asm); (case k4 => k_asm); (case k5 => k_asm); (case k6 => k_mem); (case k7 => exact codeRec_news (by k_asm) (by k_mem) (by assumption) (by assumption)); (case k8 => ktr_room); (case k9 => exact BindsTo.of_eq rfl); (case c5 => decide); (case kB => exact locs rfl); (case c2 => exact rfl); (case c3 => exact rfl); (case c4 => exact rfl); k_whole; intro g' L' h' FG' F' N' B' X' T'; (try dsimp only); (try k_lift B'); (try k_fold)))
local macro_rules | `(tactic| k_all) => `(tactic| first | assumption | exact allLt_ne (by assumption) (by omega))
local macro_rules | `(tactic| walk_at "M_SIDE") => `(tactic| ((case kB => k_asm); (case kF => k_asm); (case kX => k_asm); (case kN => k_asm); (case kT => k_asm); (case kc => assumption); (case kf => first | rfl | assumption); (case kk => first | rfl | assumption); (case kd => ktr_room); (case ku => ktr_units)))
local macro_rules | `(tactic| walk_at "M_SIDE2") => `(tactic| ((case kB => k_asm); (case kF => k_asm); (case kX => k_asm); (case kT => k_asm); (case kc => assumption); (case kf => first | rfl | assumption); (case kk => first | rfl | assumption); (case kd => ktr_room); (case ku => ktr_units)))
local macro_rules | `(tactic| walk_at "eval Constant int") => `(tactic| (refine wpAny_Constant_int ?_; (try dsimp only)))
variable {w : World} {p : Program} {loose : List Str} {mean : ExcName → Option Value} {mg mb : Str → Option Value}
theorem kind_iter : builtinKind "iter" = none := by decide +kernel
theorem plain_iter : plainId "iter" = true := by decide +kernel
theorem entry_iter : entryFor table "iter" = some Builtin.«iter» := entryFor_of_tree (by kernel_rfl)
theorem args_iter2 (a b : Value) : argsOk "iter" ⟨[a, b], []⟩ := by unfold argsOk; kernel_rfl
theorem meth_call : typeLookup (.type "method") (Str.ofString "__call__") = pure (some (.builtin "method.__call__")) := by rw [typeLookup_type, builtinLookup_eq_fast]; kernel_rfl
theorem iter2_F {prog : Program} {A : Around} {E : Value → Shared → Prop} {s : Shared} {h₀ : Heap} {L M : Addr} {m : Str → Option Value} {f self xv : Value} {led : Led} {Q : Value → Shared → Prop} (F : Fr h₀ L s.heap m) (N : News h₀ L s.heap led) (hM : (M, methodObj f self) ∈ led)
    (h : ∀ I h', (∀ q ∈ led, q.1 < I) → Fr h₀ L h' m → News h₀ L h' ((I, ciO (.ref M) xv false) :: led) → Q (.ref I) { s with heap := h' }) : wpAny (model prog w) A (call (.builtin "iter") [.ref M, xv]) Q E s := by
  refine Calls.call_function_entry kind_iter plain_iter entry_iter (args_iter2 _ _) ?_

  unfold Builtin.«iter»
  refine wpAny_bind (m := someArgs "iter" 1 2 _) (wpAny_pure ?_)
  dsimp only
  refine wpAny_bind (wpAny_specialOf (T := "method") ⟨_, N.get hM, rfl⟩ meth_call ?_)
  rw [if_neg (by exact Bool.false_ne_true)]
  refine wpAny_bind (wpAny_rule ?_)
  refine wpAny_bind ?_
  unfold newFields
  refine wpAny_newObj_type ?_ (by size_fits)
  exact wpAny_pure ⟨_, rfl, h _ _ (fun q hq => Heap.lt_size (N.get hq)) (F.push _) (N.push F _)⟩
def nlC (c : Nat) : Int := nlS (oneS c)
def wsC (c : Nat) : Bool := c == 10 || c == 9 || c == 13 || c == 32
/-- what is left to read within quotation marks -/
def quotM : List Nat → Str → Int → Str × List Nat × Int
  | [], t, n => (t, [], n)
  | [c], t, n => if c = 34 then (t, [], n + nlC c) else if c = 92 then (t ++ Str.ofString "", [], n + nlC c) else (t ++ oneS c, [], n + nlC c)
  | c :: d :: r, t, n => if c = 34 then (t, d :: r, n + nlC c) else if c = 92 then quotM r (t ++ oneS d) (n + nlC c + nlC d) else quotM (d :: r) (t ++ oneS c) (n + nlC c)
/-- what is left to read of a bare word -/
def bareM : List Nat → Str → Int → Str × List Nat × Int
  | [], t, n => (t, [], n)
  | [c], t, n => if wsC c = true then (t, [], n + nlC c) else if c = 92 then (t ++ Str.ofString "", [], n + nlC c) else (t ++ oneS c, [], n + nlC c)
  | c :: d :: r, t, n => if wsC c = true then (t, d :: r, n + nlC c) else if c = 92 then bareM r (t ++ oneS d) (n + nlC c + nlC d) else bareM (d :: r) (t ++ oneS c) (n + nlC c)
/-- the next token: the text, the signs left, the line -/
def tokM : List Nat → Int → Str × List Nat × Int
  | [], n => (Str.ofString "", [], n)
  | c :: r, n => if wsC c = true then tokM r (n + nlC c) else if c = 34 then quotM r (Str.ofString "") (n + nlC c) else if c = 92 then bareM r.tail (Str.ofString "" ++ hdS r) (n + nlC c + nlS (hdS r)) else bareM r (Str.ofString "" ++ oneS c) (n + nlC c)
theorem nlS_nil : nlS (Str.ofString "") = 0 := by decide +kernel
theorem quotM_end {c : Nat} {r : List Nat} {t : Str} {n : Int} (h : c = 34) : quotM (c :: r) t n = (t, r, n + nlC c) := by
  cases r <;> simp [quotM, h]
theorem quotM_esc {c : Nat} {r : List Nat} {t : Str} {n : Int} (h : c = 92) : quotM (c :: r) t n = quotM r.tail (t ++ hdS r) (n + nlC c + nlS (hdS r)) := by
  subst h
  cases r with
  | nil => simp [quotM, hdS, nlS_nil]
  | cons d r => simp [quotM, hdS, nlC]
theorem quotM_one {c : Nat} {r : List Nat} {t : Str} {n : Int} (h1 : c ≠ 34) (h2 : c ≠ 92) : quotM (c :: r) t n = quotM r (t ++ oneS c) (n + nlC c) := by
  cases r with
  | nil => simp [quotM, h1, h2]
  | cons d r => simp [quotM, h1, h2]
theorem bareM_end {c : Nat} {r : List Nat} {t : Str} {n : Int} (h : wsC c = true) : bareM (c :: r) t n = (t, r, n + nlC c) := by
  cases r <;> simp [bareM, h]
theorem bareM_esc {c : Nat} {r : List Nat} {t : Str} {n : Int} (h : c = 92) : bareM (c :: r) t n = bareM r.tail (t ++ hdS r) (n + nlC c + nlS (hdS r)) := by
  subst h
  have hw : wsC 92 = false := by decide
  cases r with
  | nil => simp [bareM, hdS, nlS_nil, hw]
  | cons d r => simp [bareM, hdS, nlC, hw]
theorem bareM_one {c : Nat} {r : List Nat} {t : Str} {n : Int} (h1 : wsC c = false) (h2 : c ≠ 92) : bareM (c :: r) t n = bareM r (t ++ oneS c) (n + nlC c) := by
  cases r with
  | nil => simp [bareM, h1, h2]
  | cons d r => simp [bareM, h1, h2]

end Mine

namespace Mine
example : True := by
  k_with_none
  trivial
local macro_rules | `(tactic| walk_at "M_ENTER") => `(tactic| (refine' code_def ?k1 ?k2 ?k3 ?k4 ?k5 ?kA ?kF ?kK ?k6 ?k7 ?k8 ?k9 ?kB ?_ ?c2 ?c3 ?c4 ?c5; (case kA => exact rfl); (case kF => assumption); (case kK => assumption); (case k1 => k_asm); (case k2 => k_asm); (case k3 => k_asm); (case k4 => k_asm); (case k5 => k_asm); (case k6 => k_is); (case k7 => k_is); (case k8 => ktr_room); (case k9 => first | exact BindsTo.of_eq rfl | exact binds_K (by k_in) rfl (by k_is) rfl rfl rfl | (refine' kp_binds ?kx ?ke; (case kx => k_in); (case ke => exact fun _ => rfl))); (case c5 => decide); (case kB => exact locs rfl); (case c2 => exact rfl); (case c3 => exact rfl); (case c4 => exact rfl); k_whole; intro g' L' h' FG' F' N' B' X' T'; (try dsimp only); (try k_lift B'); (try k_fold)))
local macro_rules | `(tactic| walk_at "M_ENTERC") => `(tactic| (refine' code_defC ?k1 ?k2 ?k3 ?k4 ?k5 ?kA ?kF ?kK ?k6 ?k7 ?k8 ?k9 ?kB ?kD ?_ ?c2 ?c3 ?c4; (case kA => exact rfl); (case kF => assumption); (case kK => assumption); (case k1 => k_asm); (case k2 => k_asm); (case k3 => k_asm); (case k4 => k_asm); (case k5 => k_asm); (case k6 => k_is); (case k7 => k_is); (case k8 => ktr_room); (case k9 => first | exact BindsTo.of_eq rfl | exact binds_K (by k_in) rfl (by k_is) rfl rfl rfl | (refine' kp_binds ?kx ?ke; (case kx => k_in); (case ke => exact fun _ => rfl))); (case kB => exact rfl); (case kD => decide +kernel); (case c2 => exact rfl); (case c3 => exact rfl); (case c4 => exact rfl); k_whole; intro g' L' h' tk' cells' FG' F' N' Y' B' X' T' l1; (try k_lt l1); k_cells Y'; (try simp only [List.cons_append, List.nil_append] at N'); (try dsimp only); (try k_lift B'); (try k_fold)))
local macro_rules | `(tactic| walk_at "M_ENTERN") => `(tactic| (refine' code_nest ?k1 ?k2 ?k3 ?k4 ?k5 ?kA ?kF ?kK ?k6 ?k7 ?k8 ?k9 ?kB ?_ ?c2 ?c3 ?c4 ?c5; (case kA => exact rfl); (case kF => assumption); (case kK => assumption); (case k1 => k_asm); (case k2 => k_asm); (case k3 => k_asm); (case k4 => k_asm); (case k5 => k_asm); (case k6 => k_mem); (case k7 => exact codeRec_news (by k_asm) (by k_mem) (by assumption) (by assumption)); (case k8 => ktr_room); (case k9 => exact BindsTo.of_eq rfl); (case c5 => decide); (case kB => exact locs rfl); (case c2 => exact rfl); (case c3 => exact rfl); (case c4 => exact rfl); k_whole; intro g' L' h' FG' F' N' B' X' T'; (try dsimp only); (try k_lift B'); (try k_fold)))
local macro_rules | `(tactic| k_all) => `(tactic| first | assumption | exact allLt_ne (by assumption) (by omega))
local macro_rules | `(tactic| walk_at "M_SIDE") => `(tactic| ((case kB => k_asm); (case kF => k_asm); (case kX => k_asm); (case kN => k_asm); (case kT => k_asm); (case kc => assumption); (case kf => first | rfl | assumption); (case kk => first | rfl | assumption); (case kd => ktr_room); (case ku => ktr_units)))
local macro_rules | `(tactic| walk_at "M_SIDE2") => `(tactic| ((case kB => k_asm); (case kF => k_asm); (case kX => k_asm); (case kT => k_asm); (case kc => assumption); (case kf => first | rfl | assumption); (case kk => first | rfl | assumption); (case kd => ktr_room); (case ku => ktr_units)))
local macro_rules | `(tactic| walk_at "eval Constant int") => `(tactic| (refine wpAny_Constant_int ?_; (try dsimp only)))
variable {w : World} {p : Program} {loose : List Str} {mean : ExcName → Option Value} {mg mb : Str → Option Value}
variable {a1 a2 a3 a4 : Int} {k1 k2 k3 k4 tw : Tok} {D f2 c2 C dx x f1 ds pb : Addr} {o2 oc2 oC o1 oD : Obj}
/-- a loop's state: the iterator, the signs' list, the line, the token, the signs left, a measure -/
abbrev CiS := Obj × List Value × Nat × Int × Tok × Str × Tok × List Nat × Nat
abbrev ciLed (a1 a2 a3 a4 : Int) (k1 k2 k3 k4 tw : Tok) (D f2 c2 C dx x f1 ds pb I M : Addr) (o2 oc2 oC o1 oD : Obj) (rest : Led) (c : CiS) : Led :=
  (I, c.1) :: (M, methodObj (.ref 127) (.ref x)) :: lexLed a1 a2 a3 a4 k1 k2 k3 k4 tw D f2 c2 C dx x f1 ds pb o2 oc2 oC o1 oD c.2.1 c.2.2.1 c.2.2.2.1 c.2.2.2.2.1 rest
abbrev ciPs (c : CiS) : List (Str × Value) := [(Str.ofString "token", .str c.2.2.2.2.2.1 c.2.2.2.2.2.2.1)]
abbrev ciP (M : Addr) (tS : Tok) (J Je : List Nat → Str → Int → Prop) (c : CiS) : Prop :=
  StrsAre c.2.1 (c.2.2.2.2.2.2.2.1.map oneS) ∧ c.2.2.2.2.2.2.2.1.length ≤ 40 ∧
    ((CiOf c.1 (.ref M) (.str (Str.ofString "") tS) false ∧ J c.2.2.2.2.2.2.2.1 c.2.2.2.2.2.1 c.2.2.2.1 ∧ c.2.2.2.2.2.2.2.2 = c.2.2.2.2.2.2.2.1.length + 1) ∨ (CiOf c.1 .none .none true ∧ Je c.2.2.2.2.2.2.2.1 c.2.2.2.2.2.1 c.2.2.2.1 ∧ c.2.2.2.2.2.2.2.2 = 0))
abbrev ciM (c : CiS) : Nat := c.2.2.2.2.2.2.2.2
theorem offmap {l l' : Led} {I : Addr} (e : l.map (·.1) = l'.map (·.1)) (h : ∀ q ∈ l, q.1 ≠ I) : ∀ q ∈ l', q.1 ≠ I := fun q hq => by
  have hm : q.1 ∈ l'.map (·.1) := List.mem_map_of_mem hq
  rw [← e] at hm
  obtain ⟨q', hq', e'⟩ := List.mem_map.mp hm
  exact e' ▸ h q' hq'
theorem mem_swap {α : Type} {q : α} (A B C : List α) (h : q ∈ A ++ (B ++ C)) : q ∈ B ++ (A ++ C) := by
  simp only [List.mem_append] at *
  rcases h with h | h | h <;> simp [h]
theorem oneS_ne (c : Nat) : oneS c ≠ Str.ofString "" := fun h => by
  have e : (oneS c).cps.size = (Str.ofString "").cps.size := by rw [h]
  have e1 : (oneS c).cps.size = 1 := rfl
  have e2 : (Str.ofString "").cps.size = 0 := rfl
  omega
theorem ci_loop {y : Str} {px : Pos} {body : List Stmt} {m₀ : Str → Option Value} {h₀ base : Heap} {L I M : Addr} {rest : Led} {dp un : Nat} {env : Env} {outer : List Env} {gd : Option (List Code)} {A₀ : Around} {s : Shared} {tS : Tok} {o₀ : Obj} {vs₀ : List Value} {kn₀ : Nat} {n₀ : Int} {tn₀ : Tok} {t₀ : Str} {tt₀ : Tok} {cs₀ : List Nat} {Q : Flow → Shared → Prop} {E : Value → Shared → Prop}
    (J Je : List Nat → Str → Int → Prop) (stored : List Str) (hL : LexOk w p loose mean mg mb D f2 c2 C dx x f1 ds o2 oc2 oC o1 oD) (hoD : ∀ q ∈ rest, q.1 ≠ D) (hox : ∀ q ∈ rest, q.1 ≠ dx) (hI : (∀ q ∈ (M, methodObj (.ref 127) (.ref x)) :: lexLed a1 a2 a3 a4 k1 k2 k3 k4 tw D f2 c2 C dx x f1 ds pb o2 oc2 oC o1 oD vs₀ kn₀ n₀ tn₀ rest, q.1 ≠ I) ∧ @Ne Nat M D ∧ @Ne Nat M dx)
    (B : Below A₀ base outer h₀) (F : Fr h₀ L s.heap m₀) (X : (hd.heap_39 w.params).In h₀) (T : Top p loose mean mg mb h₀) (hc : CodesAt base) (hf : env.frame = some L) (hk : env.scope.kind = .function) (hdp : dp + 6 < recursionLimit) (hu : un + 1 + 200 < cLine)
    (N : News h₀ L s.heap (ciLed a1 a2 a3 a4 k1 k2 k3 k4 tw D f2 c2 C dx x f1 ds pb I M o2 oc2 oC o1 oD rest (o₀, vs₀, kn₀, n₀, tn₀, t₀, tt₀, cs₀, cs₀.length + 1)))
    (hR : CiOf o₀ (.ref M) (.str (Str.ofString "") tS) false) (hvs : StrsAre vs₀ (cs₀.map oneS)) (hlen : cs₀.length ≤ 40) (htok : m₀ (Str.ofString "token") = some (.str t₀ tt₀)) (hJ : J cs₀ t₀ n₀)
    (turn : ∀ (o' o : Obj) (vs' vs : List Value) (k' k : Nat) (n' n : Int) (tn' tn : Tok) (t : Str) (tt : Tok) (c : Nat) (r : List Nat) (z : Nat) (tc : Tok) (u : Str → Option Value) (h : Heap) (tk : Nat), CiOf o (.ref M) (.str (Str.ofString "") tS) false → StrsAre vs (r.map oneS) → r.length < 40 → J (c :: r) t n' → n = n' + nlC c → z = r.length + 2 →
      Fr h₀ L h (kstB (fun z => if stored.contains z then u z else m₀ z) [(Str.ofString "token", .str t tt)]) → News h₀ L h (ciLed a1 a2 a3 a4 k1 k2 k3 k4 tw D f2 c2 C dx x f1 ds pb I M o2 oc2 oC o1 oD rest (o, vs, k, n, tn, t, tt, r, z)) →
      wpAny (model PySem.Challenge.rw_uj0005_01.row.prog w) { handled := none, depth := dp, frames := some (env :: outer), guards := gd, units := un } (assign (.Name y px) env (.str (oneS c) tc)) (fun _ s₂ => wpAny (model PySem.Challenge.rw_uj0005_01.row.prog w) { handled := none, depth := dp, frames := some (env :: outer), guards := gd, units := un } (execs body env)
        (KswPost h₀ L s (ciLed a1 a2 a3 a4 k1 k2 k3 k4 tw D f2 c2 C dx x f1 ds pb I M o2 oc2 oC o1 oD rest) ciPs (fun _ => True) stored m₀ (ciP M tS J Je) ciM Q (o', vs', k', n', tn', t, tt, c :: r, z)) E s₂) E { s with heap := h, toks := tk })
    (done : ∀ (o : Obj) (vs : List Value) (k : Nat) (n : Int) (tn : Tok) (t : Str) (tt : Tok) (cs : List Nat) (z : Nat) (u : Str → Option Value) (h : Heap) (tk : Nat), CiOf o .none .none true → StrsAre vs (cs.map oneS) → cs.length ≤ 40 → ((cs = [] ∧ J [] t n) ∨ Je cs t n) →
      Fr h₀ L h (kstB (fun z => if stored.contains z then u z else m₀ z) [(Str.ofString "token", .str t tt)]) → News h₀ L h (ciLed a1 a2 a3 a4 k1 k2 k3 k4 tw D f2 c2 C dx x f1 ds pb I M o2 oc2 oC o1 oD rest (o, vs, k, n, tn, t, tt, cs, z)) → Q .next { s with heap := h, toks := tk })
    (hE : PassesOwn (model PySem.Challenge.rw_uj0005_01.row.prog w) { handled := none, depth := dp, frames := some (env :: outer), guards := gd, units := un } env E) :
    wpAny (model PySem.Challenge.rw_uj0005_01.row.prog w) { handled := none, depth := dp, frames := some (env :: outer), guards := gd, units := un } (pyIter (.ref I)) (fun it s₂ => ForAt PySem.Challenge.rw_uj0005_01.row.prog w { handled := none, depth := dp, frames := some (env :: outer), guards := gd, units := un } env y px body Q E it s₂) E s := by
  refine pyIter_ci (N.get (.head _)) hR ?_
  refine for_state (σ := CiS) (ciLed a1 a2 a3 a4 k1 k2 k3 k4 tw D f2 c2 C dx x f1 ds pb I M o2 oc2 oC o1 oD rest) ciPs stored (ciP M tS J Je) ciM (o₀, vs₀, kn₀, n₀, tn₀, t₀, tt₀, cs₀, cs₀.length + 1) F N ?_ ⟨hvs, hlen, .inl ⟨hR, hJ, rfl⟩⟩ ?_ hE
  · intro q hq
    rw [List.mem_singleton.mp hq]
    exact htok
  · rintro ⟨o, vs, k, n, tn, t, tt, cs, z⟩ u h tk ⟨hv, hl, hP⟩ F' N'
    dsimp only at hv hl hP
    rcases hP with ⟨hR', hJ', hz⟩ | ⟨hR', hJ', hz⟩
    · have hoff : ∀ q ∈ (M, methodObj (.ref 127) (.ref x)) :: lexLed a1 a2 a3 a4 k1 k2 k3 k4 tw D f2 c2 C dx x f1 ds pb o2 oc2 oC o1 oD vs k n tn rest, q.1 ≠ I := offmap (by rfl) hI.1
      have hDI : @Ne Nat D I := hoff _ (.tail _ (.head _))
      have hdI : @Ne Nat dx I := hoff _ (.tail _ (.tail _ (.tail _ (.tail _ (.tail _ (.head _))))))
      refine next_ci rfl F' X N' hR' ?_
      have C1 := (rchar_c (a1 := a1) (a2 := a2) (a3 := a3) (a4 := a4) (k1 := k1) (k2 := k2) (k3 := k3) (k4 := k4) (tw := tw) (pb := pb) (rest := (I, o) :: (M, methodObj (.ref 127) (.ref x)) :: rest) (vs := vs) (k := k) (n := n) (tn := tn) hL
        (List.forall_mem_cons.mpr ⟨Ne.symm hDI, List.forall_mem_cons.mpr ⟨hI.2.1, hoD⟩⟩) (List.forall_mem_cons.mpr ⟨Ne.symm hdI, List.forall_mem_cons.mpr ⟨hI.2.2, hox⟩⟩) hl hv)
      refine C1 _ _ _ _ _ _ _ _ _ _ _ _ B F' X (newsSub N' fun q hq => mem_swap [_, _, _, _, _, _, _, _] [_, _] rest hq) T hc hf hk hdp hu ?_
      rintro r news' h' tk' F1 N1 ⟨tc, vs', k', tn', m', rfl, hm', rfl, hv'⟩
      have hoff1 : ∀ q ∈ (M, methodObj (.ref 127) (.ref x)) :: lexLed a1 a2 a3 a4 k1 k2 k3 k4 tw D f2 c2 C dx x f1 ds pb o2 oc2 oC o1 oD vs' k' m' tn' rest, q.1 ≠ I := offmap (by rfl) hI.1
      have N2 := newsSub (news := (I, o) :: (M, methodObj (.ref 127) (.ref x)) :: lexLed a1 a2 a3 a4 k1 k2 k3 k4 tw D f2 c2 C dx x f1 ds pb o2 oc2 oC o1 oD vs' k' m' tn' rest) N1 fun q hq => mem_swap [_, _] [_, _, _, _, _, _, _, _] rest hq
      refine ⟨_, tc, h', tk', lexLed a1 a2 a3 a4 k1 k2 k3 k4 tw D f2 c2 C dx x f1 ds pb o2 oc2 oC o1 oD vs' k' m' tn' rest, rfl, rfl, F1, N2, hoff1, fun hne => ?_, fun he h'' o' hR1 F3 N3 => ?_⟩
      · cases cs with
        | nil => exact absurd rfl hne
        | cons c r => exact turn o o vs vs' k k' n m' tn tn' t tt c r z tc u h' tk' hR' hv' (by rw [List.length_cons] at hl; omega) hJ' hm' (by rw [hz]; rfl) F1 N2
      · cases cs with
        | cons c r => exact absurd he (oneS_ne c)
        | nil =>
          have e : m' = n := by rw [hm']; show n + nlS (Str.ofString "") = n; rw [nlS_nil, Int.add_zero]
          subst e
          exact done o' vs' k' m' tn' t tt [] z u h'' tk' hR1 hv' (by simp) (.inl ⟨rfl, hJ'⟩) F3 N3
    · exact next_ci_done rfl F' N' (.head _) hR' fun h' F1 N1 => done o vs k n tn t tt cs z u h' tk hR' hv hl (.inr hJ') F1 N1

end Mine

namespace Mine
local macro_rules | `(tactic| walk_at "M_SPARE0") => `(tactic| skip)
local macro_rules | `(tactic| walk_at "M_SPARE1") => `(tactic| skip)
local macro_rules | `(tactic| walk_at "M_SPARE2") => `(tactic| skip)
local macro_rules | `(tactic| walk_at "M_SPARE3") => `(tactic| skip)
local macro_rules | `(tactic| walk_at "M_SPARE4") => `(tactic| skip)
local macro_rules | `(tactic| walk_at "M_SPARE5") => `(tactic| skip)
local macro_rules | `(tactic| walk_at "M_SPARE6") => `(tactic| skip)
local macro_rules | `(tactic| walk_at "M_SPARE7") => `(tactic| skip)
local macro_rules | `(tactic| walk_at "M_SPARE8") => `(tactic| skip)
local macro_rules | `(tactic| walk_at "M_SPARE9") => `(tactic| skip)
local macro_rules | `(tactic| walk_at "M_SPARE10") => `(tactic| skip)
local macro_rules | `(tactic| walk_at "M_SPARE11") => `(tactic| skip)
local macro_rules | `(tactic| walk_at "M_SPARE12") => `(tactic| skip)
local macro_rules | `(tactic| walk_at "M_SPARE13") => `(tactic| skip)
local macro_rules | `(tactic| walk_at "M_SPARE14") => `(tactic| skip)
local macro_rules | `(tactic| walk_at "M_SPARE15") => `(tactic| skip)
local macro_rules | `(tactic| walk_at "M_SPARE16") => `(tactic| skip)
local macro_rules | `(tactic| walk_at "M_SPARE17") => `(tactic| skip)
local macro_rules | `(tactic| walk_at "M_SPARE18") => `(tactic| skip)
local macro_rules | `(tactic| walk_at "M_SPARE19") => `(tactic| skip)
local macro_rules | `(tactic| walk_at "M_SPARE20") => `(tactic| skip)
local macro_rules | `(tactic| walk_at "M_SPARE21") => `(tactic| skip)
local macro_rules | `(tactic| walk_at "M_SPARE22") => `(tactic| skip)
local macro_rules | `(tactic| walk_at "M_SPARE23") => `(tactic| skip)
local macro_rules | `(tactic| walk_at "M_SPARE24") => `(tactic| skip)
example : True := by
  k_with_none
  trivial
local macro_rules | `(tactic| walk_at "M_ENTER") => `(tactic| (refine' code_def ?k1 ?k2 ?k3 ?k4 ?k5 ?kA ?kF ?kK ?k6 ?k7 ?k8 ?k9 ?kB ?_ ?c2 ?c3 ?c4 ?c5; (case kA => exact rfl); (case kF => assumption); (case kK => assumption); (case k1 => k_asm); (case k2 => k_asm); (case k3 => k_asm); (case k4 => k_asm); (case k5 => k_asm); (case k6 => k_is); (case k7 => k_is); (case k8 => ktr_room); (case k9 => first | exact BindsTo.of_eq rfl | exact binds_K (by k_in) rfl (by k_is) rfl rfl rfl | (refine' kp_binds ?kx ?ke; (case kx => k_in); (case ke => exact fun _ => rfl))); (case c5 => decide); (case kB => exact locs rfl); (case c2 => exact rfl); (case c3 => exact rfl); (case c4 => exact rfl); k_whole; intro g' L' h' FG' F' N' B' X' T'; (try dsimp only); (try k_lift B'); (try k_fold)))
local macro_rules | `(tactic| walk_at "M_ENTERC") => `(tactic| (refine' code_defC ?k1 ?k2 ?k3 ?k4 ?k5 ?kA ?kF ?kK ?k6 ?k7 ?k8 ?k9 ?kB ?kD ?_ ?c2 ?c3 ?c4; (case kA => exact rfl); (case kF => assumption); (case kK => assumption); (case k1 => k_asm); (case k2 => k_asm); (case k3 => k_asm); (case k4 => k_asm); (case k5 => k_asm); (case k6 => k_is); (case k7 => k_is); (case k8 => ktr_room); (case k9 => first | exact BindsTo.of_eq rfl | exact binds_K (by k_in) rfl (by k_is) rfl rfl rfl | (refine' kp_binds ?kx ?ke; (case kx => k_in); (case ke => exact fun _ => rfl))); (case kB => exact rfl); (case kD => decide +kernel); (case c2 => exact rfl); (case c3 => exact rfl); (case c4 => exact rfl); k_whole; intro g' L' h' tk' cells' FG' F' N' Y' B' X' T' l1; (try k_lt l1); k_cells Y'; (try simp only [List.cons_append, List.nil_append] at N'); (try dsimp only); (try k_lift B'); (try k_fold)))
local macro_rules | `(tactic| walk_at "M_ENTERN") => `(tactic| (refine' code_nest ?k1 ?k2 ?k3 ?k4 ?k5 ?kA ?kF ?kK ?k6 ?k7 ?k8 ?k9 ?kB ?_ ?c2 ?c3 ?c4 ?c5; (case kA => exact rfl); (case kF => assumption); (case kK => assumption); (case k1 => k_asm); (case k2 => k_asm); (case k3 => k_asm); (case k4 => k_asm); (case k5 => k_asm); (case k6 => k_mem); (case k7 => exact codeRec_news (by k_asm) (by k_mem) (by assumption) (by assumption)); (case k8 => ktr_room); (case k9 => exact BindsTo.of_eq rfl); (case c5 => decide); (case kB => exact locs rfl); (case c2 => exact rfl); (case c3 => exact rfl); (case c4 => exact rfl); k_whole; intro g' L' h' FG' F' N' B' X' T'; (try dsimp only); (try k_lift B'); (try k_fold)))
local macro_rules | `(tactic| k_all) => `(tactic| first | assumption | exact allLt_ne (by assumption) (by omega))
local macro_rules | `(tactic| walk_at "M_SIDE") => `(tactic| ((case kB => k_asm); (case kF => k_asm); (case kX => k_asm); (case kN => k_asm); (case kT => k_asm); (case kc => assumption); (case kf => first | rfl | assumption); (case kk => first | rfl | assumption); (case kd => ktr_room); (case ku => ktr_units)))
local macro_rules | `(tactic| walk_at "M_SIDE2") => `(tactic| ((case kB => k_asm); (case kF => k_asm); (case kX => k_asm); (case kT => k_asm); (case kc => assumption); (case kf => first | rfl | assumption); (case kk => first | rfl | assumption); (case kd => ktr_room); (case ku => ktr_units)))
local macro_rules | `(tactic| walk_at "eval Constant int") => `(tactic| (refine wpAny_Constant_int ?_; (try dsimp only)))
variable {w : World} {p : Program} {loose : List Str} {mean : ExcName → Option Value} {mg mb : Str → Option Value}
variable {a1 a2 a3 a4 : Int} {k1 k2 k3 k4 tw : Tok} {D f2 c2 C dx x f1 ds pb : Addr} {o2 oc2 oC o1 oD : Obj}
def ABC : List Nat := [10, 34, 92, 9, 13, 101, 110, 100]
theorem ws_abc : ∀ c ∈ ABC, (Builtin.Str.occurrences (Str.ofString "\n\t\r ") (oneS c) 0 (Str.ofString "\n\t\r ").length 1).isEmpty = !wsC c := by decide +kernel
theorem oneS_inj {c d : Nat} (h : oneS c = oneS d) : c = d := by
  have e : (oneS c).cps = (oneS d).cps := by rw [h]
  simpa using e
theorem q34 {c : Nat} (h : (oneS c == Str.ofString "\"") = true) : c = 34 := oneS_inj ((eq_of_beq h).trans (by decide))
theorem n34 {c : Nat} (h : (oneS c == Str.ofString "\"") = false) : c ≠ 34 := fun e => by
  subst e
  exact absurd h (by decide)
theorem q92 {c : Nat} (h : (oneS c == Str.ofString "\\") = true) : c = 92 := oneS_inj ((eq_of_beq h).trans (by decide))
theorem n92 {c : Nat} (h : (oneS c == Str.ofString "\\") = false) : c ≠ 92 := fun e => by
  subst e
  exact absurd h (by decide)
theorem wsT {c : Nat} (ha : c ∈ ABC) (h : (Builtin.Str.occurrences (Str.ofString "\n\t\r ") (oneS c) 0 (Str.ofString "\n\t\r ").length 1).isEmpty = false) : wsC c = true := by
  rw [ws_abc c ha] at h
  simpa using h
theorem wsF {c : Nat} (ha : c ∈ ABC) (h : (Builtin.Str.occurrences (Str.ofString "\n\t\r ") (oneS c) 0 (Str.ofString "\n\t\r ").length 1).isEmpty = true) : wsC c = false := by
  rw [ws_abc c ha] at h
  simpa using h
abbrev Tri := Str × List Nat × Int
def J1 (T : Tri) (cs : List Nat) (t : Str) (n : Int) : Prop := t = Str.ofString "" ∧ tokM cs n = T ∧ ∀ c ∈ cs, c ∈ ABC
def JE (T : Tri) (cs : List Nat) (t : Str) (n : Int) : Prop := (t, cs, n) = T
def JQ (T : Tri) (cs : List Nat) (t : Str) (n : Int) : Prop := quotM cs t n = T ∧ t.length + cs.length ≤ 60 ∧ ∀ c ∈ cs, c ∈ ABC
def JB (T : Tri) (cs : List Nat) (t : Str) (n : Int) : Prop := bareM cs t n = T ∧ t.length + cs.length ≤ 60 ∧ ∀ c ∈ cs, c ∈ ABC
theorem hdS_len (r : List Nat) : (hdS r).length ≤ 1 := by
  cases r with
  | nil => decide
  | cons c r => exact Nat.le_refl 1
theorem app_len (a b : Str) : (a ++ b).length = a.length + b.length := by
  show (a.cps ++ b.cps).size = _
  rw [Array.size_append]
  rfl
theorem J1.mem {T : Tri} {c : Nat} {r : List Nat} {t : Str} {n : Int} (h : J1 T (c :: r) t n) : c ∈ ABC := h.2.2 c (.head _)
theorem JB.mem {T : Tri} {c : Nat} {r : List Nat} {t : Str} {n : Int} (h : JB T (c :: r) t n) : c ∈ ABC := h.2.2 c (.head _)
theorem J1.ws {T : Tri} {c : Nat} {r : List Nat} {t : Str} {n : Int} (h : J1 T (c :: r) t n) (hw : wsC c = true) : J1 T r t (n + nlC c) := by
  obtain ⟨h1, h2, h3⟩ := h
  refine ⟨h1, ?_, fun d hd => h3 d (.tail _ hd)⟩
  rw [← h2, tokM, if_pos hw]
theorem J1.quot {T : Tri} {c : Nat} {r : List Nat} {t : Str} {n : Int} (h : J1 T (c :: r) t n) (hw : wsC c = false) (hq : c = 34) (hl : r.length < 40) : JQ T r t (n + nlC c) := by
  obtain ⟨rfl, h2, h3⟩ := h
  refine ⟨?_, ?_, fun d hd => h3 d (.tail _ hd)⟩
  · rw [← h2, tokM, if_neg (by rw [hw]; exact Bool.false_ne_true), if_pos hq]
  · have : (Str.ofString "").length = 0 := rfl
    omega
theorem J1.bare {T : Tri} {c : Nat} {r : List Nat} {t : Str} {n : Int} (h : J1 T (c :: r) t n) (hw : wsC c = false) (hq : c ≠ 34) (he : c ≠ 92) (hl : r.length < 40) : JB T r (t ++ oneS c) (n + nlC c) := by
  obtain ⟨rfl, h2, h3⟩ := h
  refine ⟨?_, ?_, fun d hd => h3 d (.tail _ hd)⟩
  · rw [← h2, tokM, if_neg (by rw [hw]; exact Bool.false_ne_true), if_neg hq, if_neg he]
  · rw [app_len]
    have : (Str.ofString "").length = 0 := rfl
    have : (oneS c).length = 1 := rfl
    omega
theorem J1.esc {T : Tri} {c : Nat} {r : List Nat} {t : Str} {n : Int} (h : J1 T (c :: r) t n) (hw : wsC c = false) (hq : c ≠ 34) (he : c = 92) (hl : r.length < 40) : JB T r.tail (t ++ hdS r) (n + nlC c + nlS (hdS r)) := by
  obtain ⟨rfl, h2, h3⟩ := h
  refine ⟨?_, ?_, fun d hd => h3 d (.tail _ (List.mem_of_mem_tail hd))⟩
  · rw [← h2, tokM, if_neg (by rw [hw]; exact Bool.false_ne_true), if_neg hq, if_pos he]
  · rw [app_len]
    have : (Str.ofString "").length = 0 := rfl
    have := hdS_len r
    have := List.length_tail (l := r)
    omega
theorem J1.nil {T : Tri} {t : Str} {n : Int} (h : J1 T [] t n) : JE T [] t n := by
  obtain ⟨rfl, h2, _⟩ := h
  exact h2
theorem JQ.nil {T : Tri} {t : Str} {n : Int} (h : JQ T [] t n) : JE T [] t n := h.1
theorem JB.nil {T : Tri} {t : Str} {n : Int} (h : JB T [] t n) : JE T [] t n := h.1
theorem JQ.end {T : Tri} {c : Nat} {r : List Nat} {t : Str} {n : Int} (h : JQ T (c :: r) t n) (hq : c = 34) : JE T r t (n + nlC c) := by
  rw [← h.1, quotM_end hq]
  rfl
theorem JB.end {T : Tri} {c : Nat} {r : List Nat} {t : Str} {n : Int} (h : JB T (c :: r) t n) (hq : wsC c = true) : JE T r t (n + nlC c) := by
  rw [← h.1, bareM_end hq]
  rfl
theorem JQ.one {T : Tri} {c : Nat} {r : List Nat} {t : Str} {n : Int} (h : JQ T (c :: r) t n) (hq : c ≠ 34) (he : c ≠ 92) : JQ T r (t ++ oneS c) (n + nlC c) := by
  refine ⟨by rw [← h.1, quotM_one hq he], ?_, fun d hd => h.2.2 d (.tail _ hd)⟩
  have := h.2.1
  rw [app_len]
  rw [List.length_cons] at this
  have : (oneS c).length = 1 := rfl
  omega
theorem JQ.esc {T : Tri} {c : Nat} {r : List Nat} {t : Str} {n : Int} (h : JQ T (c :: r) t n) (he : c = 92) : JQ T r.tail (t ++ hdS r) (n + nlC c + nlS (hdS r)) := by
  refine ⟨by rw [← h.1, quotM_esc he], ?_, fun d hd => h.2.2 d (.tail _ (List.mem_of_mem_tail hd))⟩
  have := h.2.1
  rw [app_len]
  rw [List.length_cons] at this
  have := hdS_len r
  have := List.length_tail (l := r)
  omega
theorem JB.one {T : Tri} {c : Nat} {r : List Nat} {t : Str} {n : Int} (h : JB T (c :: r) t n) (hq : wsC c = false) (he : c ≠ 92) : JB T r (t ++ oneS c) (n + nlC c) := by
  refine ⟨by rw [← h.1, bareM_one hq he], ?_, fun d hd => h.2.2 d (.tail _ hd)⟩
  have := h.2.1
  rw [app_len]
  rw [List.length_cons] at this
  have : (oneS c).length = 1 := rfl
  omega
theorem JB.esc {T : Tri} {c : Nat} {r : List Nat} {t : Str} {n : Int} (h : JB T (c :: r) t n) (he : c = 92) : JB T r.tail (t ++ hdS r) (n + nlC c + nlS (hdS r)) := by
  refine ⟨by rw [← h.1, bareM_esc he], ?_, fun d hd => h.2.2 d (.tail _ (List.mem_of_mem_tail hd))⟩
  have := h.2.1
  rw [app_len]
  rw [List.length_cons] at this
  have := hdS_len r
  have := List.length_tail (l := r)
  omega

end Mine

namespace Mine
example : True := by
  k_with_none
  trivial
local macro_rules | `(tactic| walk_at "M_ENTER") => `(tactic| (refine' code_def ?k1 ?k2 ?k3 ?k4 ?k5 ?kA ?kF ?kK ?k6 ?k7 ?k8 ?k9 ?kB ?_ ?c2 ?c3 ?c4 ?c5; (case kA => exact rfl); (case kF => assumption); (case kK => assumption); (case k1 => k_asm); (case k2 => k_asm); (case k3 => k_asm); (case k4 => k_asm); (case k5 => k_asm); (case k6 => k_is); (case k7 => k_is); (case k8 => ktr_room); (case k9 => first | exact BindsTo.of_eq rfl | exact binds_K (by k_in) rfl (by k_is) rfl rfl rfl | (refine' kp_binds ?kx ?ke; (case kx => k_in); (case ke => exact fun _ => rfl))); (case c5 => decide); (case kB => exact locs rfl); (case c2 => exact rfl); (case c3 => exact rfl); (case c4 => exact rfl); k_whole; intro g' L' h' FG' F' N' B' X' T'; (try dsimp only); (try k_lift B'); (try k_fold)))
local macro_rules | `(tactic| walk_at "M_ENTERC") => `(tactic| (refine' code_defC ?k1 ?k2 ?k3 ?k4 ?k5 ?kA ?kF ?kK ?k6 ?k7 ?k8 ?k9 ?kB ?kD ?_ ?c2 ?c3 ?c4; (case kA => exact rfl); (case kF => assumption); (case kK => assumption); (case k1 => k_asm); (case k2 => k_asm); (case k3 => k_asm); (case k4 => k_asm); (case k5 => k_asm); (case k6 => k_is); (case k7 => k_is); (case k8 => ktr_room); (case k9 => first | exact BindsTo.of_eq rfl | exact binds_K (by k_in) rfl (by k_is) rfl rfl rfl | (refine' kp_binds ?kx ?ke; (case kx => k_in); (case ke => exact fun _ => rfl))); (case kB => exact rfl); (case kD => decide +kernel); (case c2 => exact rfl); (case c3 => exact rfl); (case c4 => exact rfl); k_whole; intro g' L' h' tk' cells' FG' F' N' Y' B' X' T' l1; (try k_lt l1); k_cells Y'; (try simp only [List.cons_append, List.nil_append] at N'); (try dsimp only); (try k_lift B'); (try k_fold)))
local macro_rules | `(tactic| walk_at "M_ENTERN") => `(tactic| (refine' code_nest ?k1 ?k2 ?k3 ?k4 ?k5 ?kA ?kF ?kK ?k6 ?k7 ?k8 ?k9 ?kB ?_ ?c2 ?c3 ?c4 ?c5; (case kA => exact rfl); (case kF => assumption); (case kK => assumption); (case k1 => k_asm); (case k2 => k_asm); (case k3 => k_asm); (case k4 => k_asm); (case k5 => k_asm); (case k6 => k_mem); (case k7 => exact codeRec_news (by k_asm) (by k_mem) (by assumption) (by assumption)); (case k8 => ktr_room); (case k9 => exact BindsTo.of_eq rfl); (case c5 => decide); (case kB => exact locs rfl); (case c2 => exact rfl); (case c3 => exact rfl); (case c4 => exact rfl); k_whole; intro g' L' h' FG' F' N' B' X' T'; (try dsimp only); (try k_lift B'); (try k_fold)))
local macro_rules | `(tactic| k_all) => `(tactic| first | assumption | exact allLt_ne (by assumption) (by omega))
local macro_rules | `(tactic| walk_at "M_SIDE") => `(tactic| ((case kB => k_asm); (case kF => k_asm); (case kX => k_asm); (case kN => k_asm); (case kT => k_asm); (case kc => assumption); (case kf => first | rfl | assumption); (case kk => first | rfl | assumption); (case kd => ktr_room); (case ku => ktr_units)))
local macro_rules | `(tactic| walk_at "M_SIDE2") => `(tactic| ((case kB => k_asm); (case kF => k_asm); (case kX => k_asm); (case kT => k_asm); (case kc => assumption); (case kf => first | rfl | assumption); (case kk => first | rfl | assumption); (case kd => ktr_room); (case ku => ktr_units)))
local macro_rules | `(tactic| walk_at "eval Constant int") => `(tactic| (refine wpAny_Constant_int ?_; (try dsimp only)))
variable {w : World} {p : Program} {loose : List Str} {mean : ExcName → Option Value} {mg mb : Str → Option Value}
local macro_rules | `(tactic| walk_at "call builtin:iter") => `(tactic| k_extra "M_ITER")
local macro_rules | `(tactic| walk_at "exec For Name Name cons nil") => `(tactic| k_extra "M_FOR")
local macro_rules | `(tactic| walk_at "pyIter ref") => `(tactic| k_extra "M_PYITER")
local macro_rules | `(tactic| walk_at "KswEnd") => `(tactic| k_extra "M_END")
local macro_rules | `(tactic| walk_at "call ref") => `(tactic| k_extra "call ref")
local macro_rules | `(tactic| walk_at "truthy ref") => `(tactic| k_extra "M_TRUTHY")
local macro_rules | `(tactic| walk_at "inplaceOp Add str str") => `(tactic| k_extra "M_IADD")
variable {a1 a2 a3 a4 : Int} {k1 k2 k3 k4 tw : Tok} {D f2 c2 C dx x f1 ds pb : Addr} {o2 oc2 oC o1 oD : Obj}
theorem truthy_nil {prog : Program} {A : Around} {E : Value → Shared → Prop} {s : Shared} {h₀ : Heap} {L l : Addr} {n : Nat} {led : Led} {Q : Bool → Shared → Prop} (N : News h₀ L s.heap led) (hm : (l, lstO [] n) ∈ led) (h : ∀ tk, Q false { s with toks := tk }) : wpAny (model prog w) A (truthy (.ref l)) Q E s :=
  wpAny_truthy_list (isList_of N hm) (by decide) (h _)
theorem truthy_cons {prog : Program} {A : Around} {E : Value → Shared → Prop} {s : Shared} {h₀ : Heap} {L l : Addr} {n : Nat} {v : Value} {vs : List Value} {led : Led} {Q : Bool → Shared → Prop} (N : News h₀ L s.heap led) (hm : (l, lstO (v :: vs) n) ∈ led) (hl : (v :: vs).length ≤ sizeLine) (h : ∀ tk, Q true { s with toks := tk }) : wpAny (model prog w) A (truthy (.ref l)) Q E s :=
  wpAny_truthy_list (isList_of N hm) (by rw [sizeLine_eq] at hl; simp only [List.size_toArray]; omega) (by
    have e : (!(v :: vs).toArray.isEmpty) = true := by simp
    rw [e]
    exact h _)
set_option maxHeartbeats 0 in
/-- the next token of a lexer to which nothing has been pushed back -/
theorem tok_c {rest : Led} {cs : List Nat} {vs : List Value} {k kp : Nat} {n : Int} {tn : Tok} (hL : LexOk w p loose mean mg mb D f2 c2 C dx x f1 ds o2 oc2 oC o1 oD) (hoD : ∀ q ∈ rest, q.1 ≠ D) (hox : ∀ q ∈ rest, q.1 ≠ dx) (hpb : @Ne Nat pb D ∧ @Ne Nat pb dx) (hcs : cs.length ≤ 40) (hab : ∀ c ∈ cs, c ∈ ABC) (hvs : StrsAre vs (cs.map oneS)) :
    Con w p loose mean mg mb (.ref 134) [.ref x] [] 10 400 (lexLed a1 a2 a3 a4 k1 k2 k3 k4 tw D f2 c2 C dx x f1 ds pb o2 oc2 oC o1 oD vs k n tn ((pb, lstO [] kp) :: rest))
      (fun r n' => ∃ t vs' k' tn', r = .str (tokM cs n).1 t ∧ n' = lexLed a1 a2 a3 a4 k1 k2 k3 k4 tw D f2 c2 C dx x f1 ds pb o2 oc2 oC o1 oD vs' k' (tokM cs n).2.2 tn' ((pb, lstO [] kp) :: rest) ∧ StrsAre vs' ((tokM cs n).2.1.map oneS)) := by
  have hne9 := hL.ne
  unfold LexNe at hne9
  unfold Con; k_fill; intros; rename_i hret
  k_with_none
  k_dflt (walk_at "M_ENTER")
  k_with "M_TRUTHY" => (k_dflt (refine' truthy_nil ?kN ?km ?_; (case kN => k_asm); (case km => k_mem)); intro tk9; (try dsimp only))
  k_with "M_ITER" => (k_dflt (refine' iter2_F ?kF ?kN ?km ?_; (case kF => k_asm); (case kN => k_asm); (case km => k_mem)); intro I9 h9 lI9 F9 N9; (have hI9 : ∀ (q : Addr × Obj), q ∈ _ → q.1 ≠ I9 := fun q hq => Nat.ne_of_lt (lI9 q hq)); (try k_lt lI9); (try dsimp only))
  k_with "M_FOR" => (k_dflt (refine For_at ?_ ?_; rotate_left; (intro _; rfl)))
  have hoD9 : ∀ q ∈ (pb, lstO [] kp) :: rest, q.1 ≠ D := List.forall_mem_cons.mpr ⟨hpb.1, hoD⟩
  have hox9 : ∀ q ∈ (pb, lstO [] kp) :: rest, q.1 ≠ dx := List.forall_mem_cons.mpr ⟨hpb.2, hox⟩
  k_with "M_PYITER" => first
    | ((rename (oneS _ == Str.ofString "\"") = true => hq); (rename List.isEmpty _ = true => hw); (have hJ8 := J1.quot hJ9 (wsF hJ9.mem hw) (q34 hq) hcs9); clear hq hw; k_dflt (refine' ci_loop (y := Str.ofString "ch") (JQ (tokM cs n)) (fun _ _ _ => False) [Str.ofString "ch"] hL hoD9 hox9 ?kIa ?kBa ?kFa ?kXa ?kTa ?kca ?kfa ?kka ?kda ?kua ?kNa ?kRa ?kva ?kla ?ktoka ?kJa ?turna ?donea ?kEa; (case kBa => k_asm); (case kFa => k_asm); (case kXa => k_asm); (case kTa => k_asm); (case kca => assumption); (case kfa => first | rfl | assumption); (case kka => first | rfl | assumption); (case kda => ktr_room); (case kua => ktr_units); (case kNa => k_asm); (case kIa => exact ⟨offmap (by rfl) hI9, neN (by omega), neN (by omega)⟩); (case kRa => first | exact hR9 | exact ⟨rfl, rfl⟩); (case kva => first | exact hvs8 | exact hvs9 | exact hvs); (case kla => first | exact hl8 | exact Nat.le_of_lt hcs9 | exact hcs); (case ktoka => exact rfl); (case kJa => exact hJ8); (case kEa => passes_own)); (case' donea => intro o9 vs9 k9 n9 tn9 t9 tt9 cs9 z9 u9 h9 tk9 hR9 hvs9 hcs9 hJ9 F9 N9; (dsimp only [kstB] at F9); (try dsimp only)); (case' turna => (intro o7 o9 vs7 vs9 k7 k9 n7 n9 tn7 tn9 t9 tt9 c9 r9 z9 tc9 u9 h9 tk9 hR9 hvs9 hcs9 hJ9 hn9 hz9 F9 N9; subst hn9; (dsimp only [kstB] at F9); (have hlo9 : (oneS c9).length = 1 := rfl); (have hlt9 : t9.length ≤ 60 := by have := hJ9.2.1; omega))))
    | ((rename (oneS _ == Str.ofString "\"") = false => hq); (rename (oneS _ == Str.ofString "\\") = true => he); (rename List.isEmpty _ = true => hw); (have hJ8 := J1.esc hJ9 (wsF hJ9.mem hw) (n34 hq) (q92 he) hcs9); clear hq hw he; k_dflt (refine' ci_loop (y := Str.ofString "ch") (JB (tokM cs n)) (fun _ _ _ => False) [Str.ofString "ch"] hL hoD9 hox9 ?kIb ?kBb ?kFb ?kXb ?kTb ?kcb ?kfb ?kkb ?kdb ?kub ?kNb ?kRb ?kvb ?klb ?ktokb ?kJb ?turnb ?doneb ?kEb; (case kBb => k_asm); (case kFb => k_asm); (case kXb => k_asm); (case kTb => k_asm); (case kcb => assumption); (case kfb => first | rfl | assumption); (case kkb => first | rfl | assumption); (case kdb => ktr_room); (case kub => ktr_units); (case kNb => k_asm); (case kIb => exact ⟨offmap (by rfl) hI9, neN (by omega), neN (by omega)⟩); (case kRb => first | exact hR9 | exact ⟨rfl, rfl⟩); (case kvb => first | exact hvs8 | exact hvs9 | exact hvs); (case klb => first | exact hl8 | exact Nat.le_of_lt hcs9 | exact hcs); (case ktokb => exact rfl); (case kJb => exact hJ8); (case kEb => passes_own)); (case' doneb => intro o9 vs9 k9 n9 tn9 t9 tt9 cs9 z9 u9 h9 tk9 hR9 hvs9 hcs9 hJ9 F9 N9; (dsimp only [kstB] at F9); (try dsimp only)); (case' turnb => (intro o7 o9 vs7 vs9 k7 k9 n7 n9 tn7 tn9 t9 tt9 c9 r9 z9 tc9 u9 h9 tk9 hR9 hvs9 hcs9 hJ9 hn9 hz9 F9 N9; subst hn9; (dsimp only [kstB] at F9); (have hlo9 : (oneS c9).length = 1 := rfl); (have hlt9 : t9.length ≤ 60 := by have := hJ9.2.1; omega))))
    | ((rename (oneS _ == Str.ofString "\"") = false => hq); (rename (oneS _ == Str.ofString "\\") = false => he); (rename List.isEmpty _ = true => hw); (have hJ8 := J1.bare hJ9 (wsF hJ9.mem hw) (n34 hq) (n92 he) hcs9); clear hq hw he; k_dflt (refine' ci_loop (y := Str.ofString "ch") (JB (tokM cs n)) (fun _ _ _ => False) [Str.ofString "ch"] hL hoD9 hox9 ?kIc ?kBc ?kFc ?kXc ?kTc ?kcc ?kfc ?kkc ?kdc ?kuc ?kNc ?kRc ?kvc ?klc ?ktokc ?kJc ?turnc ?donec ?kEc; (case kBc => k_asm); (case kFc => k_asm); (case kXc => k_asm); (case kTc => k_asm); (case kcc => assumption); (case kfc => first | rfl | assumption); (case kkc => first | rfl | assumption); (case kdc => ktr_room); (case kuc => ktr_units); (case kNc => k_asm); (case kIc => exact ⟨offmap (by rfl) hI9, neN (by omega), neN (by omega)⟩); (case kRc => first | exact hR9 | exact ⟨rfl, rfl⟩); (case kvc => first | exact hvs8 | exact hvs9 | exact hvs); (case klc => first | exact hl8 | exact Nat.le_of_lt hcs9 | exact hcs); (case ktokc => exact rfl); (case kJc => exact hJ8); (case kEc => passes_own)); (case' donec => intro o9 vs9 k9 n9 tn9 t9 tt9 cs9 z9 u9 h9 tk9 hR9 hvs9 hcs9 hJ9 F9 N9; (dsimp only [kstB] at F9); (try dsimp only)); (case' turnc => (intro o7 o9 vs7 vs9 k7 k9 n7 n9 tn7 tn9 t9 tt9 c9 r9 z9 tc9 u9 h9 tk9 hR9 hvs9 hcs9 hJ9 hn9 hz9 F9 N9; subst hn9; (dsimp only [kstB] at F9); (have hlo9 : (oneS c9).length = 1 := rfl); (have hlt9 : t9.length ≤ 60 := by have := hJ9.2.1; omega))))
    | (k_dflt (refine' ci_loop (y := Str.ofString "ch") (J1 (tokM cs n)) (JE (tokM cs n)) [Str.ofString "ch"] hL hoD9 hox9 ?kId ?kBd ?kFd ?kXd ?kTd ?kcd ?kfd ?kkd ?kdd ?kud ?kNd ?kRd ?kvd ?kld ?ktokd ?kJd ?turnd ?doned ?kEd; (case kBd => k_asm); (case kFd => k_asm); (case kXd => k_asm); (case kTd => k_asm); (case kcd => assumption); (case kfd => first | rfl | assumption); (case kkd => first | rfl | assumption); (case kdd => ktr_room); (case kud => ktr_units); (case kNd => k_asm); (case kId => exact ⟨offmap (by rfl) hI9, neN (by omega), neN (by omega)⟩); (case kRd => first | exact hR9 | exact ⟨rfl, rfl⟩); (case kvd => first | exact hvs8 | exact hvs9 | exact hvs); (case kld => first | exact hl8 | exact Nat.le_of_lt hcs9 | exact hcs); (case ktokd => exact rfl); (case kJd => exact ⟨rfl, rfl, hab⟩); (case kEd => passes_own)); (case' doned => intro o9 vs9 k9 n9 tn9 t9 tt9 cs9 z9 u9 h9 tk9 hR9 hvs9 hcs9 hJ9 F9 N9; (dsimp only [kstB] at F9); (try dsimp only)); (case' turnd => (intro o7 o9 vs7 vs9 k7 k9 n7 n9 tn7 tn9 t9 tt9 c9 r9 z9 tc9 u9 h9 tk9 hR9 hvs9 hcs9 hJ9 hn9 hz9 F9 N9; subst hn9; (dsimp only [kstB] at F9); (have hlo9 : (oneS c9).length = 1 := rfl); (have hlt9 : t9.length ≤ 60 := by rw [hJ9.1]; decide))))
  k_with "call ref" => (k_dflt (refine' Con.use (rchar_c (rest := (I9, o9) :: (_, methodObj (.ref 127) (.ref x)) :: (pb, lstO [] kp) :: rest) hL ?ho1 ?ho2 (Nat.le_of_lt hcs9) hvs9) ?kB ?kF ?kX ?kN ?kT ?kc ?kf ?kk ?kd ?ku ?_; walk_at "M_SIDE2"; (case kN => exact newsSub (by k_asm) fun q hq => mem_swap [_, _, _, _, _, _, _, _] [_, _] _ hq); (case ho1 => exact List.forall_mem_cons.mpr ⟨neN (by omega), List.forall_mem_cons.mpr ⟨neN (by omega), hoD9⟩⟩); (case ho2 => exact List.forall_mem_cons.mpr ⟨neN (by omega), List.forall_mem_cons.mpr ⟨neN (by omega), hox9⟩⟩); k_whole); rintro r8 n8 h8 tk8 F8 N8 ⟨t8, vs8, k8, tn8, m8, rfl, rfl, rfl, hvs8⟩; (have hl8 : r9.tail.length ≤ 40 := by rw [List.length_tail]; omega); (have hlh8 := hdS_len r9); (replace N8 := newsSub (news := (I9, o9) :: (_, methodObj (.ref 127) (.ref x)) :: lexLed a1 a2 a3 a4 k1 k2 k3 k4 tw D f2 c2 C dx x f1 ds pb o2 oc2 oC o1 oD vs8 k8 _ tn8 ((pb, lstO [] kp) :: rest)) N8 (fun q hq => mem_swap [_, _] [_, _, _, _, _, _, _, _] _ hq)); (try dsimp only))
  k_with "M_IADD" => (refine iadd_str ?_ (by (try rw [hJ9.1]); rw [sizeLine_eq]; omega); intro t6 tk6; (try dsimp only))
  k_with "M_END" => first
    | ((rename (oneS _ == Str.ofString "\\") = true => he); (have hJ8 := JQ.esc hJ9 (q92 he)); (rename News _ _ _ _ => nE'); refine ksw_end (o9, _, _, _, _, _, _, r9.tail, r9.tail.length + 1) (by assumption) nE' (by kst_in) trivial (by kst_all) (by ksw_same) ⟨hvs8, hl8, .inl ⟨hR9, hJ8, rfl⟩⟩ (by (have h1 := List.length_tail (l := r9)); dsimp only [ciM]; omega))
    | ((rename (oneS _ == Str.ofString "\\") = true => he); (have hJ8 := JB.esc hJ9 (q92 he)); (rename News _ _ _ _ => nE'); refine ksw_end (o9, _, _, _, _, _, _, r9.tail, r9.tail.length + 1) (by assumption) nE' (by kst_in) trivial (by kst_all) (by ksw_same) ⟨hvs8, hl8, .inl ⟨hR9, hJ8, rfl⟩⟩ (by (have h1 := List.length_tail (l := r9)); dsimp only [ciM]; omega))
    | ((rename (oneS _ == Str.ofString "\"") = false => hq); (rename (oneS _ == Str.ofString "\\") = false => he); (have hJ8 := JQ.one hJ9 (n34 hq) (n92 he)); (rename News _ _ _ _ => nE'); refine ksw_end (o9, _, _, _, _, _, _, r9, r9.length + 1) (by assumption) nE' (by kst_in) trivial (by kst_all) (by ksw_same) ⟨hvs9, Nat.le_of_lt hcs9, .inl ⟨hR9, hJ8, rfl⟩⟩ (by dsimp only [ciM]; omega))
    | ((rename List.isEmpty _ = true => hw); (rename (oneS _ == Str.ofString "\\") = false => he); (have hJ8 := JB.one hJ9 (wsF hJ9.mem hw) (n92 he)); (rename News _ _ _ _ => nE'); refine ksw_end (o9, _, _, _, _, _, _, r9, r9.length + 1) (by assumption) nE' (by kst_in) trivial (by kst_all) (by ksw_same) ⟨hvs9, Nat.le_of_lt hcs9, .inl ⟨hR9, hJ8, rfl⟩⟩ (by dsimp only [ciM]; omega))
    | ((rename List.isEmpty _ = false => hw); (have hJ8 := J1.ws hJ9 (wsT hJ9.mem hw)); (rename News _ _ _ _ => nE'); refine ksw_end (o9, _, _, _, _, _, _, r9, r9.length + 1) (by assumption) nE' (by kst_in) trivial (by kst_all) (by ksw_same) ⟨hvs9, Nat.le_of_lt hcs9, .inl ⟨hR9, hJ8, rfl⟩⟩ (by dsimp only [ciM]; omega))
    | (obtain ⟨rfl, hJ8⟩ := hJ9.resolve_right id; (rename News _ _ _ _ => nE'); refine ksw_end (o9, _, _, _, _, _, _, [], 0) (by assumption) nE' (by kst_in) trivial (by kst_all) (by ksw_same) ⟨hvs9, Nat.zero_le _, .inr ⟨hR9, hJ8.nil, rfl⟩⟩ (by dsimp only [ciM]; omega))
  k_steps
  all_goals
    first
    | ((rename (oneS _ == Str.ofString "\"") = true => hq); have hT := JQ.end hJ9 (q34 hq))
    | ((rename List.isEmpty _ = false => hw); have hT := JB.end hJ9 (wsT hJ9.mem hw))
    | have hT := hJ9.elim (fun h => (h.1 ▸ J1.nil h.2 : JE (tokM cs n) cs9 t9 n9)) id
    rename News _ _ _ _ => hN
    refine hret _ _ _ _ (by assumption) (newsSub hN (fun q hq => .tail _ (.tail _ hq))) ?_
    unfold JE at hT
    rw [← hT]
    exact ⟨_, _, _, _, rfl, rfl, hvs9⟩

end Mine

namespace Mine
local macro_rules | `(tactic| walk_at "M_SPARE0") => `(tactic| skip)
local macro_rules | `(tactic| walk_at "M_SPARE1") => `(tactic| skip)
local macro_rules | `(tactic| walk_at "M_SPARE2") => `(tactic| skip)
local macro_rules | `(tactic| walk_at "M_SPARE3") => `(tactic| skip)
local macro_rules | `(tactic| walk_at "M_SPARE4") => `(tactic| skip)
local macro_rules | `(tactic| walk_at "M_SPARE5") => `(tactic| skip)
local macro_rules | `(tactic| walk_at "M_SPARE6") => `(tactic| skip)
local macro_rules | `(tactic| walk_at "M_SPARE7") => `(tactic| skip)
local macro_rules | `(tactic| walk_at "M_SPARE8") => `(tactic| skip)
local macro_rules | `(tactic| walk_at "M_SPARE9") => `(tactic| skip)
local macro_rules | `(tactic| walk_at "M_SPARE10") => `(tactic| skip)
local macro_rules | `(tactic| walk_at "M_SPARE11") => `(tactic| skip)
local macro_rules | `(tactic| walk_at "M_SPARE12") => `(tactic| skip)
local macro_rules | `(tactic| walk_at "M_SPARE13") => `(tactic| skip)
local macro_rules | `(tactic| walk_at "M_SPARE14") => `(tactic| skip)
local macro_rules | `(tactic| walk_at "M_SPARE15") => `(tactic| skip)
local macro_rules | `(tactic| walk_at "M_SPARE16") => `(tactic| skip)
local macro_rules | `(tactic| walk_at "M_SPARE17") => `(tactic| skip)
local macro_rules | `(tactic| walk_at "M_SPARE18") => `(tactic| skip)
local macro_rules | `(tactic| walk_at "M_SPARE19") => `(tactic| skip)
local macro_rules | `(tactic| walk_at "M_SPARE20") => `(tactic| skip)
local macro_rules | `(tactic| walk_at "M_SPARE21") => `(tactic| skip)
local macro_rules | `(tactic| walk_at "M_SPARE22") => `(tactic| skip)
local macro_rules | `(tactic| walk_at "M_SPARE23") => `(tactic| skip)
local macro_rules | `(tactic| walk_at "M_SPARE24") => `(tactic| skip)
example : True := by
  k_with_none
  trivial
local macro_rules | `(tactic| walk_at "M_ENTER") => `(tactic| (refine' code_def ?k1 ?k2 ?k3 ?k4 ?k5 ?kA ?kF ?kK ?k6 ?k7 ?k8 ?k9 ?kB ?_ ?c2 ?c3 ?c4 ?c5; (case kA => exact rfl); (case kF => assumption); (case kK => assumption); (case k1 => k_asm); (case k2 => k_asm); (case k3 => k_asm); (case k4 => k_asm); (case k5 => k_asm); (case k6 => k_is); (case k7 => k_is); (case k8 => ktr_room); (case k9 => first | exact BindsTo.of_eq rfl | exact binds_K (by k_in) rfl (by k_is) rfl rfl rfl | (refine' kp_binds ?kx ?ke; (case kx => k_in); (case ke => exact fun _ => rfl))); (case c5 => decide); (case kB => exact locs rfl); (case c2 => exact rfl); (case c3 => exact rfl); (case c4 => exact rfl); k_whole; intro g' L' h' FG' F' N' B' X' T'; (try dsimp only); (try k_lift B'); (try k_fold)))
local macro_rules | `(tactic| walk_at "M_ENTERC") => `(tactic| (refine' code_defC ?k1 ?k2 ?k3 ?k4 ?k5 ?kA ?kF ?kK ?k6 ?k7 ?k8 ?k9 ?kB ?kD ?_ ?c2 ?c3 ?c4; (case kA => exact rfl); (case kF => assumption); (case kK => assumption); (case k1 => k_asm); (case k2 => k_asm); (case k3 => k_asm); (case k4 => k_asm); (case k5 => k_asm); (case k6 => k_is); (case k7 => k_is); (case k8 => ktr_room); (case k9 => first | exact BindsTo.of_eq rfl | exact binds_K (by k_in) rfl (by k_is) rfl rfl rfl | (refine' kp_binds ?kx ?ke; (case kx => k_in); (case ke => exact fun _ => rfl))); (case kB => exact rfl); (case kD => decide +kernel); (case c2 => exact rfl); (case c3 => exact rfl); (case c4 => exact rfl); k_whole; intro g' L' h' tk' cells' FG' F' N' Y' B' X' T' l1; (try k_lt l1); k_cells Y'; (try simp only [List.cons_append, List.nil_append] at N'); (try dsimp only); (try k_lift B'); (try k_fold)))
local macro_rules | `(tactic| walk_at "M_ENTERN") => `(tactic| (refine' code_nest ?k1 ?k2 ?k3 ?k4 ?k5 ?kA ?kF ?kK ?k6 ?k7 ?k8 ?k9 ?kB ?_ ?c2 ?c3 ?c4 ?c5; (case kA => exact rfl); (case kF => assumption); (case kK => assumption); (case k1 => k_asm); (case k2 => k_asm); (case k3 => k_asm); (case k4 => k_asm); (case k5 => k_asm); (case k6 => k_mem); (case k7 => exact codeRec_news (by k_asm) (by k_mem) (by assumption) (by assumption)); (case k8 => ktr_room); (case k9 => exact BindsTo.of_eq rfl); (case c5 => decide); (case kB => exact locs rfl); (case c2 => exact rfl); (case c3 => exact rfl); (case c4 => exact rfl); k_whole; intro g' L' h' FG' F' N' B' X' T'; (try dsimp only); (try k_lift B'); (try k_fold)))
local macro_rules | `(tactic| k_all) => `(tactic| first | assumption | exact allLt_ne (by assumption) (by omega))
local macro_rules | `(tactic| walk_at "M_SIDE") => `(tactic| ((case kB => k_asm); (case kF => k_asm); (case kX => k_asm); (case kN => k_asm); (case kT => k_asm); (case kc => assumption); (case kf => first | rfl | assumption); (case kk => first | rfl | assumption); (case kd => ktr_room); (case ku => ktr_units)))
local macro_rules | `(tactic| walk_at "M_SIDE2") => `(tactic| ((case kB => k_asm); (case kF => k_asm); (case kX => k_asm); (case kT => k_asm); (case kc => assumption); (case kf => first | rfl | assumption); (case kk => first | rfl | assumption); (case kd => ktr_room); (case ku => ktr_units)))
local macro_rules | `(tactic| walk_at "eval Constant int") => `(tactic| (refine wpAny_Constant_int ?_; (try dsimp only)))
variable {w : World} {p : Program} {loose : List Str} {mean : ExcName → Option Value} {mg mb : Str → Option Value}
local macro_rules | `(tactic| walk_at "truthy ref") => `(tactic| k_extra "M_TRUTHY")
local macro_rules | `(tactic| walk_at "call builtin:list.pop") => `(tactic| k_extra "call builtin:list.pop")
local macro_rules | `(tactic| walk_at "call builtin:list.append") => `(tactic| k_extra "M_APP")
variable {a1 a2 a3 a4 : Int} {k1 k2 k3 k4 tw : Tok} {D f2 c2 C dx x f1 ds pb : Addr} {o2 oc2 oC o1 oD : Obj}
set_option maxHeartbeats 0 in
/-- a token that has been pushed back -/
theorem tokp_c {rest : Led} {vs ws : List Value} {v : Value} {k kp : Nat} {n : Int} {tn : Tok} (hpb : (@Ne Nat pb D ∧ @Ne Nat pb f2 ∧ @Ne Nat pb c2 ∧ @Ne Nat pb C ∧ @Ne Nat pb dx ∧ @Ne Nat pb x ∧ @Ne Nat pb f1 ∧ @Ne Nat pb ds) ∧ ∀ q ∈ rest, q.1 ≠ pb) (hl : (v :: ws).length ≤ 40) :
    Con w p loose mean mg mb (.ref 134) [.ref x] [] 2 40 (lexLed a1 a2 a3 a4 k1 k2 k3 k4 tw D f2 c2 C dx x f1 ds pb o2 oc2 oC o1 oD vs k n tn ((pb, lstO (v :: ws) kp) :: rest))
      (fun r n' => r = v ∧ n' = lexLed a1 a2 a3 a4 k1 k2 k3 k4 tw D f2 c2 C dx x f1 ds pb o2 oc2 oC o1 oD vs k n tn ((pb, lstO ws (kp + 1)) :: rest)) := by
  obtain ⟨hpb9, hpb8⟩ := hpb
  have hl2 : (v :: ws).length ≤ sizeLine := Nat.le_trans hl (by decide)
  unfold Con; k_fill; intros; rename_i hret
  k_with_none
  k_dflt (walk_at "M_ENTER")
  k_with "M_TRUTHY" => (k_dflt (refine' truthy_cons ?kN ?km hl2 ?_; (case kN => k_asm); (case km => k_mem)); intro tk9; (try dsimp only))
  k_with "call builtin:list.pop" => (k_dflt (refine' pop0_F ?kF ?kN ?kU hl2 ?_; (case kF => k_asm); (case kN => k_asm); (case kU => k_updF)); intro h9 F9 N9; (try dsimp only at N9); (try dsimp only))
  k_steps
  exact hret _ _ _ _ (by assumption) (by assumption) ⟨rfl, rfl⟩
set_option maxHeartbeats 0 in
theorem push_c {rest : Led} {vs ws : List Value} {z : Str} {tz : Tok} {k kp : Nat} {n : Int} {tn : Tok} (hpb : (@Ne Nat pb D ∧ @Ne Nat pb f2 ∧ @Ne Nat pb c2 ∧ @Ne Nat pb C ∧ @Ne Nat pb dx ∧ @Ne Nat pb x ∧ @Ne Nat pb f1 ∧ @Ne Nat pb ds) ∧ ∀ q ∈ rest, q.1 ≠ pb) (hl : ws.length ≤ 40) :
    Con w p loose mean mg mb (.ref 141) [.ref x, .str z tz] [] 2 40 (lexLed a1 a2 a3 a4 k1 k2 k3 k4 tw D f2 c2 C dx x f1 ds pb o2 oc2 oC o1 oD vs k n tn ((pb, lstO ws kp) :: rest))
      (fun r n' => r = .none ∧ n' = lexLed a1 a2 a3 a4 k1 k2 k3 k4 tw D f2 c2 C dx x f1 ds pb o2 oc2 oC o1 oD vs k n tn ((pb, lstO (ws ++ [.str z tz]) (kp + 1)) :: rest)) := by
  obtain ⟨hpb9, hpb8⟩ := hpb
  unfold Con; k_fill; intros; rename_i hret
  k_with_none
  k_dflt (walk_at "M_ENTER")
  k_steps
  rename News _ _ _ _ => hN
  rw [List.push_toArray] at hN
  exact hret _ _ _ _ (by assumption) hN ⟨rfl, rfl⟩

end Mine

namespace Mine
example : True := by
  k_with_none
  trivial
local macro_rules | `(tactic| walk_at "M_ENTER") => `(tactic| (refine' code_def ?k1 ?k2 ?k3 ?k4 ?k5 ?kA ?kF ?kK ?k6 ?k7 ?k8 ?k9 ?kB ?_ ?c2 ?c3 ?c4 ?c5; (case kA => exact rfl); (case kF => assumption); (case kK => assumption); (case k1 => k_asm); (case k2 => k_asm); (case k3 => k_asm); (case k4 => k_asm); (case k5 => k_asm); (case k6 => k_is); (case k7 => k_is); (case k8 => ktr_room); (case k9 => first | exact BindsTo.of_eq rfl | exact binds_K (by k_in) rfl (by k_is) rfl rfl rfl | (refine' kp_binds ?kx ?ke; (case kx => k_in); (case ke => exact fun _ => rfl))); (case c5 => decide); (case kB => exact locs rfl); (case c2 => exact rfl); (case c3 => exact rfl); (case c4 => exact rfl); k_whole; intro g' L' h' FG' F' N' B' X' T'; (try dsimp only); (try k_lift B'); (try k_fold)))
local macro_rules | `(tactic| walk_at "M_ENTERC") => `(tactic| (refine' code_defC ?k1 ?k2 ?k3 ?k4 ?k5 ?kA ?kF ?kK ?k6 ?k7 ?k8 ?k9 ?kB ?kD ?_ ?c2 ?c3 ?c4; (case kA => exact rfl); (case kF => assumption); (case kK => assumption); (case k1 => k_asm); (case k2 => k_asm); (case k3 => k_asm); (case k4 => k_asm); (case k5 => k_asm); (case k6 => k_is); (case k7 => k_is); (case k8 => ktr_room); (case k9 => first | exact BindsTo.of_eq rfl | exact binds_K (by k_in) rfl (by k_is) rfl rfl rfl | (refine' kp_binds ?kx ?ke; (case kx => k_in); (case ke => exact fun _ => rfl))); (case kB => exact rfl); (case kD => decide +kernel); (case c2 => exact rfl); (case c3 => exact rfl); (case c4 => exact rfl); k_whole; intro g' L' h' tk' cells' FG' F' N' Y' B' X' T' l1; (try k_lt l1); k_cells Y'; (try simp only [List.cons_append, List.nil_append] at N'); (try dsimp only); (try k_lift B'); (try k_fold)))
local macro_rules | `(tactic| walk_at "M_ENTERN") => `(tactic| (refine' code_nest ?k1 ?k2 ?k3 ?k4 ?k5 ?kA ?kF ?kK ?k6 ?k7 ?k8 ?k9 ?kB ?_ ?c2 ?c3 ?c4 ?c5; (case kA => exact rfl); (case kF => assumption); (case kK => assumption); (case k1 => k_asm); (case k2 => k_asm); (case k3 => k_asm); (case k4 => k_asm); (case k5 => k_asm); (case k6 => k_mem); (case k7 => exact codeRec_news (by k_asm) (by k_mem) (by assumption) (by assumption)); (case k8 => ktr_room); (case k9 => exact BindsTo.of_eq rfl); (case c5 => decide); (case kB => exact locs rfl); (case c2 => exact rfl); (case c3 => exact rfl); (case c4 => exact rfl); k_whole; intro g' L' h' FG' F' N' B' X' T'; (try dsimp only); (try k_lift B'); (try k_fold)))
local macro_rules | `(tactic| k_all) => `(tactic| first | assumption | exact allLt_ne (by assumption) (by omega))
local macro_rules | `(tactic| walk_at "M_SIDE") => `(tactic| ((case kB => k_asm); (case kF => k_asm); (case kX => k_asm); (case kN => k_asm); (case kT => k_asm); (case kc => assumption); (case kf => first | rfl | assumption); (case kk => first | rfl | assumption); (case kd => ktr_room); (case ku => ktr_units)))
local macro_rules | `(tactic| walk_at "M_SIDE2") => `(tactic| ((case kB => k_asm); (case kF => k_asm); (case kX => k_asm); (case kT => k_asm); (case kc => assumption); (case kf => first | rfl | assumption); (case kk => first | rfl | assumption); (case kd => ktr_room); (case ku => ktr_units)))
local macro_rules | `(tactic| walk_at "eval Constant int") => `(tactic| (refine wpAny_Constant_int ?_; (try dsimp only)))
variable {w : World} {p : Program} {loose : List Str} {mean : ExcName → Option Value} {mg mb : Str → Option Value}
abbrev rngO (x left : Int) : Obj := { cls := .type "range_iterator", data := .fields #[rawInt x, rawInt left, rawInt 1] }
/-- a for over range(n) by what holds after each turn -/
theorem range_loop {σ : Type} {prog : Program} {A : Around} {E : Value → Shared → Prop} {s : Shared} {h₀ : Heap} {L : Addr} {env : Env} {Q : Flow → Shared → Prop} {x : Str} {px : Pos} {body : List Stmt} {m₀ : Str → Option Value} {r : Addr} {n : Nat} {t u v : Tok}
    (Lf : σ → Led) (ps : σ → List (Str × Value)) (stored : List Str) (P : Addr → Nat → σ → Prop) (c₀ : σ) (hh : A.handled = none) (hn : Builtin.Range.small 0 n 1 = true ∧ Builtin.Range.rangeSize 0 n 1 = (n : Int))
    (F : Fr h₀ L s.heap m₀) (N : News h₀ L s.heap (Lf c₀)) (hr : IsRange s.heap r 0 n 1 t u v) (hk : ∀ p ∈ ps c₀, m₀ p.1 = some p.2)
    (hp : ∀ I, (∀ q ∈ Lf c₀, q.1 < I) → P I 0 c₀) (hoff : ∀ I k c, P I k c → ∀ q ∈ Lf c, q.1 ≠ I)
    (turn : ∀ (H : Heap) (I : Addr) (k : Nat) (c : σ) (tc : Tok) (uu : Str → Option Value) (h : Heap) (tk : Nat), k < n → P I k c → Fr h₀ L h (kstB (fun z => if stored.contains z then uu z else m₀ z) (ps c)) → News h₀ L h ((I, rngO ((k + 1 : Nat) : Int) ((n : Int) - ((k + 1 : Nat) : Int))) :: Lf c) →
      wpAny (model prog w) A (assign (.Name x px) env (.int (k : Int) tc)) (fun _ s₂ => wpAny (model prog w) A (execs body env)
        (KswPost h₀ L { s with heap := H } (fun c : Addr × Nat × σ => (c.1, rngO (c.2.1 : Int) ((n : Int) - (c.2.1 : Int))) :: Lf c.2.2) (fun c => ps c.2.2) (fun _ => True) stored m₀ (fun c => c.2.1 ≤ n ∧ c.1 = I ∧ P I c.2.1 c.2.2) (fun c => n - c.2.1) Q (I, k, c)) E s₂) E { s with heap := h, toks := tk })
    (done : ∀ (I : Addr) (c : σ) (uu : Str → Option Value) (h : Heap) (tk : Nat), P I n c → Fr h₀ L h (kstB (fun z => if stored.contains z then uu z else m₀ z) (ps c)) → News h₀ L h (Lf c) → Q .next { s with heap := h, toks := tk })
    (hE : PassesOwn (model prog w) A env E) :
    wpAny (model prog w) A (pyIter (.ref r)) (fun it s₂ => ForAt prog w A env x px body Q E it s₂) E s := by
  refine wpAny_pyIter_range hr hn.1 ?_
  have F1 := F.push (rngO ((0 : Nat) : Int) ((n : Int) - ((0 : Nat) : Int)))
  have N1 : News h₀ L (s.heap.push (rngO ((0 : Nat) : Int) ((n : Int) - ((0 : Nat) : Int)))) ((s.heap.objs.size, rngO ((0 : Nat) : Int) ((n : Int) - ((0 : Nat) : Int))) :: Lf c₀) := N.push F _
  have e : ({ cls := .type "range_iterator", data := .fields #[rawInt 0, rawInt (Builtin.Range.rangeSize 0 (n : Int) 1), rawInt 1] } : Obj) = rngO ((0 : Nat) : Int) ((n : Int) - ((0 : Nat) : Int)) := by
    rw [hn.2]
    show rngO 0 (n : Int) = rngO 0 ((n : Int) - 0)
    rw [Int.sub_zero]
  rw [e]
  have h0 := hp s.heap.objs.size (fun q hq => Heap.lt_size (N.get hq))
  generalize s.heap.push (rngO ((0 : Nat) : Int) ((n : Int) - ((0 : Nat) : Int))) = H1 at F1 N1 ⊢
  generalize s.heap.objs.size = I at N1 h0 ⊢
  refine for_state (s := { s with heap := H1 }) (σ := Addr × Nat × σ) (fun c => (c.1, rngO (c.2.1 : Int) ((n : Int) - (c.2.1 : Int))) :: Lf c.2.2) (fun c => ps c.2.2) stored (fun c => c.2.1 ≤ n ∧ c.1 = I ∧ P I c.2.1 c.2.2) (fun c => n - c.2.1) (I, 0, c₀) F1 N1 hk ⟨Nat.zero_le _, rfl, h0⟩ ?_ hE
  rintro ⟨I', k, c⟩ uu h tk ⟨hk', hI', hP⟩ F2 N2
  dsimp only at hk' hI' hP F2 N2 ⊢
  subst hI'
  have hit := N2.get (.head _)
  by_cases hlt : k < n
  · refine wpAny_pyNext_range_item hit (by omega) fun h' hit' hs' => ?_
    have e1 : (k : Int) + 1 = ((k + 1 : Nat) : Int) := by omega
    have e2 : (n : Int) - (k : Int) - 1 = (n : Int) - ((k + 1 : Nat) : Int) := by omega
    rw [e1, e2] at hit'
    obtain ⟨F3, N3⟩ := off_upd F2 N2 (hoff _ _ _ hP) hit' (fun b ob hb eo => (hs'.2 b hb).trans eo)
    exact turn H1 I' k c _ uu h' _ hlt hP F3 N3
  · have ek : k = n := by omega
    subst ek
    refine wpAny_pyNext_range_end hh hit (by omega) fun h' he' => ?_
    obtain ⟨F3, N3⟩ := off_one F2 N2 (hoff _ _ _ hP) he'
    exact done I' c uu h' tk hP F3 N3

end Mine

namespace Mine
local macro_rules | `(tactic| walk_at "M_SPARE0") => `(tactic| skip)
local macro_rules | `(tactic| walk_at "M_SPARE1") => `(tactic| skip)
local macro_rules | `(tactic| walk_at "M_SPARE2") => `(tactic| skip)
local macro_rules | `(tactic| walk_at "M_SPARE3") => `(tactic| skip)
local macro_rules | `(tactic| walk_at "M_SPARE4") => `(tactic| skip)
local macro_rules | `(tactic| walk_at "M_SPARE5") => `(tactic| skip)
local macro_rules | `(tactic| walk_at "M_SPARE6") => `(tactic| skip)
local macro_rules | `(tactic| walk_at "M_SPARE7") => `(tactic| skip)
local macro_rules | `(tactic| walk_at "M_SPARE8") => `(tactic| skip)
local macro_rules | `(tactic| walk_at "M_SPARE9") => `(tactic| skip)
local macro_rules | `(tactic| walk_at "M_SPARE10") => `(tactic| skip)
local macro_rules | `(tactic| walk_at "M_SPARE11") => `(tactic| skip)
local macro_rules | `(tactic| walk_at "M_SPARE12") => `(tactic| skip)
local macro_rules | `(tactic| walk_at "M_SPARE13") => `(tactic| skip)
local macro_rules | `(tactic| walk_at "M_SPARE14") => `(tactic| skip)
local macro_rules | `(tactic| walk_at "M_SPARE15") => `(tactic| skip)
local macro_rules | `(tactic| walk_at "M_SPARE16") => `(tactic| skip)
local macro_rules | `(tactic| walk_at "M_SPARE17") => `(tactic| skip)
local macro_rules | `(tactic| walk_at "M_SPARE18") => `(tactic| skip)
local macro_rules | `(tactic| walk_at "M_SPARE19") => `(tactic| skip)
local macro_rules | `(tactic| walk_at "M_SPARE20") => `(tactic| skip)
local macro_rules | `(tactic| walk_at "M_SPARE21") => `(tactic| skip)
local macro_rules | `(tactic| walk_at "M_SPARE22") => `(tactic| skip)
local macro_rules | `(tactic| walk_at "M_SPARE23") => `(tactic| skip)
local macro_rules | `(tactic| walk_at "M_SPARE24") => `(tactic| skip)
example : True := by
  k_with_none
  trivial
local macro_rules | `(tactic| walk_at "M_ENTER") => `(tactic| (refine' code_def ?k1 ?k2 ?k3 ?k4 ?k5 ?kA ?kF ?kK ?k6 ?k7 ?k8 ?k9 ?kB ?_ ?c2 ?c3 ?c4 ?c5; (case kA => exact rfl); (case kF => assumption); (case kK => assumption); (case k1 => k_asm); (case k2 => k_asm); (case k3 => k_asm); (case k4 => k_asm); (case k5 => k_asm); (case k6 => k_is); (case k7 => k_is); (case k8 => ktr_room); (case k9 => first | exact BindsTo.of_eq rfl | exact binds_K (by k_in) rfl (by k_is) rfl rfl rfl | (refine' kp_binds ?kx ?ke; (case kx => k_in); (case ke => exact fun _ => rfl))); (case c5 => decide); (case kB => exact locs rfl); (case c2 => exact rfl); (case c3 => exact rfl); (case c4 => exact rfl); k_whole; intro g' L' h' FG' F' N' B' X' T'; (try dsimp only); (try k_lift B'); (try k_fold)))
local macro_rules | `(tactic| walk_at "M_ENTERC") => `(tactic| (refine' code_defC ?k1 ?k2 ?k3 ?k4 ?k5 ?kA ?kF ?kK ?k6 ?k7 ?k8 ?k9 ?kB ?kD ?_ ?c2 ?c3 ?c4; (case kA => exact rfl); (case kF => assumption); (case kK => assumption); (case k1 => k_asm); (case k2 => k_asm); (case k3 => k_asm); (case k4 => k_asm); (case k5 => k_asm); (case k6 => k_is); (case k7 => k_is); (case k8 => ktr_room); (case k9 => first | exact BindsTo.of_eq rfl | exact binds_K (by k_in) rfl (by k_is) rfl rfl rfl | (refine' kp_binds ?kx ?ke; (case kx => k_in); (case ke => exact fun _ => rfl))); (case kB => exact rfl); (case kD => decide +kernel); (case c2 => exact rfl); (case c3 => exact rfl); (case c4 => exact rfl); k_whole; intro g' L' h' tk' cells' FG' F' N' Y' B' X' T' l1; (try k_lt l1); k_cells Y'; (try simp only [List.cons_append, List.nil_append] at N'); (try dsimp only); (try k_lift B'); (try k_fold)))
local macro_rules | `(tactic| walk_at "M_ENTERN") => `(tactic| (refine' code_nest ?k1 ?k2 ?k3 ?k4 ?k5 ?kA ?kF ?kK ?k6 ?k7 ?k8 ?k9 ?kB ?_ ?c2 ?c3 ?c4 ?c5; (case kA => exact rfl); (case kF => assumption); (case kK => assumption); (case k1 => k_asm); (case k2 => k_asm); (case k3 => k_asm); (case k4 => k_asm); (case k5 => k_asm); (case k6 => k_mem); (case k7 => exact codeRec_news (by k_asm) (by k_mem) (by assumption) (by assumption)); (case k8 => ktr_room); (case k9 => exact BindsTo.of_eq rfl); (case c5 => decide); (case kB => exact locs rfl); (case c2 => exact rfl); (case c3 => exact rfl); (case c4 => exact rfl); k_whole; intro g' L' h' FG' F' N' B' X' T'; (try dsimp only); (try k_lift B'); (try k_fold)))
local macro_rules | `(tactic| k_all) => `(tactic| first | assumption | exact allLt_ne (by assumption) (by omega))
local macro_rules | `(tactic| walk_at "M_SIDE") => `(tactic| ((case kB => k_asm); (case kF => k_asm); (case kX => k_asm); (case kN => k_asm); (case kT => k_asm); (case kc => assumption); (case kf => first | rfl | assumption); (case kk => first | rfl | assumption); (case kd => ktr_room); (case ku => ktr_units)))
local macro_rules | `(tactic| walk_at "M_SIDE2") => `(tactic| ((case kB => k_asm); (case kF => k_asm); (case kX => k_asm); (case kT => k_asm); (case kc => assumption); (case kf => first | rfl | assumption); (case kk => first | rfl | assumption); (case kd => ktr_room); (case ku => ktr_units)))
local macro_rules | `(tactic| walk_at "eval Constant int") => `(tactic| (refine wpAny_Constant_int ?_; (try dsimp only)))
variable {w : World} {p : Program} {loose : List Str} {mean : ExcName → Option Value} {mg mb : Str → Option Value}
def rowAt (k : Nat) : List Int := [0, 1, 2] ++ (List.range k).flatMap fun (h : Nat) => if h % 2 = 0 then [9 * (h : Int) + 5, 9 * (h : Int) + 7, 9 * (h : Int) + 8] else [9 * (h : Int) + 8]
theorem rowAt_all : rowAt 12 = rowM := by decide +kernel
theorem rowAt_even {k : Nat} (h : k % 2 = 0) : rowAt (k + 1) = rowAt k ++ [9 * (k : Int) + 5, 9 * (k : Int) + 7, 9 * (k : Int) + 8] := by
  unfold rowAt
  rw [List.range_succ, List.flatMap_append, ← List.append_assoc]
  simp [h]
theorem rowAt_odd {k : Nat} (h : k % 2 = 1) : rowAt (k + 1) = rowAt k ++ [9 * (k : Int) + 8] := by
  unfold rowAt
  rw [List.range_succ, List.flatMap_append, ← List.append_assoc]
  simp [h]
abbrev HueS := Addr × List Value × Nat × Obj × Obj
theorem fm_even {k : Nat} (h : k % 2 = 0) : (k : Int).fmod 2 = 0 := by rw [Int.fmod_eq_emod_of_nonneg _ (by decide)]; omega
theorem fm_odd {k : Nat} (h : k % 2 = 1) : (k : Int).fmod 2 = 1 := by rw [Int.fmod_eq_emod_of_nonneg _ (by decide)]; omega
theorem rowAt_len {k : Nat} (h : k < 12) : (rowAt k).length ≤ 39 := by
  have key : ∀ k : Fin 12, (rowAt k).length ≤ 39 := by decide +kernel
  exact key ⟨k, h⟩
theorem rowInts_even {k : Nat} {us : List Value} (hk : k % 2 = 0) (h : IntsAre us (rowAt k ++ List.map (fun k' => 9 * (k : Int) + k') [5, 7, 8])) : IntsAre us (rowAt (k + 1)) := by rw [rowAt_even hk]; exact h
theorem rowInts_odd {k : Nat} {us : List Value} (hk : k % 2 = 1) (h : IntsAre us (rowAt k ++ List.map (fun k' => 9 * (k : Int) + k') [8])) : IntsAre us (rowAt (k + 1)) := by rw [rowAt_odd hk]; exact h

end Mine

namespace Mine
example : True := by
  k_with_none
  trivial
local macro_rules | `(tactic| walk_at "M_ENTER") => `(tactic| (refine' code_def ?k1 ?k2 ?k3 ?k4 ?k5 ?kA ?kF ?kK ?k6 ?k7 ?k8 ?k9 ?kB ?_ ?c2 ?c3 ?c4 ?c5; (case kA => exact rfl); (case kF => assumption); (case kK => assumption); (case k1 => k_asm); (case k2 => k_asm); (case k3 => k_asm); (case k4 => k_asm); (case k5 => k_asm); (case k6 => k_is); (case k7 => k_is); (case k8 => ktr_room); (case k9 => first | exact BindsTo.of_eq rfl | exact binds_K (by k_in) rfl (by k_is) rfl rfl rfl | (refine' kp_binds ?kx ?ke; (case kx => k_in); (case ke => exact fun _ => rfl))); (case c5 => decide); (case kB => exact locs rfl); (case c2 => exact rfl); (case c3 => exact rfl); (case c4 => exact rfl); k_whole; intro g' L' h' FG' F' N' B' X' T'; (try dsimp only); (try k_lift B'); (try k_fold)))
local macro_rules | `(tactic| walk_at "M_ENTERC") => `(tactic| (refine' code_defC ?k1 ?k2 ?k3 ?k4 ?k5 ?kA ?kF ?kK ?k6 ?k7 ?k8 ?k9 ?kB ?kD ?_ ?c2 ?c3 ?c4; (case kA => exact rfl); (case kF => assumption); (case kK => assumption); (case k1 => k_asm); (case k2 => k_asm); (case k3 => k_asm); (case k4 => k_asm); (case k5 => k_asm); (case k6 => k_is); (case k7 => k_is); (case k8 => ktr_room); (case k9 => first | exact BindsTo.of_eq rfl | exact binds_K (by k_in) rfl (by k_is) rfl rfl rfl | (refine' kp_binds ?kx ?ke; (case kx => k_in); (case ke => exact fun _ => rfl))); (case kB => exact rfl); (case kD => decide +kernel); (case c2 => exact rfl); (case c3 => exact rfl); (case c4 => exact rfl); k_whole; intro g' L' h' tk' cells' FG' F' N' Y' B' X' T' l1; (try k_lt l1); k_cells Y'; (try simp only [List.cons_append, List.nil_append] at N'); (try dsimp only); (try k_lift B'); (try k_fold)))
local macro_rules | `(tactic| walk_at "M_ENTERN") => `(tactic| (refine' code_nest ?k1 ?k2 ?k3 ?k4 ?k5 ?kA ?kF ?kK ?k6 ?k7 ?k8 ?k9 ?kB ?_ ?c2 ?c3 ?c4 ?c5; (case kA => exact rfl); (case kF => assumption); (case kK => assumption); (case k1 => k_asm); (case k2 => k_asm); (case k3 => k_asm); (case k4 => k_asm); (case k5 => k_asm); (case k6 => k_mem); (case k7 => exact codeRec_news (by k_asm) (by k_mem) (by assumption) (by assumption)); (case k8 => ktr_room); (case k9 => exact BindsTo.of_eq rfl); (case c5 => decide); (case kB => exact locs rfl); (case c2 => exact rfl); (case c3 => exact rfl); (case c4 => exact rfl); k_whole; intro g' L' h' FG' F' N' B' X' T'; (try dsimp only); (try k_lift B'); (try k_fold)))
local macro_rules | `(tactic| k_all) => `(tactic| first | assumption | exact allLt_ne (by assumption) (by omega))
local macro_rules | `(tactic| walk_at "M_SIDE") => `(tactic| ((case kB => k_asm); (case kF => k_asm); (case kX => k_asm); (case kN => k_asm); (case kT => k_asm); (case kc => assumption); (case kf => first | rfl | assumption); (case kk => first | rfl | assumption); (case kd => ktr_room); (case ku => ktr_units)))
local macro_rules | `(tactic| walk_at "M_SIDE2") => `(tactic| ((case kB => k_asm); (case kF => k_asm); (case kX => k_asm); (case kT => k_asm); (case kc => assumption); (case kf => first | rfl | assumption); (case kk => first | rfl | assumption); (case kd => ktr_room); (case ku => ktr_units)))
local macro_rules | `(tactic| walk_at "eval Constant int") => `(tactic| (refine wpAny_Constant_int ?_; (try dsimp only)))
variable {w : World} {p : Program} {loose : List Str} {mean : ExcName → Option Value} {mg mb : Str → Option Value}
theorem ints_pick {vs : List Value} {ns : List Int} (hi : IntsAre vs ns) : ∀ l : List Nat, IntsAre (l.filterMap (vs.toArray[·]?)) (l.filterMap (ns[·]?))
  | [] => .nil
  | i :: l => by
    have ih := ints_pick hi l
    rw [List.filterMap_cons, List.filterMap_cons]
    cases h : ns[i]? with
    | some n =>
      obtain ⟨t, ht⟩ := hi.get i n h
      have e : vs.toArray[i]? = some (.int n t) := by simpa using ht
      simp only [e]
      exact .cons _ _ ih
    | none =>
      have hn : ns.length ≤ i := List.getElem?_eq_none_iff.mp h
      have e : vs.toArray[i]? = none := by
        have := hi.length
        simp
        omega
      simp only [e]
      exact ih
theorem slice_stepF {prog : Program} {A : Around} {E : Value → Shared → Prop} {s : Shared} {h₀ : Heap} {L l : Addr} {m : Str → Option Value} {vs : List Value} {ns : List Int} {news : Led} {value slice : Expr} {vl vu vk : Value} {lo hi st : Option Int} {ops : List Value} {Q : Value → Shared → Prop}
    (F : Fr h₀ L s.heap m) (N : News h₀ L s.heap news) (hl : s.heap.IsList l vs.toArray) (hI : IntsAre vs ns) (hlen : ns.length ≤ 63) (pl : IsPart vl lo) (pu : IsPart vu hi) (pk : IsPart vk st) (h0 : st ≠ some 0)
    (h : ∀ D h' ws ms, IntsAre ws ms → ms.length ≤ 63 → (∀ q ∈ news, q.1 < D) → Fr h₀ L h' m → News h₀ L h' ((D, lstO ws 0) :: news) → Q (.ref D) { s with heap := h' })
    (hs : subscripted slice false (.ref l) (.ref s.heap.objs.size) = operate ops (getItem (.ref l) (.ref s.heap.objs.size))) (ht : ∀ r, letTemporaryGo value (.ref l) r = pure ()) :
    wpAny (model prog w) A (subscriptTail value slice (.ref l) (.ref s.heap.objs.size)) Q E { s with heap := s.heap.push { cls := .type "slice", data := .fields #[vl, vu, vk] } } := by
  have hsz : vs.toArray.size ≤ 63 := by rw [List.size_toArray, hI.length]; exact hlen
  refine slice_list3 F N hl pl pu pk h0 (fun h' F' N' => ?_) hs ht (Nat.le_trans hsz (by decide))
  have hp : IntsAre (slicePick vs.toArray lo hi st).toList ((sliceRange (sliceBounds lo hi st vs.toArray.size).1 (sliceBounds lo hi st vs.toArray.size).2.1 (sliceBounds lo hi st vs.toArray.size).2.2).filterMap (ns[·]?)) := by
    unfold slicePick
    exact ints_pick hI _
  refine h _ h' _ _ hp ?_ (fun q hq => Nat.lt_succ_of_lt (Heap.lt_size (N q hq).1)) F' (by rw [Array.toArray_toList]; exact N')
  have h1 := hp.length
  have h2 := slicePick_size_le vs.toArray lo hi st
  rw [Array.length_toList] at h1
  omega
theorem slice_stepX {prog : Program} {A : Around} {E : Value → Shared → Prop} {hp : Heap} {g : Array GenState} {d : Drawn} {t : Nat} {os : OsState} {h₀ : Heap} {L l : Addr} {m : Str → Option Value} {vs : List Value} {ns : List Int} {news : Led} {value slice : Expr} {vl vu vk : Value} {lo hi st : Option Int} {ops : List Value} {Q : Value → Shared → Prop}
    (F : Fr h₀ L hp m) (N : News h₀ L hp news) (hl : hp.IsList l vs.toArray) (hI : IntsAre vs ns) (hlen : ns.length ≤ 63) (pl : IsPart vl lo) (pu : IsPart vu hi) (pk : IsPart vk st) (h0 : st ≠ some 0)
    (h : ∀ D h' ws ms, IntsAre ws ms → ms.length ≤ 63 → (∀ q ∈ news, q.1 < D) → Fr h₀ L h' m → News h₀ L h' ((D, lstO ws 0) :: news) → Q (.ref D) ⟨h', g, d, t, os⟩)
    (hs : subscripted slice false (.ref l) (.ref hp.objs.size) = operate ops (getItem (.ref l) (.ref hp.objs.size))) (ht : ∀ r, letTemporaryGo value (.ref l) r = pure ()) :
    wpAny (model prog w) A (subscriptTail value slice (.ref l) (.ref hp.objs.size)) Q E ⟨hp.push { cls := .type "slice", data := .fields #[vl, vu, vk] }, g, d, t, os⟩ :=
  slice_stepF (s := ⟨hp, g, d, t, os⟩) F N hl hI hlen pl pu pk h0 h hs ht

end Mine

namespace Mine
local macro_rules | `(tactic| walk_at "M_SPARE0") => `(tactic| skip)
local macro_rules | `(tactic| walk_at "M_SPARE1") => `(tactic| skip)
local macro_rules | `(tactic| walk_at "M_SPARE2") => `(tactic| skip)
local macro_rules | `(tactic| walk_at "M_SPARE3") => `(tactic| skip)
local macro_rules | `(tactic| walk_at "M_SPARE4") => `(tactic| skip)
local macro_rules | `(tactic| walk_at "M_SPARE5") => `(tactic| skip)
local macro_rules | `(tactic| walk_at "M_SPARE6") => `(tactic| skip)
local macro_rules | `(tactic| walk_at "M_SPARE7") => `(tactic| skip)
local macro_rules | `(tactic| walk_at "M_SPARE8") => `(tactic| skip)
local macro_rules | `(tactic| walk_at "M_SPARE9") => `(tactic| skip)
local macro_rules | `(tactic| walk_at "M_SPARE10") => `(tactic| skip)
local macro_rules | `(tactic| walk_at "M_SPARE11") => `(tactic| skip)
local macro_rules | `(tactic| walk_at "M_SPARE12") => `(tactic| skip)
local macro_rules | `(tactic| walk_at "M_SPARE13") => `(tactic| skip)
local macro_rules | `(tactic| walk_at "M_SPARE14") => `(tactic| skip)
local macro_rules | `(tactic| walk_at "M_SPARE15") => `(tactic| skip)
local macro_rules | `(tactic| walk_at "M_SPARE16") => `(tactic| skip)
local macro_rules | `(tactic| walk_at "M_SPARE17") => `(tactic| skip)
local macro_rules | `(tactic| walk_at "M_SPARE18") => `(tactic| skip)
local macro_rules | `(tactic| walk_at "M_SPARE19") => `(tactic| skip)
local macro_rules | `(tactic| walk_at "M_SPARE20") => `(tactic| skip)
local macro_rules | `(tactic| walk_at "M_SPARE21") => `(tactic| skip)
local macro_rules | `(tactic| walk_at "M_SPARE22") => `(tactic| skip)
local macro_rules | `(tactic| walk_at "M_SPARE23") => `(tactic| skip)
local macro_rules | `(tactic| walk_at "M_SPARE24") => `(tactic| skip)
example : True := by
  k_with_none
  trivial
local macro_rules | `(tactic| walk_at "M_ENTER") => `(tactic| (refine' code_def ?k1 ?k2 ?k3 ?k4 ?k5 ?kA ?kF ?kK ?k6 ?k7 ?k8 ?k9 ?kB ?_ ?c2 ?c3 ?c4 ?c5; (case kA => exact rfl); (case kF => assumption); (case kK => assumption); (case k1 => k_asm); (case k2 => k_asm); (case k3 => k_asm); (case k4 => k_asm); (case k5 => k_asm); (case k6 => k_is); (case k7 => k_is); (case k8 => ktr_room); (case k9 => first | exact BindsTo.of_eq rfl | exact binds_K (by k_in) rfl (by k_is) rfl rfl rfl | (refine' kp_binds ?kx ?ke; (case kx => k_in); (case ke => exact fun _ => rfl))); (case c5 => decide); (case kB => exact locs rfl); (case c2 => exact rfl); (case c3 => exact rfl); (case c4 => exact rfl); k_whole; intro g' L' h' FG' F' N' B' X' T'; (try dsimp only); (try k_lift B'); (try k_fold)))
local macro_rules | `(tactic| walk_at "M_ENTERC") => `(tactic| (refine' code_defC ?k1 ?k2 ?k3 ?k4 ?k5 ?kA ?kF ?kK ?k6 ?k7 ?k8 ?k9 ?kB ?kD ?_ ?c2 ?c3 ?c4; (case kA => exact rfl); (case kF => assumption); (case kK => assumption); (case k1 => k_asm); (case k2 => k_asm); (case k3 => k_asm); (case k4 => k_asm); (case k5 => k_asm); (case k6 => k_is); (case k7 => k_is); (case k8 => ktr_room); (case k9 => first | exact BindsTo.of_eq rfl | exact binds_K (by k_in) rfl (by k_is) rfl rfl rfl | (refine' kp_binds ?kx ?ke; (case kx => k_in); (case ke => exact fun _ => rfl))); (case kB => exact rfl); (case kD => decide +kernel); (case c2 => exact rfl); (case c3 => exact rfl); (case c4 => exact rfl); k_whole; intro g' L' h' tk' cells' FG' F' N' Y' B' X' T' l1; (try k_lt l1); k_cells Y'; (try simp only [List.cons_append, List.nil_append] at N'); (try dsimp only); (try k_lift B'); (try k_fold)))
local macro_rules | `(tactic| walk_at "M_ENTERN") => `(tactic| (refine' code_nest ?k1 ?k2 ?k3 ?k4 ?k5 ?kA ?kF ?kK ?k6 ?k7 ?k8 ?k9 ?kB ?_ ?c2 ?c3 ?c4 ?c5; (case kA => exact rfl); (case kF => assumption); (case kK => assumption); (case k1 => k_asm); (case k2 => k_asm); (case k3 => k_asm); (case k4 => k_asm); (case k5 => k_asm); (case k6 => k_mem); (case k7 => exact codeRec_news (by k_asm) (by k_mem) (by assumption) (by assumption)); (case k8 => ktr_room); (case k9 => exact BindsTo.of_eq rfl); (case c5 => decide); (case kB => exact locs rfl); (case c2 => exact rfl); (case c3 => exact rfl); (case c4 => exact rfl); k_whole; intro g' L' h' FG' F' N' B' X' T'; (try dsimp only); (try k_lift B'); (try k_fold)))
local macro_rules | `(tactic| k_all) => `(tactic| first | assumption | exact allLt_ne (by assumption) (by omega))
local macro_rules | `(tactic| walk_at "M_SIDE") => `(tactic| ((case kB => k_asm); (case kF => k_asm); (case kX => k_asm); (case kN => k_asm); (case kT => k_asm); (case kc => assumption); (case kf => first | rfl | assumption); (case kk => first | rfl | assumption); (case kd => ktr_room); (case ku => ktr_units)))
local macro_rules | `(tactic| walk_at "M_SIDE2") => `(tactic| ((case kB => k_asm); (case kF => k_asm); (case kX => k_asm); (case kT => k_asm); (case kc => assumption); (case kf => first | rfl | assumption); (case kk => first | rfl | assumption); (case kd => ktr_room); (case ku => ktr_units)))
local macro_rules | `(tactic| walk_at "eval Constant int") => `(tactic| (refine wpAny_Constant_int ?_; (try dsimp only)))
variable {w : World} {p : Program} {loose : List Str} {mean : ExcName → Option Value} {mg mb : Str → Option Value}
def NoCode (o : Obj) : Prop := ∀ v : Array Value, o.data = .fields v → ∀ s t, v[1]? ≠ some (.str s t)
theorem NoCode.lst (vs : List Value) (n : Nat) : NoCode (lstO vs n) := fun v h => by cases h
theorem NoCode.cell {o : Obj} {c : Option Value} (h : o.data = .cell c) : NoCode o := fun v h' => by rw [h] at h'; cases h'
/-- the first division: the two tables stand empty -/
theorem idiv0_c {rest : Led} {a b : Int} {t1 t2 : Tok} (ha : -2 ^ 79 ≤ a ∧ a < 2 ^ 79) (hb : 1 < b ∧ b < 2 ^ 19) (hoff : ∀ p ∈ rest, p.1 ≠ 44 ∧ p.1 ≠ 51) (hno : ∀ q ∈ rest, NoCode q.2) :
    Con w p loose mean mg mb (.ref 70) [.int a t1, .int b t2] [] 116 5300 ((44, tabObj #[]) :: (51, tabObj #[]) :: rest) (fun r n' => ∃ d u1 u2 c4 oc4 c5 oc5, r = .ref d ∧ n' = (d, tupO [.int (a.fdiv b) u1, .int (a.fmod b) u2]) :: (44, T4 c4) :: (51, T5 c5) :: (c4, oc4) :: (c5, oc5) :: rest ∧ ((∃ v t, oc4.data = .fields v ∧ v[1]? = some (.str (Str.ofString "_int2digits.<locals>.inner") t)) ∧ ∃ v t, oc5.data = .fields v ∧ v[1]? = some (.str (Str.ofString "_digits2int.<locals>.inner") t)) ∧ (∀ q ∈ rest, q.1 < c4) ∧ (∀ q ∈ rest, q.1 < c5) ∧ (∀ q ∈ rest, q.1 < d) ∧ @LT.lt Nat _ 51 d ∧ @LT.lt Nat _ 44 d) := by
  have hbits := bits80 ha
  have h4 : TabIs 73 4 (Str.ofString "_int2digits.<locals>.inner") #[] rest := .inl rfl
  have h5 : TabIs 88 4 (Str.ofString "_digits2int.<locals>.inner") #[] rest := .inl rfl
  have C : Con w p loose mean mg mb (.ref 70) [.int a t1, .int b t2] [] 116 5300 ((44, tabObj #[]) :: (51, tabObj #[]) :: rest) (DivPost #[] #[] rest (a.fdiv b) (a.fmod b)) := by
    unfold Con
    intro dp un gd env outer A₀ base h₀ L m s R B F X N T hc hf hk hd hu hret
    by_cases hn : a < 0
    · exact idivB_c ⟨hn, hbits.2⟩ hb hoff h4 h5 dp un gd env outer A₀ base h₀ L m s R B F X N T hc hf hk (by omega) (by omega) hret
    · exact idivA_c ⟨by omega, hbits.1⟩ hb hoff h4 h5 dp un gd env outer A₀ base h₀ L m s R B F X N T hc hf hk (by omega) (by omega) hret
  refine C.post (fun _ h => h) fun r n' P => ?_
  obtain ⟨d, u1, u2, c4, oc4, v4, tc4, c5, oc5, v5, tc5, rfl, rfl, hgt, h4', h5', n44, n451, n54, n551, m4, m5⟩ := P
  have k4 : ∀ q ∈ rest, q.1 < c4 := m4.resolve_left fun h => hno _ h v4 h4'.1 _ _ h4'.2.1
  have k5 : ∀ q ∈ rest, q.1 < c5 := m5.resolve_left fun h => hno _ h v5 h5'.1 _ _ h5'.2.1
  have hd44 : @LT.lt Nat _ 44 d := hgt _ (.head _)
  have hd51 : @LT.lt Nat _ 51 d := hgt _ (.tail _ (.head _))
  exact ⟨_, fun _ h => h, d, u1, u2, c4, oc4, c5, oc5, rfl, rfl, ⟨⟨v4, tc4, h4'.1, h4'.2.1⟩, v5, tc5, h5'.1, h5'.2.1⟩, k4, k5, fun q hq => hgt q (.tail _ (.tail _ hq)), hd51, hd44⟩
/-- the tables of the division, as they stand in a ledger -/
theorem DivIn.of {c4 c5 : Addr} {oc4 oc5 : Obj} {led : Led} (m4 : (44, T4 c4) ∈ led) (m5 : (51, T5 c5) ∈ led) (h4 : (c4, oc4) ∈ led) (h5 : (c5, oc5) ∈ led)
    (k : (∃ v t, oc4.data = .fields v ∧ v[1]? = some (.str (Str.ofString "_int2digits.<locals>.inner") t)) ∧ ∃ v t, oc5.data = .fields v ∧ v[1]? = some (.str (Str.ofString "_digits2int.<locals>.inner") t))
    (n4 : @LT.lt Nat _ 51 c4) (n5 : @LT.lt Nat _ 51 c5) (off : ∀ p ∈ led, p = (44, T4 c4) ∨ p = (51, T5 c5) ∨ (p.1 ≠ 44 ∧ p.1 ≠ 51)) : DivIn c4 c5 led := by
  obtain ⟨⟨v, t, a, b⟩, v', t', a', b'⟩ := k
  exact ⟨m4, m5, ⟨oc4, v, t, h4, a, b⟩, ⟨oc5, v', t', h5, a', b'⟩, ⟨Nat.ne_of_gt (Nat.lt_trans (by decide) n4), Nat.ne_of_gt n4⟩, ⟨Nat.ne_of_gt (Nat.lt_trans (by decide) n5), Nat.ne_of_gt n5⟩, off⟩
theorem tot_bounds (x : Int) : -2 ^ 79 ≤ x.fmod (81 * (17550 * 81 ^ Int.toNat 8)) - 40 * (17550 * 81 ^ Int.toNat 8) ∧ x.fmod (81 * (17550 * 81 ^ Int.toNat 8)) - 40 * (17550 * 81 ^ Int.toNat 8) < 2 ^ 79 := by
  have e : (17550 * 81 ^ Int.toNat 8 : Int) = 32520504314349809550 := by decide +kernel
  rw [e]
  have h1 := Int.fmod_nonneg_of_pos x (show (0 : Int) < 81 * 32520504314349809550 by decide)
  have h2 := Int.fmod_lt_of_pos x (show (0 : Int) < 81 * 32520504314349809550 by decide)
  omega
theorem NoCode.tab : NoCode (tabObj #[]) := fun v h s t => by cases h; simp

end Mine

namespace Mine
example : True := by
  k_with_none
  trivial
local macro_rules | `(tactic| walk_at "M_ENTER") => `(tactic| (refine' code_def ?k1 ?k2 ?k3 ?k4 ?k5 ?kA ?kF ?kK ?k6 ?k7 ?k8 ?k9 ?kB ?_ ?c2 ?c3 ?c4 ?c5; (case kA => exact rfl); (case kF => assumption); (case kK => assumption); (case k1 => k_asm); (case k2 => k_asm); (case k3 => k_asm); (case k4 => k_asm); (case k5 => k_asm); (case k6 => k_is); (case k7 => k_is); (case k8 => ktr_room); (case k9 => first | exact BindsTo.of_eq rfl | exact binds_K (by k_in) rfl (by k_is) rfl rfl rfl | (refine' kp_binds ?kx ?ke; (case kx => k_in); (case ke => exact fun _ => rfl))); (case c5 => decide); (case kB => exact locs rfl); (case c2 => exact rfl); (case c3 => exact rfl); (case c4 => exact rfl); k_whole; intro g' L' h' FG' F' N' B' X' T'; (try dsimp only); (try k_lift B'); (try k_fold)))
local macro_rules | `(tactic| walk_at "M_ENTERC") => `(tactic| (refine' code_defC ?k1 ?k2 ?k3 ?k4 ?k5 ?kA ?kF ?kK ?k6 ?k7 ?k8 ?k9 ?kB ?kD ?_ ?c2 ?c3 ?c4; (case kA => exact rfl); (case kF => assumption); (case kK => assumption); (case k1 => k_asm); (case k2 => k_asm); (case k3 => k_asm); (case k4 => k_asm); (case k5 => k_asm); (case k6 => k_is); (case k7 => k_is); (case k8 => ktr_room); (case k9 => first | exact BindsTo.of_eq rfl | exact binds_K (by k_in) rfl (by k_is) rfl rfl rfl | (refine' kp_binds ?kx ?ke; (case kx => k_in); (case ke => exact fun _ => rfl))); (case kB => exact rfl); (case kD => decide +kernel); (case c2 => exact rfl); (case c3 => exact rfl); (case c4 => exact rfl); k_whole; intro g' L' h' tk' cells' FG' F' N' Y' B' X' T' l1; (try k_lt l1); k_cells Y'; (try simp only [List.cons_append, List.nil_append] at N'); (try dsimp only); (try k_lift B'); (try k_fold)))
local macro_rules | `(tactic| walk_at "M_ENTERN") => `(tactic| (refine' code_nest ?k1 ?k2 ?k3 ?k4 ?k5 ?kA ?kF ?kK ?k6 ?k7 ?k8 ?k9 ?kB ?_ ?c2 ?c3 ?c4 ?c5; (case kA => exact rfl); (case kF => assumption); (case kK => assumption); (case k1 => k_asm); (case k2 => k_asm); (case k3 => k_asm); (case k4 => k_asm); (case k5 => k_asm); (case k6 => k_mem); (case k7 => exact codeRec_news (by k_asm) (by k_mem) (by assumption) (by assumption)); (case k8 => ktr_room); (case k9 => exact BindsTo.of_eq rfl); (case c5 => decide); (case kB => exact locs rfl); (case c2 => exact rfl); (case c3 => exact rfl); (case c4 => exact rfl); k_whole; intro g' L' h' FG' F' N' B' X' T'; (try dsimp only); (try k_lift B'); (try k_fold)))
local macro_rules | `(tactic| k_all) => `(tactic| first | assumption | exact allLt_ne (by assumption) (by omega))
local macro_rules | `(tactic| walk_at "M_SIDE") => `(tactic| ((case kB => k_asm); (case kF => k_asm); (case kX => k_asm); (case kN => k_asm); (case kT => k_asm); (case kc => assumption); (case kf => first | rfl | assumption); (case kk => first | rfl | assumption); (case kd => ktr_room); (case ku => ktr_units)))
local macro_rules | `(tactic| walk_at "M_SIDE2") => `(tactic| ((case kB => k_asm); (case kF => k_asm); (case kX => k_asm); (case kT => k_asm); (case kc => assumption); (case kf => first | rfl | assumption); (case kk => first | rfl | assumption); (case kd => ktr_room); (case ku => ktr_units)))
local macro_rules | `(tactic| walk_at "eval Constant int") => `(tactic| (refine wpAny_Constant_int ?_; (try dsimp only)))
variable {w : World} {p : Program} {loose : List Str} {mean : ExcName → Option Value} {mg mb : Str → Option Value}
def ItOf (o : Obj) (l : Addr) (i : Nat) : Prop := o.cls = .type "list_iterator" ∧ o.data = .fields #[.ref l, .int i 0]
/-- a for over a list that stands still, by what holds after each turn -/
theorem list_loop {σ : Type} {prog : Program} {A : Around} {E : Value → Shared → Prop} {s : Shared} {h₀ : Heap} {L : Addr} {env : Env} {Q : Flow → Shared → Prop} {x : Str} {px : Pos} {body : List Stmt} {m₀ : Str → Option Value} {l : Addr} {vs : List Value} {kl : Nat}
    (Lf : σ → Led) (ps : σ → List (Str × Value)) (stored : List Str) (P : Addr → Nat → σ → Prop) (c₀ : σ) (hh : A.handled = none)
    (F : Fr h₀ L s.heap m₀) (N : News h₀ L s.heap (Lf c₀)) (hl : ∀ c, (l, lstO vs kl) ∈ Lf c) (hk : ∀ p ∈ ps c₀, m₀ p.1 = some p.2)
    (hp : ∀ I, (∀ q ∈ Lf c₀, q.1 < I) → P I 0 c₀) (hoff : ∀ I k c, P I k c → ∀ q ∈ Lf c, q.1 ≠ I)
    (turn : ∀ (H : Heap) (I : Addr) (oi oj : Obj) (k : Nat) (v : Value) (c : σ) (uu : Str → Option Value) (h : Heap) (tk : Nat), vs[k]? = some v → P I k c → ItOf oi l (k + 1) → Fr h₀ L h (kstB (fun z => if stored.contains z then uu z else m₀ z) (ps c)) → News h₀ L h ((I, oi) :: Lf c) →
      wpAny (model prog w) A (assign (.Name x px) env v) (fun _ s₂ => wpAny (model prog w) A (execs body env)
        (KswPost h₀ L { s with heap := H } (fun c : Addr × Obj × Nat × σ => (c.1, c.2.1) :: Lf c.2.2.2) (fun c => ps c.2.2.2) (fun _ => True) stored m₀ (fun c => c.2.2.1 ≤ vs.length ∧ c.1 = I ∧ ItOf c.2.1 l c.2.2.1 ∧ P I c.2.2.1 c.2.2.2) (fun c => vs.length - c.2.2.1) Q (I, oj, k, c)) E s₂) E { s with heap := h, toks := tk })
    (done : ∀ (I : Addr) (c : σ) (uu : Str → Option Value) (h : Heap) (tk : Nat), P I vs.length c → Fr h₀ L h (kstB (fun z => if stored.contains z then uu z else m₀ z) (ps c)) → News h₀ L h (Lf c) → Q .next { s with heap := h, toks := tk })
    (hE : PassesOwn (model prog w) A env E) :
    wpAny (model prog w) A (pyIter (.ref l)) (fun it s₂ => ForAt prog w A env x px body Q E it s₂) E s := by
  refine wpAny_pyIter_list (isList_of N (hl _)) ?_
  have F1 := F.push { cls := .type "list_iterator", data := .fields #[.ref l, .int 0 0] }
  have N1 : News h₀ L (s.heap.push { cls := .type "list_iterator", data := .fields #[.ref l, .int 0 0] }) ((s.heap.objs.size, { cls := .type "list_iterator", data := .fields #[.ref l, .int 0 0] }) :: Lf c₀) := N.push F _
  have h0 := hp s.heap.objs.size (fun q hq => Heap.lt_size (N.get hq))
  generalize s.heap.push { cls := .type "list_iterator", data := .fields #[.ref l, .int 0 0] } = H1 at F1 N1 ⊢
  generalize s.heap.objs.size = I at N1 h0 ⊢
  refine for_state (s := { s with heap := H1 }) (σ := Addr × Obj × Nat × σ) (fun c => (c.1, c.2.1) :: Lf c.2.2.2) (fun c => ps c.2.2.2) stored (fun c => c.2.2.1 ≤ vs.length ∧ c.1 = I ∧ ItOf c.2.1 l c.2.2.1 ∧ P I c.2.2.1 c.2.2.2) (fun c => vs.length - c.2.2.1) (I, { cls := .type "list_iterator", data := .fields #[.ref l, .int 0 0] }, 0, c₀) F1 N1 hk ⟨Nat.zero_le _, rfl, ⟨rfl, rfl⟩, h0⟩ ?_ hE
  rintro ⟨I', oj, k, c⟩ uu h tk ⟨hk', hI', hit, hP⟩ F2 N2
  dsimp only at hk' hI' hit hP F2 N2 ⊢
  subst hI'
  have hi : h.IsListIter I' l k := ⟨_, N2.get (.head _), hit.1, hit.2⟩
  have hls : h.IsList l vs.toArray := isList_of N2 (.tail _ (hl c))
  by_cases hlt : k < vs.length
  · have hx : vs[k]? = some (vs[k]) := List.getElem?_eq_getElem hlt
    refine wpAny_pyNext_list_item hi hls (x := vs[k]) (by simpa using hx) fun h' hit' hs' => ?_
    obtain ⟨o', ho, hc, hd⟩ := hit'
    obtain ⟨F3, N3⟩ := off_upd F2 N2 (hoff _ _ _ hP) ho (fun b ob hb eo => (hs'.2 b hb).trans eo)
    exact turn H1 I' o' oj k _ c uu h' tk hx hP ⟨hc, hd⟩ F3 N3
  · have ek : k = vs.length := by omega
    subst ek
    refine wpAny_pyNext_list_end hh hi hls (by simp) fun h' he' => ?_
    obtain ⟨F3, N3⟩ := off_one F2 N2 (hoff _ _ _ hP) he'
    exact done I' c uu h' tk hP F3 N3

end Mine

namespace Mine
local macro_rules | `(tactic| walk_at "M_SPARE0") => `(tactic| skip)
local macro_rules | `(tactic| walk_at "M_SPARE1") => `(tactic| skip)
local macro_rules | `(tactic| walk_at "M_SPARE2") => `(tactic| skip)
local macro_rules | `(tactic| walk_at "M_SPARE3") => `(tactic| skip)
local macro_rules | `(tactic| walk_at "M_SPARE4") => `(tactic| skip)
local macro_rules | `(tactic| walk_at "M_SPARE5") => `(tactic| skip)
local macro_rules | `(tactic| walk_at "M_SPARE6") => `(tactic| skip)
local macro_rules | `(tactic| walk_at "M_SPARE7") => `(tactic| skip)
local macro_rules | `(tactic| walk_at "M_SPARE8") => `(tactic| skip)
local macro_rules | `(tactic| walk_at "M_SPARE9") => `(tactic| skip)
local macro_rules | `(tactic| walk_at "M_SPARE10") => `(tactic| skip)
local macro_rules | `(tactic| walk_at "M_SPARE11") => `(tactic| skip)
local macro_rules | `(tactic| walk_at "M_SPARE12") => `(tactic| skip)
local macro_rules | `(tactic| walk_at "M_SPARE13") => `(tactic| skip)
local macro_rules | `(tactic| walk_at "M_SPARE14") => `(tactic| skip)
local macro_rules | `(tactic| walk_at "M_SPARE15") => `(tactic| skip)
local macro_rules | `(tactic| walk_at "M_SPARE16") => `(tactic| skip)
local macro_rules | `(tactic| walk_at "M_SPARE17") => `(tactic| skip)
local macro_rules | `(tactic| walk_at "M_SPARE18") => `(tactic| skip)
local macro_rules | `(tactic| walk_at "M_SPARE19") => `(tactic| skip)
local macro_rules | `(tactic| walk_at "M_SPARE20") => `(tactic| skip)
local macro_rules | `(tactic| walk_at "M_SPARE21") => `(tactic| skip)
local macro_rules | `(tactic| walk_at "M_SPARE22") => `(tactic| skip)
local macro_rules | `(tactic| walk_at "M_SPARE23") => `(tactic| skip)
local macro_rules | `(tactic| walk_at "M_SPARE24") => `(tactic| skip)
example : True := by
  k_with_none
  trivial
local macro_rules | `(tactic| walk_at "M_ENTER") => `(tactic| (refine' code_def ?k1 ?k2 ?k3 ?k4 ?k5 ?kA ?kF ?kK ?k6 ?k7 ?k8 ?k9 ?kB ?_ ?c2 ?c3 ?c4 ?c5; (case kA => exact rfl); (case kF => assumption); (case kK => assumption); (case k1 => k_asm); (case k2 => k_asm); (case k3 => k_asm); (case k4 => k_asm); (case k5 => k_asm); (case k6 => k_is); (case k7 => k_is); (case k8 => ktr_room); (case k9 => first | exact BindsTo.of_eq rfl | exact binds_K (by k_in) rfl (by k_is) rfl rfl rfl | (refine' kp_binds ?kx ?ke; (case kx => k_in); (case ke => exact fun _ => rfl))); (case c5 => decide); (case kB => exact locs rfl); (case c2 => exact rfl); (case c3 => exact rfl); (case c4 => exact rfl); k_whole; intro g' L' h' FG' F' N' B' X' T'; (try dsimp only); (try k_lift B'); (try k_fold)))
local macro_rules | `(tactic| walk_at "M_ENTERC") => `(tactic| (refine' code_defC ?k1 ?k2 ?k3 ?k4 ?k5 ?kA ?kF ?kK ?k6 ?k7 ?k8 ?k9 ?kB ?kD ?_ ?c2 ?c3 ?c4; (case kA => exact rfl); (case kF => assumption); (case kK => assumption); (case k1 => k_asm); (case k2 => k_asm); (case k3 => k_asm); (case k4 => k_asm); (case k5 => k_asm); (case k6 => k_is); (case k7 => k_is); (case k8 => ktr_room); (case k9 => first | exact BindsTo.of_eq rfl | exact binds_K (by k_in) rfl (by k_is) rfl rfl rfl | (refine' kp_binds ?kx ?ke; (case kx => k_in); (case ke => exact fun _ => rfl))); (case kB => exact rfl); (case kD => decide +kernel); (case c2 => exact rfl); (case c3 => exact rfl); (case c4 => exact rfl); k_whole; intro g' L' h' tk' cells' FG' F' N' Y' B' X' T' l1; (try k_lt l1); k_cells Y'; (try simp only [List.cons_append, List.nil_append] at N'); (try dsimp only); (try k_lift B'); (try k_fold)))
local macro_rules | `(tactic| walk_at "M_ENTERN") => `(tactic| (refine' code_nest ?k1 ?k2 ?k3 ?k4 ?k5 ?kA ?kF ?kK ?k6 ?k7 ?k8 ?k9 ?kB ?_ ?c2 ?c3 ?c4 ?c5; (case kA => exact rfl); (case kF => assumption); (case kK => assumption); (case k1 => k_asm); (case k2 => k_asm); (case k3 => k_asm); (case k4 => k_asm); (case k5 => k_asm); (case k6 => k_mem); (case k7 => exact codeRec_news (by k_asm) (by k_mem) (by assumption) (by assumption)); (case k8 => ktr_room); (case k9 => exact BindsTo.of_eq rfl); (case c5 => decide); (case kB => exact locs rfl); (case c2 => exact rfl); (case c3 => exact rfl); (case c4 => exact rfl); k_whole; intro g' L' h' FG' F' N' B' X' T'; (try dsimp only); (try k_lift B'); (try k_fold)))
local macro_rules | `(tactic| k_all) => `(tactic| first | assumption | exact allLt_ne (by assumption) (by omega))
local macro_rules | `(tactic| walk_at "M_SIDE") => `(tactic| ((case kB => k_asm); (case kF => k_asm); (case kX => k_asm); (case kN => k_asm); (case kT => k_asm); (case kc => assumption); (case kf => first | rfl | assumption); (case kk => first | rfl | assumption); (case kd => ktr_room); (case ku => ktr_units)))
local macro_rules | `(tactic| walk_at "M_SIDE2") => `(tactic| ((case kB => k_asm); (case kF => k_asm); (case kX => k_asm); (case kT => k_asm); (case kc => assumption); (case kf => first | rfl | assumption); (case kk => first | rfl | assumption); (case kd => ktr_room); (case ku => ktr_units)))
local macro_rules | `(tactic| walk_at "eval Constant int") => `(tactic| (refine wpAny_Constant_int ?_; (try dsimp only)))
variable {w : World} {p : Program} {loose : List Str} {mean : ExcName → Option Value} {mg mb : Str → Option Value}
theorem r27_get : ∀ i : Fin 27, (rangeInts 0 1 27).getD i 0 = (i : Nat) := by decide +kernel
theorem r27_len : (rangeInts 0 1 27).length = 27 := by decide +kernel
theorem r27_cho {size : Int} {i : Nat} (h : i < 27) : ((rangeInts 0 1 27).map fun t => choM t size).getD i 0 = choM (i : Int) size := by
  have e := r27_get ⟨i, h⟩
  have hl : i < (rangeInts 0 1 27).length := by rw [r27_len]; exact h
  rw [getD_eq (by rw [List.length_map]; exact hl), List.getElem_map]
  rw [getD_eq hl] at e
  rw [e]
theorem cho_0 : ∀ sz : Fin 5, 1 ≤ (sz : Nat) → choM 0 (sz : Nat) = 0 := by decide +kernel
theorem cho_turn {size n prev r : Int} (hs : 1 ≤ size ∧ size ≤ 4) (hp : 0 ≤ prev ∧ prev ≤ 27) (hn : 0 ≤ n ∧ n < choM prev size) (h : BR ((rangeInts 0 1 27).map fun t => choM t size) n r r) :
    (0 ≤ r - 1 ∧ r - 1 < prev) ∧ 0 ≤ n - choM (r - 1) size ∧ n - choM (r - 1) size < choM (r - 1) (size - 1) := by
  obtain ⟨h0, _, h2, h3, h4⟩ := h
  rw [List.length_map, r27_len] at h2 h4
  obtain ⟨sz, rfl⟩ : ∃ sz : Nat, size = (sz : Int) := ⟨size.toNat, by omega⟩
  have hsz : 1 ≤ sz ∧ sz ≤ 4 := by omega
  obtain ⟨p, rfl⟩ : ∃ p : Nat, prev = (p : Int) := ⟨prev.toNat, by omega⟩
  have hp' : p ≤ 27 := by omega
  obtain ⟨rn, rfl⟩ : ∃ rn : Nat, r = (rn : Int) := ⟨r.toNat, by omega⟩
  have hr0 : rn ≠ 0 := by
    intro e
    subst e
    have := h4 0 (by omega) (by omega)
    rw [r27_cho (by omega)] at this
    have e0 := cho_0 ⟨sz, by omega⟩ hsz.1
    have e0' : choM 0 (sz : Int) = 0 := e0
    have : n < choM 0 (sz : Int) := this
    omega
  obtain ⟨q, rfl⟩ : ∃ q : Nat, rn = q + 1 := ⟨rn - 1, by omega⟩
  have hq : q < 27 := by omega
  have eq1 : ((q + 1 : Nat) : Int) - 1 = (q : Int) := by omega
  rw [eq1]
  have hle : choM (q : Int) (sz : Int) ≤ n := by
    have := h3 q (by omega)
    rwa [r27_cho hq] at this
  have hlt : (q : Int) < (p : Int) := by
    by_cases hqp : q < p
    · omega
    · have := cho_mono ⟨p, by omega⟩ ⟨q, by omega⟩ ⟨sz, by omega⟩ (by show p ≤ q; omega)
      have : choM (p : Int) (sz : Int) ≤ choM (q : Int) (sz : Int) := this
      omega
  obtain ⟨s', rfl⟩ : ∃ s' : Nat, sz = s' + 1 := ⟨sz - 1, by omega⟩
  have est := cho_step ⟨q, hq⟩ ⟨s', by omega⟩
  have est' : choM ((q : Int) + 1) ((s' : Int) + 1) = choM (q : Int) ((s' : Int) + 1) + choM (q : Int) (s' : Int) := est
  have ec : ((s' + 1 : Nat) : Int) = (s' : Int) + 1 := by omega
  rw [ec] at hle hn ⊢
  have hup : n < choM ((q : Int) + 1) ((s' : Int) + 1) := by
    by_cases h27 : q + 1 < 27
    · have := h4 (q + 1) (by omega) h27
      rw [r27_cho h27, ec] at this
      exact this
    · have := cho_mono ⟨p, by omega⟩ ⟨q + 1, by omega⟩ ⟨s' + 1, by omega⟩ (by show p ≤ q + 1; omega)
      have : choM (p : Int) ((s' : Int) + 1) ≤ choM ((q : Int) + 1) ((s' : Int) + 1) := this
      omega
  have es : (s' : Int) + 1 - 1 = (s' : Int) := by omega
  rw [es]
  omega
theorem cho_srt {size : Int} (hs : 1 ≤ size ∧ size ≤ 4) : Sorted ((rangeInts 0 1 27).map fun t => choM t size) := by
  rw [sorted_iff]
  have key : ∀ sz : Fin 5, ((rangeInts 0 1 27).map fun t => choM t (sz : Nat)).Pairwise (· ≤ ·) := by decide +kernel
  have := key ⟨size.toNat, by omega⟩
  have e : ((size.toNat : Nat) : Int) = size := by omega
  simp only [e] at this
  exact this

end Mine

namespace Mine
example : True := by
  k_with_none
  trivial
local macro_rules | `(tactic| walk_at "M_ENTER") => `(tactic| (refine' code_def ?k1 ?k2 ?k3 ?k4 ?k5 ?kA ?kF ?kK ?k6 ?k7 ?k8 ?k9 ?kB ?_ ?c2 ?c3 ?c4 ?c5; (case kA => exact rfl); (case kF => assumption); (case kK => assumption); (case k1 => k_asm); (case k2 => k_asm); (case k3 => k_asm); (case k4 => k_asm); (case k5 => k_asm); (case k6 => k_is); (case k7 => k_is); (case k8 => ktr_room); (case k9 => first | exact BindsTo.of_eq rfl | exact binds_K (by k_in) rfl (by k_is) rfl rfl rfl | (refine' kp_binds ?kx ?ke; (case kx => k_in); (case ke => exact fun _ => rfl))); (case c5 => decide); (case kB => exact locs rfl); (case c2 => exact rfl); (case c3 => exact rfl); (case c4 => exact rfl); k_whole; intro g' L' h' FG' F' N' B' X' T'; (try dsimp only); (try k_lift B'); (try k_fold)))
local macro_rules | `(tactic| walk_at "M_ENTERC") => `(tactic| (refine' code_defC ?k1 ?k2 ?k3 ?k4 ?k5 ?kA ?kF ?kK ?k6 ?k7 ?k8 ?k9 ?kB ?kD ?_ ?c2 ?c3 ?c4; (case kA => exact rfl); (case kF => assumption); (case kK => assumption); (case k1 => k_asm); (case k2 => k_asm); (case k3 => k_asm); (case k4 => k_asm); (case k5 => k_asm); (case k6 => k_is); (case k7 => k_is); (case k8 => ktr_room); (case k9 => first | exact BindsTo.of_eq rfl | exact binds_K (by k_in) rfl (by k_is) rfl rfl rfl | (refine' kp_binds ?kx ?ke; (case kx => k_in); (case ke => exact fun _ => rfl))); (case kB => exact rfl); (case kD => decide +kernel); (case c2 => exact rfl); (case c3 => exact rfl); (case c4 => exact rfl); k_whole; intro g' L' h' tk' cells' FG' F' N' Y' B' X' T' l1; (try k_lt l1); k_cells Y'; (try simp only [List.cons_append, List.nil_append] at N'); (try dsimp only); (try k_lift B'); (try k_fold)))
local macro_rules | `(tactic| walk_at "M_ENTERN") => `(tactic| (refine' code_nest ?k1 ?k2 ?k3 ?k4 ?k5 ?kA ?kF ?kK ?k6 ?k7 ?k8 ?k9 ?kB ?_ ?c2 ?c3 ?c4 ?c5; (case kA => exact rfl); (case kF => assumption); (case kK => assumption); (case k1 => k_asm); (case k2 => k_asm); (case k3 => k_asm); (case k4 => k_asm); (case k5 => k_asm); (case k6 => k_mem); (case k7 => exact codeRec_news (by k_asm) (by k_mem) (by assumption) (by assumption)); (case k8 => ktr_room); (case k9 => exact BindsTo.of_eq rfl); (case c5 => decide); (case kB => exact locs rfl); (case c2 => exact rfl); (case c3 => exact rfl); (case c4 => exact rfl); k_whole; intro g' L' h' FG' F' N' B' X' T'; (try dsimp only); (try k_lift B'); (try k_fold)))
local macro_rules | `(tactic| k_all) => `(tactic| first | assumption | exact allLt_ne (by assumption) (by omega))
local macro_rules | `(tactic| walk_at "M_SIDE") => `(tactic| ((case kB => k_asm); (case kF => k_asm); (case kX => k_asm); (case kN => k_asm); (case kT => k_asm); (case kc => assumption); (case kf => first | rfl | assumption); (case kk => first | rfl | assumption); (case kd => ktr_room); (case ku => ktr_units)))
local macro_rules | `(tactic| walk_at "M_SIDE2") => `(tactic| ((case kB => k_asm); (case kF => k_asm); (case kX => k_asm); (case kT => k_asm); (case kc => assumption); (case kf => first | rfl | assumption); (case kk => first | rfl | assumption); (case kd => ktr_room); (case ku => ktr_units)))
local macro_rules | `(tactic| walk_at "eval Constant int") => `(tactic| (refine wpAny_Constant_int ?_; (try dsimp only)))
variable {w : World} {p : Program} {loose : List Str} {mean : ExcName → Option Value} {mg mb : Str → Option Value}
abbrev SzS := List Value × Nat × Int × Tok × List Int × Int × Obj × Array Value × Addr × Obj
def RanksOk (prev : Int) (rs : List Int) : Prop := rs.Pairwise (fun a b => b < a) ∧ ∀ r ∈ rs, prev ≤ r ∧ r < 27
theorem RanksOk.next {prev r : Int} {rs : List Int} (h : RanksOk prev rs) (hr : r < prev) (hp : prev ≤ 27) : RanksOk r (rs ++ [r]) := by
  refine ⟨List.pairwise_append.mpr ⟨h.1, List.pairwise_singleton .., fun a ha b hb => ?_⟩, fun x hx => ?_⟩
  · rw [List.mem_singleton.mp hb]
    have := (h.2 a ha).1
    omega
  · rcases List.mem_append.mp hx with hx | hx
    · have := h.2 x hx
      omega
    · rw [List.mem_singleton.mp hx]
      omega
def TabOk (ln col : Nat) (q : Str) (ps : Array Value) (cc : Addr) (occ : Obj) : Prop := ps = #[] ∨ ∃ vs t, ps = #[rawInt ln, rawInt col, .ref cc] ∧ occ.data = .fields vs ∧ vs[1]? = some (.str q t)
theorem four_at {t0 t1 t2 t3 : Tok} {k : Nat} {v : Value} (h : [Value.int 4 t0, .int 3 t1, .int 2 t2, .int 1 t3][k]? = some v) : ∃ sz t, v = .int sz t ∧ sz = 4 - (k : Int) ∧ k < 4 := by
  match k, h with
  | 0, h => cases h; exact ⟨_, _, rfl, rfl, by decide⟩
  | 1, h => cases h; exact ⟨_, _, rfl, rfl, by decide⟩
  | 2, h => cases h; exact ⟨_, _, rfl, rfl, by decide⟩
  | 3, h => cases h; exact ⟨_, _, rfl, rfl, by decide⟩
theorem rk27 : rangeKs 0 27 = rangeInts 0 1 27 := by decide +kernel

end Mine

namespace Mine
local macro_rules | `(tactic| walk_at "M_SPARE0") => `(tactic| skip)
local macro_rules | `(tactic| walk_at "M_SPARE1") => `(tactic| skip)
local macro_rules | `(tactic| walk_at "M_SPARE2") => `(tactic| skip)
local macro_rules | `(tactic| walk_at "M_SPARE3") => `(tactic| skip)
local macro_rules | `(tactic| walk_at "M_SPARE4") => `(tactic| skip)
local macro_rules | `(tactic| walk_at "M_SPARE5") => `(tactic| skip)
local macro_rules | `(tactic| walk_at "M_SPARE6") => `(tactic| skip)
local macro_rules | `(tactic| walk_at "M_SPARE7") => `(tactic| skip)
local macro_rules | `(tactic| walk_at "M_SPARE8") => `(tactic| skip)
local macro_rules | `(tactic| walk_at "M_SPARE9") => `(tactic| skip)
local macro_rules | `(tactic| walk_at "M_SPARE10") => `(tactic| skip)
local macro_rules | `(tactic| walk_at "M_SPARE11") => `(tactic| skip)
local macro_rules | `(tactic| walk_at "M_SPARE12") => `(tactic| skip)
local macro_rules | `(tactic| walk_at "M_SPARE13") => `(tactic| skip)
local macro_rules | `(tactic| walk_at "M_SPARE14") => `(tactic| skip)
local macro_rules | `(tactic| walk_at "M_SPARE15") => `(tactic| skip)
local macro_rules | `(tactic| walk_at "M_SPARE16") => `(tactic| skip)
local macro_rules | `(tactic| walk_at "M_SPARE17") => `(tactic| skip)
local macro_rules | `(tactic| walk_at "M_SPARE18") => `(tactic| skip)
local macro_rules | `(tactic| walk_at "M_SPARE19") => `(tactic| skip)
local macro_rules | `(tactic| walk_at "M_SPARE20") => `(tactic| skip)
local macro_rules | `(tactic| walk_at "M_SPARE21") => `(tactic| skip)
local macro_rules | `(tactic| walk_at "M_SPARE22") => `(tactic| skip)
local macro_rules | `(tactic| walk_at "M_SPARE23") => `(tactic| skip)
local macro_rules | `(tactic| walk_at "M_SPARE24") => `(tactic| skip)
example : True := by
  k_with_none
  trivial
local macro_rules | `(tactic| walk_at "M_ENTER") => `(tactic| (refine' code_def ?k1 ?k2 ?k3 ?k4 ?k5 ?kA ?kF ?kK ?k6 ?k7 ?k8 ?k9 ?kB ?_ ?c2 ?c3 ?c4 ?c5; (case kA => exact rfl); (case kF => assumption); (case kK => assumption); (case k1 => k_asm); (case k2 => k_asm); (case k3 => k_asm); (case k4 => k_asm); (case k5 => k_asm); (case k6 => k_is); (case k7 => k_is); (case k8 => ktr_room); (case k9 => first | exact BindsTo.of_eq rfl | exact binds_K (by k_in) rfl (by k_is) rfl rfl rfl | (refine' kp_binds ?kx ?ke; (case kx => k_in); (case ke => exact fun _ => rfl))); (case c5 => decide); (case kB => exact locs rfl); (case c2 => exact rfl); (case c3 => exact rfl); (case c4 => exact rfl); k_whole; intro g' L' h' FG' F' N' B' X' T'; (try dsimp only); (try k_lift B'); (try k_fold)))
local macro_rules | `(tactic| walk_at "M_ENTERC") => `(tactic| (refine' code_defC ?k1 ?k2 ?k3 ?k4 ?k5 ?kA ?kF ?kK ?k6 ?k7 ?k8 ?k9 ?kB ?kD ?_ ?c2 ?c3 ?c4; (case kA => exact rfl); (case kF => assumption); (case kK => assumption); (case k1 => k_asm); (case k2 => k_asm); (case k3 => k_asm); (case k4 => k_asm); (case k5 => k_asm); (case k6 => k_is); (case k7 => k_is); (case k8 => ktr_room); (case k9 => first | exact BindsTo.of_eq rfl | exact binds_K (by k_in) rfl (by k_is) rfl rfl rfl | (refine' kp_binds ?kx ?ke; (case kx => k_in); (case ke => exact fun _ => rfl))); (case kB => exact rfl); (case kD => decide +kernel); (case c2 => exact rfl); (case c3 => exact rfl); (case c4 => exact rfl); k_whole; intro g' L' h' tk' cells' FG' F' N' Y' B' X' T' l1; (try k_lt l1); k_cells Y'; (try simp only [List.cons_append, List.nil_append] at N'); (try dsimp only); (try k_lift B'); (try k_fold)))
local macro_rules | `(tactic| walk_at "M_ENTERN") => `(tactic| (refine' code_nest ?k1 ?k2 ?k3 ?k4 ?k5 ?kA ?kF ?kK ?k6 ?k7 ?k8 ?k9 ?kB ?_ ?c2 ?c3 ?c4 ?c5; (case kA => exact rfl); (case kF => assumption); (case kK => assumption); (case k1 => k_asm); (case k2 => k_asm); (case k3 => k_asm); (case k4 => k_asm); (case k5 => k_asm); (case k6 => k_mem); (case k7 => exact codeRec_news (by k_asm) (by k_mem) (by assumption) (by assumption)); (case k8 => ktr_room); (case k9 => exact BindsTo.of_eq rfl); (case c5 => decide); (case kB => exact locs rfl); (case c2 => exact rfl); (case c3 => exact rfl); (case c4 => exact rfl); k_whole; intro g' L' h' FG' F' N' B' X' T'; (try dsimp only); (try k_lift B'); (try k_fold)))
local macro_rules | `(tactic| k_all) => `(tactic| first | assumption | exact allLt_ne (by assumption) (by omega))
local macro_rules | `(tactic| walk_at "M_SIDE") => `(tactic| ((case kB => k_asm); (case kF => k_asm); (case kX => k_asm); (case kN => k_asm); (case kT => k_asm); (case kc => assumption); (case kf => first | rfl | assumption); (case kk => first | rfl | assumption); (case kd => ktr_room); (case ku => ktr_units)))
local macro_rules | `(tactic| walk_at "M_SIDE2") => `(tactic| ((case kB => k_asm); (case kF => k_asm); (case kX => k_asm); (case kT => k_asm); (case kc => assumption); (case kf => first | rfl | assumption); (case kk => first | rfl | assumption); (case kd => ktr_room); (case ku => ktr_units)))
local macro_rules | `(tactic| walk_at "eval Constant int") => `(tactic| (refine wpAny_Constant_int ?_; (try dsimp only)))
variable {w : World} {p : Program} {loose : List Str} {mean : ExcName → Option Value} {mg mb : Str → Option Value}
theorem ranks4 {rs : List Int} {prev : Int} (h : RanksOk prev rs) (hl : rs.length = 4) (hp : 0 ≤ prev) : ∃ a b c d, rs = [a, b, c, d] ∧ (0 ≤ d ∧ d < c ∧ c < b ∧ b < a ∧ a < 27) := by
  match rs, hl with
  | [a, b, c, d], _ =>
    obtain ⟨h1, h2⟩ := h
    simp only [List.pairwise_cons, List.mem_cons, List.not_mem_nil, or_false, forall_eq_or_imp, forall_eq] at h1 h2
    exact ⟨a, b, c, d, rfl, by omega, by omega, by omega, by omega, by omega⟩
theorem ints4 {vs : List Value} {a b c d : Int} (h : IntsAre vs [a, b, c, d]) : ∃ ta tb tc td, vs = [.int a ta, .int b tb, .int c tc, .int d td] := by
  cases h with
  | cons _ ta h => cases h with
    | cons _ tb h => cases h with
      | cons _ tc h => cases h with
        | cons _ td h => cases h; exact ⟨ta, tb, tc, td, rfl⟩
theorem item_lit {prog : Program} {A : Around} {E : Value → Shared → Prop} {s : Shared} {h₀ : Heap} {L l : Addr} {vs : List Value} {v : Value} {n : Nat} {k : Int} {u : Tok} {led : Led} {value slice : Expr} {Q : Value → Shared → Prop}
    (N : News h₀ L s.heap led) (hm : (l, lstO vs n) ∈ led) (h0 : 0 ≤ k) (h1 : k < 2 ^ 63) (hx : vs[k.toNat]? = some v) (h : Q v s)
    (hs : subscripted slice false (.ref l) (.int k u) = operate [.ref l, .int k u] (getItem (.ref l) (.int k u))) :
    wpAny (model prog w) A (subscriptTail value slice (.ref l) (.int k u)) Q E s := by
  have hl := isList_of N hm
  exact tail_any hl.typeIs slot_list_getitem.lookup (wpAny_getItem_list hl h0 h1 (by simpa using hx) h) hs

end Mine

namespace Mine
example : True := by
  k_with_none
  trivial
local macro_rules | `(tactic| walk_at "M_ENTER") => `(tactic| (refine' code_def ?k1 ?k2 ?k3 ?k4 ?k5 ?kA ?kF ?kK ?k6 ?k7 ?k8 ?k9 ?kB ?_ ?c2 ?c3 ?c4 ?c5; (case kA => exact rfl); (case kF => assumption); (case kK => assumption); (case k1 => k_asm); (case k2 => k_asm); (case k3 => k_asm); (case k4 => k_asm); (case k5 => k_asm); (case k6 => k_is); (case k7 => k_is); (case k8 => ktr_room); (case k9 => first | exact BindsTo.of_eq rfl | exact binds_K (by k_in) rfl (by k_is) rfl rfl rfl | (refine' kp_binds ?kx ?ke; (case kx => k_in); (case ke => exact fun _ => rfl))); (case c5 => decide); (case kB => exact locs rfl); (case c2 => exact rfl); (case c3 => exact rfl); (case c4 => exact rfl); k_whole; intro g' L' h' FG' F' N' B' X' T'; (try dsimp only); (try k_lift B'); (try k_fold)))
local macro_rules | `(tactic| walk_at "M_ENTERC") => `(tactic| (refine' code_defC ?k1 ?k2 ?k3 ?k4 ?k5 ?kA ?kF ?kK ?k6 ?k7 ?k8 ?k9 ?kB ?kD ?_ ?c2 ?c3 ?c4; (case kA => exact rfl); (case kF => assumption); (case kK => assumption); (case k1 => k_asm); (case k2 => k_asm); (case k3 => k_asm); (case k4 => k_asm); (case k5 => k_asm); (case k6 => k_is); (case k7 => k_is); (case k8 => ktr_room); (case k9 => first | exact BindsTo.of_eq rfl | exact binds_K (by k_in) rfl (by k_is) rfl rfl rfl | (refine' kp_binds ?kx ?ke; (case kx => k_in); (case ke => exact fun _ => rfl))); (case kB => exact rfl); (case kD => decide +kernel); (case c2 => exact rfl); (case c3 => exact rfl); (case c4 => exact rfl); k_whole; intro g' L' h' tk' cells' FG' F' N' Y' B' X' T' l1; (try k_lt l1); k_cells Y'; (try simp only [List.cons_append, List.nil_append] at N'); (try dsimp only); (try k_lift B'); (try k_fold)))
local macro_rules | `(tactic| walk_at "M_ENTERN") => `(tactic| (refine' code_nest ?k1 ?k2 ?k3 ?k4 ?k5 ?kA ?kF ?kK ?k6 ?k7 ?k8 ?k9 ?kB ?_ ?c2 ?c3 ?c4 ?c5; (case kA => exact rfl); (case kF => assumption); (case kK => assumption); (case k1 => k_asm); (case k2 => k_asm); (case k3 => k_asm); (case k4 => k_asm); (case k5 => k_asm); (case k6 => k_mem); (case k7 => exact codeRec_news (by k_asm) (by k_mem) (by assumption) (by assumption)); (case k8 => ktr_room); (case k9 => exact BindsTo.of_eq rfl); (case c5 => decide); (case kB => exact locs rfl); (case c2 => exact rfl); (case c3 => exact rfl); (case c4 => exact rfl); k_whole; intro g' L' h' FG' F' N' B' X' T'; (try dsimp only); (try k_lift B'); (try k_fold)))
local macro_rules | `(tactic| k_all) => `(tactic| first | assumption | exact allLt_ne (by assumption) (by omega))
local macro_rules | `(tactic| walk_at "M_SIDE") => `(tactic| ((case kB => k_asm); (case kF => k_asm); (case kX => k_asm); (case kN => k_asm); (case kT => k_asm); (case kc => assumption); (case kf => first | rfl | assumption); (case kk => first | rfl | assumption); (case kd => ktr_room); (case ku => ktr_units)))
local macro_rules | `(tactic| walk_at "M_SIDE2") => `(tactic| ((case kB => k_asm); (case kF => k_asm); (case kX => k_asm); (case kT => k_asm); (case kc => assumption); (case kf => first | rfl | assumption); (case kk => first | rfl | assumption); (case kd => ktr_room); (case ku => ktr_units)))
variable {w : World} {p : Program} {loose : List Str} {mean : ExcName → Option Value} {mg mb : Str → Option Value}
section
variable {prog : Program} {A : Around} {E : Value → Shared → Prop} {s : Shared} {h₀ : Heap} {L : Addr} {m : Str → Option Value} {env : Env}
/-- the source of a comprehension over a text -/
def TextSrc (prog : Program) (w : World) (A : Around) (h₀ : Heap) (L : Addr) (m : Str → Option Value) (env : Env) (elt : Expr) (x : Str) (scope : Scope) (cl : List (Str × Addr)) (Fin : Shared → List Value → Led → Prop) (xv : Value) (s₁ : Shared) : Prop :=
  ∃ tx t news, xv = .str tx t ∧ A.handled = none ∧ Fr h₀ L s₁.heap m ∧ News h₀ L s₁.heap news ∧ tx.cps.size ≤ sizeLine ∧
    ∀ s₂ : Shared, (∃ h, s₂ = { s₁ with heap := h }) → LCg.CompRest prog w A h₀ L m env elt x scope cl s₂ (fun _ => True) (SignAt tx) (Fin s₂) tx.cps.size 0 [] news
theorem TextSrc.intro {elt : Expr} {x : Str} {scope : Scope} {cl : List (Str × Addr)} {Fin : Shared → List Value → Led → Prop} {tx : Str} {t : Tok} {news : Led} {s₁ : Shared}
    (hh : A.handled = none) (F : Fr h₀ L s₁.heap m) (N : News h₀ L s₁.heap news) (hsz : tx.cps.size ≤ sizeLine)
    (h : ∀ g, LCg.CompRest prog w A h₀ L m env elt x scope cl { s₁ with heap := g } (fun _ => True) (SignAt tx) (Fin { s₁ with heap := g }) tx.cps.size 0 [] news) :
    TextSrc prog w A h₀ L m env elt x scope cl Fin (.str tx t) s₁ := ⟨tx, t, news, rfl, hh, F, N, hsz, fun _ ⟨g, e⟩ => e ▸ h g⟩
theorem str_st {I : Addr} {tx : Str} {t : Tok} {T : String} : ∀ i (h h' : Heap) (o : Obj) (nw : Led), h.IsStrIter I T tx t i → h.get? I = some o → h'.get? I = some o → (∀ b o, h₀.get? b = some o → h'.get? b = some o) → News h₀ L h' nw → True → h'.IsStrIter I T tx t i :=
  fun i h h' o nw st e e' _ _ _ => by obtain ⟨o', q, r⟩ := st; rw [e] at q; cases q; exact ⟨o, e', r⟩
theorem ListComp_S {elt iter : Expr} {x : Str} {px : Pos} {scope : Scope} {cl : List (Str × Addr)} {pos : Pos} {Q : Value → Shared → Prop} (F₀ : Fr h₀ L s.heap m)
    (hclos : closureFor scope env = pure cl) (hcell : ∀ y ∈ scope.names, y.2 ≠ .cell) (hkind : scope.kind = .function)
    (hnames : ∀ y ∈ scope.names, y.2 = .local → scope.names.lookup y.1 = some .local) (hx : scope.names.lookup x = some .local)
    (h : wpAny (model prog w) A (eval iter env) (TextSrc prog w A h₀ L m env elt x scope cl (fun s₂ => LCg.FinE h₀ L m s₂ Q)) E s)
    (hs : ∀ x, foldedSetIterable iter env x = pure x := by intro _; rfl) :
    wpAny (model prog w) A (eval (.ListComp elt [⟨.Name x px, iter, [], 0⟩] scope pos) env) Q E s := by
  rw [eval_ListComp]
  refine wpAny_comprehension_free (use := none) rfl hs hclos hkind hnames (wpAny_mono h (fun xv s₁ h₁ => ?_) fun _ _ e => e)
  obtain ⟨tx, t, news, rfl, hh, F, N, hsz, R⟩ := h₁
  cases ha : tx.cps.all (· < 128)
  · refine wpAny_pyIter_wide ha ?_
    refine LCg.block_U (Walks.strWide hh s₁.heap.objs.size tx t) hsz (fun i h st => by obtain ⟨o, e, _⟩ := st; exact ⟨o, e⟩) str_st hcell hkind hx ⟨_, Heap.get?_push_size _ rfl, rfl, rfl⟩ (fun b hb => ?_)
      (F.keeps fun _ _ e => Heap.get?_push_of_some _ e) (N.grown fun _ _ e => Heap.get?_push_of_some _ e) (Nat.ne_of_lt F.ns.lt) (next_is_new F) (fun p hp => Nat.ne_of_lt (Heap.lt_size (N p hp).1)) trivial (R _ ⟨_, rfl⟩) ?_
    · rw [List.mem_singleton.mp hb]
      show s₁.heap.objs.size < (s₁.heap.push _).objs.size
      rw [Heap.size_push]; exact Nat.lt_succ_self _
    · intro D C h tk m' ys news' F' N' o1 hn hC₀ hD₀ hCL hDL hCD offC fin
      refine ⟨m', hn, fun h'' hs'' => fin D h'' tk (F'.change hs'' hCL hC₀) (fun p hp => ?_) o1⟩
      refine ⟨hs''.extBut _ _ ?_ (N' p hp).1, (N' p hp).2⟩
      rcases List.mem_cons.mp hp with rfl | hp
      · exact Ne.symm hCD
      · exact offC p hp
  · refine wpAny_pyIter_ascii ha ?_
    refine LCg.block_U (Walks.strAscii hh s₁.heap.objs.size tx t) hsz (fun i h st => by obtain ⟨o, e, _⟩ := st; exact ⟨o, e⟩) str_st hcell hkind hx ⟨_, Heap.get?_push_size _ rfl, rfl, rfl⟩ (fun b hb => ?_)
      (F.keeps fun _ _ e => Heap.get?_push_of_some _ e) (N.grown fun _ _ e => Heap.get?_push_of_some _ e) (Nat.ne_of_lt F.ns.lt) (next_is_new F) (fun p hp => Nat.ne_of_lt (Heap.lt_size (N p hp).1)) trivial (R _ ⟨_, rfl⟩) ?_
    · rw [List.mem_singleton.mp hb]
      show s₁.heap.objs.size < (s₁.heap.push _).objs.size
      rw [Heap.size_push]; exact Nat.lt_succ_self _
    · intro D C h tk m' ys news' F' N' o1 hn hC₀ hD₀ hCL hDL hCD offC fin
      refine ⟨m', hn, fun h'' hs'' => fin D h'' tk (F'.change hs'' hCL hC₀) (fun p hp => ?_) o1⟩
      refine ⟨hs''.extBut _ _ ?_ (N' p hp).1, (N' p hp).2⟩
      rcases List.mem_cons.mp hp with rfl | hp
      · exact Ne.symm hCD
      · exact offC p hp
/-- a comprehension by what holds after each turn -/
theorem comp_inv {elt : Expr} {x : Str} {scope : Scope} {cl : List (Str × Addr)} {S : Led → Prop} {P : Nat → Value → Prop} {Fin : List Value → Led → Prop} {n : Nat} {news : Led} (J : Nat → List Value → Led → Prop) (h0 : J 0 [] news)
    (turn : ∀ i ys news v I oI C oC D m₂ h tk (E' : Value → Shared → Prop), i < n → J i ys news → P i v → LCg.NsObj oC m₂ → m₂ x = some v → Fr h₀ L h m → News h₀ L h ((I, oI) :: (C, oC) :: (D, LCg.lst ys) :: news) → LCg.Off3 I C D news → ((@Ne Nat I C) ∧ (@Ne Nat I D) ∧ (@Ne Nat C D)) →
      wpAny (model prog w) A (eval elt (compEnvC scope cl C env)) (LCg.CompEnd h₀ L m { s with heap := h, toks := tk } I oI C oC D (LCg.lst ys) S (fun y news' => J (i + 1) (ys ++ [y]) news')) E' { s with heap := h, toks := tk })
    (fin : ∀ ys news, J n ys news → Fin ys news) : LCg.CompRest prog w A h₀ L m env elt x scope cl s S P Fin n 0 [] news := by
  have key : ∀ (j i : Nat) (ys : List Value) (news : Led), i + j = n → J i ys news → LCg.CompRest prog w A h₀ L m env elt x scope cl s S P Fin j i ys news := by
    intro j
    induction j with
    | zero => intro i ys news hi hJ; rw [Nat.add_zero] at hi; subst hi; exact LCg.CompRest.zero (fin ys news hJ)
    | succ j ih =>
      intro i ys news hi hJ
      refine LCg.CompRest.succ fun v I oI C oC D m₂ h tk E' hv hC hx F N off ne => ?_
      refine wpAny_mono (turn i ys news v I oI C oC D m₂ h tk E' (by omega) hJ hv hC hx F N off ne) (fun y s₂ hq => ?_) fun _ _ e => e
      obtain ⟨h', tk', nw, e, F', N', off', hS, hJ'⟩ := hq
      exact ⟨h', tk', nw, e, F', N', off', hS, ih (i + 1) _ _ (by omega) hJ'⟩
  exact key n 0 [] news (by omega) h0
end

end Mine

namespace Mine
local macro_rules | `(tactic| walk_at "M_SPARE0") => `(tactic| skip)
local macro_rules | `(tactic| walk_at "M_SPARE1") => `(tactic| skip)
local macro_rules | `(tactic| walk_at "M_SPARE2") => `(tactic| skip)
local macro_rules | `(tactic| walk_at "M_SPARE3") => `(tactic| skip)
local macro_rules | `(tactic| walk_at "M_SPARE4") => `(tactic| skip)
local macro_rules | `(tactic| walk_at "M_SPARE5") => `(tactic| skip)
local macro_rules | `(tactic| walk_at "M_SPARE6") => `(tactic| skip)
local macro_rules | `(tactic| walk_at "M_SPARE7") => `(tactic| skip)
local macro_rules | `(tactic| walk_at "M_SPARE8") => `(tactic| skip)
local macro_rules | `(tactic| walk_at "M_SPARE9") => `(tactic| skip)
local macro_rules | `(tactic| walk_at "M_SPARE10") => `(tactic| skip)
local macro_rules | `(tactic| walk_at "M_SPARE11") => `(tactic| skip)
local macro_rules | `(tactic| walk_at "M_SPARE12") => `(tactic| skip)
local macro_rules | `(tactic| walk_at "M_SPARE13") => `(tactic| skip)
local macro_rules | `(tactic| walk_at "M_SPARE14") => `(tactic| skip)
local macro_rules | `(tactic| walk_at "M_SPARE15") => `(tactic| skip)
local macro_rules | `(tactic| walk_at "M_SPARE16") => `(tactic| skip)
local macro_rules | `(tactic| walk_at "M_SPARE17") => `(tactic| skip)
local macro_rules | `(tactic| walk_at "M_SPARE18") => `(tactic| skip)
local macro_rules | `(tactic| walk_at "M_SPARE19") => `(tactic| skip)
local macro_rules | `(tactic| walk_at "M_SPARE20") => `(tactic| skip)
local macro_rules | `(tactic| walk_at "M_SPARE21") => `(tactic| skip)
local macro_rules | `(tactic| walk_at "M_SPARE22") => `(tactic| skip)
local macro_rules | `(tactic| walk_at "M_SPARE23") => `(tactic| skip)
local macro_rules | `(tactic| walk_at "M_SPARE24") => `(tactic| skip)
example : True := by
  k_with_none
  trivial
local macro_rules | `(tactic| walk_at "M_ENTER") => `(tactic| (refine' code_def ?k1 ?k2 ?k3 ?k4 ?k5 ?kA ?kF ?kK ?k6 ?k7 ?k8 ?k9 ?kB ?_ ?c2 ?c3 ?c4 ?c5; (case kA => exact rfl); (case kF => assumption); (case kK => assumption); (case k1 => k_asm); (case k2 => k_asm); (case k3 => k_asm); (case k4 => k_asm); (case k5 => k_asm); (case k6 => k_is); (case k7 => k_is); (case k8 => ktr_room); (case k9 => first | exact BindsTo.of_eq rfl | exact binds_K (by k_in) rfl (by k_is) rfl rfl rfl | (refine' kp_binds ?kx ?ke; (case kx => k_in); (case ke => exact fun _ => rfl))); (case c5 => decide); (case kB => exact locs rfl); (case c2 => exact rfl); (case c3 => exact rfl); (case c4 => exact rfl); k_whole; intro g' L' h' FG' F' N' B' X' T'; (try dsimp only); (try k_lift B'); (try k_fold)))
local macro_rules | `(tactic| walk_at "M_ENTERC") => `(tactic| (refine' code_defC ?k1 ?k2 ?k3 ?k4 ?k5 ?kA ?kF ?kK ?k6 ?k7 ?k8 ?k9 ?kB ?kD ?_ ?c2 ?c3 ?c4; (case kA => exact rfl); (case kF => assumption); (case kK => assumption); (case k1 => k_asm); (case k2 => k_asm); (case k3 => k_asm); (case k4 => k_asm); (case k5 => k_asm); (case k6 => k_is); (case k7 => k_is); (case k8 => ktr_room); (case k9 => first | exact BindsTo.of_eq rfl | exact binds_K (by k_in) rfl (by k_is) rfl rfl rfl | (refine' kp_binds ?kx ?ke; (case kx => k_in); (case ke => exact fun _ => rfl))); (case kB => exact rfl); (case kD => decide +kernel); (case c2 => exact rfl); (case c3 => exact rfl); (case c4 => exact rfl); k_whole; intro g' L' h' tk' cells' FG' F' N' Y' B' X' T' l1; (try k_lt l1); k_cells Y'; (try simp only [List.cons_append, List.nil_append] at N'); (try dsimp only); (try k_lift B'); (try k_fold)))
local macro_rules | `(tactic| walk_at "M_ENTERN") => `(tactic| (refine' code_nest ?k1 ?k2 ?k3 ?k4 ?k5 ?kA ?kF ?kK ?k6 ?k7 ?k8 ?k9 ?kB ?_ ?c2 ?c3 ?c4 ?c5; (case kA => exact rfl); (case kF => assumption); (case kK => assumption); (case k1 => k_asm); (case k2 => k_asm); (case k3 => k_asm); (case k4 => k_asm); (case k5 => k_asm); (case k6 => k_mem); (case k7 => exact codeRec_news (by k_asm) (by k_mem) (by assumption) (by assumption)); (case k8 => ktr_room); (case k9 => exact BindsTo.of_eq rfl); (case c5 => decide); (case kB => exact locs rfl); (case c2 => exact rfl); (case c3 => exact rfl); (case c4 => exact rfl); k_whole; intro g' L' h' FG' F' N' B' X' T'; (try dsimp only); (try k_lift B'); (try k_fold)))
local macro_rules | `(tactic| k_all) => `(tactic| first | assumption | exact allLt_ne (by assumption) (by omega))
local macro_rules | `(tactic| walk_at "M_SIDE") => `(tactic| ((case kB => k_asm); (case kF => k_asm); (case kX => k_asm); (case kN => k_asm); (case kT => k_asm); (case kc => assumption); (case kf => first | rfl | assumption); (case kk => first | rfl | assumption); (case kd => ktr_room); (case ku => ktr_units)))
local macro_rules | `(tactic| walk_at "M_SIDE2") => `(tactic| ((case kB => k_asm); (case kF => k_asm); (case kX => k_asm); (case kT => k_asm); (case kc => assumption); (case kf => first | rfl | assumption); (case kk => first | rfl | assumption); (case kd => ktr_room); (case ku => ktr_units)))
variable {w : World} {p : Program} {loose : List Str} {mean : ExcName → Option Value} {mg mb : Str → Option Value}
def SJ (f : Nat → Str) (word : Str) (n0 : Led) (i : Nat) (ys : List Value) (nw : Led) : Prop := nw = n0 ∧ StrsAre ys ((word.cps.toList.take i).map f)
theorem SJ.next {f : Nat → Str} {word : Str} {n0 nw : Led} {i c : Nat} {ys : List Value} {t : Tok} (h : SJ f word n0 i ys nw) (hc : word.cps[i]? = some c) : SJ f word n0 (i + 1) (ys ++ [.str (f c) t]) nw := by
  refine ⟨h.1, ?_⟩
  rw [List.take_add_one, Array.getElem?_toList, hc, List.map_append]
  exact kct_snoc h.2
theorem SJ.next' {f : Nat → Str} {word y : Str} {n0 nw : Led} {i c : Nat} {ys : List Value} {t : Tok} (h : SJ f word n0 i ys nw) (hc : word.cps[i]? = some c) (e : f c = y) : SJ f word n0 (i + 1) (ys ++ [.str y t]) nw := e ▸ h.next hc
theorem item_pick3 {prog : Program} {A : Around} {E : Value → Shared → Prop} {s : Shared} {h₀ : Heap} {L l : Addr} {a b c : Str} {ta tb tc : Tok} {n : Nat} {k : Int} {u : Tok} {news : Led} {value slice : Expr} {Q : Value → Shared → Prop}
    (N : News h₀ L s.heap news) (hm : (l, lstO [.str a ta, .str b tb, .str c tc] n) ∈ news) (hk : 0 ≤ k ∧ k < 3) (h : ∀ t, Q (.str (if k = 0 then a else if k = 1 then b else c) t) s)
    (hs : subscripted slice false (.ref l) (.int k u) = operate [.ref l, .int k u] (getItem (.ref l) (.int k u)) := by with_unfolding_all rfl) :
    wpAny (model prog w) A (subscriptTail value slice (.ref l) (.int k u)) Q E s := by
  have hl := isList_of N hm
  have hx : ∃ t, [Value.str a ta, .str b tb, .str c tc][k.toNat]? = some (.str (if k = 0 then a else if k = 1 then b else c) t) := by
    rcases (show k = 0 ∨ k = 1 ∨ k = 2 by omega) with rfl | rfl | rfl
    · exact ⟨ta, rfl⟩
    · exact ⟨tb, rfl⟩
    · exact ⟨tc, rfl⟩
  obtain ⟨t, ht⟩ := hx
  exact tail_any hl.typeIs slot_list_getitem.lookup (wpAny_getItem_list hl hk.1 (by omega) (by simpa using ht) (h t)) hs
def escM (c : Nat) : Str := Str.ofString "\\" ++ (⟨#[c]⟩ : Str)
def needM (c : Nat) : Str := if ((⟨#[c]⟩ : Str) == Str.ofString "\n") = true then (⟨#[c]⟩ : Str) else Str.ofString "\\" ++ (⟨#[c]⟩ : Str)
theorem escM_len (c : Nat) : (escM c).length ≤ 2 := by
  show (#['\\'.toNat] ++ #[c]).size ≤ 2
  simp
theorem needM_len (c : Nat) : (needM c).length ≤ 2 := by
  unfold needM
  split
  · show (#[c]).size ≤ 2
    simp
  · exact escM_len c
theorem sum_len {f : Nat → Str} (hf : ∀ c, (f c).length ≤ 2) : ∀ l : List Nat, ((l.map f).map (·.length)).sum ≤ 2 * l.length
  | [] => by simp
  | c :: l => by
    have h1 := hf c
    have h2 := sum_len hf l
    simp only [List.map_cons, List.sum_cons, List.length_cons] at h2 ⊢
    omega
theorem join_len {f : Nat → Str} (hf : ∀ c, (f c).length ≤ 2) (l : List Nat) : (Txt.join (Str.ofString "") (l.map f)).length ≤ 2 * l.length := by
  have h1 := StrLaws.join_length_le (Str.ofString "") (l.map f)
  have h2 := sum_len hf l
  have e : Txt.join (Str.ofString "") (l.map f) = Str.join (Str.ofString "") (l.map f) := StrLaws.glued_eq_join ..
  have h3 : (Str.ofString "").length = 0 := rfl
  rw [e]
  rw [h3] at h1
  omega
theorem join_text {prog : Program} {A : Around} {E : Value → Shared → Prop} {s : Shared} {D : Addr} {h₀ : Heap} {L : Addr} {news n0 nw : Led} {ys : List Value} {f : Nat → Str} {word : Str} {t : Tok} {Q : Value → Shared → Prop} (N : News h₀ L s.heap news) (hm : (D, LCg.lst ys) ∈ news) (hf : ∀ c, (f c).length ≤ 2) (hJ : SJ f word n0 word.cps.size ys nw) (hw : word.length ≤ 3)
    (h : ∀ t' k, (Txt.join (Str.ofString "") (word.cps.toList.map f)).length ≤ 6 → Q (.str (Txt.join (Str.ofString "") (word.cps.toList.map f)) t') { s with toks := k }) : wpAny (model prog w) A (call (.builtin "str.join") [.str (Str.ofString "") t, .ref D]) Q E s := by
  have hl : word.cps.toList.length ≤ 3 := by rw [Array.length_toList]; exact hw
  have h2 := hJ.2
  rw [← Array.length_toList, List.take_length] at h2
  refine join_list (items := ys.toArray) ⟨_, (N _ hm).1, rfl, _, rfl⟩ h2 ?_ fun t' k => h t' k ?_
  · have h1 := sum_len hf word.cps.toList
    have h3 : (Str.ofString "").length = 0 := rfl
    rw [h3]
    omega
  · have h1 := join_len hf word.cps.toList
    omega
local macro_rules | `(tactic| walk_at "eval ListComp") => `(tactic| k_extra "M_COMP")
local macro_rules | `(tactic| walk_at "call builtin:str.join") => `(tactic| k_extra "M_JOIN")
/-- how a word is written: three ways -/
def writtenM (word : Str) (way : Int) : Str :=
  let needed := Txt.join (Str.ofString "") (word.cps.toList.map needM)
  let escaped := Txt.join (Str.ofString "") (word.cps.toList.map escM)
  if way = 0 then Str.ofString "\"" ++ needed ++ Str.ofString "\"" else if way = 1 then escaped ++ Str.ofString "\t" else Str.ofString "\"" ++ escaped ++ Str.ofString "\"\r"
set_option maxHeartbeats 0 in
theorem written_c {news : Led} {word : Str} {way : Int} {t t2 : Tok} (hk : word.length ≤ 3) (hw : 0 ≤ way ∧ way < 3) :
    Con w p loose mean mg mb (.ref 160) [.str word t, .int way t2] [] 3 200 news (fun r n' => (∃ t, r = .str (writtenM word way) t) ∧ n' = news) := by
  unfold Con; k_fill; intros; rename_i hret
  k_with_none
  k_dflt (walk_at "M_ENTER")
  k_with "M_COMP" => (k_dflt (refine' ListComp_S ?k1 (by with_unfolding_all rfl) (by decide) (by rfl) (by decide) (by rfl) ?_ ?k2; (case k1 => k_asm); (case k2 => (intro _; rfl)); k_whole))
  k_with "TextSrc" => (refine TextSrc.intro (by rfl) (by k_asm) (by k_asm) (Nat.le_trans hk (by decide)) (fun g' => ?_))
  k_with "CompRest" => first
    | ((with_reducible show LCg.CompRest _ _ _ _ _ _ _ (Expr.IfExp _ _ _ _) _ _ _ _ _ _ _ _ _ _ _); refine' comp_inv (SJ needM word _) ⟨rfl, .nil⟩ ?_ ?_; (case' refine'_1 => (intro i9 ys9 nw9 v9 I9 oI9 C9 oC9 D9 m9 h9 tk9 E9 hi9 hJ9 hP9 hC9 hx9 F9 N9 off9 ne9; obtain ⟨c9, u9, hc9, rfl⟩ := hP9; obtain ⟨rfl, hJ8⟩ := id hJ9; have hlc9 : (⟨#[c9]⟩ : Str).length = 1 := rfl)); (case' refine'_2 => (intro ys9 nw9 hJ9; obtain ⟨rfl, hJ8⟩ := id hJ9)))
    | (refine' comp_inv (SJ escM word _) ⟨rfl, .nil⟩ ?_ ?_; (case' refine'_1 => (intro i9 ys9 nw9 v9 I9 oI9 C9 oC9 D9 m9 h9 tk9 E9 hi9 hJ9 hP9 hC9 hx9 F9 N9 off9 ne9; obtain ⟨c9, u9, hc9, rfl⟩ := hP9; obtain ⟨rfl, hJ8⟩ := id hJ9; have hlc9 : (⟨#[c9]⟩ : Str).length = 1 := rfl)); (case' refine'_2 => (intro ys9 nw9 hJ9; obtain ⟨rfl, hJ8⟩ := id hJ9)))
  k_with "FinE" => (unfold LCg.FinE; intro D' h' tk' F' N' off')
  k_with "CompEnd" => exact LCg.CompEnd.intro (by assumption) (by assumption) _ (fun p hp => hp) (by assumption) trivial (by first | exact hJ9.next hc9 | exact hJ9.next' hc9 (if_pos (by assumption)) | exact hJ9.next' hc9 (if_neg (ne_true_of_eq_false (by assumption))))
  k_with "subscriptTail Name Name ref int" => (with_unfolding_all refine' item_pick3 ?k1 ?k2 hw ?_; (case k1 => k_asm); (case k2 => k_mem); intro t')
  k_with "M_JOIN" => ((first | refine join_text (by k_asm) (by k_mem) escM_len hJ9 hk ?_ | refine join_text (by k_asm) (by k_mem) needM_len hJ9 hk ?_); intro t' k' hl9; clear hJ9)
  k_steps
  rename News _ _ _ _ => hN
  exact hret _ _ _ _ (by assumption) (newsSub (news := nw9) hN fun q hq => by repeat (first | exact hq | apply List.Mem.tail)) ⟨⟨_, rfl⟩, rfl⟩

end Mine

namespace Mine
example : True := by
  k_with_none
  trivial
local macro_rules | `(tactic| walk_at "M_ENTER") => `(tactic| (refine' code_def ?k1 ?k2 ?k3 ?k4 ?k5 ?kA ?kF ?kK ?k6 ?k7 ?k8 ?k9 ?kB ?_ ?c2 ?c3 ?c4 ?c5; (case kA => exact rfl); (case kF => assumption); (case kK => assumption); (case k1 => k_asm); (case k2 => k_asm); (case k3 => k_asm); (case k4 => k_asm); (case k5 => k_asm); (case k6 => k_is); (case k7 => k_is); (case k8 => ktr_room); (case k9 => first | exact BindsTo.of_eq rfl | exact binds_K (by k_in) rfl (by k_is) rfl rfl rfl | (refine' kp_binds ?kx ?ke; (case kx => k_in); (case ke => exact fun _ => rfl))); (case c5 => decide); (case kB => exact locs rfl); (case c2 => exact rfl); (case c3 => exact rfl); (case c4 => exact rfl); k_whole; intro g' L' h' FG' F' N' B' X' T'; (try dsimp only); (try k_lift B'); (try k_fold)))
local macro_rules | `(tactic| walk_at "M_ENTERC") => `(tactic| (refine' code_defC ?k1 ?k2 ?k3 ?k4 ?k5 ?kA ?kF ?kK ?k6 ?k7 ?k8 ?k9 ?kB ?kD ?_ ?c2 ?c3 ?c4; (case kA => exact rfl); (case kF => assumption); (case kK => assumption); (case k1 => k_asm); (case k2 => k_asm); (case k3 => k_asm); (case k4 => k_asm); (case k5 => k_asm); (case k6 => k_is); (case k7 => k_is); (case k8 => ktr_room); (case k9 => first | exact BindsTo.of_eq rfl | exact binds_K (by k_in) rfl (by k_is) rfl rfl rfl | (refine' kp_binds ?kx ?ke; (case kx => k_in); (case ke => exact fun _ => rfl))); (case kB => exact rfl); (case kD => decide +kernel); (case c2 => exact rfl); (case c3 => exact rfl); (case c4 => exact rfl); k_whole; intro g' L' h' tk' cells' FG' F' N' Y' B' X' T' l1; (try k_lt l1); k_cells Y'; (try simp only [List.cons_append, List.nil_append] at N'); (try dsimp only); (try k_lift B'); (try k_fold)))
local macro_rules | `(tactic| walk_at "M_ENTERN") => `(tactic| (refine' code_nest ?k1 ?k2 ?k3 ?k4 ?k5 ?kA ?kF ?kK ?k6 ?k7 ?k8 ?k9 ?kB ?_ ?c2 ?c3 ?c4 ?c5; (case kA => exact rfl); (case kF => assumption); (case kK => assumption); (case k1 => k_asm); (case k2 => k_asm); (case k3 => k_asm); (case k4 => k_asm); (case k5 => k_asm); (case k6 => k_mem); (case k7 => exact codeRec_news (by k_asm) (by k_mem) (by assumption) (by assumption)); (case k8 => ktr_room); (case k9 => exact BindsTo.of_eq rfl); (case c5 => decide); (case kB => exact locs rfl); (case c2 => exact rfl); (case c3 => exact rfl); (case c4 => exact rfl); k_whole; intro g' L' h' FG' F' N' B' X' T'; (try dsimp only); (try k_lift B'); (try k_fold)))
local macro_rules | `(tactic| k_all) => `(tactic| first | assumption | exact allLt_ne (by assumption) (by omega))
local macro_rules | `(tactic| walk_at "M_SIDE") => `(tactic| ((case kB => k_asm); (case kF => k_asm); (case kX => k_asm); (case kN => k_asm); (case kT => k_asm); (case kc => assumption); (case kf => first | rfl | assumption); (case kk => first | rfl | assumption); (case kd => ktr_room); (case ku => ktr_units)))
local macro_rules | `(tactic| walk_at "M_SIDE2") => `(tactic| ((case kB => k_asm); (case kF => k_asm); (case kX => k_asm); (case kT => k_asm); (case kc => assumption); (case kf => first | rfl | assumption); (case kk => first | rfl | assumption); (case kd => ktr_room); (case ku => ktr_units)))
variable {w : World} {p : Program} {loose : List Str} {mean : ExcName → Option Value} {mg mb : Str → Option Value}
def flM (c : Nat) : UInt64 := if c = 10 then 0 else if c = 34 then 4602678819172646912 else 4607182418800017408
def signOk (c : Nat) : Bool := c == 10 || c == 34 || c == 92
def rankChk (key : Int) : Bool :=
  match (cardM key).cps.toList with
  | [a, b, c] => signOk a && signOk b && signOk c && (match rgbM (flM a) (flM b) (flM c) with
    | some (h, s, v) => Float64.isFinite (nearM h 12) && Float64.isFinite (nearM s 2) && Float64.isFinite (nearM v 2) &&
        (Flt.toInt Float64.truncOf (nearM h 12) == key.fdiv 9 * 2 ^ 20) && (Flt.toInt Float64.truncOf (nearM s 2) == (key.fdiv 3).fmod 3 * 2 ^ 20) && (Flt.toInt Float64.truncOf (nearM v 2) == key.fmod 3 * 2 ^ 20)
    | none => false)
  | _ => false
theorem rankChk_all : ∀ key ∈ rowM, rankChk key = true := by decide +kernel

end Mine

namespace Mine
local macro_rules | `(tactic| walk_at "M_SPARE0") => `(tactic| skip)
local macro_rules | `(tactic| walk_at "M_SPARE1") => `(tactic| skip)
local macro_rules | `(tactic| walk_at "M_SPARE2") => `(tactic| skip)
local macro_rules | `(tactic| walk_at "M_SPARE3") => `(tactic| skip)
local macro_rules | `(tactic| walk_at "M_SPARE4") => `(tactic| skip)
local macro_rules | `(tactic| walk_at "M_SPARE5") => `(tactic| skip)
local macro_rules | `(tactic| walk_at "M_SPARE6") => `(tactic| skip)
local macro_rules | `(tactic| walk_at "M_SPARE7") => `(tactic| skip)
local macro_rules | `(tactic| walk_at "M_SPARE8") => `(tactic| skip)
local macro_rules | `(tactic| walk_at "M_SPARE9") => `(tactic| skip)
local macro_rules | `(tactic| walk_at "M_SPARE10") => `(tactic| skip)
local macro_rules | `(tactic| walk_at "M_SPARE11") => `(tactic| skip)
local macro_rules | `(tactic| walk_at "M_SPARE12") => `(tactic| skip)
local macro_rules | `(tactic| walk_at "M_SPARE13") => `(tactic| skip)
local macro_rules | `(tactic| walk_at "M_SPARE14") => `(tactic| skip)
local macro_rules | `(tactic| walk_at "M_SPARE15") => `(tactic| skip)
local macro_rules | `(tactic| walk_at "M_SPARE16") => `(tactic| skip)
local macro_rules | `(tactic| walk_at "M_SPARE17") => `(tactic| skip)
local macro_rules | `(tactic| walk_at "M_SPARE18") => `(tactic| skip)
local macro_rules | `(tactic| walk_at "M_SPARE19") => `(tactic| skip)
local macro_rules | `(tactic| walk_at "M_SPARE20") => `(tactic| skip)
local macro_rules | `(tactic| walk_at "M_SPARE21") => `(tactic| skip)
local macro_rules | `(tactic| walk_at "M_SPARE22") => `(tactic| skip)
local macro_rules | `(tactic| walk_at "M_SPARE23") => `(tactic| skip)
local macro_rules | `(tactic| walk_at "M_SPARE24") => `(tactic| skip)
example : True := by
  k_with_none
  trivial
local macro_rules | `(tactic| walk_at "M_ENTER") => `(tactic| (refine' code_def ?k1 ?k2 ?k3 ?k4 ?k5 ?kA ?kF ?kK ?k6 ?k7 ?k8 ?k9 ?kB ?_ ?c2 ?c3 ?c4 ?c5; (case kA => exact rfl); (case kF => assumption); (case kK => assumption); (case k1 => k_asm); (case k2 => k_asm); (case k3 => k_asm); (case k4 => k_asm); (case k5 => k_asm); (case k6 => k_is); (case k7 => k_is); (case k8 => ktr_room); (case k9 => first | exact BindsTo.of_eq rfl | exact binds_K (by k_in) rfl (by k_is) rfl rfl rfl | (refine' kp_binds ?kx ?ke; (case kx => k_in); (case ke => exact fun _ => rfl))); (case c5 => decide); (case kB => exact locs rfl); (case c2 => exact rfl); (case c3 => exact rfl); (case c4 => exact rfl); k_whole; intro g' L' h' FG' F' N' B' X' T'; (try dsimp only); (try k_lift B'); (try k_fold)))
local macro_rules | `(tactic| walk_at "M_ENTERC") => `(tactic| (refine' code_defC ?k1 ?k2 ?k3 ?k4 ?k5 ?kA ?kF ?kK ?k6 ?k7 ?k8 ?k9 ?kB ?kD ?_ ?c2 ?c3 ?c4; (case kA => exact rfl); (case kF => assumption); (case kK => assumption); (case k1 => k_asm); (case k2 => k_asm); (case k3 => k_asm); (case k4 => k_asm); (case k5 => k_asm); (case k6 => k_is); (case k7 => k_is); (case k8 => ktr_room); (case k9 => first | exact BindsTo.of_eq rfl | exact binds_K (by k_in) rfl (by k_is) rfl rfl rfl | (refine' kp_binds ?kx ?ke; (case kx => k_in); (case ke => exact fun _ => rfl))); (case kB => exact rfl); (case kD => decide +kernel); (case c2 => exact rfl); (case c3 => exact rfl); (case c4 => exact rfl); k_whole; intro g' L' h' tk' cells' FG' F' N' Y' B' X' T' l1; (try k_lt l1); k_cells Y'; (try simp only [List.cons_append, List.nil_append] at N'); (try dsimp only); (try k_lift B'); (try k_fold)))
local macro_rules | `(tactic| walk_at "M_ENTERN") => `(tactic| (refine' code_nest ?k1 ?k2 ?k3 ?k4 ?k5 ?kA ?kF ?kK ?k6 ?k7 ?k8 ?k9 ?kB ?_ ?c2 ?c3 ?c4 ?c5; (case kA => exact rfl); (case kF => assumption); (case kK => assumption); (case k1 => k_asm); (case k2 => k_asm); (case k3 => k_asm); (case k4 => k_asm); (case k5 => k_asm); (case k6 => k_mem); (case k7 => exact codeRec_news (by k_asm) (by k_mem) (by assumption) (by assumption)); (case k8 => ktr_room); (case k9 => exact BindsTo.of_eq rfl); (case c5 => decide); (case kB => exact locs rfl); (case c2 => exact rfl); (case c3 => exact rfl); (case c4 => exact rfl); k_whole; intro g' L' h' FG' F' N' B' X' T'; (try dsimp only); (try k_lift B'); (try k_fold)))
local macro_rules | `(tactic| k_all) => `(tactic| first | assumption | exact allLt_ne (by assumption) (by omega))
local macro_rules | `(tactic| walk_at "M_SIDE") => `(tactic| ((case kB => k_asm); (case kF => k_asm); (case kX => k_asm); (case kN => k_asm); (case kT => k_asm); (case kc => assumption); (case kf => first | rfl | assumption); (case kk => first | rfl | assumption); (case kd => ktr_room); (case ku => ktr_units)))
local macro_rules | `(tactic| walk_at "M_SIDE2") => `(tactic| ((case kB => k_asm); (case kF => k_asm); (case kX => k_asm); (case kT => k_asm); (case kc => assumption); (case kf => first | rfl | assumption); (case kk => first | rfl | assumption); (case kd => ktr_room); (case ku => ktr_units)))
variable {w : World} {p : Program} {loose : List Str} {mean : ExcName → Option Value} {mg mb : Str → Option Value}
def FJ (word : Str) (n0 : Led) (i : Nat) (ys : List Value) (nw : Led) : Prop := nw = n0 ∧ ys.length = i ∧ ∀ j c, j < i → word.cps[j]? = some c → ∃ t, ys[j]? = some (.float (flM c) t)
theorem FJ.next {word : Str} {n0 nw : Led} {i c : Nat} {ys : List Value} {t : Tok} {x : UInt64} (h : FJ word n0 i ys nw) (hc : word.cps[i]? = some c) (e : flM c = x) : FJ word n0 (i + 1) (ys ++ [.float x t]) nw := by
  obtain ⟨h1, h2, h3⟩ := h
  refine ⟨h1, by simp [h2], fun j d hj hd => ?_⟩
  by_cases hji : j < i
  · obtain ⟨u, hu⟩ := h3 j d hji hd
    exact ⟨u, by rw [List.getElem?_append_left (by omega)]; exact hu⟩
  · have : j = i := by omega
    subst this
    rw [hc] at hd
    cases hd
    exact ⟨t, by rw [List.getElem?_append_right (by omega), h2]; simp [e]⟩
theorem FJ.three {word : Str} {n0 nw : Led} {ys : List Value} {a b c : Nat} (h : FJ word n0 3 ys nw) (hw : word.cps = #[a, b, c]) : ∃ t0 t1 t2, ys = [.float (flM a) t0, .float (flM b) t1, .float (flM c) t2] := by
  obtain ⟨_, h2, h3⟩ := h
  match ys, h2 with
  | [x, y, z], _ =>
    obtain ⟨t0, h0⟩ := h3 0 a (by omega) (by rw [hw]; rfl)
    obtain ⟨t1, h1⟩ := h3 1 b (by omega) (by rw [hw]; rfl)
    obtain ⟨t2, h2⟩ := h3 2 c (by omega) (by rw [hw]; rfl)
    simp at h0 h1 h2
    exact ⟨t0, t1, t2, by rw [h0, h1, h2]⟩
local macro_rules | `(tactic| walk_at "eval ListComp") => `(tactic| k_extra "M_COMP")
local macro_rules | `(tactic| walk_at "call ref") => `(tactic| k_extra "call ref")
theorem fl_ix : ∀ c ∈ [10, 34, 92], flM c = Float64.ofFrac (decide (Txt.find signs3 ⟨#[c]⟩ < 0) != decide ((2 : Int) < 0)) (Txt.find signs3 ⟨#[c]⟩).natAbs (Int.natAbs 2) := by decide +kernel
theorem find_ix : ∀ c ∈ [10, 34, 92], Txt.find signs3 ⟨#[c]⟩ ≠ -1 := by decide +kernel
theorem row_br : ∀ r : Fin 27, ∀ k : Fin 28, (∀ i : Fin 27, (i : Nat) < k → rowM.getD i 0 ≤ rowM.getD r 0 - 1) → (∀ i : Fin 27, (k : Nat) ≤ i → rowM.getD r 0 - 1 < rowM.getD i 0) → (k : Nat) = r := by decide +kernel
theorem rowM_len : rowM.length = 27 := rfl
theorem row_sorted : Sorted rowM := by rw [sorted_iff]; decide +kernel
theorem br_row {r k : Int} (hr : 0 ≤ r ∧ r < 27) (h : BR rowM (rowM.getD r.toNat 0 - 1) k k) : k = r := by
  obtain ⟨h0, _, h2, h3, h4⟩ := h
  rw [rowM_len] at h2 h4
  have e := row_br ⟨r.toNat, by omega⟩ ⟨k.toNat, by omega⟩ (fun i hi => h3 i (by have : (i : Nat) < k.toNat := hi; omega)) (fun i hi => h4 i (by have : k.toNat ≤ (i : Nat) := hi; omega) (by omega))
  have : k.toNat = r.toNat := e
  omega
def keyM (r : Int) : Int := rowM.getD r.toNat 0
theorem key_parts : ∀ key ∈ rowM, (9 * (key.fdiv 9 * 2 ^ 20) + 3 * ((key.fdiv 3).fmod 3 * 2 ^ 20) + key.fmod 3 * 2 ^ 20).fdiv (2 ^ Int.toNat 20) = key := by decide +kernel
theorem key_mem {r : Int} (hr : 0 ≤ r ∧ r < 27) : keyM r ∈ rowM := by
  unfold keyM
  rw [List.getD_eq_getElem?_getD, List.getElem?_eq_getElem (by rw [rowM_len]; omega), Option.getD_some]
  exact List.getElem_mem _
theorem row_cut {r : Int} (hr : 0 ≤ r ∧ r < 27) : List.take (min (r + 1).toNat rowM.length - r.toNat) (List.drop r.toNat rowM) = [keyM r] := by
  have key : ∀ r : Fin 27, List.take 1 (List.drop r rowM) = [rowM.getD r 0] := by decide +kernel
  have e := key ⟨r.toNat, by omega⟩
  have e2 : min (r + 1).toNat rowM.length - r.toNat = 1 := by rw [rowM_len]; omega
  rw [e2]
  exact e
local macro_rules | `(tactic| walk_at "eval Constant int") => `(tactic| (refine wpAny_Constant_int ?_; (try dsimp only)))
set_option maxHeartbeats 0 in
theorem rank_w {news : Led} {l : Addr} {vs : List Value} {n : Nat} {word : Str} {a b c : Nat} {h s v : UInt64} {r q0 q1 q2 : Int} {t : Tok} (hI : IntsAre vs rowM) (hr : 0 ≤ r ∧ r < 27) (hw : word.cps = #[a, b, c]) (hsg : ∀ (i : Nat) (c : Nat), word.cps[i]? = some c → c = 10 ∨ c = 34 ∨ c = 92) (hM : rgbM (flM a) (flM b) (flM c) = some (h, s, v))
    (hn1 : Float64.isFinite (nearM h 12) = true ∧ Flt.toInt Float64.truncOf (nearM h 12) = q0) (hn2 : Float64.isFinite (nearM s 2) = true ∧ Flt.toInt Float64.truncOf (nearM s 2) = q1) (hn3 : Float64.isFinite (nearM v 2) = true ∧ Flt.toInt Float64.truncOf (nearM v 2) = q2) (hq : (9 * q0 + 3 * q1 + q2).fdiv (2 ^ Int.toNat 20) = keyM r) (hz : q0 = (keyM r).fdiv 9 * 2 ^ Int.toNat 20 ∧ q1 = ((keyM r).fdiv 3).fmod 3 * 2 ^ Int.toNat 20 ∧ q2 = (keyM r).fmod 3 * 2 ^ Int.toNat 20) (hb0 : 0 ≤ q0 ∧ q0 ≤ 12582912) (hb1 : 0 ≤ q1 ∧ q1 ≤ 2097152) (hb2 : 0 ≤ q2 ∧ q2 ≤ 2097152) :
    Con w p loose mean mg mb (.ref 186) [.ref l, .str word t] [] 6 400 ((l, lstO vs n) :: news) (fun x n' => (∃ t, x = .int r t) ∧ n' = (l, lstO vs n) :: news) := by
  unfold Con; k_fill; intros; rename_i hret
  k_with_none
  k_dflt (walk_at "M_ENTER")
  k_with "M_COMP" => ((with_reducible show wpAny _ _ (eval (Expr.ListComp _ [⟨_, Expr.Name _ _, _, _⟩] _ _) _) _ _ _); k_dflt (refine' ListComp_S ?k1 (by with_unfolding_all rfl) (by decide) (by rfl) (by decide) (by rfl) ?_ ?k2; (case k1 => k_asm); (case k2 => (intro _; rfl)); k_whole))
  k_with "TextSrc" => (refine TextSrc.intro (by rfl) (by k_asm) (by k_asm) (by rw [hw]; exact (by decide : 3 ≤ sizeLine)) (fun g' => ?_))
  k_with "CompRest" => (refine' comp_inv (FJ word _) ⟨rfl, rfl, fun _ _ h => absurd h (Nat.not_lt_zero _)⟩ ?_ ?_; (case' refine'_2 => (intro ys9 nw9 hJ9; obtain ⟨rfl, hJ8⟩ := id hJ9; rw [hw] at hJ9; obtain ⟨u0, u1, u2, rfl⟩ := FJ.three hJ9 hw)); (case' refine'_1 => (intro i9 ys9 nw9 v9 I9 oI9 C9 oC9 D9 m9 h9 tk9 E9 hi9 hJ9 hP9 hC9 hx9 F9 N9 off9 ne9; obtain ⟨c9, u9, hc9, rfl⟩ := hP9; obtain ⟨rfl, hJ8⟩ := id hJ9; rcases hsg _ _ hc9 with rfl | rfl | rfl)))
  k_with "FinE" => (unfold LCg.FinE; intro D' h' tk' F' N' off')
  k_with "CompEnd" => first
    | exact LCg.CompEnd.intro (by assumption) (by assumption) _ (fun p hp => hp) (by assumption) trivial (hJ9.next hc9 (fl_ix _ (by decide)))
    | (refine LCg.CompEnd.intro (by assumption) (by assumption) _ (fun p hp => hp) (by with_unfolding_all assumption) (Or.inr ⟨_, by k_mem, rfl, _, rfl⟩) ?_; (try dsimp only))
  k_with "call ref" => first
    | ((with_reducible show wpAny _ _ (call (Value.ref 21) _ _) _ _ _); k_dflt (refine' Con.use (rgb_c hM) ?kB ?kF ?kX ?kN ?kT ?kc ?kf ?kk ?kd ?ku ?_; walk_at "M_SIDE"; k_whole); rintro r9 n9 h9 tk9 F9 N9 ⟨d9, v1, v2, v3, rfl, l9, rfl⟩; (try k_lt l9); (try dsimp only))
    | ((with_reducible show wpAny _ _ (call (Value.ref 181) [Value.float h _, _] _) _ _ _); k_dflt (refine' Con.use (near_c (x := h) (u := 12) (by decide) hn1.1 hn1.2) ?kB ?kF ?kX ?kN ?kT ?kc ?kf ?kk ?kd ?ku ?_; walk_at "M_SIDE"; k_whole); rintro r9 n9 h9 tk9 F9 N9 ⟨⟨t9, rfl⟩, rfl⟩; (try dsimp only))
    | ((with_reducible show wpAny _ _ (call (Value.ref 181) [Value.float s _, _] _) _ _ _); k_dflt (refine' Con.use (near_c (x := s) (u := 2) (by decide) hn2.1 hn2.2) ?kB ?kF ?kX ?kN ?kT ?kc ?kf ?kk ?kd ?ku ?_; walk_at "M_SIDE"; k_whole); rintro r9 n9 h9 tk9 F9 N9 ⟨⟨t9, rfl⟩, rfl⟩; (try dsimp only))
  k_steps
  iterate 3 (rename Txt.find _ _ = -1 => hf; exact absurd hf (find_ix _ (by decide)))
  ((with_reducible show wpAny _ _ (call (Value.ref 181) [Value.float v _, _] _) _ _ _); k_dflt (refine' Con.use (near_c (x := v) (u := 2) (by decide) hn3.1 hn3.2) ?kB ?kF ?kX ?kN ?kT ?kc ?kf ?kk ?kd ?ku ?_; walk_at "M_SIDE"; k_whole); rintro r9 n9 h9 tk9 F9 N9 ⟨⟨t9, rfl⟩, rfl⟩; (try dsimp only); clear hM hn1 hn2 hn3 hsg)
  k_with "call ref" => ((show wpAny _ _ (call (Value.ref 106) [Value.ref l, Value.int ((9 * q0 + 3 * q1 + q2).fdiv (2 ^ Int.toNat 20)) _] _) _ _ _); (rename Fr _ _ _ _ => FZ); rw [show (9 * [q0, q1, q2].getD (Int.toNat 0) 0 + 3 * [q0, q1, q2].getD (Int.toNat 1) 0 + [q0, q1, q2].getD (Int.toNat 2) 0).fdiv (2 ^ Int.toNat 20) = keyM r from hq] at FZ; rw [hq]; k_dflt (refine' Con.use (bisl_c hI (by rw [rowM_len]; decide) row_sorted) ?kB ?kF ?kX ?kN ?kT ?kc ?kf ?kk ?kd ?ku ?_; walk_at "M_SIDE2"; (case kN => exact newsSub (by k_asm) (List.forall_mem_cons.mpr ⟨by k_mem, fun q hq => by repeat (first | exact hq | apply List.Mem.tail)⟩)); k_whole); rintro r9 n9 h9 tk9 F9 N9 ⟨⟨k9, t9, rfl, hB9⟩, rfl⟩; (have hk9 := br_row hr hB9); subst hk9; (try dsimp only))
  k_steps
  · rename News _ _ _ _ => hN
    exact hret _ ((l, lstO vs n) :: news) _ _ (by assumption) (newsSub hN (List.forall_mem_cons.mpr ⟨by k_mem, fun q hq => by repeat (first | exact hq | apply List.Mem.tail)⟩)) ⟨⟨_, rfl⟩, rfl⟩
  · rename ¬ _ = _ => hne
    exact absurd (by rw [hz.1, hz.2.1, hz.2.2]) hne
  · rename ¬ _ = _ => hne
    exact absurd (row_cut hr) hne
theorem rankChk_get {r : Int} (hr : 0 ≤ r ∧ r < 27) : ∃ a b c h s v, (cardM (keyM r)).cps = #[a, b, c] ∧ (∀ (i : Nat) (x : Nat), (cardM (keyM r)).cps[i]? = some x → x = 10 ∨ x = 34 ∨ x = 92) ∧ rgbM (flM a) (flM b) (flM c) = some (h, s, v) ∧
    (Float64.isFinite (nearM h 12) = true ∧ Flt.toInt Float64.truncOf (nearM h 12) = (keyM r).fdiv 9 * 2 ^ 20) ∧ (Float64.isFinite (nearM s 2) = true ∧ Flt.toInt Float64.truncOf (nearM s 2) = ((keyM r).fdiv 3).fmod 3 * 2 ^ 20) ∧ (Float64.isFinite (nearM v 2) = true ∧ Flt.toInt Float64.truncOf (nearM v 2) = (keyM r).fmod 3 * 2 ^ 20) := by
  have h := rankChk_all (keyM r) (key_mem hr)
  unfold rankChk at h
  split at h
  case h_2 => cases h
  case h_1 a b c hw =>
    simp only [Bool.and_eq_true] at h
    obtain ⟨⟨⟨sa, sb⟩, sc⟩, h⟩ := h
    split at h
    case h_2 => cases h
    case h_1 x y z hM =>
      simp only [Bool.and_eq_true, beq_iff_eq] at h
      obtain ⟨⟨⟨⟨⟨f1, f2⟩, f3⟩, e1⟩, e2⟩, e3⟩ := h
      have hw' : (cardM (keyM r)).cps = #[a, b, c] := Array.toList_inj.mp hw
      refine ⟨a, b, c, x, y, z, hw', fun i u hu => ?_, hM, ⟨f1, e1⟩, ⟨f2, e2⟩, ⟨f3, e3⟩⟩
      have so : ∀ n, signOk n = true → n = 10 ∨ n = 34 ∨ n = 92 := fun n hn => by
        simp only [signOk, Bool.or_eq_true, beq_iff_eq] at hn
        omega
      rw [hw'] at hu
      match i, hu with
      | 0, hu => cases hu; exact so _ sa
      | 1, hu => cases hu; exact so _ sb
      | 2, hu => cases hu; exact so _ sc
      | n + 3, hu => simp at hu
theorem key_bounds : ∀ key ∈ rowM, (0 ≤ key.fdiv 9 * 2 ^ 20 ∧ key.fdiv 9 * 2 ^ 20 ≤ 12582912) ∧ (0 ≤ (key.fdiv 3).fmod 3 * 2 ^ 20 ∧ (key.fdiv 3).fmod 3 * 2 ^ 20 ≤ 2097152) ∧ (0 ≤ key.fmod 3 * 2 ^ 20 ∧ key.fmod 3 * 2 ^ 20 ≤ 2097152) := by decide +kernel
/-- the rank of a card's word -/
theorem rank_c {news : Led} {l : Addr} {vs : List Value} {n : Nat} {r : Int} {t : Tok} (hI : IntsAre vs rowM) (hr : 0 ≤ r ∧ r < 27) :
    Con w p loose mean mg mb (.ref 186) [.ref l, .str (cardM (keyM r)) t] [] 6 400 ((l, lstO vs n) :: news) (fun x n' => (∃ t, x = .int r t) ∧ n' = (l, lstO vs n) :: news) := by
  obtain ⟨a, b, c, h, s, v, hw, hsg, hM, h1, h2, h3⟩ := rankChk_get hr
  have hb := key_bounds _ (key_mem hr)
  exact rank_w hI hr hw hsg hM h1 h2 h3 (key_parts _ (key_mem hr)) ⟨rfl, rfl, rfl⟩ hb.1 hb.2.1 hb.2.2

end Mine

namespace Mine
example : True := by
  k_with_none
  trivial
local macro_rules | `(tactic| walk_at "M_ENTER") => `(tactic| (refine' code_def ?k1 ?k2 ?k3 ?k4 ?k5 ?kA ?kF ?kK ?k6 ?k7 ?k8 ?k9 ?kB ?_ ?c2 ?c3 ?c4 ?c5; (case kA => exact rfl); (case kF => assumption); (case kK => assumption); (case k1 => k_asm); (case k2 => k_asm); (case k3 => k_asm); (case k4 => k_asm); (case k5 => k_asm); (case k6 => k_is); (case k7 => k_is); (case k8 => ktr_room); (case k9 => first | exact BindsTo.of_eq rfl | exact binds_K (by k_in) rfl (by k_is) rfl rfl rfl | (refine' kp_binds ?kx ?ke; (case kx => k_in); (case ke => exact fun _ => rfl))); (case c5 => decide); (case kB => exact locs rfl); (case c2 => exact rfl); (case c3 => exact rfl); (case c4 => exact rfl); k_whole; intro g' L' h' FG' F' N' B' X' T'; (try dsimp only); (try k_lift B'); (try k_fold)))
local macro_rules | `(tactic| walk_at "M_ENTERC") => `(tactic| (refine' code_defC ?k1 ?k2 ?k3 ?k4 ?k5 ?kA ?kF ?kK ?k6 ?k7 ?k8 ?k9 ?kB ?kD ?_ ?c2 ?c3 ?c4; (case kA => exact rfl); (case kF => assumption); (case kK => assumption); (case k1 => k_asm); (case k2 => k_asm); (case k3 => k_asm); (case k4 => k_asm); (case k5 => k_asm); (case k6 => k_is); (case k7 => k_is); (case k8 => ktr_room); (case k9 => first | exact BindsTo.of_eq rfl | exact binds_K (by k_in) rfl (by k_is) rfl rfl rfl | (refine' kp_binds ?kx ?ke; (case kx => k_in); (case ke => exact fun _ => rfl))); (case kB => exact rfl); (case kD => decide +kernel); (case c2 => exact rfl); (case c3 => exact rfl); (case c4 => exact rfl); k_whole; intro g' L' h' tk' cells' FG' F' N' Y' B' X' T' l1; (try k_lt l1); k_cells Y'; (try simp only [List.cons_append, List.nil_append] at N'); (try dsimp only); (try k_lift B'); (try k_fold)))
local macro_rules | `(tactic| walk_at "M_ENTERN") => `(tactic| (refine' code_nest ?k1 ?k2 ?k3 ?k4 ?k5 ?kA ?kF ?kK ?k6 ?k7 ?k8 ?k9 ?kB ?_ ?c2 ?c3 ?c4 ?c5; (case kA => exact rfl); (case kF => assumption); (case kK => assumption); (case k1 => k_asm); (case k2 => k_asm); (case k3 => k_asm); (case k4 => k_asm); (case k5 => k_asm); (case k6 => k_mem); (case k7 => exact codeRec_news (by k_asm) (by k_mem) (by assumption) (by assumption)); (case k8 => ktr_room); (case k9 => exact BindsTo.of_eq rfl); (case c5 => decide); (case kB => exact locs rfl); (case c2 => exact rfl); (case c3 => exact rfl); (case c4 => exact rfl); k_whole; intro g' L' h' FG' F' N' B' X' T'; (try dsimp only); (try k_lift B'); (try k_fold)))
local macro_rules | `(tactic| k_all) => `(tactic| first | assumption | exact allLt_ne (by assumption) (by omega))
local macro_rules | `(tactic| walk_at "M_SIDE") => `(tactic| ((case kB => k_asm); (case kF => k_asm); (case kX => k_asm); (case kN => k_asm); (case kT => k_asm); (case kc => assumption); (case kf => first | rfl | assumption); (case kk => first | rfl | assumption); (case kd => ktr_room); (case ku => ktr_units)))
local macro_rules | `(tactic| walk_at "M_SIDE2") => `(tactic| ((case kB => k_asm); (case kF => k_asm); (case kX => k_asm); (case kT => k_asm); (case kc => assumption); (case kf => first | rfl | assumption); (case kk => first | rfl | assumption); (case kd => ktr_room); (case ku => ktr_units)))
local macro_rules | `(tactic| walk_at "eval Constant int") => `(tactic| (refine wpAny_Constant_int ?_; (try dsimp only)))
variable {w : World} {p : Program} {loose : List Str} {mean : ExcName → Option Value} {mg mb : Str → Option Value}
/-- a comprehension's text items, turn by turn -/
def MapJ {α : Type} (f : α → Str) (l : List α) (n0 : Led) (i : Nat) (ys : List Value) (nw : Led) : Prop := nw = n0 ∧ StrsAre ys ((l.take i).map f)
theorem MapJ.next {α : Type} {f : α → Str} {l : List α} {n0 nw : Led} {i : Nat} {ys : List Value} {a : α} {t : Tok} (h : MapJ f l n0 i ys nw) (ha : l[i]? = some a) : MapJ f l n0 (i + 1) (ys ++ [.str (f a) t]) nw := by
  refine ⟨h.1, ?_⟩
  rw [List.take_add_one, ha, List.map_append]
  exact kct_snoc h.2
/-- the same of ints -/
def MapI {α : Type} (f : α → Int) (l : List α) (n0 : Led) (i : Nat) (ys : List Value) (nw : Led) : Prop := nw = n0 ∧ IntsAre ys ((l.take i).map f)
theorem MapI.next {α : Type} {f : α → Int} {l : List α} {n0 nw : Led} {i : Nat} {ys : List Value} {a : α} {t : Tok} (h : MapI f l n0 i ys nw) (ha : l[i]? = some a) : MapI f l n0 (i + 1) (ys ++ [.int (f a) t]) nw := by
  refine ⟨h.1, ?_⟩
  rw [List.take_add_one, ha, List.map_append]
  exact ints_snoc h.2 _ _
theorem strs4 {vs : List Value} {a b c d : Str} (h : StrsAre vs [a, b, c, d]) : ∃ ta tb tc td, vs = [.str a ta, .str b tb, .str c tc, .str d td] := by
  obtain ⟨ta, v1, rfl, h1⟩ := h.cons_inv
  obtain ⟨tb, v2, rfl, h2⟩ := h1.cons_inv
  obtain ⟨tc, v3, rfl, h3⟩ := h2.cons_inv
  obtain ⟨td, v4, rfl, h4⟩ := h3.cons_inv
  rw [h4.nil_inv]
  exact ⟨ta, tb, tc, td, rfl⟩
theorem ranks_at {a b c d : Int} (h : 0 ≤ d ∧ d < c ∧ c < b ∧ b < a ∧ a < 27) {i : Nat} {z : Int} (hz : [a, b, c, d][i]? = some z) : 0 ≤ z ∧ z < 27 := by
  have := List.mem_of_getElem? hz
  simp only [List.mem_cons, List.not_mem_nil, or_false] at this
  omega
/-- a card's word by its rank -/
abbrev cardR (r : Int) : Str := cardM (keyM r)
theorem card_signs {r : Int} (hr : 0 ≤ r ∧ r < 27) : (cardR r).cps.toList.length = 3 ∧ ∀ c ∈ (cardR r).cps.toList, c = 10 ∨ c = 34 ∨ c = 92 := by
  obtain ⟨a, b, c, h, s, v, hw, hsg, _⟩ := rankChk_get hr
  refine ⟨by unfold cardR; rw [hw]; rfl, fun x hx => ?_⟩
  obtain ⟨i, hi⟩ := List.getElem?_of_mem hx
  exact hsg i x (by rw [← Array.getElem?_toList]; exact hi)
theorem card_len {r : Int} (hr : 0 ≤ r ∧ r < 27) : (cardR r).length = 3 := (card_signs hr).1
theorem arr_at {l : List Value} {i : Nat} {v : Value} (h : l.toArray[i]? = some v) : l[i]? = some v := by rw [← List.getElem?_toArray]; exact h
/-- two addresses that differ, kept out of the arithmetic -/
structure Apart (a b : Nat) : Prop where
  ne : @Ne Nat a b
theorem off1_mem {D : Addr} {l : Led} (h : LCg.Off1 D l) : ∀ p ∈ l, p.1 ≠ D := by
  induction l with
  | nil => exact fun p hp => nomatch hp
  | cons q r ih => exact List.forall_mem_cons.mpr ⟨h.1, ih h.2⟩
theorem Apart.of1 {D a : Addr} {o : Obj} {l : Led} (h : LCg.Off1 D l) (hm : (a, o) ∈ l) : Apart D a := ⟨fun e => off1_mem h _ hm e.symm⟩
theorem item_strs {prog : Program} {A : Around} {E : Value → Shared → Prop} {s : Shared} {h₀ : Heap} {L l : Addr} {vs : List Value} {ss : List Str} {y : Str} {n : Nat} {k : Int} {u : Tok} {led : Led} {value slice : Expr} {Q : Value → Shared → Prop}
    (N : News h₀ L s.heap led) (hm : (l, lstO vs n) ∈ led) (hi : StrsAre vs ss) (h0 : 0 ≤ k) (h1 : k < 2 ^ 20) (hx : ss[k.toNat]? = some y) (h : ∀ t, Q (.str y t) s)
    (hs : subscripted slice false (.ref l) (.int k u) = operate [.ref l, .int k u] (getItem (.ref l) (.int k u)) := by with_unfolding_all rfl) :
    wpAny (model prog w) A (subscriptTail value slice (.ref l) (.int k u)) Q E s := by
  obtain ⟨t, ht⟩ := hi.get _ _ hx
  have hl := isList_of N hm
  exact tail_any hl.typeIs slot_list_getitem.lookup (wpAny_getItem_list hl h0 (by omega) (by simpa using ht) (h t)) hs
/-- how a word's way is told -/
def wayOf (wr k : Int) : Int := (wr.fdiv (3 ^ k.toNat)).fmod 3
theorem wayOf_ok (wr k : Int) : 0 ≤ wayOf wr k ∧ wayOf wr k < 3 := ⟨Int.fmod_nonneg_of_pos _ (by decide), Int.fmod_lt_of_pos _ (by decide)⟩
def textL (wr : Int) (a b c d : Str) : List (Str × Int) := [(a, wayOf wr 0), (b, wayOf wr 1), (c, wayOf wr 2), (d, wayOf wr 3)]
theorem textL_at {wr : Int} {a b c d : Str} {i : Nat} (h : i < 4) : ∃ y, [a, b, c, d][i]? = some y ∧ (textL wr a b c d)[i]? = some (y, wayOf wr (i : Int)) ∧ (y = a ∨ y = b ∨ y = c ∨ y = d) := by
  match i, h with
  | 0, _ => exact ⟨a, rfl, rfl, .inl rfl⟩
  | 1, _ => exact ⟨b, rfl, rfl, .inr (.inl rfl)⟩
  | 2, _ => exact ⟨c, rfl, rfl, .inr (.inr (.inl rfl))⟩
  | 3, _ => exact ⟨d, rfl, rfl, .inr (.inr (.inr rfl))⟩
theorem pow3_ok {i : Nat} (h : i < 4) : (3 : Int) ^ (i : Int).toNat ≠ 0 ∧ ((3 : Int) ^ (i : Int).toNat).natAbs < 1073741824 := by
  match i, h with
  | 0, _ => exact ⟨by decide, by decide⟩
  | 1, _ => exact ⟨by decide, by decide⟩
  | 2, _ => exact ⟨by decide, by decide⟩
  | 3, _ => exact ⟨by decide, by decide⟩

end Mine

namespace Mine
local macro_rules | `(tactic| walk_at "M_SPARE0") => `(tactic| skip)
local macro_rules | `(tactic| walk_at "M_SPARE1") => `(tactic| skip)
local macro_rules | `(tactic| walk_at "M_SPARE2") => `(tactic| skip)
local macro_rules | `(tactic| walk_at "M_SPARE3") => `(tactic| skip)
local macro_rules | `(tactic| walk_at "M_SPARE4") => `(tactic| skip)
local macro_rules | `(tactic| walk_at "M_SPARE5") => `(tactic| skip)
local macro_rules | `(tactic| walk_at "M_SPARE6") => `(tactic| skip)
local macro_rules | `(tactic| walk_at "M_SPARE7") => `(tactic| skip)
local macro_rules | `(tactic| walk_at "M_SPARE8") => `(tactic| skip)
local macro_rules | `(tactic| walk_at "M_SPARE9") => `(tactic| skip)
local macro_rules | `(tactic| walk_at "M_SPARE10") => `(tactic| skip)
local macro_rules | `(tactic| walk_at "M_SPARE11") => `(tactic| skip)
local macro_rules | `(tactic| walk_at "M_SPARE12") => `(tactic| skip)
local macro_rules | `(tactic| walk_at "M_SPARE13") => `(tactic| skip)
local macro_rules | `(tactic| walk_at "M_SPARE14") => `(tactic| skip)
local macro_rules | `(tactic| walk_at "M_SPARE15") => `(tactic| skip)
local macro_rules | `(tactic| walk_at "M_SPARE16") => `(tactic| skip)
local macro_rules | `(tactic| walk_at "M_SPARE17") => `(tactic| skip)
local macro_rules | `(tactic| walk_at "M_SPARE18") => `(tactic| skip)
local macro_rules | `(tactic| walk_at "M_SPARE19") => `(tactic| skip)
local macro_rules | `(tactic| walk_at "M_SPARE20") => `(tactic| skip)
local macro_rules | `(tactic| walk_at "M_SPARE21") => `(tactic| skip)
local macro_rules | `(tactic| walk_at "M_SPARE22") => `(tactic| skip)
local macro_rules | `(tactic| walk_at "M_SPARE23") => `(tactic| skip)
local macro_rules | `(tactic| walk_at "M_SPARE24") => `(tactic| skip)
example : True := by
  k_with_none
  trivial
local macro_rules | `(tactic| walk_at "M_ENTER") => `(tactic| (refine' code_def ?k1 ?k2 ?k3 ?k4 ?k5 ?kA ?kF ?kK ?k6 ?k7 ?k8 ?k9 ?kB ?_ ?c2 ?c3 ?c4 ?c5; (case kA => exact rfl); (case kF => assumption); (case kK => assumption); (case k1 => k_asm); (case k2 => k_asm); (case k3 => k_asm); (case k4 => k_asm); (case k5 => k_asm); (case k6 => k_is); (case k7 => k_is); (case k8 => ktr_room); (case k9 => first | exact BindsTo.of_eq rfl | exact binds_K (by k_in) rfl (by k_is) rfl rfl rfl | (refine' kp_binds ?kx ?ke; (case kx => k_in); (case ke => exact fun _ => rfl))); (case c5 => decide); (case kB => exact locs rfl); (case c2 => exact rfl); (case c3 => exact rfl); (case c4 => exact rfl); k_whole; intro g' L' h' FG' F' N' B' X' T'; (try dsimp only); (try k_lift B'); (try k_fold)))
local macro_rules | `(tactic| walk_at "M_ENTERC") => `(tactic| (refine' code_defC ?k1 ?k2 ?k3 ?k4 ?k5 ?kA ?kF ?kK ?k6 ?k7 ?k8 ?k9 ?kB ?kD ?_ ?c2 ?c3 ?c4; (case kA => exact rfl); (case kF => assumption); (case kK => assumption); (case k1 => k_asm); (case k2 => k_asm); (case k3 => k_asm); (case k4 => k_asm); (case k5 => k_asm); (case k6 => k_is); (case k7 => k_is); (case k8 => ktr_room); (case k9 => first | exact BindsTo.of_eq rfl | exact binds_K (by k_in) rfl (by k_is) rfl rfl rfl | (refine' kp_binds ?kx ?ke; (case kx => k_in); (case ke => exact fun _ => rfl))); (case kB => exact rfl); (case kD => decide +kernel); (case c2 => exact rfl); (case c3 => exact rfl); (case c4 => exact rfl); k_whole; intro g' L' h' tk' cells' FG' F' N' Y' B' X' T' l1; (try k_lt l1); k_cells Y'; (try simp only [List.cons_append, List.nil_append] at N'); (try dsimp only); (try k_lift B'); (try k_fold)))
local macro_rules | `(tactic| walk_at "M_ENTERN") => `(tactic| (refine' code_nest ?k1 ?k2 ?k3 ?k4 ?k5 ?kA ?kF ?kK ?k6 ?k7 ?k8 ?k9 ?kB ?_ ?c2 ?c3 ?c4 ?c5; (case kA => exact rfl); (case kF => assumption); (case kK => assumption); (case k1 => k_asm); (case k2 => k_asm); (case k3 => k_asm); (case k4 => k_asm); (case k5 => k_asm); (case k6 => k_mem); (case k7 => exact codeRec_news (by k_asm) (by k_mem) (by assumption) (by assumption)); (case k8 => ktr_room); (case k9 => exact BindsTo.of_eq rfl); (case c5 => decide); (case kB => exact locs rfl); (case c2 => exact rfl); (case c3 => exact rfl); (case c4 => exact rfl); k_whole; intro g' L' h' FG' F' N' B' X' T'; (try dsimp only); (try k_lift B'); (try k_fold)))
local macro_rules | `(tactic| k_all) => `(tactic| first | assumption | exact allLt_ne (by assumption) (by omega))
local macro_rules | `(tactic| walk_at "M_SIDE") => `(tactic| ((case kB => k_asm); (case kF => k_asm); (case kX => k_asm); (case kN => k_asm); (case kT => k_asm); (case kc => assumption); (case kf => first | rfl | assumption); (case kk => first | rfl | assumption); (case kd => ktr_room); (case ku => ktr_units)))
local macro_rules | `(tactic| walk_at "M_SIDE2") => `(tactic| ((case kB => k_asm); (case kF => k_asm); (case kX => k_asm); (case kT => k_asm); (case kc => assumption); (case kf => first | rfl | assumption); (case kk => first | rfl | assumption); (case kd => ktr_room); (case ku => ktr_units)))
local macro_rules | `(tactic| walk_at "eval Constant int") => `(tactic| (refine wpAny_Constant_int ?_; (try dsimp only)))
variable {w : World} {p : Program} {loose : List Str} {mean : ExcName → Option Value} {mg mb : Str → Option Value}
def needL (c : Nat) : List Nat := if c = 10 then [10] else [92, c]
def escL (c : Nat) : List Nat := [92, c]
/-- the signs of a written word -/
def writL (ws : List Nat) (way : Int) : List Nat :=
  if way = 0 then 34 :: (ws.flatMap needL ++ [34]) else if way = 1 then ws.flatMap escL ++ [9] else 34 :: (ws.flatMap escL ++ [34, 13])
theorem cps_app (a b : Str) : (a ++ b).cps.toList = a.cps.toList ++ b.cps.toList := by rw [Str.cps_append, Array.toList_append]
theorem join_cps (ss : List Str) : (Txt.join (Str.ofString "") ss).cps.toList = ss.flatMap fun s => s.cps.toList := by
  have e : Txt.join (Str.ofString "") ss = Str.join (Str.ofString "") ss := StrLaws.glued_eq_join ..
  rw [e]
  clear e
  induction ss with
  | nil => rfl
  | cons x r ih =>
    cases r with
    | nil => simp [Str.join]
    | cons y r =>
      show (x ++ Str.ofString "" ++ Str.join (Str.ofString "") (y :: r)).cps.toList = _
      rw [cps_app, cps_app, ih]
      have h0 : (Str.ofString "").cps.toList = [] := rfl
      rw [h0]
      simp
theorem flat_need (l : List Nat) : (l.map needM).flatMap (fun s => s.cps.toList) = l.flatMap needL := by
  induction l with
  | nil => rfl
  | cons c l ih =>
    rw [List.map_cons, List.flatMap_cons, List.flatMap_cons, ih]
    congr 1
    unfold needM needL
    by_cases h : c = 10
    · subst h; rfl
    · rw [if_neg h, if_neg]
      · rfl
      · intro h2
        have h3 : (⟨#[c]⟩ : Str) = Str.ofString "\n" := eq_of_beq h2
        exact h (oneS_inj (c := c) (d := 10) h3)
theorem flat_esc (l : List Nat) : (l.map escM).flatMap (fun s => s.cps.toList) = l.flatMap escL := by
  induction l with
  | nil => rfl
  | cons c l ih =>
    rw [List.map_cons, List.flatMap_cons, List.flatMap_cons, ih]
    rfl
theorem written_signs (word : Str) (way : Int) : (writtenM word way).cps.toList = writL word.cps.toList way := by
  unfold writtenM writL
  dsimp only
  by_cases h0 : way = 0
  · rw [if_pos h0, if_pos h0, cps_app, cps_app, join_cps, flat_need]; rfl
  · rw [if_neg h0, if_neg h0]
    by_cases h1 : way = 1
    · rw [if_pos h1, if_pos h1, cps_app, join_cps, flat_esc]; rfl
    · rw [if_neg h1, if_neg h1, cps_app, cps_app, join_cps, flat_esc]; rfl
theorem nlC_is (c : Nat) : nlC c = if c = 10 then 1 else 0 := by
  unfold nlC nlS
  by_cases h : c = 10
  · subst h; rfl
  · rw [if_neg h, if_neg]
    intro h2
    have h3 : oneS c = oneS 10 := eq_of_beq h2
    exact h (oneS_inj h3)
theorem cps_one (t : Str) (c : Nat) : (t ++ oneS c).cps.toList = t.cps.toList ++ [c] := by rw [cps_app]
theorem str_ext {a b : Str} (h : a.cps.toList = b.cps.toList) : a = b := by
  cases a; cases b
  exact congrArg _ (Array.toList_inj.mp h)
theorem quot_need : ∀ (ws : List Nat) (r : List Nat) (t word : Str) (n : Int), word.cps.toList = t.cps.toList ++ ws → quotM (ws.flatMap needL ++ 34 :: r) t n = (word, r, n + cnt 10 ws)
  | [], r, t, word, n, h => by
    rw [List.append_nil] at h
    rw [str_ext h]
    show quotM (34 :: r) t n = _
    rw [quotM_end rfl, nlC_is, cnt_nil]; rfl
  | c :: ws, r, t, word, n, h => by
    have ih := quot_need ws r (t ++ oneS c) word (n + nlC c) (by rw [h, cps_one, List.append_assoc]; rfl)
    rw [List.flatMap_cons, List.append_assoc, cnt_cons]
    by_cases hc : c = 10
    · have e : needL c = [c] := by unfold needL; rw [if_pos hc, hc]
      rw [e]
      show quotM (c :: (ws.flatMap needL ++ 34 :: r)) t n = _
      rw [quotM_one (by omega) (by omega), ih, nlC_is, if_pos hc, Int.add_assoc]
    · have e : needL c = [92, c] := by unfold needL; rw [if_neg hc]
      rw [e]
      show quotM (92 :: (c :: (ws.flatMap needL ++ 34 :: r))) t n = _
      rw [quotM_esc rfl]
      show quotM (ws.flatMap needL ++ 34 :: r) (t ++ oneS c) (n + nlC 92 + nlC c) = _
      have e2 : n + nlC 92 + nlC c = n + nlC c := by rw [nlC_is 92]; simp
      rw [e2, ih, nlC_is, if_neg hc, Int.add_zero, Int.zero_add]
theorem quot_esc : ∀ (ws : List Nat) (r : List Nat) (t word : Str) (n : Int), word.cps.toList = t.cps.toList ++ ws → quotM (ws.flatMap escL ++ 34 :: r) t n = (word, r, n + cnt 10 ws)
  | [], r, t, word, n, h => by
    rw [List.append_nil] at h
    rw [str_ext h]
    show quotM (34 :: r) t n = _
    rw [quotM_end rfl, nlC_is, cnt_nil]; rfl
  | c :: ws, r, t, word, n, h => by
    have ih := quot_esc ws r (t ++ oneS c) word (n + nlC c) (by rw [h, cps_one, List.append_assoc]; rfl)
    rw [List.flatMap_cons, List.append_assoc, cnt_cons]
    show quotM (92 :: (c :: (ws.flatMap escL ++ 34 :: r))) t n = _
    rw [quotM_esc rfl]
    show quotM (ws.flatMap escL ++ 34 :: r) (t ++ oneS c) (n + nlC 92 + nlC c) = _
    have e2 : n + nlC 92 + nlC c = n + nlC c := by rw [nlC_is 92]; simp
    rw [e2, ih, nlC_is, Int.add_assoc]
theorem bare_esc : ∀ (ws : List Nat) (r : List Nat) (t word : Str) (n : Int), word.cps.toList = t.cps.toList ++ ws → bareM (ws.flatMap escL ++ 9 :: r) t n = (word, r, n + cnt 10 ws)
  | [], r, t, word, n, h => by
    rw [List.append_nil] at h
    rw [str_ext h]
    show bareM (9 :: r) t n = _
    rw [bareM_end rfl, nlC_is, cnt_nil]; rfl
  | c :: ws, r, t, word, n, h => by
    have ih := bare_esc ws r (t ++ oneS c) word (n + nlC c) (by rw [h, cps_one, List.append_assoc]; rfl)
    rw [List.flatMap_cons, List.append_assoc, cnt_cons]
    show bareM (92 :: (c :: (ws.flatMap escL ++ 9 :: r))) t n = _
    rw [bareM_esc rfl]
    show bareM (ws.flatMap escL ++ 9 :: r) (t ++ oneS c) (n + nlC 92 + nlC c) = _
    have e2 : n + nlC 92 + nlC c = n + nlC c := by rw [nlC_is 92]; simp
    rw [e2, ih, nlC_is, Int.add_assoc]
/-- what stands ahead of the next word -/
def crL (way : Int) : List Nat := if way = 0 ∨ way = 1 then [] else [13]
theorem tok_cr (way : Int) (r : List Nat) (n : Int) : tokM (crL way ++ r) n = tokM r n := by
  unfold crL
  split
  · rfl
  · show tokM (13 :: r) n = _
    rw [tokM, if_pos (by decide), nlC_is]
    simp
theorem tok_written {ws : List Nat} (hw : ws ≠ []) (w0 way : Int) (r : List Nat) (word : Str) (n : Int) (h : word.cps.toList = ws) : tokM (crL w0 ++ (writL ws way ++ r)) n = (word, crL way ++ r, n + cnt 10 ws) := by
  rw [tok_cr]
  have e0 : (Str.ofString "").cps.toList = [] := rfl
  have e34 : ∀ m : Int, m + nlC 34 = m := fun m => by rw [nlC_is]; simp
  unfold writL crL
  by_cases h0 : way = 0
  · rw [if_pos h0, if_pos (Or.inl h0)]
    show tokM (34 :: (ws.flatMap needL ++ [34] ++ r)) n = _
    rw [tokM, if_neg (by decide), if_pos rfl, List.append_assoc]
    show quotM (ws.flatMap needL ++ 34 :: r) _ _ = _
    rw [quot_need ws r _ word _ (by rw [e0, h]; rfl), e34]; rfl
  · rw [if_neg h0]
    by_cases h1 : way = 1
    · rw [if_pos h1, if_pos (Or.inr h1)]
      obtain ⟨c, l, rfl⟩ := List.exists_cons_of_ne_nil hw
      show tokM (92 :: (c :: (l.flatMap escL ++ [9])) ++ r) n = _
      show tokM (92 :: (c :: (l.flatMap escL ++ [9] ++ r))) n = _
      rw [tokM, if_neg (by decide), if_neg (by decide), if_pos rfl, List.append_assoc]
      show bareM (l.flatMap escL ++ 9 :: r) (Str.ofString "" ++ oneS c) (n + nlC 92 + nlC c) = _
      have e2 : n + nlC 92 + nlC c = n + nlC c := by rw [nlC_is 92]; simp
      rw [bare_esc l r _ word _ (by rw [cps_one, e0, h]; rfl), e2, cnt_cons, nlC_is, Int.add_assoc]; rfl
    · rw [if_neg h1, if_neg (by omega)]
      show tokM (34 :: (ws.flatMap escL ++ [34, 13] ++ r)) n = _
      rw [tokM, if_neg (by decide), if_pos rfl, List.append_assoc]
      show quotM (ws.flatMap escL ++ 34 :: (13 :: r)) _ _ = _
      rw [quot_esc ws (13 :: r) _ word _ (by rw [e0, h]; rfl), e34]; rfl
theorem tok_end (w0 : Int) (n : Int) : tokM (crL w0 ++ [101, 110, 100]) n = (Str.ofString "end", [], n) := by
  rw [tok_cr, tokM, if_neg (by decide), if_neg (by decide), if_neg (by decide)]
  have e : ∀ m : Int, m + nlC 101 = m := fun m => by rw [nlC_is]; simp
  have e2 : ∀ m : Int, m + nlC 110 = m := fun m => by rw [nlC_is]; simp
  have e3 : ∀ m : Int, m + nlC 100 = m := fun m => by rw [nlC_is]; simp
  rw [bareM_one (by decide) (by decide), bareM_one (by decide) (by decide), e, e2, e3]
  rfl
/-- what is left to hear -/
def tailM : List (List Nat × Int) → List Nat
  | [] => [101, 110, 100]
  | q :: l => writL q.1 q.2 ++ tailM l
def Signs3 (ws : List Nat) : Prop := ws.length = 3 ∧ ∀ c ∈ ws, c = 10 ∨ c = 34 ∨ c = 92
theorem flat_len {f : Nat → List Nat} (hf : ∀ c, (f c).length ≤ 2) : ∀ l : List Nat, (l.flatMap f).length ≤ 2 * l.length
  | [] => by simp
  | c :: l => by
    have h1 := hf c
    have h2 := flat_len hf l
    rw [List.flatMap_cons, List.length_append, List.length_cons]
    omega
theorem needL_len (c : Nat) : (needL c).length ≤ 2 := by unfold needL; split <;> simp
theorem escL_len (c : Nat) : (escL c).length ≤ 2 := by simp [escL]
theorem writ_len (ws : List Nat) (way : Int) (h : Signs3 ws) : (writL ws way).length ≤ 9 := by
  have h1 := flat_len needL_len ws
  have h2 := flat_len escL_len ws
  rw [h.1] at h1 h2
  unfold writL
  split
  · simp only [List.length_cons, List.length_append, List.length_nil]; omega
  · split
    · simp only [List.length_cons, List.length_append, List.length_nil]; omega
    · simp only [List.length_cons, List.length_append, List.length_nil]; omega
theorem tail_len : ∀ (l : List (List Nat × Int)), (∀ q ∈ l, Signs3 q.1) → (tailM l).length ≤ 9 * l.length + 3
  | [], _ => by decide
  | q :: l, h => by
    have h1 := writ_len q.1 q.2 (h q (.head _))
    have h2 := tail_len l fun x hx => h x (.tail _ hx)
    show (writL q.1 q.2 ++ tailM l).length ≤ _
    rw [List.length_append, List.length_cons]
    omega
theorem writ_abc (ws : List Nat) (way : Int) (h : Signs3 ws) : ∀ c ∈ writL ws way, c ∈ ABC := by
  have hs : ∀ c ∈ ws, c ∈ ABC := fun c hc => by rcases h.2 c hc with rfl | rfl | rfl <;> decide
  have h1 : ∀ c ∈ ws.flatMap needL, c ∈ ABC := fun c hc => by
    obtain ⟨d, hd, hc⟩ := List.mem_flatMap.mp hc
    unfold needL at hc
    split at hc
    · rw [List.mem_singleton.mp hc]; decide
    · simp only [List.mem_cons, List.not_mem_nil, or_false] at hc
      rcases hc with rfl | rfl
      · decide
      · exact hs _ hd
  have h2 : ∀ c ∈ ws.flatMap escL, c ∈ ABC := fun c hc => by
    obtain ⟨d, hd, hc⟩ := List.mem_flatMap.mp hc
    simp only [escL, List.mem_cons, List.not_mem_nil, or_false] at hc
    rcases hc with rfl | rfl
    · decide
    · exact hs _ hd
  intro c hc
  unfold writL at hc
  split at hc
  · simp only [List.mem_cons, List.mem_append, List.not_mem_nil, or_false] at hc
    rcases hc with rfl | hc | rfl
    · decide
    · exact h1 _ hc
    · decide
  · split at hc
    · simp only [List.mem_cons, List.mem_append, List.not_mem_nil, or_false] at hc
      rcases hc with hc | rfl
      · exact h2 _ hc
      · decide
    · simp only [List.mem_cons, List.mem_append, List.not_mem_nil, or_false] at hc
      rcases hc with rfl | hc | rfl | rfl
      · decide
      · exact h2 _ hc
      · decide
      · decide
theorem tail_abc : ∀ (l : List (List Nat × Int)), (∀ q ∈ l, Signs3 q.1) → ∀ c ∈ tailM l, c ∈ ABC
  | [], _ => by decide
  | q :: l, h => fun c hc => by
    rcases List.mem_append.mp (show c ∈ writL q.1 q.2 ++ tailM l from hc) with hc | hc
    · exact writ_abc q.1 q.2 (h q (.head _)) c hc
    · exact tail_abc l (fun x hx => h x (.tail _ hx)) c hc
theorem cr_tail_len {w0 : Int} {l : List (List Nat × Int)} (hl : l.length ≤ 4) (h : ∀ q ∈ l, Signs3 q.1) : (crL w0 ++ tailM l).length ≤ 40 := by
  have h1 := tail_len l h
  have h2 : (crL w0).length ≤ 1 := by unfold crL; split <;> simp
  rw [List.length_append]
  omega
theorem cr_tail_abc {w0 : Int} {l : List (List Nat × Int)} (h : ∀ q ∈ l, Signs3 q.1) : ∀ c ∈ crL w0 ++ tailM l, c ∈ ABC := fun c hc => by
  rcases List.mem_append.mp hc with hc | hc
  · unfold crL at hc
    split at hc
    · cases hc
    · rw [List.mem_singleton.mp hc]; decide
  · exact tail_abc l h c hc
theorem cnt_writ (ws : List Nat) (way : Int) : cnt 10 (writL ws way) = cnt 10 ws := by
  have h1 : ∀ l : List Nat, cnt 10 (l.flatMap needL) = cnt 10 l := fun l => by
    induction l with
    | nil => rfl
    | cons c l ih =>
      rw [List.flatMap_cons, cnt_append, ih, cnt_cons]
      unfold needL
      split
      · rename_i h; subst h; simp [cnt_cons, cnt_nil]
      · rename_i h; simp [cnt_cons, cnt_nil, h]
  have h2 : ∀ l : List Nat, cnt 10 (l.flatMap escL) = cnt 10 l := fun l => by
    induction l with
    | nil => rfl
    | cons c l ih =>
      rw [List.flatMap_cons, cnt_append, ih, cnt_cons]
      unfold escL
      rw [cnt_cons, cnt_cons, cnt_nil]; simp
  unfold writL
  split
  · rw [cnt_cons, cnt_append, h1, cnt_cons, cnt_nil]; simp
  · split
    · rw [cnt_append, h2, cnt_cons, cnt_nil]; simp
    · rw [cnt_cons, cnt_append, h2, cnt_cons, cnt_cons, cnt_nil]; simp
def lineM : List (List Nat × Int) → Int
  | [] => 0
  | q :: l => cnt 10 q.1 + lineM l
theorem cnt_tail : ∀ l : List (List Nat × Int), cnt 10 (tailM l) = lineM l
  | [] => by decide +kernel
  | q :: l => by
    show cnt 10 (writL q.1 q.2 ++ tailM l) = cnt 10 q.1 + lineM l
    rw [cnt_append, cnt_writ, cnt_tail l]

end Mine

namespace Mine
example : True := by
  k_with_none
  trivial
local macro_rules | `(tactic| walk_at "M_ENTER") => `(tactic| (refine' code_def ?k1 ?k2 ?k3 ?k4 ?k5 ?kA ?kF ?kK ?k6 ?k7 ?k8 ?k9 ?kB ?_ ?c2 ?c3 ?c4 ?c5; (case kA => exact rfl); (case kF => assumption); (case kK => assumption); (case k1 => k_asm); (case k2 => k_asm); (case k3 => k_asm); (case k4 => k_asm); (case k5 => k_asm); (case k6 => k_is); (case k7 => k_is); (case k8 => ktr_room); (case k9 => first | exact BindsTo.of_eq rfl | exact binds_K (by k_in) rfl (by k_is) rfl rfl rfl | (refine' kp_binds ?kx ?ke; (case kx => k_in); (case ke => exact fun _ => rfl))); (case c5 => decide); (case kB => exact locs rfl); (case c2 => exact rfl); (case c3 => exact rfl); (case c4 => exact rfl); k_whole; intro g' L' h' FG' F' N' B' X' T'; (try dsimp only); (try k_lift B'); (try k_fold)))
local macro_rules | `(tactic| walk_at "M_ENTERC") => `(tactic| (refine' code_defC ?k1 ?k2 ?k3 ?k4 ?k5 ?kA ?kF ?kK ?k6 ?k7 ?k8 ?k9 ?kB ?kD ?_ ?c2 ?c3 ?c4; (case kA => exact rfl); (case kF => assumption); (case kK => assumption); (case k1 => k_asm); (case k2 => k_asm); (case k3 => k_asm); (case k4 => k_asm); (case k5 => k_asm); (case k6 => k_is); (case k7 => k_is); (case k8 => ktr_room); (case k9 => first | exact BindsTo.of_eq rfl | exact binds_K (by k_in) rfl (by k_is) rfl rfl rfl | (refine' kp_binds ?kx ?ke; (case kx => k_in); (case ke => exact fun _ => rfl))); (case kB => exact rfl); (case kD => decide +kernel); (case c2 => exact rfl); (case c3 => exact rfl); (case c4 => exact rfl); k_whole; intro g' L' h' tk' cells' FG' F' N' Y' B' X' T' l1; (try k_lt l1); k_cells Y'; (try simp only [List.cons_append, List.nil_append] at N'); (try dsimp only); (try k_lift B'); (try k_fold)))
local macro_rules | `(tactic| walk_at "M_ENTERN") => `(tactic| (refine' code_nest ?k1 ?k2 ?k3 ?k4 ?k5 ?kA ?kF ?kK ?k6 ?k7 ?k8 ?k9 ?kB ?_ ?c2 ?c3 ?c4 ?c5; (case kA => exact rfl); (case kF => assumption); (case kK => assumption); (case k1 => k_asm); (case k2 => k_asm); (case k3 => k_asm); (case k4 => k_asm); (case k5 => k_asm); (case k6 => k_mem); (case k7 => exact codeRec_news (by k_asm) (by k_mem) (by assumption) (by assumption)); (case k8 => ktr_room); (case k9 => exact BindsTo.of_eq rfl); (case c5 => decide); (case kB => exact locs rfl); (case c2 => exact rfl); (case c3 => exact rfl); (case c4 => exact rfl); k_whole; intro g' L' h' FG' F' N' B' X' T'; (try dsimp only); (try k_lift B'); (try k_fold)))
local macro_rules | `(tactic| k_all) => `(tactic| first | assumption | exact allLt_ne (by assumption) (by omega))
local macro_rules | `(tactic| walk_at "M_SIDE") => `(tactic| ((case kB => k_asm); (case kF => k_asm); (case kX => k_asm); (case kN => k_asm); (case kT => k_asm); (case kc => assumption); (case kf => first | rfl | assumption); (case kk => first | rfl | assumption); (case kd => ktr_room); (case ku => ktr_units)))
local macro_rules | `(tactic| walk_at "M_SIDE2") => `(tactic| ((case kB => k_asm); (case kF => k_asm); (case kX => k_asm); (case kT => k_asm); (case kc => assumption); (case kf => first | rfl | assumption); (case kk => first | rfl | assumption); (case kd => ktr_room); (case ku => ktr_units)))
local macro_rules | `(tactic| walk_at "eval Constant int") => `(tactic| (refine wpAny_Constant_int ?_; (try dsimp only)))
variable {w : World} {p : Program} {loose : List Str} {mean : ExcName → Option Value} {mg mb : Str → Option Value}
/-- the four words and their ways, as signs -/
def cardsL (wr z0 z1 z2 z3 : Int) : List (List Nat × Int) := [((cardR z0).cps.toList, wayOf wr 0), ((cardR z1).cps.toList, wayOf wr 1), ((cardR z2).cps.toList, wayOf wr 2), ((cardR z3).cps.toList, wayOf wr 3)]
def textM (wr z0 z1 z2 z3 : Int) : Str := Txt.join (Str.ofString "") ((textL wr (cardR z0) (cardR z1) (cardR z2) (cardR z3)).map fun q => writtenM q.1 q.2)
def Four (z0 z1 z2 z3 : Int) : Prop := 0 ≤ z3 ∧ z3 < z2 ∧ z2 < z1 ∧ z1 < z0 ∧ z0 < 27
theorem tail_is : ∀ l : List (List Nat × Int), tailM l = (l.flatMap fun q => writL q.1 q.2) ++ [101, 110, 100]
  | [] => rfl
  | q :: l => by
    show writL q.1 q.2 ++ tailM l = _
    rw [tail_is l, List.flatMap_cons, List.append_assoc]
theorem textM_signs (wr z0 z1 z2 z3 : Int) : (textM wr z0 z1 z2 z3).cps.toList = (cardsL wr z0 z1 z2 z3).flatMap fun q => writL q.1 q.2 := by
  unfold textM
  rw [join_cps]
  simp only [textL, cardsL, List.map_cons, List.map_nil, List.flatMap_cons, List.flatMap_nil, written_signs]
theorem text_signs (wr z0 z1 z2 z3 : Int) : (textM wr z0 z1 z2 z3 ++ Str.ofString "end").cps.toList = tailM (cardsL wr z0 z1 z2 z3) := by
  rw [cps_app, textM_signs, tail_is]; rfl
theorem cardsL_ok {wr z0 z1 z2 z3 : Int} (h : Four z0 z1 z2 z3) : ∀ q ∈ cardsL wr z0 z1 z2 z3, Signs3 q.1 := by
  unfold Four at h
  refine List.forall_mem_cons.mpr ⟨card_signs ⟨by omega, by omega⟩, List.forall_mem_cons.mpr ⟨card_signs ⟨by omega, by omega⟩, List.forall_mem_cons.mpr ⟨card_signs ⟨by omega, by omega⟩, List.forall_mem_cons.mpr ⟨card_signs ⟨by omega, by omega⟩, List.forall_mem_nil _⟩⟩⟩⟩
theorem text_len {wr z0 z1 z2 z3 : Int} (h : Four z0 z1 z2 z3) : (textM wr z0 z1 z2 z3 ++ Str.ofString "end").length ≤ 40 := by
  have h1 : (textM wr z0 z1 z2 z3 ++ Str.ofString "end").length = (textM wr z0 z1 z2 z3 ++ Str.ofString "end").cps.toList.length := rfl
  rw [h1, text_signs]
  have h2 := tail_len _ (cardsL_ok (wr := wr) h)
  have h3 : (cardsL wr z0 z1 z2 z3).length = 4 := rfl
  omega
theorem text_len' {wr z0 z1 z2 z3 : Int} (h : Four z0 z1 z2 z3) : (textM wr z0 z1 z2 z3).length ≤ 40 := by
  have h1 := text_len (wr := wr) h
  rw [app_len] at h1
  omega
theorem text_join {wr z0 z1 z2 z3 : Int} (h : Four z0 z1 z2 z3) : ((((textL wr (cardR z0) (cardR z1) (cardR z2) (cardR z3)).map fun q => writtenM q.1 q.2).map (·.length)).sum + ((textL wr (cardR z0) (cardR z1) (cardR z2) (cardR z3)).map fun q => writtenM q.1 q.2).length * (Str.ofString "").length) ≤ 16777216 := by
  have h0 : (Str.ofString "").length = 0 := rfl
  rw [h0, Nat.mul_zero, Nat.add_zero]
  have hl : ∀ (word : Str) (way : Int), Signs3 word.cps.toList → (writtenM word way).length ≤ 9 := fun word way hs => by
    have e : (writtenM word way).length = (writtenM word way).cps.toList.length := rfl
    rw [e, written_signs]
    exact writ_len _ _ hs
  unfold Four at h
  have a0 := hl (cardR z0) (wayOf wr 0) (card_signs ⟨by omega, by omega⟩)
  have a1 := hl (cardR z1) (wayOf wr 1) (card_signs ⟨by omega, by omega⟩)
  have a2 := hl (cardR z2) (wayOf wr 2) (card_signs ⟨by omega, by omega⟩)
  have a3 := hl (cardR z3) (wayOf wr 3) (card_signs ⟨by omega, by omega⟩)
  simp only [textL, List.map_cons, List.map_nil, List.sum_cons, List.sum_nil]
  omega
theorem text_count (wr z0 z1 z2 z3 : Int) : Txt.count (textM wr z0 z1 z2 z3) (Str.ofString "\n") = lineM (cardsL wr z0 z1 z2 z3) := by
  have h1 : Txt.count (textM wr z0 z1 z2 z3) (Str.ofString "\n") = cnt 10 (textM wr z0 z1 z2 z3).cps.toList := count_is _ 10
  rw [h1, textM_signs, ← cnt_tail, tail_is, cnt_append]
  have h2 : cnt 10 [101, 110, 100] = 0 := by decide +kernel
  rw [h2, Int.add_zero]
theorem lineM_snoc (q : List Nat × Int) : ∀ l : List (List Nat × Int), lineM (l ++ [q]) = lineM l + cnt 10 q.1
  | [] => by show cnt 10 q.1 + 0 = 0 + cnt 10 q.1; omega
  | p :: l => by
    show cnt 10 p.1 + lineM (l ++ [q]) = cnt 10 p.1 + lineM l + cnt 10 q.1
    rw [lineM_snoc q l]; omega
/-- what is heard, turn by turn -/
def HeardJ (led : List Value → Nat → Int → Tok → Led) (l : List (List Nat × Int)) (ws : List Str) (i : Nat) (ys : List Value) (nw : Led) : Prop :=
  ∃ w0 vs k tn, nw = led vs k (1 + lineM (l.take i)) tn ∧ StrsAre vs ((crL w0 ++ tailM (l.drop i)).map oneS) ∧ StrsAre ys (ws.take i)
theorem HeardJ.start {led : List Value → Nat → Int → Tok → Led} {l : List (List Nat × Int)} {ws : List Str} {vs : List Value} {k : Nat} {tn : Tok} {text : Str} (h : text.cps.toList = tailM l) (hv : StrsAre vs (text.cps.toList.map oneS)) : HeardJ led l ws 0 [] (led vs k 1 tn) :=
  ⟨0, vs, k, tn, rfl, by rw [h] at hv; exact hv, .nil⟩
theorem HeardJ.turn {led : List Value → Nat → Int → Tok → Led} {l : List (List Nat × Int)} {ws : List Str} {i : Nat} {ys : List Value} {nw : Led} {q : List Nat × Int} {y : Str} (h : HeardJ led l ws i ys nw) (hq : l[i]? = some q) (hw : ws[i]? = some y) (hy : y.cps.toList = q.1) (hl : l.length ≤ 4) (hs : ∀ q ∈ l, Signs3 q.1) :
    ∃ cs vs k n tn, nw = led vs k n tn ∧ StrsAre vs (cs.map oneS) ∧ cs.length ≤ 40 ∧ (∀ c ∈ cs, c ∈ ABC) ∧ (tokM cs n).1 = y ∧
      ∀ t vs' k' tn', StrsAre vs' ((tokM cs n).2.1.map oneS) → HeardJ led l ws (i + 1) (ys ++ [.str y t]) (led vs' k' (tokM cs n).2.2 tn') := by
  obtain ⟨w0, vs, k, tn, rfl, hv, hys⟩ := h
  have hlt : i < l.length := (List.getElem?_eq_some_iff.mp hq).1
  have hd : l.drop i = q :: l.drop (i + 1) := by
    rw [List.drop_eq_getElem_cons hlt, (List.getElem?_eq_some_iff.mp hq).2]
  have hmem : q ∈ l := List.mem_of_getElem? hq
  have hne : q.1 ≠ [] := fun e => by have := (hs q hmem).1; rw [e] at this; cases this
  have htok : tokM (crL w0 ++ tailM (l.drop i)) (1 + lineM (l.take i)) = (y, crL q.2 ++ tailM (l.drop (i + 1)), 1 + lineM (l.take i) + cnt 10 q.1) := by
    rw [hd]
    exact tok_written hne w0 q.2 _ y _ hy
  have hsd : ∀ p ∈ l.drop i, Signs3 p.1 := fun p hp => hs p (List.mem_of_mem_drop hp)
  refine ⟨_, vs, k, _, tn, rfl, hv, cr_tail_len (by rw [List.length_drop]; omega) hsd, cr_tail_abc hsd, by rw [htok], fun t vs' k' tn' hv' => ?_⟩
  rw [htok] at hv' ⊢
  refine ⟨q.2, vs', k', tn', ?_, hv', ?_⟩
  · show led vs' k' (1 + lineM (l.take i) + cnt 10 q.1) tn' = _
    rw [List.take_add_one, hq]
    show _ = led vs' k' (1 + lineM (l.take i ++ [q])) tn'
    rw [lineM_snoc, Int.add_assoc]
  · rw [List.take_add_one, hw]
    exact kct_snoc hys
theorem cardsL_at {wr z0 z1 z2 z3 : Int} {i : Nat} (h : i < 4) : ∃ q y, (cardsL wr z0 z1 z2 z3)[i]? = some q ∧ [cardR z0, cardR z1, cardR z2, cardR z3][i]? = some y ∧ y.cps.toList = q.1 := by
  match i, h with
  | 0, _ => exact ⟨_, _, rfl, rfl, rfl⟩
  | 1, _ => exact ⟨_, _, rfl, rfl, rfl⟩
  | 2, _ => exact ⟨_, _, rfl, rfl, rfl⟩
  | 3, _ => exact ⟨_, _, rfl, rfl, rfl⟩

end Mine

namespace Mine
local macro_rules | `(tactic| walk_at "M_SPARE0") => `(tactic| skip)
local macro_rules | `(tactic| walk_at "M_SPARE1") => `(tactic| skip)
local macro_rules | `(tactic| walk_at "M_SPARE2") => `(tactic| skip)
local macro_rules | `(tactic| walk_at "M_SPARE3") => `(tactic| skip)
local macro_rules | `(tactic| walk_at "M_SPARE4") => `(tactic| skip)
local macro_rules | `(tactic| walk_at "M_SPARE5") => `(tactic| skip)
local macro_rules | `(tactic| walk_at "M_SPARE6") => `(tactic| skip)
local macro_rules | `(tactic| walk_at "M_SPARE7") => `(tactic| skip)
local macro_rules | `(tactic| walk_at "M_SPARE8") => `(tactic| skip)
local macro_rules | `(tactic| walk_at "M_SPARE9") => `(tactic| skip)
local macro_rules | `(tactic| walk_at "M_SPARE10") => `(tactic| skip)
local macro_rules | `(tactic| walk_at "M_SPARE11") => `(tactic| skip)
local macro_rules | `(tactic| walk_at "M_SPARE12") => `(tactic| skip)
local macro_rules | `(tactic| walk_at "M_SPARE13") => `(tactic| skip)
local macro_rules | `(tactic| walk_at "M_SPARE14") => `(tactic| skip)
local macro_rules | `(tactic| walk_at "M_SPARE15") => `(tactic| skip)
local macro_rules | `(tactic| walk_at "M_SPARE16") => `(tactic| skip)
local macro_rules | `(tactic| walk_at "M_SPARE17") => `(tactic| skip)
local macro_rules | `(tactic| walk_at "M_SPARE18") => `(tactic| skip)
local macro_rules | `(tactic| walk_at "M_SPARE19") => `(tactic| skip)
local macro_rules | `(tactic| walk_at "M_SPARE20") => `(tactic| skip)
local macro_rules | `(tactic| walk_at "M_SPARE21") => `(tactic| skip)
local macro_rules | `(tactic| walk_at "M_SPARE22") => `(tactic| skip)
local macro_rules | `(tactic| walk_at "M_SPARE23") => `(tactic| skip)
local macro_rules | `(tactic| walk_at "M_SPARE24") => `(tactic| skip)
example : True := by
  k_with_none
  trivial
local macro_rules | `(tactic| walk_at "M_ENTER") => `(tactic| (refine' code_def ?k1 ?k2 ?k3 ?k4 ?k5 ?kA ?kF ?kK ?k6 ?k7 ?k8 ?k9 ?kB ?_ ?c2 ?c3 ?c4 ?c5; (case kA => exact rfl); (case kF => assumption); (case kK => assumption); (case k1 => k_asm); (case k2 => k_asm); (case k3 => k_asm); (case k4 => k_asm); (case k5 => k_asm); (case k6 => k_is); (case k7 => k_is); (case k8 => ktr_room); (case k9 => first | exact BindsTo.of_eq rfl | exact binds_K (by k_in) rfl (by k_is) rfl rfl rfl | (refine' kp_binds ?kx ?ke; (case kx => k_in); (case ke => exact fun _ => rfl))); (case c5 => decide); (case kB => exact locs rfl); (case c2 => exact rfl); (case c3 => exact rfl); (case c4 => exact rfl); k_whole; intro g' L' h' FG' F' N' B' X' T'; (try dsimp only); (try k_lift B'); (try k_fold)))
local macro_rules | `(tactic| walk_at "M_ENTERC") => `(tactic| (refine' code_defC ?k1 ?k2 ?k3 ?k4 ?k5 ?kA ?kF ?kK ?k6 ?k7 ?k8 ?k9 ?kB ?kD ?_ ?c2 ?c3 ?c4; (case kA => exact rfl); (case kF => assumption); (case kK => assumption); (case k1 => k_asm); (case k2 => k_asm); (case k3 => k_asm); (case k4 => k_asm); (case k5 => k_asm); (case k6 => k_is); (case k7 => k_is); (case k8 => ktr_room); (case k9 => first | exact BindsTo.of_eq rfl | exact binds_K (by k_in) rfl (by k_is) rfl rfl rfl | (refine' kp_binds ?kx ?ke; (case kx => k_in); (case ke => exact fun _ => rfl))); (case kB => exact rfl); (case kD => decide +kernel); (case c2 => exact rfl); (case c3 => exact rfl); (case c4 => exact rfl); k_whole; intro g' L' h' tk' cells' FG' F' N' Y' B' X' T' l1; (try k_lt l1); k_cells Y'; (try simp only [List.cons_append, List.nil_append] at N'); (try dsimp only); (try k_lift B'); (try k_fold)))
local macro_rules | `(tactic| walk_at "M_ENTERN") => `(tactic| (refine' code_nest ?k1 ?k2 ?k3 ?k4 ?k5 ?kA ?kF ?kK ?k6 ?k7 ?k8 ?k9 ?kB ?_ ?c2 ?c3 ?c4 ?c5; (case kA => exact rfl); (case kF => assumption); (case kK => assumption); (case k1 => k_asm); (case k2 => k_asm); (case k3 => k_asm); (case k4 => k_asm); (case k5 => k_asm); (case k6 => k_mem); (case k7 => exact codeRec_news (by k_asm) (by k_mem) (by assumption) (by assumption)); (case k8 => ktr_room); (case k9 => exact BindsTo.of_eq rfl); (case c5 => decide); (case kB => exact locs rfl); (case c2 => exact rfl); (case c3 => exact rfl); (case c4 => exact rfl); k_whole; intro g' L' h' FG' F' N' B' X' T'; (try dsimp only); (try k_lift B'); (try k_fold)))
local macro_rules | `(tactic| k_all) => `(tactic| first | assumption | exact allLt_ne (by assumption) (by omega))
local macro_rules | `(tactic| walk_at "M_SIDE") => `(tactic| ((case kB => k_asm); (case kF => k_asm); (case kX => k_asm); (case kN => k_asm); (case kT => k_asm); (case kc => assumption); (case kf => first | rfl | assumption); (case kk => first | rfl | assumption); (case kd => ktr_room); (case ku => ktr_units)))
local macro_rules | `(tactic| walk_at "M_SIDE2") => `(tactic| ((case kB => k_asm); (case kF => k_asm); (case kX => k_asm); (case kT => k_asm); (case kc => assumption); (case kf => first | rfl | assumption); (case kk => first | rfl | assumption); (case kd => ktr_room); (case ku => ktr_units)))
local macro_rules | `(tactic| walk_at "eval Constant int") => `(tactic| (refine wpAny_Constant_int ?_; (try dsimp only)))
variable {w : World} {p : Program} {loose : List Str} {mean : ExcName → Option Value} {mg mb : Str → Option Value}
theorem lex_form {h₀ h : Heap} {L pb x dx ds f2 c2 fs D C : Addr} {ods o2 oc2 ofs oC olx : Obj} {vS : List Value} {kS kp : Nat} {a1 a2 a3 a4 : Int} {k1 k2 k3 k4 tn tw : Tok} {rA : Led}
    (N : News h₀ L h ((pb, lstO [] kp) :: (x, instObj 144 dx) :: (dx, lexD a1 a2 a3 a4 k1 k2 k3 k4 1 tn fs tw pb) :: (ds, ods) :: (f2, o2) :: (c2, oc2) :: (fs, ofs) :: (D, lstO vS kS) :: (C, oC) :: rA))
    (hc : olx.data = .cell (some (.ref x))) (h1 : @LT.lt Nat _ ds dx) (h2 : @LT.lt Nat _ dx x) (h3 : @LT.lt Nat _ x pb) :
    ∃ (pb x dx : Addr) (kp : Nat) (a1 a2 a3 a4 : Int) (k1 k2 k3 k4 tn tw : Tok), News h₀ L h (lexLed a1 a2 a3 a4 k1 k2 k3 k4 tw D f2 c2 C dx x fs ds pb o2 oc2 oC ofs ods vS kS 1 tn ((pb, lstO [] kp) :: rA)) ∧ olx.data = .cell (some (.ref x)) ∧ @LT.lt Nat _ ds dx ∧ @LT.lt Nat _ dx x ∧ @LT.lt Nat _ x pb := by
  refine ⟨pb, x, dx, kp, a1, a2, a3, a4, k1, k2, k3, k4, tn, tw, ?_, hc, h1, h2, h3⟩
  intro q hq
  refine N q ?_
  simp only [List.mem_cons] at hq ⊢
  rcases hq with h | h | h | h | h | h | h | h | h | h <;> simp only [h, true_or, or_true]
theorem off3_keys {I C D : Addr} {l l' : Led} (e : l.map (·.1) = l'.map (·.1)) (h : LCg.Off3 I C D l) : LCg.Off3 I C D l' := by
  refine LCg.Off3.of fun p hp => ?_
  have h1 : p.1 ∈ l.map (·.1) := by rw [e]; exact List.mem_map_of_mem hp
  obtain ⟨q, hq, hqe⟩ := List.mem_map.mp h1
  have := LCg.Off3.mem h q hq
  rw [hqe] at this
  exact this
/-- the lexer within a comprehension's turn -/
theorem tok_turn {a1 a2 a3 a4 : Int} {k1 k2 k3 k4 tw tn : Tok} {D f2 c2 C dx x f1 ds pb : Addr} {o2 oc2 oC o1 oD : Obj} {vs : List Value} {k kp : Nat} {n : Int} {cs : List Nat} {y : Str} {i1 i2 i3 : Addr × Obj} {rest : Led}
    (hL : LexOk w p loose mean mg mb D f2 c2 C dx x f1 ds o2 oc2 oC o1 oD) (hlt : ∀ q ∈ rest, @LT.lt Nat _ q.1 C) (ho : (@LT.lt Nat _ C D ∧ @LT.lt Nat _ D f1 ∧ @LT.lt Nat _ f1 c2 ∧ @LT.lt Nat _ c2 f2 ∧ @LT.lt Nat _ f2 ds) ∧ @LT.lt Nat _ ds dx ∧ @LT.lt Nat _ dx x ∧ @LT.lt Nat _ x pb)
    (h3 : (i1.1 ≠ D ∧ i2.1 ≠ D ∧ i3.1 ≠ D) ∧ (i1.1 ≠ dx ∧ i2.1 ≠ dx ∧ i3.1 ≠ dx)) (hcs : cs.length ≤ 40) (hab : ∀ c ∈ cs, c ∈ ABC) (hvs : StrsAre vs (cs.map oneS)) (hy : (tokM cs n).1 = y) :
    Con w p loose mean mg mb (.ref 134) [.ref x] [] 10 400 (i1 :: i2 :: i3 :: lexLed a1 a2 a3 a4 k1 k2 k3 k4 tw D f2 c2 C dx x f1 ds pb o2 oc2 oC o1 oD vs k n tn ((pb, lstO [] kp) :: rest))
      (fun r n' => ∃ t vs' k' tn', r = .str y t ∧ n' = i1 :: i2 :: i3 :: lexLed a1 a2 a3 a4 k1 k2 k3 k4 tw D f2 c2 C dx x f1 ds pb o2 oc2 oC o1 oD vs' k' (tokM cs n).2.2 tn' ((pb, lstO [] kp) :: rest) ∧ StrsAre vs' ((tokM cs n).2.1.map oneS)) := by
  have hoD : ∀ q ∈ i1 :: i2 :: i3 :: rest, q.1 ≠ D := List.forall_mem_cons.mpr ⟨h3.1.1, List.forall_mem_cons.mpr ⟨h3.1.2.1, List.forall_mem_cons.mpr ⟨h3.1.2.2, fun q hq => Nat.ne_of_lt (Nat.lt_trans (hlt q hq) ho.1.1)⟩⟩⟩
  have hCdx : @LT.lt Nat _ C dx := by omega
  have hox : ∀ q ∈ i1 :: i2 :: i3 :: rest, q.1 ≠ dx := List.forall_mem_cons.mpr ⟨h3.2.1, List.forall_mem_cons.mpr ⟨h3.2.2.1, List.forall_mem_cons.mpr ⟨h3.2.2.2, fun q hq => Nat.ne_of_lt (Nat.lt_trans (hlt q hq) hCdx)⟩⟩⟩
  have hpb : @Ne Nat pb D ∧ @Ne Nat pb dx := ⟨by omega, by omega⟩
  have key : ∀ (vs : List Value) (k : Nat) (n : Int) (tn : Tok), ∀ q ∈ lexLed a1 a2 a3 a4 k1 k2 k3 k4 tw D f2 c2 C dx x f1 ds pb o2 oc2 oC o1 oD vs k n tn ((pb, lstO [] kp) :: i1 :: i2 :: i3 :: rest), q ∈ i1 :: i2 :: i3 :: lexLed a1 a2 a3 a4 k1 k2 k3 k4 tw D f2 c2 C dx x f1 ds pb o2 oc2 oC o1 oD vs k n tn ((pb, lstO [] kp) :: rest) := by
    intro vs k n tn q hq
    simp only [List.mem_cons] at hq ⊢
    rcases hq with h | h | h | h | h | h | h | h | h | h | h | h | h <;> simp only [h, true_or, or_true]
  have yek : ∀ (vs : List Value) (k : Nat) (n : Int) (tn : Tok), ∀ q ∈ i1 :: i2 :: i3 :: lexLed a1 a2 a3 a4 k1 k2 k3 k4 tw D f2 c2 C dx x f1 ds pb o2 oc2 oC o1 oD vs k n tn ((pb, lstO [] kp) :: rest), q ∈ lexLed a1 a2 a3 a4 k1 k2 k3 k4 tw D f2 c2 C dx x f1 ds pb o2 oc2 oC o1 oD vs k n tn ((pb, lstO [] kp) :: i1 :: i2 :: i3 :: rest) := by
    intro vs k n tn q hq
    simp only [List.mem_cons] at hq ⊢
    rcases hq with h | h | h | h | h | h | h | h | h | h | h | h | h <;> simp only [h, true_or, or_true]
  refine (tok_c hL hoD hox hpb hcs hab hvs).post (key vs k n tn) ?_
  rintro r n' ⟨t, vs', k', tn', rfl, rfl, hv⟩
  exact ⟨_, yek vs' k' _ tn', t, vs', k', tn', by rw [hy], rfl, hv⟩
theorem HeardJ.fin {led : List Value → Nat → Int → Tok → Led} {l : List (List Nat × Int)} {ws : List Str} {i : Nat} {ys : List Value} {nw : Led} (h : HeardJ led l ws i ys nw) (h1 : l.length ≤ i) (h2 : ws.length ≤ i) :
    ∃ w0 vs k tn ln, nw = led vs k ln tn ∧ ln = 1 + lineM l ∧ StrsAre vs ((crL w0 ++ [101, 110, 100]).map oneS) ∧ StrsAre ys ws := by
  obtain ⟨w0, vs, k, tn, rfl, hv, hys⟩ := h
  refine ⟨w0, vs, k, tn, _, rfl, by rw [List.take_of_length_le h1], ?_, by rw [List.take_of_length_le h2] at hys; exact hys⟩
  rw [List.drop_eq_nil_of_le h1] at hv
  exact hv

end Mine

namespace Mine
example : True := by
  k_with_none
  trivial
local macro_rules | `(tactic| walk_at "M_ENTER") => `(tactic| (refine' code_def ?k1 ?k2 ?k3 ?k4 ?k5 ?kA ?kF ?kK ?k6 ?k7 ?k8 ?k9 ?kB ?_ ?c2 ?c3 ?c4 ?c5; (case kA => exact rfl); (case kF => assumption); (case kK => assumption); (case k1 => k_asm); (case k2 => k_asm); (case k3 => k_asm); (case k4 => k_asm); (case k5 => k_asm); (case k6 => k_is); (case k7 => k_is); (case k8 => ktr_room); (case k9 => first | exact BindsTo.of_eq rfl | exact binds_K (by k_in) rfl (by k_is) rfl rfl rfl | (refine' kp_binds ?kx ?ke; (case kx => k_in); (case ke => exact fun _ => rfl))); (case c5 => decide); (case kB => exact locs rfl); (case c2 => exact rfl); (case c3 => exact rfl); (case c4 => exact rfl); k_whole; intro g' L' h' FG' F' N' B' X' T'; (try dsimp only); (try k_lift B'); (try k_fold)))
local macro_rules | `(tactic| walk_at "M_ENTERC") => `(tactic| (refine' code_defC ?k1 ?k2 ?k3 ?k4 ?k5 ?kA ?kF ?kK ?k6 ?k7 ?k8 ?k9 ?kB ?kD ?_ ?c2 ?c3 ?c4; (case kA => exact rfl); (case kF => assumption); (case kK => assumption); (case k1 => k_asm); (case k2 => k_asm); (case k3 => k_asm); (case k4 => k_asm); (case k5 => k_asm); (case k6 => k_is); (case k7 => k_is); (case k8 => ktr_room); (case k9 => first | exact BindsTo.of_eq rfl | exact binds_K (by k_in) rfl (by k_is) rfl rfl rfl | (refine' kp_binds ?kx ?ke; (case kx => k_in); (case ke => exact fun _ => rfl))); (case kB => exact rfl); (case kD => decide +kernel); (case c2 => exact rfl); (case c3 => exact rfl); (case c4 => exact rfl); k_whole; intro g' L' h' tk' cells' FG' F' N' Y' B' X' T' l1; (try k_lt l1); k_cells Y'; (try simp only [List.cons_append, List.nil_append] at N'); (try dsimp only); (try k_lift B'); (try k_fold)))
local macro_rules | `(tactic| walk_at "M_ENTERN") => `(tactic| (refine' code_nest ?k1 ?k2 ?k3 ?k4 ?k5 ?kA ?kF ?kK ?k6 ?k7 ?k8 ?k9 ?kB ?_ ?c2 ?c3 ?c4 ?c5; (case kA => exact rfl); (case kF => assumption); (case kK => assumption); (case k1 => k_asm); (case k2 => k_asm); (case k3 => k_asm); (case k4 => k_asm); (case k5 => k_asm); (case k6 => k_mem); (case k7 => exact codeRec_news (by k_asm) (by k_mem) (by assumption) (by assumption)); (case k8 => ktr_room); (case k9 => exact BindsTo.of_eq rfl); (case c5 => decide); (case kB => exact locs rfl); (case c2 => exact rfl); (case c3 => exact rfl); (case c4 => exact rfl); k_whole; intro g' L' h' FG' F' N' B' X' T'; (try dsimp only); (try k_lift B'); (try k_fold)))
local macro_rules | `(tactic| k_all) => `(tactic| first | assumption | exact allLt_ne (by assumption) (by omega))
local macro_rules | `(tactic| walk_at "M_SIDE") => `(tactic| ((case kB => k_asm); (case kF => k_asm); (case kX => k_asm); (case kN => k_asm); (case kT => k_asm); (case kc => assumption); (case kf => first | rfl | assumption); (case kk => first | rfl | assumption); (case kd => ktr_room); (case ku => ktr_units)))
local macro_rules | `(tactic| walk_at "M_SIDE2") => `(tactic| ((case kB => k_asm); (case kF => k_asm); (case kX => k_asm); (case kT => k_asm); (case kc => assumption); (case kf => first | rfl | assumption); (case kk => first | rfl | assumption); (case kd => ktr_room); (case ku => ktr_units)))
local macro_rules | `(tactic| walk_at "eval Constant int") => `(tactic| (refine wpAny_Constant_int ?_; (try dsimp only)))
variable {w : World} {p : Program} {loose : List Str} {mean : ExcName → Option Value} {mg mb : Str → Option Value}
/-- how three shown cards tell an order -/
def Shape (j e f x y a b c : Int) : Prop :=
  (j = 0 ∧ f = a ∧ (e = 0 ∧ x = b ∧ y = c ∨ e = 1 ∧ x = c ∧ y = b)) ∨ (j = 1 ∧ f = b ∧ (e = 0 ∧ x = a ∧ y = c ∨ e = 1 ∧ x = c ∧ y = a)) ∨ (j = 2 ∧ f = c ∧ (e = 0 ∧ x = a ∧ y = b ∨ e = 1 ∧ x = b ∧ y = a))
/-- where a card lies among three -/
def Lies (p H a b c : Int) : Prop := (p = 0 ∧ H < a) ∨ (p = 1 ∧ a < H ∧ H < b) ∨ (p = 2 ∧ b < H ∧ H < c) ∨ (p = 3 ∧ c < H)
theorem fmod4 (x : Int) : ∃ q, x = 4 * q + x.fmod 4 ∧ 0 ≤ x.fmod 4 ∧ x.fmod 4 < 4 :=
  ⟨x.fdiv 4, (Int.mul_fdiv_add_fmod x 4).symm, Int.fmod_nonneg_of_pos _ (by decide), Int.fmod_lt_of_pos _ (by decide)⟩
theorem shape_of {a b c x y z : Int} (h : a < b ∧ b < c) (hp : [a, b, c].Perm [z, y, x]) : (x = a ∧ y = b ∧ z = c) ∨ (x = a ∧ y = c ∧ z = b) ∨ (x = b ∧ y = a ∧ z = c) ∨ (x = b ∧ y = c ∧ z = a) ∨ (x = c ∧ y = a ∧ z = b) ∨ (x = c ∧ y = b ∧ z = a) := by
  have ha : a ∈ [z, y, x] := hp.mem_iff.mp (.head _)
  have hb : b ∈ [z, y, x] := hp.mem_iff.mp (.tail _ (.head _))
  have hc : c ∈ [z, y, x] := hp.mem_iff.mp (.tail _ (.tail _ (.head _)))
  simp only [List.mem_cons, List.not_mem_nil, or_false] at ha hb hc
  clear hp
  rcases ha with ha | ha | ha <;> rcases hb with hb | hb | hb <;> rcases hc with hc | hc | hc <;> first | (exfalso; omega) | (subst ha hb hc; simp)
structure Told (hs : List Int) (H f x y a b c p m j e r q : Int) : Prop where
  show_ : showM hs = [H, f, x, y]
  lt : 0 ≤ a ∧ a < b ∧ b < c ∧ c < 27
  H_lt : 0 ≤ H ∧ H < 27
  shape : Shape j e f x y a b c
  lies : Lies p H a b c
  hand : hs = if p = 0 then [H, a, b, c] else if p = 1 then [a, H, b, c] else if p = 2 then [a, b, H, c] else [a, b, c, H]
  m_is : m = H - p ∧ m = 4 * (2 * j + e) + r ∧ 0 ≤ r ∧ r < 4
  sum : H + a + b + c = 4 * q + p
theorem showM_at (hs : List Int) (p o : Int) (hp : hs.sum.fmod 4 = p) (ho : (hs.getD p.toNat 0 - p).fdiv 4 = o) :
    showM hs = [hs.getD p.toNat 0, (hs.take p.toNat ++ hs.drop (p.toNat + 1)).getD (o.fdiv 2).toNat 0] ++
      (if o.fmod 2 = 1 then ((hs.take p.toNat ++ hs.drop (p.toNat + 1)).take (o.fdiv 2).toNat ++ (hs.take p.toNat ++ hs.drop (p.toNat + 1)).drop ((o.fdiv 2).toNat + 1)).reverse
       else (hs.take p.toNat ++ hs.drop (p.toNat + 1)).take (o.fdiv 2).toNat ++ (hs.take p.toNat ++ hs.drop (p.toNat + 1)).drop ((o.fdiv 2).toNat + 1)) := by
  subst hp ho
  rfl
theorem show_told {hs : List Int} (h : Hand4 hs) : ∃ H f x y a b c p m j e r q, Told hs H f x y a b c p m j e r q := by
  obtain ⟨a, b, c, d, rfl, h0, h1, h2, h3, h4⟩ := h
  obtain ⟨q, hq, hp0, hp4⟩ := fmod4 [a, b, c, d].sum
  have hsum : [a, b, c, d].sum = a + b + c + d := by simp only [List.sum_cons, List.sum_nil]; omega
  generalize hp : [a, b, c, d].sum.fmod 4 = p at *
  have key : ∀ H A B C : Int, [a, b, c, d].getD p.toNat 0 = H → [a, b, c, d].take p.toNat ++ [a, b, c, d].drop (p.toNat + 1) = [A, B, C] → 0 ≤ A ∧ A < B ∧ B < C ∧ C < 27 → 0 ≤ H ∧ H < 27 → Lies p H A B C → [a, b, c, d] = (if p = 0 then [H, A, B, C] else if p = 1 then [A, H, B, C] else if p = 2 then [A, B, H, C] else [A, B, C, H]) → H + A + B + C = a + b + c + d →
      ∃ H f x y a' b' c' p m j e r q, Told [a, b, c, d] H f x y a' b' c' p m j e r q := by
    intro H A B C hH h1 hlt hHl hL hhand hs4
    obtain ⟨o, ho, hr0, hr4⟩ : ∃ o, H - p = 4 * o + (H - p - 4 * o) ∧ 0 ≤ H - p - 4 * o ∧ H - p - 4 * o < 4 := ⟨(H - p) / 4, by omega, by omega, by omega⟩
    have hfd : (H - p).fdiv 4 = o := by
      rw [Int.fdiv_eq_ediv_of_nonneg _ (by decide)]
      omega
    have ho6 : 0 ≤ o ∧ o ≤ 5 := by unfold Lies at hL; omega
    have hsh := showM_at [a, b, c, d] p o hp (by rw [hH]; exact hfd)
    rw [hH, h1] at hsh
    have cases6 : o = 0 ∨ o = 1 ∨ o = 2 ∨ o = 3 ∨ o = 4 ∨ o = 5 := by omega
    rcases cases6 with rfl | rfl | rfl | rfl | rfl | rfl
    · exact ⟨H, A, B, C, A, B, C, p, H - p, 0, 0, H - p, q, hsh, hlt, hHl, .inl ⟨rfl, rfl, .inl ⟨rfl, rfl, rfl⟩⟩, hL, hhand, by omega, by omega⟩
    · exact ⟨H, A, C, B, A, B, C, p, H - p, 0, 1, H - p - 4, q, hsh, hlt, hHl, .inl ⟨rfl, rfl, .inr ⟨rfl, rfl, rfl⟩⟩, hL, hhand, by omega, by omega⟩
    · exact ⟨H, B, A, C, A, B, C, p, H - p, 1, 0, H - p - 8, q, hsh, hlt, hHl, .inr (.inl ⟨rfl, rfl, .inl ⟨rfl, rfl, rfl⟩⟩), hL, hhand, by omega, by omega⟩
    · exact ⟨H, B, C, A, A, B, C, p, H - p, 1, 1, H - p - 12, q, hsh, hlt, hHl, .inr (.inl ⟨rfl, rfl, .inr ⟨rfl, rfl, rfl⟩⟩), hL, hhand, by omega, by omega⟩
    · exact ⟨H, C, A, B, A, B, C, p, H - p, 2, 0, H - p - 16, q, hsh, hlt, hHl, .inr (.inr ⟨rfl, rfl, .inl ⟨rfl, rfl, rfl⟩⟩), hL, hhand, by omega, by omega⟩
    · exact ⟨H, C, B, A, A, B, C, p, H - p, 2, 1, H - p - 20, q, hsh, hlt, hHl, .inr (.inr ⟨rfl, rfl, .inr ⟨rfl, rfl, rfl⟩⟩), hL, hhand, by omega, by omega⟩
  have cases4 : p = 0 ∨ p = 1 ∨ p = 2 ∨ p = 3 := by omega
  rcases cases4 with rfl | rfl | rfl | rfl
  · exact key a b c d rfl rfl (by omega) (by omega) (.inl ⟨rfl, h1⟩) rfl (by omega)
  · exact key b a c d rfl rfl (by omega) (by omega) (.inr (.inl ⟨rfl, h1, h2⟩)) rfl (by omega)
  · exact key c a b d rfl rfl (by omega) (by omega) (.inr (.inr (.inl ⟨rfl, h2, h3⟩))) rfl (by omega)
  · exact key d a b c rfl rfl (by omega) (by omega) (.inr (.inr (.inr ⟨rfl, h3⟩))) rfl (by omega)
structure Named (f x y N a b c cnt num j e r q : Int) : Prop where
  lt : 0 ≤ a ∧ a < b ∧ b < c ∧ c < 27
  shape : Shape j e f x y a b c
  num_is : num = 4 * (2 * j + e) + r ∧ 0 ≤ r ∧ r < 4
  sum : f + x + y + r = 4 * q
  br : (cnt = 0 ∧ num < a) ∨ (cnt = 1 ∧ a ≤ num ∧ num < b - 1) ∨ (cnt = 2 ∧ b - 1 ≤ num ∧ num < c - 2) ∨ (cnt = 3 ∧ c - 2 ≤ num)
  n_is : N = num + cnt
  perm : [a, b, c].Perm [y, x, f]
theorem named_of {f x y N : Int} (h : NamedIs f x y N) : ∃ a b c cnt num j e r q, Named f x y N a b c cnt num j e r q := by
  obtain ⟨a, b, c, j, num, cnt, hp, hlt, hj, hg, hn, hB, hN⟩ := h
  obtain ⟨q, hq, hr0, hr4⟩ := fmod4 (-(f + x + y))
  have hs := shape_of ⟨hlt.2.1, hlt.2.2.1⟩ hp
  have hj3 : (j : Int) = 0 ∧ a = f ∨ (j : Int) = 1 ∧ b = f ∨ (j : Int) = 2 ∧ c = f := by
    match j, hj, hg with
    | 0, _, hg => exact .inl ⟨rfl, hg⟩
    | 1, _, hg => exact .inr (.inl ⟨rfl, hg⟩)
    | 2, _, hg => exact .inr (.inr ⟨rfl, hg⟩)
  obtain ⟨b0, _, b1, b2, b3⟩ := hB
  have hl3 : [a, b - 1, c - 2].length = 3 := rfl
  rw [hl3] at b1 b3
  have hbr : (cnt = 0 ∧ num < a) ∨ (cnt = 1 ∧ a ≤ num ∧ num < b - 1) ∨ (cnt = 2 ∧ b - 1 ≤ num ∧ num < c - 2) ∨ (cnt = 3 ∧ c - 2 ≤ num) := by
    have c4 : cnt = 0 ∨ cnt = 1 ∨ cnt = 2 ∨ cnt = 3 := by omega
    rcases c4 with rfl | rfl | rfl | rfl
    · exact .inl ⟨rfl, b3 0 (by decide) (by decide)⟩
    · exact .inr (.inl ⟨rfl, b2 0 (by decide), b3 1 (by decide) (by decide)⟩)
    · exact .inr (.inr (.inl ⟨rfl, b2 1 (by decide), b3 2 (by decide) (by decide)⟩))
    · exact .inr (.inr (.inr ⟨rfl, b2 2 (by decide)⟩))
  have hsh : Shape j (if y < x then 1 else 0) f x y a b c := by
    clear hbr hn hq hr0 hr4 hg hp hj b0 b1 b2 b3 hN
    rcases hs with ⟨rfl, rfl, rfl⟩ | ⟨rfl, rfl, rfl⟩ | ⟨rfl, rfl, rfl⟩ | ⟨rfl, rfl, rfl⟩ | ⟨rfl, rfl, rfl⟩ | ⟨rfl, rfl, rfl⟩
    · exact .inl ⟨by omega, rfl, .inl ⟨if_neg (by omega), rfl, rfl⟩⟩
    · exact .inl ⟨by omega, rfl, .inr ⟨if_pos (by omega), rfl, rfl⟩⟩
    · exact .inr (.inl ⟨by omega, rfl, .inl ⟨if_neg (by omega), rfl, rfl⟩⟩)
    · exact .inr (.inl ⟨by omega, rfl, .inr ⟨if_pos (by omega), rfl, rfl⟩⟩)
    · exact .inr (.inr ⟨by omega, rfl, .inl ⟨if_neg (by omega), rfl, rfl⟩⟩)
    · exact .inr (.inr ⟨by omega, rfl, .inr ⟨if_pos (by omega), rfl, rfl⟩⟩)
  exact ⟨a, b, c, cnt, num, j, if y < x then 1 else 0, (-(f + x + y)).fmod 4, -q, hlt, hsh, ⟨hn, hr0, hr4⟩, by clear hsh hs hbr hj3; omega, hbr, hN, hp⟩
/-- the fourth card is named from the three that are shown -/
theorem named_show {hs : List Int} {H f x y N a b c p m j e r q : Int} (h : Told hs H f x y a b c p m j e r q) (hN : NamedIs f x y N) : N = H := by
  obtain ⟨a', b', c', cnt, num, j', e', r', q', g⟩ := named_of hN
  obtain ⟨_, h1, h2, h3, h4, _, h6, h7⟩ := h
  obtain ⟨g1, g2, g3, g4, g5, g6, g7⟩ := g
  have hA : a' = a ∧ b' = b ∧ c' = c := by unfold Shape at h3 g2; clear h4 g5; omega
  obtain ⟨rfl, rfl, rfl⟩ := hA
  have hje : j' = j ∧ e' = e := by unfold Shape at h3 g2; clear h4 g5; omega
  have hsum : f + x + y = a' + b' + c' := by unfold Shape at h3; clear h4 g5; omega
  have hr : r' = r := by clear g5 h3 g2; unfold Lies at h4; omega
  unfold Lies at h4
  clear h3 g2
  omega
theorem sorted4 {a b c d : Int} (h : a < b ∧ b < c ∧ c < d) : [a, b, c, d].Pairwise (· ≤ ·) := by
  simp only [List.pairwise_cons, List.mem_cons, List.not_mem_nil, or_false, forall_eq_or_imp, forall_eq, List.Pairwise.nil, and_true, false_implies, implies_true]
  omega
theorem hand_eq {hs : List Int} {a b c d : Int} (h : a < b ∧ b < c ∧ c < d) (hp : hs.Perm [a, b, c, d]) (hs4 : Hand4 hs) : hs = [a, b, c, d] := by
  obtain ⟨x, y, z, u, rfl, _, h1, h2, h3, _⟩ := hs4
  exact List.Perm.eq_of_pairwise (le := (· ≤ ·)) (fun x y _ _ h1 h2 => Int.le_antisymm h1 h2) (sorted4 ⟨h1, h2, h3⟩) (sorted4 h) hp
/-- three cards and the one that they name are shown as they were -/
theorem show_named {hs : List Int} {f x y N : Int} (hN : NamedIs f x y N) (hp : hs.Perm [N, y, x, f]) (hs4 : Hand4 hs) : showM hs = [N, f, x, y] := by
  obtain ⟨a', b', c', cnt, num, j', e', r', q', g⟩ := named_of hN
  obtain ⟨H, F, X, Y, a, b, c, p, m, j, e, r, q, h⟩ := show_told hs4
  obtain ⟨h0, h1, h2, h3, h4, h5, h6, h7⟩ := h
  obtain ⟨g1, g2, g3, g4, g5, g6, g7⟩ := g
  have hsum : f + x + y = a' + b' + c' := by unfold Shape at g2; clear h4 g5 h3; omega
  have hp2 : hs.Perm [N, a', b', c'] := hp.trans (g7.symm.cons _)
  have fin : p = cnt → H = N → a = a' → b = b' → c = c' → showM hs = [N, f, x, y] := by
    intro e1 e2 e3 e4 e5
    subst e1 e2 e3 e4 e5
    have hm : j = j' ∧ e = e' := by unfold Shape at h3 g2; clear h4 g5; omega
    obtain ⟨rfl, rfl⟩ := hm
    have hf : F = f ∧ X = x ∧ Y = y := by unfold Shape at h3 g2; clear h4 g5; omega
    obtain ⟨rfl, rfl, rfl⟩ := hf
    exact h0
  unfold Lies at h4
  rcases g5 with g5 | g5 | g5 | g5
  · have e := hand_eq (by omega) hp2 hs4
    rcases h4 with h4 | h4 | h4 | h4 <;> (rw [e] at h5; simp [h4.1] at h5)
    · exact fin (by omega) h5.1.symm h5.2.1.symm h5.2.2.1.symm h5.2.2.2.symm
    all_goals (exfalso; omega)
  · have e := hand_eq (a := a') (b := N) (c := b') (d := c') (by omega) (hp2.trans (List.Perm.swap _ _ _)) hs4
    rcases h4 with h4 | h4 | h4 | h4 <;> (rw [e] at h5; simp [h4.1] at h5)
    · exfalso; omega
    · exact fin (by omega) h5.2.1.symm h5.1.symm h5.2.2.1.symm h5.2.2.2.symm
    all_goals (exfalso; omega)
  · have e := hand_eq (a := a') (b := b') (c := N) (d := c') (by omega) (hp2.trans (List.perm_middle (l₁ := [a', b']) (l₂ := [c'])).symm) hs4
    rcases h4 with h4 | h4 | h4 | h4 <;> (rw [e] at h5; simp [h4.1] at h5)
    · exfalso; omega
    · exfalso; omega
    · exact fin (by omega) h5.2.2.1.symm h5.1.symm h5.2.1.symm h5.2.2.2.symm
    · exfalso; omega
  · have e := hand_eq (a := a') (b := b') (c := c') (d := N) (by omega) (hp2.trans (List.perm_middle (l₁ := [a', b', c']) (l₂ := [])).symm) hs4
    rcases h4 with h4 | h4 | h4 | h4 <;> (rw [e] at h5; simp [h4.1] at h5)
    · exfalso; omega
    · exfalso; omega
    · exfalso; omega
    · exact fin (by omega) h5.2.2.2.symm h5.1.symm h5.2.1.symm h5.2.2.1.symm
/-- the card that three name is none of them -/
theorem named_new {f x y N : Int} (hN : NamedIs f x y N) : 0 ≤ N ∧ N < 27 ∧ N ≠ f ∧ N ≠ x ∧ N ≠ y := by
  obtain ⟨a', b', c', cnt, num, j', e', r', q', g⟩ := named_of hN
  obtain ⟨g1, g2, g3, g4, g5, g6, g7⟩ := g
  unfold Shape at g2
  have hb : 0 ≤ num ∧ num ≤ 23 := by clear g5; omega
  have hf : (f = a' ∨ f = b' ∨ f = c') ∧ (x = a' ∨ x = b' ∨ x = c') ∧ (y = a' ∨ y = b' ∨ y = c') := by clear g5; omega
  clear g2
  have hn : N ≠ a' ∧ N ≠ b' ∧ N ≠ c' ∧ 0 ≤ N ∧ N < 27 := by clear hf; omega
  clear g5
  omega

end Mine

namespace Mine
local macro_rules | `(tactic| walk_at "M_SPARE0") => `(tactic| skip)
local macro_rules | `(tactic| walk_at "M_SPARE1") => `(tactic| skip)
local macro_rules | `(tactic| walk_at "M_SPARE2") => `(tactic| skip)
local macro_rules | `(tactic| walk_at "M_SPARE3") => `(tactic| skip)
local macro_rules | `(tactic| walk_at "M_SPARE4") => `(tactic| skip)
local macro_rules | `(tactic| walk_at "M_SPARE5") => `(tactic| skip)
local macro_rules | `(tactic| walk_at "M_SPARE6") => `(tactic| skip)
local macro_rules | `(tactic| walk_at "M_SPARE7") => `(tactic| skip)
local macro_rules | `(tactic| walk_at "M_SPARE8") => `(tactic| skip)
local macro_rules | `(tactic| walk_at "M_SPARE9") => `(tactic| skip)
local macro_rules | `(tactic| walk_at "M_SPARE10") => `(tactic| skip)
local macro_rules | `(tactic| walk_at "M_SPARE11") => `(tactic| skip)
local macro_rules | `(tactic| walk_at "M_SPARE12") => `(tactic| skip)
local macro_rules | `(tactic| walk_at "M_SPARE13") => `(tactic| skip)
local macro_rules | `(tactic| walk_at "M_SPARE14") => `(tactic| skip)
local macro_rules | `(tactic| walk_at "M_SPARE15") => `(tactic| skip)
local macro_rules | `(tactic| walk_at "M_SPARE16") => `(tactic| skip)
local macro_rules | `(tactic| walk_at "M_SPARE17") => `(tactic| skip)
local macro_rules | `(tactic| walk_at "M_SPARE18") => `(tactic| skip)
local macro_rules | `(tactic| walk_at "M_SPARE19") => `(tactic| skip)
local macro_rules | `(tactic| walk_at "M_SPARE20") => `(tactic| skip)
local macro_rules | `(tactic| walk_at "M_SPARE21") => `(tactic| skip)
local macro_rules | `(tactic| walk_at "M_SPARE22") => `(tactic| skip)
local macro_rules | `(tactic| walk_at "M_SPARE23") => `(tactic| skip)
local macro_rules | `(tactic| walk_at "M_SPARE24") => `(tactic| skip)
example : True := by
  k_with_none
  trivial
local macro_rules | `(tactic| walk_at "M_ENTER") => `(tactic| (refine' code_def ?k1 ?k2 ?k3 ?k4 ?k5 ?kA ?kF ?kK ?k6 ?k7 ?k8 ?k9 ?kB ?_ ?c2 ?c3 ?c4 ?c5; (case kA => exact rfl); (case kF => assumption); (case kK => assumption); (case k1 => k_asm); (case k2 => k_asm); (case k3 => k_asm); (case k4 => k_asm); (case k5 => k_asm); (case k6 => k_is); (case k7 => k_is); (case k8 => ktr_room); (case k9 => first | exact BindsTo.of_eq rfl | exact binds_K (by k_in) rfl (by k_is) rfl rfl rfl | (refine' kp_binds ?kx ?ke; (case kx => k_in); (case ke => exact fun _ => rfl))); (case c5 => decide); (case kB => exact locs rfl); (case c2 => exact rfl); (case c3 => exact rfl); (case c4 => exact rfl); k_whole; intro g' L' h' FG' F' N' B' X' T'; (try dsimp only); (try k_lift B'); (try k_fold)))
local macro_rules | `(tactic| walk_at "M_ENTERC") => `(tactic| (refine' code_defC ?k1 ?k2 ?k3 ?k4 ?k5 ?kA ?kF ?kK ?k6 ?k7 ?k8 ?k9 ?kB ?kD ?_ ?c2 ?c3 ?c4; (case kA => exact rfl); (case kF => assumption); (case kK => assumption); (case k1 => k_asm); (case k2 => k_asm); (case k3 => k_asm); (case k4 => k_asm); (case k5 => k_asm); (case k6 => k_is); (case k7 => k_is); (case k8 => ktr_room); (case k9 => first | exact BindsTo.of_eq rfl | exact binds_K (by k_in) rfl (by k_is) rfl rfl rfl | (refine' kp_binds ?kx ?ke; (case kx => k_in); (case ke => exact fun _ => rfl))); (case kB => exact rfl); (case kD => decide +kernel); (case c2 => exact rfl); (case c3 => exact rfl); (case c4 => exact rfl); k_whole; intro g' L' h' tk' cells' FG' F' N' Y' B' X' T' l1; (try k_lt l1); k_cells Y'; (try simp only [List.cons_append, List.nil_append] at N'); (try dsimp only); (try k_lift B'); (try k_fold)))
local macro_rules | `(tactic| walk_at "M_ENTERN") => `(tactic| (refine' code_nest ?k1 ?k2 ?k3 ?k4 ?k5 ?kA ?kF ?kK ?k6 ?k7 ?k8 ?k9 ?kB ?_ ?c2 ?c3 ?c4 ?c5; (case kA => exact rfl); (case kF => assumption); (case kK => assumption); (case k1 => k_asm); (case k2 => k_asm); (case k3 => k_asm); (case k4 => k_asm); (case k5 => k_asm); (case k6 => k_mem); (case k7 => exact codeRec_news (by k_asm) (by k_mem) (by assumption) (by assumption)); (case k8 => ktr_room); (case k9 => exact BindsTo.of_eq rfl); (case c5 => decide); (case kB => exact locs rfl); (case c2 => exact rfl); (case c3 => exact rfl); (case c4 => exact rfl); k_whole; intro g' L' h' FG' F' N' B' X' T'; (try dsimp only); (try k_lift B'); (try k_fold)))
local macro_rules | `(tactic| k_all) => `(tactic| first | assumption | exact allLt_ne (by assumption) (by omega))
local macro_rules | `(tactic| walk_at "M_SIDE") => `(tactic| ((case kB => k_asm); (case kF => k_asm); (case kX => k_asm); (case kN => k_asm); (case kT => k_asm); (case kc => assumption); (case kf => first | rfl | assumption); (case kk => first | rfl | assumption); (case kd => ktr_room); (case ku => ktr_units)))
local macro_rules | `(tactic| walk_at "M_SIDE2") => `(tactic| ((case kB => k_asm); (case kF => k_asm); (case kX => k_asm); (case kT => k_asm); (case kc => assumption); (case kf => first | rfl | assumption); (case kk => first | rfl | assumption); (case kd => ktr_room); (case ku => ktr_units)))
local macro_rules | `(tactic| walk_at "eval Constant int") => `(tactic| (refine wpAny_Constant_int ?_; (try dsimp only)))
variable {w : World} {p : Program} {loose : List Str} {mean : ExcName → Option Value} {mg mb : Str → Option Value}
theorem st_canLay : ∀ ss : List Str, (∀ x ∈ ss, PyData.strOk x = true) → PyData.canLayAll0 (ss.map PyData.str) = true
  | [], _ => rfl
  | x :: r, h => by simp [PyData.canLayAll0, PyData.canLay0, h x (.head _), st_canLay r fun y hy => h y (.tail _ hy)]
theorem st_depth : ∀ ss : List Str, PyData.depthAll (ss.map PyData.str) = 0
  | [] => rfl
  | _ :: r => by simp [PyData.depthAll, PyData.depth, st_depth r]
theorem st_shaped (ss : List Str) (h : ∀ x ∈ ss, PyData.strOk x = true) : SeqAt.shaped (.list (ss.map PyData.str)) = true := by
  simp [SeqAt.shaped, PyData.canLay0, PyData.depth, st_canLay ss h, st_depth]
theorem st_same : ∀ ss : List Str, PySem.Spec.sameAll (ss.map PyData.str) (ss.map PyData.str) = true
  | [] => by simp [PySem.Spec.sameAll]
  | a :: r => by simp [PySem.Spec.sameAll, PySem.Spec.same, st_same r]
section
variable {prog : Program} {A : Around} {E : Value → Shared → Prop} {s : Shared} {h₀ : Heap} {L a b : Addr} {xs ys : List Value} {led : Led} {na nb : Nat} {Q : Value → Shared → Prop}
theorem ne_strsF {ss : List Str} (N : News h₀ L s.heap led) (ha : (a, lstO xs na) ∈ led) (hb : (b, lstO ys nb) ∈ led) (hi : StrsAre xs ss) (hj : StrsAre ys ss) (hok : ∀ x ∈ ss, PyData.strOk x = true) (hu : A.units + 64 < cLine) (h : Q (.bool false) s) :
    wpAny (model prog w) A (compareOp .NotEq (.ref a) (.ref b)) Q E s :=
  ne_dataH_same (reads_newData (isList_of N ha) hi.carried) (reads_newData (isList_of N hb) hj.carried) (st_shaped _ hok) (st_shaped _ hok) hu (SeqAt.noMix_of_shape (.list .str) rfl _ _ (list_map_has fun _ => rfl) (list_map_has fun _ => rfl)) (by
    have e : PySem.Spec.same (.list (ss.map PyData.str)) (.list (ss.map PyData.str)) = true := by simp only [PySem.Spec.same]; exact st_same ss
    rw [e]; exact h)
theorem ne_intsF {ns : List Int} (N : News h₀ L s.heap led) (ha : (a, lstO xs na) ∈ led) (hb : (b, lstO ys nb) ∈ led) (hi : IntsAre xs ns) (hj : IntsAre ys ns) (hu : A.units + 64 < cLine) (h : Q (.bool false) s) :
    wpAny (model prog w) A (compareOp .NotEq (.ref a) (.ref b)) Q E s :=
  ke_ne_ints (isList_of N ha) (isList_of N hb) hi hj hu (by rw [decide_eq_true rfl]; exact h)
theorem eq_intsF {ns : List Int} (N : News h₀ L s.heap led) (ha : (a, lstO xs na) ∈ led) (hb : (b, lstO ys nb) ∈ led) (hi : IntsAre xs ns) (hj : IntsAre ys ns) (hu : A.units + 64 < cLine) (h : Q (.bool true) s) :
    wpAny (model prog w) A (compareOp .Eq (.ref a) (.ref b)) Q E s :=
  ke_eq_ints (isList_of N ha) (isList_of N hb) hi hj hu (by rw [decide_eq_true rfl]; exact h)
end

theorem card_ok0 : ∀ key ∈ rowM, PyData.strOk (cardM key) = true := by decide +kernel
theorem card_strOk {r : Int} (hr : 0 ≤ r ∧ r < 27) : PyData.strOk (cardR r) = true := card_ok0 _ (key_mem hr)
theorem rank_cL {led : Led} {l : Addr} {vs : List Value} {n : Nat} {r : Int} {t : Tok} (hm : (l, lstO vs n) ∈ led) (hI : IntsAre vs rowM) (hr : 0 ≤ r ∧ r < 27) :
    Con w p loose mean mg mb (.ref 186) [.ref l, .str (cardR r) t] [] 6 400 led (fun x n' => (∃ t, x = .int r t) ∧ n' = led) :=
  (rank_c (news := led) hI hr).post (List.forall_mem_cons.mpr ⟨hm, fun _ h => h⟩) (by rintro x n' ⟨hx, rfl⟩; exact ⟨led, fun q hq => .tail _ hq, hx, rfl⟩)
theorem cards_at {vs : List Value} {l : List Int} {i : Nat} {v : Value} (h : StrsAre vs (l.map cardR)) (hv : vs[i]? = some v) : ∃ z t, l[i]? = some z ∧ v = .str (cardR z) t := by
  obtain ⟨y, t, rfl, hy⟩ := h.item _ _ hv
  rw [List.getElem?_map] at hy
  cases hz : l[i]? with
  | none => rw [hz] at hy; cases hy
  | some z => rw [hz] at hy; cases hy; exact ⟨z, t, rfl, rfl⟩
theorem cards_strOk {l : List Int} (h : ∀ z ∈ l, 0 ≤ z ∧ z < 27) : ∀ x ∈ l.map cardR, PyData.strOk x = true := fun x hx => by
  obtain ⟨z, hz, rfl⟩ := List.mem_map.mp hx
  exact card_strOk (h z hz)
/-- what the trick shows -/
theorem trick_of {hs : List Int} (h : Hand4 hs) : ∃ H f x y, showM hs = [H, f, x, y] ∧ (0 ≤ H ∧ H < 27) ∧ (0 ≤ f ∧ f < 27) ∧ (0 ≤ x ∧ x < 27) ∧ (0 ≤ y ∧ y < 27) ∧ Cards [y, x, f] ∧ ∀ N, NamedIs f x y N → N = H := by
  obtain ⟨H, f, x, y, a, b, c, pp, m, j, e, r, q, T⟩ := show_told h
  have hT := T
  obtain ⟨h0, h1, h2, h3, _, _, _, _⟩ := T
  have hb : (0 ≤ f ∧ f < 27) ∧ (0 ≤ x ∧ x < 27) ∧ (0 ≤ y ∧ y < 27) ∧ f ≠ x ∧ f ≠ y ∧ x ≠ y := by unfold Shape at h3; omega
  refine ⟨H, f, x, y, h0, h2, hb.1, hb.2.1, hb.2.2.1, ⟨?_, ?_⟩, fun N hN => named_show hT hN⟩
  · simp only [List.nodup_cons, List.mem_cons, List.not_mem_nil, or_false, not_or, not_false_eq_true, List.nodup_nil, and_true]
    omega
  · intro r hr
    simp only [List.mem_cons, List.not_mem_nil, or_false] at hr
    omega
theorem four_cards {a b c d : Int} (h : Four a b c d) : Cards [d, c, b, a] := by
  unfold Four at h
  refine ⟨?_, ?_⟩
  · simp only [List.nodup_cons, List.mem_cons, List.not_mem_nil, or_false, not_or, not_false_eq_true, List.nodup_nil, and_true]
    omega
  · intro r hr
    simp only [List.mem_cons, List.not_mem_nil, or_false] at hr
    omega
theorem three_at {f x y : Int} (hf : 0 ≤ f ∧ f < 27) (hx : 0 ≤ x ∧ x < 27) (hy : 0 ≤ y ∧ y < 27) : ∀ z ∈ [f, x, y], 0 ≤ z ∧ z < 27 := by
  intro z hz
  simp only [List.mem_cons, List.not_mem_nil, or_false] at hz
  omega

end Mine

namespace Mine
example : True := by
  k_with_none
  trivial
local macro_rules | `(tactic| walk_at "M_ENTER") => `(tactic| (refine' code_def ?k1 ?k2 ?k3 ?k4 ?k5 ?kA ?kF ?kK ?k6 ?k7 ?k8 ?k9 ?kB ?_ ?c2 ?c3 ?c4 ?c5; (case kA => exact rfl); (case kF => assumption); (case kK => assumption); (case k1 => k_asm); (case k2 => k_asm); (case k3 => k_asm); (case k4 => k_asm); (case k5 => k_asm); (case k6 => k_is); (case k7 => k_is); (case k8 => ktr_room); (case k9 => first | exact BindsTo.of_eq rfl | exact binds_K (by k_in) rfl (by k_is) rfl rfl rfl | (refine' kp_binds ?kx ?ke; (case kx => k_in); (case ke => exact fun _ => rfl))); (case c5 => decide); (case kB => exact locs rfl); (case c2 => exact rfl); (case c3 => exact rfl); (case c4 => exact rfl); k_whole; intro g' L' h' FG' F' N' B' X' T'; (try dsimp only); (try k_lift B'); (try k_fold)))
local macro_rules | `(tactic| walk_at "M_ENTERC") => `(tactic| (refine' code_defC ?k1 ?k2 ?k3 ?k4 ?k5 ?kA ?kF ?kK ?k6 ?k7 ?k8 ?k9 ?kB ?kD ?_ ?c2 ?c3 ?c4; (case kA => exact rfl); (case kF => assumption); (case kK => assumption); (case k1 => k_asm); (case k2 => k_asm); (case k3 => k_asm); (case k4 => k_asm); (case k5 => k_asm); (case k6 => k_is); (case k7 => k_is); (case k8 => ktr_room); (case k9 => first | exact BindsTo.of_eq rfl | exact binds_K (by k_in) rfl (by k_is) rfl rfl rfl | (refine' kp_binds ?kx ?ke; (case kx => k_in); (case ke => exact fun _ => rfl))); (case kB => exact rfl); (case kD => decide +kernel); (case c2 => exact rfl); (case c3 => exact rfl); (case c4 => exact rfl); k_whole; intro g' L' h' tk' cells' FG' F' N' Y' B' X' T' l1; (try k_lt l1); k_cells Y'; (try simp only [List.cons_append, List.nil_append] at N'); (try dsimp only); (try k_lift B'); (try k_fold)))
local macro_rules | `(tactic| walk_at "M_ENTERN") => `(tactic| (refine' code_nest ?k1 ?k2 ?k3 ?k4 ?k5 ?kA ?kF ?kK ?k6 ?k7 ?k8 ?k9 ?kB ?_ ?c2 ?c3 ?c4 ?c5; (case kA => exact rfl); (case kF => assumption); (case kK => assumption); (case k1 => k_asm); (case k2 => k_asm); (case k3 => k_asm); (case k4 => k_asm); (case k5 => k_asm); (case k6 => k_mem); (case k7 => exact codeRec_news (by k_asm) (by k_mem) (by assumption) (by assumption)); (case k8 => ktr_room); (case k9 => exact BindsTo.of_eq rfl); (case c5 => decide); (case kB => exact locs rfl); (case c2 => exact rfl); (case c3 => exact rfl); (case c4 => exact rfl); k_whole; intro g' L' h' FG' F' N' B' X' T'; (try dsimp only); (try k_lift B'); (try k_fold)))
local macro_rules | `(tactic| k_all) => `(tactic| first | assumption | exact allLt_ne (by assumption) (by omega))
local macro_rules | `(tactic| walk_at "M_SIDE") => `(tactic| ((case kB => k_asm); (case kF => k_asm); (case kX => k_asm); (case kN => k_asm); (case kT => k_asm); (case kc => assumption); (case kf => first | rfl | assumption); (case kk => first | rfl | assumption); (case kd => ktr_room); (case ku => ktr_units)))
local macro_rules | `(tactic| walk_at "M_SIDE2") => `(tactic| ((case kB => k_asm); (case kF => k_asm); (case kX => k_asm); (case kT => k_asm); (case kc => assumption); (case kf => first | rfl | assumption); (case kk => first | rfl | assumption); (case kd => ktr_room); (case ku => ktr_units)))
local macro_rules | `(tactic| walk_at "eval Constant int") => `(tactic| (refine wpAny_Constant_int ?_; (try dsimp only)))
variable {w : World} {p : Program} {loose : List Str} {mean : ExcName → Option Value} {mg mb : Str → Option Value}
section
variable {a1 a2 a3 a4 : Int} {k1 k2 k3 k4 tw tn : Tok} {D f2 c2 C dx x f1 ds pb : Addr} {o2 oc2 oC o1 oD : Obj} {vs ws : List Value} {k kp : Nat} {n : Int} {pre rest : Led}
/-- the order of a lexer's addresses -/
abbrev LexOrd (D f2 c2 C dx x f1 ds pb : Addr) : Prop := (@LT.lt Nat _ C D ∧ @LT.lt Nat _ D f1 ∧ @LT.lt Nat _ f1 c2 ∧ @LT.lt Nat _ c2 f2 ∧ @LT.lt Nat _ f2 ds) ∧ @LT.lt Nat _ ds dx ∧ @LT.lt Nat _ dx x ∧ @LT.lt Nat _ x pb
theorem lex_to {q : Addr × Obj} (h : q ∈ lexLed a1 a2 a3 a4 k1 k2 k3 k4 tw D f2 c2 C dx x f1 ds pb o2 oc2 oC o1 oD vs k n tn ((pb, lstO ws kp) :: (pre ++ rest))) : q ∈ pre ++ lexLed a1 a2 a3 a4 k1 k2 k3 k4 tw D f2 c2 C dx x f1 ds pb o2 oc2 oC o1 oD vs k n tn ((pb, lstO ws kp) :: rest) := by
  simp only [List.mem_cons, List.mem_append] at h ⊢
  rcases h with h | h | h | h | h | h | h | h | h | h | h <;> simp only [h, true_or, or_true]
theorem lex_of {q : Addr × Obj} (h : q ∈ pre ++ lexLed a1 a2 a3 a4 k1 k2 k3 k4 tw D f2 c2 C dx x f1 ds pb o2 oc2 oC o1 oD vs k n tn ((pb, lstO ws kp) :: rest)) : q ∈ lexLed a1 a2 a3 a4 k1 k2 k3 k4 tw D f2 c2 C dx x f1 ds pb o2 oc2 oC o1 oD vs k n tn ((pb, lstO ws kp) :: (pre ++ rest)) := by
  simp only [List.mem_cons, List.mem_append] at h ⊢
  rcases h with h | h | h | h | h | h | h | h | h | h | h <;> simp only [h, true_or, or_true]
theorem pb_ne (ho : LexOrd D f2 c2 C dx x f1 ds pb) (hlt : ∀ q ∈ rest, @LT.lt Nat _ q.1 C) (hpre : ∀ q ∈ pre, q.1 ≠ pb) : (@Ne Nat pb D ∧ @Ne Nat pb f2 ∧ @Ne Nat pb c2 ∧ @Ne Nat pb C ∧ @Ne Nat pb dx ∧ @Ne Nat pb x ∧ @Ne Nat pb f1 ∧ @Ne Nat pb ds) ∧ ∀ q ∈ pre ++ rest, q.1 ≠ pb := by
  refine ⟨⟨by omega, by omega, by omega, by omega, by omega, by omega, by omega, by omega⟩, fun q hq => ?_⟩
  have hC : @LT.lt Nat _ C pb := by omega
  rcases List.mem_append.mp hq with h | h
  · exact hpre q h
  · exact Nat.ne_of_lt (Nat.lt_trans (hlt q h) hC)
theorem push_p {z : Str} {tz : Tok} (ho : LexOrd D f2 c2 C dx x f1 ds pb) (hlt : ∀ q ∈ rest, @LT.lt Nat _ q.1 C) (hpre : ∀ q ∈ pre, q.1 ≠ pb) (hl : ws.length ≤ 40) :
    Con w p loose mean mg mb (.ref 141) [.ref x, .str z tz] [] 2 40 (pre ++ lexLed a1 a2 a3 a4 k1 k2 k3 k4 tw D f2 c2 C dx x f1 ds pb o2 oc2 oC o1 oD vs k n tn ((pb, lstO ws kp) :: rest))
      (fun r n' => r = .none ∧ n' = pre ++ lexLed a1 a2 a3 a4 k1 k2 k3 k4 tw D f2 c2 C dx x f1 ds pb o2 oc2 oC o1 oD vs k n tn ((pb, lstO (ws ++ [.str z tz]) (kp + 1)) :: rest)) := by
  refine (push_c (pb_ne ho hlt hpre) hl).post (fun q hq => lex_to hq) ?_
  rintro r n' ⟨rfl, rfl⟩
  exact ⟨_, fun q hq => lex_of hq, rfl, rfl⟩
theorem tokp_p {v : Value} (ho : LexOrd D f2 c2 C dx x f1 ds pb) (hlt : ∀ q ∈ rest, @LT.lt Nat _ q.1 C) (hpre : ∀ q ∈ pre, q.1 ≠ pb) (hl : (v :: ws).length ≤ 40) :
    Con w p loose mean mg mb (.ref 134) [.ref x] [] 2 40 (pre ++ lexLed a1 a2 a3 a4 k1 k2 k3 k4 tw D f2 c2 C dx x f1 ds pb o2 oc2 oC o1 oD vs k n tn ((pb, lstO (v :: ws) kp) :: rest))
      (fun r n' => r = v ∧ n' = pre ++ lexLed a1 a2 a3 a4 k1 k2 k3 k4 tw D f2 c2 C dx x f1 ds pb o2 oc2 oC o1 oD vs k n tn ((pb, lstO ws (kp + 1)) :: rest)) := by
  have hne : (@Ne Nat pb D ∧ @Ne Nat pb f2 ∧ @Ne Nat pb c2 ∧ @Ne Nat pb C ∧ @Ne Nat pb dx ∧ @Ne Nat pb x ∧ @Ne Nat pb f1 ∧ @Ne Nat pb ds) ∧ ∀ q ∈ pre ++ rest, q.1 ≠ pb := by
    refine ⟨(pb_ne (rest := []) (pre := []) ho (fun _ h => nomatch h) (fun _ h => nomatch h)).1, fun q hq => ?_⟩
    have hC : @LT.lt Nat _ C pb := by omega
    rcases List.mem_append.mp hq with h | h
    · exact hpre q h
    · exact Nat.ne_of_lt (Nat.lt_trans (hlt q h) hC)
  refine (tokp_c hne hl).post (fun q hq => lex_to hq) ?_
  rintro r n' ⟨rfl, rfl⟩
  exact ⟨_, fun q hq => lex_of hq, rfl, rfl⟩
theorem tok_p {cs : List Nat} (hLx : LexOk w p loose mean mg mb D f2 c2 C dx x f1 ds o2 oc2 oC o1 oD) (ho : LexOrd D f2 c2 C dx x f1 ds pb) (hlt : ∀ q ∈ rest, @LT.lt Nat _ q.1 C) (hpre : ∀ q ∈ pre, q.1 ≠ D ∧ q.1 ≠ dx) (hcs : cs.length ≤ 40) (hab : ∀ c ∈ cs, c ∈ ABC) (hvs : StrsAre vs (cs.map oneS)) :
    Con w p loose mean mg mb (.ref 134) [.ref x] [] 10 400 (pre ++ lexLed a1 a2 a3 a4 k1 k2 k3 k4 tw D f2 c2 C dx x f1 ds pb o2 oc2 oC o1 oD vs k n tn ((pb, lstO [] kp) :: rest))
      (fun r n' => ∃ t vs' k' tn', r = .str (tokM cs n).1 t ∧ n' = pre ++ lexLed a1 a2 a3 a4 k1 k2 k3 k4 tw D f2 c2 C dx x f1 ds pb o2 oc2 oC o1 oD vs' k' (tokM cs n).2.2 tn' ((pb, lstO [] kp) :: rest) ∧ StrsAre vs' ((tokM cs n).2.1.map oneS)) := by
  have hCdx : @LT.lt Nat _ C dx := by omega
  have hoD : ∀ q ∈ pre ++ rest, q.1 ≠ D := fun q hq => (List.mem_append.mp hq).elim (fun h => (hpre q h).1) fun h => Nat.ne_of_lt (Nat.lt_trans (hlt q h) ho.1.1)
  have hox : ∀ q ∈ pre ++ rest, q.1 ≠ dx := fun q hq => (List.mem_append.mp hq).elim (fun h => (hpre q h).2) fun h => Nat.ne_of_lt (Nat.lt_trans (hlt q h) hCdx)
  refine (tok_c hLx hoD hox ⟨by omega, by omega⟩ hcs hab hvs).post (fun q hq => lex_to hq) ?_
  rintro r n' ⟨t, vs', k', tn', rfl, rfl, hv⟩
  exact ⟨_, fun q hq => lex_of hq, t, vs', k', tn', rfl, rfl, hv⟩
end
theorem strs3 {vs : List Value} {a b c : Str} (h : StrsAre vs [a, b, c]) : ∃ ta tb tc, vs = [.str a ta, .str b tb, .str c tc] := by
  obtain ⟨ta, v1, rfl, h1⟩ := h.cons_inv
  obtain ⟨tb, v2, rfl, h2⟩ := h1.cons_inv
  obtain ⟨tc, v3, rfl, h3⟩ := h2.cons_inv
  rw [h3.nil_inv]
  exact ⟨ta, tb, tc, rfl⟩
theorem strs5 {vs : List Value} {a b c d e : Str} (h : StrsAre vs [a, b, c, d, e]) : ∃ ta tb tc td te, vs = [.str a ta, .str b tb, .str c tc, .str d td, .str e te] := by
  obtain ⟨ta, v1, rfl, h1⟩ := h.cons_inv
  obtain ⟨tb, tc, td, te, rfl⟩ := strs4 h1
  exact ⟨ta, tb, tc, td, te, rfl⟩
theorem Con.mono {f : Value} {vs : List Value} {kw : List (Str × Value)} {D U D' U' : Nat} {news : Led} {Post : Value → Led → Prop} (C : Con w p loose mean mg mb f vs kw D U news Post) (hD : D ≤ D') (hU : U ≤ U') : Con w p loose mean mg mb f vs kw D' U' news Post := by
  unfold Con at C ⊢
  intro dp un gd env outer A₀ base h₀ L m s R B F X N T hc hf hk hd hu hret
  exact C dp un gd env outer A₀ base h₀ L m s R B F X N T hc hf hk (by omega) (by omega) hret
/-- what is left to take: three words pushed back, the end, nothing -/
def TakeS (l3 : List Str) (w0 : Int) (i : Nat) (wsb vs : List Value) : Prop := StrsAre wsb (l3.drop i) ∧ StrsAre vs ((if i ≤ 3 then crL w0 ++ [101, 110, 100] else []).map oneS)
section
variable {a1 a2 a3 a4 : Int} {k1 k2 k3 k4 tw tn : Tok} {D f2 c2 C dx x f1 ds pb : Addr} {o2 oc2 oC o1 oD : Obj} {vs wsb : List Value} {k kp : Nat} {n : Int} {pre rest : Led}
theorem take_p {l3 : List Str} {w0 : Int} {i : Nat} (hLx : LexOk w p loose mean mg mb D f2 c2 C dx x f1 ds o2 oc2 oC o1 oD) (ho : LexOrd D f2 c2 C dx x f1 ds pb) (hlt : ∀ q ∈ rest, @LT.lt Nat _ q.1 C) (hpre : ∀ q ∈ pre, q.1 ≠ pb ∧ q.1 ≠ D ∧ q.1 ≠ dx) (h : TakeS l3 w0 i wsb vs) (h3 : l3.length = 3) (hi : i < 5) :
    Con w p loose mean mg mb (.ref 134) [.ref x] [] 10 400 (pre ++ lexLed a1 a2 a3 a4 k1 k2 k3 k4 tw D f2 c2 C dx x f1 ds pb o2 oc2 oC o1 oD vs k n tn ((pb, lstO wsb kp) :: rest))
      (fun r n' => ∃ y t vs' k' tn' wsb' kp', r = .str y t ∧ (l3 ++ [Str.ofString "end", Str.ofString ""])[i]? = some y ∧ n' = pre ++ lexLed a1 a2 a3 a4 k1 k2 k3 k4 tw D f2 c2 C dx x f1 ds pb o2 oc2 oC o1 oD vs' k' n tn' ((pb, lstO wsb' kp') :: rest) ∧ TakeS l3 w0 (i + 1) wsb' vs') := by
  obtain ⟨hw, hv⟩ := h
  by_cases h1 : i < 3
  · have hlt3 : i < l3.length := by omega
    rw [List.drop_eq_getElem_cons hlt3] at hw
    obtain ⟨t, ws, rfl, hw2⟩ := hw.cons_inv
    have hl : (Value.str l3[i] t :: ws).length ≤ 40 := by
      have e := strs_len hw2
      rw [List.length_drop] at e
      rw [List.length_cons]
      omega
    refine ((tokp_p ho hlt (fun q hq => (hpre q hq).1) hl).mono (by decide) (by decide)).post (fun _ h => h) ?_
    rintro r n' ⟨rfl, rfl⟩
    refine ⟨_, fun _ h => h, l3[i], t, vs, k, tn, ws, kp + 1, rfl, ?_, rfl, hw2, ?_⟩
    · rw [List.getElem?_append_left hlt3, List.getElem?_eq_getElem hlt3]
    · rw [if_pos (by omega)] at hv ⊢
      exact hv
  · rw [List.drop_eq_nil_of_le (by omega)] at hw
    have hnil := hw.nil_inv
    subst hnil
    have hx : i = 3 ∨ i = 4 := by omega
    rcases hx with rfl | rfl
    · rw [if_pos (by decide)] at hv
      have e : crL w0 ++ [101, 110, 100] = crL w0 ++ tailM [] := rfl
      rw [e] at hv
      refine (tok_p hLx ho hlt (fun q hq => (hpre q hq).2) (cr_tail_len (w0 := w0) (l := []) (by decide) (fun q hq => nomatch hq)) (cr_tail_abc (fun q hq => nomatch hq)) hv).post (fun _ h => h) ?_
      rintro r n' ⟨t, vs', k', tn', rfl, rfl, hv'⟩
      have e2 : tokM (crL w0 ++ tailM []) n = (Str.ofString "end", [], n) := tok_end w0 n
      rw [e2] at hv' ⊢
      refine ⟨_, fun _ h => h, _, t, vs', k', tn', [], kp, rfl, ?_, rfl, ?_, ?_⟩
      · rw [List.getElem?_append_right (by omega), h3]; rfl
      · rw [List.drop_eq_nil_of_le (by omega)]; exact .nil
      · rw [if_neg (by decide)]; exact hv'
    · rw [if_neg (by decide)] at hv
      refine (tok_p (cs := []) hLx ho hlt (fun q hq => (hpre q hq).2) (by decide) (fun c hc => nomatch hc) hv).post (fun _ h => h) ?_
      rintro r n' ⟨t, vs', k', tn', rfl, rfl, hv'⟩
      refine ⟨_, fun _ h => h, _, t, vs', k', tn', [], kp, rfl, ?_, rfl, ?_, ?_⟩
      · rw [List.getElem?_append_right (by omega), h3]; rfl
      · rw [List.drop_eq_nil_of_le (by omega)]; exact .nil
      · rw [if_neg (by decide)]; exact hv'
end
/-- what is taken, turn by turn -/
def TakeJ (led : List Value → Nat → Tok → List Value → Nat → Led) (l3 : List Str) (w0 : Int) (i : Nat) (ys : List Value) (nw : Led) : Prop :=
  ∃ vs k tn wsb kb, nw = led vs k tn wsb kb ∧ TakeS l3 w0 i wsb vs ∧ StrsAre ys ((l3 ++ [Str.ofString "end", Str.ofString ""]).take i)
theorem TakeJ.next {led : List Value → Nat → Tok → List Value → Nat → Led} {l3 : List Str} {w0 : Int} {i : Nat} {ys : List Value} {y : Str} {t : Tok} {vs : List Value} {k : Nat} {tn : Tok} {wsb : List Value} {kb : Nat} (hys : StrsAre ys ((l3 ++ [Str.ofString "end", Str.ofString ""]).take i)) (hy : (l3 ++ [Str.ofString "end", Str.ofString ""])[i]? = some y) (hs : TakeS l3 w0 (i + 1) wsb vs) : TakeJ led l3 w0 (i + 1) (ys ++ [.str y t]) (led vs k tn wsb kb) := by
  refine ⟨vs, k, tn, wsb, kb, rfl, hs, ?_⟩
  rw [List.take_add_one, hy]
  exact kct_snoc hys

end Mine

namespace Mine
local macro_rules | `(tactic| walk_at "M_SPARE0") => `(tactic| skip)
local macro_rules | `(tactic| walk_at "M_SPARE1") => `(tactic| skip)
local macro_rules | `(tactic| walk_at "M_SPARE2") => `(tactic| skip)
local macro_rules | `(tactic| walk_at "M_SPARE3") => `(tactic| skip)
local macro_rules | `(tactic| walk_at "M_SPARE4") => `(tactic| skip)
local macro_rules | `(tactic| walk_at "M_SPARE5") => `(tactic| skip)
local macro_rules | `(tactic| walk_at "M_SPARE6") => `(tactic| skip)
local macro_rules | `(tactic| walk_at "M_SPARE7") => `(tactic| skip)
local macro_rules | `(tactic| walk_at "M_SPARE8") => `(tactic| skip)
local macro_rules | `(tactic| walk_at "M_SPARE9") => `(tactic| skip)
local macro_rules | `(tactic| walk_at "M_SPARE10") => `(tactic| skip)
local macro_rules | `(tactic| walk_at "M_SPARE11") => `(tactic| skip)
local macro_rules | `(tactic| walk_at "M_SPARE12") => `(tactic| skip)
local macro_rules | `(tactic| walk_at "M_SPARE13") => `(tactic| skip)
local macro_rules | `(tactic| walk_at "M_SPARE14") => `(tactic| skip)
local macro_rules | `(tactic| walk_at "M_SPARE15") => `(tactic| skip)
local macro_rules | `(tactic| walk_at "M_SPARE16") => `(tactic| skip)
local macro_rules | `(tactic| walk_at "M_SPARE17") => `(tactic| skip)
local macro_rules | `(tactic| walk_at "M_SPARE18") => `(tactic| skip)
local macro_rules | `(tactic| walk_at "M_SPARE19") => `(tactic| skip)
local macro_rules | `(tactic| walk_at "M_SPARE20") => `(tactic| skip)
local macro_rules | `(tactic| walk_at "M_SPARE21") => `(tactic| skip)
local macro_rules | `(tactic| walk_at "M_SPARE22") => `(tactic| skip)
local macro_rules | `(tactic| walk_at "M_SPARE23") => `(tactic| skip)
local macro_rules | `(tactic| walk_at "M_SPARE24") => `(tactic| skip)
example : True := by
  k_with_none
  trivial
local macro_rules | `(tactic| walk_at "M_ENTER") => `(tactic| (refine' code_def ?k1 ?k2 ?k3 ?k4 ?k5 ?kA ?kF ?kK ?k6 ?k7 ?k8 ?k9 ?kB ?_ ?c2 ?c3 ?c4 ?c5; (case kA => exact rfl); (case kF => assumption); (case kK => assumption); (case k1 => k_asm); (case k2 => k_asm); (case k3 => k_asm); (case k4 => k_asm); (case k5 => k_asm); (case k6 => k_is); (case k7 => k_is); (case k8 => ktr_room); (case k9 => first | exact BindsTo.of_eq rfl | exact binds_K (by k_in) rfl (by k_is) rfl rfl rfl | (refine' kp_binds ?kx ?ke; (case kx => k_in); (case ke => exact fun _ => rfl))); (case c5 => decide); (case kB => exact locs rfl); (case c2 => exact rfl); (case c3 => exact rfl); (case c4 => exact rfl); k_whole; intro g' L' h' FG' F' N' B' X' T'; (try dsimp only); (try k_lift B'); (try k_fold)))
local macro_rules | `(tactic| walk_at "M_ENTERC") => `(tactic| (refine' code_defC ?k1 ?k2 ?k3 ?k4 ?k5 ?kA ?kF ?kK ?k6 ?k7 ?k8 ?k9 ?kB ?kD ?_ ?c2 ?c3 ?c4; (case kA => exact rfl); (case kF => assumption); (case kK => assumption); (case k1 => k_asm); (case k2 => k_asm); (case k3 => k_asm); (case k4 => k_asm); (case k5 => k_asm); (case k6 => k_is); (case k7 => k_is); (case k8 => ktr_room); (case k9 => first | exact BindsTo.of_eq rfl | exact binds_K (by k_in) rfl (by k_is) rfl rfl rfl | (refine' kp_binds ?kx ?ke; (case kx => k_in); (case ke => exact fun _ => rfl))); (case kB => exact rfl); (case kD => decide +kernel); (case c2 => exact rfl); (case c3 => exact rfl); (case c4 => exact rfl); k_whole; intro g' L' h' tk' cells' FG' F' N' Y' B' X' T' l1; (try k_lt l1); k_cells Y'; (try simp only [List.cons_append, List.nil_append] at N'); (try dsimp only); (try k_lift B'); (try k_fold)))
local macro_rules | `(tactic| walk_at "M_ENTERN") => `(tactic| (refine' code_nest ?k1 ?k2 ?k3 ?k4 ?k5 ?kA ?kF ?kK ?k6 ?k7 ?k8 ?k9 ?kB ?_ ?c2 ?c3 ?c4 ?c5; (case kA => exact rfl); (case kF => assumption); (case kK => assumption); (case k1 => k_asm); (case k2 => k_asm); (case k3 => k_asm); (case k4 => k_asm); (case k5 => k_asm); (case k6 => k_mem); (case k7 => exact codeRec_news (by k_asm) (by k_mem) (by assumption) (by assumption)); (case k8 => ktr_room); (case k9 => exact BindsTo.of_eq rfl); (case c5 => decide); (case kB => exact locs rfl); (case c2 => exact rfl); (case c3 => exact rfl); (case c4 => exact rfl); k_whole; intro g' L' h' FG' F' N' B' X' T'; (try dsimp only); (try k_lift B'); (try k_fold)))
local macro_rules | `(tactic| k_all) => `(tactic| first | assumption | exact allLt_ne (by assumption) (by omega))
local macro_rules | `(tactic| walk_at "M_SIDE") => `(tactic| ((case kB => k_asm); (case kF => k_asm); (case kX => k_asm); (case kN => k_asm); (case kT => k_asm); (case kc => assumption); (case kf => first | rfl | assumption); (case kk => first | rfl | assumption); (case kd => ktr_room); (case ku => ktr_units)))
local macro_rules | `(tactic| walk_at "M_SIDE2") => `(tactic| ((case kB => k_asm); (case kF => k_asm); (case kX => k_asm); (case kT => k_asm); (case kc => assumption); (case kf => first | rfl | assumption); (case kk => first | rfl | assumption); (case kd => ktr_room); (case ku => ktr_units)))
local macro_rules | `(tactic| walk_at "eval Constant int") => `(tactic| (refine wpAny_Constant_int ?_; (try dsimp only)))
variable {w : World} {p : Program} {loose : List Str} {mean : ExcName → Option Value} {mg mb : Str → Option Value}
theorem NoCode.dict {es : List DictEntry} {n : Nat} : NoCode (dictOf es n) := fun v h => by cases h
theorem NoCode.t4 {c : Addr} : NoCode (T4 c) := fun v h s t => by cases h; simp [rawInt]
theorem NoCode.t5 {c : Addr} : NoCode (T5 c) := fun v h s t => by cases h; simp [rawInt]
theorem code_off {l : Led} {c : Addr} {oc : Obj} {v : Array Value} {q : Str} {t : Tok} {xs : List Addr} (h : (c, oc) ∈ l ∨ AllLt c l) (hd : oc.data = .fields v) (hv : v[1]? = some (.str q t))
    (hP : ∀ p ∈ l, NoCode p.2 ∨ ∀ x ∈ xs, p.1 ≠ x) (hin : ∀ x ∈ xs, ∃ o, (x, o) ∈ l) : ∀ x ∈ xs, c ≠ x := by
  intro x hx
  rcases h with h | h
  · exact (hP _ h).elim (fun hn => absurd hv (hn v hd q t)) fun hn => hn x hx
  · obtain ⟨o, ho⟩ := hin x hx
    exact Nat.ne_of_gt (allLt_mem h _ ho)

end Mine

namespace Mine
example : True := by
  k_with_none
  trivial
local macro_rules | `(tactic| walk_at "M_ENTER") => `(tactic| (refine' code_def ?k1 ?k2 ?k3 ?k4 ?k5 ?kA ?kF ?kK ?k6 ?k7 ?k8 ?k9 ?kB ?_ ?c2 ?c3 ?c4 ?c5; (case kA => exact rfl); (case kF => assumption); (case kK => assumption); (case k1 => k_asm); (case k2 => k_asm); (case k3 => k_asm); (case k4 => k_asm); (case k5 => k_asm); (case k6 => k_is); (case k7 => k_is); (case k8 => ktr_room); (case k9 => first | exact BindsTo.of_eq rfl | exact binds_K (by k_in) rfl (by k_is) rfl rfl rfl | (refine' kp_binds ?kx ?ke; (case kx => k_in); (case ke => exact fun _ => rfl))); (case c5 => decide); (case kB => exact locs rfl); (case c2 => exact rfl); (case c3 => exact rfl); (case c4 => exact rfl); k_whole; intro g' L' h' FG' F' N' B' X' T'; (try dsimp only); (try k_lift B'); (try k_fold)))
local macro_rules | `(tactic| walk_at "M_ENTERC") => `(tactic| (refine' code_defC ?k1 ?k2 ?k3 ?k4 ?k5 ?kA ?kF ?kK ?k6 ?k7 ?k8 ?k9 ?kB ?kD ?_ ?c2 ?c3 ?c4; (case kA => exact rfl); (case kF => assumption); (case kK => assumption); (case k1 => k_asm); (case k2 => k_asm); (case k3 => k_asm); (case k4 => k_asm); (case k5 => k_asm); (case k6 => k_is); (case k7 => k_is); (case k8 => ktr_room); (case k9 => first | exact BindsTo.of_eq rfl | exact binds_K (by k_in) rfl (by k_is) rfl rfl rfl | (refine' kp_binds ?kx ?ke; (case kx => k_in); (case ke => exact fun _ => rfl))); (case kB => exact rfl); (case kD => decide +kernel); (case c2 => exact rfl); (case c3 => exact rfl); (case c4 => exact rfl); k_whole; intro g' L' h' tk' cells' FG' F' N' Y' B' X' T' l1; (try k_lt l1); k_cells Y'; (try simp only [List.cons_append, List.nil_append] at N'); (try dsimp only); (try k_lift B'); (try k_fold)))
local macro_rules | `(tactic| walk_at "M_ENTERN") => `(tactic| (refine' code_nest ?k1 ?k2 ?k3 ?k4 ?k5 ?kA ?kF ?kK ?k6 ?k7 ?k8 ?k9 ?kB ?_ ?c2 ?c3 ?c4 ?c5; (case kA => exact rfl); (case kF => assumption); (case kK => assumption); (case k1 => k_asm); (case k2 => k_asm); (case k3 => k_asm); (case k4 => k_asm); (case k5 => k_asm); (case k6 => k_mem); (case k7 => exact codeRec_news (by k_asm) (by k_mem) (by assumption) (by assumption)); (case k8 => ktr_room); (case k9 => exact BindsTo.of_eq rfl); (case c5 => decide); (case kB => exact locs rfl); (case c2 => exact rfl); (case c3 => exact rfl); (case c4 => exact rfl); k_whole; intro g' L' h' FG' F' N' B' X' T'; (try dsimp only); (try k_lift B'); (try k_fold)))
local macro_rules | `(tactic| k_all) => `(tactic| first | assumption | exact allLt_ne (by assumption) (by omega))
local macro_rules | `(tactic| walk_at "M_SIDE") => `(tactic| ((case kB => k_asm); (case kF => k_asm); (case kX => k_asm); (case kN => k_asm); (case kT => k_asm); (case kc => assumption); (case kf => first | rfl | assumption); (case kk => first | rfl | assumption); (case kd => ktr_room); (case ku => ktr_units)))
local macro_rules | `(tactic| walk_at "M_SIDE2") => `(tactic| ((case kB => k_asm); (case kF => k_asm); (case kX => k_asm); (case kT => k_asm); (case kc => assumption); (case kf => first | rfl | assumption); (case kk => first | rfl | assumption); (case kd => ktr_room); (case ku => ktr_units)))
local macro_rules | `(tactic| walk_at "eval Constant int") => `(tactic| (refine wpAny_Constant_int ?_; (try dsimp only)))
variable {w : World} {p : Program} {loose : List Str} {mean : ExcName → Option Value} {mg mb : Str → Option Value}
section
variable {prog : Program} {A : Around} {E : Value → Shared → Prop} {s : Shared} {h₀ : Heap} {L : Addr} {m : Str → Option Value} {env : Env}
def TupAt (ax : Addr) (its : Array Value) (nw : Led) : Prop := ∃ o, (ax, o) ∈ nw ∧ o.cls = .type "tuple" ∧ ∃ n, o.data = .seq its n
/-- the source of a comprehension over a tuple of the ledger -/
def TupSrc (prog : Program) (w : World) (A : Around) (h₀ : Heap) (L : Addr) (m : Str → Option Value) (env : Env) (elt : Expr) (x : Str) (scope : Scope) (cl : List (Str × Addr)) (Fin : Shared → List Value → Led → Prop) (xv : Value) (s₁ : Shared) : Prop :=
  ∃ ax its news, xv = .ref ax ∧ A.handled = none ∧ Fr h₀ L s₁.heap m ∧ News h₀ L s₁.heap news ∧ TupAt ax its news ∧ its.size ≤ sizeLine ∧
    ∀ s₂ : Shared, (∃ h, s₂ = { s₁ with heap := h }) → LCg.CompRest prog w A h₀ L m env elt x scope cl s₂ (TupAt ax its) (fun i v => its[i]? = some v) (Fin s₂) its.size 0 [] news
theorem TupSrc.intro {elt : Expr} {x : Str} {scope : Scope} {cl : List (Str × Addr)} {Fin : Shared → List Value → Led → Prop} {ax : Addr} {its : Array Value} {k : Nat} {news : Led} {s₁ : Shared}
    (hh : A.handled = none) (F : Fr h₀ L s₁.heap m) (N : News h₀ L s₁.heap news) (hm : (ax, ({ cls := .type "tuple", data := .seq its k } : Obj)) ∈ news) (hsz : its.size ≤ sizeLine)
    (h : ∀ g, LCg.CompRest prog w A h₀ L m env elt x scope cl { s₁ with heap := g } (TupAt ax its) (fun i v => its[i]? = some v) (Fin { s₁ with heap := g }) its.size 0 [] news) :
    TupSrc prog w A h₀ L m env elt x scope cl Fin (.ref ax) s₁ := ⟨ax, its, news, rfl, hh, F, N, ⟨_, hm, rfl, _, rfl⟩, hsz, fun _ ⟨g, e⟩ => e ▸ h g⟩
theorem tup_st {ax I : Addr} {its : Array Value} : ∀ i (h h' : Heap) (o : Obj) (nw : Led), (h.IsTupleIter I ax i ∧ h.IsTuple ax its) → h.get? I = some o → h'.get? I = some o → (∀ b o, h₀.get? b = some o → h'.get? b = some o) → News h₀ L h' nw → TupAt ax its nw → (h'.IsTupleIter I ax i ∧ h'.IsTuple ax its) :=
  fun i h h' o nw st e e' k N S => ⟨by obtain ⟨o', q, r⟩ := st.1; rw [e] at q; cases q; exact ⟨o, e', r⟩, by obtain ⟨o', hm, r⟩ := S; exact ⟨o', (N _ hm).1, r⟩⟩
theorem ListComp_P {elt iter : Expr} {x : Str} {px : Pos} {scope : Scope} {cl : List (Str × Addr)} {pos : Pos} {Q : Value → Shared → Prop} (F₀ : Fr h₀ L s.heap m)
    (hclos : closureFor scope env = pure cl) (hcell : ∀ y ∈ scope.names, y.2 ≠ .cell) (hkind : scope.kind = .function)
    (hnames : ∀ y ∈ scope.names, y.2 = .local → scope.names.lookup y.1 = some .local) (hx : scope.names.lookup x = some .local)
    (h : wpAny (model prog w) A (eval iter env) (TupSrc prog w A h₀ L m env elt x scope cl (fun s₂ => LCg.FinE h₀ L m s₂ Q)) E s)
    (hs : ∀ x, foldedSetIterable iter env x = pure x := by intro _; rfl) :
    wpAny (model prog w) A (eval (.ListComp elt [⟨.Name x px, iter, [], 0⟩] scope pos) env) Q E s := by
  rw [eval_ListComp]
  refine wpAny_comprehension_free (use := none) rfl hs hclos hkind hnames (wpAny_mono h (fun xv s₁ h₁ => ?_) fun _ _ e => e)
  obtain ⟨ax, its, news, rfl, hh, F, N, S, hsz, R⟩ := h₁
  have hl : s₁.heap.IsTuple ax its := by obtain ⟨o', hm, r⟩ := S; exact ⟨o', (N _ hm).1, r⟩
  have hlt : ax < s₁.heap.objs.size := by obtain ⟨_, e, _⟩ := hl; exact Heap.lt_size e
  refine wpAny_pyIter_tuple hl ?_
  have up : ∀ b o, s₁.heap.get? b = some o → (s₁.heap.push { cls := .type "tuple_iterator", data := .fields #[.ref ax, .int 0 0] }).get? b = some o := fun b o e => Heap.get?_push_of_some _ e
  have hl2 : (s₁.heap.push { cls := .type "tuple_iterator", data := .fields #[.ref ax, .int 0 0] }).IsTuple ax its := by obtain ⟨o', e, r⟩ := hl; exact ⟨o', up _ _ e, r⟩
  refine LCg.block_U (Walks.tuple hh s₁.heap.objs.size ax (Nat.ne_of_lt hlt) its) hsz (fun i h st => by obtain ⟨o, e, _⟩ := st.1; exact ⟨o, e⟩) tup_st hcell hkind hx ⟨⟨_, Heap.get?_push_size _ rfl, rfl, rfl⟩, hl2⟩ (fun b hb => ?_)
    (F.keeps up) (N.grown up) (Nat.ne_of_lt F.ns.lt) (next_is_new F) (fun p hp => Nat.ne_of_lt (Heap.lt_size (N p hp).1)) S (R _ ⟨_, rfl⟩) ?_
  · show b < (s₁.heap.push _).objs.size
    rw [Heap.size_push]
    rcases List.mem_cons.mp hb with rfl | hb
    · exact Nat.lt_succ_self _
    · rw [List.mem_singleton.mp hb]; exact Nat.lt_succ_of_lt hlt
  · intro D C h tk m' ys news' F' N' o1 hn hC₀ hD₀ hCL hDL hCD offC fin
    refine ⟨m', hn, fun h'' hs'' => fin D h'' tk (F'.change hs'' hCL hC₀) (fun p hp => ?_) o1⟩
    refine ⟨hs''.extBut _ _ ?_ (N' p hp).1, (N' p hp).2⟩
    rcases List.mem_cons.mp hp with rfl | hp
    · exact Ne.symm hCD
    · exact offC p hp
theorem div_ok {a b : Int} {t u : Tok} {Q : Value → Shared → Prop} (hb : b ≠ 0) (hi : ¬ Float64.isInf (Float64.ofFrac (decide (a < 0) != decide (b < 0)) a.natAbs b.natAbs) = true) (h : Q (.float (Float64.ofFrac (decide (a < 0) != decide (b < 0)) a.natAbs b.natAbs) s.toks) { s with toks := s.toks + 1 }) : wpAny (model prog w) A (binaryOp .Div (.int a t) (.int b u)) Q E s :=
  AutoIntOps.truediv_2 (by simpa using hb) hi h
end
def frac (a b : Int) : UInt64 := Float64.ofFrac (decide (a < 0) != decide (b < 0)) a.natAbs b.natAbs
def colHue (b k : Int) : UInt64 := Float64.add (Float64.ofInt b) (frac (k.fdiv 9) 12)
def colShare (k : Int) : UInt64 := frac ((k.fdiv 3).fmod 3) 2
def colVal (k : Int) : UInt64 := frac (k.fmod 3) 2
def signNo (c : Nat) : Int := Txt.find signs3 ⟨#[c]⟩
def colChk (b k : Int) : Bool :=
  match (cardM k).cps.toList, hsvM (colHue b k) (colShare k) (colVal k) with
  | [x, y, z], some (p, q, r) => signOk x && signOk y && signOk z && !Float64.isInf (frac (k.fdiv 9) 12) && !Float64.isInf (frac ((k.fdiv 3).fmod 3) 2) && !Float64.isInf (frac (k.fmod 3) 2) &&
      Float64.isFinite (nearM p 2) && Float64.isFinite (nearM q 2) && Float64.isFinite (nearM r 2) &&
      (Flt.toInt Float64.truncOf (nearM p 2) == signNo x * 2 ^ Int.toNat 20) && (Flt.toInt Float64.truncOf (nearM q 2) == signNo y * 2 ^ Int.toNat 20) && (Flt.toInt Float64.truncOf (nearM r 2) == signNo z * 2 ^ Int.toNat 20)
  | _, _ => false
theorem colChk_all : ∀ k ∈ rowM, ∀ b ∈ [(0 : Int), 1], colChk b k = true := by decide +kernel
theorem col_get {b k : Int} (hk : k ∈ rowM) (hb : 0 ≤ b ∧ b < 2) : ∃ x y z p q r, (cardM k).cps = #[x, y, z] ∧ (∀ (i : Nat) (u : Nat), (cardM k).cps[i]? = some u → u = 10 ∨ u = 34 ∨ u = 92) ∧ (¬ Float64.isInf (frac (k.fdiv 9) 12) = true ∧ ¬ Float64.isInf (frac ((k.fdiv 3).fmod 3) 2) = true ∧ ¬ Float64.isInf (frac (k.fmod 3) 2) = true) ∧
    hsvM (colHue b k) (colShare k) (colVal k) = some (p, q, r) ∧ (Float64.isFinite (nearM p 2) = true ∧ Flt.toInt Float64.truncOf (nearM p 2) = signNo x * 2 ^ Int.toNat 20) ∧ (Float64.isFinite (nearM q 2) = true ∧ Flt.toInt Float64.truncOf (nearM q 2) = signNo y * 2 ^ Int.toNat 20) ∧ (Float64.isFinite (nearM r 2) = true ∧ Flt.toInt Float64.truncOf (nearM r 2) = signNo z * 2 ^ Int.toNat 20) := by
  have hb2 : b ∈ [(0 : Int), 1] := by
    have : b = 0 ∨ b = 1 := by omega
    rcases this with rfl | rfl
    · exact .head _
    · exact .tail _ (.head _)
  have h := colChk_all k hk b hb2
  unfold colChk at h
  split at h
  case h_2 => cases h
  case h_1 x y z p q r hw hM =>
    simp only [Bool.and_eq_true, beq_iff_eq, Bool.not_eq_true'] at h
    obtain ⟨⟨⟨⟨⟨⟨⟨⟨⟨⟨⟨sx, sy⟩, sz⟩, i1⟩, i2⟩, i3⟩, f1⟩, f2⟩, f3⟩, e1⟩, e2⟩, e3⟩ := h
    have hw' : (cardM k).cps = #[x, y, z] := Array.toList_inj.mp hw
    have so : ∀ n, signOk n = true → n = 10 ∨ n = 34 ∨ n = 92 := fun n hn => by
      simp only [signOk, Bool.or_eq_true, beq_iff_eq] at hn
      omega
    refine ⟨x, y, z, p, q, r, hw', fun i u hu => ?_, ⟨by rw [i1]; exact Bool.false_ne_true, by rw [i2]; exact Bool.false_ne_true, by rw [i3]; exact Bool.false_ne_true⟩, hM, ⟨f1, e1⟩, ⟨f2, e2⟩, ⟨f3, e3⟩⟩
    rw [hw'] at hu
    match i, hu with
    | 0, hu => cases hu; exact so _ sx
    | 1, hu => cases hu; exact so _ sy
    | 2, hu => cases hu; exact so _ sz
    | n + 3, hu => simp at hu
theorem floats_at {p q r : UInt64} {a b c : Tok} {x y z : Nat} {i : Nat} {v : Value} (hv : [Value.float p a, .float q b, .float r c][i]? = some v) : ∃ u n t, v = .float u t ∧ [(p, x), (q, y), (r, z)][i]? = some (u, n) ∧ ((u, n) = (p, x) ∨ (u, n) = (q, y) ∨ (u, n) = (r, z)) := by
  match i, hv with
  | 0, hv => cases hv; exact ⟨p, x, a, rfl, rfl, .inl rfl⟩
  | 1, hv => cases hv; exact ⟨q, y, b, rfl, rfl, .inr (.inl rfl)⟩
  | 2, hv => cases hv; exact ⟨r, z, c, rfl, rfl, .inr (.inr rfl)⟩
  | n + 3, hv => simp at hv
theorem signNo_of : ∀ c ∈ [10, 34, 92], Txt.find signs3 ⟨#[c]⟩ ≠ -1 ∧ 0 ≤ Txt.find signs3 ⟨#[c]⟩ ∧ Txt.find signs3 ⟨#[c]⟩ ≤ 2 := by decide +kernel

end Mine

namespace Mine
local macro_rules | `(tactic| walk_at "M_SPARE0") => `(tactic| skip)
local macro_rules | `(tactic| walk_at "M_SPARE1") => `(tactic| skip)
local macro_rules | `(tactic| walk_at "M_SPARE2") => `(tactic| skip)
local macro_rules | `(tactic| walk_at "M_SPARE3") => `(tactic| skip)
local macro_rules | `(tactic| walk_at "M_SPARE4") => `(tactic| skip)
local macro_rules | `(tactic| walk_at "M_SPARE5") => `(tactic| skip)
local macro_rules | `(tactic| walk_at "M_SPARE6") => `(tactic| skip)
local macro_rules | `(tactic| walk_at "M_SPARE7") => `(tactic| skip)
local macro_rules | `(tactic| walk_at "M_SPARE8") => `(tactic| skip)
local macro_rules | `(tactic| walk_at "M_SPARE9") => `(tactic| skip)
local macro_rules | `(tactic| walk_at "M_SPARE10") => `(tactic| skip)
local macro_rules | `(tactic| walk_at "M_SPARE11") => `(tactic| skip)
local macro_rules | `(tactic| walk_at "M_SPARE12") => `(tactic| skip)
local macro_rules | `(tactic| walk_at "M_SPARE13") => `(tactic| skip)
local macro_rules | `(tactic| walk_at "M_SPARE14") => `(tactic| skip)
local macro_rules | `(tactic| walk_at "M_SPARE15") => `(tactic| skip)
local macro_rules | `(tactic| walk_at "M_SPARE16") => `(tactic| skip)
local macro_rules | `(tactic| walk_at "M_SPARE17") => `(tactic| skip)
local macro_rules | `(tactic| walk_at "M_SPARE18") => `(tactic| skip)
local macro_rules | `(tactic| walk_at "M_SPARE19") => `(tactic| skip)
local macro_rules | `(tactic| walk_at "M_SPARE20") => `(tactic| skip)
local macro_rules | `(tactic| walk_at "M_SPARE21") => `(tactic| skip)
local macro_rules | `(tactic| walk_at "M_SPARE22") => `(tactic| skip)
local macro_rules | `(tactic| walk_at "M_SPARE23") => `(tactic| skip)
local macro_rules | `(tactic| walk_at "M_SPARE24") => `(tactic| skip)
example : True := by
  k_with_none
  trivial
local macro_rules | `(tactic| walk_at "M_ENTER") => `(tactic| (refine' code_def ?k1 ?k2 ?k3 ?k4 ?k5 ?kA ?kF ?kK ?k6 ?k7 ?k8 ?k9 ?kB ?_ ?c2 ?c3 ?c4 ?c5; (case kA => exact rfl); (case kF => assumption); (case kK => assumption); (case k1 => k_asm); (case k2 => k_asm); (case k3 => k_asm); (case k4 => k_asm); (case k5 => k_asm); (case k6 => k_is); (case k7 => k_is); (case k8 => ktr_room); (case k9 => first | exact BindsTo.of_eq rfl | exact binds_K (by k_in) rfl (by k_is) rfl rfl rfl | (refine' kp_binds ?kx ?ke; (case kx => k_in); (case ke => exact fun _ => rfl))); (case c5 => decide); (case kB => exact locs rfl); (case c2 => exact rfl); (case c3 => exact rfl); (case c4 => exact rfl); k_whole; intro g' L' h' FG' F' N' B' X' T'; (try dsimp only); (try k_lift B'); (try k_fold)))
local macro_rules | `(tactic| walk_at "M_ENTERC") => `(tactic| (refine' code_defC ?k1 ?k2 ?k3 ?k4 ?k5 ?kA ?kF ?kK ?k6 ?k7 ?k8 ?k9 ?kB ?kD ?_ ?c2 ?c3 ?c4; (case kA => exact rfl); (case kF => assumption); (case kK => assumption); (case k1 => k_asm); (case k2 => k_asm); (case k3 => k_asm); (case k4 => k_asm); (case k5 => k_asm); (case k6 => k_is); (case k7 => k_is); (case k8 => ktr_room); (case k9 => first | exact BindsTo.of_eq rfl | exact binds_K (by k_in) rfl (by k_is) rfl rfl rfl | (refine' kp_binds ?kx ?ke; (case kx => k_in); (case ke => exact fun _ => rfl))); (case kB => exact rfl); (case kD => decide +kernel); (case c2 => exact rfl); (case c3 => exact rfl); (case c4 => exact rfl); k_whole; intro g' L' h' tk' cells' FG' F' N' Y' B' X' T' l1; (try k_lt l1); k_cells Y'; (try simp only [List.cons_append, List.nil_append] at N'); (try dsimp only); (try k_lift B'); (try k_fold)))
local macro_rules | `(tactic| walk_at "M_ENTERN") => `(tactic| (refine' code_nest ?k1 ?k2 ?k3 ?k4 ?k5 ?kA ?kF ?kK ?k6 ?k7 ?k8 ?k9 ?kB ?_ ?c2 ?c3 ?c4 ?c5; (case kA => exact rfl); (case kF => assumption); (case kK => assumption); (case k1 => k_asm); (case k2 => k_asm); (case k3 => k_asm); (case k4 => k_asm); (case k5 => k_asm); (case k6 => k_mem); (case k7 => exact codeRec_news (by k_asm) (by k_mem) (by assumption) (by assumption)); (case k8 => ktr_room); (case k9 => exact BindsTo.of_eq rfl); (case c5 => decide); (case kB => exact locs rfl); (case c2 => exact rfl); (case c3 => exact rfl); (case c4 => exact rfl); k_whole; intro g' L' h' FG' F' N' B' X' T'; (try dsimp only); (try k_lift B'); (try k_fold)))
local macro_rules | `(tactic| k_all) => `(tactic| first | assumption | exact allLt_ne (by assumption) (by omega))
local macro_rules | `(tactic| walk_at "M_SIDE") => `(tactic| ((case kB => k_asm); (case kF => k_asm); (case kX => k_asm); (case kN => k_asm); (case kT => k_asm); (case kc => assumption); (case kf => first | rfl | assumption); (case kk => first | rfl | assumption); (case kd => ktr_room); (case ku => ktr_units)))
local macro_rules | `(tactic| walk_at "M_SIDE2") => `(tactic| ((case kB => k_asm); (case kF => k_asm); (case kX => k_asm); (case kT => k_asm); (case kc => assumption); (case kf => first | rfl | assumption); (case kk => first | rfl | assumption); (case kd => ktr_room); (case ku => ktr_units)))
local macro_rules | `(tactic| walk_at "eval Constant int") => `(tactic| (refine wpAny_Constant_int ?_; (try dsimp only)))
variable {w : World} {p : Program} {loose : List Str} {mean : ExcName → Option Value} {mg mb : Str → Option Value}
theorem idivneg_c {led : Led} {c4 c5 : Addr} {a b : Int} {t1 t2 : Tok} (hD : DivIn c4 c5 led) (ha : (0 ≤ -a ∧ Builtin.Int.intBits (-a) ≤ 80) ∨ (-a < 0 ∧ Builtin.Int.intBits (Builtin.bitNot (-a)) ≤ 80)) (hb : 1 < -b ∧ -b < 2 ^ 19) :
    Con w p loose mean mg mb (.ref 70) [.int a t1, .int b t2] [] 116 5300 led (fun r n' => ∃ d u1 u2, r = .ref d ∧ n' = (d, tupO [.int (a.fdiv b) u1, .int (a.fmod b) u2]) :: led ∧ (∀ p ∈ led, p.1 < d)) := by
  let nw : Led := led.filter fun p => decide (p.1 ≠ 44 ∧ p.1 ≠ 51)
  have hnw : ∀ p, p ∈ nw ↔ p ∈ led ∧ (p.1 ≠ 44 ∧ p.1 ≠ 51) := fun p => by simp [nw]
  have hoff : ∀ p ∈ nw, p.1 ≠ 44 ∧ p.1 ≠ 51 := fun p hp => ((hnw p).mp hp).2
  have h4 : TabIs 73 4 (Str.ofString "_int2digits.<locals>.inner") #[rawInt 73, rawInt 4, .ref c4] nw := by
    obtain ⟨oc, vc, tc, x1, x2, x3⟩ := hD.k4
    exact .inr ⟨c4, oc, vc, tc, rfl, (hnw _).mpr ⟨x1, hD.n4⟩, x2, x3⟩
  have h5 : TabIs 88 4 (Str.ofString "_digits2int.<locals>.inner") #[rawInt 88, rawInt 4, .ref c5] nw := by
    obtain ⟨oc, vc, tc, x1, x2, x3⟩ := hD.k5
    exact .inr ⟨c5, oc, vc, tc, rfl, (hnw _).mpr ⟨x1, hD.n5⟩, x2, x3⟩
  have C : Con w p loose mean mg mb (.ref 70) [.int a t1, .int b t2] [] 116 5300 ((44, T4 c4) :: (51, T5 c5) :: nw) (DivPost #[rawInt 73, rawInt 4, .ref c4] #[rawInt 88, rawInt 4, .ref c5] nw (a.fdiv b) (a.fmod b)) := by
    exact idivC_c ha hb hoff h4 h5
  refine C.post (fun q hq => ?_) fun r n' P => ?_
  · rcases List.mem_cons.mp hq with rfl | hq
    · exact hD.m4
    · rcases List.mem_cons.mp hq with rfl | hq
      · exact hD.m5
      · exact ((hnw _).mp hq).1
  · obtain ⟨d, u1, u2, c4', oc4, v4, tc4, c5', oc5, v5, tc5, rfl, rfl, hgt, h4', h5', _⟩ := P
    have e4 : c4 = c4' := by
      rcases h4'.2.2 with h | h
      · simp at h
      · simpa using h
    have e5 : c5 = c5' := by
      rcases h5'.2.2 with h | h
      · simp at h
      · simpa using h
    subst e4 e5
    refine ⟨(d, tupO [.int (a.fdiv b) u1, .int (a.fmod b) u2]) :: led, fun q hq => ?_, d, u1, u2, rfl, rfl, fun q hq => ?_⟩
    · rcases List.mem_cons.mp hq with rfl | hq
      · exact .head _
      · rcases hD.off q hq with rfl | rfl | h
        · exact .tail _ (.head _)
        · exact .tail _ (.tail _ (.head _))
        · exact .tail _ (.tail _ (.tail _ (.tail _ (.tail _ ((hnw _).mpr ⟨hq, h⟩)))))
    · rcases hD.off q hq with rfl | rfl | h
      · exact hgt _ (.head _)
      · exact hgt _ (.tail _ (.head _))
      · exact hgt _ (.tail _ (.tail _ ((hnw _).mpr ⟨hq, h⟩)))

theorem bits_neg {a : Int} (h : -2 ^ 78 ≤ a ∧ a < 2 ^ 78) : (0 ≤ -a ∧ Builtin.Int.intBits (-a) ≤ 80) ∨ (-a < 0 ∧ Builtin.Int.intBits (Builtin.bitNot (-a)) ≤ 80) := by
  have hb := bits80 (a := -a) (by omega)
  by_cases hn : -a < 0
  · exact .inr ⟨hn, hb.2⟩
  · exact .inl ⟨by omega, hb.1⟩
theorem tot_bounds2 (x : Int) : -2 ^ 78 ≤ x.fmod (81 * (17550 * 81 ^ Int.toNat 8)) - 40 * (17550 * 81 ^ Int.toNat 8) ∧ x.fmod (81 * (17550 * 81 ^ Int.toNat 8)) - 40 * (17550 * 81 ^ Int.toNat 8) < 2 ^ 78 := by
  have e : (17550 * 81 ^ Int.toNat 8 : Int) = 32520504314349809550 := by decide +kernel
  rw [e]
  have h1 := Int.fmod_nonneg_of_pos x (show (0 : Int) < 81 * 32520504314349809550 by decide)
  have h2 := Int.fmod_lt_of_pos x (show (0 : Int) < 81 * 32520504314349809550 by decide)
  omega

end Mine

namespace Mine
example : True := by
  k_with_none
  trivial
local macro_rules | `(tactic| walk_at "M_ENTER") => `(tactic| (refine' code_def ?k1 ?k2 ?k3 ?k4 ?k5 ?kA ?kF ?kK ?k6 ?k7 ?k8 ?k9 ?kB ?_ ?c2 ?c3 ?c4 ?c5; (case kA => exact rfl); (case kF => assumption); (case kK => assumption); (case k1 => k_asm); (case k2 => k_asm); (case k3 => k_asm); (case k4 => k_asm); (case k5 => k_asm); (case k6 => k_is); (case k7 => k_is); (case k8 => ktr_room); (case k9 => first | exact BindsTo.of_eq rfl | exact binds_K (by k_in) rfl (by k_is) rfl rfl rfl | (refine' kp_binds ?kx ?ke; (case kx => k_in); (case ke => exact fun _ => rfl))); (case c5 => decide); (case kB => exact locs rfl); (case c2 => exact rfl); (case c3 => exact rfl); (case c4 => exact rfl); k_whole; intro g' L' h' FG' F' N' B' X' T'; (try dsimp only); (try k_lift B'); (try k_fold)))
local macro_rules | `(tactic| walk_at "M_ENTERC") => `(tactic| (refine' code_defC ?k1 ?k2 ?k3 ?k4 ?k5 ?kA ?kF ?kK ?k6 ?k7 ?k8 ?k9 ?kB ?kD ?_ ?c2 ?c3 ?c4; (case kA => exact rfl); (case kF => assumption); (case kK => assumption); (case k1 => k_asm); (case k2 => k_asm); (case k3 => k_asm); (case k4 => k_asm); (case k5 => k_asm); (case k6 => k_is); (case k7 => k_is); (case k8 => ktr_room); (case k9 => first | exact BindsTo.of_eq rfl | exact binds_K (by k_in) rfl (by k_is) rfl rfl rfl | (refine' kp_binds ?kx ?ke; (case kx => k_in); (case ke => exact fun _ => rfl))); (case kB => exact rfl); (case kD => decide +kernel); (case c2 => exact rfl); (case c3 => exact rfl); (case c4 => exact rfl); k_whole; intro g' L' h' tk' cells' FG' F' N' Y' B' X' T' l1; (try k_lt l1); k_cells Y'; (try simp only [List.cons_append, List.nil_append] at N'); (try dsimp only); (try k_lift B'); (try k_fold)))
local macro_rules | `(tactic| walk_at "M_ENTERN") => `(tactic| (refine' code_nest ?k1 ?k2 ?k3 ?k4 ?k5 ?kA ?kF ?kK ?k6 ?k7 ?k8 ?k9 ?kB ?_ ?c2 ?c3 ?c4 ?c5; (case kA => exact rfl); (case kF => assumption); (case kK => assumption); (case k1 => k_asm); (case k2 => k_asm); (case k3 => k_asm); (case k4 => k_asm); (case k5 => k_asm); (case k6 => k_mem); (case k7 => exact codeRec_news (by k_asm) (by k_mem) (by assumption) (by assumption)); (case k8 => ktr_room); (case k9 => exact BindsTo.of_eq rfl); (case c5 => decide); (case kB => exact locs rfl); (case c2 => exact rfl); (case c3 => exact rfl); (case c4 => exact rfl); k_whole; intro g' L' h' FG' F' N' B' X' T'; (try dsimp only); (try k_lift B'); (try k_fold)))
local macro_rules | `(tactic| k_all) => `(tactic| first | assumption | exact allLt_ne (by assumption) (by omega))
local macro_rules | `(tactic| walk_at "M_SIDE") => `(tactic| ((case kB => k_asm); (case kF => k_asm); (case kX => k_asm); (case kN => k_asm); (case kT => k_asm); (case kc => assumption); (case kf => first | rfl | assumption); (case kk => first | rfl | assumption); (case kd => ktr_room); (case ku => ktr_units)))
local macro_rules | `(tactic| walk_at "M_SIDE2") => `(tactic| ((case kB => k_asm); (case kF => k_asm); (case kX => k_asm); (case kT => k_asm); (case kc => assumption); (case kf => first | rfl | assumption); (case kk => first | rfl | assumption); (case kd => ktr_room); (case ku => ktr_units)))
local macro_rules | `(tactic| walk_at "eval Constant int") => `(tactic| (refine wpAny_Constant_int ?_; (try dsimp only)))
variable {w : World} {p : Program} {loose : List Str} {mean : ExcName → Option Value} {mg mb : Str → Option Value}
theorem item_last {prog : Program} {A : Around} {E : Value → Shared → Prop} {s : Shared} {h₀ : Heap} {L l : Addr} {vs : List Value} {v : Value} {n : Nat} {u : Tok} {led : Led} {value slice : Expr} {Q : Value → Shared → Prop}
    (N : News h₀ L s.heap led) (hm : (l, lstO (vs ++ [v]) n) ∈ led) (hlen : vs.length < 2 ^ 20) (h : Q v s)
    (hs : subscripted slice false (.ref l) (.int (-1) u) = operate [.ref l, .int (-1) u] (getItem (.ref l) (.int (-1) u)) := by with_unfolding_all rfl) :
    wpAny (model prog w) A (subscriptTail value slice (.ref l) (.int (-1) u)) Q E s := by
  have hl := isList_of N hm
  have hx : (vs ++ [v]).toArray[(-1 + ((vs ++ [v]).toArray.size : Int)).toNat]? = some v := by
    have e : (-1 + ((vs ++ [v]).toArray.size : Int)).toNat = vs.length := by rw [List.size_toArray, List.length_append, List.length_singleton]; omega
    rw [e]
    simp
  exact tail_any hl.typeIs slot_list_getitem.lookup (wpAny_getItem_list_neg hl (by decide) (by rw [List.size_toArray, List.length_append, List.length_singleton]; omega) (by decide) hx h) hs
def DeckOk (k : Nat) (dn sn : List Int) : Prop := sn.length = k ∧ dn.length + k = 27 ∧ (sn ++ dn).Nodup ∧ ∀ r ∈ sn ++ dn, 0 ≤ r ∧ r < 27
theorem deck_start : DeckOk 0 (rangeInts 0 1 27) [] := ⟨rfl, rfl, by decide +kernel, by decide +kernel⟩
theorem DeckOk.next {k : Nat} {dn sn : List Int} {i : Int} (h : DeckOk k dn sn) (h0 : 0 ≤ i) (h1 : i < dn.length) : DeckOk (k + 1) (dn.take i.toNat ++ dn.drop (i.toNat + 1)) (sn ++ [dn.getD i.toNat 0]) ∧ 0 ≤ dn.getD i.toNat 0 ∧ dn.getD i.toNat 0 < 27 := by
  obtain ⟨a, b, c, d⟩ := h
  have hi : i.toNat < dn.length := by omega
  have hp : (sn ++ [dn.getD i.toNat 0] ++ (dn.take i.toNat ++ dn.drop (i.toNat + 1))).Perm (sn ++ dn) := by
    rw [List.append_assoc]
    refine List.Perm.append_left _ ?_
    have e : dn = dn.take i.toNat ++ dn.getD i.toNat 0 :: dn.drop (i.toNat + 1) := by
      rw [getD_eq hi, ← List.drop_eq_getElem_cons hi, List.take_append_drop]
    have h2 := (List.perm_middle (a := dn.getD i.toNat 0) (l₁ := dn.take i.toNat) (l₂ := dn.drop (i.toNat + 1))).symm
    rw [← e] at h2
    exact h2
  refine ⟨⟨by simp [a], ?_, hp.nodup_iff.mpr c, fun r hr => d r (hp.mem_iff.mp hr)⟩, ?_⟩
  · rw [List.length_append, List.length_take, List.length_drop]; omega
  · refine d _ (List.mem_append_right _ ?_)
    rw [getD_eq hi]
    exact List.getElem_mem hi
def placesL (q : Int) : List Int := [q.fdiv 650, (q.fmod 650).fdiv 25, q.fmod 25]
theorem places_ok {q : Int} (h : 0 ≤ q ∧ q < 17550) {k : Nat} {z : Int} (hz : (placesL q)[k]? = some z) : 0 ≤ z ∧ z + k < 27 := by
  have e1 : q.fdiv 650 = q / 650 := Int.fdiv_eq_ediv_of_nonneg _ (by decide)
  have e2 : q.fmod 650 = q % 650 := Int.fmod_eq_emod_of_nonneg _ (by decide)
  have e3 : (q % 650).fdiv 25 = q % 650 / 25 := Int.fdiv_eq_ediv_of_nonneg _ (by decide)
  have e4 : q.fmod 25 = q % 25 := Int.fmod_eq_emod_of_nonneg _ (by decide)
  unfold placesL at hz
  rw [e1, e2, e3, e4] at hz
  match k, hz with
  | 0, hz => cases hz; omega
  | 1, hz => cases hz; omega
  | 2, hz => cases hz; omega
  | n + 3, hz => simp at hz
theorem less_ok (a : Int) : 0 ≤ -(a.fmod (-17550)) ∧ -(a.fmod (-17550)) < 17550 := by
  have h := (neg2_div (-a) 17550).2
  rw [Int.neg_neg] at h
  rw [h]
  exact ⟨Int.fmod_nonneg_of_pos _ (by decide), Int.fmod_lt_of_pos _ (by decide)⟩
theorem deck3 {dn sn : List Int} (h : DeckOk 3 dn sn) : ∃ a b c, sn = [a, b, c] ∧ (0 ≤ a ∧ a < 27) ∧ (0 ≤ b ∧ b < 27) ∧ (0 ≤ c ∧ c < 27) ∧ Cards [c, b, a] := by
  obtain ⟨h1, _, h3, h4⟩ := h
  match sn, h1 with
  | [a, b, c], _ =>
    have hn : [a, b, c].Nodup := (List.nodup_append.mp h3).1
    have hb : ∀ r ∈ [a, b, c], 0 ≤ r ∧ r < 27 := fun r hr => h4 r (List.mem_append_left _ hr)
    refine ⟨a, b, c, rfl, hb a (by simp), hb b (by simp), hb c (by simp), ?_, ?_⟩
    · simp only [List.nodup_cons, List.mem_cons, List.not_mem_nil, or_false, not_or, not_false_eq_true, List.nodup_nil, and_true] at hn ⊢
      omega
    · intro r hr
      simp only [List.mem_cons, List.not_mem_nil, or_false] at hr
      exact hb r (by simp only [List.mem_cons, List.not_mem_nil, or_false]; omega)
theorem cards_more {a b c N : Int} (h : Cards [c, b, a]) (hN : 0 ≤ N ∧ N < 27 ∧ N ≠ a ∧ N ≠ b ∧ N ≠ c) : Cards [N, c, b, a] := by
  obtain ⟨h1, h2⟩ := h
  refine ⟨List.nodup_cons.mpr ⟨?_, h1⟩, List.forall_mem_cons.mpr ⟨⟨hN.1, hN.2.1⟩, h2⟩⟩
  simp only [List.mem_cons, List.not_mem_nil, or_false, not_or]
  omega
/-- what is seen, turn by turn -/
def SeenJ (led : List Value → Nat → Led) (l3 : List Int) (i : Nat) (ys : List Value) (nw : Led) : Prop := ∃ wsb kb, nw = led wsb kb ∧ StrsAre wsb ((l3.drop i).map cardR) ∧ IntsAre ys (l3.take i)
theorem SeenJ.turn {led : List Value → Nat → Led} {l3 : List Int} {i : Nat} {ys : List Value} {nw : Led} (h : SeenJ led l3 i ys nw) (hi : i < l3.length) (h40 : l3.length ≤ 40) :
    ∃ z t ws kb, l3[i]? = some z ∧ nw = led (.str (cardR z) t :: ws) kb ∧ (Value.str (cardR z) t :: ws).length ≤ 40 ∧ ∀ t', SeenJ led l3 (i + 1) (ys ++ [.int z t']) (led ws (kb + 1)) := by
  obtain ⟨wsb, kb, rfl, hw, hy⟩ := h
  rw [List.drop_eq_getElem_cons hi, List.map_cons] at hw
  obtain ⟨t, ws, rfl, hw2⟩ := hw.cons_inv
  have hl := strs_len hw2
  rw [List.length_map, List.length_drop] at hl
  refine ⟨l3[i], t, ws, kb, List.getElem?_eq_getElem hi, rfl, by rw [List.length_cons]; omega, fun t' => ⟨ws, kb + 1, rfl, hw2, ?_⟩⟩
  rw [List.take_add_one, List.getElem?_eq_getElem hi]
  exact ints_snoc hy _ _

end Mine

namespace Mine
local macro_rules | `(tactic| walk_at "M_SPARE0") => `(tactic| skip)
local macro_rules | `(tactic| walk_at "M_SPARE1") => `(tactic| skip)
local macro_rules | `(tactic| walk_at "M_SPARE2") => `(tactic| skip)
local macro_rules | `(tactic| walk_at "M_SPARE3") => `(tactic| skip)
local macro_rules | `(tactic| walk_at "M_SPARE4") => `(tactic| skip)
local macro_rules | `(tactic| walk_at "M_SPARE5") => `(tactic| skip)
local macro_rules | `(tactic| walk_at "M_SPARE6") => `(tactic| skip)
local macro_rules | `(tactic| walk_at "M_SPARE7") => `(tactic| skip)
local macro_rules | `(tactic| walk_at "M_SPARE8") => `(tactic| skip)
local macro_rules | `(tactic| walk_at "M_SPARE9") => `(tactic| skip)
local macro_rules | `(tactic| walk_at "M_SPARE10") => `(tactic| skip)
local macro_rules | `(tactic| walk_at "M_SPARE11") => `(tactic| skip)
local macro_rules | `(tactic| walk_at "M_SPARE12") => `(tactic| skip)
local macro_rules | `(tactic| walk_at "M_SPARE13") => `(tactic| skip)
local macro_rules | `(tactic| walk_at "M_SPARE14") => `(tactic| skip)
local macro_rules | `(tactic| walk_at "M_SPARE15") => `(tactic| skip)
local macro_rules | `(tactic| walk_at "M_SPARE16") => `(tactic| skip)
local macro_rules | `(tactic| walk_at "M_SPARE17") => `(tactic| skip)
local macro_rules | `(tactic| walk_at "M_SPARE18") => `(tactic| skip)
local macro_rules | `(tactic| walk_at "M_SPARE19") => `(tactic| skip)
local macro_rules | `(tactic| walk_at "M_SPARE20") => `(tactic| skip)
local macro_rules | `(tactic| walk_at "M_SPARE21") => `(tactic| skip)
local macro_rules | `(tactic| walk_at "M_SPARE22") => `(tactic| skip)
local macro_rules | `(tactic| walk_at "M_SPARE23") => `(tactic| skip)
local macro_rules | `(tactic| walk_at "M_SPARE24") => `(tactic| skip)
local macro_rules | `(tactic| walk_at "M_ENTER") => `(tactic| (refine' code_def ?k1 ?k2 ?k3 ?k4 ?k5 ?kA ?kF ?kK ?k6 ?k7 ?k8 ?k9 ?kB ?_ ?c2 ?c3 ?c4 ?c5; (case kA => exact rfl); (case kF => assumption); (case kK => assumption); (case k1 => k_asm); (case k2 => k_asm); (case k3 => k_asm); (case k4 => k_asm); (case k5 => k_asm); (case k6 => k_is); (case k7 => k_is); (case k8 => ktr_room); (case k9 => first | exact BindsTo.of_eq rfl | exact binds_K (by k_in) rfl (by k_is) rfl rfl rfl | (refine' kp_binds ?kx ?ke; (case kx => k_in); (case ke => exact fun _ => rfl))); (case c5 => decide); (case kB => exact locs rfl); (case c2 => exact rfl); (case c3 => exact rfl); (case c4 => exact rfl); k_whole; intro g' L' h' FG' F' N' B' X' T'; (try dsimp only); (try k_lift B'); (try k_fold)))
local macro_rules | `(tactic| walk_at "M_ENTERC") => `(tactic| (refine' code_defC ?k1 ?k2 ?k3 ?k4 ?k5 ?kA ?kF ?kK ?k6 ?k7 ?k8 ?k9 ?kB ?kD ?_ ?c2 ?c3 ?c4; (case kA => exact rfl); (case kF => assumption); (case kK => assumption); (case k1 => k_asm); (case k2 => k_asm); (case k3 => k_asm); (case k4 => k_asm); (case k5 => k_asm); (case k6 => k_is); (case k7 => k_is); (case k8 => ktr_room); (case k9 => first | exact BindsTo.of_eq rfl | exact binds_K (by k_in) rfl (by k_is) rfl rfl rfl | (refine' kp_binds ?kx ?ke; (case kx => k_in); (case ke => exact fun _ => rfl))); (case kB => exact rfl); (case kD => decide +kernel); (case c2 => exact rfl); (case c3 => exact rfl); (case c4 => exact rfl); k_whole; intro g' L' h' tk' cells' FG' F' N' Y' B' X' T' l1; (try k_lt l1); k_cells Y'; (try simp only [List.cons_append, List.nil_append] at N'); (try dsimp only); (try k_lift B'); (try k_fold)))
local macro_rules | `(tactic| walk_at "M_ENTERN") => `(tactic| (refine' code_nest ?k1 ?k2 ?k3 ?k4 ?k5 ?kA ?kF ?kK ?k6 ?k7 ?k8 ?k9 ?kB ?_ ?c2 ?c3 ?c4 ?c5; (case kA => exact rfl); (case kF => assumption); (case kK => assumption); (case k1 => k_asm); (case k2 => k_asm); (case k3 => k_asm); (case k4 => k_asm); (case k5 => k_asm); (case k6 => k_mem); (case k7 => exact codeRec_news (by k_asm) (by k_mem) (by assumption) (by assumption)); (case k8 => ktr_room); (case k9 => exact BindsTo.of_eq rfl); (case c5 => decide); (case kB => exact locs rfl); (case c2 => exact rfl); (case c3 => exact rfl); (case c4 => exact rfl); k_whole; intro g' L' h' FG' F' N' B' X' T'; (try dsimp only); (try k_lift B'); (try k_fold)))
local macro_rules | `(tactic| k_all) => `(tactic| first | assumption | exact allLt_ne (by assumption) (by omega))
local macro_rules | `(tactic| walk_at "M_SIDE") => `(tactic| ((case kB => k_asm); (case kF => k_asm); (case kX => k_asm); (case kN => k_asm); (case kT => k_asm); (case kc => assumption); (case kf => first | rfl | assumption); (case kk => first | rfl | assumption); (case kd => ktr_room); (case ku => ktr_units)))
local macro_rules | `(tactic| walk_at "M_SIDE2") => `(tactic| ((case kB => k_asm); (case kF => k_asm); (case kX => k_asm); (case kT => k_asm); (case kc => assumption); (case kf => first | rfl | assumption); (case kk => first | rfl | assumption); (case kd => ktr_room); (case ku => ktr_units)))
local macro_rules | `(tactic| walk_at "eval Constant int") => `(tactic| (refine wpAny_Constant_int ?_; (try dsimp only)))
variable {w : World} {p : Program} {loose : List Str} {mean : ExcName → Option Value} {mg mb : Str → Option Value}
local macro_rules | `(tactic| walk_at "exec For Name Call cons nil") => `(tactic| k_extra "M_FOR")
local macro_rules | `(tactic| walk_at "pyIter ref") => `(tactic| k_extra "M_PYITER")
local macro_rules | `(tactic| walk_at "KswEnd") => `(tactic| k_extra "M_END")
local macro_rules | `(tactic| walk_at "eval ListComp") => `(tactic| k_extra "M_COMP")
local macro_rules | `(tactic| walk_at "binaryOp Mult int int") => `(tactic| k_extra "M_MULT")
local macro_rules | `(tactic| walk_at "subscriptTail Name Slice ref ref") => `(tactic| k_extra "M_SLICE")
local macro_rules | `(tactic| walk_at "call ref") => `(tactic| k_extra "call ref")
local macro_rules | `(tactic| walk_at "eval Lambda") => `(tactic| k_extra "M_LAM")
local macro_rules | `(tactic| walk_at "call type:list") => `(tactic| k_extra "M_LIST")
local macro_rules | `(tactic| walk_at "M_ENTERL") => `(tactic| (refine' kla_code ?k1 ?k2 ?k3 ?k4 ?k5 ?kA ?kF ?kK ?k6 ?k7 ?k8 ?k9 ?kB ?_ ?c2 ?c3 ?c4 ?c5; (case kA => exact rfl); (case kF => assumption); (case kK => assumption); (case k1 => k_asm); (case k2 => k_asm); (case k3 => k_asm); (case k4 => k_asm); (case k5 => k_asm); (case k6 => k_mem); (case k7 => exact codeRec_news (by k_asm) (by k_mem) (by assumption) (by assumption)); (case k8 => ktr_room); (case k9 => exact rfl); (case c5 => decide); (case kB => exact locs rfl); (case c2 => exact rfl); (case c3 => exact rfl); (case c4 => exact rfl); k_whole; intro g' L' h' FG' F' N' B' X' T'; (try dsimp only); (try k_lift B'); (try k_fold)))
local macro_rules | `(tactic| walk_at "subscriptTail Name Constant ref int") => `(tactic| k_extra "M_ITEM")
local macro_rules | `(tactic| walk_at "testChain") => `(tactic| k_dflt (first | refine test_link ?_ | refine test_last ?_))
local macro_rules | `(tactic| walk_at "subscriptTail Name Name ref int") => `(tactic| k_extra "M_ITEMN")
local macro_rules | `(tactic| walk_at "CompSrc") => `(tactic| k_extra "M_SRC")
local macro_rules | `(tactic| k_ne) => `(tactic| first | exact Apart.ne (by assumption) | exact Ne.symm (Apart.ne (by assumption)) | (refine neN ?_; (try dsimp only); omega))
local macro_rules | `(tactic| walk_at "binaryOp Div int int") => `(tactic| k_extra "M_DIV")
set_option maxHeartbeats 0 in
theorem law_walk : PySem.Challenge.rw_uj0005_01.Holds := hd (by
  clear law_walk
  k_go0
  rename_i hp1 tk1 q6 q5 q4 q3 q2 q1 e6 e5 e4 e3 e2 e1 X0 X9 T9 K9 F9 d1 d2 d3 d4 N9 l0
  rename Shared => s1
  rename IntsAre _ _ => hI0
  rename ¬ (_ : Int) < _ => hlen0
  have hcodes : CodesAt (ghostOf s1.heap [(199, 195), (154, 150), (55, 51), (48, 44), (204, 202)]) := ⟨d4, d3, d2, d1, codeHd⟩
  have hC202 : CodeHd (ghostOf s1.heap [(199, 195), (154, 150), (55, 51), (48, 44), (204, 202)]) 204 202 := codeHd
  have hlist := lifted
  have g1 : q1.data = .cell none := e1
  have g2 : q2.data = .cell none := e2
  have g3 : q3.data = .cell none := e3
  have g4 : q4.data = .cell none := e4
  have g5 : q5.data = .cell none := e5
  have g6 : q6.data = .cell none := e6
  clear e1 e2 e3 e4 e5 e6 X0 d1 d2 d3 d4 codeHd lifted
  generalize hH0 : ghostOf s1.heap [(199, 195), (154, 150), (55, 51), (48, 44), (204, 202)] = H0 at *
  generalize hL0 : s1.heap.objs.size = L0 at *
  k_with_none
  repeat ((fail_if_success (with_reducible show wpAny _ _ (exec (Stmt.For _ _ _ _ _) _) _ _ _)); walk1)
  refine For_at ?_ ?_
  rotate_left
  · intro _; rfl
  repeat ((fail_if_success (with_reducible show wpAny _ _ (pyIter _) _ _ _)); walk1)
  rename Obj.data _ = Data.cell (some (Value.ref _)) => gr9
  (rename IsRange _ _ _ _ _ _ _ _ => rgX); (k_dflt (refine' range_loop (n := 12) (fun c : HueS => [(c.1, lstO c.2.1 c.2.2.1), (L0 + 1 + 1 + 1 + 1 + 1 + 1, q6), (L0 + 1 + 1 + 1 + 1 + 1, q5), (L0 + 1 + 1 + 1 + 1, q4), (L0 + 1 + 1 + 1, q3), (L0 + 1 + 1, c.2.2.2.2), (L0 + 1, c.2.2.2.1), (195, tabObj #[]), (150, tabObj #[]), (51, tabObj #[]), (44, tabObj #[]), (202, tabObj #[])]) (fun _ => []) [] (fun I k c => IntsAre c.2.1 (rowAt k) ∧ c.2.2.2.1.data = .cell (some (.ref c.1)) ∧ (∃ v, c.2.2.2.2.data = .cell v) ∧ @LT.lt Nat _ (L0 + 1 + 1 + 1 + 1 + 1 + 1) c.1 ∧ @Ne Nat c.1 I ∧ @LT.lt Nat _ (L0 + 1 + 1 + 1 + 1 + 1 + 1) I) (_, _, _, _, _) ?hh ?hn ?F ?N rgX ?hk ?hp ?hoff ?turn ?done ?hE; (case hh => rfl); (case hn => exact ⟨by decide, by decide⟩); (case F => k_asm); (case N => k_asm); (case hk => exact fun _ h => nomatch h); (case hp => exact fun I hI => ⟨.cons _ _ (.cons _ _ (.cons _ _ .nil)), gr9, ⟨_, g2⟩, ltN (by omega), Nat.ne_of_lt (hI _ (.head _)), hI _ (.tail _ (.head _))⟩); (case hoff => exact fun I k c h => List.forall_mem_cons.mpr ⟨h.2.2.2.2.1, by have h6 := h.2.2.2.2.2; simp only [List.forall_mem_cons, List.not_mem_nil, false_implies, implies_true, and_true]; refine ⟨?_, ?_, ?_, ?_, ?_, ?_, ?_, ?_, ?_, ?_, ?_⟩ <;> exact neN (by omega)⟩); (case hE => passes_own)))
  case turn =>
    intro H9 I9 k9 c9 t9 u9 h9 tk9 hk9 hP9 F9 N9; (dsimp only [kstB] at F9); obtain ⟨l9, vs9, n9, orw9, ohu9⟩ := c9; obtain ⟨hi9, hor9, ⟨v9, hoh9⟩, hlt9, hne9, hI9⟩ := hP9; (dsimp only at hi9 hor9 hoh9 hlt9 hne9 N9); rcases Nat.mod_two_eq_zero_or_one k9 with hk2 | hk2
    all_goals (have hki9 : 0 ≤ (k9 : Int) ∧ (k9 : Int) < 12 := by omega)
    all_goals (have hlr9 := rowAt_len hk9)
    k_with "M_COMP" => (k_dflt (refine LCg.ListComp_U (F₀ := by k_asm) (by rfl) (by decide) (by rfl) (by decide) (by rfl) ?_))
    k_with "M_MULT" => (rw [hfm9]; walk1)
    k_with "M_END" => ((rename Obj.data _ = Data.cell (some (Value.ref _)) => gr8); (rename Obj.data _ = Data.cell (some (Value.int _ _)) => gh8); (rename IntsAre _ (_ ++ _) => hi8); (rename News _ _ _ _ => nE'); first | refine ksw_end (I9, k9 + 1, _, _, _, _, _) (by assumption) nE' (by kst_in) trivial (by kst_all) (by ksw_same) ⟨hk9, rfl, rowInts_even hk2 hi8, gr8, ⟨_, gh8⟩, ltN (by dsimp only; omega), neN (by dsimp only; omega), hI9⟩ (by dsimp only; omega) | refine ksw_end (I9, k9 + 1, _, _, _, _, _) (by assumption) nE' (by kst_in) trivial (by kst_all) (by ksw_same) ⟨hk9, rfl, rowInts_odd hk2 hi8, gr8, ⟨_, gh8⟩, ltN (by dsimp only; omega), neN (by dsimp only; omega), hI9⟩ (by dsimp only; omega))
    · have hfm9 := fm_even hk2
      k_steps
    · have hfm9 := fm_odd hk2
      k_steps
  intro I9 c9 u9 h9 tk9 hP9 F9 N9; (dsimp only [kstB] at F9); (try dsimp only)
  obtain ⟨lr, vr, nr, orw, ohu⟩ := c9
  obtain ⟨hiR, hor, ⟨vh, hoh⟩, hltR, hneR, hI9⟩ := hP9
  dsimp only at hiR hor hoh hltR hneR N9
  rw [rowAt_all] at hiR
  k_with "M_SLICE" => (k_dflt (refine' slice_stepX ?slF ?slN ?sll hI0 (by omega) ?slp ?slq ?slk ?slo ?_ ?sls ?slt; (case slF => k_asm); (case slN => k_asm); (case sll => kmk_list); (case slp => kmk_part); (case slq => kmk_part); (case slk => kmk_part); (case slo => decide); (case sls => with_unfolding_all rfl); (case slt => kmk_pure)); intro D9 h9 ws9 ms9 hms9 hml9 l9 F9 N9; (try k_lt l9); (try dsimp only))
  iterate 52 (walk1)
  rename Fr _ _ _ _ => F8
  obtain ⟨htot1, htot2⟩ := tot_bounds (851771 + 41 * (17550 * 81 ^ Int.toNat 8) + ms9.sum)
  generalize htot : (851771 + 41 * (17550 * 81 ^ Int.toNat 8) + ms9.sum).fmod (81 * (17550 * 81 ^ Int.toNat 8)) - 40 * (17550 * 81 ^ Int.toNat 8) = tot at *
  k_with "call ref" => first
    | ((with_reducible show wpAny _ _ (call (Value.ref 70) [Value.int tot _, Value.int 17550 _] _) _ _ _); k_dflt (refine' Con.use (idiv0_c (rest := [(lr, lstO vr nr), (L0 + 1 + 1 + 1 + 1 + 1 + 1, q6), (L0 + 1 + 1 + 1 + 1 + 1, q5), (L0 + 1 + 1 + 1 + 1, q4), (L0 + 1 + 1 + 1, q3), (L0 + 1 + 1, ohu), (L0 + 1, orw), (195, tabObj #[]), (150, tabObj #[]), (202, tabObj #[])]) ⟨htot1, htot2⟩ (by decide) ?ho1 ?hn1) ?kB ?kF ?kX ?kN ?kT ?kc ?kf ?kk ?kd ?ku ?_; walk_at "M_SIDE2"; (case kN => exact newsSub (by k_asm) (by lcg_sub)); (case ho1 => (simp only [List.forall_mem_cons, List.not_mem_nil, false_implies, implies_true, and_true]; refine ⟨?_, ?_, ?_, ?_, ?_, ?_, ?_, ?_, ?_, ?_⟩ <;> exact ⟨neN (by omega), neN (by omega)⟩)); (case hn1 => exact List.forall_mem_cons.mpr ⟨NoCode.lst _ _, List.forall_mem_cons.mpr ⟨NoCode.cell g6, List.forall_mem_cons.mpr ⟨NoCode.cell g5, List.forall_mem_cons.mpr ⟨NoCode.cell g4, List.forall_mem_cons.mpr ⟨NoCode.cell g3, List.forall_mem_cons.mpr ⟨NoCode.cell hoh, List.forall_mem_cons.mpr ⟨NoCode.cell hor, List.forall_mem_cons.mpr ⟨NoCode.tab, List.forall_mem_cons.mpr ⟨NoCode.tab, List.forall_mem_cons.mpr ⟨NoCode.tab, List.forall_mem_nil _⟩⟩⟩⟩⟩⟩⟩⟩⟩⟩); k_whole); rintro r8 n8 h8 tk8 F8 N8 ⟨d8, u1, u2, e4, oe4, e5, oe5, rfl, rfl, hkD, m4, m5, m8, m51, m44⟩; (try k_lt m4); (try k_lt m5); (try k_lt m8); (try dsimp only))
  repeat ((fail_if_success (with_reducible show wpAny _ _ (exec (Stmt.For _ _ _ _ _) _) _ _ _)); walk1)
  rename News _ _ _ _ => N8
  rename Obj.data _ = Data.cell (some (Value.int _ _)) => gw8
  rename_i lk hx8 lx8 hy8 FX8
  rename Obj => ow
  have hlk : AllLt lk [(e4, oe4), (e5, oe5), (lr, lstO vr nr), (L0 + 1 + 1 + 1 + 1 + 1 + 1, q6), (L0 + 1 + 1 + 1 + 1 + 1, q5), (L0 + 1 + 1 + 1 + 1, q4), (L0 + 1 + 1 + 1, ow), (L0 + 1 + 1, ohu), (L0 + 1, orw), (195, tabObj #[]), (150, tabObj #[]), (202, tabObj #[]), (44, T4 e4), (51, T5 e5)] := by
    refine ⟨?_, ?_, ?_, ?_, ?_, ?_, ?_, ?_, ?_, ?_, ?_, ?_, ?_, ?_, trivial⟩ <;> exact ltN (by omega)
  have N9 := newsSub (news := [(lk, lstO [] 0), (44, T4 e4), (51, T5 e5), (e4, oe4), (e5, oe5), (lr, lstO vr nr), (L0 + 1 + 1 + 1 + 1 + 1 + 1, q6), (L0 + 1 + 1 + 1 + 1 + 1, q5), (L0 + 1 + 1 + 1 + 1, q4), (L0 + 1 + 1 + 1, ow), (L0 + 1 + 1, ohu), (L0 + 1, orw), (195, tabObj #[]), (150, tabObj #[]), (202, tabObj #[])]) N8 (by k_dflt lcg_sub)
  clear N8
  refine For_at ?_ ?_
  rotate_left
  · intro _; rfl
  repeat ((fail_if_success (with_reducible show wpAny _ _ (pyIter _) _ _ _)); walk1)
  rename News _ _ _ _ => N8
  rename Fr _ _ _ _ => F8
  rename_i Dl hD8 lD8
  obtain ⟨t40, t30, t20, t10, N8⟩ : ∃ t40 t30 t20 t10, News H0 L0 _ [(Dl, lstO [.int 4 t40, .int 3 t30, .int 2 t20, .int 1 t10] 0), (lk, lstO [] 0), (44, T4 e4), (51, T5 e5), (e4, oe4), (e5, oe5), (lr, lstO vr nr), (L0 + 1 + 1 + 1 + 1 + 1 + 1, q6), (L0 + 1 + 1 + 1 + 1 + 1, q5), (L0 + 1 + 1 + 1 + 1, q4), (L0 + 1 + 1 + 1, ow), (L0 + 1 + 1, ohu), (L0 + 1, orw), (195, tabObj #[]), (150, tabObj #[]), (202, tabObj #[])] := ⟨_, _, _, _, N8⟩
  have hDlk : @LT.lt Nat _ lk Dl := by omega
  have hlk9 := hlk
  simp only [AllLt, and_true] at hlk9
  (k_dflt (refine' list_loop (vs := [.int 4 t40, .int 3 t30, .int 2 t20, .int 1 t10]) (kl := 0) (fun c : SzS => [(Dl, lstO [.int 4 t40, .int 3 t30, .int 2 t20, .int 1 t10] 0), (lk, lstO c.1 c.2.1), (44, T4 e4), (51, T5 e5), (e4, oe4), (e5, oe5), (lr, lstO vr nr), (L0 + 1 + 1 + 1 + 1 + 1 + 1, c.2.2.2.2.2.2.1), (L0 + 1 + 1 + 1 + 1 + 1, q5), (L0 + 1 + 1 + 1 + 1, q4), (L0 + 1 + 1 + 1, ow), (L0 + 1 + 1, ohu), (L0 + 1, orw), (195, tabObj #[]), (150, tabObj #[]), (202, tabObj c.2.2.2.2.2.2.2.1), (c.2.2.2.2.2.2.2.2.1, c.2.2.2.2.2.2.2.2.2)]) (fun c => [(Str.ofString "number", .int c.2.2.1 c.2.2.2.1)]) [Str.ofString "rank"] (fun I k c => IntsAre c.1 c.2.2.2.2.1 ∧ (c.2.2.2.2.1.length = k ∧ (0 ≤ c.2.2.2.2.2.1 ∧ c.2.2.2.2.2.1 ≤ 27) ∧ (0 ≤ c.2.2.1 ∧ c.2.2.1 < choM c.2.2.2.2.2.1 (4 - (k : Int))) ∧ RanksOk c.2.2.2.2.2.1 c.2.2.2.2.1) ∧ (∃ v, c.2.2.2.2.2.2.1.data = .cell v) ∧ TabOk 276 57 (Str.ofString "law.<locals>.<lambda>") c.2.2.2.2.2.2.2.1 c.2.2.2.2.2.2.2.2.1 c.2.2.2.2.2.2.2.2.2 ∧ (@Ne Nat c.2.2.2.2.2.2.2.2.1 lk ∧ @LT.lt Nat _ (L0 + 1 + 1 + 1 + 1 + 1 + 1) c.2.2.2.2.2.2.2.2.1) ∧ (@LT.lt Nat _ Dl I ∧ @Ne Nat c.2.2.2.2.2.2.2.2.1 I)) ([], 0, tot.fmod 17550, _, [], 27, q6, #[], e4, oe4) ?lhh ?lF ?lN ?lhl ?lk ?lp ?loff ?lturn ?ldone ?lE; (case lhh => rfl); (case lF => exact F8); (case lN => exact newsSub N8 (by lcg_sub)); (case lhl => exact fun c => .head _); (case lk => exact fun p hp => by rw [List.mem_singleton.mp hp]; exact rfl); (case lE => passes_own)))
  case lp =>
    intro I hI
    refine ⟨.nil, ⟨rfl, ⟨by dsimp only; omega, by dsimp only; omega⟩, ?_, .nil, fun r hr => nomatch hr⟩, ⟨_, g6⟩, .inl rfl, ⟨neN (by dsimp only; omega), by dsimp only; omega⟩, hI _ (.head _), Nat.ne_of_lt (hI (e4, oe4) (by k_mem))⟩
    have e : choM 27 (4 - ((0 : Nat) : Int)) = 17550 := cho_top
    dsimp only
    rw [e]
    exact ⟨Int.fmod_nonneg_of_pos _ (by decide), Int.fmod_lt_of_pos _ (by decide)⟩
  case loff =>
    intro I k c h
    obtain ⟨_, _, _, _, ⟨h1, h2⟩, h3, h4⟩ := h
    simp only [List.forall_mem_cons, List.not_mem_nil, false_implies, implies_true, and_true]
    refine ⟨?_, ?_, ?_, ?_, ?_, ?_, ?_, ?_, ?_, ?_, ?_, ?_, ?_, ?_, ?_, ?_, ?_⟩ <;> first | exact h4 | exact neN (by omega)
  case lturn =>
    intro H9 I9 oi9 oj9 k9 v9 c9 u9 h9 tk9 hv9 hP9 hit9 F9 N9
    dsimp only [kstB] at F9
    obtain ⟨vs9, n9, num9, tn9, rs9, prev9, osz9, ps9, cc9, occ9⟩ := c9
    obtain ⟨hi9, ⟨hl9, hpv9, hnum9, hrok9⟩, ⟨vz9, hsz9⟩, htab9, ⟨hcc9, hcd9⟩, hDI9, hcI9⟩ := hP9
    obtain ⟨sz9, tz9, rfl, hsz8, hk9⟩ := four_at hv9
    dsimp only at hi9 hl9 hpv9 hnum9 hrok9 hsz9 htab9 hcc9 hcd9 hcI9 F9 N9
    rw [← hsz8] at hnum9
    have hsz7 : 1 ≤ sz9 ∧ sz9 ≤ 4 := by omega
    k_with "M_LIST" => ((rename IsRange _ _ _ _ _ _ _ _ => rgX); k_dflt (refine' kll_range (n := 27) ?xh ?xF ?xN rgX (by decide) (by decide) (by decide) ?_; (case xh => rfl); (case xF => k_asm); (case xN => k_asm)); intro D27 ys27 c27 h27 tk27 F27 N27 l27 hi27; rw [rk27] at hi27; (try k_lt l27); (try dsimp only))
    k_with "M_LAM" => (k_here; kn_here; k_dflt (refine' kla_eval ?xd0 ?_; (case xd0 => exact rfl)); k_dflt (refine' lam_any (tl := [(cc9, occ9)]) ?xF ?xN ?xT hC202 ?xcd ?xU ?xmem ?xsub ?xoff (htab9.imp_right fun ⟨vs, t, h1, h2, h3⟩ => ⟨cc9, occ9, vs, t, h1, .head _, h2, h3⟩) ?xcl ?_; (case xF => k_asm); (case xN => k_asm); (case xT => k_asm); (case xcd => exact rfl); (case xU => k_updF); (case xmem => k_mem); (case xsub => exact fun q hq => by rw [List.mem_singleton.mp hq]; k_mem); (case xoff => exact fun q hq => by rw [List.mem_singleton.mp hq]; exact neN (by dsimp only; omega)); (case xcl => exact rfl); k_whole); intro f9 c9 oc9 vc9 tc9 ct9 h9 tk9 F9 N9 d1 d2 l1 l2 l3 l4; (try dsimp only at N9); (try k_lt l1))
    repeat ((fail_if_success (with_reducible show wpAny _ _ (call (Value.ref 88) _ _) _ _ _)); walk1)
    refine' Con.use (bisrkL (g := fun t => choM t sz9) (vs := ys27) (ns := rangeInts 0 1 27) (D := 5) (U := 60) ?xkf ?xl hi27 (by rw [r27_len]; decide) (cho_srt hsz7) ?xk) ?kB ?kF ?kX ?kN ?kT ?kc ?kf ?kk ?kd ?ku ?_
    case' kN => k_asm
    walk_at "M_SIDE2"
    case xkf => exact .head _
    case xl => k_mem
    case xk =>
      intro i t hi
      rw [r27_len] at hi
      have hi2 : 0 ≤ (rangeInts 0 1 27).getD i 0 ∧ (rangeInts 0 1 27).getD i 0 < 28 := by
        have e := r27_get ⟨i, hi⟩
        have e' : (rangeInts 0 1 27).getD i 0 = (i : Int) := e
        rw [e']
        omega
      generalize (rangeInts 0 1 27).getD i 0 = top at hi2 ⊢
      unfold Con; intros; rename_i hret
      k_dflt (walk_at "M_ENTERL")
      k_with "call ref" => (k_dflt (refine' Con.use (choices_c hi2 ⟨by omega, by omega⟩) ?yB ?yF ?yX ?yN ?yT ?yc ?yf ?yk ?yd ?yu ?_; (case yB => k_asm); (case yF => k_asm); (case yX => k_asm); (case yN => k_asm); (case yT => k_asm); (case yc => assumption); (case yf => first | rfl | assumption); (case yk => first | rfl | assumption); (case yd => ktr_room); (case yu => ktr_units); k_whole); rintro r9 n9 h9 tk9 F9 N9 ⟨⟨t9, rfl⟩, rfl⟩; (try dsimp only))
      k_steps
      exact hret _ _ _ _ (by assumption) (by assumption) ⟨⟨_, rfl⟩, rfl⟩
    rintro r9 n9 h9 tk9 F9 N9 ⟨⟨k8, t8, rfl, hB9⟩, rfl⟩
    obtain ⟨hr8, hr7, hr6⟩ := cho_turn hsz7 hpv9 hnum9 hB9
    have hc9a : @Ne Nat c9 lk := l4.elim (fun h => by rw [Prod.mk.inj (List.mem_singleton.mp h) |>.1]; exact hcc9) (fun h => Nat.ne_of_gt (h (lk, lstO vs9 n9) (by k_mem)))
    have hc9b : @LT.lt Nat _ (L0 + 1 + 1 + 1 + 1 + 1 + 1) c9 := l4.elim (fun h => by rw [Prod.mk.inj (List.mem_singleton.mp h) |>.1]; exact hcd9) (fun h => h (L0 + 1 + 1 + 1 + 1 + 1 + 1, _) (by k_mem))
    have hc9c : @Ne Nat c9 I9 := l4.elim (fun h => by rw [Prod.mk.inj (List.mem_singleton.mp h) |>.1]; exact hcI9) (fun h => Nat.ne_of_gt (h (I9, oi9) (by k_mem)))
    k_with "call ref" => (k_dflt (refine' Con.use (choices_c (top := k8 - 1) (size := sz9) ⟨by omega, by omega⟩ ⟨by omega, by omega⟩) ?zB ?zF ?zX ?zN ?zT ?zc ?zf ?zk ?zd ?zu ?_; (case zB => k_asm); (case zF => k_asm); (case zX => k_asm); (case zN => k_asm); (case zT => k_asm); (case zc => assumption); (case zf => first | rfl | assumption); (case zk => first | rfl | assumption); (case zd => ktr_room); (case zu => ktr_units); k_whole); rintro r9 n9 h9 tk9 F9 N9 ⟨⟨t9, rfl⟩, rfl⟩; (try dsimp only))
    k_steps
    rename Obj.data _ = Data.cell (some (Value.int sz9 _)) => hz8
    rename News _ _ _ _ => nE'
    try simp only [List.push_toArray] at nE'
    have d3 : vc9[1]? = some (.str (Str.ofString "law.<locals>.<lambda>") tc9) := d2
    have hsz6 : 4 - ((k9 + 1 : Nat) : Int) = sz9 - 1 := by omega
    refine ksw_end (I9, oi9, k9 + 1, vs9 ++ [Value.int (k8 - 1) _], _, num9 - choM (k8 - 1) sz9, _, rs9 ++ [k8 - 1], k8 - 1, _, _, c9, oc9) (by assumption) nE' (by kst_in) trivial (by kst_all) (by ksw_same) ⟨by dsimp only [List.length_cons, List.length_nil]; omega, rfl, hit9, ints_snoc hi9 _ _, ⟨by dsimp only; rw [List.length_append, hl9]; rfl, ⟨by dsimp only; omega, by dsimp only; omega⟩, by dsimp only; rw [hsz6]; exact ⟨hr7, hr6⟩, hrok9.next hr8.2 hpv9.2⟩, ⟨_, hz8⟩, .inr ⟨vc9, tc9, rfl, d1, d3⟩, ⟨hc9a, hc9b⟩, hDI9, hc9c⟩ (by dsimp only [List.length_cons, List.length_nil]; omega)
  intro I9 c9 u9 h9 tk9 hP9 F9 N9
  dsimp only [kstB] at F9
  obtain ⟨vk, nk, num9, tn9, rs9, prev9, osz, ps2, cc2, occ2⟩ := c9
  obtain ⟨hiK, ⟨hlK, hpv9, hnum9, hrok⟩, ⟨vz9, hoz⟩, htab2, ⟨hcc2, hcd2⟩, hDI9, hcI9⟩ := hP9
  dsimp only at hiK hlK hpv9 hnum9 hrok hoz htab2 hcc2 hcd2 hcI9 F9 N9
  have hn0 : num9 = 0 := by
    have e : choM prev9 (4 - (([Value.int 4 t40, .int 3 t30, .int 2 t20, .int 1 t10] : List Value).length : Int)) = 1 := by
      have := cho_zero ⟨prev9.toNat, by omega⟩
      have e2 : ((prev9.toNat : Nat) : Int) = prev9 := by omega
      rw [← e2]
      exact this
    rw [e] at hnum9
    omega
  subst hn0
  try dsimp only
  obtain ⟨z0, z1, z2, z3, hrs, hR⟩ := ranks4 hrok hlK hpv9.1
  subst hrs
  obtain ⟨tr0, tr1, tr2, tr3, hvk⟩ := ints4 hiK
  subst hvk
  obtain ⟨hR1, hR2, hR3, hR4, hR5⟩ := hR
  k_with "M_ITEM" => (k_dflt (refine' item_lit (vs := [.int z0 tr0, .int z1 tr1, .int z2 tr2, .int z3 tr3]) ?iN ?im (by decide) (by decide) ?ix ?_ ?is; (case iN => k_asm); (case im => k_mem); (case ix => exact rfl); (case is => with_unfolding_all rfl)); (try dsimp only))
  repeat ((fail_if_success (with_reducible show wpAny _ _ (eval (Expr.ListComp _ _ _ _) _) _ _ _)); (first | walk1 | (dsimp only; walk1)))
  have hO : True ∧ (@LT.lt Nat _ 202 L0 ∧ @LT.lt Nat _ (L0 + 1 + 1 + 1 + 1 + 1 + 1) lr ∧ @LT.lt Nat _ lr e4 ∧ @LT.lt Nat _ lr e5 ∧ @LT.lt Nat _ e4 lk ∧ @LT.lt Nat _ e5 lk) := ⟨trivial, by omega, by omega, by omega, by omega, by omega, by omega⟩
  rename News _ _ _ _ => N9
  have NZ := newsSub (news := [(lk, lstO [.int z0 tr0, .int z1 tr1, .int z2 tr2, .int z3 tr3] nk), (lr, lstO vr nr), (44, T4 e4), (51, T5 e5), (e4, oe4), (e5, oe5), (L0 + 1 + 1 + 1 + 1 + 1 + 1, osz), (L0 + 1 + 1 + 1 + 1 + 1, q5), (L0 + 1 + 1 + 1 + 1, q4), (L0 + 1 + 1 + 1, ow), (L0 + 1 + 1, ohu), (L0 + 1, orw), (195, tabObj #[]), (150, tabObj #[]), (202, tabObj ps2)]) N9 (by k_dflt lcg_sub)
  clear hlK hrok
  clear hnum9 hpv9 hcc2 hcd2 hDI9 hcI9 htab2 hlk9 hDlk hlk hltR hneR hI9
  repeat (rename @LT.lt Nat _ _ _ ∧ _ => zz; clear zz)
  obtain ⟨_, hO1, hO2, hO3, hO4, hO5, hO6⟩ := hO
  rename Fr _ _ _ _ => FZ
  rename News _ _ _ _ => NZ
  revert FZ NZ
  repeat (rename News _ _ _ _ => zz; clear zz)
  repeat (rename Fr _ _ _ _ => zz; clear zz)
  intro FZ NZ
  k_with_none
  have hz4 : ∀ {i : Nat} {z : Int}, [z0, z1, z2, z3][i]? = some z → 0 ≤ z ∧ z < 27 := fun h => ranks_at ⟨hR1, hR2, hR3, hR4, hR5⟩ h
  refine LCg.ListComp_U (F₀ := by k_asm) (by rfl) (by decide) (by rfl) (by decide) (by rfl) ?_
  walk1
  refine' LCg.CompSrc.ledger (by rfl) ?eF ?eN ?em ?es ?_
  case eF => k_asm
  case eN => k_asm
  case em => k_mem
  case es => exact (by decide : 4 ≤ sizeLine)
  intro g9
  refine' comp_inv (MapJ cardR [z0, z1, z2, z3] _) ⟨rfl, .nil⟩ ?_ ?_
  · intro i9 ys9 nw9 v9 I9 oI9 C9 oC9 D9 m9 h9 tk9 E9 hi9 hJ9 hP9 hC9 hx9 F9 N9 off9 ne9
    obtain ⟨z9, t9, rfl, hz9⟩ := hiK.at _ _ (arr_at hP9)
    obtain ⟨rfl, hJ8⟩ := id hJ9
    have hz8 := hz4 hz9
    k_with "M_ITEMN" => (k_dflt (refine' item_l (vs := vr) (ns := rowM) ?jN ?jm hiR ?j0 ?j1 (by decide) ?_ ?js; (case jN => k_asm); (case jm => k_mem); (case j0 => omega); (case j1 => (rw [rowM_len]; omega)); (case js => with_unfolding_all rfl)); intro t8; (try dsimp only))
    k_with "call ref" => ((with_reducible show wpAny _ _ (call (Value.ref 174) _ _) _ _ _); k_dflt (refine' Con.use (card_c (key_mem hz8)) ?cB ?cF ?cX ?cN ?cT ?cc ?cf ?ck ?cd ?cu ?_; (case cB => k_asm); (case cF => k_asm); (case cX => k_asm); (case cN => k_asm); (case cT => k_asm); (case cc => assumption); (case cf => first | rfl | assumption); (case ck => first | rfl | assumption); (case cd => ktr_room); (case cu => ktr_units); k_whole); rintro r9 n9 h9 tk9 F9 N9 ⟨⟨t7, rfl⟩, rfl⟩; (try dsimp only))
    repeat ((fail_if_success (with_reducible show LCg.CompEnd _ _ _ _ _ _ _ _ _ _ _ _ _ _)); walk1)
    exact LCg.CompEnd.intro (by assumption) (by assumption) _ (fun p hp => hp) (by assumption) (Or.inr ⟨_, by k_mem, rfl, _, rfl⟩) (hJ9.next hz9)
  k_with_none
  intro ys9 nw9 hJ9
  obtain ⟨rfl, hJ8⟩ := hJ9
  dsimp only
  unfold LCg.FinE
  intro lw hw9 tkw FW NW offw
  obtain ⟨tw0, tw1, tw2, tw3, rfl⟩ := strs4 hJ8
  have hw4 : Apart lw (L0 + 1 + 1 + 1 + 1) := Apart.of1 offw (by k_mem)
  have hw5 : Apart lw (L0 + 1 + 1 + 1 + 1 + 1) := Apart.of1 offw (by k_mem)
  have hw150 : Apart lw 150 := Apart.of1 offw (by k_mem)
  clear offw
  walk1
  rename Obj.data _ = Data.cell (some (Value.ref lw)) => gwo
  rename News _ _ _ _ => NZ
  rename Fr _ _ _ _ => FZ
  rename Obj => owo
  k_with_none
  clear hJ8
  repeat ((fail_if_success (with_reducible show wpAny _ _ (eval (Expr.ListComp _ _ _ _) _) _ _ _)); walk1)
  refine LCg.ListComp_U (F₀ := by k_asm) (by rfl) (by decide) (by rfl) (by decide) (by rfl) ?_
  repeat ((fail_if_success (with_reducible show LCg.CompSrc _ _ _ _ _ _ _ _ _ _ _ _ _ _)); walk1)
  rename IsRange _ _ _ _ _ _ _ _ => rgT
  have hWS : StrsAre [.str (cardR z0) tw0, .str (cardR z1) tw1, .str (cardR z2) tw2, .str (cardR z3) tw3] [cardR z0, cardR z1, cardR z2, cardR z3] := .cons _ _ (.cons _ _ (.cons _ _ (.cons _ _ .nil)))
  refine' LCg.CompSrc.range (n := 4) (by rfl) ?fF ?fN rgT (by decide) (by decide) (by decide) ?_
  case fF => k_asm
  case fN => k_asm
  intro g9
  refine' comp_inv (MapJ (fun q : Str × Int => writtenM q.1 q.2) (textL (tot.fdiv 17550) (cardR z0) (cardR z1) (cardR z2) (cardR z3)) _) ⟨rfl, .nil⟩ ?_ ?_
  · intro i9 ys9 nw9 v9 I9 oI9 C9 oC9 D9 m9 h9 tk9 E9 hi9 hJ9 hP9 hC9 hx9 F9 N9 off9 ne9
    obtain ⟨t9, rfl⟩ := hP9
    obtain ⟨rfl, hJ8⟩ := id hJ9
    obtain ⟨y9, hy9, hq9, hy8⟩ := textL_at (wr := tot.fdiv 17550) (a := cardR z0) (b := cardR z1) (c := cardR z2) (d := cardR z3) hi9
    have hyl : y9.length ≤ 3 := by
      rcases hy8 with rfl | rfl | rfl | rfl
      · exact Nat.le_of_eq (card_len ⟨by omega, by omega⟩)
      · exact Nat.le_of_eq (card_len ⟨by omega, by omega⟩)
      · exact Nat.le_of_eq (card_len ⟨by omega, by omega⟩)
      · exact Nat.le_of_eq (card_len ⟨by omega, by omega⟩)
    have hki : (0 + (i9 : Int)) = (i9 : Int) := by omega
    have hk9 : 0 ≤ (i9 : Int) ∧ (i9 : Int) < 4 := by omega
    rw [hki] at hx9
    dsimp only
    k_with "M_ITEMN" => (k_dflt (refine' item_strs ?jN ?jm hWS ?j0 ?j1 hy9 ?_ ?js; (case jN => k_asm); (case jm => k_mem); (case j0 => omega); (case j1 => omega); (case js => with_unfolding_all rfl)); intro t8; (try dsimp only))
    k_with "call ref" => ((with_reducible show wpAny _ _ (call (Value.ref 160) _ _) _ _ _); k_dflt (refine' Con.use (written_c hyl (wayOf_ok (tot.fdiv 17550) (i9 : Int))) ?cB ?cF ?cX ?cN ?cT ?cc ?cf ?ck ?cd ?cu ?_; (case cB => k_asm); (case cF => k_asm); (case cX => k_asm); (case cN => k_asm); (case cT => k_asm); (case cc => assumption); (case cf => first | rfl | assumption); (case ck => first | rfl | assumption); (case cd => ktr_room); (case cu => ktr_units); k_whole); rintro r9 n9 h9 tk9 F9 N9 ⟨⟨t7, rfl⟩, rfl⟩; (try dsimp only))
    repeat ((fail_if_success (with_reducible show wpAny _ _ (binaryOp Operator.FloorDiv _ _) _ _ _)); walk1)
    refine floordiv_int (pow3_ok hi9).1 ?_ (Or.inl (PyProof.noPylong_small (pow3_ok hi9).2))
    (try dsimp only)
    repeat ((fail_if_success (with_reducible show LCg.CompEnd _ _ _ _ _ _ _ _ _ _ _ _ _ _)); walk1)
    exact LCg.CompEnd.intro (by assumption) (by assumption) _ (fun p hp => hp) (by assumption) trivial (hJ9.next hq9)
  k_with_none
  intro ys9 nw9 hJ9
  obtain ⟨rfl, hJ8⟩ := hJ9
  dsimp only
  unfold LCg.FinE
  intro lt9 ht9 tkt9 FT9 NT9 offt9
  have hT4 : StrsAre (ys9.toArray.toList) ((textL (tot.fdiv 17550) (cardR z0) (cardR z1) (cardR z2) (cardR z3)).map fun q => writtenM q.1 q.2) := hJ8
  clear hJ8 offt9
  (try dsimp only)
  have hFour : Four z0 z1 z2 z3 := ⟨hR1, hR2, hR3, hR4, hR5⟩
  repeat ((fail_if_success (with_reducible show wpAny _ _ (call _ _ _) _ _ _)); walk1)
  refine join_list (isList_of NT9 (.head _)) hT4 (text_join hFour) ?_
  intro tx9 kx9
  rw [show Txt.join (Str.ofString "") ((textL (tot.fdiv 17550) (cardR z0) (cardR z1) (cardR z2) (cardR z3)).map fun q => writtenM q.1 q.2) = textM (tot.fdiv 17550) z0 z1 z2 z3 from rfl]
  have hTl := text_len' (wr := tot.fdiv 17550) hFour
  have hTe := text_len (wr := tot.fdiv 17550) hFour
  clear hT4
  (have FT8 := FT9); clear FT9
  have NT8 := newsSub NT9 (fun q hq => List.Mem.tail _ hq)
  clear NT9
  k_with_none
  repeat ((fail_if_success (with_reducible show wpAny _ _ (call (Value.ref 155) _ _) _ _ _)); walk1)
  refine' Con.use (stream_c (news := [(lw, LCg.lst [.str (cardR z0) tw0, .str (cardR z1) tw1, .str (cardR z2) tw2, .str (cardR z3) tw3]), (lk, lstO [.int z0 tr0, .int z1 tr1, .int z2 tr2, .int z3 tr3] nk), (lr, lstO vr nr), (44, T4 e4), (51, T5 e5), (e4, oe4), (e5, oe5), (L0 + 1 + 1 + 1 + 1 + 1 + 1, osz), (L0 + 1 + 1 + 1 + 1 + 1, q5), (L0 + 1 + 1 + 1 + 1, owo), (L0 + 1 + 1 + 1, ow), (L0 + 1 + 1, ohu), (L0 + 1, orw), (195, tabObj #[]), (202, tabObj ps2)]) hTe ?go) ?gB ?gF ?gX ?gN ?gT ?gc ?gf ?gk ?gd ?gu ?_
  case go =>
    refine List.forall_mem_cons.mpr ⟨hw150.ne, ?_⟩
    repeat (refine List.forall_mem_cons.mpr ⟨neN (by first | omega | (dsimp only; omega)), ?_⟩)
    exact List.forall_mem_nil _
  case gB => k_asm
  case gF => k_asm
  case gX => k_asm
  case gN => exact newsSub (by k_asm) (by k_dflt lcg_sub)
  case gT => k_asm
  case gc => assumption
  case gf => first | rfl | assumption
  case gk => first | rfl | assumption
  case gd => ktr_room
  case gu => ktr_units
  k_whole
  rintro rS nS hS tkS FS NS ⟨Ds, kS, vS, fs, ofs, ds, ods, f2, o2, c2, oc2, Cs, oCs, psS, rfl, rfl, hltS, ⟨hs1, hs2, hs3, hs4, hs5⟩, hstrm, hattr, hvS, hfnS, hread⟩
  have hs6 : @LT.lt Nat _ lk Cs := hltS (lk, lstO [.int z0 tr0, .int z1 tr1, .int z2 tr2, .int z3 tr3] nk) (by k_mem)
  have hs7 : @LT.lt Nat _ lw Cs := hltS (lw, LCg.lst [.str (cardR z0) tw0, .str (cardR z1) tw1, .str (cardR z2) tw2, .str (cardR z3) tw3]) (by k_mem)
  clear hltS
  (try dsimp only)
  repeat ((fail_if_success (with_reducible show wpAny _ _ (exec (Stmt.Assign _ (Expr.ListComp _ _ _ _) _) _) _ _ _)); walk1)
  rename Obj.data _ = Data.cell (some (Value.ref _)) => gx9
  rename News _ _ _ _ => NZ
  rename Fr _ _ _ _ => FZ
  rename Obj => olx
  obtain ⟨pb, xl, dx, kp, a1, a2, a3, a4, k1, k2, k3, k4, tn, tw, NX, gx, hx1, hx2, hx3⟩ := lex_form NZ gx9 (by omega) (by omega) (by omega)
  clear NZ gx9
  revert FZ NX
  repeat (rename News _ _ _ _ => zz; clear zz)
  repeat (rename Fr _ _ _ _ => zz; clear zz)
  intro FZ NX
  repeat (rename @LT.lt Nat _ _ _ ∧ _ => zz; clear zz)
  have hLex := (⟨hread, hfnS, hstrm, hattr, ⟨⟨neN (by omega), neN (by omega), neN (by omega), neN (by omega)⟩, ⟨neN (by omega), neN (by omega), neN (by omega), neN (by omega), neN (by omega), neN (by omega)⟩⟩⟩ : LexOk _ _ _ _ _ _ Ds f2 c2 Cs dx xl fs ds o2 oc2 oCs ofs ods)
  clear hread hfnS hstrm hattr
  k_with_none
  have hRest : ∀ q ∈ ([(150, tabObj psS), (lw, LCg.lst [.str (cardR z0) tw0, .str (cardR z1) tw1, .str (cardR z2) tw2, .str (cardR z3) tw3]), (lk, lstO [.int z0 tr0, .int z1 tr1, .int z2 tr2, .int z3 tr3] nk), (lr, lstO vr nr), (44, T4 e4), (51, T5 e5), (e4, oe4), (e5, oe5), (L0 + 1 + 1 + 1 + 1 + 1 + 1, osz), (L0 + 1 + 1 + 1 + 1 + 1, olx), (L0 + 1 + 1 + 1 + 1, owo), (L0 + 1 + 1 + 1, ow), (L0 + 1 + 1, ohu), (L0 + 1, orw), (195, tabObj #[]), (202, tabObj ps2)] : Led), @LT.lt Nat _ q.1 Cs := by
    repeat (refine List.forall_mem_cons.mpr ⟨ltN (by first | omega | (dsimp only; omega)), ?_⟩)
    exact List.forall_mem_nil _
  have hoL : (@LT.lt Nat _ Cs Ds ∧ @LT.lt Nat _ Ds fs ∧ @LT.lt Nat _ fs c2 ∧ @LT.lt Nat _ c2 f2 ∧ @LT.lt Nat _ f2 ds) ∧ @LT.lt Nat _ ds dx ∧ @LT.lt Nat _ dx xl ∧ @LT.lt Nat _ xl pb := ⟨⟨hs1, hs2, hs3, hs4, hs5⟩, hx1, hx2, hx3⟩
  refine LCg.Assign_ListComp_U (F₀ := by k_asm) (by rfl) (by with_unfolding_all rfl) (by rfl) (by decide) (by rfl) (by decide) (by rfl) (by rfl) (by rfl) ?_
  repeat ((fail_if_success (with_reducible show LCg.CompSrc _ _ _ _ _ _ _ _ _ _ _ _ _ _)); walk1)
  refine' LCg.CompSrc.ledger (by rfl) ?hF ?hN ?hm ?hs ?_
  case hF => k_asm
  case hN => k_asm
  case hm => k_mem
  case hs => exact (by decide : 4 ≤ sizeLine)
  intro g9
  refine' comp_inv (HeardJ (fun vs k n tn => lexLed a1 a2 a3 a4 k1 k2 k3 k4 tw Ds f2 c2 Cs dx xl fs ds pb o2 oc2 oCs ofs ods vs k n tn ((pb, lstO [] kp) :: [(150, tabObj psS), (lw, LCg.lst [.str (cardR z0) tw0, .str (cardR z1) tw1, .str (cardR z2) tw2, .str (cardR z3) tw3]), (lk, lstO [.int z0 tr0, .int z1 tr1, .int z2 tr2, .int z3 tr3] nk), (lr, lstO vr nr), (44, T4 e4), (51, T5 e5), (e4, oe4), (e5, oe5), (L0 + 1 + 1 + 1 + 1 + 1 + 1, osz), (L0 + 1 + 1 + 1 + 1 + 1, olx), (L0 + 1 + 1 + 1 + 1, owo), (L0 + 1 + 1 + 1, ow), (L0 + 1 + 1, ohu), (L0 + 1, orw), (195, tabObj #[]), (202, tabObj ps2)])) (cardsL (tot.fdiv 17550) z0 z1 z2 z3) [cardR z0, cardR z1, cardR z2, cardR z3]) (HeardJ.start (text_signs _ _ _ _ _) hvS) ?_ ?_
  · intro i9 ys9 nw9 v9 I9 oI9 C9 oC9 D9 m9 h9 tk9 E9 hi9 hJ9 hP9 hC9 hx9 F9 N9 off9 ne9
    obtain ⟨q8, y8, hq8, hy8, hyq⟩ := cardsL_at (wr := tot.fdiv 17550) (z0 := z0) (z1 := z1) (z2 := z2) (z3 := z3) hi9
    obtain ⟨cs8, vs8, k8, n8, tn8, rfl, hv8, hl8, hab8, hyt8, hnx8⟩ := hJ9.turn hq8 hy8 hyq (Nat.le_refl 4) (cardsL_ok hFour)
    (try dsimp only at N9 off9)
    repeat ((fail_if_success (with_reducible show wpAny _ _ (call (Value.ref 134) _ _) _ _ _)); walk1)
    have p9 := LCg.Off3.mem off9 (Ds, lstO vs8 k8) (.head _)
    have q9 := LCg.Off3.mem off9 (dx, lexD a1 a2 a3 a4 k1 k2 k3 k4 n8 tn8 fs tw pb) (.tail _ (.tail _ (.tail _ (.tail _ (.head _)))))
    (try dsimp only)
    refine' Con.use (tok_turn (i1 := (I9, oI9)) (i2 := (C9, oC9)) (i3 := (D9, LCg.lst ys9)) hLex hRest hoL ⟨⟨p9.1.symm, p9.2.1.symm, p9.2.2.symm⟩, ⟨q9.1.symm, q9.2.1.symm, q9.2.2.symm⟩⟩ hl8 hab8 hv8 hyt8) ?hB ?hF ?hX ?hN ?hT ?hc ?hf ?hk ?hd ?hu ?_
    case hB => k_asm
    case hF => k_asm
    case hX => k_asm
    case hN => exact N9
    case hT => k_asm
    case hc => assumption
    case hf => first | rfl | assumption
    case hk => first | rfl | assumption
    case hd => ktr_room
    case hu => ktr_units
    k_whole
    rintro r9 n9 h9 tk9 F9 N9 ⟨t7, vs7, k7, tn7, rfl, rfl, hv7⟩
    repeat ((fail_if_success (with_reducible show LCg.CompEnd _ _ _ _ _ _ _ _ _ _ _ _ _ _)); walk1)
    exact LCg.CompEnd.intro (by assumption) N9 _ (fun p hp => hp) (off3_keys rfl off9) (Or.inr ⟨_, by k_mem, rfl, _, rfl⟩) (hnx8 _ _ _ _ hv7)
  k_with_none
  intro ys9 nw9 hJ9
  obtain ⟨wL, vL, kL, tL, ln, rfl, hln, hvL, hys9⟩ := HeardJ.fin hJ9 (Nat.le_refl 4) (Nat.le_refl 4)
  clear hJ9
  obtain ⟨th0, th1, th2, th3, rfl⟩ := strs4 hys9
  (try dsimp only)
  unfold LCg.FinA
  intro lh hh9 tkh FH NH offh
  have hh195 : Apart lh 195 := Apart.of1 offh (by k_mem)
  have hh5 : Apart lh Ds := Apart.of1 offh (by k_mem)
  have hhx : Apart lh dx := Apart.of1 offh (by k_mem)
  clear offh
  (try dsimp only)
  clear hys9 hvS hTe hTl NX FZ
  k_with_none
  have hzM : ∀ z ∈ [z0, z1, z2, z3], 0 ≤ z ∧ z < 27 := fun z hz => by obtain ⟨i, hi⟩ := List.getElem?_of_mem hz; exact hz4 hi
  have hSW : StrsAre [.str (cardR z0) tw0, .str (cardR z1) tw1, .str (cardR z2) tw2, .str (cardR z3) tw3] ([z0, z1, z2, z3].map cardR) := .cons _ _ (.cons _ _ (.cons _ _ (.cons _ _ .nil)))
  have hSH : StrsAre [.str (cardR z0) th0, .str (cardR z1) th1, .str (cardR z2) th2, .str (cardR z3) th3] ([z0, z1, z2, z3].map cardR) := .cons _ _ (.cons _ _ (.cons _ _ (.cons _ _ .nil)))
  repeat ((fail_if_success (with_reducible show wpAny _ _ (compareOp _ _ _) _ _ _)); walk1)
  refine ne_strsF NH (.head _) (by k_mem) hSH hSW (cards_strOk hzM) (by ke_room) ?_
  repeat ((fail_if_success (with_reducible show wpAny _ _ (eval (Expr.ListComp _ _ _ _) _) _ _ _)); walk1)
  refine LCg.ListComp_U (F₀ := by k_asm) (by rfl) (by decide) (by rfl) (by decide) (by rfl) ?_
  repeat ((fail_if_success (with_reducible show LCg.CompSrc _ _ _ _ _ _ _ _ _ _ _ _ _ _)); walk1)
  refine' LCg.CompSrc.ledger (by rfl) ?iF ?iN ?im ?is ?_
  case iF => k_asm
  case iN => k_asm
  case im => k_mem
  case is => exact (by decide : 4 ≤ sizeLine)
  intro g9
  refine' comp_inv (MapI (fun z => z) [z0, z1, z2, z3] _) ⟨rfl, .nil⟩ ?_ ?_
  · intro i9 ys9 nw9 v9 I9 oI9 C9 oC9 D9 m9 h9 tk9 E9 hi9 hJ9 hP9 hC9 hx9 F9 N9 off9 ne9
    obtain ⟨z9, t9, hz9, rfl⟩ := cards_at hSH (arr_at hP9)
    obtain ⟨rfl, hJ8⟩ := id hJ9
    repeat ((fail_if_success (with_reducible show wpAny _ _ (call (Value.ref 186) _ _) _ _ _)); walk1)
    refine Con.use (rank_cL (l := lr) (vs := vr) (n := nr) (led := (I9, oI9) :: (C9, oC9) :: (D9, LCg.lst ys9) :: _) (by k_mem) hiR (hz4 hz9)) (by k_asm) (by k_asm) (by k_asm) N9 (by k_asm) (by assumption) (by first | rfl | assumption) (by first | rfl | assumption) (by ktr_room) (by ktr_units) ?_
    k_whole
    rintro r9 n9 h9 tk9 F9 N9 ⟨⟨t7, rfl⟩, rfl⟩
    repeat ((fail_if_success (with_reducible show LCg.CompEnd _ _ _ _ _ _ _ _ _ _ _ _ _ _)); walk1)
    exact LCg.CompEnd.intro (by assumption) N9 _ (fun p hp => hp) off9 (Or.inr ⟨_, by k_mem, rfl, _, rfl⟩) (hJ9.next hz9)
  k_with_none
  intro ys9 nw9 hJ9
  obtain ⟨rfl, hJ8⟩ := hJ9
  have hJ7 : IntsAre ys9 [z0, z1, z2, z3] := by
    have e : (([z0, z1, z2, z3].take 4).map fun z => z) = [z0, z1, z2, z3] := rfl
    rw [← e]
    exact hJ8
  clear hJ8
  (try dsimp only)
  unfold LCg.FinE
  intro li hi9 tki FI NI offi
  clear offi
  (try dsimp only)
  repeat ((fail_if_success (with_reducible show wpAny _ _ (compareOp _ _ _) _ _ _)); walk1)
  refine ne_intsF NI (.head _) (by k_mem) hJ7 hiK (by ke_room) ?_
  repeat ((fail_if_success (with_reducible show wpAny _ _ (call (Value.ref 193) _ _) _ _ _)); walk1)
  (try dsimp only)
  have NK := newsSub (news := (lk, lstO [.int z0 tr0, .int z1 tr1, .int z2 tr2, .int z3 tr3] nk) :: lexLed a1 a2 a3 a4 k1 k2 k3 k4 tw Ds f2 c2 Cs dx xl fs ds pb o2 oc2 oCs ofs ods vL kL ln tL ((pb, lstO [] kp) :: [(150, tabObj psS), (lr, lstO vr nr), (44, T4 e4), (51, T5 e5), (e4, oe4), (e5, oe5), (L0 + 1 + 1 + 1 + 1 + 1 + 1, osz), (L0 + 1 + 1 + 1 + 1 + 1, olx), (L0 + 1 + 1 + 1 + 1, owo), (L0 + 1 + 1 + 1, ow), (L0 + 1 + 1, ohu), (L0 + 1, orw), (195, tabObj #[]), (202, tabObj ps2)])) NI (by k_dflt lcg_sub)
  clear NI hJ7 NH FH hSW hSH hh195 hh5 hhx hw4 hw5 hw150 hs7 hRest
  have hDv : DivIn e4 e5 ((lk, lstO [.int z0 tr0, .int z1 tr1, .int z2 tr2, .int z3 tr3] nk) :: lexLed a1 a2 a3 a4 k1 k2 k3 k4 tw Ds f2 c2 Cs dx xl fs ds pb o2 oc2 oCs ofs ods vL kL ln tL ((pb, lstO [] kp) :: [(150, tabObj psS), (lr, lstO vr nr), (44, T4 e4), (51, T5 e5), (e4, oe4), (e5, oe5), (L0 + 1 + 1 + 1 + 1 + 1 + 1, osz), (L0 + 1 + 1 + 1 + 1 + 1, olx), (L0 + 1 + 1 + 1 + 1, owo), (L0 + 1 + 1 + 1, ow), (L0 + 1 + 1, ohu), (L0 + 1, orw), (195, tabObj #[]), (202, tabObj ps2)])) := by
    refine DivIn.of (by k_mem) (by k_mem) (by k_mem) (by k_mem) hkD (by omega) (by omega) ?_
    repeat (refine List.forall_mem_cons.mpr ⟨by first | exact .inl rfl | exact .inr (.inl rfl) | exact .inr (.inr ⟨neN (by first | omega | (dsimp only; omega)), neN (by first | omega | (dsimp only; omega))⟩), ?_⟩)
    exact List.forall_mem_nil _
  refine Con.use (show_c hDv (four_cards hFour)) (by k_asm) (by k_asm) (by k_asm) NK (by k_asm) (by assumption) (by first | rfl | assumption) (by first | rfl | assumption) (by ktr_room) (by ktr_units) ?_
  k_whole
  rintro rT nT hT9 tkT FT NT ⟨lt, ut, hsT, rfl, rfl, hltT, hpT, hhT, hut⟩
  obtain ⟨zH, zf, zx, zy, hshow, hzH, hzf, hzx, hzy, hCds, hName⟩ := trick_of hhT
  rw [hshow] at hut
  obtain ⟨tzH, tzf, tzx, tzy, rfl⟩ := ints4 hut
  have hlt1 : @LT.lt Nat _ pb lt := (show AllLt lt ((lk, lstO [.int z0 tr0, .int z1 tr1, .int z2 tr2, .int z3 tr3] nk) :: (Ds, lstO vL kL) :: (f2, o2) :: (c2, oc2) :: (Cs, oCs) :: (dx, lexD a1 a2 a3 a4 k1 k2 k3 k4 ln tL fs tw pb) :: (xl, instObj 144 dx) :: (fs, ofs) :: (ds, ods) :: (pb, lstO [] kp) :: _) from hltT).2.2.2.2.2.2.2.2.2.1
  clear hltT hpT hhT hshow NK hDv
  (try dsimp only)
  k_with_none
  repeat ((fail_if_success (with_reducible show wpAny _ _ (exec (Stmt.For _ _ _ _ _) _) _ _ _)); walk1)
  refine For_at ?_ ?_
  rotate_left
  · intro _; rfl
  repeat ((fail_if_success (with_reducible show wpAny _ _ (pyIter _) _ _ _)); walk1)
  rename News _ _ _ _ => NJ
  rename Fr _ _ _ _ => FJ9
  rename_i Dj hJ0 lJ0
  have hlt2 : @LT.lt Nat _ lt Dj := lJ0.1
  clear lJ0
  have hRes : ∀ q ∈ ([(150, tabObj psS), (lr, lstO vr nr), (44, T4 e4), (51, T5 e5), (e4, oe4), (e5, oe5), (L0 + 1 + 1 + 1 + 1 + 1 + 1, osz), (L0 + 1 + 1 + 1 + 1 + 1, olx), (L0 + 1 + 1 + 1 + 1, owo), (L0 + 1 + 1 + 1, ow), (L0 + 1 + 1, ohu), (L0 + 1, orw), (195, tabObj #[]), (202, tabObj ps2)] : Led), @LT.lt Nat _ q.1 Cs := by
    repeat (refine List.forall_mem_cons.mpr ⟨ltN (by first | omega | (dsimp only; omega)), ?_⟩)
    exact List.forall_mem_nil _
  have hzT := three_at hzf hzx hzy
  have hIT : IntsAre [.int zf tzf, .int zx tzx, .int zy tzy] [zf, zx, zy] := .cons _ _ (.cons _ _ (.cons _ _ .nil))
  have NJ2 := newsSub (news := (Dj, lstO [.int zf tzf, .int zx tzx, .int zy tzy] 0) :: (lt, lstO [.int zH tzH, .int zf tzf, .int zx tzx, .int zy tzy] 0) :: lexLed a1 a2 a3 a4 k1 k2 k3 k4 tw Ds f2 c2 Cs dx xl fs ds pb o2 oc2 oCs ofs ods vL kL ln tL ((pb, lstO [] kp) :: [(150, tabObj psS), (lr, lstO vr nr), (44, T4 e4), (51, T5 e5), (e4, oe4), (e5, oe5), (L0 + 1 + 1 + 1 + 1 + 1 + 1, osz), (L0 + 1 + 1 + 1 + 1 + 1, olx), (L0 + 1 + 1 + 1 + 1, owo), (L0 + 1 + 1 + 1, ow), (L0 + 1 + 1, ohu), (L0 + 1, orw), (195, tabObj #[]), (202, tabObj ps2)])) NJ (by k_dflt lcg_sub)
  (k_dflt (refine' list_loop (vs := [.int zf tzf, .int zx tzx, .int zy tzy]) (kl := 0) (fun c : List Value × Nat => (Dj, lstO [.int zf tzf, .int zx tzx, .int zy tzy] 0) :: (lt, lstO [.int zH tzH, .int zf tzf, .int zx tzx, .int zy tzy] 0) :: lexLed a1 a2 a3 a4 k1 k2 k3 k4 tw Ds f2 c2 Cs dx xl fs ds pb o2 oc2 oCs ofs ods vL kL ln tL ((pb, lstO c.1 c.2) :: [(150, tabObj psS), (lr, lstO vr nr), (44, T4 e4), (51, T5 e5), (e4, oe4), (e5, oe5), (L0 + 1 + 1 + 1 + 1 + 1 + 1, osz), (L0 + 1 + 1 + 1 + 1 + 1, olx), (L0 + 1 + 1 + 1 + 1, owo), (L0 + 1 + 1 + 1, ow), (L0 + 1 + 1, ohu), (L0 + 1, orw), (195, tabObj #[]), (202, tabObj ps2)])) (fun _ => []) [Str.ofString "rank"] (fun I k c => StrsAre c.1 (([zf, zx, zy].take k).map cardR) ∧ @LT.lt Nat _ Dj I) ([], kp) ?jhh ?jF ?jN ?jhl ?jk ?jp ?joff ?jturn ?jdone ?jE; (case jhh => rfl); (case jF => exact FJ9); (case jN => exact NJ2); (case jhl => exact fun c => .head _); (case jk => exact fun p hp => nomatch hp); (case jE => passes_own)))
  case jp => exact fun I hI => ⟨.nil, hI _ (.head _)⟩
  case joff =>
    intro I k c h
    have h1 := h.2
    repeat (refine List.forall_mem_cons.mpr ⟨neN (by first | omega | (dsimp only; omega)), ?_⟩)
    exact List.forall_mem_nil _
  case jturn =>
    intro H9 I9 oi9 oj9 k9 v9 c9 u9 h9 tk9 hv9 hP9 hit9 F9 N9
    dsimp only [kstB] at F9
    obtain ⟨ws9, kw9⟩ := c9
    obtain ⟨hws9, hDI9⟩ := hP9
    obtain ⟨z9, t9, rfl, hz9⟩ := hIT.at _ _ hv9
    have hz8 := hzT z9 (List.mem_of_getElem? hz9)
    have hk9 : k9 < 3 := (List.getElem?_eq_some_iff.mp hv9).1
    have hwl : ws9.length ≤ 40 := by rw [strs_len hws9, List.length_map, List.length_take]; exact Nat.le_trans (Nat.min_le_left _ _) (by omega)
    dsimp only at hws9 N9
    clear NJ NJ2 FJ9
    k_with "M_ITEMN" => (k_dflt (refine' item_l (vs := vr) (ns := rowM) ?jN ?jm hiR ?j0 ?j1 (by decide) ?_ ?js; (case jN => k_asm); (case jm => k_mem); (case j0 => omega); (case j1 => (rw [rowM_len]; omega)); (case js => with_unfolding_all rfl)); intro t8; (try dsimp only))
    repeat ((fail_if_success (with_reducible show wpAny _ _ (call (Value.ref 174) _ _) _ _ _)); walk1)
    rename News _ _ _ _ => NQ
    refine Con.use (card_c (key_mem hz8)) (by k_asm) (by k_asm) (by k_asm) NQ (by k_asm) (by assumption) (by first | rfl | assumption) (by first | rfl | assumption) (by ktr_room) (by ktr_units) ?_
    k_whole
    rintro r9 n9 h9 tk9 F9 N9 ⟨⟨t7, rfl⟩, rfl⟩
    repeat ((fail_if_success (with_reducible show wpAny _ _ (call (Value.ref 141) _ _) _ _ _)); walk1)
    (try dsimp only)
    refine Con.use (push_p (pre := [(I9, oi9), (Dj, lstO [.int zf tzf, .int zx tzx, .int zy tzy] 0), (lt, lstO [.int zH tzH, .int zf tzf, .int zx tzx, .int zy tzy] 0)]) hoL hRes ?jpre hwl) (by k_asm) (by k_asm) (by k_asm) N9 (by k_asm) (by assumption) (by first | rfl | assumption) (by first | rfl | assumption) (by ktr_room) (by ktr_units) ?_
    case jpre => exact List.forall_mem_cons.mpr ⟨neN (by dsimp only; omega), List.forall_mem_cons.mpr ⟨neN (by dsimp only; omega), List.forall_mem_cons.mpr ⟨neN (by dsimp only; omega), List.forall_mem_nil _⟩⟩⟩
    k_whole
    rintro r9 n9 h9 tk9 F9 N9 ⟨rfl, rfl⟩
    dsimp only [List.cons_append, List.nil_append] at N9
    refine wpAny_execs_nil ?_
    have hP8 : StrsAre (ws9 ++ [.str (cardR z9) t7]) (([zf, zx, zy].take (k9 + 1)).map cardR) := by
      rw [List.take_add_one, hz9, List.map_append]
      exact kct_snoc hws9
    refine ksw_end (I9, oi9, k9 + 1, ws9 ++ [.str (cardR z9) t7], kw9 + 1) (by assumption) N9 (by kst_in) trivial (by kst_all) (by ksw_same) ⟨by dsimp only [List.length_cons, List.length_nil]; omega, rfl, hit9, hP8, hDI9⟩ (by dsimp only [List.length_cons, List.length_nil]; omega)
  intro I9 c9 u9 h9 tk9 hP9 F9 N9
  dsimp only [kstB] at F9
  obtain ⟨wsJ, kJ⟩ := c9
  obtain ⟨hwsJ, hDI9⟩ := hP9
  dsimp only at hwsJ N9
  clear NJ NJ2 FJ9 hDI9
  (try dsimp only)
  have hws3 : StrsAre wsJ [cardR zf, cardR zx, cardR zy] := hwsJ
  have NWj := newsSub (news := (lt, lstO [.int zH tzH, .int zf tzf, .int zx tzx, .int zy tzy] 0) :: lexLed a1 a2 a3 a4 k1 k2 k3 k4 tw Ds f2 c2 Cs dx xl fs ds pb o2 oc2 oCs ofs ods vL kL ln tL ((pb, lstO wsJ kJ) :: [(150, tabObj psS), (lr, lstO vr nr), (44, T4 e4), (51, T5 e5), (e4, oe4), (e5, oe5), (L0 + 1 + 1 + 1 + 1 + 1 + 1, osz), (L0 + 1 + 1 + 1 + 1 + 1, olx), (L0 + 1 + 1 + 1 + 1, owo), (L0 + 1 + 1 + 1, ow), (L0 + 1 + 1, ohu), (L0 + 1, orw), (195, tabObj #[]), (202, tabObj ps2)])) N9 (by k_dflt lcg_sub)
  clear N9 hwsJ
  k_with_none
  repeat ((fail_if_success (with_reducible show wpAny _ _ (exec (Stmt.Assign _ (Expr.ListComp _ _ _ _) _) _) _ _ _)); walk1)
  refine LCg.Assign_ListComp_U (F₀ := by k_asm) (by rfl) (by with_unfolding_all rfl) (by rfl) (by decide) (by rfl) (by decide) (by rfl) (by rfl) (by rfl) ?_
  repeat ((fail_if_success (with_reducible show LCg.CompSrc _ _ _ _ _ _ _ _ _ _ _ _ _ _)); walk1)
  rename IsRange _ _ _ _ _ _ _ _ => rgK
  rename News _ _ _ _ => NK5
  refine LCg.CompSrc.range (n := 5) (by rfl) (by k_asm) NK5 rgK (by decide) (by decide) (by decide) ?_
  intro g9
  refine' comp_inv (TakeJ (fun vs k tn wsb kb => (lt, lstO [.int zH tzH, .int zf tzf, .int zx tzx, .int zy tzy] 0) :: lexLed a1 a2 a3 a4 k1 k2 k3 k4 tw Ds f2 c2 Cs dx xl fs ds pb o2 oc2 oCs ofs ods vs k ln tn ((pb, lstO wsb kb) :: [(150, tabObj psS), (lr, lstO vr nr), (44, T4 e4), (51, T5 e5), (e4, oe4), (e5, oe5), (L0 + 1 + 1 + 1 + 1 + 1 + 1, osz), (L0 + 1 + 1 + 1 + 1 + 1, olx), (L0 + 1 + 1 + 1 + 1, owo), (L0 + 1 + 1 + 1, ow), (L0 + 1 + 1, ohu), (L0 + 1, orw), (195, tabObj #[]), (202, tabObj ps2)])) [cardR zf, cardR zx, cardR zy] wL) ⟨vL, kL, tL, wsJ, kJ, rfl, ⟨hws3, hvL⟩, .nil⟩ ?_ ?_
  · intro i9 ys9 nw9 v9 I9 oI9 C9 oC9 D9 m9 h9 tk9 E9 hi9 hJ9 hP9 hC9 hx9 F9 N9 off9 ne9
    obtain ⟨vs8, k8, tn8, wsb8, kb8, rfl, hTS, hys8⟩ := hJ9
    (try dsimp only at N9 off9)
    repeat ((fail_if_success (with_reducible show wpAny _ _ (call (Value.ref 134) _ _) _ _ _)); walk1)
    have p9 := LCg.Off3.mem off9 (Ds, lstO vs8 k8) (by k_mem)
    have q9 := LCg.Off3.mem off9 (dx, lexD a1 a2 a3 a4 k1 k2 k3 k4 ln tn8 fs tw pb) (by k_mem)
    have r9 := LCg.Off3.mem off9 (pb, lstO wsb8 kb8) (by k_mem)
    (try dsimp only)
    refine Con.use (take_p (pre := [(I9, oI9), (C9, oC9), (D9, LCg.lst ys9), (lt, lstO [.int zH tzH, .int zf tzf, .int zx tzx, .int zy tzy] 0)]) hLex hoL hRes ?kpre hTS rfl hi9) (by k_asm) (by k_asm) (by k_asm) N9 (by k_asm) (by assumption) (by first | rfl | assumption) (by first | rfl | assumption) (by ktr_room) (by ktr_units) ?_
    case kpre => exact List.forall_mem_cons.mpr ⟨⟨r9.1.symm, p9.1.symm, q9.1.symm⟩, List.forall_mem_cons.mpr ⟨⟨r9.2.1.symm, p9.2.1.symm, q9.2.1.symm⟩, List.forall_mem_cons.mpr ⟨⟨r9.2.2.symm, p9.2.2.symm, q9.2.2.symm⟩, List.forall_mem_cons.mpr ⟨⟨neN (by dsimp only; omega), neN (by dsimp only; omega), neN (by dsimp only; omega)⟩, List.forall_mem_nil _⟩⟩⟩⟩
    k_whole
    rintro r9 n9 h9 tk9 F9 N9 ⟨y7, t7, vs7, k7, tn7, wsb7, kb7, rfl, hy7, rfl, hTS7⟩
    dsimp only [List.cons_append, List.nil_append] at N9
    repeat ((fail_if_success (with_reducible show LCg.CompEnd _ _ _ _ _ _ _ _ _ _ _ _ _ _)); walk1)
    exact LCg.CompEnd.intro (by assumption) N9 _ (fun p hp => hp) (off3_keys rfl off9) trivial (TakeJ.next hys8 hy7 hTS7)
  k_with_none
  intro ys9 nw9 hJ9
  obtain ⟨vK, kK, tK, wsbK, kbK, rfl, hTSK, hys9⟩ := hJ9
  obtain ⟨tt0, tt1, tt2, tt3, tt4, rfl⟩ := strs5 hys9
  obtain ⟨hwK, hvK⟩ := hTSK
  have hnilK := StrsAre.nil_inv (show StrsAre wsbK [] from hwK)
  subst hnilK
  (try dsimp only)
  unfold LCg.FinA
  intro la haK tkK FK NKK offK
  have hla195 : Apart la 195 := Apart.of1 offK (by k_mem)
  clear offK hwK hys9 hws3 hvL NK5
  (try dsimp only)
  k_with_none
  repeat ((fail_if_success (with_reducible show wpAny _ _ (eval (Expr.ListComp _ _ _ _) _) _ _ _)); walk1)
  refine LCg.ListComp_U (F₀ := by k_asm) (by rfl) (by decide) (by rfl) (by decide) (by rfl) ?_
  repeat ((fail_if_success (with_reducible show LCg.CompSrc _ _ _ _ _ _ _ _ _ _ _ _ _ _)); walk1)
  rename News _ _ _ _ => NL0
  rename_i DL0 hL0 lL0
  clear lL0
  refine LCg.CompSrc.ledger (by rfl) (by k_asm) NL0 (.head _) (by exact (by decide : 3 ≤ sizeLine)) ?_
  intro g9
  refine' comp_inv (MapJ cardR [zf, zx, zy] _) ⟨rfl, .nil⟩ ?_ ?_
  · intro i9 ys9 nw9 v9 I9 oI9 C9 oC9 D9 m9 h9 tk9 E9 hi9 hJ9 hP9 hC9 hx9 F9 N9 off9 ne9
    obtain ⟨z9, t9, rfl, hz9⟩ := hIT.at _ _ (arr_at hP9)
    obtain ⟨rfl, hJ8⟩ := id hJ9
    have hz8 := hzT z9 (List.mem_of_getElem? hz9)
    k_with "M_ITEMN" => (k_dflt (refine' item_l (vs := vr) (ns := rowM) ?jN ?jm hiR ?j0 ?j1 (by decide) ?_ ?js; (case jN => k_asm); (case jm => k_mem); (case j0 => omega); (case j1 => (rw [rowM_len]; omega)); (case js => with_unfolding_all rfl)); intro t8; (try dsimp only))
    repeat ((fail_if_success (with_reducible show wpAny _ _ (call (Value.ref 174) _ _) _ _ _)); walk1)
    refine Con.use (card_c (key_mem hz8)) (by k_asm) (by k_asm) (by k_asm) N9 (by k_asm) (by assumption) (by first | rfl | assumption) (by first | rfl | assumption) (by ktr_room) (by ktr_units) ?_
    k_whole
    rintro r9 n9 h9 tk9 F9 N9 ⟨⟨t7, rfl⟩, rfl⟩
    repeat ((fail_if_success (with_reducible show LCg.CompEnd _ _ _ _ _ _ _ _ _ _ _ _ _ _)); walk1)
    exact LCg.CompEnd.intro (by assumption) N9 _ (fun p hp => hp) off9 (Or.inr ⟨_, by k_mem, rfl, _, rfl⟩) (hJ9.next hz9)
  k_with_none
  intro ys9 nw9 hJ9
  obtain ⟨rfl, hJ8⟩ := hJ9
  obtain ⟨tq0, tq1, tq2, rfl⟩ := strs3 hJ8
  (try dsimp only)
  unfold LCg.FinE
  intro lq hq9 tkq FQ NQ0 offq
  clear offq
  (try dsimp only)
  repeat ((fail_if_success (with_reducible show wpAny _ _ (compareOp _ _ _) _ _ _)); walk1)
  rename News _ _ _ _ => NL1
  have hSt : StrsAre [.str (cardR zf) tt0, .str (cardR zx) tt1, .str (cardR zy) tt2, .str (Str.ofString "end") tt3, .str (Str.ofString "") tt4] [cardR zf, cardR zx, cardR zy, Str.ofString "end", Str.ofString ""] := .cons _ _ (.cons _ _ (.cons _ _ (.cons _ _ (.cons _ _ .nil))))
  have hok5 : ∀ x ∈ [cardR zf, cardR zx, cardR zy, Str.ofString "end", Str.ofString ""], PyData.strOk x = true := List.forall_mem_cons.mpr ⟨card_strOk hzf, List.forall_mem_cons.mpr ⟨card_strOk hzx, List.forall_mem_cons.mpr ⟨card_strOk hzy, List.forall_mem_cons.mpr ⟨by decide +kernel, List.forall_mem_cons.mpr ⟨by decide +kernel, List.forall_mem_nil _⟩⟩⟩⟩⟩
  refine ne_strsF NL1 (by k_mem) (.head _) hSt (.cons _ _ (.cons _ _ (.cons _ _ (.cons _ _ (.cons _ _ .nil))))) hok5 (by ke_room) ?_
  repeat ((fail_if_success (with_reducible show wpAny _ _ (compareOp _ _ _) _ _ _)); walk1)
  have hcnt : 1 + Txt.count (textM (tot.fdiv 17550) z0 z1 z2 z3) (Str.ofString "\n") = ln := by rw [text_count, hln]
  rw [hcnt]
  walk1
  rw [bne_self_eq_false]
  clear hSt hok5 hcnt
  have NL2 := newsSub (news := (la, LCg.lst [.str (cardR zf) tt0, .str (cardR zx) tt1, .str (cardR zy) tt2, .str (Str.ofString "end") tt3, .str (Str.ofString "") tt4]) :: (lt, lstO [.int zH tzH, .int zf tzf, .int zx tzx, .int zy tzy] 0) :: lexLed a1 a2 a3 a4 k1 k2 k3 k4 tw Ds f2 c2 Cs dx xl fs ds pb o2 oc2 oCs ofs ods vK kK ln tK ((pb, lstO [] kbK) :: [(150, tabObj psS), (lr, lstO vr nr), (44, T4 e4), (51, T5 e5), (e4, oe4), (e5, oe5), (L0 + 1 + 1 + 1 + 1 + 1 + 1, osz), (L0 + 1 + 1 + 1 + 1 + 1, olx), (L0 + 1 + 1 + 1 + 1, owo), (L0 + 1 + 1 + 1, ow), (L0 + 1 + 1, ohu), (L0 + 1, orw), (195, tabObj #[]), (202, tabObj ps2)])) NL1 (by k_dflt lcg_sub)
  clear NL1
  rename Fr _ _ _ _ => FL2
  revert FL2 NL2
  repeat (rename News _ _ _ _ => zz; clear zz)
  repeat (rename Fr _ _ _ _ => zz; clear zz)
  intro FL2 NL2
  repeat (rename @LT.lt Nat _ _ _ ∧ _ => zz; clear zz)
  repeat ((fail_if_success (with_reducible show wpAny _ _ (eval (Expr.ListComp _ _ _ _) _) _ _ _)); walk1)
  k_with_none
  refine LCg.ListComp_U (F₀ := by k_asm) (by rfl) (by decide) (by rfl) (by decide) (by rfl) ?_
  repeat ((fail_if_success (with_reducible show LCg.CompSrc _ _ _ _ _ _ _ _ _ _ _ _ _ _)); walk1)
  rename News _ _ _ _ => NM0
  have hSM : StrsAre [.str (cardR zf) tt0, .str (cardR zx) tt1, .str (cardR zy) tt2] ([zf, zx, zy].map cardR) := .cons _ _ (.cons _ _ (.cons _ _ .nil))
  refine LCg.CompSrc.ledger (by rfl) (by k_asm) NM0 (.head _) (by exact (by decide : 3 ≤ sizeLine)) ?_
  intro g9
  refine' comp_inv (MapI (fun z => z) [zf, zx, zy] _) ⟨rfl, .nil⟩ ?_ ?_
  · intro i9 ys9 nw9 v9 I9 oI9 C9 oC9 D9 m9 h9 tk9 E9 hi9 hJ9 hP9 hC9 hx9 F9 N9 off9 ne9
    obtain ⟨z9, t9, hz9, rfl⟩ := cards_at hSM (arr_at hP9)
    obtain ⟨rfl, hJ8⟩ := id hJ9
    have hz8 := hzT z9 (List.mem_of_getElem? hz9)
    repeat ((fail_if_success (with_reducible show wpAny _ _ (call (Value.ref 186) _ _) _ _ _)); walk1)
    refine Con.use (rank_cL (l := lr) (vs := vr) (n := nr) (led := (I9, oI9) :: (C9, oC9) :: (D9, LCg.lst ys9) :: _) (by k_mem) hiR hz8) (by k_asm) (by k_asm) (by k_asm) N9 (by k_asm) (by assumption) (by first | rfl | assumption) (by first | rfl | assumption) (by ktr_room) (by ktr_units) ?_
    k_whole
    rintro r9 n9 h9 tk9 F9 N9 ⟨⟨t7, rfl⟩, rfl⟩
    repeat ((fail_if_success (with_reducible show LCg.CompEnd _ _ _ _ _ _ _ _ _ _ _ _ _ _)); walk1)
    exact LCg.CompEnd.intro (by assumption) N9 _ (fun p hp => hp) off9 (Or.inr ⟨_, by k_mem, rfl, _, rfl⟩) (hJ9.next hz9)
  k_with_none
  intro ys9 nw9 hJ9
  obtain ⟨rfl, hJ8⟩ := hJ9
  obtain ⟨tm0, tm1, tm2, rfl⟩ := ints3 (show IntsAre ys9 [zf, zx, zy] from hJ8)
  (try dsimp only)
  unfold LCg.FinE
  intro lm hm9 tkm FM NM1 offm
  have am195 : Apart lm 195 := Apart.of1 offm (by k_mem)
  have am44 : Apart lm 44 := Apart.of1 offm (by k_mem)
  have am51 : Apart lm 51 := Apart.of1 offm (by k_mem)
  have NM2 := newsSub (news := (195, tabObj #[]) :: (lm, LCg.lst [.int zf tm0, .int zx tm1, .int zy tm2]) :: (lt, lstO [.int zH tzH, .int zf tzf, .int zx tzx, .int zy tzy] 0) :: lexLed a1 a2 a3 a4 k1 k2 k3 k4 tw Ds f2 c2 Cs dx xl fs ds pb o2 oc2 oCs ofs ods vK kK ln tK ((pb, lstO [] kbK) :: [(150, tabObj psS), (lr, lstO vr nr), (44, T4 e4), (51, T5 e5), (e4, oe4), (e5, oe5), (L0 + 1 + 1 + 1 + 1 + 1 + 1, osz), (L0 + 1 + 1 + 1 + 1 + 1, olx), (L0 + 1 + 1 + 1 + 1, owo), (L0 + 1 + 1 + 1, ow), (L0 + 1 + 1, ohu), (L0 + 1, orw), (202, tabObj ps2)])) NM1 (by k_dflt lcg_sub)
  clear offm NM1 hJ8 hSM
  (try dsimp only)
  repeat ((fail_if_success (with_reducible show wpAny _ _ (call (Value.ref 200) _ _) _ _ _)); walk1)
  have hDm : DivIn e4 e5 ((lm, L3 zf zx zy tm0 tm1 tm2 3) :: (lt, lstO [.int zH tzH, .int zf tzf, .int zx tzx, .int zy tzy] 0) :: lexLed a1 a2 a3 a4 k1 k2 k3 k4 tw Ds f2 c2 Cs dx xl fs ds pb o2 oc2 oCs ofs ods vK kK ln tK ((pb, lstO [] kbK) :: [(150, tabObj psS), (lr, lstO vr nr), (44, T4 e4), (51, T5 e5), (e4, oe4), (e5, oe5), (L0 + 1 + 1 + 1 + 1 + 1 + 1, osz), (L0 + 1 + 1 + 1 + 1 + 1, olx), (L0 + 1 + 1 + 1 + 1, owo), (L0 + 1 + 1 + 1, ow), (L0 + 1 + 1, ohu), (L0 + 1, orw), (202, tabObj ps2)])) := by
    refine DivIn.of (by k_mem) (by k_mem) (by k_mem) (by k_mem) hkD (by omega) (by omega) ?_
    refine List.forall_mem_cons.mpr ⟨.inr (.inr ⟨am44.ne, am51.ne⟩), ?_⟩
    repeat (refine List.forall_mem_cons.mpr ⟨by first | exact .inl rfl | exact .inr (.inl rfl) | exact .inr (.inr ⟨neN (by first | omega | (dsimp only; omega)), neN (by first | omega | (dsimp only; omega))⟩), ?_⟩)
    exact List.forall_mem_nil _
  have h195 : ∀ q ∈ (lm, L3 zf zx zy tm0 tm1 tm2 3) :: (lt, lstO [.int zH tzH, .int zf tzf, .int zx tzx, .int zy tzy] 0) :: lexLed a1 a2 a3 a4 k1 k2 k3 k4 tw Ds f2 c2 Cs dx xl fs ds pb o2 oc2 oCs ofs ods vK kK ln tK ((pb, lstO [] kbK) :: [(150, tabObj psS), (lr, lstO vr nr), (44, T4 e4), (51, T5 e5), (e4, oe4), (e5, oe5), (L0 + 1 + 1 + 1 + 1 + 1 + 1, osz), (L0 + 1 + 1 + 1 + 1 + 1, olx), (L0 + 1 + 1 + 1 + 1, owo), (L0 + 1 + 1 + 1, ow), (L0 + 1 + 1, ohu), (L0 + 1, orw), (202, tabObj ps2)]), q.1 ≠ 195 := by
    refine List.forall_mem_cons.mpr ⟨am195.ne, ?_⟩
    repeat (refine List.forall_mem_cons.mpr ⟨neN (by first | omega | (dsimp only; omega)), ?_⟩)
    exact List.forall_mem_nil _
  refine Con.use (named_c hDm hCds h195 (.inl rfl)) (by k_asm) (by k_asm) (by k_asm) NM2 (by k_asm) (by assumption) (by first | rfl | assumption) (by first | rfl | assumption) (by ktr_room) (by ktr_units) ?_
  k_whole
  rintro rM nM hM9 tkM FM2 NM3 ⟨zN, tzN, cN, ocN, vcN, tcN, rfl, rfl, hcN1, hcN2, hcN3, hcN4, hNm⟩
  have hzN := (hName zN hNm).symm
  subst hzN
  have hcOff : ∀ x ∈ [Ds, dx, pb, 44, 51], cN ≠ x := by
    refine code_off (hcN4.imp_left (List.Mem.tail _)) hcN1 hcN2 ?_ ?_
    · repeat (refine List.forall_mem_cons.mpr ⟨by first | exact .inl (NoCode.lst _ _) | exact .inl NoCode.dict | exact .inl NoCode.t4 | exact .inl NoCode.t5 | exact .inr (List.forall_mem_cons.mpr ⟨neN (by first | omega | (dsimp only; omega)), List.forall_mem_cons.mpr ⟨neN (by first | omega | (dsimp only; omega)), List.forall_mem_cons.mpr ⟨neN (by first | omega | (dsimp only; omega)), List.forall_mem_cons.mpr ⟨neN (by first | omega | (dsimp only; omega)), List.forall_mem_cons.mpr ⟨neN (by first | omega | (dsimp only; omega)), List.forall_mem_nil _⟩⟩⟩⟩⟩), ?_⟩)
      exact List.forall_mem_nil _
    · refine List.forall_mem_cons.mpr ⟨⟨_, by k_mem⟩, List.forall_mem_cons.mpr ⟨⟨_, by k_mem⟩, List.forall_mem_cons.mpr ⟨⟨_, by k_mem⟩, List.forall_mem_cons.mpr ⟨⟨_, by k_mem⟩, List.forall_mem_cons.mpr ⟨⟨_, by k_mem⟩, List.forall_mem_nil _⟩⟩⟩⟩⟩
  have acD : Apart cN Ds := ⟨hcOff Ds (by simp)⟩
  have acX : Apart cN dx := ⟨hcOff dx (by simp)⟩
  have acP : Apart cN pb := ⟨hcOff pb (by simp)⟩
  have ac4 : Apart cN 44 := ⟨hcOff 44 (by simp)⟩
  have ac5 : Apart cN 51 := ⟨hcOff 51 (by simp)⟩
  clear hcOff hcN4 hDm h195 NM2 am195 am44 am51
  have NM4 := newsSub (news := (195, tabObj #[rawInt 264, rawInt 56, .ref cN]) :: (cN, ocN) :: (lt, lstO [.int zH tzH, .int zf tzf, .int zx tzx, .int zy tzy] 0) :: lexLed a1 a2 a3 a4 k1 k2 k3 k4 tw Ds f2 c2 Cs dx xl fs ds pb o2 oc2 oCs ofs ods vK kK ln tK ((pb, lstO [] kbK) :: [(150, tabObj psS), (lr, lstO vr nr), (44, T4 e4), (51, T5 e5), (e4, oe4), (e5, oe5), (L0 + 1 + 1 + 1 + 1 + 1 + 1, osz), (L0 + 1 + 1 + 1 + 1 + 1, olx), (L0 + 1 + 1 + 1 + 1, owo), (L0 + 1 + 1 + 1, ow), (L0 + 1 + 1, ohu), (L0 + 1, orw), (202, tabObj ps2)])) NM3 (by k_dflt lcg_sub)
  clear NM3
  refine item_l (vs := vr) (ns := rowM) NM4 (by k_mem) hiR hzH.1 (by rw [rowM_len]; omega) (by decide) ?_ (by with_unfolding_all rfl)
  intro tNm
  (try dsimp only)
  have hb2 : 0 ≤ (tot.fdiv 17550).fmod 2 ∧ (tot.fdiv 17550).fmod 2 < 2 := ⟨Int.fmod_nonneg_of_pos _ (by decide), Int.fmod_lt_of_pos _ (by decide)⟩
  obtain ⟨cx, cy, cz, fp, fq, fr, hcw, hcsg, ⟨hi1, hi2, hi3⟩, hcM, hnp, hnq, hnr⟩ := col_get (b := (tot.fdiv 17550).fmod 2) (key_mem hzH) hb2
  k_with "M_DIV" => (k_dflt (first | refine div_ok (by decide) hi1 ?_ | refine div_ok (by decide) hi2 ?_ | refine div_ok (by decide) hi3 ?_); (try dsimp only))
  repeat ((fail_if_success (with_reducible show wpAny _ _ (call (Value.ref 28) _ _) _ _ _)); walk1)
  rename News _ _ _ _ => NM5
  refine Con.use (hsv_c hcM) (by k_asm) (by k_asm) (by k_asm) NM5 (by k_asm) (by assumption) (by first | rfl | assumption) (by first | rfl | assumption) (by ktr_room) (by ktr_units) ?_
  k_whole
  rintro rC nC hC9 tkC FC NC ⟨dC, uc1, uc2, uc3, rfl, hltC, rfl⟩
  have hdC : @LT.lt Nat _ pb dC := hltC (pb, lstO [] kbK) (by k_mem)
  have hdC2 : @LT.lt Nat _ lt dC := hltC (lt, lstO [.int zH tzH, .int zf tzf, .int zx tzx, .int zy tzy] 0) (by k_mem)
  have hdC3 : @LT.lt Nat _ cN dC := hltC (cN, ocN) (by k_mem)
  clear hltC hcM hi1 hi2 hi3 NM5
  (try dsimp only)
  repeat ((fail_if_success (with_reducible show wpAny _ _ (eval (Expr.ListComp _ _ _ _) _) _ _ _)); walk1)
  k_with_none
  refine ListComp_P (F₀ := by k_asm) (by rfl) (by decide) (by rfl) (by decide) (by rfl) ?_
  repeat ((fail_if_success (with_reducible show TupSrc _ _ _ _ _ _ _ _ _ _ _ _ _ _)); walk1)
  rename News _ _ _ _ => NN0
  refine TupSrc.intro (by rfl) (by k_asm) NN0 (.head _) (by exact (by decide : 3 ≤ sizeLine)) ?_
  intro g9
  refine' comp_inv (MapI (fun q : UInt64 × Nat => signNo q.2 * 2 ^ Int.toNat 20) [(fp, cx), (fq, cy), (fr, cz)] _) ⟨rfl, .nil⟩ ?_ ?_
  · intro i9 ys9 nw9 v9 I9 oI9 C9 oC9 D9 m9 h9 tk9 E9 hi9 hJ9 hP9 hC9 hx9 F9 N9 off9 ne9
    obtain ⟨u9, c9, t9, rfl, hq9, hor9⟩ := floats_at (x := cx) (y := cy) (z := cz) (arr_at hP9)
    obtain ⟨rfl, hJ8⟩ := id hJ9
    have hn9 : Float64.isFinite (nearM u9 2) = true ∧ Flt.toInt Float64.truncOf (nearM u9 2) = signNo c9 * 2 ^ Int.toNat 20 := by
      rcases hor9 with h | h | h
      · cases h; exact hnp
      · cases h; exact hnq
      · cases h; exact hnr
    repeat ((fail_if_success (with_reducible show wpAny _ _ (call (Value.ref 181) _ _) _ _ _)); walk1)
    refine Con.use (near_c (x := u9) (u := 2) (by decide) hn9.1 hn9.2) (by k_asm) (by k_asm) (by k_asm) N9 (by k_asm) (by assumption) (by first | rfl | assumption) (by first | rfl | assumption) (by ktr_room) (by ktr_units) ?_
    k_whole
    rintro r9 n9 h9 tk9 F9 N9 ⟨⟨t7, rfl⟩, rfl⟩
    repeat ((fail_if_success (with_reducible show LCg.CompEnd _ _ _ _ _ _ _ _ _ _ _ _ _ _)); walk1)
    have hnx := hJ9.next (t := t7) hq9
    dsimp only at hnx
    exact LCg.CompEnd.intro (by assumption) N9 _ (fun p hp => hp) off9 ⟨tupO [.float fp uc1, .float fq uc2, .float fr uc3], by k_mem, rfl, 0, rfl⟩ hnx
  k_with_none
  intro ys9 nw9 hJ9
  obtain ⟨rfl, hJ8⟩ := hJ9
  have hI8 : IntsAre ys9 [signNo cx * 2 ^ Int.toNat 20, signNo cy * 2 ^ Int.toNat 20, signNo cz * 2 ^ Int.toNat 20] := hJ8
  clear hJ8
  (try dsimp only)
  unfold LCg.FinE
  intro lc hc9 tkc FC2 NC2 offc
  clear offc
  (try dsimp only)
  repeat ((fail_if_success (with_reducible show wpAny _ _ (eval (Expr.ListComp _ _ _ _) _) _ _ _)); walk1)
  rename News _ _ _ _ => NN1
  refine ListComp_S (F₀ := by k_asm) (by rfl) (by decide) (by rfl) (by decide) (by rfl) ?_ (by intro _; rfl)
  k_with "M_ITEM" => (k_dflt (refine' item_lit (vs := [.int zH tzH, .int zf tzf, .int zx tzx, .int zy tzy]) ?iN ?im (by decide) (by decide) ?ix ?_ ?is; (case iN => k_asm); (case im => k_mem); (case ix => exact rfl); (case is => with_unfolding_all rfl)); (try dsimp only))
  repeat ((fail_if_success (with_reducible show wpAny _ _ (subscriptTail _ _ (Value.ref lr) _) _ _ _)); walk1)
  refine item_l (vs := vr) (ns := rowM) NN1 (by k_mem) hiR hzH.1 (by rw [rowM_len]; omega) (by decide) ?_ (by with_unfolding_all rfl)
  intro tNr
  (try dsimp only)
  repeat ((fail_if_success (with_reducible show wpAny _ _ (call (Value.ref 174) _ _) _ _ _)); walk1)
  refine Con.use (card_c (key_mem hzH)) (by k_asm) (by k_asm) (by k_asm) NN1 (by k_asm) (by assumption) (by first | rfl | assumption) (by first | rfl | assumption) (by ktr_room) (by ktr_units) ?_
  k_whole
  rintro rN nN hN9 tkN FN NN2 ⟨⟨tNc, rfl⟩, rfl⟩
  repeat ((fail_if_success (with_reducible show TextSrc _ _ _ _ _ _ _ _ _ _ _ _ _ _)); walk1)
  refine TextSrc.intro (by rfl) (by k_asm) NN2 (by rw [show (cardM (rowM.getD zH.toNat 0)).cps = #[cx, cy, cz] from hcw]; exact (by decide : 3 ≤ sizeLine)) ?_
  intro g9
  refine' comp_inv (MapI (fun c : Nat => signNo c * 2 ^ Int.toNat 20) (cardM (keyM zH)).cps.toList _) ⟨rfl, .nil⟩ ?_ ?_
  · intro i9 ys8 nw9 v9 I9 oI9 C9 oC9 D9 m9 h9 tk9 E9 hi9 hJ9 hP9 hC9 hx9 F9 N9 off9 ne9
    obtain ⟨c9, t9, hc9', rfl⟩ := hP9
    obtain ⟨rfl, hJ8⟩ := id hJ9
    have hcl : (cardM (keyM zH)).cps.toList[i9]? = some c9 := by rw [Array.getElem?_toList]; exact hc9'
    have hcm : c9 ∈ [10, 34, 92] := by rcases hcsg _ _ hc9' with rfl | rfl | rfl <;> decide
    obtain ⟨hf1, hf2, hf3⟩ := signNo_of c9 hcm
    repeat ((fail_if_success (with_reducible show wpAny _ _ (call (Value.builtin _) _) _ _ _)); walk1)
    walk1
    · rename Txt.find _ _ = -1 => hf
      exact absurd hf hf1
    repeat ((fail_if_success (with_reducible show LCg.CompEnd _ _ _ _ _ _ _ _ _ _ _ _ _ _)); walk1)
    exact LCg.CompEnd.intro (by assumption) (by assumption) _ (fun p hp => hp) off9 trivial (hJ9.next hcl)
  k_with_none
  intro ys8 nw9 hJ9
  obtain ⟨rfl, hJ8⟩ := hJ9
  have hI7 : IntsAre ys8 [signNo cx * 2 ^ Int.toNat 20, signNo cy * 2 ^ Int.toNat 20, signNo cz * 2 ^ Int.toNat 20] := by
    have e : (((cardM (keyM zH)).cps.toList.take (cardM (keyM zH)).cps.size).map fun c : Nat => signNo c * 2 ^ Int.toNat 20) = [signNo cx * 2 ^ Int.toNat 20, signNo cy * 2 ^ Int.toNat 20, signNo cz * 2 ^ Int.toNat 20] := by rw [hcw]; rfl
    rw [← e]
    exact hJ8
  clear hJ8
  (try dsimp only)
  unfold LCg.FinE
  intro ld hd9 tkd FD2 ND2 offd
  clear offd
  (try dsimp only)
  repeat ((fail_if_success (with_reducible show wpAny _ _ (compareOp _ _ _) _ _ _)); walk1)
  refine ne_intsF ND2 (by k_mem) (.head _) hI8 hI7 (by ke_room) ?_
  have NO := newsSub (news := (195, tabObj #[rawInt 264, rawInt 56, .ref cN]) :: (cN, ocN) :: lexLed a1 a2 a3 a4 k1 k2 k3 k4 tw Ds f2 c2 Cs dx xl fs ds pb o2 oc2 oCs ofs ods vK kK ln tK ((pb, lstO [] kbK) :: [(150, tabObj psS), (lr, lstO vr nr), (44, T4 e4), (51, T5 e5), (e4, oe4), (e5, oe5), (L0 + 1 + 1 + 1 + 1 + 1 + 1, osz), (L0 + 1 + 1 + 1 + 1 + 1, olx), (L0 + 1 + 1 + 1 + 1, owo), (L0 + 1 + 1 + 1, ow), (L0 + 1 + 1, ohu), (L0 + 1, orw), (202, tabObj ps2)])) ND2 (by k_dflt lcg_sub)
  rename Fr _ _ _ _ => FO
  revert FO NO
  repeat (rename News _ _ _ _ => zz; clear zz)
  repeat (rename Fr _ _ _ _ => zz; clear zz)
  intro FO NO
  clear hI7 hI8 hnp hnq hnr hcsg hcw hNm hb2
  repeat (rename @LT.lt Nat _ _ _ ∧ _ => zz; clear zz)
  k_with_none
  k_with "M_SLICE" => (k_dflt (refine' slice_stepX ?slF ?slN ?sll hI0 (by omega) ?slp ?slq ?slk ?slo ?_ ?sls ?slt; (case slF => k_asm); (case slN => k_asm); (case sll => kmk_list); (case slp => kmk_part); (case slq => kmk_part); (case slk => kmk_part); (case slo => decide); (case sls => with_unfolding_all rfl); (case slt => kmk_pure)); intro D9 h9 ws9 ms9 hms9 hml9 l9 F9 N9; (try k_lt l9); (try dsimp only))
  repeat ((fail_if_success (with_reducible show wpAny _ _ (call (Value.ref 70) _ _) _ _ _)); walk1)
  rename News _ _ _ _ => NP0
  rename Fr _ _ _ _ => FP0
  obtain ⟨hto1, hto2⟩ := tot_bounds2 (4433 + 41 * (17550 * 81 ^ Int.toNat 8) + ms9.sum)
  generalize htoE : (4433 + 41 * (17550 * 81 ^ Int.toNat 8) + ms9.sum).fmod (81 * (17550 * 81 ^ Int.toNat 8)) - 40 * (17550 * 81 ^ Int.toNat 8) = to2 at *
  have NP1 := newsSub (news := (195, tabObj #[rawInt 264, rawInt 56, .ref cN]) :: (cN, ocN) :: lexLed a1 a2 a3 a4 k1 k2 k3 k4 tw Ds f2 c2 Cs dx xl fs ds pb o2 oc2 oCs ofs ods vK kK ln tK ((pb, lstO [] kbK) :: [(150, tabObj psS), (lr, lstO vr nr), (44, T4 e4), (51, T5 e5), (e4, oe4), (e5, oe5), (L0 + 1 + 1 + 1 + 1 + 1 + 1, osz), (L0 + 1 + 1 + 1 + 1 + 1, olx), (L0 + 1 + 1 + 1 + 1, owo), (L0 + 1 + 1 + 1, ow), (L0 + 1 + 1, ohu), (L0 + 1, orw), (202, tabObj ps2)])) NP0 (by k_dflt lcg_sub)
  have hDp : DivIn e4 e5 ((195, tabObj #[rawInt 264, rawInt 56, .ref cN]) :: (cN, ocN) :: lexLed a1 a2 a3 a4 k1 k2 k3 k4 tw Ds f2 c2 Cs dx xl fs ds pb o2 oc2 oCs ofs ods vK kK ln tK ((pb, lstO [] kbK) :: [(150, tabObj psS), (lr, lstO vr nr), (44, T4 e4), (51, T5 e5), (e4, oe4), (e5, oe5), (L0 + 1 + 1 + 1 + 1 + 1 + 1, osz), (L0 + 1 + 1 + 1 + 1 + 1, olx), (L0 + 1 + 1 + 1 + 1, owo), (L0 + 1 + 1 + 1, ow), (L0 + 1 + 1, ohu), (L0 + 1, orw), (202, tabObj ps2)])) := by
    refine DivIn.of (by k_mem) (by k_mem) (by k_mem) (by k_mem) hkD (by omega) (by omega) ?_
    refine List.forall_mem_cons.mpr ⟨.inr (.inr ⟨neN (by first | omega | (dsimp only; omega)), neN (by first | omega | (dsimp only; omega))⟩), List.forall_mem_cons.mpr ⟨.inr (.inr ⟨ac4.ne, ac5.ne⟩), ?_⟩⟩
    repeat (refine List.forall_mem_cons.mpr ⟨by first | exact .inl rfl | exact .inr (.inl rfl) | exact .inr (.inr ⟨neN (by first | omega | (dsimp only; omega)), neN (by first | omega | (dsimp only; omega))⟩), ?_⟩)
    exact List.forall_mem_nil _
  refine Con.use (idivneg_c hDp (bits_neg ⟨hto1, hto2⟩) (by decide)) (by k_asm) (by k_asm) (by k_asm) NP1 (by k_asm) (by assumption) (by first | rfl | assumption) (by first | rfl | assumption) (by ktr_room) (by ktr_units) ?_
  k_whole
  rintro rP nP hP9 tkP FP NP ⟨dP, up1, up2, rfl, rfl, hltP⟩
  have hdP1 : @LT.lt Nat _ pb dP := hltP (pb, lstO [] kbK) (by k_mem)
  have hdP2 : @LT.lt Nat _ cN dP := hltP (cN, ocN) (by k_mem)
  clear hltP NP0 NP1 FP0 hDp
  (try dsimp only)
  repeat ((fail_if_success (with_reducible show wpAny _ _ (call (Value.type _) _) _ _ _)); walk1)
  rename News _ _ _ _ => NP2
  rename Fr _ _ _ _ => FP2
  have NP3 := newsSub (news := (195, tabObj #[rawInt 264, rawInt 56, .ref cN]) :: (cN, ocN) :: lexLed a1 a2 a3 a4 k1 k2 k3 k4 tw Ds f2 c2 Cs dx xl fs ds pb o2 oc2 oCs ofs ods vK kK ln tK ((pb, lstO [] kbK) :: [(150, tabObj psS), (lr, lstO vr nr), (44, T4 e4), (51, T5 e5), (e4, oe4), (e5, oe5), (L0 + 1 + 1 + 1 + 1 + 1 + 1, osz), (L0 + 1 + 1 + 1 + 1 + 1, olx), (L0 + 1 + 1 + 1 + 1, owo), (L0 + 1 + 1 + 1, ow), (L0 + 1 + 1, ohu), (L0 + 1, orw), (202, tabObj ps2)])) NP2 (by k_dflt lcg_sub)
  revert FP2 NP3
  repeat (rename News _ _ _ _ => zz; clear zz)
  repeat (rename Fr _ _ _ _ => zz; clear zz)
  intro FP2 NP3
  repeat (rename @LT.lt Nat _ _ _ ∧ _ => zz; clear zz)
  k_with "M_LIST" => ((rename IsRange _ _ _ _ _ _ _ _ => rgX); k_dflt (refine' kll_range (n := 27) ?xh ?xF ?xN rgX (by decide) (by decide) (by decide) ?_; (case xh => rfl); (case xF => k_asm); (case xN => k_asm)); intro Dk ysk ck hk27 tkk FDk NDk lDk hiDk; rw [rk27] at hiDk; (try k_lt lDk); (try dsimp only))
  repeat ((fail_if_success (with_reducible show wpAny _ _ (exec (Stmt.For _ _ _ _ _) _) _ _ _)); walk1)
  refine For_at ?_ ?_
  rotate_left
  · intro _; rfl
  repeat ((fail_if_success (with_reducible show wpAny _ _ (pyIter _) _ _ _)); walk1)
  rename News _ _ _ _ => NQ0
  rename Fr _ _ _ _ => FQ0
  rename_i hqa lsh hqb lqe hqc lpl hqd lqj
  have hS0 : @LT.lt Nat _ pb Dk ∧ @LT.lt Nat _ cN Dk := ⟨by omega, by omega⟩
  have hS1 : @LT.lt Nat _ Dk lsh := lqe.1
  have hS2 : @LT.lt Nat _ lsh lpl := lqj.1
  clear lqe lqj lDk
  have hql := less_ok to2
  generalize hqE : -to2.fmod (-17550) = qq at *
  obtain ⟨tp0, tp1, tp2, NQ1⟩ : ∃ tp0 tp1 tp2, News H0 L0 _ ((lpl, lstO [.int (qq.fdiv 650) tp0, .int ((qq.fmod 650).fdiv 25) tp1, .int (qq.fmod 25) tp2] 0) :: (lsh, lstO [] 0) :: (Dk, lstO ysk ck) :: (195, tabObj #[rawInt 264, rawInt 56, .ref cN]) :: (cN, ocN) :: lexLed a1 a2 a3 a4 k1 k2 k3 k4 tw Ds f2 c2 Cs dx xl fs ds pb o2 oc2 oCs ofs ods vK kK ln tK ((pb, lstO [] kbK) :: [(150, tabObj psS), (lr, lstO vr nr), (44, T4 e4), (51, T5 e5), (e4, oe4), (e5, oe5), (L0 + 1 + 1 + 1 + 1 + 1 + 1, osz), (L0 + 1 + 1 + 1 + 1 + 1, olx), (L0 + 1 + 1 + 1 + 1, owo), (L0 + 1 + 1 + 1, ow), (L0 + 1 + 1, ohu), (L0 + 1, orw), (202, tabObj ps2)])) := ⟨_, _, _, NQ0⟩
  clear NQ0
  k_with_none
  have hIP : IntsAre [.int (qq.fdiv 650) tp0, .int ((qq.fmod 650).fdiv 25) tp1, .int (qq.fmod 25) tp2] (placesL qq) := .cons _ _ (.cons _ _ (.cons _ _ .nil))
  have hRes2 : ∀ q ∈ ([(150, tabObj psS), (lr, lstO vr nr), (44, T4 e4), (51, T5 e5), (e4, oe4), (e5, oe5), (L0 + 1 + 1 + 1 + 1 + 1 + 1, osz), (L0 + 1 + 1 + 1 + 1 + 1, olx), (L0 + 1 + 1 + 1 + 1, owo), (L0 + 1 + 1 + 1, ow), (L0 + 1 + 1, ohu), (L0 + 1, orw), (202, tabObj ps2)] : Led), @LT.lt Nat _ q.1 Cs := by
    repeat (refine List.forall_mem_cons.mpr ⟨ltN (by first | omega | (dsimp only; omega)), ?_⟩)
    exact List.forall_mem_nil _
  (k_dflt (refine' list_loop (vs := [.int (qq.fdiv 650) tp0, .int ((qq.fmod 650).fdiv 25) tp1, .int (qq.fmod 25) tp2]) (kl := 0) (fun c : (List Value × Nat × List Int) × (List Value × Nat × List Int) × List Value × Nat => (lpl, lstO [.int (qq.fdiv 650) tp0, .int ((qq.fmod 650).fdiv 25) tp1, .int (qq.fmod 25) tp2] 0) :: (lsh, lstO c.2.1.1 c.2.1.2.1) :: (Dk, lstO c.1.1 c.1.2.1) :: (195, tabObj #[rawInt 264, rawInt 56, .ref cN]) :: (cN, ocN) :: lexLed a1 a2 a3 a4 k1 k2 k3 k4 tw Ds f2 c2 Cs dx xl fs ds pb o2 oc2 oCs ofs ods vK kK ln tK ((pb, lstO c.2.2.1 c.2.2.2) :: [(150, tabObj psS), (lr, lstO vr nr), (44, T4 e4), (51, T5 e5), (e4, oe4), (e5, oe5), (L0 + 1 + 1 + 1 + 1 + 1 + 1, osz), (L0 + 1 + 1 + 1 + 1 + 1, olx), (L0 + 1 + 1 + 1 + 1, owo), (L0 + 1 + 1 + 1, ow), (L0 + 1 + 1, ohu), (L0 + 1, orw), (202, tabObj ps2)])) (fun _ => []) [Str.ofString "place"] (fun I k c => (IntsAre c.1.1 c.1.2.2 ∧ IntsAre c.2.1.1 c.2.1.2.2 ∧ DeckOk k c.1.2.2 c.2.1.2.2 ∧ StrsAre c.2.2.1 (c.2.1.2.2.map cardR)) ∧ @LT.lt Nat _ lpl I) ((ysk, ck, rangeInts 0 1 27), ([], 0, []), [], kbK) ?phh ?pF ?pN ?phl ?pk ?pp ?poff ?pturn ?pdone ?pE; (case phh => rfl); (case pF => exact FQ0); (case pN => exact NQ1); (case phl => exact fun c => .head _); (case pk => exact fun p hp => nomatch hp); (case pE => passes_own)))
  case pp => exact fun I hI => ⟨⟨hiDk, .nil, deck_start, .nil⟩, hI _ (.head _)⟩
  case poff =>
    intro I k c h
    have h1 := h.2
    have h2 := hS0.2
    repeat (refine List.forall_mem_cons.mpr ⟨neN (by first | omega | (dsimp only; omega)), ?_⟩)
    exact List.forall_mem_nil _
  case pturn =>
    intro H9 I9 oi9 oj9 k9 v9 c9 u9 h9 tk9 hv9 hP9 hit9 F9 N9
    dsimp only [kstB] at F9
    obtain ⟨⟨dv9, dk9, dn9⟩, ⟨sv9, sk9, sn9⟩, ws9, kw9⟩ := c9
    obtain ⟨⟨hdv9, hsv9, hdk9, hws9⟩, hDI9⟩ := hP9
    dsimp only at hdv9 hsv9 hdk9 hws9 N9
    obtain ⟨z9, t9, rfl, hz9⟩ := hIP.at _ _ hv9
    have hz8 := places_ok hql hz9
    have hk9 : k9 < 3 := (List.getElem?_eq_some_iff.mp hv9).1
    have hdl : (dn9.length : Int) + k9 = 27 := by have := hdk9.2.1; omega
    obtain ⟨hdk8, hx8⟩ := hdk9.next hz8.1 (by omega)
    have hsl : sv9.length ≤ 40 := by rw [hsv9.length]; have := hdk9.1; omega
    clear NQ1 FQ0
    repeat ((fail_if_success (with_reducible show wpAny _ _ (call (Value.builtin _) _) _ _ _)); walk1)
    refine popF (by k_asm) (by k_asm) hdv9 hz8.1 (by omega) (by omega) (by k_updF) ?_
    intro t7 h7 x7 dv8 dn8 hx7 hdn8 hl8 F7 N7 hI7
    subst hx7 hdn8
    (try dsimp only at N7)
    (try dsimp only)
    generalize hxE : dn9.getD z9.toNat 0 = x7 at *
    generalize hdE : dn9.take z9.toNat ++ dn9.drop (z9.toNat + 1) = dn8 at *
    repeat ((fail_if_success (with_reducible show wpAny _ _ (subscriptTail _ _ (Value.ref lsh) _) _ _ _)); walk1)
    rename News _ _ _ _ => NQ
    simp only [List.push_toArray] at NQ
    refine item_last (vs := sv9) (v := .int x7 t7) NQ (by k_mem) (by rw [hsv9.length]; have := hdk9.1; omega) ?_ (by with_unfolding_all rfl)
    repeat ((fail_if_success (with_reducible show wpAny _ _ (subscriptTail _ _ (Value.ref lr) _) _ _ _)); walk1)
    refine item_l (vs := vr) (ns := rowM) NQ (by k_mem) hiR hx8.1 (by rw [rowM_len]; omega) (by decide) ?_ (by with_unfolding_all rfl)
    intro t6
    (try dsimp only)
    repeat ((fail_if_success (with_reducible show wpAny _ _ (call (Value.ref 174) _ _) _ _ _)); walk1)
    refine Con.use (card_c (key_mem hx8)) (by k_asm) (by k_asm) (by k_asm) NQ (by k_asm) (by assumption) (by first | rfl | assumption) (by first | rfl | assumption) (by ktr_room) (by ktr_units) ?_
    k_whole
    rintro r9 n9 h9 tk9 F9 N9 ⟨⟨t5, rfl⟩, rfl⟩
    repeat ((fail_if_success (with_reducible show wpAny _ _ (call (Value.ref 141) _ _) _ _ _)); walk1)
    (try dsimp only)
    have hwl : ws9.length ≤ 40 := by rw [strs_len hws9, List.length_map]; have := hdk9.1; omega
    refine Con.use (push_p (pre := [(I9, oi9), (lpl, lstO [.int (qq.fdiv 650) tp0, .int ((qq.fmod 650).fdiv 25) tp1, .int (qq.fmod 25) tp2] 0), (lsh, lstO (sv9 ++ [.int x7 t7]) (sk9 + 1)), (Dk, lstO dv8 (dk9 + 1)), (195, tabObj #[rawInt 264, rawInt 56, .ref cN]), (cN, ocN)]) hoL hRes2 ?ppre hwl) (by k_asm) (by k_asm) (by k_asm) N9 (by k_asm) (by assumption) (by first | rfl | assumption) (by first | rfl | assumption) (by ktr_room) (by ktr_units) ?_
    case ppre => exact List.forall_mem_cons.mpr ⟨neN (by dsimp only; omega), List.forall_mem_cons.mpr ⟨neN (by dsimp only; omega), List.forall_mem_cons.mpr ⟨neN (by dsimp only; omega), List.forall_mem_cons.mpr ⟨neN (by dsimp only; omega), List.forall_mem_cons.mpr ⟨neN (by dsimp only; omega), List.forall_mem_cons.mpr ⟨acP.ne, List.forall_mem_nil _⟩⟩⟩⟩⟩⟩
    k_whole
    rintro r9 n9 h9 tk9 F9 N9 ⟨rfl, rfl⟩
    dsimp only [List.cons_append, List.nil_append] at N9
    repeat ((fail_if_success (with_reducible show wpAny _ _ (execs [] _) _ _ _)); walk1)
    refine wpAny_execs_nil ?_
    have hws8 : StrsAre (ws9 ++ [.str (cardR x7) t5]) ((sn9 ++ [x7]).map cardR) := by
      rw [List.map_append]
      exact kct_snoc hws9
    refine ksw_end (I9, oi9, k9 + 1, (dv8, dk9 + 1, dn8), (sv9 ++ [.int x7 t7], sk9 + 1, sn9 ++ [x7]), ws9 ++ [.str (cardR x7) t5], kw9 + 1) (by assumption) N9 (by kst_in) trivial (by kst_all) (by ksw_same) ⟨by dsimp only [List.length_cons, List.length_nil]; omega, rfl, hit9, ⟨hI7, ints_snoc hsv9 _ _, hdk8, hws8⟩, hDI9⟩ (by dsimp only [List.length_cons, List.length_nil]; omega)
  intro I9 c9 u9 h9 tk9 hP9 F9 N9
  dsimp only [kstB] at F9
  obtain ⟨⟨dvQ, dkQ, dnQ⟩, ⟨svQ, skQ, snQ⟩, wsQ, kwQ⟩ := c9
  obtain ⟨⟨_, hsvQ, hdkQ, hwsQ⟩, _⟩ := hP9
  dsimp only at hsvQ hdkQ hwsQ N9
  (try dsimp only)
  obtain ⟨y0, y1, y2, rfl, hy0, hy1, hy2, hCy⟩ := deck3 (show DeckOk 3 dnQ snQ from hdkQ)
  obtain ⟨ts0, ts1, ts2, rfl⟩ := ints3 hsvQ
  have NQ2 := newsSub (news := (lsh, lstO [.int y0 ts0, .int y1 ts1, .int y2 ts2] skQ) :: (195, tabObj #[rawInt 264, rawInt 56, .ref cN]) :: (cN, ocN) :: lexLed a1 a2 a3 a4 k1 k2 k3 k4 tw Ds f2 c2 Cs dx xl fs ds pb o2 oc2 oCs ofs ods vK kK ln tK ((pb, lstO wsQ kwQ) :: [(150, tabObj psS), (lr, lstO vr nr), (44, T4 e4), (51, T5 e5), (e4, oe4), (e5, oe5), (L0 + 1 + 1 + 1 + 1 + 1 + 1, osz), (L0 + 1 + 1 + 1 + 1 + 1, olx), (L0 + 1 + 1 + 1 + 1, owo), (L0 + 1 + 1 + 1, ow), (L0 + 1 + 1, ohu), (L0 + 1, orw), (202, tabObj ps2)])) N9 (by k_dflt lcg_sub)
  clear N9 hdkQ NQ1 FQ0 hIP
  k_with_none
  repeat ((fail_if_success (with_reducible show wpAny _ _ (exec (Stmt.Assign _ (Expr.ListComp _ _ _ _) _) _) _ _ _)); walk1)
  refine LCg.Assign_ListComp_U (F₀ := by k_asm) (by rfl) (by with_unfolding_all rfl) (by rfl) (by decide) (by rfl) (by decide) (by rfl) (by rfl) (by rfl) ?_
  repeat ((fail_if_success (with_reducible show LCg.CompSrc _ _ _ _ _ _ _ _ _ _ _ _ _ _)); walk1)
  rename IsRange _ _ _ _ _ _ _ _ => rgS
  rename News _ _ _ _ => NS5
  refine LCg.CompSrc.range (n := 3) (by rfl) (by k_asm) NS5 rgS (by decide) (by decide) (by decide) ?_
  intro g9
  refine' comp_inv (SeenJ (fun wsb kb => (lsh, lstO [.int y0 ts0, .int y1 ts1, .int y2 ts2] skQ) :: (195, tabObj #[rawInt 264, rawInt 56, .ref cN]) :: (cN, ocN) :: lexLed a1 a2 a3 a4 k1 k2 k3 k4 tw Ds f2 c2 Cs dx xl fs ds pb o2 oc2 oCs ofs ods vK kK ln tK ((pb, lstO wsb kb) :: [(150, tabObj psS), (lr, lstO vr nr), (44, T4 e4), (51, T5 e5), (e4, oe4), (e5, oe5), (L0 + 1 + 1 + 1 + 1 + 1 + 1, osz), (L0 + 1 + 1 + 1 + 1 + 1, olx), (L0 + 1 + 1 + 1 + 1, owo), (L0 + 1 + 1 + 1, ow), (L0 + 1 + 1, ohu), (L0 + 1, orw), (202, tabObj ps2)])) [y0, y1, y2]) ⟨wsQ, kwQ, rfl, hwsQ, .nil⟩ ?_ ?_
  · intro i9 ys9 nw9 v9 I9 oI9 C9 oC9 D9 m9 h9 tk9 E9 hi9 hJ9 hP9 hC9 hx9 F9 N9 off9 ne9
    obtain ⟨z9, t9, ws9, kb9, hz9, rfl, hl9, hnx9⟩ := hJ9.turn hi9 (show 3 ≤ 40 by decide)
    (try dsimp only at N9 off9)
    have hz8 : 0 ≤ z9 ∧ z9 < 27 := three_at hy0 hy1 hy2 z9 (List.mem_of_getElem? hz9)
    repeat ((fail_if_success (with_reducible show wpAny _ _ (call (Value.ref 134) _ _) _ _ _)); walk1)
    have r9 := LCg.Off3.mem off9 (pb, lstO (.str (cardR z9) t9 :: ws9) kb9) (by k_mem)
    (try dsimp only)
    refine Con.use (tokp_p (pre := [(I9, oI9), (C9, oC9), (D9, LCg.lst ys9), (lsh, lstO [.int y0 ts0, .int y1 ts1, .int y2 ts2] skQ), (195, tabObj #[rawInt 264, rawInt 56, .ref cN]), (cN, ocN)]) hoL hRes2 ?qpre hl9) (by k_asm) (by k_asm) (by k_asm) N9 (by k_asm) (by assumption) (by first | rfl | assumption) (by first | rfl | assumption) (by ktr_room) (by ktr_units) ?_
    case qpre => exact List.forall_mem_cons.mpr ⟨r9.1.symm, List.forall_mem_cons.mpr ⟨r9.2.1.symm, List.forall_mem_cons.mpr ⟨r9.2.2.symm, List.forall_mem_cons.mpr ⟨neN (by dsimp only; omega), List.forall_mem_cons.mpr ⟨neN (by dsimp only; omega), List.forall_mem_cons.mpr ⟨acP.ne, List.forall_mem_nil _⟩⟩⟩⟩⟩⟩
    k_whole
    rintro r9 n9 h9 tk9 F9 N9 ⟨rfl, rfl⟩
    dsimp only [List.cons_append, List.nil_append] at N9
    repeat ((fail_if_success (with_reducible show wpAny _ _ (call (Value.ref 186) _ _) _ _ _)); walk1)
    refine Con.use (rank_cL (l := lr) (vs := vr) (n := nr) (led := (I9, oI9) :: (C9, oC9) :: (D9, LCg.lst ys9) :: _) (by k_mem) hiR hz8) (by k_asm) (by k_asm) (by k_asm) N9 (by k_asm) (by assumption) (by first | rfl | assumption) (by first | rfl | assumption) (by ktr_room) (by ktr_units) ?_
    k_whole
    rintro r9 n9 h9 tk9 F9 N9 ⟨⟨t7, rfl⟩, rfl⟩
    repeat ((fail_if_success (with_reducible show LCg.CompEnd _ _ _ _ _ _ _ _ _ _ _ _ _ _)); walk1)
    have hnx := hnx9 t7
    (try dsimp only at hnx)
    exact LCg.CompEnd.intro (by assumption) N9 _ (fun p hp => hp) (off3_keys rfl off9) trivial hnx
  k_with_none
  rintro ys9 nw9 ⟨wsS, kbS, rfl, hwsS, hysS⟩
  obtain ⟨tz0, tz1, tz2, rfl⟩ := ints3 (show IntsAre ys9 [y0, y1, y2] from hysS)
  (try dsimp only)
  unfold LCg.FinA
  intro ls haS tkS FS NS1 offS
  have as195 : Apart ls 195 := Apart.of1 offS (by k_mem)
  have as44 : Apart ls 44 := Apart.of1 offS (by k_mem)
  have as51 : Apart ls 51 := Apart.of1 offS (by k_mem)
  clear offS hwsS hysS hwsQ NS5
  (try dsimp only)
  repeat ((fail_if_success (with_reducible show wpAny _ _ (call (Value.ref 200) _ _) _ _ _)); walk1)
  have hDn : DivIn e4 e5 ((ls, L3 y0 y1 y2 tz0 tz1 tz2 3) :: (lsh, lstO [.int y0 ts0, .int y1 ts1, .int y2 ts2] skQ) :: (cN, ocN) :: lexLed a1 a2 a3 a4 k1 k2 k3 k4 tw Ds f2 c2 Cs dx xl fs ds pb o2 oc2 oCs ofs ods vK kK ln tK ((pb, lstO wsS kbS) :: [(150, tabObj psS), (lr, lstO vr nr), (44, T4 e4), (51, T5 e5), (e4, oe4), (e5, oe5), (L0 + 1 + 1 + 1 + 1 + 1 + 1, osz), (L0 + 1 + 1 + 1 + 1 + 1, olx), (L0 + 1 + 1 + 1 + 1, owo), (L0 + 1 + 1 + 1, ow), (L0 + 1 + 1, ohu), (L0 + 1, orw), (202, tabObj ps2)])) := by
    refine DivIn.of (by k_mem) (by k_mem) (by k_mem) (by k_mem) hkD (by omega) (by omega) ?_
    refine List.forall_mem_cons.mpr ⟨.inr (.inr ⟨as44.ne, as51.ne⟩), List.forall_mem_cons.mpr ⟨.inr (.inr ⟨neN (by first | omega | (dsimp only; omega)), neN (by first | omega | (dsimp only; omega))⟩), List.forall_mem_cons.mpr ⟨.inr (.inr ⟨ac4.ne, ac5.ne⟩), ?_⟩⟩⟩
    repeat (refine List.forall_mem_cons.mpr ⟨by first | exact .inl rfl | exact .inr (.inl rfl) | exact .inr (.inr ⟨neN (by first | omega | (dsimp only; omega)), neN (by first | omega | (dsimp only; omega))⟩), ?_⟩)
    exact List.forall_mem_nil _
  have h195n : ∀ q ∈ (ls, L3 y0 y1 y2 tz0 tz1 tz2 3) :: (lsh, lstO [.int y0 ts0, .int y1 ts1, .int y2 ts2] skQ) :: (cN, ocN) :: lexLed a1 a2 a3 a4 k1 k2 k3 k4 tw Ds f2 c2 Cs dx xl fs ds pb o2 oc2 oCs ofs ods vK kK ln tK ((pb, lstO wsS kbS) :: [(150, tabObj psS), (lr, lstO vr nr), (44, T4 e4), (51, T5 e5), (e4, oe4), (e5, oe5), (L0 + 1 + 1 + 1 + 1 + 1 + 1, osz), (L0 + 1 + 1 + 1 + 1 + 1, olx), (L0 + 1 + 1 + 1 + 1, owo), (L0 + 1 + 1 + 1, ow), (L0 + 1 + 1, ohu), (L0 + 1, orw), (202, tabObj ps2)]), q.1 ≠ 195 := by
    refine List.forall_mem_cons.mpr ⟨as195.ne, List.forall_mem_cons.mpr ⟨neN (by first | omega | (dsimp only; omega)), List.forall_mem_cons.mpr ⟨hcN3, ?_⟩⟩⟩
    repeat (refine List.forall_mem_cons.mpr ⟨neN (by first | omega | (dsimp only; omega)), ?_⟩)
    exact List.forall_mem_nil _
  have NS2 := newsSub (news := (195, tabObj #[rawInt 264, rawInt 56, .ref cN]) :: (ls, L3 y0 y1 y2 tz0 tz1 tz2 3) :: (lsh, lstO [.int y0 ts0, .int y1 ts1, .int y2 ts2] skQ) :: (cN, ocN) :: lexLed a1 a2 a3 a4 k1 k2 k3 k4 tw Ds f2 c2 Cs dx xl fs ds pb o2 oc2 oCs ofs ods vK kK ln tK ((pb, lstO wsS kbS) :: [(150, tabObj psS), (lr, lstO vr nr), (44, T4 e4), (51, T5 e5), (e4, oe4), (e5, oe5), (L0 + 1 + 1 + 1 + 1 + 1 + 1, osz), (L0 + 1 + 1 + 1 + 1 + 1, olx), (L0 + 1 + 1 + 1 + 1, owo), (L0 + 1 + 1 + 1, ow), (L0 + 1 + 1, ohu), (L0 + 1, orw), (202, tabObj ps2)])) NS1 (by k_dflt lcg_sub)
  refine Con.use (named_c hDn hCy h195n (.inr ⟨cN, ocN, vcN, tcN, rfl, by k_mem, hcN1, hcN2⟩)) (by k_asm) (by k_asm) (by k_asm) NS2 (by k_asm) (by assumption) (by first | rfl | assumption) (by first | rfl | assumption) (by ktr_room) (by ktr_units) ?_
  k_whole
  rintro rU nU hU9 tkU FU NU ⟨zU, tzU, cU, ocU, vcU, tcU, rfl, rfl, hU1, hU2, hU3, hU4, hNmU⟩
  have hzU := named_new hNmU
  have NU2 := newsSub (news := (ls, L3 y0 y1 y2 tz0 tz1 tz2 3) :: (195, tabObj #[rawInt 264, rawInt 56, .ref cU]) :: (lsh, lstO [.int y0 ts0, .int y1 ts1, .int y2 ts2] skQ) :: lexLed a1 a2 a3 a4 k1 k2 k3 k4 tw Ds f2 c2 Cs dx xl fs ds pb o2 oc2 oCs ofs ods vK kK ln tK ((pb, lstO wsS kbS) :: [(150, tabObj psS), (lr, lstO vr nr), (44, T4 e4), (51, T5 e5), (e4, oe4), (e5, oe5), (L0 + 1 + 1 + 1 + 1 + 1 + 1, osz), (L0 + 1 + 1 + 1 + 1 + 1, olx), (L0 + 1 + 1 + 1 + 1, owo), (L0 + 1 + 1 + 1, ow), (L0 + 1 + 1, ohu), (L0 + 1, orw), (202, tabObj ps2)])) NU (by k_dflt lcg_sub)
  clear NS1 NS2 hDn h195n NU hU1 hU2 hU3 hU4
  (try dsimp only)
  repeat ((fail_if_success (with_reducible show wpAny _ _ (compareOp _ _ _) _ _ _)); walk1)
  rename News _ _ _ _ => NV0
  have hIy : IntsAre [.int y0 tz0, .int y1 tz1, .int y2 tz2] [y0, y1, y2] := .cons _ _ (.cons _ _ (.cons _ _ .nil))
  refine eq_intsF NV0 (.head _) (by k_mem) hIy hsvQ (by ke_room) ?_
  repeat ((fail_if_success (with_reducible show wpAny _ _ (call (Value.ref 193) _ _) _ _ _)); walk1)
  rename News _ _ _ _ => NV1
  rename Fr _ _ _ _ => FV1
  rename_i Dw hV0 lV0
  have hDw : @LT.lt Nat _ pb Dw := by omega
  clear lV0
  have NV2 := newsSub (news := (Dw, lstO [.int y0 tz0, .int y1 tz1, .int y2 tz2, .int zU tzU] 0) :: (195, tabObj #[rawInt 264, rawInt 56, .ref cU]) :: (lsh, lstO [.int y0 ts0, .int y1 ts1, .int y2 ts2] skQ) :: lexLed a1 a2 a3 a4 k1 k2 k3 k4 tw Ds f2 c2 Cs dx xl fs ds pb o2 oc2 oCs ofs ods vK kK ln tK ((pb, lstO wsS kbS) :: [(150, tabObj psS), (lr, lstO vr nr), (44, T4 e4), (51, T5 e5), (e4, oe4), (e5, oe5), (L0 + 1 + 1 + 1 + 1 + 1 + 1, osz), (L0 + 1 + 1 + 1 + 1 + 1, olx), (L0 + 1 + 1 + 1 + 1, owo), (L0 + 1 + 1 + 1, ow), (L0 + 1 + 1, ohu), (L0 + 1, orw), (202, tabObj ps2)])) NV1 (by k_dflt lcg_sub)
  have hDv : DivIn e4 e5 ((Dw, lstO [.int y0 tz0, .int y1 tz1, .int y2 tz2, .int zU tzU] 0) :: (195, tabObj #[rawInt 264, rawInt 56, .ref cU]) :: (lsh, lstO [.int y0 ts0, .int y1 ts1, .int y2 ts2] skQ) :: lexLed a1 a2 a3 a4 k1 k2 k3 k4 tw Ds f2 c2 Cs dx xl fs ds pb o2 oc2 oCs ofs ods vK kK ln tK ((pb, lstO wsS kbS) :: [(150, tabObj psS), (lr, lstO vr nr), (44, T4 e4), (51, T5 e5), (e4, oe4), (e5, oe5), (L0 + 1 + 1 + 1 + 1 + 1 + 1, osz), (L0 + 1 + 1 + 1 + 1 + 1, olx), (L0 + 1 + 1 + 1 + 1, owo), (L0 + 1 + 1 + 1, ow), (L0 + 1 + 1, ohu), (L0 + 1, orw), (202, tabObj ps2)])) := by
    refine DivIn.of (by k_mem) (by k_mem) (by k_mem) (by k_mem) hkD (by omega) (by omega) ?_
    repeat (refine List.forall_mem_cons.mpr ⟨by first | exact .inl rfl | exact .inr (.inl rfl) | exact .inr (.inr ⟨neN (by first | omega | (dsimp only; omega)), neN (by first | omega | (dsimp only; omega))⟩), ?_⟩)
    exact List.forall_mem_nil _
  refine Con.use (show_c hDv (cards_more hCy hzU)) (by k_asm) (by k_asm) (by k_asm) NV2 (by k_asm) (by assumption) (by first | rfl | assumption) (by first | rfl | assumption) (by ktr_room) (by ktr_units) ?_
  k_whole
  rintro rW nW hW9 tkW FW NW9 ⟨lw9, uw9, hsW, rfl, rfl, hltW, hpW, hhW, huw⟩
  have hshW := show_named hNmU hpW hhW
  rw [hshW] at huw
  clear hltW hshW hpW hhW NV1 NV2 hDv
  (try dsimp only)
  obtain ⟨tw90, tw91, tw92, tw93, rfl⟩ := ints4 huw
  repeat ((fail_if_success (with_reducible show wpAny _ _ (compareOp _ _ _) _ _ _)); walk1)
  rename News _ _ _ _ => NV3
  refine eq_intsF NV3 (by k_mem) (.head _) huw (.cons _ _ (.cons _ _ (.cons _ _ (.cons _ _ .nil)))) (by ke_room) ?_
  refine ⟨?_, GrownAt.of NV3 (by k_mem), GrownAt.of NV3 (by k_mem), GrownAt.of NV3 (by k_mem), GrownAt.of NV3 (by k_mem), GrownAt.of NV3 (by k_mem), trivial⟩
  rename Fr _ _ _ _ => FZ9
  exact goodW_bool FZ9 hg (fun _ => rfl) (by with_unfolding_all rfl) rfl)
end Mine

theorem PySem.Challenge.cw_uj0005_01_holds : PySem.Challenge.rw_uj0005_01.Holds :=
  Mine.law_walk
