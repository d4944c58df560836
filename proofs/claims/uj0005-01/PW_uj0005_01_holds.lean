import PyProof.Rows.All
import Wide.All
import OpenK.AllK
import Wide.FinOn
import Lean
import PySem.Challenge.RW_uj0005_01
open PySem PySem.W PyProof.Rows
set_option Elab.async false
set_option compiler.extract_closed false
set_option maxRecDepth 100000
set_option rowWalk.seconds 0
set_option linter.all false
set_option genInjectivity false
set_option genSizeOf false

namespace Mine
def hdView : Program := { PySem.Challenge.pw_uj0005_01 with main := { PySem.Challenge.pw_uj0005_01.main with body := [1, 2, 4, 5, 6, 7, 8, 9, 10, 17, 19, 20, 21, 22, 23, 24, 25, 26, 27].filterMap fun i => PySem.Challenge.pw_uj0005_01.main.body[i]? } }
theorem hdLook5 : noRoadLSs { strict := !(importedModules PySem.Challenge.pw_uj0005_01.main.body).all cThrough.contains, foot := none, bare := (["vars", "dir", "locals"] : List Str).filter (readsOut PySem.Challenge.pw_uj0005_01 PySem.Challenge.pw_uj0005_01.main.body) } PySem.Challenge.pw_uj0005_01.main.body = true := by kernel_rfl
theorem hdLook6 : (namesMeet PySem.Challenge.pw_uj0005_01 PySem.Challenge.pw_uj0005_01.main.body fun _ n => attrL n) = true := by kernel_rfl
theorem hdLook : looksOpen PySem.Challenge.pw_uj0005_01 = true := by
  unfold looksOpen
  refine look_both (look_both ?_ hdLook5) hdLook6
  repeat' with_reducible refine look_both ?_ ?_
  all_goals kernel_rfl
theorem hdPart : OpenRow.partSaid (OpenLaw.row PySem.Challenge.rw_uj0005_01) = true := by
  unfold OpenRow.partSaid
  repeat' with_reducible refine look_both ?_ ?_
  · exact hdLook
  all_goals kernel_rfl
theorem hdRow : OpenRow.wellSaid (OpenLaw.row PySem.Challenge.rw_uj0005_01) = true := by
  unfold OpenRow.wellSaid
  refine look_both (look_both hdPart ?_) ?_
  all_goals kernel_rfl
theorem hdSaid : OpenLaw.wellSaid PySem.Challenge.rw_uj0005_01 = true := by
  unfold OpenLaw.wellSaid
  repeat' with_reducible refine look_both ?_ ?_
  · exact hdRow
  all_goals kernel_rfl
section
local macro_rules | `(tactic| o_law) => `(tactic| refine holds_law Mine.hdSaid fun said => ?_)
set_option hygiene false in
local macro_rules | `(tactic| o_head $H:term) => `(tactic| (refine holds_open (q := Mine.hdView) (loose := [Str.ofString "insort_right", Str.ofString "bisect_right", Str.ofString "insort_left", Str.ofString "bisect_left"]) (Xt := fun s => xlAt Mine.hdView [] s && recOk (RowW.records PySem.Challenge.rw_uj0005_01.row.toRowW) s) (XP := XL Mine.hdView []) (Yf := Hook.obs $H) (Ya := Hook.val $H) (YP := Hook.says $H) (N := 2320) ?hl (Hook.of $H) (Hook.keeps $H) (fun s e => xl_of s (Bool.and_eq_true_iff.mp e).1) XL.keeps (by rfl) (by rfl) (by rfl) (fun s e => recFacts_of (Bool.and_eq_true_iff.mp e).2) (by rfl) (by first | assumption | decide +kernel) (by decide +kernel) ⟨rfl, rfl, rfl, rfl, rfl, by decide +kernel⟩ ?hw ?hc; (case hl => intro w; kernel_rfl)))
set_option maxRecDepth 100000 in
set_option maxHeartbeats 0 in
open_top hd for PySem.Challenge.rw_uj0005_01
end
section
theorem ltS {a b : Nat} (h : a + 1 < b) : a < b := Nat.lt_of_succ_lt h
theorem room0 {x b l : Nat} (h : x + b < l) : x < l := Nat.lt_of_le_of_lt (Nat.le_add_right x b) h
theorem gen_toks {M : Model} {A : Around} {α : Type} {c : Sem α} {E : Value → Shared → Prop} {a b : Nat} {Q : α → Shared → Prop} {h : Heap} {g d o} (H : ∀ t, wpAny M A c Q E { heap := h, gens := g, drawn := d, toks := t, os := o }) : wpAny M A c Q E { heap := h, gens := g, drawn := d, toks := a + b, os := o } := H _
theorem pkG {a D x : Nat} {r : Prop} (h : x < D ∧ r) (k : (x < D ∧ r) → a < D) : a < D := k h
theorem piG {D c x : Nat} {p r : Prop} (h : (p → x ≠ c) ∧ r) (k : ((p → x ≠ c) ∧ r) → D ≠ c) : D ≠ c := k h
theorem pnA {D c x : Nat} {q r : Prop} (h : (x ≠ c ∧ q) ∧ r) (k : ((x ≠ c ∧ q) ∧ r) → D ≠ c) : D ≠ c := k h
theorem pnB {D c x : Nat} {p q r : Prop} (h : (p ∧ x ≠ c ∧ q) ∧ r) (k : ((p ∧ x ≠ c ∧ q) ∧ r) → D ≠ c) : D ≠ c := k h
theorem pnC {D c x : Nat} {p q r : Prop} (h : (p ∧ q ∧ x ≠ c) ∧ r) (k : ((p ∧ q ∧ x ≠ c) ∧ r) → D ≠ c) : D ≠ c := k h
theorem stepR {p r a : Prop} (k : r → a) (h : p ∧ r) : a := k h.2
theorem fstR {a r : Prop} (h : a ∧ r) : a := h.1
theorem piL {p a r : Prop} (hp : p) (h : (p → a) ∧ r) : a := h.1 hp
theorem pnL1 {a q r : Prop} (h : (a ∧ q) ∧ r) : a := h.1.1
theorem pnL2 {p a q r : Prop} (h : (p ∧ a ∧ q) ∧ r) : a := h.1.2.1
theorem pnL3 {p q a r : Prop} (h : (p ∧ q ∧ a) ∧ r) : a := h.1.2.2
structure FoldN (Q' Q : Flow → Shared → Prop) (P : Shared → Prop) : Prop where
  next : ∀ s', P s' → Q' .next s'
  ret : ∀ v s', Q (.ret v) s' → Q' (.ret v) s'
  brk : ∀ s', Q .brk s' → Q' .brk s'
  cont : ∀ s', Q .cont s' → Q' .cont s'
theorem execs_consF {M : Model} {A : Around} {env : Env} {st : Stmt} {rest : List Stmt} {Q : Flow → Shared → Prop} {E : Value → Shared → Prop} {s : Shared}
    (h : ∀ Q', FoldN Q' Q (wpAny M A (execs rest env) Q E) → wpAny M A (exec st env) Q' E s) : wpAny M A (execs (st :: rest) env) Q E s :=
  wpAny_execs_cons (h _ ⟨fun _ x => x, fun _ _ x => x, fun _ x => x, fun _ x => x⟩)
structure FoldL (Q' : Flow → Shared → Prop) (P : Value → Shared → Prop) : Prop where
  ret : ∀ v s', P v s' → Q' (.ret v) s'
  nxt : ∀ s', P .none s' → Q' .next s'
theorem foldL {M : Model} {A : Around} {c : Sem Flow} {h₀ : Heap} {L : Addr} {m : Str → Option Value} {g : Heap} {R : Result → Shared → Prop} {E : Value → Shared → Prop} {s : Shared}
    (h : ∀ Q', FoldL Q' (LeaveK h₀ L m g R) → wpAny M A c Q' E s) : wpAny M A c (fun fl s' => LeaveK h₀ L m g R (match fl with | .ret v => v | _ => .none) s') E s :=
  h _ ⟨fun _ _ x => x, fun _ x => x⟩
abbrev Led := List (Addr × Obj)
def CodesAt (h : Heap) : Prop := CodeHd h 48 44 ∧ CodeHd h 55 51 ∧ CodeHd h 154 150 ∧ CodeHd h 199 195 ∧ CodeHd h 204 202
def Con (w : World) (p : Program) (loose : List Str) (mean : ExcName → Option Value) (mg mb : Str → Option Value) (f : Value) (vs : List Value) (kw : List (Str × Value)) (D U : Nat) (news : Led) (Post : Value → Led → Prop) : Prop :=
  ∀ (dp un : Nat) (gd : Option (List Code)) (env : Env) (outer : List Env) (A₀ : Around) (base h₀ : Heap) (L : Addr) (m : Str → Option Value) (h : Heap) (g : Array GenState) (d : Drawn) (t : Nat) (o : OsState) (R : Result → Shared → Prop),
    Below A₀ base outer h₀ → Fr h₀ L h m → (hd.heap_1 w.params).In h₀ → News h₀ L h news → Top p loose mean mg mb h₀ → CodesAt base → env.frame = some L → env.scope.kind = .function → dp + D < recursionLimit → un + U < cLine →
    (∀ r news' h' tk', Fr h₀ L h' m → News h₀ L h' news' → Post r news' → R (.ok (.ret r)) { heap := h', gens := g, drawn := d, toks := tk', os := o }) →
    codeAny (model PySem.Challenge.rw_uj0005_01.row.prog w) { handled := none, depth := dp, frames := some (env :: outer), guards := gd, units := un } (.call f ⟨vs, kw⟩) R { heap := h, gens := g, drawn := d, toks := t, os := o }
theorem Con.use {w : World} {p : Program} {loose : List Str} {mean : ExcName → Option Value} {mg mb : Str → Option Value} {f : Value} {vs : List Value} {kw : List (Str × Value)} {D U : Nat} {news : Led} {Post : Value → Led → Prop}
    {dp un : Nat} {gd : Option (List Code)} {env : Env} {outer : List Env} {A₀ : Around} {base h₀ : Heap} {L : Addr} {m : Str → Option Value} {h : Heap} {g : Array GenState} {d : Drawn} {t : Nat} {o : OsState} {Q E : Value → Shared → Prop}
    (C : Con w p loose mean mg mb f vs kw D U news Post) (B : Below A₀ base outer h₀) (F : Fr h₀ L h m) (X : (hd.heap_1 w.params).In h₀) (N : News h₀ L h news) (T : Top p loose mean mg mb h₀) (hc : CodesAt base)
    (hf : env.frame = some L) (hk : env.scope.kind = .function) (hdp : dp + D < recursionLimit) (hu : un + U < cLine)
    (H : ∀ K : Value → Led → Prop, (∀ r news', (∀ h' tk', Fr h₀ L h' m → News h₀ L h' news' → Q r { heap := h', gens := g, drawn := d, toks := tk', os := o }) → K r news') → ∀ r news', Post r news' → K r news') :
    wpAny (model PySem.Challenge.rw_uj0005_01.row.prog w) { handled := none, depth := dp, frames := some (env :: outer), guards := gd, units := un } (call f vs kw) Q E { heap := h, gens := g, drawn := d, toks := t, os := o } :=
  wpAny_call (C dp un gd env outer A₀ base h₀ L m h g d t o _ B F X N T hc hf hk hdp hu fun r n' h' tk' F' N' P =>
    H (fun r n' => ∀ h' tk', Fr h₀ L h' m → News h₀ L h' n' → Q r { heap := h', gens := g, drawn := d, toks := tk', os := o }) (fun _ _ x => x) r n' P h' tk' F' N')
theorem const_int {M : Model} {A : Around} {E : Value → Shared → Prop} {env : Env} {i : Int} {k : Nat} {pos : Pos} {Q : Value → Shared → Prop} {h : Heap} {g : Array GenState} {d : Drawn} {t : Nat} {o : OsState}
    (H : Q (.int i t) { heap := h, gens := g, drawn := d, toks := t + 1, os := o }) : wpAny M A (eval (.Constant (.int i) k pos) env) Q E { heap := h, gens := g, drawn := d, toks := t, os := o } := wpAny_Constant_int H
theorem st_L {M : Model} {A : Around} {E : Value → Shared → Prop} {h₀ : Heap} {L a : Addr} {m : Str → Option Value} {cn : Str} {cs : Scope} {ccd : Value} {cl : List (Str × Addr)} {x : Str} {v : Value} {Q : Unit → Shared → Prop} {news : Led} {h : Heap} {g : Array GenState} {d : Drawn} {t : Nat} {o : OsState}
    (F : Fr h₀ L h m) (N : News h₀ L h news) (H : ∀ h' (_ : Nat), let m9 := fun y => if y = x then some v else m y; Fr h₀ L h' m9 → News h₀ L h' news → ∀ tk, Q () { heap := h', gens := g, drawn := d, toks := tk, os := o })
    (a1 : cs.kind = .function) (a2 : (envX cn cs L a ccd cl).kindOf x = some .local) : wpAny M A (storeName (envX cn cs L a ccd cl) x v) Q E { heap := h, gens := g, drawn := d, toks := t, os := o } :=
  storeX_L F N (fun h' F' N' => H h' 0 F' N' _) a1 a2
theorem st_int {M : Model} {A : Around} {E : Value → Shared → Prop} {h₀ : Heap} {L a : Addr} {m : Str → Option Value} {cn : Str} {cs : Scope} {ccd : Value} {cl : List (Str × Addr)} {x : Str} {i : Int} {b c : Nat} {Q : Unit → Shared → Prop} {news : Led} {h : Heap} {g : Array GenState} {d : Drawn} {t : Nat} {o : OsState}
    (F : Fr h₀ L h m) (N : News h₀ L h news) (H : ∀ h' (tv : Nat), let m9 := fun y => if y = x then some (.int i tv) else m y; Fr h₀ L h' m9 → News h₀ L h' news → ∀ tk, Q () { heap := h', gens := g, drawn := d, toks := tk, os := o })
    (a1 : cs.kind = .function) (a2 : (envX cn cs L a ccd cl).kindOf x = some .local) : wpAny M A (storeName (envX cn cs L a ccd cl) x (.int i (b + c))) Q E { heap := h, gens := g, drawn := d, toks := t, os := o } :=
  storeX_L F N (fun h' F' N' => H h' _ F' N' _) a1 a2
section
variable {P : PC} {x : Str} {pos : Pos} {l r : Expr}
end
section
variable {prog : Program} {w : World} {A : Around} {E : Value → Shared → Prop} {h₀ h : Heap} {g : Array GenState} {d : Drawn} {o : OsState} {L a : Addr} {m : Str → Option Value} {cn : Str} {cs : Scope} {ccd : Value} {cl : List (Str × Addr)} {t : Nat} {e : Expr}
end
theorem newsSub {h₀ h : Heap} {L : Addr} {news news' : Led} (N : News h₀ L h news') (hs : ∀ p ∈ news, p ∈ news') : News h₀ L h news := fun p hp => N p (hs p hp)
theorem allLt_ne {x d : Nat} : ∀ {l : Led}, AllLt x l → x ≤ d → ∀ p ∈ l, p.1 ≠ d
  | [], _, _, _, hp => nomatch hp
  | q :: r, h, hx, p, hp => by
    rcases List.mem_cons.mp hp with rfl | hp
    · exact Nat.ne_of_lt (Nat.lt_of_lt_of_le h.1 hx)
    · exact allLt_ne h.2 hx p hp
end
section
variable {w : World} {p : Program} {loose : List Str} {mean : ExcName → Option Value} {mg mb : Str → Option Value}
theorem fin_nan {x : UInt64} (h : Float64.isFinite x = true) (h' : Float64.isNaN x = true) : False := by
  rw [PySem.Flt.nan_or_inf_or_finite, h'] at h; simp at h
theorem fin_inf {x : UInt64} (h : Float64.isFinite x = true) (h' : Float64.isInf x = true) : False := by
  rw [PySem.Flt.nan_or_inf_or_finite, h'] at h; simp at h
def nearM (x : UInt64) (u : Int) : UInt64 := Float64.add (Float64.mul (Float64.mul x (Float64.ofInt u)) (Float64.ofInt (2 ^ Int.toNat 20))) 4602678819172646912
abbrev tupO (vs : List Value) : Obj := { cls := .type "tuple", data := .seq vs.toArray }
abbrev hsvI (h : UInt64) : Int := Flt.toInt Float64.truncOf (Float64.mul h 4618441417868443648)
def hsvM (h s v : UInt64) : Option (UInt64 × UInt64 × UInt64) :=
  if (Float64.cmp s 0 == some Ordering.eq) = true then some (v, v, v)
  else if Float64.isFinite (Float64.mul h 4618441417868443648) = true ∧ (hsvI h).natAbs < 2 ^ 1024 - 2 ^ 970 then
    let f := Float64.sub (Float64.mul h 4618441417868443648) (Float64.ofInt (hsvI h))
    let p := Float64.mul v (Float64.sub 4607182418800017408 s)
    let q := Float64.mul v (Float64.sub 4607182418800017408 (Float64.mul s f))
    let t := Float64.mul v (Float64.sub 4607182418800017408 (Float64.mul s (Float64.sub 4607182418800017408 f)))
    if (hsvI h).fmod 6 = 0 then some (v, t, p)
    else if (hsvI h).fmod 6 = 1 then some (q, v, p)
    else if (hsvI h).fmod 6 = 2 then some (p, v, t)
    else if (hsvI h).fmod 6 = 3 then some (p, q, v)
    else if (hsvI h).fmod 6 = 4 then some (t, p, v)
    else if (hsvI h).fmod 6 = 5 then some (v, p, q)
    else none
  else none
theorem hsvM_fin {h s v : UInt64} {r} (hM : hsvM h s v = some r) (hs : (Float64.cmp s 0 == some Ordering.eq) = false) : Float64.isFinite (Float64.mul h 4618441417868443648) = true ∧ (hsvI h).natAbs < 2 ^ 1024 - 2 ^ 970 := by
  unfold hsvM at hM
  rw [if_neg (by rw [hs]; exact Bool.false_ne_true)] at hM
  by_cases hc : Float64.isFinite (Float64.mul h 4618441417868443648) = true ∧ (hsvI h).natAbs < 2 ^ 1024 - 2 ^ 970
  · exact hc
  · rw [if_neg hc] at hM; cases hM
def hsvSel (k : Int) (x0 x1 x2 x3 x4 x5 : UInt64 × UInt64 × UInt64) : Option (UInt64 × UInt64 × UInt64) :=
  if k = 0 then some x0 else if k = 1 then some x1 else if k = 2 then some x2 else if k = 3 then some x3 else if k = 4 then some x4 else if k = 5 then some x5 else none
theorem hsv_val {h s v : UInt64} {r} (hM : hsvM h s v = some r) (hs : (Float64.cmp s 0 == some Ordering.eq) = false) : hsvSel ((hsvI h).fmod 6)
    (v, Float64.mul v (Float64.sub 4607182418800017408 (Float64.mul s (Float64.sub 4607182418800017408 (Float64.sub (Float64.mul h 4618441417868443648) (Float64.ofInt (hsvI h)))))), Float64.mul v (Float64.sub 4607182418800017408 s))
    (Float64.mul v (Float64.sub 4607182418800017408 (Float64.mul s (Float64.sub (Float64.mul h 4618441417868443648) (Float64.ofInt (hsvI h))))), v, Float64.mul v (Float64.sub 4607182418800017408 s))
    (Float64.mul v (Float64.sub 4607182418800017408 s), v, Float64.mul v (Float64.sub 4607182418800017408 (Float64.mul s (Float64.sub 4607182418800017408 (Float64.sub (Float64.mul h 4618441417868443648) (Float64.ofInt (hsvI h)))))))
    (Float64.mul v (Float64.sub 4607182418800017408 s), Float64.mul v (Float64.sub 4607182418800017408 (Float64.mul s (Float64.sub (Float64.mul h 4618441417868443648) (Float64.ofInt (hsvI h))))), v)
    (Float64.mul v (Float64.sub 4607182418800017408 (Float64.mul s (Float64.sub 4607182418800017408 (Float64.sub (Float64.mul h 4618441417868443648) (Float64.ofInt (hsvI h)))))), Float64.mul v (Float64.sub 4607182418800017408 s), v)
    (v, Float64.mul v (Float64.sub 4607182418800017408 s), Float64.mul v (Float64.sub 4607182418800017408 (Float64.mul s (Float64.sub (Float64.mul h 4618441417868443648) (Float64.ofInt (hsvI h)))))) = some r := by
  have hf := hsvM_fin hM hs
  unfold hsvM at hM
  rw [if_neg (by rw [hs]; exact Bool.false_ne_true), if_pos hf] at hM
  exact hM
theorem sel0 {k : Int} {x0 x1 x2 x3 x4 x5 : UInt64 × UInt64 × UInt64} {r} (h : hsvSel k x0 x1 x2 x3 x4 x5 = some r) (hk : k = 0) : some x0 = some r := by subst hk; exact h
theorem sel1 {k : Int} {x0 x1 x2 x3 x4 x5 : UInt64 × UInt64 × UInt64} {r} (h : hsvSel k x0 x1 x2 x3 x4 x5 = some r) (hk : k = 1) : some x1 = some r := by subst hk; exact h
theorem sel2 {k : Int} {x0 x1 x2 x3 x4 x5 : UInt64 × UInt64 × UInt64} {r} (h : hsvSel k x0 x1 x2 x3 x4 x5 = some r) (hk : k = 2) : some x2 = some r := by subst hk; exact h
theorem sel3 {k : Int} {x0 x1 x2 x3 x4 x5 : UInt64 × UInt64 × UInt64} {r} (h : hsvSel k x0 x1 x2 x3 x4 x5 = some r) (hk : k = 3) : some x3 = some r := by subst hk; exact h
theorem sel4 {k : Int} {x0 x1 x2 x3 x4 x5 : UInt64 × UInt64 × UInt64} {r} (h : hsvSel k x0 x1 x2 x3 x4 x5 = some r) (hk : k = 4) : some x4 = some r := by subst hk; exact h
theorem sel5 {k : Int} {x0 x1 x2 x3 x4 x5 : UInt64 × UInt64 × UInt64} {r} (h : hsvSel k x0 x1 x2 x3 x4 x5 = some r) (hk : k = 5) : some x5 = some r := by subst hk; exact h
theorem sel9 {k : Int} {x0 x1 x2 x3 x4 x5 : UInt64 × UInt64 × UInt64} {r} (h : hsvSel k x0 x1 x2 x3 x4 x5 = some r) (h0 : ¬ k = 0) (h1 : ¬ k = 1) (h2 : ¬ k = 2) (h3 : ¬ k = 3) (h4 : ¬ k = 4) (h5 : ¬ k = 5) : False := by
  unfold hsvSel at h
  rw [if_neg h0, if_neg h1, if_neg h2, if_neg h3, if_neg h4, if_neg h5] at h
  cases h
theorem hsv_v {h s v : UInt64} {r} (hM : hsvM h s v = some r) (hs : (Float64.cmp s 0 == some Ordering.eq) = true) : some (v, v, v) = some r := by
  unfold hsvM at hM
  rw [if_pos hs] at hM
  exact hM
end
section
variable {w : World} {p : Program} {loose : List Str} {mean : ExcName → Option Value} {mg mb : Str → Option Value}
def mx3 (a b c : UInt64) : UInt64 := if (Float64.cmp a b == some .lt) = true then (if (Float64.cmp b c == some .lt) = true then c else b) else (if (Float64.cmp a c == some .lt) = true then c else a)
def mn3 (a b c : UInt64) : UInt64 := if (Float64.cmp b a == some .lt) = true then (if (Float64.cmp c b == some .lt) = true then c else b) else (if (Float64.cmp c a == some .lt) = true then c else a)
open PySem.Flt in
theorem max3_f {prog : Program} {A : Around} {E : Value → Shared → Prop} {s : Shared} {a b c : UInt64} {t u x : Tok} {Q : Value → Shared → Prop} {h₀ : Heap} {L : Addr} {m : Str → Option Value} {news : Led} (hh : A.handled = none)
    (F : Fr h₀ L s.heap m) (N : News h₀ L s.heap news)
    (h : ∀ h' tk v, Fr h₀ L h' m → News h₀ L h' news → Q (.float (mx3 a b c) v) { s with heap := h', toks := tk }) :
    wpAny (model prog w) A (call (.builtin "max") [.float a t, .float b u, .float c x]) Q E s := by
  have hT : (s.heap.push { cls := .type "tuple", data := .seq #[.float a t, .float b u, .float c x] }).IsTuple s.heap.objs.size #[.float a t, .float b u, .float c x] := ⟨_, Heap.get?_push_size _ rfl, rfl, 0, rfl⟩
  refine call_max_three (wpAny_pyIter_tuple hT ?_)
  have hsz : (s.heap.push { cls := .type "tuple", data := .seq #[.float a t, .float b u, .float c x] }).objs.size = s.heap.objs.size + 1 := Heap.size_push ..
  refine ⟨_, [_, s.heap.objs.size], [_], _, _, _, _, rfl, Walks.tuple (A := A.in1) hh _ s.heap.objs.size (by rw [hsz]; exact Nat.ne_of_lt (Nat.lt_succ_self _)) #[.float a t, .float b u, .float c x],
    ⟨⟨_, Heap.get?_push_size _ rfl, rfl, rfl⟩, hT.push _⟩, fun d hd => ?_, by simp, cmpOf_gt #[.float a t, .float b u, .float c x] (by simp [NumV.float]), fun v h' tk hP hk => ?_⟩
  · show d < ((s.heap.push _).push _).objs.size
    rw [Heap.size_push, hsz]
    rcases List.mem_cons.mp hd with rfl | hd
    · rw [hsz]; exact Nat.lt_succ_self _
    · rcases List.mem_cons.mp hd with rfl | hd
      · exact Nat.lt_succ_of_lt (Nat.lt_succ_self _)
      · cases hd
  · have hold : ∀ d o, s.heap.get? d = some o → h'.get? d = some o := fun d o e => by
      refine hk d o (fun hm => ?_) (Heap.get?_push_of_some _ (Heap.get?_push_of_some _ e))
      rcases List.mem_cons.mp hm with e1 | hm
      · have := Heap.lt_size e; rw [e1, hsz] at this; exact Nat.lt_irrefl _ (Nat.lt_of_succ_lt this)
      · cases hm
    have hv : ∃ y, v = .float (mx3 a b c) y := by
      unfold mx3
      cases h1 : (Float64.cmp a b == some .lt) <;> cases h2 : (Float64.cmp b c == some .lt) <;> cases h3 : (Float64.cmp a c == some .lt) <;> simp [argBest, ltV, h1, h2, h3] at hP <;> exact ⟨_, by rw [← hP]; rfl⟩
    obtain ⟨y, rfl⟩ := hv
    exact h h' tk y (F.grownK hold) (N.grown hold)
open PySem.Flt in
theorem min3_f {prog : Program} {A : Around} {E : Value → Shared → Prop} {s : Shared} {a b c : UInt64} {t u x : Tok} {Q : Value → Shared → Prop} {h₀ : Heap} {L : Addr} {m : Str → Option Value} {news : Led} (hh : A.handled = none)
    (F : Fr h₀ L s.heap m) (N : News h₀ L s.heap news)
    (h : ∀ h' tk v, Fr h₀ L h' m → News h₀ L h' news → Q (.float (mn3 a b c) v) { s with heap := h', toks := tk }) :
    wpAny (model prog w) A (call (.builtin "min") [.float a t, .float b u, .float c x]) Q E s := by
  have hT : (s.heap.push { cls := .type "tuple", data := .seq #[.float a t, .float b u, .float c x] }).IsTuple s.heap.objs.size #[.float a t, .float b u, .float c x] := ⟨_, Heap.get?_push_size _ rfl, rfl, 0, rfl⟩
  refine call_min_three (wpAny_pyIter_tuple hT ?_)
  have hsz : (s.heap.push { cls := .type "tuple", data := .seq #[.float a t, .float b u, .float c x] }).objs.size = s.heap.objs.size + 1 := Heap.size_push ..
  refine ⟨_, [_, s.heap.objs.size], [_], _, _, _, _, rfl, Walks.tuple (A := A.in1) hh _ s.heap.objs.size (by rw [hsz]; exact Nat.ne_of_lt (Nat.lt_succ_self _)) #[.float a t, .float b u, .float c x],
    ⟨⟨_, Heap.get?_push_size _ rfl, rfl, rfl⟩, hT.push _⟩, fun d hd => ?_, by simp, cmpOf_lt #[.float a t, .float b u, .float c x] (by simp [NumV.float]), fun v h' tk hP hk => ?_⟩
  · show d < ((s.heap.push _).push _).objs.size
    rw [Heap.size_push, hsz]
    rcases List.mem_cons.mp hd with rfl | hd
    · rw [hsz]; exact Nat.lt_succ_self _
    · rcases List.mem_cons.mp hd with rfl | hd
      · exact Nat.lt_succ_of_lt (Nat.lt_succ_self _)
      · cases hd
  · have hold : ∀ d o, s.heap.get? d = some o → h'.get? d = some o := fun d o e => by
      refine hk d o (fun hm => ?_) (Heap.get?_push_of_some _ (Heap.get?_push_of_some _ e))
      rcases List.mem_cons.mp hm with e1 | hm
      · have := Heap.lt_size e; rw [e1, hsz] at this; exact Nat.lt_irrefl _ (Nat.lt_of_succ_lt this)
      · cases hm
    have hv : ∃ y, v = .float (mn3 a b c) y := by
      unfold mn3
      cases h1 : (Float64.cmp b a == some .lt) <;> cases h2 : (Float64.cmp c b == some .lt) <;> cases h3 : (Float64.cmp c a == some .lt) <;> simp [argBest, ltV, h1, h2, h3] at hP <;> exact ⟨_, by rw [← hP]; rfl⟩
    obtain ⟨y, rfl⟩ := hv
    exact h h' tk y (F.grownK hold) (N.grown hold)
def hueM (x : UInt64) : UInt64 := (Float64.divmod (Float64.div x 4618441417868443648) 4607182418800017408).snd
def rgbM (r g b : UInt64) : Option (UInt64 × UInt64 × UInt64) :=
  let mx := mx3 r g b
  let mn := mn3 r g b
  if (Float64.cmp mn mx == some Ordering.eq) = true then some (0, 0, mx)
  else if ¬ Float64.isZero mx = true ∧ ¬ Float64.isZero (Float64.sub mx mn) = true then
    let s := Float64.div (Float64.sub mx mn) mx
    let rc := Float64.div (Float64.sub mx r) (Float64.sub mx mn)
    let gc := Float64.div (Float64.sub mx g) (Float64.sub mx mn)
    let bc := Float64.div (Float64.sub mx b) (Float64.sub mx mn)
    if (Float64.cmp r mx == some Ordering.eq) = true then some (hueM (Float64.sub bc gc), s, mx)
    else if (Float64.cmp g mx == some Ordering.eq) = true then some (hueM (Float64.sub (Float64.add 4611686018427387904 rc) bc), s, mx)
    else some (hueM (Float64.sub (Float64.add 4616189618054758400 gc) rc), s, mx)
  else none
theorem bF {b : Bool} (h : b = false) : ¬ b = true := by rw [h]; exact Bool.false_ne_true
theorem rgbM_fin {r g b : UInt64} {x} (hM : rgbM r g b = some x) (hs : (Float64.cmp (mn3 r g b) (mx3 r g b) == some Ordering.eq) = false) : ¬ Float64.isZero (mx3 r g b) = true ∧ ¬ Float64.isZero (Float64.sub (mx3 r g b) (mn3 r g b)) = true := by
  unfold rgbM at hM
  dsimp only at hM
  rw [if_neg (bF hs)] at hM
  by_cases hc : ¬ Float64.isZero (mx3 r g b) = true ∧ ¬ Float64.isZero (Float64.sub (mx3 r g b) (mn3 r g b)) = true
  · exact hc
  · rw [if_neg hc] at hM; cases hM
theorem rgb_v {r g b : UInt64} {x} (hM : rgbM r g b = some x) (hs : (Float64.cmp (mn3 r g b) (mx3 r g b) == some Ordering.eq) = true) : some (0, 0, mx3 r g b) = some x := by
  unfold rgbM at hM
  dsimp only at hM
  rw [if_pos hs] at hM
  exact hM
theorem rgb_w {r g b : UInt64} {x} (hM : rgbM r g b = some x) (hs : (Float64.cmp (mn3 r g b) (mx3 r g b) == some Ordering.eq) = false) :
    (if (Float64.cmp r (mx3 r g b) == some Ordering.eq) = true then some (hueM (Float64.sub (Float64.div (Float64.sub (mx3 r g b) b) (Float64.sub (mx3 r g b) (mn3 r g b))) (Float64.div (Float64.sub (mx3 r g b) g) (Float64.sub (mx3 r g b) (mn3 r g b)))), Float64.div (Float64.sub (mx3 r g b) (mn3 r g b)) (mx3 r g b), mx3 r g b)
    else if (Float64.cmp g (mx3 r g b) == some Ordering.eq) = true then some (hueM (Float64.sub (Float64.add 4611686018427387904 (Float64.div (Float64.sub (mx3 r g b) r) (Float64.sub (mx3 r g b) (mn3 r g b)))) (Float64.div (Float64.sub (mx3 r g b) b) (Float64.sub (mx3 r g b) (mn3 r g b)))), Float64.div (Float64.sub (mx3 r g b) (mn3 r g b)) (mx3 r g b), mx3 r g b)
    else some (hueM (Float64.sub (Float64.add 4616189618054758400 (Float64.div (Float64.sub (mx3 r g b) g) (Float64.sub (mx3 r g b) (mn3 r g b)))) (Float64.div (Float64.sub (mx3 r g b) r) (Float64.sub (mx3 r g b) (mn3 r g b)))), Float64.div (Float64.sub (mx3 r g b) (mn3 r g b)) (mx3 r g b), mx3 r g b)) = some x := by
  have hf := rgbM_fin hM hs
  unfold rgbM at hM
  dsimp only at hM
  rw [if_neg (bF hs), if_pos hf] at hM
  exact hM
end
section
variable {w : World} {p : Program} {loose : List Str} {mean : ExcName → Option Value} {mg mb : Str → Option Value}
abbrev lstO (vs : List Value) (n : Nat) : Obj := { cls := .type "list", data := .seq vs.toArray n }
theorem isList_of {h₀ h : Heap} {L l : Addr} {vs : List Value} {n : Nat} {news : Led} (N : News h₀ L h news) (hm : (l, lstO vs n) ∈ news) : h.IsList l vs.toArray := ⟨_, N.get hm, rfl, n, rfl⟩
theorem item_l {prog : Program} {A : Around} {E : Value → Shared → Prop} {s : Shared} {h₀ : Heap} {L l : Addr} {vs : List Value} {ns : List Int} {n : Nat} {k : Int} {u : Tok} {news : Led} {value slice : Expr} {Q : Value → Shared → Prop}
    (N : News h₀ L s.heap news) (hm : (l, lstO vs n) ∈ news) (hi : IntsAre vs ns) (h0 : 0 ≤ k) (h1 : k < ns.length) (hlen : ns.length < 2 ^ 20) (h : ∀ t, Q (.int (ns.getD k.toNat 0) t) s)
    (hs : subscripted slice false (.ref l) (.int k u) = operate [.ref l, .int k u] (getItem (.ref l) (.int k u)) := by with_unfolding_all rfl) :
    wpAny (model prog w) A (subscriptTail value slice (.ref l) (.int k u)) Q E s := by
  have hl := isList_of N hm
  have hk : k.toNat < ns.length := by omega
  obtain ⟨t, ht⟩ := hi.get k.toNat (ns.getD k.toNat 0) (by simp [hk])
  exact tail_any hl.typeIs slot_list_getitem.lookup (wpAny_getItem_list hl h0 (by omega) (by simpa using ht) (h t)) hs
def BR (ns : List Int) (x lo hi : Int) : Prop := 0 ≤ lo ∧ lo ≤ hi ∧ hi ≤ ns.length ∧ (∀ i : Nat, (i : Int) < lo → ns.getD i 0 ≤ x) ∧ (∀ i : Nat, hi ≤ i → i < ns.length → x < ns.getD i 0)
theorem BR.start (ns : List Int) (x : Int) : BR ns x 0 ns.length := ⟨by omega, by omega, by omega, by intro i hi; omega, by intro i h1 h2; omega⟩
theorem BR.mid {ns : List Int} {x lo hi : Int} (h : BR ns x lo hi) (hlt : lo < hi) : 0 ≤ (lo + hi).fdiv 2 ∧ (lo + hi).fdiv 2 < ns.length ∧ lo ≤ (lo + hi).fdiv 2 ∧ (lo + hi).fdiv 2 < hi := by
  obtain ⟨a, b, c, _, _⟩ := h
  have : (lo + hi).fdiv 2 = (lo + hi) / 2 := Int.fdiv_eq_ediv_of_nonneg _ (by omega)
  omega
def Sorted (ns : List Int) : Prop := ∀ i j : Nat, i ≤ j → j < ns.length → ns.getD i 0 ≤ ns.getD j 0
theorem BR.toHi {ns : List Int} {x lo hi : Int} (hs : Sorted ns) (h : BR ns x lo hi) (hlt : lo < hi) (hx : x < ns.getD ((lo + hi).fdiv 2).toNat 0) : BR ns x lo ((lo + hi).fdiv 2) := by
  obtain ⟨m0, m1, m2, m3⟩ := h.mid hlt
  refine ⟨h.1, m2, by omega, h.2.2.2.1, fun i h1 h2 => ?_⟩
  have := hs ((lo + hi).fdiv 2).toNat i (by omega) h2
  omega
theorem BR.toLo {ns : List Int} {x lo hi : Int} (hs : Sorted ns) (h : BR ns x lo hi) (hlt : lo < hi) (hx : ¬ x < ns.getD ((lo + hi).fdiv 2).toNat 0) : BR ns x ((lo + hi).fdiv 2 + 1) hi := by
  obtain ⟨m0, m1, m2, m3⟩ := h.mid hlt
  refine ⟨by omega, by omega, h.2.2.1, fun i h1 => ?_, h.2.2.2.2⟩
  have := hs i ((lo + hi).fdiv 2).toNat (by omega) (by omega)
  omega
theorem BR.done {ns : List Int} {x lo hi : Int} (h : BR ns x lo hi) (hlt : ¬ lo < hi) : BR ns x lo lo := by
  have : hi = lo := by have := h.2.1; omega
  rw [this] at h; exact h
theorem BR.toHi' {ns : List Int} {x lo hi : Int} (hs : Sorted ns) (h : BR ns (x - 1) lo hi) (hlt : lo < hi) (hx : ¬ ns.getD ((lo + hi).fdiv 2).toNat 0 < x) : BR ns (x - 1) lo ((lo + hi).fdiv 2) := h.toHi hs hlt (by omega)
theorem BR.toLo' {ns : List Int} {x lo hi : Int} (hs : Sorted ns) (h : BR ns (x - 1) lo hi) (hlt : lo < hi) (hx : ns.getD ((lo + hi).fdiv 2).toNat 0 < x) : BR ns (x - 1) ((lo + hi).fdiv 2 + 1) hi := h.toLo hs hlt (by omega)
theorem BR.start' (ns : List Int) (g : Int → Int) (x : Int) : BR (ns.map g) x 0 ns.length := by have := BR.start (ns.map g) x; rwa [List.length_map] at this
theorem getD_mapg {ns : List Int} {g : Int → Int} {k : Int} (h0 : 0 ≤ k) (h1 : k < (ns.map g).length) : (ns.map g).getD k.toNat 0 = g (ns.getD k.toNat 0) := by
  rw [List.length_map] at h1
  have : k.toNat < ns.length := by omega
  simp [List.getD_eq_getElem?_getD, this]
theorem BR.toHiM {ns : List Int} {g : Int → Int} {x lo hi : Int} (hs : Sorted (ns.map g)) (h : BR (ns.map g) x lo hi) (hlt : lo < hi) (hx : x < g (ns.getD ((lo + hi).fdiv 2).toNat 0)) : BR (ns.map g) x lo ((lo + hi).fdiv 2) :=
  h.toHi hs hlt (by rw [getD_mapg (h.mid hlt).1 (h.mid hlt).2.1]; exact hx)
theorem BR.toLoM {ns : List Int} {g : Int → Int} {x lo hi : Int} (hs : Sorted (ns.map g)) (h : BR (ns.map g) x lo hi) (hlt : lo < hi) (hx : ¬ x < g (ns.getD ((lo + hi).fdiv 2).toNat 0)) : BR (ns.map g) x ((lo + hi).fdiv 2 + 1) hi :=
  h.toLo hs hlt (by rw [getD_mapg (h.mid hlt).1 (h.mid hlt).2.1]; exact hx)
end
section
variable {w : World} {p : Program} {loose : List Str} {mean : ExcName → Option Value} {mg mb : Str → Option Value}
theorem getD_eq {ns : List Int} {i : Nat} (h : i < ns.length) : ns.getD i 0 = ns[i] := by simp [List.getD_eq_getElem?_getD, h]
theorem sorted_iff {ns : List Int} : Sorted ns ↔ ns.Pairwise (· ≤ ·) := by
  rw [List.pairwise_iff_getElem]
  constructor
  · intro h i j hi hj hij
    have := h i j (by omega) hj
    rwa [getD_eq hi, getD_eq hj] at this
  · intro h i j hij hj
    rw [getD_eq (by omega : i < ns.length), getD_eq hj]
    rcases Nat.lt_or_eq_of_le hij with h1 | rfl
    · exact h i j (by omega) hj h1
    · exact Int.le_refl _
theorem sorted_ins {ns : List Int} {x : Int} {k : Nat} (hs : Sorted ns) (h1 : ∀ i : Nat, i < k → i < ns.length → ns.getD i 0 ≤ x) (h2 : ∀ i : Nat, k ≤ i → i < ns.length → x ≤ ns.getD i 0) : Sorted (ns.take k ++ x :: ns.drop k) := by
  rw [sorted_iff] at hs ⊢
  rw [List.pairwise_append]
  have hs' := hs
  rw [← List.take_append_drop k ns, List.pairwise_append] at hs'
  refine ⟨hs'.1, List.pairwise_cons.mpr ⟨fun y hy => ?_, hs'.2.1⟩, fun y hy z hz => ?_⟩
  · obtain ⟨i, hi, rfl⟩ := List.getElem_of_mem hy
    rw [List.length_drop] at hi
    have := h2 (k + i) (by omega) (by omega)
    rw [getD_eq (by omega)] at this
    simpa using this
  · obtain ⟨i, hi, rfl⟩ := List.getElem_of_mem hy
    rw [List.length_take] at hi
    rcases List.mem_cons.mp hz with rfl | hz
    · have := h1 i (by omega) (by omega)
      rw [getD_eq (by omega)] at this
      simpa using this
    · exact hs'.2.2 _ hy z hz
theorem kl_ins_nat (l : List Value) {k : Int} (y : Value) (h0 : 0 ≤ k) (h1 : k ≤ l.length) : kl_ins l k y = l.take k.toNat ++ y :: l.drop k.toNat := by
  unfold kl_ins
  rw [if_neg (by omega), Nat.min_eq_left (by omega)]
theorem ints_ins : ∀ {vs : List Value} {ns : List Int}, IntsAre vs ns → ∀ (k : Nat) (x : Int) (t : Tok), IntsAre (vs.take k ++ Value.int x t :: vs.drop k) (ns.take k ++ x :: ns.drop k) := fun h k x t =>
  (h.take k).append (IntsAre.cons _ _ (h.drop k))
theorem perm_ins (ns : List Int) (k : Nat) (x : Int) : (ns.take k ++ x :: ns.drop k).Perm (x :: ns) := by
  have := (List.perm_middle (a := x) (l₁ := ns.take k) (l₂ := ns.drop k))
  rwa [List.take_append_drop] at this
theorem fitsIx {k : Int} (h0 : 0 ≤ k) (h1 : k < 2 ^ 20) : Builtin.List.listFitsIndex k = true := by
  unfold Builtin.List.listFitsIndex
  simp only [Bool.and_eq_true, decide_eq_true_eq]
  omega
theorem fitsSz {vs : List Value} {ns : List Int} (hi : IntsAre vs ns) (h1 : ns.length < 2 ^ 20) : vs.toArray.toList.length ≤ sizeLine := by
  have := hi.length
  rw [sizeLine_eq, show vs.toArray.toList = vs from rfl]
  omega
theorem BR.ins {ns : List Int} {x k : Int} (hs : Sorted ns) (h : BR ns x k k) : Sorted (ns.take k.toNat ++ x :: ns.drop k.toNat) :=
  sorted_ins hs (fun i h1 _ => h.2.2.2.1 i (by omega)) (fun i h1 h2 => Int.le_of_lt (h.2.2.2.2 i (by have := h.1; omega) h2))
theorem BR.ins' {ns : List Int} {x k : Int} (hs : Sorted ns) (h : BR ns (x - 1) k k) : Sorted (ns.take k.toNat ++ x :: ns.drop k.toNat) :=
  sorted_ins hs (fun i h1 _ => by have := h.2.2.2.1 i (by omega); omega) (fun i h1 h2 => by have := h.2.2.2.2 i (by have := h.1; omega) h2; omega)
end
section
variable {w : World} {p : Program} {loose : List Str} {mean : ExcName → Option Value} {mg mb : Str → Option Value}
theorem updF_same {d : Addr} {o : Obj} {l : Led} {g : Obj → Led} (U : UpdF d o l g) : g o = l := by
  induction U with
  | head => rfl
  | tail _ _ ih => simp [ih]
theorem allLt_mem {x : Nat} : ∀ {l : Led}, AllLt x l → ∀ q ∈ l, @LT.lt Nat _ q.1 x
  | [], _, _, hq => nomatch hq
  | p :: r, h, q, hq => by
    rcases List.mem_cons.mp hq with rfl | hq
    · exact h.1
    · exact allLt_mem h.2 q hq
theorem ints_rep (x : Int) (t : Tok) : ∀ k : Nat, IntsAre (List.replicate k (Value.int x t)) (List.replicate k x)
  | 0 => .nil
  | k + 1 => .cons x t (ints_rep x t k)
def AllOff (Lb c : Nat) : Led → Prop
  | [] => True
  | q :: r => (@LT.lt Nat _ Lb q.1 → @Ne Nat q.1 c) ∧ AllOff Lb c r
theorem allOff_of {Lb c : Nat} : ∀ {l : Led}, (∀ q ∈ l, @LT.lt Nat _ Lb q.1 → @Ne Nat q.1 c) → AllOff Lb c l
  | [], _ => trivial
  | p :: _, h => ⟨h p (.head _), allOff_of fun q hq => h q (.tail _ hq)⟩
theorem nest_any {M : Model} {A : Around} {E : Value → Shared → Prop} {s : Shared} {h₀ : Heap} {L a c P : Addr} {m : Str → Option Value} {cn : Str} {cs : Scope} {ccd : Value} {cl : List (Str × Addr)} {news tl : Led} {g : Obj → Led}
    {name qual : Str} {params : Arguments} {body : List Stmt} {scope : Scope} {ps : Array Value} {pos : Pos} {firstLine : Nat} {clos : List (Str × Addr)} {Lb : Nat} {Q : Value → Shared → Prop}
    (F : Fr h₀ L s.heap m) (N : News h₀ L s.heap news) (T : Top p loose mean mg mb h₀) (C : CodeHd h₀ c P) (hcd : ccd = .ref c) (U : UpdF P (tabObj ps) news g) (hmem : (P, tabObj ps) ∈ news)
    (hlt : AllLt Lb tl) (hoffP : ∀ q ∈ tl, q.1 ≠ P) (hsub : ∀ q ∈ tl, q ∈ news)
    (htab : ps = #[] ∨ ∃ c' oc vs t, ps = #[rawInt pos.line, rawInt pos.col, .ref c'] ∧ (c', oc) ∈ tl ∧ oc.data = .fields vs ∧ vs[1]? = some (.str qual t))
    (hcl : closureFor scope (envX cn cs L a ccd cl) = pure clos)
    (h : ∀ f c' oc vs t ctv doc h' tk, Fr h₀ L h' m →
      News h₀ L h' ((f, fnMade name qual params body scope clos doc ((mg "__name__").getD .none) c' ctv) :: (c', oc) :: g (tabObj #[rawInt pos.line, rawInt pos.col, .ref c'])) →
      oc.data = .fields vs → vs[1]? = some (.str qual t) → (∀ q ∈ news, q.1 < f) → @LT.lt Nat _ c' f → AllOff Lb c' news → @Ne Nat c' P → ((c', oc) ∈ tl ∨ ∀ q ∈ news, q.1 < c') → (ps = #[] ∨ ps = #[rawInt pos.line, rawInt pos.col, .ref c']) → Q (.ref f) { s with heap := h', toks := tk }) :
    wpAny M A (makeFunction name qual params (.stmts body) scope (envX cn cs L a ccd cl) [] [] [] pos firstLine) Q E s := by
  rcases htab with rfl | ⟨c', oc, vs, t, rfl, hm, hd, hv⟩
  · refine nest_K F N T C hcd U trivial rfl hcl fun f c' oc vs t ctv doc h' tk F' N' hd hv h1 h2 => ?_
    exact h f c' oc vs t ctv doc h' tk F' N' hd hv (fun q hq => Nat.lt_trans (h1 q hq) h2) h2 (allOff_of fun q hq _ => Nat.ne_of_lt (h1 q hq)) (Nat.ne_of_gt (h1 _ hmem)) (.inr h1) (.inl rfl)
  · have hn := hsub _ hm
    refine nestHit_K F N T C hcd hmem (by simp [TriplesOk, rawInt]) (by simp [codeAmong, rawInt]; rfl) hcl fun f ctv doc h' tk F' N' h1 => ?_
    refine h f c' oc vs t ctv doc h' tk F' (fun q hq => ?_) hd hv h1 (h1 _ hn) (allOff_of fun q hq hl => Nat.ne_of_gt (Nat.lt_trans (allLt_mem hlt _ hm) hl)) (hoffP _ hm) (.inl hm) (.inr rfl)
    rw [updF_same U] at hq
    rcases List.mem_cons.mp hq with rfl | hq
    · exact N' _ (.head _)
    · rcases List.mem_cons.mp hq with rfl | hq
      · exact N' _ (.tail _ hn)
      · exact N' _ (.tail _ hq)
end
section
variable {w : World} {p : Program} {loose : List Str} {mean : ExcName → Option Value} {mg mb : Str → Option Value}
/-! pure facts of digits -/
def valD (f : Nat → Int) (B : Int) : Nat → Nat → Int
  | _, 0 => 0
  | lo, k + 1 => f lo + B * valD f B (lo + 1) k
theorem valD_add (f : Nat → Int) (B : Int) : ∀ (a b lo : Nat), valD f B lo (a + b) = valD f B lo a + B ^ a * valD f B (lo + a) b
  | 0, b, lo => by simp [valD]
  | a + 1, b, lo => by
    rw [show a + 1 + b = (a + b) + 1 from by omega, valD, valD, valD_add f B a b (lo + 1), Int.pow_succ, show lo + 1 + a = lo + (a + 1) from by omega, Int.mul_add, Int.mul_comm (B ^ a) B]
    rw [Int.add_assoc, Int.mul_assoc]
theorem valD_congr {f g : Nat → Int} {B : Int} : ∀ (k lo : Nat), (∀ i, lo ≤ i → i < lo + k → f i = g i) → valD f B lo k = valD g B lo k
  | 0, _, _ => rfl
  | k + 1, lo, h => by
    rw [valD, valD, h lo (Nat.le_refl _) (by omega), valD_congr k (lo + 1) fun i h1 h2 => h i (by omega) (by omega)]
theorem or_shift (X s : Nat) : X ||| (X >>> s <<< s) = X := by
  apply Nat.eq_of_testBit_eq
  intro i
  rw [Nat.testBit_or, Nat.testBit_shiftLeft, Nat.testBit_shiftRight]
  by_cases h : s ≤ i
  · simp [h]
  · simp [h]
theorem and_shift (X s : Nat) : X &&& (X >>> s <<< s) = X >>> s <<< s := by
  apply Nat.eq_of_testBit_eq
  intro i
  rw [Nat.testBit_and, Nat.testBit_shiftLeft, Nat.testBit_shiftRight]
  by_cases h : s ≤ i
  · simp [h]
  · simp [h]
theorem bitNot_cast (n : Nat) : Builtin.bitNot ((n : Nat) : Int) = -(n : Int) - 1 := by
  unfold Builtin.bitNot; omega
theorem xor_nat (X Y : Nat) : Builtin.bitXor (X : Int) (Y : Int) = ((X ||| Y : Nat) : Int) - ((X &&& Y : Nat) : Int) := by
  have hb : ∀ n : Nat, Builtin.bitNot (-(n : Int) - 1) = n := fun n => by unfold Builtin.bitNot; omega
  unfold Builtin.bitXor Builtin.bitOr Builtin.bitAnd
  rw [bitNot_cast, bitNot_cast]
  have h1 : decide (0 ≤ -(X : Int) - 1) = false := by simp; omega
  have h2 : decide (0 ≤ -(Y : Int) - 1) = false := by simp; omega
  have h3 : decide (0 ≤ (X : Int)) = true := by simp
  have h4 : decide (0 ≤ (Y : Int)) = true := by simp
  simp only [h1, h2, h3, h4, hb, Int.toNat_natCast]
  rw [bitNot_cast, hb]
theorem xor_low {x : Int} (h : 0 ≤ x) (s : Nat) : Builtin.bitXor x (x.fdiv (2 ^ s) * 2 ^ s) = x % 2 ^ s := by
  obtain ⟨X, rfl⟩ : ∃ X : Nat, x = X := ⟨x.toNat, by omega⟩
  have e : ((X : Int).fdiv (2 ^ s) * 2 ^ s) = ((X >>> s <<< s : Nat) : Int) := by
    rw [Int.fdiv_eq_ediv_of_nonneg _ (Int.le_of_lt (Int.pow_pos (by decide))), Nat.shiftLeft_eq, Nat.shiftRight_eq_div_pow]
    push_cast
    rfl
  rw [e, xor_nat, or_shift, and_shift, ← e, Int.fdiv_eq_ediv_of_nonneg _ (Int.le_of_lt (Int.pow_pos (by decide)))]
  have := Int.mul_ediv_add_emod (X : Int) (2 ^ s)
  rw [Int.mul_comm] at this
  omega
structure DigOk (ds ds' : List Int) (B x lo hi : Int) : Prop where
  out : ∀ i : Nat, (i : Int) < lo ∨ hi ≤ i → ds'.getD i 0 = ds.getD i 0
  inn : ∀ i : Nat, lo ≤ i → (i : Int) < hi → 0 ≤ ds'.getD i 0 ∧ ds'.getD i 0 < B
  val : valD (fun i => ds'.getD i 0) B lo.toNat (hi - lo).toNat = x
theorem getD_set (ds : List Int) (i j : Nat) (x : Int) (h : i < ds.length) : (ds.set i x).getD j 0 = if i = j then x else ds.getD j 0 := by
  simp only [List.getD_eq_getElem?_getD, List.getElem?_set]
  by_cases e : i = j
  · subst e; simp [h]
  · simp [e]
theorem DigOk.base {ds : List Int} {B x lo hi : Int} (h0 : 0 ≤ lo) (h1 : lo + 1 = hi) (h2 : hi ≤ ds.length) (hx0 : 0 ≤ x) (hx1 : x < B ^ (hi - lo).toNat) : DigOk ds (ds.set lo.toNat x) B x lo hi := by
  have e : (hi - lo).toNat = 1 := by omega
  rw [e, Int.pow_succ, Int.pow_zero, Int.one_mul] at hx1
  refine ⟨fun i hi => ?_, fun i h3 h4 => ?_, ?_⟩
  · rw [getD_set _ _ _ _ (by omega), if_neg (by omega)]
  · rw [getD_set _ _ _ _ (by omega), if_pos (by omega)]; exact ⟨hx0, hx1⟩
  · rw [e]
    simp only [valD]
    rw [getD_set _ _ _ _ (by omega), if_pos rfl]; omega
theorem toNat_split {lo M hi : Int} (h1 : lo ≤ M) (h2 : M ≤ hi) : (hi - lo).toNat = (M - lo).toNat + (hi - M).toNat := by
  rw [← Int.toNat_add (Int.sub_nonneg.mpr h1) (Int.sub_nonneg.mpr h2)]; congr 1; omega
theorem toNat_low {lo M : Int} (h0 : 0 ≤ lo) (h1 : lo ≤ M) : lo.toNat + (M - lo).toNat = M.toNat := by
  rw [← Int.toNat_add h0 (Int.sub_nonneg.mpr h1)]; congr 1; omega
theorem DigOk.join {ds d1 d2 : List Int} {B x lower upper lo M hi : Int} (a : DigOk ds d1 B lower lo M) (b : DigOk d1 d2 B upper M hi) (h0 : 0 ≤ lo) (h1 : lo ≤ M) (h2 : M ≤ hi) (hx : x = lower + B ^ (M - lo).toNat * upper) : DigOk ds d2 B x lo hi := by
  refine ⟨fun i h => ?_, fun i h3 h4 => ?_, ?_⟩
  · rw [b.out i (by omega), a.out i (by omega)]
  · by_cases h5 : (i : Int) < M
    · rw [b.out i (by omega)]; exact a.inn i h3 h5
    · exact b.inn i (by omega) h4
  · rw [toNat_split h1 h2, valD_add, toNat_low h0 h1, b.val, hx, ← a.val]
    congr 1
    exact valD_congr _ _ fun i h3 h4 => b.out i (by omega)
theorem half_is (a : Int) : a.fdiv (2 ^ Int.toNat 1) = a / 2 := Int.fdiv_eq_ediv_of_nonneg _ (by decide)
theorem pow_shift {n d : Int} (hn : 0 ≤ n) (hd : 0 ≤ d) : (2 : Int) ^ (d * n).toNat = (2 ^ n.toNat) ^ d.toNat := by
  have : (d * n).toNat = n.toNat * d.toNat := by
    obtain ⟨N, rfl⟩ : ∃ N : Nat, n = N := ⟨n.toNat, by omega⟩
    obtain ⟨D, rfl⟩ : ∃ D : Nat, d = D := ⟨d.toNat, by omega⟩
    rw [← Int.natCast_mul, Int.toNat_natCast, Int.toNat_natCast, Int.toNat_natCast, Nat.mul_comm]
  rw [this, Int.pow_mul]
structure HalfOk (x n lo hi M lower upper : Int) : Prop where
  lo_lt : lo < M
  lt_hi : M < hi
  l0 : 0 ≤ lower
  l1 : lower < (2 ^ n.toNat) ^ (M - lo).toNat
  u0 : 0 ≤ upper
  le : lower ≤ x
  u1 : upper < (2 ^ n.toNat) ^ (hi - M).toNat
  sum : x = lower + (2 ^ n.toNat) ^ (M - lo).toNat * upper
theorem half_ok {x n lo hi : Int} (h0 : 0 ≤ lo) (h1 : lo < hi) (hne : lo + 1 ≠ hi) (hn : 0 < n) (hx0 : 0 ≤ x) (hx1 : x < (2 ^ n.toNat) ^ (hi - lo).toNat) :
    HalfOk x n lo hi ((lo + hi).fdiv (2 ^ Int.toNat 1)) (Builtin.bitXor x (x.fdiv (2 ^ (((lo + hi).fdiv (2 ^ Int.toNat 1) - lo) * n).toNat) * 2 ^ (((lo + hi).fdiv (2 ^ Int.toNat 1) - lo) * n).toNat)) (x.fdiv (2 ^ (((lo + hi).fdiv (2 ^ Int.toNat 1) - lo) * n).toNat)) := by
  rw [half_is, xor_low hx0]
  generalize hM : (lo + hi) / 2 = M
  have a1 : lo < M := by omega
  have a2 : M < hi := by omega
  rw [pow_shift (by omega) (by omega : 0 ≤ M - lo)]
  have hB : (0 : Int) < (2 ^ n.toNat) ^ (M - lo).toNat := Int.pow_pos (Int.pow_pos (by decide))
  rw [Int.fdiv_eq_ediv_of_nonneg _ (Int.le_of_lt hB)]
  refine ⟨a1, a2, Int.emod_nonneg _ (by omega), Int.emod_lt_of_pos _ hB, Int.ediv_nonneg hx0 (Int.le_of_lt hB), ?_, ?_, ?_⟩
  · have h1 := Int.mul_ediv_add_emod x ((2 ^ n.toNat) ^ (M - lo).toNat)
    have h2 := Int.mul_nonneg (Int.le_of_lt hB) (Int.ediv_nonneg hx0 (Int.le_of_lt hB))
    omega
  · refine Int.ediv_lt_of_lt_mul hB ?_
    rw [← Int.pow_add, Nat.add_comm, ← toNat_split (Int.le_of_lt a1) (Int.le_of_lt a2)]
    exact hx1
  · have := Int.mul_ediv_add_emod x ((2 ^ n.toNat) ^ (M - lo).toNat)
    omega
theorem cnt_ok {a n : Int} {cnt : Nat} (h0 : 0 ≤ a) (hn : 0 < n) (hc : (↑(Builtin.Int.intBits a) + n - 1).fdiv n = (cnt : Int)) : a < (2 ^ n.toNat) ^ cnt := by
  rw [Int.fdiv_eq_ediv_of_nonneg _ (by omega)] at hc
  have h1 : Builtin.Int.intBits a ≤ n.toNat * cnt := by
    have h2 := Int.emod_lt_of_pos (↑(Builtin.Int.intBits a) + n - 1) hn
    have h3 := Int.mul_ediv_add_emod (↑(Builtin.Int.intBits a) + n - 1) n
    rw [hc] at h3
    have h4 : ((n.toNat * cnt : Nat) : Int) = n * cnt := by push_cast; rw [Int.toNat_of_nonneg (by omega)]
    have h5 : ((Builtin.Int.intBits a : Nat) : Int) ≤ ((n.toNat * cnt : Nat) : Int) := by rw [h4]; omega
    exact_mod_cast h5
  have h2 := intBits_le_iff.mp h1
  rw [← Int.pow_mul]
  have h3 : ((2 ^ (n.toNat * cnt) : Nat) : Int) = (2 : Int) ^ (n.toNat * cnt) := by push_cast; rfl
  rw [← h3]
  omega
theorem d_pos {lo hi : Int} {d : Nat} (h : lo < hi) (hd : (hi - lo).toNat ≤ d + 1) (hne : lo + 1 ≠ hi) : 1 ≤ d := by omega
theorem d_lt {d : Nat} (h : 1 ≤ d) : d - 1 < d := Nat.sub_lt h (by decide)
theorem d_units {un d : Nat} (h : un + 20 * (d + 1) < 9900) (hd : 1 ≤ d) : un + 3 + 20 * (d - 1 + 1) < 9900 := by
  rw [Nat.sub_add_cancel hd]; omega
theorem d_room {dp d : Nat} (h : dp + (d + 1) < 1000) (hd : 1 ≤ d) : dp + 1 + (d - 1 + 1) < 1000 := by
  rw [Nat.sub_add_cancel hd]; omega
theorem d_low {lo hi M : Int} {d : Nat} (hd : (hi - lo).toNat ≤ d + 1) (h1 : 1 ≤ d) (h : lo < M) (h' : M < hi) : (M - lo).toNat ≤ d - 1 + 1 := by
  rw [Nat.sub_add_cancel h1]; omega
theorem d_high {lo hi M : Int} {d : Nat} (hd : (hi - lo).toNat ≤ d + 1) (h1 : 1 ≤ d) (h : lo < M) (h' : M < hi) : (hi - M).toNat ≤ d - 1 + 1 := by
  rw [Nat.sub_add_cancel h1]; omega
end
section
local macro_rules | `(tactic| none_booked) => `(tactic| first | refine FoldN.next (by with_reducible assumption) _ ?_ | refine FoldN.ret (by with_reducible assumption) _ _ ?_ | refine FoldL.ret (by with_reducible assumption) _ _ ?_ | refine FoldL.nxt (by with_reducible assumption) _ ?_ | refine FoldN.brk (by with_reducible assumption) _ ?_ | refine FoldN.cont (by with_reducible assumption) _ ?_)
local macro_rules | `(tactic| k_steps) => `(tactic| repeat' (first | walk1 | none_booked | (k_unfold; (try dsimp only)) | (k_end; kc_close) | (dsimp only; walk1) | (leave1; (try dsimp only)) | fail "no step"))
local macro_rules | `(tactic| kfm_turns) => `(tactic| ((fail_if_success (with_reducible rename KstMark => kM)); (with_reducible rename Fr _ _ _ (fun y => ite (y = _) (some _) _) => kF); revert kF; (show (let m9 := _; Fr _ _ _ m9 → _)); intro m9 kF))
local macro_rules | `(tactic| walk_at "storeName") => `(tactic| (k_here; with_reducible first | refine gen_int ?_ | refine gen_float ?_ ; intro tk))
local macro_rules | `(tactic| walk_at "storeName") => `(tactic| (k_here; (fail_if_success (with_reducible rename KstMark => kM)); k_dflt ((rename Array GenState => kG); (rename Drawn => kD); (rename OsState => kO); (first | refine' st_int (g := kG) (d := kD) (o := kO) ?F ?N ?_ ?a ?b | refine' st_float (g := kG) (d := kD) (o := kO) ?F ?N ?_ ?a ?b | refine' st_L (g := kG) (d := kD) (o := kO) ?F ?N ?_ ?a ?b); (case F => k_asm); (case N => k_asm); (case a => rfl); (case b => rfl); k_whole; intro h' tv m9 F' N' tk; (try k_sweep))))
local macro_rules | `(tactic| walk_at "execs cons") => `(tactic| (k_here; (try (with_reducible refine gen_toks ?_; intro tk)); (with_reducible refine execs_consF ?_); intro Q9 hQ9))
local macro_rules | `(tactic| kd_addB) => `(tactic| first | with_reducible assumption | with_reducible exact Nat.lt_succ_self _ | with_reducible exact litlt 202 (by assumption) rfl | with_reducible exact litll rfl)
local macro_rules | `(tactic| kd_addW) => `(tactic| first | kd_addB | (with_reducible show _ < _ + _; refine Nat.lt_succ_of_lt ?_; kd_addW) | (refine Nat.lt_trans ?_ (by with_reducible assumption); kd_addW))
local macro_rules | `(tactic| kd_adr) => `(tactic| first | kd_addB | (refine Nat.lt_trans (by with_reducible assumption) ?_; kd_adr))
local macro_rules | `(tactic| kd_mem) => `(tactic| first | regstrif_slice | (refine ltS ?_; regstrif_slice) | kd_addW | kd_adr | (refine Nat.lt_trans ?_ (And.left (by with_reducible assumption)); kd_addW))
local macro_rules | `(tactic| regstrif_gather) => `(tactic| first | with_reducible exact fstR | (intro h; with_reducible exact h) | (refine stepR ?_; regstrif_gather))
local macro_rules | `(tactic| regstrif_slice) => `(tactic| (refine pkG (by with_reducible assumption) ?_; regstrif_gather))
local macro_rules | `(tactic| kt_ors) => `(tactic| first | with_reducible exact piL (by kd_mem) | (refine stepR ?_; kt_ors))
local macro_rules | `(tactic| kt_eqs) => `(tactic| (refine piG (by with_reducible assumption) ?_; kt_ors))
local macro_rules | `(tactic| kpf_c) => `(tactic| first | with_reducible exact pnL1 | with_reducible exact pnL2 | with_reducible exact pnL3 | (refine stepR ?_; kpf_c))
local macro_rules | `(tactic| kat_tups) => `(tactic| first | (refine pnA (by with_reducible assumption) ?_; kpf_c) | (refine pnB (by with_reducible assumption) ?_; kpf_c) | (refine pnC (by with_reducible assumption) ?_; kpf_c) | (refine pnX (by with_reducible assumption) ?_; regstrif_gather) | (refine pnY (by with_reducible assumption) ?_; regstrif_gather))
local macro_rules | `(tactic| kd_in) => `(tactic| first | with_reducible assumption | exact Ne.symm (by with_reducible assumption) | exact Nat.ne_of_gt (by regstrif_slice) | exact Nat.ne_of_lt (by regstrif_slice) | exact Nat.ne_of_lt (by kd_addW) | exact Nat.ne_of_gt (by kd_addW) | kt_eqs | exact Ne.symm (by kt_eqs) | kat_tups | exact Ne.symm (by kat_tups) | exact Nat.ne_of_lt (by kd_adr) | exact Nat.ne_of_gt (by kd_adr) | exact Nat.ne_of_gt (by (refine Nat.lt_trans ?_ (And.left (by with_reducible assumption)); kd_addW)) | exact Nat.ne_of_lt (by (refine Nat.lt_trans ?_ (And.left (by with_reducible assumption)); kd_addW)))
local macro_rules | `(tactic| k_ne) => `(tactic| (refine neN ?_; k_whole; (try dsimp only); first | with_reducible assumption | exact Nat.ne_of_gt (by regstrif_slice) | exact Nat.ne_of_lt (by regstrif_slice) | ((fail_if_success (fail_if_success omega)); first | kd_in | omega)))
local macro_rules | `(tactic| kbt_split) => `(tactic| (k_whole; first | with_reducible exact litll rfl | with_reducible assumption | exact room0 (by with_reducible assumption) | exact room1 (by with_reducible assumption) (by exact rfl) | exact room2 (by with_reducible assumption) (by exact rfl)))
local macro_rules | `(tactic| ktr_room) => `(tactic| kbt_split)
local macro_rules | `(tactic| ktr_units) => `(tactic| kbt_split)
local macro_rules | `(tactic| units_room) => `(tactic| kbt_split)
local macro_rules | `(tactic| ke_room) => `(tactic| kbt_split)
local macro_rules | `(tactic| k_all) => `(tactic| first | assumption | exact allLt_ne (by assumption) (by omega))
local macro_rules | `(tactic| walk_at "eval Constant int") => `(tactic| first | refine const_int ?_ | (refine wpAny_Constant_int ?_; (try dsimp only)))
section
local macro_rules | `(tactic| walk_at "M_SPARE") => `(tactic| skip)
example : True ∧ True := by
  w_top off
  (first | walk1 | skip) <;> (first | trivial | exact ⟨trivial, trivial⟩)
example : True := by
  w_top off
  k_with_none
  trivial
end
section
variable {w : World} {p : Program} {loose : List Str} {mean : ExcName → Option Value} {mg mb : Str → Option Value}
theorem foldl_rep (v : Value) : ∀ (k : Nat) (acc : List Value), (List.foldl (fun x1 x2 => x1 ++ x2) acc.toArray (List.replicate k #[v])) = (acc ++ List.replicate k v).toArray
  | 0, acc => by simp
  | k + 1, acc => by
    rw [List.replicate_succ, List.foldl_cons]
    have : acc.toArray ++ #[v] = (acc ++ [v]).toArray := by simp
    rw [this, foldl_rep v k (acc ++ [v])]
    simp [List.replicate_succ]
theorem mul_rep {prog : Program} {A : Around} {E : Value → Shared → Prop} {s : Shared} {h₀ : Heap} {L : Addr} {m : Str → Option Value} {news : Led} {l : Addr} {v : Value} {k n : Nat} {x : Int} {u : Tok} {Q : Value → Shared → Prop}
    (F : Fr h₀ L s.heap m) (N : News h₀ L s.heap news) (hm : (l, lstO [v] n) ∈ news) (hx : x = k) (hk : k < 2 ^ 20)
    (h : ∀ D h', (∀ p ∈ news, p.1 < D) → Fr h₀ L h' m → News h₀ L h' ((D, lstO (List.replicate k v) 0) :: news) → Q (.ref D) { s with heap := h' }) :
    wpAny (model prog w) A (binaryOp .Mult (.ref l) (.int x u)) Q E s := by
  refine mul_list F N (N.get hm) (by omega) (by omega) (by subst hx; simp; omega) fun h' F' N' => ?_
  refine h _ h' (fun p hp => Heap.lt_size (N.get hp)) F' ?_
  have e : (List.foldl (fun x1 x2 => x1 ++ x2) #[] (List.replicate (if ([v].toArray).isEmpty = true then 0 else x.toNat) [v].toArray)) = (List.replicate k v).toArray := by
    subst hx
    have := foldl_rep v k []
    simpa using this
  rw [e] at N'
  exact N'
theorem len_l {prog : Program} {A : Around} {E : Value → Shared → Prop} {s : Shared} {h₀ : Heap} {L : Addr} {news : Led} {l : Addr} {vs : List Value} {k n : Nat} {Q : Value → Shared → Prop}
    (N : News h₀ L s.heap news) (hm : (l, lstO vs n) ∈ news) (hk : vs.length = k) (hk2 : k < 2 ^ 20) (h : ∀ t tk', Q (.int k t) { s with toks := tk' }) :
    wpAny (model prog w) A (call (.builtin "len") [.ref l]) Q E s := by
  refine len_list (isList_of N hm) (by simp; omega) ?_
  subst hk
  exact h _ _
theorem shift_ok {lo hi n : Int} {c : Nat} (h0 : 0 ≤ lo) (h1 : lo < hi) (h2 : hi ≤ c) (hc : c < 100) (hn : 0 < n ∧ n < 20) : 0 ≤ ((lo + hi).fdiv (2 ^ Int.toNat 1) - lo) * n ∧ ((lo + hi).fdiv (2 ^ Int.toNat 1) - lo) * n < 2000 := by
  rw [half_is]
  have a : 0 ≤ (lo + hi) / 2 - lo := by omega
  have b : (lo + hi) / 2 - lo < 100 := by omega
  constructor
  · exact Int.mul_nonneg a (by omega)
  · have := Int.mul_le_mul (a := (lo + hi) / 2 - lo) (b := n) (c := 99) (d := 19) (by omega) (by omega) (by omega) (by omega)
    omega
def InnerSpec (w : World) (p : Program) (loose : List Str) (mean : ExcName → Option Value) (mg mb : Str → Option Value) (f c' D : Addr) (fo oc : Obj) (rest : Led) (nn : Int) (c : Nat) (d : Nat) : Prop :=
  ∀ (x lo hi : Int) (tx t1 t2 : Tok) (ds : List Int) (vs : List Value), IntsAre vs ds → ds.length = c → 0 ≤ lo → lo < hi → hi ≤ c → (hi - lo).toNat ≤ d + 1 → 0 ≤ x → x < (2 ^ nn.toNat) ^ (hi - lo).toNat → Builtin.Int.intBits x ≤ 80 →
    Con w p loose mean mg mb (.ref f) [.int x tx, .int lo t1, .int hi t2] [] (d + 1) (20 * (d + 1)) ((f, fo) :: (c', oc) :: (D, lstO vs 0) :: rest) (fun r n' => r = .none ∧ ∃ ds' vs', n' = (f, fo) :: (c', oc) :: (D, lstO vs' 0) :: rest ∧ IntsAre vs' ds' ∧ ds'.length = c ∧ DigOk ds ds' (2 ^ nn.toNat) x lo hi)
theorem inner_gen {h₀ h : Heap} {L : Addr} {f c' D : Addr} {fo oc : Obj} {rest : Led} {vs0 : List Value} {n0 : Nat} {nn : Int} {c : Nat} {G : Prop} (_N : News h₀ L h ((f, fo) :: (c', oc) :: (D, lstO vs0 n0) :: rest))
    (step : ∀ d, (∀ e, e < d → InnerSpec w p loose mean mg mb f c' D fo oc rest nn c e) → InnerSpec w p loose mean mg mb f c' D fo oc rest nn c d)
    (go : (∀ d, InnerSpec w p loose mean mg mb f c' D fo oc rest nn c d) → G) : G :=
  go (fun d => Nat.strongRecOn d step)
theorem bits_mono {x y : Int} {k : Nat} (h0 : 0 ≤ y) (h : y ≤ x) (hx : Builtin.Int.intBits x ≤ k) : Builtin.Int.intBits y ≤ k := intBits_le_of_natAbs (by omega) hx
local macro_rules | `(tactic| walk_at "exec FunctionDef") => `(tactic| k_extra "exec FunctionDef")
local macro_rules | `(tactic| walk_at "binaryOp LShift int int") => `(tactic| k_extra "M_LSH")
def TabIs (ln col : Nat) (q : Str) (ps : Array Value) (tl : Led) : Prop :=
  ps = #[] ∨ ∃ c' oc vs t, ps = #[rawInt ln, rawInt col, .ref c'] ∧ (c', oc) ∈ tl ∧ oc.data = .fields vs ∧ vs[1]? = some (.str q t)
abbrev qI : Str := Str.ofString "_int2digits.<locals>.inner"
def IsCode (q : Str) (o : Obj) : Prop := ∃ v t, o.data = .fields v ∧ v[1]? = some (.str q t)
inductive I2dP (ps : Array Value) (news tl : Led) (a n : Int) (cnt : Nat) : Value → Led → Prop
  | mk (D c' : Addr) (oc : Obj) (vs : List Value) (ds : List Int) (hoc : IsCode qI oc) (hD : (∀ p ∈ news, p.1 < D) ∧ 44 < D ∧ D ≠ c') (hc : c' ≠ 44) (hps : ps = #[] ∨ ps = #[rawInt 73, rawInt 4, .ref c']) (hcn : (c', oc) ∈ tl ∨ ∀ p ∈ news, p.1 < c') (hI : IntsAre vs ds) (hl : ds.length = cnt) (hd : ∀ i : Nat, i < cnt → 0 ≤ ds.getD i 0 ∧ ds.getD i 0 < 2 ^ n.toNat) (hv : valD (fun i => ds.getD i 0) (2 ^ n.toNat) 0 cnt = a) : I2dP ps news tl a n cnt (.ref D) ((D, lstO vs 0) :: (c', oc) :: (44, tabObj #[rawInt 73, rawInt 4, .ref c']) :: news)
local macro_rules | `(tactic| ktr_room) => `(tactic| first | walk_at "M_ROOM" | assumption)
local macro_rules | `(tactic| ktr_units) => `(tactic| first | walk_at "M_ROOM" | assumption)
set_option maxHeartbeats 0 in
theorem i2d_c {news tl : Led} {ps : Array Value} {a n : Int} {cnt : Nat} {t1 t2 : Tok} (ha : 0 ≤ a ∧ Builtin.Int.intBits a ≤ 80) (hn : 0 < n ∧ n < 20) (hcnt : (↑(Builtin.Int.intBits a) + n - 1).fdiv n = (cnt : Int)) (hc0 : cnt < 100) (hoff : ∀ p ∈ news, p.1 ≠ 44)
    (htl : ∀ q ∈ tl, q ∈ news) (htab : TabIs 73 4 (Str.ofString "_int2digits.<locals>.inner") ps tl) :
    Con w p loose mean mg mb (.ref 49) [.int a t1, .int n t2] [] 105 4000 ((44, tabObj ps) :: news) (I2dP ps news tl a n cnt) := by
  unfold Con; k_fill; intros; rename_i hret
  rename CodesAt _ => hcodes
  have hC := hcodes.1
  k_with_none
  k_dflt (refine' code_defC ?k1 ?k2 ?k3 ?k4 ?k5 ?kA ?kF ?kK ?k6 ?k7 ?k8 ?k9 ?kB ?kD ?_ ?c2 ?c3 ?c4; (case kA => exact rfl); (case kF => assumption); (case kK => assumption); (case k1 => k_asm); (case k2 => k_asm); (case k3 => k_asm); (case k4 => k_asm); (case k5 => k_asm); (case k6 => k_is); (case k7 => k_is); (case k8 => ktr_room); (case k9 => first | exact BindsTo.of_eq rfl | exact binds_K (by k_in) rfl (by k_is) rfl rfl rfl | (refine' kp_binds ?kx ?ke; (case kx => k_in); (case ke => exact fun _ => rfl))); (case kB => exact rfl); (case kD => decide +kernel); (case c2 => exact rfl); (case c3 => exact rfl); (case c4 => exact rfl); k_whole; intro g' L' h' tk' cells' FG' F' N' Y' B' X' T' l1; (try k_lt l1); k_cells Y'; (try simp only [List.cons_append, List.nil_append] at N'); (try dsimp only); (revert F'; (show (let m9 := _; Fr _ _ _ m9 → _)); intro m9 F'); (try k_lift B'); (try first | (refine foldL ?_; intro Q9 hQ9; (show (let ek := _; wpAny _ _ _ _ ek _)); intro ek) | k_fold); ((try (with_reducible refine gen_toks ?_; intro tk)); try ((first | refine (?_ : let ev := _; wpAny _ (PySem.Around.deeper _ ev) (execs _ ev) _ _ _) | refine (?_ : let ev := _; wpAny _ (PySem.Around.deeper _ ev) (eval _ ev) _ _ _)); intro ev; refine (?_ : let ak := _; wpAny _ ak _ _ _ _); intro ak)))
  rename _ ∧ AllLt _ _ => l1
  obtain ⟨l1a, l1b⟩ := l1
  k_with "exec FunctionDef" => (k_dflt (refine' nestDef_K ?d0 ?k0 ?a0 ?_; (case d0 => exact rfl); (case k0 => exact rfl); (case a0 => exact rfl)); k_dflt (refine' nest_any ?F ?N ?T ?C ?cd ?U ?mem (allLt_of fun q hq => allLt_mem l1b q (htl q hq)) (fun q hq => hoff q (htl q hq)) ?sub htab ?cl ?_; (case F => k_asm); (case N => k_asm); (case T => k_asm); (case cd => exact rfl); (case C => kn_code); (case U => k_updF); (case mem => k_mem); (case sub => (intro q9 hq9; replace hq9 := htl q9 hq9; repeat (first | exact hq9 | apply List.Mem.tail))); (case cl => exact rfl); k_whole); intro f9 c9 oc9 vc9 tc9 ct9 dc9 h9 tk9 F9 N9 d1 d2 l1 l2 l3 l4 l5 l6; (replace l5 := l5.imp_right fun h => (fun q hq => h q (by repeat (first | exact hq | apply List.Mem.tail)) : ∀ q ∈ news, q.1 < c9)); (try dsimp only at N9); (try k_lt l1); (try simp only [AllOff] at l3))
  k_with "binaryOp Mult ref int" => (k_dflt (refine' mul_rep ?kF ?kN ?km hcnt (by omega) ?_; (case kF => k_asm); (case kN => k_asm); (case km => k_mem); k_whole); intro D9 h9 l9 F9 N9; (try k_lt l9))
  k_with "call builtin:len" => (k_dflt (refine' len_l ?kN ?km (List.length_replicate (n := cnt)) (by omega) ?_; (case kN => k_asm); (case km => k_mem)); intro t9 tk9)
  k_steps
  · rename News _ _ _ ((_, fnMade _ _ _ _ _ _ _ _ _ _) :: (_, _) :: (_, lstO _ _) :: _) => N5
    have hcpos : 0 < cnt := by
      rcases Nat.eq_zero_or_pos cnt with h | h
      · subst h
        have h9 := cnt_ok ha.1 hn.1 hcnt
        rw [Int.pow_zero] at h9
        omega
      · exact h
    refine inner_gen (w := w) (p := p) (loose := loose) (mean := mean) (mg := mg) (mb := mb) (nn := n) (c := cnt) N5 ?_ ?_
    · clear hret
      intro d IH x lo hi tx t1 t2 ds vs hI hlen h0 h1 h2 hd hx0 hx1 hxb
      unfold Con; intros; rename_i hdpI hunI hret
      rename CodesAt _ => hcodes
      k_dflt (refine' code_nest ?k1 ?k2 ?k3 ?k4 ?k5 ?kA ?kF ?kK ?k6 ?k7 ?k8 ?k9 ?kB ?_ ?c2 ?c3 ?c4 ?c5; (case kA => exact rfl); (case kF => assumption); (case kK => assumption); (case k1 => k_asm); (case k2 => k_asm); (case k3 => k_asm); (case k4 => k_asm); (case k5 => k_asm); (case k6 => k_mem); (case k7 => exact codeRec_news (by k_asm) (by k_mem) (by assumption) (by assumption)); (case k8 => ktr_room); (case k9 => exact BindsTo.of_eq rfl); (case c5 => decide); (case kB => exact locs rfl); (case c2 => exact rfl); (case c3 => exact rfl); (case c4 => exact rfl); k_whole; intro g' L' h' FG' F' N' B' X' T'; (try dsimp only); (revert F'; (show (let m9 := _; Fr _ _ _ m9 → _)); intro m9 F'); (try k_lift B'); (try first | (refine foldL ?_; intro Q9 hQ9; (show (let ek := _; wpAny _ _ _ _ ek _)); intro ek) | k_fold); ((try (with_reducible refine gen_toks ?_; intro tk)); try ((first | refine (?_ : let ev := _; wpAny _ (PySem.Around.deeper _ ev) (execs _ ev) _ _ _) | refine (?_ : let ev := _; wpAny _ (PySem.Around.deeper _ ev) (eval _ ev) _ _ _)); intro ev; refine (?_ : let ak := _; wpAny _ ak _ _ _ _); intro ak)))
      have hsh := shift_ok h0 h1 h2 hc0 hn
      k_with "M_LSH" => (refine lshift_int hsh.1 ?_ ?_; (have hb9 := intBits_fdiv_le (y := 2 ^ (((lo + hi).fdiv (2 ^ Int.toNat 1) - lo) * n).toNat) hxb; have hb8 := hsh.2; omega))
      k_with "call ref" => first
        | (k_dflt (refine' Con.use (IH (d - 1) (d_lt hd1) _ _ _ _ _ _ ds9 vs9 hI9 hlen9 (Int.le_of_lt (Int.lt_of_le_of_lt h0 hH.lo_lt)) hH.lt_hi h2 (d_high hd hd1 hH.lo_lt hH.lt_hi) hH.u0 hH.u1 (intBits_fdiv_le hxb)) ?kB ?kF ?kX ?kN ?kT ?kc ?kf ?kk ?kd ?ku ?_; ((case kB => k_asm); (case kF => k_asm); (case kX => k_asm); (case kN => k_asm); (case kT => k_asm); (case kc => assumption); (case kf => first | rfl | assumption); (case kk => first | rfl | assumption); (case kd => ktr_room); (case ku => ktr_units)); k_whole); rintro K_9 hK_9 r9 n9 ⟨rfl, ds8, vs8, rfl, hI8, hlen8, hD8⟩; refine hK_9 _ _ ?_; clear hK_9 K_9; intro h9 tk9 F9 N9; (try dsimp only))
        | (have hH := half_ok h0 h1 (by assumption) hn.1 hx0 hx1; have hd1 := d_pos h1 hd (by assumption); have hr1 := d_room hdpI hd1; have hr2 := d_units hunI hd1; k_dflt (refine' Con.use (IH (d - 1) (d_lt hd1) _ _ _ _ _ _ ds vs hI hlen h0 hH.lo_lt (Int.le_trans (Int.le_of_lt hH.lt_hi) h2) (d_low hd hd1 hH.lo_lt hH.lt_hi) hH.l0 hH.l1 (bits_mono hH.l0 hH.le hxb)) ?kB ?kF ?kX ?kN ?kT ?kc ?kf ?kk ?kd ?ku ?_; ((case kB => k_asm); (case kF => k_asm); (case kX => k_asm); (case kN => k_asm); (case kT => k_asm); (case kc => assumption); (case kf => first | rfl | assumption); (case kk => first | rfl | assumption); (case kd => ktr_room); (case ku => ktr_units)); k_whole); rintro K_9 hK_9 r9 n9 ⟨rfl, ds9, vs9, rfl, hI9, hlen9, hD9⟩; refine hK_9 _ _ ?_; clear hK_9 K_9; intro h9 tk9 F9 N9; (try dsimp only))
      k_steps
      · exact hret _ _ _ _ (by assumption) (by assumption) ⟨rfl, _, _, rfl, by assumption, by rw [List.length_set]; exact hlen, DigOk.base h0 (by assumption) (by omega) hx0 hx1⟩
      · exact hret _ _ _ _ (by assumption) (by assumption) ⟨rfl, _, _, rfl, hI8, hlen8, hD9.join hD8 h0 (Int.le_of_lt hH.lo_lt) (Int.le_of_lt hH.lt_hi) hH.sum⟩
    · intro hspec
      k_with "call ref" => (k_dflt (refine' Con.use (hspec cnt a 0 cnt _ _ _ (List.replicate cnt 0) _ ?kI List.length_replicate (Int.le_refl _) (by omega) (Int.le_refl _) (by omega) ha.1 ?kp ha.2) ?kB ?kF ?kX ?kN ?kT ?kc ?kf ?kk ?kd ?ku ?_; (case kp => (have h9 := cnt_ok ha.1 hn.1 hcnt; simpa using h9)); ((case kB => k_asm); (case kF => k_asm); (case kX => k_asm); (case kN => k_asm); (case kT => k_asm); (case kc => assumption); (case kf => first | rfl | assumption); (case kk => first | rfl | assumption); (case kd => ktr_room); (case ku => ktr_units)); (case kI => exact ints_rep _ _ _); k_whole); rintro K_9 hK_9 r9 n9 ⟨rfl, ds9, vs9, rfl, hI9, hlen9, hD9⟩; refine hK_9 _ _ ?_; clear hK_9 K_9; intro h9 tk9 F9 N9; (try dsimp only))
      k_steps
      rename News _ _ _ ((_, _) :: (_, _) :: (_, lstO _ 0) :: _) => N5
      exact hret _ _ _ _ (by assumption) (newsSub N5 (List.forall_mem_cons.mpr ⟨by k_mem, List.forall_mem_cons.mpr ⟨by k_mem, List.forall_mem_cons.mpr ⟨by k_mem, fun q hq => by repeat (first | exact hq | apply List.Mem.tail)⟩⟩⟩))
        (.mk _ _ _ _ _ ⟨_, _, d1, d2⟩ ⟨fun q hq => Nat.lt_trans (allLt_mem l1b q hq) (by omega), ltN (by omega), (by k_ne)⟩ l4 l6 l5 (hI9) (hlen9) (fun i hi => hD9.inn i (by omega) (by omega)) (by simpa using hD9.val))
  · have hc00 : cnt = 0 := by
      rename a = 0 => ha0
      subst ha0
      have : ((Builtin.Int.intBits 0 : Nat) : Int) = 0 := rfl
      rw [this, Int.fdiv_eq_ediv_of_nonneg _ (by omega)] at hcnt
      have h9 : (0 + n - 1) / n = 0 := Int.ediv_eq_zero_of_lt (by omega) (by omega)
      omega
    subst hc00
    rename News _ _ _ ((_, _) :: (_, _) :: (_, lstO _ 0) :: _) => N5
    exact hret _ _ _ _ (by assumption) (newsSub N5 (List.forall_mem_cons.mpr ⟨by k_mem, List.forall_mem_cons.mpr ⟨by k_mem, List.forall_mem_cons.mpr ⟨by k_mem, fun q hq => by repeat (first | exact hq | apply List.Mem.tail)⟩⟩⟩))
        (.mk _ _ _ _ _ ⟨_, _, d1, d2⟩ ⟨fun q hq => Nat.lt_trans (allLt_mem l1b q hq) (by omega), ltN (by omega), (by k_ne)⟩ l4 l6 l5 (ints_rep _ _ _) (List.length_replicate) (fun i hi => absurd hi (Nat.not_lt_zero _)) (by simp only [valD]; omega))
end
section
local macro_rules | `(tactic| walk_at "M_SPARE") => `(tactic| skip)
example : True ∧ True := by
  w_top off
  (first | walk1 | skip) <;> (first | trivial | exact ⟨trivial, trivial⟩)
example : True := by
  w_top off
  k_with_none
  trivial
end
section
variable {w : World} {p : Program} {loose : List Str} {mean : ExcName → Option Value} {mg mb : Str → Option Value}
theorem intEq {x y : Int} {t : Tok} (h : x = y) : Value.int x t = Value.int y t := by rw [h]
theorem valD_bound {f : Nat → Int} {B : Int} (hB : 0 < B) : ∀ (k lo : Nat), (∀ i, lo ≤ i → i < lo + k → 0 ≤ f i ∧ f i < B) → 0 ≤ valD f B lo k ∧ valD f B lo k < B ^ k
  | 0, _, _ => by simp [valD]
  | k + 1, lo, h => by
    obtain ⟨h1, h2⟩ := h lo (Nat.le_refl _) (by omega)
    obtain ⟨h3, h4⟩ := valD_bound hB k (lo + 1) fun i a b => h i (by omega) (by omega)
    rw [valD, Int.pow_succ, Int.mul_comm _ B]
    have h5 := Int.mul_nonneg (Int.le_of_lt hB) h3
    have h6 : B * (valD f B (lo + 1) k + 1) ≤ B * B ^ k := Int.mul_le_mul_of_nonneg_left (by omega) (Int.le_of_lt hB)
    rw [Int.mul_add] at h6
    omega
theorem bits_lt {x : Int} {k : Nat} (h0 : 0 ≤ x) (h : x < 2 ^ k) : Builtin.Int.intBits x ≤ k := by
  rw [intBits_le_iff]
  have h3 : ((2 ^ k : Nat) : Int) = (2 : Int) ^ k := by push_cast; rfl
  rw [← h3] at h
  omega
theorem bits_valD {f : Nat → Int} {n : Int} {lo k : Nat} (hn : 0 < n ∧ n < 20) (h : ∀ i, lo ≤ i → i < lo + k → 0 ≤ f i ∧ f i < 2 ^ n.toNat) (hk : k ≤ 100) : Builtin.Int.intBits (valD f (2 ^ n.toNat) lo k) ≤ 2000 := by
  obtain ⟨h1, h2⟩ := valD_bound (Int.pow_pos (by decide)) k lo h
  rw [← Int.pow_mul] at h2
  have h3 := bits_lt h1 h2
  have h4 : n.toNat * k ≤ 20 * 100 := Nat.mul_le_mul (by omega) hk
  omega
theorem valD_halves {f : Nat → Int} {n lo hi : Int} (h0 : 0 ≤ lo) (h1 : lo < hi) (hne : lo + 1 ≠ hi) (hn : 0 < n) :
    lo < (lo + hi).fdiv (2 ^ Int.toNat 1) ∧ (lo + hi).fdiv (2 ^ Int.toNat 1) < hi ∧
    valD f (2 ^ n.toNat) ((lo + hi).fdiv (2 ^ Int.toNat 1)).toNat (hi - (lo + hi).fdiv (2 ^ Int.toNat 1)).toNat * 2 ^ (((lo + hi).fdiv (2 ^ Int.toNat 1) - lo) * n).toNat + valD f (2 ^ n.toNat) lo.toNat ((lo + hi).fdiv (2 ^ Int.toNat 1) - lo).toNat = valD f (2 ^ n.toNat) lo.toNat (hi - lo).toNat := by
  rw [half_is]
  generalize hM : (lo + hi) / 2 = M
  have a1 : lo < M := by omega
  have a2 : M < hi := by omega
  refine ⟨a1, a2, ?_⟩
  rw [pow_shift (by omega) (by omega : 0 ≤ M - lo), toNat_split (Int.le_of_lt a1) (Int.le_of_lt a2), valD_add, toNat_low h0 (Int.le_of_lt a1), Int.mul_comm]
  omega
def InnerSpec2 (w : World) (p : Program) (loose : List Str) (mean : ExcName → Option Value) (mg mb : Str → Option Value) (f : Addr) (led : Led) (ds : List Int) (nn : Int) (c : Nat) (d : Nat) : Prop :=
  ∀ (lo hi : Int) (t1 t2 : Tok), 0 ≤ lo → lo < hi → hi ≤ c → (hi - lo).toNat ≤ d + 1 →
    Con w p loose mean mg mb (.ref f) [.int lo t1, .int hi t2] [] (d + 1) (20 * (d + 1)) led (fun r n' => (∃ t, r = .int (valD (fun i => ds.getD i 0) (2 ^ nn.toNat) lo.toNat (hi - lo).toNat) t) ∧ n' = led)
theorem inner_gen2 {h₀ h : Heap} {L : Addr} {f : Addr} {fo : Obj} {rest : Led} {ds : List Int} {nn : Int} {c : Nat} {G : Prop} (_N : News h₀ L h ((f, fo) :: rest))
    (step : ∀ d, (∀ e, e < d → InnerSpec2 w p loose mean mg mb f ((f, fo) :: rest) ds nn c e) → InnerSpec2 w p loose mean mg mb f ((f, fo) :: rest) ds nn c d)
    (go : (∀ d, InnerSpec2 w p loose mean mg mb f ((f, fo) :: rest) ds nn c d) → G) : G :=
  go (fun d => Nat.strongRecOn d step)
local macro_rules | `(tactic| walk_at "exec FunctionDef") => `(tactic| k_extra "exec FunctionDef")
local macro_rules | `(tactic| walk_at "binaryOp LShift int int") => `(tactic| k_extra "M_LSH")
local macro_rules | `(tactic| walk_at "call ref") => `(tactic| k_extra "call ref")
local macro_rules | `(tactic| ktr_room) => `(tactic| first | walk_at "M_ROOM" | assumption)
local macro_rules | `(tactic| ktr_units) => `(tactic| first | walk_at "M_ROOM" | assumption)
abbrev qD : Str := Str.ofString "_digits2int.<locals>.inner"
inductive D2iP (ps : Array Value) (news tl : Led) (D : Addr) (o : Obj) (x : Int) : Value → Led → Prop
  | mk (c' : Addr) (oc : Obj) (t : Tok) (hoc : IsCode qD oc) (hc : c' ≠ 51) (hps : ps = #[] ∨ ps = #[rawInt 88, rawInt 4, .ref c']) (hcn : (c', oc) ∈ tl ∨ (D < c' ∧ ∀ p ∈ news, p.1 < c')) : D2iP ps news tl D o x (.int x t) ((c', oc) :: (51, tabObj #[rawInt 88, rawInt 4, .ref c']) :: (D, o) :: news)
theorem D2iP.eq {ps : Array Value} {news tl : Led} {D : Addr} {o : Obj} {x : Int} {r : Value} {c' : Addr} {oc : Obj} {t : Tok} (hoc : IsCode qD oc) (hc : c' ≠ 51) (hps : ps = #[] ∨ ps = #[rawInt 88, rawInt 4, .ref c']) (hcn : (c', oc) ∈ tl ∨ (D < c' ∧ ∀ p ∈ news, p.1 < c')) (e : r = .int x t) : D2iP ps news tl D o x r ((c', oc) :: (51, tabObj #[rawInt 88, rawInt 4, .ref c']) :: (D, o) :: news) :=
  e ▸ .mk c' oc t hoc hc hps hcn
set_option maxHeartbeats 0 in
theorem d2i_c {news tl : Led} {D : Addr} {k : Nat} {vs : List Value} {ds : List Int} {ps : Array Value} {n : Int} {cnt : Nat} {t2 : Tok} (hI : IntsAre vs ds) (hlen : ds.length = cnt) (hds : ∀ i : Nat, i < cnt → 0 ≤ ds.getD i 0 ∧ ds.getD i 0 < 2 ^ n.toNat) (hn : 0 < n ∧ n < 20) (hc0 : cnt < 100) (hoff : ∀ p ∈ (D, lstO vs k) :: news, p.1 ≠ 51)
    (htl : ∀ q ∈ tl, q ∈ news) (htab : TabIs 88 4 (Str.ofString "_digits2int.<locals>.inner") ps tl) :
    Con w p loose mean mg mb (.ref 56) [.ref D, .int n t2] [] 105 4000 ((51, tabObj ps) :: (D, lstO vs k) :: news) (D2iP ps news tl D (lstO vs k) (valD (fun i => ds.getD i 0) (2 ^ n.toNat) 0 cnt)) := by
  unfold Con; k_fill; intros; rename_i hret
  rename CodesAt _ => hcodes
  have hC := hcodes.2.1
  k_with_none
  k_dflt (refine' code_defC ?k1 ?k2 ?k3 ?k4 ?k5 ?kA ?kF ?kK ?k6 ?k7 ?k8 ?k9 ?kB ?kD ?_ ?c2 ?c3 ?c4; (case kA => exact rfl); (case kF => assumption); (case kK => assumption); (case k1 => k_asm); (case k2 => k_asm); (case k3 => k_asm); (case k4 => k_asm); (case k5 => k_asm); (case k6 => k_is); (case k7 => k_is); (case k8 => ktr_room); (case k9 => first | exact BindsTo.of_eq rfl | exact binds_K (by k_in) rfl (by k_is) rfl rfl rfl | (refine' kp_binds ?kx ?ke; (case kx => k_in); (case ke => exact fun _ => rfl))); (case kB => exact rfl); (case kD => decide +kernel); (case c2 => exact rfl); (case c3 => exact rfl); (case c4 => exact rfl); k_whole; intro g' L' h' tk' cells' FG' F' N' Y' B' X' T' l1; (try k_lt l1); k_cells Y'; (try simp only [List.cons_append, List.nil_append] at N'); (try dsimp only); (revert F'; (show (let m9 := _; Fr _ _ _ m9 → _)); intro m9 F'); (try k_lift B'); (try first | (refine foldL ?_; intro Q9 hQ9; (show (let ek := _; wpAny _ _ _ _ ek _)); intro ek) | k_fold); ((try (with_reducible refine gen_toks ?_; intro tk)); try ((first | refine (?_ : let ev := _; wpAny _ (PySem.Around.deeper _ ev) (execs _ ev) _ _ _) | refine (?_ : let ev := _; wpAny _ (PySem.Around.deeper _ ev) (eval _ ev) _ _ _)); intro ev; refine (?_ : let ak := _; wpAny _ ak _ _ _ _); intro ak)))
  rename _ ∧ _ ∧ AllLt _ _ => l1
  have l1b : AllLt _ ((D, lstO vs k) :: news) := l1.2
  have l1c := l1.2.2
  k_with "exec FunctionDef" => (k_dflt (refine' nestDef_K ?d0 ?k0 ?a0 ?_; (case d0 => exact rfl); (case k0 => exact rfl); (case a0 => exact rfl)); k_dflt (refine' nest_any ?F ?N ?T ?C ?cd ?U ?mem (allLt_of fun q hq => allLt_mem l1c q (htl q hq)) (fun q hq => hoff q (.tail _ (htl q hq))) ?sub htab ?cl ?_; (case F => k_asm); (case N => k_asm); (case T => k_asm); (case cd => exact rfl); (case C => kn_code); (case U => k_updF); (case mem => k_mem); (case sub => (intro q9 hq9; replace hq9 := htl q9 hq9; repeat (first | exact hq9 | apply List.Mem.tail))); (case cl => exact rfl); k_whole); intro f9 c9 oc9 vc9 tc9 ct9 dc9 h9 tk9 F9 N9 d1 d2 l1 l2 l3 l4 l5 l6; (replace l5 := l5.imp_right fun h => (⟨h (D, lstO vs k) (by k_mem), fun q hq => h q (by repeat (first | exact hq | apply List.Mem.tail))⟩ : D < c9 ∧ ∀ q ∈ news, q.1 < c9)); (try dsimp only at N9); (try k_lt l1); (try simp only [AllOff] at l3))
  k_with "call builtin:len" => (k_dflt (refine' len_l ?kN ?km (hI.length.trans hlen) (by omega) ?_; (case kN => k_asm); (case km => k_mem)); intro t9 tk9)
  k_steps
  · have hcpos : 0 < cnt := by
      rcases Nat.eq_zero_or_pos cnt with h | h
      · exfalso; subst h; simp_all
      · exact h
    rename News _ _ _ ((_, fnMade _ _ _ _ _ _ _ _ _ _) :: (_, _) :: _) => N5
    refine inner_gen2 (w := w) (p := p) (loose := loose) (mean := mean) (mg := mg) (mb := mb) (ds := ds) (nn := n) (c := cnt) N5 ?_ ?_
    · clear hret
      intro d IH lo hi t1 t2 h0 h1 h2 hd
      unfold Con; intros; rename_i hdpI hunI hret
      rename CodesAt _ => hcodes
      k_dflt (refine' code_nest ?k1 ?k2 ?k3 ?k4 ?k5 ?kA ?kF ?kK ?k6 ?k7 ?k8 ?k9 ?kB ?_ ?c2 ?c3 ?c4 ?c5; (case kA => exact rfl); (case kF => assumption); (case kK => assumption); (case k1 => k_asm); (case k2 => k_asm); (case k3 => k_asm); (case k4 => k_asm); (case k5 => k_asm); (case k6 => k_mem); (case k7 => exact codeRec_news (by k_asm) (by k_mem) (by assumption) (by assumption)); (case k8 => ktr_room); (case k9 => exact BindsTo.of_eq rfl); (case c5 => decide); (case kB => exact locs rfl); (case c2 => exact rfl); (case c3 => exact rfl); (case c4 => exact rfl); k_whole; intro g' L' h' FG' F' N' B' X' T'; (try dsimp only); (revert F'; (show (let m9 := _; Fr _ _ _ m9 → _)); intro m9 F'); (try k_lift B'); (try first | (refine foldL ?_; intro Q9 hQ9; (show (let ek := _; wpAny _ _ _ _ ek _)); intro ek) | k_fold); ((try (with_reducible refine gen_toks ?_; intro tk)); try ((first | refine (?_ : let ev := _; wpAny _ (PySem.Around.deeper _ ev) (execs _ ev) _ _ _) | refine (?_ : let ev := _; wpAny _ (PySem.Around.deeper _ ev) (eval _ ev) _ _ _)); intro ev; refine (?_ : let ak := _; wpAny _ ak _ _ _ _); intro ak)))
      have hsh := shift_ok h0 h1 h2 hc0 hn
      k_with "subscriptTail Name Name ref int" => (with_unfolding_all refine' item_l ?k1 ?k2 hI h0 (by omega) (by omega) ?_; (case k1 => k_asm); (case k2 => k_mem); intro t')
      k_with "M_LSH" => (refine lshift_int hsh.1 ?_ ?_; (have hb9 := bits_valD (f := fun i => ds.getD i 0) (lo := ((lo + hi).fdiv (2 ^ Int.toNat 1)).toNat) (k := (hi - (lo + hi).fdiv (2 ^ Int.toNat 1)).toNat) hn (fun i a b => hds i (by have := hH.1; omega)) (by have := hH.1; omega); have hb8 := hsh.2; omega))
      k_with "call ref" => first
        | (k_dflt (refine' Con.use (IH (d - 1) (d_lt hd1) _ _ _ _ h0 hH.1 (Int.le_trans (Int.le_of_lt hH.2.1) h2) (d_low hd hd1 hH.1 hH.2.1)) ?kB ?kF ?kX ?kN ?kT ?kc ?kf ?kk ?kd ?ku ?_; ((case kB => k_asm); (case kF => k_asm); (case kX => k_asm); (case kN => k_asm); (case kT => k_asm); (case kc => assumption); (case kf => first | rfl | assumption); (case kk => first | rfl | assumption); (case kd => ktr_room); (case ku => ktr_units)); k_whole); rintro K_9 hK_9 r9 n9 ⟨⟨t9, rfl⟩, rfl⟩; refine hK_9 _ _ ?_; clear hK_9 K_9; intro h9 tk9 F9 N9; (try dsimp only))
        | (have hH := valD_halves (f := fun i => ds.getD i 0) h0 h1 (by assumption) hn.1; have hd1 := d_pos h1 hd (by assumption); have hr1 := d_room hdpI hd1; have hr2 := d_units hunI hd1; k_dflt (refine' Con.use (IH (d - 1) (d_lt hd1) _ _ _ _ (Int.le_of_lt (Int.lt_of_le_of_lt h0 hH.1)) hH.2.1 h2 (d_high hd hd1 hH.1 hH.2.1)) ?kB ?kF ?kX ?kN ?kT ?kc ?kf ?kk ?kd ?ku ?_; ((case kB => k_asm); (case kF => k_asm); (case kX => k_asm); (case kN => k_asm); (case kT => k_asm); (case kc => assumption); (case kf => first | rfl | assumption); (case kk => first | rfl | assumption); (case kd => ktr_room); (case ku => ktr_units)); k_whole); rintro K_9 hK_9 r9 n9 ⟨⟨t9, rfl⟩, rfl⟩; refine hK_9 _ _ ?_; clear hK_9 K_9; intro h9 tk9 F9 N9; (try dsimp only))
      k_steps
      · exact hret _ _ _ _ (by assumption) (by assumption) ⟨⟨_, intEq (by rw [show (hi - lo).toNat = 1 from by omega]; simp only [valD, Int.mul_zero, Int.add_zero])⟩, rfl⟩
      · exact hret _ _ _ _ (by assumption) (by assumption) ⟨⟨_, intEq hH.2.2⟩, rfl⟩
    · intro hspec
      k_with "call ref" => (k_dflt (refine' Con.use (hspec cnt 0 cnt _ _ (Int.le_refl _) (by omega) (Int.le_refl _) (by omega)) ?kB ?kF ?kX ?kN ?kT ?kc ?kf ?kk ?kd ?ku ?_; ((case kB => k_asm); (case kF => k_asm); (case kX => k_asm); (case kN => k_asm); (case kT => k_asm); (case kc => assumption); (case kf => first | rfl | assumption); (case kk => first | rfl | assumption); (case kd => ktr_room); (case ku => ktr_units)); k_whole); rintro K_9 hK_9 r9 n9 ⟨⟨t9, rfl⟩, rfl⟩; refine hK_9 _ _ ?_; clear hK_9 K_9; intro h9 tk9 F9 N9; (try dsimp only))
      k_steps
      rename News _ _ _ ((_, _) :: (_, _) :: _) => N5
      refine' hret _ _ _ _ (by assumption) (newsSub N5 (List.forall_mem_cons.mpr ⟨by k_mem, List.forall_mem_cons.mpr ⟨by k_mem, fun q hq => by repeat (first | exact hq | apply List.Mem.tail)⟩⟩))
        (D2iP.eq ⟨_, _, d1, d2⟩ l4 l6 l5 (intEq (by rw [show ((cnt : Int) - 0).toNat = cnt from by omega]; rfl)))
  · have hc00 : cnt = 0 := by
      rcases Nat.eq_zero_or_pos cnt with h | h
      · exact h
      · exfalso; simp_all
    subst hc00
    rename News _ _ _ ((_, _) :: (_, _) :: _) => N5
    exact hret _ _ _ _ (by assumption) (newsSub N5 (List.forall_mem_cons.mpr ⟨by k_mem, List.forall_mem_cons.mpr ⟨by k_mem, fun q hq => by repeat (first | exact hq | apply List.Mem.tail)⟩⟩))
        (.mk _ _ _ ⟨_, _, d1, d2⟩ l4 l6 l5)
end
section
variable {w : World} {p : Program} {loose : List Str} {mean : ExcName → Option Value} {mg mb : Str → Option Value}
theorem divmod_l {prog : Program} {A : Around} {E : Value → Shared → Prop} {s : Shared} {h₀ : Heap} {L : Addr} {m : Str → Option Value} {news : Led} {a b : Int} {t u : Tok} {Q : Value → Shared → Prop} (F : Fr h₀ L s.heap m) (N : News h₀ L s.heap news) (hb : 0 < b ∧ b < 2 ^ 20)
    (h : ∀ D t1 t2 tk h', (∀ p ∈ news, p.1 < D) → Fr h₀ L h' m → News h₀ L h' ((D, tupO [.int (a.fdiv b) t1, .int (a.fmod b) t2]) :: news) → Q (.ref D) { s with toks := tk, heap := h' }) :
    wpAny (model prog w) A (call (.builtin "divmod") [.int a t, .int b u]) Q E s :=
  divmod_N F N (by omega) (fun h' F' N' => h _ _ _ _ h' (fun p hp => Heap.lt_size (N.get hp)) F' N') (Or.inl (PyProof.noPylong_small (by omega)))
def hv (B : Int) (l : List Int) : Int := l.foldl (fun v d => v * B + d) 0
theorem hv_snoc (B : Int) (l : List Int) (d : Int) : hv B (l ++ [d]) = hv B l * B + d := by simp [hv]
theorem hv_rev {B : Int} (f : Nat → Int) : ∀ (k : Nat) (l : List Int), l.length = k → (∀ i, i < k → l.getD i 0 = f i) → hv B l.reverse = valD f B 0 k := by
  have key : ∀ (k lo : Nat) (l : List Int), l.length = k → (∀ i, i < k → l.getD i 0 = f (lo + i)) → hv B l.reverse = valD f B lo k := by
    intro k
    induction k with
    | zero => intro lo l h _; rw [List.length_eq_zero_iff.mp h]; rfl
    | succ k ih =>
      intro lo l h hf
      cases l with
      | nil => cases h
      | cons x r =>
        rw [List.reverse_cons, hv_snoc, valD, ih (lo + 1) r (by simpa using h) (fun i hi => by have := hf (i + 1) (by omega); rw [show lo + 1 + i = lo + (i + 1) from by omega]; simpa using this)]
        have h0 := hf 0 (by omega)
        simp only [List.getD_cons_zero, Nat.add_zero] at h0
        rw [h0, Int.mul_comm B]
        omega
  intro k l h hf
  exact key k 0 l h (fun i hi => by rw [Nat.zero_add]; exact hf i hi)
def DJ (B b : Int) (pre : List Int) (r : Int) (qs : List Int) : Prop := 0 ≤ r ∧ r < b ∧ hv B qs * b + r = hv B pre ∧ ∀ q ∈ qs, 0 ≤ q ∧ q < B
theorem DJ.step {B b d r : Int} {pre qs : List Int} (h : DJ B b pre r qs) (hd : 0 ≤ d ∧ d < B) : DJ B b (pre ++ [d]) ((r * B + d).fmod b) (qs ++ [(r * B + d).fdiv b]) := by
  obtain ⟨h0, h1, h2, h3⟩ := h
  have hb : 0 < b := by omega
  have hB : 0 < B := by omega
  have p0 : 0 ≤ r * B := Int.mul_nonneg h0 (by omega)
  have p1 : (r + 1) * B ≤ b * B := Int.mul_le_mul_of_nonneg_right (by omega) (by omega)
  rw [Int.add_mul, Int.one_mul] at p1
  rw [Int.fmod_eq_emod_of_nonneg _ (by omega), Int.fdiv_eq_ediv_of_nonneg _ (by omega)]
  have e := Int.mul_ediv_add_emod (r * B + d) b
  refine ⟨Int.emod_nonneg _ (by omega), Int.emod_lt_of_pos _ hb, ?_, fun q hq => ?_⟩
  · rw [hv_snoc, hv_snoc, ← h2, Int.add_mul, Int.add_mul, Int.mul_right_comm (hv B qs) B b, Int.mul_comm ((r * B + d) / b) b]
    omega
  · rcases List.mem_append.mp hq with hq | hq
    · exact h3 q hq
    · rw [List.mem_singleton.mp hq]
      exact ⟨Int.ediv_nonneg (by omega) (by omega), Int.ediv_lt_of_lt_mul hb (by rw [Int.mul_comm B b]; omega)⟩
theorem DJ.rbits {B b r : Int} {pre qs : List Int} (h : DJ B b pre r qs) (hb : b < 2 ^ 19) : Builtin.Int.intBits r ≤ 19 := bits_lt h.1 (Int.lt_trans h.2.1 hb)
theorem DJ.bits {B b d r : Int} {pre qs : List Int} (h : DJ B b pre r qs) (hb : b < 2 ^ 19) (hB : B ≤ 2 ^ 20) (hd : 0 ≤ d ∧ d < B) : Builtin.Int.intBits (r * B + d) ≤ 40 := by
  obtain ⟨h0, h1, _, _⟩ := h
  have p0 : 0 ≤ r * B := Int.mul_nonneg h0 (by omega)
  have p1 : r * B ≤ 2 ^ 19 * 2 ^ 20 := Int.mul_le_mul (by omega) hB (by omega) (by decide)
  exact bits_lt (by omega) (by omega)
theorem ints_snoc {vs : List Value} {ns : List Int} (h : IntsAre vs ns) (d : Int) (t : Tok) : IntsAre (vs ++ [.int d t]) (ns ++ [d]) := h.append (.cons d t .nil)
theorem bits_b {b : Int} (hb : 1 < b ∧ b < 2 ^ 19) : 0 < (Builtin.Int.intBits b : Int) ∧ (Builtin.Int.intBits b : Int) < 20 := by
  have h1 : Builtin.Int.intBits b ≤ 19 := bits_lt (by omega) hb.2
  have h2 : ¬ Builtin.Int.intBits b ≤ 0 := by
    rw [intBits_le_iff]; omega
  omega
theorem pow_le20 {n : Int} (hn : 0 < n ∧ n < 20) : (2 : Int) ^ n.toNat ≤ 2 ^ 20 := by
  have h : n.toNat ≤ 20 := by omega
  have := Nat.pow_le_pow_right (n := 2) (by decide) h
  have h3 : ((2 ^ n.toNat : Nat) : Int) = (2 : Int) ^ n.toNat := by push_cast; rfl
  rw [← h3]
  omega
theorem divmod_unique {a b q r : Int} (h0 : 0 ≤ r) (h1 : r < b) (h2 : q * b + r = a) : q = a.fdiv b ∧ r = a.fmod b := by
  rw [Int.fdiv_eq_ediv_of_nonneg _ (by omega), Int.fmod_eq_emod_of_nonneg _ (by omega)]
  have h3 : a = r + b * q := by rw [Int.mul_comm b q]; omega
  constructor
  · rw [h3, Int.add_mul_ediv_left _ _ (by omega), Int.ediv_eq_zero_of_lt h0 h1]; omega
  · rw [h3, Int.add_mul_emod_self_left, Int.emod_eq_of_lt h0 h1]
end
section
variable {w : World} {p : Program} {loose : List Str} {mean : ExcName → Option Value} {mg mb : Str → Option Value}
theorem cnt_ex {x n : Int} (hx : 0 ≤ x ∧ x ≤ 80) (hn : 0 < n ∧ n < 20) : ∃ cnt : Nat, (x + n - 1).fdiv n = (cnt : Int) ∧ cnt < 100 := by
  rw [Int.fdiv_eq_ediv_of_nonneg _ (by omega)]
  have h0 : 0 ≤ (x + n - 1) / n := Int.ediv_nonneg (by omega) (by omega)
  have h1 : (x + n - 1) / n < 100 := Int.ediv_lt_of_lt_mul hn.1 (by omega)
  exact ⟨((x + n - 1) / n).toNat, by omega, by omega⟩
theorem neg2_div (a b : Int) : (-a).fdiv (-b) = a.fdiv b ∧ -(-a).fmod (-b) = a.fmod b := by
  have h := Int.neg_fdiv_neg a b
  refine ⟨h, ?_⟩
  rw [Int.fmod_def, Int.fmod_def, h, Int.neg_mul]
  omega
theorem bitNot_is (a : Int) : Builtin.bitNot a = -a - 1 := by unfold Builtin.bitNot; omega
theorem neg_div {a b : Int} (hb : 0 < b) : Builtin.bitNot ((Builtin.bitNot a).fdiv b) = a.fdiv b ∧ b + Builtin.bitNot ((Builtin.bitNot a).fmod b) = a.fmod b := by
  rw [bitNot_is, bitNot_is, bitNot_is]
  have h0 := Int.emod_nonneg (-a - 1) (by omega : b ≠ 0)
  have h1 := Int.emod_lt_of_pos (-a - 1) hb
  have h2 := Int.mul_ediv_add_emod (-a - 1) b
  rw [Int.fdiv_eq_ediv_of_nonneg (-a - 1) (by omega), Int.fmod_eq_emod_of_nonneg (-a - 1) (by omega)]
  refine divmod_unique (by omega) (by omega) ?_
  rw [Int.sub_mul, Int.neg_mul, Int.mul_comm ((-a - 1) / b) b]
  omega
end
section
variable {w : World} {p : Program} {loose : List Str} {mean : ExcName → Option Value} {mg mb : Str → Option Value}
abbrev T4 (c : Addr) : Obj := tabObj #[rawInt 73, rawInt 4, .ref c]
abbrev T5 (c : Addr) : Obj := tabObj #[rawInt 88, rawInt 4, .ref c]
structure DivIn (c4 c5 : Addr) (led : Led) : Prop where
  m4 : (44, T4 c4) ∈ led
  m5 : (51, T5 c5) ∈ led
  k4 : ∃ oc vc tc, (c4, oc) ∈ led ∧ oc.data = .fields vc ∧ vc[1]? = some (.str (Str.ofString "_int2digits.<locals>.inner") tc)
  k5 : ∃ oc vc tc, (c5, oc) ∈ led ∧ oc.data = .fields vc ∧ vc[1]? = some (.str (Str.ofString "_digits2int.<locals>.inner") tc)
  n4 : c4 ≠ 44 ∧ c4 ≠ 51
  n5 : c5 ≠ 44 ∧ c5 ≠ 51
  off : ∀ p ∈ led, p = (44, T4 c4) ∨ p = (51, T5 c5) ∨ (p.1 ≠ 44 ∧ p.1 ≠ 51)
theorem DivIn.sub {c4 c5 : Addr} {led led' : Led} (h : DivIn c4 c5 led) (hs : ∀ p ∈ led, p ∈ led') (ho : ∀ p ∈ led', p ∈ led ∨ (p.1 ≠ 44 ∧ p.1 ≠ 51)) : DivIn c4 c5 led' :=
  ⟨hs _ h.m4, hs _ h.m5, let ⟨a, b, c, d, e⟩ := h.k4; ⟨a, b, c, hs _ d, e⟩, let ⟨a, b, c, d, e⟩ := h.k5; ⟨a, b, c, hs _ d, e⟩, h.n4, h.n5, fun p hp => (ho p hp).elim (h.off p) fun h => .inr (.inr h)⟩
theorem DivIn.cons {c4 c5 : Addr} {led : Led} {q : Addr × Obj} (h : DivIn c4 c5 led) (hq : q.1 ≠ 44 ∧ q.1 ≠ 51) : DivIn c4 c5 (q :: led) :=
  h.sub (fun _ hp => .tail _ hp) fun p hp => by
    rcases List.mem_cons.mp hp with rfl | hp
    · exact .inr hq
    · exact .inl hp
theorem Con.post {f : Value} {vs : List Value} {kw : List (Str × Value)} {D U : Nat} {news news' : Led} {Post Post' : Value → Led → Prop} (C : Con w p loose mean mg mb f vs kw D U news Post) (hs : ∀ q ∈ news, q ∈ news')
    (hp : ∀ r n, Post r n → ∃ n', (∀ q ∈ n', q ∈ n) ∧ Post' r n') : Con w p loose mean mg mb f vs kw D U news' Post' := by
  unfold Con at C ⊢
  intro dp un gd env outer A₀ base h₀ L m sh sg sd st so R B F X N T hc hf hk hd hu hret
  refine C dp un gd env outer A₀ base h₀ L m sh sg sd st so R B F X (newsSub N hs) T hc hf hk hd hu fun r n' h' tk' F' N' P => ?_
  obtain ⟨n2, hn, P2⟩ := hp r n' P
  exact hret r n2 h' tk' F' (newsSub N' hn) P2
end
section
variable {w : World} {p : Program} {loose : List Str} {mean : ExcName → Option Value} {mg mb : Str → Option Value}
theorem kl_cut_at : ∀ (l : List Value) (k : Nat) (y : Value), l[k]? = some y → kl_cut l k = some (l.take k, y, l.drop (k + 1))
  | [], k, y, h => by simp at h
  | x :: r, 0, y, h => by simp at h; subst h; rfl
  | x :: r, k + 1, y, h => by
    have := kl_cut_at r k y (by simpa using h)
    simp [kl_cut, this]
theorem pop_l {prog : Program} {A : Around} {E : Value → Shared → Prop} {s : Shared} {h₀ : Heap} {L : Addr} {m : Str → Option Value} {news news' : Led} {l : Addr} {vs : List Value} {ns : List Int} {n : Nat} {i : Int} {u : Tok} {Q : Value → Shared → Prop}
    (F : Fr h₀ L s.heap m) (N : News h₀ L s.heap news) (hI : IntsAre vs ns) (h0 : 0 ≤ i) (h1 : i < ns.length) (hlen : ns.length < 2 ^ 20) (U : Upd l (lstO vs n) (lstO (vs.take i.toNat ++ vs.drop (i.toNat + 1)) (n + 1)) news news')
    (h : ∀ t h', Fr h₀ L h' m → News h₀ L h' news' → IntsAre (vs.take i.toNat ++ vs.drop (i.toNat + 1)) (ns.take i.toNat ++ ns.drop (i.toNat + 1)) → Q (.int (ns.getD i.toNat 0) t) { s with heap := h' }) :
    wpAny (model prog w) A (call (.builtin "list.pop") [.ref l, .int i u]) Q E s := by
  have hk : i.toNat < ns.length := by omega
  obtain ⟨t, ht⟩ := hI.get i.toNat (ns.getD i.toNat 0) (by simp [hk])
  have hl := hI.length
  refine kl_popAt (its := vs.toArray) F N (fitsIx h0 (by omega)) (k := i.toNat) ?_ (kl_cut_at vs i.toNat _ ht) U (fitsSz hI hlen) fun h' F' N' => h t h' F' N' ((hI.take _).append (hI.drop _))
  unfold seqIndex?
  rw [List.size_toArray]
  dsimp only
  have e : (if i < 0 then i + (vs.length : Int) else i) = i := if_neg (by omega)
  rw [e, if_pos (by simp; omega)]
def showM (hs : List Int) : List Int :=
  let place := (hs.sum).fmod 4
  let hidden := hs.getD place.toNat 0
  let h1 := hs.take place.toNat ++ hs.drop (place.toNat + 1)
  let order := (hidden - place).fdiv 4
  let h2 := h1.take (order.fdiv 2).toNat ++ h1.drop ((order.fdiv 2).toNat + 1)
  [hidden, h1.getD (order.fdiv 2).toNat 0] ++ (if order.fmod 2 = 1 then h2.reverse else h2)
section
variable {prog : Program} {h₀ h' : Heap} {L I : Addr} {it : Obj} {s₁ : Shared} {tk : Nat} {m' : Str → Option Value} {t : Led} {lp : Addr × Obj} {rest : (Str → Option Value) → Led → Prop}
theorem UnrEnd.mid2 {a b : Addr × Obj} (F : Fr h₀ L h' m') (N : News h₀ L h' (a :: b :: (I, it) :: t)) (ha : a.1 ≠ I) (hb : b.1 ≠ I) (ht : ∀ p ∈ t, p.1 ≠ I) (r : rest m' (a :: b :: t)) : UnrEnd h₀ L s₁ I it rest { s₁ with heap := h', toks := tk } :=
  UnrEnd.intro F N (a :: b :: t) (fun p hp => by
    simp only [List.mem_cons] at hp ⊢
    rcases hp with h | h | h | h <;> simp [h]) (fun p hp => by
    rcases List.mem_cons.mp hp with rfl | hp
    · exact ha
    · rcases List.mem_cons.mp hp with rfl | hp
      · exact hb
      · exact ht p hp) r
end
theorem bits80 {a : Int} (h : -2 ^ 79 ≤ a ∧ a < 2 ^ 79) : Builtin.Int.intBits a ≤ 80 ∧ Builtin.Int.intBits (Builtin.bitNot a) ≤ 80 := by
  rw [intBits_le_iff, intBits_le_iff]
  unfold Builtin.bitNot
  omega
def Hand4 (hs : List Int) : Prop := ∃ a b c d, hs = [a, b, c, d] ∧ 0 ≤ a ∧ a < b ∧ b < c ∧ c < d ∧ d < 27
def Cards (rs : List Int) : Prop := rs.Nodup ∧ ∀ r ∈ rs, 0 ≤ r ∧ r < 27
theorem Cards.hand {ns rs : List Int} (h : Cards rs) (hl : rs.length = 4) (hP : ns.Perm rs) (hs : Sorted ns) : Hand4 ns := by
  have hl2 : ns.length = 4 := hP.length_eq.trans hl
  have hn : ns.Nodup := hP.nodup_iff.mpr h.1
  have hb : ∀ r ∈ ns, 0 ≤ r ∧ r < 27 := fun r hr => h.2 r (hP.mem_iff.mp hr)
  match ns, hl2 with
  | [a, b, c, d], _ =>
    have hs' := sorted_iff.mp hs
    simp only [List.pairwise_cons, List.nodup_cons, List.mem_cons, List.not_mem_nil, or_false, forall_eq_or_imp, forall_eq, not_or] at hs' hn hb
    exact ⟨a, b, c, d, rfl, by omega, by omega, by omega, by omega, by omega⟩
theorem ord_le {x : Int} (h : 0 ≤ x ∧ x ≤ 23) : 0 ≤ (x.fdiv 4).fdiv 2 ∧ (x.fdiv 4).fdiv 2 < 3 := by
  rw [Int.fdiv_eq_ediv_of_nonneg _ (by decide), Int.fdiv_eq_ediv_of_nonneg _ (by decide)]
  omega
theorem hand4_get {a b c d i : Int} (h : 0 ≤ a ∧ a < b ∧ b < c ∧ c < d ∧ d < 27) (hi : 0 ≤ i ∧ i < 4) : 0 ≤ [a, b, c, d].getD i.toNat 0 - i ∧ [a, b, c, d].getD i.toNat 0 - i ≤ 23 := by
  have : i = 0 ∨ i = 1 ∨ i = 2 ∨ i = 3 := by omega
  rcases this with rfl | rfl | rfl | rfl <;> simp <;> omega
section
variable {prog : Program} {A : Around} {E : Value → Shared → Prop} {s : Shared} {h₀ : Heap} {L : Addr} {m : Str → Option Value} {news : Led} {l : Addr} {vs : List Value} {ns : List Int} {n : Nat} {g : Obj → Led} {Q : Value → Shared → Prop}
theorem UpdF.at {d : Addr} {o : Obj} (o' : Obj) : ∀ {led : Led} {g : Obj → Led}, UpdF d o led g → Upd d o o' led (g o')
  | _, _, .head h => .head h
  | _, _, .tail h r => .tail h (UpdF.at o' r)
theorem popF {i : Int} {u : Tok} (F : Fr h₀ L s.heap m) (N : News h₀ L s.heap news) (hI : IntsAre vs ns) (h0 : 0 ≤ i) (h1 : i < ns.length) (hlen : ns.length < 2 ^ 20) (U : UpdF l (lstO vs n) news g)
    (h : ∀ t h' x vs' ns', x = ns.getD i.toNat 0 → ns' = ns.take i.toNat ++ ns.drop (i.toNat + 1) → ns'.length + 1 = ns.length → Fr h₀ L h' m → News h₀ L h' (g (lstO vs' (n + 1))) → IntsAre vs' ns' → Q (.int x t) { s with heap := h' }) :
    wpAny (model prog w) A (call (.builtin "list.pop") [.ref l, .int i u]) Q E s :=
  pop_l F N hI h0 h1 hlen (UpdF.at _ U) fun t h' F' N' hI' => h t h' _ _ _ rfl rfl (by simp only [List.length_append, List.length_take, List.length_drop]; omega) F' N' hI'
theorem revF (F : Fr h₀ L s.heap m) (N : News h₀ L s.heap news) (hI : IntsAre vs ns) (hlen : ns.length < 2 ^ 20) (U : UpdF l (lstO vs n) news g)
    (h : ∀ h' vs' ns', ns' = ns.reverse → ns'.length = ns.length → Fr h₀ L h' m → News h₀ L h' (g (lstO vs' n)) → IntsAre vs' ns' → Q .none { s with heap := h' }) :
    wpAny (model prog w) A (call (.builtin "list.reverse") [.ref l]) Q E s :=
  kl_reverse (its := vs.toArray) F N (by simp) (UpdF.at _ U) (by simpa using fitsSz hI hlen) fun h' F' N' => h h' _ _ rfl List.length_reverse F' N' hI.reverse
end
end
section
variable {w : World} {p : Program} {loose : List Str} {mean : ExcName → Option Value} {mg mb : Str → Option Value}
section
variable {prog : Program} {A : Around} {E : Value → Shared → Prop} {s : Shared} {h₀ : Heap} {L : Addr} {m : Str → Option Value} {env : Env}
def TextSrc (prog : Program) (w : World) (A : Around) (h₀ : Heap) (L : Addr) (m : Str → Option Value) (env : Env) (elt : Expr) (x : Str) (scope : Scope) (cl : List (Str × Addr)) (Fin : Shared → List Value → Led → Prop) (xv : Value) (s₁ : Shared) : Prop :=
  ∃ tx t news, xv = .str tx t ∧ A.handled = none ∧ Fr h₀ L s₁.heap m ∧ News h₀ L s₁.heap news ∧ tx.cps.size ≤ sizeLine ∧
    ∀ s₂ : Shared, (∃ h, s₂ = { s₁ with heap := h }) → LCg.CompRest prog w A h₀ L m env elt x scope cl s₂ (fun _ => True) (SignAt tx) (Fin s₂) tx.cps.size 0 [] news
theorem TextSrc.intro {elt : Expr} {x : Str} {scope : Scope} {cl : List (Str × Addr)} {Fin : Shared → List Value → Led → Prop} {tx : Str} {t : Tok} {news : Led} {s₁ : Shared}
    (hh : A.handled = none) (F : Fr h₀ L s₁.heap m) (N : News h₀ L s₁.heap news) (hsz : tx.cps.size ≤ sizeLine)
    (h : ∀ g, LCg.CompRest prog w A h₀ L m env elt x scope cl { s₁ with heap := g } (fun _ => True) (SignAt tx) (Fin { s₁ with heap := g }) tx.cps.size 0 [] news) :
    TextSrc prog w A h₀ L m env elt x scope cl Fin (.str tx t) s₁ := ⟨tx, t, news, rfl, hh, F, N, hsz, fun _ ⟨g, e⟩ => e ▸ h g⟩
theorem str_st {I : Addr} {tx : Str} {t : Tok} {T : String} : ∀ i (h h' : Heap) (o : Obj) (nw : Led), h.IsStrIter I T tx t i → h.get? I = some o → h'.get? I = some o → (∀ b o, h₀.get? b = some o → h'.get? b = some o) → News h₀ L h' nw → True → h'.IsStrIter I T tx t i :=
  fun i h h' o nw st e e' _ _ _ => by obtain ⟨o', q, r⟩ := st; rw [e] at q; cases q; exact ⟨o, e', r⟩
theorem ListComp_S {elt iter : Expr} {x : Str} {px : Pos} {scope : Scope} {cl : List (Str × Addr)} {pos : Pos} {Q : Value → Shared → Prop} (F₀ : Fr h₀ L s.heap m)
    (hclos : closureFor scope env = pure cl) (hcell : ∀ y ∈ scope.names, y.2 ≠ .cell) (hkind : scope.kind = .function)
    (hnames : ∀ y ∈ scope.names, y.2 = .local → scope.names.lookup y.1 = some .local) (hx : scope.names.lookup x = some .local)
    (h : wpAny (model prog w) A (eval iter env) (TextSrc prog w A h₀ L m env elt x scope cl (fun s₂ => LCg.FinE h₀ L m s₂ Q)) E s)
    (hs : ∀ x, foldedSetIterable iter env x = pure x := by intro _; rfl) :
    wpAny (model prog w) A (eval (.ListComp elt [⟨.Name x px, iter, [], 0⟩] scope pos) env) Q E s := by
  rw [eval_ListComp]
  refine wpAny_comprehension_free (use := none) rfl hs hclos hkind hnames (wpAny_mono h (fun xv s₁ h₁ => ?_) fun _ _ e => e)
  obtain ⟨tx, t, news, rfl, hh, F, N, hsz, R⟩ := h₁
  cases ha : tx.cps.all (· < 128)
  · refine wpAny_pyIter_wide ha ?_
    refine LCg.block_U (Walks.strWide hh s₁.heap.objs.size tx t) hsz (fun i h st => by obtain ⟨o, e, _⟩ := st; exact ⟨o, e⟩) str_st hcell hkind hx ⟨_, Heap.get?_push_size _ rfl, rfl, rfl⟩ (fun b hb => ?_)
      (F.keeps fun _ _ e => Heap.get?_push_of_some _ e) (N.grown fun _ _ e => Heap.get?_push_of_some _ e) (Nat.ne_of_lt F.ns.lt) (next_is_new F) (fun p hp => Nat.ne_of_lt (Heap.lt_size (N p hp).1)) trivial (R _ ⟨_, rfl⟩) ?_
    · rw [List.mem_singleton.mp hb]
      show s₁.heap.objs.size < (s₁.heap.push _).objs.size
      rw [Heap.size_push]; exact Nat.lt_succ_self _
    · intro D C h tk m' ys news' F' N' o1 hn hC₀ hD₀ hCL hDL hCD offC fin
      refine ⟨m', hn, fun h'' hs'' => fin D h'' tk (F'.change hs'' hCL hC₀) (fun p hp => ?_) o1⟩
      refine ⟨hs''.extBut _ _ ?_ (N' p hp).1, (N' p hp).2⟩
      rcases List.mem_cons.mp hp with rfl | hp
      · exact Ne.symm hCD
      · exact offC p hp
  · refine wpAny_pyIter_ascii ha ?_
    refine LCg.block_U (Walks.strAscii hh s₁.heap.objs.size tx t) hsz (fun i h st => by obtain ⟨o, e, _⟩ := st; exact ⟨o, e⟩) str_st hcell hkind hx ⟨_, Heap.get?_push_size _ rfl, rfl, rfl⟩ (fun b hb => ?_)
      (F.keeps fun _ _ e => Heap.get?_push_of_some _ e) (N.grown fun _ _ e => Heap.get?_push_of_some _ e) (Nat.ne_of_lt F.ns.lt) (next_is_new F) (fun p hp => Nat.ne_of_lt (Heap.lt_size (N p hp).1)) trivial (R _ ⟨_, rfl⟩) ?_
    · rw [List.mem_singleton.mp hb]
      show s₁.heap.objs.size < (s₁.heap.push _).objs.size
      rw [Heap.size_push]; exact Nat.lt_succ_self _
    · intro D C h tk m' ys news' F' N' o1 hn hC₀ hD₀ hCL hDL hCD offC fin
      refine ⟨m', hn, fun h'' hs'' => fin D h'' tk (F'.change hs'' hCL hC₀) (fun p hp => ?_) o1⟩
      refine ⟨hs''.extBut _ _ ?_ (N' p hp).1, (N' p hp).2⟩
      rcases List.mem_cons.mp hp with rfl | hp
      · exact Ne.symm hCD
      · exact offC p hp
theorem comp_inv {elt : Expr} {x : Str} {scope : Scope} {cl : List (Str × Addr)} {S : Led → Prop} {P : Nat → Value → Prop} {Fin : List Value → Led → Prop} {n : Nat} {news : Led} (J : Nat → List Value → Led → Prop) (h0 : J 0 [] news)
    (turn : ∀ i ys news v I oI C oC D m₂ h tk (E' : Value → Shared → Prop), i < n → J i ys news → P i v → LCg.NsObj oC m₂ → m₂ x = some v → Fr h₀ L h m → News h₀ L h ((I, oI) :: (C, oC) :: (D, LCg.lst ys) :: news) → LCg.Off3 I C D news → ((@Ne Nat I C) ∧ (@Ne Nat I D) ∧ (@Ne Nat C D)) →
      wpAny (model prog w) A (eval elt (compEnvC scope cl C env)) (LCg.CompEnd h₀ L m { s with heap := h, toks := tk } I oI C oC D (LCg.lst ys) S (fun y news' => J (i + 1) (ys ++ [y]) news')) E' { s with heap := h, toks := tk })
    (fin : ∀ ys news, J n ys news → Fin ys news) : LCg.CompRest prog w A h₀ L m env elt x scope cl s S P Fin n 0 [] news := by
  have key : ∀ (j i : Nat) (ys : List Value) (news : Led), i + j = n → J i ys news → LCg.CompRest prog w A h₀ L m env elt x scope cl s S P Fin j i ys news := by
    intro j
    induction j with
    | zero => intro i ys news hi hJ; rw [Nat.add_zero] at hi; subst hi; exact LCg.CompRest.zero (fin ys news hJ)
    | succ j ih =>
      intro i ys news hi hJ
      refine LCg.CompRest.succ fun v I oI C oC D m₂ h tk E' hv hC hx F N off ne => ?_
      refine wpAny_mono (turn i ys news v I oI C oC D m₂ h tk E' (by omega) hJ hv hC hx F N off ne) (fun y s₂ hq => ?_) fun _ _ e => e
      obtain ⟨h', tk', nw, e, F', N', off', hS, hJ'⟩ := hq
      exact ⟨h', tk', nw, e, F', N', off', hS, ih (i + 1) _ _ (by omega) hJ'⟩
  exact key n 0 [] news (by omega) h0
end
end
section
variable {w : World} {p : Program} {loose : List Str} {mean : ExcName → Option Value} {mg mb : Str → Option Value}
def rowM : List Int := [0, 1, 2, 5, 7, 8, 17, 23, 25, 26, 35, 41, 43, 44, 53, 59, 61, 62, 71, 77, 79, 80, 89, 95, 97, 98, 107]
abbrev wayM (key c : Int) : Int := if (c - key.fdiv 9).fmod 12 < (key.fdiv 9 - c).fmod 12 then (c - key.fdiv 9).fmod 12 else (key.fdiv 9 - c).fmod 12
abbrev overM (key c : Int) : Int := if 0 > wayM key c - 2 then 0 else wayM key c - 2
abbrev cardIx (key c : Int) : Int := key.fmod 3 - ((key.fdiv 3).fmod 3 * key.fmod 3 * if 2 < overM key c then 2 else overM key c).fdiv 4
theorem cardIx_ok : ∀ key ∈ rowM, ∀ c ∈ [(0 : Int), 4, 8], 0 ≤ cardIx key c ∧ cardIx key c < 3 := by decide +kernel
abbrev signs3 : Str := Str.ofString "\n\"\\"
def cardM (key : Int) : Str := Str.ofString "" ++ Txt.item signs3 (cardIx key 0) ++ Txt.item signs3 (cardIx key 4) ++ Txt.item signs3 (cardIx key 8)
end
section
variable {w : World} {p : Program} {loose : List Str} {mean : ExcName → Option Value} {mg mb : Str → Option Value}
def choM (top size : Int) : Int := (List.foldl (fun (σ : Int × Unit) k => ((σ.fst * (top - k)).fdiv (k + 1), ())) (1, ()) (rangeInts 0 1 (size - 0).toNat)).fst
theorem cho_step : ∀ r : Fin 27, ∀ size : Fin 4, choM ((r : Nat) + 1 : Int) ((size : Nat) + 1 : Int) = choM (r : Nat) ((size : Nat) + 1 : Int) + choM (r : Nat) (size : Nat) := by decide +kernel
theorem cho_zero : ∀ r : Fin 28, choM (r : Nat) 0 = 1 := by decide +kernel
theorem cho_top : choM 27 4 = 17550 := by decide +kernel
theorem cho_mono : ∀ r q : Fin 28, ∀ size : Fin 5, (r : Nat) ≤ q → choM (r : Nat) (size : Nat) ≤ choM (q : Nat) (size : Nat) := by decide +kernel
end
section
variable {w : World} {p : Program} {loose : List Str} {mean : ExcName → Option Value} {mg mb : Str → Option Value}
theorem wpAny_callBorrowed {M : Model} {A : Around} {E : Value → Shared → Prop} {s : Shared} {f : Value} {pos : List Value} {Q : Value → Shared → Prop}
    (hc : codeAny M A (.call f ⟨pos, []⟩) (fun r s' => match r with | .ok (.ret v) => Q v s' | .ok _ => False | .error e => E e s') s) :
    wpAny M A (callBorrowed f pos) Q E s := fun Γ p hΓ => by
  have h1 := hc _ p rfl (hΓ.enter _ none p (by intro x; cases x))
  unfold callBorrowed
  rw [Sem.wp]
  refine wpCode_mono (fun r s' h => ?_) h1
  cases r with
  | ok f => cases f <;> simp_all [Sem.wp]
  | error e => simpa [Sem.wp] using h
theorem slot_ci_next : Slot "callable_iterator" "__next__" "callable_iterator.__next__" :=
  .of (owner := "callable_iterator") (n := "__next__") (by rw [typeLookup_type, builtinLookup_eq_fast]; kernel_rfl) (by decide +kernel) (by decide +kernel) (by decide +kernel)
    (by first | exact .inl (by decide +kernel) | exact .inr (by decide +kernel)) (by rw [isSubtype_type]; kernel_rfl)
theorem entry_ci_next : entryFor table "callable_iterator.__next__" = some Builtin.«callable_iterator.__next__» := entryFor_of_tree (by kernel_rfl)
theorem owner_ci : Manifest.owners.lookup (String.ofList ['r', 'o', 't', 'a', 'r', 'e', 't', 'i', '_', 'e', 'l', 'b', 'a', 'l', 'l', 'a', 'c'].reverse) = some Manifest.sig_callable_iterator := by kernel_rfl
theorem args_ci_next_1 (a : Value) : argsOk "callable_iterator.__next__" ⟨[a], []⟩ := by
  unfold argsOk; rw [signature?_of (id := "callable_iterator.__next__") (n := ['_', '_', 't', 'x', 'e', 'n', '_', '_']) (o := ['r', 'o', 't', 'a', 'r', 'e', 't', 'i', '_', 'e', 'l', 'b', 'a', 'l', 'l', 'a', 'c']) (by kernel_rfl) owner_ci]; kernel_rfl
theorem slot_ci_iter : Slot "callable_iterator" "__iter__" "callable_iterator.__iter__" :=
  .of (owner := "callable_iterator") (n := "__iter__") (by rw [typeLookup_type, builtinLookup_eq_fast]; kernel_rfl) (by decide +kernel) (by decide +kernel) (by decide +kernel)
    (by first | exact .inl (by decide +kernel) | exact .inr (by decide +kernel)) (by rw [isSubtype_type]; kernel_rfl)
theorem args_ci_iter_1 (a : Value) : argsOk "callable_iterator.__iter__" ⟨[a], []⟩ := by
  unfold argsOk; rw [signature?_of (id := "callable_iterator.__iter__") (n := ['_', '_', 'r', 'e', 't', 'i', '_', '_']) (o := ['r', 'o', 't', 'a', 'r', 'e', 't', 'i', '_', 'e', 'l', 'b', 'a', 'l', 'l', 'a', 'c']) (by kernel_rfl) owner_ci]; kernel_rfl
theorem entry_ci_iter : entryFor table "callable_iterator.__iter__" = some Builtin.«dict_keyiterator.__iter__» :=
  entryFor_alias (id' := "dict_keyiterator.__iter__") (by kernel_rfl) (by first | rfl | decide +kernel | (unfold String.splitOn; simp +decide [String.splitOnAux])) (by decide +kernel) (by kernel_rfl)
abbrev ciO (f x : Value) (e : Bool) : Obj := { cls := .type "callable_iterator", data := .fields #[f, x, .bool e] }
def CiOf (o : Obj) (f x : Value) (e : Bool) : Prop := o.cls = .type "callable_iterator" ∧ o.data = .fields #[f, x, .bool e]
section
variable {prog : Program} {A : Around} {E : Value → Shared → Prop} {s : Shared} {h₀ : Heap} {L I : Addr} {m : Str → Option Value} {news rest : Led} {o : Obj}
theorem pyIter_ci {f x : Value} {e : Bool} {Q : Value → Shared → Prop} (hI : s.heap.get? I = some o) (hR : CiOf o f x e) (h : Q (.ref I) s) : wpAny (model prog w) A (pyIter (.ref I)) Q E s := by
  have hT : s.TypeIs (.ref I) "callable_iterator" := ⟨o, hI, hR.1⟩
  refine wpAny_pyIter_slot hT slot_ci_iter (wpAny_call_entry slot_ci_iter hT entry_ci_iter ?_ (args_ci_iter_1 _))
  show wpAny _ _ (ret (.ref I)) _ _ s
  exact wpAny_pure ⟨_, rfl, "callable_iterator", _, hT, slot_ci_next.lookup, h⟩
theorem stop_any {α : Type} {Q : α → Shared → Prop} {E' : Value → Shared → Prop} (hh : A.handled = none)
    (hE : ∀ e h', (∀ b o, s.heap.get? b = some o → h'.get? b = some o) → Shared.TypeIs { s with heap := h' } e "StopIteration" → E' e { s with heap := h' }) :
    wpAny (model prog w) A (Builtin.SmallTypes.stopIteration : Sem α) Q E' s := by
  first
  | show wpAny _ _ (newExc (.type "StopIteration") [] >>= _) _ _ _
  | unfold Builtin.SmallTypes.stopIteration
  refine wpAny_bind ?_
  simp only [newExc, newTuple]
  refine wpAny_bind (wpAny_newObj_type ?_ (by size_fits))
  refine wpAny_bind (m := firstArgMember _ _) (wpAny_of_eq (a := Value.none) (by first | rfl | (simp only [firstArgMember]; rfl)) ?_)
  refine wpAny_newObj_type ?_ (by size_fits)
  simp only [raiseNew]
  refine wpAny_bind (wpAny_handled ?_)
  rw [hh]
  refine wpAny_bind (wpAny_pure (wpAny_throw ?_))
  refine hE _ _ (fun b o e => Heap.get?_push_of_some _ (Heap.get?_push_of_some _ e)) ⟨_, Heap.get?_push_size _ rfl, rfl⟩
end
end
section
variable {w : World} {p : Program} {loose : List Str} {mean : ExcName → Option Value} {mg mb : Str → Option Value}
open Builtin Builtin.ObjectAttr
theorem store_function : StoreFacts "function" [.type "function", .type "object"] "object.__setattr__" "object" where
  mro := by rw [mroOf_type]; kernel_rfl
  slot := .of (owner := "object") (n := "__setattr__") (by rw [typeLookup_type, builtinLookup_eq_fast]; kernel_rfl) (by decide +kernel) (by decide +kernel) (by decide +kernel) (by first | exact .inl (by decide +kernel) | exact .inr (by decide +kernel)) (by rw [isSubtype_type]; kernel_rfl)
  entry := F.store_object.entry
  kind := F.store_object.kind
  split := F.store_object.split
  hasOwner := by decide +kernel
  args := F.store_object.args
  passes := fun self => by kernel_rfl
theorem fn_noread : typeLookup (.type "function") (Str.ofString "read") = pure none := by rw [typeLookup_type, builtinLookup_eq_fast]; kernel_rfl
section
variable {prog : Program} {A : Around} {E : Value → Shared → Prop} {h : Heap} {g : Array GenState} {d : Drawn} {t : Nat} {os : OsState}
theorem fn_store {f : Addr} {o : Obj} {name : Str} {v : Value} {Q : Unit → Shared → Prop} (hx : h.get? f = some o) (hc : o.cls = .type "function") (hdn : o.dict = none) (hda : ∀ c, o.data ≠ .cls c) (hB : typeLookup (.type "function") name = pure none)
    (hq : ∀ h' tk' oD, h'.get? f = some { cls := o.cls, dict := some h.objs.size, data := o.data, slots := o.slots } → h'.get? h.objs.size = some oD → LCg.NsObj oD (fun y => if y = name then some v else none) → (∀ b o, b ≠ f → h.get? b = some o → h'.get? b = some o) → Q () ⟨h', g, d, tk', os⟩) :
    wpAny (model prog w) A (setAttr (.ref f) name v) Q E ⟨h, g, d, t, os⟩ := by
  have hT : Shared.TypeIs ⟨h, g, d, t, os⟩ (.ref f) "function" := ⟨o, hx, hc⟩
  have hpass := store_function.passes (.ref f)
  unfold setAttr
  refine wpAny_bind ?_
  unfold mkText
  refine wpAny_bind (wpAny_fresh' (wpAny_pure ?_))
  refine wpAny_bind (wpAny_callSpecial?_slot ⟨o, hx, hc⟩ store_function.slot (wpAny_call_entry store_function.slot ⟨o, hx, hc⟩ store_function.entry ?_ (store_function.args ..)))
  unfold Builtin.«object.__setattr__»
  have hB' := hB
  repeat (first | rw [refuse_eq] | (rw [store_function.mro]) | (rw [hpass]) | rw [hB] | (with_reducible refine wpAny_loadPart_at hx ?_; rw [hc]) | wp_step)
  rw [hdn, if_neg (by simp only [typeHasDict]; decide +kernel)]
  split
  · rename_i hcd
    cases hcd
  split
  · rename_i c hcd
    exact absurd hcd (hda c)
  · have hx₁ : (h.push { cls := .type "dict", data := .dict #[] }).get? f = some o := Heap.get?_push_of_some _ hx
    have hxs : f ≠ h.objs.size := Nat.ne_of_lt (Heap.lt_size hx)
    refine wpAny_bind (wpAny_alloc' ?_)
    refine wpAny_bind (wpAny_update' hx₁ ?_)
    unfold dictMade
    first
    | refine wpAny_pure ?_
    | (refine wpAny_bind ?_; refine wpAny_pure ?_)
    have hgd : ((h.push { cls := .type "dict", data := .dict #[] }).update f fun o => { cls := o.cls, dict := some h.objs.size, data := o.data, slots := o.slots }).get? h.objs.size
        = some { cls := .type "dict", data := .dict #[] } :=
      (Heap.get?_update_ne _ _ _ _ hxs.symm).trans (Heap.get?_push_at rfl rfl)
    have hnd : ((h.push { cls := .type "dict", data := .dict #[] }).update f fun o => { cls := o.cls, dict := some h.objs.size, data := o.data, slots := o.slots }).Ns h.objs.size (fun _ => none) :=
      ⟨_, #[], _, hgd, rfl, fun e he => absurd he (by simp), fun _ => rfl⟩
    show wpAny _ _ (storeInDict h.objs.size (.str name t) name v) _ _ _
    unfold storeInDict newKeyGuard
    refine wpAny_bind (wpAny_pure (wpAny_bind (wpAny_nsSet1 (Heap.Ns1.of_empty hnd) fun h' hn' hs => ?_)))
    obtain ⟨oD, esD, epD, hoD, hdD, hcD⟩ := hn'.count (Within.cons name v Within.nil)
    refine wpAny_bind (wpAny_lookBehind hoD (by rw [hdD]; exact pastItsLine_dict (Nat.le_trans hcD (by rw [List.length_cons, List.length_nil, sizeLine_eq]; omega))) ?_)
    have hx' : h'.get? f = some { cls := o.cls, dict := some h.objs.size, data := o.data, slots := o.slots } := by
      refine (hs.2 f hxs).trans (Heap.get?_update_self _ hx₁ ?_)
      have hfr := (Heap.get?_some_iff.mp hx).2
      obtain ⟨oc, od, odt, osl⟩ := o
      cases odt <;> first | rfl | exact hfr
    obtain ⟨o', es, ep, e1, e2, e3, eu, e4⟩ := hn'
    refine wpAny_pure ⟨_, rfl, wpAny_pure (hq h' _ o' hx' e1 ⟨es, ep, e2, e3, e4⟩ fun b ob hbx hb => ?_)⟩
    exact (hs.2 b (Nat.ne_of_lt (Heap.lt_size hb))).trans ((Heap.get?_update_ne _ _ _ _ hbx).trans (Heap.get?_push_of_some _ hb))
theorem slot_fn_ga : typeLookup (.type "function") (Str.ofString "__getattribute__") = pure (some (.builtin "object.__getattribute__")) := by rw [typeLookup_type, builtinLookup_eq_fast]; kernel_rfl
theorem slot_fn_nga : typeLookup (.type "function") (Str.ofString "__getattr__") = pure none := by rw [typeLookup_type, builtinLookup_eq_fast]; kernel_rfl
theorem slot_fn_getattribute : Slot "function" "__getattribute__" "object.__getattribute__" :=
  .of (owner := "object") (n := "__getattribute__") (by rw [typeLookup_type, builtinLookup_eq_fast]; kernel_rfl) (by decide +kernel) (by decide +kernel) (by decide +kernel) (by first | exact .inl (by decide +kernel) | exact .inr (by decide +kernel)) (by rw [isSubtype_type]; kernel_rfl)
theorem entry_object_ga : entryFor table "object.__getattribute__" = some Builtin.«object.__getattribute__» := entryFor_of_tree (by kernel_rfl)
theorem args_object_ga (a b : Value) : argsOk "object.__getattribute__" ⟨[a, b], []⟩ := by unfold argsOk; kernel_rfl
theorem fn_ga {f dx b : Addr} {o oD : Obj} {mA : Str → Option Value} {name : Str} {u : Tok} {Q : Fin → Shared → Prop} (hx : h.get? f = some o) (hc : o.cls = .type "function") (hdn : o.dict = some dx) (hda : ∀ c, o.data ≠ .cls c) (hB : typeLookup (.type "function") name = pure none)
    (hdx : h.get? dx = some oD) (hm : LCg.NsObj oD mA) (hv : mA name = some (.ref b)) (hq : Q (.done (.ret (.ref b))) ⟨h, g, d, t, os⟩) :
    wpAny (model prog w) A (Builtin.«object.__getattribute__» ⟨[.ref f, .str name u], []⟩) Q E ⟨h, g, d, t, os⟩ := by
  have hT : Shared.TypeIs ⟨h, g, d, t, os⟩ (.ref f) "function" := ⟨o, hx, hc⟩
  have hns : h.Ns dx mA := hm.ns hdx
  unfold Builtin.«object.__getattribute__»
  repeat (any_goals (first | assumption | rw [hdn] | (with_reducible refine wpAny_loadPart_at hx ?_; rw [hc]) | (with_reducible refine wpAny_nsGet hns ?_; rw [hv]) | wp_step))
  split
  · rename_i c hcd
    exact absurd hcd (hda c)
  · repeat (any_goals (first | assumption | (with_reducible refine wpAny_loadPart_at hx ?_; rw [hc, hdn]) | (with_reducible refine wpAny_nsGet hns ?_; rw [hv]) | wp_step))
set_option maxHeartbeats 4000000 in
/-- an attribute of a function's own, called -/
theorem fn_method {f dx b : Addr} {o oD : Obj} {mA : Str → Option Value} {name : Str} {pl : Sem Bool} {Q : Value × List Value → Shared → Prop} (hx : h.get? f = some o) (hc : o.cls = .type "function") (hdn : o.dict = some dx) (hda : ∀ c, o.data ≠ .cls c) (hB : typeLookup (.type "function") name = pure none)
    (hdx : h.get? dx = some oD) (hm : LCg.NsObj oD mA) (hv : mA name = some (.ref b)) (hq : ∀ tk, Q (.ref b, []) ⟨h, g, d, tk, os⟩) :
    wpAny (model prog w) A (getMethod (.ref f) name pl) Q E ⟨h, g, d, t, os⟩ := by
  have hT : ∀ tk, Shared.TypeIs ⟨h, g, d, tk, os⟩ (.ref f) "function" := fun _ => ⟨o, hx, hc⟩
  have f4 := slot_fn_getattribute.bind (.ref f)
  have f3 := slot_fn_ga
  have f2 := slot_fn_nga
  have hcan : (Manifest.canonical "object.__getattribute__" != "object.__getattribute__") = false := by decide +kernel
  unfold getMethod
  refine wpAny_bind (wpAny_specialOf (hT _) slot_fn_ga ?_)
  dsimp only
  rw [if_neg (by rw [hcan]; exact Bool.false_ne_true)]
  refine wpAny_bind (wpAny_specialOf (hT _) slot_fn_nga ?_)
  rw [if_neg (by exact Bool.false_ne_true)]
  refine wpAny_bind (wpAny_specialOf (hT _) hB ?_)
  dsimp only
  clear hcan
  unfold getAttr getAttrBy
  repeat (any_goals (first | assumption | exact hT _ | with_reducible refine wpAny_typeOf (hT _) ?_ | ((with_reducible show wpAny _ _ (call (Value.builtin "object.__getattribute__") _ _) _ _ _); refine wpAny_call_entry slot_fn_getattribute (hT _) entry_object_ga (fn_ga hx hc hdn hda hB hdx hm hv ?_) (args_object_ga _ _); refine ⟨_, rfl, ?_⟩) | wp_step))
  exact hq _
end
end
section
variable {w : World} {p : Program} {loose : List Str} {mean : ExcName → Option Value} {mg mb : Str → Option Value}
section
variable {prog : Program} {h₀ h' : Heap} {L I : Addr} {it : Obj} {s₁ : Shared} {tk : Nat} {m' : Str → Option Value} {t : Led} {rest : (Str → Option Value) → Led → Prop}
theorem UnrEnd.mid3 {a b c : Addr × Obj} (F : Fr h₀ L h' m') (N : News h₀ L h' (a :: b :: c :: (I, it) :: t)) (ha : a.1 ≠ I) (hb : b.1 ≠ I) (hc : c.1 ≠ I) (ht : ∀ p ∈ t, p.1 ≠ I) (r : rest m' (a :: b :: c :: t)) : UnrEnd h₀ L s₁ I it rest { s₁ with heap := h', toks := tk } :=
  UnrEnd.intro F N (a :: b :: c :: t) (fun p hp => by
    simp only [List.mem_cons] at hp ⊢
    rcases hp with h | h | h | h | h <;> simp [h]) (fun p hp => by
    rcases List.mem_cons.mp hp with rfl | hp
    · exact ha
    · rcases List.mem_cons.mp hp with rfl | hp
      · exact hb
      · rcases List.mem_cons.mp hp with rfl | hp
        · exact hc
        · exact ht p hp) r
end
theorem ints3 {vs : List Value} {a b c : Int} (h : IntsAre vs [a, b, c]) : ∃ ta tb tc, vs = [.int a ta, .int b tb, .int c tc] := by
  cases h with
  | cons _ ta h => cases h with
    | cons _ tb h => cases h with
      | cons _ tc h => cases h; exact ⟨ta, tb, tc, rfl⟩
theorem idx3 {a b c k : Int} {ta tb tc : Tok} (h : a < b ∧ b < c) (hk : k = a ∨ k = b ∨ k = c) : ∃ j : Nat, j < 3 ∧ [a, b, c].getD j 0 = k ∧ kf_at k [.int a ta, .int b tb, .int c tc] = some j := by
  rcases hk with rfl | rfl | rfl
  · exact ⟨0, by decide, rfl, by simp [kf_at, isInt]⟩
  · exact ⟨1, by decide, rfl, by simp [kf_at, isInt, (beq_false_of_ne (by omega) : (a == k) = false)]⟩
  · exact ⟨2, by decide, rfl, by simp [kf_at, isInt, (beq_false_of_ne (by omega) : (a == k) = false), (beq_false_of_ne (by omega) : (b == k) = false)]⟩
theorem Cards.hand3 {ns : List Int} {r0 r1 r2 : Int} (h : Cards [r2, r1, r0]) (hP : ns.Perm [r2, r1, r0]) (hs : Sorted ns) : ∃ a b c, ns = [a, b, c] ∧ 0 ≤ a ∧ a < b ∧ b < c ∧ c < 27 ∧ (r0 = a ∨ r0 = b ∨ r0 = c) := by
  have hl2 : ns.length = 3 := hP.length_eq
  have hn : ns.Nodup := hP.nodup_iff.mpr h.1
  have hb : ∀ r ∈ ns, 0 ≤ r ∧ r < 27 := fun r hr => h.2 r (hP.mem_iff.mp hr)
  have hm : r0 ∈ ns := hP.mem_iff.mpr (by simp)
  match ns, hl2 with
  | [a, b, c], _ =>
    have hs' := sorted_iff.mp hs
    simp only [List.pairwise_cons, List.nodup_cons, List.mem_cons, List.not_mem_nil, or_false, forall_eq_or_imp, forall_eq, not_or] at hs' hn hb hm
    exact ⟨a, b, c, rfl, by omega, by omega, by omega, by omega, hm⟩
theorem lam_any {M : Model} {A : Around} {E : Value → Shared → Prop} {s : Shared} {h₀ : Heap} {L a c P : Addr} {m : Str → Option Value} {cn : Str} {cs : Scope} {ccd : Value} {cl : List (Str × Addr)} {news tl : Led} {g : Obj → Led}
    {name qual : Str} {params : Arguments} {body : Expr} {scope : Scope} {ps : Array Value} {pos : Pos} {firstLine : Nat} {clos : List (Str × Addr)} {Q : Value → Shared → Prop}
    (F : Fr h₀ L s.heap m) (N : News h₀ L s.heap news) (T : Top p loose mean mg mb h₀) (C : CodeHd h₀ c P) (hcd : ccd = .ref c) (U : UpdF P (tabObj ps) news g) (hmem : (P, tabObj ps) ∈ news)
    (hsub : ∀ q ∈ tl, q ∈ news) (hoff : ∀ q ∈ tl, q.1 ≠ P)
    (htab : ps = #[] ∨ ∃ c' oc vs t, ps = #[rawInt pos.line, rawInt pos.col, .ref c'] ∧ (c', oc) ∈ tl ∧ oc.data = .fields vs ∧ vs[1]? = some (.str qual t))
    (hcl : closureFor scope (envX cn cs L a ccd cl) = pure clos)
    (h : ∀ f c' oc vs t ctv h' tk, Fr h₀ L h' m →
      News h₀ L h' ((f, kla_obj name qual params body scope clos ((mg "__name__").getD .none) c' ctv) :: (c', oc) :: g (tabObj #[rawInt pos.line, rawInt pos.col, .ref c'])) →
      oc.data = .fields vs → vs[1]? = some (.str qual t) → (∀ q ∈ news, q.1 < f) → @LT.lt Nat _ c' f → @Ne Nat c' P → ((c', oc) ∈ tl ∨ ∀ q ∈ news, q.1 < c') → Q (.ref f) { s with heap := h', toks := tk }) :
    wpAny M A (makeFunction name qual params (.expr body) scope (envX cn cs L a ccd cl) [] [] [] pos firstLine) Q E s := by
  rcases htab with rfl | ⟨c', oc, vs, t, rfl, hm, hd, hv⟩
  · refine kla_nest F N T C hcd U trivial rfl hcl fun f c' oc vs t ctv h' tk F' N' hd hv h1 h2 => ?_
    exact h f c' oc vs t ctv h' tk F' N' hd hv (fun q hq => Nat.lt_trans (h1 q hq) h2) h2 (Nat.ne_of_gt (h1 _ hmem)) (.inr h1)
  · have hn := hsub _ hm
    refine kla_hit F N T C hcd hmem (by simp [TriplesOk, rawInt]) (by simp [codeAmong, rawInt]; rfl) hcl fun f ctv h' tk F' N' h1 => ?_
    refine h f c' oc vs t ctv h' tk F' (fun q hq => ?_) hd hv h1 (h1 _ hn) (hoff _ hm) (.inl hm)
    rw [updF_same U] at hq
    rcases List.mem_cons.mp hq with rfl | hq
    · exact N' _ (.head _)
    · rcases List.mem_cons.mp hq with rfl | hq
      · exact N' _ (.tail _ hn)
      · exact N' _ (.tail _ hq)
def NamedIs (r0 r1 r2 N : Int) : Prop := ∃ (a b c : Int) (j : Nat) (num cnt : Int), [a, b, c].Perm [r2, r1, r0] ∧ (0 ≤ a ∧ a < b ∧ b < c ∧ c < 27) ∧ j < 3 ∧ [a, b, c].getD j 0 = r0 ∧ num = 4 * (2 * (j : Int) + if r2 < r1 then 1 else 0) + (-(r0 + r1 + r2)).fmod 4 ∧ BR [a, b - 1, c - 2] num cnt cnt ∧ N = num + cnt
end
section
local macro_rules | `(tactic| walk_at "M_SPARE") => `(tactic| skip)
example : True ∧ True := by
  w_top off
  (first | walk1 | skip) <;> (first | trivial | exact ⟨trivial, trivial⟩)
example : True := by
  w_top off
  k_with_none
  trivial
end
section
variable {w : World} {p : Program} {loose : List Str} {mean : ExcName → Option Value} {mg mb : Str → Option Value}
theorem UpdF.mem {d : Addr} {o : Obj} {led : Led} {g : Obj → Led} (U : UpdF d o led g) : (d, o) ∈ led := by
  obtain ⟨pre, post, rfl, _, _, _⟩ := U.split
  exact List.mem_append.mpr (.inr (.head _))
theorem UpdF.news {d : Addr} {o o' : Obj} {led : Led} {g : Obj → Led} {h₀ h h' : Heap} {L : Addr} (U : UpdF d o led g) (N : News h₀ L h led) (hd : h'.get? d = some o') (hk : ∀ b ob, b ≠ d → h.get? b = some ob → h'.get? b = some ob) : News h₀ L h' (g o') := by
  have hm := UpdF.mem U
  obtain ⟨pre, post, rfl, hg, h1, h2⟩ := U.split
  intro q hq
  rw [hg] at hq
  rcases List.mem_append.mp hq with h | h
  · have := N q (List.mem_append.mpr (.inl h))
    exact ⟨hk _ _ (h1 q h) this.1, this.2⟩
  · rcases List.mem_cons.mp h with rfl | h
    · exact ⟨hd, (N _ hm).2⟩
    · have := N q (List.mem_append.mpr (.inr (.tail _ h)))
      exact ⟨hk _ _ (h2 q h) this.1, this.2⟩
theorem fr_upd {d : Addr} {o : Obj} {led : Led} {h₀ h h' : Heap} {L : Addr} {m : Str → Option Value} (F : Fr h₀ L h m) (N : News h₀ L h led) (hm : (d, o) ∈ led) (hk : ∀ b ob, b ≠ d → h.get? b = some ob → h'.get? b = some ob) : Fr h₀ L h' m := by
  obtain ⟨_, n2, n3⟩ := N _ hm
  exact ⟨F.ns.at' fun o e => hk _ o (Ne.symm n2) e, fun b o e => hk b o (fun q => by subst q; rw [e] at n3; cases n3) (F.keep b o e), F.above⟩
theorem setattr_F {prog : Program} {A : Around} {E : Value → Shared → Prop} {s : Shared} {h₀ : Heap} {L f : Addr} {m : Str → Option Value} {o : Obj} {led : Led} {g : Obj → Led} {name : Str} {v : Value} {Q : Unit → Shared → Prop}
    (F : Fr h₀ L s.heap m) (N : News h₀ L s.heap led) (U : UpdF f o led g) (hc : o.cls = .type "function") (hdn : o.dict = none) (hda : ∀ c, o.data ≠ .cls c) (hB : typeLookup (.type "function") name = pure none)
    (h : ∀ dx oD h' tk', LCg.NsObj oD (fun y => if y = name then some v else none) → (∀ q ∈ led, q.1 < dx) → Fr h₀ L h' m → News h₀ L h' ((dx, oD) :: g { cls := o.cls, dict := some dx, data := o.data, slots := o.slots }) → Q () { s with heap := h', toks := tk' }) :
    wpAny (model prog w) A (setAttr (.ref f) name v) Q E s := by
  obtain ⟨hp, gn, d, t, os⟩ := s
  have hm := UpdF.mem U
  refine fn_store (News.get N hm) hc hdn hda hB fun h' tk' oD h1 h2 h3 h4 => ?_
  have N' := UpdF.news (L := L) U N h1 h4
  refine h _ oD h' tk' h3 (fun q hq => Heap.lt_size (N.get hq)) (fr_upd F N hm h4) fun q hq => ?_
  rcases List.mem_cons.mp hq with rfl | hq
  · refine ⟨h2, fun e => ?_, none_at_size F⟩
    have := F.ns.lt
    have e2 : hp.objs.size = L := e
    rw [← e2] at this
    exact Nat.lt_irrefl _ this
  · exact N' q hq
abbrev oneS (c : Nat) : Str := ⟨#[c]⟩
theorem strs_carried : ∀ {ys : List Value} {ss : List Str}, CarriedAll ys (ss.map PyData.str) → StrsAre ys ss
  | _, [], h => by cases h; exact .nil
  | _, s :: ss, h => by
    cases h with
    | cons h1 h2 =>
      cases h1
      exact .cons _ _ (strs_carried h2)
theorem list_strF {prog : Program} {A : Around} {E : Value → Shared → Prop} {s : Shared} {h₀ : Heap} {L : Addr} {m : Str → Option Value} {news : Led} {text : Str} {t : Tok} {Q : Value → Shared → Prop} (hh : A.handled = none) (F : Fr h₀ L s.heap m) (N : News h₀ L s.heap news) (hsz : text.length ≤ sizeLine)
    (h : ∀ D n ys h' tk, StrsAre ys (text.cps.toList.map oneS) → (∀ q ∈ news, q.1 < D) → Fr h₀ L h' m → News h₀ L h' ((D, lstO ys n) :: news) → Q (.ref D) { s with heap := h', toks := tk }) :
    wpAny (model prog w) A (call (.type "list") [.str text t]) Q E s := by
  refine list_strD hh F N (fun h' tk ys F' N' hk hn hl hP hc => ?_) hsz
  obtain ⟨n, NX⟩ := made_enters hP F' N' hn
  exact h _ n ys h' tk (strs_carried hc) (fun q hq => Heap.lt_size (N.get hq)) F' NX
local macro_rules | `(tactic| walk_at "call type:list") => `(tactic| k_extra "M_LIST")
local macro_rules | `(tactic| walk_at "setAttr ref") => `(tactic| k_extra "M_SETATTR")
theorem len_lst {prog : Program} {A : Around} {E : Value → Shared → Prop} {s : Shared} {h₀ : Heap} {L l : Addr} {vs : List Value} {n : Nat} {led : Led} {Q : Value → Shared → Prop} (N : News h₀ L s.heap led) (hm : (l, lstO vs n) ∈ led) (hsz : vs.length ≤ sizeLine)
    (h : ∀ t tk, Q (.int (vs.length : Nat) t) { s with toks := tk }) : wpAny (model prog w) A (call (.builtin "len") [.ref l]) Q E s := by
  refine Calls.call_len_list (isList_of N hm) ?_ ?_
  · rw [sizeLine_eq] at hsz
    simp only [List.size_toArray]
    omega
  · exact h _ _
theorem pop0_F {prog : Program} {A : Around} {E : Value → Shared → Prop} {s : Shared} {h₀ : Heap} {L l : Addr} {m : Str → Option Value} {v : Value} {vs : List Value} {n : Nat} {led : Led} {g : Obj → Led} {u : Tok} {Q : Value → Shared → Prop} (F : Fr h₀ L s.heap m) (N : News h₀ L s.heap led) (U : UpdF l (lstO (v :: vs) n) led g) (hz : (v :: vs).length ≤ sizeLine)
    (h : ∀ h', Fr h₀ L h' m → News h₀ L h' (g (lstO vs (n + 1))) → Q v { s with heap := h' }) : wpAny (model prog w) A (call (.builtin "list.pop") [.ref l, .int 0 u]) Q E s :=
  kl_popAt (its := (v :: vs).toArray) F N (fitsIx (by decide) (by decide)) (k := 0) (by unfold seqIndex?; simp) rfl (UpdF.at _ U) hz h
theorem join_nil : Txt.join (Str.ofString "") [] = Str.ofString "" := by decide +kernel
theorem join_one' (c : Nat) : Txt.join (Str.ofString "") [oneS c] = oneS c := by
  first
  | rfl
  | (have e : Txt.join (Str.ofString "") [oneS c] = Str.join (Str.ofString "") [oneS c] := StrLaws.glued_eq_join ..
     rw [e]; rfl)
theorem join_one {prog : Program} {A : Around} {E : Value → Shared → Prop} {s : Shared} {D : Addr} {h₀ : Heap} {L : Addr} {news : Led} {c : Nat} {t t0 : Tok} {Q : Value → Shared → Prop} (N : News h₀ L s.heap news) (hm : (D, LCg.lst [.str (oneS c) t0]) ∈ news)
    (h : ∀ t' k, Q (.str (oneS c) t') { s with toks := k }) : wpAny (model prog w) A (call (.builtin "str.join") [.str (Str.ofString "") t, .ref D]) Q E s := by
  refine join_list (items := [Value.str (oneS c) t0].toArray) ⟨_, (N _ hm).1, rfl, _, rfl⟩ (.cons _ _ .nil) (by have h3 : (oneS c).length = 1 := rfl; have h4 : (Str.ofString "").length = 0 := rfl; simp [h3, h4]) fun t' k => ?_
  rw [join_one']
  exact h t' k
def ReadCon (w : World) (p : Program) (loose : List Str) (mean : ExcName → Option Value) (mg mb : Str → Option Value) (D f2 c2 C : Addr) (o2 oc2 oC : Obj) : Prop :=
  ∀ (rest : Led) (cs : List Nat) (vs : List Value) (k : Nat) (t : Tok), (∀ q ∈ rest, q.1 ≠ D) → cs.length ≤ 40 → StrsAre vs (cs.map oneS) →
    Con w p loose mean mg mb (.ref f2) [.int 1 t] [] 4 100 ((D, lstO vs k) :: (f2, o2) :: (c2, oc2) :: (C, oC) :: rest)
      (fun r n' => ∃ t vs' k', r = .str (match cs with | [] => Str.ofString "" | c :: _ => oneS c) t ∧ n' = (D, lstO vs' k') :: (f2, o2) :: (c2, oc2) :: (C, oC) :: rest ∧ StrsAre vs' (cs.tail.map oneS))
theorem strs_len : ∀ {vs : List Value} {ss : List Str}, StrsAre vs ss → vs.length = ss.length
  | _, _, .nil => rfl
  | _, _, .cons _ _ h => congrArg (· + 1) (strs_len h)
local macro_rules | `(tactic| walk_at "call builtin:len") => `(tactic| k_extra "call builtin:len")
local macro_rules | `(tactic| walk_at "call builtin:list.pop") => `(tactic| k_extra "call builtin:list.pop")
local macro_rules | `(tactic| walk_at "CompEnd") => `(tactic| k_extra "CompEnd")
local macro_rules | `(tactic| walk_at "CompSrc") => `(tactic| k_extra "CompSrc")
local macro_rules | `(tactic| walk_at "call builtin:str.join") => `(tactic| k_extra "M_JOIN")
inductive StreamPost (w : World) (p : Program) (loose : List Str) (mean : ExcName → Option Value) (mg mb : Str → Option Value) (text : Str) (news : Led) : Value → Led → Prop
  | mk (D : Addr) (n : Nat) (ys : List Value) (f1 : Addr) (o1 : Obj) (dx : Addr) (oD : Obj) (f2 : Addr) (o2 : Obj) (c2 : Addr) (oc2 : Obj) (C : Addr) (oC : Obj) (ps : Array Value) (h1 : ∀ q ∈ news, q.1 < C) (h2 : @LT.lt Nat _ C D ∧ @LT.lt Nat _ D f1 ∧ @LT.lt Nat _ f1 c2 ∧ @LT.lt Nat _ c2 f2 ∧ @LT.lt Nat _ f2 dx) (h3 : o1.cls = .type "function" ∧ o1.dict = some dx ∧ ∀ c, o1.data ≠ .cls c) (h4 : LCg.NsObj oD (fun y => if y = Str.ofString "read" then some (.ref f2) else none))
    (h5 : StrsAre ys (text.cps.toList.map oneS)) (h6 : ∃ oc od fd sl, o2 = (⟨oc, od, .func fd, sl⟩ : Obj)) (h7 : ReadCon w p loose mean mg mb D f2 c2 C o2 oc2 oC) : StreamPost w p loose mean mg mb text news (.ref f1) ((dx, oD) :: (f2, o2) :: (c2, oc2) :: (f1, o1) :: (D, lstO ys n) :: (C, oC) :: (150, tabObj ps) :: news)
set_option maxHeartbeats 0 in
theorem stream_c {news : Led} {text : Str} {t1 : Tok} (h1 : text.length ≤ 40) (hoff : ∀ q ∈ news, q.1 ≠ 150) :
    Con w p loose mean mg mb (.ref 155) [.str text t1] [] 3 40 ((150, tabObj #[]) :: news) (StreamPost w p loose mean mg mb text news) := by
  unfold Con; k_fill; intros; rename_i hret
  rename CodesAt _ => hcodes; have hC := hcodes.2.2.1
  k_with_none
  k_dflt (refine' code_defC ?k1 ?k2 ?k3 ?k4 ?k5 ?kA ?kF ?kK ?k6 ?k7 ?k8 ?k9 ?kB ?kD ?_ ?c2 ?c3 ?c4; (case kA => exact rfl); (case kF => assumption); (case kK => assumption); (case k1 => k_asm); (case k2 => k_asm); (case k3 => k_asm); (case k4 => k_asm); (case k5 => k_asm); (case k6 => k_is); (case k7 => k_is); (case k8 => ktr_room); (case k9 => first | exact BindsTo.of_eq rfl | exact binds_K (by k_in) rfl (by k_is) rfl rfl rfl | (refine' kp_binds ?kx ?ke; (case kx => k_in); (case ke => exact fun _ => rfl))); (case kB => exact rfl); (case kD => decide +kernel); (case c2 => exact rfl); (case c3 => exact rfl); (case c4 => exact rfl); k_whole; intro g' L' h' tk' cells' FG' F' N' Y' B' X' T' l1; (try k_lt l1); k_cells Y'; (try simp only [List.cons_append, List.nil_append] at N'); (try dsimp only); (revert F'; (show (let m9 := _; Fr _ _ _ m9 → _)); intro m9 F'); (try k_lift B'); (try first | (refine foldL ?_; intro Q9 hQ9; (show (let ek := _; wpAny _ _ _ _ ek _)); intro ek) | k_fold); ((try (with_reducible refine gen_toks ?_; intro tk)); try ((first | refine (?_ : let ev := _; wpAny _ (PySem.Around.deeper _ ev) (execs _ ev) _ _ _) | refine (?_ : let ev := _; wpAny _ (PySem.Around.deeper _ ev) (eval _ ev) _ _ _)); intro ev; refine (?_ : let ak := _; wpAny _ ak _ _ _ _); intro ak)))
  k_with "M_LIST" => (k_dflt (refine' list_strF ?kh ?kF ?kN (Nat.le_trans h1 (by decide)) ?_; (case kh => exact rfl); (case kF => k_asm); (case kN => k_asm)); intro D9 n9 ys9 h9 tk9 hys9 lD9 F9 N9; (try k_lt lD9); (try dsimp only))
  k_with "M_SETATTR" => (k_dflt (refine' setattr_F ?kF ?kN ?kU ?k1 ?k2 ?k3 ?k4 ?_; (case kF => k_asm); (case kN => k_asm); (case kU => k_updF); (case k1 => rfl); (case k2 => rfl); (case k3 => (intro c hc; cases hc)); (case k4 => exact fn_noread); k_whole); intro dx9 oD9 h9 tk9 hD9 l9 F9 N9; (try k_lt l9); (try dsimp only at N9); (try dsimp only))
  k_steps
  rename News _ _ _ _ => hN; rename Fr _ _ _ _ => hF
  refine' hret _ _ _ _ hF (newsSub (news := (dx9, oD9) :: (_, _) :: (_, _) :: (_, _) :: (D9, lstO ys9 n9) :: (_, _) :: (150, tabObj _) :: news) hN (List.forall_mem_cons.mpr ⟨.head _, List.forall_mem_cons.mpr ⟨.tail _ (.head _), List.forall_mem_cons.mpr ⟨.tail _ (.tail _ (.head _)), List.forall_mem_cons.mpr ⟨.tail _ (.tail _ (.tail _ (.head _))), List.forall_mem_cons.mpr ⟨by k_mem, List.forall_mem_cons.mpr ⟨.tail _ (.tail _ (.tail _ (.tail _ (.tail _ (.tail _ (.head _)))))), List.forall_mem_cons.mpr ⟨by k_mem, fun q hq => by repeat (first | exact hq | apply List.Mem.tail)⟩⟩⟩⟩⟩⟩⟩))
    (.mk _ _ _ _ _ _ _ _ _ _ _ _ _ _ ?h1 ⟨ltN (by omega), ltN (by omega), ltN (by omega), ltN (by omega), ltN (by omega)⟩ ⟨rfl, rfl, ?h2⟩ hD9 hys9 ⟨_, _, _, _, rfl⟩ ?h3)
  case h1 => exact fun q hq => Nat.lt_succ_of_lt (allLt_mem (And.right (a := 150 < _) (by assumption)) q hq)
  case h2 => exact fun c hc => by cases hc
  case h3 =>
    clear hret
    intro rest cs vs k t hoff9 hcs hvs
    unfold Con; intros; rename_i hret
    k_with_none
    k_dflt (refine' kla_code ?k1 ?k2 ?k3 ?k4 ?k5 ?kA ?kF ?kK ?k6 ?k7 ?k8 ?k9 ?kB ?_ ?c2 ?c3 ?c4 ?c5; (case kA => exact rfl); (case kF => assumption); (case kK => assumption); (case k1 => k_asm); (case k2 => k_asm); (case k3 => k_asm); (case k4 => k_asm); (case k5 => k_asm); (case k6 => k_mem); (case k7 => exact codeRec_news (by k_asm) (by k_mem) (by assumption) (by assumption)); (case k8 => ktr_room); (case k9 => exact rfl); (case c5 => decide); (case kB => exact locs rfl); (case c2 => exact rfl); (case c3 => exact rfl); (case c4 => exact rfl); k_whole; intro g' L' h' FG' F' N' B' X' T'; (try dsimp only); (revert F'; (show (let m9 := _; Fr _ _ _ m9 → _)); intro m9 F'); (try k_lift B'); (try first | (refine foldL ?_; intro Q9 hQ9; (show (let ek := _; wpAny _ _ _ _ ek _)); intro ek) | k_fold); ((try (with_reducible refine gen_toks ?_; intro tk)); try ((first | refine (?_ : let ev := _; wpAny _ (PySem.Around.deeper _ ev) (execs _ ev) _ _ _) | refine (?_ : let ev := _; wpAny _ (PySem.Around.deeper _ ev) (eval _ ev) _ _ _)); intro ev; refine (?_ : let ak := _; wpAny _ ak _ _ _ _); intro ak)))
    cases cs with
    | nil => 
      cases hvs
      k_with "CompSrc" => (k_dflt (refine LCg.CompSrc.range (n := 0) (by rfl) (by k_asm) (by k_asm) (by assumption) (by decide) (by decide) (by decide) ?_); intro g')
      k_steps
      rename News _ _ _ _ => hN; rename Fr _ _ _ _ => hF
      rw [join_nil]
      exact hret _ _ _ _ hF (newsSub hN fun q hq => .tail _ hq) ⟨_, _, _, rfl, rfl, .nil⟩
    | cons c cs =>
      cases hvs
      rename StrsAre _ (List.map oneS cs) => hvs
      have hlv := strs_len hvs
      simp only [List.length_map, List.length_cons] at hlv hcs
      k_with "call builtin:len" => (k_dflt (refine' len_lst ?kN ?km ?kz ?_; (case kN => k_asm); (case km => k_mem); (case kz => (rw [sizeLine_eq, List.length_cons]; omega))); intro t9 tk9; (try dsimp only))
      k_with "CompSrc" => ((rename IsRange _ _ _ _ _ _ _ _ => rgX); rw [if_neg (by rw [List.length_cons]; omega)] at rgX; k_dflt (refine LCg.CompSrc.range (n := 1) (b := 1) (by rfl) (by k_asm) (by k_asm) rgX (by decide) (by decide) (by decide) ?_); intro g')
      k_with "call builtin:list.pop" => (k_dflt (refine' pop0_F ?kF ?kN ?kU ?kz ?_; (case kF => k_asm); (case kN => k_asm); (case kU => k_updF); (case kz => (rw [sizeLine_eq, List.length_cons]; omega))); intro h9 F9 N9; (try dsimp only at N9); (try dsimp only))
      k_with "M_JOIN" => (k_dflt (refine' join_one ?kN ?km ?_; (case kN => k_asm); (case km => k_mem)); intro t8 tk8; (try dsimp only))
      k_with "CompEnd" => (refine LCg.CompEnd.intro (by assumption) (by assumption) _ (fun p hp => hp) (by with_unfolding_all assumption) trivial ?_; (try dsimp only))
      k_steps
      rename News _ _ _ _ => hN; rename Fr _ _ _ _ => hF
      exact hret _ _ _ _ hF (newsSub hN fun q hq => .tail _ hq) ⟨_, _, _, rfl, rfl, hvs⟩
end
end
section
variable {w : World} {p : Program} {loose : List Str} {mean : ExcName → Option Value} {mg mb : Str → Option Value}
abbrev lexD (a1 a2 a3 a4 : Int) (k1 k2 k3 k4 : Tok) (n : Int) (tn : Tok) (f1 : Addr) (tw : Tok) (pb : Addr) : Obj :=
  dictOf [⟨a1, .str (Str.ofString "lineno") k1, .int n tn⟩, ⟨a2, .str (Str.ofString "instream") k2, .ref f1⟩, ⟨a3, .str (Str.ofString "whitespace") k3, .str (Str.ofString "\n\t\r ") tw⟩, ⟨a4, .str (Str.ofString "pushback") k4, .ref pb⟩] 4
variable {a1 a2 a3 a4 : Int} {k1 k2 k3 k4 tw : Tok} {D f2 c2 C dx x f1 ds pb : Addr} {o2 oc2 oC o1 oD : Obj}
theorem fn_methodF {prog : Program} {A : Around} {E : Value → Shared → Prop} {s : Shared} {h₀ : Heap} {L f dx b : Addr} {o oD : Obj} {led : Led} {mA : Str → Option Value} {name : Str} {pl : Sem Bool} {Q : Value × List Value → Shared → Prop} (N : News h₀ L s.heap led) (hf : (f, o) ∈ led) (hd : (dx, oD) ∈ led) (ho : o.cls = .type "function" ∧ o.dict = some dx ∧ ∀ c, o.data ≠ .cls c) (hm : LCg.NsObj oD mA) (hv : mA name = some (.ref b)) (hB : typeLookup (.type "function") name = pure none)
    (hq : ∀ tk, Q (.ref b, []) { s with toks := tk }) : wpAny (model prog w) A (getMethod (.ref f) name pl) Q E s := by
  obtain ⟨hp, g, d, t, os⟩ := s
  exact fn_method (N.get hf) ho.1 ho.2.1 ho.2.2 hB (N.get hd) hm hv hq
def LexNe (D f2 c2 C dx x f1 ds : Addr) : Prop := (@Ne Nat D dx ∧ @Ne Nat D x ∧ @Ne Nat D f1 ∧ @Ne Nat D ds) ∧ (@Ne Nat dx f2 ∧ @Ne Nat dx c2 ∧ @Ne Nat dx C ∧ @Ne Nat dx x ∧ @Ne Nat dx f1 ∧ @Ne Nat dx ds)
def hdS (cs : List Nat) : Str := match cs with | [] => Str.ofString "" | c :: _ => oneS c
def nlS (x : Str) : Int := if (x == Str.ofString "\n") = true then 1 else 0
structure LexOk (w : World) (p : Program) (loose : List Str) (mean : ExcName → Option Value) (mg mb : Str → Option Value) (D f2 c2 C dx x f1 ds : Addr) (o2 oc2 oC o1 oD : Obj) : Prop where
  read : ReadCon w p loose mean mg mb D f2 c2 C o2 oc2 oC
  fn : ∃ oc od fd sl, o2 = (⟨oc, od, .func fd, sl⟩ : Obj)
  strm : o1.cls = .type "function" ∧ o1.dict = some ds ∧ ∀ c, o1.data ≠ .cls c
  attr : LCg.NsObj oD (fun y => if y = Str.ofString "read" then some (.ref f2) else none)
  ne : LexNe D f2 c2 C dx x f1 ds
end
section
variable {w : World} {p : Program} {loose : List Str} {mean : ExcName → Option Value} {mg mb : Str → Option Value}
variable {a1 a2 a3 a4 : Int} {k1 k2 k3 k4 tw : Tok} {D f2 c2 C dx x f1 ds pb : Addr} {o2 oc2 oC o1 oD : Obj}
theorem fn127 {h : Heap} (X : (hd.heap_1 w.params).In h) : ∃ o fd, h.get? 127 = some o ∧ o.data = .func fd := ⟨_, _, X 127 _ rfl, rfl⟩
theorem off_upd {h h' : Heap} {h₀ : Heap} {L I : Addr} {m : Str → Option Value} {o o' : Obj} {rest : Led} (F : Fr h₀ L h m) (N : News h₀ L h ((I, o) :: rest)) (hoff : ∀ p ∈ rest, p.1 ≠ I) (hd : h'.get? I = some o') (hk : ∀ b ob, b ≠ I → h.get? b = some ob → h'.get? b = some ob) : Fr h₀ L h' m ∧ News h₀ L h' ((I, o') :: rest) :=
  ⟨fr_upd F N (.head _) hk, UpdF.news (.head hoff) N hd hk⟩
theorem borrows_meth {prog : Program} {A : Around} {E : Value → Shared → Prop} {s : Shared} {M f : Addr} {self : Value} {oF : Obj} {fd : FuncData} {Q : Bool → Shared → Prop} (hM : s.heap.get? M = some (methodObj (.ref f) self)) (hF : s.heap.get? f = some oF) (hFd : oF.data = .func fd) (h : Q true s) :
    wpAny (model prog w) A (borrowsExactly (.ref M)) Q E s := by
  unfold borrowsExactly
  dsimp only
  refine wpAny_bind (wpAny_load hM ?_)
  dsimp only
  rw [if_pos (by decide)]
  show wpAny _ _ (load f >>= _) _ _ _
  refine wpAny_bind (wpAny_load hF ?_)
  rw [hFd]
  exact wpAny_pure h
theorem ci_let {prog : Program} {A : Around} {E : Value → Shared → Prop} {s : Shared} {M f : Addr} {self : Value} {oF : Obj} {fd : FuncData} {who : String} {busy : Code → Bool} {Q : Unit → Shared → Prop} (hM : s.heap.get? M = some (methodObj (.ref f) self)) (hF : s.heap.get? f = some oF) (hFd : oF.data = .func fd) (h : Q () s) :
    wpAny (model prog w) A (slotLetsGo who (.ref M) busy) Q E s := by
  unfold slotLetsGo
  dsimp only
  refine wpAny_bind (borrows_meth hM hF hFd ?_)
  rw [if_pos rfl]
  exact wpAny_pure h
theorem out_of_slot {prog : Program} {A : Around} {E : Value → Shared → Prop} {s : Shared} {M f : Addr} {self : Value} {oF : Obj} {fd : FuncData} {Q : Value → Shared → Prop} (hM : s.heap.get? M = some (methodObj (.ref f) self)) (hF : s.heap.get? f = some oF) (hFd : oF.data = .func fd)
    (h : codeAny (model prog w) A (.call (.ref f) ⟨[self], []⟩) (fun r s' => match r with | .ok (.ret v) => Q v s' | .ok _ => False | .error e => E e s') s) :
    wpAny (model prog w) A (callOutOfASlot (.ref M) []) Q E s := by
  unfold callOutOfASlot
  refine wpAny_bind (borrows_meth hM hF hFd ?_)
  rw [if_pos rfl]
  exact wpAny_callBorrowed (method_call hM h)
theorem set_fld {prog : Program} {A : Around} {E : Value → Shared → Prop} {s : Shared} {I : Addr} {o : Obj} {vs : Array Value} {i : Nat} {x : Value} {Q : Unit → Shared → Prop} (hI : s.heap.get? I = some o) (hd : o.data = .fields vs) (hi : i < vs.size)
    (h : ∀ h' o', h'.get? I = some o' → o'.cls = o.cls → o'.data = .fields (vs.setIfInBounds i x) → (∀ b ob, b ≠ I → s.heap.get? b = some ob → h'.get? b = some ob) → Q () { s with heap := h' }) : wpAny (model prog w) A (setField (.ref I) i x) Q E s :=
  wpAny_setField hI hd hi (h _ _ (Heap.get?_update_self _ hI (Obj.isFreed_of_fields (Obj.data_mapFields hd _))) (Obj.cls_mapFields ..) (Obj.data_mapFields hd _) fun _ _ hb e => (Heap.get?_update_ne _ _ _ _ hb).trans e)
set_option maxHeartbeats 4000000 in
/-- the iterator's end: its fields let go, and the walk is over -/
theorem ci_end {prog : Program} {A : Around} {E : Value → Shared → Prop} {s : Shared} {I M f : Addr} {o : Obj} {self xv : Value} {e : Bool} {oF : Obj} {fd : FuncData} {Q : Unit → Shared → Prop} (hI : s.heap.get? I = some o) (hR : CiOf o (.ref M) xv e) (hM : s.heap.get? M = some (methodObj (.ref f) self)) (hF : s.heap.get? f = some oF) (hFd : oF.data = .func fd)
    (h : ∀ h' o', h'.get? I = some o' → CiOf o' .none .none true → (∀ b ob, b ≠ I → s.heap.get? b = some ob → h'.get? b = some ob) → Q () { s with heap := h' }) :
    wpAny (model prog w) A (do
      slotLetsGo "callable_iterator.__next__" (← field (.ref I) 0) fun | .builtin "callable_iterator.__next__" x => x.pos.head? == some (.ref I) | _ => false
      setField (.ref I) 0 .none; setField (.ref I) 1 .none; setField (.ref I) 2 (.bool true)) Q E s := by
  refine wpAny_bind (wpAny_field hI hR.2 (x := .ref M) rfl ?_)
  refine wpAny_bind (ci_let hM hF hFd ?_)
  refine wpAny_bind (set_fld hI hR.2 (by simp) fun h1 o1 e1 c1 d1 k1 => ?_)
  refine wpAny_bind (set_fld e1 d1 (by simp) fun h2 o2 e2 c2 d2 k2 => ?_)
  refine set_fld e2 d2 (by simp) fun h3 o3 e3 c3 d3 k3 => ?_
  refine h h3 o3 e3 ⟨((c3.trans c2).trans c1).trans hR.1, by rw [d3]; simp⟩ fun b ob hb e => k3 b ob hb (k2 b ob hb (k1 b ob hb e))
set_option maxHeartbeats 4000000 in
theorem next_ci {prog : Program} {A : Around} {E : Value → Shared → Prop} {s : Shared} {h₀ : Heap} {L I M x : Addr} {m : Str → Option Value} {o : Obj} {tS : Tok} {rest : Led} {Q : Option Value → Shared → Prop} (hh : A.handled = none) (F : Fr h₀ L s.heap m) (X : (hd.heap_1 w.params).In h₀) (N : News h₀ L s.heap ((I, o) :: (M, methodObj (.ref 127) (.ref x)) :: rest)) (hR : CiOf o (.ref M) (.str (Str.ofString "") tS) false)
    (hc : codeAny (model prog w) A.in1 (.call (.ref 127) ⟨[.ref x], []⟩) (fun r s' => match r with
      | .ok (.ret v) => ∃ z u h' tk' rest', v = .str z u ∧ s' = { s with heap := h', toks := tk' } ∧ Fr h₀ L h' m ∧ News h₀ L h' ((I, o) :: (M, methodObj (.ref 127) (.ref x)) :: rest') ∧ (∀ q ∈ (M, methodObj (.ref 127) (.ref x)) :: rest', q.1 ≠ I) ∧
          (z ≠ Str.ofString "" → Q (some (.str z u)) { s with heap := h', toks := tk' }) ∧
          (z = Str.ofString "" → ∀ h'' o' , CiOf o' .none .none true → Fr h₀ L h'' m → News h₀ L h'' ((I, o') :: (M, methodObj (.ref 127) (.ref x)) :: rest') → Q none { s with heap := h'', toks := tk' })
      | _ => False) s) : wpAny (model prog w) A (pyNext (.ref I)) Q E s := by
  have hI := N.get (.head _)
  obtain ⟨oF, fd, hF, hFd⟩ := fn127 (X.keeps F.keep)
  unfold pyNext
  refine wpAny_bind (wpAny_attempt (wpAny_callSpecial?_slot (name := Str.ofString "__next__") ⟨o, hI, hR.1⟩ slot_ci_next
    (wpAny_call_entry slot_ci_next ⟨o, hI, hR.1⟩ entry_ci_next ?_ (args_ci_next_1 _))))
  unfold Builtin.«callable_iterator.__next__»
  refine wpAny_bind (wpAny_of_eq (a := (Value.ref I, [])) rfl ?_)
  try dsimp only
  refine wpAny_bind (wpAny_field hI hR.2 (x := .bool false) rfl ?_)
  rw [if_neg (by decide)]
  refine wpAny_bind (wpAny_field hI hR.2 (x := .ref M) rfl ?_)
  refine wpAny_bind (wpAny_attempt (out_of_slot (N.get (.tail _ (.head _))) hF hFd (codeAny_mono hc fun r s' hr => ?_)))
  cases r with
  | error e => exact hr.elim
  | ok fl =>
    cases fl with
    | next => exact hr.elim
    | brk => exact hr.elim
    | cont => exact hr.elim
    | ret v =>
      obtain ⟨z, u, h', tk', rest', rfl, rfl, F', N', hoff, hq1, hq0⟩ := hr
      have hI' := N'.get (.head _)
      dsimp only
      refine wpAny_bind (wpAny_field hI' hR.2 (x := .bool false) rfl ?_)
      rw [if_neg (by decide)]
      refine wpAny_bind (wpAny_field hI' hR.2 (x := .str (Str.ofString "") tS) rfl ?_)
      refine wpAny_bind (wpAny_holding (eqBool_str ?_))
      by_cases hz : z = Str.ofString ""
      · rw [if_neg (by rw [hz]; decide)]
        refine wpAny_bind (wpAny_rule ?_)
        obtain ⟨oF', fd', hF', hFd'⟩ := fn127 (X.keeps F'.keep)
        refine wpAny_bind (wpAny_mono (ci_end hI' hR (N'.get (.tail _ (.head _))) hF' hFd' (Q := fun _ s1 => ∃ h1 o1, s1 = { s with heap := h1, toks := tk' } ∧ h1.get? I = some o1 ∧ CiOf o1 .none .none true ∧ (∀ b ob, b ≠ I → h'.get? b = some ob → h1.get? b = some ob)) (fun h1 o1 e1 c1 k1 => ⟨h1, o1, rfl, e1, c1, k1⟩)) (fun _ s1 hs1 => ?_) fun _ _ e => e)
        obtain ⟨h1, o1, rfl, e1, c1, k1⟩ := hs1
        obtain ⟨F1, N1⟩ := off_upd F' N' hoff e1 k1
        refine stop_any (by exact hh) fun e h2 k2 hT => ?_
        refine wpAny_bind (wpAny_isInstance hT isSubtype_stop ?_)
        rw [if_pos rfl]
        exact wpAny_pure (hq0 hz h2 o1 c1 (F1.keeps k2) (N1.grown k2))
      · have hz2 : (Str.ofString "" == z) = false := by
          rw [beq_eq_false_iff_ne]
          exact Ne.symm hz
        rw [hz2, if_pos (by decide)]
        exact wpAny_pure ⟨_, rfl, wpAny_pure (hq1 hz)⟩
theorem next_ci_done {prog : Program} {A : Around} {E : Value → Shared → Prop} {s : Shared} {h₀ : Heap} {L I : Addr} {m : Str → Option Value} {o : Obj} {led : Led} {Q : Option Value → Shared → Prop} (hh : A.handled = none) (F : Fr h₀ L s.heap m) (N : News h₀ L s.heap led) (hm : (I, o) ∈ led) (hR : CiOf o .none .none true)
    (hq : ∀ h', Fr h₀ L h' m → News h₀ L h' led → Q none { s with heap := h' }) : wpAny (model prog w) A (pyNext (.ref I)) Q E s := by
  have hI := N.get hm
  unfold pyNext
  refine wpAny_bind (wpAny_attempt (wpAny_callSpecial?_slot (name := Str.ofString "__next__") ⟨o, hI, hR.1⟩ slot_ci_next
    (wpAny_call_entry slot_ci_next ⟨o, hI, hR.1⟩ entry_ci_next ?_ (args_ci_next_1 _))))
  unfold Builtin.«callable_iterator.__next__»
  refine wpAny_bind (wpAny_of_eq (a := (Value.ref I, [])) rfl ?_)
  try dsimp only
  refine wpAny_bind (wpAny_field hI hR.2 (x := .bool true) rfl ?_)
  rw [if_pos (by decide)]
  refine wpAny_bind (wpAny_rule ?_)
  refine wpAny_bind (stop_any (by exact hh) fun e h2 k2 hT => ?_)
  refine wpAny_bind (wpAny_isInstance hT isSubtype_stop ?_)
  rw [if_pos rfl]
  exact wpAny_pure (hq h2 (F.keeps k2) (N.grown k2))
end
section
variable {w : World} {p : Program} {loose : List Str} {mean : ExcName → Option Value} {mg mb : Str → Option Value}
theorem kind_iter : builtinKind "iter" = none := by decide +kernel
theorem plain_iter : plainId "iter" = true := by decide +kernel
theorem entry_iter : entryFor table "iter" = some Builtin.«iter» := entryFor_of_tree (by kernel_rfl)
theorem args_iter2 (a b : Value) : argsOk "iter" ⟨[a, b], []⟩ := by unfold argsOk; kernel_rfl
theorem meth_call : typeLookup (.type "method") (Str.ofString "__call__") = pure (some (.builtin "method.__call__")) := by rw [typeLookup_type, builtinLookup_eq_fast]; kernel_rfl
theorem iter2_F {prog : Program} {A : Around} {E : Value → Shared → Prop} {s : Shared} {h₀ : Heap} {L M : Addr} {m : Str → Option Value} {f self xv : Value} {led : Led} {Q : Value → Shared → Prop} (F : Fr h₀ L s.heap m) (N : News h₀ L s.heap led) (hM : (M, methodObj f self) ∈ led)
    (h : ∀ I h', (∀ q ∈ led, q.1 < I) → Fr h₀ L h' m → News h₀ L h' ((I, ciO (.ref M) xv false) :: led) → Q (.ref I) { s with heap := h' }) : wpAny (model prog w) A (call (.builtin "iter") [.ref M, xv]) Q E s := by
  refine Calls.call_function_entry kind_iter plain_iter entry_iter (args_iter2 _ _) ?_

  unfold Builtin.«iter»
  refine wpAny_bind (m := someArgs "iter" 1 2 _) (wpAny_pure ?_)
  dsimp only
  refine wpAny_bind (wpAny_specialOf (T := "method") ⟨_, N.get hM, rfl⟩ meth_call ?_)
  rw [if_neg (by exact Bool.false_ne_true)]
  refine wpAny_bind (wpAny_rule ?_)
  refine wpAny_bind ?_
  unfold newFields
  refine wpAny_newObj_type ?_ (by size_fits)
  exact wpAny_pure ⟨_, rfl, h _ _ (fun q hq => Heap.lt_size (N.get hq)) (F.push _) (N.push F _)⟩
def nlC (c : Nat) : Int := nlS (oneS c)
def wsC (c : Nat) : Bool := c == 10 || c == 9 || c == 13 || c == 32
def quotM : List Nat → Str → Int → Str × List Nat × Int
  | [], t, n => (t, [], n)
  | [c], t, n => if c = 34 then (t, [], n + nlC c) else if c = 92 then (t ++ Str.ofString "", [], n + nlC c) else (t ++ oneS c, [], n + nlC c)
  | c :: d :: r, t, n => if c = 34 then (t, d :: r, n + nlC c) else if c = 92 then quotM r (t ++ oneS d) (n + nlC c + nlC d) else quotM (d :: r) (t ++ oneS c) (n + nlC c)
def bareM : List Nat → Str → Int → Str × List Nat × Int
  | [], t, n => (t, [], n)
  | [c], t, n => if wsC c = true then (t, [], n + nlC c) else if c = 92 then (t ++ Str.ofString "", [], n + nlC c) else (t ++ oneS c, [], n + nlC c)
  | c :: d :: r, t, n => if wsC c = true then (t, d :: r, n + nlC c) else if c = 92 then bareM r (t ++ oneS d) (n + nlC c + nlC d) else bareM (d :: r) (t ++ oneS c) (n + nlC c)
def tokM : List Nat → Int → Str × List Nat × Int
  | [], n => (Str.ofString "", [], n)
  | c :: r, n => if wsC c = true then tokM r (n + nlC c) else if c = 34 then quotM r (Str.ofString "") (n + nlC c) else if c = 92 then bareM r.tail (Str.ofString "" ++ hdS r) (n + nlC c + nlS (hdS r)) else bareM r (Str.ofString "" ++ oneS c) (n + nlC c)
theorem nlS_nil : nlS (Str.ofString "") = 0 := by decide +kernel
theorem quotM_end {c : Nat} {r : List Nat} {t : Str} {n : Int} (h : c = 34) : quotM (c :: r) t n = (t, r, n + nlC c) := by
  cases r <;> simp [quotM, h]
theorem quotM_esc {c : Nat} {r : List Nat} {t : Str} {n : Int} (h : c = 92) : quotM (c :: r) t n = quotM r.tail (t ++ hdS r) (n + nlC c + nlS (hdS r)) := by
  subst h
  cases r with
  | nil => simp [quotM, hdS, nlS_nil]
  | cons d r => simp [quotM, hdS, nlC]
theorem quotM_one {c : Nat} {r : List Nat} {t : Str} {n : Int} (h1 : c ≠ 34) (h2 : c ≠ 92) : quotM (c :: r) t n = quotM r (t ++ oneS c) (n + nlC c) := by
  cases r with
  | nil => simp [quotM, h1, h2]
  | cons d r => simp [quotM, h1, h2]
theorem bareM_end {c : Nat} {r : List Nat} {t : Str} {n : Int} (h : wsC c = true) : bareM (c :: r) t n = (t, r, n + nlC c) := by
  cases r <;> simp [bareM, h]
theorem bareM_esc {c : Nat} {r : List Nat} {t : Str} {n : Int} (h : c = 92) : bareM (c :: r) t n = bareM r.tail (t ++ hdS r) (n + nlC c + nlS (hdS r)) := by
  subst h
  have hw : wsC 92 = false := by decide
  cases r with
  | nil => simp [bareM, hdS, nlS_nil, hw]
  | cons d r => simp [bareM, hdS, nlC, hw]
theorem bareM_one {c : Nat} {r : List Nat} {t : Str} {n : Int} (h1 : wsC c = false) (h2 : c ≠ 92) : bareM (c :: r) t n = bareM r (t ++ oneS c) (n + nlC c) := by
  cases r with
  | nil => simp [bareM, h1, h2]
  | cons d r => simp [bareM, h1, h2]
end
section
variable {w : World} {p : Program} {loose : List Str} {mean : ExcName → Option Value} {mg mb : Str → Option Value}
variable {a1 a2 a3 a4 : Int} {k1 k2 k3 k4 tw : Tok} {D f2 c2 C dx x f1 ds pb : Addr} {o2 oc2 oC o1 oD : Obj}
theorem offmap {l l' : Led} {I : Addr} (e : l.map (·.1) = l'.map (·.1)) (h : ∀ q ∈ l, q.1 ≠ I) : ∀ q ∈ l', q.1 ≠ I := fun q hq => by
  have hm : q.1 ∈ l'.map (·.1) := List.mem_map_of_mem hq
  rw [← e] at hm
  obtain ⟨q', hq', e'⟩ := List.mem_map.mp hm
  exact e' ▸ h q' hq'
theorem mem_swap {α : Type} {q : α} (A B C : List α) (h : q ∈ A ++ (B ++ C)) : q ∈ B ++ (A ++ C) := by
  simp only [List.mem_append] at *
  rcases h with h | h | h <;> simp [h]
theorem oneS_ne (c : Nat) : oneS c ≠ Str.ofString "" := fun h => by
  have e : (oneS c).cps.size = (Str.ofString "").cps.size := by rw [h]
  have e1 : (oneS c).cps.size = 1 := rfl
  have e2 : (Str.ofString "").cps.size = 0 := rfl
  omega
end
section
variable {w : World} {p : Program} {loose : List Str} {mean : ExcName → Option Value} {mg mb : Str → Option Value}
variable {a1 a2 a3 a4 : Int} {k1 k2 k3 k4 tw : Tok} {D f2 c2 C dx x f1 ds pb : Addr} {o2 oc2 oC o1 oD : Obj}
def ABC : List Nat := [10, 34, 92, 9, 13, 101, 110, 100]
theorem ws_abc : ∀ c ∈ ABC, (Builtin.Str.occurrences (Str.ofString "\n\t\r ") (oneS c) 0 (Str.ofString "\n\t\r ").length 1).isEmpty = !wsC c := by decide +kernel
theorem oneS_inj {c d : Nat} (h : oneS c = oneS d) : c = d := by
  have e : (oneS c).cps = (oneS d).cps := by rw [h]
  simpa using e
theorem q34 {c : Nat} (h : (oneS c == Str.ofString "\"") = true) : c = 34 := oneS_inj ((eq_of_beq h).trans (by decide))
theorem n34 {c : Nat} (h : (oneS c == Str.ofString "\"") = false) : c ≠ 34 := fun e => by
  subst e
  exact absurd h (by decide)
theorem q92 {c : Nat} (h : (oneS c == Str.ofString "\\") = true) : c = 92 := oneS_inj ((eq_of_beq h).trans (by decide))
theorem n92 {c : Nat} (h : (oneS c == Str.ofString "\\") = false) : c ≠ 92 := fun e => by
  subst e
  exact absurd h (by decide)
theorem wsT {c : Nat} (ha : c ∈ ABC) (h : (Builtin.Str.occurrences (Str.ofString "\n\t\r ") (oneS c) 0 (Str.ofString "\n\t\r ").length 1).isEmpty = false) : wsC c = true := by
  rw [ws_abc c ha] at h
  simpa using h
theorem wsF {c : Nat} (ha : c ∈ ABC) (h : (Builtin.Str.occurrences (Str.ofString "\n\t\r ") (oneS c) 0 (Str.ofString "\n\t\r ").length 1).isEmpty = true) : wsC c = false := by
  rw [ws_abc c ha] at h
  simpa using h
abbrev Tri := Str × List Nat × Int
def J1 (T : Tri) (cs : List Nat) (t : Str) (n : Int) : Prop := t = Str.ofString "" ∧ tokM cs n = T ∧ ∀ c ∈ cs, c ∈ ABC
def JE (T : Tri) (cs : List Nat) (t : Str) (n : Int) : Prop := (t, cs, n) = T
def JQ (T : Tri) (cs : List Nat) (t : Str) (n : Int) : Prop := quotM cs t n = T ∧ t.length + cs.length ≤ 60 ∧ ∀ c ∈ cs, c ∈ ABC
def JB (T : Tri) (cs : List Nat) (t : Str) (n : Int) : Prop := bareM cs t n = T ∧ t.length + cs.length ≤ 60 ∧ ∀ c ∈ cs, c ∈ ABC
theorem hdS_len (r : List Nat) : (hdS r).length ≤ 1 := by
  cases r with
  | nil => decide
  | cons c r => exact Nat.le_refl 1
theorem app_len (a b : Str) : (a ++ b).length = a.length + b.length := by
  show (a.cps ++ b.cps).size = _
  rw [Array.size_append]
  rfl
theorem J1.mem {T : Tri} {c : Nat} {r : List Nat} {t : Str} {n : Int} (h : J1 T (c :: r) t n) : c ∈ ABC := h.2.2 c (.head _)
theorem JB.mem {T : Tri} {c : Nat} {r : List Nat} {t : Str} {n : Int} (h : JB T (c :: r) t n) : c ∈ ABC := h.2.2 c (.head _)
theorem J1.ws {T : Tri} {c : Nat} {r : List Nat} {t : Str} {n : Int} (h : J1 T (c :: r) t n) (hw : wsC c = true) : J1 T r t (n + nlC c) := by
  obtain ⟨h1, h2, h3⟩ := h
  refine ⟨h1, ?_, fun d hd => h3 d (.tail _ hd)⟩
  rw [← h2, tokM, if_pos hw]
theorem J1.quot {T : Tri} {c : Nat} {r : List Nat} {t : Str} {n : Int} (h : J1 T (c :: r) t n) (hw : wsC c = false) (hq : c = 34) (hl : r.length < 40) : JQ T r t (n + nlC c) := by
  obtain ⟨rfl, h2, h3⟩ := h
  refine ⟨?_, ?_, fun d hd => h3 d (.tail _ hd)⟩
  · rw [← h2, tokM, if_neg (by rw [hw]; exact Bool.false_ne_true), if_pos hq]
  · have : (Str.ofString "").length = 0 := rfl
    omega
theorem J1.bare {T : Tri} {c : Nat} {r : List Nat} {t : Str} {n : Int} (h : J1 T (c :: r) t n) (hw : wsC c = false) (hq : c ≠ 34) (he : c ≠ 92) (hl : r.length < 40) : JB T r (t ++ oneS c) (n + nlC c) := by
  obtain ⟨rfl, h2, h3⟩ := h
  refine ⟨?_, ?_, fun d hd => h3 d (.tail _ hd)⟩
  · rw [← h2, tokM, if_neg (by rw [hw]; exact Bool.false_ne_true), if_neg hq, if_neg he]
  · rw [app_len]
    have : (Str.ofString "").length = 0 := rfl
    have : (oneS c).length = 1 := rfl
    omega
theorem J1.esc {T : Tri} {c : Nat} {r : List Nat} {t : Str} {n : Int} (h : J1 T (c :: r) t n) (hw : wsC c = false) (hq : c ≠ 34) (he : c = 92) (hl : r.length < 40) : JB T r.tail (t ++ hdS r) (n + nlC c + nlS (hdS r)) := by
  obtain ⟨rfl, h2, h3⟩ := h
  refine ⟨?_, ?_, fun d hd => h3 d (.tail _ (List.mem_of_mem_tail hd))⟩
  · rw [← h2, tokM, if_neg (by rw [hw]; exact Bool.false_ne_true), if_neg hq, if_pos he]
  · rw [app_len]
    have : (Str.ofString "").length = 0 := rfl
    have := hdS_len r
    have := List.length_tail (l := r)
    omega
theorem J1.nil {T : Tri} {t : Str} {n : Int} (h : J1 T [] t n) : JE T [] t n := by
  obtain ⟨rfl, h2, _⟩ := h
  exact h2
theorem JQ.nil {T : Tri} {t : Str} {n : Int} (h : JQ T [] t n) : JE T [] t n := h.1
theorem JB.nil {T : Tri} {t : Str} {n : Int} (h : JB T [] t n) : JE T [] t n := h.1
theorem JQ.end {T : Tri} {c : Nat} {r : List Nat} {t : Str} {n : Int} (h : JQ T (c :: r) t n) (hq : c = 34) : JE T r t (n + nlC c) := by
  rw [← h.1, quotM_end hq]
  rfl
theorem JB.end {T : Tri} {c : Nat} {r : List Nat} {t : Str} {n : Int} (h : JB T (c :: r) t n) (hq : wsC c = true) : JE T r t (n + nlC c) := by
  rw [← h.1, bareM_end hq]
  rfl
theorem JQ.one {T : Tri} {c : Nat} {r : List Nat} {t : Str} {n : Int} (h : JQ T (c :: r) t n) (hq : c ≠ 34) (he : c ≠ 92) : JQ T r (t ++ oneS c) (n + nlC c) := by
  refine ⟨by rw [← h.1, quotM_one hq he], ?_, fun d hd => h.2.2 d (.tail _ hd)⟩
  have := h.2.1
  rw [app_len]
  rw [List.length_cons] at this
  have : (oneS c).length = 1 := rfl
  omega
theorem JQ.esc {T : Tri} {c : Nat} {r : List Nat} {t : Str} {n : Int} (h : JQ T (c :: r) t n) (he : c = 92) : JQ T r.tail (t ++ hdS r) (n + nlC c + nlS (hdS r)) := by
  refine ⟨by rw [← h.1, quotM_esc he], ?_, fun d hd => h.2.2 d (.tail _ (List.mem_of_mem_tail hd))⟩
  have := h.2.1
  rw [app_len]
  rw [List.length_cons] at this
  have := hdS_len r
  have := List.length_tail (l := r)
  omega
theorem JB.one {T : Tri} {c : Nat} {r : List Nat} {t : Str} {n : Int} (h : JB T (c :: r) t n) (hq : wsC c = false) (he : c ≠ 92) : JB T r (t ++ oneS c) (n + nlC c) := by
  refine ⟨by rw [← h.1, bareM_one hq he], ?_, fun d hd => h.2.2 d (.tail _ hd)⟩
  have := h.2.1
  rw [app_len]
  rw [List.length_cons] at this
  have : (oneS c).length = 1 := rfl
  omega
theorem JB.esc {T : Tri} {c : Nat} {r : List Nat} {t : Str} {n : Int} (h : JB T (c :: r) t n) (he : c = 92) : JB T r.tail (t ++ hdS r) (n + nlC c + nlS (hdS r)) := by
  refine ⟨by rw [← h.1, bareM_esc he], ?_, fun d hd => h.2.2 d (.tail _ (List.mem_of_mem_tail hd))⟩
  have := h.2.1
  rw [app_len]
  rw [List.length_cons] at this
  have := hdS_len r
  have := List.length_tail (l := r)
  omega
end
section
variable {w : World} {p : Program} {loose : List Str} {mean : ExcName → Option Value} {mg mb : Str → Option Value}
variable {a1 a2 a3 a4 : Int} {k1 k2 k3 k4 tw : Tok} {D f2 c2 C dx x f1 ds pb : Addr} {o2 oc2 oC o1 oD : Obj}
theorem truthy_cons {prog : Program} {A : Around} {E : Value → Shared → Prop} {s : Shared} {h₀ : Heap} {L l : Addr} {n : Nat} {v : Value} {vs : List Value} {led : Led} {Q : Bool → Shared → Prop} (N : News h₀ L s.heap led) (hm : (l, lstO (v :: vs) n) ∈ led) (hl : (v :: vs).length ≤ sizeLine) (h : ∀ tk, Q true { s with toks := tk }) : wpAny (model prog w) A (truthy (.ref l)) Q E s :=
  wpAny_truthy_list (isList_of N hm) (by rw [sizeLine_eq] at hl; simp only [List.size_toArray]; omega) (by
    have e : (!(v :: vs).toArray.isEmpty) = true := by simp
    rw [e]
    exact h _)
end
section
variable {w : World} {p : Program} {loose : List Str} {mean : ExcName → Option Value} {mg mb : Str → Option Value}
def rowAt (k : Nat) : List Int := [0, 1, 2] ++ (List.range k).flatMap fun (h : Nat) => if h % 2 = 0 then [9 * (h : Int) + 5, 9 * (h : Int) + 7, 9 * (h : Int) + 8] else [9 * (h : Int) + 8]
theorem rowAt_all : rowAt 12 = rowM := by decide +kernel
theorem rowAt_even {k : Nat} (h : k % 2 = 0) : rowAt (k + 1) = rowAt k ++ [9 * (k : Int) + 5, 9 * (k : Int) + 7, 9 * (k : Int) + 8] := by
  unfold rowAt
  rw [List.range_succ, List.flatMap_append, ← List.append_assoc]
  simp [h]
theorem rowAt_odd {k : Nat} (h : k % 2 = 1) : rowAt (k + 1) = rowAt k ++ [9 * (k : Int) + 8] := by
  unfold rowAt
  rw [List.range_succ, List.flatMap_append, ← List.append_assoc]
  simp [h]
theorem fm_even {k : Nat} (h : k % 2 = 0) : (k : Int).fmod 2 = 0 := by rw [Int.fmod_eq_emod_of_nonneg _ (by decide)]; omega
theorem fm_odd {k : Nat} (h : k % 2 = 1) : (k : Int).fmod 2 = 1 := by rw [Int.fmod_eq_emod_of_nonneg _ (by decide)]; omega
theorem rowAt_len {k : Nat} (h : k < 12) : (rowAt k).length ≤ 39 := by
  have key : ∀ k : Fin 12, (rowAt k).length ≤ 39 := by decide +kernel
  exact key ⟨k, h⟩
theorem rowInts_even {k : Nat} {us : List Value} (hk : k % 2 = 0) (h : IntsAre us (rowAt k ++ List.map (fun k' => 9 * (k : Int) + k') [5, 7, 8])) : IntsAre us (rowAt (k + 1)) := by rw [rowAt_even hk]; exact h
theorem rowInts_odd {k : Nat} {us : List Value} (hk : k % 2 = 1) (h : IntsAre us (rowAt k ++ List.map (fun k' => 9 * (k : Int) + k') [8])) : IntsAre us (rowAt (k + 1)) := by rw [rowAt_odd hk]; exact h
end
section
variable {w : World} {p : Program} {loose : List Str} {mean : ExcName → Option Value} {mg mb : Str → Option Value}
theorem ints_pick {vs : List Value} {ns : List Int} (hi : IntsAre vs ns) : ∀ l : List Nat, IntsAre (l.filterMap (vs.toArray[·]?)) (l.filterMap (ns[·]?))
  | [] => .nil
  | i :: l => by
    have ih := ints_pick hi l
    rw [List.filterMap_cons, List.filterMap_cons]
    cases h : ns[i]? with
    | some n =>
      obtain ⟨t, ht⟩ := hi.get i n h
      have e : vs.toArray[i]? = some (.int n t) := by simpa using ht
      simp only [e]
      exact .cons _ _ ih
    | none =>
      have hn : ns.length ≤ i := List.getElem?_eq_none_iff.mp h
      have e : vs.toArray[i]? = none := by
        have := hi.length
        simp
        omega
      simp only [e]
      exact ih
theorem slice_stepF {prog : Program} {A : Around} {E : Value → Shared → Prop} {s : Shared} {h₀ : Heap} {L l : Addr} {m : Str → Option Value} {vs : List Value} {ns : List Int} {news : Led} {value slice : Expr} {vl vu vk : Value} {lo hi st : Option Int} {ops : List Value} {Q : Value → Shared → Prop}
    (F : Fr h₀ L s.heap m) (N : News h₀ L s.heap news) (hl : s.heap.IsList l vs.toArray) (hI : IntsAre vs ns) (hlen : ns.length ≤ 63) (pl : IsPart vl lo) (pu : IsPart vu hi) (pk : IsPart vk st) (h0 : st ≠ some 0)
    (h : ∀ D h' ws ms, IntsAre ws ms → ms.length ≤ 63 → (∀ q ∈ news, q.1 < D) → Fr h₀ L h' m → News h₀ L h' ((D, lstO ws 0) :: news) → Q (.ref D) { s with heap := h' })
    (hs : subscripted slice false (.ref l) (.ref s.heap.objs.size) = operate ops (getItem (.ref l) (.ref s.heap.objs.size))) (ht : ∀ r, letTemporaryGo value (.ref l) r = pure ()) :
    wpAny (model prog w) A (subscriptTail value slice (.ref l) (.ref s.heap.objs.size)) Q E { s with heap := s.heap.push { cls := .type "slice", data := .fields #[vl, vu, vk] } } := by
  have hsz : vs.toArray.size ≤ 63 := by rw [List.size_toArray, hI.length]; exact hlen
  refine slice_list3 F N hl pl pu pk h0 (fun h' F' N' => ?_) hs ht (Nat.le_trans hsz (by decide))
  have hp : IntsAre (slicePick vs.toArray lo hi st).toList ((sliceRange (sliceBounds lo hi st vs.toArray.size).1 (sliceBounds lo hi st vs.toArray.size).2.1 (sliceBounds lo hi st vs.toArray.size).2.2).filterMap (ns[·]?)) := by
    unfold slicePick
    exact ints_pick hI _
  refine h _ h' _ _ hp ?_ (fun q hq => Nat.lt_succ_of_lt (Heap.lt_size (N q hq).1)) F' (by rw [Array.toArray_toList]; exact N')
  have h1 := hp.length
  have h2 := slicePick_size_le vs.toArray lo hi st
  rw [Array.length_toList] at h1
  omega
theorem slice_stepX {prog : Program} {A : Around} {E : Value → Shared → Prop} {hp : Heap} {g : Array GenState} {d : Drawn} {t : Nat} {os : OsState} {h₀ : Heap} {L l : Addr} {m : Str → Option Value} {vs : List Value} {ns : List Int} {news : Led} {value slice : Expr} {vl vu vk : Value} {lo hi st : Option Int} {ops : List Value} {Q : Value → Shared → Prop}
    (F : Fr h₀ L hp m) (N : News h₀ L hp news) (hl : hp.IsList l vs.toArray) (hI : IntsAre vs ns) (hlen : ns.length ≤ 63) (pl : IsPart vl lo) (pu : IsPart vu hi) (pk : IsPart vk st) (h0 : st ≠ some 0)
    (h : ∀ D h' ws ms, IntsAre ws ms → ms.length ≤ 63 → (∀ q ∈ news, q.1 < D) → Fr h₀ L h' m → News h₀ L h' ((D, lstO ws 0) :: news) → Q (.ref D) ⟨h', g, d, t, os⟩)
    (hs : subscripted slice false (.ref l) (.ref hp.objs.size) = operate ops (getItem (.ref l) (.ref hp.objs.size))) (ht : ∀ r, letTemporaryGo value (.ref l) r = pure ()) :
    wpAny (model prog w) A (subscriptTail value slice (.ref l) (.ref hp.objs.size)) Q E ⟨hp.push { cls := .type "slice", data := .fields #[vl, vu, vk] }, g, d, t, os⟩ :=
  slice_stepF (s := ⟨hp, g, d, t, os⟩) F N hl hI hlen pl pu pk h0 h hs ht
end
section
variable {w : World} {p : Program} {loose : List Str} {mean : ExcName → Option Value} {mg mb : Str → Option Value}
def NoCode (o : Obj) : Prop := ∀ v : Array Value, o.data = .fields v → ∀ s t, v[1]? ≠ some (.str s t)
theorem NoCode.lst (vs : List Value) (n : Nat) : NoCode (lstO vs n) := fun v h => by cases h
theorem NoCode.cell {o : Obj} {c : Option Value} (h : o.data = .cell c) : NoCode o := fun v h' => by rw [h] at h'; cases h'
theorem tot_bounds (x : Int) : -2 ^ 79 ≤ x.fmod (81 * (17550 * 81 ^ Int.toNat 8)) - 40 * (17550 * 81 ^ Int.toNat 8) ∧ x.fmod (81 * (17550 * 81 ^ Int.toNat 8)) - 40 * (17550 * 81 ^ Int.toNat 8) < 2 ^ 79 := by
  have e : (17550 * 81 ^ Int.toNat 8 : Int) = 32520504314349809550 := by decide +kernel
  rw [e]
  have h1 := Int.fmod_nonneg_of_pos x (show (0 : Int) < 81 * 32520504314349809550 by decide)
  have h2 := Int.fmod_lt_of_pos x (show (0 : Int) < 81 * 32520504314349809550 by decide)
  omega
end
section
variable {w : World} {p : Program} {loose : List Str} {mean : ExcName → Option Value} {mg mb : Str → Option Value}
theorem r27_get : ∀ i : Fin 27, (rangeInts 0 1 27).getD i 0 = (i : Nat) := by decide +kernel
theorem r27_len : (rangeInts 0 1 27).length = 27 := by decide +kernel
theorem r27_cho {size : Int} {i : Nat} (h : i < 27) : ((rangeInts 0 1 27).map fun t => choM t size).getD i 0 = choM (i : Int) size := by
  have e := r27_get ⟨i, h⟩
  have hl : i < (rangeInts 0 1 27).length := by rw [r27_len]; exact h
  rw [getD_eq (by rw [List.length_map]; exact hl), List.getElem_map]
  rw [getD_eq hl] at e
  rw [e]
theorem cho_0 : ∀ sz : Fin 5, 1 ≤ (sz : Nat) → choM 0 (sz : Nat) = 0 := by decide +kernel
theorem cho_turn {size n prev r : Int} (hs : 1 ≤ size ∧ size ≤ 4) (hp : 0 ≤ prev ∧ prev ≤ 27) (hn : 0 ≤ n ∧ n < choM prev size) (h : BR ((rangeInts 0 1 27).map fun t => choM t size) n r r) :
    (0 ≤ r - 1 ∧ r - 1 < prev) ∧ 0 ≤ n - choM (r - 1) size ∧ n - choM (r - 1) size < choM (r - 1) (size - 1) := by
  obtain ⟨h0, _, h2, h3, h4⟩ := h
  rw [List.length_map, r27_len] at h2 h4
  obtain ⟨sz, rfl⟩ : ∃ sz : Nat, size = (sz : Int) := ⟨size.toNat, by omega⟩
  have hsz : 1 ≤ sz ∧ sz ≤ 4 := by omega
  obtain ⟨p, rfl⟩ : ∃ p : Nat, prev = (p : Int) := ⟨prev.toNat, by omega⟩
  have hp' : p ≤ 27 := by omega
  obtain ⟨rn, rfl⟩ : ∃ rn : Nat, r = (rn : Int) := ⟨r.toNat, by omega⟩
  have hr0 : rn ≠ 0 := by
    intro e
    subst e
    have := h4 0 (by omega) (by omega)
    rw [r27_cho (by omega)] at this
    have e0 := cho_0 ⟨sz, by omega⟩ hsz.1
    have e0' : choM 0 (sz : Int) = 0 := e0
    have : n < choM 0 (sz : Int) := this
    omega
  obtain ⟨q, rfl⟩ : ∃ q : Nat, rn = q + 1 := ⟨rn - 1, by omega⟩
  have hq : q < 27 := by omega
  have eq1 : ((q + 1 : Nat) : Int) - 1 = (q : Int) := by omega
  rw [eq1]
  have hle : choM (q : Int) (sz : Int) ≤ n := by
    have := h3 q (by omega)
    rwa [r27_cho hq] at this
  have hlt : (q : Int) < (p : Int) := by
    by_cases hqp : q < p
    · omega
    · have := cho_mono ⟨p, by omega⟩ ⟨q, by omega⟩ ⟨sz, by omega⟩ (by show p ≤ q; omega)
      have : choM (p : Int) (sz : Int) ≤ choM (q : Int) (sz : Int) := this
      omega
  obtain ⟨s', rfl⟩ : ∃ s' : Nat, sz = s' + 1 := ⟨sz - 1, by omega⟩
  have est := cho_step ⟨q, hq⟩ ⟨s', by omega⟩
  have est' : choM ((q : Int) + 1) ((s' : Int) + 1) = choM (q : Int) ((s' : Int) + 1) + choM (q : Int) (s' : Int) := est
  have ec : ((s' + 1 : Nat) : Int) = (s' : Int) + 1 := by omega
  rw [ec] at hle hn ⊢
  have hup : n < choM ((q : Int) + 1) ((s' : Int) + 1) := by
    by_cases h27 : q + 1 < 27
    · have := h4 (q + 1) (by omega) h27
      rw [r27_cho h27, ec] at this
      exact this
    · have := cho_mono ⟨p, by omega⟩ ⟨q + 1, by omega⟩ ⟨s' + 1, by omega⟩ (by show p ≤ q + 1; omega)
      have : choM (p : Int) ((s' : Int) + 1) ≤ choM ((q : Int) + 1) ((s' : Int) + 1) := this
      omega
  have es : (s' : Int) + 1 - 1 = (s' : Int) := by omega
  rw [es]
  omega
theorem cho_srt {size : Int} (hs : 1 ≤ size ∧ size ≤ 4) : Sorted ((rangeInts 0 1 27).map fun t => choM t size) := by
  rw [sorted_iff]
  have key : ∀ sz : Fin 5, ((rangeInts 0 1 27).map fun t => choM t (sz : Nat)).Pairwise (· ≤ ·) := by decide +kernel
  have := key ⟨size.toNat, by omega⟩
  have e : ((size.toNat : Nat) : Int) = size := by omega
  simp only [e] at this
  exact this
end
section
variable {w : World} {p : Program} {loose : List Str} {mean : ExcName → Option Value} {mg mb : Str → Option Value}
def RanksOk (prev : Int) (rs : List Int) : Prop := rs.Pairwise (fun a b => b < a) ∧ ∀ r ∈ rs, prev ≤ r ∧ r < 27
theorem RanksOk.next {prev r : Int} {rs : List Int} (h : RanksOk prev rs) (hr : r < prev) (hp : prev ≤ 27) : RanksOk r (rs ++ [r]) := by
  refine ⟨List.pairwise_append.mpr ⟨h.1, List.pairwise_singleton .., fun a ha b hb => ?_⟩, fun x hx => ?_⟩
  · rw [List.mem_singleton.mp hb]
    have := (h.2 a ha).1
    omega
  · rcases List.mem_append.mp hx with hx | hx
    · have := h.2 x hx
      omega
    · rw [List.mem_singleton.mp hx]
      omega
theorem four_at {t0 t1 t2 t3 : Tok} {k : Nat} {v : Value} (h : [Value.int 4 t0, .int 3 t1, .int 2 t2, .int 1 t3][k]? = some v) : ∃ sz t, v = .int sz t ∧ sz = 4 - (k : Int) ∧ k < 4 := by
  match k, h with
  | 0, h => cases h; exact ⟨_, _, rfl, rfl, by decide⟩
  | 1, h => cases h; exact ⟨_, _, rfl, rfl, by decide⟩
  | 2, h => cases h; exact ⟨_, _, rfl, rfl, by decide⟩
  | 3, h => cases h; exact ⟨_, _, rfl, rfl, by decide⟩
theorem rk27 : rangeKs 0 27 = rangeInts 0 1 27 := by decide +kernel
end
section
variable {w : World} {p : Program} {loose : List Str} {mean : ExcName → Option Value} {mg mb : Str → Option Value}
theorem ranks4 {rs : List Int} {prev : Int} (h : RanksOk prev rs) (hl : rs.length = 4) (hp : 0 ≤ prev) : ∃ a b c d, rs = [a, b, c, d] ∧ (0 ≤ d ∧ d < c ∧ c < b ∧ b < a ∧ a < 27) := by
  match rs, hl with
  | [a, b, c, d], _ =>
    obtain ⟨h1, h2⟩ := h
    simp only [List.pairwise_cons, List.mem_cons, List.not_mem_nil, or_false, forall_eq_or_imp, forall_eq] at h1 h2
    exact ⟨a, b, c, d, rfl, by omega, by omega, by omega, by omega, by omega⟩
theorem ints4 {vs : List Value} {a b c d : Int} (h : IntsAre vs [a, b, c, d]) : ∃ ta tb tc td, vs = [.int a ta, .int b tb, .int c tc, .int d td] := by
  cases h with
  | cons _ ta h => cases h with
    | cons _ tb h => cases h with
      | cons _ tc h => cases h with
        | cons _ td h => cases h; exact ⟨ta, tb, tc, td, rfl⟩
end
section
variable {w : World} {p : Program} {loose : List Str} {mean : ExcName → Option Value} {mg mb : Str → Option Value}
def SJ (f : Nat → Str) (word : Str) (n0 : Led) (i : Nat) (ys : List Value) (nw : Led) : Prop := nw = n0 ∧ StrsAre ys ((word.cps.toList.take i).map f)
theorem SJ.next {f : Nat → Str} {word : Str} {n0 nw : Led} {i c : Nat} {ys : List Value} {t : Tok} (h : SJ f word n0 i ys nw) (hc : word.cps[i]? = some c) : SJ f word n0 (i + 1) (ys ++ [.str (f c) t]) nw := by
  refine ⟨h.1, ?_⟩
  rw [List.take_add_one, Array.getElem?_toList, hc, List.map_append]
  exact kct_snoc h.2
def escM (c : Nat) : Str := Str.ofString "\\" ++ (⟨#[c]⟩ : Str)
def needM (c : Nat) : Str := if ((⟨#[c]⟩ : Str) == Str.ofString "\n") = true then (⟨#[c]⟩ : Str) else Str.ofString "\\" ++ (⟨#[c]⟩ : Str)
theorem escM_len (c : Nat) : (escM c).length ≤ 2 := by
  show (#['\\'.toNat] ++ #[c]).size ≤ 2
  simp
theorem needM_len (c : Nat) : (needM c).length ≤ 2 := by
  unfold needM
  split
  · show (#[c]).size ≤ 2
    simp
  · exact escM_len c
theorem sum_len {f : Nat → Str} (hf : ∀ c, (f c).length ≤ 2) : ∀ l : List Nat, ((l.map f).map (·.length)).sum ≤ 2 * l.length
  | [] => by simp
  | c :: l => by
    have h1 := hf c
    have h2 := sum_len hf l
    simp only [List.map_cons, List.sum_cons, List.length_cons] at h2 ⊢
    omega
theorem join_len {f : Nat → Str} (hf : ∀ c, (f c).length ≤ 2) (l : List Nat) : (Txt.join (Str.ofString "") (l.map f)).length ≤ 2 * l.length := by
  have h1 := StrLaws.join_length_le (Str.ofString "") (l.map f)
  have h2 := sum_len hf l
  have e : Txt.join (Str.ofString "") (l.map f) = Str.join (Str.ofString "") (l.map f) := StrLaws.glued_eq_join ..
  have h3 : (Str.ofString "").length = 0 := rfl
  rw [e]
  rw [h3] at h1
  omega
def writtenM (word : Str) (way : Int) : Str :=
  let needed := Txt.join (Str.ofString "") (word.cps.toList.map needM)
  let escaped := Txt.join (Str.ofString "") (word.cps.toList.map escM)
  if way = 0 then Str.ofString "\"" ++ needed ++ Str.ofString "\"" else if way = 1 then escaped ++ Str.ofString "\t" else Str.ofString "\"" ++ escaped ++ Str.ofString "\"\r"
end
section
variable {w : World} {p : Program} {loose : List Str} {mean : ExcName → Option Value} {mg mb : Str → Option Value}
def flM (c : Nat) : UInt64 := if c = 10 then 0 else if c = 34 then 4602678819172646912 else 4607182418800017408
def signOk (c : Nat) : Bool := c == 10 || c == 34 || c == 92
def rankChk (key : Int) : Bool :=
  match (cardM key).cps.toList with
  | [a, b, c] => signOk a && signOk b && signOk c && (match rgbM (flM a) (flM b) (flM c) with
    | some (h, s, v) => Float64.isFinite (nearM h 12) && Float64.isFinite (nearM s 2) && Float64.isFinite (nearM v 2) &&
        (Flt.toInt Float64.truncOf (nearM h 12) == key.fdiv 9 * 2 ^ 20) && (Flt.toInt Float64.truncOf (nearM s 2) == (key.fdiv 3).fmod 3 * 2 ^ 20) && (Flt.toInt Float64.truncOf (nearM v 2) == key.fmod 3 * 2 ^ 20)
    | none => false)
  | _ => false
theorem rankChk_all : ∀ key ∈ rowM, rankChk key = true := by decide +kernel
end
section
variable {w : World} {p : Program} {loose : List Str} {mean : ExcName → Option Value} {mg mb : Str → Option Value}
def FJ (word : Str) (n0 : Led) (i : Nat) (ys : List Value) (nw : Led) : Prop := nw = n0 ∧ ys.length = i ∧ ∀ j c, j < i → word.cps[j]? = some c → ∃ t, ys[j]? = some (.float (flM c) t)
theorem FJ.next {word : Str} {n0 nw : Led} {i c : Nat} {ys : List Value} {t : Tok} {x : UInt64} (h : FJ word n0 i ys nw) (hc : word.cps[i]? = some c) (e : flM c = x) : FJ word n0 (i + 1) (ys ++ [.float x t]) nw := by
  obtain ⟨h1, h2, h3⟩ := h
  refine ⟨h1, by simp [h2], fun j d hj hd => ?_⟩
  by_cases hji : j < i
  · obtain ⟨u, hu⟩ := h3 j d hji hd
    exact ⟨u, by rw [List.getElem?_append_left (by omega)]; exact hu⟩
  · have : j = i := by omega
    subst this
    rw [hc] at hd
    cases hd
    exact ⟨t, by rw [List.getElem?_append_right (by omega), h2]; simp [e]⟩
theorem FJ.three {word : Str} {n0 nw : Led} {ys : List Value} {a b c : Nat} (h : FJ word n0 3 ys nw) (hw : word.cps = #[a, b, c]) : ∃ t0 t1 t2, ys = [.float (flM a) t0, .float (flM b) t1, .float (flM c) t2] := by
  obtain ⟨_, h2, h3⟩ := h
  match ys, h2 with
  | [x, y, z], _ =>
    obtain ⟨t0, h0⟩ := h3 0 a (by omega) (by rw [hw]; rfl)
    obtain ⟨t1, h1⟩ := h3 1 b (by omega) (by rw [hw]; rfl)
    obtain ⟨t2, h2⟩ := h3 2 c (by omega) (by rw [hw]; rfl)
    simp at h0 h1 h2
    exact ⟨t0, t1, t2, by rw [h0, h1, h2]⟩
theorem fl_ix : ∀ c ∈ [10, 34, 92], flM c = Float64.ofFrac (decide (Txt.find signs3 ⟨#[c]⟩ < 0) != decide ((2 : Int) < 0)) (Txt.find signs3 ⟨#[c]⟩).natAbs (Int.natAbs 2) := by decide +kernel
theorem find_ix : ∀ c ∈ [10, 34, 92], Txt.find signs3 ⟨#[c]⟩ ≠ -1 := by decide +kernel
theorem row_br : ∀ r : Fin 27, ∀ k : Fin 28, (∀ i : Fin 27, (i : Nat) < k → rowM.getD i 0 ≤ rowM.getD r 0 - 1) → (∀ i : Fin 27, (k : Nat) ≤ i → rowM.getD r 0 - 1 < rowM.getD i 0) → (k : Nat) = r := by decide +kernel
theorem rowM_len : rowM.length = 27 := rfl
theorem row_sorted : Sorted rowM := by rw [sorted_iff]; decide +kernel
theorem br_row {r k : Int} (hr : 0 ≤ r ∧ r < 27) (h : BR rowM (rowM.getD r.toNat 0 - 1) k k) : k = r := by
  obtain ⟨h0, _, h2, h3, h4⟩ := h
  rw [rowM_len] at h2 h4
  have e := row_br ⟨r.toNat, by omega⟩ ⟨k.toNat, by omega⟩ (fun i hi => h3 i (by have : (i : Nat) < k.toNat := hi; omega)) (fun i hi => h4 i (by have : k.toNat ≤ (i : Nat) := hi; omega) (by omega))
  have : k.toNat = r.toNat := e
  omega
def keyM (r : Int) : Int := rowM.getD r.toNat 0
theorem key_parts : ∀ key ∈ rowM, (9 * (key.fdiv 9 * 2 ^ 20) + 3 * ((key.fdiv 3).fmod 3 * 2 ^ 20) + key.fmod 3 * 2 ^ 20).fdiv (2 ^ Int.toNat 20) = key := by decide +kernel
theorem key_mem {r : Int} (hr : 0 ≤ r ∧ r < 27) : keyM r ∈ rowM := by
  unfold keyM
  rw [List.getD_eq_getElem?_getD, List.getElem?_eq_getElem (by rw [rowM_len]; omega), Option.getD_some]
  exact List.getElem_mem _
theorem row_cut {r : Int} (hr : 0 ≤ r ∧ r < 27) : List.take (min (r + 1).toNat rowM.length - r.toNat) (List.drop r.toNat rowM) = [keyM r] := by
  have key : ∀ r : Fin 27, List.take 1 (List.drop r rowM) = [rowM.getD r 0] := by decide +kernel
  have e := key ⟨r.toNat, by omega⟩
  have e2 : min (r + 1).toNat rowM.length - r.toNat = 1 := by rw [rowM_len, Int.toNat_add hr.1 (by decide), Nat.min_eq_left (show r.toNat + Int.toNat 1 ≤ 27 from Nat.succ_le_of_lt (by omega))]; exact Nat.add_sub_cancel_left _ 1
  rw [e2]
  exact e
theorem rankChk_get {r : Int} (hr : 0 ≤ r ∧ r < 27) : ∃ a b c h s v, (cardM (keyM r)).cps = #[a, b, c] ∧ (∀ (i : Nat) (x : Nat), (cardM (keyM r)).cps[i]? = some x → x = 10 ∨ x = 34 ∨ x = 92) ∧ rgbM (flM a) (flM b) (flM c) = some (h, s, v) ∧
    (Float64.isFinite (nearM h 12) = true ∧ Flt.toInt Float64.truncOf (nearM h 12) = (keyM r).fdiv 9 * 2 ^ 20) ∧ (Float64.isFinite (nearM s 2) = true ∧ Flt.toInt Float64.truncOf (nearM s 2) = ((keyM r).fdiv 3).fmod 3 * 2 ^ 20) ∧ (Float64.isFinite (nearM v 2) = true ∧ Flt.toInt Float64.truncOf (nearM v 2) = (keyM r).fmod 3 * 2 ^ 20) := by
  have h := rankChk_all (keyM r) (key_mem hr)
  unfold rankChk at h
  split at h
  case h_2 => cases h
  case h_1 a b c hw =>
    simp only [Bool.and_eq_true] at h
    obtain ⟨⟨⟨sa, sb⟩, sc⟩, h⟩ := h
    split at h
    case h_2 => cases h
    case h_1 x y z hM =>
      simp only [Bool.and_eq_true, beq_iff_eq] at h
      obtain ⟨⟨⟨⟨⟨f1, f2⟩, f3⟩, e1⟩, e2⟩, e3⟩ := h
      have hw' : (cardM (keyM r)).cps = #[a, b, c] := Array.toList_inj.mp hw
      refine ⟨a, b, c, x, y, z, hw', fun i u hu => ?_, hM, ⟨f1, e1⟩, ⟨f2, e2⟩, ⟨f3, e3⟩⟩
      have so : ∀ n, signOk n = true → n = 10 ∨ n = 34 ∨ n = 92 := fun n hn => by
        simp only [signOk, Bool.or_eq_true, beq_iff_eq] at hn
        omega
      rw [hw'] at hu
      match i, hu with
      | 0, hu => cases hu; exact so _ sa
      | 1, hu => cases hu; exact so _ sb
      | 2, hu => cases hu; exact so _ sc
      | n + 3, hu => simp at hu
end
section
variable {w : World} {p : Program} {loose : List Str} {mean : ExcName → Option Value} {mg mb : Str → Option Value}
def MapJ {α : Type} (f : α → Str) (l : List α) (n0 : Led) (i : Nat) (ys : List Value) (nw : Led) : Prop := nw = n0 ∧ StrsAre ys ((l.take i).map f)
theorem MapJ.next {α : Type} {f : α → Str} {l : List α} {n0 nw : Led} {i : Nat} {ys : List Value} {a : α} {t : Tok} (h : MapJ f l n0 i ys nw) (ha : l[i]? = some a) : MapJ f l n0 (i + 1) (ys ++ [.str (f a) t]) nw := by
  refine ⟨h.1, ?_⟩
  rw [List.take_add_one, ha, List.map_append]
  exact kct_snoc h.2
def MapI {α : Type} (f : α → Int) (l : List α) (n0 : Led) (i : Nat) (ys : List Value) (nw : Led) : Prop := nw = n0 ∧ IntsAre ys ((l.take i).map f)
theorem MapI.next {α : Type} {f : α → Int} {l : List α} {n0 nw : Led} {i : Nat} {ys : List Value} {a : α} {t : Tok} (h : MapI f l n0 i ys nw) (ha : l[i]? = some a) : MapI f l n0 (i + 1) (ys ++ [.int (f a) t]) nw := by
  refine ⟨h.1, ?_⟩
  rw [List.take_add_one, ha, List.map_append]
  exact ints_snoc h.2 _ _
theorem strs4 {vs : List Value} {a b c d : Str} (h : StrsAre vs [a, b, c, d]) : ∃ ta tb tc td, vs = [.str a ta, .str b tb, .str c tc, .str d td] := by
  obtain ⟨ta, v1, rfl, h1⟩ := h.cons_inv
  obtain ⟨tb, v2, rfl, h2⟩ := h1.cons_inv
  obtain ⟨tc, v3, rfl, h3⟩ := h2.cons_inv
  obtain ⟨td, v4, rfl, h4⟩ := h3.cons_inv
  rw [h4.nil_inv]
  exact ⟨ta, tb, tc, td, rfl⟩
theorem ranks_at {a b c d : Int} (h : 0 ≤ d ∧ d < c ∧ c < b ∧ b < a ∧ a < 27) {i : Nat} {z : Int} (hz : [a, b, c, d][i]? = some z) : 0 ≤ z ∧ z < 27 := by
  have := List.mem_of_getElem? hz
  simp only [List.mem_cons, List.not_mem_nil, or_false] at this
  omega
abbrev cardR (r : Int) : Str := cardM (keyM r)
theorem card_signs {r : Int} (hr : 0 ≤ r ∧ r < 27) : (cardR r).cps.toList.length = 3 ∧ ∀ c ∈ (cardR r).cps.toList, c = 10 ∨ c = 34 ∨ c = 92 := by
  obtain ⟨a, b, c, h, s, v, hw, hsg, _⟩ := rankChk_get hr
  refine ⟨by unfold cardR; rw [hw]; rfl, fun x hx => ?_⟩
  obtain ⟨i, hi⟩ := List.getElem?_of_mem hx
  exact hsg i x (by rw [← Array.getElem?_toList]; exact hi)
theorem card_len {r : Int} (hr : 0 ≤ r ∧ r < 27) : (cardR r).length = 3 := (card_signs hr).1
def wayOf (wr k : Int) : Int := (wr.fdiv (3 ^ k.toNat)).fmod 3
theorem wayOf_ok (wr k : Int) : 0 ≤ wayOf wr k ∧ wayOf wr k < 3 := ⟨Int.fmod_nonneg_of_pos _ (by decide), Int.fmod_lt_of_pos _ (by decide)⟩
def textL (wr : Int) (a b c d : Str) : List (Str × Int) := [(a, wayOf wr 0), (b, wayOf wr 1), (c, wayOf wr 2), (d, wayOf wr 3)]
theorem textL_at {wr : Int} {a b c d : Str} {i : Nat} (h : i < 4) : ∃ y, [a, b, c, d][i]? = some y ∧ (textL wr a b c d)[i]? = some (y, wayOf wr (i : Int)) ∧ (y = a ∨ y = b ∨ y = c ∨ y = d) := by
  match i, h with
  | 0, _ => exact ⟨a, rfl, rfl, .inl rfl⟩
  | 1, _ => exact ⟨b, rfl, rfl, .inr (.inl rfl)⟩
  | 2, _ => exact ⟨c, rfl, rfl, .inr (.inr (.inl rfl))⟩
  | 3, _ => exact ⟨d, rfl, rfl, .inr (.inr (.inr rfl))⟩
theorem pow3_ok {i : Nat} (h : i < 4) : (3 : Int) ^ (i : Int).toNat ≠ 0 ∧ ((3 : Int) ^ (i : Int).toNat).natAbs < 1073741824 := by
  match i, h with
  | 0, _ => exact ⟨by decide, by decide⟩
  | 1, _ => exact ⟨by decide, by decide⟩
  | 2, _ => exact ⟨by decide, by decide⟩
  | 3, _ => exact ⟨by decide, by decide⟩
end
section
variable {w : World} {p : Program} {loose : List Str} {mean : ExcName → Option Value} {mg mb : Str → Option Value}
def needL (c : Nat) : List Nat := if c = 10 then [10] else [92, c]
def escL (c : Nat) : List Nat := [92, c]
def writL (ws : List Nat) (way : Int) : List Nat :=
  if way = 0 then 34 :: (ws.flatMap needL ++ [34]) else if way = 1 then ws.flatMap escL ++ [9] else 34 :: (ws.flatMap escL ++ [34, 13])
theorem cps_app (a b : Str) : (a ++ b).cps.toList = a.cps.toList ++ b.cps.toList := by rw [Str.cps_append, Array.toList_append]
theorem join_cps (ss : List Str) : (Txt.join (Str.ofString "") ss).cps.toList = ss.flatMap fun s => s.cps.toList := by
  have e : Txt.join (Str.ofString "") ss = Str.join (Str.ofString "") ss := StrLaws.glued_eq_join ..
  rw [e]
  clear e
  induction ss with
  | nil => rfl
  | cons x r ih =>
    cases r with
    | nil => simp [Str.join]
    | cons y r =>
      show (x ++ Str.ofString "" ++ Str.join (Str.ofString "") (y :: r)).cps.toList = _
      rw [cps_app, cps_app, ih]
      have h0 : (Str.ofString "").cps.toList = [] := rfl
      rw [h0]
      simp
theorem flat_need (l : List Nat) : (l.map needM).flatMap (fun s => s.cps.toList) = l.flatMap needL := by
  induction l with
  | nil => rfl
  | cons c l ih =>
    rw [List.map_cons, List.flatMap_cons, List.flatMap_cons, ih]
    congr 1
    unfold needM needL
    by_cases h : c = 10
    · subst h; rfl
    · rw [if_neg h, if_neg]
      · rfl
      · intro h2
        have h3 : (⟨#[c]⟩ : Str) = Str.ofString "\n" := eq_of_beq h2
        exact h (oneS_inj (c := c) (d := 10) h3)
theorem flat_esc (l : List Nat) : (l.map escM).flatMap (fun s => s.cps.toList) = l.flatMap escL := by
  induction l with
  | nil => rfl
  | cons c l ih =>
    rw [List.map_cons, List.flatMap_cons, List.flatMap_cons, ih]
    rfl
theorem written_signs (word : Str) (way : Int) : (writtenM word way).cps.toList = writL word.cps.toList way := by
  unfold writtenM writL
  dsimp only
  by_cases h0 : way = 0
  · rw [if_pos h0, if_pos h0, cps_app, cps_app, join_cps, flat_need]; rfl
  · rw [if_neg h0, if_neg h0]
    by_cases h1 : way = 1
    · rw [if_pos h1, if_pos h1, cps_app, join_cps, flat_esc]; rfl
    · rw [if_neg h1, if_neg h1, cps_app, cps_app, join_cps, flat_esc]; rfl
theorem nlC_is (c : Nat) : nlC c = if c = 10 then 1 else 0 := by
  unfold nlC nlS
  by_cases h : c = 10
  · subst h; rfl
  · rw [if_neg h, if_neg]
    intro h2
    have h3 : oneS c = oneS 10 := eq_of_beq h2
    exact h (oneS_inj h3)
theorem cps_one (t : Str) (c : Nat) : (t ++ oneS c).cps.toList = t.cps.toList ++ [c] := by rw [cps_app]
theorem str_ext {a b : Str} (h : a.cps.toList = b.cps.toList) : a = b := by
  cases a; cases b
  exact congrArg _ (Array.toList_inj.mp h)
theorem quot_need : ∀ (ws : List Nat) (r : List Nat) (t word : Str) (n : Int), word.cps.toList = t.cps.toList ++ ws → quotM (ws.flatMap needL ++ 34 :: r) t n = (word, r, n + cnt 10 ws)
  | [], r, t, word, n, h => by
    rw [List.append_nil] at h
    rw [str_ext h]
    show quotM (34 :: r) t n = _
    rw [quotM_end rfl, nlC_is, cnt_nil]; rfl
  | c :: ws, r, t, word, n, h => by
    have ih := quot_need ws r (t ++ oneS c) word (n + nlC c) (by rw [h, cps_one, List.append_assoc]; rfl)
    rw [List.flatMap_cons, List.append_assoc, cnt_cons]
    by_cases hc : c = 10
    · have e : needL c = [c] := by unfold needL; rw [if_pos hc, hc]
      rw [e]
      show quotM (c :: (ws.flatMap needL ++ 34 :: r)) t n = _
      rw [quotM_one (by omega) (by omega), ih, nlC_is, if_pos hc, Int.add_assoc]
    · have e : needL c = [92, c] := by unfold needL; rw [if_neg hc]
      rw [e]
      show quotM (92 :: (c :: (ws.flatMap needL ++ 34 :: r))) t n = _
      rw [quotM_esc rfl]
      show quotM (ws.flatMap needL ++ 34 :: r) (t ++ oneS c) (n + nlC 92 + nlC c) = _
      have e2 : n + nlC 92 + nlC c = n + nlC c := by rw [nlC_is 92]; simp
      rw [e2, ih, nlC_is, if_neg hc, Int.add_zero, Int.zero_add]
theorem quot_esc : ∀ (ws : List Nat) (r : List Nat) (t word : Str) (n : Int), word.cps.toList = t.cps.toList ++ ws → quotM (ws.flatMap escL ++ 34 :: r) t n = (word, r, n + cnt 10 ws)
  | [], r, t, word, n, h => by
    rw [List.append_nil] at h
    rw [str_ext h]
    show quotM (34 :: r) t n = _
    rw [quotM_end rfl, nlC_is, cnt_nil]; rfl
  | c :: ws, r, t, word, n, h => by
    have ih := quot_esc ws r (t ++ oneS c) word (n + nlC c) (by rw [h, cps_one, List.append_assoc]; rfl)
    rw [List.flatMap_cons, List.append_assoc, cnt_cons]
    show quotM (92 :: (c :: (ws.flatMap escL ++ 34 :: r))) t n = _
    rw [quotM_esc rfl]
    show quotM (ws.flatMap escL ++ 34 :: r) (t ++ oneS c) (n + nlC 92 + nlC c) = _
    have e2 : n + nlC 92 + nlC c = n + nlC c := by rw [nlC_is 92]; simp
    rw [e2, ih, nlC_is, Int.add_assoc]
theorem bare_esc : ∀ (ws : List Nat) (r : List Nat) (t word : Str) (n : Int), word.cps.toList = t.cps.toList ++ ws → bareM (ws.flatMap escL ++ 9 :: r) t n = (word, r, n + cnt 10 ws)
  | [], r, t, word, n, h => by
    rw [List.append_nil] at h
    rw [str_ext h]
    show bareM (9 :: r) t n = _
    rw [bareM_end rfl, nlC_is, cnt_nil]; rfl
  | c :: ws, r, t, word, n, h => by
    have ih := bare_esc ws r (t ++ oneS c) word (n + nlC c) (by rw [h, cps_one, List.append_assoc]; rfl)
    rw [List.flatMap_cons, List.append_assoc, cnt_cons]
    show bareM (92 :: (c :: (ws.flatMap escL ++ 9 :: r))) t n = _
    rw [bareM_esc rfl]
    show bareM (ws.flatMap escL ++ 9 :: r) (t ++ oneS c) (n + nlC 92 + nlC c) = _
    have e2 : n + nlC 92 + nlC c = n + nlC c := by rw [nlC_is 92]; simp
    rw [e2, ih, nlC_is, Int.add_assoc]
def crL (way : Int) : List Nat := if way = 0 ∨ way = 1 then [] else [13]
theorem tok_cr (way : Int) (r : List Nat) (n : Int) : tokM (crL way ++ r) n = tokM r n := by
  unfold crL
  split
  · rfl
  · show tokM (13 :: r) n = _
    rw [tokM, if_pos (by decide), nlC_is]
    simp
theorem tok_written {ws : List Nat} (hw : ws ≠ []) (w0 way : Int) (r : List Nat) (word : Str) (n : Int) (h : word.cps.toList = ws) : tokM (crL w0 ++ (writL ws way ++ r)) n = (word, crL way ++ r, n + cnt 10 ws) := by
  rw [tok_cr]
  have e0 : (Str.ofString "").cps.toList = [] := rfl
  have e34 : ∀ m : Int, m + nlC 34 = m := fun m => by rw [nlC_is]; simp
  unfold writL crL
  by_cases h0 : way = 0
  · rw [if_pos h0, if_pos (Or.inl h0)]
    show tokM (34 :: (ws.flatMap needL ++ [34] ++ r)) n = _
    rw [tokM, if_neg (by decide), if_pos rfl, List.append_assoc]
    show quotM (ws.flatMap needL ++ 34 :: r) _ _ = _
    rw [quot_need ws r _ word _ (by rw [e0, h]; rfl), e34]; rfl
  · rw [if_neg h0]
    by_cases h1 : way = 1
    · rw [if_pos h1, if_pos (Or.inr h1)]
      obtain ⟨c, l, rfl⟩ := List.exists_cons_of_ne_nil hw
      show tokM (92 :: (c :: (l.flatMap escL ++ [9])) ++ r) n = _
      show tokM (92 :: (c :: (l.flatMap escL ++ [9] ++ r))) n = _
      rw [tokM, if_neg (by decide), if_neg (by decide), if_pos rfl, List.append_assoc]
      show bareM (l.flatMap escL ++ 9 :: r) (Str.ofString "" ++ oneS c) (n + nlC 92 + nlC c) = _
      have e2 : n + nlC 92 + nlC c = n + nlC c := by rw [nlC_is 92]; simp
      rw [bare_esc l r _ word _ (by rw [cps_one, e0, h]; rfl), e2, cnt_cons, nlC_is, Int.add_assoc]; rfl
    · rw [if_neg h1, if_neg (by omega)]
      show tokM (34 :: (ws.flatMap escL ++ [34, 13] ++ r)) n = _
      rw [tokM, if_neg (by decide), if_pos rfl, List.append_assoc]
      show quotM (ws.flatMap escL ++ 34 :: (13 :: r)) _ _ = _
      rw [quot_esc ws (13 :: r) _ word _ (by rw [e0, h]; rfl), e34]; rfl
theorem tok_end (w0 : Int) (n : Int) : tokM (crL w0 ++ [101, 110, 100]) n = (Str.ofString "end", [], n) := by
  rw [tok_cr, tokM, if_neg (by decide), if_neg (by decide), if_neg (by decide)]
  have e : ∀ m : Int, m + nlC 101 = m := fun m => by rw [nlC_is]; simp
  have e2 : ∀ m : Int, m + nlC 110 = m := fun m => by rw [nlC_is]; simp
  have e3 : ∀ m : Int, m + nlC 100 = m := fun m => by rw [nlC_is]; simp
  rw [bareM_one (by decide) (by decide), bareM_one (by decide) (by decide), e, e2, e3]
  rfl
def tailM : List (List Nat × Int) → List Nat
  | [] => [101, 110, 100]
  | q :: l => writL q.1 q.2 ++ tailM l
def Signs3 (ws : List Nat) : Prop := ws.length = 3 ∧ ∀ c ∈ ws, c = 10 ∨ c = 34 ∨ c = 92
theorem flat_len {f : Nat → List Nat} (hf : ∀ c, (f c).length ≤ 2) : ∀ l : List Nat, (l.flatMap f).length ≤ 2 * l.length
  | [] => by simp
  | c :: l => by
    have h1 := hf c
    have h2 := flat_len hf l
    rw [List.flatMap_cons, List.length_append, List.length_cons]
    omega
theorem needL_len (c : Nat) : (needL c).length ≤ 2 := by unfold needL; split <;> simp
theorem escL_len (c : Nat) : (escL c).length ≤ 2 := by simp [escL]
theorem writ_len (ws : List Nat) (way : Int) (h : Signs3 ws) : (writL ws way).length ≤ 9 := by
  have h1 := flat_len needL_len ws
  have h2 := flat_len escL_len ws
  rw [h.1] at h1 h2
  unfold writL
  split
  · simp only [List.length_cons, List.length_append, List.length_nil]; omega
  · split
    · simp only [List.length_cons, List.length_append, List.length_nil]; omega
    · simp only [List.length_cons, List.length_append, List.length_nil]; omega
theorem tail_len : ∀ (l : List (List Nat × Int)), (∀ q ∈ l, Signs3 q.1) → (tailM l).length ≤ 9 * l.length + 3
  | [], _ => by decide
  | q :: l, h => by
    have h1 := writ_len q.1 q.2 (h q (.head _))
    have h2 := tail_len l fun x hx => h x (.tail _ hx)
    show (writL q.1 q.2 ++ tailM l).length ≤ _
    rw [List.length_append, List.length_cons]
    omega
theorem writ_abc (ws : List Nat) (way : Int) (h : Signs3 ws) : ∀ c ∈ writL ws way, c ∈ ABC := by
  have hs : ∀ c ∈ ws, c ∈ ABC := fun c hc => by rcases h.2 c hc with rfl | rfl | rfl <;> decide
  have h1 : ∀ c ∈ ws.flatMap needL, c ∈ ABC := fun c hc => by
    obtain ⟨d, hd, hc⟩ := List.mem_flatMap.mp hc
    unfold needL at hc
    split at hc
    · rw [List.mem_singleton.mp hc]; decide
    · simp only [List.mem_cons, List.not_mem_nil, or_false] at hc
      rcases hc with rfl | rfl
      · decide
      · exact hs _ hd
  have h2 : ∀ c ∈ ws.flatMap escL, c ∈ ABC := fun c hc => by
    obtain ⟨d, hd, hc⟩ := List.mem_flatMap.mp hc
    simp only [escL, List.mem_cons, List.not_mem_nil, or_false] at hc
    rcases hc with rfl | rfl
    · decide
    · exact hs _ hd
  intro c hc
  unfold writL at hc
  split at hc
  · simp only [List.mem_cons, List.mem_append, List.not_mem_nil, or_false] at hc
    rcases hc with rfl | hc | rfl
    · decide
    · exact h1 _ hc
    · decide
  · split at hc
    · simp only [List.mem_cons, List.mem_append, List.not_mem_nil, or_false] at hc
      rcases hc with hc | rfl
      · exact h2 _ hc
      · decide
    · simp only [List.mem_cons, List.mem_append, List.not_mem_nil, or_false] at hc
      rcases hc with rfl | hc | rfl | rfl
      · decide
      · exact h2 _ hc
      · decide
      · decide
theorem tail_abc : ∀ (l : List (List Nat × Int)), (∀ q ∈ l, Signs3 q.1) → ∀ c ∈ tailM l, c ∈ ABC
  | [], _ => by decide
  | q :: l, h => fun c hc => by
    rcases List.mem_append.mp (show c ∈ writL q.1 q.2 ++ tailM l from hc) with hc | hc
    · exact writ_abc q.1 q.2 (h q (.head _)) c hc
    · exact tail_abc l (fun x hx => h x (.tail _ hx)) c hc
theorem cr_tail_len {w0 : Int} {l : List (List Nat × Int)} (hl : l.length ≤ 4) (h : ∀ q ∈ l, Signs3 q.1) : (crL w0 ++ tailM l).length ≤ 40 := by
  have h1 := tail_len l h
  have h2 : (crL w0).length ≤ 1 := by unfold crL; split <;> simp
  rw [List.length_append]
  omega
theorem cr_tail_abc {w0 : Int} {l : List (List Nat × Int)} (h : ∀ q ∈ l, Signs3 q.1) : ∀ c ∈ crL w0 ++ tailM l, c ∈ ABC := fun c hc => by
  rcases List.mem_append.mp hc with hc | hc
  · unfold crL at hc
    split at hc
    · cases hc
    · rw [List.mem_singleton.mp hc]; decide
  · exact tail_abc l h c hc
theorem cnt_writ (ws : List Nat) (way : Int) : cnt 10 (writL ws way) = cnt 10 ws := by
  have h1 : ∀ l : List Nat, cnt 10 (l.flatMap needL) = cnt 10 l := fun l => by
    induction l with
    | nil => rfl
    | cons c l ih =>
      rw [List.flatMap_cons, cnt_append, ih, cnt_cons]
      unfold needL
      split
      · rename_i h; subst h; simp [cnt_cons, cnt_nil]
      · rename_i h; simp [cnt_cons, cnt_nil, h]
  have h2 : ∀ l : List Nat, cnt 10 (l.flatMap escL) = cnt 10 l := fun l => by
    induction l with
    | nil => rfl
    | cons c l ih =>
      rw [List.flatMap_cons, cnt_append, ih, cnt_cons]
      unfold escL
      rw [cnt_cons, cnt_cons, cnt_nil]; simp
  unfold writL
  split
  · rw [cnt_cons, cnt_append, h1, cnt_cons, cnt_nil]; simp
  · split
    · rw [cnt_append, h2, cnt_cons, cnt_nil]; simp
    · rw [cnt_cons, cnt_append, h2, cnt_cons, cnt_cons, cnt_nil]; simp
def lineM : List (List Nat × Int) → Int
  | [] => 0
  | q :: l => cnt 10 q.1 + lineM l
theorem cnt_tail : ∀ l : List (List Nat × Int), cnt 10 (tailM l) = lineM l
  | [] => by decide +kernel
  | q :: l => by
    show cnt 10 (writL q.1 q.2 ++ tailM l) = cnt 10 q.1 + lineM l
    rw [cnt_append, cnt_writ, cnt_tail l]
end
section
variable {w : World} {p : Program} {loose : List Str} {mean : ExcName → Option Value} {mg mb : Str → Option Value}
def cardsL (wr z0 z1 z2 z3 : Int) : List (List Nat × Int) := [((cardR z0).cps.toList, wayOf wr 0), ((cardR z1).cps.toList, wayOf wr 1), ((cardR z2).cps.toList, wayOf wr 2), ((cardR z3).cps.toList, wayOf wr 3)]
def textM (wr z0 z1 z2 z3 : Int) : Str := Txt.join (Str.ofString "") ((textL wr (cardR z0) (cardR z1) (cardR z2) (cardR z3)).map fun q => writtenM q.1 q.2)
def Four (z0 z1 z2 z3 : Int) : Prop := 0 ≤ z3 ∧ z3 < z2 ∧ z2 < z1 ∧ z1 < z0 ∧ z0 < 27
theorem tail_is : ∀ l : List (List Nat × Int), tailM l = (l.flatMap fun q => writL q.1 q.2) ++ [101, 110, 100]
  | [] => rfl
  | q :: l => by
    show writL q.1 q.2 ++ tailM l = _
    rw [tail_is l, List.flatMap_cons, List.append_assoc]
theorem textM_signs (wr z0 z1 z2 z3 : Int) : (textM wr z0 z1 z2 z3).cps.toList = (cardsL wr z0 z1 z2 z3).flatMap fun q => writL q.1 q.2 := by
  unfold textM
  rw [join_cps]
  simp only [textL, cardsL, List.map_cons, List.map_nil, List.flatMap_cons, List.flatMap_nil, written_signs]
theorem text_signs (wr z0 z1 z2 z3 : Int) : (textM wr z0 z1 z2 z3 ++ Str.ofString "end").cps.toList = tailM (cardsL wr z0 z1 z2 z3) := by
  rw [cps_app, textM_signs, tail_is]; rfl
theorem cardsL_ok {wr z0 z1 z2 z3 : Int} (h : Four z0 z1 z2 z3) : ∀ q ∈ cardsL wr z0 z1 z2 z3, Signs3 q.1 := by
  unfold Four at h
  refine List.forall_mem_cons.mpr ⟨card_signs ⟨by omega, by omega⟩, List.forall_mem_cons.mpr ⟨card_signs ⟨by omega, by omega⟩, List.forall_mem_cons.mpr ⟨card_signs ⟨by omega, by omega⟩, List.forall_mem_cons.mpr ⟨card_signs ⟨by omega, by omega⟩, List.forall_mem_nil _⟩⟩⟩⟩
theorem text_len {wr z0 z1 z2 z3 : Int} (h : Four z0 z1 z2 z3) : (textM wr z0 z1 z2 z3 ++ Str.ofString "end").length ≤ 40 := by
  have h1 : (textM wr z0 z1 z2 z3 ++ Str.ofString "end").length = (textM wr z0 z1 z2 z3 ++ Str.ofString "end").cps.toList.length := rfl
  rw [h1, text_signs]
  have h2 := tail_len _ (cardsL_ok (wr := wr) h)
  have h3 : (cardsL wr z0 z1 z2 z3).length = 4 := rfl
  omega
theorem text_len' {wr z0 z1 z2 z3 : Int} (h : Four z0 z1 z2 z3) : (textM wr z0 z1 z2 z3).length ≤ 40 := by
  have h1 := text_len (wr := wr) h
  rw [app_len] at h1
  omega
theorem text_join {wr z0 z1 z2 z3 : Int} (h : Four z0 z1 z2 z3) : ((((textL wr (cardR z0) (cardR z1) (cardR z2) (cardR z3)).map fun q => writtenM q.1 q.2).map (·.length)).sum + ((textL wr (cardR z0) (cardR z1) (cardR z2) (cardR z3)).map fun q => writtenM q.1 q.2).length * (Str.ofString "").length) ≤ 16777216 := by
  have h0 : (Str.ofString "").length = 0 := rfl
  rw [h0, Nat.mul_zero, Nat.add_zero]
  have hl : ∀ (word : Str) (way : Int), Signs3 word.cps.toList → (writtenM word way).length ≤ 9 := fun word way hs => by
    have e : (writtenM word way).length = (writtenM word way).cps.toList.length := rfl
    rw [e, written_signs]
    exact writ_len _ _ hs
  unfold Four at h
  have a0 := hl (cardR z0) (wayOf wr 0) (card_signs ⟨by omega, by omega⟩)
  have a1 := hl (cardR z1) (wayOf wr 1) (card_signs ⟨by omega, by omega⟩)
  have a2 := hl (cardR z2) (wayOf wr 2) (card_signs ⟨by omega, by omega⟩)
  have a3 := hl (cardR z3) (wayOf wr 3) (card_signs ⟨by omega, by omega⟩)
  simp only [textL, List.map_cons, List.map_nil, List.sum_cons, List.sum_nil]
  omega
theorem text_count (wr z0 z1 z2 z3 : Int) : Txt.count (textM wr z0 z1 z2 z3) (Str.ofString "\n") = lineM (cardsL wr z0 z1 z2 z3) := by
  have h1 : Txt.count (textM wr z0 z1 z2 z3) (Str.ofString "\n") = cnt 10 (textM wr z0 z1 z2 z3).cps.toList := count_is _ 10
  rw [h1, textM_signs, ← cnt_tail, tail_is, cnt_append]
  have h2 : cnt 10 [101, 110, 100] = 0 := by decide +kernel
  rw [h2, Int.add_zero]
theorem lineM_snoc (q : List Nat × Int) : ∀ l : List (List Nat × Int), lineM (l ++ [q]) = lineM l + cnt 10 q.1
  | [] => by show cnt 10 q.1 + 0 = 0 + cnt 10 q.1; omega
  | p :: l => by
    show cnt 10 p.1 + lineM (l ++ [q]) = cnt 10 p.1 + lineM l + cnt 10 q.1
    rw [lineM_snoc q l]; omega
def HeardJ (led : List Value → Nat → Int → Tok → Led) (l : List (List Nat × Int)) (ws : List Str) (i : Nat) (ys : List Value) (nw : Led) : Prop :=
  ∃ w0 vs k tn, nw = led vs k (1 + lineM (l.take i)) tn ∧ StrsAre vs ((crL w0 ++ tailM (l.drop i)).map oneS) ∧ StrsAre ys (ws.take i)
theorem HeardJ.start {led : List Value → Nat → Int → Tok → Led} {l : List (List Nat × Int)} {ws : List Str} {vs : List Value} {k : Nat} {tn : Tok} {text : Str} (h : text.cps.toList = tailM l) (hv : StrsAre vs (text.cps.toList.map oneS)) : HeardJ led l ws 0 [] (led vs k 1 tn) :=
  ⟨0, vs, k, tn, rfl, by rw [h] at hv; exact hv, .nil⟩
theorem HeardJ.turn {led : List Value → Nat → Int → Tok → Led} {l : List (List Nat × Int)} {ws : List Str} {i : Nat} {ys : List Value} {nw : Led} {q : List Nat × Int} {y : Str} (h : HeardJ led l ws i ys nw) (hq : l[i]? = some q) (hw : ws[i]? = some y) (hy : y.cps.toList = q.1) (hl : l.length ≤ 4) (hs : ∀ q ∈ l, Signs3 q.1) :
    ∃ cs vs k n tn, nw = led vs k n tn ∧ StrsAre vs (cs.map oneS) ∧ cs.length ≤ 40 ∧ (∀ c ∈ cs, c ∈ ABC) ∧ (tokM cs n).1 = y ∧
      ∀ t vs' k' tn', StrsAre vs' ((tokM cs n).2.1.map oneS) → HeardJ led l ws (i + 1) (ys ++ [.str y t]) (led vs' k' (tokM cs n).2.2 tn') := by
  obtain ⟨w0, vs, k, tn, rfl, hv, hys⟩ := h
  have hlt : i < l.length := (List.getElem?_eq_some_iff.mp hq).1
  have hd : l.drop i = q :: l.drop (i + 1) := by
    rw [List.drop_eq_getElem_cons hlt, (List.getElem?_eq_some_iff.mp hq).2]
  have hmem : q ∈ l := List.mem_of_getElem? hq
  have hne : q.1 ≠ [] := fun e => by have := (hs q hmem).1; rw [e] at this; cases this
  have htok : tokM (crL w0 ++ tailM (l.drop i)) (1 + lineM (l.take i)) = (y, crL q.2 ++ tailM (l.drop (i + 1)), 1 + lineM (l.take i) + cnt 10 q.1) := by
    rw [hd]
    exact tok_written hne w0 q.2 _ y _ hy
  have hsd : ∀ p ∈ l.drop i, Signs3 p.1 := fun p hp => hs p (List.mem_of_mem_drop hp)
  refine ⟨_, vs, k, _, tn, rfl, hv, cr_tail_len (by rw [List.length_drop]; omega) hsd, cr_tail_abc hsd, by rw [htok], fun t vs' k' tn' hv' => ?_⟩
  rw [htok] at hv' ⊢
  refine ⟨q.2, vs', k', tn', ?_, hv', ?_⟩
  · show led vs' k' (1 + lineM (l.take i) + cnt 10 q.1) tn' = _
    rw [List.take_add_one, hq]
    show _ = led vs' k' (1 + lineM (l.take i ++ [q])) tn'
    rw [lineM_snoc, Int.add_assoc]
  · rw [List.take_add_one, hw]
    exact kct_snoc hys
theorem cardsL_at {wr z0 z1 z2 z3 : Int} {i : Nat} (h : i < 4) : ∃ q y, (cardsL wr z0 z1 z2 z3)[i]? = some q ∧ [cardR z0, cardR z1, cardR z2, cardR z3][i]? = some y ∧ y.cps.toList = q.1 := by
  match i, h with
  | 0, _ => exact ⟨_, _, rfl, rfl, rfl⟩
  | 1, _ => exact ⟨_, _, rfl, rfl, rfl⟩
  | 2, _ => exact ⟨_, _, rfl, rfl, rfl⟩
  | 3, _ => exact ⟨_, _, rfl, rfl, rfl⟩
end
section
variable {w : World} {p : Program} {loose : List Str} {mean : ExcName → Option Value} {mg mb : Str → Option Value}
theorem HeardJ.fin {led : List Value → Nat → Int → Tok → Led} {l : List (List Nat × Int)} {ws : List Str} {i : Nat} {ys : List Value} {nw : Led} (h : HeardJ led l ws i ys nw) (h1 : l.length ≤ i) (h2 : ws.length ≤ i) :
    ∃ w0 vs k tn ln, nw = led vs k ln tn ∧ ln = 1 + lineM l ∧ StrsAre vs ((crL w0 ++ [101, 110, 100]).map oneS) ∧ StrsAre ys ws := by
  obtain ⟨w0, vs, k, tn, rfl, hv, hys⟩ := h
  refine ⟨w0, vs, k, tn, _, rfl, by rw [List.take_of_length_le h1], ?_, by rw [List.take_of_length_le h2] at hys; exact hys⟩
  rw [List.drop_eq_nil_of_le h1] at hv
  exact hv
end
section
variable {w : World} {p : Program} {loose : List Str} {mean : ExcName → Option Value} {mg mb : Str → Option Value}
def Shape (j e f x y a b c : Int) : Prop :=
  (j = 0 ∧ f = a ∧ (e = 0 ∧ x = b ∧ y = c ∨ e = 1 ∧ x = c ∧ y = b)) ∨ (j = 1 ∧ f = b ∧ (e = 0 ∧ x = a ∧ y = c ∨ e = 1 ∧ x = c ∧ y = a)) ∨ (j = 2 ∧ f = c ∧ (e = 0 ∧ x = a ∧ y = b ∨ e = 1 ∧ x = b ∧ y = a))
def Br (k n a b c : Int) : Prop := (k = 0 ∧ n < a) ∨ (k = 1 ∧ a ≤ n ∧ n < b - 1) ∨ (k = 2 ∧ b - 1 ≤ n ∧ n < c - 2) ∨ (k = 3 ∧ c - 2 ≤ n)
theorem br_fun {k n a b c : Int} (h1 : a ≤ b - 1) (h2 : b - 1 ≤ c - 2) (hb : Br k n a b c) : k = (if a ≤ n then 1 else 0) + ((if b - 1 ≤ n then 1 else 0) + (if c - 2 ≤ n then 1 else 0)) := by
  rcases hb with ⟨rfl, h⟩ | ⟨rfl, h, h'⟩ | ⟨rfl, h, h'⟩ | ⟨rfl, h⟩
  · rw [if_neg (Int.not_le.mpr h), if_neg (Int.not_le.mpr (Int.lt_of_lt_of_le h h1)), if_neg (Int.not_le.mpr (Int.lt_of_lt_of_le h (Int.le_trans h1 h2)))]; rfl
  · rw [if_pos h, if_neg (Int.not_le.mpr h'), if_neg (Int.not_le.mpr (Int.lt_of_lt_of_le h' h2))]; rfl
  · rw [if_pos (Int.le_trans h1 h), if_pos h, if_neg (Int.not_le.mpr h')]; rfl
  · rw [if_pos (Int.le_trans (Int.le_trans h1 h2) h), if_pos (Int.le_trans h2 h), if_pos h]; rfl
theorem Shape.j_is {j e f x y a b c : Int} (h : Shape j e f x y a b c) (hab : a < b) (hbc : b < c) : j = (if a < f then 1 else 0) + (if b < f then 1 else 0) := by
  rcases h with ⟨hj, hf, _⟩ | ⟨hj, hf, _⟩ | ⟨hj, hf, _⟩ <;> rw [hj, hf]
  · rw [if_neg (Int.lt_irrefl _), if_neg (Int.not_lt.mpr (Int.le_of_lt hab))]; rfl
  · rw [if_pos hab, if_neg (Int.lt_irrefl _)]; rfl
  · rw [if_pos (Int.lt_trans hab hbc), if_pos hbc]; rfl
theorem e0 {e x y p q : Int} (hpq : p < q) (h : e = 0 ∧ x = p ∧ y = q ∨ e = 1 ∧ x = q ∧ y = p) : e = if y < x then 1 else 0 := by
  rcases h with ⟨he, hx, hy⟩ | ⟨he, hx, hy⟩ <;> rw [he, hx, hy]
  · exact (if_neg (Int.not_lt.mpr (Int.le_of_lt hpq))).symm
  · exact (if_pos hpq).symm
theorem Shape.e_is {j e f x y a b c : Int} (h : Shape j e f x y a b c) (hab : a < b) (hbc : b < c) : e = if y < x then 1 else 0 := by
  rcases h with ⟨_, _, h⟩ | ⟨_, _, h⟩ | ⟨_, _, h⟩
  · exact e0 hbc h
  · exact e0 (Int.lt_trans hab hbc) h
  · exact e0 hab h
theorem sum3 {x y p q : Int} {e : Int} (h : e = 0 ∧ x = p ∧ y = q ∨ e = 1 ∧ x = q ∧ y = p) : x + y = p + q := by
  rcases h with ⟨_, hx, hy⟩ | ⟨_, hx, hy⟩ <;> rw [hx, hy]
  exact Int.add_comm q p
theorem Shape.sum {j e f x y a b c : Int} (h : Shape j e f x y a b c) : f + x + y = a + b + c := by
  rcases h with ⟨_, hf, h⟩ | ⟨_, hf, h⟩ | ⟨_, hf, h⟩ <;> rw [Int.add_assoc, sum3 h, hf]
  · exact (Int.add_assoc a b c).symm
  · rw [← Int.add_assoc, Int.add_comm b a]
  · exact Int.add_comm c (a + b)
theorem e01 {e : Int} {P Q : Prop} (h : e = 0 ∧ P ∨ e = 1 ∧ Q) : e = 0 ∨ e = 1 := h.imp And.left And.left
theorem Shape.rng {j e f x y a b c : Int} (h : Shape j e f x y a b c) : 0 ≤ 2 * j + e ∧ 2 * j + e ≤ 5 := by
  rcases h with ⟨rfl, _, h⟩ | ⟨rfl, _, h⟩ | ⟨rfl, _, h⟩ <;> rcases e01 h with rfl | rfl <;> decide
theorem pm2 {x y p q e : Int} (h : e = 0 ∧ x = p ∧ y = q ∨ e = 1 ∧ x = q ∧ y = p) : [p, q].Perm [y, x] := by
  rcases h with ⟨_, rfl, rfl⟩ | ⟨_, rfl, rfl⟩
  · exact .swap _ _ _
  · exact .refl _
theorem pmf {f x y : Int} : (f :: [y, x]).Perm [y, x, f] := (List.perm_middle (l₁ := [y, x]) (l₂ := [])).symm
theorem Shape.perm {j e f x y a b c : Int} (h : Shape j e f x y a b c) : [a, b, c].Perm [y, x, f] := by
  rcases h with ⟨_, rfl, h⟩ | ⟨_, rfl, h⟩ | ⟨_, rfl, h⟩
  · exact ((pm2 h).cons _).trans pmf
  · exact (List.Perm.swap _ _ _).trans (((pm2 h).cons _).trans pmf)
  · exact (pmf (x := b) (y := a)).symm.trans (((pm2 h).cons _).trans pmf)
theorem pair_of {b c x y : Int} (h : b < c) (hp : [b, c].Perm [y, x]) : (if y < x then 1 else 0) = (0 : Int) ∧ x = b ∧ y = c ∨ (if y < x then 1 else 0) = (1 : Int) ∧ x = c ∧ y = b := by
  have hb : b = y ∨ b = x := by simpa using (hp.mem_iff (a := b)).mp (.head _)
  have hc : c = y ∨ c = x := by simpa using (hp.mem_iff (a := c)).mp (.tail _ (.head _))
  rcases hb with rfl | rfl
  · exact .inr (hc.elim (fun e => absurd e (Int.ne_of_gt h)) fun e => ⟨if_pos (e ▸ h), e.symm, rfl⟩)
  · exact .inl (hc.elim (fun e => ⟨if_neg (Int.not_lt.mpr (Int.le_of_lt (e ▸ h))), rfl, e.symm⟩) fun e => absurd e (Int.ne_of_gt h))
theorem shape_of {a b c f x y : Int} {j : Nat} (hab : a < b) (hbc : b < c) (hp : [a, b, c].Perm [y, x, f]) (hj : j < 3) (hg : [a, b, c].getD j 0 = f) : Shape j (if y < x then 1 else 0) f x y a b c := by
  match j, hj, hg with
  | 0, _, hg => subst hg; exact .inl ⟨rfl, rfl, pair_of hbc ((hp.trans pmf.symm).cons_inv)⟩
  | 1, _, hg => subst hg; exact .inr (.inl ⟨rfl, rfl, pair_of (Int.lt_trans hab hbc) (((List.Perm.swap _ _ _).trans (hp.trans pmf.symm)).cons_inv)⟩)
  | 2, _, hg => subst hg; exact .inr (.inr ⟨rfl, rfl, pair_of hab (((pmf (x := b) (y := a)).trans (hp.trans pmf.symm)).cons_inv)⟩)
theorem fmod4 (x : Int) : x = 4 * x.fdiv 4 + x.fmod 4 ∧ 0 ≤ x.fmod 4 ∧ x.fmod 4 < 4 :=
  ⟨(Int.mul_fdiv_add_fmod x 4).symm, Int.fmod_nonneg_of_pos _ (by decide), Int.fmod_lt_of_pos _ (by decide)⟩
theorem div4 {x q r : Int} (h : x = 4 * q + r) (h0 : 0 ≤ r) (h4 : r < 4) : x.fdiv 4 = q ∧ x.fmod 4 = r := by
  rw [Int.fdiv_eq_ediv_of_nonneg _ (by decide), Int.fmod_eq_emod_of_nonneg _ (by decide)]; omega
theorem sorted3 {a b c : Int} (h1 : a < b) (h2 : b < c) : [a, b, c].Pairwise (· ≤ ·) :=
  .cons (List.forall_mem_cons.mpr ⟨Int.le_of_lt h1, List.forall_mem_cons.mpr ⟨Int.le_of_lt (Int.lt_trans h1 h2), List.forall_mem_nil _⟩⟩) (.cons (List.forall_mem_cons.mpr ⟨Int.le_of_lt h2, List.forall_mem_nil _⟩) (.cons (List.forall_mem_nil _) .nil))
theorem sorted4 {a b c d : Int} (h : a < b ∧ b < c ∧ c < d) : [a, b, c, d].Pairwise (· ≤ ·) :=
  .cons (List.forall_mem_cons.mpr ⟨Int.le_of_lt h.1, List.forall_mem_cons.mpr ⟨Int.le_of_lt (Int.lt_trans h.1 h.2.1), List.forall_mem_cons.mpr ⟨Int.le_of_lt (Int.lt_trans h.1 (Int.lt_trans h.2.1 h.2.2)), List.forall_mem_nil _⟩⟩⟩) (sorted3 h.2.1 h.2.2)
theorem eq_sorted {l l' : List Int} (h : l.Perm l') (h1 : l.Pairwise (· ≤ ·)) (h2 : l'.Pairwise (· ≤ ·)) : l = l' :=
  List.Perm.eq_of_pairwise (le := (· ≤ ·)) (fun _ _ _ _ h1 h2 => Int.le_antisymm h1 h2) h1 h2 h
theorem hand_eq {hs : List Int} {a b c d : Int} (h : a < b ∧ b < c ∧ c < d) (hp : hs.Perm [a, b, c, d]) (hs4 : Hand4 hs) : hs = [a, b, c, d] := by
  obtain ⟨x, y, z, u, rfl, _, h1, h2, h3, _⟩ := hs4
  exact eq_sorted hp (sorted4 ⟨h1, h2, h3⟩) (sorted4 h)
structure Named (f x y N a b c cnt num j e r q : Int) : Prop where
  lt : 0 ≤ a ∧ a < b ∧ b < c ∧ c < 27
  shape : Shape j e f x y a b c
  num_is : num = 4 * (2 * j + e) + r
  r_is : 0 ≤ r ∧ r < 4
  sum : f + x + y + r = 4 * q
  br : Br cnt num a b c
  n_is : N = num + cnt
theorem named_of {f x y N : Int} (h : NamedIs f x y N) : ∃ a b c cnt num j e r q, Named f x y N a b c cnt num j e r q := by
  obtain ⟨a, b, c, j, num, cnt, hp, hlt, hj, hg, hn, hB, hN⟩ := h
  have hm := fmod4 (-(f + x + y))
  obtain ⟨b0, _, b1, b2, b3⟩ := hB
  have hl3 : [a, b - 1, c - 2].length = 3 := rfl
  rw [hl3] at b1 b3
  have hbr : Br cnt num a b c := by
    have c4 : cnt = 0 ∨ cnt = 1 ∨ cnt = 2 ∨ cnt = 3 := by
      have b1' : cnt ≤ 3 := b1
      clear b1 b2 b3 hN hn hp hg hm; lia
    rcases c4 with rfl | rfl | rfl | rfl
    · exact .inl ⟨rfl, b3 0 (by decide) (by decide)⟩
    · exact .inr (.inl ⟨rfl, b2 0 (by decide), b3 1 (by decide) (by decide)⟩)
    · exact .inr (.inr (.inl ⟨rfl, b2 1 (by decide), b3 2 (by decide) (by decide)⟩))
    · exact .inr (.inr (.inr ⟨rfl, b2 2 (by decide)⟩))
  exact ⟨a, b, c, cnt, num, j, if y < x then 1 else 0, (-(f + x + y)).fmod 4, -(-(f + x + y)).fdiv 4, hlt, shape_of hlt.2.1 hlt.2.2.1 hp hj hg, hn, hm.2, by have := hm.1; clear hn hg hp hN hbr b0 b1 b2 b3; omega, hbr, hN⟩
theorem named_uniq {f x y N a b c cnt num j e r q N' a' b' c' cnt' num' j' e' r' q' : Int} (g : Named f x y N a b c cnt num j e r q) (g' : Named f x y N' a' b' c' cnt' num' j' e' r' q') : N = N' := by
  obtain ⟨⟨_, g1, g2, _⟩, gs, gn, gr, gq, gb, gN⟩ := g
  obtain ⟨⟨_, k1, k2, _⟩, ks, kn, kr, kq, kb, kN⟩ := g'
  have habc := eq_sorted (gs.perm.trans ks.perm.symm) (sorted3 g1 g2) (sorted3 k1 k2)
  have ha : a = a' := (List.cons.inj habc).1
  have hb : b = b' := (List.cons.inj (List.cons.inj habc).2).1
  have hc : c = c' := (List.cons.inj (List.cons.inj (List.cons.inj habc).2).2).1
  subst ha hb hc
  have hr : r = r' := by clear gs ks gb kb habc gn kn gN kN; omega
  have hn : num = num' := by rw [gn, kn, hr, (gs.j_is g1 g2).trans (ks.j_is g1 g2).symm, (gs.e_is g1 g2).trans (ks.e_is g1 g2).symm]
  have h1 : a ≤ b - 1 := Int.le_sub_one_of_lt g1
  have h2 : b - 1 ≤ c - 2 := by clear gs ks gb kb habc gn kn gN kN gq kq gr kr; omega
  rw [gN, kN, hn, br_fun h1 h2 gb, br_fun h1 h2 kb, hn]
theorem showM_at (hs : List Int) (p o : Int) (hp : hs.sum.fmod 4 = p) (ho : (hs.getD p.toNat 0 - p).fdiv 4 = o) :
    showM hs = [hs.getD p.toNat 0, (hs.take p.toNat ++ hs.drop (p.toNat + 1)).getD (o.fdiv 2).toNat 0] ++
      (if o.fmod 2 = 1 then ((hs.take p.toNat ++ hs.drop (p.toNat + 1)).take (o.fdiv 2).toNat ++ (hs.take p.toNat ++ hs.drop (p.toNat + 1)).drop ((o.fdiv 2).toNat + 1)).reverse
       else (hs.take p.toNat ++ hs.drop (p.toNat + 1)).take (o.fdiv 2).toNat ++ (hs.take p.toNat ++ hs.drop (p.toNat + 1)).drop ((o.fdiv 2).toNat + 1)) := by
  subst hp ho
  rfl
theorem show_at6 {hs : List Int} {p H A B C j e f x y : Int} (hp : hs.sum.fmod 4 = p) (hH : hs.getD p.toNat 0 = H) (hr : hs.take p.toNat ++ hs.drop (p.toNat + 1) = [A, B, C]) (ho : (H - p).fdiv 4 = 2 * j + e) (h : Shape j e f x y A B C) : showM hs = [H, f, x, y] := by
  have hsh := showM_at hs p (2 * j + e) hp (by rw [hH]; exact ho)
  rw [hH, hr] at hsh
  rw [hsh]
  clear hsh hp hH hr ho
  rcases h with ⟨rfl, rfl, h⟩ | ⟨rfl, rfl, h⟩ | ⟨rfl, rfl, h⟩ <;> rcases h with ⟨rfl, rfl, rfl⟩ | ⟨rfl, rfl, rfl⟩ <;> rfl
theorem shape_ex (A B C : Int) {o : Int} (h : 0 ≤ o ∧ o ≤ 5) : ∃ j e f x y, o = 2 * j + e ∧ Shape j e f x y A B C := by
  have h6 : o = 0 ∨ o = 1 ∨ o = 2 ∨ o = 3 ∨ o = 4 ∨ o = 5 := by lia
  rcases h6 with rfl | rfl | rfl | rfl | rfl | rfl
  · exact ⟨0, 0, A, B, C, rfl, .inl ⟨rfl, rfl, .inl ⟨rfl, rfl, rfl⟩⟩⟩
  · exact ⟨0, 1, A, C, B, rfl, .inl ⟨rfl, rfl, .inr ⟨rfl, rfl, rfl⟩⟩⟩
  · exact ⟨1, 0, B, A, C, rfl, .inr (.inl ⟨rfl, rfl, .inl ⟨rfl, rfl, rfl⟩⟩)⟩
  · exact ⟨1, 1, B, C, A, rfl, .inr (.inl ⟨rfl, rfl, .inr ⟨rfl, rfl, rfl⟩⟩)⟩
  · exact ⟨2, 0, C, A, B, rfl, .inr (.inr ⟨rfl, rfl, .inl ⟨rfl, rfl, rfl⟩⟩)⟩
  · exact ⟨2, 1, C, B, A, rfl, .inr (.inr ⟨rfl, rfl, .inr ⟨rfl, rfl, rfl⟩⟩)⟩
theorem told_of {hs : List Int} {p q H A B C : Int} (hp : hs.sum.fmod 4 = p) (hH : hs.getD p.toNat 0 = H) (hr : hs.take p.toNat ++ hs.drop (p.toNat + 1) = [A, B, C]) (hlt : 0 ≤ A ∧ A < B ∧ B < C ∧ C < 27) (hm : 0 ≤ H - p ∧ H - p < 24) (hbr : Br p (H - p) A B C) (hsum : H + (A + B + C) = 4 * q + p) :
    ∃ f x y j e r q', showM hs = [H, f, x, y] ∧ Named f x y H A B C p (H - p) j e r q' := by
  have h4 := fmod4 (H - p)
  obtain ⟨j, e, f, x, y, ho, hS⟩ := shape_ex A B C (o := (H - p).fdiv 4) (by clear hsum hbr hlt hr hH hp; omega)
  refine ⟨f, x, y, j, e, (H - p).fmod 4, q - (H - p).fdiv 4, show_at6 hp hH hr ho hS, hlt, hS, ho ▸ h4.1, h4.2, ?_, hbr, by rw [Int.sub_add_cancel]⟩
  rw [hS.sum]
  have := h4.1
  clear hbr hlt hr hH hp hS ho h4
  omega
theorem show_told {hs : List Int} (h : Hand4 hs) : ∃ H f x y a b c p m j e r q, showM hs = [H, f, x, y] ∧ (0 ≤ H ∧ H < 27) ∧ Named f x y H a b c p m j e r q := by
  obtain ⟨a, b, c, d, rfl, h0, h1, h2, h3, h4⟩ := h
  have hq : a + (b + (c + (d + 0))) = 4 * [a, b, c, d].sum.fdiv 4 + [a, b, c, d].sum.fmod 4 := (fmod4 [a, b, c, d].sum).1
  have hp4 := (fmod4 [a, b, c, d].sum).2
  generalize hp : [a, b, c, d].sum.fmod 4 = p at *
  generalize [a, b, c, d].sum.fdiv 4 = q at hq
  have cases4 : p = 0 ∨ p = 1 ∨ p = 2 ∨ p = 3 := by clear hq hp; lia
  rcases cases4 with rfl | rfl | rfl | rfl <;> clear hp4
  · obtain ⟨f, x, y, j, e, r, q', g⟩ := told_of hp rfl rfl (A := b) (B := c) (C := d) (q := q) (by clear hq hp; omega) (by clear hq hp; show 0 ≤ a - 0 ∧ a - 0 < 24; omega) (.inl ⟨rfl, by clear hq hp; show a - 0 < b; omega⟩) (by show a + (b + c + d) = _; clear hp; omega)
    exact ⟨_, f, x, y, _, _, _, _, _, j, e, r, q', g.1, by clear hq hp g; show 0 ≤ a ∧ a < 27; omega, g.2⟩
  · obtain ⟨f, x, y, j, e, r, q', g⟩ := told_of hp rfl rfl (A := a) (B := c) (C := d) (q := q) (by clear hq hp; omega) (by clear hq hp; show 0 ≤ b - 1 ∧ b - 1 < 24; omega) (.inr (.inl ⟨rfl, by clear hq hp; show a ≤ b - 1 ∧ b - 1 < c - 1; omega⟩)) (by show b + (a + c + d) = _; clear hp; omega)
    exact ⟨_, f, x, y, _, _, _, _, _, j, e, r, q', g.1, by clear hq hp g; show 0 ≤ b ∧ b < 27; omega, g.2⟩
  · obtain ⟨f, x, y, j, e, r, q', g⟩ := told_of hp rfl rfl (A := a) (B := b) (C := d) (q := q) (by clear hq hp; omega) (by clear hq hp; show 0 ≤ c - 2 ∧ c - 2 < 24; omega) (.inr (.inr (.inl ⟨rfl, by clear hq hp; show b - 1 ≤ c - 2 ∧ c - 2 < d - 2; omega⟩))) (by show c + (a + b + d) = _; clear hp; omega)
    exact ⟨_, f, x, y, _, _, _, _, _, j, e, r, q', g.1, by clear hq hp g; show 0 ≤ c ∧ c < 27; omega, g.2⟩
  · obtain ⟨f, x, y, j, e, r, q', g⟩ := told_of hp rfl rfl (A := a) (B := b) (C := c) (q := q) (by clear hq hp; omega) (by clear hq hp; show 0 ≤ d - 3 ∧ d - 3 < 24; omega) (.inr (.inr (.inr ⟨rfl, by clear hq hp; show c - 2 ≤ d - 3; omega⟩))) (by show d + (a + b + c) = _; clear hp; omega)
    exact ⟨_, f, x, y, _, _, _, _, _, j, e, r, q', g.1, by clear hq hp g; show 0 ≤ d ∧ d < 27; omega, g.2⟩
theorem show_named {hs : List Int} {f x y N : Int} (hN : NamedIs f x y N) (hp : hs.Perm [N, y, x, f]) (hs4 : Hand4 hs) : showM hs = [N, f, x, y] := by
  obtain ⟨a, b, c, k, num, j, e, r, q, ⟨g0, g1, g2, g3⟩, gs, gn, gr, gq, gb, gN⟩ := named_of hN
  have hp2 : hs.Perm [N, a, b, c] := hp.trans (gs.perm.symm.cons _)
  rw [gs.sum] at gq
  have ho : (N - k).fdiv 4 = 2 * j + e := (div4 (r := r) (by rw [gN, gn, Int.add_sub_cancel]) gr.1 gr.2).1
  have hq : N + (a + b + c) = 4 * (2 * j + e + q) + k := by clear hN hp gs gb hp2 ho; omega
  have fin : ∀ l, hs = l → 0 ≤ k ∧ k < 4 → l.sum = N + (a + b + c) → l.getD k.toNat 0 = N → l.take k.toNat ++ l.drop (k.toNat + 1) = [a, b, c] → showM hs = [N, f, x, y] := by
    intro l hl hk h1 h2 h3
    subst hl
    exact show_at6 (div4 (h1.trans hq) hk.1 hk.2).2 h2 h3 ho gs
  clear hq ho gq gr gn gs hN
  rcases gb with ⟨rfl, gb⟩ | ⟨rfl, gb, gb'⟩ | ⟨rfl, gb, gb'⟩ | ⟨rfl, gb⟩
  · refine fin _ (hand_eq (a := N) (b := a) (c := b) (d := c) ?_ hp2 hs4) (by decide) ?_ rfl rfl
    · clear hp2 hp fin; omega
    · show N + (a + (b + (c + 0))) = _; clear hp2 hp fin; omega
  · refine fin _ (hand_eq (a := a) (b := N) (c := b) (d := c) ?_ (hp2.trans (List.Perm.swap _ _ _)) hs4) (by decide) ?_ rfl rfl
    · clear hp2 hp fin; omega
    · show a + (N + (b + (c + 0))) = _; clear hp2 hp fin; omega
  · refine fin _ (hand_eq (a := a) (b := b) (c := N) (d := c) ?_ (hp2.trans (List.perm_middle (l₁ := [a, b]) (l₂ := [c])).symm) hs4) (by decide) ?_ rfl rfl
    · clear hp2 hp fin; omega
    · show a + (b + (N + (c + 0))) = _; clear hp2 hp fin; omega
  · refine fin _ (hand_eq (a := a) (b := b) (c := c) (d := N) ?_ (hp2.trans (List.perm_middle (l₁ := [a, b, c]) (l₂ := [])).symm) hs4) (by decide) ?_ rfl rfl
    · clear hp2 hp fin; omega
    · show a + (b + (c + (N + 0))) = _; clear hp2 hp fin; omega
theorem ne_of_perm {l l' : List Int} {N : Int} (hp : l.Perm l') (h : ∀ z ∈ l, N ≠ z) : ∀ z ∈ l', N ≠ z := fun z hz => h z (hp.mem_iff.mpr hz)
theorem named_new {f x y N : Int} (hN : NamedIs f x y N) : 0 ≤ N ∧ N < 27 ∧ N ≠ f ∧ N ≠ x ∧ N ≠ y := by
  obtain ⟨a, b, c, k, num, j, e, r, q, ⟨g0, g1, g2, g3⟩, gs, gn, gr, _, gb, gN⟩ := named_of hN
  have hn : N ≠ a ∧ N ≠ b ∧ N ≠ c ∧ 0 ≤ N ∧ N < 27 := by
    have h5 := gs.rng
    have hb : 0 ≤ num ∧ num < 24 := by clear gb gN gs hN; omega
    clear gs gn gr h5 hN
    rcases gb with ⟨rfl, gb⟩ | ⟨rfl, gb, gb'⟩ | ⟨rfl, gb, gb'⟩ | ⟨rfl, gb⟩ <;> omega
  have h3 := ne_of_perm gs.perm (List.forall_mem_cons.mpr ⟨hn.1, List.forall_mem_cons.mpr ⟨hn.2.1, List.forall_mem_cons.mpr ⟨hn.2.2.1, List.forall_mem_nil _⟩⟩⟩)
  exact ⟨hn.2.2.2.1, hn.2.2.2.2, h3 _ (.tail _ (.tail _ (.head _))), h3 _ (.tail _ (.head _)), h3 _ (.head _)⟩
theorem cards_of {f x y N a b c cnt num j e r q : Int} (g : Named f x y N a b c cnt num j e r q) : Cards [y, x, f] := by
  obtain ⟨⟨h0, h1, h2, h3⟩, gs, _⟩ := g
  have hn : [a, b, c].Nodup := .cons (List.forall_mem_cons.mpr ⟨Int.ne_of_lt h1, List.forall_mem_cons.mpr ⟨Int.ne_of_lt (Int.lt_trans h1 h2), List.forall_mem_nil _⟩⟩) (.cons (List.forall_mem_cons.mpr ⟨Int.ne_of_lt h2, List.forall_mem_nil _⟩) (.cons (List.forall_mem_nil _) .nil))
  have hr : ∀ z ∈ [a, b, c], 0 ≤ z ∧ z < 27 := List.forall_mem_cons.mpr ⟨⟨h0, Int.lt_trans h1 (Int.lt_trans h2 h3)⟩, List.forall_mem_cons.mpr ⟨⟨Int.le_trans h0 (Int.le_of_lt h1), Int.lt_trans h2 h3⟩, List.forall_mem_cons.mpr ⟨⟨Int.le_trans h0 (Int.le_of_lt (Int.lt_trans h1 h2)), h3⟩, List.forall_mem_nil _⟩⟩⟩
  exact ⟨gs.perm.nodup_iff.mp hn, fun z hz => hr z (gs.perm.mem_iff.mpr hz)⟩
end
section
variable {w : World} {p : Program} {loose : List Str} {mean : ExcName → Option Value} {mg mb : Str → Option Value}
theorem st_canLay : ∀ ss : List Str, (∀ x ∈ ss, PyData.strOk x = true) → PyData.canLayAll0 (ss.map PyData.str) = true
  | [], _ => rfl
  | x :: r, h => by simp [PyData.canLayAll0, PyData.canLay0, h x (.head _), st_canLay r fun y hy => h y (.tail _ hy)]
theorem st_depth : ∀ ss : List Str, PyData.depthAll (ss.map PyData.str) = 0
  | [] => rfl
  | _ :: r => by simp [PyData.depthAll, PyData.depth, st_depth r]
theorem st_shaped (ss : List Str) (h : ∀ x ∈ ss, PyData.strOk x = true) : SeqAt.shaped (.list (ss.map PyData.str)) = true := by
  simp [SeqAt.shaped, PyData.canLay0, PyData.depth, st_canLay ss h, st_depth]
theorem st_same : ∀ ss : List Str, PySem.Spec.sameAll (ss.map PyData.str) (ss.map PyData.str) = true
  | [] => by simp [PySem.Spec.sameAll]
  | a :: r => by simp [PySem.Spec.sameAll, PySem.Spec.same, st_same r]
section
variable {prog : Program} {A : Around} {E : Value → Shared → Prop} {s : Shared} {h₀ : Heap} {L a b : Addr} {xs ys : List Value} {led : Led} {na nb : Nat} {Q : Value → Shared → Prop}
theorem ne_strsF {ss : List Str} (N : News h₀ L s.heap led) (ha : (a, lstO xs na) ∈ led) (hb : (b, lstO ys nb) ∈ led) (hi : StrsAre xs ss) (hj : StrsAre ys ss) (hok : ∀ x ∈ ss, PyData.strOk x = true) (hu : A.units + 64 < cLine) (h : Q (.bool false) s) :
    wpAny (model prog w) A (compareOp .NotEq (.ref a) (.ref b)) Q E s :=
  ne_dataH_same (reads_newData (isList_of N ha) hi.carried) (reads_newData (isList_of N hb) hj.carried) (st_shaped _ hok) (st_shaped _ hok) hu (SeqAt.noMix_of_shape (.list .str) rfl _ _ (list_map_has fun _ => rfl) (list_map_has fun _ => rfl)) (by
    have e : PySem.Spec.same (.list (ss.map PyData.str)) (.list (ss.map PyData.str)) = true := by simp only [PySem.Spec.same]; exact st_same ss
    rw [e]; exact h)
theorem ne_intsF {ns : List Int} (N : News h₀ L s.heap led) (ha : (a, lstO xs na) ∈ led) (hb : (b, lstO ys nb) ∈ led) (hi : IntsAre xs ns) (hj : IntsAre ys ns) (hu : A.units + 64 < cLine) (h : Q (.bool false) s) :
    wpAny (model prog w) A (compareOp .NotEq (.ref a) (.ref b)) Q E s :=
  ke_ne_ints (isList_of N ha) (isList_of N hb) hi hj hu (by rw [decide_eq_true rfl]; exact h)
theorem eq_intsF {ns : List Int} (N : News h₀ L s.heap led) (ha : (a, lstO xs na) ∈ led) (hb : (b, lstO ys nb) ∈ led) (hi : IntsAre xs ns) (hj : IntsAre ys ns) (hu : A.units + 64 < cLine) (h : Q (.bool true) s) :
    wpAny (model prog w) A (compareOp .Eq (.ref a) (.ref b)) Q E s :=
  ke_eq_ints (isList_of N ha) (isList_of N hb) hi hj hu (by rw [decide_eq_true rfl]; exact h)
end
theorem card_ok0 : ∀ key ∈ rowM, PyData.strOk (cardM key) = true := by decide +kernel
theorem card_strOk {r : Int} (hr : 0 ≤ r ∧ r < 27) : PyData.strOk (cardR r) = true := card_ok0 _ (key_mem hr)
theorem cards_at {vs : List Value} {l : List Int} {i : Nat} {v : Value} (h : StrsAre vs (l.map cardR)) (hv : vs[i]? = some v) : ∃ z t, l[i]? = some z ∧ v = .str (cardR z) t := by
  obtain ⟨y, t, rfl, hy⟩ := h.item _ _ hv
  rw [List.getElem?_map] at hy
  cases hz : l[i]? with
  | none => rw [hz] at hy; cases hy
  | some z => rw [hz] at hy; cases hy; exact ⟨z, t, rfl, rfl⟩
theorem trick_of {hs : List Int} (h : Hand4 hs) : ∃ H f x y, showM hs = [H, f, x, y] ∧ (0 ≤ H ∧ H < 27) ∧ (0 ≤ f ∧ f < 27) ∧ (0 ≤ x ∧ x < 27) ∧ (0 ≤ y ∧ y < 27) ∧ Cards [y, x, f] ∧ ∀ N, NamedIs f x y N → N = H := by
  obtain ⟨H, f, x, y, a, b, c, p, m, j, e, r, q, h0, h2, g⟩ := show_told h
  have hc := cards_of g
  refine ⟨H, f, x, y, h0, h2, hc.2 f (.tail _ (.tail _ (.head _))), hc.2 x (.tail _ (.head _)), hc.2 y (.head _), hc, fun N hN => ?_⟩
  obtain ⟨_, _, _, _, _, _, _, _, _, g'⟩ := named_of hN
  exact named_uniq g' g
theorem four_cards {a b c d : Int} (h : Four a b c d) : Cards [d, c, b, a] := by
  unfold Four at h
  refine ⟨?_, ?_⟩
  · simp only [List.nodup_cons, List.mem_cons, List.not_mem_nil, or_false, not_or, not_false_eq_true, List.nodup_nil, and_true]
    omega
  · intro r hr
    simp only [List.mem_cons, List.not_mem_nil, or_false] at hr
    omega
theorem three_at {f x y : Int} (hf : 0 ≤ f ∧ f < 27) (hx : 0 ≤ x ∧ x < 27) (hy : 0 ≤ y ∧ y < 27) : ∀ z ∈ [f, x, y], 0 ≤ z ∧ z < 27 := by
  intro z hz
  simp only [List.mem_cons, List.not_mem_nil, or_false] at hz
  omega
end
section
variable {w : World} {p : Program} {loose : List Str} {mean : ExcName → Option Value} {mg mb : Str → Option Value}
section
variable {a1 a2 a3 a4 : Int} {k1 k2 k3 k4 tw tn : Tok} {D f2 c2 C dx x f1 ds pb : Addr} {o2 oc2 oC o1 oD : Obj} {vs ws : List Value} {k kp : Nat} {n : Int} {pre rest : Led}
abbrev LexOrd (D f2 c2 C dx x f1 ds pb : Addr) : Prop := (@LT.lt Nat _ C D ∧ @LT.lt Nat _ D f1 ∧ @LT.lt Nat _ f1 c2 ∧ @LT.lt Nat _ c2 f2 ∧ @LT.lt Nat _ f2 ds) ∧ @LT.lt Nat _ ds dx ∧ @LT.lt Nat _ dx x ∧ @LT.lt Nat _ x pb
end
theorem strs3 {vs : List Value} {a b c : Str} (h : StrsAre vs [a, b, c]) : ∃ ta tb tc, vs = [.str a ta, .str b tb, .str c tc] := by
  obtain ⟨ta, v1, rfl, h1⟩ := h.cons_inv
  obtain ⟨tb, v2, rfl, h2⟩ := h1.cons_inv
  obtain ⟨tc, v3, rfl, h3⟩ := h2.cons_inv
  rw [h3.nil_inv]
  exact ⟨ta, tb, tc, rfl⟩
theorem strs5 {vs : List Value} {a b c d e : Str} (h : StrsAre vs [a, b, c, d, e]) : ∃ ta tb tc td te, vs = [.str a ta, .str b tb, .str c tc, .str d td, .str e te] := by
  obtain ⟨ta, v1, rfl, h1⟩ := h.cons_inv
  obtain ⟨tb, tc, td, te, rfl⟩ := strs4 h1
  exact ⟨ta, tb, tc, td, te, rfl⟩
theorem Con.mono {f : Value} {vs : List Value} {kw : List (Str × Value)} {D U D' U' : Nat} {news : Led} {Post : Value → Led → Prop} (C : Con w p loose mean mg mb f vs kw D U news Post) (hD : D ≤ D') (hU : U ≤ U') : Con w p loose mean mg mb f vs kw D' U' news Post := by
  unfold Con at C ⊢
  intro dp un gd env outer A₀ base h₀ L m sh sg sd st so R B F X N T hc hf hk hd hu hret
  exact C dp un gd env outer A₀ base h₀ L m sh sg sd st so R B F X N T hc hf hk (by omega) (by omega) hret
def TakeS (l3 : List Str) (w0 : Int) (i : Nat) (wsb vs : List Value) : Prop := StrsAre wsb (l3.drop i) ∧ StrsAre vs ((if i ≤ 3 then crL w0 ++ [101, 110, 100] else []).map oneS)
section
variable {a1 a2 a3 a4 : Int} {k1 k2 k3 k4 tw tn : Tok} {D f2 c2 C dx x f1 ds pb : Addr} {o2 oc2 oC o1 oD : Obj} {vs wsb : List Value} {k kp : Nat} {n : Int} {pre rest : Led}
end
def TakeJ (led : List Value → Nat → Tok → List Value → Nat → Led) (l3 : List Str) (w0 : Int) (i : Nat) (ys : List Value) (nw : Led) : Prop :=
  ∃ vs k tn wsb kb, nw = led vs k tn wsb kb ∧ TakeS l3 w0 i wsb vs ∧ StrsAre ys ((l3 ++ [Str.ofString "end", Str.ofString ""]).take i)
theorem TakeJ.next {led : List Value → Nat → Tok → List Value → Nat → Led} {l3 : List Str} {w0 : Int} {i : Nat} {ys : List Value} {y : Str} {t : Tok} {vs : List Value} {k : Nat} {tn : Tok} {wsb : List Value} {kb : Nat} (hys : StrsAre ys ((l3 ++ [Str.ofString "end", Str.ofString ""]).take i)) (hy : (l3 ++ [Str.ofString "end", Str.ofString ""])[i]? = some y) (hs : TakeS l3 w0 (i + 1) wsb vs) : TakeJ led l3 w0 (i + 1) (ys ++ [.str y t]) (led vs k tn wsb kb) := by
  refine ⟨vs, k, tn, wsb, kb, rfl, hs, ?_⟩
  rw [List.take_add_one, hy]
  exact kct_snoc hys
end
section
variable {w : World} {p : Program} {loose : List Str} {mean : ExcName → Option Value} {mg mb : Str → Option Value}
theorem NoCode.t4 {c : Addr} : NoCode (T4 c) := fun v h s t => by cases h; simp [rawInt]
theorem NoCode.t5 {c : Addr} : NoCode (T5 c) := fun v h s t => by cases h; simp [rawInt]
end
section
variable {w : World} {p : Program} {loose : List Str} {mean : ExcName → Option Value} {mg mb : Str → Option Value}
section
variable {prog : Program} {A : Around} {E : Value → Shared → Prop} {s : Shared} {h₀ : Heap} {L : Addr} {m : Str → Option Value} {env : Env}
def TupAt (ax : Addr) (its : Array Value) (nw : Led) : Prop := ∃ o, (ax, o) ∈ nw ∧ o.cls = .type "tuple" ∧ ∃ n, o.data = .seq its n
def TupSrc (prog : Program) (w : World) (A : Around) (h₀ : Heap) (L : Addr) (m : Str → Option Value) (env : Env) (elt : Expr) (x : Str) (scope : Scope) (cl : List (Str × Addr)) (Fin : Shared → List Value → Led → Prop) (xv : Value) (s₁ : Shared) : Prop :=
  ∃ ax its news, xv = .ref ax ∧ A.handled = none ∧ Fr h₀ L s₁.heap m ∧ News h₀ L s₁.heap news ∧ TupAt ax its news ∧ its.size ≤ sizeLine ∧
    ∀ s₂ : Shared, (∃ h, s₂ = { s₁ with heap := h }) → LCg.CompRest prog w A h₀ L m env elt x scope cl s₂ (TupAt ax its) (fun i v => its[i]? = some v) (Fin s₂) its.size 0 [] news
theorem TupSrc.intro {elt : Expr} {x : Str} {scope : Scope} {cl : List (Str × Addr)} {Fin : Shared → List Value → Led → Prop} {ax : Addr} {its : Array Value} {k : Nat} {news : Led} {s₁ : Shared}
    (hh : A.handled = none) (F : Fr h₀ L s₁.heap m) (N : News h₀ L s₁.heap news) (hm : (ax, ({ cls := .type "tuple", data := .seq its k } : Obj)) ∈ news) (hsz : its.size ≤ sizeLine)
    (h : ∀ g, LCg.CompRest prog w A h₀ L m env elt x scope cl { s₁ with heap := g } (TupAt ax its) (fun i v => its[i]? = some v) (Fin { s₁ with heap := g }) its.size 0 [] news) :
    TupSrc prog w A h₀ L m env elt x scope cl Fin (.ref ax) s₁ := ⟨ax, its, news, rfl, hh, F, N, ⟨_, hm, rfl, _, rfl⟩, hsz, fun _ ⟨g, e⟩ => e ▸ h g⟩
theorem tup_st {ax I : Addr} {its : Array Value} : ∀ i (h h' : Heap) (o : Obj) (nw : Led), (h.IsTupleIter I ax i ∧ h.IsTuple ax its) → h.get? I = some o → h'.get? I = some o → (∀ b o, h₀.get? b = some o → h'.get? b = some o) → News h₀ L h' nw → TupAt ax its nw → (h'.IsTupleIter I ax i ∧ h'.IsTuple ax its) :=
  fun i h h' o nw st e e' k N S => ⟨by obtain ⟨o', q, r⟩ := st.1; rw [e] at q; cases q; exact ⟨o, e', r⟩, by obtain ⟨o', hm, r⟩ := S; exact ⟨o', (N _ hm).1, r⟩⟩
theorem ListComp_P {elt iter : Expr} {x : Str} {px : Pos} {scope : Scope} {cl : List (Str × Addr)} {pos : Pos} {Q : Value → Shared → Prop} (F₀ : Fr h₀ L s.heap m)
    (hclos : closureFor scope env = pure cl) (hcell : ∀ y ∈ scope.names, y.2 ≠ .cell) (hkind : scope.kind = .function)
    (hnames : ∀ y ∈ scope.names, y.2 = .local → scope.names.lookup y.1 = some .local) (hx : scope.names.lookup x = some .local)
    (h : wpAny (model prog w) A (eval iter env) (TupSrc prog w A h₀ L m env elt x scope cl (fun s₂ => LCg.FinE h₀ L m s₂ Q)) E s)
    (hs : ∀ x, foldedSetIterable iter env x = pure x := by intro _; rfl) :
    wpAny (model prog w) A (eval (.ListComp elt [⟨.Name x px, iter, [], 0⟩] scope pos) env) Q E s := by
  rw [eval_ListComp]
  refine wpAny_comprehension_free (use := none) rfl hs hclos hkind hnames (wpAny_mono h (fun xv s₁ h₁ => ?_) fun _ _ e => e)
  obtain ⟨ax, its, news, rfl, hh, F, N, S, hsz, R⟩ := h₁
  have hl : s₁.heap.IsTuple ax its := by obtain ⟨o', hm, r⟩ := S; exact ⟨o', (N _ hm).1, r⟩
  have hlt : ax < s₁.heap.objs.size := by obtain ⟨_, e, _⟩ := hl; exact Heap.lt_size e
  refine wpAny_pyIter_tuple hl ?_
  have up : ∀ b o, s₁.heap.get? b = some o → (s₁.heap.push { cls := .type "tuple_iterator", data := .fields #[.ref ax, .int 0 0] }).get? b = some o := fun b o e => Heap.get?_push_of_some _ e
  have hl2 : (s₁.heap.push { cls := .type "tuple_iterator", data := .fields #[.ref ax, .int 0 0] }).IsTuple ax its := by obtain ⟨o', e, r⟩ := hl; exact ⟨o', up _ _ e, r⟩
  refine LCg.block_U (Walks.tuple hh s₁.heap.objs.size ax (Nat.ne_of_lt hlt) its) hsz (fun i h st => by obtain ⟨o, e, _⟩ := st.1; exact ⟨o, e⟩) tup_st hcell hkind hx ⟨⟨_, Heap.get?_push_size _ rfl, rfl, rfl⟩, hl2⟩ (fun b hb => ?_)
    (F.keeps up) (N.grown up) (Nat.ne_of_lt F.ns.lt) (next_is_new F) (fun p hp => Nat.ne_of_lt (Heap.lt_size (N p hp).1)) S (R _ ⟨_, rfl⟩) ?_
  · show b < (s₁.heap.push _).objs.size
    rw [Heap.size_push]
    rcases List.mem_cons.mp hb with rfl | hb
    · exact Nat.lt_succ_self _
    · rw [List.mem_singleton.mp hb]; exact Nat.lt_succ_of_lt hlt
  · intro D C h tk m' ys news' F' N' o1 hn hC₀ hD₀ hCL hDL hCD offC fin
    refine ⟨m', hn, fun h'' hs'' => fin D h'' tk (F'.change hs'' hCL hC₀) (fun p hp => ?_) o1⟩
    refine ⟨hs''.extBut _ _ ?_ (N' p hp).1, (N' p hp).2⟩
    rcases List.mem_cons.mp hp with rfl | hp
    · exact Ne.symm hCD
    · exact offC p hp
theorem div_ok {a b : Int} {t u : Tok} {Q : Value → Shared → Prop} (hb : b ≠ 0) (hi : ¬ Float64.isInf (Float64.ofFrac (decide (a < 0) != decide (b < 0)) a.natAbs b.natAbs) = true) (h : Q (.float (Float64.ofFrac (decide (a < 0) != decide (b < 0)) a.natAbs b.natAbs) s.toks) { s with toks := s.toks + 1 }) : wpAny (model prog w) A (binaryOp .Div (.int a t) (.int b u)) Q E s :=
  AutoIntOps.truediv_2 (by simpa using hb) hi h
end
def frac (a b : Int) : UInt64 := Float64.ofFrac (decide (a < 0) != decide (b < 0)) a.natAbs b.natAbs
def colHue (b k : Int) : UInt64 := Float64.add (Float64.ofInt b) (frac (k.fdiv 9) 12)
def colShare (k : Int) : UInt64 := frac ((k.fdiv 3).fmod 3) 2
def colVal (k : Int) : UInt64 := frac (k.fmod 3) 2
def signNo (c : Nat) : Int := Txt.find signs3 ⟨#[c]⟩
def colChk (b k : Int) : Bool :=
  match (cardM k).cps.toList, hsvM (colHue b k) (colShare k) (colVal k) with
  | [x, y, z], some (p, q, r) => signOk x && signOk y && signOk z && !Float64.isInf (frac (k.fdiv 9) 12) && !Float64.isInf (frac ((k.fdiv 3).fmod 3) 2) && !Float64.isInf (frac (k.fmod 3) 2) &&
      Float64.isFinite (nearM p 2) && Float64.isFinite (nearM q 2) && Float64.isFinite (nearM r 2) &&
      (Flt.toInt Float64.truncOf (nearM p 2) == signNo x * 2 ^ Int.toNat 20) && (Flt.toInt Float64.truncOf (nearM q 2) == signNo y * 2 ^ Int.toNat 20) && (Flt.toInt Float64.truncOf (nearM r 2) == signNo z * 2 ^ Int.toNat 20)
  | _, _ => false
theorem colChk_all : ∀ k ∈ rowM, ∀ b ∈ [(0 : Int), 1], colChk b k = true := by decide +kernel
theorem col_get {b k : Int} (hk : k ∈ rowM) (hb : 0 ≤ b ∧ b < 2) : ∃ x y z p q r, (cardM k).cps = #[x, y, z] ∧ (∀ (i : Nat) (u : Nat), (cardM k).cps[i]? = some u → u = 10 ∨ u = 34 ∨ u = 92) ∧ (¬ Float64.isInf (frac (k.fdiv 9) 12) = true ∧ ¬ Float64.isInf (frac ((k.fdiv 3).fmod 3) 2) = true ∧ ¬ Float64.isInf (frac (k.fmod 3) 2) = true) ∧
    hsvM (colHue b k) (colShare k) (colVal k) = some (p, q, r) ∧ (Float64.isFinite (nearM p 2) = true ∧ Flt.toInt Float64.truncOf (nearM p 2) = signNo x * 2 ^ Int.toNat 20) ∧ (Float64.isFinite (nearM q 2) = true ∧ Flt.toInt Float64.truncOf (nearM q 2) = signNo y * 2 ^ Int.toNat 20) ∧ (Float64.isFinite (nearM r 2) = true ∧ Flt.toInt Float64.truncOf (nearM r 2) = signNo z * 2 ^ Int.toNat 20) := by
  have hb2 : b ∈ [(0 : Int), 1] := by
    have : b = 0 ∨ b = 1 := by omega
    rcases this with rfl | rfl
    · exact .head _
    · exact .tail _ (.head _)
  have h := colChk_all k hk b hb2
  unfold colChk at h
  split at h
  case h_2 => cases h
  case h_1 x y z p q r hw hM =>
    simp only [Bool.and_eq_true, beq_iff_eq, Bool.not_eq_true'] at h
    obtain ⟨⟨⟨⟨⟨⟨⟨⟨⟨⟨⟨sx, sy⟩, sz⟩, i1⟩, i2⟩, i3⟩, f1⟩, f2⟩, f3⟩, e1⟩, e2⟩, e3⟩ := h
    have hw' : (cardM k).cps = #[x, y, z] := Array.toList_inj.mp hw
    have so : ∀ n, signOk n = true → n = 10 ∨ n = 34 ∨ n = 92 := fun n hn => by
      simp only [signOk, Bool.or_eq_true, beq_iff_eq] at hn
      omega
    refine ⟨x, y, z, p, q, r, hw', fun i u hu => ?_, ⟨by rw [i1]; exact Bool.false_ne_true, by rw [i2]; exact Bool.false_ne_true, by rw [i3]; exact Bool.false_ne_true⟩, hM, ⟨f1, e1⟩, ⟨f2, e2⟩, ⟨f3, e3⟩⟩
    rw [hw'] at hu
    match i, hu with
    | 0, hu => cases hu; exact so _ sx
    | 1, hu => cases hu; exact so _ sy
    | 2, hu => cases hu; exact so _ sz
    | n + 3, hu => simp at hu
theorem floats_at {p q r : UInt64} {a b c : Tok} {x y z : Nat} {i : Nat} {v : Value} (hv : [Value.float p a, .float q b, .float r c][i]? = some v) : ∃ u n t, v = .float u t ∧ [(p, x), (q, y), (r, z)][i]? = some (u, n) ∧ ((u, n) = (p, x) ∨ (u, n) = (q, y) ∨ (u, n) = (r, z)) := by
  match i, hv with
  | 0, hv => cases hv; exact ⟨p, x, a, rfl, rfl, .inl rfl⟩
  | 1, hv => cases hv; exact ⟨q, y, b, rfl, rfl, .inr (.inl rfl)⟩
  | 2, hv => cases hv; exact ⟨r, z, c, rfl, rfl, .inr (.inr rfl)⟩
  | n + 3, hv => simp at hv
theorem signNo_of : ∀ c ∈ [10, 34, 92], Txt.find signs3 ⟨#[c]⟩ ≠ -1 ∧ 0 ≤ Txt.find signs3 ⟨#[c]⟩ ∧ Txt.find signs3 ⟨#[c]⟩ ≤ 2 := by decide +kernel
end
section
variable {w : World} {p : Program} {loose : List Str} {mean : ExcName → Option Value} {mg mb : Str → Option Value}
theorem bits_neg {a : Int} (h : -2 ^ 78 ≤ a ∧ a < 2 ^ 78) : (0 ≤ -a ∧ Builtin.Int.intBits (-a) ≤ 80) ∨ (-a < 0 ∧ Builtin.Int.intBits (Builtin.bitNot (-a)) ≤ 80) := by
  have hb := bits80 (a := -a) (by omega)
  by_cases hn : -a < 0
  · exact .inr ⟨hn, hb.2⟩
  · exact .inl ⟨by omega, hb.1⟩
theorem tot_bounds2 (x : Int) : -2 ^ 78 ≤ x.fmod (81 * (17550 * 81 ^ Int.toNat 8)) - 40 * (17550 * 81 ^ Int.toNat 8) ∧ x.fmod (81 * (17550 * 81 ^ Int.toNat 8)) - 40 * (17550 * 81 ^ Int.toNat 8) < 2 ^ 78 := by
  have e : (17550 * 81 ^ Int.toNat 8 : Int) = 32520504314349809550 := by decide +kernel
  rw [e]
  have h1 := Int.fmod_nonneg_of_pos x (show (0 : Int) < 81 * 32520504314349809550 by decide)
  have h2 := Int.fmod_lt_of_pos x (show (0 : Int) < 81 * 32520504314349809550 by decide)
  omega
end
section
variable {w : World} {p : Program} {loose : List Str} {mean : ExcName → Option Value} {mg mb : Str → Option Value}
theorem item_last {prog : Program} {A : Around} {E : Value → Shared → Prop} {s : Shared} {h₀ : Heap} {L l : Addr} {vs : List Value} {v : Value} {n : Nat} {u : Tok} {led : Led} {value slice : Expr} {Q : Value → Shared → Prop}
    (N : News h₀ L s.heap led) (hm : (l, lstO (vs ++ [v]) n) ∈ led) (hlen : vs.length < 2 ^ 20) (h : Q v s)
    (hs : subscripted slice false (.ref l) (.int (-1) u) = operate [.ref l, .int (-1) u] (getItem (.ref l) (.int (-1) u)) := by with_unfolding_all rfl) :
    wpAny (model prog w) A (subscriptTail value slice (.ref l) (.int (-1) u)) Q E s := by
  have hl := isList_of N hm
  have hx : (vs ++ [v]).toArray[(-1 + ((vs ++ [v]).toArray.size : Int)).toNat]? = some v := by
    have e : (-1 + ((vs ++ [v]).toArray.size : Int)).toNat = vs.length := by rw [List.size_toArray, List.length_append, List.length_singleton]; omega
    rw [e]
    simp
  exact tail_any hl.typeIs slot_list_getitem.lookup (wpAny_getItem_list_neg hl (by decide) (by rw [List.size_toArray, List.length_append, List.length_singleton]; omega) (by decide) hx h) hs
def DeckOk (k : Nat) (dn sn : List Int) : Prop := sn.length = k ∧ dn.length + k = 27 ∧ (sn ++ dn).Nodup ∧ ∀ r ∈ sn ++ dn, 0 ≤ r ∧ r < 27
theorem deck_start : DeckOk 0 (rangeInts 0 1 27) [] := ⟨rfl, rfl, by decide +kernel, by decide +kernel⟩
theorem DeckOk.next {k : Nat} {dn sn : List Int} {i : Int} (h : DeckOk k dn sn) (h0 : 0 ≤ i) (h1 : i < dn.length) : DeckOk (k + 1) (dn.take i.toNat ++ dn.drop (i.toNat + 1)) (sn ++ [dn.getD i.toNat 0]) ∧ 0 ≤ dn.getD i.toNat 0 ∧ dn.getD i.toNat 0 < 27 := by
  obtain ⟨a, b, c, d⟩ := h
  have hi : i.toNat < dn.length := by omega
  have hp : (sn ++ [dn.getD i.toNat 0] ++ (dn.take i.toNat ++ dn.drop (i.toNat + 1))).Perm (sn ++ dn) := by
    rw [List.append_assoc]
    refine List.Perm.append_left _ ?_
    have e : dn = dn.take i.toNat ++ dn.getD i.toNat 0 :: dn.drop (i.toNat + 1) := by
      rw [getD_eq hi, ← List.drop_eq_getElem_cons hi, List.take_append_drop]
    have h2 := (List.perm_middle (a := dn.getD i.toNat 0) (l₁ := dn.take i.toNat) (l₂ := dn.drop (i.toNat + 1))).symm
    rw [← e] at h2
    exact h2
  refine ⟨⟨by simp [a], ?_, hp.nodup_iff.mpr c, fun r hr => d r (hp.mem_iff.mp hr)⟩, ?_⟩
  · rw [List.length_append, List.length_take, List.length_drop]; omega
  · refine d _ (List.mem_append_right _ ?_)
    rw [getD_eq hi]
    exact List.getElem_mem hi
def placesL (q : Int) : List Int := [q.fdiv 650, (q.fmod 650).fdiv 25, q.fmod 25]
theorem places_ok {q : Int} (h : 0 ≤ q ∧ q < 17550) {k : Nat} {z : Int} (hz : (placesL q)[k]? = some z) : 0 ≤ z ∧ z + k < 27 := by
  have e1 : q.fdiv 650 = q / 650 := Int.fdiv_eq_ediv_of_nonneg _ (by decide)
  have e2 : q.fmod 650 = q % 650 := Int.fmod_eq_emod_of_nonneg _ (by decide)
  have e3 : (q % 650).fdiv 25 = q % 650 / 25 := Int.fdiv_eq_ediv_of_nonneg _ (by decide)
  have e4 : q.fmod 25 = q % 25 := Int.fmod_eq_emod_of_nonneg _ (by decide)
  unfold placesL at hz
  rw [e1, e2, e3, e4] at hz
  match k, hz with
  | 0, hz => cases hz; omega
  | 1, hz => cases hz; omega
  | 2, hz => cases hz; omega
  | n + 3, hz => simp at hz
theorem less_ok (a : Int) : 0 ≤ -(a.fmod (-17550)) ∧ -(a.fmod (-17550)) < 17550 := by
  have h := (neg2_div (-a) 17550).2
  rw [Int.neg_neg] at h
  rw [h]
  exact ⟨Int.fmod_nonneg_of_pos _ (by decide), Int.fmod_lt_of_pos _ (by decide)⟩
theorem deck3 {dn sn : List Int} (h : DeckOk 3 dn sn) : ∃ a b c, sn = [a, b, c] ∧ (0 ≤ a ∧ a < 27) ∧ (0 ≤ b ∧ b < 27) ∧ (0 ≤ c ∧ c < 27) ∧ Cards [c, b, a] := by
  obtain ⟨h1, _, h3, h4⟩ := h
  match sn, h1 with
  | [a, b, c], _ =>
    have hn : [a, b, c].Nodup := (List.nodup_append.mp h3).1
    have hb : ∀ r ∈ [a, b, c], 0 ≤ r ∧ r < 27 := fun r hr => h4 r (List.mem_append_left _ hr)
    refine ⟨a, b, c, rfl, hb a (by simp), hb b (by simp), hb c (by simp), ?_, ?_⟩
    · simp only [List.nodup_cons, List.mem_cons, List.not_mem_nil, or_false, not_or, not_false_eq_true, List.nodup_nil, and_true] at hn ⊢
      omega
    · intro r hr
      simp only [List.mem_cons, List.not_mem_nil, or_false] at hr
      exact hb r (by simp only [List.mem_cons, List.not_mem_nil, or_false]; omega)
theorem cards_more {a b c N : Int} (h : Cards [c, b, a]) (hN : 0 ≤ N ∧ N < 27 ∧ N ≠ a ∧ N ≠ b ∧ N ≠ c) : Cards [N, c, b, a] := by
  obtain ⟨h1, h2⟩ := h
  refine ⟨List.nodup_cons.mpr ⟨?_, h1⟩, List.forall_mem_cons.mpr ⟨⟨hN.1, hN.2.1⟩, h2⟩⟩
  simp only [List.mem_cons, List.not_mem_nil, or_false, not_or]
  omega
def SeenJ (led : List Value → Nat → Led) (l3 : List Int) (i : Nat) (ys : List Value) (nw : Led) : Prop := ∃ wsb kb, nw = led wsb kb ∧ StrsAre wsb ((l3.drop i).map cardR) ∧ IntsAre ys (l3.take i)
theorem SeenJ.turn {led : List Value → Nat → Led} {l3 : List Int} {i : Nat} {ys : List Value} {nw : Led} (h : SeenJ led l3 i ys nw) (hi : i < l3.length) (h40 : l3.length ≤ 40) :
    ∃ z t ws kb, l3[i]? = some z ∧ nw = led (.str (cardR z) t :: ws) kb ∧ (Value.str (cardR z) t :: ws).length ≤ 40 ∧ ∀ t', SeenJ led l3 (i + 1) (ys ++ [.int z t']) (led ws (kb + 1)) := by
  obtain ⟨wsb, kb, rfl, hw, hy⟩ := h
  rw [List.drop_eq_getElem_cons hi, List.map_cons] at hw
  obtain ⟨t, ws, rfl, hw2⟩ := hw.cons_inv
  have hl := strs_len hw2
  rw [List.length_map, List.length_drop] at hl
  refine ⟨l3[i], t, ws, kb, List.getElem?_eq_getElem hi, rfl, by rw [List.length_cons]; omega, fun t' => ⟨ws, kb + 1, rfl, hw2, ?_⟩⟩
  rw [List.take_add_one, List.getElem?_eq_getElem hi]
  exact ints_snoc hy _ _
end
section
local macro_rules | `(tactic| walk_at "M_SPARE") => `(tactic| skip)
example : True ∧ True := by
  w_top off
  (first | walk1 | skip) <;> (first | trivial | exact ⟨trivial, trivial⟩)
example : True := by
  w_top off
  k_with_none
  trivial
end
section
section
inductive VC where
  | int (i : Int) | float (f : UInt64) | str (s : Str) | val (v : Value)
def VC.at : VC → Nat → Value
  | .int i, k => .int i k | .float f, k => .float f k | .str s, k => .str s k | .val v, _ => v
abbrev Loc := List (Str × VC)
def Loc.at (m : Loc) (τ : Str → Nat) (ρ : Str → Option Value) : Str → Option Value := fun y => match m.lookup y with | some c => some (c.at (τ y)) | none => ρ y
set_option genInjectivity false in
/-- where a def's body is walked -/
structure Cx (w : World) (p : Program) (loose : List Str) (mean : ExcName → Option Value) (mg mb : Str → Option Value) (D U : Nat) where
  dp : Nat
  un : Nat
  gd : Option (List Code)
  cn : Str
  L : Addr
  a : Addr
  ccd : Value
  cl : List (Str × Addr)
  cnn : (cl.map (·.1)).Nodup
  /-- objects that the walk does not see -/
  hid : Led
  outer : List Env
  A₀ : Around
  base : Heap
  h₀ : Heap
  g : Array GenState
  d : Drawn
  o : OsState
  B : Below A₀ base outer h₀
  X : (hd.heap_1 w.params).In h₀
  T : Top p loose mean mg mb h₀
  hc : CodesAt base
  hdp : dp + D < recursionLimit
  hun : un + U < cLine
section
variable {w : World} {p : Program} {loose : List Str} {mean : ExcName → Option Value} {mg mb : Str → Option Value} {D U : Nat}
abbrev Cx.env (X : Cx w p loose mean mg mb D U) (cs : Scope) : Env := envX X.cn cs X.L X.a X.ccd X.cl
abbrev Cx.A (X : Cx w p loose mean mg mb D U) (cs : Scope) : Around := { handled := none, depth := X.dp, frames := some (X.env cs :: X.outer), guards := X.gd, units := X.un }
abbrev Cx.M (_ : Cx w p loose mean mg mb D U) : Model := model PySem.Challenge.rw_uj0005_01.row.prog w
abbrev Cx.s (X : Cx w p loose mean mg mb D U) (h : Heap) (t : Nat) : Shared := { heap := h, gens := X.g, drawn := X.d, toks := t, os := X.o }
def CoOK : List (Str × Addr) → Loc → Led → Prop
  | [], _, co => co = []
  | q :: cl, mc, co => ∃ o v co', co = (q.2, o) :: co' ∧ o.data = .cell v ∧ (∀ c, mc.lookup q.1 = some c → ∃ k, v = some (c.at k)) ∧ CoOK cl mc co'
def Hid (X : Cx w p loose mean mg mb D U) (mc : Loc) (co : Led) : Prop := ∃ cc, co = cc ++ X.hid ∧ CoOK X.cl mc cc
structure HidOK (X : Cx w p loose mean mg mb D U) (mc : Loc) (N co : Led) : Prop where
  h : Hid X mc co
  n : (co.map (·.1)).Nodup
  o : ∀ q ∈ N, ∀ r ∈ co, q.1 ≠ r.1
structure At (X : Cx w p loose mean mg mb D U) (m : Str → Option Value) (mc : Loc) (N : Led) (h : Heap) : Prop where
  F : Fr X.h₀ X.L h m
  D : ∀ y c, mc.lookup y = some c → (X.cl.lookup y).isSome = true
  C : ∃ co, Hid X mc co ∧ (co.map (·.1)).Nodup ∧ News X.h₀ X.L h (N ++ co) ∧ ∀ q ∈ N, ∀ r ∈ co, q.1 ≠ r.1
theorem At.N {X : Cx w p loose mean mg mb D U} {m : Str → Option Value} {mc : Loc} {N : Led} {h : Heap} (a : At X m mc N h) : News X.h₀ X.L h N := by
  obtain ⟨co, _, _, N', _⟩ := a.C
  exact fun q hq => N' q (List.mem_append_left _ hq)
theorem At.more {X : Cx w p loose mean mg mb D U} {m m' : Str → Option Value} {mc : Loc} {N N' : Led} {h h' : Heap} (a : At X m mc N h)
    (H : ∀ co, Hid X mc co → News X.h₀ X.L h (N ++ co) → (∀ q ∈ N, ∀ r ∈ co, q.1 ≠ r.1) → Fr X.h₀ X.L h' m' ∧ News X.h₀ X.L h' (N' ++ co) ∧ ∀ q ∈ N', (∃ o, (q.1, o) ∈ N) ∨ ∀ r ∈ co, q.1 ≠ r.1) : At X m' mc N' h' := by
  obtain ⟨co, c1, c4, c2, c3⟩ := a.C
  obtain ⟨h1, h2, h3⟩ := H co c1 c2 c3
  exact ⟨h1, a.D, co, c1, c4, h2, fun q hq => (h3 q hq).elim (fun ⟨o, h⟩ => c3 (_, o) h) id⟩
theorem At.sub {X : Cx w p loose mean mg mb D U} {m : Str → Option Value} {mc : Loc} {N N' : Led} {h : Heap} (a : At X m mc N h) (hs : ∀ q ∈ N', q ∈ N) : At X m mc N' h :=
  a.more fun _ _ N1 _ => ⟨a.F, fun q hq => N1 q ((List.mem_append.mp hq).elim (fun h => List.mem_append_left _ (hs q h)) (List.mem_append_right _)), fun q hq => .inl ⟨q.2, hs q hq⟩⟩
theorem news_upd {h₀ h h' : Heap} {L b : Addr} {m : Str → Option Value} {pre post : Led} {o o' : Obj} (F : Fr h₀ L h m) (N : News h₀ L h (pre ++ (b, o) :: post)) (hoff : ∀ q ∈ pre ++ post, q.1 ≠ b) (ho : h'.get? b = some o') (hs : ∀ a ob, a ≠ b → h.get? a = some ob → h'.get? a = some ob) :
    Fr h₀ L h' m ∧ News h₀ L h' (pre ++ (b, o') :: post) := by
  have hb := N (b, o) (List.mem_append_right _ (.head _))
  obtain ⟨on, es, ep, n1, n2⟩ := F.ns
  refine ⟨⟨⟨on, es, ep, hs L on (Ne.symm hb.2.1) n1, n2⟩, fun a ob e => hs a ob (fun q => ?_) (F.keep a ob e), F.above⟩, fun q hq => ?_⟩
  · rw [q, hb.2.2] at e; cases e
  · rcases List.mem_append.mp hq with hq | hq
    · have := N q (List.mem_append_left _ hq)
      exact ⟨hs _ _ (hoff q (List.mem_append_left _ hq)) this.1, this.2⟩
    · rcases List.mem_cons.mp hq with rfl | hq
      · exact ⟨ho, hb.2⟩
      · have := N q (List.mem_append_right _ (.tail _ hq))
        exact ⟨hs _ _ (hoff q (List.mem_append_right _ hq)) this.1, this.2⟩
inductive EP (X : Cx w p loose mean mg mb D U) (m : Str → Option Value) (mc : Loc) (Q : VC → Led → Prop) : Value → Shared → Prop
  | mk (c : VC) (k : Nat) (N : Led) (h : Heap) (t : Nat) (a : At X m mc N h) (q : Q c N) : EP X m mc Q (c.at k) (X.s h t)
theorem EP.el {X : Cx w p loose mean mg mb D U} {m : Str → Option Value} {mc : Loc} {Q : VC → Led → Prop} {P : Value → Shared → Prop} (H : ∀ c k N h t, At X m mc N h → Q c N → P (c.at k) (X.s h t)) : ∀ v s, EP X m mc Q v s → P v s := fun _ _ e => EP.rec (motive := fun v s _ => P v s) H e
def GE (X : Cx w p loose mean mg mb D U) (cs : Scope) (en : Env) (f : Str → Option Value) (mc : Loc) (N : Led) (e : Expr) (Q : VC → Led → Prop) : Prop :=
  ∀ h t E, At X f mc N h → wpAny X.M (X.A cs) (eval e en) (EP X f mc Q) E (X.s h t)
def WE (X : Cx w p loose mean mg mb D U) (cs : Scope) (mc m : Loc) (N : Led) (e : Expr) (Q : VC → Led → Prop) : Prop :=
  cs.kind = .function → ∀ τ ρ, GE X cs (X.env cs) (m.at τ ρ) mc N e Q
inductive FinS where
  | next (mc m : Loc) (N : Led) | brk (mc m : Loc) (N : Led) | cont (mc m : Loc) (N : Led) | ret (c : VC) (N : Led)
inductive SP (X : Cx w p loose mean mg mb D U) (Q : FinS → Prop) : Flow → Shared → Prop
  | next (mc m : Loc) (N : Led) (h : Heap) (t : Nat) (τ : Str → Nat) (ρ : Str → Option Value) (a : At X (m.at τ ρ) mc N h) (q : Q (.next mc m N)) : SP X Q .next (X.s h t)
  | brk (mc m : Loc) (N : Led) (h : Heap) (t : Nat) (τ : Str → Nat) (ρ : Str → Option Value) (a : At X (m.at τ ρ) mc N h) (q : Q (.brk mc m N)) : SP X Q .brk (X.s h t)
  | cont (mc m : Loc) (N : Led) (h : Heap) (t : Nat) (τ : Str → Nat) (ρ : Str → Option Value) (a : At X (m.at τ ρ) mc N h) (q : Q (.cont mc m N)) : SP X Q .cont (X.s h t)
  | ret (c : VC) (k : Nat) (mc : Loc) (f : Str → Option Value) (N : Led) (h : Heap) (t : Nat) (a : At X f mc N h) (q : Q (.ret c N)) : SP X Q (.ret (c.at k)) (X.s h t)
def WS (X : Cx w p loose mean mg mb D U) (cs : Scope) (Q : FinS → Prop) (mc m : Loc) (N : Led) (ss : List Stmt) : Prop :=
  cs.kind = .function → ∀ τ ρ h t E, At X (m.at τ ρ) mc N h → wpAny X.M (X.A cs) (execs ss (X.env cs)) (SP X Q) E (X.s h t)
def W1 (X : Cx w p loose mean mg mb D U) (cs : Scope) (Q : FinS → Prop) (mc m : Loc) (N : Led) (st : Stmt) : Prop :=
  cs.kind = .function → ∀ τ ρ h t E, At X (m.at τ ρ) mc N h → wpAny X.M (X.A cs) (exec st (X.env cs)) (SP X Q) E (X.s h t)
def Thn (X : Cx w p loose mean mg mb D U) (cs : Scope) (Q : FinS → Prop) (rest : List Stmt) (r : FinS) : Prop :=
  match r with
  | .next mc m N => WS X cs Q mc m N rest
  | .brk .. => Q r
  | .cont .. => Q r
  | .ret .. => Q r
variable {X : Cx w p loose mean mg mb D U} {cs : Scope} {Q : FinS → Prop} {mc m : Loc} {N : Led}
theorem ws_cons {st : Stmt} {rest : List Stmt} (h : W1 X cs (Thn X cs Q rest) mc m N st) : WS X cs Q mc m N (st :: rest) := by
  intro hk τ ρ hp t E a
  refine wpAny_execs_cons (wpAny_mono (h hk τ ρ hp t E a) ?_ fun _ _ x => x)
  rintro f s hs
  induction hs with
  | next mc' m' N' h' t' τ' ρ' a' q => exact q hk τ' ρ' h' t' E a'
  | brk mc' m' N' h' t' τ' ρ' a' q => exact .brk mc' m' N' h' t' τ' ρ' a' q
  | cont mc' m' N' h' t' τ' ρ' a' q => exact .cont mc' m' N' h' t' τ' ρ' a' q
  | ret c k mc' f N' h' t' a' q => exact .ret c k mc' f N' h' t' a' q
theorem ws_nil (h : Q (.next mc m N)) : WS X cs Q mc m N [] := by
  intro _ τ ρ hp t E a
  exact wpAny_execs_nil (.next mc m N hp t τ ρ a h)
theorem at_set {x : Str} {c : VC} {τ : Str → Nat} {ρ : Str → Option Value} {k : Nat} : (fun y => if y = x then some (c.at k) else m.at τ ρ y) = Loc.at ((x, c) :: m) (fun y => if y = x then k else τ y) ρ := by
  funext y
  unfold Loc.at
  by_cases h : y = x
  · subst h
    rw [if_pos rfl, List.lookup_cons_self]
    dsimp only
    rw [if_pos rfl]
  · rw [if_neg h, List.lookup_cons, beq_eq_false_iff_ne.mpr h]
    dsimp only
    rw [if_neg h]
def noComp : Expr → Bool
  | .ListComp .. => false
  | .SetComp .. => false
  | .DictComp .. => false
  | _ => true
theorem noSwap {e : Expr} (h : noComp e = true) (t : Option Expr) (l : Nat) (en : Env) : swapsWith e t l en = pure false := by
  cases e <;> first | rfl | cases h
theorem w_ret {e : Expr} {p1 : Pos} (h : WE X cs mc m N e fun c N' => Q (.ret c N')) : W1 X cs Q mc m N (.Return (some e) p1) := by
  intro hk τ ρ hp t E a
  refine wpAny_Return_some (wpAny_mono (h hk τ ρ hp t E a) ?_ fun _ _ x => x)
  refine EP.el ?_; intro c k N2 h2 t2 a2 hQ
  exact .ret c k _ _ N2 h2 t2 a2 hQ
theorem w_expr {e : Expr} {p1 : Pos} (h : WE X cs mc m N e fun _ N' => Q (.next mc m N')) (hs : noComp e = true) : W1 X cs Q mc m N (.Expr e p1) := by
  intro hk τ ρ hp t E a
  refine wpAny_Expr_any (wpAny_mono (h hk τ ρ hp t E a) ?_ fun _ _ x => x) (by show (_ && _) = false; rw [hk]; rfl) (noSwap hs _ _ _)
  refine EP.el ?_; intro c k N2 h2 t2 a2 hQ
  exact .next mc m N2 h2 t2 τ ρ a2 hQ
inductive TP (X : Cx w p loose mean mg mb D U) (m : Str → Option Value) (mc : Loc) (Q : Bool → Led → Prop) : Bool → Shared → Prop
  | mk (b : Bool) (N : Led) (h : Heap) (t : Nat) (a : At X m mc N h) (q : Q b N) : TP X m mc Q b (X.s h t)
theorem TP.el {m : Str → Option Value} {mc : Loc} {Q : Bool → Led → Prop} {P : Bool → Shared → Prop} (H : ∀ b N h t, At X m mc N h → Q b N → P b (X.s h t)) : ∀ b s, TP X m mc Q b s → P b s := fun _ _ e => TP.rec (motive := fun s _ => P _ s) (H _) e
def WT (X : Cx w p loose mean mg mb D U) (cs : Scope) (mc m : Loc) (N : Led) (e : Expr) (Q : Bool → Led → Prop) : Prop :=
  cs.kind = .function → ∀ τ ρ h t E, At X (m.at τ ρ) mc N h → wpAny X.M (X.A cs) (isTrue e (X.env cs) (eval e (X.env cs))) (TP X (m.at τ ρ) mc Q) E (X.s h t)
theorem w_if {e : Expr} {a b : List Stmt} {p1 : Pos} (h : WT X cs mc m N e fun t N' => if t then WS X cs Q mc m N' a else WS X cs Q mc m N' b) : W1 X cs Q mc m N (.If e a b p1) := by
  intro hk τ ρ hp t E a
  refine wpAny_If (wpAny_mono (h hk τ ρ hp t E a) ?_ fun _ _ x => x)
  refine TP.el ?_; intro c N2 h2 t2 a2 hQ
  cases c
  · exact hQ hk τ ρ h2 t2 E a2
  · exact hQ hk τ ρ h2 t2 E a2
def FitsF (n : Int) : Prop := n.natAbs < 2 ^ 1024 - 2 ^ 970
def binII (i j : Int) : Operator → Option (VC × List Prop)
  | .Add => some (.int (i + j), [])
  | .Sub => some (.int (i - j), [])
  | .Mult => some (.int (i * j), [IntMulOk i j])
  | .FloorDiv => some (.int (i.fdiv j), [j ≠ 0, Builtin.divisionGoesByPylong i j = false])
  | .Mod => some (.int (i.fmod j), [j ≠ 0])
  | .LShift => some (.int (i * 2 ^ j.toNat), [0 ≤ j, (Builtin.Int.intBits i : Int) + j ≤ 2 ^ 27])
  | .RShift => some (.int (i.fdiv (2 ^ j.toNat)), [0 ≤ j])
  | .Pow => some (.int (i ^ j.toNat), [0 ≤ j, (Builtin.Int.intBits i : Int) * j ≤ 2 ^ 27])
  | .BitAnd => some (.int (Builtin.bitAnd i j), [])
  | .BitOr => some (.int (Builtin.bitOr i j), [])
  | .BitXor => some (.int (Builtin.bitXor i j), [])
  | _ => none
def binFF (i j : UInt64) : Operator → Option (VC × List Prop)
  | .Add => some (.float (Float64.add i j), [])
  | .Sub => some (.float (Float64.sub i j), [])
  | .Mult => some (.float (Float64.mul i j), [])
  | .Div => some (.float (Float64.div i j), [¬ Float64.isZero j = true])
  | .Mod => some (.float (Float64.divmod i j).2, [¬ Float64.isZero j = true])
  | _ => none
def binFI (i : UInt64) (j : Int) : Operator → Option (VC × List Prop)
  | .Add => some (.float (Float64.add i (Float64.ofInt j)), [FitsF j])
  | .Sub => some (.float (Float64.sub i (Float64.ofInt j)), [FitsF j])
  | .Mult => some (.float (Float64.mul i (Float64.ofInt j)), [FitsF j])
  | _ => none
def binop (op : Operator) (a b : VC) : Option (VC × List Prop) :=
  match a with
  | .int i => (match b with | .int j => binII i j op | _ => none)
  | .float i => (match b with | .int j => binFI i j op | .float j => binFF i j op | _ => none)
  | _ => none
def unop (op : UnaryOp) (a : VC) : Option VC :=
  match a with
  | .int i => (match op with | .USub => some (.int (-i)) | .Invert => some (.int (Builtin.bitNot i)) | _ => none)
  | _ => none
def nmV : Value → Option VC
  | .int i _ => some (.int i)
  | .float i _ => some (.float i)
  | .str i _ => some (.str i)
  | v => some (.val v)
def nmO : Option VC → Option VC
  | some (.val v) => nmV v
  | c => c
theorem nmO_at {c c' : VC} (h : nmO (some c) = some c') (k : Nat) : ∃ l, c.at k = c'.at l := by
  cases c with
  | val v => cases v <;> (injection h with h; subst h; exact ⟨_, rfl⟩)
  | _ => injection h with h; subst h; exact ⟨k, rfl⟩
def lkL (k : Option NameKind) (dbg cd : Bool) (c d : Option VC) : Option VC :=
  match k with
  | some .local => bif dbg then none else nmO c
  | some .cell => bif dbg then none else nmO d
  | some .free => bif dbg || cd then none else nmO d
  | _ => none
def cst : Const → Option VC
  | .int i => some (.int i)
  | .float i => some (.float i)
  | .str i => some (.str i)
  | .none => some (.val .none)
  | .bool b => some (.val (.bool b))
  | _ => none
def p0 : Option VC → Option (VC × List Prop)
  | some c => some (c, [])
  | none => none
def p1 (op : UnaryOp) : Option (VC × List Prop) → Option (VC × List Prop)
  | some (a, p) => (match unop op a with | some c => some (c, p) | none => none)
  | none => none
def p2' (p q : List Prop) : Option (VC × List Prop) → Option (VC × List Prop)
  | some (c, r) => some (c, p ++ (q ++ r))
  | none => none
def p2 (op : Operator) (x y : Option (VC × List Prop)) : Option (VC × List Prop) :=
  match x with
  | some (a, p) => (match y with | some (b, q) => p2' p q (binop op a b) | none => none)
  | none => none
theorem p0_inv {o : Option VC} {c : VC} {ps : List Prop} (h : p0 o = some (c, ps)) : o = some c := by
  cases o with
  | none => cases h
  | some b => injection h with h; injection h with h1 h2; rw [h1]
theorem p1_inv {op : UnaryOp} {o : Option (VC × List Prop)} {c : VC} {ps : List Prop} (h : p1 op o = some (c, ps)) : ∃ a, o = some (a, ps) ∧ unop op a = some c := by
  cases o with
  | none => cases h
  | some b =>
    obtain ⟨a, p⟩ := b
    unfold p1 at h
    dsimp only at h
    cases hu : unop op a with
    | none => rw [hu] at h; cases h
    | some d => rw [hu] at h; injection h with h; injection h with h1 h2; exact ⟨a, by rw [h2], by rw [hu, h1]⟩
theorem p2_inv {op : Operator} {x y : Option (VC × List Prop)} {c : VC} {ps : List Prop} (h : p2 op x y = some (c, ps)) : ∃ a p b q r, x = some (a, p) ∧ y = some (b, q) ∧ binop op a b = some (c, r) ∧ ps = p ++ (q ++ r) := by
  cases x with
  | none => cases h
  | some x => cases y with
    | none => cases h
    | some y =>
      obtain ⟨a, p⟩ := x
      obtain ⟨b, q⟩ := y
      change p2' p q (binop op a b) = _ at h
      cases hu : binop op a b with
      | none => rw [hu] at h; cases h
      | some d =>
        obtain ⟨d, r⟩ := d
        rw [hu] at h
        injection h with h
        injection h with h1 h2
        exact ⟨a, p, b, q, r, rfl, rfl, by rw [hu, h1], h2.symm⟩
def lkF (cs : Scope) (mc m : Loc) (x : Str) : Option VC := lkL (cs.names.lookup x) (x == ("__debug__" : Str)) (x == ("__classdict__" : Str)) (m.lookup x) (mc.lookup x)
def pev (lk : Str → Option VC) : Nat → Expr → Option (VC × List Prop)
  | 0, _ => none
  | n + 1, e => match e with
    | .Name x _ => p0 (lk x)
    | .Constant c _ _ => p0 (cst c)
    | .BinOp l op r _ => p2 op (pev lk n l) (pev lk n r)
    | .UnaryOp op x _ => p1 op (pev lk n x)
    | _ => none
def Alls : List Prop → Prop
  | [] => True
  | [p] => p
  | p :: q :: r => p ∧ Alls (q :: r)
theorem Alls.app {a b : List Prop} (h : Alls (a ++ b)) : Alls a ∧ Alls b := by
  induction a with
  | nil => exact ⟨trivial, h⟩
  | cons p a ih =>
    cases a with
    | nil => cases b with
      | nil => exact ⟨h, trivial⟩
      | cons q b => exact ⟨h.1, h.2⟩
    | cons q a => exact ⟨⟨h.1, (ih h.2).1⟩, (ih h.2).2⟩
theorem binop_ok {A : Around} {E : Value → Shared → Prop} {prog : Program} {op : Operator} {a b : VC} {c : VC} {ps : List Prop} {k l : Nat} {h : Heap} {t : Nat} {g : Array GenState} {d : Drawn} {o : OsState} {Q : Value → Shared → Prop} (hA : A.handled = none)
    (e : binop op a b = some (c, ps)) (hp : Alls ps) (H : ∀ k t', Q (c.at k) ⟨h, g, d, t', o⟩) : wpAny (model prog w) A (binaryOp op (a.at k) (b.at l)) Q E ⟨h, g, d, t, o⟩ := by
  cases a with
  | int i => cases b with
    | int j =>
      cases op <;> first | (cases e; done) | (injection e with e; injection e with e1 e2; subst e1; subst e2)
      · exact add_int (H _ _)
      · exact sub_int (H _ _)
      · exact mul_int (H _ _) hp
      · exact mod_int' hp (H _ _)
      · exact pow_int hp.1 hp.2 (H _ _)
      · exact lshift_int hp.1 hp.2 (H _ _)
      · exact rshift_int hp (H _ _)
      · exact or_int (H _ _)
      · exact xor_int (H _ _)
      · exact and_int (H _ _)
      · exact floordiv_int hp.1 (H _ _) (.inl hp.2)
    | _ => cases e
  | float i => cases b with
    | int j =>
      cases op <;> first | (cases e; done) | (injection e with e; injection e with e1 e2; subst e1; subst e2)
      · exact add_fi_sharp hA (fun z => absurd z (Nat.not_le_of_lt hp)) (fun _ => H _ _)
      · exact sub_fi_sharp hA (fun z => absurd z (Nat.not_le_of_lt hp)) (fun _ => H _ _)
      · exact mul_fi_sharp hA (fun z => absurd z (Nat.not_le_of_lt hp)) (fun _ => H _ _)
    | float j =>
      cases op <;> first | (cases e; done) | (injection e with e; injection e with e1 e2; subst e1; subst e2)
      · exact add_float (H _ _)
      · exact sub_float (H _ _)
      · exact mul_float (H _ _)
      · exact truediv_float_or hA (fun z => absurd z hp) (fun _ => H _ _)
      · exact PySem.Flt.mod_ff hA (fun z => absurd z hp) (fun _ => H _ _)
    | _ => cases e
  | _ => cases e
theorem unop_ok {A : Around} {E : Value → Shared → Prop} {prog : Program} {op : UnaryOp} {a c : VC} {k : Nat} {h : Heap} {t : Nat} {g : Array GenState} {d : Drawn} {o : OsState} {Q : Value → Shared → Prop}
    (e : unop op a = some c) (H : ∀ k t', Q (c.at k) ⟨h, g, d, t', o⟩) : wpAny (model prog w) A (unaryOp op (a.at k)) Q E ⟨h, g, d, t, o⟩ := by
  cases a with
  | int i =>
    cases op <;> first | (cases e; done) | (injection e with e; subst e)
    · exact invert_int (H _ _)
    · exact neg_int (H _ _)
  | _ => cases e
theorem at_lk {x : Str} {c : VC} {τ : Str → Nat} {ρ : Str → Option Value} (h : m.lookup x = some c) : m.at τ ρ x = some (c.at (τ x)) := by
  unfold Loc.at; rw [h]
theorem co_get : ∀ {cl : List (Str × Addr)} {mc : Loc} {co : Led} {x : Str} {c : VC}, CoOK cl mc co → mc.lookup x = some c → (cl.lookup x).isSome = true → ∃ a o k, cl.lookup x = some a ∧ (a, o) ∈ co ∧ o.data = .cell (some (c.at k))
  | [], _, _, _, _, _, _, hl => nomatch hl
  | q :: cl, mc, co, x, c, hc, hx, hl => by
    obtain ⟨o, v, co', rfl, h1, h2, h3⟩ := hc
    obtain ⟨y, a⟩ := q
    rw [List.lookup_cons] at hl ⊢
    cases hb : (x == y) with
    | true =>
      rw [eq_of_beq hb] at hx
      obtain ⟨k, rfl⟩ := h2 c hx
      exact ⟨a, o, k, rfl, .head _, h1⟩
    | false =>
      rw [hb] at hl
      obtain ⟨b, o', k, e1, e2, e3⟩ := co_get h3 hx hl
      exact ⟨b, o', k, e1, .tail _ e2, e3⟩
theorem nm_some {o : Option VC} {c : VC} (h : nmO o = some c) : ∃ d, o = some d ∧ nmO (some d) = some c := by
  cases o with
  | none => cases h
  | some d => exact ⟨d, rfl, h⟩
theorem nm_H {c c' : VC} {k : Nat} {P : Value → Prop} (h : nmO (some c) = some c') (H : ∀ k, P (c'.at k)) : P (c.at k) := by
  obtain ⟨l, hl⟩ := nmO_at h k
  rw [hl]
  exact H l
theorem ev_name (hk : cs.kind = .function) {τ : Str → Nat} {ρ : Str → Option Value} {h : Heap} {E : Value → Shared → Prop} (a : At X (m.at τ ρ) mc N h) {x : Str} {pos : Pos} {c : VC} {t : Nat} {Q : Value → Shared → Prop} (e : lkF cs mc m x = some c) (H : ∀ k t', Q (c.at k) (X.s h t')) : wpAny X.M (X.A cs) (eval (.Name x pos) (X.env cs)) Q E (X.s h t) := by
  obtain ⟨co, ⟨cc, rfl, c1⟩, c4, c2, c3⟩ := a.C
  unfold lkF at e
  cases h0 : cs.names.lookup x with
  | none => rw [h0] at e; cases e
  | some k =>
    rw [h0] at e
    cases h1 : (x == ("__debug__" : Str)) with
    | true => rw [h1] at e; cases k <;> cases e
    | false =>
      rw [h1] at e
      cases k with
      | «local» =>
        obtain ⟨c', h3, h4⟩ := nm_some e
        exact nameX_L a.F (at_lk h3) (nm_H (P := fun v => Q v (X.s h t)) h4 fun k => H k _) hk h0 h1
      | cell =>
        obtain ⟨c', h3, h4⟩ := nm_some e
        obtain ⟨b, o, k, e1, e2, e3⟩ := co_get c1 h3 (a.D _ _ h3)
        exact nameX_C c2 e1 (List.mem_append_right _ (List.mem_append_left _ e2)) e3 (nm_H (P := fun v => Q v (X.s h t)) h4 fun k => H k _) hk h0 h1
      | free =>
        cases h2 : (x == ("__classdict__" : Str)) with
        | true => rw [h2] at e; cases e
        | false =>
          rw [h2] at e
          obtain ⟨c', h3, h4⟩ := nm_some e
          obtain ⟨b, o, k, e1, e2, e3⟩ := co_get c1 h3 (a.D _ _ h3)
          exact nameX_F c2 e1 (List.mem_append_right _ (List.mem_append_left _ e2)) e3 (nm_H (P := fun v => Q v (X.s h t)) h4 fun k => H k _) hk h0 h1 h2
      | _ => cases e
def Lk (X : Cx w p loose mean mg mb D U) (cs : Scope) (en : Env) (f : Str → Option Value) (mc : Loc) (lk : Str → Option VC) : Prop :=
  ∀ x c pos N h t E (Q : Value → Shared → Prop), lk x = some c → At X f mc N h → (∀ k t', Q (c.at k) (X.s h t')) → wpAny X.M (X.A cs) (eval (.Name x pos) en) Q E (X.s h t)
theorem lk_F (hk : cs.kind = .function) {τ : Str → Nat} {ρ : Str → Option Value} : Lk X cs (X.env cs) (m.at τ ρ) mc (lkF cs mc m) :=
  fun _ _ _ _ _ _ _ _ e a H => ev_name hk a e H
theorem pev_ok {en : Env} {f : Str → Option Value} {lk : Str → Option VC} (hlk : Lk X cs en f mc lk) {h : Heap} {E : Value → Shared → Prop} (a : At X f mc N h) (n : Nat) : ∀ (e : Expr) {c : VC} {ps : List Prop} {t : Nat} {Q : Value → Shared → Prop}, pev lk n e = some (c, ps) → Alls ps →
    (∀ k t', Q (c.at k) (X.s h t')) → wpAny X.M (X.A cs) (eval e en) Q E (X.s h t) := by
  induction n with
  | zero => intro e c ps t Q he; cases he
  | succ n ih =>
    intro e c ps t Q he hp H
    cases e with
    | Name x pos =>
      exact hlk _ _ _ _ _ _ _ _ (p0_inv he) a H
    | Constant k _ pos =>
      have ha := p0_inv he
      cases k <;> first | (cases ha; done) | (injection ha with ha; subst ha)
      · exact wpAny_Constant_none (H 0 _)
      · exact wpAny_Constant_bool (H 0 _)
      · exact const_int (H _ _)
      · exact wpAny_Constant_float (H _ _)
      · exact wpAny_Constant_str (H _ _)
    | BinOp l op r pos =>
      obtain ⟨_, _, _, _, _, ha, hb, hd, rfl⟩ := p2_inv he
      obtain ⟨h1, h2⟩ := hp.app
      obtain ⟨h2, h3⟩ := h2.app
      exact wpAny_BinOp (ih l ha h1 fun k1 t1 => ih r hb h2 fun k2 t2 => binop_ok rfl hd h3 H)
    | UnaryOp op x pos =>
      obtain ⟨_, ha, hb⟩ := p1_inv he
      exact wpAny_UnaryOp (ih x ha hp fun k1 t1 => unop_ok hb H)
    | _ => cases he
abbrev pe (cs : Scope) (mc m : Loc) (e : Expr) : Option (VC × List Prop) := pev (lkF cs mc m) 12 e
theorem ge_pure {en : Env} {f : Str → Option Value} {lk : Str → Option VC} {e : Expr} {c : VC} {ps : List Prop} {Q : VC → Led → Prop} (hlk : Lk X cs en f mc lk) (he : pev lk 12 e = some (c, ps)) (hp : Alls ps) (h : Q c N) : GE X cs en f mc N e Q :=
  fun hp' _ _ a => pev_ok hlk a 12 e he hp fun k t' => .mk c k N hp' t' a h
theorem we_pure {e : Expr} {c : VC} {ps : List Prop} {Q : VC → Led → Prop} (he : pe cs mc m e = some (c, ps)) (hp : Alls ps) (h : Q c N) : WE X cs mc m N e Q :=
  fun hk _ _ => ge_pure (lk_F hk) he hp h
theorem pev_noComp {n : Nat} {e : Expr} {lk : Str → Option VC} {x} (h : pev lk n e = some x) : noComp e = true := by
  cases n with
  | zero => cases h
  | succ n => cases e <;> first | rfl | cases h
inductive BP (X : Cx w p loose mean mg mb D U) (N : Led) (Q : Loc → Loc → Prop) : Unit → Shared → Prop
  | mk (mc m : Loc) (h : Heap) (t : Nat) (τ : Str → Nat) (ρ : Str → Option Value) (a : At X (m.at τ ρ) mc N h) (q : Q mc m) : BP X N Q () (X.s h t)
theorem BP.el {Q : Loc → Loc → Prop} {P : Unit → Shared → Prop} (H : ∀ mc m h t τ ρ, At X (m.at τ ρ) mc N h → Q mc m → P () (X.s h t)) : ∀ u s, BP X N Q u s → P u s := fun _ _ e => BP.rec (motive := fun u s _ => P u s) H e
def WB (X : Cx w p loose mean mg mb D U) (cs : Scope) (mc m : Loc) (N : Led) (x : Str) (c : VC) (Q : Loc → Loc → Prop) : Prop :=
  cs.kind = .function → ∀ τ ρ k h t E, At X (m.at τ ρ) mc N h → wpAny X.M (X.A cs) (storeName (X.env cs) x (c.at k)) (BP X N Q) E (X.s h t)
theorem wb_local {x : Str} {c : VC} {Q : Loc → Loc → Prop} (hx : cs.names.lookup x = some .local) (h : Q mc ((x, c) :: m)) : WB X cs mc m N x c Q := by
  intro hk τ ρ k hp t E a
  obtain ⟨co, c1, c4, c2, c3⟩ := a.C
  refine storeX_L a.F c2 (fun h' F' N4 => ?_) hk hx
  rw [at_set] at F'
  exact .mk mc _ h' _ _ _ ⟨F', a.D, co, c1, c4, N4, c3⟩ h
theorem ws_put {x : Str} {p1 p2 : Pos} {e : Expr} {rest : List Stmt} (hs : noComp e = true) (h : WE X cs mc m N e fun c N' => WB X cs mc m N' x c fun mc' m' => WS X cs Q mc' m' N' rest) : WS X cs Q mc m N (.Assign [.Name x p1] e p2 :: rest) := by
  refine ws_cons ?_
  intro hk τ ρ hp t E a
  refine wpAny_Assign_Name (wpAny_mono (h hk τ ρ hp t E a) ?_ fun _ _ x => x) (noSwap hs _ _ _)
  refine EP.el ?_; intro c k N2 h2 t2 a2 hQ
  refine wpAny_mono (hQ hk τ ρ k h2 t2 E a2) ?_ fun _ _ x => x
  refine BP.el ?_; intro mc' m' h3 t3 τ' ρ' a3 hQ
  exact .next mc' m' N2 h3 t3 τ' ρ' a3 hQ
theorem ws_set {x : Str} {p1 p2 : Pos} {e : Expr} {rest : List Stmt} {c : VC} {ps : List Prop} (he : pe cs mc m e = some (c, ps)) (hp : Alls ps) (hx : cs.names.lookup x = some .local) (k : WS X cs Q mc ((x, c) :: m) N rest) : WS X cs Q mc m N (.Assign [.Name x p1] e p2 :: rest) :=
  ws_put (pev_noComp he) (we_pure he hp (wb_local hx k))
theorem ws_setE {x : Str} {p1 p2 : Pos} {e : Expr} {rest : List Stmt} (hx : cs.names.lookup x = some .local) (hs : noComp e = true) (k : WE X cs mc m N e fun c N' => WS X cs Q mc ((x, c) :: m) N' rest) : WS X cs Q mc m N (.Assign [.Name x p1] e p2 :: rest) :=
  ws_put hs (fun hk τ ρ h t E a => wpAny_mono (k hk τ ρ h t E a) (fun _ _ ⟨c, k, N, h, t, a, q⟩ => .mk c k N h t a (wb_local hx q)) fun _ _ x => x)
theorem ws_ret {e : Expr} {p1 : Pos} {rest : List Stmt} {c : VC} {ps : List Prop} (he : pe cs mc m e = some (c, ps)) (hp : Alls ps) (k : Q (.ret c N)) : WS X cs Q mc m N (.Return (some e) p1 :: rest) :=
  ws_cons (w_ret (we_pure he hp k))
theorem ws_retE {e : Expr} {p1 : Pos} {rest : List Stmt} (k : WE X cs mc m N e fun c N' => Q (.ret c N')) : WS X cs Q mc m N (.Return (some e) p1 :: rest) :=
  ws_cons (w_ret k)
end
end
local macro_rules | `(tactic| isplit) => `(tactic| first | exact trivial | with_reducible assumption | assumption | decide +kernel | (show Not _; decide +kernel) | (show _ ≠ _; decide) | exact PyProof.noPylong_of_log2 (by decide +kernel) | exact IntMulOk.of_left (by decide +kernel) | (refine And.intro ?_ ?_ <;> isplit) | fail "side")
local macro_rules | `(tactic| tbn_conj) => `(tactic| refine ws_set (by with_unfolding_all rfl) (by isplit) (by with_unfolding_all rfl) ?_)
local macro_rules | `(tactic| kpf_close) => `(tactic| with_unfolding_all rfl)
section
abbrev lsO (vs : List Value) (n : Nat) : Obj := { cls := .type "list", data := .seq vs.toArray n }
section
variable {w : World} {p : Program} {loose : List Str} {mean : ExcName → Option Value} {mg mb : Str → Option Value} {D U : Nat}
variable {X : Cx w p loose mean mg mb D U} {cs : Scope} {Q : FinS → Prop} {mc m : Loc} {N : Led}
def cmpII (i j : Int) : CmpOp → Option Bool
  | .Lt => some (decide (i < j))
  | .LtE => some (decide (i ≤ j))
  | .Gt => some (decide (j < i))
  | .GtE => some (decide (j ≤ i))
  | .Eq => some (i == j)
  | .NotEq => some (i != j)
  | _ => none
def isN (op : CmpOp) (a : Bool) (v : Value) : Option Bool :=
  match op with
  | .Is => bif v == .none then some a else none
  | _ => none
def cmpop (op : CmpOp) (a b : VC) : Option Bool :=
  match b with
  | .int j => (match a with | .int i => cmpII i j op | _ => none)
  | .float j => (match a with | .float i => (match op with | .Eq => some (Float64.cmp i j == some Ordering.eq) | _ => none) | _ => none)
  | .val v => (match a with | .int _ => isN op false v | .val u => isN op (u == .none) v | _ => none)
  | _ => none
theorem isN_ok {A : Around} {E : Value → Shared → Prop} {prog : Program} {op : CmpOp} {v u : Value} {c : Bool} {s : Shared} {Q : Value → Shared → Prop} (e : isN op (u == .none) v = some c) (H : Q (.bool c) s) : wpAny (model prog w) A (compareOp op u v) Q E s := by
  cases op <;> first | (cases e; done) | skip
  unfold isN at e
  cases hv : v == .none with
  | false => rw [hv] at e; cases e
  | true =>
    rw [hv] at e
    injection e with e
    rw [eq_of_beq hv]
    exact is_none_gen (e ▸ H)
theorem cmpop_ok {A : Around} {E : Value → Shared → Prop} {prog : Program} {op : CmpOp} {a b : VC} {c : Bool} {k l : Nat} {s : Shared} {Q : Value → Shared → Prop}
    (e : cmpop op a b = some c) (H : Q (.bool c) s) : wpAny (model prog w) A (compareOp op (a.at k) (b.at l)) Q E s := by
  cases b with
  | int j => cases a with
    | int i =>
      cases op <;> first | (cases e; done) | (injection e with e; subst e)
      · exact eq_int H
      · exact ne_int H
      · exact lt_int H
      · exact le_int H
      · exact gt_int H
      · exact ge_int H
    | _ => cases e
  | float j => cases a with
    | float i =>
      cases op <;> first | (cases e; done) | (injection e with e; subst e)
      exact AutoFloatOps.eq_0 H
    | _ => cases e
  | val v => cases a with
    | int i => exact isN_ok (u := .int i k) e H
    | val u => exact isN_ok (u := u) e H
    | _ => cases e
  | str _ => cases e
def c2' (p : List Prop) : Option Bool → Option (Bool × List Prop)
  | some b => some (b, p)
  | none => none
def c2 (op : CmpOp) (x y : Option (VC × List Prop)) : Option (Bool × List Prop) :=
  match x with
  | some (a, p) => (match y with | some (b, q) => c2' (p ++ q) (cmpop op a b) | none => none)
  | none => none
theorem c2_inv {op : CmpOp} {x y : Option (VC × List Prop)} {c : Bool} {ps : List Prop} (h : c2 op x y = some (c, ps)) : ∃ a p b q, x = some (a, p) ∧ y = some (b, q) ∧ cmpop op a b = some c ∧ ps = p ++ q := by
  cases x with
  | none => cases h
  | some x => cases y with
    | none => cases h
    | some y =>
      obtain ⟨a, p⟩ := x
      obtain ⟨b, q⟩ := y
      change c2' (p ++ q) (cmpop op a b) = _ at h
      cases hu : cmpop op a b with
      | none => rw [hu] at h; cases h
      | some d => rw [hu] at h; injection h with h; injection h with h1 h2; exact ⟨a, p, b, q, rfl, rfl, by rw [hu, h1], h2.symm⟩
def pevC (cs : Scope) (mc m : Loc) (l : Expr) (op : CmpOp) (r : Expr) : Option (Bool × List Prop) :=
  bif behindInMarks op r then none else c2 op (pe cs mc m l) (pe cs mc m r)
theorem wt_cmp {l r : Expr} {op : CmpOp} {pos : Pos} {b : Bool} {ps : List Prop} {Q : Bool → Led → Prop} (he : pevC cs mc m l op r = some (b, ps)) (hp : Alls ps) (h : Q b N) : WT X cs mc m N (.Compare l [op] [r] pos) Q := by
  intro hk τ ρ hp' t E a
  unfold pevC at he
  cases hb : behindInMarks op r with
  | true => rw [hb] at he; cases he
  | false =>
    rw [hb] at he
    obtain ⟨_, _, _, _, ha, hd, hc, rfl⟩ := c2_inv he
    exact wpAny_isTrue_Compare1 (pev_ok (lk_F hk) a 12 _ ha hp.app.1 fun _ _ => pev_ok (lk_F hk) a 12 _ hd hp.app.2 fun _ _ => cmpop_ok hc (wpAny_truthy_bool (.mk _ N hp' _ a h))) hb
theorem ws_if {l r : Expr} {op : CmpOp} {pos : Pos} {a b : List Stmt} {p1 : Pos} {rest : List Stmt} {t : Bool} {ps : List Prop} (he : pevC cs mc m l op r = some (t, ps)) (hp : Alls ps) (h1 : t = true → WS X cs (Thn X cs Q rest) mc m N a) (h2 : t = false → WS X cs (Thn X cs Q rest) mc m N b) : WS X cs Q mc m N (.If (.Compare l [op] [r] pos) a b p1 :: rest) := by
  refine ws_cons (w_if (wt_cmp he hp ?_))
  cases t
  · exact h2 rfl
  · exact h1 rfl
def atl : List VC → (Nat → Nat) → Nat → List Value
  | [], _, _ => []
  | c :: r, τ, i => c.at (τ i) :: atl r τ (i + 1)
def tcons (k : Nat) (τ : Nat → Nat) : Nat → Nat
  | 0 => k
  | i + 1 => τ i
theorem atl_cons {c : VC} {r : List VC} {k : Nat} {τ : Nat → Nat} : c.at k :: atl r τ 0 = atl (c :: r) (tcons k τ) 0 := by
  have h : ∀ (r : List VC) (i : Nat), atl r τ i = atl r (tcons k τ) (i + 1) := by
    intro r
    induction r with
    | nil => intro i; rfl
    | cons d r ih => intro i; show _ :: _ = _ :: _; rw [ih]; rfl
  show _ :: _ = _ :: _
  rw [h]; rfl
theorem atl_len {τ : Nat → Nat} : ∀ (l : List VC) (i : Nat), (atl l τ i).length = l.length
  | [], _ => rfl
  | _ :: r, i => congrArg (· + 1) (atl_len r (i + 1))
inductive AP (X : Cx w p loose mean mg mb D U) (m : Str → Option Value) (mc : Loc) (Q : List VC → Led → Prop) : List Value → Shared → Prop
  | mk (cls : List VC) (σ : Nat → Nat) (N : Led) (h : Heap) (t : Nat) (a : At X m mc N h) (q : Q cls N) : AP X m mc Q (atl cls σ 0) (X.s h t)
theorem AP.el {m : Str → Option Value} {mc : Loc} {Q : List VC → Led → Prop} {P : List Value → Shared → Prop} (H : ∀ cls σ N h t, At X m mc N h → Q cls N → P (atl cls σ 0) (X.s h t)) : ∀ vs s, AP X m mc Q vs s → P vs s := fun _ _ e => AP.rec (motive := fun v s _ => P v s) H e
def GA (X : Cx w p loose mean mg mb D U) (cs : Scope) (en : Env) (f : Str → Option Value) (mc : Loc) (N : Led) (es : List Expr) (Q : List VC → Led → Prop) : Prop :=
  ∀ pos h t E, At X f mc N h → wpAny X.M (X.A cs) (spliced (backTo pos (starEach es en))) (AP X f mc Q) E (X.s h t)
section
variable {en : Env} {f : Str → Option Value}
theorem ga_nil {Q : List VC → Led → Prop} (h : Q [] N) : GA X cs en f mc N [] Q :=
  fun _ hp t _ a => args_nil (.mk [] (fun _ => 0) N hp t a h)
def noStar : Expr → Bool
  | .Starred .. => false
  | _ => true
theorem noStar_ok {e : Expr} (h : noStar e = true) (es : List Expr) (en : Env) : starEach (e :: es) en = (false, eval e en) :: starEach es en := by
  cases e <;> first | rfl | cases h
theorem ga_cons {e : Expr} {es : List Expr} {Q : List VC → Led → Prop} (h : GE X cs en f mc N e fun c N' => GA X cs en f mc N' es fun r N'' => Q (c :: r) N'') (he : noStar e = true) : GA X cs en f mc N (e :: es) Q := by
  intro pos hp t E a
  refine args_cons (wpAny_mono (h hp t E a) ?_ fun _ _ x => x) (noStar_ok he _ _)
  refine EP.el ?_; intro c k N2 h2 t2 a2 hQ
  refine wpAny_mono (hQ pos h2 t2 E a2) ?_ fun _ _ x => x
  refine AP.el ?_; intro cls σ N4 h4 t4 a4 hQ
  rw [atl_cons]
  exact .mk (c :: cls) _ N4 h4 t4 a4 hQ
def pc (x : Option (VC × List Prop)) (y : Option (List VC × List Prop)) : Option (List VC × List Prop) :=
  match x with
  | some (a, p) => (match y with | some (l, q) => some (a :: l, p ++ q) | none => none)
  | none => none
theorem pc_inv {x : Option (VC × List Prop)} {y : Option (List VC × List Prop)} {cls : List VC} {ps : List Prop} (h : pc x y = some (cls, ps)) : ∃ a p l q, x = some (a, p) ∧ y = some (l, q) ∧ cls = a :: l ∧ ps = p ++ q := by
  cases x with
  | none => cases h
  | some x => cases y with
    | none => cases h
    | some y => injection h with h; injection h with h1 h2; exact ⟨_, _, _, _, rfl, rfl, h1.symm, h2.symm⟩
def pevs (lk : Str → Option VC) : List Expr → Option (List VC × List Prop)
  | [] => some ([], [])
  | e :: r => pc (pev lk 12 e) (pevs lk r)
abbrev pes (cs : Scope) (mc m : Loc) (es : List Expr) : Option (List VC × List Prop) := pevs (lkF cs mc m) es
theorem pev_star {n : Nat} {e : Expr} {lk : Str → Option VC} {x} (h : pev lk n e = some x) : noStar e = true := by
  cases n with
  | zero => cases h
  | succ n => cases e <;> first | rfl | cases h
theorem ga_pure {lk : Str → Option VC} {es : List Expr} {cls : List VC} {ps : List Prop} {Q : List VC → Led → Prop} (hlk : Lk X cs en f mc lk) (he : pevs lk es = some (cls, ps)) (hp : Alls ps) (h : Q cls N) : GA X cs en f mc N es Q := by
  induction es generalizing cls ps Q with
  | nil => injection he with he; injection he with e1 e2; subst e1; exact ga_nil h
  | cons e r ih =>
    obtain ⟨_, _, _, _, ha, hb, rfl, rfl⟩ := pc_inv he
    exact ga_cons (ge_pure hlk ha hp.app.1 (ih hb hp.app.2 h)) (pev_star ha)
end
def noStars (es : List Expr) : Bool := es.all noStar
theorem plain_ok {es : List Expr} (h : noStars es = true) (pos : Pos) (en : Env) : (backTo pos (starEach es en)).any (·.1) = false := by
  induction es with
  | nil => rfl
  | cons e r ih =>
    have h' := Bool.and_eq_true_iff.mp h
    rw [noStar_ok h'.1]
    show (false || (backTo pos (starEach r en)).any (·.1)) = false
    rw [ih h'.2]; rfl
def WC (X : Cx w p loose mean mg mb D U) (cs : Scope) (mc : Loc) (N : Led) (f : Value) (cls : List VC) (Q : VC → Led → Prop) : Prop :=
  cs.kind = .function → ∀ σ m h t E, At X m mc N h → wpAny X.M (X.A cs) (call f (atl cls σ 0)) (EP X m mc Q) E (X.s h t)
def Cons (l : Led) : Prop := ∀ a o o', (a, o) ∈ l → (a, o') ∈ l → o = o'
theorem wc_con {f : Value} {cls : List VC} {D' U' : Nat} {Post : Led → Value → Led → Prop} {Q : VC → Led → Prop} (C : ∀ σ co, HidOK X mc N co → Con w p loose mean mg mb f (atl cls σ 0) [] D' U' (N ++ co) (Post co))
    (H : ∀ co v N2, Post co v N2 → Cons N2 → ∃ N', (∀ q ∈ N' ++ co, q ∈ N2) ∧ (∀ q ∈ N', (∃ o, (q.1, o) ∈ N) ∨ ∀ r ∈ co, q.1 ≠ r.1) ∧ Q (.val v) N') (hD : Nat.ble D' D = true) (hU : Nat.ble U' U = true) : WC X cs mc N f cls Q := by
  intro hk σ m h t E a
  obtain ⟨co, c1, c4, c2, c3⟩ := a.C
  refine (C σ co ⟨c1, c4, c3⟩).use X.B a.F X.X c2 X.T X.hc rfl hk (Nat.lt_of_le_of_lt (Nat.add_le_add_left (Nat.le_of_ble_eq_true hD) _) X.hdp) (Nat.lt_of_le_of_lt (Nat.add_le_add_left (Nat.le_of_ble_eq_true hU) _) X.hun) ?_
  intro K hK r N2 hP
  refine hK r N2 fun h' t' F' N3 => ?_
  obtain ⟨N', s1, s2, hQ⟩ := H co r N2 hP fun a o o' h1 h2 => Option.some.inj ((N3 _ h1).1.symm.trans (N3 _ h2).1)
  exact .mk (.val r) 0 N' h' t' ⟨F', a.D, co, c1, c4, newsSub N3 s1, fun q hq => (s2 q hq).elim (fun ⟨o, h⟩ => c3 (_, o) h) id⟩ hQ
theorem wc_con0 {f : Value} {cls : List VC} {D' U' : Nat} {Post : Led → Value → Led → Prop} {Q : VC → Led → Prop} (C : ∀ σ co, HidOK X mc N co → Con w p loose mean mg mb f (atl cls σ 0) [] D' U' (N ++ co) (Post co))
    (H : ∀ co v N2, Post co v N2 → N2 = N ++ co ∧ Q (.val v) N) (hD : Nat.ble D' D = true) (hU : Nat.ble U' U = true) : WC X cs mc N f cls Q :=
  wc_con C (fun co v N2 hP _ => ⟨N, by rw [(H co v N2 hP).1]; exact fun _ h => h, fun q h => .inl ⟨q.2, h⟩, (H co v N2 hP).2⟩) hD hU
theorem wc_con1 {f : Value} {cls : List VC} {D' U' : Nat} {Post : Led → Value → Led → Prop} {Q : VC → Led → Prop} (C : ∀ σ co, HidOK X mc N co → Con w p loose mean mg mb f (atl cls σ 0) [] D' U' (N ++ co) (Post co))
    (H : ∀ co v N2, Post co v N2 → ∃ d o, N2 = (d, o) :: (N ++ co) ∧ (∀ q ∈ N ++ co, q.1 < d) ∧ Q (.val v) ((d, o) :: N)) (hD : Nat.ble D' D = true) (hU : Nat.ble U' U = true) : WC X cs mc N f cls Q := by
  refine wc_con C (fun co v N2 hP _ => ?_) hD hU
  obtain ⟨d, o, rfl, hlt, hQ⟩ := H co v N2 hP
  refine ⟨(d, o) :: N, fun _ h => h, fun q hq => ?_, hQ⟩
  rcases List.mem_cons.mp hq with rfl | hq
  · exact .inr fun r hr => Nat.ne_of_gt (hlt r (List.mem_append_right _ hr))
  · exact .inl ⟨q.2, hq⟩
def GN (X : Cx w p loose mean mg mb D U) (cs : Scope) (en : Env) (x : Str) (v : Value) : Prop :=
  ∀ p1 f h t E (Q : Value → Shared → Prop), Fr X.h₀ X.L h f → Q v (X.s h t) → wpAny X.M (X.A cs) (eval (.Name x p1) en) Q E (X.s h t)
def WN (X : Cx w p loose mean mg mb D U) (cs : Scope) (x : Str) (v : Value) : Prop := cs.kind = .function → GN X cs (X.env cs) x v
def WF (X : Cx w p loose mean mg mb D U) (cs : Scope) (f : Value) : Prop :=
  ∀ en p1 e es m h t E (Q : Value → Shared → Prop), Fr X.h₀ X.L h m → noStars (e :: es) = true → wpAny X.M (X.A cs) (spliced (backTo p1 (starEach (e :: es) en))) (fun vs s => (∃ m', Fr X.h₀ X.L s.heap m') ∧ wpAny X.M (X.A cs) (call f vs) Q E s) E (X.s h t) →
    wpAny X.M (X.A cs) (callWith p1 f [] (backTo p1 (starEach (e :: es) en)) []) Q E (X.s h t)
theorem wn_def {x : Str} {f : Value} (hn : nsIn (hd.heap_1 w.params) mainGlobals x = some (some f)) (hx : cs.names.lookup x = some .globalImplicit) (hd' : (x == ("__debug__" : Str)) = false) : WN X cs x f :=
  fun hk _ _ _ _ _ _ F h => nameX_K F X.X (topRead_of X.T) hn h hk hx hd'
theorem wn_builtin {x : Str} {f : Value} (hn : nsIn (hd.heap_1 w.params) mainGlobals x = some none) (hb : bootBuiltins x = some f) (hx : cs.names.lookup x = some .globalImplicit) (hd' : (x == ("__debug__" : Str)) = false) (hd2 : x ≠ "__name__") : WN X cs x f :=
  fun hk _ _ _ _ _ _ F h => nameX_B F X.X (topRead_of X.T) hn hb hd2 h hk hx hd'
theorem wf_def {f : Value} (hkf : keepIn (hd.heap_1 w.params) f = true) : WF X cs f := by
  intro en p1 e es m h t E Q F hs H
  have h' := Bool.and_eq_true_iff.mp hs
  exact callWith_K X.X hkf (wpAny_mono H (fun vs s ⟨⟨m', F'⟩, h⟩ => ⟨X.X.keeps F'.keep, h⟩) fun _ _ x => x) (noStar_ok h'.1 _ _) (plain_ok h'.2 _ _)
theorem wf_builtin {id : String} : WF X cs (.builtin id) := by
  intro en p1 e es m h t E Q F hs H
  have h' := Bool.and_eq_true_iff.mp hs
  exact callWith_builtin1 (wpAny_mono H (fun vs s h => h.2) fun _ _ x => x) (noStar_ok h'.1 _ _) (plain_ok h'.2 _ _)
theorem wf_type {id : String} : WF X cs (.type id) := by
  intro en p1 e es m h t E Q F hs H
  have h' := Bool.and_eq_true_iff.mp hs
  exact callWith_type1 (wpAny_mono H (fun vs s h => h.2) fun _ _ x => x) (noStar_ok h'.1 _ _) (plain_ok h'.2 _ _)
theorem ge_call {en : Env} {f : Str → Option Value} {x : Str} {v : Value} {e0 : Expr} {es : List Expr} {p1 p2 : Pos} {Q : VC → Led → Prop} (hk : cs.kind = .function) (hn : GN X cs en x v) (hf : WF X cs v) (hs : noStars (e0 :: es) = true) (H : GA X cs en f mc N (e0 :: es) fun cls N' => WC X cs mc N' v cls Q) (hc : ∀ en : Env, eval (.Call (.Name x p1) (e0 :: es) [] p2) en = (do callWith p2 (← eval (.Name x p1) en) [] (backTo p2 (starEach (e0 :: es) en)) (backToKw p2 (keywordEach [] en)))) : GE X cs en f mc N (.Call (.Name x p1) (e0 :: es) [] p2) Q := by
  intro h t E a
  refine Call_ ?_ (hc _)
  refine hn p1 _ h t E _ a.F ?_
  refine hf en p2 e0 es _ h t E _ a.F hs (wpAny_mono (H p2 h t E a) ?_ fun _ _ x => x)
  refine AP.el ?_; intro l σ N2 h2 t2 a2 hC
  exact ⟨⟨_, a2.F⟩, hC hk σ _ h2 t2 E a2⟩
theorem we_call {x : Str} {f : Value} {e0 : Expr} {es : List Expr} {cls : List VC} {ps : List Prop} {p1 p2 : Pos} {Q : VC → Led → Prop} (hn : WN X cs x f) (hf : WF X cs f) (he : pes cs mc m (e0 :: es) = some (cls, ps)) (hp : Alls ps) (H : WC X cs mc N f cls Q) (hs : noStars (e0 :: es) = true) (hc : ∀ en : Env, eval (.Call (.Name x p1) (e0 :: es) [] p2) en = (do callWith p2 (← eval (.Name x p1) en) [] (backTo p2 (starEach (e0 :: es) en)) (backToKw p2 (keywordEach [] en)))) : WE X cs mc m N (.Call (.Name x p1) (e0 :: es) [] p2) Q :=
  fun hk _ _ => ge_call hk (hn hk) hf hs (ga_pure (lk_F hk) he hp H) hc
theorem off_cons {N co : Led} {d : Addr} {o : Obj} (c : ∀ q ∈ N, ∀ r ∈ co, q.1 ≠ r.1) (hlt : ∀ q ∈ N ++ co, q.1 < d) : ∀ q ∈ (d, o) :: N, ∀ r ∈ co, q.1 ≠ r.1 := by
  intro q hq r hr
  rcases List.mem_cons.mp hq with rfl | hq
  · exact Nat.ne_of_gt (hlt r (List.mem_append_right _ hr))
  · exact c q hq r hr
theorem we_tuple {es : List Expr} {k : Nat} {p1 : Pos} {cls : List VC} {ps : List Prop} {Q : VC → Led → Prop} (he : pes cs mc m es = some (cls, ps)) (hp : Alls ps) (hz : Nat.ble cls.length 1000 = true) (H : ∀ d σ, (∀ q ∈ N, q.1 < d) → Q (.val (.ref d)) ((d, { cls := .type "tuple", data := .seq (atl cls σ 0).toArray }) :: N)) : WE X cs mc m N (.Tuple es k p1) Q := by
  intro hk τ ρ h t E a
  refine Tuple_ (wpAny_mono (ga_pure (X := X) (N := N) (Q := fun l N' => l = cls ∧ N' = N) (lk_F hk) he hp ⟨rfl, rfl⟩ p1 h t E a) ?_ fun _ _ x => x)
  refine AP.el ?_; intro l σ N2 h2 t2 a2 q9; obtain ⟨rfl, rfl⟩ := q9
  obtain ⟨co, c1, c4, c2, c3⟩ := a2.C
  refine kup_newTuple a2.F c2 (fun D h' F' N' hlt => .mk (.val (.ref D)) 0 _ h' t2 ⟨F', a2.D, co, c1, c4, N', off_cons c3 hlt⟩ (H D σ fun q hq => hlt q (List.mem_append_left _ hq))) (by rw [atl_len]; exact Nat.le_trans (Nat.le_of_ble_eq_true hz) (by decide))
theorem ge_list {en : Env} {f : Str → Option Value} {lk : Str → Option VC} {es : List Expr} {p1 : Pos} {cls : List VC} {ps : List Prop} {Q : VC → Led → Prop} (hlk : Lk X cs en f mc lk) (he : pevs lk es = some (cls, ps)) (hp : Alls ps) (hz : Nat.ble cls.length 1000 = true) (H : ∀ d σ, (∀ q ∈ N, q.1 < d) → Q (.val (.ref d)) ((d, lsO (atl cls σ 0) 0) :: N)) : GE X cs en f mc N (.List es p1) Q := by
  intro h t E a
  refine List_ (wpAny_mono (ga_pure (X := X) (N := N) (Q := fun l N' => l = cls ∧ N' = N) hlk he hp ⟨rfl, rfl⟩ p1 h t E a) ?_ fun _ _ x => x)
  refine AP.el ?_; intro l σ N2 h2 t2 a2 q9; obtain ⟨rfl, rfl⟩ := q9
  obtain ⟨co, c1, c4, c2, c3⟩ := a2.C
  exact newList_K a2.F c2 (fun D h' F' N' hlt => .mk (.val (.ref D)) 0 _ h' t2 ⟨F', a2.D, co, c1, c4, N', off_cons c3 hlt⟩ (H D σ fun q hq => hlt q (List.mem_append_left _ hq))) (by rw [atl_len]; exact Nat.le_trans (Nat.le_of_ble_eq_true hz) (by decide))
theorem we_list {es : List Expr} {p1 : Pos} {cls : List VC} {ps : List Prop} {Q : VC → Led → Prop} (he : pes cs mc m es = some (cls, ps)) (hp : Alls ps) (hz : Nat.ble cls.length 1000 = true) (H : ∀ d σ, (∀ q ∈ N, q.1 < d) → Q (.val (.ref d)) ((d, lsO (atl cls σ 0) 0) :: N)) : WE X cs mc m N (.List es p1) Q :=
  fun hk _ _ => ge_list (lk_F hk) he hp hz H
def Done (Post : Value → Led → Prop) : FinS → Prop
  | .ret c N => ∃ N', (∀ q ∈ N', q ∈ N) ∧ ∀ k, Post (c.at k) N'
  | .next _ _ N => ∃ N', (∀ q ∈ N', q ∈ N) ∧ Post .none N'
  | _ => False
def Loc.of (binds : List (Str × Value)) : Loc := binds.reverse.map fun q => (q.1, .val q.2)
theorem of_at {binds : List (Str × Value)} : (fun y => List.lookup y binds.reverse) = (Loc.of binds).at (fun _ => 0) (fun _ => none) := by
  funext y
  unfold Loc.of Loc.at
  generalize binds.reverse = l
  induction l with
  | nil => rfl
  | cons q l ih =>
    obtain ⟨x, v⟩ := q
    rw [List.map_cons, List.lookup_cons, List.lookup_cons]
    cases (y == x)
    · exact ih
    · rfl
theorem at_plain {X : Cx w p loose mean mg mb D U} (hX : X.cl = []) (hh : X.hid = []) {f : Str → Option Value} {h : Heap} (F : Fr X.h₀ X.L h f) (N' : News X.h₀ X.L h N) : At X f [] N h :=
  ⟨F, (fun _ _ h => nomatch h), [], ⟨[], (by rw [hh]; rfl), (by rw [hX]; rfl)⟩, List.nodup_nil, (by rw [List.append_nil]; exact N'), (fun _ _ _ h => nomatch h)⟩
theorem con_def (m : Loc) {name qual : Str} {params : Arguments} {body : List Stmt} {scope : Scope} {dV kV doc pm cdv ct oc : Value} {an od : Option Addr} {osl : Array (Option Value)} {f : Addr} {vs : List Value} {kw : List (Str × Value)} {binds : List (Str × Value)} {news : Led} {Post : Value → Led → Prop}
    (hf : List.lookup f (hd.heap_1 w.params) = some { cls := oc, dict := od, data := .func (fnOf name qual params body scope dV kV doc pm an cdv ct), slots := osl }) (hcd : codeIn (hd.heap_1 w.params) cdv qual = true)
    (hb : ∀ s : Shared, (hd.heap_1 w.params).In s.heap → BindsTo s (fnOf name qual params body scope dV kV doc pm an cdv ct) ⟨vs, kw⟩ binds) (hl : ∀ y ∈ binds, List.lookup y.1 scope.names = some .local)
    (hm : Loc.of binds = m) (H : ∀ X : Cx w p loose mean mg mb D U, X.cl = [] → X.hid = [] → WS X scope (Done Post) [] m news body)
    (c2 : scope.isCoroutine = false) (c3 : scope.isGenerator = false) (c4 : scope.kind = .function) (c5 : ∀ x ∈ scope.names, x.2 ≠ .cell) :
    Con w p loose mean mg mb (.ref f) vs kw (D + 1) (U + 3) news Post := by
  intro dp un gd env outer A₀ base h₀ L m1 h g d t o R B F XX N T hc hF hK hdp hun hret
  subst hm
  refine code_def B F XX N T rfl hF hK hf hcd (Nat.lt_of_le_of_lt (Nat.le_add_right _ _) hdp) (hb _ (XX.keeps F.keep)) hl (fun g' L' h₁ FG F' N' B' X' T' => ?_) c2 c3 c4 c5
  refine wpAny_mono (H { dp := dp + 1, un := un + 3, gd := gd, cn := qual, L := L', a := f, ccd := cdv, cl := [], cnn := List.nodup_nil, hid := [], outer := env :: outer, A₀ := _, base := base, h₀ := g', g := g, d := d, o := o, B := B', X := X', T := T', hc := hc, hdp := by rw [Nat.add_assoc, Nat.add_comm 1 D]; exact hdp, hun := by rw [Nat.add_assoc, Nat.add_comm 3 U]; exact hun } rfl rfl c4 (fun _ => 0) (fun _ => none) h₁ _ _ (at_plain rfl rfl (by rw [← of_at]; exact F') N')) ?_ fun _ _ x => x
  rintro fl s hs
  induction hs with
  | next mc' m' N2 h2 t2 τ' ρ' a hQ =>
    obtain ⟨N', hs, hQ⟩ := hQ
    exact leaveK_ a.F (newsSub a.N hs) fun F4 N4 => hret _ _ _ _ F4 N4 hQ
  | ret c k mc' f N2 h2 t2 a hQ =>
    obtain ⟨N', hs, hQ⟩ := hQ
    exact leaveK_ a.F (newsSub a.N hs) fun F4 N4 => hret _ _ _ _ F4 N4 (hQ k)
  | brk mc' m' N2 h2 t2 τ' ρ' a hQ => exact hQ.elim
  | cont mc' m' N2 h2 t2 τ' ρ' a hQ => exact hQ.elim
end
end
section
section
variable {w : World} {p : Program} {loose : List Str} {mean : ExcName → Option Value} {mg mb : Str → Option Value} {D U : Nat}
variable {X : Cx w p loose mean mg mb D U} {cs : Scope} {Q : FinS → Prop} {mc m : Loc} {N : Led}
theorem ws_led {N' : Led} {ss : List Stmt} (hs : ∀ q ∈ N', q ∈ N) (h : WS X cs Q mc m N' ss) : WS X cs Q mc m N ss :=
  fun hk τ ρ hp t E a => h hk τ ρ hp t E (a.sub hs)
theorem co_set : ∀ {cl : List (Str × Addr)} {mc : Loc} {co : Led} {x : Str} {a : Addr}, CoOK cl mc co → (cl.map (·.1)).Nodup → cl.lookup x = some a →
    ∃ pre o v post, co = pre ++ (a, o) :: post ∧ o.data = .cell v ∧ ∀ o' c k, o'.data = .cell (some (VC.at c k)) → CoOK cl ((x, c) :: mc) (pre ++ (a, o') :: post)
  | [], _, _, _, _, _, _, hl => nomatch hl
  | q :: cl, mc, co, x, a, hc, hn, hl => by
    obtain ⟨o, v, co', rfl, h1, h2, h3⟩ := hc
    obtain ⟨y, b⟩ := q
    have hn' := List.nodup_cons.mp hn
    have keep : ∀ {cl : List (Str × Addr)} {co : Led} {c : VC}, CoOK cl mc co → x ∉ cl.map (·.1) → CoOK cl ((x, c) :: mc) co := by
      intro cl
      induction cl with
      | nil => intro co c h _; exact h
      | cons q cl ih =>
        intro co c h hx
        obtain ⟨o, v, co', rfl, g1, g2, g3⟩ := h
        refine ⟨o, v, co', rfl, g1, fun c' hc' => g2 c' ?_, ih g3 fun hm => hx (.tail _ hm)⟩
        rw [List.lookup_cons] at hc'
        cases hb : (q.1 == x) with
        | true => exact absurd (by rw [List.map_cons, eq_of_beq hb]; exact .head _) hx
        | false => rw [hb] at hc'; exact hc'
    rw [List.lookup_cons] at hl
    cases hb : (x == y) with
    | true =>
      rw [hb] at hl
      injection hl with hl
      subst hl
      have hxy := eq_of_beq hb
      subst hxy
      refine ⟨[], o, v, co', rfl, h1, fun o' c k ho' => ⟨o', _, co', rfl, ho', fun c' hc' => ?_, keep h3 hn'.1⟩⟩
      rw [List.lookup_cons_self] at hc'
      injection hc' with hc'
      exact ⟨k, by rw [hc']⟩
    | false =>
      rw [hb] at hl
      obtain ⟨pre, o1, v1, post, rfl, e2, e3⟩ := co_set h3 hn'.2 hl
      refine ⟨(b, o) :: pre, o1, v1, post, rfl, e2, fun o' c k ho' => ⟨o, v, _, rfl, h1, fun c' hc' => h2 c' ?_, e3 o' c k ho'⟩⟩
      rw [List.lookup_cons] at hc'
      cases hb' : (y == x) with
      | true => rw [eq_of_beq hb', beq_self_eq_true] at hb; cases hb
      | false => rw [hb'] at hc'; exact hc'
theorem off_of {pre post : Led} {a : Addr} {o : Obj} (hn : ((pre ++ (a, o) :: post).map (·.1)).Nodup) : ∀ q ∈ pre ++ post, q.1 ≠ a := by
  rw [List.map_append, List.map_cons, List.nodup_append] at hn
  obtain ⟨_, h2, h3⟩ := hn
  intro q hq
  rcases List.mem_append.mp hq with hq | hq
  · exact h3 _ (List.mem_map_of_mem (f := (·.1)) hq) _ (.head _)
  · exact fun e => (List.nodup_cons.mp h2).1 (e ▸ List.mem_map_of_mem (f := (·.1)) hq)
theorem wb_cell {x : Str} {c : VC} {Q : Loc → Loc → Prop} (hx : cs.names.lookup x = some .cell) (hl : (X.cl.lookup x).isSome = true) (h : Q ((x, c) :: mc) m) : WB X cs mc m N x c Q := by
  intro hk τ ρ k hp t E a
  obtain ⟨_, ⟨cc, rfl, c1⟩, c4, c2, c3⟩ := a.C
  obtain ⟨b, hb⟩ := Option.isSome_iff_exists.mp hl
  obtain ⟨pre, o, v, post, rfl, hd, hset⟩ := co_set c1 X.cnn hb
  rw [List.append_assoc, List.cons_append] at c4 c2 c3
  have hoff := off_of c4
  have hbN : ∀ q ∈ N, q.1 ≠ b := fun q hq => c3 q hq (b, o) (List.mem_append_right _ (.head _))
  have hob := c2 (b, o) (List.mem_append_right _ (List.mem_append_right _ (.head _)))
  refine wpAny_storeName_cell hk hx hb ⟨o, hob.1, hd⟩ fun h' hv hs => ?_
  obtain ⟨o', ho', hd'⟩ := hv
  rw [← List.append_assoc] at c2
  obtain ⟨F2, N2⟩ := news_upd a.F c2 (fun q hq => by
    rw [List.append_assoc] at hq
    exact (List.mem_append.mp hq).elim (hbN q) (hoff q)) ho' fun a ob ha e => (hs.2 a ha).trans e
  rw [List.append_assoc] at N2
  refine .mk ((x, c) :: mc) m h' t τ ρ ⟨F2, fun y d hy => ?_, pre ++ (b, o') :: (post ++ X.hid), ⟨pre ++ (b, o') :: post, by rw [List.append_assoc, List.cons_append], hset o' c k hd'⟩, ?_, N2, fun q hq r hr => ?_⟩ h
  · rw [List.lookup_cons] at hy
    cases hb' : (y == x) with
    | true => rw [eq_of_beq hb']; exact hl
    | false => rw [hb'] at hy; exact a.D y d hy
  · rw [List.map_append, List.map_cons] at c4 ⊢; exact c4
  · rcases List.mem_append.mp hr with hr | hr
    · exact c3 q hq r (List.mem_append_left _ hr)
    · rcases List.mem_cons.mp hr with rfl | hr
      · exact hbN q hq
      · exact c3 q hq r (List.mem_append_right _ (.tail _ hr))
theorem ws_put2 {x y : Str} {p1 p2 p3 p4 : Pos} {k : Nat} {e : Expr} {rest : List Stmt}
    (h : WE X cs mc m N e fun c N' => ∃ d u v, c = .val (.ref d) ∧ (d, ({ cls := .type "tuple", data := .seq [u, v].toArray } : Obj)) ∈ N' ∧ WB X cs mc m N' x (.val u) fun mc' m' => WB X cs mc' m' N' y (.val v) fun mc' m' => WS X cs Q mc' m' N' rest)
    (hs : ∀ en, swapsWithSole [.Tuple [.Name x p1, .Name y p2] k p3] e p4.line en = pure false) (hw : ∀ en, swappedStores [.Tuple [.Name x p1, .Name y p2] k p3] e en = pure none) : WS X cs Q mc m N (.Assign [.Tuple [.Name x p1, .Name y p2] k p3] e p4 :: rest) := by
  refine ws_cons ?_
  intro hk τ ρ hp t E a
  refine Assign_Tuple (wpAny_mono (h hk τ ρ hp t E a) ?_ fun _ _ x => x) (hs _) (hw _)
  refine EP.el ?_; intro c k N2 h2 t2 a2 q9; obtain ⟨d, u, v, rfl, hd, hQ⟩ := q9
  obtain ⟨co, c1, c4, c2, c3⟩ := a2.C
  refine unpackN_ a2.F c2 (items := [u, v].toArray) ⟨_, (a2.N _ hd).1, rfl, _, rfl⟩ rfl rfl rfl fun h' F' N' => ?_
  refine assignInOrder_cons (assign_Name (wpAny_mono (hQ hk τ ρ 0 h' t2 E ⟨F', a2.D, co, c1, c4, N', c3⟩) ?_ fun _ _ x => x))
  refine BP.el ?_; intro mc' m' h3 t3 τ' ρ' a3 hQ
  refine assignInOrder_cons (assign_Name (wpAny_mono (hQ hk τ' ρ' 0 h3 t3 E a3) ?_ fun _ _ x => x))
  refine BP.el ?_; intro mc' m' h3 t3 τ' ρ' a3 hQ
  exact assignInOrder_nil (.next mc' m' N2 h3 t3 τ' ρ' a3 hQ)
def Cx.hide (X : Cx w p loose mean mg mb D U) (I : Addr) (o : Obj) : Cx w p loose mean mg mb D U := { X with hid := (I, o) :: X.hid }
theorem hideC {co : Led} {I : Addr} (o : Obj) (hc : Hid X mc co) (hn : (co.map (·.1)).Nodup) (off : ∀ q ∈ N, ∀ r ∈ co, q.1 ≠ r.1) (hI : ∀ q ∈ N ++ co, q.1 ≠ I) :
    ∃ co', Hid (X.hide I o) mc co' ∧ (co'.map (·.1)).Nodup ∧ (∀ q ∈ N, ∀ r ∈ co', q.1 ≠ r.1) ∧ ∀ q, q ∈ N ++ co' ↔ q ∈ (I, o) :: (N ++ co) := by
  obtain ⟨cc, rfl, c1⟩ := hc
  have hm : ∀ q, q ∈ cc ++ (I, o) :: X.hid ↔ q = (I, o) ∨ q ∈ cc ++ X.hid := fun q => List.perm_middle.mem_iff.trans List.mem_cons
  refine ⟨cc ++ (I, o) :: X.hid, ⟨cc, rfl, c1⟩, ?_, fun q hq r hr => ?_, fun q => ?_⟩
  · refine (List.Perm.nodup_iff (List.Perm.map _ List.perm_middle)).mpr (List.nodup_cons.mpr ⟨fun h => ?_, hn⟩)
    obtain ⟨r, hr, e⟩ := List.mem_map.mp h
    exact hI r (List.mem_append_right _ hr) e
  · rcases (hm r).mp hr with rfl | hr
    · exact hI q (List.mem_append_left _ hq)
    · exact off q hq r hr
  · rw [List.mem_append, hm, List.mem_cons, (List.mem_append : q ∈ N ++ (cc ++ X.hid) ↔ _)]
    exact ⟨fun h => h.elim (fun h => .inr (.inl h)) fun h => h.elim .inl fun h => .inr (.inr h), fun h => h.elim (fun h => .inr (.inl h)) fun h => h.elim .inl fun h => .inr (.inr h)⟩
theorem showC {co' : Led} {I : Addr} {o : Obj} (hc : Hid (X.hide I o) mc co') (hn : (co'.map (·.1)).Nodup) (off : ∀ q ∈ N, ∀ r ∈ co', q.1 ≠ r.1) :
    ∃ co, Hid X mc co ∧ (co.map (·.1)).Nodup ∧ (∀ q ∈ N, ∀ r ∈ co, q.1 ≠ r.1) ∧ (∀ q, q ∈ (I, o) :: (N ++ co) ↔ q ∈ N ++ co') ∧ ∀ q ∈ N ++ co, q.1 ≠ I := by
  obtain ⟨cc, rfl, c1⟩ := hc
  have hm : ∀ q, q ∈ cc ++ (I, o) :: X.hid ↔ q = (I, o) ∨ q ∈ cc ++ X.hid := fun q => List.perm_middle.mem_iff.trans List.mem_cons
  have hn' := List.nodup_cons.mp ((List.Perm.nodup_iff (List.Perm.map (·.1) (List.perm_middle (a := (I, o)) (l₁ := cc) (l₂ := X.hid)))).mp hn)
  refine ⟨cc ++ X.hid, ⟨cc, rfl, c1⟩, hn'.2, fun q hq r hr => off q hq r ((hm r).mpr (.inr hr)), fun q => ?_, fun q hq => ?_⟩
  · rw [List.mem_append, show ((X.hide I o).hid = (I, o) :: X.hid) from rfl, hm, List.mem_cons, (List.mem_append : q ∈ N ++ (cc ++ X.hid) ↔ _)]
    exact ⟨fun h => h.elim (fun h => .inr (.inl h)) fun h => h.elim .inl fun h => .inr (.inr h), fun h => h.elim (fun h => .inr (.inl h)) fun h => h.elim .inl fun h => .inr (.inr h)⟩
  · rcases List.mem_append.mp hq with hq | hq
    · exact off q hq (I, o) ((hm _).mpr (.inl rfl))
    · exact fun e => hn'.1 (List.mem_map.mpr ⟨q, hq, e⟩)
theorem At.hide {f : Str → Option Value} {h h' : Heap} {I : Addr} {o : Obj} (a : At X f mc N h) (H : ∀ co, News X.h₀ X.L h (N ++ co) → Fr X.h₀ X.L h' f ∧ News X.h₀ X.L h' ((I, o) :: (N ++ co)) ∧ ∀ q ∈ N ++ co, q.1 < I) : At (X.hide I o) f mc N h' := by
  obtain ⟨co, c1, c4, c2, c3⟩ := a.C
  obtain ⟨F', N', hlt⟩ := H _ c2
  obtain ⟨co', d1, d4, d3, dm⟩ := hideC o c1 c4 c3 fun q hq => Nat.ne_of_lt (hlt q hq)
  exact ⟨F', a.D, co', d1, d4, fun q hq => N' q ((dm q).mp hq), d3⟩
theorem At.show {f : Str → Option Value} {h : Heap} {I : Addr} {o : Obj} (a : At (X.hide I o) f mc N h) : At X f mc N h := by
  obtain ⟨co', c1, c4, c2, c3⟩ := a.C
  obtain ⟨co, d1, d4, d3, dm, _⟩ := showC c1 c4 c3
  exact ⟨a.F, a.D, co, d1, d4, fun q hq => c2 q ((dm q).mp (.tail _ hq)), d3⟩
theorem At.upd {f : Str → Option Value} {h h' : Heap} {I : Addr} {o o' : Obj} (a : At (X.hide I o) f mc N h) (ho : h'.get? I = some o') (hs : ∀ b ob, b ≠ I → h.get? b = some ob → h'.get? b = some ob) : At (X.hide I o') f mc N h' := by
  obtain ⟨co', c1, c4, c2, c3⟩ := a.C
  obtain ⟨co, d1, d4, d3, dm, dI⟩ := showC c1 c4 c3
  obtain ⟨F2, N2⟩ := news_upd (pre := []) a.F (fun q hq => c2 q ((dm q).mp hq)) dI ho hs
  obtain ⟨co2, e1, e4, e3, em⟩ := hideC o' d1 d4 d3 dI
  exact ⟨F2, a.D, co2, e1, e4, fun q hq => N2 q ((em q).mp hq), e3⟩
theorem At.lose {f : Str → Option Value} {h h' : Heap} {I : Addr} {o : Obj} (a : At (X.hide I o) f mc N h) (hs : ∀ b ob, b ≠ I → h.get? b = some ob → h'.get? b = some ob) : At X f mc N h' := by
  obtain ⟨co', c1, c4, c2, c3⟩ := a.C
  obtain ⟨co, d1, d4, d3, dm, dI⟩ := showC c1 c4 c3
  have hI := (c2 (I, o) ((dm _).mp (.head _))).2
  obtain ⟨on, es, ep, n1, n2⟩ := a.F.ns
  refine ⟨⟨⟨on, es, ep, hs _ on (Ne.symm hI.1) n1, n2⟩, fun b ob e => hs b ob (fun q => ?_) (a.F.keep b ob e), a.F.above⟩, a.D, co, d1, d4, fun q hq => ?_, d3⟩
  · rw [q] at e; rw [show X.h₀.get? I = none from hI.2] at e; cases e
  · have := c2 q ((dm q).mp (.tail _ hq))
    exact ⟨hs _ _ (dI q hq) this.1, this.2⟩
theorem At.hidden {f : Str → Option Value} {h : Heap} {I : Addr} {o : Obj} (a : At (X.hide I o) f mc N h) : h.get? I = some o := by
  obtain ⟨co', c1, c4, c2, c3⟩ := a.C
  obtain ⟨co, d1, d4, d3, dm, _⟩ := showC c1 c4 c3
  exact (c2 (I, o) ((dm _).mp (.head _))).1
def Turn (Q : FinS → Prop) (Inv : Loc → Loc → Led → Prop) : FinS → Prop
  | .next mc m N => Inv mc m N
  | .cont mc m N => Inv mc m N
  | .brk mc m N => Q (.next mc m N)
  | .ret c N => Q (.ret c N)
inductive LP (X : Cx w p loose mean mg mb D U) (It : Nat → Obj → Prop) (I : Addr) (Inv : Nat → Loc → Loc → Led → Prop) (n : Nat) : Nat → Shared → Prop
  | mk (k : Nat) (o : Obj) (mc m : Loc) (N : Led) (h : Heap) (t : Nat) (τ : Str → Nat) (ρ : Str → Option Value) (hk : k ≤ n) (ho : It k o) (a : At (X.hide I o) (m.at τ ρ) mc N h) (q : Inv k mc m N) : LP X It I Inv n (n - k) (X.s h t)
inductive IP (X : Cx w p loose mean mg mb D U) (f : Str → Option Value) (mc : Loc) (Q : (Nat → Obj → Prop) → Led → Prop) : Value → Shared → Prop
  | mk (I : Addr) (o : Obj) (It : Nat → Obj → Prop) (N : Led) (h : Heap) (t : Nat) (ho : It 0 o) (a : At (X.hide I o) f mc N h) (q : Q It N) : IP X f mc Q (.ref I) (X.s h t)
theorem IP.el {f : Str → Option Value} {Q : (Nat → Obj → Prop) → Led → Prop} {P : Value → Shared → Prop} (H : ∀ I o It N h t, It 0 o → At (X.hide I o) f mc N h → Q It N → P (.ref I) (X.s h t)) : ∀ v s, IP X f mc Q v s → P v s := fun _ _ e => IP.rec (motive := fun v s _ => P v s) H e
def WI (X : Cx w p loose mean mg mb D U) (cs : Scope) (mc m : Loc) (N : Led) (iter : Expr) (Q : (Nat → Obj → Prop) → Led → Prop) : Prop :=
  cs.kind = .function → ∀ τ ρ h t E, At X (m.at τ ρ) mc N h → wpAny X.M (X.A cs) (eval iter (X.env cs)) (fun xv s => wpAny X.M (X.A cs) (pyIter xv) (IP X (m.at τ ρ) mc Q) E s) E (X.s h t)
def Nxt (X : Cx w p loose mean mg mb D U) (cs : Scope) (It : Nat → Obj → Prop) (V : Nat → VC → Prop) (n : Nat) (Inv : Nat → Loc → Loc → Led → Prop) : Prop :=
  ∀ k o I f mc m N h t (Q : Option Value → Shared → Prop) E, k ≤ n → It k o → Inv k mc m N → At (X.hide I o) f mc N h →
    (k < n → ∀ o' c tk h' t', It (k + 1) o' → V k c → At (X.hide I o') f mc N h' → Q (some (c.at tk)) (X.s h' t')) → (k = n → ∀ h' t', At X f mc N h' → Q none (X.s h' t')) → wpAny X.M (X.A cs) (pyNext (.ref I)) Q E (X.s h t)
inductive ForR (X : Cx w p loose mean mg mb D U) (cs : Scope) (Q : FinS → Prop) (mc m : Loc) (x : Str) (body : List Stmt) (It : Nat → Obj → Prop) (N : Led) : Prop
  | mk (V : Nat → VC → Prop) (n : Nat) (Inv : Nat → Loc → Loc → Led → Prop) (h0 : Inv 0 mc m N) (hn : Nxt X cs It V n Inv) (turn : ∀ I o k c mc m N, k < n → V k c → Inv k mc m N → WB (X.hide I o) cs mc m N x c fun mc' m' => WS (X.hide I o) cs (Turn Q (Inv (k + 1))) mc' m' N body) (done : ∀ mc m N, Inv n mc m N → Q (.next mc m N)) : ForR X cs Q mc m x body It N
theorem w_for {x : Str} {px pos : Pos} {iter : Expr} {body : List Stmt} (hi : WI X cs mc m N iter (ForR X cs Q mc m x body)) (hf : ∀ en x, foldedSetIterable iter en x = pure x) : W1 X cs Q mc m N (.For (.Name x px) iter body [] pos) := by
  intro hk τ ρ hp t E a
  refine wpAny_For (wpAny_mono (hi hk τ ρ hp t E a) (fun xv s h => wpAny_mono h ?_ fun _ _ x => x) fun _ _ x => x) (hf _)
  refine IP.el ?_; intro I o It N2 h2 t2 ho a2 q9; obtain ⟨V, n, Inv, hI, hn, turn, done⟩ := q9
  refine codeAny_forLoop (LP X It I Inv n) ?_ n (.mk 0 o mc m N2 h2 t2 τ ρ (Nat.zero_le _) ho a2 hI)
  rintro _ _ ⟨k, o, mc, m, N, h, t, τ, ρ, hk', ho, a, hI⟩
  refine hn k o I _ mc m N h t _ _ hk' ho hI a (fun hlt o' c tk h' t' ho' hV a' => ?_) (fun ek h' t' a' => ?_)
  · refine assign_Name (wpAny_mono (turn I o' k c mc m N hlt hV hI hk τ ρ tk h' t' _ a') ?_ fun _ _ x => x)
    refine BP.el ?_; intro mc' m' h3 t3 τ' ρ' a3 hS
    refine wpAny_mono (hS hk τ' ρ' h3 t3 _ a3) ?_ fun _ _ x => x
    rintro f s hs
    induction hs with
    | next mc' m' N' h4 t4 τ' ρ' a4 hQ => exact ⟨_, Nat.sub_succ_lt_self _ _ hlt, .mk (k + 1) o' mc' m' N' h4 t4 τ' ρ' hlt ho' a4 hQ⟩
    | cont mc' m' N' h4 t4 τ' ρ' a4 hQ => exact ⟨_, Nat.sub_succ_lt_self _ _ hlt, .mk (k + 1) o' mc' m' N' h4 t4 τ' ρ' hlt ho' a4 hQ⟩
    | brk mc' m' N' h4 t4 τ' ρ' a4 hQ => exact .next mc' m' N' h4 t4 τ' ρ' a4.show hQ
    | ret c k' mc' f N' h4 t4 a4 hQ => exact .ret c k' mc' f N' h4 t4 a4.show hQ
  · subst ek
    exact wpAny_execs_nil (.next mc m N h' t' τ ρ a' (done mc m N hI))
def itO (l : Addr) (i : Nat) (o : Obj) : Prop := o.cls = .type "list_iterator" ∧ o.data = .fields #[.ref l, .int i 0]
theorem isl {l : Addr} {vs : List Value} {n : Nat} {f : Str → Option Value} {h : Heap} (hm : (l, lsO vs n) ∈ N) (a : At X f mc N h) : h.IsList l vs.toArray := ⟨_, (a.N _ hm).1, rfl, _, rfl⟩
theorem wi_list {iter : Expr} {Q : (Nat → Obj → Prop) → Led → Prop} (h : WE X cs mc m N iter fun c N' => ∃ l vs n, c = .val (.ref l) ∧ (l, lsO vs n) ∈ N' ∧ Q (itO l) N') : WI X cs mc m N iter Q := by
  intro hk τ ρ hp t E a
  refine wpAny_mono (h hk τ ρ hp t E a) ?_ fun _ _ x => x
  refine EP.el ?_; intro c k N2 h2 t2 a2 q9; obtain ⟨l, vs, n, rfl, hm, hQ⟩ := q9
  refine wpAny_pyIter_list (isl hm a2) ?_
  exact .mk _ _ (itO l) N2 _ t2 ⟨rfl, rfl⟩ (a2.hide (o := { cls := .type "list_iterator", data := .fields #[.ref l, .int 0 0] }) fun co N1 => ⟨a2.F.push _, N1.push a2.F _, fun q hq => Heap.lt_size (N1.get hq)⟩) hQ
theorem nxt_list {l : Addr} {vs : List Value} {n : Nat} {Inv : Nat → Loc → Loc → Led → Prop} (hl : ∀ k mc m N, Inv k mc m N → (l, lsO vs n) ∈ N) : Nxt X cs (itO l) (fun k c => ∃ v, c = .val v ∧ vs[k]? = some v) vs.length Inv := by
  intro k o I f mc m N h t Q E hk ho hI a h1 h2
  have hit : h.IsListIter I l k := ⟨o, a.hidden, ho.1, ho.2⟩
  by_cases hlt : k < vs.length
  · have hx : vs[k]? = some (vs[k]) := List.getElem?_eq_getElem hlt
    refine wpAny_pyNext_list_item hit (isl (hl _ _ _ _ hI) a) (x := vs[k]) (by simpa using hx) fun h' hit' hs' => ?_
    obtain ⟨o', ho1, hc, hd⟩ := hit'
    exact h1 hlt o' (.val vs[k]) 0 h' t ⟨hc, hd⟩ ⟨_, rfl, hx⟩ (a.upd ho1 fun b ob hb eo => (hs'.2 b hb).trans eo)
  · exact wpAny_pyNext_list_end rfl hit (isl (hl _ _ _ _ hI) a) (by simpa using hlt) fun h' he' => h2 (Nat.le_antisymm hk (Nat.le_of_not_lt hlt)) h' t (a.lose he')
def rgO (n : Nat) (i : Nat) (o : Obj) : Prop := o = { cls := .type "range_iterator", data := .fields #[rawInt (i : Int), rawInt ((n : Int) - (i : Int)), rawInt 1] }
theorem nxt_range {n : Nat} {Inv : Nat → Loc → Loc → Led → Prop} : Nxt X cs (rgO n) (fun k c => c = .int k) n Inv := by
  intro k o I f mc m N h t Q E hk ho hI a h1 h2
  have hit := a.hidden
  rw [ho] at hit
  by_cases hlt : k < n
  · refine wpAny_pyNext_range_item hit (by omega) fun h' hit' hs' => ?_
    have e1 : (k : Int) + 1 = ((k + 1 : Nat) : Int) := by omega
    have e2 : (n : Int) - (k : Int) - 1 = (n : Int) - ((k + 1 : Nat) : Int) := by omega
    rw [e1, e2] at hit'
    exact h1 hlt _ (.int k) _ h' _ rfl rfl (a.upd hit' fun b ob hb eo => (hs'.2 b hb).trans eo)
  · exact wpAny_pyNext_range_end rfl hit (by omega) fun h' he' => h2 (Nat.le_antisymm hk (Nat.le_of_not_lt hlt)) h' t (a.lose he')
theorem wc_range {n : Nat} {Q : (Nat → Obj → Prop) → Led → Prop} (hn : Builtin.Range.small 0 n 1 = true ∧ Builtin.Range.rangeSize 0 n 1 = (n : Int)) (hQ : Q (rgO n) N) {f : Str → Option Value} {h : Heap} {t k : Nat} {E : Value → Shared → Prop} (a : At X f mc N h) :
    wpAny X.M (X.A cs) (call (.type "range") [.int n k]) (fun xv s => wpAny X.M (X.A cs) (pyIter xv) (IP X f mc Q) E s) E (X.s h t) := by
  obtain ⟨co, c1, c4, c2, c3⟩ := a.C
  refine range1_rows a.F c2 fun h' tk t1 u1 v1 hr F' N' _ => ?_
  refine wpAny_pyIter_range hr hn.1 ?_
  have a2 : At X f mc N h' := ⟨F', a.D, co, c1, c4, N', c3⟩
  refine .mk _ _ (rgO n) N _ _ ?_ (a2.hide (o := { cls := .type "range_iterator", data := .fields #[rawInt 0, rawInt (Builtin.Range.rangeSize 0 (n : Int) 1), rawInt 1] }) fun co N1 => ⟨a2.F.push _, N1.push a2.F _, fun q hq => Heap.lt_size (N1.get hq)⟩) hQ
  unfold rgO
  rw [hn.2]
  show _ = ({ cls := .type "range_iterator", data := .fields #[rawInt 0, rawInt ((n : Int) - 0), rawInt 1] } : Obj)
  rw [Int.sub_zero]
theorem wi_range {e0 : Expr} {p1 p2 : Pos} {n : Nat} {ps : List Prop} {Q : (Nat → Obj → Prop) → Led → Prop} (hx : WN X cs "range" (.type "range")) (he : pes cs mc m [e0] = some ([.int n], ps)) (hp : Alls ps) (hn : Builtin.Range.small 0 n 1 = true ∧ Builtin.Range.rangeSize 0 n 1 = (n : Int)) (hQ : Q (rgO n) N) (hs : noStars [e0] = true) : WI X cs mc m N (.Call (.Name "range" p1) [e0] [] p2) Q := by
  intro hk τ ρ hp' t E a
  refine Call_ ?_ rfl
  refine hx hk p1 _ hp' t E _ a.F ?_
  refine wf_type _ p2 e0 [] _ hp' t E _ a.F hs (wpAny_mono (ga_pure (X := X) (N := N) (Q := fun l N' => l = [.int n] ∧ N' = N) (lk_F hk) he hp ⟨rfl, rfl⟩ p2 hp' t E a) ?_ fun _ _ x => x)
  refine AP.el ?_; intro l σ N2 h2 t2 a2 q9; obtain ⟨rfl, rfl⟩ := q9
  exact ⟨⟨_, a2.F⟩, wc_range hn hQ a2⟩
end
end
section
section
variable {w : World} {p : Program} {loose : List Str} {mean : ExcName → Option Value} {mg mb : Str → Option Value} {D U : Nat}
variable {X : Cx w p loose mean mg mb D U} {cs : Scope} {Q : FinS → Prop} {mc m : Loc} {N : Led} {en : Env} {f : Str → Option Value} {lk : Str → Option VC}
def Sub (a b : Loc) : Prop := ∀ q ∈ a, b.lookup q.1 = some q.2 ∨ nmO (b.lookup q.1) = some q.2
theorem Sub.get {a b : Loc} (h : Sub a b) {x : Str} {c : VC} (e : a.lookup x = some c) : ∃ d, b.lookup x = some d ∧ ∀ k, ∃ l, d.at k = c.at l := by
  have : (x, c) ∈ a := by
    clear h
    induction a with
    | nil => cases e
    | cons q r ih =>
      obtain ⟨z, d⟩ := q
      rw [List.lookup_cons] at e
      cases hb : (x == z) with
      | true => rw [hb] at e; injection e with e; rw [eq_of_beq hb, e]; exact .head _
      | false => rw [hb] at e; exact .tail _ (ih e)
  rcases h _ this with h | h
  · exact ⟨c, h, fun k => ⟨k, rfl⟩⟩
  · obtain ⟨d, h1, h2⟩ := nm_some h
    exact ⟨d, h1, nmO_at h2⟩
theorem CoOK.sub {mc mc' : Loc} (h : Sub mc' mc) : ∀ {cl : List (Str × Addr)} {co : Led}, CoOK cl mc co → CoOK cl mc' co
  | [], _, c => c
  | _ :: _, _, ⟨o, v, co', e, h1, h2, h3⟩ => ⟨o, v, co', e, h1, fun c hc => by
      obtain ⟨d, hd, hl⟩ := h.get hc
      obtain ⟨k, hk⟩ := h2 d hd
      obtain ⟨l, hl⟩ := hl k
      exact ⟨l, by rw [hk, hl]⟩, CoOK.sub h h3⟩
theorem At.weak {mc' : Loc} {N' : Led} {h : Heap} (a : At X f mc N h) (hm : Sub mc' mc) (hs : ∀ q ∈ N', q ∈ N) : At X f mc' N' h := by
  obtain ⟨co, ⟨cc, e, c1⟩, c4, c2, c3⟩ := (a.sub hs).C
  exact ⟨a.F, fun y c hy => by obtain ⟨d, hd, _⟩ := hm.get hy; exact a.D y d hd, co, ⟨cc, e, c1.sub hm⟩, c4, c2, c3⟩
theorem loc_le {m m' : Loc} {τ : Str → Nat} {ρ : Str → Option Value} (hm : Sub m' m) : ∃ τ' ρ', m.at τ ρ = m'.at τ' ρ' := by
  have hc : ∀ y, ∃ l, ∀ c, m'.lookup y = some c → m.at τ ρ y = some (c.at l) := by
    intro y
    cases h : m'.lookup y with
    | none => exact ⟨0, fun c e => nomatch e⟩
    | some c =>
      obtain ⟨d, hd, hl⟩ := hm.get h
      obtain ⟨l, hl⟩ := hl (τ y)
      exact ⟨l, fun c' e => by injection e with e; rw [← e, ← hl]; exact at_lk hd⟩
  refine ⟨fun y => (hc y).choose, m.at τ ρ, ?_⟩
  funext y
  show _ = match m'.lookup y with | some c => some (c.at (hc y).choose) | none => m.at τ ρ y
  have := (hc y).choose_spec
  generalize (hc y).choose = l at this ⊢
  cases h : m'.lookup y with
  | none => rfl
  | some c => exact this c h
theorem ws_weak {mc' m' : Loc} {N' : Led} {ss : List Stmt} (h1 : Sub mc' mc) (h2 : Sub m' m) (h3 : ∀ q ∈ N', q ∈ N) (h : WS X cs Q mc' m' N' ss) : WS X cs Q mc m N ss := by
  intro hk τ ρ hp t E a
  obtain ⟨τ', ρ', e⟩ := loc_le (τ := τ) (ρ := ρ) h2
  exact h hk τ' ρ' hp t E (e ▸ a.weak h1 h3)
def GB (X : Cx w p loose mean mg mb D U) (cs : Scope) (f : Str → Option Value) (mc : Loc) (N : Led) (op : Operator) (c d : VC) (Q : VC → Led → Prop) : Prop :=
  ∀ k l h t E, At X f mc N h → wpAny X.M (X.A cs) (binaryOp op (c.at k) (d.at l)) (EP X f mc Q) E (X.s h t)
theorem ge_bin {l r : Expr} {op : Operator} {pos : Pos} {Q : VC → Led → Prop} (h : GE X cs en f mc N l fun c N1 => GE X cs en f mc N1 r fun d N2 => GB X cs f mc N2 op c d Q) : GE X cs en f mc N (.BinOp l op r pos) Q := by
  intro hp t E a
  refine wpAny_BinOp (wpAny_mono (h hp t E a) ?_ fun _ _ x => x)
  refine EP.el ?_; intro c k N2 h2 t2 a2 hQ
  refine wpAny_mono (hQ h2 t2 E a2) ?_ fun _ _ x => x
  refine EP.el ?_; intro d l N3 h3 t3 a3 hQ
  exact hQ k l h3 t3 E a3
theorem gb_pure {op : Operator} {c d e : VC} {ps : List Prop} {Q : VC → Led → Prop} (he : binop op c d = some (e, ps)) (hp : Alls ps) (h : Q e N) : GB X cs f mc N op c d Q :=
  fun _ _ hp' _ _ a => binop_ok rfl he hp fun k t' => .mk e k N hp' t' a h
theorem Sub.cons {a b : Loc} {x : Str} {c : VC} (h : Sub a b) (hx : (a.all fun q => !(q.1 == x)) = true) : Sub a ((x, c) :: b) := by
  intro q hq
  have := List.all_eq_true.mp hx q hq
  have hb : (q.1 == x) = false := by simpa using this
  rw [List.lookup_cons, hb]
  exact h q hq
theorem Sub.nil {b : Loc} : Sub [] b := List.forall_mem_nil _
theorem Sub.of {a b : Loc} {x : Str} {c : VC} (e : b.lookup x = some c ∨ nmO (b.lookup x) = some c) (h : Sub a b) : Sub ((x, c) :: a) b := List.forall_mem_cons.mpr ⟨e, h⟩
def bodyOf : Option Stmt → List Stmt
  | some (.FunctionDef _ _ b ..) => b
  | _ => []
def scopeOf : Option Stmt → Scope
  | some (.FunctionDef _ _ _ _ _ _ s ..) => s
  | _ => default
abbrev dBody (i : Nat) : List Stmt := bodyOf PySem.Challenge.pw_uj0005_01.main.body[i]?
abbrev dScope (i : Nat) : Scope := scopeOf PySem.Challenge.pw_uj0005_01.main.body[i]?
end
end
section
section
variable {w : World} {p : Program} {loose : List Str} {mean : ExcName → Option Value} {mg mb : Str → Option Value} {D U : Nat}
variable {X : Cx w p loose mean mg mb D U} {cs : Scope} {Q : FinS → Prop} {mc m : Loc} {N : Led}
theorem closure_go {env : Env} {f : Str × NameKind → List (Str × Addr) → Sem (ForInStep (List (Str × Addr)))} (hf : ∀ n a r, cellOf env n = pure a → f (n, .free) r = pure (.yield ((n, a) :: r))) (hf2 : ∀ n k r, k ≠ .free → f (n, k) r = pure (.yield r)) : ∀ (l : List (Str × NameKind)) (acc : List (Str × Addr)), (∀ q ∈ l, q.2 = .free → (env.cells.lookup q.1).isSome = true) →
    ∃ cl, forIn l acc f = pure cl ∧ ∀ y, (∃ q ∈ l, q.1 = y ∧ q.2 = .free) ∨ acc.lookup y = env.cells.lookup y → cl.lookup y = env.cells.lookup y
  | [], acc, _ => ⟨acc, rfl, fun y h => h.elim (fun ⟨q, hq, _⟩ => nomatch hq) id⟩
  | (n, k) :: l, acc, h => by
    by_cases hk : k = .free
    · subst hk
      obtain ⟨a, ha⟩ := Option.isSome_iff_exists.mp (h _ (.head _) rfl)
      obtain ⟨cl, e, hcl⟩ := closure_go hf hf2 l ((n, a) :: acc) fun q hq => h q (.tail _ hq)
      refine ⟨cl, ?_, fun y hy => hcl y ?_⟩
      · rw [List.forIn_cons, hf n a acc (by unfold cellOf; rw [ha])]
        exact e
      · by_cases hy1 : ∃ q ∈ l, q.1 = y ∧ q.2 = .free
        · exact .inl hy1
        · refine .inr ?_
          rw [List.lookup_cons]
          cases hb : (y == n) with
          | true => rw [eq_of_beq hb, ha]
          | false =>
            rcases hy with ⟨q, hq, rfl, hq2⟩ | hy
            · rcases List.mem_cons.mp hq with rfl | hq
              · rw [beq_self_eq_true] at hb; cases hb
              · exact absurd ⟨q, hq, rfl, hq2⟩ hy1
            · exact hy
    · obtain ⟨cl, e, hcl⟩ := closure_go hf hf2 l acc fun q hq => h q (.tail _ hq)
      refine ⟨cl, ?_, fun y hy => hcl y ?_⟩
      · rw [List.forIn_cons, hf2 n k acc hk]
        exact e
      · rcases hy with ⟨q, hq, rfl, hq2⟩ | hy
        · rcases List.mem_cons.mp hq with rfl | hq
          · exact absurd hq2 hk
          · exact .inl ⟨q, hq, rfl, hq2⟩
        · exact .inr hy
theorem closure_ok {sc : Scope} {env : Env} (h : ∀ q ∈ sc.names, q.2 = .free → (env.cells.lookup q.1).isSome = true) : ∃ cl, closureFor sc env = pure cl ∧ ∀ y, (∃ q ∈ sc.names, q.1 = y ∧ q.2 = .free) → cl.lookup y = env.cells.lookup y := by
  unfold closureFor
  dsimp only
  generalize hf : (fun (x : Str × NameKind) (s : List (Str × Addr)) => _) = f
  obtain ⟨cl, e, hcl⟩ := closure_go (env := env) (f := f) (fun n a r hc => by rw [← hf]; dsimp only; rw [if_pos (show (NameKind.free == NameKind.free) = true from rfl), hc]; rfl) (fun n k r hk => by rw [← hf]; dsimp only; rw [if_neg (by rw [beq_eq_false_iff_ne.mpr hk]; exact Bool.false_ne_true)]) sc.names [] h
  exact ⟨cl, by rw [e]; rfl, fun y hy => hcl y (.inl hy)⟩
def cNames (sc cs : Scope) : List (Str × NameKind) := sc.names.map fun (n, k) => if (k == .free && cs.kind == .function && cs.names.lookup n == some .cell) then (n, .cell) else (n, k)
theorem cNames_mem {sc cs : Scope} {y : Str} {k : NameKind} (h : (cNames sc cs).lookup y = some k) : ∃ q ∈ sc.names, q.1 = y ∧ (k = q.2 ∨ (q.2 = .free ∧ k = .cell)) := by
  unfold cNames at h
  generalize sc.names = l at h
  induction l with
  | nil => cases h
  | cons q l ih =>
    obtain ⟨n, k0⟩ := q
    rw [List.map_cons] at h
    dsimp only at h
    by_cases hc : (k0 == NameKind.free && cs.kind == .function && cs.names.lookup n == some .cell) = true
    · rw [if_pos hc, List.lookup_cons] at h
      cases hb : (y == n) with
      | true =>
        rw [hb] at h
        injection h with h
        exact ⟨_, .head _, (eq_of_beq hb).symm, .inr ⟨eq_of_beq (Bool.and_eq_true_iff.mp (Bool.and_eq_true_iff.mp hc).1).1, h.symm⟩⟩
      | false => rw [hb] at h; obtain ⟨q, hq, r⟩ := ih h; exact ⟨q, .tail _ hq, r⟩
    · rw [if_neg hc, List.lookup_cons] at h
      cases hb : (y == n) with
      | true =>
        rw [hb] at h
        injection h with h
        exact ⟨_, .head _, (eq_of_beq hb).symm, .inl h.symm⟩
      | false => rw [hb] at h; obtain ⟨q, hq, r⟩ := ih h; exact ⟨q, .tail _ hq, r⟩
def lkC (sc cs : Scope) (x : Str) (c : VC) (mc : Loc) (y : Str) : Option VC := lkL ((cNames sc cs).lookup y) (y == ("__debug__" : Str)) (y == ("__classdict__" : Str)) (bif y == x then some c else none) (mc.lookup y)
structure CE (X Y : Cx w p loose mean mg mb D U) (sc cs : Scope) (mc : Loc) (x : Str) (v : Value) (en : Env) (f : Str → Option Value) : Prop where
  cl : Y.cl = X.cl
  hid : ∀ q ∈ X.hid, q ∈ Y.hid
  lk : Lk Y cs en f mc (lkC sc cs x (.val v) mc)
  gd : ∀ y v, nsIn (hd.heap_1 w.params) mainGlobals y = some (some v) → (cNames sc cs).lookup y = some .globalImplicit → (y == ("__debug__" : Str)) = false → GN Y cs en y v
  gb : ∀ y v, nsIn (hd.heap_1 w.params) mainGlobals y = some none → bootBuiltins y = some v → (cNames sc cs).lookup y = some .globalImplicit → (y == ("__debug__" : Str)) = false → y ≠ "__name__" → GN Y cs en y v
theorem At.hid_get {f : Str → Option Value} {h : Heap} {q : Addr × Obj} (a : At X f mc N h) (hq : q ∈ X.hid) : h.get? q.1 = some q.2 := by
  obtain ⟨co, ⟨cc, rfl, _⟩, _, c2, _⟩ := a.C
  exact (c2 q (List.mem_append_right _ (List.mem_append_right _ hq))).1
theorem ce_of {Y : Cx w p loose mean mg mb D U} {sc : Scope} {x : Str} {v : Value} {cl : List (Str × Addr)} {C : Addr} {oC : Obj} {m₂ : Str → Option Value} {f : Str → Option Value} (h2 : sc.kind = .function) (h1 : ∀ y ∈ sc.names, y.2 ≠ .cell) (hcl : ∀ y, (∃ q ∈ sc.names, q.1 = y ∧ q.2 = .free) → cl.lookup y = X.cl.lookup y)
    (e1 : Y.cl = X.cl) (e2 : ∀ q ∈ X.hid, q ∈ Y.hid) (hC : (C, oC) ∈ Y.hid) (hn : LCg.NsObj oC m₂) (hx : m₂ x = some v) : CE X Y sc cs mc x v (compEnvC sc cl C (X.env cs)) f where
  cl := e1
  hid := e2
  lk := by
    intro y c pos N h t E Q e a H
    obtain ⟨co, ⟨cc, rfl, c1⟩, c4, c2, c3⟩ := a.C
    unfold lkC at e
    cases h0 : (cNames sc cs).lookup y with
    | none => rw [h0] at e; cases e
    | some k =>
      rw [h0] at e
      cases hd : (y == ("__debug__" : Str)) with
      | true => rw [hd] at e; cases k <;> cases e
      | false =>
        rw [hd] at e
        have free : k = .cell ∨ k = .free → cl.lookup y = Y.cl.lookup y := by
          intro hk
          obtain ⟨q, hq, hy, hk2⟩ := cNames_mem h0
          rw [e1]
          refine hcl y ⟨q, hq, hy, ?_⟩
          rcases hk2 with hk2 | hk2
          · rcases hk with hk | hk
            · exact absurd (hk2.symm.trans hk) (h1 q hq)
            · exact hk2.symm.trans hk
          · exact hk2.1
        cases k with
        | «local» =>
          obtain ⟨c', h3, h4⟩ := nm_some e
          cases hb : (y == x) with
          | false => rw [hb] at h3; cases h3
          | true =>
            rw [hb] at h3
            injection h3 with h3
            subst h3
            refine wpAny_Name (wpAny_loadName_local h2 h0 (hn.ns (a.hid_get hC)) (eq_of_beq hb ▸ hx) ?_) hd
            exact nm_H (c := .val v) (k := 0) (P := fun v => Q v (Y.s h t)) h4 fun k => H k _
        | cell =>
          obtain ⟨c', h3, h4⟩ := nm_some e
          obtain ⟨b, o, k, e1, e2, e3⟩ := co_get c1 h3 (a.D _ _ h3)
          refine wpAny_Name (wpAny_loadName_cell h2 h0 ((free (.inl rfl)).trans e1) ⟨o, (c2 _ (List.mem_append_right _ (List.mem_append_left _ e2))).1, e3⟩ ?_) hd
          exact nm_H (P := fun v => Q v (Y.s h t)) h4 fun k => H k _
        | free =>
          cases hcd : (y == ("__classdict__" : Str)) with
          | true => rw [hcd] at e; cases e
          | false =>
            rw [hcd] at e
            obtain ⟨c', h3, h4⟩ := nm_some e
            obtain ⟨b, o, k, e1, e2, e3⟩ := co_get c1 h3 (a.D _ _ h3)
            refine wpAny_Name (wpAny_loadName_free h2 h0 ((free (.inr rfl)).trans e1) ⟨o, (c2 _ (List.mem_append_right _ (List.mem_append_left _ e2))).1, e3⟩ ?_ hcd) hd
            exact nm_H (P := fun v => Q v (Y.s h t)) h4 fun k => H k _
        | _ => cases e
  gd := fun y v e hy hd p1 f h t E Q F H => PySem.Calls.Name_function_global h2 hy (PySem.Calls.loadGlobal_global ((topRead_of Y.T).g.keeps F.keep) (mg_of Y.X (topRead_of Y.T).g e) H) hd
  gb := fun y v e hb hy hd hn p1 f h t E Q F H => PySem.Calls.Name_function_global h2 hy (PySem.Calls.loadGlobal_builtin ((topRead_of Y.T).g.keeps F.keep) (mg_none_of Y.X (topRead_of Y.T).g e) ((topRead_of Y.T).b.keeps F.keep) (((topRead_of Y.T).builtins y hn).trans hb) H) hd
theorem cons_iff {q r : Addr × Obj} {A B : Led} (h : q ∈ A ↔ q ∈ B) : q ∈ r :: A ↔ q ∈ r :: B := by rw [List.mem_cons, List.mem_cons, h]
theorem off3_of {I C D : Addr} : ∀ {l : Led}, (∀ q ∈ l, q.1 ≠ I ∧ q.1 ≠ C ∧ q.1 ≠ D) → LCg.Off3 I C D l
  | [], _ => trivial
  | q :: l, h => ⟨h q (.head _), off3_of fun r hr => h r (.tail _ hr)⟩
theorem offOne {D : Addr} : ∀ {l : Led}, LCg.Off1 D l → ∀ q ∈ l, q.1 ≠ D
  | [], _, _, h => nomatch h
  | _ :: _, h, q, hq => by
    rcases List.mem_cons.mp hq with rfl | hq
    · exact h.1
    · exact offOne h.2 q hq
structure CJ (X : Cx w p loose mean mg mb D U) (mc : Loc) (J : Nat → List Value → Led → Prop) (i : Nat) (ys : List Value) (news : Led) : Prop where
  ex : ∃ N co, news = N ++ co ∧ Hid X mc co ∧ (co.map (·.1)).Nodup ∧ (∀ q ∈ N, ∀ r ∈ co, q.1 ≠ r.1) ∧ J i ys N
theorem comp_core {elt : Expr} {x : Str} {sc : Scope} {cl : List (Str × Addr)} {f : Str → Option Value} {FinS : List Value → Led → Prop} {S : Led → Prop} {P : Nat → Value → Prop} {n t : Nat} {g : Heap} {co : Led} (J : Nat → List Value → Led → Prop) (h1 : ∀ y ∈ sc.names, y.2 ≠ .cell) (h2 : sc.kind = .function) (hcl : ∀ y, (∃ q ∈ sc.names, q.1 = y ∧ q.2 = .free) → cl.lookup y = X.cl.lookup y) (hD : ∀ y c, mc.lookup y = some c → (X.cl.lookup y).isSome = true)
    (hc : HidOK X mc N co) (h0 : J 0 [] N) (hS : ∀ i ys N co, J i ys N → S (N ++ co))
    (turn : ∀ i ys N v Y en, i < n → P i v → J i ys N → CE X Y sc cs mc x v en f → GE Y cs en f mc N elt fun c N' => ∀ k, J (i + 1) (ys ++ [c.at k]) N')
    (fin : ∀ ys N co, HidOK X mc N co → J n ys N → FinS ys (N ++ co)) :
    LCg.CompRest PySem.Challenge.rw_uj0005_01.row.prog w (X.A cs) X.h₀ X.L f (X.env cs) elt x sc cl { heap := g, gens := X.g, drawn := X.d, toks := t, os := X.o } S P FinS n 0 [] (N ++ co) := by
  refine comp_inv (s := { heap := g, gens := X.g, drawn := X.d, toks := t, os := X.o }) (CJ X mc J) ⟨N, co, rfl, hc.h, hc.n, hc.o, h0⟩ ?_ ?_
  · rintro i ys news v I oI C oC D m₂ h tk E' hi' ⟨N, co, rfl, d1, d4, d3, hJ⟩ hv hn hx F N1 off ne
    have hoff := fun q hq => LCg.Off3.mem off q hq
    obtain ⟨co1, e1, e4, e3, em⟩ := hideC (LCg.lst ys) d1 d4 d3 fun q hq => (hoff q hq).2.2
    obtain ⟨co2, g1, g4, g3, gm⟩ := hideC oC e1 e4 e3 fun q hq => by
      rcases List.mem_cons.mp ((em q).mp hq) with rfl | hq
      · exact Ne.symm ne.2.2
      · exact (hoff q hq).2.1
    obtain ⟨co3, k1, k4, k3, km⟩ := hideC oI g1 g4 g3 fun q hq => by
      rcases List.mem_cons.mp ((gm q).mp hq) with rfl | hq
      · exact Ne.symm ne.1
      · rcases List.mem_cons.mp ((em q).mp hq) with rfl | hq
        · exact Ne.symm ne.2.1
        · exact (hoff q hq).1
    have hmem : ∀ q, q ∈ N ++ co3 ↔ q ∈ (I, oI) :: (C, oC) :: (D, LCg.lst ys) :: (N ++ co) := fun q => (km q).trans (cons_iff ((gm q).trans (cons_iff (em q))))
    have aT : At (((X.hide D (LCg.lst ys)).hide C oC).hide I oI) f mc N h := ⟨F, hD, co3, k1, k4, fun q hq => N1 q ((hmem q).mp hq), k3⟩
    refine wpAny_mono (turn i ys N v (((X.hide D (LCg.lst ys)).hide C oC).hide I oI) _ hi' hv hJ (ce_of (Y := ((X.hide D (LCg.lst ys)).hide C oC).hide I oI) (oC := oC) (C := C) h2 h1 hcl rfl (fun q hq => .tail _ (.tail _ (.tail _ hq))) (.tail _ (.head _)) hn hx) h tk E' aT) ?_ fun _ _ x => x
    refine EP.el ?_; intro c k N3 h3 t3 a3 hJ3
    obtain ⟨q3, r1, r4, r2, r3⟩ := a3.C
    obtain ⟨q2, s1, s4, s3, sm, sI⟩ := showC r1 r4 r3
    obtain ⟨q1, u1, u4, u3, um, uC⟩ := showC s1 s4 s3
    obtain ⟨q0, v1, v4, v3, vm, vD⟩ := showC u1 u4 u3
    have hm : ∀ q, q ∈ (I, oI) :: (C, oC) :: (D, LCg.lst ys) :: (N3 ++ q0) ↔ q ∈ N3 ++ q3 := fun q => (cons_iff ((cons_iff (vm q)).trans (um q))).trans (sm q)
    exact ⟨h3, t3, N3 ++ q0, rfl, a3.F, fun q hq => r2 q ((hm q).mp hq), off3_of fun q hq => ⟨sI q ((um q).mp (.tail _ ((vm q).mp (.tail _ hq)))), uC q ((vm q).mp (.tail _ hq)), vD q hq⟩,
      hS _ _ _ _ (hJ3 k), N3, q0, rfl, v1, v4, v3, hJ3 k⟩
  · rintro ys news ⟨N, co, rfl, d1, d4, d3, hJ⟩
    exact fin ys N co ⟨d1, d4, d3⟩ hJ
theorem comp_fin {f : Str → Option Value} {Q : VC → Led → Prop} {h : Heap} {t : Nat} {co : Led} {ys : List Value} (hD : ∀ y c, mc.lookup y = some c → (X.cl.lookup y).isSome = true) (hc : HidOK X mc N co) (done : ∀ D, (∀ q ∈ N, q.1 ≠ D) → Q (.val (.ref D)) ((D, LCg.lst ys) :: N)) : LCg.FinE X.h₀ X.L f (X.s h t) (EP X f mc Q) ys (N ++ co) := by
  intro D h tk F N1 off
  refine .mk (.val (.ref D)) 0 ((D, LCg.lst ys) :: N) h tk ⟨F, hD, co, hc.h, hc.n, N1, fun q hq r hr => ?_⟩ (done D fun q hq => offOne off q (List.mem_append_left _ hq))
  rcases List.mem_cons.mp hq with rfl | hq
  · exact Ne.symm (offOne off r (List.mem_append_right _ hr))
  · exact hc.o q hq r hr
inductive CompR (X : Cx w p loose mean mg mb D U) (cs sc : Scope) (f : Str → Option Value) (mc : Loc) (x : Str) (elt : Expr) (Q : VC → Led → Prop) : VC → Led → Prop
  | mk (l : Addr) (vs : List Value) (n : Nat) (J : Nat → List Value → Led → Prop) (N : Led) (h0 : J 0 [] N) (hl : ∀ i ys N, J i ys N → (l, lsO vs n) ∈ N) (hz : vs.length ≤ sizeLine)
    (turn : ∀ i ys N v Y en, i < vs.length → vs[i]? = some v → J i ys N → CE X Y sc cs mc x v en f → GE Y cs en f mc N elt fun c N' => ∀ k, J (i + 1) (ys ++ [c.at k]) N')
    (done : ∀ ys N D, J vs.length ys N → (∀ q ∈ N, q.1 ≠ D) → Q (.val (.ref D)) ((D, LCg.lst ys) :: N)) : CompR X cs sc f mc x elt Q (.val (.ref l)) N
theorem ge_comp {elt iter : Expr} {x : Str} {px pos : Pos} {sc : Scope} {f : Str → Option Value} {Q : VC → Led → Prop} (hi : GE X cs (X.env cs) f mc N iter (CompR X cs sc f mc x elt Q)) (hfr : ∀ q ∈ sc.names, q.2 = .free → (X.cl.lookup q.1).isSome = true)
    (h1 : ∀ y ∈ sc.names, y.2 ≠ .cell) (h2 : sc.kind = .function) (h3 : ∀ y ∈ sc.names, y.2 = .local → List.lookup y.1 sc.names = some .local) (h4 : List.lookup x sc.names = some .local) (hf : ∀ en x, foldedSetIterable iter en x = pure x) :
    GE X cs (X.env cs) f mc N (.ListComp elt [{ target := .Name x px, iter := iter, ifs := [], is_async := 0 }] sc pos) Q := by
  intro h t E a
  obtain ⟨cl, ecl, hcl⟩ := closure_ok (env := X.env cs) hfr
  refine LCg.ListComp_U a.F ecl h1 h2 h3 h4 (wpAny_mono (hi h t E a) ?_ fun _ _ x => x) (hf _)
  refine EP.el ?_; intro c k N2 h t a2 hR
  obtain ⟨l, vs, n, J, _, hJ, hl, hz, turn, done⟩ := hR
  obtain ⟨co, c1, c4, c2, c3⟩ := a2.C
  refine LCg.CompSrc.ledger rfl a2.F c2 (List.mem_append_left _ (hl _ _ _ hJ)) (by simpa using hz) fun g => ?_
  rw [List.size_toArray]
  exact comp_core J h1 h2 hcl a2.D ⟨c1, c4, c3⟩ hJ (fun i ys N co h => .inr ⟨_, List.mem_append_left _ (hl _ _ _ h), rfl, _, rfl⟩) (fun i ys N v Y en hi' hv hJ hE => turn i ys N v Y en hi' (by simpa using hv) hJ hE) fun ys N co hc hJ => comp_fin a2.D hc fun D => done ys N D hJ
theorem ge_compR {elt e0 : Expr} {x : Str} {px pos p1 p2 : Pos} {sc : Scope} {lk : Str → Option VC} {f : Str → Option Value} {n : Nat} {ps : List Prop} {Q : VC → Led → Prop} (hlk : Lk X cs (X.env cs) f mc lk) (hr : GN X cs (X.env cs) "range" (.type "range")) (he : pevs lk [e0] = some ([.int n], ps)) (hp : Alls ps) (hn : Builtin.Range.small 0 n 1 = true ∧ Builtin.Range.rangeSize 0 n 1 = (n : Int)) (hz : n ≤ sizeLine) (hs : noStars [e0] = true)
    (J : Nat → List Value → Led → Prop) (h0 : J 0 [] N) (turn : ∀ i ys N t Y en, i < n → J i ys N → CE X Y sc cs mc x (.int i t) en f → GE Y cs en f mc N elt fun c N' => ∀ k, J (i + 1) (ys ++ [c.at k]) N')
    (done : ∀ ys N D, J n ys N → (∀ q ∈ N, q.1 ≠ D) → Q (.val (.ref D)) ((D, LCg.lst ys) :: N)) (hfr : ∀ q ∈ sc.names, q.2 = .free → (X.cl.lookup q.1).isSome = true)
    (h1 : ∀ y ∈ sc.names, y.2 ≠ .cell) (h2 : sc.kind = .function) (h3 : ∀ y ∈ sc.names, y.2 = .local → List.lookup y.1 sc.names = some .local) (h4 : List.lookup x sc.names = some .local) :
    GE X cs (X.env cs) f mc N (.ListComp elt [{ target := .Name x px, iter := .Call (.Name "range" p1) [e0] [] p2, ifs := [], is_async := 0 }] sc pos) Q := by
  intro h t E a
  obtain ⟨cl, ecl, hcl⟩ := closure_ok (env := X.env cs) hfr
  refine LCg.ListComp_U a.F ecl h1 h2 h3 h4 ?_ (fun _ => rfl)
  refine Call_ (hr p1 _ h t E _ a.F (wf_type (X := X) (cs := cs) _ p2 e0 [] _ h t E _ a.F hs (wpAny_mono (ga_pure (X := X) (N := N) (Q := fun l N' => l = [.int n] ∧ N' = N) hlk he hp ⟨rfl, rfl⟩ p2 h t E a) ?_ fun _ _ x => x))) rfl
  refine AP.el ?_; intro l σ N2 h2' t2 a2 q9; obtain ⟨rfl, rfl⟩ := q9
  refine ⟨⟨_, a2.F⟩, ?_⟩
  obtain ⟨co, c1, c4, c2, c3⟩ := a2.C
  refine range1_rows a2.F c2 fun h' tk t1 u1 v1 hr' F' N' _ => ?_
  refine LCg.CompSrc.range rfl F' N' hr' hn.1 hn.2 hz fun g => ?_
  exact comp_core J h1 h2 hcl a2.D ⟨c1, c4, c3⟩ h0 (fun _ _ _ _ _ => trivial) (fun i ys N v Y en hi' hv hJ hE => by
    obtain ⟨t, rfl⟩ := hv
    rw [Int.zero_add] at hE
    exact turn i ys N t Y en hi' hJ hE) fun ys N co hc hJ => comp_fin a2.D hc fun D => done ys N D hJ
theorem comp_finA {y : Str} {rest : List Stmt} {τ : Str → Nat} {ρ : Str → Option Value} {h : Heap} {t : Nat} {co : Led} {ys : List Value} (hD : ∀ y c, mc.lookup y = some c → (X.cl.lookup y).isSome = true) (hc : HidOK X mc N co) (done : ∀ D, (∀ q ∈ N, q.1 ≠ D) → WS X cs Q mc ((y, .val (.ref D)) :: m) ((D, LCg.lst ys) :: N) rest) :
    LCg.FinA X.h₀ X.L (m.at τ ρ) (X.s h t) y (SP X (Thn X cs Q rest)) ys (N ++ co) := by
  intro D h tk F N1 off
  have e : (fun z => if z = y then some (Value.ref D) else m.at τ ρ z) = _ := at_set (c := .val (.ref D)) (k := 0)
  rw [e] at F
  refine .next mc _ ((D, LCg.lst ys) :: N) h tk _ _ ⟨F, hD, co, hc.h, hc.n, N1, fun q hq r hr => ?_⟩ (done D fun q hq => offOne off q (List.mem_append_left _ hq))
  rcases List.mem_cons.mp hq with rfl | hq
  · exact Ne.symm (offOne off r (List.mem_append_right _ hr))
  · exact hc.o q hq r hr
theorem ws_comp {elt iter : Expr} {x y : Str} {px py pos spos : Pos} {sc : Scope} {rest : List Stmt} (hi : cs.kind = .function → ∀ τ ρ, GE X cs (X.env cs) (m.at τ ρ) mc N iter (CompR X cs sc (m.at τ ρ) mc x elt fun c N' => WS X cs Q mc ((y, c) :: m) N' rest)) (hsw : swapsWith (.ListComp elt [{ target := .Name x px, iter := iter, ifs := [], is_async := 0 }] sc pos) (some (.Name y py)) spos.line (X.env cs) = pure true) (hy : cs.names.lookup y = some .local) (hfr : ∀ q ∈ sc.names, q.2 = .free → (X.cl.lookup q.1).isSome = true)
    (h1 : ∀ y ∈ sc.names, y.2 ≠ .cell) (h2 : sc.kind = .function) (h3 : ∀ y ∈ sc.names, y.2 = .local → List.lookup y.1 sc.names = some .local) (h4 : List.lookup x sc.names = some .local) (hf : ∀ en x, foldedSetIterable iter en x = pure x) :
    WS X cs Q mc m N (.Assign [.Name y py] (.ListComp elt [{ target := .Name x px, iter := iter, ifs := [], is_async := 0 }] sc pos) spos :: rest) := by
  refine ws_cons ?_
  intro hk τ ρ h t E a
  obtain ⟨cl, ecl, hcl⟩ := closure_ok (env := X.env cs) hfr
  refine LCg.Assign_ListComp_U a.F rfl hsw ecl h1 h2 h3 h4 hy (by show (cs.kind == .class || (cs.kind == .module && _)) = false; rw [hk]; rfl) (wpAny_mono (hi hk τ ρ h t E a) ?_ fun _ _ x => x) (hf _)
  refine EP.el ?_; intro c k N2 h t a2 hR
  obtain ⟨l, vs, n, J, _, hJ, hl, hz, turn, done⟩ := hR
  obtain ⟨co, c1, c4, c2, c3⟩ := a2.C
  refine LCg.CompSrc.ledger rfl a2.F c2 (List.mem_append_left _ (hl _ _ _ hJ)) (by simpa using hz) fun g => ?_
  rw [List.size_toArray]
  exact comp_core J h1 h2 hcl a2.D ⟨c1, c4, c3⟩ hJ (fun i ys N co h => .inr ⟨_, List.mem_append_left _ (hl _ _ _ h), rfl, _, rfl⟩) (fun i ys N v Y en hi' hv hJ hE => turn i ys N v Y en hi' (by simpa using hv) hJ hE) fun ys N co hc hJ => comp_finA a2.D hc fun D => done ys N D hJ
theorem ws_compR {elt e0 : Expr} {x y : Str} {px py pos p1 p2 spos : Pos} {sc : Scope} {rest : List Stmt} {n : Nat} {ps : List Prop} (hr : WN X cs "range" (.type "range")) (he : pes cs mc m [e0] = some ([.int n], ps)) (hp : Alls ps) (hn : Builtin.Range.small 0 n 1 = true ∧ Builtin.Range.rangeSize 0 n 1 = (n : Int)) (hz : n ≤ sizeLine) (hs : noStars [e0] = true)
    (J : Nat → List Value → Led → Prop) (h0 : J 0 [] N) (turn : ∀ i ys N t Y en f, i < n → J i ys N → CE X Y sc cs mc x (.int i t) en f → GE Y cs en f mc N elt fun c N' => ∀ k, J (i + 1) (ys ++ [c.at k]) N')
    (done : ∀ ys N D, J n ys N → (∀ q ∈ N, q.1 ≠ D) → WS X cs Q mc ((y, .val (.ref D)) :: m) ((D, LCg.lst ys) :: N) rest) (hsw : swapsWith (.ListComp elt [{ target := .Name x px, iter := .Call (.Name "range" p1) [e0] [] p2, ifs := [], is_async := 0 }] sc pos) (some (.Name y py)) spos.line (X.env cs) = pure true) (hy : cs.names.lookup y = some .local) (hfr : ∀ q ∈ sc.names, q.2 = .free → (X.cl.lookup q.1).isSome = true)
    (h1 : ∀ y ∈ sc.names, y.2 ≠ .cell) (h2 : sc.kind = .function) (h3 : ∀ y ∈ sc.names, y.2 = .local → List.lookup y.1 sc.names = some .local) (h4 : List.lookup x sc.names = some .local) :
    WS X cs Q mc m N (.Assign [.Name y py] (.ListComp elt [{ target := .Name x px, iter := .Call (.Name "range" p1) [e0] [] p2, ifs := [], is_async := 0 }] sc pos) spos :: rest) := by
  refine ws_cons ?_
  intro hk τ ρ h t E a
  obtain ⟨cl, ecl, hcl⟩ := closure_ok (env := X.env cs) hfr
  refine LCg.Assign_ListComp_U a.F rfl hsw ecl h1 h2 h3 h4 hy (by show (cs.kind == .class || (cs.kind == .module && _)) = false; rw [hk]; rfl) ?_ (fun _ => rfl)
  refine Call_ (hr hk p1 _ h t E _ a.F (wf_type (X := X) (cs := cs) _ p2 e0 [] _ h t E _ a.F hs (wpAny_mono (ga_pure (X := X) (N := N) (Q := fun l N' => l = [.int n] ∧ N' = N) (lk_F hk) he hp ⟨rfl, rfl⟩ p2 h t E a) ?_ fun _ _ x => x))) rfl
  refine AP.el ?_; intro l σ N2 h2' t2 a2 q9; obtain ⟨rfl, rfl⟩ := q9
  refine ⟨⟨_, a2.F⟩, ?_⟩
  obtain ⟨co, c1, c4, c2, c3⟩ := a2.C
  refine range1_rows a2.F c2 fun h' tk t1 u1 v1 hr' F' N' _ => ?_
  refine LCg.CompSrc.range rfl F' N' hr' hn.1 hn.2 hz fun g => ?_
  exact comp_core J h1 h2 hcl a2.D ⟨c1, c4, c3⟩ h0 (fun _ _ _ _ _ => trivial) (fun i ys N v Y en hi' hv hJ hE => by
    obtain ⟨t, rfl⟩ := hv
    rw [Int.zero_add] at hE
    exact turn i ys N t Y en _ hi' hJ hE) fun ys N co hc hJ => comp_finA a2.D hc fun D => done ys N D hJ
end
end
section
section
variable {w : World} {p : Program} {loose : List Str} {mean : ExcName → Option Value} {mg mb : Str → Option Value} {D U : Nat}
variable {X : Cx w p loose mean mg mb D U} {cs : Scope} {Q : FinS → Prop} {mc m : Loc} {N : Led} {en : Env} {f : Str → Option Value} {lk : Str → Option VC}
theorem gb_add_ints {a b : Addr} {vs ws : List Value} {ns ms : List Int} {j k : Nat} {Q : VC → Led → Prop} (ha : (a, lsO vs j) ∈ N) (hb : (b, lsO ws k) ∈ N) (h1 : IntsAre vs ns) (h2 : IntsAre ws ms) (hl : ns.length + ms.length ≤ sizeLine)
    (h : ∀ d us, IntsAre us (ns ++ ms) → (∀ q ∈ N, q.1 < d) → Q (.val (.ref d)) ((d, lsO us 0) :: N)) : GB X cs f mc N .Add (.val (.ref a)) (.val (.ref b)) Q := by
  intro _ _ hp t E at_
  obtain ⟨co, c1, c4, c2, c3⟩ := at_.C
  exact kmk_add_ints at_.F c2 (isl ha at_) (isl hb at_) h1 h2 (fun d us h' F' N' hlt hu => .mk (.val (.ref d)) 0 _ h' t ⟨F', at_.D, co, c1, c4, N', off_cons c3 hlt⟩ (h d us hu fun q hq => hlt q (List.mem_append_left _ hq))) hl
theorem ge_item {l r : Expr} {pos : Pos} {a : Addr} {vs : List Value} {n : Nat} {k : Int} {v : Value} {ps qs : List Prop} {Q : VC → Led → Prop} (hlk : Lk X cs en f mc lk) (he : pev lk 12 l = some (.val (.ref a), ps)) (hp : Alls ps) (hi : pev lk 12 r = some (.int k, qs)) (hq : Alls qs) (hm : (a, lsO vs n) ∈ N) (h0 : 0 ≤ k) (h1 : k < 2 ^ 63) (hv : vs[k.toNat]? = some v) (h : Q (.val v) N)
    (hs : ∀ u, subscripted r false (.ref a) (.int k u) = operate [.ref a, .int k u] (getItem (.ref a) (.int k u))) : GE X cs en f mc N (.Subscript l r pos) Q := by
  intro hp' t E at_
  refine Subscript_ (pev_ok hlk at_ 12 l he hp fun _ _ => pev_ok hlk at_ 12 r hi hq fun _ _ => ?_)
  exact tail_any (isl hm at_).typeIs slot_list_getitem.lookup (wpAny_getItem_list (isl hm at_) (x := v) h0 h1 (by simpa using hv) (.mk (.val v) 0 N hp' _ at_ h)) (hs _)
theorem ge_from {l r : Expr} {pos p2 : Pos} {k : Int} {qs : List Prop} {Q : VC → Led → Prop} (hlk : Lk X cs en f mc lk) (hi : pev lk 12 r = some (.int k, qs)) (hq : Alls qs)
    (h : GE X cs en f mc N l fun c N' => ∃ a vs n, c = .val (.ref a) ∧ (a, lsO vs n) ∈ N' ∧ vs.length ≤ sizeLine ∧ ∀ d, (∀ q ∈ N', q.1 < d) → Q (.val (.ref d)) ((d, lsO (kms_pick vs (some k) none) 0) :: N'))
    (hs : ∀ a b, subscripted (.Slice (some r) none none p2) false (.ref a) (.ref b) = operate [.ref b, .ref a] (getItem (.ref a) (.ref b))) : GE X cs en f mc N (.Subscript l (.Slice (some r) none none p2) pos) Q := by
  intro hp t E at_
  refine Subscript_ (wpAny_mono (h hp t E at_) ?_ fun _ _ x => x)
  refine EP.el ?_; intro c _ N2 h2 t2 a2 q9; obtain ⟨a, vs, n, rfl, hm, hz, hQ⟩ := q9
  refine wpAny_Slice (evalPart_some_step (pev_ok hlk a2 12 r hi hq fun k' t' => evalPart_none_step (evalPart_none_step ?_)))
  obtain ⟨co, c1, c4, c2, c3⟩ := a2.C
  refine kba_turn (value' := .Name "_" ⟨0, 0, 0, 0⟩) (fun _ => rfl) ?_
  exact kms_slice_lit (s := X.s h2 t') a2.F c2 (isl hm a2) (.int k k') .none rfl (fun d h' F' N' hlt => .mk (.val (.ref d)) 0 _ h' t' ⟨F', a2.D, co, c1, c4, N', off_cons c3 hlt⟩ (hQ d fun q hq => hlt q (List.mem_append_left _ hq))) (hs _ _) (fun _ => rfl) (by simpa using hz)
theorem ge_step {l lo st : Expr} {pos p2 : Pos} {a : Addr} {vs : List Value} {ns : List Int} {i k : Int} {ps qs rs : List Prop} {Q : VC → Led → Prop} (hlk : Lk X cs en f mc lk) (he : pev lk 12 l = some (.val (.ref a), ps)) (hp : Alls ps) (hi : pev lk 12 lo = some (.int i, qs)) (hq : Alls qs) (hk : pev lk 12 st = some (.int k, rs)) (hr : Alls rs) (h0 : k ≠ 0)
    (hl : X.h₀.IsList a vs.toArray) (hI : IntsAre vs ns) (hlen : ns.length ≤ 63) (h : ∀ d ws ms, IntsAre ws ms → ms.length ≤ 63 → (∀ q ∈ N, q.1 < d) → Q (.val (.ref d)) ((d, lsO ws 0) :: N))
    (hs : ∀ a b, ∃ ops, subscripted (.Slice (some lo) none (some st) p2) false (.ref a) (.ref b) = operate ops (getItem (.ref a) (.ref b))) : GE X cs en f mc N (.Subscript l (.Slice (some lo) none (some st) p2) pos) Q := by
  intro hp' t E at_
  refine Subscript_ (pev_ok hlk at_ 12 l he hp fun _ _ => wpAny_Slice (evalPart_some_step (pev_ok hlk at_ 12 lo hi hq fun k1 t1 => evalPart_none_step (evalPart_some_step (pev_ok hlk at_ 12 st hk hr fun k2 t2 => ?_)))))
  obtain ⟨co, c1, c4, c2, c3⟩ := at_.C
  refine kba_turn (value' := .Name "_" ⟨0, 0, 0, 0⟩) (fun _ => rfl) ?_
  obtain ⟨o, ho, r⟩ := hl
  exact slice_stepX at_.F c2 ⟨o, at_.F.keep _ _ ho, r⟩ hI hlen (.int i k1) .none (.int k k2) (fun e => h0 (Option.some.inj e)) (fun d h' ws ms hw hm hlt F' N' => .mk (.val (.ref d)) 0 _ h' t2 ⟨F', at_.D, co, c1, c4, N', off_cons c3 hlt⟩ (h d ws ms hw hm fun q hq => hlt q (List.mem_append_left _ hq))) (hs _ _).choose_spec (fun _ => rfl)
theorem wc_sum {d : Addr} {ws : List Value} {ms : List Int} {n : Nat} {Q : VC → Led → Prop} (hm : (d, lsO ws n) ∈ N) (hI : IntsAre ws ms) (h : Q (.int ms.sum) N) : WC X cs mc N (.builtin "sum") [.val (.ref d)] Q := by
  intro _ σ f hp t E a
  obtain ⟨co, c1, c4, c2, c3⟩ := a.C
  exact sumK rfl a.F c2 (isl hm a) hI fun h' tk t' F' N' => .mk (.int ms.sum) t' N h' tk ⟨F', a.D, co, c1, c4, N', c3⟩ h
def Unh (I : Addr) (o : Obj) (Q : FinS → Prop) : FinS → Prop
  | .next mc m N => Q (.next mc m ((I, o) :: N))
  | .brk mc m N => Q (.brk mc m ((I, o) :: N))
  | .cont mc m N => Q (.cont mc m ((I, o) :: N))
  | .ret c N => Q (.ret c ((I, o) :: N))
theorem At.back {f : Str → Option Value} {h : Heap} {I : Addr} {o : Obj} (a : At (X.hide I o) f mc N h) : At X f mc ((I, o) :: N) h := by
  obtain ⟨co', c1, c4, c2, c3⟩ := a.C
  obtain ⟨co, d1, d4, d3, dm, dn⟩ := showC c1 c4 c3
  exact ⟨a.F, a.D, co, d1, d4, fun q hq => c2 q ((dm q).mp hq), List.forall_mem_cons.mpr ⟨fun r hr => Ne.symm (dn r (List.mem_append_right _ hr)), d3⟩⟩
theorem ws_hide {I : Addr} {o : Obj} {ss : List Stmt} (hI : ∀ q ∈ N, q.1 ≠ I) (h : WS (X.hide I o) cs (Unh I o Q) mc m N ss) : WS X cs Q mc m ((I, o) :: N) ss := by
  intro hk τ ρ hp t E a
  obtain ⟨co, c1, c4, c2, c3⟩ := a.C
  obtain ⟨co', d1, d4, d3, dm⟩ := hideC o c1 c4 (fun q hq => c3 q (.tail _ hq)) (fun q hq => (List.mem_append.mp hq).elim (hI q) fun hq e => c3 (I, o) (.head _) q hq e.symm)
  refine wpAny_mono (h hk τ ρ hp t E ⟨a.F, a.D, co', d1, d4, fun q hq => c2 q ((dm q).mp hq), d3⟩) ?_ fun _ _ x => x
  intro fl s hs
  induction hs with
  | next mc' m' N' h' t' τ' ρ' a' q => exact .next mc' m' _ h' t' τ' ρ' a'.back q
  | brk mc' m' N' h' t' τ' ρ' a' q => exact .brk mc' m' _ h' t' τ' ρ' a'.back q
  | cont mc' m' N' h' t' τ' ρ' a' q => exact .cont mc' m' _ h' t' τ' ρ' a'.back q
  | ret c k mc' f N' h' t' a' q => exact .ret c k mc' f _ h' t' a'.back q
def GC (X : Cx w p loose mean mg mb D U) (cs : Scope) (f : Str → Option Value) (mc : Loc) (N : Led) (op : CmpOp) (c d : VC) (Q : Bool → Led → Prop) : Prop :=
  ∀ k l h t E (Qv : Value → Shared → Prop), At X f mc N h → (∀ b N' h' t', At X f mc N' h' → Q b N' → Qv (.bool b) (X.s h' t')) → wpAny X.M (X.A cs) (compareOp op (c.at k) (d.at l)) Qv E (X.s h t)
theorem wt_cmpE {l r : Expr} {op : CmpOp} {pos : Pos} {Q : Bool → Led → Prop} (h : cs.kind = .function → ∀ τ ρ, GE X cs (X.env cs) (m.at τ ρ) mc N l fun c N1 => GE X cs (X.env cs) (m.at τ ρ) mc N1 r fun d N2 => GC X cs (m.at τ ρ) mc N2 op c d Q) (hb : behindInMarks op r = false) : WT X cs mc m N (.Compare l [op] [r] pos) Q := by
  intro hk τ ρ hp t E a
  refine wpAny_isTrue_Compare1 (wpAny_mono (h hk τ ρ hp t E a) ?_ fun _ _ x => x) hb
  refine EP.el ?_; intro c k N2 h2 t2 a2 hQ
  refine wpAny_mono (hQ h2 t2 E a2) ?_ fun _ _ x => x
  refine EP.el ?_; intro d l N3 h3 t3 a3 hQ
  exact hQ k l h3 t3 E _ a3 fun b N' h' t' a' q => wpAny_truthy_bool (.mk b N' h' t' a' q)
theorem gc_ne_ints {a b : Addr} {xs ys : List Value} {na nb : Nat} {ns : List Int} {Q : Bool → Led → Prop} (ha : (a, lsO xs na) ∈ N) (hb : (b, lsO ys nb) ∈ N) (hi : IntsAre xs ns) (hj : IntsAre ys ns) (hu : Nat.ble 64 U = true) (h : Q false N) : GC X cs f mc N .NotEq (.val (.ref a)) (.val (.ref b)) Q :=
  fun _ _ hp t _ _ at_ H => ne_intsF at_.N ha hb hi hj (Nat.lt_of_le_of_lt (Nat.add_le_add_left (Nat.le_of_ble_eq_true hu) _) X.hun) (H false N hp t at_ h)
theorem ws_ifF {e : Expr} {a b : List Stmt} {p1 : Pos} {rest : List Stmt} (h : WT X cs mc m N e fun t N' => t = false ∧ WS X cs (Thn X cs Q rest) mc m N' b) : WS X cs Q mc m N (.If e a b p1 :: rest) :=
  ws_cons (w_if fun hk τ ρ hp t E a => wpAny_mono (h hk τ ρ hp t E a) (fun c s r => by
    obtain ⟨N, h, t, a, q⟩ := r
    exact .mk c N h t a (by rw [q.1]; exact q.2)) fun _ _ x => x)
end
end
section
example : PySem.Challenge.rw_uj0005_01.row.prog = PySem.Challenge.rw_uj0005_01.row.prog ∧ hd.heap_1 = hd.heap_1 := by
  k_fill
  exact ⟨rfl, rfl⟩
def lawSt : Option Stmt := PySem.Challenge.pw_uj0005_01.main.body[27]?
def lawBody : List Stmt := bodyOf lawSt
def lawScope : Scope := scopeOf lawSt
section
variable {w : World} {p : Program} {loose : List Str} {mean : ExcName → Option Value} {mg mb : Str → Option Value} {D U : Nat}
variable {X : Cx w p loose mean mg mb D U} {cs : Scope} {Q : FinS → Prop} {mc m : Loc} {N : Led} {en : Env} {f : Str → Option Value} {lk : Str → Option VC}
def LawCl (X : Cx w p loose mean mg mb D U) : Prop := ∀ x : Str, ([("row" : Str), "hue", "writing", "words", "lexer", "size"].contains x) = true → (X.cl.lookup x).isSome = true
def lawCells : List Str := [("row" : Str), "hue", "writing", "words", "lexer", "size"]
theorem free_ok (hX : LawCl X) {sc : Scope} (h : (sc.names.all fun q => q.2 != .free || lawCells.contains q.1) = true) : ∀ q ∈ sc.names, q.2 = .free → (X.cl.lookup q.1).isSome = true := by
  intro q hq hf
  have := List.all_eq_true.mp h q hq
  rw [hf] at this
  exact hX _ this
theorem lw0 (hX : LawCl X) (k : ∀ (d : Addr) (σ : Nat → Nat), (∀ q ∈ N, q.1 < d) → WS X lawScope Q [("row", .val (.ref d))] m ((d, lsO [.int 0 (σ 0), .int 1 (σ 1), .int 2 (σ 2)] 0) :: N) (lawBody.drop 1)) : WS X lawScope Q [] m N lawBody := by
  refine ws_put (e := _) rfl (we_list (by with_unfolding_all rfl) (by isplit) rfl fun d σ hlt => wb_cell (by with_unfolding_all rfl) (hX _ (by decide +kernel)) ?_)
  exact k d σ hlt
abbrev Loc.g (m : Loc) (x : Str) : Option VC := m.lookup x
structure HueI (m₀ : Loc) (N₀ : Led) (k : Nat) (mc m : Loc) (N : Led) : Prop where
  m : m = m₀
  ex : ∃ l vs n, mc.g "row" = some (.val (.ref l)) ∧ (l, lsO vs n) ∈ N ∧ (∀ q ∈ N₀, q ∈ N ∧ q.1 < l) ∧ IntsAre vs (rowAt k)
def lowsAt (k : Nat) : List Int := if k % 2 = 0 then [5, 7, 8] else [8]
theorem low_pick {k : Nat} (σ : Nat → Nat) : IntsAre (kms_pick (atl [.int 5, .int 7, .int 8] σ 0) (some (((k : Int).fmod 2) * 2)) none) (lowsAt k) := by
  unfold lowsAt
  rcases Nat.mod_two_eq_zero_or_one k with h | h
  · rw [fm_even h, if_pos h]
    exact .cons _ _ (.cons _ _ (.cons _ _ .nil))
  · rw [fm_odd h, if_neg (by omega)]
    exact .cons _ _ .nil
theorem low_len (k : Nat) : (lowsAt k).length ≤ 3 := by unfold lowsAt; split <;> decide
theorem low_row {k : Nat} {us : List Value} (h : IntsAre us (rowAt k ++ (lowsAt k).map fun z => 9 * (k : Int) + z)) : IntsAre us (rowAt (k + 1)) := by
  unfold lowsAt at h
  rcases Nat.mod_two_eq_zero_or_one k with h2 | h2
  · rw [if_pos h2] at h; exact rowInts_even h2 h
  · rw [if_neg (by omega)] at h; exact rowInts_odd h2 h
theorem ints_turn {ys vs : List Value} {v : Value} {ns : List Int} {i : Nat} {g : Int → Int} (h : IntsAre vs ns) (hy : IntsAre ys ((ns.take i).map g)) (hv : vs[i]? = some v) : ∃ z t, ns[i]? = some z ∧ v = .int z t ∧ ∀ t', IntsAre (ys ++ [.int (g z) t']) ((ns.take (i + 1)).map g) := by
  have hi : i < ns.length := by rw [← h.length]; exact (List.getElem?_eq_some_iff.mp hv).1
  obtain ⟨t, ht⟩ := h.get i ns[i] (List.getElem?_eq_getElem hi)
  refine ⟨ns[i], t, List.getElem?_eq_getElem hi, Option.some.inj (hv.symm.trans ht), fun t' => ?_⟩
  rw [List.take_succ_eq_append_getElem hi, List.map_append]
  exact ints_snoc hy _ _
theorem lw1 (hX : LawCl X) (hS : Sub m m) {d : Addr} {vs : List Value} {n : Nat} {N₀ : Led} (h0 : (d, lsO vs n) ∈ N) (hN : ∀ q ∈ N₀, q ∈ N ∧ q.1 < d) (hI : IntsAre vs (rowAt 0)) (go : ∀ lr vr nr, IntsAre vr rowM → (∀ q ∈ N₀, q.1 < lr) → WS X lawScope Q [("row", .val (.ref lr))] m ((lr, lsO vr nr) :: N₀) (lawBody.drop 2)) : WS X lawScope Q [("row", .val (.ref d))] m N (lawBody.drop 1) := by
  refine ws_cons (w_for (wi_range (n := 12) (wn_builtin (by k_is) (by with_unfolding_all rfl) (by with_unfolding_all rfl) (by decide) (by decide)) (by with_unfolding_all rfl) (by isplit) (by decide +kernel) (.mk _ _ (HueI m N₀) ⟨rfl, d, vs, n, rfl, h0, hN, hI⟩ nxt_range ?_ ?_) rfl) (fun _ _ => rfl))
  · rintro I o k c mc m' N' hk' rfl ⟨rfl, l, vs, n, hr, hm, hs, hI⟩
    refine wb_cell (by with_unfolding_all rfl) (hX _ (by decide +kernel)) ?_
    refine ws_weak (mc' := [("hue", .int k), ("row", .val (.ref l))]) (m' := m') (N' := N') (List.forall_mem_cons.mpr ⟨.inl rfl, List.forall_mem_cons.mpr ⟨.inl hr, List.forall_mem_nil _⟩⟩) hS (fun _ h => h) ?_
    refine ws_put rfl (fun hk τ ρ => ge_bin (ge_pure (lk_F hk) (by with_unfolding_all rfl) (by isplit) ?_))
    refine' ge_comp (ge_from (lk_F hk) (by with_unfolding_all rfl) (by exact ⟨by decide, IntMulOk.of_right (by decide +kernel)⟩) (we_list (by with_unfolding_all rfl) (by isplit) rfl (fun D5 σ h5 => ⟨D5, _, _, rfl, .head _, (by exact (by decide : 3 ≤ sizeLine)), fun D6 h6 => ?body⟩) hk τ ρ) (fun _ _ => by with_unfolding_all rfl)) ?free (by decide) (by rfl) (by decide) (by with_unfolding_all rfl) (fun _ _ => rfl)
    case free => exact free_ok hX (by decide +kernel)
    case body =>
      have hp := low_pick (k := k) σ
      refine .mk D6 _ _ (fun i ys N1 => N1 = (D6, _) :: (D5, _) :: N' ∧ IntsAre ys (((lowsAt k).take i).map fun z => 9 * (k : Int) + z)) _ ⟨rfl, .nil⟩ (fun i ys N h => by rw [h.1]; exact .head _) (by rw [hp.length]; exact Nat.le_trans (low_len k) (by decide)) ?_ ?_
      · rintro i ys N1 v Y en _ hv ⟨rfl, hy⟩ hE
        obtain ⟨z, t, hz1, rfl, hz⟩ := ints_turn (g := fun z => 9 * (k : Int) + z) hp hy hv
        refine ge_pure hE.lk (by with_unfolding_all rfl) (by exact IntMulOk.of_left (by decide +kernel)) ?_
        exact fun t' => ⟨rfl, hz t'⟩
      · rintro ys N1 D7 ⟨rfl, hy⟩ h7
        rw [hp.length, List.take_length] at hy
        refine gb_add_ints (List.Mem.tail _ (.tail _ (.tail _ hm))) (.head _) hI hy (by rw [List.length_map]; exact Nat.le_trans (Nat.add_le_add (rowAt_len hk') (low_len k)) (by decide)) fun d us hu hlt => ?_
        refine wb_cell (by with_unfolding_all rfl) (hX _ (by decide +kernel)) (ws_nil ?_)
        exact ⟨rfl, d, us, 0, rfl, .head _, fun q hq => ⟨.tail _ (.tail _ (.tail _ (.tail _ (hs q hq).1))), hlt q (.tail _ (.tail _ (.tail _ (hs q hq).1)))⟩, low_row hu⟩
  · rintro mc m' N' ⟨rfl, l, vs, n, hr, hm, hs, hI⟩
    exact ws_weak (List.forall_mem_cons.mpr ⟨.inl hr, List.forall_mem_nil _⟩) hS (List.forall_mem_cons.mpr ⟨hm, fun q hq => (hs q hq).1⟩) (go l vs n (rowAt_all ▸ hI) fun q hq => (hs q hq).2)
end
end
section
section
variable {w : World} {p : Program} {loose : List Str} {mean : ExcName → Option Value} {mg mb : Str → Option Value} {D U : Nat}
variable {X : Cx w p loose mean mg mb D U} {cs : Scope} {Q : FinS → Prop} {mc m : Loc} {N : Led} {en : Env} {f : Str → Option Value} {lk : Str → Option VC}
def WK (X : Cx w p loose mean mg mb D U) (cs : Scope) (mc : Loc) (N : Led) (f : Value) (cls : List VC) (x : Str) (c : VC) (Q : VC → Led → Prop) : Prop :=
  cs.kind = .function → ∀ σ k m h t E, At X m mc N h → wpAny X.M (X.A cs) (call f (atl cls σ 0) [(x, c.at k)]) (EP X m mc Q) E (X.s h t)
theorem wk_con0 {fv : Value} {cls : List VC} {x : Str} {v : Value} {D' U' : Nat} {Post : Led → Value → Led → Prop} {Q : VC → Led → Prop} (C : ∀ σ co, HidOK X mc N co → Con w p loose mean mg mb fv (atl cls σ 0) [(x, v)] D' U' (N ++ co) (Post co))
    (H : ∀ co v N2, Post co v N2 → N2 = N ++ co ∧ Q (.val v) N) (hD : Nat.ble D' D = true) (hU : Nat.ble U' U = true) : WK X cs mc N fv cls x (.val v) Q := by
  intro hk σ k m h t E a
  obtain ⟨co, c1, c4, c2, c3⟩ := a.C
  refine (C σ co ⟨c1, c4, c3⟩).use X.B a.F X.X c2 X.T X.hc rfl hk (Nat.lt_of_le_of_lt (Nat.add_le_add_left (Nat.le_of_ble_eq_true hD) _) X.hdp) (Nat.lt_of_le_of_lt (Nat.add_le_add_left (Nat.le_of_ble_eq_true hU) _) X.hun) ?_
  intro K hK r N2 hP
  refine hK r N2 fun h' t' F' N3 => ?_
  obtain ⟨rfl, hQ⟩ := H co r N2 hP
  exact .mk (.val r) 0 N h' t' ⟨F', a.D, co, c1, c4, N3, c3⟩ hQ
theorem ge_callKW {x nm : Str} {v : Value} {e0 ev : Expr} {es : List Expr} {p1 p2 p3 : Pos} {Q : VC → Led → Prop} (hk : cs.kind = .function) (hn : GN X cs en x v) (hkf : keepIn (hd.heap_1 w.params) v = true) (hs : noStars (e0 :: es) = true)
    (H : GA X cs en f mc N (e0 :: es) fun cls N1 => GE X cs en f mc N1 ev fun c N2 => WK X cs mc N2 v cls nm c Q) : GE X cs en f mc N (.Call (.Name x p1) (e0 :: es) [{ arg := some nm, value := ev, pos := p3 }] p2) Q := by
  intro h t E a
  have h' := Bool.and_eq_true_iff.mp hs
  refine wpAny_Call_Name_kw (hn p1 _ h t E _ a.F ?_)
  refine callWith_KW X.X hkf rfl (wpAny_mono (H p2 h t E a) ?_ fun _ _ x => x) (by rw [plain_ok hs]; rfl) (noStar_ok h'.1 _ _)
  refine AP.el ?_; intro cls σ N2 h2 t2 a2 hE
  refine kwAll_cons (wpAny_mono (hE h2 t2 E a2) ?_ fun _ _ x => x)
  refine EP.el ?_; intro c k N3 h3 t3 a3 hC
  refine kwAll_nil ?_
  exact ⟨X.X.keeps a3.F.keep, hC hk σ k _ h3 t3 E a3⟩
theorem ge_lam {params : Arguments} {body : Expr} {sc : Scope} {pos : Pos} {P c : Addr} {ps : Array Value} {tl : Led} {Q : VC → Led → Prop} (hC : CodeHd X.h₀ c P) (hcd : X.ccd = .ref c) (hd : defaultsOf params (X.env cs) = ([], [])) (hfr : ∀ q ∈ sc.names, q.2 = .free → (X.cl.lookup q.1).isSome = true) (hoff : ∀ q ∈ N, q.1 ≠ P) (hsub : ∀ q ∈ tl, q ∈ N)
    (htab : ps = #[] ∨ ∃ c' oc vs t, ps = #[rawInt pos.line, rawInt pos.col, .ref c'] ∧ (c', oc) ∈ tl ∧ oc.data = .fields vs ∧ vs[1]? = some (.str ((X.env cs).qual ++ "<lambda>") t))
    (H : ∀ kf c' oc vs t ctv clos pm, (∀ y, (∃ q ∈ sc.names, q.1 = y ∧ q.2 = .free) → clos.lookup y = X.cl.lookup y) → oc.data = .fields vs → vs[1]? = some (.str ((X.env cs).qual ++ "<lambda>") t) → (∀ q ∈ (P, tabObj ps) :: N, q.1 < kf) → @LT.lt Nat _ c' kf → @Ne Nat c' P → ((c', oc) ∈ tl ∨ ∀ q ∈ (P, tabObj ps) :: N, q.1 < c') →
      Q (.val (.ref kf)) ((kf, kla_obj "<lambda>" ((X.env cs).qual ++ "<lambda>") params body sc clos pm c' ctv) :: (c', oc) :: (P, tabObj #[rawInt pos.line, rawInt pos.col, .ref c']) :: N)) : GE X cs (X.env cs) f mc ((P, tabObj ps) :: N) (.Lambda params body sc pos) Q := by
  intro h t E a
  obtain ⟨clos, ecl, hcl⟩ := closure_ok (env := X.env cs) hfr
  obtain ⟨co, c1, c4, c2, c3⟩ := a.C
  refine kla_eval hd (lam_any (tl := tl) a.F c2 X.T hC hcd (.head fun q hq => ?_) (.head _) (fun q hq => .tail _ (List.mem_append_left _ (hsub q hq))) (fun q hq => hoff q (hsub q hq)) htab ecl ?_)
  · exact (List.mem_append.mp hq).elim (hoff q) fun hq e => c3 _ (.head _) q hq e.symm
  · intro kf c' oc vs t' ctv h' tk F' N' hd hv h1 h2 h3 h4
    refine .mk (.val (.ref kf)) 0 _ h' tk ⟨F', a.D, co, c1, c4, N', ?_⟩ (H kf c' oc vs t' ctv clos _ hcl hd hv (fun q hq => h1 q (List.mem_append_left co hq)) h2 h3 (h4.imp_right fun g q hq => g q (List.mem_append_left co hq)))
    intro q hq r hr
    rcases List.mem_cons.mp hq with rfl | hq
    · exact Nat.ne_of_gt (h1 r (List.mem_append_right (_ :: N) hr))
    · rcases List.mem_cons.mp hq with rfl | hq
      · rcases h4 with h4 | h4
        · exact c3 _ (.tail _ (hsub _ h4)) r hr
        · exact Nat.ne_of_gt (h4 r (List.mem_append_right (_ :: N) hr))
      · rcases List.mem_cons.mp hq with rfl | hq
        · exact c3 (P, tabObj ps) (.head _) r hr
        · exact c3 q (.tail _ hq) r hr
theorem ge_listrange {e0 : Expr} {p1 p2 p3 p4 : Pos} {n : Nat} {ps : List Prop} {Q : VC → Led → Prop} (hlk : Lk X cs en f mc lk) (hl : GN X cs en "list" (.type "list")) (hr : GN X cs en "range" (.type "range")) (he : pevs lk [e0] = some ([.int n], ps)) (hp : Alls ps) (hn : Builtin.Range.small 0 n 1 = true ∧ Builtin.Range.rangeSize 0 n 1 = (n : Int)) (hz : n ≤ 2 ^ 24) (hs : noStars [e0] = true)
    (h : ∀ d us k, IntsAre us (rangeKs 0 n) → (∀ q ∈ N, q.1 < d) → Q (.val (.ref d)) ((d, lsO us k) :: N)) : GE X cs en f mc N (.Call (.Name "list" p1) [.Call (.Name "range" p2) [e0] [] p3] [] p4) Q := by
  intro hp' t E a
  refine Call_ (hl p1 _ hp' t E _ a.F (wf_type en p4 _ [] _ hp' t E _ a.F rfl ?_)) rfl
  refine args_cons (Call_ (hr p2 _ hp' t E _ a.F (wf_type en p3 e0 [] _ hp' t E _ a.F hs (wpAny_mono (ga_pure (X := X) (N := N) (Q := fun l N' => l = [.int n] ∧ N' = N) hlk he hp ⟨rfl, rfl⟩ p3 hp' t E a) ?_ fun _ _ x => x))) rfl)
  refine AP.el ?_; intro l σ N2 h2 t2 a2 q9; obtain ⟨rfl, rfl⟩ := q9
  refine ⟨⟨_, a2.F⟩, ?_⟩
  obtain ⟨co, c1, c4, c2, c3⟩ := a2.C
  refine range1_rows a2.F c2 fun h' tk t1 u1 v1 hr' F' N' _ => args_nil ⟨⟨_, F'⟩, ?_⟩
  refine kll_range (s := X.s h' tk) rfl F' N' hr' hn.1 hn.2 hz fun d us k h'' tk' F2 N2 hlt hI => .mk (.val (.ref d)) 0 _ h'' tk' ⟨F2, a2.D, co, c1, c4, N2, off_cons c3 hlt⟩ (h d us k hI fun q hq => hlt q (List.mem_append_left _ hq))
theorem ge_led {N' : Led} {e : Expr} {Q : VC → Led → Prop} (hs : ∀ q ∈ N', q ∈ N) (h : GE X cs en f mc N' e Q) : GE X cs en f mc N e Q :=
  fun hp t E a => h hp t E (a.sub hs)
theorem ge_meth {x nm : Str} {id : String} {e : Expr} {es : List Expr} {p0 p1 p2 : Pos} {l : Addr} {vs : List Value} {n : Nat} {cls : List VC} {ps qs : List Prop} {Q : VC → Led → Prop} (hk : cs.kind = .function) (hlk : Lk X cs en f mc lk) (ho : pev lk 12 (.Name x p0) = some (.val (.ref l), ps)) (hp : Alls ps) (he : pevs lk (e :: es) = some (cls, qs)) (hq : Alls qs) (hm : (l, lsO vs n) ∈ N) (slot : Slot "list" nm id) (hty : typeOf (.builtin id) = pure (.type "method_descriptor"))
    (h : WC X cs mc N (.builtin id) (.val (.ref l) :: cls) Q) (hs : noStars (e :: es) = true)
    (hc : ∀ en : Env, ∃ pl, eval (.Call (.Attribute (.Name x p0) nm p1) (e :: es) [] p2) en = (do
      let ov ← eval (.Name x p0) en
      standAt p1.atName
      let (f, first) ← holding [ov] (getMethod ov nm pl)
      callWith p2 f first (backTo p2 (starEach (e :: es) en)) [])) : GE X cs en f mc N (.Call (.Attribute (.Name x p0) nm p1) (e :: es) [] p2) Q := by
  intro h0 t E a
  have h' := Bool.and_eq_true_iff.mp hs
  obtain ⟨pl, hpl⟩ := hc en
  refine MethodCall_ (pev_ok hlk a 12 _ ho hp fun k1 t1 => listMethod_K a.N hm slot hty ?_) hpl
  refine callWith_method1 (wpAny_mono (ga_pure (X := X) (N := N) (Q := fun l N' => l = cls ∧ N' = N) hlk he hq ⟨rfl, rfl⟩ p2 h0 t1 E a) ?_ fun _ _ x => x) (noStar_ok h'.1 _ _) (plain_ok h'.2 _ _)
  refine AP.el ?_; intro l' σ N2 h2 t2 a2 q9; obtain ⟨rfl, rfl⟩ := q9
  have e0 := atl_cons (c := .val (.ref l)) (r := l') (k := 0) (τ := σ)
  show wpAny X.M (X.A cs) (call (.builtin id) (VC.at (.val (.ref l)) 0 :: atl l' σ 0)) _ E _
  rw [e0]
  exact h hk _ _ h2 t2 E a2
theorem upd_head {l : Addr} {o o' : Obj} {co : Led} (hoff : ∀ q ∈ N, q.1 ≠ l) (c3 : ∀ q ∈ (l, o) :: N, ∀ r ∈ co, q.1 ≠ r.1) : Upd l o o' ((l, o) :: N ++ co) ((l, o') :: N ++ co) :=
  .head fun q hq => (List.mem_append.mp hq).elim (hoff q) fun hq e => c3 _ (.head _) q hq e.symm
theorem wc_append {l : Addr} {vs : List Value} {n : Nat} {c : VC} {Q : VC → Led → Prop} (hoff : ∀ q ∈ N, q.1 ≠ l) (hz : vs.length ≤ sizeLine) (h : ∀ k, Q (.val .none) ((l, lsO (vs ++ [c.at k]) (n + 1)) :: N)) : WC X cs mc ((l, lsO vs n) :: N) (.builtin "list.append") [.val (.ref l), c] Q := by
  intro _ σ f hp t E a
  obtain ⟨co, c1, c4, c2, c3⟩ := a.C
  have e : ({ cls := .type "list", data := .seq (vs.toArray.push (c.at (σ 1))) (n + 1) } : Obj) = lsO (vs ++ [c.at (σ 1)]) (n + 1) := by rw [List.push_toArray]
  refine append_K a.F c2 (upd_head hoff c3) (fun h' F' N' => ?_) (by simpa using hz)
  exact .mk (.val .none) 0 ((l, lsO (vs ++ [c.at (σ 1)]) (n + 1)) :: N) h' t ⟨F', a.D, co, c1, c4, e ▸ N', fun q hq r hr => by
    rcases List.mem_cons.mp hq with rfl | hq
    · exact c3 _ (.head _) r hr
    · exact c3 q (.tail _ hq) r hr⟩ (h _)
end
end
section
section
variable {w : World} {p : Program} {loose : List Str} {mean : ExcName → Option Value} {mg mb : Str → Option Value} {D U : Nat}
variable {X : Cx w p loose mean mg mb D U} {cs : Scope} {Q : FinS → Prop} {mc m : Loc} {N : Led} {en : Env} {f : Str → Option Value} {lk : Str → Option VC}
def GT (X : Cx w p loose mean mg mb D U) (cs : Scope) (en : Env) (f : Str → Option Value) (mc : Loc) (N : Led) (e : Expr) (Q : Bool → Led → Prop) : Prop :=
  ∀ h t E, At X f mc N h → wpAny X.M (X.A cs) (isTrue e en (eval e en)) (TP X f mc Q) E (X.s h t)
theorem wt_of {e : Expr} {Q : Bool → Led → Prop} (h : cs.kind = .function → ∀ τ ρ, GT X cs (X.env cs) (m.at τ ρ) mc N e Q) : WT X cs mc m N e Q := h
theorem gt_or2 {a b : Expr} {pos : Pos} {Q : Bool → Led → Prop} (h : GT X cs en f mc N a fun t N' => if t then Q true N' else GT X cs en f mc N' b Q) : GT X cs en f mc N (.BoolOp .Or [a, b] pos) Q := by
  intro hp t E at_
  refine isTrue_or (wpAny_mono (h hp t E at_) (fun c s r => ?_) fun _ _ x => x)
  obtain ⟨N1, h1, t1, a1, q1⟩ := r
  cases c with
  | true => exact .mk true N1 h1 t1 a1 q1
  | false =>
    refine isTrue_or (wpAny_mono (q1 h1 t1 E a1) (fun c s r => ?_) fun _ _ x => x)
    obtain ⟨N2, h2, t2, a2, q2⟩ := r
    cases c with
    | true => exact .mk true N2 h2 t2 a2 q2
    | false => exact isTrue_or_nil (.mk false N2 h2 t2 a2 q2)
theorem gt_not {a : Expr} {pos : Pos} {Q : Bool → Led → Prop} (h : GT X cs en f mc N a fun t N' => Q (!t) N') : GT X cs en f mc N (.UnaryOp .Not a pos) Q := by
  intro hp t E at_
  refine isTrue_not (wpAny_mono (h hp t E at_) (fun c s r => ?_) fun _ _ x => x)
  obtain ⟨N1, h1, t1, a1, q1⟩ := r
  exact .mk _ N1 h1 t1 a1 q1
theorem gt_cmpE {l r : Expr} {op : CmpOp} {pos : Pos} {Q : Bool → Led → Prop} (h : GE X cs en f mc N l fun c N1 => GE X cs en f mc N1 r fun d N2 => GC X cs f mc N2 op c d Q) (hb : behindInMarks op r = false) : GT X cs en f mc N (.Compare l [op] [r] pos) Q := by
  intro hp t E a
  refine wpAny_isTrue_Compare1 (wpAny_mono (h hp t E a) ?_ fun _ _ x => x) hb
  refine EP.el ?_; intro c k N2 h2 t2 a2 hQ
  refine wpAny_mono (hQ h2 t2 E a2) ?_ fun _ _ x => x
  refine EP.el ?_; intro d l N3 h3 t3 a3 hQ
  exact hQ k l h3 t3 E _ a3 fun b N' h' t' a' q => wpAny_truthy_bool (.mk b N' h' t' a' q)
theorem gc_pure {op : CmpOp} {c d : VC} {b : Bool} {Q : Bool → Led → Prop} (he : cmpop op c d = some b) (h : Q b N) : GC X cs f mc N op c d Q :=
  fun _ _ hp t _ _ a H => cmpop_ok he (H b N hp t a h)
theorem gc_ii {op : CmpOp} {i j : Int} {t u : Tok} {b : Bool} {Q : Bool → Led → Prop} (he : cmpII i j op = some b) (h : Q b N) : GC X cs f mc N op (.val (.int i t)) (.val (.int j u)) Q :=
  fun _ _ hp t' _ _ a H => cmpop_ok (a := .int i) (b := .int j) (k := t) (l := u) he (H b N hp t' a h)
def GTC (X : Cx w p loose mean mg mb D U) (cs : Scope) (en : Env) (f : Str → Option Value) (mc : Loc) (N : Led) (pos : Pos) (c : VC) (ops : List CmpOp) (rs : List Expr) (Q : Bool → Led → Prop) : Prop :=
  ∀ k h t E, At X f mc N h → wpAny X.M (X.A cs) (testChain pos (c.at k) ops (evalEach rs en)) (TP X f mc Q) E (X.s h t)
theorem gtc_last {pos : Pos} {c : VC} {op : CmpOp} {r : Expr} {Q : Bool → Led → Prop} (h : GE X cs en f mc N r fun d N2 => GC X cs f mc N2 op c d Q) : GTC X cs en f mc N pos c [op] [r] Q := by
  intro k hp t E a
  refine test_last (wpAny_mono (h hp t E a) ?_ fun _ _ x => x)
  refine EP.el ?_; intro d l N2 h2 t2 a2 hQ
  exact hQ k l h2 t2 E _ a2 fun b N' h' t' a' q => wpAny_truthy_bool (.mk b N' h' t' a' q)
theorem gtc_link {pos : Pos} {c : VC} {op op' : CmpOp} {ops : List CmpOp} {r r' : Expr} {rs : List Expr} {Q : Bool → Led → Prop} (h : GE X cs en f mc N r fun d N2 => GC X cs f mc N2 op c d fun b N3 => if b then GTC X cs en f mc N3 pos d (op' :: ops) (r' :: rs) Q else Q false N3) : GTC X cs en f mc N pos c (op :: op' :: ops) (r :: r' :: rs) Q := by
  intro k hp t E a
  refine test_link (wpAny_mono (h hp t E a) ?_ fun _ _ x => x)
  refine EP.el ?_; intro d l N2 h2 t2 a2 hQ
  refine hQ k l h2 t2 E _ a2 fun b N' h' t' a' q => wpAny_truthy_bool ?_
  cases b with
  | true => exact q l h' t' E a'
  | false => exact .mk false N' h' t' a' q
theorem gt_chain {l : Expr} {op op' : CmpOp} {ops : List CmpOp} {r r' : Expr} {rs : List Expr} {pos : Pos} {Q : Bool → Led → Prop} (h : GE X cs en f mc N l fun c N1 => GTC X cs en f mc N1 pos c (op :: op' :: ops) (r :: r' :: rs) Q) (hm : lastMarks (op :: op' :: ops) (r :: r' :: rs) = false) : GT X cs en f mc N (.Compare l (op :: op' :: ops) (r :: r' :: rs) pos) Q := by
  intro hp t E a
  refine isTrue_chain (wpAny_mono (h hp t E a) ?_ fun _ _ x => x) hm
  refine EP.el ?_; intro c k N2 h2 t2 a2 hQ
  exact hQ k h2 t2 E a2
theorem ge_join {s : Str} {e : Expr} {k : Nat} {p0 p1 p2 : Pos} {Q : VC → Led → Prop} (h : GE X cs en f mc N e fun c N' => ∃ l vs n ss, c = .val (.ref l) ∧ (l, lsO vs n) ∈ N' ∧ StrsAre vs ss ∧ (List.map (fun x => x.length) ss).sum + ss.length * s.length ≤ 16777216 ∧ Q (.str (Txt.join s ss)) N') (hs : noStar e = true)
    (hc : ∀ en : Env, ∃ pl, eval (.Call (.Attribute (.Constant (.str s) k p0) "join" p1) [e] [] p2) en = (do
      let ov ← eval (.Constant (.str s) k p0) en
      standAt p1.atName
      let (f, first) ← holding [ov] (getMethod ov "join" pl)
      callWith p2 f first (backTo p2 (starEach [e] en)) [])) : GE X cs en f mc N (.Call (.Attribute (.Constant (.str s) k p0) "join" p1) [e] [] p2) Q := by
  intro hp t E a
  obtain ⟨pl, hpl⟩ := hc en
  refine MethodCall_ (wpAny_Constant_str (PySem.GM.join ?_)) hpl
  refine callWith_method1 ?_ (noStar_ok hs _ _) rfl
  refine args_cons (wpAny_mono (h hp _ E a) ?_ fun _ _ x => x) (noStar_ok hs _ _)
  refine EP.el ?_; intro c k2 N2 h2 t2 a2 q9; obtain ⟨l, vs, n, ss, rfl, hm, hS, hz, hQ⟩ := q9
  exact args_nil (join_list (s := X.s h2 t2) (isl hm a2) (by simpa using hS) hz fun t' k' => .mk (.str (Txt.join s ss)) t' N2 h2 k' a2 hQ)
theorem ge_itemS {l r : Expr} {pos : Pos} {a : Addr} {vs : List Value} {ss : List Str} {y : Str} {n : Nat} {k : Int} {ps qs : List Prop} {Q : VC → Led → Prop} (hlk : Lk X cs en f mc lk) (he : pev lk 12 l = some (.val (.ref a), ps)) (hp : Alls ps) (hi : pev lk 12 r = some (.int k, qs)) (hq : Alls qs) (hm : (a, lsO vs n) ∈ N) (hS : StrsAre vs ss) (h0 : 0 ≤ k) (h1 : k < 2 ^ 63) (hv : ss[k.toNat]? = some y) (h : Q (.str y) N)
    (hs : ∀ u, subscripted r false (.ref a) (.int k u) = operate [.ref a, .int k u] (getItem (.ref a) (.int k u))) : GE X cs en f mc N (.Subscript l r pos) Q := by
  obtain ⟨t, ht⟩ := hS.get _ _ hv
  intro hp' t' E at_
  refine wpAny_mono (ge_item (Q := fun c N' => c = .val (.str y t) ∧ N' = N) hlk he hp hi hq hm h0 h1 ht ⟨rfl, rfl⟩ hs hp' t' E at_) ?_ fun _ _ x => x
  refine EP.el ?_; intro c k N2 h2 t2 a2 q9; obtain ⟨rfl, rfl⟩ := q9
  exact .mk (.str y) t N2 h2 t2 a2 h
theorem ge_itemI {l r : Expr} {pos : Pos} {a : Addr} {vs : List Value} {ns : List Int} {y : Int} {n : Nat} {k : Int} {ps qs : List Prop} {Q : VC → Led → Prop} (hlk : Lk X cs en f mc lk) (he : pev lk 12 l = some (.val (.ref a), ps)) (hp : Alls ps) (hi : pev lk 12 r = some (.int k, qs)) (hq : Alls qs) (hm : (a, lsO vs n) ∈ N) (hS : IntsAre vs ns) (h0 : 0 ≤ k) (h1 : k < 2 ^ 63) (hv : ns[k.toNat]? = some y) (h : Q (.int y) N)
    (hs : ∀ u, subscripted r false (.ref a) (.int k u) = operate [.ref a, .int k u] (getItem (.ref a) (.int k u))) : GE X cs en f mc N (.Subscript l r pos) Q := by
  obtain ⟨t, ht⟩ := hS.get _ _ hv
  intro hp' t' E at_
  refine wpAny_mono (ge_item (Q := fun c N' => c = .val (.int y t) ∧ N' = N) hlk he hp hi hq hm h0 h1 ht ⟨rfl, rfl⟩ hs hp' t' E at_) ?_ fun _ _ x => x
  refine EP.el ?_; intro c k N2 h2 t2 a2 q9; obtain ⟨rfl, rfl⟩ := q9
  exact .mk (.int y) t N2 h2 t2 a2 h
theorem ws_putC {x : Str} {p1 p2 : Pos} {e : Expr} {rest : List Stmt} (hs : swapsWith e (some (.Name x p1)) p2.line (X.env cs) = pure false) (h : WE X cs mc m N e fun c N' => WB X cs mc m N' x c fun mc' m' => WS X cs Q mc' m' N' rest) : WS X cs Q mc m N (.Assign [.Name x p1] e p2 :: rest) := by
  refine ws_cons ?_
  intro hk τ ρ hp t E a
  refine wpAny_Assign_Name (wpAny_mono (h hk τ ρ hp t E a) ?_ fun _ _ x => x) hs
  refine EP.el ?_; intro c k N2 h2 t2 a2 hQ
  refine wpAny_mono (hQ hk τ ρ k h2 t2 E a2) ?_ fun _ _ x => x
  refine BP.el ?_; intro mc' m' h3 t3 τ' ρ' a3 hQ
  exact .next mc' m' N2 h3 t3 τ' ρ' a3 hQ
theorem gb_str {a b : Str} {Q : VC → Led → Prop} (hz : a.length + b.length ≤ sizeLine) (h : Q (.str (a ++ b)) N) : GB X cs f mc N .Add (.str a) (.str b) Q :=
  fun _ _ hp t _ at_ => SBL.add (s := X.s hp t) (fun t' k _ => .mk (.str (a ++ b)) t' N hp k at_ h) hz
theorem wc_conF {fv : Value} {cls : List VC} {D' U' : Nat} {Post : Led → Value → Led → Prop} {Q : VC → Led → Prop} (C : ∀ σ co, HidOK X mc N co → Con w p loose mean mg mb fv (atl cls σ 0) [] D' U' (co ++ N) (Post co))
    (H : ∀ co v N2, Post co v N2 → ∃ N', (∀ q ∈ co ++ N', q ∈ N2) ∧ (∀ q ∈ N', (∃ o, (q.1, o) ∈ N) ∨ ∀ r ∈ co, q.1 ≠ r.1) ∧ Q (.val v) N') (hD : Nat.ble D' D = true) (hU : Nat.ble U' U = true) : WC X cs mc N fv cls Q := by
  refine wc_con (fun σ co hc => (C σ co hc).post (Post' := Post co) (fun q hq => (List.mem_append.mp hq).elim (List.mem_append_right _) (List.mem_append_left _)) fun r n P => ⟨n, fun _ h => h, P⟩) (fun co v N2 hP _ => ?_) hD hU
  obtain ⟨N', h1, h2, h3⟩ := H co v N2 hP
  exact ⟨N', fun q hq => h1 q ((List.mem_append.mp hq).elim (List.mem_append_right _) (List.mem_append_left _)), h2, h3⟩
theorem ge_inst0 {x nm : Str} {p0 p1 p2 : Pos} {l C dx g : Addr} {ds : List DictEntry} {n : Nat} {ps : List Prop} {Q : VC → Led → Prop} (hk : cs.kind = .function) (hlk : Lk X cs en f mc lk) (ho : pev lk 12 (.Name x p0) = some (.val (.ref l), ps)) (hp : Alls ps) (hx : (l, instObj C dx) ∈ N) (hdx : (dx, dictOf ds n) ∈ N)
    (h1 : plainGet (hd.heap_1 w.params) C nm = true) (h2 : findIn (hd.heap_1 w.params) (.ref C) nm = some (some (.ref g))) (h3 : isFn (hd.heap_1 w.params) (.ref g) = true) (h4 : getL nm ds = some none) (h5 : keepIn (hd.heap_1 w.params) (.ref g) = true)
    (h : WC X cs mc N (.ref g) [.val (.ref l)] Q)
    (hc : ∀ en : Env, ∃ pl, eval (.Call (.Attribute (.Name x p0) nm p1) [] [] p2) en = (do
      let ov ← eval (.Name x p0) en
      standAt p1.atName
      let (f, first) ← holding [ov] (getMethod ov nm pl)
      callWith p2 f first (backTo p2 (starEach [] en)) [])) : GE X cs en f mc N (.Call (.Attribute (.Name x p0) nm p1) [] [] p2) Q := by
  intro h0 t E a
  obtain ⟨pl, hpl⟩ := hc en
  refine MethodCall_ (pev_ok hlk a 12 _ ho hp fun k1 t1 => method_inst a.F X.X (InstAt.of_news a.N hx hdx) h1 h2 h3 h4 ?_) hpl
  exact callWith_K0 (X.X.keeps a.F.keep) h5 (h hk (fun _ => 0) _ h0 t1 E a)
theorem ge_inst {x nm : Str} {e : Expr} {es : List Expr} {p0 p1 p2 : Pos} {l C dx g : Addr} {ds : List DictEntry} {n : Nat} {ps : List Prop} {Q : VC → Led → Prop} (hk : cs.kind = .function) (hlk : Lk X cs en f mc lk) (ho : pev lk 12 (.Name x p0) = some (.val (.ref l), ps)) (hp : Alls ps) (hx : (l, instObj C dx) ∈ N) (hdx : (dx, dictOf ds n) ∈ N)
    (h1 : plainGet (hd.heap_1 w.params) C nm = true) (h2 : findIn (hd.heap_1 w.params) (.ref C) nm = some (some (.ref g))) (h3 : isFn (hd.heap_1 w.params) (.ref g) = true) (h4 : getL nm ds = some none) (h5 : keepIn (hd.heap_1 w.params) (.ref g) = true)
    (h : GA X cs en f mc N (e :: es) fun cls N' => WC X cs mc N' (.ref g) (.val (.ref l) :: cls) Q) (hs : noStars (e :: es) = true)
    (hc : ∀ en : Env, ∃ pl, eval (.Call (.Attribute (.Name x p0) nm p1) (e :: es) [] p2) en = (do
      let ov ← eval (.Name x p0) en
      standAt p1.atName
      let (f, first) ← holding [ov] (getMethod ov nm pl)
      callWith p2 f first (backTo p2 (starEach (e :: es) en)) [])) : GE X cs en f mc N (.Call (.Attribute (.Name x p0) nm p1) (e :: es) [] p2) Q := by
  intro h0 t E a
  obtain ⟨pl, hpl⟩ := hc en
  refine MethodCall_ (pev_ok hlk a 12 _ ho hp fun k1 t1 => method_inst a.F X.X (InstAt.of_news a.N hx hdx) h1 h2 h3 h4 ?_) hpl
  have h' := Bool.and_eq_true_iff.mp hs
  refine callWith_K X.X h5 (wpAny_mono (h p2 h0 t1 E a) ?_ fun _ _ x => x) (noStar_ok h'.1 _ _) (plain_ok h'.2 _ _)
  refine AP.el ?_; intro cls σ N2 h2' t2 a2 hC
  refine ⟨X.X.keeps a2.F.keep, ?_⟩
  have e0 := atl_cons (c := .val (.ref l)) (r := cls) (k := 0) (τ := σ)
  show wpAny X.M (X.A cs) (call (.ref g) (VC.at (.val (.ref l)) 0 :: atl cls σ 0)) _ E _
  rw [e0]
  exact hC hk _ _ h2' t2 E a2
end
end
section
section
variable {w : World} {p : Program} {loose : List Str} {mean : ExcName → Option Value} {mg mb : Str → Option Value} {D U : Nat}
variable {X : Cx w p loose mean mg mb D U} {cs : Scope} {Q : FinS → Prop} {mc m : Loc} {N : Led} {en : Env} {f : Str → Option Value} {lk : Str → Option VC}
inductive ItI (a : Addr) (Q : VC → Led → Prop) : VC → Led → Prop
  | mk (i : Int) (t : Tok) (vs : List Value) (ns : List Int) (n : Nat) (y : Int) (N : Led) (hm : (a, lsO vs n) ∈ N) (hI : IntsAre vs ns) (h0 : 0 ≤ i) (h1 : i < 2 ^ 63) (hv : ns[i.toNat]? = some y) (q : Q (.int y) N) : ItI a Q (.val (.int i t)) N
theorem ge_sub {l r : Expr} {pos : Pos} {a : Addr} {ps : List Prop} {Q : VC → Led → Prop} (hlk : Lk X cs en f mc lk) (he : pev lk 12 l = some (.val (.ref a), ps)) (hp : Alls ps) (h : GE X cs en f mc N r (ItI a Q))
    (hs : ∀ i u, subscripted r false (.ref a) (.int i u) = operate [.ref a, .int i u] (getItem (.ref a) (.int i u))) : GE X cs en f mc N (.Subscript l r pos) Q := by
  intro hp' t E at_
  refine Subscript_ (pev_ok hlk at_ 12 l he hp fun _ t0 => wpAny_mono (h hp' t0 E at_) ?_ fun _ _ x => x)
  refine EP.el ?_; intro c k N2 h2 t2 a2 q9; obtain ⟨i, ti, vs, ns, n, y, _, hm, hI, h0, h1, hv, q⟩ := q9
  obtain ⟨ty, hy⟩ := hI.get _ _ hv
  exact tail_any (isl hm a2).typeIs slot_list_getitem.lookup (wpAny_getItem_list (isl hm a2) (x := .int y ty) h0 h1 (by simpa using hy) (.mk (.int y) ty N2 h2 t2 a2 q)) (hs _ _)
theorem ge_last {l r : Expr} {pos : Pos} {a : Addr} {vs : List Value} {v : Value} {n : Nat} {ps qs : List Prop} {Q : VC → Led → Prop} (hlk : Lk X cs en f mc lk) (he : pev lk 12 l = some (.val (.ref a), ps)) (hp : Alls ps) (hi : pev lk 12 r = some (.int (-1), qs)) (hq : Alls qs) (hm : (a, lsO (vs ++ [v]) n) ∈ N) (hz : vs.length < 2 ^ 20) (h : Q (.val v) N)
    (hs : ∀ u, subscripted r false (.ref a) (.int (-1) u) = operate [.ref a, .int (-1) u] (getItem (.ref a) (.int (-1) u))) : GE X cs en f mc N (.Subscript l r pos) Q := by
  intro hp' t E at_
  exact Subscript_ (pev_ok hlk at_ 12 l he hp fun _ _ => pev_ok hlk at_ 12 r hi hq fun _ t2 => item_last (s := X.s hp' t2) at_.N hm hz (.mk (.val v) 0 N hp' t2 at_ h) (hs _))
theorem ge_to {l r : Expr} {pos p2 : Pos} {k : Int} {a : Addr} {vs : List Value} {n : Nat} {ps qs : List Prop} {Q : VC → Led → Prop} (hlk : Lk X cs en f mc lk) (he : pev lk 12 l = some (.val (.ref a), ps)) (hp : Alls ps) (hi : pev lk 12 r = some (.int k, qs)) (hq : Alls qs) (hm : (a, lsO vs n) ∈ N) (hz : vs.length ≤ sizeLine)
    (hQ : ∀ d, (∀ q ∈ N, q.1 < d) → Q (.val (.ref d)) ((d, lsO (kms_pick vs none (some k)) 0) :: N))
    (hs : ∀ a b, subscripted (.Slice none (some r) none p2) false (.ref a) (.ref b) = operate [.ref b, .ref a] (getItem (.ref a) (.ref b))) : GE X cs en f mc N (.Subscript l (.Slice none (some r) none p2) pos) Q := by
  intro hp' t E a2
  refine Subscript_ (pev_ok hlk a2 12 l he hp fun _ _ => wpAny_Slice (evalPart_none_step (evalPart_some_step (pev_ok hlk a2 12 r hi hq fun k' t' => evalPart_none_step ?_))))
  obtain ⟨co, c1, c4, c2, c3⟩ := a2.C
  refine kba_turn (value' := .Name "_" ⟨0, 0, 0, 0⟩) (fun _ => rfl) ?_
  exact kms_slice_lit (s := X.s hp' t') a2.F c2 (isl hm a2) .none (.int k k') rfl (fun d h' F' N' hlt => .mk (.val (.ref d)) 0 _ h' t' ⟨F', a2.D, co, c1, c4, N', off_cons c3 hlt⟩ (hQ d fun q hq => hlt q (List.mem_append_left _ hq))) (hs _ _) (fun _ => rfl) (by simpa using hz)
theorem ge_methG {x nm : Str} {id : String} {e : Expr} {es : List Expr} {p0 p1 p2 : Pos} {l : Addr} {vs : List Value} {n : Nat} {ps : List Prop} {Q : VC → Led → Prop} (hk : cs.kind = .function) (hlk : Lk X cs en f mc lk) (ho : pev lk 12 (.Name x p0) = some (.val (.ref l), ps)) (hp : Alls ps) (hm : (l, lsO vs n) ∈ N) (slot : Slot "list" nm id) (hty : typeOf (.builtin id) = pure (.type "method_descriptor"))
    (h : GA X cs en f mc N (e :: es) fun cls N' => WC X cs mc N' (.builtin id) (.val (.ref l) :: cls) Q) (hs : noStars (e :: es) = true)
    (hc : ∀ en : Env, ∃ pl, eval (.Call (.Attribute (.Name x p0) nm p1) (e :: es) [] p2) en = (do
      let ov ← eval (.Name x p0) en
      standAt p1.atName
      let (f, first) ← holding [ov] (getMethod ov nm pl)
      callWith p2 f first (backTo p2 (starEach (e :: es) en)) [])) : GE X cs en f mc N (.Call (.Attribute (.Name x p0) nm p1) (e :: es) [] p2) Q := by
  intro h0 t E a
  have h' := Bool.and_eq_true_iff.mp hs
  obtain ⟨pl, hpl⟩ := hc en
  refine MethodCall_ (pev_ok hlk a 12 _ ho hp fun k1 t1 => listMethod_K a.N hm slot hty ?_) hpl
  refine callWith_method1 (wpAny_mono (h p2 h0 t1 E a) ?_ fun _ _ x => x) (noStar_ok h'.1 _ _) (plain_ok h'.2 _ _)
  refine AP.el ?_; intro l' σ N2 h2 t2 a2 hC
  have e0 := atl_cons (c := .val (.ref l)) (r := l') (k := 0) (τ := σ)
  show wpAny X.M (X.A cs) (call (.builtin id) (VC.at (.val (.ref l)) 0 :: atl l' σ 0)) _ E _
  rw [e0]
  exact hC hk _ _ h2 t2 E a2
theorem ge_methS {ov : Expr} {sv nm : Str} {id : String} {e : Expr} {es : List Expr} {p1 p2 : Pos} {ps : List Prop} {Q : VC → Led → Prop} (hk : cs.kind = .function) (hlk : Lk X cs en f mc lk) (ho : pev lk 12 ov = some (.str sv, ps)) (hp : Alls ps) (hg : ∀ {M : Model} {A : Around} {E : Value → Shared → Prop} {s : Shared} {t : Tok} {pl : Sem Bool} {Q : Value × List Value → Shared → Prop}, Q (.builtin id, [.str sv t]) s → wpAny M A (getMethod (.str sv t) nm pl) Q E s)
    (h : GA X cs en f mc N (e :: es) fun cls N' => WC X cs mc N' (.builtin id) (.str sv :: cls) Q) (hs : noStars (e :: es) = true)
    (hc : ∀ en : Env, ∃ pl, eval (.Call (.Attribute ov nm p1) (e :: es) [] p2) en = (do
      let o ← eval ov en
      standAt p1.atName
      let (f, first) ← holding [o] (getMethod o nm pl)
      callWith p2 f first (backTo p2 (starEach (e :: es) en)) [])) : GE X cs en f mc N (.Call (.Attribute ov nm p1) (e :: es) [] p2) Q := by
  intro h0 t E a
  have h' := Bool.and_eq_true_iff.mp hs
  obtain ⟨pl, hpl⟩ := hc en
  refine MethodCall_ (pev_ok hlk a 12 _ ho hp fun k1 t1 => hg ?_) hpl
  refine callWith_method1 (wpAny_mono (h p2 h0 t1 E a) ?_ fun _ _ x => x) (noStar_ok h'.1 _ _) (plain_ok h'.2 _ _)
  refine AP.el ?_; intro l' σ N2 h2 t2 a2 hC
  have e0 := atl_cons (c := .str sv) (r := l') (k := k1) (τ := σ)
  show wpAny X.M (X.A cs) (call (.builtin id) (VC.at (.str sv) k1 :: atl l' σ 0)) _ E _
  rw [e0]
  exact hC hk _ _ h2 t2 E a2
theorem wc_count {x y : Str} {Q : VC → Led → Prop} (h : Q (.int (Txt.count x y)) N) : WC X cs mc N (.builtin "str.count") [.str x, .str y] Q :=
  fun _ _ f hp t _ a => SC.count (s := X.s hp t) (.mk (.int (Txt.count x y)) t N hp (t + 1) a h)
theorem wc_index {x y : Str} {Q : VC → Led → Prop} (hf : Txt.find x y ≠ -1) (h : Q (.int (Txt.find x y)) N) : WC X cs mc N (.builtin "str.index") [.str x, .str y] Q :=
  fun _ _ f hp t _ a => index_or (s := X.s hp t) rfl (fun e => absurd e hf) fun _ _ => .mk (.int (Txt.find x y)) t N hp (t + 1) a h
theorem wc_pop {l : Addr} {vs : List Value} {ns : List Int} {n : Nat} {i : Int} {Q : VC → Led → Prop} (hoff : ∀ q ∈ N, q.1 ≠ l) (hI : IntsAre vs ns) (h0 : 0 ≤ i) (h1 : i < ns.length) (hz : ns.length < 2 ^ 20)
    (h : ∀ vs', IntsAre vs' (ns.take i.toNat ++ ns.drop (i.toNat + 1)) → Q (.int (ns.getD i.toNat 0)) ((l, lsO vs' (n + 1)) :: N)) : WC X cs mc ((l, lsO vs n) :: N) (.builtin "list.pop") [.val (.ref l), .int i] Q := by
  intro _ σ f hp t E a
  obtain ⟨co, c1, c4, c2, c3⟩ := a.C
  refine popF (g := fun o => (l, o) :: (N ++ co)) a.F c2 hI h0 h1 hz (.head fun q hq => (List.mem_append.mp hq).elim (hoff q) fun hq e => c3 _ (.head _) q hq e.symm) ?_
  rintro t' h' _ vs' _ rfl rfl _ F' N' hI'
  exact .mk (.int (ns.getD i.toNat 0)) t' ((l, lsO vs' (n + 1)) :: N) h' t ⟨F', a.D, co, c1, c4, N', fun q hq r hr => by
    rcases List.mem_cons.mp hq with rfl | hq
    · exact c3 _ (.head _) r hr
    · exact c3 q (.tail _ hq) r hr⟩ (h vs' hI')
theorem ge_attr {x nm : Str} {p0 p1 : Pos} {l C dx : Addr} {ds : List DictEntry} {n : Nat} {v : Value} {attr : Option Value} {ps : List Prop} {Q : VC → Led → Prop} (hlk : Lk X cs en f mc lk) (ho : pev lk 12 (.Name x p0) = some (.val (.ref l), ps)) (hp : Alls ps) (hx : (l, instObj C dx) ∈ N) (hdx : (dx, dictOf ds n) ∈ N)
    (h1 : plainGet (hd.heap_1 w.params) C nm = true) (h2 : hasDictIn (hd.heap_1 w.params) C = true) (h3 : findIn (hd.heap_1 w.params) (.ref C) nm = some attr) (h4 : noGet (hd.heap_1 w.params) attr = true) (h5 : getL nm ds = some (some v)) (h6 : handedIn v = true) (h : Q (.val v) N)
    (hc : ∀ en, eval (.Attribute (.Name x p0) nm p1) en = (do
          let o ← eval (.Name x p0) en
          standAt p1.atName
          let r ← holding [o] (getAttr o nm true)
          letTemporaryGo (.Name x p0) o r
          pure r)) : GE X cs en f mc N (.Attribute (.Name x p0) nm p1) Q := by
  intro h0 t E a
  exact Attribute_Name_ (pev_ok hlk a 12 _ ho hp fun _ t1 => get_own (s := X.s h0 t1) a.F X.X (InstAt.of_news a.N hx hdx) h1 h2 h3 h4 h5 h6 (.mk (.val v) 0 N h0 _ a h)) (hc en)
theorem gb_div {a b : Int} {Q : VC → Led → Prop} (hb : b ≠ 0) (hi : ¬ Float64.isInf (frac a b) = true) (h : Q (.float (frac a b)) N) : GB X cs f mc N .Div (.int a) (.int b) Q :=
  fun _ _ hp t _ a' => div_ok (s := X.s hp t) hb hi (.mk (.float (frac a b)) t N hp (t + 1) a' h)
theorem gb_add_if {i : Int} {x : UInt64} {Q : VC → Led → Prop} (hi : FitsF i) (h : Q (.float (Float64.add (Float64.ofInt i) x)) N) : GB X cs f mc N .Add (.int i) (.float x) Q :=
  fun _ _ hp t _ a' => add_if_sharp (s := X.s hp t) rfl (fun z => absurd z (Nat.not_le_of_lt hi)) fun _ => .mk (.float (Float64.add (Float64.ofInt i) x)) t N hp (t + 1) a' h
theorem gb_add_list {a b : Addr} {vs ws : List Value} {j k : Nat} {Q : VC → Led → Prop} (ha : (a, lsO vs j) ∈ N) (hb : (b, lsO ws k) ∈ N) (hl : vs.length + ws.length ≤ sizeLine)
    (h : ∀ d, (∀ q ∈ N, q.1 < d) → Q (.val (.ref d)) ((d, lsO (vs ++ ws) 0) :: N)) : GB X cs f mc N .Add (.val (.ref a)) (.val (.ref b)) Q := by
  intro _ _ hp t E at_
  obtain ⟨co, c1, c4, c2, c3⟩ := at_.C
  exact kmk_add_lit (s := X.s hp t) at_.F c2 (isl ha at_) (isl hb at_) rfl (fun d h' F' N' hlt => .mk (.val (.ref d)) 0 _ h' t ⟨F', at_.D, co, c1, c4, N', off_cons c3 hlt⟩ (h d fun q hq => hlt q (List.mem_append_left _ hq))) (by simpa using hl)
theorem ge_cmp {l r : Expr} {op : CmpOp} {pos : Pos} {Q : VC → Led → Prop} (h : GE X cs en f mc N l fun c N1 => GE X cs en f mc N1 r fun d N2 => GC X cs f mc N2 op c d fun b N3 => Q (.val (.bool b)) N3) (hb : behindInMarks op r = false) : GE X cs en f mc N (.Compare l [op] [r] pos) Q := by
  intro hp t E a
  refine wpAny_Compare1 (wpAny_mono (h hp t E a) ?_ fun _ _ x => x) hb
  refine EP.el ?_; intro c k N2 h2 t2 a2 hQ
  refine wpAny_mono (hQ h2 t2 E a2) ?_ fun _ _ x => x
  refine EP.el ?_; intro d l N3 h3 t3 a3 hQ
  exact hQ k l h3 t3 E _ a3 fun b N' h' t' a' q => .mk (.val (.bool b)) 0 N' h' t' a' q
theorem ge_and {l r : Expr} {pos : Pos} {Q : VC → Led → Prop} (h : GE X cs en f mc N l fun c N1 => c = .val (.bool true) ∧ GE X cs en f mc N1 r Q) : GE X cs en f mc N (.BoolOp .And [l, r] pos) Q := by
  intro hp t E a
  refine BoolOp_and (wpAny_mono (h hp t E a) ?_ fun _ _ x => x)
  refine EP.el ?_; intro c k N2 h2 t2 a2 q9; obtain ⟨rfl, hQ⟩ := q9
  exact wpAny_truthy_bool (hQ h2 t2 E a2)
theorem gc_eq_ints {a b : Addr} {xs ys : List Value} {na nb : Nat} {ns : List Int} {Q : Bool → Led → Prop} (ha : (a, lsO xs na) ∈ N) (hb : (b, lsO ys nb) ∈ N) (hi : IntsAre xs ns) (hj : IntsAre ys ns) (hu : Nat.ble 64 U = true) (h : Q true N) : GC X cs f mc N .Eq (.val (.ref a)) (.val (.ref b)) Q :=
  fun _ _ hp t _ _ at_ H => eq_intsF at_.N ha hb hi hj (Nat.lt_of_le_of_lt (Nat.add_le_add_left (Nat.le_of_ble_eq_true hu) _) X.hun) (H true N hp t at_ h)
inductive CompT (X : Cx w p loose mean mg mb D U) (cs sc : Scope) (f : Str → Option Value) (mc : Loc) (x : Str) (elt : Expr) (Q : VC → Led → Prop) : VC → Led → Prop
  | mk (l : Addr) (vs : List Value) (J : Nat → List Value → Led → Prop) (N : Led) (h0 : J 0 [] N) (hl : ∀ i ys N, J i ys N → (l, tupO vs) ∈ N) (hz : vs.length ≤ sizeLine)
    (turn : ∀ i ys N v Y en, i < vs.length → vs[i]? = some v → J i ys N → CE X Y sc cs mc x v en f → GE Y cs en f mc N elt fun c N' => ∀ k, J (i + 1) (ys ++ [c.at k]) N')
    (done : ∀ ys N D, J vs.length ys N → (∀ q ∈ N, q.1 ≠ D) → Q (.val (.ref D)) ((D, LCg.lst ys) :: N)) : CompT X cs sc f mc x elt Q (.val (.ref l)) N
theorem ge_compT {elt iter : Expr} {x : Str} {px pos : Pos} {sc : Scope} {f : Str → Option Value} {Q : VC → Led → Prop} (hi : GE X cs (X.env cs) f mc N iter (CompT X cs sc f mc x elt Q)) (hfr : ∀ q ∈ sc.names, q.2 = .free → (X.cl.lookup q.1).isSome = true)
    (h1 : ∀ y ∈ sc.names, y.2 ≠ .cell) (h2 : sc.kind = .function) (h3 : ∀ y ∈ sc.names, y.2 = .local → List.lookup y.1 sc.names = some .local) (h4 : List.lookup x sc.names = some .local) (hf : ∀ en x, foldedSetIterable iter en x = pure x) :
    GE X cs (X.env cs) f mc N (.ListComp elt [{ target := .Name x px, iter := iter, ifs := [], is_async := 0 }] sc pos) Q := by
  intro h t E a
  obtain ⟨cl, ecl, hcl⟩ := closure_ok (env := X.env cs) hfr
  refine ListComp_P a.F ecl h1 h2 h3 h4 (wpAny_mono (hi h t E a) ?_ fun _ _ x => x) (hf _)
  refine EP.el ?_; intro c k N2 h t a2 hR
  obtain ⟨l, vs, J, _, hJ, hl, hz, turn, done⟩ := hR
  obtain ⟨co, c1, c4, c2, c3⟩ := a2.C
  refine TupSrc.intro (s₁ := X.s h t) (its := vs.toArray) rfl a2.F c2 (List.mem_append_left _ (hl _ _ _ hJ)) (by simpa using hz) fun g => ?_
  rw [List.size_toArray]
  exact comp_core J h1 h2 hcl a2.D ⟨c1, c4, c3⟩ hJ (fun i ys N co h => ⟨_, List.mem_append_left _ (hl _ _ _ h), rfl, _, rfl⟩) (fun i ys N v Y en hi' hv hJ hE => turn i ys N v Y en hi' (by simpa using hv) hJ hE) fun ys N co hc hJ => comp_fin a2.D hc fun D => done ys N D hJ
inductive CompS (X : Cx w p loose mean mg mb D U) (cs sc : Scope) (f : Str → Option Value) (mc : Loc) (x : Str) (elt : Expr) (Q : VC → Led → Prop) : VC → Led → Prop
  | mk (tx : Str) (J : Nat → List Value → Led → Prop) (N : Led) (h0 : J 0 [] N) (hz : tx.cps.size ≤ sizeLine)
    (turn : ∀ i ys N c t Y en, i < tx.cps.size → tx.cps[i]? = some c → J i ys N → CE X Y sc cs mc x (.str ⟨#[c]⟩ t) en f → GE Y cs en f mc N elt fun c N' => ∀ k, J (i + 1) (ys ++ [c.at k]) N')
    (done : ∀ ys N D, J tx.cps.size ys N → (∀ q ∈ N, q.1 ≠ D) → Q (.val (.ref D)) ((D, LCg.lst ys) :: N)) : CompS X cs sc f mc x elt Q (.str tx) N
theorem ge_compS {elt iter : Expr} {x : Str} {px pos : Pos} {sc : Scope} {f : Str → Option Value} {Q : VC → Led → Prop} (hi : GE X cs (X.env cs) f mc N iter fun c N' => ∃ tx, (∀ k, ∃ t, c.at k = .str tx t) ∧ CompS X cs sc f mc x elt Q (.str tx) N') (hfr : ∀ q ∈ sc.names, q.2 = .free → (X.cl.lookup q.1).isSome = true)
    (h1 : ∀ y ∈ sc.names, y.2 ≠ .cell) (h2 : sc.kind = .function) (h3 : ∀ y ∈ sc.names, y.2 = .local → List.lookup y.1 sc.names = some .local) (h4 : List.lookup x sc.names = some .local) (hf : ∀ en x, foldedSetIterable iter en x = pure x) :
    GE X cs (X.env cs) f mc N (.ListComp elt [{ target := .Name x px, iter := iter, ifs := [], is_async := 0 }] sc pos) Q := by
  intro h t E a
  obtain ⟨cl, ecl, hcl⟩ := closure_ok (env := X.env cs) hfr
  refine ListComp_S a.F ecl h1 h2 h3 h4 (wpAny_mono (hi h t E a) ?_ fun _ _ x => x) (hf _)
  refine EP.el ?_; intro c k N2 h t a2 q9; obtain ⟨tx, hc, hR⟩ := q9
  obtain ⟨tk, e⟩ := hc k
  rw [e]
  obtain ⟨_, J, _, hJ, hz, turn, done⟩ := hR
  obtain ⟨co, c1, c4, c2, c3⟩ := a2.C
  refine TextSrc.intro (s₁ := X.s h t) rfl a2.F c2 hz fun g => ?_
  exact comp_core J h1 h2 hcl a2.D ⟨c1, c4, c3⟩ hJ (fun _ _ _ _ _ => trivial) (fun i ys N v Y en hi' hv hJ hE => by
    obtain ⟨c, u, hc, rfl⟩ := hv
    exact turn i ys N c u Y en hi' hc hJ hE) fun ys N co hc hJ => comp_fin a2.D hc fun D => done ys N D hJ
end
end
section
section
variable {w : World} {p : Program} {loose : List Str} {mean : ExcName → Option Value} {mg mb : Str → Option Value} {D U : Nat}
variable {X : Cx w p loose mean mg mb D U} {cs : Scope} {Q : FinS → Prop} {mc m : Loc} {N : Led} {en : Env} {f : Str → Option Value} {lk : Str → Option VC}
inductive TpI (k : Int) (Q : VC → Led → Prop) : VC → Led → Prop
  | mk (a : Addr) (vs : List Value) (v : Value) (N : Led) (hm : (a, tupO vs) ∈ N) (hz : k < vs.length) (hv : vs[k.toNat]? = some v) (q : Q (.val v) N) : TpI k Q (.val (.ref a)) N
theorem ge_tupI {l r : Expr} {pos : Pos} {k : Int} {qs : List Prop} {Q : VC → Led → Prop} (hlk : Lk X cs en f mc lk) (hi : pev lk 12 r = some (.int k, qs)) (hq : Alls qs) (h0 : 0 ≤ k) (h1 : k < 2 ^ 63) (h : GE X cs en f mc N l (TpI k Q))
    (hs : ∀ a u, subscripted r false (.ref a) (.int k u) = operate [.ref a, .int k u] (getItem (.ref a) (.int k u))) : GE X cs en f mc N (.Subscript l r pos) Q := by
  intro hp' t E at_
  refine Subscript_ (wpAny_mono (h hp' t E at_) ?_ fun _ _ x => x)
  refine EP.el ?_; intro c _ N2 h2 t2 a2 q9; obtain ⟨a, vs, v, _, hm, hz, hv, q⟩ := q9
  refine pev_ok hlk a2 12 r hi hq fun k' t' => ?_
  have ht : IsTup h2 a vs.toArray := ⟨_, (a2.N _ hm).1, rfl, _, rfl⟩
  exact tail_any (s := X.s h2 t') ht.typeIs slot_tuple_getitem.lookup (getItem_tuple (s := X.s h2 t') (x := v) ht (Int.le_trans (by decide) h0) h1 (seqIndex_of h0 (by simpa using hz)) (by simpa using hv) (.mk (.val v) 0 N2 h2 t' a2 q)) (hs _ _)
theorem ge_meth0 {x nm : Str} {id : String} {p0 p1 p2 : Pos} {l : Addr} {vs : List Value} {n : Nat} {ps : List Prop} {Q : VC → Led → Prop} (hk : cs.kind = .function) (hlk : Lk X cs en f mc lk) (ho : pev lk 12 (.Name x p0) = some (.val (.ref l), ps)) (hp : Alls ps) (hm : (l, lsO vs n) ∈ N) (slot : Slot "list" nm id) (hty : typeOf (.builtin id) = pure (.type "method_descriptor"))
    (h : WC X cs mc N (.builtin id) [.val (.ref l)] Q)
    (hc : ∀ en : Env, ∃ pl, eval (.Call (.Attribute (.Name x p0) nm p1) [] [] p2) en = (do
      let ov ← eval (.Name x p0) en
      standAt p1.atName
      let (f, first) ← holding [ov] (getMethod ov nm pl)
      callWith p2 f first (backTo p2 (starEach [] en)) [])) : GE X cs en f mc N (.Call (.Attribute (.Name x p0) nm p1) [] [] p2) Q := by
  intro h0 t E a
  obtain ⟨pl, hpl⟩ := hc en
  refine MethodCall_ (pev_ok hlk a 12 _ ho hp fun k1 t1 => listMethod_K a.N hm slot hty ?_) hpl
  exact callWith_method0 (h hk (fun _ => 0) _ h0 t1 E a)
theorem upd_at {l : Addr} {o o' : Obj} {co : Led} {f : Str → Option Value} {h : Heap} {t : Nat} {Q : VC → Led → Prop} {v : Value} (D : ∀ y c, mc.lookup y = some c → (X.cl.lookup y).isSome = true) (c1 : Hid X mc co) (c4 : (co.map (·.1)).Nodup) (c3 : ∀ q ∈ (l, o) :: N, ∀ r ∈ co, q.1 ≠ r.1) (F' : Fr X.h₀ X.L h f) (N' : News X.h₀ X.L h ((l, o') :: (N ++ co))) (q : Q (.val v) ((l, o') :: N)) : EP X f mc Q v (X.s h t) :=
  .mk (.val v) 0 ((l, o') :: N) h t ⟨F', D, co, c1, c4, N', fun q hq r hr => by
    rcases List.mem_cons.mp hq with rfl | hq
    · exact c3 _ (.head _) r hr
    · exact c3 q (.tail _ hq) r hr⟩ q
theorem wc_rev {l : Addr} {vs : List Value} {ns : List Int} {n : Nat} {Q : VC → Led → Prop} (hoff : ∀ q ∈ N, q.1 ≠ l) (hI : IntsAre vs ns) (hz : ns.length < 2 ^ 20)
    (h : ∀ vs', IntsAre vs' ns.reverse → Q (.val .none) ((l, lsO vs' n) :: N)) : WC X cs mc ((l, lsO vs n) :: N) (.builtin "list.reverse") [.val (.ref l)] Q := by
  intro _ σ f hp t E a
  obtain ⟨co, c1, c4, c2, c3⟩ := a.C
  refine revF (g := fun o => (l, o) :: (N ++ co)) a.F c2 hI hz (.head fun q hq => (List.mem_append.mp hq).elim (hoff q) fun hq e => c3 _ (.head _) q hq e.symm) ?_
  rintro h' vs' _ rfl _ F' N' hI'
  exact upd_at a.D c1 c4 c3 F' N' (h vs' hI')
theorem ge_neg {e : Expr} {pos : Pos} {Q : VC → Led → Prop} (h : GE X cs en f mc N e fun c N' => ∃ i, c = .int i ∧ Q (.int (-i)) N') : GE X cs en f mc N (.UnaryOp .USub e pos) Q := by
  intro hp t E a
  refine wpAny_UnaryOp (wpAny_mono (h hp t E a) ?_ fun _ _ x => x)
  refine EP.el ?_; intro c k N2 h2 t2 a2 q9; obtain ⟨i, rfl, q⟩ := q9
  exact neg_int (.mk (.int (-i)) t2 N2 h2 _ a2 q)
end
end
section
example : PySem.Challenge.rw_uj0005_01.row.prog = PySem.Challenge.rw_uj0005_01.row.prog ∧ hd.heap_1 = hd.heap_1 := by
  k_fill
  exact ⟨rfl, rfl⟩
section
variable {w : World} {p : Program} {loose : List Str} {mean : ExcName → Option Value} {mg mb : Str → Option Value} {D U : Nat}
variable {X : Cx w p loose mean mg mb D U} {cs : Scope} {Q : FinS → Prop} {mc m : Loc} {N : Led} {en : Env} {f : Str → Option Value} {lk : Str → Option VC}
theorem ge_bitlen {x : Str} {p0 p1 p2 : Pos} {i : Int} {ps : List Prop} {Q : VC → Led → Prop} (hlk : Lk X cs en f mc lk) (ho : pev lk 12 (.Name x p0) = some (.int i, ps)) (hp : Alls ps) (h : Q (.int (Builtin.Int.intBits i)) N)
    (hc : ∀ en : Env, ∃ pl, eval (.Call (.Attribute (.Name x p0) "bit_length" p1) [] [] p2) en = (do
      let ov ← eval (.Name x p0) en
      standAt p1.atName
      let (f, first) ← holding [ov] (getMethod ov "bit_length" pl)
      callWith p2 f first (backTo p2 (starEach [] en)) [])) : GE X cs en f mc N (.Call (.Attribute (.Name x p0) "bit_length" p1) [] [] p2) Q := by
  intro h0 t E a
  obtain ⟨pl, hpl⟩ := hc en
  exact MethodCall_ (pev_ok hlk a 12 _ ho hp fun k1 t1 => PyProof.Rows.getMethod_int_bit_length (callWith_method0 (PyProof.Rows.call_int_bit_length (.mk (.int _) t1 N h0 (t1 + 1) a h)))) hpl
theorem ge_glob {x : Str} {v : Value} {p0 : Pos} {Q : VC → Led → Prop} (hn : GN X cs en x v) (h : Q (.val v) N) : GE X cs en f mc N (.Name x p0) Q :=
  fun hp t E a => hn p0 f hp t E _ a.F (.mk (.val v) 0 N hp t a h)
theorem wc_divmod {a b : Int} {Q : VC → Led → Prop} (hb : 0 < b ∧ b < 2 ^ 20) (h : ∀ d u v, (∀ q ∈ N, q.1 < d) → Q (.val (.ref d)) ((d, tupO [.int (a.fdiv b) u, .int (a.fmod b) v]) :: N)) : WC X cs mc N (.builtin "divmod") [.int a, .int b] Q := by
  intro _ σ f hp t E at_
  obtain ⟨co, c1, c4, c2, c3⟩ := at_.C
  exact divmod_l (s := X.s hp t) at_.F c2 hb fun d u v tk h' hlt F' N' => .mk (.val (.ref d)) 0 _ h' tk ⟨F', at_.D, co, c1, c4, N', off_cons c3 hlt⟩ (h d u v fun q hq => hlt q (List.mem_append_left _ hq))
theorem ws_ifT {e : Expr} {a b : List Stmt} {p1 : Pos} {rest : List Stmt} (h : WT X cs mc m N e fun t N' => t = true ∧ WS X cs (Thn X cs Q rest) mc m N' a) : WS X cs Q mc m N (.If e a b p1 :: rest) :=
  ws_cons (w_if fun hk τ ρ hp t E a => wpAny_mono (h hk τ ρ hp t E a) (fun c s r => by
    obtain ⟨N, h, t, a, q⟩ := r
    exact .mk c N h t a (by rw [q.1]; exact q.2)) fun _ _ x => x)
theorem wc_int {fv : Value} {cls : List VC} {k : Int} {D' U' : Nat} {Q : VC → Led → Prop} (C : ∀ σ co, HidOK X mc N co → Con w p loose mean mg mb fv (atl cls σ 0) [] D' U' (N ++ co) (fun r n' => (∃ t, r = .int k t) ∧ n' = N ++ co)) (hD : Nat.ble D' D = true) (hU : Nat.ble U' U = true) (h : Q (.int k) N) : WC X cs mc N fv cls Q := by
  intro hk σ f hp t E a
  refine wpAny_mono (wc_con0 (Q := fun c N' => ∃ t, c = .val (.int k t) ∧ N' = N) C (fun co v N2 hP => ⟨hP.2, hP.1.imp fun t e => ⟨by rw [e], rfl⟩⟩) hD hU hk σ f hp t E a) ?_ fun _ _ x => x
  refine EP.el ?_; intro c k' N2 h2 t2 a2 q9; obtain ⟨t, rfl, rfl⟩ := q9
  exact .mk (.int k) t N2 h2 t2 a2 h
theorem hid_nil (hX : X.cl = []) (hH : X.hid = []) {co : Led} (h : Hid X mc co) : co = [] := by
  obtain ⟨cc, rfl, c⟩ := h
  rw [hX] at c
  rw [show cc = [] from c, hH]
  rfl
theorem wc_plain {f : Value} {cls : List VC} {D' U' : Nat} {Post : Value → Led → Prop} {Q : VC → Led → Prop} (hX : X.cl = []) (hH : X.hid = []) (C : ∀ σ, Con w p loose mean mg mb f (atl cls σ 0) [] D' U' N Post) (H : ∀ v N2, Post v N2 → Q (.val v) N2) (hD : Nat.ble D' D = true) (hU : Nat.ble U' U = true) : WC X cs mc N f cls Q :=
  wc_con (Post := fun co v N2 => co = [] ∧ Post v N2) (fun σ co hc => by
    rw [hid_nil hX hH hc.h, List.append_nil]
    exact (C σ).post (fun _ h => h) fun r n h => ⟨n, fun _ h => h, rfl, h⟩) (fun co v N2 hP _ => by
    obtain ⟨rfl, hP⟩ := hP
    exact ⟨N2, fun q hq => by rw [List.append_nil] at hq; exact hq, fun _ _ => .inr fun _ h => (nomatch h), H v N2 hP⟩) hD hU
theorem gc_vr {op : CmpOp} {c : VC} {j : Int} {u : Tok} {Q : Bool → Led → Prop} (h : GC X cs f mc N op c (.int j) Q) : GC X cs f mc N op c (.val (.int j u)) Q := fun k _ h' t E Qv a H => h k u h' t E Qv a H
theorem d2n1n_n {news : Led} {a b n : Int} {t1 t2 t3 : Tok} (hb : 0 < b ∧ b < 2 ^ 20) (hn : (Builtin.Int.intBits a : Int) - n ≤ 4000) :
    Con w p loose mean mg mb (.ref 35) [.int a t1, .int b t2, .int n t3] [] 1 20 news (fun r n' => ∃ d u1 u2, r = .ref d ∧ n' = (d, tupO [.int (a.fdiv b) u1, .int (a.fmod b) u2]) :: news ∧ ∀ p ∈ news, p.1 < d) := by
  refine' con_def (D := 0) (U := 17) [("n", .val (.int n t3)), ("b", .val (.int b t2)), ("a", .val (.int a t1))] ?k6 ?k7 ?k9 ?kB ?km ?_ ?c2 ?c3 ?c4 ?c5
  case k6 => k_is
  case k7 => k_is
  case k9 => exact (fun s _ => BindsTo.of_eq rfl)
  case km => rfl
  case c5 => decide
  case kB => exact locs rfl
  case c2 => exact rfl
  case c3 => exact rfl
  case c4 => exact rfl
  intro X hX hH
  refine ws_ifT (wt_of fun hk τ ρ => gt_cmpE (ge_bin (ge_bitlen (lk_F hk) (by kpf_close) (by isplit) (ge_pure (lk_F hk) (by kpf_close) (by isplit) (gb_pure (by kpf_close) (by isplit) (ge_glob (wn_def (by k_is) (by kpf_close) (by decide) hk) (gc_vr (gc_pure (b := true) ?le ⟨rfl, ?_⟩))))) (fun _ => ⟨_, rfl⟩))) rfl)
  case le => exact congrArg some (decide_eq_true hn)
  exact ws_retE (we_call (wn_builtin (by k_is) (by kpf_close) (by kpf_close) (by decide) (by decide)) wf_builtin (by kpf_close) (by isplit) (wc_divmod hb fun d u v hlt => ⟨_, fun _ h => h, fun _ => ⟨d, u, v, rfl, rfl, hlt⟩⟩) rfl (fun _ => rfl))
end
end
section
example : PySem.Challenge.rw_uj0005_01.row.prog = PySem.Challenge.rw_uj0005_01.row.prog ∧ hd.heap_1 = hd.heap_1 := by
  k_fill
  exact ⟨rfl, rfl⟩
section
variable {w : World} {p : Program} {loose : List Str} {mean : ExcName → Option Value} {mg mb : Str → Option Value} {D U : Nat}
variable {X : Cx w p loose mean mg mb D U} {cs : Scope} {Q : FinS → Prop} {mc m : Loc} {N : Led} {en : Env} {f : Str → Option Value} {lk : Str → Option VC}
theorem At.hideHead {h : Heap} {I : Addr} {o : Obj} (a : At X f mc ((I, o) :: N) h) (hI : ∀ q ∈ N, q.1 ≠ I) : At (X.hide I o) f mc N h := by
  obtain ⟨co, c1, c4, c2, c3⟩ := a.C
  obtain ⟨co', d1, d4, d3, dm⟩ := hideC o c1 c4 (fun q hq => c3 q (.tail _ hq)) (fun q hq => (List.mem_append.mp hq).elim (hI q) fun hq e => c3 (I, o) (.head _) q hq e.symm)
  exact ⟨a.F, a.D, co', d1, d4, fun q hq => c2 q ((dm q).mp hq), d3⟩
def rvO (l : Addr) (n i : Nat) (o : Obj) : Prop := o.cls = .type "list_reverseiterator" ∧ o.data = .fields #[.ref l, rawInt ((n : Int) - 1 - (i : Int))]
theorem wi_rev {e0 : Expr} {p1 p2 : Pos} {l : Addr} {vs : List Value} {n : Nat} {ps : List Prop} {Q : (Nat → Obj → Prop) → Led → Prop} (hx : WN X cs "reversed" (.type "reversed")) (he : pes cs mc m [e0] = some ([.val (.ref l)], ps)) (hp : Alls ps) (hm : (l, lsO vs n) ∈ N) (hQ : Q (rvO l vs.length) N) (hs : noStars [e0] = true) : WI X cs mc m N (.Call (.Name "reversed" p1) [e0] [] p2) Q := by
  intro hk τ ρ hp' t E a
  refine Call_ ?_ rfl
  refine hx hk p1 _ hp' t E _ a.F ?_
  refine wf_type _ p2 e0 [] _ hp' t E _ a.F hs (wpAny_mono (ga_pure (X := X) (N := N) (Q := fun l' N' => l' = [.val (.ref l)] ∧ N' = N) (lk_F hk) he hp ⟨rfl, rfl⟩ p2 hp' t E a) ?_ fun _ _ x => x)
  refine AP.el ?_; intro l' σ N2 h2 t2 a2 q9; obtain ⟨rfl, rfl⟩ := q9
  refine ⟨⟨_, a2.F⟩, ?_⟩
  obtain ⟨co, c1, c4, c2, c3⟩ := a2.C
  refine krv_reversed (s := X.s h2 t2) a2.F c2 (isl hm a2) fun I h' F' N' hlt => ?_
  have a3 : At X (m.at τ ρ) mc ((I, revObj l ((vs.length : Int) - 1)) :: N2) h' := ⟨F', a2.D, co, c1, c4, N', off_cons c3 hlt⟩
  refine wpAny_pyIter_revIter (⟨_, (a3.N _ (.head _)).1, rfl, rfl⟩ : h'.IsRevIter I l _) ?_
  refine .mk I _ (rvO l vs.length) N2 h' t2 ⟨rfl, ?_⟩ (a3.hideHead fun q hq => Nat.ne_of_lt (hlt q (List.mem_append_left _ hq))) hQ
  show Data.fields #[.ref l, rawInt _] = _
  rw [show (vs.length : Int) - 1 - ((0 : Nat) : Int) = (vs.length : Int) - 1 from Int.sub_zero _]
theorem nxt_rev {l : Addr} {vs : List Value} {n : Nat} {Inv : Nat → Loc → Loc → Led → Prop} (hl : ∀ k mc m N, Inv k mc m N → (l, lsO vs n) ∈ N) : Nxt X cs (rvO l vs.length) (fun k c => ∃ v, c = .val v ∧ vs.reverse[k]? = some v) vs.length Inv := by
  intro k o I f mc m N h t Q E hk ho hI a h1 h2
  have hit : h.IsRevIter I l ((vs.length : Int) - 1 - (k : Int)) := ⟨o, a.hidden, ho.1, ho.2⟩
  by_cases hlt : k < vs.length
  · have hr : vs.reverse[k]? = vs[vs.length - 1 - k]? := List.getElem?_reverse hlt
    have hlt2 : vs.length - 1 - k < vs.length := by omega
    have hx : vs[vs.length - 1 - k]? = some (vs[vs.length - 1 - k]) := List.getElem?_eq_getElem hlt2
    rw [show (vs.length : Int) - 1 - (k : Int) = ((vs.length - 1 - k : Nat) : Int) by omega] at hit
    refine wpAny_pyNext_rev_item hit (isl (hl _ _ _ _ hI) a) (x := vs[vs.length - 1 - k]) (by simpa using hx) fun h' hit' hs' => ?_
    obtain ⟨o', ho1, hc, hd⟩ := hit'
    refine h1 hlt o' (.val vs[vs.length - 1 - k]) 0 h' t ⟨hc, ?_⟩ ⟨_, rfl, hr.trans hx⟩ (a.upd ho1 fun b ob hb eo => (hs'.2 b hb).trans eo)
    rw [hd, show ((vs.length - 1 - k : Nat) : Int) - 1 = (vs.length : Int) - 1 - ((k + 1 : Nat) : Int) by omega]
  · have e : k = vs.length := Nat.le_antisymm hk (Nat.le_of_not_lt hlt)
    rw [show (vs.length : Int) - 1 - (k : Int) = -1 by omega] at hit
    exact wpAny_pyNext_rev_end rfl hit fun h' he' => h2 e h' t (a.lose he')
inductive DvI (b nn : Int) (B : Int) (dl : List Int) (q : Addr) (rest : Led) (k : Nat) : Loc → Loc → Led → Prop
  | mk (m : Loc) (r : Int) (qvs : List Value) (qs : List Int) (kn : Nat) (hm : Sub [("r", .int r), ("q_digits", .val (.ref q)), ("n", .int nn), ("b", .int b)] m) (hq : IntsAre qvs qs) (hJ : DJ B b (dl.take k) r qs) (hl : qs.length = k) : DvI b nn B dl q rest k [] m ((q, lsO qvs kn) :: rest)
structure Dv (ps44 ps51 : Array Value) (news : Led) (c4 : Addr) (oc4 : Obj) (c5 : Addr) (oc5 : Obj) : Prop where
  k4 : IsCode qI oc4
  k5 : IsCode qD oc5
  p4 : ps44 = #[] ∨ ps44 = #[rawInt 73, rawInt 4, .ref c4]
  p5 : ps51 = #[] ∨ ps51 = #[rawInt 88, rawInt 4, .ref c5]
  n4 : c4 ≠ 44 ∧ c4 ≠ 51
  n5 : c5 ≠ 44 ∧ c5 ≠ 51
  m4 : (c4, oc4) ∈ news ∨ ∀ p ∈ news, p.1 < c4
  m5 : (c5, oc5) ∈ news ∨ ∀ p ∈ news, p.1 < c5
abbrev dvL (c4 : Addr) (oc4 : Obj) (c5 : Addr) (oc5 : Obj) (news : Led) : Led := (44, tabObj #[rawInt 73, rawInt 4, .ref c4]) :: (51, tabObj #[rawInt 88, rawInt 4, .ref c5]) :: (c4, oc4) :: (c5, oc5) :: news
inductive DvP (ps44 ps51 : Array Value) (news : Led) (q r : Int) : Value → Led → Prop
  | mk (d : Addr) (u1 u2 : Tok) (c4 : Addr) (oc4 : Obj) (c5 : Addr) (oc5 : Obj) (hlt : ∀ p ∈ (44, tabObj ps44) :: (51, tabObj ps51) :: news, p.1 < d) (h : Dv ps44 ps51 news c4 oc4 c5 oc5) : DvP ps44 ps51 news q r (.ref d) ((d, tupO [.int q u1, .int r u2]) :: dvL c4 oc4 c5 oc5 news)
set_option maxHeartbeats 4000000 in
theorem dpos_n {news : Led} {ps44 ps51 : Array Value} {a b : Int} {cnt : Nat} {t1 t2 : Tok} (ha : 0 ≤ a ∧ Builtin.Int.intBits a ≤ 80) (hb : 1 < b ∧ b < 2 ^ 19) (hcnt : ((Builtin.Int.intBits a : Int) + (Builtin.Int.intBits b : Int) - 1).fdiv (Builtin.Int.intBits b : Int) = (cnt : Int)) (hc0 : cnt < 100) (hoff : ∀ p ∈ news, p.1 ≠ 44 ∧ p.1 ≠ 51)
    (htab44 : TabIs 73 4 (Str.ofString "_int2digits.<locals>.inner") ps44 news) (htab51 : TabIs 88 4 (Str.ofString "_digits2int.<locals>.inner") ps51 news) :
    Con w p loose mean mg mb (.ref 63) [.int a t1, .int b t2] [] 110 5000 ((44, tabObj ps44) :: (51, tabObj ps51) :: news) (DvP ps44 ps51 news (a.fdiv b) (a.fmod b)) := by
  have hb2 := bits_b hb
  have hB := pow_le20 hb2
  refine' con_def (D := 109) (U := 4997) [("b", .val (.int b t2)), ("a", .val (.int a t1))] ?k6 ?k7 ?k9 ?kB ?km ?_ ?c2 ?c3 ?c4 ?c5
  case k6 => k_is
  case k7 => k_is
  case k9 => exact (fun s _ => BindsTo.of_eq rfl)
  case km => rfl
  case c5 => decide
  case kB => exact locs rfl
  case c2 => exact rfl
  case c3 => exact rfl
  case c4 => exact rfl
  intro X hX hH
  refine ws_setE (by kpf_close) rfl (fun hk τ ρ => ge_bitlen (lk_F hk) (by kpf_close) (by isplit) ?_ (fun _ => ⟨_, rfl⟩))
  generalize hnn : (Builtin.Int.intBits b : Int) = nn at *
  refine ws_setE (by kpf_close) rfl (we_call (wn_def (by k_is) (by kpf_close) (by decide)) (wf_def (by k_is)) (by kpf_close) (by isplit) (wc_plain hX hH (fun σ => i2d_c (news := (51, tabObj ps51) :: news) (tl := news) ha hb2 hcnt hc0 (List.forall_mem_cons.mpr ⟨(by decide : (51 : Nat) ≠ 44), fun q hq => (hoff q hq).1⟩) (fun q hq => .tail _ hq) htab44) ?_ rfl rfl) rfl (fun _ => rfl))
  intro _ _ hP
  induction hP with | mk D9 c9 oc9 vs9 ds9 hoc9 hD9 hc44 hps44 hcn9 hI9 hl9 hds9 hval9 => ?_
  tbn_conj
  refine ws_setE (by kpf_close) rfl (we_list (cls := []) (by kpf_close) (by isplit) rfl fun q σ hq => ?_)
  have hqo : ∀ p ∈ (D9, lsO vs9 0) :: (c9, oc9) :: (44, tabObj #[rawInt 73, rawInt 4, .ref c9]) :: (51, tabObj ps51) :: news, p.1 ≠ q := fun p hp => Nat.ne_of_lt (hq p hp)
  refine ws_cons (w_for (wi_rev (wn_builtin (by k_is) (by kpf_close) (by kpf_close) (by decide) (by decide)) (by kpf_close) (by isplit) (.tail _ (.head _)) (.mk _ _ (DvI b nn (2 ^ nn.toNat) ds9.reverse q ((D9, lsO vs9 0) :: (c9, oc9) :: (44, tabObj #[rawInt 73, rawInt 4, .ref c9]) :: (51, tabObj ps51) :: news)) (.mk _ 0 [] [] 0 (.of (.inl rfl) (.of (.inl rfl) (.of (.inl rfl) (.of (.inr rfl) .nil)))) .nil ⟨Int.le_refl 0, by omega, by simp [hv], fun _ h => nomatch h⟩ rfl) (nxt_rev (vs := vs9) (n := 0) ?hl) ?turn ?done) rfl) (fun _ _ => rfl))
  case hl =>
    intro k mc m N1 hInv
    induction hInv with | mk m r qvs qs kn hm hq hJ hl => exact .tail _ (.head _)
  case turn =>
    intro I o k c mc m N1 hk hV hInv
    induction hInv with | mk m r qvs qs kn hm hq hJ hl => ?_
    obtain ⟨v, rfl, hv⟩ := hV
    obtain ⟨d, td, rfl, hd⟩ := hI9.reverse.at _ _ hv
    have hkl : k < ds9.length := by rw [← hI9.length]; exact hk
    have hdd : 0 ≤ d ∧ d < 2 ^ nn.toNat := by
      obtain ⟨i, hi, e⟩ := List.mem_iff_getElem.mp (List.mem_reverse.mp (List.mem_of_getElem? hd))
      have := hds9 i (by rw [← hl9]; exact hi)
      rw [List.getD_eq_getElem?_getD, List.getElem?_eq_getElem hi, Option.getD_some, e] at this
      exact this
    have hsh : (Builtin.Int.intBits r : Int) + nn ≤ 2 ^ 27 := by have := hJ.rbits hb.2; omega
    have hbt := hJ.bits hb.2 hB hdd
    have hb4 : (Builtin.Int.intBits (r * 2 ^ nn.toNat + d) : Int) - nn ≤ 4000 := by omega
    have hb0 : 0 < b ∧ b < 2 ^ 20 := ⟨Int.lt_trans (by decide) hb.1, Int.lt_trans hb.2 (by decide)⟩
    refine wb_local (by kpf_close) (ws_weak (mc' := []) (m' := [("a_digit", .int d), ("r", .int r), ("q_digits", .val (.ref q)), ("n", .int nn), ("b", .int b)]) .nil (.of (.inr rfl) (hm.cons rfl)) (fun _ h => h) ?_)
    refine ws_put2 (we_call (wn_def (by k_is) (by kpf_close) (by decide)) (wf_def (by k_is)) (by kpf_close) (by exact ⟨Int.le_of_lt hb2.1, hsh⟩) (wc_con1 (fun σ co _ => d2n1n_n hb0 hb4) ?_ rfl rfl) rfl (fun _ => rfl)) (fun _ => rfl) (fun _ => rfl)
    rintro co _ _ ⟨d8, u8, v8, rfl, rfl, l8⟩
    refine ⟨d8, _, rfl, l8, d8, _, _, rfl, .head _, wb_local (by kpf_close) (wb_local (by kpf_close) (ws_led (fun q hq => .tail _ hq) ?_))⟩
    refine ws_cons (w_expr (fun hk τ ρ => ge_methG (l := q) hk (lk_F hk) (by kpf_close) (by isplit) (.head _) PySem.F.slot_list_append PySem.F.type_list_append (ga_pure (cls := [.int ((r * 2 ^ nn.toNat + d).fdiv b)]) (lk_F hk) (by kpf_close) (by isplit) (wc_append hqo ?hz fun t => ws_nil ?_)) rfl (fun _ => ⟨_, rfl⟩)) rfl)
    case hz => rw [hq.length, hl]; exact Nat.le_trans (Nat.le_of_lt hkl) (by rw [hl9]; exact Nat.le_trans (Nat.le_of_lt hc0) (by decide))
    refine .mk _ _ _ _ _ (.of (.inr rfl) (.of (.inl rfl) (.of (.inl rfl) (.of (.inl rfl) .nil)))) (ints_snoc hq _ _) ?_ (by rw [List.length_append, hl]; rfl)
    rw [List.take_add_one, hd]
    exact hJ.step hdd
  case done =>
    intro mc m N1 hInv
    induction hInv with | mk m r qvs qs kn hm hq hJ hl => ?_
    have hle : vs9.length = ds9.length := hI9.length
    rw [List.take_of_length_le (by rw [List.length_reverse, hle]; exact Nat.le_refl _)] at hJ
    refine ws_weak .nil hm (fun _ h => h) ?_
    refine ws_cons (w_expr (fun hk τ ρ => ge_meth0 (l := q) hk (lk_F hk) (by kpf_close) (by isplit) (.head _) PySem.F.slot_list_reverse PySem.F.type_list_reverse (wc_rev hqo hq (by rw [hl, hle, hl9]; exact Nat.lt_trans hc0 (by decide)) ?_) (fun _ => ⟨_, rfl⟩)) rfl)
    intro qv2 hq2
    have hlen : qs.reverse.length = cnt := by rw [List.length_reverse, hl, hle, hl9]
    have hdig : ∀ i : Nat, i < cnt → 0 ≤ qs.reverse.getD i 0 ∧ qs.reverse.getD i 0 < 2 ^ nn.toNat := fun i hi => hJ.2.2.2 _ (by
      rw [List.getD_eq_getElem?_getD, List.getElem?_eq_getElem (by rw [hlen]; exact hi), Option.getD_some]
      exact List.mem_reverse.mp (List.getElem_mem _))
    have e1 : valD (fun i => qs.reverse.getD i 0) (2 ^ nn.toNat) 0 cnt = a.fdiv b ∧ r = a.fmod b := by
      have h1 := hv_rev (B := 2 ^ nn.toNat) (fun i => qs.reverse.getD i 0) cnt qs.reverse hlen (fun _ _ => rfl)
      have h2 := hv_rev (B := 2 ^ nn.toNat) (fun i => ds9.getD i 0) cnt ds9 hl9 (fun _ _ => rfl)
      rw [List.reverse_reverse] at h1
      rw [← h1]
      obtain ⟨j0, j1, j2, _⟩ := hJ
      rw [h2, hval9] at j2
      exact divmod_unique j0 j1 j2
    have hc51 : c9 ≠ 51 := hcn9.elim (fun h => (hoff _ h).2) (fun h => Nat.ne_of_gt (h (51, tabObj ps51) (.head _)))
    refine ws_led (N' := (51, tabObj ps51) :: (q, lsO qv2 kn) :: (c9, oc9) :: (44, tabObj #[rawInt 73, rawInt 4, .ref c9]) :: news) (List.forall_mem_cons.mpr ⟨.tail _ (.tail _ (.tail _ (.tail _ (.head _)))), List.forall_mem_cons.mpr ⟨.head _, List.forall_mem_cons.mpr ⟨.tail _ (.tail _ (.head _)), List.forall_mem_cons.mpr ⟨.tail _ (.tail _ (.tail _ (.head _))), fun q hq => .tail _ (.tail _ (.tail _ (.tail _ (.tail _ hq))))⟩⟩⟩⟩) ?_
    refine ws_setE (by kpf_close) rfl (we_call (wn_def (by k_is) (by kpf_close) (by decide)) (wf_def (by k_is)) (by kpf_close) (by isplit) (wc_plain hX hH (fun σ => d2i_c (news := (c9, oc9) :: (44, tabObj #[rawInt 73, rawInt 4, .ref c9]) :: news) (tl := news) (cnt := cnt) hq2 hlen hdig hb2 hc0 (List.forall_mem_cons.mpr ⟨Ne.symm (hqo _ (.tail _ (.tail _ (.tail _ (.head _))))), List.forall_mem_cons.mpr ⟨hc51, List.forall_mem_cons.mpr ⟨(by decide : (44 : Nat) ≠ 51), fun q hq => (hoff q hq).2⟩⟩⟩) (fun q hq => .tail _ (.tail _ hq)) htab51) ?_ rfl rfl) rfl (fun _ => rfl))
    intro _ _ hP
    induction hP with | mk c8 oc8 t8 hoc8 hc8 hps51 hcn8 => ?_
    refine ws_retE (we_tuple (by kpf_close) (by isplit) rfl fun d σ2 hlt => ?_)
    refine ⟨(d, tupO [.int (a.fdiv b) (σ2 0), .int (a.fmod b) (σ2 1)]) :: dvL c9 oc9 c8 oc8 news, ?sub, fun _ => .mk d (σ2 0) (σ2 1) c9 oc9 c8 oc8 ?lt ⟨hoc9, hoc8, hps44, hps51, ⟨hc44, hc51⟩, ⟨hcn8.elim (fun h => (hoff _ h).1) (fun h => Nat.ne_of_gt (h.2 (44, tabObj _) (.tail _ (.head _)))), hc8⟩, hcn9.imp_right (fun h p hp => h p (.tail _ hp)), hcn8.imp_right (fun h p hp => h.2 p (.tail _ (.tail _ hp)))⟩⟩
    case sub =>
      rw [← e1.1, ← e1.2]
      exact List.forall_mem_cons.mpr ⟨.head _, List.forall_mem_cons.mpr ⟨.tail _ (.tail _ (.tail _ (.tail _ (.tail _ (.head _))))), List.forall_mem_cons.mpr ⟨.tail _ (.tail _ (.head _)), List.forall_mem_cons.mpr ⟨.tail _ (.tail _ (.tail _ (.tail _ (.head _)))), List.forall_mem_cons.mpr ⟨.tail _ (.head _), fun q hq => .tail _ (.tail _ (.tail _ (.tail _ (.tail _ (.tail _ hq)))))⟩⟩⟩⟩⟩
    case lt =>
      exact List.forall_mem_cons.mpr ⟨hlt (44, tabObj #[rawInt 73, rawInt 4, .ref c9]) (.tail _ (.tail _ (.tail _ (.tail _ (.head _))))), List.forall_mem_cons.mpr ⟨hlt (51, tabObj #[rawInt 88, rawInt 4, .ref c8]) (.tail _ (.head _)), fun q hq => hlt q (.tail _ (.tail _ (.tail _ (.tail _ (.tail _ hq)))))⟩⟩
end
end
section
example : PySem.Challenge.rw_uj0005_01.row.prog = PySem.Challenge.rw_uj0005_01.row.prog ∧ hd.heap_1 = hd.heap_1 := by
  k_fill
  exact ⟨rfl, rfl⟩
section
variable {w : World} {p : Program} {loose : List Str} {mean : ExcName → Option Value} {mg mb : Str → Option Value} {D U : Nat}
variable {X : Cx w p loose mean mg mb D U} {cs : Scope} {Q : FinS → Prop} {mc m : Loc} {N : Led} {en : Env} {f : Str → Option Value} {lk : Str → Option VC}
variable {ps44 ps51 : Array Value} {news : Led} {a b : Int}
theorem dv_ret {c4 c5 d d2 : Addr} {oc4 oc5 o : Obj} {u1 u2 : Tok} {q r : Int} (h : Dv ps44 ps51 news c4 oc4 c5 oc5) (hlt : ∀ p ∈ (d, o) :: dvL c4 oc4 c5 oc5 news, p.1 < d2) : Done (DvP ps44 ps51 news q r) (.ret (.val (.ref d2)) ((d2, tupO [.int q u1, .int r u2]) :: (d, o) :: dvL c4 oc4 c5 oc5 news)) :=
  ⟨(d2, tupO [.int q u1, .int r u2]) :: dvL c4 oc4 c5 oc5 news, List.forall_mem_cons.mpr ⟨.head _, fun q hq => .tail _ (.tail _ hq)⟩, fun _ => .mk d2 u1 u2 c4 oc4 c5 oc5 (List.forall_mem_cons.mpr ⟨hlt (44, tabObj #[rawInt 73, rawInt 4, .ref c4]) (.tail _ (.head _)), List.forall_mem_cons.mpr ⟨hlt (51, tabObj #[rawInt 88, rawInt 4, .ref c5]) (.tail _ (.tail _ (.head _))), fun q hq => hlt q (.tail _ (.tail _ (.tail _ (.tail _ (.tail _ hq)))))⟩⟩) h⟩
set_option maxHeartbeats 1000000 in
theorem idivA_n {t1 t2 : Tok} (ha : 0 ≤ a ∧ Builtin.Int.intBits a ≤ 80) (hb : 1 < b ∧ b < 2 ^ 19) (hoff : ∀ p ∈ news, p.1 ≠ 44 ∧ p.1 ≠ 51) (htab44 : TabIs 73 4 qI ps44 news) (htab51 : TabIs 88 4 qD ps51 news) :
    Con w p loose mean mg mb (.ref 70) [.int a t1, .int b t2] [] 112 5100 ((44, tabObj ps44) :: (51, tabObj ps51) :: news) (DvP ps44 ps51 news (a.fdiv b) (a.fmod b)) := by
  obtain ⟨cnt, hcnt, hc0⟩ := cnt_ex (x := (Builtin.Int.intBits a : Int)) ⟨Int.natCast_nonneg _, Int.ofNat_le.mpr ha.2⟩ (bits_b hb)
  refine' con_def (D := 111) (U := 5097) [("b", .val (.int b t2)), ("a", .val (.int a t1))] ?k6 ?k7 ?k9 ?kB ?km ?_ ?c2 ?c3 ?c4 ?c5
  case k6 => k_is
  case k7 => k_is
  case k9 => exact (fun s _ => BindsTo.of_eq rfl)
  case km => rfl
  case c5 => decide
  case kB => exact locs rfl
  case c2 => exact rfl
  case c3 => exact rfl
  case c4 => exact rfl
  intro X hX hH
  have hb0 : (b == 0) = false := beq_eq_false_iff_ne.mpr (Int.ne_of_gt (Int.lt_trans (by decide) hb.1))
  have hb1 : decide (b < 0) = false := decide_eq_false (Int.not_lt.mpr (Int.le_of_lt (Int.lt_trans (by decide) hb.1)))
  have ha1 : decide (a < 0) = false := decide_eq_false (Int.not_lt.mpr ha.1)
  refine ws_ifF (wt_cmp (by kpf_close) (by isplit) ⟨hb0, ?_⟩)
  refine ws_ifF (wt_cmp (by kpf_close) (by isplit) ⟨hb1, ?_⟩)
  refine ws_ifF (wt_cmp (by kpf_close) (by isplit) ⟨ha1, ?_⟩)
  exact ws_retE (we_call (wn_def (by k_is) (by kpf_close) (by decide)) (wf_def (by k_is)) (by kpf_close) (by isplit) (wc_plain hX hH (fun σ => dpos_n ha hb hcnt hc0 hoff htab44 htab51) (fun v N2 h => ⟨N2, fun _ h => h, fun _ => h⟩) rfl rfl) rfl (fun _ => rfl))
set_option maxHeartbeats 1000000 in
theorem idivB_n {t1 t2 : Tok} (ha : a < 0 ∧ Builtin.Int.intBits (Builtin.bitNot a) ≤ 80) (hb : 1 < b ∧ b < 2 ^ 19) (hoff : ∀ p ∈ news, p.1 ≠ 44 ∧ p.1 ≠ 51) (htab44 : TabIs 73 4 qI ps44 news) (htab51 : TabIs 88 4 qD ps51 news) :
    Con w p loose mean mg mb (.ref 70) [.int a t1, .int b t2] [] 115 5200 ((44, tabObj ps44) :: (51, tabObj ps51) :: news) (DvP ps44 ps51 news (a.fdiv b) (a.fmod b)) := by
  have hbn : 0 ≤ Builtin.bitNot a := by rw [bitNot_is]; omega
  obtain ⟨hn1, hn2⟩ := neg_div (a := a) (b := b) (Int.lt_trans (by decide) hb.1)
  rw [← hn1, ← hn2]
  refine' con_def (D := 114) (U := 5197) [("b", .val (.int b t2)), ("a", .val (.int a t1))] ?k6 ?k7 ?k9 ?kB ?km ?_ ?c2 ?c3 ?c4 ?c5
  case k6 => k_is
  case k7 => k_is
  case k9 => exact (fun s _ => BindsTo.of_eq rfl)
  case km => rfl
  case c5 => decide
  case kB => exact locs rfl
  case c2 => exact rfl
  case c3 => exact rfl
  case c4 => exact rfl
  intro X hX hH
  have hb0 : (b == 0) = false := beq_eq_false_iff_ne.mpr (Int.ne_of_gt (Int.lt_trans (by decide) hb.1))
  have hb1 : decide (b < 0) = false := decide_eq_false (Int.not_lt.mpr (Int.le_of_lt (Int.lt_trans (by decide) hb.1)))
  refine ws_ifF (wt_cmp (by kpf_close) (by isplit) ⟨hb0, ?_⟩)
  refine ws_ifF (wt_cmp (by kpf_close) (by isplit) ⟨hb1, ?_⟩)
  refine ws_ifT (wt_cmp (by kpf_close) (by isplit) ⟨decide_eq_true ha.1, ?_⟩)
  refine ws_put2 (we_call (wn_def (by k_is) (by kpf_close) (by decide)) (wf_def (by k_is)) (by kpf_close) (by isplit) (wc_plain hX hH (fun σ => idivA_n ⟨hbn, ha.2⟩ hb hoff htab44 htab51) ?_ rfl rfl) rfl (fun _ => rfl)) (fun _ => rfl) (fun _ => rfl)
  intro _ _ hP
  induction hP with | mk d u1 u2 c4 oc4 c5 oc5 hlt h => ?_
  refine ⟨d, _, _, rfl, .head _, wb_local (by kpf_close) (wb_local (by kpf_close) (ws_retE (we_tuple (by kpf_close) (by isplit) rfl fun d2 σ2 hlt2 => ?_)))⟩
  exact dv_ret h hlt2
theorem div_in {led : Led} {c4 c5 : Addr} {fv : Value} {vs : List Value} {q r : Int} {D' U' : Nat} (hD : DivIn c4 c5 led) (C : ∀ nw : Led, (∀ p ∈ nw, p.1 ≠ 44 ∧ p.1 ≠ 51) → TabIs 73 4 qI #[rawInt 73, rawInt 4, .ref c4] nw → TabIs 88 4 qD #[rawInt 88, rawInt 4, .ref c5] nw → Con w p loose mean mg mb fv vs [] D' U' ((44, T4 c4) :: (51, T5 c5) :: nw) (DvP #[rawInt 73, rawInt 4, .ref c4] #[rawInt 88, rawInt 4, .ref c5] nw q r)) :
    Con w p loose mean mg mb fv vs [] D' U' led (fun v n' => ∃ d u1 u2, v = .ref d ∧ n' = (d, tupO [.int q u1, .int r u2]) :: led ∧ (∀ p ∈ led, p.1 < d)) := by
  have hnw : ∀ p, p ∈ led.filter (fun p => decide (p.1 ≠ 44 ∧ p.1 ≠ 51)) ↔ p ∈ led ∧ (p.1 ≠ 44 ∧ p.1 ≠ 51) := fun p => by simp
  generalize led.filter (fun p => decide (p.1 ≠ 44 ∧ p.1 ≠ 51)) = nw at hnw
  have h4 : TabIs 73 4 qI #[rawInt 73, rawInt 4, .ref c4] nw := by
    obtain ⟨oc, vc, tc, x1, x2, x3⟩ := hD.k4
    exact .inr ⟨c4, oc, vc, tc, rfl, (hnw _).mpr ⟨x1, hD.n4⟩, x2, x3⟩
  have h5 : TabIs 88 4 qD #[rawInt 88, rawInt 4, .ref c5] nw := by
    obtain ⟨oc, vc, tc, x1, x2, x3⟩ := hD.k5
    exact .inr ⟨c5, oc, vc, tc, rfl, (hnw _).mpr ⟨x1, hD.n5⟩, x2, x3⟩
  refine (C nw (fun p hp => ((hnw p).mp hp).2) h4 h5).post (List.forall_mem_cons.mpr ⟨hD.m4, List.forall_mem_cons.mpr ⟨hD.m5, fun q hq => ((hnw _).mp hq).1⟩⟩) fun v n' P => ?_
  induction P with | mk d u1 u2 c4' oc4 c5' oc5 hlt h => ?_
  have e4 : c4 = c4' := by simpa using h.p4
  have e5 : c5 = c5' := by simpa using h.p5
  subst e4 e5
  refine ⟨(d, tupO [.int q u1, .int r u2]) :: led, List.forall_mem_cons.mpr ⟨.head _, fun x hx => ?_⟩, d, u1, u2, rfl, rfl, fun x hx => ?_⟩
  · rcases hD.off x hx with rfl | rfl | h
    · exact .tail _ (.head _)
    · exact .tail _ (.tail _ (.head _))
    · exact .tail _ (.tail _ (.tail _ (.tail _ (.tail _ ((hnw _).mpr ⟨hx, h⟩)))))
  · rcases hD.off x hx with rfl | rfl | h
    · exact hlt _ (.head _)
    · exact hlt _ (.tail _ (.head _))
    · exact hlt _ (.tail _ (.tail _ ((hnw _).mpr ⟨hx, h⟩)))
theorem idivAB {t1 t2 : Tok} (ha : Builtin.Int.intBits a ≤ 80 ∧ Builtin.Int.intBits (Builtin.bitNot a) ≤ 80) (hb : 1 < b ∧ b < 2 ^ 19) (hoff : ∀ p ∈ news, p.1 ≠ 44 ∧ p.1 ≠ 51) (htab44 : TabIs 73 4 qI ps44 news) (htab51 : TabIs 88 4 qD ps51 news) :
    Con w p loose mean mg mb (.ref 70) [.int a t1, .int b t2] [] 115 5200 ((44, tabObj ps44) :: (51, tabObj ps51) :: news) (DvP ps44 ps51 news (a.fdiv b) (a.fmod b)) := by
  by_cases hn : a < 0
  · exact idivB_n ⟨hn, ha.2⟩ hb hoff htab44 htab51
  · exact (idivA_n ⟨Int.not_lt.mp hn, ha.1⟩ hb hoff htab44 htab51).mono (by decide) (by decide)
theorem idiv_n {led : Led} {c4 c5 : Addr} {a b : Int} {t1 t2 : Tok} (hD : DivIn c4 c5 led) (ha : Builtin.Int.intBits a ≤ 80 ∧ Builtin.Int.intBits (Builtin.bitNot a) ≤ 80) (hb : 1 < b ∧ b < 2 ^ 19) :
    Con w p loose mean mg mb (.ref 70) [.int a t1, .int b t2] [] 116 5300 led (fun r n' => ∃ d u1 u2, r = .ref d ∧ n' = (d, tupO [.int (a.fdiv b) u1, .int (a.fmod b) u2]) :: led ∧ (∀ p ∈ led, p.1 < d)) := (div_in hD fun nw h1 h2 h3 => idivAB ha hb h1 h2 h3).mono (by decide) (by decide)
set_option maxHeartbeats 1000000 in
theorem idivC_n {t1 t2 : Tok} (ha : (0 ≤ -a ∧ Builtin.Int.intBits (-a) ≤ 80) ∨ (-a < 0 ∧ Builtin.Int.intBits (Builtin.bitNot (-a)) ≤ 80)) (hb : 1 < -b ∧ -b < 2 ^ 19) (hoff : ∀ p ∈ news, p.1 ≠ 44 ∧ p.1 ≠ 51) (htab44 : TabIs 73 4 qI ps44 news) (htab51 : TabIs 88 4 qD ps51 news) :
    Con w p loose mean mg mb (.ref 70) [.int a t1, .int b t2] [] 116 5300 ((44, tabObj ps44) :: (51, tabObj ps51) :: news) (DvP ps44 ps51 news (a.fdiv b) (a.fmod b)) := by
  obtain ⟨hn1, hn2⟩ := neg2_div a b
  have hcon : ∀ t1 t2, Con w p loose mean mg mb (.ref 70) [.int (-a) t1, .int (-b) t2] [] 115 5200 ((44, tabObj ps44) :: (51, tabObj ps51) :: news) (DvP ps44 ps51 news ((-a).fdiv (-b)) ((-a).fmod (-b))) := fun t1 t2 =>
    ha.elim (fun ha => (idivA_n ha hb hoff htab44 htab51).mono (by decide) (by decide)) fun ha => idivB_n ha hb hoff htab44 htab51
  rw [hn1] at hcon
  rw [← hn2]
  refine' con_def (D := 115) (U := 5297) [("b", .val (.int b t2)), ("a", .val (.int a t1))] ?k6 ?k7 ?k9 ?kB ?km ?_ ?c2 ?c3 ?c4 ?c5
  case k6 => k_is
  case k7 => k_is
  case k9 => exact (fun s _ => BindsTo.of_eq rfl)
  case km => rfl
  case c5 => decide
  case kB => exact locs rfl
  case c2 => exact rfl
  case c3 => exact rfl
  case c4 => exact rfl
  intro X hX hH
  have hb1 : b < 0 := by omega
  have hb0 : (b == 0) = false := beq_eq_false_iff_ne.mpr (Int.ne_of_lt hb1)
  refine ws_ifF (wt_cmp (by kpf_close) (by isplit) ⟨hb0, ?_⟩)
  refine ws_ifT (wt_cmp (by kpf_close) (by isplit) ⟨decide_eq_true hb1, ?_⟩)
  refine ws_put2 (we_call (wn_def (by k_is) (by kpf_close) (by decide)) (wf_def (by k_is)) (by kpf_close) (by isplit) (wc_plain hX hH (fun σ => hcon _ _) ?_ rfl rfl) rfl (fun _ => rfl)) (fun _ => rfl) (fun _ => rfl)
  intro _ _ hP
  induction hP with | mk d u1 u2 c4 oc4 c5 oc5 hlt h => ?_
  refine ⟨d, _, _, rfl, .head _, wb_local (by kpf_close) (wb_local (by kpf_close) (ws_retE (we_tuple (by kpf_close) (by isplit) rfl fun d2 σ2 hlt2 => ?_)))⟩
  exact dv_ret h hlt2
theorem idivneg_n {led : Led} {c4 c5 : Addr} {a b : Int} {t1 t2 : Tok} (hD : DivIn c4 c5 led) (ha : (0 ≤ -a ∧ Builtin.Int.intBits (-a) ≤ 80) ∨ (-a < 0 ∧ Builtin.Int.intBits (Builtin.bitNot (-a)) ≤ 80)) (hb : 1 < -b ∧ -b < 2 ^ 19) :
    Con w p loose mean mg mb (.ref 70) [.int a t1, .int b t2] [] 116 5300 led (fun r n' => ∃ d u1 u2, r = .ref d ∧ n' = (d, tupO [.int (a.fdiv b) u1, .int (a.fmod b) u2]) :: led ∧ (∀ p ∈ led, p.1 < d)) := div_in hD fun nw h1 h2 h3 => idivC_n ha hb h1 h2 h3
theorem idiv0_n {rest : Led} {a b : Int} {t1 t2 : Tok} (ha : -2 ^ 79 ≤ a ∧ a < 2 ^ 79) (hb : 1 < b ∧ b < 2 ^ 19) (hoff : ∀ p ∈ rest, p.1 ≠ 44 ∧ p.1 ≠ 51) (hno : ∀ q ∈ rest, NoCode q.2) :
    Con w p loose mean mg mb (.ref 70) [.int a t1, .int b t2] [] 116 5300 ((44, tabObj #[]) :: (51, tabObj #[]) :: rest) (fun r n' => ∃ d u1 u2 c4 oc4 c5 oc5, r = .ref d ∧ n' = (d, tupO [.int (a.fdiv b) u1, .int (a.fmod b) u2]) :: (44, T4 c4) :: (51, T5 c5) :: (c4, oc4) :: (c5, oc5) :: rest ∧ ((∃ v t, oc4.data = .fields v ∧ v[1]? = some (.str (Str.ofString "_int2digits.<locals>.inner") t)) ∧ ∃ v t, oc5.data = .fields v ∧ v[1]? = some (.str (Str.ofString "_digits2int.<locals>.inner") t)) ∧ (∀ q ∈ rest, q.1 < c4) ∧ (∀ q ∈ rest, q.1 < c5) ∧ (∀ q ∈ rest, q.1 < d) ∧ @LT.lt Nat _ 51 d ∧ @LT.lt Nat _ 44 d) := by
  refine ((idivAB (bits80 ha) hb hoff (.inl rfl) (.inl rfl)).mono (by decide) (by decide)).post (fun _ h => h) fun r n' P => ?_
  induction P with | mk d u1 u2 c4 oc4 c5 oc5 hlt h => ?_
  obtain ⟨⟨v4, tc4, h4, h4'⟩, ⟨v5, tc5, h5, h5'⟩, _, _, _, _, m4, m5⟩ := h
  exact ⟨_, fun _ h => h, d, u1, u2, c4, oc4, c5, oc5, rfl, rfl, ⟨⟨v4, tc4, h4, h4'⟩, v5, tc5, h5, h5'⟩, m4.resolve_left fun h => hno _ h v4 h4 _ _ h4', m5.resolve_left fun h => hno _ h v5 h5 _ _ h5', fun q hq => hlt q (.tail _ (.tail _ hq)), hlt _ (.tail _ (.head _)), hlt _ (.head _)⟩
end
end
section
example : PySem.Challenge.rw_uj0005_01.row.prog = PySem.Challenge.rw_uj0005_01.row.prog ∧ hd.heap_1 = hd.heap_1 := by
  k_fill
  exact ⟨rfl, rfl⟩
section
variable {w : World} {p : Program} {loose : List Str} {mean : ExcName → Option Value} {mg mb : Str → Option Value} {D U : Nat}
variable {X : Cx w p loose mean mg mb D U} {cs : Scope} {Q : FinS → Prop} {mc m : Loc} {N : Led} {en : Env} {f : Str → Option Value} {lk : Str → Option VC}
abbrev unitM : Int := 17550 * 81 ^ Int.toNat 8
theorem Nat.ble_trans' {U : Nat} (h : Nat.ble 5300 U = true) : Nat.ble 64 U = true := Nat.ble_eq.mpr (Nat.le_trans (by decide) (Nat.ble_eq.mp h))
theorem code_cl : ∀ {cl : List (Str × Addr)} {co : Led}, CoOK cl mc co → ∀ q ∈ co, NoCode q.2
  | [], co, c => by rw [show co = [] from c]; exact fun q hq => nomatch hq
  | _ :: cl, _, ⟨o, v, co', e, h1, _, h3⟩ => by
    subst e
    exact List.forall_mem_cons.mpr ⟨NoCode.cell h1, code_cl h3⟩
theorem code_hid (hH : X.hid = []) {co : Led} (h : HidOK X mc N co) : ∀ q ∈ co, NoCode q.2 := by
  obtain ⟨cc, rfl, c1⟩ := h.h
  rw [hH, List.append_nil]
  exact code_cl c1
structure DivF (c4 : Addr) (oc4 : Obj) (c5 : Addr) (oc5 : Obj) : Prop where
  k4 : ∃ v t, oc4.data = .fields v ∧ v[1]? = some (.str (Str.ofString "_int2digits.<locals>.inner") t)
  k5 : ∃ v t, oc5.data = .fields v ∧ v[1]? = some (.str (Str.ofString "_digits2int.<locals>.inner") t)
  g4 : @LT.lt Nat _ 195 c4
  g5 : @LT.lt Nat _ 195 c5
  ne : c4 ≠ c5
theorem wc_div0 (hH : X.hid = []) (hD : Nat.ble 116 D = true) (hU : Nat.ble 5300 U = true) {a b : Int} (ha : -2 ^ 79 ≤ a ∧ a < 2 ^ 79) (hb : 1 < b ∧ b < 2 ^ 19) (hlt : ∀ q ∈ N, q.1 ≠ 44 ∧ q.1 ≠ 51) (hno : ∀ q ∈ N, NoCode q.2) (h195 : ∃ o, (195, o) ∈ N) {Q : VC → Led → Prop}
    (h : ∀ d u v c4 oc4 c5 oc5, (∀ q ∈ N, q.1 < c4) → (∀ q ∈ N, q.1 < c5) → DivF c4 oc4 c5 oc5 → Q (.val (.ref d)) ((d, tupO [.int (a.fdiv b) u, .int (a.fmod b) v]) :: (44, T4 c4) :: (51, T5 c5) :: (c4, oc4) :: (c5, oc5) :: N)) :
    WC X cs mc ((44, tabObj #[]) :: (51, tabObj #[]) :: N) (.ref 70) [.int a, .int b] Q := by
  refine wc_con (fun σ co hc => idiv0_n (rest := N ++ co) ha hb (fun q hq => ?_) (fun q hq => (List.mem_append.mp hq).elim (hno q) (code_hid hH hc q))) ?_ hD hU
  · rcases List.mem_append.mp hq with hq | hq
    · exact hlt q hq
    · exact ⟨fun e => hc.o _ (.head _) q hq e.symm, fun e => hc.o _ (.tail _ (.head _)) q hq e.symm⟩
  · rintro co v N2 ⟨d, u1, u2, c4, oc4, c5, oc5, rfl, rfl, hcd, h4, h5, hd, h51, h44⟩ hcn
    obtain ⟨⟨v4, t4, e4, f4⟩, v5, t5, e5, f5⟩ := hcd
    have r4 : ∀ q ∈ N, q.1 < c4 := fun q hq => h4 q (List.mem_append_left _ hq)
    obtain ⟨o195, m195⟩ := h195
    have g4 : @LT.lt Nat _ 195 c4 := h4 (195, o195) (List.mem_append_left _ m195)
    have g5 : @LT.lt Nat _ 195 c5 := h5 (195, o195) (List.mem_append_left _ m195)
    have hD : DivF c4 oc4 c5 oc5 := by
      refine ⟨⟨v4, t4, e4, f4⟩, ⟨v5, t5, e5, f5⟩, g4, g5, fun e => ?_⟩
      have := hcn c4 oc4 oc5 (.tail _ (.tail _ (.tail _ (.head _)))) (e ▸ .tail _ (.tail _ (.tail _ (.tail _ (.head _)))))
      subst this
      rw [e4] at e5
      injection e5 with e5
      subst e5
      rw [f4] at f5
      injection f5 with f5
      injection f5 with f5
      exact absurd f5 (by decide +kernel)
    refine ⟨(d, _) :: (44, T4 c4) :: (51, T5 c5) :: (c4, oc4) :: (c5, oc5) :: N, fun _ h => h, ?_, h d u1 u2 c4 oc4 c5 oc5 r4 (fun q hq => h5 q (List.mem_append_left _ hq)) hD⟩
    refine List.forall_mem_cons.mpr ⟨.inr fun r hr => Nat.ne_of_gt (hd r (List.mem_append_right _ hr)), List.forall_mem_cons.mpr ⟨.inl ⟨_, .head _⟩, List.forall_mem_cons.mpr ⟨.inl ⟨_, .tail _ (.head _)⟩, List.forall_mem_cons.mpr ⟨.inr fun r hr => Nat.ne_of_gt (h4 r (List.mem_append_right _ hr)), List.forall_mem_cons.mpr ⟨.inr fun r hr => Nat.ne_of_gt (h5 r (List.mem_append_right _ hr)), fun q hq => .inl ⟨_, .tail _ (.tail _ hq)⟩⟩⟩⟩⟩⟩
theorem lw2 (hX : LawCl X) (hH : X.hid = []) (hD : Nat.ble 116 D = true) (hU : Nat.ble 5300 U = true) {lr ls : Addr} {vr vS : List Value} {nS : List Int} {nr : Nat} (hS : X.h₀.IsList ls vS.toArray) (hI : IntsAre vS nS) (hl : nS.length ≤ 63) (hlt : ∀ q ∈ N, q.1 ≠ 44 ∧ q.1 ≠ 51) (hno : ∀ q ∈ N, NoCode q.2) (h195 : ∃ o, (195, o) ∈ N)
    (go : ∀ tot c4 oc4 c5 oc5, (-2 ^ 79 ≤ tot ∧ tot < 2 ^ 79) → DivF c4 oc4 c5 oc5 → (∀ q ∈ N, q.1 < c4) → (∀ q ∈ N, q.1 < c5) → WS ((((X.hide 44 (T4 c4)).hide 51 (T5 c5)).hide c4 oc4).hide c5 oc5) lawScope (Unh c5 oc5 (Unh c4 oc4 (Unh 51 (T5 c5) (Unh 44 (T4 c4) Q)))) [("writing", .int (tot.fdiv 17550)), ("row", .val (.ref lr))] [("number", .int (tot.fmod 17550)), ("unit", .int unitM), ("script", .val (.ref ls))] N (lawBody.drop 6)) :
    WS X lawScope Q [("row", .val (.ref lr))] [("script", .val (.ref ls))] ((44, tabObj #[]) :: (51, tabObj #[]) :: N) (lawBody.drop 2) := by
  tbn_conj
  refine ws_setE (by with_unfolding_all rfl) rfl (fun hk τ ρ => ge_bin (ge_bin (ge_bin (ge_pure (lk_F hk) (by with_unfolding_all rfl) (by isplit) ?_))))
  refine ge_call hk (wn_builtin (by k_is) (by with_unfolding_all rfl) (by with_unfolding_all rfl) (by decide) (by decide) hk) wf_builtin rfl (ga_cons (ge_step (lk_F hk) (by with_unfolding_all rfl) (by isplit) (by with_unfolding_all rfl) (by isplit) (by with_unfolding_all rfl) (by isplit) (by decide) hS hI hl ?_ (fun _ _ => ⟨_, by with_unfolding_all rfl⟩)) rfl) (fun _ => rfl)
  intro d ws ms hw hm hlt2
  refine ga_nil (wc_sum (.head _) hw ?_)
  refine gb_pure (by with_unfolding_all rfl) (by isplit) (ge_pure (lk_F hk) (by with_unfolding_all rfl) (by isplit) ?_)
  refine gb_pure (by with_unfolding_all rfl) (by isplit) (ge_pure (lk_F hk) (by with_unfolding_all rfl) (by isplit) ?_)
  refine gb_pure (by with_unfolding_all rfl) (by isplit) ?_
  obtain ⟨ht1, ht2⟩ := tot_bounds (851771 + 41 * (17550 * 81 ^ Int.toNat 8) + ms.sum)
  generalize (851771 + 41 * (17550 * 81 ^ Int.toNat 8) + ms.sum).fmod (81 * (17550 * 81 ^ Int.toNat 8)) - 40 * (17550 * 81 ^ Int.toNat 8) = tot at *
  refine ws_led (N' := (44, tabObj #[]) :: (51, tabObj #[]) :: N) (fun _ h => .tail _ h) ?_
  refine ws_put2 (we_call (wn_def (by k_is) (by with_unfolding_all rfl) (by decide)) (wf_def (by k_is)) (by with_unfolding_all rfl) (by isplit) (wc_div0 hH hD hU ⟨ht1, ht2⟩ (by decide) hlt hno h195 ?_) rfl (fun _ => rfl)) (fun _ => rfl) (fun _ => rfl)
  intro d u v c4 oc4 c5 oc5 h4 h5 hDI
  refine ⟨d, _, _, rfl, .head _, wb_cell (by with_unfolding_all rfl) (hX _ (by decide +kernel)) (wb_local (by with_unfolding_all rfl) ?_)⟩
  refine ws_ifF (wt_cmpE (fun hk τ ρ => ge_list (lk_F hk) (by with_unfolding_all rfl) (by isplit) rfl (fun a σ _ => ge_list (lk_F hk) (by with_unfolding_all rfl) (by isplit) rfl (fun b ς _ => ?_))) (by with_unfolding_all rfl))
  refine gc_ne_ints (.tail _ (.head _)) (.head _) (.cons _ _ (.cons _ _ .nil)) (.cons _ _ (.cons _ _ .nil)) (Nat.ble_trans' hU) ⟨rfl, ws_nil ?_⟩
  refine ws_weak (mc' := [("writing", .int (tot.fdiv 17550)), ("row", .val (.ref lr))]) (m' := [("number", .int (tot.fmod 17550)), ("unit", .int unitM), ("script", .val (.ref ls))]) (N' := (44, T4 c4) :: (51, T5 c5) :: (c4, oc4) :: (c5, oc5) :: N) (List.forall_mem_cons.mpr ⟨.inr rfl, List.forall_mem_cons.mpr ⟨.inr rfl, List.forall_mem_nil _⟩⟩) (List.forall_mem_cons.mpr ⟨.inr rfl, List.forall_mem_cons.mpr ⟨.inr rfl, List.forall_mem_cons.mpr ⟨.inr rfl, List.forall_mem_nil _⟩⟩⟩) (fun q hq => .tail _ (.tail _ (.tail _ hq))) ?_
  have g4 := hDI.g4
  have g5 := hDI.g5
  refine ws_hide (List.forall_mem_cons.mpr ⟨(by decide : (51 : Nat) ≠ 44), List.forall_mem_cons.mpr ⟨Nat.ne_of_gt (Nat.lt_trans (by decide) g4), List.forall_mem_cons.mpr ⟨Nat.ne_of_gt (Nat.lt_trans (by decide) g5), fun q hq => (hlt q hq).1⟩⟩⟩) ?_
  refine ws_hide (List.forall_mem_cons.mpr ⟨Nat.ne_of_gt (Nat.lt_trans (by decide) g4), List.forall_mem_cons.mpr ⟨Nat.ne_of_gt (Nat.lt_trans (by decide) g5), fun q hq => (hlt q hq).2⟩⟩) ?_
  refine ws_hide (List.forall_mem_cons.mpr ⟨Ne.symm hDI.ne, fun q hq => Nat.ne_of_lt (h4 q hq)⟩) ?_
  refine ws_hide (fun q hq => Nat.ne_of_lt (h5 q hq)) ?_
  exact go tot c4 oc4 c5 oc5 ⟨ht1, ht2⟩ hDI h4 h5
end
end
section
example : PySem.Challenge.rw_uj0005_01.row.prog = PySem.Challenge.rw_uj0005_01.row.prog ∧ hd.heap_1 = hd.heap_1 := by
  k_fill
  exact ⟨rfl, rfl⟩
section
variable {w : World} {p : Program} {loose : List Str} {mean : ExcName → Option Value} {mg mb : Str → Option Value} {D U : Nat}
variable {X : Cx w p loose mean mg mb D U} {cs : Scope} {Q : FinS → Prop} {mc m : Loc} {N : Led} {en : Env} {f : Str → Option Value} {lk : Str → Option VC}
set_option genInjectivity false in
set_option genSizeOf false in
/-- what names a lexer -/
structure Lex where
  a1 : Int
  a2 : Int
  a3 : Int
  a4 : Int
  k1 : Tok
  k2 : Tok
  k3 : Tok
  k4 : Tok
  tw : Tok
  D : Addr
  f2 : Addr
  c2 : Addr
  C : Addr
  dx : Addr
  x : Addr
  f1 : Addr
  ds : Addr
  pb : Addr
  o2 : Obj
  oc2 : Obj
  oC : Obj
  o1 : Obj
  oD : Obj
abbrev Lex.dct (L : Lex) (n : Int) (tn : Tok) : Obj := lexD L.a1 L.a2 L.a3 L.a4 L.k1 L.k2 L.k3 L.k4 n tn L.f1 L.tw L.pb
def Lex.hd (L : Lex) (vs : List Value) (k : Nat) (n : Int) (tn : Tok) : Led := [(L.D, lsO vs k), (L.f2, L.o2), (L.c2, L.oc2), (L.C, L.oC), (L.dx, L.dct n tn), (L.x, instObj 144 L.dx), (L.f1, L.o1), (L.ds, L.oD)]
structure Lex.Ok (w : World) (p : Program) (loose : List Str) (mean : ExcName → Option Value) (mg mb : Str → Option Value) (L : Lex) : Prop where
  ok : LexOk w p loose mean mg mb L.D L.f2 L.c2 L.C L.dx L.x L.f1 L.ds L.o2 L.oc2 L.oC L.o1 L.oD
  ord : LexOrd L.D L.f2 L.c2 L.C L.dx L.x L.f1 L.ds L.pb
theorem Lex.hkeys {L : Lex} {vs vs' : List Value} {k k' : Nat} {n n' : Int} {tn tn' : Tok} {A A' : Led} (h : ∀ q ∈ A, ∃ o, (q.1, o) ∈ A') : ∀ q ∈ L.hd vs k n tn ++ A, ∃ o, (q.1, o) ∈ L.hd vs' k' n' tn' ++ A' := by
  intro q hq
  rcases List.mem_append.mp hq with hq | hq
  · have h1 : q.1 ∈ (L.hd vs k n tn).map (·.1) := List.mem_map_of_mem hq
    obtain ⟨r, hr, e⟩ := List.mem_map.mp (show q.1 ∈ (L.hd vs' k' n' tn').map (·.1) from h1)
    exact ⟨r.2, List.mem_append_left _ (e ▸ hr)⟩
  · obtain ⟨o, ho⟩ := h q hq
    exact ⟨o, List.mem_append_right _ ho⟩
theorem Lex.hmem {L : Lex} {vs : List Value} {k : Nat} {n : Int} {tn : Tok} {A : Led} {q : Addr × Obj} (h : q ∈ A) : q ∈ L.hd vs k n tn ++ A := List.mem_append_right _ h
theorem Lex.mx {L : Lex} {vs : List Value} {k : Nat} {n : Int} {tn : Tok} {A : Led} : (L.x, instObj 144 L.dx) ∈ L.hd vs k n tn ++ A := .tail _ (.tail _ (.tail _ (.tail _ (.tail _ (.head _)))))
theorem Lex.mdx {L : Lex} {vs : List Value} {k : Nat} {n : Int} {tn : Tok} {A : Led} : (L.dx, L.dct n tn) ∈ L.hd vs k n tn ++ A := .tail _ (.tail _ (.tail _ (.tail _ (.head _))))
theorem mem_swap3 {q : Addr × Obj} {A B C : Led} (h : q ∈ A ++ (B ++ C)) : q ∈ B ++ (A ++ C) := mem_swap A B C h
theorem Lex.upd {L : Lex} {vs : List Value} {k : Nat} {n m : Int} {tn tm : Tok} {A : Led} (hn : LexNe L.D L.f2 L.c2 L.C L.dx L.x L.f1 L.ds) (hA : ∀ q ∈ A, q.1 ≠ L.dx) : Upd L.dx (L.dct n tn) (L.dct m tm) (L.hd vs k n tn ++ A) (L.hd vs k m tm ++ A) := by
  obtain ⟨⟨n1, n2, n3, n4⟩, n5, n6, n7, n8, n9, n10⟩ := hn
  exact .tail n1 (.tail (Ne.symm n5) (.tail (Ne.symm n6) (.tail (Ne.symm n7) (.head (List.forall_mem_cons.mpr ⟨Ne.symm n8, List.forall_mem_cons.mpr ⟨Ne.symm n9, List.forall_mem_cons.mpr ⟨Ne.symm n10, hA⟩⟩⟩)))))
def GNx (X : Cx w p loose mean mg mb D U) (cs : Scope) (mc : Loc) (N : Led) (I : Addr) (P : Option VC → Led → Prop) : Prop :=
  ∀ f h t E (Qv : Option Value → Shared → Prop), At X f mc N h → (∀ c k N' h' t', At X f mc N' h' → P (some c) N' → Qv (some (c.at k)) (X.s h' t')) → (∀ N' h' t', At X f mc N' h' → P none N' → Qv none (X.s h' t')) → wpAny X.M (X.A cs) (pyNext (.ref I)) Qv E (X.s h t)
inductive LpG (X : Cx w p loose mean mg mb D U) (Inv : Nat → Loc → Loc → Led → Prop) : Nat → Shared → Prop
  | mk (z : Nat) (mc m : Loc) (N : Led) (h : Heap) (t : Nat) (τ : Str → Nat) (ρ : Str → Option Value) (a : At X (m.at τ ρ) mc N h) (q : Inv z mc m N) : LpG X Inv z (X.s h t)
inductive TurnG (X : Cx w p loose mean mg mb D U) (cs : Scope) (Q : FinS → Prop) (mc m : Loc) (x : Str) (body : List Stmt) (J : Loc → Loc → Led → Prop) : Option VC → Led → Prop
  | next (c : VC) (N : Led) (h : WB X cs mc m N x c fun mc' m' => WS X cs (Turn Q J) mc' m' N body) : TurnG X cs Q mc m x body J (some c) N
  | done (N : Led) (h : Q (.next mc m N)) : TurnG X cs Q mc m x body J none N
theorem w_forG {x : Str} {px pos : Pos} {iter : Expr} {body : List Stmt} {I : Addr} {z : Nat} {ps : List Prop} (Inv : Nat → Loc → Loc → Led → Prop) (hi : pe cs mc m iter = some (.val (.ref I), ps)) (hp : Alls ps) (hf : ∀ en x, foldedSetIterable iter en x = pure x)
    (hit : ∀ f h t E Q, At X f mc N h → Q (.ref I) (X.s h t) → wpAny X.M (X.A cs) (pyIter (.ref I)) Q E (X.s h t)) (h0 : Inv z mc m N)
    (turn : ∀ z mc m N, Inv z mc m N → GNx X cs mc N I (TurnG X cs Q mc m x body fun mc m N => ∃ z', z' < z ∧ Inv z' mc m N)) : W1 X cs Q mc m N (.For (.Name x px) iter body [] pos) := by
  intro hk τ ρ hp' t E a
  refine wpAny_For (pev_ok (lk_F hk) a 12 _ hi hp fun _ t1 => hit _ _ _ _ _ a ?_) (hf _)
  refine codeAny_forLoop (LpG X Inv) ?_ z (.mk _ mc m N hp' t1 τ ρ a h0)
  rintro z _ ⟨mc, m, N, h, t, τ, ρ, a, hI⟩
  refine turn z mc m N hI _ h t _ _ a (fun c tk N' h' t' a' q => ?_) (fun N' h' t' a' q => ?_)
  · obtain ⟨_, _, hb⟩ := q
    refine assign_Name (wpAny_mono (hb hk τ ρ tk h' t' _ a') ?_ fun _ _ x => x)
    refine BP.el ?_; intro mc' m' h3 t3 τ' ρ' a3 hS
    refine wpAny_mono (hS hk τ' ρ' h3 t3 _ a3) ?_ fun _ _ x => x
    rintro f s hs
    induction hs with
    | next mc' m' N' h4 t4 τ' ρ' a4 hQ => obtain ⟨z', hz, hI'⟩ := hQ; exact ⟨z', hz, .mk _ mc' m' N' h4 t4 τ' ρ' a4 hI'⟩
    | cont mc' m' N' h4 t4 τ' ρ' a4 hQ => obtain ⟨z', hz, hI'⟩ := hQ; exact ⟨z', hz, .mk _ mc' m' N' h4 t4 τ' ρ' a4 hI'⟩
    | brk mc' m' N' h4 t4 τ' ρ' a4 hQ => exact .next mc' m' N' h4 t4 τ' ρ' a4 hQ
    | ret c k' mc' f N' h4 t4 a4 hQ => exact .ret c k' mc' f N' h4 t4 a4 hQ
  · cases q with
    | done _ hq => exact wpAny_execs_nil (.next mc m N' h' t' τ ρ a' hq)
end
end
section
example : PySem.Challenge.rw_uj0005_01.row.prog = PySem.Challenge.rw_uj0005_01.row.prog ∧ hd.heap_1 = hd.heap_1 := by
  k_fill
  exact ⟨rfl, rfl⟩
section
variable {w : World} {p : Program} {loose : List Str} {mean : ExcName → Option Value} {mg mb : Str → Option Value} {D U : Nat}
variable {X : Cx w p loose mean mg mb D U} {cs : Scope} {Q : FinS → Prop} {mc m : Loc} {N : Led} {en : Env} {f : Str → Option Value} {lk : Str → Option VC}
theorem w_while {test : Expr} {body : List Stmt} {pos : Pos} {z : Nat} (Inv : Nat → Loc → Loc → Led → Prop) (h0 : Inv z mc m N) (turn : ∀ z mc m N, Inv z mc m N → WT X cs mc m N test fun b N' => if b then WS X cs (Turn Q fun mc m N => ∃ z', z' < z ∧ Inv z' mc m N) mc m N' body else Q (.next mc m N')) : W1 X cs Q mc m N (.While test body [] pos) := by
  intro hk τ ρ hp t E a
  refine wpAny_While (codeAny_whileLoop (LpG X Inv) ?_ z (.mk _ mc m N hp t τ ρ a h0))
  rintro z _ ⟨mc, m, N, h, t, τ, ρ, a, hI⟩
  refine wpAny_mono (turn z mc m N hI hk τ ρ h t _ a) (TP.el fun b N' h' t' a' q => ?_) fun _ _ x => x
  cases b
  · exact wpAny_execs_nil (.next mc m N' h' t' τ ρ a' q)
  · refine wpAny_mono (q hk τ ρ h' t' _ a') ?_ fun _ _ x => x
    intro fl s hs
    induction hs with
    | next mc' m' N' h4 t4 τ' ρ' a4 hQ => obtain ⟨z', hz, hI'⟩ := hQ; exact ⟨z', hz, .mk _ mc' m' N' h4 t4 τ' ρ' a4 hI'⟩
    | cont mc' m' N' h4 t4 τ' ρ' a4 hQ => obtain ⟨z', hz, hI'⟩ := hQ; exact ⟨z', hz, .mk _ mc' m' N' h4 t4 τ' ρ' a4 hI'⟩
    | brk mc' m' N' h4 t4 τ' ρ' a4 hQ => exact .next mc' m' N' h4 t4 τ' ρ' a4 hQ
    | ret c k' mc' f N' h4 t4 a4 hQ => exact .ret c k' mc' f N' h4 t4 a4 hQ
theorem wc_len {l : Addr} {vs : List Value} {n : Nat} {Q : VC → Led → Prop} (hm : (l, lsO vs n) ∈ N) (hz : vs.length ≤ sizeLine) (h : Q (.int (vs.length : Nat)) N) : WC X cs mc N (.builtin "len") [.val (.ref l)] Q :=
  fun _ _ _ hp t _ a => len_lst (s := X.s hp t) a.N hm hz fun t' tk => .mk (.int _) t' N hp tk a h
theorem ge_callL {x : Str} {kf : Addr} {oc : Value} {od : Option Addr} {fd : FuncData} {sl : Array (Option Value)} {e0 : Expr} {es : List Expr} {p1 p2 : Pos} {ps : List Prop} {Q : VC → Led → Prop} (hk : cs.kind = .function) (hlk : Lk X cs en f mc lk) (ho : pev lk 12 (.Name x p1) = some (.val (.ref kf), ps)) (hp : Alls ps) (hfn : (kf, (⟨oc, od, .func fd, sl⟩ : Obj)) ∈ N) (hs : noStars (e0 :: es) = true) (H : GA X cs en f mc N (e0 :: es) fun cls N' => N' = N ∧ WC X cs mc N (.ref kf) cls Q)
    (hc : ∀ en : Env, eval (.Call (.Name x p1) (e0 :: es) [] p2) en = (do callWith p2 (← eval (.Name x p1) en) [] (backTo p2 (starEach (e0 :: es) en)) (backToKw p2 (keywordEach [] en)))) : GE X cs en f mc N (.Call (.Name x p1) (e0 :: es) [] p2) Q := by
  intro h t E a
  have h' := Bool.and_eq_true_iff.mp hs
  refine Call_ (pev_ok hlk a 12 _ ho hp fun _ t1 => ?_) (hc _)
  refine callWith_F (FnAt.of a.N hfn) (wpAny_mono (H p2 h t1 E a) ?_ fun _ _ x => x) (noStar_ok h'.1 _ _) (plain_ok h'.2 _ _)
  refine AP.el ?_
  intro cls σ N2 h2 t2 a2 q
  obtain ⟨rfl, hC⟩ := q
  exact ⟨FnAt.of a2.N hfn, hC hk σ _ h2 t2 E a2⟩
theorem wt_weak {e : Expr} {m' : Loc} {Q : Bool → Led → Prop} (hm : Sub m' m) (h : WT X cs mc m' N e Q) : WT X cs mc m N e Q := by
  intro hk τ ρ hp t E a
  obtain ⟨τ', ρ', e⟩ := loc_le (τ := τ) (ρ := ρ) hm
  rw [e] at a ⊢
  exact h hk τ' ρ' hp t E a
theorem lt63 {k : Nat} (h : k < 2 ^ 20) : (k : Int) < 2 ^ 63 := Int.lt_trans (Int.ofNat_lt.mpr h) (by decide)
theorem getD_at {ns : List Int} {k : Int} (h0 : 0 ≤ k) (h1 : k < ns.length) : ns[k.toNat]? = some (ns.getD k.toNat 0) := by
  have : k.toNat < ns.length := by omega
  rw [List.getD_eq_getElem?_getD, List.getElem?_eq_getElem this]
  rfl
theorem bs_hi {lo mid hi : Int} (h1 : mid < hi) (h0 : lo ≤ mid) : (mid - lo).toNat < (hi - lo).toNat := by omega
theorem bs_lo {lo mid hi : Int} (h1 : mid < hi) (h0 : lo ≤ mid) : (hi - (mid + 1)).toNat < (hi - lo).toNat := by omega
inductive BsI (J : Int → Int → Prop) (m0 : Loc) (N0 : Led) : Nat → Loc → Loc → Led → Prop
  | mk (m : Loc) (lo hi : Int) (h : J lo hi) (hm : Sub (("hi", .int hi) :: ("lo", .int lo) :: m0) m) : BsI J m0 N0 (hi - lo).toNat [] m N0
abbrev mB (l : Addr) (x : Int) (kv : Value) : Loc := [("key", .val kv), ("hi", .val .none), ("lo", .int 0), ("x", .int x), ("a", .val (.ref l))]
abbrev BisP (ns : List Int) (x : Int) (news : Led) (r : Value) (n' : Led) : Prop := (∃ k t, r = .int k t ∧ BR ns x k k) ∧ n' = news
set_option maxHeartbeats 1000000 in
theorem bisr_w {news : Led} {l : Addr} {vs : List Value} {ns : List Int} {n : Nat} {x : Int} (hl : (l, lsO vs n) ∈ news) (hi : IntsAre vs ns) (hlen : ns.length < 2 ^ 20) (hs : Sorted ns) (hm : Sub (mB l x .none) m) : WS X (dScope 13) (Done (BisP ns x news)) [] m news (dBody 13) := by
  refine ws_weak .nil hm (fun _ h => h) ?_
  refine ws_ifF (wt_cmp (by kpf_close) (by isplit) ⟨rfl, ws_nil ?_⟩)
  refine ws_ifT (wt_cmp (by kpf_close) (by isplit) ⟨rfl, ?_⟩)
  refine ws_setE (by kpf_close) rfl (we_call (wn_builtin (by k_is) (by kpf_close) (by kpf_close) (by decide) (by decide)) wf_builtin (by kpf_close) (by isplit) (wc_len hl (fitsSz hi hlen) (ws_nil ?_)) rfl (fun _ => rfl))
  refine ws_ifT (wt_cmp (by kpf_close) (by isplit) ⟨rfl, ?_⟩)
  refine ws_cons (w_while (BsI (BR ns x) [("x", .int x), ("a", .val (.ref l))] news) (.mk _ 0 vs.length (by rw [hi.length]; exact BR.start ns x) (.of (.inl rfl) (.of (.inl rfl) (.of (.inl rfl) (.of (.inl rfl) .nil))))) ?turn)
  intro z mc m N hI
  induction hI with | mk m lo hi' hB hm => ?_
  refine wt_weak hm (wt_cmp (by kpf_close) (by isplit) ?_)
  by_cases hlt : lo < hi'
  · rw [decide_eq_true hlt]
    obtain ⟨b0, b1, b2, b3⟩ := hB.mid hlt
    refine ws_weak .nil hm (fun _ h => h) ?_
    tbn_conj
    refine ws_cons (w_if (wt_cmpE (fun hk τ ρ => ge_pure (lk_F hk) (by kpf_close) (by isplit) (ge_itemI (lk_F hk) (by kpf_close) (by isplit) (by kpf_close) (by isplit) hl hi b0 (Int.lt_trans b1 (lt63 hlen)) (getD_at b0 b1) (gc_pure rfl ?_) (fun _ => by kpf_close))) rfl))
    by_cases hx : x < ns.getD ((lo + hi').fdiv 2).toNat 0
    · rw [decide_eq_true hx]
      tbn_conj
      exact ws_nil (ws_nil ⟨_, bs_hi b3 b2, .mk _ lo _ (hB.toHi hs hlt hx) (.of (.inl rfl) (.of (.inl rfl) (.of (.inl rfl) (.of (.inl rfl) .nil))))⟩)
    · rw [decide_eq_false hx]
      tbn_conj
      exact ws_nil (ws_nil ⟨_, bs_lo b3 b2, .mk _ _ hi' (hB.toLo hs hlt hx) (.of (.inl rfl) (.of (.inl rfl) (.of (.inl rfl) (.of (.inl rfl) .nil))))⟩)
  · rw [decide_eq_false hlt]
    exact ws_nil (ws_weak .nil hm (fun _ h => h) (ws_ret (by kpf_close) (by isplit) ⟨news, fun _ h => h, fun k => ⟨⟨lo, k, rfl, hB.done hlt⟩, rfl⟩⟩))
set_option maxHeartbeats 1000000 in
theorem bisl_w {news : Led} {l : Addr} {vs : List Value} {ns : List Int} {n : Nat} {x : Int} (hl : (l, lsO vs n) ∈ news) (hi : IntsAre vs ns) (hlen : ns.length < 2 ^ 20) (hs : Sorted ns) (hm : Sub (mB l x .none) m) : WS X (dScope 15) (Done (BisP ns (x - 1) news)) [] m news (dBody 15) := by
  refine ws_weak .nil hm (fun _ h => h) ?_
  refine ws_ifF (wt_cmp (by kpf_close) (by isplit) ⟨rfl, ws_nil ?_⟩)
  refine ws_ifT (wt_cmp (by kpf_close) (by isplit) ⟨rfl, ?_⟩)
  refine ws_setE (by kpf_close) rfl (we_call (wn_builtin (by k_is) (by kpf_close) (by kpf_close) (by decide) (by decide)) wf_builtin (by kpf_close) (by isplit) (wc_len hl (fitsSz hi hlen) (ws_nil ?_)) rfl (fun _ => rfl))
  refine ws_ifT (wt_cmp (by kpf_close) (by isplit) ⟨rfl, ?_⟩)
  refine ws_cons (w_while (BsI (BR ns (x - 1)) [("x", .int x), ("a", .val (.ref l))] news) (.mk _ 0 vs.length (by rw [hi.length]; exact BR.start ns (x - 1)) (.of (.inl rfl) (.of (.inl rfl) (.of (.inl rfl) (.of (.inl rfl) .nil))))) ?turn)
  intro z mc m N hI
  induction hI with | mk m lo hi' hB hm => ?_
  refine wt_weak hm (wt_cmp (by kpf_close) (by isplit) ?_)
  by_cases hlt : lo < hi'
  · rw [decide_eq_true hlt]
    obtain ⟨b0, b1, b2, b3⟩ := hB.mid hlt
    refine ws_weak .nil hm (fun _ h => h) ?_
    tbn_conj
    refine ws_cons (w_if (wt_cmpE (fun hk τ ρ => ge_itemI (lk_F hk) (by kpf_close) (by isplit) (by kpf_close) (by isplit) hl hi b0 (Int.lt_trans b1 (lt63 hlen)) (getD_at b0 b1) (ge_pure (lk_F hk) (by kpf_close) (by isplit) (gc_pure rfl ?_)) (fun _ => by kpf_close)) rfl))
    by_cases hx : ns.getD ((lo + hi').fdiv 2).toNat 0 < x
    · rw [decide_eq_true hx]
      tbn_conj
      exact ws_nil (ws_nil ⟨_, bs_lo b3 b2, .mk _ _ hi' (hB.toLo' hs hlt hx) (.of (.inl rfl) (.of (.inl rfl) (.of (.inl rfl) (.of (.inl rfl) .nil))))⟩)
    · rw [decide_eq_false hx]
      tbn_conj
      exact ws_nil (ws_nil ⟨_, bs_hi b3 b2, .mk _ lo _ (hB.toHi' hs hlt hx) (.of (.inl rfl) (.of (.inl rfl) (.of (.inl rfl) (.of (.inl rfl) .nil))))⟩)
  · rw [decide_eq_false hlt]
    exact ws_nil (ws_weak .nil hm (fun _ h => h) (ws_ret (by kpf_close) (by isplit) ⟨news, fun _ h => h, fun k => ⟨⟨lo, k, rfl, hB.done hlt⟩, rfl⟩⟩))
theorem bisr4_n {news : Led} {l : Addr} {vs : List Value} {ns : List Int} {n : Nat} {x : Int} {t2 t3 : Tok} (hl : (l, lsO vs n) ∈ news) (hi : IntsAre vs ns) (hlen : ns.length < 2 ^ 20) (hs : Sorted ns) :
    Con w p loose mean mg mb (.ref 88) [.ref l, .int x t2, .int 0 t3, .none] [] 1 8 news (BisP ns x news) := by
  refine' con_def (D := 0) (U := 5) _ ?k6 ?k7 ?k9 ?kB ?km ?_ ?c2 ?c3 ?c4 ?c5
  case k6 => k_is
  case k7 => k_is
  case k9 => exact fun s hin => kp_binds hin fun _ => rfl
  case km => rfl
  case c5 => decide
  case kB => exact locs rfl
  case c2 => exact rfl
  case c3 => exact rfl
  case c4 => exact rfl
  intro X hX hH
  exact bisr_w hl hi hlen hs (.of (.inr rfl) (.of (.inr rfl) (.of (.inr rfl) (.of (.inr rfl) (.of (.inl rfl) .nil)))))
theorem bisl_n {news : Led} {l : Addr} {vs : List Value} {ns : List Int} {n : Nat} {x : Int} {t2 : Tok} (hl : (l, lsO vs n) ∈ news) (hi : IntsAre vs ns) (hlen : ns.length < 2 ^ 20) (hs : Sorted ns) :
    Con w p loose mean mg mb (.ref 106) [.ref l, .int x t2] [] 1 8 news (BisP ns (x - 1) news) := by
  refine' con_def (D := 0) (U := 5) _ ?k6 ?k7 ?k9 ?kB ?km ?_ ?c2 ?c3 ?c4 ?c5
  case k6 => k_is
  case k7 => k_is
  case k9 => exact fun s hin => kp_binds hin fun _ => rfl
  case km => rfl
  case c5 => decide
  case kB => exact locs rfl
  case c2 => exact rfl
  case c3 => exact rfl
  case c4 => exact rfl
  intro X hX hH
  exact bisl_w hl hi hlen hs (.of (.inr rfl) (.of (.inr rfl) (.of (.inr rfl) (.of (.inr rfl) (.of (.inl rfl) .nil)))))
theorem bisl4_n {news : Led} {l : Addr} {vs : List Value} {ns : List Int} {n : Nat} {x : Int} {t2 t3 : Tok} (hl : (l, lsO vs n) ∈ news) (hi : IntsAre vs ns) (hlen : ns.length < 2 ^ 20) (hs : Sorted ns) :
    Con w p loose mean mg mb (.ref 106) [.ref l, .int x t2, .int 0 t3, .none] [] 1 8 news (BisP ns (x - 1) news) := by
  refine' con_def (D := 0) (U := 5) _ ?k6 ?k7 ?k9 ?kB ?km ?_ ?c2 ?c3 ?c4 ?c5
  case k6 => k_is
  case k7 => k_is
  case k9 => exact fun s hin => kp_binds hin fun _ => rfl
  case km => rfl
  case c5 => decide
  case kB => exact locs rfl
  case c2 => exact rfl
  case c3 => exact rfl
  case c4 => exact rfl
  intro X hX hH
  exact bisl_w hl hi hlen hs (.of (.inr rfl) (.of (.inr rfl) (.of (.inr rfl) (.of (.inr rfl) (.of (.inl rfl) .nil)))))
end
end
section
example : PySem.Challenge.rw_uj0005_01.row.prog = PySem.Challenge.rw_uj0005_01.row.prog ∧ hd.heap_1 = hd.heap_1 := by
  k_fill
  exact ⟨rfl, rfl⟩
section
variable {w : World} {p : Program} {loose : List Str} {mean : ExcName → Option Value} {mg mb : Str → Option Value} {D U : Nat}
variable {X : Cx w p loose mean mg mb D U} {cs : Scope} {Q : FinS → Prop} {mc m : Loc} {N : Led} {en : Env} {f : Str → Option Value} {lk : Str → Option VC}
set_option maxHeartbeats 1000000 in
/-- by a key: what the key tells of the item at i is g of it -/
theorem bisrk_n {led : Led} {l kf : Addr} {oc : Value} {od : Option Addr} {fd : FuncData} {sl : Array (Option Value)} {vs : List Value} {ns : List Int} {n : Nat} {x : Int} {t2 : Tok} {g : Int → Int} {D U : Nat} (hkf : (kf, (⟨oc, od, .func fd, sl⟩ : Obj)) ∈ led) (hl : (l, lstO vs n) ∈ led) (hi : IntsAre vs ns) (hlen : ns.length < 2 ^ 20) (hs : Sorted (ns.map g))
    (hk : ∀ (i : Nat) (t : Tok), i < ns.length → Con w p loose mean mg mb (.ref kf) [.int (ns.getD i 0) t] [] D U led (fun r n' => (∃ t, r = .int (g (ns.getD i 0)) t) ∧ n' = led)) :
    Con w p loose mean mg mb (.ref 88) [.ref l, .int x t2] [(Str.ofString "key", .ref kf)] (D + 2) (U + 8) led (fun r n' => (∃ k t, r = .int k t ∧ BR (ns.map g) x k k) ∧ n' = led) := by
  refine' con_def (D := D + 1) (U := U + 5) _ ?k6 ?k7 ?k9 ?kB ?km ?_ ?c2 ?c3 ?c4 ?c5
  case k6 => k_is
  case k7 => k_is
  case k9 => exact fun s hin => kp_binds hin fun _ => rfl
  case km => rfl
  case c5 => decide
  case kB => exact locs rfl
  case c2 => exact rfl
  case c3 => exact rfl
  case c4 => exact rfl
  intro X hX hH
  refine ws_ifF (wt_cmp (by kpf_close) (by isplit) ⟨rfl, ws_nil ?_⟩)
  refine ws_ifT (wt_cmp (by kpf_close) (by isplit) ⟨rfl, ?_⟩)
  refine ws_setE (by kpf_close) rfl (we_call (wn_builtin (by k_is) (by kpf_close) (by kpf_close) (by decide) (by decide)) wf_builtin (by kpf_close) (by isplit) (wc_len hl (fitsSz hi hlen) (ws_nil ?_)) rfl (fun _ => rfl))
  refine ws_ifF (wt_cmp (by kpf_close) (by isplit) ⟨rfl, ?_⟩)
  refine ws_cons (w_while (BsI (BR (ns.map g) x) [("x", .int x), ("a", .val (.ref l)), ("key", .val (.ref kf))] led) (.mk _ 0 vs.length (by rw [hi.length]; exact BR.start' ns g x) (.of (.inl rfl) (.of (.inr rfl) (.of (.inr rfl) (.of (.inl rfl) (.of (.inl rfl) .nil)))))) ?turn)
  intro z mc m N hI
  induction hI with | mk m lo hi' hB hm => ?_
  refine wt_weak hm (wt_cmp (by kpf_close) (by isplit) ?_)
  by_cases hlt : lo < hi'
  · rw [decide_eq_true hlt]
    obtain ⟨b0, b1, b2, b3⟩ := hB.mid hlt
    rw [List.length_map] at b1
    have b4 : ((lo + hi').fdiv 2).toNat < ns.length := by omega
    refine ws_weak .nil hm (fun _ h => h) ?_
    tbn_conj
    refine ws_cons (w_if (wt_cmpE (fun hk' τ ρ => ge_pure (lk_F hk') (by kpf_close) (by isplit) (ge_callL hk' (lk_F hk') (by kpf_close) (by isplit) hkf rfl (ga_cons (ge_itemI (lk_F hk') (by kpf_close) (by isplit) (by kpf_close) (by isplit) hl hi b0 (Int.lt_trans b1 (lt63 hlen)) (getD_at b0 b1) (ga_nil ⟨rfl, wc_int (k := g (ns.getD ((lo + hi').fdiv 2).toNat 0)) (fun σ co hc => ?con) (Nat.ble_eq.mpr (Nat.le_add_right _ _)) (Nat.ble_eq.mpr (Nat.le_add_right _ _)) (gc_pure rfl ?_)⟩) (fun _ => by kpf_close)) rfl) (fun _ => rfl))) rfl))
    case con =>
      rw [hid_nil hX hH hc.h, List.append_nil]
      exact hk _ _ b4
    by_cases hx : x < g (ns.getD ((lo + hi').fdiv 2).toNat 0)
    · rw [decide_eq_true hx]
      tbn_conj
      exact ws_nil (ws_nil ⟨_, bs_hi b3 b2, .mk _ lo _ (hB.toHiM hs hlt hx) (.of (.inl rfl) (.of (.inl rfl) (.of (.inl rfl) (.of (.inl rfl) (.of (.inl rfl) .nil)))))⟩)
    · rw [decide_eq_false hx]
      tbn_conj
      exact ws_nil (ws_nil ⟨_, bs_lo b3 b2, .mk _ _ hi' (hB.toLoM hs hlt hx) (.of (.inl rfl) (.of (.inl rfl) (.of (.inl rfl) (.of (.inl rfl) (.of (.inl rfl) .nil)))))⟩)
  · rw [decide_eq_false hlt]
    exact ws_nil (ws_weak .nil hm (fun _ h => h) (ws_ret (by kpf_close) (by isplit) ⟨led, fun _ h => h, fun k => ⟨⟨lo, k, rfl, hB.done hlt⟩, rfl⟩⟩))
theorem wc_insert {l : Addr} {vs : List Value} {ns : List Int} {n : Nat} {k x : Int} {Q : VC → Led → Prop} (hoff : ∀ q ∈ N, q.1 ≠ l) (hi : IntsAre vs ns) (hlen : ns.length < 2 ^ 20 - 1) (h0 : 0 ≤ k) (h1 : k ≤ ns.length) (h : ∀ vs', IntsAre vs' (ns.take k.toNat ++ x :: ns.drop k.toNat) → Q (.val .none) ((l, lsO vs' (n + 1)) :: N)) : WC X cs mc ((l, lsO vs n) :: N) (.builtin "list.insert") [.val (.ref l), .int k, .int x] Q := by
  intro _ σ f hp t E a
  obtain ⟨co, c1, c4, c2, c3⟩ := a.C
  have hvl : vs.length = ns.length := hi.length
  exact kl_insert (s := X.s hp t) (y := .int x (σ 2)) a.F c2 (fitsIx h0 (by omega)) (kl_ins_nat vs _ h0 (by omega)) (upd_head hoff c3) (fitsSz hi (by omega)) fun h' F' N' => upd_at a.D c1 c4 c3 F' N' (h _ (ints_ins hi _ _ _))
abbrev InsP (ns : List Int) (x : Int) (l : Addr) (n : Nat) (news : Led) (r : Value) (n' : Led) : Prop := r = .none ∧ ∃ vs' ns', n' = (l, lsO vs' (n + 1)) :: news ∧ IntsAre vs' ns' ∧ Sorted ns' ∧ ns'.Perm (x :: ns)
set_option maxHeartbeats 1000000 in
theorem insr_n {news : Led} {l : Addr} {vs : List Value} {ns : List Int} {n : Nat} {x : Int} {t2 : Tok} (hi : IntsAre vs ns) (hlen : ns.length < 2 ^ 20 - 1) (hs : Sorted ns) (hoff : ∀ p ∈ news, p.1 ≠ l) :
    Con w p loose mean mg mb (.ref 79) [.ref l, .int x t2] [] 2 40 ((l, lstO vs n) :: news) (InsP ns x l n news) := by
  refine' con_def (D := 1) (U := 37) _ ?k6 ?k7 ?k9 ?kB ?km ?_ ?c2 ?c3 ?c4 ?c5
  case k6 => k_is
  case k7 => k_is
  case k9 => exact fun s hin => kp_binds hin fun _ => rfl
  case km => rfl
  case c5 => decide
  case kB => exact locs rfl
  case c2 => exact rfl
  case c3 => exact rfl
  case c4 => exact rfl
  intro X hX hH
  refine ws_ifT (wt_cmp (by kpf_close) (by isplit) ⟨rfl, ?_⟩)
  refine ws_setE (by kpf_close) rfl (we_call (wn_def (by k_is) (by kpf_close) (by decide)) (wf_def (by k_is)) (by kpf_close) (by isplit) (wc_plain hX hH (fun σ => bisr4_n (.head _) hi (Nat.lt_of_lt_of_le hlen (by decide)) hs) ?_ rfl rfl) rfl (fun _ => rfl))
  rintro _ _ ⟨⟨k, t, rfl, hB⟩, rfl⟩
  exact ws_nil (ws_cons (w_expr (fun hk τ ρ => ge_methG (l := l) hk (lk_F hk) (by kpf_close) (by isplit) (.head _) PySem.F.slot_list_insert PySem.F.type_list_insert (ga_pure (cls := [.int k, .int x]) (lk_F hk) (by kpf_close) (by isplit) (wc_insert hoff hi hlen hB.1 hB.2.2.1 fun vs' h' => ws_nil ⟨_, fun _ h => h, rfl, vs', _, rfl, h', hB.ins hs, perm_ins _ _ _⟩)) rfl (fun _ => ⟨_, rfl⟩)) rfl))
set_option maxHeartbeats 1000000 in
theorem insl_n {news : Led} {l : Addr} {vs : List Value} {ns : List Int} {n : Nat} {x : Int} {t2 : Tok} (hi : IntsAre vs ns) (hlen : ns.length < 2 ^ 20 - 1) (hs : Sorted ns) (hoff : ∀ p ∈ news, p.1 ≠ l) :
    Con w p loose mean mg mb (.ref 97) [.ref l, .int x t2] [] 2 40 ((l, lstO vs n) :: news) (InsP ns x l n news) := by
  refine' con_def (D := 1) (U := 37) _ ?k6 ?k7 ?k9 ?kB ?km ?_ ?c2 ?c3 ?c4 ?c5
  case k6 => k_is
  case k7 => k_is
  case k9 => exact fun s hin => kp_binds hin fun _ => rfl
  case km => rfl
  case c5 => decide
  case kB => exact locs rfl
  case c2 => exact rfl
  case c3 => exact rfl
  case c4 => exact rfl
  intro X hX hH
  refine ws_ifT (wt_cmp (by kpf_close) (by isplit) ⟨rfl, ?_⟩)
  refine ws_setE (by kpf_close) rfl (we_call (wn_def (by k_is) (by kpf_close) (by decide)) (wf_def (by k_is)) (by kpf_close) (by isplit) (wc_plain hX hH (fun σ => bisl4_n (.head _) hi (Nat.lt_of_lt_of_le hlen (by decide)) hs) ?_ rfl rfl) rfl (fun _ => rfl))
  rintro _ _ ⟨⟨k, t, rfl, hB⟩, rfl⟩
  exact ws_nil (ws_cons (w_expr (fun hk τ ρ => ge_methG (l := l) hk (lk_F hk) (by kpf_close) (by isplit) (.head _) PySem.F.slot_list_insert PySem.F.type_list_insert (ga_pure (cls := [.int k, .int x]) (lk_F hk) (by kpf_close) (by isplit) (wc_insert hoff hi hlen hB.1 hB.2.2.1 fun vs' h' => ws_nil ⟨_, fun _ h => h, rfl, vs', _, rfl, h', hB.ins' hs, perm_ins _ _ _⟩)) rfl (fun _ => ⟨_, rfl⟩)) rfl))
theorem wc_insN {fv : Value} {l : Addr} {vs : List Value} {ns : List Int} {n : Nat} {x : Int} {Q : VC → Led → Prop} (C : ∀ (news : Led) t2, (∀ p ∈ news, p.1 ≠ l) → Con w p loose mean mg mb fv [.ref l, .int x t2] [] 2 40 ((l, lstO vs n) :: news) (InsP ns x l n news)) (hoff : ∀ q ∈ N, q.1 ≠ l) (hD : Nat.ble 2 D = true) (hU : Nat.ble 40 U = true)
    (h : ∀ vs' ns', IntsAre vs' ns' → Sorted ns' → ns'.Perm (x :: ns) → Q (.val .none) ((l, lsO vs' (n + 1)) :: N)) : WC X cs mc ((l, lsO vs n) :: N) fv [.val (.ref l), .int x] Q := by
  refine wc_con (Post := fun co r n' => InsP ns x l n (N ++ co) r n') (fun σ co hc => C (N ++ co) _ fun q hq => (List.mem_append.mp hq).elim (hoff q) fun hq e => hc.o _ (.head _) q hq e.symm) ?_ hD hU
  rintro co v N2 ⟨rfl, vs', ns', rfl, h1, h2, h3⟩ _
  exact ⟨(l, lsO vs' (n + 1)) :: N, fun q hq => hq, fun q hq => .inl ((List.mem_cons.mp hq).elim (fun e => ⟨lsO vs n, by rw [e]; exact .head _⟩) fun hq => ⟨q.2, .tail _ hq⟩), h vs' ns' h1 h2 h3⟩
end
end
section
example : PySem.Challenge.rw_uj0005_01.row.prog = PySem.Challenge.rw_uj0005_01.row.prog ∧ hd.heap_1 = hd.heap_1 := by
  k_fill
  exact ⟨rfl, rfl⟩
section
variable {w : World} {p : Program} {loose : List Str} {mean : ExcName → Option Value} {mg mb : Str → Option Value} {D U : Nat}
variable {X : Cx w p loose mean mg mb D U} {cs : Scope} {Q : FinS → Prop} {mc m : Loc} {N : Led} {en : Env} {f : Str → Option Value} {lk : Str → Option VC}
def chW (top : Int) : Nat → Int
  | 0 => 1
  | k + 1 => (chW top k * (top - (k : Int))).fdiv ((k : Int) + 1)
theorem chW_is : ∀ t : Fin 28, ∀ k : Fin 5, chW (t : Nat) k = choM (t : Nat) (k : Nat) := by decide +kernel
theorem chW_bits : ∀ t : Fin 28, ∀ k : Fin 5, Builtin.Int.intBits (chW (t : Nat) k) ≤ 64 := by decide +kernel
theorem rg5 : ∀ n : Fin 5, Builtin.Range.small 0 ((n : Nat) : Int) 1 = true ∧ Builtin.Range.rangeSize 0 ((n : Nat) : Int) 1 = ((n : Nat) : Int) := by decide +kernel
theorem log5 : ∀ n : Fin 5, (((n : Nat) : Int) + 1).natAbs.log2 < 9000 ∧ ((n : Nat) : Int) + 1 ≠ 0 := by decide +kernel
inductive ChI (top : Int) (N0 : Led) (k : Nat) (mc m : Loc) (N : Led) : Prop
  | mk (hm : Sub [("ways", .int (chW top k)), ("top", .int top)] m) (e : N = N0) : ChI top N0 k mc m N
theorem choices_n {news : Led} {top size : Int} {t1 t2 : Tok} (h1 : 0 ≤ top ∧ top < 28) (h2 : 0 ≤ size ∧ size ≤ 4) :
    Con w p loose mean mg mb (.ref 167) [.int top t1, .int size t2] [] 3 40 news (fun r n' => (∃ t, r = .int (choM top size) t) ∧ n' = news) := by
  obtain ⟨tn, rfl⟩ := Int.eq_ofNat_of_zero_le h1.1
  obtain ⟨n, rfl⟩ := Int.eq_ofNat_of_zero_le h2.1
  have ht : tn < 28 := Int.ofNat_lt.mp h1.2
  have hn : n < 5 := Int.ofNat_lt.mp (Int.lt_add_one_of_le h2.2)
  refine' con_def (D := 2) (U := 37) [("size", .val (.int n t2)), ("top", .val (.int tn t1))] ?k6 ?k7 ?k9 ?kB ?km ?_ ?c2 ?c3 ?c4 ?c5
  case k6 => k_is
  case k7 => k_is
  case k9 => exact (fun s _ => BindsTo.of_eq rfl)
  case km => rfl
  case c5 => decide
  case kB => exact locs rfl
  case c2 => exact rfl
  case c3 => exact rfl
  case c4 => exact rfl
  intro X hX hH
  tbn_conj
  refine ws_cons (w_for (wi_range (n := n) (wn_builtin (by k_is) (by kpf_close) (by kpf_close) (by decide) (by decide)) (by kpf_close) (by isplit) (rg5 ⟨n, hn⟩) (.mk _ _ (ChI tn news) (.mk (.of (.inl rfl) (.of (.inr rfl) .nil)) rfl) nxt_range ?turn ?done) rfl) (fun _ _ => rfl))
  case turn =>
    intro I o k c mc m N hk hV hI
    induction hI with | mk hm e => ?_
    subst e
    subst hV
    have hb := chW_bits ⟨tn, ht⟩ ⟨k, Nat.lt_trans hk hn⟩
    have hmul : IntMulOk (chW tn k) ((tn : Int) - (k : Int)) := IntMulOk.of_left hb
    obtain ⟨hl5, hk0⟩ := log5 ⟨k, Nat.lt_trans hk hn⟩
    have hpy : Builtin.divisionGoesByPylong (chW tn k * ((tn : Int) - (k : Int))) ((k : Int) + 1) = false := PyProof.noPylong_of_log2 hl5
    refine wb_local (by kpf_close) (ws_weak (mc' := []) (m' := [("k", .int k), ("ways", .int (chW tn k)), ("top", .int tn)]) .nil (.of (.inl rfl) (hm.cons rfl)) (fun _ h => h) ?_)
    tbn_conj
    exact ws_nil (.mk (.of (.inl rfl) (.of (.inl rfl) .nil)) rfl)
  case done =>
    intro mc m N hI
    induction hI with | mk hm e => ?_
    subst e
    refine ws_weak .nil hm (fun _ h => h) (ws_ret (by kpf_close) (by isplit) ⟨N, fun _ h => h, fun k => ⟨⟨k, ?_⟩, rfl⟩⟩)
    rw [← chW_is ⟨tn, ht⟩ ⟨n, hn⟩]
    rfl
end
end
section
example : PySem.Challenge.rw_uj0005_01.row.prog = PySem.Challenge.rw_uj0005_01.row.prog ∧ hd.heap_1 = hd.heap_1 := by
  k_fill
  exact ⟨rfl, rfl⟩
section
theorem lamC {led : Led} {kf c' a : Addr} {oc oa : Obj} {vs : Array Value} {t tz : Tok} {ctv pm : Value} {clos : List (Str × Addr)} {qual : Str} {scope : Scope} {top sz : Int} {tt : Tok} {p1 p2 p3 p4 p5 : Pos}
    (hkf : (kf, kla_obj "<lambda>" qual { posonlyargs := [], args := [{ arg := "top", annotation := none, pos := p1 }], vararg := none, kwonlyargs := [], kw_defaults := [], kwarg := none, defaults := [] } (.Call (.Name "_law_choices" p2) [.Name "top" p3, .Name "size" p4] [] p5) scope clos pm c' ctv) ∈ led)
    (hc : (c', oc) ∈ led) (hd : oc.data = .fields vs) (hv : vs[1]? = some (.str qual t)) (hcl : clos.lookup (Str.ofString "size") = some a) (ha : (a, oa) ∈ led) (had : oa.data = .cell (some (.int sz tz))) (h1 : 0 ≤ top ∧ top < 28) (h2 : 0 ≤ sz ∧ sz ≤ 4)
    (hs : scope.names = [((Str.ofString "top"), NameKind.local), (Str.ofString "size", NameKind.free), (Str.ofString "_law_choices", NameKind.globalImplicit)]) (hs1 : scope.kind = .function) (hs2 : scope.isCoroutine = false) (hs3 : scope.isGenerator = false) :
    Con w p loose mean mg mb (.ref kf) [.int top tt] [] 5 60 led (fun r n' => (∃ t, r = .int (choM top sz) t) ∧ n' = led) := by
  intro dp un gd env outer A₀ base h₀ L m h g d t0 o R B F XX N T hcd hF hK hdp hun hret
  refine kla_code B F XX N T rfl hF hK hkf (codeRec_news N hc hd hv) (Nat.lt_of_le_of_lt (Nat.le_add_right _ _) hdp) (binds := [(Str.ofString "top", .int top tt)]) rfl (by rw [hs]; exact List.forall_mem_cons.mpr ⟨rfl, List.forall_mem_nil _⟩) ?_ hs2 hs3 hs1 (by rw [hs]; decide)
  intro g' L' h' FG' F' N' B' X' T'
  refine Call_ (nameX_K F' X' (topRead_of T') (by k_is) ?_ hs1 (by show scope.names.lookup _ = _; rw [hs]; decide) (by decide)) rfl
  refine callWith_K X' (by k_is) ?_ rfl rfl
  refine args_cons (nameX_L F' rfl ?_ hs1 (by show scope.names.lookup _ = _; rw [hs]; decide) (by decide)) rfl
  refine args_cons (nameX_F N' hcl ha had ?_ hs1 (by show scope.names.lookup _ = _; rw [hs]; decide) (by decide) (by decide)) rfl
  refine args_nil ⟨X'.keeps F'.keep, ?_⟩
  refine Con.use (choices_n h1 h2) B' F' X' N' T' hcd rfl hs1 (by show dp + 1 + 3 < _; exact Nat.lt_of_le_of_lt (Nat.add_le_add_left (by decide : 4 ≤ 5) dp) hdp) (by show un + 3 + 40 < _; exact Nat.lt_of_le_of_lt (Nat.add_le_add_left (by decide : 43 ≤ 60) un) hun) ?_
  rintro K hK' r n ⟨⟨t', rfl⟩, rfl⟩
  exact hK' _ _ fun h2 tk F2 N2 => leaveK_ F2 N2 fun F4 N4 => hret _ _ _ _ F4 N4 ⟨⟨_, rfl⟩, rfl⟩
end
end
section
example : PySem.Challenge.rw_uj0005_01.row.prog = PySem.Challenge.rw_uj0005_01.row.prog ∧ hd.heap_1 = hd.heap_1 := by
  k_fill
  exact ⟨rfl, rfl⟩
section
variable {w : World} {p : Program} {loose : List Str} {mean : ExcName → Option Value} {mg mb : Str → Option Value} {D U : Nat}
variable {X : Cx w p loose mean mg mb D U} {cs : Scope} {Q : FinS → Prop} {mc m : Loc} {N : Led} {en : Env} {f : Str → Option Value} {lk : Str → Option VC}
theorem gb_l {op : Operator} {i : Int} {t : Tok} {d : VC} {Q : VC → Led → Prop} (h : GB X cs f mc N op (.int i) d Q) : GB X cs f mc N op (.val (.int i t)) d Q := fun _ l hp t' E a => h t l hp t' E a
theorem gb_r {op : Operator} {i : Int} {t : Tok} {c : VC} {Q : VC → Led → Prop} (h : GB X cs f mc N op c (.int i) Q) : GB X cs f mc N op c (.val (.int i t)) Q := fun k _ hp t' E a => h k t hp t' E a
theorem ble_le {a b D : Nat} (h : Nat.ble a D = true) (e : Nat.ble b a = true) : Nat.ble b D = true := Nat.ble_eq.mpr (Nat.le_trans (Nat.ble_eq.mp e) (Nat.ble_eq.mp h))
inductive TabT (P : Addr) (ln col : Nat) (q : Str) (lo : Led) : Array Value → Led → Prop
  | nil : TabT P ln col q lo #[] []
  | one (c' : Addr) (oc : Obj) (vs : Array Value) (t : Tok) (hd : oc.data = .fields vs) (hv : vs[1]? = some (.str q t)) (h1 : c' ≠ P) (h2 : ∀ r ∈ lo, c' ≠ r.1) : TabT P ln col q lo #[rawInt ln, rawInt col, .ref c'] [(c', oc)]
theorem TabT.off {P : Addr} {ln col : Nat} {q : Str} {lo : Led} {ps : Array Value} {tl : Led} (h : TabT P ln col q lo ps tl) : ∀ r ∈ tl, r.1 ≠ P := by
  cases h with
  | nil => exact fun r hr => nomatch hr
  | one c' oc vs t hd hv h1 h2 => exact List.forall_mem_cons.mpr ⟨h1, List.forall_mem_nil _⟩
theorem TabT.off2 {P : Addr} {ln col : Nat} {q : Str} {l : Addr} {o : Obj} {ps : Array Value} {tl : Led} (h : TabT P ln col q [(l, o)] ps tl) : ∀ r ∈ tl, r.1 ≠ l := by
  cases h with
  | nil => exact fun r hr => nomatch hr
  | one c' oc vs t hd hv h1 h2 => exact List.forall_mem_cons.mpr ⟨h2 _ (.head _), List.forall_mem_nil _⟩
theorem TabT.tab {P : Addr} {ln col : Nat} {q : Str} {lo : Led} {ps : Array Value} {tl : Led} (h : TabT P ln col q lo ps tl) : ps = #[] ∨ ∃ c' oc vs t, ps = #[rawInt ln, rawInt col, .ref c'] ∧ (c', oc) ∈ tl ∧ oc.data = .fields vs ∧ vs[1]? = some (.str q t) := by
  cases h with
  | nil => exact .inl rfl
  | one c' oc vs t hd hv h1 h2 => exact .inr ⟨c', oc, vs, t, rfl, .head _, hd, hv⟩
inductive RkI (N0 : Led) (l : Addr) (mc0 m0 : Loc) (k : Nat) (mc m : Loc) (N : Led) : Prop
  | mk (num : Int) (rs : List Int) (prev : Int) (vs : List Value) (n : Nat) (ps : Array Value) (tl : Led) (h1 : m.g "number" = some (.int num)) (h2 : Sub m0 m) (h3 : Sub mc0 mc) (h4 : ∀ q ∈ (l, lsO vs n) :: (202, tabObj ps) :: (tl ++ N0), q ∈ N) (h5 : IntsAre vs rs) (h6 : rs.length = k) (h7 : 0 ≤ prev ∧ prev ≤ 27) (h8 : 0 ≤ num ∧ num < choM prev (4 - (k : Int))) (h9 : RanksOk prev rs)
    (h10 : TabT 202 276 57 "law.<locals>.<lambda>" [(l, lsO [] 0)] ps tl) : RkI N0 l mc0 m0 k mc m N
theorem RkI.mem {N0 : Led} {l : Addr} {mc0 m0 : Loc} {k : Nat} {mc m : Loc} {N : Led} (h : RkI N0 l mc0 m0 k mc m N) : ∀ q ∈ N0, q ∈ N := by
  obtain ⟨_, _, _, _, _, _, _, _, _, _, h4⟩ := h
  exact fun q hq => h4 q (.tail _ (.tail _ (List.mem_append_right _ hq)))
abbrev mRk (l ls : Addr) : Loc := [("ranks", .val (.ref l)), ("unit", .int unitM), ("script", .val (.ref ls))]
abbrev mcW (wr : Int) (lr : Addr) : Loc := [("writing", .int wr), ("row", .val (.ref lr))]
theorem lw3 (hX : LawCl X) (hC : CodeHd X.h₀ 204 202) (hcd : X.ccd = .ref 204) (hcn : X.cn = "law") (hD : Nat.ble 116 D = true) (hU : Nat.ble 5300 U = true) {lr ls : Addr} {tot : Int} (h202 : ∀ q ∈ N, q.1 ≠ 202)
    (go : ∀ l z0 z1 z2 z3 t0 t1 t2 t3 n ps tl, (0 ≤ z3 ∧ z3 < z2 ∧ z2 < z1 ∧ z1 < z0 ∧ z0 < 27) → (∀ q ∈ N, q.1 < l) → WS X lawScope Q (mcW (tot.fdiv 17550) lr) (("number", .int 0) :: mRk l ls) ((l, lsO [.int z0 t0, .int z1 t1, .int z2 t2, .int z3 t3] n) :: (202, tabObj ps) :: (tl ++ N)) (lawBody.drop 8)) :
    WS X lawScope Q (mcW (tot.fdiv 17550) lr) [("number", .int (tot.fmod 17550)), ("unit", .int unitM), ("script", .val (.ref ls))] ((202, tabObj #[]) :: N) (lawBody.drop 6) := by
  refine ws_put rfl (we_list (by with_unfolding_all rfl) (by isplit) rfl fun l σ hlt => wb_local (by with_unfolding_all rfl) ?_)
  have hS0 : Sub (mRk l ls) (mRk l ls) := .of (.inl rfl) (.of (.inl rfl) (.of (.inl rfl) .nil))
  refine ws_cons (w_for (wi_list (we_list (by with_unfolding_all rfl) (by isplit) rfl fun Dl σ hDl => ⟨Dl, _, _, rfl, .head _, ?_⟩)) (fun _ _ => rfl))
  refine .mk _ _ (RkI ((Dl, lsO [.int 4 (σ 0), .int 3 (σ 1), .int 2 (σ 2), .int 1 (σ 3)] 0) :: N) l (mcW (tot.fdiv 17550) lr) (mRk l ls)) ?_ (nxt_list (vs := [.int 4 (σ 0), .int 3 (σ 1), .int 2 (σ 2), .int 1 (σ 3)]) (n := 0) fun k mc m N h => h.mem _ (.head _)) ?_ ?_
  · exact .mk (tot.fmod 17550) [] 27 [] 0 #[] [] rfl (.of (.inl rfl) (.of (.inl rfl) (.of (.inl rfl) .nil))) (.of (.inl rfl) (.of (.inl rfl) .nil)) (fun q hq => by
      rcases List.mem_cons.mp hq with rfl | hq
      · exact .tail _ (.head _)
      rcases List.mem_cons.mp hq with rfl | hq
      · exact .tail _ (.tail _ (.head _))
      rcases List.mem_cons.mp hq with rfl | hq
      · exact .head _
      exact .tail _ (.tail _ (.tail _ hq))) .nil rfl ⟨by decide, by decide⟩ (by
      have e : choM 27 (4 - ((0 : Nat) : Int)) = 17550 := cho_top
      rw [e]
      exact ⟨Int.fmod_nonneg_of_pos _ (by decide), Int.fmod_lt_of_pos _ (by decide)⟩) ⟨.nil, fun r hr => nomatch hr⟩ .nil
  · rintro I o k c mc m N' hk ⟨v, rfl, hv⟩ ⟨num, rs, prev, vs, n, ps, tl, h1, h2, h3, h4, h5, h6, h7, h8, h9, h10⟩
    obtain ⟨sz, tz, rfl, hsz, hk4⟩ := four_at hv
    refine wb_cell (by with_unfolding_all rfl) (hX _ (by decide +kernel)) ?_
    refine ws_weak (mc' := ("size", .int sz) :: mcW (tot.fdiv 17550) lr) (m' := ("number", .int num) :: mRk l ls) (N' := (202, tabObj ps) :: (l, lsO vs n) :: (tl ++ (Dl, lsO [.int 4 (σ 0), .int 3 (σ 1), .int 2 (σ 2), .int 1 (σ 3)] 0) :: N)) (.of (.inr rfl) (h3.cons rfl)) (.of (.inl h1) h2) (fun q hq => h4 q ?_) ?_
    · rcases List.mem_cons.mp hq with rfl | hq
      · exact .tail _ (.head _)
      rcases List.mem_cons.mp hq with rfl | hq
      · exact .head _
      exact .tail _ (.tail _ hq)
    have hl202 : @LT.lt Nat _ 202 l := hlt (202, tabObj #[]) (.head _)
    have hqual : ((X.hide I o).env lawScope).qual ++ ("<lambda>" : Str) = "law.<locals>.<lambda>" := by
      show X.cn ++ _ ++ _ = _
      rw [hcn]
      decide +kernel
    have hsz1 : 1 ≤ sz ∧ sz ≤ 4 := by omega
    rw [← hsz] at h8
    refine ws_setE (by with_unfolding_all rfl) rfl (fun hk τ ρ => ge_bin (ge_callKW hk (wn_def (by k_is) (by with_unfolding_all rfl) (by decide) hk) (by k_is) rfl (ga_cons (ge_listrange (n := 27) (lk_F hk) (wn_builtin (by k_is) (by with_unfolding_all rfl) (by with_unfolding_all rfl) (by decide) (by decide) hk) (wn_builtin (by k_is) (by with_unfolding_all rfl) (by with_unfolding_all rfl) (by decide) (by decide) hk) (by with_unfolding_all rfl) (by isplit) (by decide +kernel) (by decide) rfl fun D27 us k27 hI27 h27 => ga_cons (ge_pure (lk_F hk) (by with_unfolding_all rfl) (by isplit) (ga_nil ?_)) rfl) rfl)))
    rw [rk27] at hI27
    have h272 : @LT.lt Nat _ 202 D27 := h27 (202, tabObj ps) (.head _)
    refine ge_led (N' := (202, tabObj ps) :: (D27, lsO us k27) :: (l, lsO vs n) :: (tl ++ (Dl, lsO [.int 4 (σ 0), .int 3 (σ 1), .int 2 (σ 2), .int 1 (σ 3)] 0) :: N)) (fun q hq => by
      rcases List.mem_cons.mp hq with rfl | hq
      · exact .tail _ (.head _)
      rcases List.mem_cons.mp hq with rfl | hq
      · exact .head _
      exact .tail _ (.tail _ hq)) (ge_lam (tl := tl) hC hcd rfl (free_ok hX (by decide +kernel)) ?hoff ?hsub ?htab ?_)
    case hoff =>
      refine List.forall_mem_cons.mpr ⟨Nat.ne_of_gt h272, List.forall_mem_cons.mpr ⟨Nat.ne_of_gt hl202, fun q hq => ?_⟩⟩
      rcases List.mem_append.mp hq with hq | hq
      · exact h10.off q hq
      · rcases List.mem_cons.mp hq with rfl | hq
        · exact Nat.ne_of_gt (hDl (202, tabObj #[]) (.tail _ (.head _)))
        · exact h202 q hq
    case hsub => exact fun q hq => .tail _ (.tail _ (List.mem_append_left _ hq))
    case htab => rw [hqual]; exact h10.tab
    intro kf c' oc vs' t' ctv clos pm hclos hdd hvv hkf hc1 hc2 hc3
    refine wk_con0 (D' := 7) (U' := 68) (fun ς co hco => bisrk_n (g := fun t => choM t sz) (D := 5) (U := 60) (.head _) (.tail _ (.tail _ (.tail _ (.head _)))) hI27 (by rw [r27_len]; decide) (cho_srt hsz1) fun i t hi => ?con) ?_ (ble_le hD rfl) (ble_le hU rfl)
    case con =>
      have hi2 := r27_get ⟨i, by rw [r27_len] at hi; exact hi⟩
      obtain ⟨cc, rfl, c1⟩ := hco.h
      obtain ⟨a, oa, kk, ha1, ha2, ha3⟩ := co_get c1 (x := "size") (c := .int sz) rfl (hX _ (by decide +kernel))
      rw [show (rangeInts 0 1 27).getD i 0 = (i : Int) from hi2]
      rw [r27_len] at hi
      exact lamC (.head _) (.tail _ (.head _)) hdd hvv ((hclos "size" ⟨_, .tail _ (.head _), rfl, rfl⟩).trans ha1) (List.mem_append_right _ (List.mem_append_left _ ha2)) ha3 ⟨by omega, by omega⟩ ⟨by omega, by omega⟩ rfl rfl rfl rfl
    rintro co _ N2 ⟨⟨r, t, rfl, hBR⟩, rfl⟩
    refine ⟨rfl, ge_pure (lk_F hk) (by with_unfolding_all rfl) (by isplit) (gb_l (gb_pure (by with_unfolding_all rfl) (by isplit) ?_))⟩
    obtain ⟨hr8, hr7, hr6⟩ := cho_turn hsz1 h7 h8 hBR
    refine ws_setE (by with_unfolding_all rfl) rfl (fun hk τ ρ => ge_bin (ge_pure (lk_F hk) (by with_unfolding_all rfl) (by isplit) (ge_call hk (wn_def (by k_is) (by with_unfolding_all rfl) (by decide) hk) (wf_def (by k_is)) rfl (ga_pure (lk_F hk) (by with_unfolding_all rfl) (by isplit) (wc_con0 (fun ς co _ => choices_n (top := r - 1) (size := sz) ⟨by omega, by omega⟩ ⟨by omega, by omega⟩) ?_ (ble_le hD rfl) (ble_le hU rfl))) (fun _ => rfl))))
    rintro co _ N2 ⟨⟨t2, rfl⟩, rfl⟩
    refine ⟨rfl, gb_r (gb_pure (by with_unfolding_all rfl) (by isplit) ?_)⟩
    refine ws_led (N' := (l, lsO vs n) :: (202, tabObj #[rawInt 276, rawInt 57, .ref c']) :: (c', oc) :: (Dl, lsO [.int 4 (σ 0), .int 3 (σ 1), .int 2 (σ 2), .int 1 (σ 3)] 0) :: N) ?led ?_
    case led =>
      refine List.forall_mem_cons.mpr ⟨.tail _ (.tail _ (.tail _ (.tail _ (.head _)))), List.forall_mem_cons.mpr ⟨.tail _ (.tail _ (.head _)), List.forall_mem_cons.mpr ⟨.tail _ (.head _), fun q hq => .tail _ (.tail _ (.tail _ (.tail _ (.tail _ (List.mem_append_right _ hq)))))⟩⟩⟩
    have hcl : @Ne Nat c' l := by
      rcases hc3 with h | h
      · exact h10.off2 _ h
      · exact Nat.ne_of_gt (h (l, lsO vs n) (.tail _ (.tail _ (.head _))))
    refine ws_cons (w_expr (fun hk τ ρ => ge_meth hk (lk_F hk) (by with_unfolding_all rfl) (by isplit) (by with_unfolding_all rfl) (by isplit) (.head _) PySem.F.slot_list_append PySem.F.type_list_append (wc_append ?hoff2 ?hz2 ?_) rfl (fun _ => ⟨_, rfl⟩)) rfl)
    case hoff2 => exact List.forall_mem_cons.mpr ⟨Nat.ne_of_lt hl202, List.forall_mem_cons.mpr ⟨hcl, List.forall_mem_cons.mpr ⟨Nat.ne_of_gt (hDl (l, _) (.head _)), fun q hq => Nat.ne_of_lt (hlt q (.tail _ hq))⟩⟩⟩
    case hz2 => rw [h5.length, h6]; exact Nat.le_trans (Nat.le_of_lt hk4) (by decide)
    intro kt
    refine ws_nil ?_
    show RkI _ _ _ _ _ _ _ _
    refine .mk (num - choM (r - 1) sz) (rs ++ [r - 1]) (r - 1) (vs ++ [.int (r - 1) kt]) (n + 1) #[rawInt 276, rawInt 57, .ref c'] [(c', oc)] rfl (.cons (.cons (.cons hS0 rfl) rfl) rfl) (.cons (.of (.inl rfl) (.of (.inl rfl) .nil)) rfl) (fun q hq => hq) (ints_snoc h5 _ _) (by rw [List.length_append, h6]; rfl) ⟨by omega, by omega⟩ (by rw [show (4 : Int) - ((k + 1 : Nat) : Int) = sz - 1 by omega]; exact ⟨hr7, hr6⟩) (h9.next hr8.2 h7.2) (.one c' oc vs' t' hdd (hqual ▸ hvv) hc2 (List.forall_mem_cons.mpr ⟨hcl, List.forall_mem_nil _⟩))
  · rintro mc m N' ⟨num, rs, prev, vs, n, ps, tl, h1, h2, h3, h4, h5, h6, h7, h8, h9, h10⟩
    have hn0 : num = 0 := by
      have e : choM prev (4 - (([Value.int 4 (σ 0), .int 3 (σ 1), .int 2 (σ 2), .int 1 (σ 3)] : List Value).length : Int)) = 1 := by
        have := cho_zero ⟨prev.toNat, by omega⟩
        have e2 : ((prev.toNat : Nat) : Int) = prev := by omega
        rw [← e2]
        exact this
      rw [e] at h8
      omega
    subst hn0
    obtain ⟨z0, z1, z2, z3, rfl, hR⟩ := ranks4 h9 h6 h7.1
    obtain ⟨t0, t1, t2, t3, rfl⟩ := ints4 h5
    refine ws_weak h3 (.of (.inl h1) h2) (fun q hq => h4 q ?_) (go l z0 z1 z2 z3 t0 t1 t2 t3 n ps tl hR (fun q hq => hlt q (.tail _ hq)))
    rcases List.mem_cons.mp hq with rfl | hq
    · exact .head _
    rcases List.mem_cons.mp hq with rfl | hq
    · exact .tail _ (.head _)
    exact .tail _ (.tail _ ((List.mem_append.mp hq).elim (List.mem_append_left _) fun h => List.mem_append_right _ (.tail _ h)))
end
end
section
example : PySem.Challenge.rw_uj0005_01.row.prog = PySem.Challenge.rw_uj0005_01.row.prog ∧ hd.heap_1 = hd.heap_1 := by
  k_fill
  exact ⟨rfl, rfl⟩
section
variable {w : World} {p : Program} {loose : List Str} {mean : ExcName → Option Value} {mg mb : Str → Option Value} {D U : Nat}
variable {X : Cx w p loose mean mg mb D U} {cs : Scope} {mc m : Loc} {N : Led} {en : Env} {f : Str → Option Value} {lk : Str → Option VC}
theorem wc_intF {x : UInt64} {Q : VC → Led → Prop} (hf : Float64.isFinite x = true) (h : Q (.int (Flt.toInt Float64.truncOf x)) N) : WC X cs mc N (.type "int") [.float x] Q :=
  fun _ _ _ hp t _ a => PySem.Flt.call_int_float3 (s := X.s hp t) rfl (fun h' => (fin_nan hf h').elim) (fun h' => (fin_inf hf h').elim) fun _ => .mk (.int (Flt.toInt Float64.truncOf x)) t N hp (t + 1) a h
theorem fits13 {u : Int} (h : 0 < u ∧ u < 13) : FitsF u := by
  obtain ⟨n, rfl⟩ := Int.eq_ofNat_of_zero_le (Int.le_of_lt h.1)
  exact Nat.lt_trans (Int.ofNat_lt.mp h.2 : n < 13) (by decide +kernel)
theorem near_n {news : Led} {x : UInt64} {u k : Int} {t1 t2 : Tok} (hu : 0 < u ∧ u < 13) (hf : Float64.isFinite (nearM x u) = true) (hk : Flt.toInt Float64.truncOf (nearM x u) = k) :
    Con w p loose mean mg mb (.ref 181) [.float x t1, .int u t2] [] 1 8 news (fun r n' => (∃ t, r = .int k t) ∧ n' = news) := by
  refine' con_def (D := 0) (U := 5) [("unit", .val (.int u t2)), ("part", .val (.float x t1))] ?k6 ?k7 ?k9 ?kB ?km ?_ ?c2 ?c3 ?c4 ?c5
  case k6 => k_is
  case k7 => k_is
  case k9 => exact (fun s _ => BindsTo.of_eq rfl)
  case km => rfl
  case c5 => decide
  case kB => exact locs rfl
  case c2 => exact rfl
  case c3 => exact rfl
  case c4 => exact rfl
  intro X hX hH
  have hu' := fits13 hu
  have h20 : FitsF (2 ^ Int.toNat 20) := by unfold FitsF; decide +kernel
  refine ws_retE (we_call (wn_builtin (by k_is) (by kpf_close) (by kpf_close) (by decide) (by decide)) wf_type (by kpf_close) (by isplit) (wc_intF hf ⟨news, fun _ h => h, fun l => ⟨⟨l, ?_⟩, rfl⟩⟩) rfl (fun _ => rfl))
  rw [hk]; rfl
def Tup3 (news : Led) (r g b : UInt64) (a : Value) (n' : Led) : Prop := ∃ d u1 u2 u3, a = .ref d ∧ (∀ p ∈ news, p.1 < d) ∧ n' = (d, tupO [.float r u1, .float g u2, .float b u3]) :: news
theorem ws_ret3 {Q : FinS → Prop} {es : List Expr} {k : Nat} {p1 p2 : Pos} {rest : List Stmt} {a b c x y z : UInt64} {ps : List Prop} (he : pes cs mc m es = some ([.float a, .float b, .float c], ps)) (hp : Alls ps) (h : some (a, b, c) = some (x, y, z)) (hQ : ∀ c N', Done (Tup3 N x y z) (.ret c N') → Q (.ret c N')) : WS X cs Q mc m N (.Return (some (.Tuple es k p1)) p2 :: rest) := by
  cases h
  exact ws_retE (we_tuple he hp rfl fun d σ hlt => hQ _ _ ⟨_, fun q hq => hq, fun _ => ⟨d, σ 0, σ 1, σ 2, rfl, hlt, rfl⟩⟩)
theorem hsv_n {news : Led} {h s v r g b : UInt64} {t1 t2 t3 : Tok} (hM : hsvM h s v = some (r, g, b)) :
    Con w p loose mean mg mb (.ref 28) [.float h t1, .float s t2, .float v t3] [] 1 8 news (Tup3 news r g b) := by
  refine' con_def (D := 0) (U := 5) [("v", .val (.float v t3)), ("s", .val (.float s t2)), ("h", .val (.float h t1))] ?k6 ?k7 ?k9 ?kB ?km ?_ ?c2 ?c3 ?c4 ?c5
  case k6 => k_is
  case k7 => k_is
  case k9 => exact (fun s _ => BindsTo.of_eq rfl)
  case km => rfl
  case c5 => decide
  case kB => exact locs rfl
  case c2 => exact rfl
  case c3 => exact rfl
  case c4 => exact rfl
  intro X hX hH
  refine ws_if (by kpf_close) (by isplit) (fun hs => ?_) fun hs => ws_nil ?_
  · exact ws_ret3 (by kpf_close) (by isplit) (hsv_v hM hs) fun _ _ h => h
  have hfin := hsvM_fin hM hs
  have hval := hsv_val hM hs
  obtain ⟨hf1, hf2⟩ := hfin
  refine ws_setE (by kpf_close) rfl (we_call (wn_builtin (by k_is) (by kpf_close) (by kpf_close) (by decide) (by decide)) wf_type (by kpf_close) (by isplit) (wc_intF hf1 ?_) rfl (fun _ => rfl))
  refine ws_set (by with_unfolding_all rfl) (by isplit) (by with_unfolding_all rfl) ?_
  tbn_conj
  tbn_conj
  tbn_conj
  tbn_conj
  refine ws_if (by kpf_close) (by isplit) (fun h0 => ws_ret3 (by kpf_close) (by isplit) (sel0 hval (eq_of_beq h0)) fun _ _ h => h) fun h0 => ws_nil ?_
  refine ws_if (by kpf_close) (by isplit) (fun h1 => ws_ret3 (by kpf_close) (by isplit) (sel1 hval (eq_of_beq h1)) fun _ _ h => h) fun h1 => ws_nil ?_
  refine ws_if (by kpf_close) (by isplit) (fun h2 => ws_ret3 (by kpf_close) (by isplit) (sel2 hval (eq_of_beq h2)) fun _ _ h => h) fun h2 => ws_nil ?_
  refine ws_if (by kpf_close) (by isplit) (fun h3 => ws_ret3 (by kpf_close) (by isplit) (sel3 hval (eq_of_beq h3)) fun _ _ h => h) fun h3 => ws_nil ?_
  refine ws_if (by kpf_close) (by isplit) (fun h4 => ws_ret3 (by kpf_close) (by isplit) (sel4 hval (eq_of_beq h4)) fun _ _ h => h) fun h4 => ws_nil ?_
  refine ws_if (by kpf_close) (by isplit) (fun h5 => ws_ret3 (by kpf_close) (by isplit) (sel5 hval (eq_of_beq h5)) fun _ _ h => h) fun h5 => ?_
  exact (sel9 hval (beq_eq_false_iff_ne.mp h0) (beq_eq_false_iff_ne.mp h1) (beq_eq_false_iff_ne.mp h2) (beq_eq_false_iff_ne.mp h3) (beq_eq_false_iff_ne.mp h4) (beq_eq_false_iff_ne.mp h5)).elim
end
end
section
section
variable {w : World} {p : Program} {loose : List Str} {mean : ExcName → Option Value} {mg mb : Str → Option Value} {D U : Nat}
theorem con_defC1 {x y : Str} {v : Value} {name qual : Str} {params : Arguments} {body : List Stmt} {scope : Scope} {dV kV doc pm cdv ct oc : Value} {an od : Option Addr} {osl : Array (Option Value)} {f : Addr} {vs : List Value} {kw : List (Str × Value)} {news : Led} {Post : Value → Led → Prop}
    (hf : List.lookup f (hd.heap_1 w.params) = some { cls := oc, dict := od, data := .func (fnOf name qual params body scope dV kV doc pm an cdv ct), slots := osl }) (hcd : codeIn (hd.heap_1 w.params) cdv qual = true)
    (hb : ∀ s : Shared, (hd.heap_1 w.params).In s.heap → BindsTo s (fnOf name qual params body scope dV kV doc pm an cdv ct) ⟨vs, kw⟩ [(x, v)]) (hx : List.lookup x scope.names = some .local) (hcf : ∀ n, cellsFrom n scope.names [] = [(y, n)])
    (H : ∀ X : Cx w p loose mean mg mb D U, X.cl = [(y, X.L + 1)] → X.hid = [] → X.ccd = cdv → X.cn = qual → CodesAt X.h₀ → WS X scope (Done Post) [] [(x, .val v)] news body)
    (c2 : scope.isCoroutine = false) (c3 : scope.isGenerator = false) (c4 : scope.kind = .function) :
    Con w p loose mean mg mb (.ref f) vs kw (D + 1) (U + 3) news Post := by
  intro dp un gd env outer A₀ base h₀ L m1 h g d t o R B F XX N T hc hF hK hdp hun hret
  refine code_defC B F XX N T rfl hF hK hf hcd (Nat.lt_of_le_of_lt (Nat.le_add_right _ _) hdp) (hb _ (XX.keeps F.keep)) (by rw [List.all_cons, List.all_nil, hx]; rfl) (by rw [hcf]; exact List.nodup_cons.mpr ⟨List.not_mem_nil, List.nodup_nil⟩) (fun g' L' h₁ tk cells FG F' N' Y B' X' T' hl => ?_) c2 c3 c4
  have e : envOfC qual scope L' f cdv = envX qual scope L' f cdv [(y, L' + 1)] := by
    show envX qual scope L' f cdv (cellsFrom (L' + 1) scope.names []) = _
    rw [hcf]
  rw [hcf] at Y
  obtain ⟨oc', rfl, hoc⟩ := Y.one
  have hv : bindC (envOfC qual scope L' f cdv).kindOf [(x, v)] (fun _ => none) y = none := by
    show (if List.lookup x scope.names = some .local then (fun _ => none) else fun z => if z = x then some v else none : Str → Option Value) y = none
    rw [if_pos hx]
  rw [hv] at hoc
  have F2 : Fr g' L' h₁ (Loc.at [(x, .val v)] (fun y => if y = x then 0 else 0) fun _ => none) := by
    rw [← at_set (c := .val v) (k := 0) (τ := fun _ => 0)]
    have e2 : bindL (envOfC qual scope L' f cdv).kindOf [(x, v)] (fun _ => none) = fun z => if z = x then some v else none := by
      show (if List.lookup x scope.names = some .local then (fun z => if z = x then some v else none) else fun _ => none : Str → Option Value) = _
      rw [if_pos hx]
    rw [e2] at F'
    exact F'
  rw [e]
  have hk : CodesAt g' := by
    obtain ⟨k1, k2, k3, k4, k5⟩ := hc
    exact ⟨k1.keeps (Below.stays B'), k2.keeps (Below.stays B'), k3.keeps (Below.stays B'), k4.keeps (Below.stays B'), k5.keeps (Below.stays B')⟩
  refine wpAny_mono (H { dp := dp + 1, un := un + 3, gd := gd, cn := qual, L := L', a := f, ccd := cdv, cl := [(y, L' + 1)], cnn := List.nodup_cons.mpr ⟨List.not_mem_nil, List.nodup_nil⟩, hid := [], outer := env :: outer, A₀ := _, base := base, h₀ := g', g := g, d := d, o := o, B := B', X := X', T := T', hc := hc, hdp := by rw [Nat.add_assoc, Nat.add_comm 1 D]; exact hdp, hun := by rw [Nat.add_assoc, Nat.add_comm 3 U]; exact hun } rfl rfl rfl rfl hk c4 _ _ h₁ _ _ ⟨F2, fun _ _ h => (nomatch h), [(L' + 1, oc')], ⟨_, (List.append_nil _).symm, ⟨_, _, _, rfl, hoc, fun _ h => (nomatch h), rfl⟩⟩, List.nodup_cons.mpr ⟨List.not_mem_nil, List.nodup_nil⟩, fun q hq => N' q ((List.mem_append.mp hq).elim (fun h => List.mem_append_right _ h) fun h => List.mem_append_left _ h), fun q hq r hr => by rw [List.mem_singleton.mp hr]; exact Nat.ne_of_lt (Nat.lt_succ_of_lt (hl q hq))⟩) ?_ fun _ _ x => x
  rintro fl s hs
  induction hs with
  | next mc' m' N2 h2 t2 τ' ρ' a hQ =>
    obtain ⟨N', hs, hQ⟩ := hQ
    exact leaveK_ a.F (newsSub a.N hs) fun F4 N4 => hret _ _ _ _ F4 N4 hQ
  | ret c k mc' f N2 h2 t2 a hQ =>
    obtain ⟨N', hs, hQ⟩ := hQ
    exact leaveK_ a.F (newsSub a.N hs) fun F4 N4 => hret _ _ _ _ F4 N4 (hQ k)
  | brk mc' m' N2 h2 t2 τ' ρ' a hQ => exact hQ.elim
  | cont mc' m' N2 h2 t2 τ' ρ' a hQ => exact hQ.elim
variable {X : Cx w p loose mean mg mb D U} {cs : Scope} {Q : FinS → Prop} {mc m : Loc} {N : Led} {en : Env} {f : Str → Option Value} {lk : Str → Option VC}
theorem wc_lindex {l : Addr} {vs : List Value} {n j : Nat} {k : Int} {t : Tok} {Q : VC → Led → Prop} (hm : (l, lsO vs n) ∈ N) (hi : kf_ints vs = true) (he : kf_at k vs = some j) (hz : vs.length ≤ sizeLine) (h : Q (.int (j : Int)) N) : WC X cs mc N (.builtin "list.index") [.val (.ref l), .val (.int k t)] Q := by
  intro _ σ f hp t' E a
  obtain ⟨co, c1, c4, c2, c3⟩ := a.C
  exact kf_index (s := X.s hp t') c2 (List.mem_append_left _ hm) (by simpa using hi) (by simpa using he) rfl (by simpa using hz) (.mk (.int (j : Int)) t' N hp (t' + 1) a h)
theorem wc_intB {b : Bool} {Q : VC → Led → Prop} (h : Q (.int (if b then 1 else 0)) N) : WC X cs mc N (.type "int") [.val (.bool b)] Q :=
  fun _ _ _ hp t _ a => call_int_bool (s := X.s hp t) (.mk (.int (if b then 1 else 0)) t N hp (t + 1) a h)
end
end
section
section
variable {w : World} {p : Program} {loose : List Str} {mean : ExcName → Option Value} {mg mb : Str → Option Value} {D U : Nat}
variable {X : Cx w p loose mean mg mb D U} {cs : Scope} {Q : FinS → Prop} {mc m : Loc} {N : Led} {en : Env} {f : Str → Option Value} {lk : Str → Option VC}
theorem At.grown {h h' : Heap} (a : At X f mc N h) (hk : ∀ c o, h.get? c = some o → h'.get? c = some o) : At X f mc N h' := by
  obtain ⟨co, c1, c4, c2, c3⟩ := a.C
  exact ⟨a.F.grownK hk, a.D, co, c1, c4, c2.grown hk, c3⟩
theorem wc_min2 {a b : Int} {Q : VC → Led → Prop} (h : Q (.int (if b < a then b else a)) N) : WC X cs mc N (.builtin "min") [.int a, .int b] Q := by
  intro _ σ f hp t E at_
  refine min_two_ints (s := X.s hp t) rfl fun h' tk hk => ?_
  have a' := at_.grown hk
  by_cases hc : b < a
  · rw [if_pos hc] at h ⊢
    exact .mk (.int b) _ N h' tk a' h
  · rw [if_neg hc] at h ⊢
    exact .mk (.int a) _ N h' tk a' h
theorem wc_max2 {a b : Int} {Q : VC → Led → Prop} (h : Q (.int (if b > a then b else a)) N) : WC X cs mc N (.builtin "max") [.int a, .int b] Q := by
  intro _ σ f hp t E at_
  refine max_two_ints (s := X.s hp t) rfl fun h' tk hk => ?_
  have a' := at_.grown hk
  by_cases hc : b > a
  · rw [if_pos hc] at h ⊢
    exact .mk (.int b) _ N h' tk a' h
  · rw [if_neg hc] at h ⊢
    exact .mk (.int a) _ N h' tk a' h
theorem ge_strI {l r : Expr} {pos : Pos} {sv : Str} {i : Int} {ps qs : List Prop} {Q : VC → Led → Prop} (hlk : Lk X cs en f mc lk) (he : pev lk 12 l = some (.str sv, ps)) (hp : Alls ps) (hi : pev lk 12 r = some (.int i, qs)) (hq : Alls qs) (h0 : 0 ≤ i) (h1 : i < sv.length) (hz : sv.length < 1000) (h : Q (.str (Txt.item sv i)) N)
    (hs : ∀ t u, subscripted r false (.str sv t) (.int i u) = operate [.str sv t, .int i u] (getItem (.str sv t) (.int i u))) (ht : ∀ t r, letTemporaryGo l (.str sv t) r = pure ()) : GE X cs en f mc N (.Subscript l r pos) Q := by
  intro hp' t E at_
  exact Subscript_ (pev_ok hlk at_ 12 l he hp fun k1 t1 => pev_ok hlk at_ 12 r hi hq fun k2 t2 => item_str (s := X.s hp' t2) (fitsSsize_of (N := 9223372036854775808) (by omega) (by omega) (Int.le_refl _)) (by omega) h1 (fun _ => .mk (.str (Txt.item sv i)) t2 N hp' _ at_ h) (hs _ _) (ht _))
end
end
section
example : PySem.Challenge.rw_uj0005_01.row.prog = PySem.Challenge.rw_uj0005_01.row.prog ∧ hd.heap_1 = hd.heap_1 := by
  k_fill
  exact ⟨rfl, rfl⟩
section
variable {w : World} {p : Program} {loose : List Str} {mean : ExcName → Option Value} {mg mb : Str → Option Value} {D U : Nat}
variable {X : Cx w p loose mean mg mb D U} {cs : Scope} {Q : FinS → Prop} {mc m : Loc} {N : Led} {en : Env} {f : Str → Option Value} {lk : Str → Option VC}
def cardP (key : Int) (k : Nat) : Str := ([(0 : Int), 4, 8].take k).foldl (fun w c => w ++ Txt.item signs3 (cardIx key c)) (Str.ofString "")
theorem cardP_next {key c : Int} {k : Nat} (h : [(0 : Int), 4, 8][k]? = some c) : cardP key (k + 1) = cardP key k ++ Txt.item signs3 (cardIx key c) := by
  unfold cardP
  rw [List.take_add_one, h, Option.toList_some, List.foldl_append]
  rfl
theorem cardP_len : ∀ key ∈ rowM, ∀ k ∈ [0, 1, 2], ∀ c ∈ [(0 : Int), 4, 8], (cardP key k).length + (Txt.item signs3 (cardIx key c)).length ≤ 100 := by decide +kernel
theorem card_mul : ∀ key ∈ rowM, Builtin.Int.intBits ((key.fdiv 3).fmod 3) ≤ 64 ∧ Builtin.Int.intBits ((key.fdiv 3).fmod 3 * key.fmod 3) ≤ 64 := by decide +kernel
inductive CardI (key : Int) (k : Nat) (mc m : Loc) (N : Led) (N0 : Led) : Prop
  | mk (h1 : Sub [("word", .str (cardP key k)), ("key", .int key)] m) (h2 : N = N0) : CardI key k mc m N N0
theorem card_w {news : Led} {key : Int} {t : Tok} (hk : key ∈ rowM) :
    Con w p loose mean mg mb (.ref 174) [.int key t] [] 3 200 news (fun r n' => (∃ t, r = .str (cardM key) t) ∧ n' = news) := by
  refine' con_def (D := 2) (U := 197) [("key", .val (.int key t))] ?k6 ?k7 ?k9 ?kB ?km ?_ ?c2 ?c3 ?c4 ?c5
  case k6 => k_is
  case k7 => k_is
  case k9 => exact (fun s _ => BindsTo.of_eq rfl)
  case km => rfl
  case c5 => decide
  case kB => exact locs rfl
  case c2 => exact rfl
  case c3 => exact rfl
  case c4 => exact rfl
  intro X hX hH
  obtain ⟨hm1, hm2⟩ := card_mul key hk
  have hmm : IntMulOk ((key.fdiv 3).fmod 3) (key.fmod 3) := IntMulOk.of_left hm1
  tbn_conj
  refine ws_cons (w_for (wi_list (we_list (by kpf_close) (by isplit) rfl fun lc σ _ => ⟨lc, _, _, rfl, .head _, ?_⟩)) (fun _ _ => rfl))
  have hI : IntsAre [.int 0 (σ 0), .int 4 (σ 1), .int 8 (σ 2)] [0, 4, 8] := .cons _ _ (.cons _ _ (.cons _ _ .nil))
  refine .mk _ _ (fun k mc m N => CardI key k mc m N ((lc, lsO [.int 0 (σ 0), .int 4 (σ 1), .int 8 (σ 2)] 0) :: news)) (.mk (.of (.inl rfl) (.of (.inr rfl) .nil)) rfl) (nxt_list (vs := [.int 0 (σ 0), .int 4 (σ 1), .int 8 (σ 2)]) (n := 0) ?hl) ?turn ?done
  case hl =>
    rintro k mc m N1 ⟨h1, rfl⟩
    exact .head _
  case done =>
    rintro mc m N1 ⟨h1, rfl⟩
    refine ws_weak .nil h1 (fun _ h => h) (ws_ret (by kpf_close) (by isplit) ⟨news, fun q hq => .tail _ hq, fun k => ⟨⟨k, rfl⟩, rfl⟩⟩)
  case turn =>
    rintro I o k c mc m N1 hk3 ⟨v, rfl, hv⟩ ⟨h1, rfl⟩
    obtain ⟨c, tc, rfl, hc⟩ := hI.at _ _ hv
    have hcm := List.mem_of_getElem? hc
    have hk3' : k ∈ [0, 1, 2] := by
      have : k < 3 := hk3
      simp only [List.mem_cons, List.not_mem_nil, or_false]
      omega
    have hix := cardIx_ok key hk c hcm
    have hix2 : cardIx key c < ((signs3.length : Nat) : Int) := by rw [show ((signs3.length : Nat) : Int) = 3 by decide]; exact hix.2
    have hpl := cardP_len key hk k hk3' c hcm
    refine wb_local (by kpf_close) (ws_weak (mc' := []) (m' := [("corner", .int c), ("word", .str (cardP key k)), ("key", .int key)]) .nil (.of (.inr rfl) (h1.cons rfl)) (fun _ h => h) ?_)
    refine ws_setE (by kpf_close) rfl (fun hk τ ρ => ge_call hk (wn_builtin (by k_is) (by kpf_close) (by kpf_close) (by decide) (by decide) hk) wf_builtin rfl (ga_pure (lk_F hk) (by kpf_close) (by isplit) (wc_min2 ?_)) (fun _ => rfl))
    refine ws_setE (by kpf_close) rfl (fun hk τ ρ => ge_bin (ge_bin (ge_pure (lk_F hk) (by kpf_close) ?s1 (ge_call hk (wn_builtin (by k_is) (by kpf_close) (by kpf_close) (by decide) (by decide) hk) wf_builtin rfl (ga_cons (ge_call hk (wn_builtin (by k_is) (by kpf_close) (by kpf_close) (by decide) (by decide) hk) wf_builtin rfl (ga_pure (lk_F hk) (by kpf_close) (by isplit) (wc_max2 ?_)) (fun _ => rfl)) rfl) (fun _ => rfl)))))
    case s1 => isplit
    refine ga_cons (ge_pure (lk_F hk) (by kpf_close) (by isplit) (ga_nil (wc_min2 (gb_pure (by kpf_close) ?s2 (ge_pure (lk_F hk) (by kpf_close) (by isplit) (gb_pure (by kpf_close) (by isplit) ?_)))))) rfl
    case s2 => exact IntMulOk.of_left hm2
    refine ws_setE (by kpf_close) rfl (fun hk τ ρ => ge_bin (ge_pure (lk_F hk) (by kpf_close) (by isplit) (ge_strI (sv := signs3) (i := cardIx key c) (lk_F hk) (by kpf_close) (by isplit) (by kpf_close) (by isplit) hix.1 hix2 (by decide) (gb_str ?s3 ?_) (fun _ _ => by kpf_close) (fun _ _ => by kpf_close))))
    case s3 => exact Nat.le_trans hpl (by decide)
    rw [← cardP_next hc]
    exact ws_nil (.mk (.of (.inl rfl) (.of (.inl rfl) .nil)) rfl)
end
end
section
example : PySem.Challenge.rw_uj0005_01.row.prog = PySem.Challenge.rw_uj0005_01.row.prog ∧ hd.heap_1 = hd.heap_1 := by
  k_fill
  exact ⟨rfl, rfl⟩
section
variable {w : World} {p : Program} {loose : List Str} {mean : ExcName → Option Value} {mg mb : Str → Option Value} {D U : Nat}
variable {X : Cx w p loose mean mg mb D U} {cs : Scope} {Q : FinS → Prop} {mc m : Loc} {N : Led} {en : Env} {f : Str → Option Value} {lk : Str → Option VC}
def R4 (z0 z1 z2 z3 : Int) : Prop := 0 ≤ z3 ∧ z3 < z2 ∧ z2 < z1 ∧ z1 < z0 ∧ z0 < 27
theorem lw4 {l ls lr : Addr} {wr z0 z1 z2 z3 : Int} {t0 t1 t2 t3 : Tok} {n : Nat} (hR : R4 z0 z1 z2 z3) (hl : (l, lsO [.int z0 t0, .int z1 t1, .int z2 t2, .int z3 t3] n) ∈ N) (go : WS X lawScope Q (mcW wr lr) (mRk l ls) N (lawBody.drop 9)) :
    WS X lawScope Q (mcW wr lr) (("number", .int 0) :: mRk l ls) N (lawBody.drop 8) := by
  obtain ⟨h1, h2, h3, h4, h5⟩ := hR
  refine ws_ifF (wt_of fun hk τ ρ => gt_or2 (gt_cmpE (ge_pure (lk_F hk) (by kpf_close) (by isplit) (ge_pure (lk_F hk) (by kpf_close) (by isplit) (gc_pure (b := false) rfl ?_))) (by kpf_close)))
  show GT _ _ _ _ _ _ _ _
  refine gt_not (gt_chain (ge_item (lk_F hk) (by kpf_close) (by isplit) (by kpf_close) (by isplit) hl (by decide) (by decide) rfl (gtc_link (ge_item (lk_F hk) (by kpf_close) (by isplit) (by kpf_close) (by isplit) hl (by decide) (by decide) rfl (gc_ii (b := true) (congrArg some (decide_eq_true h4)) ?_) (fun _ => by kpf_close))) (fun _ => by kpf_close)) (by kpf_close))
  show GTC _ _ _ _ _ _ _ _ _ _ _
  refine gtc_link (ge_item (lk_F hk) (by kpf_close) (by isplit) (by kpf_close) (by isplit) hl (by decide) (by decide) rfl (gc_ii (b := true) (congrArg some (decide_eq_true h3)) ?_) (fun _ => by kpf_close))
  show GTC _ _ _ _ _ _ _ _ _ _ _
  refine gtc_last (ge_item (lk_F hk) (by kpf_close) (by isplit) (by kpf_close) (by isplit) hl (by decide) (by decide) rfl (gc_ii (b := true) (congrArg some (decide_eq_true h2)) ?_) (fun _ => by kpf_close))
  exact ⟨rfl, ws_nil (ws_weak (.of (.inl rfl) (.of (.inl rfl) .nil)) (.of (.inl rfl) (.of (.inl rfl) (.of (.inl rfl) .nil))) (fun _ h => h) go)⟩
end
end
section
example : PySem.Challenge.rw_uj0005_01.row.prog = PySem.Challenge.rw_uj0005_01.row.prog ∧ hd.heap_1 = hd.heap_1 := by
  k_fill
  exact ⟨rfl, rfl⟩
section
variable {w : World} {p : Program} {loose : List Str} {mean : ExcName → Option Value} {mg mb : Str → Option Value} {D U : Nat}
variable {X : Cx w p loose mean mg mb D U} {cs : Scope} {mc m : Loc} {N : Led} {en : Env} {f : Str → Option Value} {lk : Str → Option VC}
theorem wc_max3 {a b c : UInt64} {Q : VC → Led → Prop} (H : Q (.float (mx3 a b c)) N) : WC X cs mc N (.builtin "max") [.float a, .float b, .float c] Q := by
  intro hk σ m h t E at_
  obtain ⟨co, c1, c4, c2, c3⟩ := at_.C
  exact max3_f rfl at_.F c2 fun h' tk v F' N2 => .mk (.float (mx3 a b c)) v N h' tk ⟨F', at_.D, co, c1, c4, N2, c3⟩ H
theorem wc_min3 {a b c : UInt64} {Q : VC → Led → Prop} (H : Q (.float (mn3 a b c)) N) : WC X cs mc N (.builtin "min") [.float a, .float b, .float c] Q := by
  intro hk σ m h t E at_
  obtain ⟨co, c1, c4, c2, c3⟩ := at_.C
  exact min3_f rfl at_.F c2 fun h' tk v F' N2 => .mk (.float (mn3 a b c)) v N h' tk ⟨F', at_.D, co, c1, c4, N2, c3⟩ H
theorem rgb_n {news : Led} {r g b h s v : UInt64} {t1 t2 t3 : Tok} (hM : rgbM r g b = some (h, s, v)) :
    Con w p loose mean mg mb (.ref 21) [.float r t1, .float g t2, .float b t3] [] 1 8 news (Tup3 news h s v) := by
  refine' con_def (D := 0) (U := 5) [("b", .val (.float b t3)), ("g", .val (.float g t2)), ("r", .val (.float r t1))] ?k6 ?k7 ?k9 ?kB ?km ?_ ?c2 ?c3 ?c4 ?c5
  case k6 => k_is
  case k7 => k_is
  case k9 => exact (fun s _ => BindsTo.of_eq rfl)
  case km => rfl
  case c5 => decide
  case kB => exact locs rfl
  case c2 => exact rfl
  case c3 => exact rfl
  case c4 => exact rfl
  intro X hX hH
  refine ws_setE (by kpf_close) rfl (we_call (wn_builtin (by k_is) (by kpf_close) (by kpf_close) (by decide) (by decide)) wf_builtin (by kpf_close) (by isplit) (wc_max3 ?_) rfl (fun _ => rfl))
  refine ws_setE (by kpf_close) rfl (we_call (wn_builtin (by k_is) (by kpf_close) (by kpf_close) (by decide) (by decide)) wf_builtin (by kpf_close) (by isplit) (wc_min3 ?_) rfl (fun _ => rfl))
  tbn_conj
  tbn_conj
  refine ws_if (by kpf_close) (by isplit) (fun hs => ?_) fun hs => ws_nil ?_
  · exact ws_ret3 (by kpf_close) (by isplit) (rgb_v hM hs) fun _ _ h => h
  have hw := rgb_w hM hs
  obtain ⟨hf1, hf2⟩ := rgbM_fin hM hs
  tbn_conj
  tbn_conj
  tbn_conj
  tbn_conj
  have hend : ∀ {m : Loc} {z : UInt64}, Sub [("h", .float z), ("s", .float (Float64.div (Float64.sub (mx3 r g b) (mn3 r g b)) (mx3 r g b))), ("v", .float (mx3 r g b))] m → some (hueM z, Float64.div (Float64.sub (mx3 r g b) (mn3 r g b)) (mx3 r g b), mx3 r g b) = some (h, s, v) → WS X (dScope 1) (Done (Tup3 news h s v)) [] m news ((dBody 1).drop 10) := by
    intro m z hm he
    refine ws_weak .nil hm (fun _ h => h) ?_
    tbn_conj
    exact ws_ret3 (by kpf_close) (by isplit) he fun _ _ h => h
  refine ws_if (by kpf_close) (by isplit) (fun h1 => ?_) fun h1 => ?_
  · tbn_conj
    exact ws_nil (hend (.of (.inl rfl) (.of (.inl rfl) (.of (.inl rfl) .nil))) ((if_pos h1).symm.trans hw))
  refine ws_if (by kpf_close) (by isplit) (fun h2 => ?_) fun h2 => ?_
  · tbn_conj
    exact ws_nil (ws_nil (hend (.of (.inl rfl) (.of (.inl rfl) (.of (.inl rfl) .nil))) ((if_pos h2).symm.trans ((if_neg (bF h1)).symm.trans hw))))
  · tbn_conj
    exact ws_nil (ws_nil (hend (.of (.inl rfl) (.of (.inl rfl) (.of (.inl rfl) .nil))) ((if_neg (bF h2)).symm.trans ((if_neg (bF h1)).symm.trans hw))))
end
end
section
example : PySem.Challenge.rw_uj0005_01.row.prog = PySem.Challenge.rw_uj0005_01.row.prog ∧ hd.heap_1 = hd.heap_1 := by
  k_fill
  exact ⟨rfl, rfl⟩
section
variable {w : World} {p : Program} {loose : List Str} {mean : ExcName → Option Value} {mg mb : Str → Option Value} {D U : Nat}
variable {X : Cx w p loose mean mg mb D U} {cs : Scope} {Q : FinS → Prop} {mc m : Loc} {N : Led} {en : Env} {f : Str → Option Value} {lk : Str → Option VC}
inductive P3 (X : Cx w p loose mean mg mb D U) (cs : Scope) (Q : FinS → Prop) (mc m : Loc) (x y z : Str) (rest : List Stmt) : VC → Led → Prop
  | lst (d : Addr) (u v r : Value) (n : Nat) (N : Led) (hd : (d, lsO [u, v, r] n) ∈ N) (h : WB X cs mc m N x (.val u) fun mc' m' => WB X cs mc' m' N y (.val v) fun mc' m' => WB X cs mc' m' N z (.val r) fun mc' m' => WS X cs Q mc' m' N rest) : P3 X cs Q mc m x y z rest (.val (.ref d)) N
  | tup (d : Addr) (u v r : Value) (N : Led) (hd : (d, tupO [u, v, r]) ∈ N) (h : WB X cs mc m N x (.val u) fun mc' m' => WB X cs mc' m' N y (.val v) fun mc' m' => WB X cs mc' m' N z (.val r) fun mc' m' => WS X cs Q mc' m' N rest) : P3 X cs Q mc m x y z rest (.val (.ref d)) N
theorem put3_go {x y z : Str} {p1 p2 p5 : Pos} {rest : List Stmt} {u v r : Value} {h : Heap} {t : Nat} {E : Value → Shared → Prop} {τ : Str → Nat} {ρ : Str → Option Value} (hQ : WB X cs mc m N x (.val u) fun mc' m' => WB X cs mc' m' N y (.val v) fun mc' m' => WB X cs mc' m' N z (.val r) fun mc' m' => WS X cs Q mc' m' N rest) (hk : cs.kind = .function) (a : At X (m.at τ ρ) mc N h) :
    wpAny X.M (X.A cs) (assignInOrder ((assignEach [.Name x p1, .Name y p2, .Name z p5] (X.env cs)).map (·.2)) [u, v, r]) (fun _ s' => SP X (Thn X cs Q rest) .next s') E (X.s h t) := by
  refine assignInOrder_cons (assign_Name (wpAny_mono (hQ hk τ ρ 0 h t E a) ?_ fun _ _ x => x))
  refine BP.el ?_; intro mc' m' h3 t3 τ' ρ' a3 hQ
  refine assignInOrder_cons (assign_Name (wpAny_mono (hQ hk τ' ρ' 0 h3 t3 E a3) ?_ fun _ _ x => x))
  refine BP.el ?_; intro mc' m' h3 t3 τ' ρ' a3 hQ
  refine assignInOrder_cons (assign_Name (wpAny_mono (hQ hk τ' ρ' 0 h3 t3 E a3) ?_ fun _ _ x => x))
  refine BP.el ?_; intro mc' m' h3 t3 τ' ρ' a3 hQ
  exact assignInOrder_nil (.next mc' m' N h3 t3 τ' ρ' a3 hQ)
theorem ws_put3 {x y z : Str} {p1 p2 p3 p4 p5 : Pos} {k : Nat} {e : Expr} {rest : List Stmt} (h : WE X cs mc m N e (P3 X cs Q mc m x y z rest))
    (hs : ∀ en, swapsWithSole [.Tuple [.Name x p1, .Name y p2, .Name z p5] k p3] e p4.line en = pure false) (hw : ∀ en, swappedStores [.Tuple [.Name x p1, .Name y p2, .Name z p5] k p3] e en = pure none) : WS X cs Q mc m N (.Assign [.Tuple [.Name x p1, .Name y p2, .Name z p5] k p3] e p4 :: rest) := by
  refine ws_cons ?_
  intro hk τ ρ hp t E a
  refine Assign_Tuple (wpAny_mono (h hk τ ρ hp t E a) ?_ fun _ _ x => x) (hs _) (hw _)
  refine EP.el ?_; intro c k N2 h2 t2 a2 q
  obtain ⟨co, c1, c4, c2, c3⟩ := a2.C
  cases q with
  | lst d u v r n _ hd hQ => exact kun_list a2.F c2 (items := [u, v, r].toArray) (isl hd a2) rfl rfl rfl fun h' F' N' => put3_go hQ hk ⟨F', a2.D, co, c1, c4, N', c3⟩
  | tup d u v r _ hd hQ => exact unpackN_ a2.F c2 (items := [u, v, r].toArray) ⟨_, (a2.N _ hd).1, rfl, _, rfl⟩ rfl rfl rfl fun h' F' N' => put3_go hQ hk ⟨F', a2.D, co, c1, c4, N', c3⟩
theorem wc_tup3 {fv : Value} {cls : List VC} {a b c : UInt64} {D' U' : Nat} {Q : VC → Led → Prop} (C : ∀ σ co, HidOK X mc N co → Con w p loose mean mg mb fv (atl cls σ 0) [] D' U' (N ++ co) (Tup3 (N ++ co) a b c)) (hD : Nat.ble D' D = true) (hU : Nat.ble U' U = true)
    (h : ∀ d u v r, Q (.val (.ref d)) ((d, tupO [.float a u, .float b v, .float c r]) :: N)) : WC X cs mc N fv cls Q :=
  wc_con1 C (fun co v N2 ⟨d, u, v', r, e, hlt, e2⟩ => ⟨d, _, e2, hlt, by rw [e]; exact h d u v' r⟩) hD hU
theorem ge_cS {elt : Expr} {x : Str} {px pos pi : Pos} {sc : Scope} {f : Str → Option Value} {Q : VC → Led → Prop} {y tx : Str} {lk : Str → Option VC} (hlk : Lk X cs (X.env cs) f mc lk) (hy : lk y = some (.str tx)) (h : CompS X cs sc f mc x elt Q (.str tx) N) (hfr : ∀ q ∈ sc.names, q.2 = .free → (X.cl.lookup q.1).isSome = true)
    (h1 : ∀ y ∈ sc.names, y.2 ≠ .cell) (h2 : sc.kind = .function) (h3 : ∀ y ∈ sc.names, y.2 = .local → List.lookup y.1 sc.names = some .local) (h4 : List.lookup x sc.names = some .local) :
    GE X cs (X.env cs) f mc N (.ListComp elt [{ target := .Name x px, iter := .Name y pi, ifs := [], is_async := 0 }] sc pos) Q :=
  ge_compS (ge_pure (ps := []) hlk (by show p0 (lk y) = _; rw [hy]; rfl) trivial ⟨tx, fun k => ⟨_, rfl⟩, h⟩) hfr h1 h2 h3 h4 fun _ _ => rfl
theorem ge_listG {es : List Expr} {p1 : Pos} {Q : VC → Led → Prop} (H : GA X cs en f mc N es fun cls N' => Nat.ble cls.length 1000 = true ∧ ∀ d σ, (∀ q ∈ N', q.1 < d) → Q (.val (.ref d)) ((d, lsO (atl cls σ 0) 0) :: N')) : GE X cs en f mc N (.List es p1) Q := by
  intro h t E a
  refine List_ (wpAny_mono (H p1 h t E a) ?_ fun _ _ x => x)
  refine AP.el ?_; intro l σ N2 h2 t2 a2 q9; obtain ⟨hz, hQ⟩ := q9
  obtain ⟨co, c1, c4, c2, c3⟩ := a2.C
  exact newList_K a2.F c2 (fun D h' F' N' hlt => .mk (.val (.ref D)) 0 _ h' t2 ⟨F', a2.D, co, c1, c4, N', off_cons c3 hlt⟩ (hQ D σ fun q hq => hlt q (List.mem_append_left _ hq))) (by rw [atl_len]; exact Nat.le_trans (Nat.le_of_ble_eq_true hz) (by decide))
theorem ge_cut {l r r2 : Expr} {pos p2 : Pos} {i j : Int} {a : Addr} {vs : List Value} {n : Nat} {ps qs rs : List Prop} {Q : VC → Led → Prop} (hlk : Lk X cs en f mc lk) (he : pev lk 12 l = some (.val (.ref a), ps)) (hp : Alls ps) (hi : pev lk 12 r = some (.int i, qs)) (hq : Alls qs) (hj : pev lk 12 r2 = some (.int j, rs)) (hr : Alls rs) (hm : (a, lsO vs n) ∈ N) (hz : vs.length ≤ sizeLine)
    (hQ : ∀ d, (∀ q ∈ N, q.1 < d) → Q (.val (.ref d)) ((d, lsO (kms_pick vs (some i) (some j)) 0) :: N))
    (hs : ∀ a b, subscripted (.Slice (some r) (some r2) none p2) false (.ref a) (.ref b) = operate [.ref b, .ref a] (getItem (.ref a) (.ref b))) : GE X cs en f mc N (.Subscript l (.Slice (some r) (some r2) none p2) pos) Q := by
  intro hp' t E a2
  refine Subscript_ (pev_ok hlk a2 12 l he hp fun _ _ => wpAny_Slice (evalPart_some_step (pev_ok hlk a2 12 r hi hq fun k' t' => evalPart_some_step (pev_ok hlk a2 12 r2 hj hr fun k2 t2 => evalPart_none_step ?_))))
  obtain ⟨co, c1, c4, c2, c3⟩ := a2.C
  refine kba_turn (value' := .Name "_" ⟨0, 0, 0, 0⟩) (fun _ => rfl) ?_
  exact kms_slice_lit (s := X.s hp' t2) a2.F c2 (isl hm a2) (.int i k') (.int j k2) rfl (fun d h' F' N' hlt => .mk (.val (.ref d)) 0 _ h' t2 ⟨F', a2.D, co, c1, c4, N', off_cons c3 hlt⟩ (hQ d fun q hq => hlt q (List.mem_append_left _ hq))) (hs _ _) (fun _ => rfl) (by simpa using hz)
theorem bisl_row {news : Led} {l : Addr} {vs : List Value} {n : Nat} {r : Int} {t2 : Tok} (hm : (l, lsO vs n) ∈ news) (hI : IntsAre vs rowM) (hr : 0 ≤ r ∧ r < 27) :
    Con w p loose mean mg mb (.ref 106) [.ref l, .int (keyM r) t2] [] 1 8 news (fun x n' => (∃ t, x = .int r t) ∧ n' = news) := by
  refine (bisl_n hm hI (by rw [rowM_len]; decide) row_sorted).post (fun _ h => h) ?_
  rintro x n' ⟨⟨k, t, rfl, hB⟩, rfl⟩
  exact ⟨n', fun _ h => h, ⟨t, by rw [br_row hr hB]⟩, rfl⟩
theorem pick_row {vs : List Value} {r : Int} (hI : IntsAre vs rowM) (hr : 0 ≤ r ∧ r < 27) : IntsAre (kms_pick vs (some r) (some (r + 1))) [keyM r] := by
  have h := kmk_run hI hr.1 (Int.le_add_one hr.1)
  rw [kms_pick_eq, row_cut hr] at h
  exact h
theorem no_free {X : Cx w p loose mean mg mb D U} {sc : Scope} (h : (sc.names.all fun q => q.2 != .free) = true) : ∀ q ∈ sc.names, q.2 = .free → (X.cl.lookup q.1).isSome = true := fun q hq e => by
  have := List.all_eq_true.mp h q hq
  rw [e] at this
  cases this
variable {Y : Cx w p loose mean mg mb 5 397} {l : Addr} {vs : List Value} {n : Nat} {h s v : UInt64} {r q0 q1 q2 : Int}
set_option maxHeartbeats 2000000 in
theorem rank_n2 (hm : (l, lsO vs n) ∈ N) (hI : IntsAre vs rowM) (hr : 0 ≤ r ∧ r < 27)
    (hn1 : Float64.isFinite (nearM h 12) = true ∧ Flt.toInt Float64.truncOf (nearM h 12) = q0) (hn2 : Float64.isFinite (nearM s 2) = true ∧ Flt.toInt Float64.truncOf (nearM s 2) = q1) (hn3 : Float64.isFinite (nearM v 2) = true ∧ Flt.toInt Float64.truncOf (nearM v 2) = q2) (hq : (9 * q0 + 3 * q1 + q2).fdiv (2 ^ Int.toNat 20) = keyM r) (hz : [(keyM r).fdiv 9 * 2 ^ Int.toNat 20, ((keyM r).fdiv 3).fmod 3 * 2 ^ Int.toNat 20, (keyM r).fmod 3 * 2 ^ Int.toNat 20] = [q0, q1, q2]) :
    WS Y (dScope 24) (Done fun x n' => (∃ t, x = .int r t) ∧ n' = N) [] [("value", .float v), ("share", .float s), ("hue", .float h), ("row", .val (.ref l))] N ((dBody 24).drop 2) := by
  refine ws_setE (by kpf_close) rfl (fun hk τ ρ => ge_listG (ga_cons (ge_call hk (wn_def (by k_is) (by kpf_close) (by decide) hk) (wf_def (by k_is)) rfl (ga_pure (lk_F hk) (by kpf_close) (by isplit) (wc_int (fun σ co _ => near_n (x := h) (u := 12) (by decide) hn1.1 hn1.2) rfl rfl ?_)) (fun _ => rfl)) rfl))
  refine ga_cons (ge_call hk (wn_def (by k_is) (by kpf_close) (by decide) hk) (wf_def (by k_is)) rfl (ga_pure (lk_F hk) (by kpf_close) (by isplit) (wc_int (fun σ co _ => near_n (x := s) (u := 2) (by decide) hn2.1 hn2.2) rfl rfl ?_)) (fun _ => rfl)) rfl
  refine ga_cons (ge_call hk (wn_def (by k_is) (by kpf_close) (by decide) hk) (wf_def (by k_is)) rfl (ga_pure (lk_F hk) (by kpf_close) (by isplit) (wc_int (fun σ co _ => near_n (x := v) (u := 2) (by decide) hn3.1 hn3.2) rfl rfl (ga_nil ⟨rfl, fun lt σ _ => ?_⟩))) (fun _ => rfl)) rfl
  have hT : IntsAre (atl [.int q0, .int q1, .int q2] σ 0) [q0, q1, q2] := .cons _ _ (.cons _ _ (.cons _ _ .nil))
  generalize atl [.int q0, .int q1, .int q2] σ 0 = vT at hT
  refine ws_setE (by kpf_close) rfl (fun hk τ ρ => ge_bin (ge_bin (ge_bin (ge_bin (ge_pure (lk_F hk) (by kpf_close) (by isplit) (ge_itemI (lk_F hk) (by kpf_close) (by isplit) (by kpf_close) (by isplit) (.head _) hT (by decide) (by decide) rfl (gb_pure (by kpf_close) (by isplit) ?_) (fun _ => by kpf_close)))))))
  refine ge_bin (ge_pure (lk_F hk) (by kpf_close) (by isplit) (ge_itemI (lk_F hk) (by kpf_close) (by isplit) (by kpf_close) (by isplit) (.head _) hT (by decide) (by decide) rfl (gb_pure (by kpf_close) (by isplit) (gb_pure (by kpf_close) (by isplit) (ge_itemI (lk_F hk) (by kpf_close) (by isplit) (by kpf_close) (by isplit) (.head _) hT (by decide) (by decide) rfl (gb_pure (by kpf_close) (by isplit) (ge_pure (lk_F hk) (by kpf_close) (by exact ⟨by decide, (by decide +kernel : (Builtin.Int.intBits 2 : Int) * 20 ≤ 2 ^ 27)⟩) (gb_pure (by kpf_close) (by isplit) ?_))) (fun _ => by kpf_close)))) (fun _ => by kpf_close)))
  rw [hq]
  refine ws_setE (by kpf_close) rfl (we_call (wn_def (by k_is) (by kpf_close) (by decide)) (wf_def (by k_is)) (by kpf_close) (by isplit) (wc_int (fun σ co _ => bisl_row (List.mem_append_left _ (.tail _ hm)) hI hr) rfl rfl ?_) rfl (fun _ => rfl))
  refine ws_ifF (wt_of fun hk τ ρ => gt_or2 (gt_cmpE (ge_cut (lk_F hk) (by kpf_close) (by isplit) (by kpf_close) (by isplit) (by kpf_close) (by isplit) (.tail _ hm) (by rw [hI.length, rowM_len]; decide) (fun d hd => ge_list (cls := [.int (keyM r)]) (lk_F hk) (by kpf_close) (by isplit) rfl fun d2 σ hd2 => gc_ne_ints (.tail _ (.head _)) (.head _) (pick_row hI hr) (.cons _ _ .nil) rfl ?_) (fun _ _ => by kpf_close)) (by kpf_close)))
  show GT _ _ _ _ _ _ _ _
  refine gt_cmpE (ge_pure (lk_F hk) (by kpf_close) (by isplit) (ge_comp (ge_list (cls := [.int ((keyM r).fdiv 9), .int (((keyM r).fdiv 3).fmod 3), .int ((keyM r).fmod 3)]) (lk_F hk) (by kpf_close) (by isplit) rfl fun d3 σ3 hd3 => .mk d3 [.int ((keyM r).fdiv 9) (σ3 0), .int (((keyM r).fdiv 3).fmod 3) (σ3 1), .int ((keyM r).fmod 3) (σ3 2)] 0 (MapI (fun z => z * 2 ^ Int.toNat 20) [(keyM r).fdiv 9, ((keyM r).fdiv 3).fmod 3, (keyM r).fmod 3] _) _ ⟨rfl, .nil⟩ (fun i ys N h => by rw [h.1]; exact .head _) (by decide : 3 ≤ sizeLine) ?turn2 ?done2) (no_free (by decide +kernel)) (by decide) rfl (by decide) (by kpf_close) (fun _ _ => rfl))) (by kpf_close)
  case turn2 =>
    intro i ys N2 v2 Y en hi2 hv2 hJ2 hE2
    have hI3 : IntsAre [.int ((keyM r).fdiv 9) (σ3 0), .int (((keyM r).fdiv 3).fmod 3) (σ3 1), .int ((keyM r).fmod 3) (σ3 2)] [(keyM r).fdiv 9, ((keyM r).fdiv 3).fmod 3, (keyM r).fmod 3] := .cons _ _ (.cons _ _ (.cons _ _ .nil))
    obtain ⟨z, tz, rfl, hz2⟩ := hI3.at _ _ hv2
    obtain ⟨rfl, _⟩ := id hJ2
    refine ge_pure hE2.lk (by kpf_close) (by exact ⟨by decide, (by decide +kernel : (Builtin.Int.intBits 2 : Int) * 20 ≤ 2 ^ 27), IntMulOk.of_right (by decide +kernel)⟩) ?_
    exact fun k => hJ2.next (t := k) hz2
  case done2 =>
    rintro ys2 N2 D2 ⟨rfl, hy⟩ hd2
    replace hy : IntsAre ys2 [(keyM r).fdiv 9 * 2 ^ Int.toNat 20, ((keyM r).fdiv 3).fmod 3 * 2 ^ Int.toNat 20, (keyM r).fmod 3 * 2 ^ Int.toNat 20] := hy
    rw [hz] at hy
    exact gc_ne_ints (.tail _ (.tail _ (.tail _ (.tail _ (.head _))))) (.head _) hT hy rfl ⟨rfl, ws_nil (ws_ret (by kpf_close) (by isplit) ⟨N, fun q hq => .tail _ (.tail _ (.tail _ (.tail _ (.tail _ hq)))), fun k => ⟨⟨k, rfl⟩, rfl⟩⟩)⟩
set_option maxHeartbeats 2000000 in
theorem rank_n {news : Led} {l : Addr} {vs : List Value} {n : Nat} {word : Str} {a b c : Nat} {h s v : UInt64} {r q0 q1 q2 : Int} {t : Tok} (hm : (l, lsO vs n) ∈ news) (hI : IntsAre vs rowM) (hr : 0 ≤ r ∧ r < 27) (hw : word.cps = #[a, b, c]) (hsg : ∀ (i : Nat) (c : Nat), word.cps[i]? = some c → c ∈ [10, 34, 92]) (hM : rgbM (flM a) (flM b) (flM c) = some (h, s, v))
    (hn1 : Float64.isFinite (nearM h 12) = true ∧ Flt.toInt Float64.truncOf (nearM h 12) = q0) (hn2 : Float64.isFinite (nearM s 2) = true ∧ Flt.toInt Float64.truncOf (nearM s 2) = q1) (hn3 : Float64.isFinite (nearM v 2) = true ∧ Flt.toInt Float64.truncOf (nearM v 2) = q2) (hq : (9 * q0 + 3 * q1 + q2).fdiv (2 ^ Int.toNat 20) = keyM r) (hz : [(keyM r).fdiv 9 * 2 ^ Int.toNat 20, ((keyM r).fdiv 3).fmod 3 * 2 ^ Int.toNat 20, (keyM r).fmod 3 * 2 ^ Int.toNat 20] = [q0, q1, q2]) (hi : ∀ c ∈ [10, 34, 92], ¬ Float64.isInf (flM c) = true) :
    Con w p loose mean mg mb (.ref 186) [.ref l, .str word t] [] 6 400 news (fun x n' => (∃ t, x = .int r t) ∧ n' = news) := by
  refine' con_def (D := 5) (U := 397) [("word", .val (.str word t)), ("row", .val (.ref l))] ?k6 ?k7 ?k9 ?kB ?km ?_ ?c2 ?c3 ?c4 ?c5
  case k6 => k_is
  case k7 => k_is
  case k9 => exact (fun s _ => BindsTo.of_eq rfl)
  case km => rfl
  case c5 => decide
  case kB => exact locs rfl
  case c2 => exact rfl
  case c3 => exact rfl
  case c4 => exact rfl
  intro X hX hH
  have hw3 : word.cps.size ≤ sizeLine := by rw [hw]; exact (by decide : 3 ≤ sizeLine)
  refine ws_put3 (fun hk τ ρ => ge_cS (lk_F hk) (by kpf_close) (.mk word (FJ word news) news ⟨rfl, rfl, fun _ _ h => absurd h (Nat.not_lt_zero _)⟩ hw3 ?turn ?done) (no_free (by decide +kernel)) (by decide) rfl (by decide) (by kpf_close)) (fun _ => rfl) (fun _ => rfl)
  case turn =>
    intro i ys N c u Y en hi' hc hJ hE
    obtain ⟨rfl, _⟩ := id hJ
    have hs := hsg _ _ hc
    refine ge_bin (ge_methS (sv := signs3) hk hE.lk (by kpf_close) (by isplit) PySem.GM.index ?_ rfl (fun _ => ⟨_, rfl⟩))
    refine ga_pure (cls := [.str ⟨#[c]⟩]) hE.lk (by kpf_close) (by isplit) ?_
    refine wc_index (find_ix _ hs) ?_
    have e := fl_ix c hs
    refine ge_pure hE.lk (by kpf_close) (by isplit) (gb_div (by decide) (by have := hi c hs; rw [e] at this; exact this) fun k => hJ.next hc e)
  case done =>
    rintro ys N1 D1 hJ hd
    obtain ⟨rfl, _⟩ := id hJ
    rw [hw] at hJ
    obtain ⟨u0, u1, u2, rfl⟩ := hJ.three hw
    refine .lst D1 _ _ _ 3 _ (.head _) (wb_local (by kpf_close) (wb_local (by kpf_close) (wb_local (by kpf_close) ?_)))
    refine ws_put3 (we_call (wn_def (by k_is) (by kpf_close) (by decide)) (wf_def (by k_is)) (by kpf_close) (by isplit) (wc_tup3 (fun σ co _ => rgb_n hM) rfl rfl fun d2 w0 w1 w2 => .tup d2 _ _ _ _ (.head _) (wb_local (by kpf_close) (wb_local (by kpf_close) (wb_local (by kpf_close) ?_)))) rfl (fun _ => rfl)) (fun _ => rfl) (fun _ => rfl)
    refine ws_weak (m' := [("value", .float v), ("share", .float s), ("hue", .float h), ("row", .val (.ref l))]) (N' := N1) .nil (.of (.inr rfl) (.of (.inr rfl) (.of (.inr rfl) (.of (.inl rfl) .nil)))) (fun q hq => .tail _ (.tail _ hq)) ?_
    exact rank_n2 hm hI hr hn1 hn2 hn3 hq hz
theorem fl_fin : ∀ c ∈ [10, 34, 92], ¬ Float64.isInf (flM c) = true := by decide +kernel
theorem rank_nL {led : Led} {l : Addr} {vs : List Value} {n : Nat} {r : Int} {t : Tok} (hm : (l, lstO vs n) ∈ led) (hI : IntsAre vs rowM) (hr : 0 ≤ r ∧ r < 27) :
    Con w p loose mean mg mb (.ref 186) [.ref l, .str (cardR r) t] [] 6 400 led (fun x n' => (∃ t, x = .int r t) ∧ n' = led) := by
  obtain ⟨a, b, c, h, s, v, hw, hsg, hM, h1, h2, h3⟩ := rankChk_get hr
  exact rank_n hm hI hr hw (fun i c hc => by rcases hsg i c hc with rfl | rfl | rfl <;> decide) hM h1 h2 h3 (key_parts _ (key_mem hr)) rfl fl_fin
end
end
section
example : PySem.Challenge.rw_uj0005_01.row.prog = PySem.Challenge.rw_uj0005_01.row.prog ∧ hd.heap_1 = hd.heap_1 := by
  k_fill
  exact ⟨rfl, rfl⟩
section
variable {w : World} {p : Program} {loose : List Str} {mean : ExcName → Option Value} {mg mb : Str → Option Value} {D U : Nat}
variable {X : Cx w p loose mean mg mb D U} {cs : Scope} {Q : FinS → Prop} {mc m : Loc} {N : Led} {en : Env} {f : Str → Option Value} {lk : Str → Option VC}
theorem ge_fnm {ov e : Expr} {es : List Expr} {nm : Str} {f1 f2 ds : Addr} {o1 oD o2 : Obj} {mA : Str → Option Value} {p1 p2 : Pos} {Q : VC → Led → Prop} (hk : cs.kind = .function) (ho : GE X cs en f mc N ov fun c N' => c = .val (.ref f1) ∧ N' = N) (h1 : (f1, o1) ∈ N) (h2 : (ds, oD) ∈ N) (h3 : (f2, o2) ∈ N) (hs1 : o1.cls = .type "function" ∧ o1.dict = some ds ∧ ∀ c, o1.data ≠ .cls c) (hA : LCg.NsObj oD mA) (hv : mA nm = some (.ref f2)) (hB : typeLookup (.type "function") nm = pure none) (hf : ∃ oc od fd sl, o2 = (⟨oc, od, .func fd, sl⟩ : Obj))
    (h : GA X cs en f mc N (e :: es) fun cls N' => N' = N ∧ WC X cs mc N (.ref f2) cls Q) (hs : noStars (e :: es) = true)
    (hc : ∀ en : Env, ∃ pl, eval (.Call (.Attribute ov nm p1) (e :: es) [] p2) en = (do
      let o ← eval ov en
      standAt p1.atName
      let (f, first) ← holding [o] (getMethod o nm pl)
      callWith p2 f first (backTo p2 (starEach (e :: es) en)) [])) : GE X cs en f mc N (.Call (.Attribute ov nm p1) (e :: es) [] p2) Q := by
  intro h0 t E a
  have h' := Bool.and_eq_true_iff.mp hs
  obtain ⟨q1, q2, q3, q4, rfl⟩ := hf
  obtain ⟨pl, hpl⟩ := hc en
  refine MethodCall_ (wpAny_mono (ho h0 t E a) ?_ fun _ _ x => x) hpl
  refine EP.el ?_; intro c k N2 h2' t2 a2 q9; obtain ⟨rfl, rfl⟩ := q9
  refine fn_methodF (s := X.s h2' t2) a2.N h1 h2 hs1 hA hv hB fun tk => ?_
  refine callWith_F (FnAt.of a2.N h3) (wpAny_mono (h p2 h2' tk E a2) ?_ fun _ _ x => x) (noStar_ok h'.1 _ _) (plain_ok h'.2 _ _)
  refine AP.el ?_; intro l' σ N3 h3' t3 a3 q9; obtain ⟨rfl, hC⟩ := q9
  exact ⟨FnAt.of a3.N h3, hC hk σ _ h3' t3 E a3⟩
theorem updApp {d : Addr} {o o' : Obj} {l l' co : Led} (U : Upd d o o' l l') (h : ∀ q ∈ co, q.1 ≠ d) : Upd d o o' (l ++ co) (l' ++ co) := by
  induction U with
  | head h1 => exact .head fun q hq => (List.mem_append.mp hq).elim (h1 q) (h q)
  | tail h1 _ ih => exact .tail h1 ih
theorem w_lineno {L : Lex} (hL : L.Ok w p loose mean mg mb) {rest : Led} (hox : ∀ q ∈ rest, q.1 ≠ L.dx) {vs : List Value} {k : Nat} {n : Int} {tn : Tok} {p0 p1 p2 p3 : Pos} {k0 : Nat} (hm : lkF cs mc m "self" = some (.val (.ref L.x))) (h : ∀ tn', Q (.next mc m (L.hd vs k (n + 1) tn' ++ rest))) :
    W1 X cs Q mc m (L.hd vs k n tn ++ rest) (.AugAssign (.Attribute (.Name "self" p0) "lineno" p1) .Add (.Constant (.int 1) k0 p2) p3) := by
  intro hk τ ρ hp t E a
  refine wpAny_AugAssign_AttributeAny (pev_ok (ps := []) (lk_F hk) a 12 _ (by show Mine.p0 (lkF cs mc m "self") = _; rw [hm]; rfl) trivial fun _ t1 => ?_)
  have hI := InstAt.of_news a.N Lex.mx Lex.mdx
  refine get_own (s := X.s hp t1) (v := .int n tn) a.F X.X hI (by k_is) (by k_is) (by k_is) (by k_is) rfl rfl ?_
  refine const_int (PyProof.Rows.iadd_int ?_)
  obtain ⟨co, c1, c4, c2, c3⟩ := a.C
  have U := updApp (co := co) (Lex.upd (vs := vs) (k := k) (n := n) (tn := tn) (m := n + 1) (tm := t1 + 1 + 1) hL.ok.ne hox) fun q hq e => c3 _ Lex.mdx q hq e.symm
  show wpAny X.M (X.A cs) (setAttr (.ref L.x) "lineno" (.int (n + 1) (t1 + 1 + 1))) _ E (X.s hp (t1 + 1 + 1 + 1))
  refine' set_dict (s := X.s hp (t1 + 1 + 1 + 1)) a.F X.X c2 hI ?d1 ?d2 ?d3 ?d4 ?d5 ?d6 ?put U ?d7 ?_
  case d1 => exact rfl
  case d2 => k_is
  case d3 => k_is
  case d4 => k_is
  case d5 => k_is
  case d7 => exact Nat.le_of_ble_eq_true rfl
  case d6 => exact rfl
  case put => k_put
  exact fun h' F' N' => .next mc m _ h' _ τ ρ ⟨F', a.D, co, c1, c4, N', fun q hq r hr => by
    obtain ⟨o, ho⟩ := Lex.hkeys (vs' := vs) (k' := k) (n' := n) (tn' := tn) (A' := rest) (fun q hq => ⟨q.2, hq⟩) q hq
    exact c3 (q.1, o) ho r hr⟩ (h _)
theorem gt_chS {c y : Str} {k : Nat} {p1 p2 p3 : Pos} {Q : Bool → Led → Prop} (hlk : Lk X cs en f mc lk) (h1 : lk "ch" = some (.str c)) (h : Q (c == y) N) : GT X cs en f mc N (.Compare (.Name "ch" p1) [.Eq] [.Constant (.str y) k p2] p3) Q :=
  gt_cmpE (ge_pure (ps := []) hlk (by show p0 (lk "ch") = _; rw [h1]; rfl) trivial (ge_pure (ps := []) hlk rfl trivial fun _ _ hp t _ _ a H => PyProof.Rows.eq_str (H _ N hp t a h))) rfl
set_option maxHeartbeats 2000000 in
/-- _read_char -/
theorem rchar_L {L : Lex} (hL : L.Ok w p loose mean mg mb) {rest : Led} (hoD : ∀ q ∈ rest, q.1 ≠ L.D) (hox : ∀ q ∈ rest, q.1 ≠ L.dx) {cl : List Nat} {vs : List Value} {k : Nat} {n : Int} {tn : Tok} (hcs : cl.length ≤ 40) (hvs : StrsAre vs (cl.map oneS)) :
    Con w p loose mean mg mb (.ref 127) [.ref L.x] [] 6 200 (L.hd vs k n tn ++ rest) (fun r n' => ∃ t vs' k' tn', r = .str (hdS cl) t ∧ n' = L.hd vs' k' (n + nlS (hdS cl)) tn' ++ rest ∧ StrsAre vs' (cl.tail.map oneS)) := by
  refine' con_def (D := 5) (U := 197) [("self", .val (.ref L.x))] ?k6 ?k7 ?k9 ?kB ?km ?_ ?c2 ?c3 ?c4 ?c5
  case k6 => k_is
  case k7 => k_is
  case k9 => exact (fun s _ => BindsTo.of_eq rfl)
  case km => rfl
  case c5 => decide
  case kB => exact locs rfl
  case c2 => exact rfl
  case c3 => exact rfl
  case c4 => exact rfl
  intro X hX hH
  have hoff : ∀ co, HidOK X [] (L.hd vs k n tn ++ rest) co → ∀ q ∈ (L.dx, L.dct n tn) :: (L.x, instObj 144 L.dx) :: (L.f1, L.o1) :: (L.ds, L.oD) :: (rest ++ co), q.1 ≠ L.D := by
    obtain ⟨⟨n1, n2, n3, n4⟩, _⟩ := hL.ok.ne
    exact fun co hc => List.forall_mem_cons.mpr ⟨Ne.symm n1, List.forall_mem_cons.mpr ⟨Ne.symm n2, List.forall_mem_cons.mpr ⟨Ne.symm n3, List.forall_mem_cons.mpr ⟨Ne.symm n4, fun q hq => (List.mem_append.mp hq).elim (hoD q) fun hq e => hc.o (L.D, lsO vs k) (.head _) q hq e.symm⟩⟩⟩⟩
  refine ws_setE (by kpf_close) rfl (fun hk τ ρ => ge_fnm (f1 := L.f1) (f2 := L.f2) (ds := L.ds) (o1 := L.o1) (oD := L.oD) (o2 := L.o2) hk (ge_attr (l := L.x) (C := 144) (dx := L.dx) (lk_F hk) (by kpf_close) (by isplit) Lex.mx Lex.mdx (by k_is) (by k_is) (by k_is) (by k_is) rfl rfl ⟨rfl, rfl⟩ (fun _ => rfl)) (.tail _ (.tail _ (.tail _ (.tail _ (.tail _ (.tail _ (.head _))))))) (.tail _ (.tail _ (.tail _ (.tail _ (.tail _ (.tail _ (.tail _ (.head _)))))))) (.tail _ (.head _)) hL.ok.strm hL.ok.attr (if_pos rfl) fn_noread hL.ok.fn (ga_pure (cls := [.int 1]) (lk_F hk) (by kpf_close) (by isplit) ⟨rfl, wc_con (fun σ co hc => hL.ok.read ((L.dx, L.dct n tn) :: (L.x, instObj 144 L.dx) :: (L.f1, L.o1) :: (L.ds, L.oD) :: (rest ++ co)) cl vs k _ (hoff co hc) hcs hvs) ?_ rfl rfl⟩) rfl (fun _ => ⟨_, rfl⟩))
  rintro co _ N2 ⟨t, vs', k', rfl, rfl, hv⟩ _
  refine ⟨L.hd vs' k' n tn ++ rest, fun _ h => h, fun q hq => .inl (Lex.hkeys (fun q hq => ⟨q.2, hq⟩) q hq), ?_⟩
  show WS X _ _ _ [("ch", .val (.str (hdS cl) t)), ("self", .val (.ref L.x))] _ _
  refine ws_cons (w_if (wt_of fun hk τ ρ => gt_chS (lk_F hk) (by kpf_close) ?_))
  generalize hc : (hdS cl == ("\n" : Str)) = b
  cases b
  · refine ws_nil (ws_ret (by kpf_close) (by isplit) ⟨L.hd vs' k' n tn ++ rest, fun _ h => h, fun k2 => ⟨k2, vs', k', tn, rfl, ?_, hv⟩⟩)
    rw [show nlS (hdS cl) = 0 from if_neg (ne_true_of_eq_false hc), Int.add_zero]
  · refine ws_cons (w_lineno hL hox (by kpf_close) fun tn2 => ws_nil (ws_ret (by kpf_close) (by isplit) ⟨L.hd vs' k' (n + 1) tn2 ++ rest, fun _ h => h, fun k2 => ⟨k2, vs', k', tn2, rfl, ?_, hv⟩⟩))
    rw [show nlS (hdS cl) = 1 from if_pos hc]
end
end
section
example : PySem.Challenge.rw_uj0005_01.row.prog = PySem.Challenge.rw_uj0005_01.row.prog ∧ hd.heap_1 = hd.heap_1 := by
  k_fill
  exact ⟨rfl, rfl⟩
section
variable {w : World} {p : Program} {loose : List Str} {mean : ExcName → Option Value} {mg mb : Str → Option Value} {D U : Nat}
variable {X : Cx w p loose mean mg mb D U} {cs : Scope} {Q : FinS → Prop} {mc m : Loc} {N : Led} {en : Env} {f : Str → Option Value} {lk : Str → Option VC}
theorem w_cont {p1 : Pos} (h : Q (.cont mc m N)) : W1 X cs Q mc m N (.Continue p1) :=
  fun _ τ ρ hp t _ a => wpAny_Continue (.cont mc m N hp t τ ρ a h)
theorem gt_empty {e : Expr} {Q : Bool → Led → Prop} (h : GE X cs en f mc N e fun c N' => ∃ l n, c = .val (.ref l) ∧ (l, lsO [] n) ∈ N' ∧ Q false N') (he : ∀ wh : Sem Value, isTrue e en wh = (do let v ← wh; standAt e.pos; holding [v] (truthy v))) : GT X cs en f mc N e Q := by
  intro hp t E a
  refine wpAny_isTrue_value (wpAny_mono (h hp t E a) ?_ fun _ _ x => x) (he _)
  refine EP.el ?_; intro c k N2 h2 t2 a2 q9; obtain ⟨l, n, rfl, hm, q⟩ := q9
  exact wpAny_truthy_list (isl hm a2) (by decide) (.mk false N2 h2 _ a2 q)
theorem gt_some {e : Expr} {Q : Bool → Led → Prop} (h : GE X cs en f mc N e fun c N' => ∃ l v vs n, c = .val (.ref l) ∧ (l, lsO (v :: vs) n) ∈ N' ∧ (v :: vs).length ≤ sizeLine ∧ Q true N') (he : ∀ wh : Sem Value, isTrue e en wh = (do let v ← wh; standAt e.pos; holding [v] (truthy v))) : GT X cs en f mc N e Q := by
  intro hp t E a
  refine wpAny_isTrue_value (wpAny_mono (h hp t E a) ?_ fun _ _ x => x) (he _)
  refine EP.el ?_; intro c k N2 h2 t2 a2 q9; obtain ⟨l, v, vs, n, rfl, hm, hz, q⟩ := q9
  exact truthy_cons (s := X.s h2 t2) a2.N hm hz fun tk => .mk true N2 h2 tk a2 q
theorem ge_bound {x nm : Str} {p0 p1 : Pos} {l C dx g : Addr} {ds : List DictEntry} {n : Nat} {ps : List Prop} {Q : VC → Led → Prop} (hlk : Lk X cs en f mc lk) (ho : pev lk 12 (.Name x p0) = some (.val (.ref l), ps)) (hp : Alls ps) (hx : (l, instObj C dx) ∈ N) (hdx : (dx, dictOf ds n) ∈ N)
    (h1 : plainGet (hd.heap_1 w.params) C nm = true) (h2 : hasDictIn (hd.heap_1 w.params) C = true) (h3 : findIn (hd.heap_1 w.params) (.ref C) nm = some (some (.ref g))) (h4 : isFn (hd.heap_1 w.params) (.ref g) = true) (h5 : specialIn (hd.heap_1 w.params) (.ref g) "__get__" = some (some (.builtin "function.__get__"))) (h6 : takesIn (hd.heap_1 w.params) (.ref g) = some false) (h7 : copiedNames.contains nm = false) (h8 : getL nm ds = some none)
    (h : ∀ q, (∀ r ∈ N, r.1 < q) → Q (.val (.ref q)) ((q, methodObj (.ref g) (.ref l)) :: N))
    (hc : ∀ en, eval (.Attribute (.Name x p0) nm p1) en = (do
          let o ← eval (.Name x p0) en
          standAt p1.atName
          let r ← holding [o] (getAttr o nm true)
          letTemporaryGo (.Name x p0) o r
          pure r)) : GE X cs en f mc N (.Attribute (.Name x p0) nm p1) Q := by
  intro h0 t E a
  refine Attribute_Name_ (pev_ok hlk a 12 _ ho hp fun _ t1 => ?_) (hc en)
  obtain ⟨co, c1, c4, c2, c3⟩ := a.C
  exact kbm_bound (s := X.s h0 t1) a.F X.X c2 (InstAt.of_news a.N hx hdx) h1 h2 h3 h4 h5 h6 h7 h8 fun q h' F' N' hlt => .mk (.val (.ref q)) 0 _ h' (t1 + 1) ⟨F', a.D, co, c1, c4, N', off_cons c3 hlt⟩ (h q fun r hr => hlt r (List.mem_append_left _ hr))
theorem wc_iter2 {M : Addr} {fv self : Value} {xv : Str} {Q : VC → Led → Prop} (hM : (M, methodObj fv self) ∈ N) (h : ∀ I t, (∀ q ∈ N, q.1 < I) → Q (.val (.ref I)) ((I, ciO (.ref M) (.str xv t) false) :: N)) : WC X cs mc N (.builtin "iter") [.val (.ref M), .str xv] Q := by
  intro _ σ f hp t E a
  obtain ⟨co, c1, c4, c2, c3⟩ := a.C
  exact iter2_F (s := X.s hp t) a.F c2 (List.mem_append_left _ hM) fun I h' hlt F' N' => .mk (.val (.ref I)) 0 _ h' t ⟨F', a.D, co, c1, c4, N', off_cons c3 hlt⟩ (h I _ fun q hq => hlt q (List.mem_append_left _ hq))
theorem gc_in {x y : Str} {u : Tok} {Q : Bool → Led → Prop} (h : Q (!(Builtin.Str.occurrences x y 0 x.length 1).isEmpty) N) : GC X cs f mc N .In (.str y) (.val (.str x u)) Q :=
  fun _ _ hp t _ _ a H => PyProof.Rows.in_str (H _ N hp t a h)
theorem gc_eqS {x y : Str} {Q : Bool → Led → Prop} (h : Q (x == y) N) : GC X cs f mc N .Eq (.str x) (.str y) Q :=
  fun _ _ hp t _ _ a H => PyProof.Rows.eq_str (H _ N hp t a h)
theorem ws_augS {x : Str} {a b : Str} {p1 p2 : Pos} {e : Expr} {rest : List Stmt} {ps : List Prop} (hx : cs.names.lookup x = some .local) (hm : m.lookup x = some (.str a)) (he : pe cs mc m e = some (.str b, ps)) (hp : Alls ps) (hz : a.length + b.length ≤ sizeLine) (h : WS X cs Q mc ((x, .str (a ++ b)) :: m) N rest) : WS X cs Q mc m N (.AugAssign (.Name x p1) .Add e p2 :: rest) := by
  refine ws_cons ?_
  intro hk τ ρ hp' t E at_
  refine wpAny_AugAssign_Name (wpAny_loadName_local hk hx at_.F.ns (at_lk hm) (pev_ok (lk_F hk) at_ 12 e he hp fun k t1 => PyProof.Rows.iadd_str (fun k2 t2 => ?_) hz))
  refine wpAny_mono (wb_local (X := X) (Q := fun mc' m' => mc' = mc ∧ m' = (x, .str (a ++ b)) :: m) hx ⟨rfl, rfl⟩ hk τ ρ k2 hp' t2 E at_) ?_ fun _ _ x => x
  refine BP.el ?_; intro mc' m' h3 t3 τ' ρ' a3 q9; obtain ⟨rfl, rfl⟩ := q9
  exact .next _ _ N h3 t3 τ' ρ' a3 h
inductive CiN (L : Lex) (I M : Addr) (tS : Tok) (rest : Led) (live : Bool) (cl : List Nat) (n : Int) : Led → Prop
  | mk (o : Obj) (vs : List Value) (k : Nat) (tn : Tok) (ho : bif live then CiOf o (.ref M) (.str (Str.ofString "") tS) false else CiOf o .none .none true) (hv : StrsAre vs (cl.map oneS)) (hl : cl.length ≤ 40) : CiN L I M tS rest live cl n ((I, o) :: (M, methodObj (.ref 127) (.ref L.x)) :: (L.hd vs k n tn ++ rest))
structure CiOff (L : Lex) (I M : Addr) (rest : Led) : Prop where
  D : ∀ q ∈ rest, q.1 ≠ L.D
  x : ∀ q ∈ rest, q.1 ≠ L.dx
  I : ∀ vs k n tn, ∀ q ∈ (M, methodObj (.ref 127) (.ref L.x)) :: (L.hd vs k n tn ++ rest), q.1 ≠ I
  MD : M ≠ L.D
  Mx : M ≠ L.dx
theorem CiOff.ext {L : Lex} {I M : Addr} {rest co : Led} (h : CiOff L I M rest) (hD : ∀ q ∈ co, q.1 ≠ L.D) (hx : ∀ q ∈ co, q.1 ≠ L.dx) (hI : ∀ q ∈ co, q.1 ≠ I) : CiOff L I M (rest ++ co) := by
  refine ⟨fun q hq => (List.mem_append.mp hq).elim (h.D q) (hD q), fun q hq => (List.mem_append.mp hq).elim (h.x q) (hx q), fun vs k n tn q hq => ?_, h.MD, h.Mx⟩
  have hq' : q ∈ ((M, methodObj (.ref 127) (.ref L.x)) :: (L.hd vs k n tn ++ rest)) ++ co := hq
  exact (List.mem_append.mp hq').elim (h.I vs k n tn q) (hI q)
theorem rchar_I {L : Lex} (hL : L.Ok w p loose mean mg mb) {I M : Addr} {o : Obj} {rest : Led} (hO : CiOff L I M rest) {cl : List Nat} {vs : List Value} {k : Nat} {n : Int} {tn : Tok} (hcs : cl.length ≤ 40) (hvs : StrsAre vs (cl.map oneS)) :
    Con w p loose mean mg mb (.ref 127) [.ref L.x] [] 6 200 ((I, o) :: (M, methodObj (.ref 127) (.ref L.x)) :: (L.hd vs k n tn ++ rest))
      (fun r n' => ∃ t vs' k' tn', r = .str (hdS cl) t ∧ n' = (I, o) :: (M, methodObj (.ref 127) (.ref L.x)) :: (L.hd vs' k' (n + nlS (hdS cl)) tn' ++ rest) ∧ StrsAre vs' (cl.tail.map oneS)) := by
  have hDI : L.D ≠ I := hO.I vs k n tn _ (.tail _ (.head _))
  have hxI : L.dx ≠ I := hO.I vs k n tn _ (.tail _ (.tail _ (.tail _ (.tail _ (.tail _ (.head _))))))
  refine (rchar_L (rest := (I, o) :: (M, methodObj (.ref 127) (.ref L.x)) :: rest) hL (List.forall_mem_cons.mpr ⟨Ne.symm hDI, List.forall_mem_cons.mpr ⟨hO.MD, hO.D⟩⟩) (List.forall_mem_cons.mpr ⟨Ne.symm hxI, List.forall_mem_cons.mpr ⟨hO.Mx, hO.x⟩⟩) hcs hvs).post (fun q hq => mem_swap3 (B := [_, _]) hq) ?_
  rintro r n' ⟨t, vs', k', tn', rfl, rfl, hv⟩
  exact ⟨_, fun q hq => mem_swap3 (A := [_, _]) hq, t, vs', k', tn', rfl, rfl, hv⟩
theorem CiOff.off {L : Lex} {I M : Addr} {rest co : Led} {o : Obj} {vs : List Value} {k : Nat} {n : Int} {tn : Tok} (h : CiOff L I M rest) (c3 : ∀ q ∈ (I, o) :: (M, methodObj (.ref 127) (.ref L.x)) :: (L.hd vs k n tn ++ rest), ∀ r ∈ co, q.1 ≠ r.1) : CiOff L I M (rest ++ co) :=
  h.ext (fun q hq e => c3 (L.D, lstO vs k) (.tail _ (.tail _ (.head _))) q hq e.symm) (fun q hq e => c3 (L.dx, _) (.tail _ (.tail _ (.tail _ (.tail _ (.tail _ (.tail _ (.head _))))))) q hq e.symm) (fun q hq e => c3 (I, o) (.head _) q hq e.symm)
theorem ci_keys {L : Lex} {I M : Addr} {rest co : Led} {o o' : Obj} {vs vs' : List Value} {k k' : Nat} {n n' : Int} {tn tn' : Tok} (c3 : ∀ q ∈ (I, o) :: (M, methodObj (.ref 127) (.ref L.x)) :: (L.hd vs k n tn ++ rest), ∀ r ∈ co, q.1 ≠ r.1) : ∀ q ∈ (I, o') :: (M, methodObj (.ref 127) (.ref L.x)) :: (L.hd vs' k' n' tn' ++ rest), ∀ r ∈ co, q.1 ≠ r.1 := by
  intro q hq r hr
  have hm : q.1 ∈ ((I, o') :: (M, methodObj (.ref 127) (.ref L.x)) :: (L.hd vs' k' n' tn' ++ rest)).map (·.1) := List.mem_map_of_mem hq
  rw [show ((I, o') :: (M, methodObj (.ref 127) (.ref L.x)) :: (L.hd vs' k' n' tn' ++ rest)).map (·.1) = ((I, o) :: (M, methodObj (.ref 127) (.ref L.x)) :: (L.hd vs k n tn ++ rest)).map (·.1) from rfl] at hm
  obtain ⟨q', hq', e⟩ := List.mem_map.mp hm
  exact e ▸ c3 q' hq' r hr
theorem wc_rchar {L : Lex} (hL : L.Ok w p loose mean mg mb) {I M : Addr} {tS : Tok} {rest : Led} (hO : CiOff L I M rest) {live : Bool} {cl : List Nat} {n : Int} (hN : CiN L I M tS rest live cl n N) (hD : Nat.ble 6 D = true) (hU : Nat.ble 200 U = true) {Q : VC → Led → Prop}
    (h : ∀ N', CiN L I M tS rest live cl.tail (n + nlS (hdS cl)) N' → Q (.str (hdS cl)) N') : WC X cs mc N (.ref 127) [.val (.ref L.x)] Q := by
  obtain ⟨o, vs, k, tn, ho, hv, hl⟩ := hN
  intro hk σ fm hp t E a
  refine wpAny_mono (wc_con (Q := fun c N' => ∃ t, c = .val (.str (hdS cl) t) ∧ CiN L I M tS rest live cl.tail (n + nlS (hdS cl)) N') (fun σ co hc => rchar_I (o := o) hL (hO.off hc.o) hl hv) ?_ hD hU hk σ fm hp t E a) ?_ fun _ _ x => x
  · rintro co _ N2 ⟨t, vs', k', tn', rfl, rfl, hv'⟩ _
    refine ⟨(I, o) :: (M, methodObj (.ref 127) (.ref L.x)) :: (L.hd vs' k' (n + nlS (hdS cl)) tn' ++ rest), fun q hq => hq, fun q hq => .inl ?_, t, rfl, .mk o vs' k' tn' ho hv' (Nat.le_trans (by rw [List.length_tail]; exact Nat.sub_le _ _) hl)⟩
    have hm : q.1 ∈ ((I, o) :: (M, methodObj (.ref 127) (.ref L.x)) :: (L.hd vs' k' (n + nlS (hdS cl)) tn' ++ rest)).map (·.1) := List.mem_map_of_mem hq
    obtain ⟨q', hq', e⟩ := List.mem_map.mp (show q.1 ∈ ((I, o) :: (M, methodObj (.ref 127) (.ref L.x)) :: (L.hd vs k n tn ++ rest)).map (·.1) from hm)
    exact ⟨q'.2, e ▸ hq'⟩
  · refine EP.el ?_; intro c k N2 h2 t2 a2 q9; obtain ⟨t, rfl, hC⟩ := q9
    exact .mk (.str (hdS cl)) t N2 h2 t2 a2 (h N2 hC)
theorem nx_live {L : Lex} (hL : L.Ok w p loose mean mg mb) {I M : Addr} {tS : Tok} {rest : Led} (hO : CiOff L I M rest) {cl : List Nat} {n : Int} (hN : CiN L I M tS rest true cl n N) (hk : cs.kind = .function) (hD : Nat.ble 6 D = true) (hU : Nat.ble 201 U = true) {P : Option VC → Led → Prop}
    (h1 : ∀ c r N', cl = c :: r → CiN L I M tS rest true r (n + nlC c) N' → P (some (.str (oneS c))) N') (h0 : ∀ N', cl = [] → CiN L I M tS rest false [] n N' → P none N') : GNx X cs mc N I P := by
  obtain ⟨o, vs, k, tn, ho, hv, hl⟩ := hN
  intro f h t E Qv a H1 H0
  obtain ⟨co, c1, c4, c2, c3⟩ := a.C
  have hO' := hO.off c3
  refine next_ci (s := X.s h t) (rest := (L.hd vs k n tn ++ (rest ++ co))) rfl a.F X.X c2 ho ?_
  have C1 := rchar_I (o := o) hL hO' (k := k) (n := n) (tn := tn) hl hv
  refine C1 _ _ _ _ _ _ _ _ _ _ _ _ _ _ _ _ X.B a.F X.X c2 X.T X.hc rfl hk (Nat.lt_of_le_of_lt (Nat.add_le_add_left (Nat.le_of_ble_eq_true hD) _) X.hdp) (Nat.lt_of_le_of_lt (by rw [Nat.add_assoc]; exact Nat.add_le_add_left (Nat.le_of_ble_eq_true hU) _) X.hun) ?_
  rintro r news' h' tk' F1 N1 ⟨tc, vs', k', tn', rfl, rfl, hv'⟩
  refine ⟨_, tc, h', tk', (L.hd vs' k' (n + nlS (hdS cl)) tn' ++ (rest ++ co)), rfl, rfl, F1, N1, hO'.I _ _ _ _, fun hne => ?_, fun he h'' o' hR1 F3 N3 => ?_⟩
  · cases cl with
    | nil => exact absurd rfl hne
    | cons c r => exact H1 (.str (oneS c)) tc _ h' tk' ⟨F1, a.D, co, c1, c4, N1, ci_keys c3⟩ (h1 c r _ rfl (.mk o vs' k' tn' ho hv' (Nat.le_of_succ_le hl)))
  · cases cl with
    | cons c r => exact absurd he (oneS_ne c)
    | nil =>
      have e : n + nlS (hdS []) = n := by show n + nlS (Str.ofString "") = n; rw [nlS_nil, Int.add_zero]
      rw [e] at N3
      exact H0 ((I, o') :: (M, methodObj (.ref 127) (.ref L.x)) :: (L.hd vs' k' n tn' ++ rest)) h'' tk' ⟨F3, a.D, co, c1, c4, N3, ci_keys c3⟩ (h0 _ rfl (.mk o' vs' k' tn' hR1 hv' hl))
theorem nx_dead {L : Lex} {I M : Addr} {tS : Tok} {rest : Led} {cl : List Nat} {n : Int} (hN : CiN L I M tS rest false cl n N) {P : Option VC → Led → Prop} (h0 : P none N) : GNx X cs mc N I P := by
  obtain ⟨o, vs, k, tn, ho, hv, hl⟩ := hN
  intro f h t E Qv a H1 H0
  obtain ⟨co, c1, c4, c2, c3⟩ := a.C
  exact next_ci_done (s := X.s h t) rfl a.F c2 (.head _) ho fun h' F' N' => H0 _ h' t ⟨F', a.D, co, c1, c4, N', c3⟩ h0
theorem ci_iter {L : Lex} {I M : Addr} {tS : Tok} {rest : Led} {live : Bool} {cl : List Nat} {n : Int} (hN : CiN L I M tS rest live cl n N) (f : Str → Option Value) (h : Heap) (t : Nat) (E : Value → Shared → Prop) (Q : Value → Shared → Prop) (a : At X f mc N h) (q : Q (.ref I) (X.s h t)) : wpAny X.M (X.A cs) (pyIter (.ref I)) Q E (X.s h t) := by
  obtain ⟨o, vs, k, tn, ho, hv, hl⟩ := hN
  have hI := (a.N (I, o) (.head _)).1
  cases live
  · exact pyIter_ci hI ho q
  · exact pyIter_ci hI ho q
end
end
section
example : PySem.Challenge.rw_uj0005_01.row.prog = PySem.Challenge.rw_uj0005_01.row.prog ∧ hd.heap_1 = hd.heap_1 := by
  k_fill
  exact ⟨rfl, rfl⟩
section
variable {w : World} {p : Program} {loose : List Str} {mean : ExcName → Option Value} {mg mb : Str → Option Value} {D U : Nat}
variable {X : Cx w p loose mean mg mb D U} {cs : Scope} {Q : FinS → Prop} {mc m : Loc} {N : Led} {en : Env} {f : Str → Option Value} {lk : Str → Option VC}
theorem ge_ifexp {t a b : Expr} {pos : Pos} {Q : VC → Led → Prop} (h : GT X cs en f mc N t fun c N' => if c then GE X cs en f mc N' a Q else GE X cs en f mc N' b Q) : GE X cs en f mc N (.IfExp t a b pos) Q := by
  intro hp k E at_
  refine wpAny_IfExp (wpAny_mono (h hp k E at_) (TP.el fun c N' h' t' a' q => ?_) fun _ _ x => x)
  cases c
  · exact q h' t' E a'
  · exact q h' t' E a'
inductive ItL (k : Int) (Q : VC → Led → Prop) : VC → Led → Prop
  | mk (a : Addr) (vs : List Value) (n : Nat) (v : Value) (N : Led) (hm : (a, lsO vs n) ∈ N) (hv : vs[k.toNat]? = some v) (q : Q (.val v) N) : ItL k Q (.val (.ref a)) N
theorem ge_itemL {l r : Expr} {pos : Pos} {k : Int} {qs : List Prop} {Q : VC → Led → Prop} (hlk : Lk X cs en f mc lk) (hi : pev lk 12 r = some (.int k, qs)) (hq : Alls qs) (h0 : 0 ≤ k) (h1 : k < 2 ^ 63) (h : GE X cs en f mc N l (ItL k Q))
    (hs : ∀ a u, subscripted r false (.ref a) (.int k u) = operate [.ref a, .int k u] (getItem (.ref a) (.int k u))) : GE X cs en f mc N (.Subscript l r pos) Q := by
  intro hp' t E at_
  refine Subscript_ (wpAny_mono (h hp' t E at_) (EP.el fun c k' N2 h2 t2 a2 q => ?_) fun _ _ x => x)
  induction q with | mk a vs n v N2 hm hv q => ?_
  refine pev_ok hlk a2 12 r hi hq fun _ t3 => ?_
  exact tail_any (s := X.s h2 t3) (isl hm a2).typeIs slot_list_getitem.lookup (wpAny_getItem_list (isl hm a2) (x := v) h0 h1 (by simpa using hv) (.mk (.val v) 0 N2 h2 _ a2 q)) (hs _ _)
theorem esc_len (word : Str) (hk : word.length ≤ 3) : (Txt.join (Str.ofString "") (word.cps.toList.map escM)).length ≤ 6 ∧ (Txt.join (Str.ofString "") (word.cps.toList.map needM)).length ≤ 6 := by
  have hl : word.cps.toList.length ≤ 3 := by rw [Array.length_toList]; exact hk
  exact ⟨Nat.le_trans (join_len escM_len _) (Nat.mul_le_mul_left 2 hl), Nat.le_trans (join_len needM_len _) (Nat.mul_le_mul_left 2 hl)⟩
theorem ge_joinS {elt : Expr} {g : Nat → Str} {word y : Str} {k : Nat} {p0 p1 p2 p3 p4 p5 : Pos} {sc : Scope} {Q : VC → Led → Prop} (hlk : Lk X cs (X.env cs) f mc lk) (hy : lk y = some (.str word)) (hk : word.length ≤ 3) (hg : ∀ c, (g c).length ≤ 2)
    (turn : ∀ (Y : Cx w p loose mean mg mb D U) en c t, CE X Y sc cs mc "sign" (.str ⟨#[c]⟩ t) en f → GE Y cs en f mc N elt fun v N' => v = .str (g c) ∧ N' = N)
    (hfr : ∀ q ∈ sc.names, q.2 = .free → (X.cl.lookup q.1).isSome = true) (h1 : ∀ y ∈ sc.names, y.2 ≠ .cell) (h2 : sc.kind = .function) (h3 : ∀ y ∈ sc.names, y.2 = .local → List.lookup y.1 sc.names = some .local) (h4 : List.lookup ("sign" : Str) sc.names = some .local)
    (h : ∀ d o, (∀ q ∈ N, q.1 ≠ d) → Q (.str (Txt.join (Str.ofString "") (word.cps.toList.map g))) ((d, o) :: N))
    (hc : ∀ en : Env, ∃ pl, eval (.Call (.Attribute (.Constant (.str "") k p0) "join" p1) [.ListComp elt [{ target := .Name "sign" p3, iter := .Name y p4, ifs := [], is_async := 0 }] sc p5] [] p2) en = (do
      let ov ← eval (.Constant (.str "") k p0) en
      standAt p1.atName
      let (f, first) ← holding [ov] (getMethod ov "join" pl)
      callWith p2 f first (backTo p2 (starEach [.ListComp elt [{ target := .Name "sign" p3, iter := .Name y p4, ifs := [], is_async := 0 }] sc p5] en)) [])) :
    GE X cs (X.env cs) f mc N (.Call (.Attribute (.Constant (.str "") k p0) "join" p1) [.ListComp elt [{ target := .Name "sign" p3, iter := .Name y p4, ifs := [], is_async := 0 }] sc p5] [] p2) Q := by
  refine ge_join (ge_cS hlk hy (.mk word (SJ g word N) N ⟨rfl, .nil⟩ (Nat.le_trans hk (by decide)) ?turn ?done) hfr h1 h2 h3 h4) rfl hc
  case turn =>
    rintro i ys _ c t Y en hi hc ⟨rfl, hJ⟩ hE hp tk E a
    refine wpAny_mono (turn Y en c t hE hp tk E a) (EP.el fun v k' N2 h2 t2 a2 q => ?_) fun _ _ x => x
    obtain ⟨rfl, rfl⟩ := q
    exact .mk _ k' _ h2 t2 a2 fun k => SJ.next ⟨rfl, hJ⟩ hc
  case done =>
    rintro ys _ d ⟨rfl, hy⟩ hd
    have hl : word.cps.toList.length ≤ 3 := by rw [Array.length_toList]; exact hk
    rw [← Array.length_toList, List.take_length] at hy
    refine ⟨d, ys, _, _, rfl, .head _, hy, ?_, h d _ hd⟩
    have h1 := sum_len hg word.cps.toList
    have h3 : (Str.ofString "").length = 0 := rfl
    rw [h3, Nat.mul_zero, Nat.add_zero]
    exact Nat.le_trans h1 (Nat.le_trans (Nat.mul_le_mul_left 2 hl) (by decide))
set_option maxHeartbeats 1000000 in
theorem written_n {news : Led} {word : Str} {way : Int} {t t2 : Tok} (hk : word.length ≤ 3) (hw : 0 ≤ way ∧ way < 3) :
    Con w p loose mean mg mb (.ref 160) [.str word t, .int way t2] [] 3 200 news (fun r n' => (∃ t, r = .str (writtenM word way) t) ∧ n' = news) := by
  refine' con_def (D := 2) (U := 197) [("way", .val (.int way t2)), ("word", .val (.str word t))] ?k6 ?k7 ?k9 ?kB ?km ?_ ?c2 ?c3 ?c4 ?c5
  case k6 => k_is
  case k7 => k_is
  case k9 => exact (fun s _ => BindsTo.of_eq rfl)
  case km => rfl
  case c5 => decide
  case kB => exact locs rfl
  case c2 => exact rfl
  case c3 => exact rfl
  case c4 => exact rfl
  intro X hX hH
  obtain ⟨he, hn⟩ := esc_len word hk
  have hone : ∀ c : Nat, (Str.ofString "\\").length + (⟨#[c]⟩ : Str).length ≤ sizeLine := fun c => (by decide : 1 + 1 ≤ sizeLine)
  refine ws_setE (by kpf_close) rfl (fun hk' τ ρ => ge_joinS (g := escM) (lk_F hk') (by kpf_close) hk escM_len ?turn1 (no_free (by decide +kernel)) (by decide) rfl (by decide) (by kpf_close) (fun d1 o1 _ => ?_) (fun _ => ⟨_, rfl⟩))
  case turn1 =>
    intro Y en c t hE
    exact ge_bin (ge_pure hE.lk (by kpf_close) (by isplit) (ge_pure hE.lk (by kpf_close) (by isplit) (gb_str (hone c) ⟨rfl, rfl⟩)))
  refine ws_setE (by kpf_close) rfl (fun hk' τ ρ => ge_joinS (g := needM) (lk_F hk') (by kpf_close) hk needM_len ?turn2 (no_free (by decide +kernel)) (by decide) rfl (by decide) (by kpf_close) (fun d2 o2 _ => ?_) (fun _ => ⟨_, rfl⟩))
  case turn2 =>
    intro Y en c t hE
    refine ge_ifexp (gt_cmpE (ge_pure hE.lk (by kpf_close) (by isplit) (ge_pure hE.lk (by kpf_close) (by isplit) (gc_eqS ?_))) rfl)
    by_cases h : ((⟨#[c]⟩ : Str) == Str.ofString "\n") = true
    · rw [h]
      exact ge_pure hE.lk (by kpf_close) (by isplit) ⟨congrArg VC.str (if_pos h).symm, rfl⟩
    · rw [eq_false_of_ne_true h]
      exact ge_bin (ge_pure hE.lk (by kpf_close) (by isplit) (ge_pure hE.lk (by kpf_close) (by isplit) (gb_str (hone c) ⟨congrArg VC.str (if_neg h).symm, rfl⟩)))
  generalize hE : Txt.join (Str.ofString "") (word.cps.toList.map escM) = es at he
  generalize hN : Txt.join (Str.ofString "") (word.cps.toList.map needM) = ns at hn
  have hz : ∀ {a b : Nat}, a ≤ 7 → b ≤ 7 → a + b ≤ sizeLine := fun h1 h2 => Nat.le_trans (Nat.add_le_add h1 h2) (by decide)
  have h1s : (Str.ofString "\"" ++ ns).length ≤ 7 := by rw [app_len]; exact Nat.add_le_add (Nat.le_refl 1) hn
  have h2s : (Str.ofString "\"" ++ es).length ≤ 7 := by rw [app_len]; exact Nat.add_le_add (Nat.le_refl 1) he
  refine ws_retE (fun hk' τ ρ => ge_itemL (k := way) (lk_F hk') (by kpf_close) (by isplit) hw.1 (Int.lt_trans hw.2 (by decide)) (ge_listG (ga_cons (ge_bin (ge_bin (ge_pure (lk_F hk') (by kpf_close) (by isplit) (ge_pure (lk_F hk') (by kpf_close) (by isplit) (gb_str (hz (by exact (by decide : 1 ≤ 7)) (Nat.le_succ_of_le hn)) (ge_pure (lk_F hk') (by kpf_close) (by isplit) (gb_str (hz h1s (by exact (by decide : 1 ≤ 7))) ?_))))))) rfl)) (fun _ _ => by kpf_close))
  refine ga_cons (ge_bin (ge_pure (lk_F hk') (by kpf_close) (by isplit) (ge_pure (lk_F hk') (by kpf_close) (by isplit) (gb_str (hz (Nat.le_succ_of_le he) (by exact (by decide : 1 ≤ 7))) ?_)))) rfl
  refine ga_cons (ge_bin (ge_bin (ge_pure (lk_F hk') (by kpf_close) (by isplit) (ge_pure (lk_F hk') (by kpf_close) (by isplit) (gb_str (hz (by exact (by decide : 1 ≤ 7)) (Nat.le_succ_of_le he)) (ge_pure (lk_F hk') (by kpf_close) (by isplit) (gb_str (hz h2s (by exact (by decide : 2 ≤ 7))) (ga_nil ⟨rfl, fun d σ _ => ?_⟩)))))))) rfl
  have hget : ∃ u, (atl [.str (Str.ofString "\"" ++ ns ++ Str.ofString "\""), .str (es ++ Str.ofString "\t"), .str (Str.ofString "\"" ++ es ++ Str.ofString "\"\r")] σ 0)[way.toNat]? = some (.str (writtenM word way) u) := by
    subst hE hN
    rcases (by omega : way = 0 ∨ way = 1 ∨ way = 2) with rfl | rfl | rfl
    · exact ⟨_, rfl⟩
    · exact ⟨_, rfl⟩
    · exact ⟨_, rfl⟩
  obtain ⟨u, hu⟩ := hget
  exact .mk d _ _ _ _ (.head _) hu ⟨news, fun _ h => .tail _ (.tail _ (.tail _ h)), fun _ => ⟨⟨u, rfl⟩, rfl⟩⟩
end
end
section
example : PySem.Challenge.rw_uj0005_01.row.prog = PySem.Challenge.rw_uj0005_01.row.prog ∧ hd.heap_1 = hd.heap_1 := by
  k_fill
  exact ⟨rfl, rfl⟩
section
variable {w : World} {p : Program} {loose : List Str} {mean : ExcName → Option Value} {mg mb : Str → Option Value} {D U : Nat}
variable {X : Cx w p loose mean mg mb D U} {cs : Scope} {Q : FinS → Prop} {mc m : Loc} {N : Led} {en : Env} {f : Str → Option Value} {lk : Str → Option VC}
theorem key_at {r : Int} (hr : 0 ≤ r ∧ r < 27) : rowM[r.toNat]? = some (keyM r) := by
  have h : r.toNat < rowM.length := by rw [rowM_len]; omega
  rw [List.getElem?_eq_getElem h]
  unfold keyM
  rw [getD_eq h]
theorem lw5 (hX : LawCl X) (hD : Nat.ble 116 D = true) (hU : Nat.ble 5300 U = true) {l ls lr : Addr} {wr z0 z1 z2 z3 : Int} {t0 t1 t2 t3 : Tok} {n nr : Nat} {vr : List Value} (hR : R4 z0 z1 z2 z3) (hl : (l, lsO [.int z0 t0, .int z1 t1, .int z2 t2, .int z3 t3] n) ∈ N) (hlr : (lr, lsO vr nr) ∈ N) (hr : IntsAre vr rowM)
    (go : ∀ lw u0 u1 u2 u3, (∀ q ∈ N, q.1 ≠ lw) → WS X lawScope Q (("words", .val (.ref lw)) :: mcW wr lr) (mRk l ls) ((lw, LCg.lst [.str (cardR z0) u0, .str (cardR z1) u1, .str (cardR z2) u2, .str (cardR z3) u3]) :: N) (lawBody.drop 10)) :
    WS X lawScope Q (mcW wr lr) (mRk l ls) N (lawBody.drop 9) := by
  have hi4 : IntsAre [.int z0 t0, .int z1 t1, .int z2 t2, .int z3 t3] [z0, z1, z2, z3] := .cons _ _ (.cons _ _ (.cons _ _ (.cons _ _ .nil)))
  refine ws_putC (by kpf_close) (fun hk τ ρ => ge_comp (ge_pure (lk_F hk) (by kpf_close) (by isplit) (.mk l [.int z0 t0, .int z1 t1, .int z2 t2, .int z3 t3] n (MapJ cardR [z0, z1, z2, z3] N) N ⟨rfl, .nil⟩ (fun i ys N h => by rw [h.1]; exact hl) (by decide : 4 ≤ sizeLine) ?turn ?done)) (free_ok hX (by decide +kernel)) (by decide) rfl (by decide) (by kpf_close) (fun _ _ => rfl))
  case turn =>
    intro i ys N1 v Y en hi hv hJ hE
    obtain ⟨z, t, rfl, hz⟩ := IntsAre.at hi4 i v hv
    have hz8 := ranks_at hR hz
    refine ge_call hk (hE.gd _ _ (by k_is) (by kpf_close) (by decide)) (wf_def (by k_is)) rfl (ga_cons (ge_itemI hE.lk (by kpf_close) (by isplit) (by kpf_close) (by isplit) (by rw [hJ.1]; exact hlr) hr hz8.1 (Int.lt_trans hz8.2 (by decide)) (key_at hz8) (ga_nil (wc_con0 (fun ς co _ => card_w (key_mem hz8)) ?_ (ble_le hD rfl) (ble_le hU rfl))) (fun _ => by kpf_close)) rfl) (fun _ => rfl)
    rintro co _ N2 ⟨⟨t7, rfl⟩, rfl⟩
    exact ⟨rfl, fun k => hJ.next hz⟩
  case done =>
    rintro ys N1 lw ⟨rfl, hy⟩ hd
    obtain ⟨u0, u1, u2, u3, rfl⟩ := strs4 hy
    exact wb_cell (by kpf_close) (hX _ (by decide +kernel)) (go lw u0 u1 u2 u3 hd)
theorem lw6 (hX : LawCl X) (hD : Nat.ble 116 D = true) (hU : Nat.ble 5300 U = true) {l ls lr lw : Addr} {wr z0 z1 z2 z3 : Int} {u0 u1 u2 u3 : Tok} {n : Nat} (hR : R4 z0 z1 z2 z3) (hlw : (lw, lsO [.str (cardR z0) u0, .str (cardR z1) u1, .str (cardR z2) u2, .str (cardR z3) u3] n) ∈ N)
    (go : WS X lawScope Q (("words", .val (.ref lw)) :: mcW wr lr) (("text", .str (textM wr z0 z1 z2 z3)) :: mRk l ls) N (lawBody.drop 11)) :
    WS X lawScope Q (("words", .val (.ref lw)) :: mcW wr lr) (mRk l ls) N (lawBody.drop 10) := by
  have hS : StrsAre [.str (cardR z0) u0, .str (cardR z1) u1, .str (cardR z2) u2, .str (cardR z3) u3] [cardR z0, cardR z1, cardR z2, cardR z3] := .cons _ _ (.cons _ _ (.cons _ _ (.cons _ _ .nil)))
  refine ws_setE (by kpf_close) rfl (fun hk τ ρ => ge_join (ge_compR (n := 4) (lk_F hk) (wn_builtin (by k_is) (by kpf_close) (by kpf_close) (by decide) (by decide) hk) (by kpf_close) (by isplit) (by decide +kernel) (by decide) rfl (MapJ (fun q : Str × Int => writtenM q.1 q.2) (textL wr (cardR z0) (cardR z1) (cardR z2) (cardR z3)) N) ⟨rfl, .nil⟩ ?turn ?done (free_ok hX (by decide +kernel)) (by decide) rfl (by decide) (by kpf_close)) rfl (fun _ => ⟨_, rfl⟩))
  case turn =>
    rintro i ys N1 t Y en hi hJ hE
    obtain ⟨rfl, hy⟩ := id hJ
    obtain ⟨y, hy9, hq9, hy8⟩ := textL_at (wr := wr) (a := cardR z0) (b := cardR z1) (c := cardR z2) (d := cardR z3) hi
    obtain ⟨h1, h2, h3, h4, h5⟩ := hR
    have hyl : y.length ≤ 3 := by
      rcases hy8 with rfl | rfl | rfl | rfl
      · exact Nat.le_of_eq (card_len ⟨by omega, by omega⟩)
      · exact Nat.le_of_eq (card_len ⟨by omega, by omega⟩)
      · exact Nat.le_of_eq (card_len ⟨by omega, by omega⟩)
      · exact Nat.le_of_eq (card_len ⟨by omega, by omega⟩)
    refine ge_call hk (hE.gd _ _ (by k_is) (by kpf_close) (by decide)) (wf_def (by k_is)) rfl (ga_cons (ge_itemS hE.lk (by kpf_close) (by isplit) (by kpf_close) (by isplit) hlw hS (Int.natCast_nonneg i) (by omega) hy9 (ga_cons (ge_pure hE.lk (by kpf_close) ?side (ga_nil (wc_con0 (fun ς co _ => written_n hyl (wayOf_ok wr (i : Int))) ?_ (ble_le hD rfl) (ble_le hU rfl)))) rfl) (fun _ => by kpf_close)) rfl) (fun _ => rfl)
    case side => exact ⟨Int.natCast_nonneg i, by rw [show Builtin.Int.intBits 3 = 2 by decide +kernel]; omega, (pow3_ok hi).1, PyProof.noPylong_small (pow3_ok hi).2, (by show (3 : Int) ≠ 0; decide)⟩
    rintro co _ N2 ⟨⟨t7, rfl⟩, rfl⟩
    exact ⟨rfl, fun k => hJ.next hq9⟩
  case done =>
    rintro ys N1 Dt ⟨rfl, hy⟩ hd
    exact ⟨Dt, ys, _, _, rfl, .head _, hy, text_join hR, ws_led (fun _ h => .tail _ h) go⟩
end
end
section
example : PySem.Challenge.rw_uj0005_01.row.prog = PySem.Challenge.rw_uj0005_01.row.prog ∧ hd.heap_1 = hd.heap_1 := by
  k_fill
  exact ⟨rfl, rfl⟩
section
variable {w : World} {p : Program} {loose : List Str} {mean : ExcName → Option Value} {mg mb : Str → Option Value} {D U : Nat}
variable {X : Cx w p loose mean mg mb D U} {cs : Scope} {Q : FinS → Prop} {mc m : Loc} {N : Led} {en : Env} {f : Str → Option Value} {lk : Str → Option VC}
inductive SaI (X : Cx w p loose mean mg mb D U) (Q : FinS → Prop) (mc m : Loc) (nm : Str) (l dx C : Addr) (ds : List DictEntry) (n : Nat) : VC → Led → Prop
  | mk (c : VC) (N : Led) (ds' : Tok → Tok → List DictEntry) (n' : Nat) (N' : Tok → Tok → Led) (hx : (l, instObj C dx) ∈ N) (hd : (dx, dictOf ds n) ∈ N) (e : ∀ k t, (putL nm (PyData.keyHash w.params nm) (.str nm k) (c.at t) ds, putN nm ds n) = (ds' k t, n')) (U : ∀ k t, Upd dx (dictOf ds n) (dictOf (ds' k t) n') N (N' k t)) (hz : ∀ k t, (ds' k t).length ≤ 1000) (hk : ∀ k t, ∀ q ∈ N' k t, ∃ o, (q.1, o) ∈ N) (h : ∀ k t, Q (.next mc m (N' k t))) : SaI X Q mc m nm l dx C ds n c N
theorem w_setA {nm : Str} {p0 p1 p2 : Pos} {e : Expr} {l C dx : Addr} {ds : List DictEntry} {n : Nat} (hm : lkF cs mc m "self" = some (.val (.ref l))) (hs : noComp e = true) (h : WE X cs mc m N e (SaI X Q mc m nm l dx C ds n)) (hs1 : findIn (hd.heap_1 w.params) (.ref C) "__setattr__" = some (some (.builtin "object.__setattr__"))) (hp : plainOver (hd.heap_1 w.params) C = true) (ht : takerIn (hd.heap_1 w.params) C nm = some none) (hh : hasDictIn (hd.heap_1 w.params) C = true) (hl : (getL nm ds).isSome = true) :
    W1 X cs Q mc m N (.Assign [.Attribute (.Name "self" p0) nm p1] e p2) := by
  intro hk τ ρ hp' t E a
  refine plainObj_wpAny_Assign_Attribute (wpAny_mono (h hk τ ρ hp' t E a) ?_ fun _ _ x => x) (noSwap hs _ _ _)
  refine EP.el ?_
  intro c k N2 h2 t2 a2 q
  induction q with | mk ds' n' N' hx hd e U hz hkey hQ => ?_
  refine pev_ok (ps := []) (lk_F hk) a2 12 _ (by show Mine.p0 (lkF cs mc m "self") = _; rw [hm]; rfl) trivial fun _ t3 => ?_
  obtain ⟨co, c1, c4, c2, c3⟩ := a2.C
  show wpAny X.M (X.A cs) (setAttr (.ref l) nm (c.at k)) _ E (X.s h2 t3)
  exact set_dict (s := X.s h2 t3) a2.F X.X c2 (InstAt.of_news a2.N hx hd) rfl hs1 hp ht hh hl (e _ _) (updApp (U _ _) fun q hq e => c3 (dx, _) hd q hq e.symm) (hz _ _) fun h' F' N3 => .next mc m _ h' _ τ ρ ⟨F', a2.D, co, c1, c4, N3, fun q hq r hr => by
    obtain ⟨o, ho⟩ := hkey _ _ q hq
    exact c3 (q.1, o) ho r hr⟩ (hQ _ _)
abbrev dE (w : World) (nm : Str) (k : Tok) (v : Value) : DictEntry := ⟨PyData.keyHash w.params nm, .str nm k, v⟩
inductive NewP (led : Led) (fs : Addr) : Value → Led → Prop
  | mk (a1 a2 a3 a4 : Int) (k1 k2 k3 k4 tn tw : Tok) (dx x pb : Addr) (kp : Nat) (hlt : ∀ q ∈ led, q.1 < dx) (hx : @LT.lt Nat _ dx x) (hpb : @LT.lt Nat _ x pb) : NewP led fs (.ref x) ((pb, lsO [] kp) :: (x, instObj 144 dx) :: (dx, lexD a1 a2 a3 a4 k1 k2 k3 k4 1 tn fs tw pb) :: led)
inductive IniP (led : Led) (fs x dx : Addr) : Value → Led → Prop
  | mk (a1 a2 a3 a4 : Int) (k1 k2 k3 k4 tn tw : Tok) (pb : Addr) (kp : Nat) (hpb : @LT.lt Nat _ x pb) : IniP led fs x dx .none ((pb, lsO [] kp) :: (x, instObj 144 dx) :: (dx, lexD a1 a2 a3 a4 k1 k2 k3 k4 1 tn fs tw pb) :: led)
set_option maxHeartbeats 2000000 in
theorem init_n {led : Led} {x dx fs : Addr} (hlt : ∀ q ∈ led, q.1 < dx) (hx : @LT.lt Nat _ dx x) :
    Con w p loose mean mg mb (.ref 120) [.ref x, .ref fs] [] 2 50 ((x, instObj 144 dx) :: (dx, dictOf [] 0) :: led) (IniP led fs x dx) := by
  refine' con_def (D := 1) (U := 47) [("fp", .val (.ref fs)), ("self", .val (.ref x))] ?k6 ?k7 ?k9 ?kB ?km ?_ ?c2 ?c3 ?c4 ?c5
  case k6 => k_is
  case k7 => k_is
  case k9 => exact (fun s _ => BindsTo.of_eq rfl)
  case km => rfl
  case c5 => decide
  case kB => exact locs rfl
  case c2 => exact rfl
  case c3 => exact rfl
  case c4 => exact rfl
  intro X hX hH
  have hne : x ≠ dx := Nat.ne_of_gt hx
  have hoff : ∀ q ∈ led, q.1 ≠ dx := fun q hq => Nat.ne_of_lt (hlt q hq)
  have U0 : ∀ o o', Upd dx o o' ((x, instObj 144 dx) :: (dx, o) :: led) ((x, instObj 144 dx) :: (dx, o') :: led) := fun o o' => .tail hne (.head hoff)
  have K0 : ∀ o o', ∀ q ∈ (x, instObj 144 dx) :: (dx, o') :: led, ∃ o'', (q.1, o'') ∈ (x, instObj 144 dx) :: (dx, o) :: led := fun o o' => List.forall_mem_cons.mpr ⟨⟨_, .head _⟩, List.forall_mem_cons.mpr ⟨⟨_, .tail _ (.head _)⟩, fun q hq => ⟨_, .tail _ (.tail _ hq)⟩⟩⟩
  refine ws_cons (w_setA (l := x) (C := 144) (dx := dx) (by kpf_close) rfl (we_pure (c := .int 1) (by kpf_close) (by isplit) (.mk _ _ (fun k t => [dE w "lineno" k (.int 1 t)]) 1 (fun k t => (x, instObj 144 dx) :: (dx, dictOf [dE w "lineno" k (.int 1 t)] 1) :: led) (.head _) (.tail _ (.head _)) (fun k t => by k_put) (fun k t => U0 _ _) (fun k t => Nat.le_of_ble_eq_true rfl) (fun k t => K0 _ _) fun k1 tn => ?_)) (by k_is) (by k_is) (by k_is) (by k_is) rfl)
  show WS _ _ _ _ _ _ _
  refine ws_cons (w_setA (l := x) (C := 144) (dx := dx) (by kpf_close) rfl (we_pure (c := .val (.ref fs)) (by kpf_close) (by isplit) (.mk _ _ (fun k t => [dE w "lineno" k1 (.int 1 tn), dE w "instream" k (.ref fs)]) 2 (fun k t => (x, instObj 144 dx) :: (dx, dictOf [dE w "lineno" k1 (.int 1 tn), dE w "instream" k (.ref fs)] 2) :: led) (.head _) (.tail _ (.head _)) (fun k t => by k_put) (fun k t => U0 _ _) (fun k t => Nat.le_of_ble_eq_true rfl) (fun k t => K0 _ _) fun k2 _ => ?_)) (by k_is) (by k_is) (by k_is) (by k_is) rfl)
  show WS _ _ _ _ _ _ _
  refine ws_cons (w_setA (l := x) (C := 144) (dx := dx) (by kpf_close) rfl (we_pure (c := .str "\n\t\r ") (by kpf_close) (by isplit) (.mk _ _ (fun k t => [dE w "lineno" k1 (.int 1 tn), dE w "instream" k2 (.ref fs), dE w "whitespace" k (.str "\n\t\r " t)]) 3 (fun k t => (x, instObj 144 dx) :: (dx, dictOf [dE w "lineno" k1 (.int 1 tn), dE w "instream" k2 (.ref fs), dE w "whitespace" k (.str "\n\t\r " t)] 3) :: led) (.head _) (.tail _ (.head _)) (fun k t => by k_put) (fun k t => U0 _ _) (fun k t => Nat.le_of_ble_eq_true rfl) (fun k t => K0 _ _) fun k3 tw => ?_)) (by k_is) (by k_is) (by k_is) (by k_is) rfl)
  show WS _ _ _ _ _ _ _
  refine ws_cons (w_setA (l := x) (C := 144) (dx := dx) (by kpf_close) rfl (we_list (cls := []) (by kpf_close) (by isplit) rfl fun pb σ hpb => .mk _ _ (fun k t => [dE w "lineno" k1 (.int 1 tn), dE w "instream" k2 (.ref fs), dE w "whitespace" k3 (.str "\n\t\r " tw), dE w "pushback" k (.ref pb)]) 4 (fun k t => (pb, lsO [] 0) :: (x, instObj 144 dx) :: (dx, dictOf [dE w "lineno" k1 (.int 1 tn), dE w "instream" k2 (.ref fs), dE w "whitespace" k3 (.str "\n\t\r " tw), dE w "pushback" k (.ref pb)] 4) :: led) (.tail _ (.head _)) (.tail _ (.tail _ (.head _))) (fun k t => by k_put) (fun k t => .tail (Nat.ne_of_gt (hpb _ (.tail _ (.head _)))) (U0 _ _)) (fun k t => Nat.le_of_ble_eq_true rfl) (fun k t => List.forall_mem_cons.mpr ⟨⟨_, .head _⟩, fun q hq => (K0 _ _ q hq).imp fun _ h => .tail _ h⟩) fun k4 _ => ?_) (by k_is) (by k_is) (by k_is) (by k_is) rfl)
  exact ws_nil ⟨_, fun _ h => h, .mk _ _ _ _ k1 k2 k3 k4 tn tw pb 0 (hpb (x, instObj 144 dx) (.head _))⟩
theorem netrc_n {led : Led} {fs : Addr} : Con w p loose mean mg mb (.ref 144) [.ref fs] [] 4 60 led (NewP led fs) := by
  intro dp un gd env outer A₀ base h₀ L m h g d t o R B F XX N T hcd hF hK hdp hun hret
  refine PySem.W.make_K F N (XX.keeps F.keep) (by k_is) (fI := 120) (by k_is) (by k_is) fun x dx h' F' N' hlt hx => ?_
  refine init_n (x := x) (dx := dx) (fs := fs) (led := led) hlt hx _ _ _ env outer A₀ base h₀ L m h' g d t o _ B F' XX N' T hcd hF hK ?dep ?uni ?_
  case dep => exact Nat.lt_of_le_of_lt (by rw [Nat.add_assoc]; exact Nat.add_le_add_left (show (Code.builtin "type.__call__" ⟨[.ref 144, .ref fs], []⟩).weight + 2 ≤ 4 from Nat.le_of_ble_eq_true rfl) dp) hdp
  case uni => exact Nat.lt_of_le_of_lt (by rw [Nat.add_assoc]; exact Nat.add_le_add_left (show (Code.builtin "type.__call__" ⟨[.ref 144, .ref fs], []⟩).cUnits + 50 ≤ 60 from Nat.le_of_ble_eq_true rfl) un) hun
  intro r n' h2 tk2 F2 N2 hP
  induction hP with | mk a1 a2 a3 a4 k1 k2 k3 k4 tn tw pb kp hpb => exact ⟨rfl, hret _ _ _ _ F2 N2 (.mk a1 a2 a3 a4 k1 k2 k3 k4 tn tw dx x pb kp hlt hx hpb)⟩
end
end
section
example : PySem.Challenge.rw_uj0005_01.row.prog = PySem.Challenge.rw_uj0005_01.row.prog ∧ hd.heap_1 = hd.heap_1 := by
  k_fill
  exact ⟨rfl, rfl⟩
section
variable {w : World} {p : Program} {loose : List Str} {mean : ExcName → Option Value} {mg mb : Str → Option Value} {D U : Nat}
variable {X : Cx w p loose mean mg mb D U} {cs : Scope} {Q : FinS → Prop} {mc m : Loc} {N : Led} {en : Env} {f : Str → Option Value} {lk : Str → Option VC}
def TokP (L : Lex) (rest : Led) (T : Tri) (r : Value) (n' : Led) : Prop := ∃ t vs' k' tn', r = .str T.1 t ∧ n' = (L.hd vs' k' T.2.2 tn' ++ rest) ∧ StrsAre vs' (T.2.1.map oneS)
theorem CiN.hx {L : Lex} {I M : Addr} {tS : Tok} {rest : Led} {live : Bool} {cl : List Nat} {n : Int} (h : CiN L I M tS rest live cl n N) : (L.x, instObj 144 L.dx) ∈ N ∧ ∃ n tn, (L.dx, lexD L.a1 L.a2 L.a3 L.a4 L.k1 L.k2 L.k3 L.k4 n tn L.f1 L.tw L.pb) ∈ N := by
  obtain ⟨o, vs, k, tn, ho, hv, hl⟩ := h
  exact ⟨.tail _ (.tail _ (.tail _ (.tail _ (.tail _ (.tail _ (.tail _ (.head _))))))), n, tn, .tail _ (.tail _ (.tail _ (.tail _ (.tail _ (.tail _ (.head _))))))⟩
theorem CiN.len {L : Lex} {I M : Addr} {tS : Tok} {rest : Led} {live : Bool} {cl : List Nat} {n : Int} (h : CiN L I M tS rest live cl n N) : cl.length ≤ 40 := by
  obtain ⟨o, vs, k, tn, ho, hv, hl⟩ := h
  exact hl
theorem tok_ret {L : Lex} {I M : Addr} {tS : Tok} {rest : Led} {T : Tri} {live : Bool} {cl : List Nat} {n : Int} {t : Str} (h : CiN L I M tS rest live cl n N) (hT : JE T cl t n) : Done (TokP L rest T) (.ret (.str t) N) := by
  obtain ⟨o, vs, k, tn, ho, hv, hl⟩ := h
  cases hT
  exact ⟨(L.hd vs k n tn ++ rest), fun q hq => .tail _ (.tail _ hq), fun k' => ⟨k', vs, k, tn, rfl, rfl, hv⟩⟩
abbrev mTk (I : Addr) (t : Str) (x : Addr) : Loc := [("fiter", .val (.ref I)), ("token", .str t), ("self", .val (.ref x))]
theorem sub_tk {I x : Addr} {t : Str} : Sub (mTk I t x) (mTk I t x) := .of (.inl rfl) (.of (.inl rfl) (.of (.inl rfl) .nil))
inductive OutI (L : Lex) (I M : Addr) (tS : Tok) (rest : Led) (T : Tri) : Nat → Loc → Loc → Led → Prop
  | live (m : Loc) (N : Led) (cl : List Nat) (t : Str) (n : Int) (hm : Sub (mTk I t L.x) m) (hN : CiN L I M tS rest true cl n N) (hJ : J1 T cl t n) : OutI L I M tS rest T (cl.length + 1) [] m N
  | dead (m : Loc) (N : Led) (cl : List Nat) (t : Str) (n : Int) (hm : Sub (mTk I t L.x) m) (hN : CiN L I M tS rest false cl n N) (hJ : JE T cl t n) : OutI L I M tS rest T 0 [] m N
inductive InI (L : Lex) (I M : Addr) (tS : Tok) (rest : Led) (J : List Nat → Str → Int → Prop) : Nat → Loc → Loc → Led → Prop
  | mk (m : Loc) (N : Led) (cl : List Nat) (t : Str) (n : Int) (hm : Sub (mTk I t L.x) m) (hN : CiN L I M tS rest true cl n N) (hJ : J cl t n) : InI L I M tS rest J (cl.length + 1) [] m N
theorem gt_ws {L : Lex} {I M : Addr} {tS : Tok} {rest : Led} {live : Bool} {cl : List Nat} {n : Int} {c : Nat} {p1 p2 p3 p4 : Pos} (hN : CiN L I M tS rest live cl n N) (hlk : Lk X cs en f mc lk) (h1 : lk "ch" = some (.str (oneS c))) (h2 : lk "self" = some (.val (.ref L.x))) {Q : Bool → Led → Prop}
    (h : Q (!(Builtin.Str.occurrences (Str.ofString "\n\t\r ") (oneS c) 0 (Str.ofString "\n\t\r ").length 1).isEmpty) N) (hb : behindInMarks .In (.Attribute (.Name "self" p2) "whitespace" p3) = false)
    (hc : ∀ en, eval (.Attribute (.Name "self" p2) "whitespace" p3) en = (do
          let o ← eval (.Name "self" p2) en
          standAt p3.atName
          let r ← holding [o] (getAttr o "whitespace" true)
          letTemporaryGo (.Name "self" p2) o r
          pure r)) : GT X cs en f mc N (.Compare (.Name "ch" p1) [.In] [.Attribute (.Name "self" p2) "whitespace" p3] p4) Q := by
  obtain ⟨hx, n', tn', hdx⟩ := hN.hx
  refine gt_cmpE (ge_pure (ps := []) hlk (by show p0 (lk "ch") = _; rw [h1]; rfl) trivial (ge_attr (l := L.x) (C := 144) (dx := L.dx) (ps := []) hlk (by show p0 (lk "self") = _; rw [h2]; rfl) trivial hx hdx (by k_is) (by k_is) (by k_is) (by k_is) rfl rfl (gc_in h) hc)) hb
theorem gt_ch {c : Nat} {y : Str} {k : Nat} {p1 p2 p3 : Pos} {Q : Bool → Led → Prop} (hlk : Lk X cs en f mc lk) (h1 : lk "ch" = some (.str (oneS c))) (h : Q (oneS c == y) N) : GT X cs en f mc N (.Compare (.Name "ch" p1) [.Eq] [.Constant (.str y) k p2] p3) Q :=
  gt_cmpE (ge_pure (ps := []) hlk (by show p0 (lk "ch") = _; rw [h1]; rfl) trivial (ge_pure (ps := []) hlk rfl trivial (gc_eqS h))) rfl
theorem ws_rchar {L : Lex} (hL : L.Ok w p loose mean mg mb) {I M : Addr} {tS : Tok} {rest : Led} (hO : CiOff L I M rest) {live : Bool} {cl : List Nat} {n : Int} (hN : CiN L I M tS rest live cl n N) {p0 p1 p2 p3 p4 : Pos} {more : List Stmt} (h2 : lkF cs mc m "self" = some (.val (.ref L.x))) (hx : cs.names.lookup ("ch" : Str) = some .local) (hD : Nat.ble 6 D = true) (hU : Nat.ble 200 U = true)
    (h : ∀ N', CiN L I M tS rest live cl.tail (n + nlS (hdS cl)) N' → WS X cs Q mc (("ch", .str (hdS cl)) :: m) N' more)
    (hc : ∀ en : Env, ∃ pl, eval (.Call (.Attribute (.Name "self" p2) "_read_char" p3) [] [] p4) en = (do
      let ov ← eval (.Name "self" p2) en
      standAt p3.atName
      let (f, first) ← holding [ov] (getMethod ov "_read_char" pl)
      callWith p4 f first (backTo p4 (starEach [] en)) [])) : WS X cs Q mc m N (.Assign [.Name "ch" p0] (.Call (.Attribute (.Name "self" p2) "_read_char" p3) [] [] p4) p1 :: more) := by
  obtain ⟨hx', n', tn', hdx⟩ := hN.hx
  exact ws_setE hx rfl fun hk τ ρ => ge_inst0 (l := L.x) (C := 144) (dx := L.dx) (g := 127) (ps := []) hk (lk_F hk) (by show Mine.p0 (lkF cs mc m "self") = _; rw [h2]; rfl) trivial hx' hdx (by k_is) (by k_is) (by k_is) rfl (by k_is) (wc_rchar hL hO hN hD hU h) hc
theorem ws_mid {st : Stmt} {rest : List Stmt} (Q1 : FinS → Prop) (h : W1 X cs Q1 mc m N st) (hQ : ∀ r, Q1 r → Thn X cs Q rest r) : WS X cs Q mc m N (st :: rest) := by
  refine ws_cons fun hk τ ρ hp t E a => wpAny_mono (h hk τ ρ hp t E a) (fun fl s hs => ?_) fun _ _ x => x
  induction hs with
  | next mc' m' N' h' t' τ' ρ' a' q => exact .next mc' m' N' h' t' τ' ρ' a' (hQ _ q)
  | brk mc' m' N' h' t' τ' ρ' a' q => exact .brk mc' m' N' h' t' τ' ρ' a' (hQ _ q)
  | cont mc' m' N' h' t' τ' ρ' a' q => exact .cont mc' m' N' h' t' τ' ρ' a' (hQ _ q)
  | ret c k mc' f N' h' t' a' q => exact .ret c k mc' f N' h' t' a' (hQ _ q)
inductive MidI (L : Lex) (I M : Addr) (tS : Tok) (rest : Led) (J : List Nat → Str → Int → Prop) (t : Str) (z : Nat) (R : VC → Led → Prop) : FinS → Prop
  | next (m : Loc) (N : Led) (y : Str) (cl : List Nat) (n : Int) (hm : Sub (("ch", .str y) :: mTk I t L.x) m) (hN : CiN L I M tS rest true cl n N) (hJ : J cl (t ++ y) n) (hz : y.length ≤ 1) (hl : cl.length ≤ z) : MidI L I M tS rest J t z R (.next [] m N)
  | ret (c : VC) (N : Led) (h : R c N) : MidI L I M tS rest J t z R (.ret c N)
theorem w_esc {L : Lex} (hL : L.Ok w p loose mean mg mb) {I M : Addr} {tS : Tok} {rs : Led} (hO : CiOff L I M rs) {R : VC → Led → Prop} {J : List Nat → Str → Int → Prop} {c : Nat} {r : List Nat} {t : Str} {n : Int} {pa p0 p1 p2 p3 p4 p5 p6 p7 : Pos} {k : Nat} (hN : CiN L I M tS rs true r n N)
    (h1 : c = 92 → J r.tail (t ++ hdS r) (n + nlS (hdS r))) (h2 : c ≠ 92 → J r (t ++ oneS c) n) (hx : cs.names.lookup ("ch" : Str) = some .local) (hy : cs.names.lookup ("self" : Str) = some .local) (hD : Nat.ble 6 D = true) (hU : Nat.ble 200 U = true)
    (hc : ∀ en : Env, ∃ pl, eval (.Call (.Attribute (.Name "self" p2) "_read_char" p3) [] [] p4) en = (do
      let ov ← eval (.Name "self" p2) en
      standAt p3.atName
      let (f, first) ← holding [ov] (getMethod ov "_read_char" pl)
      callWith p4 f first (backTo p4 (starEach [] en)) [])) :
    W1 X cs (MidI L I M tS rs J t r.length R) [] (("ch", .str (oneS c)) :: mTk I t L.x) N (.If (.Compare (.Name "ch" p5) [.Eq] [.Constant (.str "\\") k p6] p7) [.Assign [.Name "ch" p0] (.Call (.Attribute (.Name "self" p2) "_read_char" p3) [] [] p4) p1] [] pa) := by
  have e1 : lkF cs [] (("ch", .str (oneS c)) :: mTk I t L.x) "ch" = some (.str (oneS c)) := by unfold lkF; rw [hx]; rfl
  have e2 : lkF cs [] (("ch", .str (oneS c)) :: mTk I t L.x) "self" = some (.val (.ref L.x)) := by unfold lkF; rw [hy]; rfl
  refine w_if (wt_of fun hk τ ρ => gt_ch (lk_F hk) e1 ?_)
  generalize he : (oneS c == ("\\" : Str)) = b
  cases b
  · exact ws_nil (.next _ _ (oneS c) r n (.of (.inl rfl) (sub_tk.cons rfl)) hN (h2 (n92 he)) (Nat.le_refl 1) (Nat.le_refl _))
  · exact ws_rchar hL hO hN e2 hx hD hU (fun N' hN' => ws_nil (.next _ _ (hdS r) r.tail (n + nlS (hdS r)) (.of (.inl rfl) ((sub_tk.cons rfl).cons rfl)) hN' (h1 (q92 he)) (hdS_len r) (by rw [List.length_tail]; exact Nat.sub_le _ _))) hc
theorem mid_nil {L : Lex} {I M : Addr} {tS : Tok} {rs : Led} {J : List Nat → Str → Int → Prop} {R : VC → Led → Prop} {t : Str} {z : Nat} : ∀ r, MidI L I M tS rs J t z R r → Thn X cs (MidI L I M tS rs J t z R) [] r := by
  rintro _ (⟨m, N, y, cl, n, hm, hN, hJ, hz, hl⟩ | ⟨c, N, h⟩)
  · exact ws_nil (.next m N y cl n hm hN hJ hz hl)
  · exact .ret c N h
theorem ws_tok {I x : Addr} {t y : Str} {p1 p2 p3 : Pos} {rest : List Stmt} (hm : Sub (("ch", .str y) :: mTk I t x) m) (ht : t.length ≤ 60) (hy : y.length ≤ 1) (hx : cs.names.lookup ("ch" : Str) = some .local) (hx2 : cs.names.lookup ("token" : Str) = some .local) (h : ∀ m, Sub (mTk I (t ++ y) x) m → WS X cs Q [] m N rest) : WS X cs Q [] m N (.AugAssign (.Name "token" p1) .Add (.Name "ch" p2) p3 :: rest) := by
  refine ws_weak .nil hm (fun _ h => h) ?_
  refine ws_augS (ps := []) hx2 rfl (by show Mine.p0 (lkF cs [] (("ch", .str y) :: mTk I t x) "ch") = _; unfold lkF; rw [hx]; rfl) trivial (Nat.le_trans (Nat.add_le_add ht hy) (by decide)) (h _ (.of (.inl rfl) (.of (.inl rfl) (.of (.inl rfl) .nil))))
theorem tok_fin {L : Lex} {I M : Addr} {tS : Tok} {rs : Led} {J : List Nat → Str → Int → Prop} {R : VC → Led → Prop} {t : Str} {z : Nat} {p1 p2 p3 : Pos} (ht : t.length ≤ 60) (hx : cs.names.lookup ("ch" : Str) = some .local) (hx2 : cs.names.lookup ("token" : Str) = some .local) (hR : ∀ c N, R c N → Q (.ret c N)) : ∀ r, MidI L I M tS rs J t z R r → Thn X cs (Turn Q fun mc m N => ∃ z', z' < z + 1 + 1 ∧ InI L I M tS rs J z' mc m N) [.AugAssign (.Name "token" p1) .Add (.Name "ch" p2) p3] r := by
  rintro _ (⟨m, N, y, cl, n, hm, hN, hJ, hz, hl⟩ | ⟨c, N, h⟩)
  · exact ws_tok hm ht hz hx hx2 fun m hm' => ws_nil ⟨cl.length + 1, Nat.lt_succ_of_le (Nat.succ_le_succ hl), .mk m N cl _ n hm' hN hJ⟩
  · exact hR c N h
set_option maxHeartbeats 4000000 in
theorem tok_L {L : Lex} {rest : Led} {cl : List Nat} {vs : List Value} {k kp : Nat} {n : Int} {tn : Tok} (hL : L.Ok w p loose mean mg mb) (hoD : ∀ q ∈ rest, q.1 ≠ L.D) (hox : ∀ q ∈ rest, q.1 ≠ L.dx) (hpb : L.pb ≠ L.D ∧ L.pb ≠ L.dx) (hcs : cl.length ≤ 40) (hab : ∀ c ∈ cl, c ∈ ABC) (hvs : StrsAre vs (cl.map oneS)) :
    Con w p loose mean mg mb (.ref 134) [.ref L.x] [] 10 400 ((L.hd vs k n tn ++ ((L.pb, lsO [] kp) :: rest))) (TokP L ((L.pb, lsO [] kp) :: rest) (tokM cl n)) := by
  refine' con_def (D := 9) (U := 397) [("self", .val (.ref L.x))] ?k6 ?k7 ?k9 ?kB ?km ?_ ?c2 ?c3 ?c4 ?c5
  case k6 => k_is
  case k7 => k_is
  case k9 => exact (fun s _ => BindsTo.of_eq rfl)
  case km => rfl
  case c5 => decide
  case kB => exact locs rfl
  case c2 => exact rfl
  case c3 => exact rfl
  case c4 => exact rfl
  intro X hX hH
  have hx : (L.x, instObj 144 L.dx) ∈ (L.hd vs k n tn ++ ((L.pb, lsO [] kp) :: rest)) := .tail _ (.tail _ (.tail _ (.tail _ (.tail _ (.head _)))))
  have hdx : (L.dx, lexD L.a1 L.a2 L.a3 L.a4 L.k1 L.k2 L.k3 L.k4 n tn L.f1 L.tw L.pb) ∈ (L.hd vs k n tn ++ ((L.pb, lsO [] kp) :: rest)) := .tail _ (.tail _ (.tail _ (.tail _ (.head _))))
  refine ws_ifF (wt_of fun hk τ ρ => gt_empty (ge_attr (l := L.x) (C := 144) (dx := L.dx) (lk_F hk) (by kpf_close) (by isplit) hx hdx (by k_is) (by k_is) (by k_is) (by k_is) rfl rfl ⟨L.pb, kp, rfl, .tail _ (.tail _ (.tail _ (.tail _ (.tail _ (.tail _ (.tail _ (.tail _ (.head _)))))))), rfl, ws_nil ?_⟩ (fun _ => rfl)) (fun _ => rfl))
  tbn_conj
  refine ws_setE (by kpf_close) rfl (fun hk τ ρ => ge_call hk (wn_builtin (by k_is) (by kpf_close) (by kpf_close) (by decide) (by decide) hk) wf_builtin rfl (ga_cons (ge_bound (l := L.x) (C := 144) (dx := L.dx) (g := 127) (lk_F hk) (by kpf_close) (by isplit) hx hdx (by k_is) (by k_is) (by k_is) (by k_is) (by k_is) (by k_is) (by decide +kernel) rfl (fun M hM => ga_pure (cls := [.str (Str.ofString "")]) (lk_F hk) (by kpf_close) (by isplit) (wc_iter2 (.head _) fun I tS hI => ?_)) (fun _ => rfl)) rfl) (fun _ => rfl))
  have hD9 : Nat.ble 6 9 = true := rfl
  have hO : CiOff L I M ((L.pb, lsO [] kp) :: rest) := by
    refine ⟨List.forall_mem_cons.mpr ⟨hpb.1, hoD⟩, List.forall_mem_cons.mpr ⟨hpb.2, hox⟩, fun vs' k' n' tn' => offmap (by rfl) (fun q hq => Nat.ne_of_lt (hI q hq)), Nat.ne_of_gt (hM _ (.head _)), Nat.ne_of_gt (hM _ (.tail _ (.tail _ (.tail _ (.tail _ (.head _))))))⟩
  have hC0 : CiN L I M tS ((L.pb, lsO [] kp) :: rest) true cl n ((I, ciO (.ref M) (.str (Str.ofString "") tS) false) :: (M, methodObj (.ref 127) (.ref L.x)) :: (L.hd vs k n tn ++ ((L.pb, lsO [] kp) :: rest))) := .mk _ vs k tn ⟨rfl, rfl⟩ hvs hcs
  generalize (I, ciO (.ref M) (.str (Str.ofString "") tS) false) :: (M, methodObj (.ref 127) (.ref L.x)) :: (L.hd vs k n tn ++ ((L.pb, lsO [] kp) :: rest)) = N0 at hC0 ⊢
  have hJ0 : J1 (tokM cl n) cl (Str.ofString "") n := ⟨rfl, rfl, hab⟩
  clear hx hdx hI hM hvs hcs hab hpb hoD hox
  generalize (L.pb, lsO [] kp) :: rest = rs at *
  generalize tokM cl n = T at *
  refine ws_cons (w_forG (OutI L I M tS rs T) (by kpf_close) (by isplit) (fun _ _ => rfl) (ci_iter hC0) (.live _ _ cl _ n (.of (.inl rfl) (.of (.inl rfl) (.of (.inl rfl) .nil))) hC0 hJ0) ?turn)
  case turn =>
    rintro z mc m N1 (⟨_, _, cl1, t1, n1, hm, hN, hJ⟩ | ⟨_, _, cl1, t1, n1, hm, hN, hJ⟩)
    case dead => exact nx_dead hN (.done _ (ws_weak .nil hm (fun _ h => h) (ws_ret (by kpf_close) (by isplit) (tok_ret hN hJ))))
    refine nx_live hL hO hN rfl rfl rfl (fun c r N' e hN' => ?_) (fun N' e hN' => .done _ ?_)
    · subst e
      have hr : r.length < 40 := hN.len
      refine .next _ _ (wb_local (by kpf_close) (ws_weak (m' := ("ch", .str (oneS c)) :: mTk I t1 L.x) .nil (.of (.inl rfl) (hm.cons rfl)) (fun _ h => h) ?_))
      refine ws_cons (w_if (wt_of fun hk τ ρ => gt_ws hN' (lk_F hk) (by kpf_close) (by kpf_close) ?_ rfl (fun _ => rfl)))
      generalize hw : (Builtin.Str.occurrences (Str.ofString "\n\t\r ") (oneS c) 0 (Str.ofString "\n\t\r ").length 1).isEmpty = b
      cases b
      · exact ws_cons (w_cont ⟨r.length + 1, Nat.lt_succ_self _, .live _ _ r t1 _ (sub_tk.cons rfl) hN' (hJ.ws (wsT hJ.mem hw))⟩)
      have hw' := wsF hJ.mem hw
      refine ws_nil (ws_cons (w_if (wt_of fun hk τ ρ => gt_ch (lk_F hk) (by kpf_close) ?_)))
      generalize hq : (oneS c == ("\"" : Str)) = b
      cases b
      · refine ws_mid (MidI L I M tS rs (JB T) t1 r.length fun _ _ => False) (w_esc hL hO hN' (fun e => hJ.esc hw' (n34 hq) e hr) (fun e => hJ.bare hw' (n34 hq) e hr) (by kpf_close) (by kpf_close) rfl rfl (fun _ => ⟨_, rfl⟩)) ?_
        rintro _ (⟨m2, N2, y, cl2, n2, hm2, hN2, hJ2, hz2, hl2⟩ | ⟨_, _, h⟩)
        case ret => exact h.elim
        refine ws_tok hm2 (by rw [hJ.1]; decide) hz2 (by kpf_close) (by kpf_close) fun m3 hm3 => ?_
        refine ws_weak .nil hm3 (fun _ h => h) (ws_cons (w_forG (InI L I M tS rs (JB T)) (by kpf_close) (by isplit) (fun _ _ => rfl) (ci_iter hN2) (.mk _ _ cl2 _ n2 sub_tk hN2 hJ2) ?tb))
        rintro z3 mc3 m5 N3 ⟨_, _, cl3, t3, n3, hm4, hN3, hJ3⟩
        refine nx_live hL hO hN3 rfl rfl rfl (fun c3 r3 N4 e hN4 => ?_) (fun N4 e hN4 => .done _ ?_)
        · subst e
          refine .next _ _ (wb_local (by kpf_close) (ws_weak (m' := ("ch", .str (oneS c3)) :: mTk I t3 L.x) .nil (.of (.inl rfl) (hm4.cons rfl)) (fun _ h => h) ?_))
          refine ws_mid (MidI L I M tS rs (JB T) t3 r3.length fun c N => Done (TokP L rs T) (.ret c N)) (w_if (wt_of fun hk τ ρ => gt_ws hN4 (lk_F hk) (by kpf_close) (by kpf_close) ?_ rfl (fun _ => rfl))) (tok_fin (Nat.le_trans (Nat.le_add_right _ _) hJ3.2.1) (by kpf_close) (by kpf_close) fun _ _ h => h)
          generalize hw3 : (Builtin.Str.occurrences (Str.ofString "\n\t\r ") (oneS c3) 0 (Str.ofString "\n\t\r ").length 1).isEmpty = b
          cases b
          · exact ws_ret (by kpf_close) (by isplit) (.ret _ _ (tok_ret hN4 (hJ3.end (wsT hJ3.mem hw3))))
          · exact ws_mid _ (w_esc hL hO hN4 (fun e => hJ3.esc e) (fun e => hJ3.one (wsF hJ3.mem hw3) e) (by kpf_close) (by kpf_close) rfl rfl (fun _ => ⟨_, rfl⟩)) mid_nil
        · subst e
          exact ws_nil (ws_nil ⟨0, Nat.zero_lt_succ _, .dead _ _ [] t3 _ hm4 hN4 hJ3.nil⟩)
      · have hJq := hJ.quot hw' (q34 hq) hr
        refine ws_cons (w_forG (InI L I M tS rs (JQ T)) (by kpf_close) (by isplit) (fun _ _ => rfl) (ci_iter hN') (.mk _ _ r t1 _ (sub_tk.cons rfl) hN' hJq) ?tq)
        rintro z3 mc3 m5 N3 ⟨_, _, cl3, t3, n3, hm4, hN3, hJ3⟩
        refine nx_live hL hO hN3 rfl rfl rfl (fun c3 r3 N4 e hN4 => ?_) (fun N4 e hN4 => .done _ ?_)
        · subst e
          refine .next _ _ (wb_local (by kpf_close) (ws_weak (m' := ("ch", .str (oneS c3)) :: mTk I t3 L.x) .nil (.of (.inl rfl) (hm4.cons rfl)) (fun _ h => h) ?_))
          refine ws_mid (MidI L I M tS rs (JQ T) t3 r3.length fun c N => Done (TokP L rs T) (.ret c N)) (w_if (wt_of fun hk τ ρ => gt_ch (lk_F hk) (by kpf_close) ?_)) (tok_fin (Nat.le_trans (Nat.le_add_right _ _) hJ3.2.1) (by kpf_close) (by kpf_close) fun _ _ h => h)
          generalize hq3 : (oneS c3 == ("\"" : Str)) = b
          cases b
          · exact ws_mid _ (w_esc hL hO hN4 (fun e => hJ3.esc e) (fun e => hJ3.one (n34 hq3) e) (by kpf_close) (by kpf_close) rfl rfl (fun _ => ⟨_, rfl⟩)) mid_nil
          · exact ws_ret (by kpf_close) (by isplit) (.ret _ _ (tok_ret hN4 (hJ3.end (q34 hq3))))
        · subst e
          exact ws_nil (ws_nil ⟨0, Nat.zero_lt_succ _, .dead _ _ [] t3 _ hm4 hN4 hJ3.nil⟩)
    · subst e
      exact ws_weak .nil hm (fun _ h => h) (ws_ret (by kpf_close) (by isplit) (tok_ret hN' hJ.nil))
end
end
section
example : PySem.Challenge.rw_uj0005_01.row.prog = PySem.Challenge.rw_uj0005_01.row.prog ∧ hd.heap_1 = hd.heap_1 := by
  k_fill
  exact ⟨rfl, rfl⟩
section
variable {w : World} {p : Program} {loose : List Str} {mean : ExcName → Option Value} {mg mb : Str → Option Value} {D U : Nat}
variable {X : Cx w p loose mean mg mb D U} {cs : Scope} {Q : FinS → Prop} {mc m : Loc} {N : Led} {en : Env} {f : Str → Option Value} {lk : Str → Option VC}
inductive LmI (X : Cx w p loose mean mg mb D U) (cs : Scope) (en : Env) (f : Str → Option Value) (mc : Loc) (es : List Expr) (id : String) (Q : VC → Led → Prop) : VC → Led → Prop
  | mk (l : Addr) (vs : List Value) (n : Nat) (N : Led) (hm : (l, lsO vs n) ∈ N) (h : GA X cs en f mc N es fun cls N' => WC X cs mc N' (.builtin id) (.val (.ref l) :: cls) Q) : LmI X cs en f mc es id Q (.val (.ref l)) N
theorem ge_methE {ov e : Expr} {nm : Str} {id : String} {es : List Expr} {p1 p2 : Pos} {Q : VC → Led → Prop} (hk : cs.kind = .function) (slot : Slot "list" nm id) (hty : typeOf (.builtin id) = pure (.type "method_descriptor")) (h : GE X cs en f mc N ov (LmI X cs en f mc (e :: es) id Q)) (hs : noStars (e :: es) = true)
    (hc : ∀ en : Env, ∃ pl, eval (.Call (.Attribute ov nm p1) (e :: es) [] p2) en = (do
      let ov ← eval ov en
      standAt p1.atName
      let (f, first) ← holding [ov] (getMethod ov nm pl)
      callWith p2 f first (backTo p2 (starEach (e :: es) en)) [])) : GE X cs en f mc N (.Call (.Attribute ov nm p1) (e :: es) [] p2) Q := by
  intro h0 t E a
  have h' := Bool.and_eq_true_iff.mp hs
  obtain ⟨pl, hpl⟩ := hc en
  refine MethodCall_ (wpAny_mono (h h0 t E a) ?_ fun _ _ x => x) hpl
  refine EP.el ?_; intro c k N2 h2 t2 a2 q9; obtain ⟨l, vs, n, _, hm, hA⟩ := q9
  refine listMethod_K a2.N hm slot hty ?_
  refine callWith_method1 (wpAny_mono (hA p2 h2 t2 E a2) ?_ fun _ _ x => x) (noStar_ok h'.1 _ _) (plain_ok h'.2 _ _)
  refine AP.el ?_; intro l' σ N3 h3 t3 a3 hC
  have e0 := atl_cons (c := .val (.ref l)) (r := l') (k := 0) (τ := σ)
  show wpAny X.M (X.A cs) (call (.builtin id) (VC.at (.val (.ref l)) 0 :: atl l' σ 0)) _ E _
  rw [e0]
  exact hC hk _ _ h3 t3 E a3
theorem wc_pop0 {l : Addr} {v : Value} {vs : List Value} {n : Nat} {Q : VC → Led → Prop} (hoff : ∀ q ∈ N, q.1 ≠ l) (hz : (v :: vs).length ≤ sizeLine) (h : Q (.val v) ((l, lsO vs (n + 1)) :: N)) : WC X cs mc ((l, lsO (v :: vs) n) :: N) (.builtin "list.pop") [.val (.ref l), .int 0] Q := by
  intro _ σ f hp t E a
  obtain ⟨co, c1, c4, c2, c3⟩ := a.C
  exact pop0_F (s := X.s hp t) (g := fun o => (l, o) :: (N ++ co)) a.F c2 (.head fun q hq => (List.mem_append.mp hq).elim (hoff q) fun hq e => c3 _ (.head _) q hq e.symm) hz fun h' F' N' => upd_at a.D c1 c4 c3 F' N' h
theorem mem_mid {q r : Addr × Obj} {A B : Led} (h : q ∈ A ++ r :: B) : q ∈ r :: (A ++ B) := mem_swap3 (B := [r]) h
theorem mid_mem {q r : Addr × Obj} {A B : Led} (h : q ∈ r :: (A ++ B)) : q ∈ A ++ r :: B := mem_swap3 (A := [r]) h
theorem Lex.pbOff {L : Lex} (h : LexOrd L.D L.f2 L.c2 L.C L.dx L.x L.f1 L.ds L.pb) {vs : List Value} {k : Nat} {n : Int} {tn : Tok} {A : Led} (hA : ∀ q ∈ A, q.1 ≠ L.pb) : ∀ q ∈ L.hd vs k n tn ++ A, q.1 ≠ L.pb := by
  obtain ⟨⟨h1, h2, h3, h4, h5⟩, h6, h7, h8⟩ := h
  have d7 := Nat.lt_trans h7 h8
  have d6 := Nat.lt_trans h6 d7
  have d5 := Nat.lt_trans h5 d6
  have d4 := Nat.lt_trans h4 d5
  have d3 := Nat.lt_trans h3 d4
  have d2 := Nat.lt_trans h2 d3
  have d1 := Nat.lt_trans h1 d2
  exact List.forall_mem_cons.mpr ⟨Nat.ne_of_lt d2, List.forall_mem_cons.mpr ⟨Nat.ne_of_lt d5, List.forall_mem_cons.mpr ⟨Nat.ne_of_lt d4, List.forall_mem_cons.mpr ⟨Nat.ne_of_lt d1, List.forall_mem_cons.mpr ⟨Nat.ne_of_lt d7, List.forall_mem_cons.mpr ⟨Nat.ne_of_lt h8, List.forall_mem_cons.mpr ⟨Nat.ne_of_lt d3, List.forall_mem_cons.mpr ⟨Nat.ne_of_lt d6, hA⟩⟩⟩⟩⟩⟩⟩⟩
def Lex.led (L : Lex) (vs : List Value) (k : Nat) (n : Int) (tn : Tok) (ws : List Value) (kp : Nat) (rest : Led) : Led := L.hd vs k n tn ++ (L.pb, lsO ws kp) :: rest
theorem Lex.to {L : Lex} {vs ws : List Value} {k kp : Nat} {n : Int} {tn : Tok} {pre rest : Led} {q : Addr × Obj} (h : q ∈ (L.pb, lsO ws kp) :: (L.hd vs k n tn ++ (pre ++ rest))) : q ∈ pre ++ L.led vs k n tn ws kp rest := by
  rcases List.mem_append.mp (mid_mem h) with h | h
  · exact List.mem_append_right _ (List.mem_append_left _ h)
  · exact (List.mem_append.mp (mid_mem (A := pre) h)).elim (List.mem_append_left _) fun h => List.mem_append_right _ (List.mem_append_right _ h)
theorem Lex.fro {L : Lex} {vs ws : List Value} {k kp : Nat} {n : Int} {tn : Tok} {pre rest : Led} {q : Addr × Obj} (h : q ∈ pre ++ L.led vs k n tn ws kp rest) : q ∈ (L.pb, lsO ws kp) :: (L.hd vs k n tn ++ (pre ++ rest)) := by
  rcases List.mem_append.mp h with h | h
  · exact .tail _ (List.mem_append_right _ (List.mem_append_left _ h))
  · rcases List.mem_append.mp h with h | h
    · exact .tail _ (List.mem_append_left _ h)
    · rcases List.mem_cons.mp h with h | h
      · exact h ▸ .head _
      · exact .tail _ (List.mem_append_right _ (List.mem_append_right _ h))
theorem Lex.preOff {L : Lex} (hL : L.Ok w p loose mean mg mb) {pre rest : Led} (hlt : ∀ q ∈ rest, @LT.lt Nat _ q.1 L.C) (hpre : ∀ q ∈ pre, q.1 ≠ L.pb) : ∀ q ∈ pre ++ rest, q.1 ≠ L.pb := by
  obtain ⟨⟨h1, h2, h3, h4, h5⟩, h6, h7, h8⟩ := hL.ord
  exact fun q hq => (List.mem_append.mp hq).elim (hpre q) fun h => Nat.ne_of_lt (Nat.lt_trans (hlt q h) (Nat.lt_trans h1 (Nat.lt_trans h2 (Nat.lt_trans h3 (Nat.lt_trans h4 (Nat.lt_trans h5 (Nat.lt_trans h6 (Nat.lt_trans h7 h8))))))))
set_option maxHeartbeats 1000000 in
/-- a token that has been pushed back -/
theorem tokp_L {L : Lex} {rest : Led} {vs ws : List Value} {v : Value} {k kp : Nat} {n : Int} {tn : Tok} (hpb : ∀ q ∈ L.hd vs k n tn ++ rest, q.1 ≠ L.pb) (hl : (v :: ws).length ≤ 40) :
    Con w p loose mean mg mb (.ref 134) [.ref L.x] [] 2 40 ((L.pb, lsO (v :: ws) kp) :: (L.hd vs k n tn ++ rest)) (fun r n' => r = v ∧ n' = (L.pb, lsO ws (kp + 1)) :: (L.hd vs k n tn ++ rest)) := by
  refine' con_def (D := 1) (U := 37) [("self", .val (.ref L.x))] ?k6 ?k7 ?k9 ?kB ?km ?_ ?c2 ?c3 ?c4 ?c5
  case k6 => k_is
  case k7 => k_is
  case k9 => exact (fun s _ => BindsTo.of_eq rfl)
  case km => rfl
  case c5 => decide
  case kB => exact locs rfl
  case c2 => exact rfl
  case c3 => exact rfl
  case c4 => exact rfl
  intro X hX hH
  have hz : (v :: ws).length ≤ sizeLine := Nat.le_trans hl (by decide)
  refine ws_cons (w_if (wt_of fun hk τ ρ => gt_some (ge_attr (l := L.x) (C := 144) (dx := L.dx) (lk_F hk) (by kpf_close) (by isplit) (.tail _ Lex.mx) (.tail _ Lex.mdx) (by k_is) (by k_is) (by k_is) (by k_is) rfl rfl ⟨L.pb, v, ws, kp, rfl, .head _, hz, ?_⟩ (fun _ => rfl)) (fun _ => rfl)))
  exact ws_retE (fun hk τ ρ => ge_methE hk PySem.F.slot_list_pop PySem.F.type_list_pop (ge_attr (l := L.x) (C := 144) (dx := L.dx) (lk_F hk) (by kpf_close) (by isplit) (.tail _ Lex.mx) (.tail _ Lex.mdx) (by k_is) (by k_is) (by k_is) (by k_is) rfl rfl (.mk L.pb _ _ _ (.head _) (ga_pure (cls := [.int 0]) (lk_F hk) (by kpf_close) (by isplit) (wc_pop0 hpb hz ⟨_, fun _ h => h, fun _ => ⟨rfl, rfl⟩⟩))) (fun _ => rfl)) rfl (fun _ => ⟨_, rfl⟩))
set_option maxHeartbeats 1000000 in
/-- push_token -/
theorem push_L {L : Lex} {rest : Led} {vs ws : List Value} {z : Str} {tz : Tok} {k kp : Nat} {n : Int} {tn : Tok} (hpb : ∀ q ∈ L.hd vs k n tn ++ rest, q.1 ≠ L.pb) (hl : ws.length ≤ 40) :
    Con w p loose mean mg mb (.ref 141) [.ref L.x, .str z tz] [] 2 40 ((L.pb, lsO ws kp) :: (L.hd vs k n tn ++ rest)) (fun r n' => r = .none ∧ ∃ t, n' = (L.pb, lsO (ws ++ [.str z t]) (kp + 1)) :: (L.hd vs k n tn ++ rest)) := by
  refine' con_def (D := 1) (U := 37) [("token", .val (.str z tz)), ("self", .val (.ref L.x))] ?k6 ?k7 ?k9 ?kB ?km ?_ ?c2 ?c3 ?c4 ?c5
  case k6 => k_is
  case k7 => k_is
  case k9 => exact (fun s _ => BindsTo.of_eq rfl)
  case km => rfl
  case c5 => decide
  case kB => exact locs rfl
  case c2 => exact rfl
  case c3 => exact rfl
  case c4 => exact rfl
  intro X hX hH
  exact ws_cons (w_expr (fun hk τ ρ => ge_methE hk PySem.F.slot_list_append PySem.F.type_list_append (ge_attr (l := L.x) (C := 144) (dx := L.dx) (lk_F hk) (by kpf_close) (by isplit) (.tail _ Lex.mx) (.tail _ Lex.mdx) (by k_is) (by k_is) (by k_is) (by k_is) rfl rfl (.mk L.pb _ _ _ (.head _) (ga_pure (cls := [.str z]) (lk_F hk) (by kpf_close) (by isplit) (wc_append hpb (Nat.le_trans hl (by decide)) fun t => ws_nil ⟨_, fun _ h => h, rfl, t, rfl⟩))) (fun _ => rfl)) rfl (fun _ => ⟨_, rfl⟩)) rfl)
theorem push_P {L : Lex} (hL : L.Ok w p loose mean mg mb) {pre rest : Led} (hlt : ∀ q ∈ rest, @LT.lt Nat _ q.1 L.C) (hpre : ∀ q ∈ pre, q.1 ≠ L.pb) {vs ws : List Value} {z : Str} {tz : Tok} {k kp : Nat} {n : Int} {tn : Tok} (hl : ws.length ≤ 40) :
    Con w p loose mean mg mb (.ref 141) [.ref L.x, .str z tz] [] 2 40 (pre ++ L.led vs k n tn ws kp rest) (fun r n' => r = .none ∧ ∃ t, n' = pre ++ L.led vs k n tn (ws ++ [.str z t]) (kp + 1) rest) := by
  refine (push_L (rest := pre ++ rest) (L.pbOff hL.ord (L.preOff hL hlt hpre)) hl).post (fun q hq => Lex.to hq) ?_
  rintro r n' ⟨rfl, t, rfl⟩
  exact ⟨_, fun q hq => Lex.fro hq, rfl, t, rfl⟩
theorem tokp_P {L : Lex} (hL : L.Ok w p loose mean mg mb) {pre rest : Led} (hlt : ∀ q ∈ rest, @LT.lt Nat _ q.1 L.C) (hpre : ∀ q ∈ pre, q.1 ≠ L.pb) {vs ws : List Value} {v : Value} {k kp : Nat} {n : Int} {tn : Tok} (hl : (v :: ws).length ≤ 40) :
    Con w p loose mean mg mb (.ref 134) [.ref L.x] [] 2 40 (pre ++ L.led vs k n tn (v :: ws) kp rest) (fun r n' => r = v ∧ n' = pre ++ L.led vs k n tn ws (kp + 1) rest) := by
  refine (tokp_L (rest := pre ++ rest) (L.pbOff hL.ord (L.preOff hL hlt hpre)) hl).post (fun q hq => Lex.to hq) ?_
  rintro r n' ⟨rfl, rfl⟩
  exact ⟨_, fun q hq => Lex.fro hq, rfl, rfl⟩
theorem tok_P {L : Lex} (hL : L.Ok w p loose mean mg mb) {pre rest : Led} (hlt : ∀ q ∈ rest, @LT.lt Nat _ q.1 L.C) (hpre : ∀ q ∈ pre, q.1 ≠ L.D ∧ q.1 ≠ L.dx) {cl : List Nat} {vs : List Value} {k kp : Nat} {n : Int} {tn : Tok} (hcs : cl.length ≤ 40) (hab : ∀ c ∈ cl, c ∈ ABC) (hvs : StrsAre vs (cl.map oneS)) :
    Con w p loose mean mg mb (.ref 134) [.ref L.x] [] 10 400 (pre ++ L.led vs k n tn [] kp rest) (fun r n' => ∃ t vs' k' tn', r = .str (tokM cl n).1 t ∧ n' = pre ++ L.led vs' k' (tokM cl n).2.2 tn' [] kp rest ∧ StrsAre vs' ((tokM cl n).2.1.map oneS)) := by
  obtain ⟨⟨h1, h2, h3, h4, h5⟩, h6, h7, h8⟩ := hL.ord
  have d7 := Nat.lt_trans h7 h8
  have d2 := Nat.lt_trans h2 (Nat.lt_trans h3 (Nat.lt_trans h4 (Nat.lt_trans h5 h6)))
  refine (tok_L (rest := pre ++ rest) (kp := kp) hL (fun q hq => (List.mem_append.mp hq).elim (fun h => (hpre q h).1) fun h => Nat.ne_of_lt (Nat.lt_trans (hlt q h) h1)) (fun q hq => (List.mem_append.mp hq).elim (fun h => (hpre q h).2) fun h => Nat.ne_of_lt (Nat.lt_trans (hlt q h) (Nat.lt_trans h1 d2))) ⟨Nat.ne_of_gt (Nat.lt_trans d2 d7), Nat.ne_of_gt d7⟩ hcs hab hvs).post (fun q hq => Lex.to (mem_mid hq)) ?_
  rintro r n' ⟨t, vs', k', tn', rfl, rfl, hv⟩
  exact ⟨_, fun q hq => mid_mem (Lex.fro hq), t, vs', k', tn', rfl, rfl, hv⟩
theorem take_P {L : Lex} (hL : L.Ok w p loose mean mg mb) {pre rest : Led} (hlt : ∀ q ∈ rest, @LT.lt Nat _ q.1 L.C) (hpre : ∀ q ∈ pre, q.1 ≠ L.pb ∧ q.1 ≠ L.D ∧ q.1 ≠ L.dx) {vs wsb : List Value} {k kp : Nat} {n : Int} {tn : Tok} {l3 : List Str} {w0 : Int} {i : Nat} (h : TakeS l3 w0 i wsb vs) (h3 : l3.length = 3) (hi : i < 5) :
    Con w p loose mean mg mb (.ref 134) [.ref L.x] [] 10 400 (pre ++ L.led vs k n tn wsb kp rest)
      (fun r n' => ∃ y t vs' k' tn' wsb' kp', r = .str y t ∧ (l3 ++ [Str.ofString "end", Str.ofString ""])[i]? = some y ∧ n' = pre ++ L.led vs' k' n tn' wsb' kp' rest ∧ TakeS l3 w0 (i + 1) wsb' vs') := by
  obtain ⟨hw, hv⟩ := h
  by_cases h1 : i < 3
  · have hlt3 : i < l3.length := by omega
    rw [List.drop_eq_getElem_cons hlt3] at hw
    obtain ⟨t, ws, rfl, hw2⟩ := hw.cons_inv
    have hl : (Value.str l3[i] t :: ws).length ≤ 40 := by
      have e := strs_len hw2
      rw [List.length_drop] at e
      rw [List.length_cons]
      omega
    refine ((tokp_P hL hlt (fun q hq => (hpre q hq).1) hl).mono (by decide) (by decide)).post (fun _ h => h) ?_
    rintro r n' ⟨rfl, rfl⟩
    refine ⟨_, fun _ h => h, l3[i], t, vs, k, tn, ws, kp + 1, rfl, ?_, rfl, hw2, ?_⟩
    · rw [List.getElem?_append_left hlt3, List.getElem?_eq_getElem hlt3]
    · rw [if_pos (by omega)] at hv ⊢
      exact hv
  · rw [List.drop_eq_nil_of_le (by omega)] at hw
    have hnil := hw.nil_inv
    subst hnil
    have hx : i = 3 ∨ i = 4 := by omega
    rcases hx with rfl | rfl
    · rw [if_pos (by decide)] at hv
      have e : crL w0 ++ [101, 110, 100] = crL w0 ++ tailM [] := rfl
      rw [e] at hv
      refine (tok_P hL hlt (fun q hq => (hpre q hq).2) (cr_tail_len (w0 := w0) (l := []) (by decide) (fun q hq => nomatch hq)) (cr_tail_abc (fun q hq => nomatch hq)) hv).post (fun _ h => h) ?_
      rintro r n' ⟨t, vs', k', tn', rfl, rfl, hv'⟩
      have e2 : tokM (crL w0 ++ tailM []) n = (Str.ofString "end", [], n) := Mine.tok_end w0 n
      rw [e2] at hv' ⊢
      refine ⟨_, fun _ h => h, _, t, vs', k', tn', [], kp, rfl, ?_, rfl, ?_, ?_⟩
      · rw [List.getElem?_append_right (by omega), h3]; rfl
      · rw [List.drop_eq_nil_of_le (by omega)]; exact .nil
      · rw [if_neg (by decide)]; exact hv'
    · rw [if_neg (by decide)] at hv
      refine (tok_P (cl := []) hL hlt (fun q hq => (hpre q hq).2) (by decide) (fun c hc => nomatch hc) hv).post (fun _ h => h) ?_
      rintro r n' ⟨t, vs', k', tn', rfl, rfl, hv'⟩
      refine ⟨_, fun _ h => h, _, t, vs', k', tn', [], kp, rfl, ?_, rfl, ?_, ?_⟩
      · rw [List.getElem?_append_right (by omega), h3]; rfl
      · rw [List.drop_eq_nil_of_le (by omega)]; exact .nil
      · rw [if_neg (by decide)]; exact hv'
end
end
section
example : PySem.Challenge.rw_uj0005_01.row.prog = PySem.Challenge.rw_uj0005_01.row.prog ∧ hd.heap_1 = hd.heap_1 := by
  k_fill
  exact ⟨rfl, rfl⟩
section
variable {w : World} {p : Program} {loose : List Str} {mean : ExcName → Option Value} {mg mb : Str → Option Value} {D U : Nat}
variable {X : Cx w p loose mean mg mb D U} {cs : Scope} {Q : FinS → Prop} {mc m : Loc} {N : Led} {en : Env} {f : Str → Option Value} {lk : Str → Option VC}
theorem lex_ne {C D f1 c2 f2 ds dx x : Nat} (h1 : C < D) (h2 : D < f1) (h3 : f1 < c2) (h4 : c2 < f2) (h5 : f2 < ds) (h6 : ds < dx) (h7 : dx < x) : LexNe D f2 c2 C dx x f1 ds := by
  have a1 := Nat.lt_trans h3 h4
  have a2 := Nat.lt_trans a1 h5
  have b1 := Nat.lt_trans h5 h6
  have b2 := Nat.lt_trans h4 b1
  have b3 := Nat.lt_trans h3 b2
  have b4 := Nat.lt_trans h2 b3
  exact ⟨⟨Nat.ne_of_lt b4, Nat.ne_of_lt (Nat.lt_trans b4 h7), Nat.ne_of_lt h2, Nat.ne_of_lt (Nat.lt_trans h2 a2)⟩, Nat.ne_of_gt b1, Nat.ne_of_gt b2, Nat.ne_of_gt (Nat.lt_trans h1 b4), Nat.ne_of_lt h7, Nat.ne_of_gt b3, Nat.ne_of_gt h6⟩
theorem Lex.made {L : Lex} {vS : List Value} {kS kp : Nat} {n : Int} {tn : Tok} {A : Led} : ∀ q ∈ L.led vS kS n tn [] kp A, q ∈ (L.pb, lsO [] kp) :: (L.x, instObj 144 L.dx) :: (L.dx, L.dct n tn) :: (L.ds, L.oD) :: (L.f2, L.o2) :: (L.c2, L.oc2) :: (L.f1, L.o1) :: (L.D, lsO vS kS) :: (L.C, L.oC) :: A := by
  intro q hq
  rcases List.mem_append.mp hq with h | h
  · simp only [Lex.hd, List.mem_cons, List.not_mem_nil, or_false] at h ⊢
    rcases h with h | h | h | h | h | h | h | h <;> simp only [h, true_or, or_true]
  · rcases List.mem_cons.mp h with rfl | h
    · exact .head _
    · exact .tail _ (.tail _ (.tail _ (.tail _ (.tail _ (.tail _ (.tail _ (.tail _ (.tail _ h))))))))
theorem lw7 (hX : LawCl X) (hD : Nat.ble 116 D = true) (hU : Nat.ble 5300 U = true) {l ls lr lw : Addr} {wr z0 z1 z2 z3 : Int} (hR : R4 z0 z1 z2 z3) (h150 : ∀ q ∈ N, q.1 ≠ 150) (h195 : ∃ o, (195, o) ∈ N)
    (go : ∀ (L : Lex) vs k tn kp ps, L.Ok w p loose mean mg mb → (∀ q ∈ N, @LT.lt Nat _ q.1 L.C) → @LT.lt Nat _ 150 L.C → StrsAre vs ((textM wr z0 z1 z2 z3 ++ Str.ofString "end").cps.toList.map oneS) →
      WS X lawScope Q (("lexer", .val (.ref L.x)) :: ("words", .val (.ref lw)) :: mcW wr lr) (("text", .str (textM wr z0 z1 z2 z3)) :: mRk l ls) (L.led vs k 1 tn [] kp ((150, tabObj ps) :: N)) (lawBody.drop 12)) :
    WS X lawScope Q (("words", .val (.ref lw)) :: mcW wr lr) (("text", .str (textM wr z0 z1 z2 z3)) :: mRk l ls) ((150, tabObj #[]) :: N) (lawBody.drop 11) := by
  refine ws_put rfl (fun hk τ ρ => ge_call hk (wn_def (by k_is) (by kpf_close) (by decide) hk) (wf_def (by k_is)) rfl (ga_cons (ge_call hk (wn_def (by k_is) (by kpf_close) (by decide) hk) (wf_def (by k_is)) rfl (ga_cons (ge_bin (ge_pure (lk_F hk) (by kpf_close) (by isplit) (ge_pure (lk_F hk) (by kpf_close) (by isplit) (gb_str (by exact Nat.le_trans (Nat.add_le_add (text_len' hR) (Nat.le_refl 3)) (by decide)) ?_)))) rfl) (fun _ => rfl)) rfl) (fun _ => rfl))
  refine ga_nil (wc_con (fun ς co hc => stream_c (news := N ++ co) (text_len hR) fun q hq => (List.mem_append.mp hq).elim (h150 q) fun hq e => hc.o _ (.head _) q hq e.symm) ?_ (ble_le hD rfl) (ble_le hU rfl))
  intro co _ N2 hP _
  induction hP with | mk Ds kS vS fs ofs ds ods f2 o2 c2 oc2 Cs oCs psS hltS hs hstrm hattr hvS hfnS hread => ?_
  have hs1 := hs.1
  have hs2 := hs.2.1
  have hs3 := hs.2.2.1
  have hs4 := hs.2.2.2.1
  have hs5 := hs.2.2.2.2
  obtain ⟨o195, m195⟩ := h195
  have h15 : @LT.lt Nat _ 150 Cs := Nat.lt_trans (by decide : (150 : Nat) < 195) (hltS (195, o195) (List.mem_append_left _ m195))
  have c1 := fun r hr => hltS r (List.mem_append_right N hr)
  refine ⟨(ds, ods) :: (f2, o2) :: (c2, oc2) :: (fs, ofs) :: (Ds, lsO vS kS) :: (Cs, oCs) :: (150, tabObj psS) :: N, fun _ h => h, ?_, ga_nil (wc_con (fun ς co _ => netrc_n) ?_ (ble_le hD rfl) (ble_le hU rfl))⟩
  · have d1 := fun r hr => Nat.lt_trans (c1 r hr) hs1
    have d2 := fun r hr => Nat.lt_trans (d1 r hr) hs2
    have d3 := fun r hr => Nat.lt_trans (d2 r hr) hs3
    have d4 := fun r hr => Nat.lt_trans (d3 r hr) hs4
    have d5 := fun r hr => Nat.lt_trans (d4 r hr) hs5
    exact List.forall_mem_cons.mpr ⟨.inr fun r hr => Nat.ne_of_gt (d5 r hr), List.forall_mem_cons.mpr ⟨.inr fun r hr => Nat.ne_of_gt (d4 r hr), List.forall_mem_cons.mpr ⟨.inr fun r hr => Nat.ne_of_gt (d3 r hr), List.forall_mem_cons.mpr ⟨.inr fun r hr => Nat.ne_of_gt (d2 r hr), List.forall_mem_cons.mpr ⟨.inr fun r hr => Nat.ne_of_gt (d1 r hr), List.forall_mem_cons.mpr ⟨.inr fun r hr => Nat.ne_of_gt (c1 r hr), List.forall_mem_cons.mpr ⟨.inl ⟨_, .head _⟩, fun q hq => .inl ⟨_, .tail _ hq⟩⟩⟩⟩⟩⟩⟩⟩
  intro co2 _ N3 hP _
  induction hP with | mk a1 a2 a3 a4 k1 k2 k3 k4 tn tw dx x pb kp hlt2 hx hpb => ?_
  have hds : @LT.lt Nat _ ds dx := hlt2 (ds, ods) (.head _)
  have e1 := fun r hr => hlt2 r (List.mem_append_right ((ds, ods) :: (f2, o2) :: (c2, oc2) :: (fs, ofs) :: (Ds, lsO vS kS) :: (Cs, oCs) :: (150, tabObj psS) :: N) hr)
  refine ⟨(pb, lsO [] kp) :: (x, instObj 144 dx) :: (dx, lexD a1 a2 a3 a4 k1 k2 k3 k4 1 tn fs tw pb) :: (ds, ods) :: (f2, o2) :: (c2, oc2) :: (fs, ofs) :: (Ds, lsO vS kS) :: (Cs, oCs) :: (150, tabObj psS) :: N, fun _ h => h, ?_, wb_cell (by kpf_close) (hX _ (by decide +kernel)) ?_⟩
  · exact List.forall_mem_cons.mpr ⟨.inr fun r hr => Nat.ne_of_gt (Nat.lt_trans (Nat.lt_trans (e1 r hr) hx) hpb), List.forall_mem_cons.mpr ⟨.inr fun r hr => Nat.ne_of_gt (Nat.lt_trans (e1 r hr) hx), List.forall_mem_cons.mpr ⟨.inr fun r hr => Nat.ne_of_gt (e1 r hr), fun q hq => .inl ⟨_, hq⟩⟩⟩⟩
  refine ws_led (N' := Lex.led ⟨a1, a2, a3, a4, k1, k2, k3, k4, tw, Ds, f2, c2, Cs, dx, x, fs, ds, pb, o2, oc2, oCs, ofs, ods⟩ vS kS 1 tn [] kp ((150, tabObj psS) :: N)) ?_ (go ⟨a1, a2, a3, a4, k1, k2, k3, k4, tw, Ds, f2, c2, Cs, dx, x, fs, ds, pb, o2, oc2, oCs, ofs, ods⟩ vS kS tn kp psS ⟨⟨hread, hfnS, hstrm, hattr, lex_ne hs1 hs2 hs3 hs4 hs5 hds hx⟩, ⟨hs1, hs2, hs3, hs4, hs5⟩, hds, hx, hpb⟩ (fun q hq => hltS q (List.mem_append_left _ hq)) h15 hvS)
  exact Lex.made
end
end
section
example : PySem.Challenge.rw_uj0005_01.row.prog = PySem.Challenge.rw_uj0005_01.row.prog ∧ hd.heap_1 = hd.heap_1 := by
  k_fill
  exact ⟨rfl, rfl⟩
section
variable {w : World} {p : Program} {loose : List Str} {mean : ExcName → Option Value} {mg mb : Str → Option Value} {D U : Nat}
variable {X : Cx w p loose mean mg mb D U} {cs : Scope} {Q : FinS → Prop} {mc m : Loc} {N : Led} {en : Env} {f : Str → Option Value} {lk : Str → Option VC}
theorem Lex.keys (L : Lex) {vs vs' ws ws' : List Value} {k k' kp kp' : Nat} {n n' : Int} {tn tn' : Tok} {rest : Led} : ∀ q ∈ L.led vs k n tn ws kp rest, ∃ o, (q.1, o) ∈ L.led vs' k' n' tn' ws' kp' rest :=
  Lex.hkeys (List.forall_mem_cons.mpr ⟨⟨_, .head _⟩, fun q hq => ⟨q.2, .tail _ hq⟩⟩)
theorem Lex.mem (L : Lex) {vs ws : List Value} {k kp : Nat} {n : Int} {tn : Tok} {rest : Led} {q : Addr × Obj} (h : q ∈ rest) : q ∈ L.led vs k n tn ws kp rest := Lex.hmem (.tail _ h)
theorem wc_tok {L : Lex} (hL : L.Ok w p loose mean mg mb) {rest : Led} (hlt : ∀ q ∈ rest, @LT.lt Nat _ q.1 L.C) {cl : List Nat} {vs : List Value} {k kp : Nat} {n : Int} {tn : Tok} (hcs : cl.length ≤ 40) (hab : ∀ c ∈ cl, c ∈ ABC) (hvs : StrsAre vs (cl.map oneS)) (hD : Nat.ble 116 D = true) (hU : Nat.ble 5300 U = true) {Q : VC → Led → Prop}
    (h : ∀ t vs' k' tn', StrsAre vs' ((tokM cl n).2.1.map oneS) → Q (.val (.str (tokM cl n).1 t)) (L.led vs' k' (tokM cl n).2.2 tn' [] kp rest)) : WC X cs mc (L.led vs k n tn [] kp rest) (.ref 134) [.val (.ref L.x)] Q := by
  refine wc_conF (fun ς co hc => tok_P (pre := co) hL hlt (fun q hq => ⟨fun e => hc.o (L.D, lstO vs k) (.head _) q hq e.symm, fun e => hc.o (L.dx, _) (.tail _ (.tail _ (.tail _ (.tail _ (.head _))))) q hq e.symm⟩) hcs hab hvs) ?_ (ble_le hD rfl) (ble_le hU rfl)
  rintro co _ N2 ⟨t, vs', k', tn', rfl, rfl, hv⟩
  exact ⟨L.led vs' k' (tokM cl n).2.2 tn' [] kp rest, fun _ h => h, fun q hq => .inl (L.keys q hq), h t vs' k' tn' hv⟩
abbrev mcL (L : Lex) (lw : Addr) (wr : Int) (lr : Addr) : Loc := ("lexer", .val (.ref L.x)) :: ("words", .val (.ref lw)) :: mcW wr lr
abbrev mTx (T : Str) (l ls : Addr) : Loc := ("text", .str T) :: mRk l ls
theorem lw8 (hX : LawCl X) (hD : Nat.ble 116 D = true) (hU : Nat.ble 5300 U = true) {L : Lex} (hL : L.Ok w p loose mean mg mb) {l ls lr lw : Addr} {wr z0 z1 z2 z3 : Int} {u0 u1 u2 u3 : Tok} {n k kp : Nat} {tn : Tok} {vs : List Value} (hR : R4 z0 z1 z2 z3) (hlt : ∀ q ∈ N, @LT.lt Nat _ q.1 L.C) (hlw : (lw, lsO [.str (cardR z0) u0, .str (cardR z1) u1, .str (cardR z2) u2, .str (cardR z3) u3] n) ∈ N)
    (hv : StrsAre vs ((textM wr z0 z1 z2 z3 ++ Str.ofString "end").cps.toList.map oneS))
    (go : ∀ lh v0 v1 v2 v3 wL vL kL tL, (∀ q ∈ L.led vL kL (1 + lineM (cardsL wr z0 z1 z2 z3)) tL [] kp N, q.1 ≠ lh) → StrsAre vL ((crL wL ++ [101, 110, 100]).map oneS) →
      WS X lawScope Q (mcL L lw wr lr) (("heard", .val (.ref lh)) :: mTx (textM wr z0 z1 z2 z3) l ls) ((lh, LCg.lst [.str (cardR z0) v0, .str (cardR z1) v1, .str (cardR z2) v2, .str (cardR z3) v3]) :: L.led vL kL (1 + lineM (cardsL wr z0 z1 z2 z3)) tL [] kp N) (lawBody.drop 13)) :
    WS X lawScope Q (mcL L lw wr lr) (mTx (textM wr z0 z1 z2 z3) l ls) (L.led vs k 1 tn [] kp N) (lawBody.drop 12) := by
  refine ws_comp (fun hk τ ρ => ge_pure (lk_F hk) (by kpf_close) (by isplit) (.mk lw [.str (cardR z0) u0, .str (cardR z1) u1, .str (cardR z2) u2, .str (cardR z3) u3] n (HeardJ (fun vs k n tn => L.led vs k n tn [] kp N) (cardsL wr z0 z1 z2 z3) [cardR z0, cardR z1, cardR z2, cardR z3]) _ (HeardJ.start (text_signs _ _ _ _ _) hv) ?hl (by decide : 4 ≤ sizeLine) ?turn ?done)) (by kpf_close) (by kpf_close) (free_ok hX (by decide +kernel)) (by decide) rfl (by decide) (by kpf_close) (fun _ _ => rfl)
  case hl =>
    rintro i ys N1 ⟨_, _, _, _, rfl, _⟩
    exact L.mem hlw
  case turn =>
    intro i ys N1 v Y en hi hv hJ hE
    obtain ⟨q8, y8, hq8, hy8, hyq⟩ := cardsL_at (wr := wr) (z0 := z0) (z1 := z1) (z2 := z2) (z3 := z3) hi
    obtain ⟨cs8, vs8, k8, n8, tn8, rfl, hv8, hl8, hab8, rfl, hnx8⟩ := hJ.turn hq8 hy8 hyq (Nat.le_refl 4) (cardsL_ok hR)
    refine ge_inst0 (l := L.x) (C := 144) (dx := L.dx) (g := 134) hk hE.lk (by kpf_close) (by isplit) (.tail _ (.tail _ (.tail _ (.tail _ (.tail _ (.head _)))))) (.tail _ (.tail _ (.tail _ (.tail _ (.head _))))) (by k_is) (by k_is) (by k_is) rfl (by k_is) (wc_tok hL hlt hl8 hab8 hv8 hD hU ?_) (fun _ => ⟨_, rfl⟩)
    exact fun t vs' k' tn' hv' kk => hnx8 _ _ _ _ hv'
  case done =>
    intro ys N1 lh hJ hd
    obtain ⟨wL, vL, kL, tL, ln, rfl, rfl, hvL, hys⟩ := HeardJ.fin hJ (Nat.le_refl 4) (Nat.le_refl 4)
    obtain ⟨v0, v1, v2, v3, rfl⟩ := strs4 hys
    exact go lh v0 v1 v2 v3 wL vL kL tL hd hvL
end
end
section
example : PySem.Challenge.rw_uj0005_01.row.prog = PySem.Challenge.rw_uj0005_01.row.prog ∧ hd.heap_1 = hd.heap_1 := by
  k_fill
  exact ⟨rfl, rfl⟩
section
variable {w : World} {p : Program} {loose : List Str} {mean : ExcName → Option Value} {mg mb : Str → Option Value} {D U : Nat}
variable {X : Cx w p loose mean mg mb D U} {cs : Scope} {Q : FinS → Prop} {mc m : Loc} {N : Led} {en : Env} {f : Str → Option Value} {lk : Str → Option VC}
theorem gc_ne_strs {a b : Addr} {xs ys : List Value} {na nb : Nat} {ss : List Str} {Q : Bool → Led → Prop} (ha : (a, lsO xs na) ∈ N) (hb : (b, lsO ys nb) ∈ N) (hi : StrsAre xs ss) (hj : StrsAre ys ss) (hok : ∀ x ∈ ss, PyData.strOk x = true) (hu : Nat.ble 64 U = true) (h : Q false N) : GC X cs f mc N .NotEq (.val (.ref a)) (.val (.ref b)) Q :=
  fun _ _ hp t _ _ at_ H => ne_strsF at_.N ha hb hi hj hok (Nat.lt_of_le_of_lt (Nat.add_le_add_left (Nat.le_of_ble_eq_true hu) _) X.hun) (H false N hp t at_ h)
theorem lw9 (hX : LawCl X) (hD : Nat.ble 116 D = true) (hU : Nat.ble 5300 U = true) {L : Lex} {l ls lr lw lh : Addr} {wr z0 z1 z2 z3 : Int} {t0 t1 t2 t3 u0 u1 u2 u3 v0 v1 v2 v3 : Tok} {n n1 n2 nr : Nat} {vr : List Value} (hR : R4 z0 z1 z2 z3) (hl : (l, lsO [.int z0 t0, .int z1 t1, .int z2 t2, .int z3 t3] n) ∈ N) (hlr : (lr, lsO vr nr) ∈ N) (hr : IntsAre vr rowM) (hlw : (lw, lsO [.str (cardR z0) u0, .str (cardR z1) u1, .str (cardR z2) u2, .str (cardR z3) u3] n1) ∈ N) (hlh : (lh, lsO [.str (cardR z0) v0, .str (cardR z1) v1, .str (cardR z2) v2, .str (cardR z3) v3] n2) ∈ N)
    (go : WS X lawScope Q (mcL L lw wr lr) (mTx (textM wr z0 z1 z2 z3) l ls) N (lawBody.drop 14)) :
    WS X lawScope Q (mcL L lw wr lr) (("heard", .val (.ref lh)) :: mTx (textM wr z0 z1 z2 z3) l ls) N (lawBody.drop 13) := by
  have hz4 : ∀ {i : Nat} {z : Int}, [z0, z1, z2, z3][i]? = some z → 0 ≤ z ∧ z < 27 := fun h => ranks_at hR h
  have hS : ∀ {a b c d : Tok}, StrsAre [.str (cardR z0) a, .str (cardR z1) b, .str (cardR z2) c, .str (cardR z3) d] ([z0, z1, z2, z3].map cardR) := .cons _ _ (.cons _ _ (.cons _ _ (.cons _ _ .nil)))
  have hok : ∀ x ∈ [z0, z1, z2, z3].map cardR, PyData.strOk x = true := by
    intro x hx
    obtain ⟨z, hz, rfl⟩ := List.mem_map.mp hx
    obtain ⟨i, hi⟩ := List.getElem?_of_mem hz
    exact card_strOk (hz4 hi)
  refine ws_ifF (wt_of fun hk τ ρ => gt_or2 (gt_cmpE (ge_pure (lk_F hk) (by kpf_close) (by isplit) (ge_pure (lk_F hk) (by kpf_close) (by isplit) (gc_ne_strs hlh hlw hS hS hok (ble_le hU rfl) ?_))) (by kpf_close)))
  show GT _ _ _ _ _ _ _ _
  refine gt_cmpE (ge_comp (ge_pure (lk_F hk) (by kpf_close) (by isplit) (.mk lh [.str (cardR z0) v0, .str (cardR z1) v1, .str (cardR z2) v2, .str (cardR z3) v3] n2 (MapI (fun z => z) [z0, z1, z2, z3] N) N ⟨rfl, .nil⟩ (fun i ys N h => by rw [h.1]; exact hlh) (by decide : 4 ≤ sizeLine) ?turn ?done)) (free_ok hX (by decide +kernel)) (by decide) rfl (by decide) (by kpf_close) (fun _ _ => rfl)) (by kpf_close)
  case turn =>
    intro i ys N1 v Y en hi hv hJ hE
    obtain ⟨z, t, hz, rfl⟩ := cards_at hS hv
    obtain ⟨rfl, _⟩ := id hJ
    refine ge_call hk (hE.gd _ _ (by k_is) (by kpf_close) (by decide)) (wf_def (by k_is)) rfl (ga_pure hE.lk (by kpf_close) (by isplit) (wc_con0 (fun ς co _ => rank_nL (List.mem_append_left _ hlr) hr (hz4 hz)) ?_ (ble_le hD rfl) (ble_le hU rfl))) (fun _ => rfl)
    rintro co _ N2 ⟨⟨t7, rfl⟩, rfl⟩
    exact ⟨rfl, fun k => hJ.next hz⟩
  case done =>
    rintro ys N1 D1 ⟨rfl, hy⟩ hd
    refine ge_pure (lk_F hk) (by kpf_close) (by isplit) (gc_ne_ints (.head _) (.tail _ hl) hy (.cons _ _ (.cons _ _ (.cons _ _ (.cons _ _ .nil)))) (ble_le hU rfl) ?_)
    exact ⟨rfl, ws_nil (ws_weak (.of (.inl rfl) (.of (.inl rfl) (.of (.inl rfl) (.of (.inl rfl) .nil)))) (.of (.inl rfl) (.of (.inl rfl) (.of (.inl rfl) (.of (.inl rfl) .nil)))) (fun _ h => .tail _ h) go)⟩
end
end
section
example : PySem.Challenge.rw_uj0005_01.row.prog = PySem.Challenge.rw_uj0005_01.row.prog ∧ hd.heap_1 = hd.heap_1 := by
  k_fill
  exact ⟨rfl, rfl⟩
section
variable {w : World} {p : Program} {loose : List Str} {mean : ExcName → Option Value} {mg mb : Str → Option Value} {D U : Nat}
variable {X : Cx w p loose mean mg mb D U} {cs : Scope} {Q : FinS → Prop} {mc m : Loc} {N : Led} {en : Env} {f : Str → Option Value} {lk : Str → Option VC}
theorem div_hid {c4 c5 : Addr} (h : DivIn c4 c5 N) {co : Led} (hc : HidOK X mc N co) : DivIn c4 c5 (N ++ co) :=
  h.sub (fun _ h => List.mem_append_left _ h) fun q hq => (List.mem_append.mp hq).elim .inl fun hq => .inr ⟨Ne.symm (hc.o _ h.m4 q hq), Ne.symm (hc.o _ h.m5 q hq)⟩
theorem wc_divI {c4 c5 : Addr} {a b : Int} (hV : DivIn c4 c5 N) (ha : -2 ^ 79 ≤ a ∧ a < 2 ^ 79) (hb : 1 < b ∧ b < 2 ^ 19) (hD : Nat.ble 116 D = true) (hU : Nat.ble 5300 U = true) {Q : VC → Led → Prop}
    (h : ∀ d u v, (∀ q ∈ N, q.1 < d) → Q (.val (.ref d)) ((d, tupO [.int (a.fdiv b) u, .int (a.fmod b) v]) :: N)) : WC X cs mc N (.ref 70) [.int a, .int b] Q := by
  refine wc_con1 (fun σ co hc => idiv_n (c4 := c4) (c5 := c5) (div_hid hV hc) (bits80 ha) hb) ?_ hD hU
  rintro co _ N2 ⟨d, u, v, rfl, rfl, hlt⟩
  exact ⟨d, _, rfl, hlt, h d u v fun q hq => hlt q (List.mem_append_left _ hq)⟩
end
end
section
example : PySem.Challenge.rw_uj0005_01.row.prog = PySem.Challenge.rw_uj0005_01.row.prog ∧ hd.heap_1 = hd.heap_1 := by
  k_fill
  exact ⟨rfl, rfl⟩
section
variable {w : World} {p : Program} {loose : List Str} {mean : ExcName → Option Value} {mg mb : Str → Option Value} {D U : Nat}
variable {X : Cx w p loose mean mg mb D U} {cs : Scope} {Q : FinS → Prop} {mc m : Loc} {N : Led} {en : Env} {f : Str → Option Value} {lk : Str → Option VC}
inductive ShowW (news : Led) (r0 r1 r2 r3 : Int) : Value → Led → Prop
  | mk (x : Addr) (us : List Value) (hs : List Int) (hlt : ∀ q ∈ news, q.1 < x) (hp : hs.Perm [r3, r2, r1, r0]) (hh : Hand4 hs) (hu : IntsAre us (showM hs)) : ShowW news r0 r1 r2 r3 (.ref x) ((x, lsO us 0) :: news)
inductive SrtI (hd : Addr) (news : Led) (rs : List Int) (m0 : Loc) (k : Nat) (mc m : Loc) (N : Led) : Prop
  | mk (vs : List Value) (ns : List Int) (n : Nat) (h1 : Sub m0 m) (h2 : N = (hd, lsO vs n) :: news) (h3 : IntsAre vs ns) (h4 : Sorted ns) (h5 : ns.Perm (rs.take k).reverse) : SrtI hd news rs m0 k mc m N
theorem srt_next {rs ns ns' : List Int} {k : Nat} {x : Int} (h : ns.Perm (rs.take k).reverse) (h' : ns'.Perm (x :: ns)) (hx : rs[k]? = some x) : ns'.Perm (rs.take (k + 1)).reverse := by
  rw [List.take_add_one, hx, Option.toList_some, List.reverse_append]
  exact h'.trans (List.Perm.cons _ h)
theorem srt_nil : Sorted [] := fun i j h1 h2 => absurd h2 (Nat.not_lt_zero _)
theorem pop_len {l : List Int} {i : Int} {k : Nat} (h : l.length = k + 1) (h0 : 0 ≤ i) (h1 : i < ((k + 1 : Nat) : Int)) : (l.take i.toNat ++ l.drop (i.toNat + 1)).length = k := by
  rw [List.length_append, List.length_take, List.length_drop, h]
  omega
theorem sum79 {a b c d : Int} (h : 0 ≤ a ∧ a < b ∧ b < c ∧ c < d ∧ d < 27) : -2 ^ 79 ≤ [a, b, c, d].sum ∧ [a, b, c, d].sum < 2 ^ 79 := by
  simp only [List.sum_cons, List.sum_nil]
  omega
theorem showM_is {hs h1 h2 : List Int} {pl hid ord fst : Int} (e1 : hs.sum.fmod 4 = pl) (e2 : hs.getD pl.toNat 0 = hid) (e3 : hs.take pl.toNat ++ hs.drop (pl.toNat + 1) = h1) (e4 : (hid - pl).fdiv 4 = ord) (e5 : h1.getD (ord.fdiv 2).toNat 0 = fst) (e6 : h1.take (ord.fdiv 2).toNat ++ h1.drop ((ord.fdiv 2).toNat + 1) = h2) : showM hs = [hid, fst] ++ if ord.fmod 2 = 1 then h2.reverse else h2 := by
  subst e1 e2 e3 e4 e5 e6
  rfl
set_option maxHeartbeats 2000000 in
theorem show_w {news : Led} {l c4 c5 : Addr} {n : Nat} {r0 r1 r2 r3 : Int} {t0 t1 t2 t3 : Tok} (hV : DivIn c4 c5 news) (hm : (l, lsO [.int r0 t0, .int r1 t1, .int r2 t2, .int r3 t3] n) ∈ news) (hr : Cards [r3, r2, r1, r0]) :
    Con w p loose mean mg mb (.ref 193) [.ref l] [] 120 5500 news (ShowW news r0 r1 r2 r3) := by
  refine' con_def (D := 119) (U := 5497) [("ranks", .val (.ref l))] ?k6 ?k7 ?k9 ?kB ?km ?_ ?c2 ?c3 ?c4 ?c5
  case k6 => k_is
  case k7 => k_is
  case k9 => exact (fun s _ => BindsTo.of_eq rfl)
  case km => rfl
  case c5 => decide
  case kB => exact locs rfl
  case c2 => exact rfl
  case c3 => exact rfl
  case c4 => exact rfl
  intro X hX hH
  have hI4 : IntsAre [.int r0 t0, .int r1 t1, .int r2 t2, .int r3 t3] [r0, r1, r2, r3] := .cons _ _ (.cons _ _ (.cons _ _ (.cons _ _ .nil)))
  refine ws_put rfl (we_list (by kpf_close) (by isplit) rfl fun hd σ hlt => wb_local (by kpf_close) ?_)
  have hoff : ∀ q ∈ news, q.1 ≠ hd := fun q hq => Nat.ne_of_lt (hlt q hq)
  have hVh : ∀ o, DivIn c4 c5 ((hd, o) :: news) := fun o => hV.cons (q := (hd, o)) ⟨Nat.ne_of_gt (hlt _ hV.m4), Nat.ne_of_gt (hlt _ hV.m5)⟩
  refine ws_cons (w_for (wi_list (we_pure (by kpf_close) (by isplit) ⟨l, _, n, rfl, .tail _ hm, ?_⟩)) (fun _ _ => rfl))
  refine .mk _ _ (SrtI hd news [r0, r1, r2, r3] [("hand", .val (.ref hd))]) (.mk [] [] 0 (.of (.inl rfl) .nil) rfl .nil srt_nil (.refl _)) (nxt_list (vs := [.int r0 t0, .int r1 t1, .int r2 t2, .int r3 t3]) (n := n) ?hl) ?turn ?done
  case hl =>
    rintro k mc m N1 ⟨vs, ns, n', h1, rfl, h3, h4, h5⟩
    exact .tail _ hm
  case turn =>
    rintro I o k c mc m N1 hk ⟨v, rfl, hv⟩ ⟨vs, ns, n', h1, rfl, h3, h4, h5⟩
    obtain ⟨z, t, rfl, hz⟩ := hI4.at _ _ hv
    have hk4 : k < 4 := hk
    refine wb_local (by kpf_close) (ws_weak (mc' := []) (m' := [("rank", .int z), ("hand", .val (.ref hd))]) .nil (.of (.inr rfl) (h1.cons rfl)) (fun _ h => h) ?_)
    refine ws_cons (w_expr (fun hk τ ρ => ge_call hk (wn_def (by k_is) (by kpf_close) (by decide) hk) (wf_def (by k_is)) rfl (ga_pure (lk_F hk) (by kpf_close) (by isplit) (wc_insN (fun news t2 ho => insr_n h3 ?hz h4 ho) hoff rfl rfl ?_)) (fun _ => rfl)) rfl)
    case hz =>
      rw [h5.length_eq, List.length_reverse, List.length_take]
      exact Nat.lt_of_le_of_lt (Nat.min_le_right _ _) (by decide : 4 < 2 ^ 20 - 1)
    intro vs' ns' h3' h4' h5'
    exact ws_nil (.mk vs' ns' _ (.of (.inl rfl) .nil) rfl h3' h4' (srt_next h5 h5' hz))
  rintro mc m N1 ⟨vs, ns, n', h1, rfl, h3, h4, h5⟩
  have hP : ns.Perm [r3, r2, r1, r0] := h5
  obtain ⟨ha, hb, hc, he, rfl, hH4⟩ := hr.hand rfl hP h4
  have hp4 : 0 ≤ [ha, hb, hc, he].sum.fmod 4 ∧ [ha, hb, hc, he].sum.fmod 4 < 4 := ⟨Int.fmod_nonneg_of_pos _ (by decide), Int.fmod_lt_of_pos _ (by decide)⟩
  have hs79 : -2 ^ 79 ≤ [ha, hb, hc, he].sum ∧ [ha, hb, hc, he].sum < 2 ^ 79 := sum79 hH4
  have hg := hand4_get (i := [ha, hb, hc, he].sum.fmod 4) hH4 hp4
  have hl4 : [ha, hb, hc, he].length = 4 := rfl
  generalize hE : [ha, hb, hc, he] = hs at *
  refine ws_weak .nil h1 (fun _ h => h) ?_
  refine ws_setE (by kpf_close) rfl (fun hk τ ρ => ge_tupI (k := 1) (lk_F hk) (by kpf_close) (by isplit) (by decide) (by decide) (ge_call hk (wn_def (by k_is) (by kpf_close) (by decide) hk) (wf_def (by k_is)) rfl (ga_cons (ge_call hk (wn_builtin (by k_is) (by kpf_close) (by kpf_close) (by decide) (by decide) hk) wf_builtin rfl (ga_pure (lk_F hk) (by kpf_close) (by isplit) (wc_sum (.head _) h3 ?_)) (fun _ => rfl)) rfl) (fun _ => rfl)) (fun _ _ => by kpf_close))
  refine ga_cons (ge_pure (lk_F hk) (by kpf_close) (by isplit) (ga_nil (wc_divI (hVh _) hs79 (by decide) rfl rfl fun d u v _ => .mk d _ _ _ (.head _) (by decide : (1 : Int) < 2) rfl ?_))) rfl
  generalize e1 : hs.sum.fmod 4 = pl at *
  refine ws_led (N' := (hd, lsO vs n') :: news) (fun _ h => .tail _ h) ?_
  have hi1 : pl < hs.length := by rw [hl4]; exact hp4.2
  refine ws_setE (by kpf_close) rfl (fun hk τ ρ => ge_methG (l := hd) hk (lk_F hk) (by kpf_close) (by isplit) (.head _) PySem.F.slot_list_pop PySem.F.type_list_pop (ga_pure (cls := [.int pl]) (lk_F hk) (by kpf_close) (by isplit) (wc_pop hoff h3 hp4.1 hi1 (by rw [hl4]; decide) ?_)) rfl (fun _ => ⟨_, rfl⟩))
  intro vs1 h31
  have ho9 := ord_le hg
  have hl1 : (hs.take pl.toNat ++ hs.drop (pl.toNat + 1)).length = 3 := pop_len hl4 hp4.1 hp4.2
  generalize e2 : hs.getD pl.toNat 0 = hid at *
  generalize e3 : hs.take pl.toNat ++ hs.drop (pl.toNat + 1) = h1' at *
  refine ws_setE (by kpf_close) rfl (fun hk τ ρ => ge_tupI (k := 0) (lk_F hk) (by kpf_close) (by isplit) (by decide) (by decide) (ge_call hk (wn_def (by k_is) (by kpf_close) (by decide) hk) (wf_def (by k_is)) rfl (ga_pure (lk_F hk) (by kpf_close) (by isplit) (wc_divI (hVh _) ⟨Int.le_trans (by decide) hg.1, Int.lt_of_le_of_lt hg.2 (by decide)⟩ (by decide) rfl rfl fun d u v _ => .mk d _ _ _ (.head _) (by decide : (0 : Int) < 2) rfl ?_)) (fun _ => rfl)) (fun _ _ => by kpf_close))
  generalize e4 : (hid - pl).fdiv 4 = ord at *
  refine ws_led (N' := (hd, lsO vs1 (n' + 1)) :: news) (fun _ h => .tail _ h) ?_
  refine ws_setE (by kpf_close) rfl (fun hk τ ρ => ge_methG (l := hd) hk (lk_F hk) (by kpf_close) (by isplit) (.head _) PySem.F.slot_list_pop PySem.F.type_list_pop (ga_pure (cls := [.int (ord.fdiv 2)]) (lk_F hk) (by kpf_close) (by isplit) (wc_pop hoff h31 ho9.1 (by rw [hl1]; exact ho9.2) (by rw [hl1]; decide) ?_)) rfl (fun _ => ⟨_, rfl⟩))
  intro vs2 h32
  have hl2 : (h1'.take (ord.fdiv 2).toNat ++ h1'.drop ((ord.fdiv 2).toNat + 1)).length = 2 := pop_len hl1 ho9.1 ho9.2
  generalize e5 : h1'.getD (ord.fdiv 2).toNat 0 = fst at *
  generalize e6 : h1'.take (ord.fdiv 2).toNat ++ h1'.drop ((ord.fdiv 2).toNat + 1) = h2' at *
  have hM := showM_is e1 e2 e3 e4 e5 e6
  have hend : ∀ vs3 n3 ns3, IntsAre vs3 ns3 → ns3.length = 2 → showM hs = [hid, fst] ++ ns3 → WS X (dScope 25) (Done (ShowW news r0 r1 r2 r3)) [] [("first", .int fst), ("hidden", .int hid), ("hand", .val (.ref hd))] ((hd, lsO vs3 n3) :: news) ((dBody 25).drop 7) := by
    intro vs3 n3 ns3 h33 hl3 hsh
    refine ws_retE (fun hk τ ρ => ge_bin (ge_list (lk_F hk) (by kpf_close) (by isplit) rfl fun la σ _ => ge_pure (lk_F hk) (by kpf_close) (by isplit) ?_))
    refine gb_add_ints (ns := [hid, fst]) (.head _) (.tail _ (.head _)) (.cons _ _ (.cons _ _ .nil)) h33 (by rw [hl3]; exact (by decide : 4 ≤ sizeLine)) fun x us hus hx => ?_
    refine ⟨(x, lsO us 0) :: news, List.forall_mem_cons.mpr ⟨.head _, fun q hq => .tail _ (.tail _ (.tail _ hq))⟩, fun k => .mk x us hs (fun q hq => hx q (.tail _ (.tail _ hq))) hP ⟨ha, hb, hc, he, hE.symm, hH4⟩ ?_⟩
    rw [hsh]
    exact hus
  refine ws_if (by kpf_close) (by isplit) (fun hc1 => ?_) fun hc0 => ?_
  · refine ws_cons (w_expr (fun hk τ ρ => ge_meth0 (l := hd) hk (lk_F hk) (by kpf_close) (by isplit) (.head _) PySem.F.slot_list_reverse PySem.F.type_list_reverse (wc_rev hoff h32 (by rw [hl2]; decide) ?_) (fun _ => ⟨_, rfl⟩)) rfl)
    intro vs3 h33
    refine ws_nil (ws_weak .nil (.of (.inl rfl) (.of (.inr rfl) (.of (.inl rfl) .nil))) (fun _ h => h) (hend vs3 _ _ h33 (by rw [List.length_reverse]; exact hl2) ?_))
    rw [hM, if_pos (eq_of_beq hc1)]
  · refine ws_nil (ws_weak .nil (.of (.inl rfl) (.of (.inr rfl) (.of (.inl rfl) .nil))) (fun _ h => h) (hend vs2 _ _ h32 hl2 ?_))
    rw [hM, if_neg (fun e => by rw [e] at hc0; exact absurd hc0 (by decide))]
end
end
section
example : PySem.Challenge.rw_uj0005_01.row.prog = PySem.Challenge.rw_uj0005_01.row.prog ∧ hd.heap_1 = hd.heap_1 := by
  k_fill
  exact ⟨rfl, rfl⟩
section
variable {w : World} {p : Program} {loose : List Str} {mean : ExcName → Option Value} {mg mb : Str → Option Value} {D U : Nat}
variable {X : Cx w p loose mean mg mb D U} {cs : Scope} {Q : FinS → Prop} {mc m : Loc} {N : Led} {en : Env} {f : Str → Option Value} {lk : Str → Option VC}
structure HasDiv (X : Cx w p loose mean mg mb D U) (c4 c5 : Addr) (oc4 oc5 : Obj) : Prop where
  m4 : (44, T4 c4) ∈ X.hid
  m5 : (51, T5 c5) ∈ X.hid
  k4 : (c4, oc4) ∈ X.hid
  k5 : (c5, oc5) ∈ X.hid
  d : DivF c4 oc4 c5 oc5
theorem key_uniq {l : Led} (hn : (l.map (·.1)).Nodup) {q r : Addr × Obj} (hq : q ∈ l) (hr : r ∈ l) (e : q.1 = r.1) : q = r := by
  induction l with
  | nil => exact nomatch hq
  | cons a l ih =>
    obtain ⟨h1, h2⟩ := List.nodup_cons.mp (show (a.1 :: l.map (·.1)).Nodup from hn)
    rcases List.mem_cons.mp hq with h | hq
    · rcases List.mem_cons.mp hr with h' | hr
      · rw [h, h']
      · exact absurd (show a.1 ∈ l.map (·.1) by rw [← h, e]; exact List.mem_map_of_mem hr) h1
    · rcases List.mem_cons.mp hr with h' | hr
      · exact absurd (show a.1 ∈ l.map (·.1) by rw [← h', ← e]; exact List.mem_map_of_mem hq) h1
      · exact ih h2 hq hr
theorem HidOK.mem {co : Led} (hc : HidOK X mc N co) {q : Addr × Obj} (hq : q ∈ X.hid) : q ∈ co := by
  obtain ⟨cc, rfl, _⟩ := hc.h
  exact List.mem_append_right _ hq
theorem HasDiv.div {c4 c5 : Addr} {oc4 oc5 : Obj} (h : HasDiv X c4 c5 oc4 oc5) {co : Led} (hc : HidOK X mc N co) : DivIn c4 c5 (N ++ co) := by
  have m4 := hc.mem h.m4
  have m5 := hc.mem h.m5
  obtain ⟨⟨v4, t4, e4, f4⟩, ⟨v5, t5, e5, f5⟩, g4, g5, _⟩ := h.d
  refine ⟨List.mem_append_right _ m4, List.mem_append_right _ m5, ⟨oc4, v4, t4, List.mem_append_right _ (hc.mem h.k4), e4, f4⟩, ⟨oc5, v5, t5, List.mem_append_right _ (hc.mem h.k5), e5, f5⟩, ⟨Nat.ne_of_gt (Nat.lt_trans (by decide) g4), Nat.ne_of_gt (Nat.lt_trans (by decide) g4)⟩, ⟨Nat.ne_of_gt (Nat.lt_trans (by decide) g5), Nat.ne_of_gt (Nat.lt_trans (by decide) g5)⟩, fun q hq => ?_⟩
  rcases List.mem_append.mp hq with hq | hq
  · exact .inr (.inr ⟨hc.o q hq _ m4, hc.o q hq _ m5⟩)
  · by_cases h1 : q.1 = 44
    · exact .inl (key_uniq hc.n hq m4 h1)
    · by_cases h2 : q.1 = 51
      · exact .inr (.inl (key_uniq hc.n hq m5 h2))
      · exact .inr (.inr ⟨h1, h2⟩)
theorem wc_show {c4 c5 : Addr} {oc4 oc5 : Obj} (hV : HasDiv X c4 c5 oc4 oc5) (hD : Nat.ble 120 D = true) (hU : Nat.ble 5500 U = true) {l : Addr} {n : Nat} {r0 r1 r2 r3 : Int} {t0 t1 t2 t3 : Tok} (hm : (l, lsO [.int r0 t0, .int r1 t1, .int r2 t2, .int r3 t3] n) ∈ N) (hr : Cards [r3, r2, r1, r0]) {Q : VC → Led → Prop}
    (h : ∀ x us hs, (∀ q ∈ N, q.1 < x) → hs.Perm [r3, r2, r1, r0] → Hand4 hs → IntsAre us (showM hs) → Q (.val (.ref x)) ((x, lsO us 0) :: N)) : WC X cs mc N (.ref 193) [.val (.ref l)] Q := by
  refine wc_con1 (fun ς co hc => show_w (hV.div hc) (List.mem_append_left _ hm) hr) ?_ hD hU
  rintro co _ N2 ⟨x, us, hs, hlt, hp, hh, hu⟩
  exact ⟨x, _, rfl, hlt, h x us hs (fun q hq => hlt q (List.mem_append_left _ hq)) hp hh hu⟩
structure Trick (zH zf zx zy : Int) : Prop where
  h : 0 ≤ zH ∧ zH < 27
  f : 0 ≤ zf ∧ zf < 27
  x : 0 ≤ zx ∧ zx < 27
  y : 0 ≤ zy ∧ zy < 27
  c : Cards [zy, zx, zf]
  nm : ∀ N, NamedIs zf zx zy N → N = zH
structure B9 (X : Cx w p loose mean mg mb D U) (L : Lex) (lr : Addr) (vr : List Value) (nr : Nat) (c4 c5 : Addr) (oc4 oc5 : Obj) (N : Led) : Prop where
  hX : LawCl X
  hV : HasDiv X c4 c5 oc4 oc5
  hD : Nat.ble 120 D = true
  hU : Nat.ble 5500 U = true
  hL : L.Ok w p loose mean mg mb
  hlt : ∀ q ∈ N, @LT.lt Nat _ q.1 L.C
  h195 : @LT.lt Nat _ 195 L.C
  hlr : (lr, lsO vr nr) ∈ N
  hr : IntsAre vr rowM
abbrev mTr (lt : Addr) (T : Str) (l ls : Addr) : Loc := ("trick", .val (.ref lt)) :: mTx T l ls
theorem lw10 {c4 c5 : Addr} {oc4 oc5 : Obj} (hV : HasDiv X c4 c5 oc4 oc5) (hD : Nat.ble 120 D = true) (hU : Nat.ble 5500 U = true) {L : Lex} {lw lr l ls : Addr} {wr : Int} {T : Str} {n : Nat} {z0 z1 z2 z3 : Int} {t0 t1 t2 t3 : Tok} (hR : R4 z0 z1 z2 z3) (hm : (l, lsO [.int z0 t0, .int z1 t1, .int z2 t2, .int z3 t3] n) ∈ N)
    (go : ∀ lt zH zf zx zy uH uf ux uy, Trick zH zf zx zy → (∀ q ∈ N, q.1 < lt) → WS X lawScope Q (mcL L lw wr lr) (mTr lt T l ls) ((lt, lsO [.int zH uH, .int zf uf, .int zx ux, .int zy uy] 0) :: N) (lawBody.drop 15)) :
    WS X lawScope Q (mcL L lw wr lr) (mTx T l ls) N (lawBody.drop 14) := by
  refine ws_setE (by kpf_close) rfl (fun hk τ ρ => ge_call hk (wn_def (by k_is) (by kpf_close) (by decide) hk) (wf_def (by k_is)) rfl (ga_pure (lk_F hk) (by kpf_close) (by isplit) (wc_show hV hD hU hm (four_cards hR) ?_)) (fun _ => rfl))
  intro x us hs hlt hp hh hu
  obtain ⟨zH, zf, zx, zy, hshow, hzH, hzf, hzx, hzy, hC, hN⟩ := trick_of hh
  rw [hshow] at hu
  obtain ⟨uH, uf, ux, uy, rfl⟩ := ints4 hu
  exact go x zH zf zx zy uH uf ux uy ⟨hzH, hzf, hzx, hzy, hC, hN⟩ hlt
end
end
section
example : PySem.Challenge.rw_uj0005_01.row.prog = PySem.Challenge.rw_uj0005_01.row.prog ∧ hd.heap_1 = hd.heap_1 := by
  k_fill
  exact ⟨rfl, rfl⟩
section
variable {w : World} {p : Program} {loose : List Str} {mean : ExcName → Option Value} {mg mb : Str → Option Value} {D U : Nat}
variable {X : Cx w p loose mean mg mb D U} {cs : Scope} {Q : FinS → Prop} {mc m : Loc} {N : Led} {en : Env} {f : Str → Option Value} {lk : Str → Option VC}
def Off (L : Lex) (d : Addr) : Prop := d ≠ L.pb ∧ d ≠ L.D ∧ d ≠ L.dx
theorem Lex.off {L : Lex} {vs ws : List Value} {k kp : Nat} {n : Int} {tn : Tok} {rest : Led} {d : Addr} (h : ∀ q ∈ L.led vs k n tn ws kp rest, q.1 ≠ d) : Off L d :=
  ⟨Ne.symm (h (L.pb, lstO ws kp) (.tail _ (.tail _ (.tail _ (.tail _ (.tail _ (.tail _ (.tail _ (.tail _ (.head _)))))))))), Ne.symm (h (L.D, lstO vs k) (.head _)), Ne.symm (h (L.dx, lexD L.a1 L.a2 L.a3 L.a4 L.k1 L.k2 L.k3 L.k4 n tn L.f1 L.tw L.pb) (.tail _ (.tail _ (.tail _ (.tail _ (.head _))))))⟩
theorem Lex.offLt {L : Lex} {vs ws : List Value} {k kp : Nat} {n : Int} {tn : Tok} {P rest : Led} {d : Addr} (h : ∀ q ∈ P ++ L.led vs k n tn ws kp rest, q.1 < d) : Off L d :=
  Lex.off fun q hq => Nat.ne_of_lt (h q (List.mem_append_right _ hq))
theorem Lex.offNe {L : Lex} {vs ws : List Value} {k kp : Nat} {n : Int} {tn : Tok} {P rest : Led} {d : Addr} (h : ∀ q ∈ P ++ L.led vs k n tn ws kp rest, q.1 ≠ d) : Off L d :=
  Lex.off fun q hq => h q (List.mem_append_right _ hq)
theorem wc_lex {L : Lex} {P rest : Led} (hP : ∀ q ∈ P, Off L q.1) {vs ws : List Value} {k kp : Nat} {n : Int} {tn : Tok} {fv : Value} {cls : List VC} {D' U' : Nat} {Post : Led → Value → Led → Prop} {Q : VC → Led → Prop} (C : ∀ σ pre, (∀ q ∈ pre, Off L q.1) → Con w p loose mean mg mb fv (atl cls σ 0) [] D' U' (pre ++ L.led vs k n tn ws kp rest) (Post pre))
    (H : ∀ pre v N2, Post pre v N2 → ∃ vs' k' tn' ws' kp', N2 = pre ++ L.led vs' k' n tn' ws' kp' rest ∧ Q (.val v) (P ++ L.led vs' k' n tn' ws' kp' rest)) (hD : Nat.ble D' D = true) (hU : Nat.ble U' U = true) : WC X cs mc (P ++ L.led vs k n tn ws kp rest) fv cls Q := by
  refine wc_conF (Post := fun co => Post (co ++ P)) (fun σ co hc => ?_) ?_ hD hU
  · rw [← List.append_assoc]
    refine C σ (co ++ P) fun q hq => ?_
    rcases List.mem_append.mp hq with hq | hq
    · exact Lex.offNe fun r hr => hc.o r hr q hq
    · exact hP q hq
  · intro co v N2 hp
    obtain ⟨vs', k', tn', ws', kp', rfl, hQ⟩ := H (co ++ P) v N2 hp
    refine ⟨P ++ L.led vs' k' n tn' ws' kp' rest, fun q hq => by rw [List.append_assoc]; exact hq, fun q hq => .inl ?_, hQ⟩
    rcases List.mem_append.mp hq with hq | hq
    · exact ⟨q.2, List.mem_append_left _ hq⟩
    · obtain ⟨o, ho⟩ := L.keys (vs' := vs) (ws' := ws) (k' := k) (kp' := kp) (n' := n) (tn' := tn) q hq
      exact ⟨o, List.mem_append_right _ ho⟩
theorem wc_push {L : Lex} (hL : L.Ok w p loose mean mg mb) {P rest : Led} (hlt : ∀ q ∈ rest, @LT.lt Nat _ q.1 L.C) (hP : ∀ q ∈ P, Off L q.1) {vs ws : List Value} {k kp : Nat} {n : Int} {tn : Tok} {z : Str} {tz : Tok} (hz : ws.length ≤ 40) (hD : Nat.ble 120 D = true) (hU : Nat.ble 5500 U = true) {Q : VC → Led → Prop}
    (h : ∀ tz, Q (.val .none) (P ++ L.led vs k n tn (ws ++ [.str z tz]) (kp + 1) rest)) : WC X cs mc (P ++ L.led vs k n tn ws kp rest) (.ref 141) [.val (.ref L.x), .val (.str z tz)] Q := by
  refine wc_lex hP (fun σ pre hp => push_P (tz := tz) hL hlt (fun q hq => (hp q hq).1) hz) ?_ (ble_le hD rfl) (ble_le hU rfl)
  rintro pre v N2 ⟨rfl, tz, rfl⟩
  exact ⟨vs, k, tn, ws ++ [.str z tz], kp + 1, rfl, h tz⟩
inductive PuI (L : Lex) (P rest : Led) (zs : List Int) (mc0 m0 : Loc) (vL : List Value) (kL : Nat) (n : Int) (tL : Tok) (k : Nat) (mc m : Loc) (N : Led) : Prop
  | mk (ws : List Value) (kp : Nat) (h1 : Sub m0 m) (h2 : mc = mc0) (h3 : N = P ++ L.led vL kL n tL ws kp rest) (h4 : StrsAre ws ((zs.take k).map cardR)) : PuI L P rest zs mc0 m0 vL kL n tL k mc m N
theorem lw11 {L : Lex} {lr : Addr} {vr : List Value} {nr : Nat} {c4 c5 : Addr} {oc4 oc5 : Obj} (h9 : B9 X L lr vr nr c4 c5 oc4 oc5 N) {lw l ls lt : Addr} {wr : Int} {T : Str} {zH zf zx zy : Int} {uH uf ux uy : Tok} (hT : Trick zH zf zx zy) {vL : List Value} {kL kp : Nat} {n : Int} {tL : Tok} (hlt : ∀ q ∈ L.led vL kL n tL [] kp N, q.1 < lt)
    (go : ∀ ws kp', StrsAre ws [cardR zf, cardR zx, cardR zy] → WS X lawScope Q (mcL L lw wr lr) (mTr lt T l ls) ([(lt, lsO [.int zH uH, .int zf uf, .int zx ux, .int zy uy] 0)] ++ L.led vL kL n tL ws kp' N) (lawBody.drop 16)) :
    WS X lawScope Q (mcL L lw wr lr) (mTr lt T l ls) ([(lt, lsO [.int zH uH, .int zf uf, .int zx ux, .int zy uy] 0)] ++ L.led vL kL n tL [] kp N) (lawBody.drop 15) := by
  obtain ⟨hX, hV, hD, hU, hL, hN, _, hlr, hr⟩ := h9
  have hS0 : Sub (mTr lt T l ls) (mTr lt T l ls) := .of (.inl rfl) (.of (.inl rfl) (.of (.inl rfl) (.of (.inl rfl) (.of (.inl rfl) .nil))))
  refine ws_cons (w_for (wi_list (fun hk τ ρ => ge_from (lk_F hk) (by kpf_close) (by isplit) (ge_pure (lk_F hk) (by kpf_close) (by isplit) ⟨lt, [.int zH uH, .int zf uf, .int zx ux, .int zy uy], 0, rfl, .head _, (by exact (by decide : 4 ≤ sizeLine)), fun lj hlj => ⟨lj, [.int zf uf, .int zx ux, .int zy uy], 0, rfl, .head _, ?_⟩⟩) (fun _ _ => by kpf_close))) (fun _ _ => rfl))
  have hP : ∀ q ∈ [(lj, lsO [.int zf uf, .int zx ux, .int zy uy] 0), (lt, lsO [.int zH uH, .int zf uf, .int zx ux, .int zy uy] 0)], Off L q.1 := List.forall_mem_cons.mpr ⟨Lex.offLt hlj, List.forall_mem_cons.mpr ⟨Lex.offLt (P := []) hlt, List.forall_mem_nil _⟩⟩
  have hI : IntsAre [.int zf uf, .int zx ux, .int zy uy] [zf, zx, zy] := .cons _ _ (.cons _ _ (.cons _ _ .nil))
  refine .mk _ _ (PuI L [(lj, lsO [.int zf uf, .int zx ux, .int zy uy] 0), (lt, lsO [.int zH uH, .int zf uf, .int zx ux, .int zy uy] 0)] N [zf, zx, zy] (mcL L lw wr lr) (mTr lt T l ls) vL kL n tL) (.mk [] kp hS0 rfl rfl .nil) (nxt_list (vs := [.int zf uf, .int zx ux, .int zy uy]) (n := 0) ?_) ?_ ?_
  · rintro k mc m N1 ⟨ws, kp', h1, rfl, rfl, h4⟩
    exact .head _
  · rintro I o k c mc m N1 hk3 ⟨v, rfl, hv⟩ ⟨ws, kp', h1, rfl, rfl, h4⟩
    obtain ⟨z, tz, rfl, hz⟩ := hI.at _ _ hv
    have hz8 := three_at hT.f hT.x hT.y z (List.mem_of_getElem? hz)
    refine wb_local (by kpf_close) (ws_weak (mc' := mcL L lw wr lr) (m' := ("rank", .int z) :: mTr lt T l ls) (.of (.inl rfl) (.of (.inl rfl) (.of (.inl rfl) (.of (.inl rfl) .nil)))) (.of (.inr rfl) (h1.cons rfl)) (fun _ h => h) ?_)
    refine ws_cons (w_expr (fun hk τ ρ => ge_inst (l := L.x) (C := 144) (dx := L.dx) (g := 141) hk (lk_F hk) (by kpf_close) (by isplit) (List.mem_append_right _ (.tail _ (.tail _ (.tail _ (.tail _ (.tail _ (.head _))))))) (List.mem_append_right _ (.tail _ (.tail _ (.tail _ (.tail _ (.head _)))))) (by k_is) (by k_is) (by k_is) rfl (by k_is) (ga_cons (ge_call hk (wn_def (by k_is) (by kpf_close) (by decide) hk) (wf_def (by k_is)) rfl (ga_cons (ge_itemI (lk_F hk) (by kpf_close) (by isplit) (by kpf_close) (by isplit) (List.mem_append_right _ (L.mem hlr)) hr hz8.1 (Int.lt_trans hz8.2 (by decide)) (key_at hz8) (ga_nil (wc_con0 (fun ς co _ => card_w (key_mem hz8)) ?_ (ble_le hD rfl) (ble_le hU rfl))) (fun _ => by kpf_close)) rfl) (fun _ => rfl)) rfl) rfl (fun _ => ⟨_, rfl⟩)) rfl)
    rintro co _ N2 ⟨⟨t7, rfl⟩, rfl⟩
    refine ⟨rfl, ga_nil (wc_push hL hN hP ?_ hD hU fun _ => ws_nil (.mk _ _ (hS0.cons rfl) rfl rfl ?_))⟩
    · rw [strs_len h4, List.length_map, List.length_take]
      exact Nat.le_trans (Nat.min_le_right _ _) (by decide : 3 ≤ 40)
    · rw [List.take_add_one, hz, List.map_append]
      exact kct_snoc h4
  · rintro mc m N1 ⟨ws, kp', h1, rfl, rfl, h4⟩
    exact ws_weak (.of (.inl rfl) (.of (.inl rfl) (.of (.inl rfl) (.of (.inl rfl) .nil)))) h1 (fun q hq => .tail _ hq) (go ws kp' h4)
end
end
section
example : PySem.Challenge.rw_uj0005_01.row.prog = PySem.Challenge.rw_uj0005_01.row.prog ∧ hd.heap_1 = hd.heap_1 := by
  k_fill
  exact ⟨rfl, rfl⟩
section
variable {w : World} {p : Program} {loose : List Str} {mean : ExcName → Option Value} {mg mb : Str → Option Value} {D U : Nat}
variable {X : Cx w p loose mean mg mb D U} {cs : Scope} {Q : FinS → Prop} {mc m : Loc} {N : Led} {en : Env} {f : Str → Option Value} {lk : Str → Option VC}
abbrev LT (zH zf zx zy : Int) (uH uf ux uy : Tok) : Obj := lsO [.int zH uH, .int zf uf, .int zx ux, .int zy uy] 0
theorem lw12 {L : Lex} {lr : Addr} {vr : List Value} {nr : Nat} {c4 c5 : Addr} {oc4 oc5 : Obj} (h9 : B9 X L lr vr nr c4 c5 oc4 oc5 N) {lw l ls lt : Addr} {wr : Int} {T : Str} {zH zf zx zy : Int} {uH uf ux uy : Tok} {wL : Int} {vL ws : List Value} {kL kp : Nat} {n : Int} {tL : Tok} (hlt : Off L lt) (hw : StrsAre ws [cardR zf, cardR zx, cardR zy]) (hv : StrsAre vL ((crL wL ++ [101, 110, 100]).map oneS))
    (go : ∀ la t0 t1 t2 t3 t4 vs k tn kp', Off L la → StrsAre vs [] → WS X lawScope Q (mcL L lw wr lr) (("taken", .val (.ref la)) :: mTr lt T l ls) ((la, LCg.lst [.str (cardR zf) t0, .str (cardR zx) t1, .str (cardR zy) t2, .str (Str.ofString "end") t3, .str (Str.ofString "") t4]) :: (lt, LT zH zf zx zy uH uf ux uy) :: L.led vs k n tn [] kp' N) (lawBody.drop 17)) :
    WS X lawScope Q (mcL L lw wr lr) (mTr lt T l ls) ([(lt, LT zH zf zx zy uH uf ux uy)] ++ L.led vL kL n tL ws kp N) (lawBody.drop 16) := by
  obtain ⟨hX, hV, hD, hU, hL, hN, _, hlr, hr⟩ := h9
  refine ws_compR (n := 5) (wn_builtin (by k_is) (by kpf_close) (by kpf_close) (by decide) (by decide)) (by kpf_close) (by isplit) (by decide +kernel) (by decide) rfl (TakeJ (fun vs k tn wsb kb => [(lt, LT zH zf zx zy uH uf ux uy)] ++ L.led vs k n tn wsb kb N) [cardR zf, cardR zx, cardR zy] wL) ⟨vL, kL, tL, ws, kp, rfl, ⟨hw, hv⟩, .nil⟩ ?turn ?done (by kpf_close) (by kpf_close) (free_ok hX (by decide +kernel)) (by decide) rfl (by decide) (by kpf_close)
  case turn =>
    rintro i ys N1 t Y en f hi ⟨vs8, k8, tn8, wsb8, kb8, rfl, hTS, hys8⟩ hE
    refine ge_inst0 (l := L.x) (C := 144) (dx := L.dx) (g := 134) rfl hE.lk (by kpf_close) (by isplit) (.tail _ (.tail _ (.tail _ (.tail _ (.tail _ (.tail _ (.head _))))))) (.tail _ (.tail _ (.tail _ (.tail _ (.tail _ (.head _)))))) (by k_is) (by k_is) (by k_is) rfl (by k_is) (wc_lex (List.forall_mem_cons.mpr ⟨hlt, List.forall_mem_nil _⟩) (fun σ pre hp => take_P hL hN hp hTS rfl hi) ?_ (ble_le hD rfl) (ble_le hU rfl)) (fun _ => ⟨_, rfl⟩)
    rintro pre v N2 ⟨y7, t7, vs7, k7, tn7, wsb7, kb7, rfl, hy7, rfl, hTS7⟩
    exact ⟨vs7, k7, tn7, wsb7, kb7, rfl, fun k => TakeJ.next hys8 hy7 hTS7⟩
  case done =>
    rintro ys N1 la ⟨vK, kK, tK, wsbK, kbK, rfl, hTSK, hys9⟩ hd
    obtain ⟨t0, t1, t2, t3, t4, rfl⟩ := strs5 hys9
    obtain ⟨hwK, hvK⟩ := hTSK
    have hnilK := StrsAre.nil_inv (show StrsAre wsbK [] from hwK)
    subst hnilK
    exact go la t0 t1 t2 t3 t4 vK kK tK kbK (Lex.offNe hd) hvK
end
end
section
example : PySem.Challenge.rw_uj0005_01.row.prog = PySem.Challenge.rw_uj0005_01.row.prog ∧ hd.heap_1 = hd.heap_1 := by
  k_fill
  exact ⟨rfl, rfl⟩
section
variable {w : World} {p : Program} {loose : List Str} {mean : ExcName → Option Value} {mg mb : Str → Option Value} {D U : Nat}
variable {X : Cx w p loose mean mg mb D U} {cs : Scope} {Q : FinS → Prop} {mc m : Loc} {N : Led} {en : Env} {f : Str → Option Value} {lk : Str → Option VC}
theorem gc_vl {op : CmpOp} {i : Int} {t : Tok} {d : VC} {Q : Bool → Led → Prop} (h : GC X cs f mc N op (.int i) d Q) : GC X cs f mc N op (.val (.int i t)) d Q := fun _ l hp t' E R a H => h t l hp t' E R a H
abbrev LA (zf zx zy : Int) (t0 t1 t2 t3 t4 : Tok) : Obj := LCg.lst [.str (cardR zf) t0, .str (cardR zx) t1, .str (cardR zy) t2, .str (Str.ofString "end") t3, .str (Str.ofString "") t4]
abbrev mTa (la lt : Addr) (T : Str) (l ls : Addr) : Loc := ("taken", .val (.ref la)) :: mTr lt T l ls
theorem lw13 {L : Lex} {lr : Addr} {vr : List Value} {nr : Nat} {c4 c5 : Addr} {oc4 oc5 : Obj} (h9 : B9 X L lr vr nr c4 c5 oc4 oc5 N) {lw l ls lt la : Addr} {wr : Int} {T : Str} {zH zf zx zy : Int} {uH uf ux uy t0 t1 t2 t3 t4 : Tok} (hT : Trick zH zf zx zy) {vL : List Value} {kL kp : Nat} {n : Int} {tL : Tok} (hn : 1 + Txt.count T (Str.ofString "\n") = n)
    (go : WS X lawScope Q (mcL L lw wr lr) (mTa la lt T l ls) ((la, LA zf zx zy t0 t1 t2 t3 t4) :: (lt, LT zH zf zx zy uH uf ux uy) :: L.led vL kL n tL [] kp N) (lawBody.drop 18)) :
    WS X lawScope Q (mcL L lw wr lr) (mTa la lt T l ls) ((la, LA zf zx zy t0 t1 t2 t3 t4) :: (lt, LT zH zf zx zy uH uf ux uy) :: L.led vL kL n tL [] kp N) (lawBody.drop 17) := by
  obtain ⟨hX, hV, hD, hU, hL, hN, _, hlr, hr⟩ := h9
  have hI : IntsAre [.int zf uf, .int zx ux, .int zy uy] [zf, zx, zy] := .cons _ _ (.cons _ _ (.cons _ _ .nil))
  have hok5 : ∀ x ∈ [cardR zf, cardR zx, cardR zy, Str.ofString "end", Str.ofString ""], PyData.strOk x = true := List.forall_mem_cons.mpr ⟨card_strOk hT.f, List.forall_mem_cons.mpr ⟨card_strOk hT.x, List.forall_mem_cons.mpr ⟨card_strOk hT.y, List.forall_mem_cons.mpr ⟨by decide +kernel, List.forall_mem_cons.mpr ⟨by decide +kernel, List.forall_mem_nil _⟩⟩⟩⟩⟩
  refine ws_ifF (wt_of fun hk τ ρ => gt_or2 (gt_cmpE (ge_pure (lk_F hk) (by kpf_close) (by isplit) (ge_bin (ge_comp (ge_from (lk_F hk) (by kpf_close) (by isplit) (ge_pure (lk_F hk) (by kpf_close) (by isplit) ⟨lt, [.int zH uH, .int zf uf, .int zx ux, .int zy uy], 0, rfl, .tail _ (.head _), (by exact (by decide : 4 ≤ sizeLine)), fun lj hlj => .mk lj [.int zf uf, .int zx ux, .int zy uy] 0 (MapJ cardR [zf, zx, zy] _) _ ⟨rfl, .nil⟩ (fun i ys N h => by rw [h.1]; exact .head _) (by decide : 3 ≤ sizeLine) ?turn ?done⟩) (fun _ _ => by kpf_close)) (free_ok hX (by decide +kernel)) (by decide) rfl (by decide) (by kpf_close) (fun _ _ => rfl)))) (by kpf_close)))
  case turn =>
    intro i ys N1 v Y en hi hv hJ hE
    obtain ⟨z, t, rfl, hz⟩ := IntsAre.at hI i v hv
    have hz8 := three_at hT.f hT.x hT.y z (List.mem_of_getElem? hz)
    refine ge_call hk (hE.gd _ _ (by k_is) (by kpf_close) (by decide)) (wf_def (by k_is)) rfl (ga_cons (ge_itemI hE.lk (by kpf_close) (by isplit) (by kpf_close) (by isplit) (by rw [hJ.1]; exact .tail _ (.tail _ (.tail _ (L.mem hlr)))) hr hz8.1 (Int.lt_trans hz8.2 (by decide)) (key_at hz8) (ga_nil (wc_con0 (fun ς co _ => card_w (key_mem hz8)) ?_ (ble_le hD rfl) (ble_le hU rfl))) (fun _ => by kpf_close)) rfl) (fun _ => rfl)
    rintro co _ N2 ⟨⟨t7, rfl⟩, rfl⟩
    exact ⟨rfl, fun k => hJ.next hz⟩
  case done =>
    rintro ys N1 lq ⟨rfl, hy⟩ hd
    obtain ⟨q0, q1, q2, rfl⟩ := strs3 hy
    refine ge_list (lk_F hk) (by kpf_close) (by isplit) rfl fun le σ _ => ?_
    refine gb_add_list (.tail _ (.head _)) (.head _) (by exact (by decide : 5 ≤ sizeLine)) fun lz _ => gc_ne_strs (ss := [cardR zf, cardR zx, cardR zy, Str.ofString "end", Str.ofString ""]) (.tail _ (.tail _ (.tail _ (.tail _ (.head _))))) (.head _) (.cons _ _ (.cons _ _ (.cons _ _ (.cons _ _ (.cons _ _ .nil))))) (.cons _ _ (.cons _ _ (.cons _ _ (.cons _ _ (.cons _ _ .nil))))) hok5 (ble_le hU rfl) ?_
    refine gt_cmpE (ge_attr (l := L.x) (C := 144) (dx := L.dx) (lk_F hk) (by kpf_close) (by isplit) (.tail _ (.tail _ (.tail _ (.tail _ (.tail _ (.tail _ (.tail _ (.tail _ (.tail _ (.tail _ (.tail _ (.head _)))))))))))) (.tail _ (.tail _ (.tail _ (.tail _ (.tail _ (.tail _ (.tail _ (.tail _ (.tail _ (.tail _ (.head _))))))))))) (by k_is) (by k_is) (by k_is) (by k_is) rfl rfl (ge_bin (ge_pure (lk_F hk) (by kpf_close) (by isplit) (ge_methS hk (lk_F hk) (by kpf_close) (by isplit) PySem.GM.count (ga_pure (lk_F hk) (by kpf_close) (by isplit) (wc_count (gb_pure (by kpf_close) (by isplit) (gc_vl (gc_pure (b := false) ?cnt ?_))))) rfl (fun _ => ⟨_, rfl⟩)))) (fun _ => rfl)) (by kpf_close)
    case cnt =>
      show cmpII n (1 + Txt.count T (Str.ofString "\n")) .NotEq = some false
      rw [hn]
      exact congrArg some (bne_self_eq_false n)
    exact ⟨rfl, ws_nil (ws_weak (.of (.inl rfl) (.of (.inl rfl) (.of (.inl rfl) (.of (.inl rfl) .nil)))) (.of (.inl rfl) (.of (.inl rfl) (.of (.inl rfl) (.of (.inl rfl) (.of (.inl rfl) (.of (.inl rfl) .nil)))))) (fun _ h => .tail _ (.tail _ (.tail _ (.tail _ h)))) go)⟩
end
end
section
example : PySem.Challenge.rw_uj0005_01.row.prog = PySem.Challenge.rw_uj0005_01.row.prog ∧ hd.heap_1 = hd.heap_1 := by
  k_fill
  exact ⟨rfl, rfl⟩
section
variable {w : World} {p : Program} {loose : List Str} {mean : ExcName → Option Value} {mg mb : Str → Option Value} {D U : Nat}
variable {X : Cx w p loose mean mg mb D U} {cs : Scope} {Q : FinS → Prop} {mc m : Loc} {N : Led} {en : Env} {f : Str → Option Value} {lk : Str → Option VC}
abbrev nameN : Str := Str.ofString "_law_named.<locals>.<lambda>"
abbrev tabN (c : Addr) : Obj := tabObj #[rawInt 264, rawInt 56, .ref c]
theorem lamN {led : Led} {kf c' a rl : Addr} {oc oa : Obj} {vs : Array Value} {t : Tok} {ctv pm : Value} {clos : List (Str × Addr)} {qual : Str} {scope : Scope} {k : Int} {tt : Tok} {p1 p2 p3 p4 p5 p6 : Pos} {us : List Value} {ns : List Int} {n : Nat}
    (hkf : (kf, kla_obj "<lambda>" qual { posonlyargs := [], args := [{ arg := "k", annotation := none, pos := p1 }], vararg := none, kwonlyargs := [], kw_defaults := [], kwarg := none, defaults := [] } (.BinOp (.Subscript (.Name "rising" p2) (.Name "k" p3) p4) .Sub (.Name "k" p5) p6) scope clos pm c' ctv) ∈ led)
    (hc : (c', oc) ∈ led) (hd : oc.data = .fields vs) (hv : vs[1]? = some (.str qual t)) (hcl : clos.lookup (Str.ofString "rising") = some a) (ha : (a, oa) ∈ led) (had : oa.data = .cell (some (.ref rl))) (hrl : (rl, lstO us n) ∈ led) (hi : IntsAre us ns) (h0 : 0 ≤ k) (h1 : k < ns.length) (hz : ns.length < 2 ^ 20)
    (hs : scope.names = [((Str.ofString "k"), NameKind.local), (Str.ofString "rising", NameKind.free)]) (hs1 : scope.kind = .function) (hs2 : scope.isCoroutine = false) (hs3 : scope.isGenerator = false) :
    Con w p loose mean mg mb (.ref kf) [.int k tt] [] 2 20 led (fun r n' => (∃ t, r = .int (ns.getD k.toNat 0 - k) t) ∧ n' = led) := by
  intro dp un gd env outer A₀ base h₀ L m h g d t0 o R B F XX N T hcd hF hK hdp hun hret
  refine kla_code B F XX N T rfl hF hK hkf (codeRec_news N hc hd hv) (Nat.lt_of_le_of_lt (Nat.le_add_right _ _) hdp) (binds := [(Str.ofString "k", .int k tt)]) rfl (by rw [hs]; exact List.forall_mem_cons.mpr ⟨rfl, List.forall_mem_nil _⟩) ?_ hs2 hs3 hs1 (by rw [hs]; decide)
  intro g' L' h' FG' F' N' B' X' T'
  refine wpAny_BinOp (Subscript_ (nameX_F N' hcl ha had (nameX_L F' rfl ?_ hs1 (by show scope.names.lookup _ = _; rw [hs]; decide) (by decide)) hs1 (by show scope.names.lookup _ = _; rw [hs]; decide) (by decide) (by decide)))
  refine item_l N' hrl hi h0 h1 hz fun t' => nameX_L F' rfl (sub_int ?_) hs1 (by show scope.names.lookup _ = _; rw [hs]; decide) (by decide)
  exact leaveK_ F' N' fun F4 N4 => hret _ _ _ _ F4 N4 ⟨⟨_, rfl⟩, rfl⟩
inductive NamedW (news : Led) (r0 r1 r2 : Int) : Value → Led → Prop
  | mk (zN : Int) (tz : Tok) (c : Addr) (oc : Obj) (v : Array Value) (t : Tok) (hd : oc.data = .fields v) (hv : v[1]? = some (.str nameN t)) (hn : c ≠ 195) (hN : NamedIs r0 r1 r2 zN) : NamedW news r0 r1 r2 (.int zN tz) ((195, tabN c) :: (c, oc) :: news)
inductive SrtC (hd : Addr) (news : Led) (rs : List Int) (m0 : Loc) (k : Nat) (mc m : Loc) (N : Led) : Prop
  | mk (vs : List Value) (ns : List Int) (n : Nat) (h0 : Sub [("rising", .val (.ref hd))] mc) (h1 : Sub m0 m) (h2 : N = (hd, lsO vs n) :: news) (h3 : IntsAre vs ns) (h4 : Sorted ns) (h5 : ns.Perm (rs.take k).reverse) : SrtC hd news rs m0 k mc m N
theorem sum3_79 {a b c : Int} (h : Cards [c, b, a]) : -2 ^ 79 ≤ -[a, b, c].sum ∧ -[a, b, c].sum < 2 ^ 79 := by
  have h0 := h.2 a (by simp)
  have h1 := h.2 b (by simp)
  have h2 := h.2 c (by simp)
  simp only [List.sum_cons, List.sum_nil]
  omega
theorem srt3 {a b c r : Int} (h : 0 ≤ a ∧ a < b ∧ b < c ∧ c < 27 ∧ (r = a ∨ r = b ∨ r = c)) : Sorted ([0, 1, 2].map fun k => [a, b, c].getD k.toNat 0 - k) := by
  obtain ⟨_, h1, h2, _, _⟩ := h
  rw [sorted_iff]
  simp
  omega
theorem get012 {i : Nat} (h : i < [(0 : Int), 1, 2].length) : 0 ≤ [0, 1, 2].getD i (0 : Int) ∧ [0, 1, 2].getD i (0 : Int) < 3 := by
  match i, h with
  | 0, _ => decide
  | 1, _ => decide
  | 2, _ => decide
theorem num_is {j r0 r1 r2 : Int} : 4 * (2 * j + (if decide (r2 < r1) = true then 1 else 0)) + (-[r0, r1, r2].sum).fmod 4 = 4 * (2 * j + if r2 < r1 then 1 else 0) + (-(r0 + r1 + r2)).fmod 4 := by
  have e : [r0, r1, r2].sum = r0 + r1 + r2 := by
    simp only [List.sum_cons, List.sum_nil]
    omega
  rw [e]
  by_cases h : r2 < r1
  · rw [if_pos h, if_pos (decide_eq_true h)]
  · rw [if_neg h, if_neg (by simpa using h)]
set_option maxHeartbeats 2000000 in
theorem named_w {news : Led} {l c4 c5 : Addr} {n : Nat} {r0 r1 r2 : Int} {t0 t1 t2 : Tok} {ps : Array Value} (hV : DivIn c4 c5 news) (hm : (l, lsO [.int r0 t0, .int r1 t1, .int r2 t2] n) ∈ news) (hr : Cards [r2, r1, r0]) (h195 : ∀ q ∈ news, q.1 ≠ 195) (htab : TabIs 264 56 nameN ps news) :
    Con w p loose mean mg mb (.ref 200) [.ref l] [] 120 5500 ((195, tabObj ps) :: news) (NamedW news r0 r1 r2) := by
  refine' con_defC1 (D := 119) (U := 5497) (x := "shown") (y := "rising") (v := .ref l) ?k6 ?k7 ?k9 ?kx ?kc ?_ ?c2 ?c3 ?c4
  case k6 => k_is
  case k7 => k_is
  case k9 => exact (fun s _ => BindsTo.of_eq rfl)
  case kx => kpf_close
  case kc => intro n; kpf_close
  case c2 => exact rfl
  case c3 => exact rfl
  case c4 => exact rfl
  intro X hX hH hcd hcn hcodes
  have hcl : (X.cl.lookup (Str.ofString "rising")).isSome = true := by rw [hX]; kpf_close
  have hI3 : IntsAre [.int r0 t0, .int r1 t1, .int r2 t2] [r0, r1, r2] := .cons _ _ (.cons _ _ (.cons _ _ .nil))
  refine ws_put rfl (we_list (by kpf_close) (by isplit) rfl fun rd σ hlt => wb_cell (by kpf_close) hcl ?_)
  have hoff : ∀ q ∈ (195, tabObj ps) :: news, q.1 ≠ rd := fun q hq => Nat.ne_of_lt (hlt q hq)
  refine ws_cons (w_for (wi_list (we_pure (by kpf_close) (by isplit) ⟨l, _, n, rfl, .tail _ (.tail _ hm), ?_⟩)) (fun _ _ => rfl))
  refine .mk _ _ (SrtC rd ((195, tabObj ps) :: news) [r0, r1, r2] [("shown", .val (.ref l))]) (.mk [] [] 0 (.of (.inl rfl) .nil) (.of (.inl rfl) .nil) rfl .nil srt_nil (.refl _)) (nxt_list (vs := [.int r0 t0, .int r1 t1, .int r2 t2]) (n := n) ?hl) ?turn ?done
  case hl =>
    rintro k mc m N1 ⟨vs, ns, n', h0, h1, rfl, h3, h4, h5⟩
    exact .tail _ (.tail _ hm)
  case turn =>
    rintro I o k c mc m N1 hk ⟨v, rfl, hv⟩ ⟨vs, ns, n', h0, h1, rfl, h3, h4, h5⟩
    obtain ⟨z, t, rfl, hz⟩ := hI3.at _ _ hv
    refine wb_local (by kpf_close) (ws_weak (mc' := [("rising", .val (.ref rd))]) (m' := [("rank", .int z), ("shown", .val (.ref l))]) h0 (.of (.inr rfl) (h1.cons rfl)) (fun _ h => h) ?_)
    refine ws_cons (w_expr (fun hk τ ρ => ge_call hk (wn_def (by k_is) (by kpf_close) (by decide) hk) (wf_def (by k_is)) rfl (ga_pure (lk_F hk) (by kpf_close) (by isplit) (wc_insN (fun news t2 ho => insl_n h3 ?hz h4 ho) hoff rfl rfl ?_)) (fun _ => rfl)) rfl)
    case hz =>
      rw [h5.length_eq, List.length_reverse, List.length_take]
      exact Nat.lt_of_le_of_lt (Nat.min_le_right _ _) (by decide : 3 < 2 ^ 20 - 1)
    intro vs' ns' h3' h4' h5'
    exact ws_nil (.mk vs' ns' _ (.of (.inl rfl) .nil) (.of (.inl rfl) .nil) rfl h3' h4' (srt_next h5 h5' hz))
  rintro mc m N1 ⟨vs, ns, n', h0, h1, rfl, h3, h4, h5⟩
  have hP : ns.Perm [r2, r1, r0] := h5
  obtain ⟨ha, hb, hc, rfl, hH3⟩ := hr.hand3 hP h4
  obtain ⟨ta, tb, tc, rfl⟩ := ints3 h3
  obtain ⟨j9, hj1, hj2, hj3⟩ := idx3 (ta := ta) (tb := tb) (tc := tc) ⟨hH3.2.1, hH3.2.2.1⟩ hH3.2.2.2.2
  refine ws_weak h0 h1 (fun _ h => h) ?_
  refine ws_setE (by kpf_close) rfl (fun hk τ ρ => ge_bin (ge_bin (ge_pure (lk_F hk) (by kpf_close) (by isplit) (ge_methG (l := rd) hk (lk_F hk) (by kpf_close) (by isplit) (.head _) PySem.F.slot_list_index PySem.F.type_list_index (ga_cons (ge_item (lk_F hk) (by kpf_close) (by isplit) (by kpf_close) (by isplit) (.tail _ (.tail _ hm)) (by decide) (by decide) rfl (ga_nil (wc_lindex (.head _) rfl hj3 (by exact (by decide : 3 ≤ sizeLine)) (gb_pure (by kpf_close) (by isplit) ?_))) (fun _ => by kpf_close)) rfl) rfl (fun _ => ⟨_, rfl⟩)))))
  refine ge_call hk (wn_builtin (by k_is) (by kpf_close) (by kpf_close) (by decide) (by decide) hk) wf_type rfl (ga_cons (ge_cmp (ge_item (lk_F hk) (by kpf_close) (by isplit) (by kpf_close) (by isplit) (.tail _ (.tail _ hm)) (by decide) (by decide) rfl (ge_item (lk_F hk) (by kpf_close) (by isplit) (by kpf_close) (by isplit) (.tail _ (.tail _ hm)) (by decide) (by decide) rfl (gc_ii rfl (ga_nil (wc_intB ?_))) (fun _ => by kpf_close)) (fun _ => by kpf_close)) (by kpf_close)) rfl) (fun _ => rfl)
  refine gb_pure (by kpf_close) (by isplit) ?_
  have hVh : ∀ o, DivIn c4 c5 ((rd, o) :: (195, tabObj ps) :: news) := fun o => (hV.cons (q := (195, tabObj ps)) ⟨(by decide : (195 : Nat) ≠ 44), (by decide : (195 : Nat) ≠ 51)⟩).cons (q := (rd, o)) ⟨Ne.symm (hoff _ (.tail _ hV.m4)), Ne.symm (hoff _ (.tail _ hV.m5))⟩
  have hsm : -2 ^ 79 ≤ -[r0, r1, r2].sum ∧ -[r0, r1, r2].sum < 2 ^ 79 := sum3_79 hr
  refine ws_setE (by kpf_close) rfl (fun hk τ ρ => ge_bin (ge_pure (lk_F hk) (by kpf_close) (by isplit) (ge_tupI (k := 1) (lk_F hk) (by kpf_close) (by isplit) (by decide) (by decide) (ge_call hk (wn_def (by k_is) (by kpf_close) (by decide) hk) (wf_def (by k_is)) rfl (ga_cons (ge_neg (ge_call hk (wn_builtin (by k_is) (by kpf_close) (by kpf_close) (by decide) (by decide) hk) wf_builtin rfl (ga_pure (lk_F hk) (by kpf_close) (by isplit) (wc_sum (.tail _ (.tail _ hm)) hI3 ⟨_, rfl, ?_⟩)) (fun _ => rfl))) rfl) (fun _ => rfl)) (fun _ _ => by kpf_close))))
  refine ga_cons (ge_pure (lk_F hk) (by kpf_close) (by isplit) (ga_nil (wc_divI (hVh _) hsm (by decide) rfl rfl fun d u v _ => .mk d _ _ _ (.head _) (by decide : (1 : Int) < 2) rfl (gb_r (gb_pure (by kpf_close) (by isplit) ?_))))) rfl
  generalize hnum : 4 * (2 * (j9 : Int) + (if decide (r2 < r1) = true then 1 else 0)) + (-[r0, r1, r2].sum).fmod 4 = num
  refine ws_led (N' := (rd, lsO [.int ha ta, .int hb tb, .int hc tc] n') :: (195, tabObj ps) :: news) (fun _ h => .tail _ h) ?_
  have hI3' : IntsAre [.int ha ta, .int hb tb, .int hc tc] [ha, hb, hc] := .cons _ _ (.cons _ _ (.cons _ _ .nil))
  have hqual : (X.env (dScope 26)).qual ++ ("<lambda>" : Str) = nameN := by
    show X.cn ++ _ ++ _ = _
    rw [hcn]
    decide +kernel
  refine ws_retE (fun hk τ ρ => ge_bin (ge_pure (lk_F hk) (by kpf_close) (by isplit) (ge_callKW hk (wn_def (by k_is) (by kpf_close) (by decide) hk) (by k_is) rfl (ga_cons (ge_list (lk_F hk) (by kpf_close) (by isplit) rfl fun lb σ hlb => ga_cons (ge_pure (lk_F hk) (by kpf_close) (by isplit) (ga_nil ?_)) rfl) rfl))))
  refine ge_led (N' := (195, tabObj ps) :: (lb, lsO [.int 0 (σ 0), .int 1 (σ 1), .int 2 (σ 2)] 0) :: (rd, lsO [.int ha ta, .int hb tb, .int hc tc] n') :: news) ?led (ge_lam (tl := news) hcodes.2.2.2.1 hcd rfl ?fr ?hoff (fun q hq => .tail _ (.tail _ hq)) ?htab ?_)
  case led => exact List.forall_mem_cons.mpr ⟨.tail _ (.tail _ (.head _)), List.forall_mem_cons.mpr ⟨.head _, List.forall_mem_cons.mpr ⟨.tail _ (.head _), fun q hq => .tail _ (.tail _ (.tail _ hq))⟩⟩⟩
  case fr =>
    rw [hX]
    exact List.forall_mem_cons.mpr ⟨fun h => (by cases h), List.forall_mem_cons.mpr ⟨fun _ => rfl, List.forall_mem_nil _⟩⟩
  case hoff => exact List.forall_mem_cons.mpr ⟨Nat.ne_of_gt (hlb (195, tabObj ps) (.tail _ (.head _))), List.forall_mem_cons.mpr ⟨Ne.symm (hoff (195, tabObj ps) (.head _)), h195⟩⟩
  case htab => exact (hqual ▸ htab : TabIs 264 56 _ ps news)
  intro kf c' oc vs' t' ctv clos pm hclos hdd hvv hkf hc1 hc2 hc3
  refine wk_con0 (D' := 4) (U' := 28) (fun ς co hco => bisrk_n (g := fun k => [ha, hb, hc].getD k.toNat 0 - k) (vs := [.int 0 (σ 0), .int 1 (σ 1), .int 2 (σ 2)]) (ns := [0, 1, 2]) (D := 2) (U := 20) (.head _) (.tail _ (.tail _ (.tail _ (.head _)))) (.cons _ _ (.cons _ _ (.cons _ _ .nil))) (by decide) ?srt fun i t hi => ?con) ?_ rfl rfl
  case srt => exact srt3 hH3
  case con =>
    obtain ⟨cc, rfl, c1⟩ := hco.h
    obtain ⟨a, oa, kk, ha1, ha2, ha3⟩ := co_get c1 (x := "rising") (c := .val (.ref rd)) rfl hcl
    have hi2 := get012 hi
    exact lamN (.head _) (.tail _ (.head _)) hdd hvv ((hclos "rising" ⟨_, .tail _ (.head _), rfl, rfl⟩).trans ha1) (List.mem_append_right _ (List.mem_append_left _ ha2)) ha3 (.tail _ (.tail _ (.tail _ (.tail _ (.head _))))) hI3' hi2.1 hi2.2 (by decide : 3 < 2 ^ 20) rfl rfl rfl rfl
  rintro co _ N2 ⟨⟨k9, t9, rfl, hB9⟩, rfl⟩
  refine ⟨rfl, gb_r (gb_pure (by kpf_close) (by isplit) ?_)⟩
  refine ⟨(195, tabN c') :: (c', oc) :: news, ?_, fun kk => .mk (num + k9) kk c' oc vs' t' hdd (hqual ▸ hvv) hc2 ⟨ha, hb, hc, j9, num, k9, hP, ⟨hH3.1, hH3.2.1, hH3.2.2.1, hH3.2.2.2.1⟩, hj1, hj2, ?_, ?_, rfl⟩⟩
  · exact List.forall_mem_cons.mpr ⟨.tail _ (.tail _ (.head _)), List.forall_mem_cons.mpr ⟨.tail _ (.head _), fun q hq => .tail _ (.tail _ (.tail _ (.tail _ (.tail _ hq))))⟩⟩
  · exact hnum ▸ num_is
  · have e2 : [ha - 0, hb - 1, hc - 2] = [ha, hb - 1, hc - 2] := by rw [Int.sub_zero]
    rw [← e2]
    exact hB9
end
end
section
example : PySem.Challenge.rw_uj0005_01.row.prog = PySem.Challenge.rw_uj0005_01.row.prog ∧ hd.heap_1 = hd.heap_1 := by
  k_fill
  exact ⟨rfl, rfl⟩
section
variable {w : World} {p : Program} {loose : List Str} {mean : ExcName → Option Value} {mg mb : Str → Option Value} {D U : Nat}
variable {X : Cx w p loose mean mg mb D U} {cs : Scope} {Q : FinS → Prop} {mc m : Loc} {N : Led} {en : Env} {f : Str → Option Value} {lk : Str → Option VC}
def NotN (o : Obj) : Prop := ∀ v t, o.data = .fields v → v[1]? ≠ some (.str nameN t)
theorem notN_cl : ∀ {cl : List (Str × Addr)} {co : Led}, CoOK cl mc co → ∀ q ∈ co, NotN q.2
  | [], co, c => by rw [show co = [] from c]; exact fun q hq => nomatch hq
  | _ :: cl, _, ⟨o, v, co', e, h1, _, h3⟩ => by
    subst e
    exact List.forall_mem_cons.mpr ⟨fun v t e => (by rw [h1] at e; cases e), notN_cl h3⟩
theorem wc_led {N' : Led} {fv : Value} {cls : List VC} {Q : VC → Led → Prop} (hs : ∀ q ∈ N', q ∈ N) (h : WC X cs mc N' fv cls Q) : WC X cs mc N fv cls Q :=
  fun hk σ m h' t E a => h hk σ m h' t E (a.sub hs)
structure CodeN (c : Addr) (oc : Obj) (N : Led) : Prop where
  d : ∃ v t, oc.data = .fields v ∧ v[1]? = some (.str nameN t)
  n : c ≠ 195
  u : ∀ o, (c, o) ∈ N → o = oc
theorem wc_named {c4 c5 : Addr} {oc4 oc5 : Obj} (hV : HasDiv X c4 c5 oc4 oc5) (hH : ∀ q ∈ X.hid, NotN q.2) (hD : Nat.ble 120 D = true) (hU : Nat.ble 5500 U = true) {l : Addr} {n : Nat} {r0 r1 r2 : Int} {t0 t1 t2 : Tok} {ps : Array Value} (hm : (l, lsO [.int r0 t0, .int r1 t1, .int r2 t2] n) ∈ N) (hoff : ∀ q ∈ N, q.1 ≠ 195) (hr : Cards [r2, r1, r0]) (htab : TabIs 264 56 nameN ps N) {Q : VC → Led → Prop}
    (h : ∀ zN tz c oc, NamedIs r0 r1 r2 zN → CodeN c oc N → Q (.val (.int zN tz)) ((195, tabObj #[rawInt 264, rawInt 56, .ref c]) :: (c, oc) :: N)) : WC X cs mc ((195, tabObj ps) :: N) (.ref 200) [.val (.ref l)] Q := by
  refine wc_con (Post := fun co r n' => (∀ q ∈ co, NotN q.2) ∧ NamedW (N ++ co) r0 r1 r2 r n') (fun ς co hc => (named_w (news := N ++ co) (ps := ps) (hV.div (N := N) ⟨hc.h, hc.n, fun q hq => hc.o q (.tail _ hq)⟩) (List.mem_append_left _ hm) hr ?_ ?_).post (fun q hq => hq) fun r n P => ⟨n, fun _ h => h, ?_, P⟩) ?_ hD hU
  · intro q hq
    rcases List.mem_append.mp hq with hq | hq
    · exact hoff q hq
    · exact Ne.symm (hc.o _ (.head _) q hq)
  · rcases htab with h | ⟨c', oc, vs, t, e1, e2, e3, e4⟩
    · exact .inl h
    · exact .inr ⟨c', oc, vs, t, e1, List.mem_append_left _ e2, e3, e4⟩
  · obtain ⟨cc, rfl, c1⟩ := hc.h
    exact fun q hq => (List.mem_append.mp hq).elim (notN_cl c1 q) (hH q)
  · rintro co _ N2 ⟨hno, zN, tz, c9, oc9, vc9, tc9, hd, hv, hne, hNm⟩ hcons
    refine ⟨(195, tabN c9) :: (c9, oc9) :: N, fun q hq => hq, List.forall_mem_cons.mpr ⟨.inl ⟨_, .head _⟩, List.forall_mem_cons.mpr ⟨.inr fun r hr e => ?_, fun q hq => .inl ⟨_, .tail _ hq⟩⟩⟩, h zN tz c9 oc9 hNm ⟨⟨vc9, tc9, hd, hv⟩, hne, fun o ho => ?_⟩⟩
    · have e2 := hcons c9 oc9 r.2 (.tail _ (.head _)) (by rw [show c9 = r.1 from e]; exact .tail _ (.tail _ (List.mem_append_right _ hr)))
      exact hno r hr vc9 tc9 (e2 ▸ hd) hv
    · exact hcons c9 o oc9 (.tail _ (.tail _ (List.mem_append_left _ ho))) (.tail _ (.head _))
theorem CodeN.off {L : Lex} {c : Addr} {oc : Obj} {P rest : Led} {vs ws : List Value} {k kp : Nat} {n : Int} {tn : Tok} (h : CodeN c oc (P ++ L.led vs k n tn ws kp rest)) : Off L c := by
  obtain ⟨⟨v, t, hd, hv⟩, _, hu⟩ := h
  refine ⟨?_, ?_, ?_⟩
  · rintro rfl
    have := hu (lstO ws kp) (List.mem_append_right _ (.tail _ (.tail _ (.tail _ (.tail _ (.tail _ (.tail _ (.tail _ (.tail _ (.head _))))))))))
    subst this
    cases hd
  · rintro rfl
    have := hu (lstO vs k) (List.mem_append_right _ (.head _))
    subst this
    cases hd
  · rintro rfl
    have := hu (lexD L.a1 L.a2 L.a3 L.a4 L.k1 L.k2 L.k3 L.k4 n tn L.f1 L.tw L.pb) (List.mem_append_right _ (.tail _ (.tail _ (.tail _ (.tail _ (.head _))))))
    subst this
    cases hd
abbrev mNm (k : Int) (lt : Addr) (T : Str) (l ls : Addr) : Loc := ("named", .int k) :: mTr lt T l ls
theorem Lex.above {L : Lex} (hL : L.Ok w p loose mean mg mb) {d : Addr} (hd : @LT.lt Nat _ d L.C) {vs ws : List Value} {k kp : Nat} {n : Int} {tn : Tok} {rest : Led} (hr : ∀ q ∈ rest, q.1 ≠ d) : ∀ q ∈ L.led vs k n tn ws kp rest, q.1 ≠ d := by
  obtain ⟨⟨h1, h2, h3, h4, h5⟩, h6, h7, h8⟩ := hL.ord
  have d1 := Nat.lt_trans hd h1
  have d2 := Nat.lt_trans d1 h2
  have d3 := Nat.lt_trans d2 h3
  have d4 := Nat.lt_trans d3 h4
  have d5 := Nat.lt_trans d4 h5
  have d6 := Nat.lt_trans d5 h6
  have d7 := Nat.lt_trans d6 h7
  have d8 := Nat.lt_trans d7 h8
  exact List.forall_mem_cons.mpr ⟨Nat.ne_of_gt d1, List.forall_mem_cons.mpr ⟨Nat.ne_of_gt d4, List.forall_mem_cons.mpr ⟨Nat.ne_of_gt d3, List.forall_mem_cons.mpr ⟨Nat.ne_of_gt hd, List.forall_mem_cons.mpr ⟨Nat.ne_of_gt d6, List.forall_mem_cons.mpr ⟨Nat.ne_of_gt d7, List.forall_mem_cons.mpr ⟨Nat.ne_of_gt d2, List.forall_mem_cons.mpr ⟨Nat.ne_of_gt d5, List.forall_mem_cons.mpr ⟨Nat.ne_of_gt d8, hr⟩⟩⟩⟩⟩⟩⟩⟩⟩
theorem Lex.swap {L : Lex} {vs ws : List Value} {k kp : Nat} {n : Int} {tn : Tok} {q r : Addr × Obj} {rest : Led} (h : q ∈ r :: L.led vs k n tn ws kp rest) : q ∈ L.led vs k n tn ws kp (r :: rest) := by
  rcases List.mem_cons.mp h with rfl | h
  · exact Lex.hmem (.tail _ (.head _))
  · rcases List.mem_append.mp h with h | h
    · exact List.mem_append_left _ h
    · exact Lex.hmem ((List.mem_cons.mp h).elim (fun e => e ▸ .head _) fun h => .tail _ (.tail _ h))
theorem lw14 {L : Lex} {lr : Addr} {vr : List Value} {nr : Nat} {c4 c5 : Addr} {oc4 oc5 : Obj} (h9 : B9 X L lr vr nr c4 c5 oc4 oc5 N) (hH : ∀ q ∈ X.hid, NotN q.2) (h5 : ∀ q ∈ N, q.1 ≠ 195) {lw l ls lt la : Addr} {wr : Int} {T : Str} {zH zf zx zy : Int} {uH uf ux uy t0 t1 t2 t3 t4 : Tok} (hT : Trick zH zf zx zy) (hlt : lt ≠ 195) {vL : List Value} {kL kp : Nat} {n : Int} {tL : Tok}
    (go : ∀ c oc, CodeN c oc ((lt, LT zH zf zx zy uH uf ux uy) :: L.led vL kL n tL [] kp N) → WS X lawScope Q (mcL L lw wr lr) (mNm (keyM zH) lt T l ls) ((195, tabN c) :: (c, oc) :: (lt, LT zH zf zx zy uH uf ux uy) :: L.led vL kL n tL [] kp N) (lawBody.drop 19)) :
    WS X lawScope Q (mcL L lw wr lr) (mTa la lt T l ls) ((la, LA zf zx zy t0 t1 t2 t3 t4) :: (lt, LT zH zf zx zy uH uf ux uy) :: L.led vL kL n tL [] kp ((195, tabObj #[]) :: N)) (lawBody.drop 18) := by
  obtain ⟨hX, hV, hD, hU, hL, hN, h195, hlr, hr⟩ := h9
  have hS : StrsAre [.str (cardR zf) t0, .str (cardR zx) t1, .str (cardR zy) t2] ([zf, zx, zy].map cardR) := .cons _ _ (.cons _ _ (.cons _ _ .nil))
  refine ws_setE (by kpf_close) rfl (fun hk τ ρ => ge_sub (lk_F hk) (by kpf_close) (by isplit) (ge_call hk (wn_def (by k_is) (by kpf_close) (by decide) hk) (wf_def (by k_is)) rfl (ga_cons (ge_comp (ge_to (lk_F hk) (by kpf_close) (by isplit) (by kpf_close) (by isplit) (.head _) (by exact (by decide : 5 ≤ sizeLine)) (fun lj hlj => .mk lj [.str (cardR zf) t0, .str (cardR zx) t1, .str (cardR zy) t2] 0 (MapI (fun z => z) [zf, zx, zy] _) _ ⟨rfl, .nil⟩ (fun i ys N h => by rw [h.1]; exact .head _) (by decide : 3 ≤ sizeLine) ?turn ?done) (fun _ _ => by kpf_close)) (free_ok hX (by decide +kernel)) (by decide) rfl (by decide) (by kpf_close) (fun _ _ => rfl)) rfl) (fun _ => rfl)) (fun _ _ => by kpf_close))
  case turn =>
    intro i ys N1 v Y en hi hv hJ hE
    obtain ⟨z, t, hz, rfl⟩ := cards_at hS hv
    have hz8 := three_at hT.f hT.x hT.y z (List.mem_of_getElem? hz)
    obtain ⟨rfl, _⟩ := id hJ
    refine ge_call hk (hE.gd _ _ (by k_is) (by kpf_close) (by decide)) (wf_def (by k_is)) rfl (ga_pure hE.lk (by kpf_close) (by isplit) (wc_con0 (fun ς co _ => rank_nL (List.mem_append_left _ (.tail _ (.tail _ (.tail _ (L.mem (.tail _ hlr)))))) hr hz8) ?_ (ble_le hD rfl) (ble_le hU rfl))) (fun _ => rfl)
    rintro co _ N2 ⟨⟨t7, rfl⟩, rfl⟩
    exact ⟨rfl, fun k => hJ.next hz⟩
  case done =>
    rintro ys N1 lm ⟨rfl, hy⟩ hd
    obtain ⟨q0, q1, q2, rfl⟩ := ints3 (show IntsAre ys [zf, zx, zy] from hy)
    refine ga_nil (wc_led (N' := (195, tabObj #[]) :: (lm, LCg.lst [.int zf q0, .int zx q1, .int zy q2]) :: (lt, LT zH zf zx zy uH uf ux uy) :: L.led vL kL n tL [] kp N) ?mem (wc_named hV hH hD hU (n := 3) (.head _) ?off hT.c (.inl rfl) ?_))
    case mem =>
      refine List.forall_mem_cons.mpr ⟨.tail _ (.tail _ (.tail _ (.tail _ (L.mem (.head _))))), List.forall_mem_cons.mpr ⟨.head _, List.forall_mem_cons.mpr ⟨.tail _ (.tail _ (.tail _ (.head _))), fun q hq => .tail _ (.tail _ (.tail _ (.tail _ (Lex.swap (.tail _ hq)))))⟩⟩⟩
    case off =>
      exact List.forall_mem_cons.mpr ⟨Ne.symm (hd (195, tabObj #[]) (.tail _ (.tail _ (.tail _ (L.mem (.head _)))))), List.forall_mem_cons.mpr ⟨hlt, L.above hL h195 h5⟩⟩
    intro zN tz c oc hNm hC
    have e := hT.nm zN hNm
    subst e
    refine .mk zN tz vr rowM nr (keyM zN) _ (.tail _ (.tail _ (.tail _ (.tail _ (L.mem hlr))))) hr hT.h.1 (Int.lt_trans hT.h.2 (by decide)) (key_at hT.h) ?_
    refine ws_weak (.of (.inl rfl) (.of (.inl rfl) (.of (.inl rfl) (.of (.inl rfl) .nil)))) (.of (.inl rfl) (.of (.inl rfl) (.of (.inl rfl) (.of (.inl rfl) (.of (.inl rfl) (.of (.inl rfl) .nil)))))) ?_ (go c oc ⟨hC.d, hC.n, fun o ho => hC.u o (.tail _ ho)⟩)
    exact List.forall_mem_cons.mpr ⟨.head _, List.forall_mem_cons.mpr ⟨.tail _ (.head _), fun q hq => .tail _ (.tail _ (.tail _ hq))⟩⟩
end
end
section
example : PySem.Challenge.rw_uj0005_01.row.prog = PySem.Challenge.rw_uj0005_01.row.prog ∧ hd.heap_1 = hd.heap_1 := by
  k_fill
  exact ⟨rfl, rfl⟩
section
variable {w : World} {p : Program} {loose : List Str} {mean : ExcName → Option Value} {mg mb : Str → Option Value} {D U : Nat}
variable {X : Cx w p loose mean mg mb D U} {cs : Scope} {Q : FinS → Prop} {mc m : Loc} {N : Led} {en : Env} {f : Str → Option Value} {lk : Str → Option VC}
theorem fits2 {b : Int} (hb : 0 ≤ b ∧ b < 2) : FitsF b := by
  have : b = 0 ∨ b = 1 := by omega
  rcases this with rfl | rfl <;> (show _ < _) <;> decide +kernel
theorem wc_hsv {h s v r g b : UInt64} (hM : hsvM h s v = some (r, g, b)) (hD : Nat.ble 120 D = true) (hU : Nat.ble 5500 U = true) {Q : VC → Led → Prop} (H : ∀ d u1 u2 u3, Q (.val (.ref d)) ((d, tupO [.float r u1, .float g u2, .float b u3]) :: N)) : WC X cs mc N (.ref 28) [.float h, .float s, .float v] Q := by
  refine wc_con1 (fun ς co hc => hsv_n hM) ?_ (ble_le hD rfl) (ble_le hU rfl)
  rintro co _ N2 ⟨d, u1, u2, u3, rfl, hlt, rfl⟩
  exact ⟨d, _, rfl, hlt, H d u1 u2 u3⟩
set_option maxHeartbeats 2000000 in
theorem lw15 (hX : LawCl X) (hD : Nat.ble 120 D = true) (hU : Nat.ble 5500 U = true) {L : Lex} {lr : Addr} {vr : List Value} {nr : Nat} (hlr : (lr, lsO vr nr) ∈ N) (hr : IntsAre vr rowM) {lw l ls lt : Addr} {wr : Int} {T : Str} {zH zf zx zy : Int} {uH uf ux uy : Tok} (hT : Trick zH zf zx zy) (hlt : (lt, LT zH zf zx zy uH uf ux uy) ∈ N)
    (go : WS X lawScope Q (mcL L lw wr lr) [("unit", .int unitM), ("script", .val (.ref ls))] N (lawBody.drop 21)) :
    WS X lawScope Q (mcL L lw wr lr) (mNm (keyM zH) lt T l ls) N (lawBody.drop 19) := by
  have hb2 : 0 ≤ wr.fmod 2 ∧ wr.fmod 2 < 2 := ⟨Int.fmod_nonneg_of_pos _ (by decide), Int.fmod_lt_of_pos _ (by decide)⟩
  obtain ⟨cx, cy, cz, fp, fq, fr, hcw, hcsg, ⟨hi1, hi2, hi3⟩, hcM, hnp, hnq, hnr⟩ := col_get (key_mem hT.h) hb2
  refine ws_setE (by kpf_close) rfl (fun hk τ ρ => ge_call hk (wn_def (by k_is) (by kpf_close) (by decide) hk) (wf_def (by k_is)) rfl (ga_cons (ge_bin (ge_pure (lk_F hk) (by kpf_close) (by isplit) (ge_bin (ge_pure (lk_F hk) (by kpf_close) (by isplit) (ge_pure (lk_F hk) (by kpf_close) (by isplit) (gb_div (by decide) hi1 (gb_add_if (fits2 hb2) ?_))))))) rfl) (fun _ => rfl))
  refine ga_cons (ge_bin (ge_pure (lk_F hk) (by kpf_close) (by isplit) (ge_pure (lk_F hk) (by kpf_close) (by isplit) (gb_div (by decide) hi2 ?_)))) rfl
  refine ga_cons (ge_bin (ge_pure (lk_F hk) (by kpf_close) (by isplit) (ge_pure (lk_F hk) (by kpf_close) (by isplit) (gb_div (by decide) hi3 (ga_nil (wc_hsv hcM hD hU ?_)))))) rfl
  intro dC u1 u2 u3
  refine ws_ifF (wt_of fun hk τ ρ => gt_cmpE (ge_compT (ge_pure (lk_F hk) (by kpf_close) (by isplit) (.mk dC [.float fp u1, .float fq u2, .float fr u3] (MapI (fun q : UInt64 × Nat => signNo q.2 * 2 ^ Int.toNat 20) [(fp, cx), (fq, cy), (fr, cz)] _) _ ⟨rfl, .nil⟩ (fun i ys N h => by rw [h.1]; exact .head _) (by decide : 3 ≤ sizeLine) ?turn ?done)) (free_ok hX (by decide +kernel)) (by decide) rfl (by decide) (by kpf_close) (fun _ _ => rfl)) (by kpf_close))
  case turn =>
    intro i ys N1 v Y en hi hv hJ hE
    obtain ⟨u9, c9, t9, rfl, hq9, hor9⟩ := floats_at (x := cx) (y := cy) (z := cz) hv
    obtain ⟨rfl, _⟩ := id hJ
    have hn9 : Float64.isFinite (nearM u9 2) = true ∧ Flt.toInt Float64.truncOf (nearM u9 2) = signNo c9 * 2 ^ Int.toNat 20 := by
      rcases hor9 with h | h | h
      · cases h; exact hnp
      · cases h; exact hnq
      · cases h; exact hnr
    refine ge_call hk (hE.gd _ _ (by k_is) (by kpf_close) (by decide)) (wf_def (by k_is)) rfl (ga_pure hE.lk (by kpf_close) (by isplit) (wc_con0 (fun ς co _ => near_n (x := u9) (u := 2) (by decide) hn9.1 hn9.2) ?_ (ble_le hD rfl) (ble_le hU rfl))) (fun _ => rfl)
    rintro co _ N2 ⟨⟨t7, rfl⟩, rfl⟩
    have hnx := hJ.next (t := t7) hq9
    dsimp only at hnx
    exact ⟨rfl, fun k => hnx⟩
  case done =>
    rintro ys N1 lc ⟨rfl, hy⟩ hd
    refine ge_compS (ge_call hk (wn_def (by k_is) (by kpf_close) (by decide) hk) (wf_def (by k_is)) rfl (ga_cons (ge_sub (lk_F hk) (by kpf_close) (by isplit) (ge_item (lk_F hk) (by kpf_close) (by isplit) (by kpf_close) (by isplit) (.tail _ (.tail _ hlt)) (by decide) (by decide) rfl (.mk zH uH vr rowM nr (keyM zH) _ (.tail _ (.tail _ hlr)) hr hT.h.1 (Int.lt_trans hT.h.2 (by decide)) (key_at hT.h) (ga_nil (wc_con0 (fun ς co _ => card_w (key_mem hT.h)) ?card (ble_le hD rfl) (ble_le hU rfl)))) (fun _ => by kpf_close)) (fun _ _ => by kpf_close)) rfl) (fun _ => rfl)) (free_ok hX (by decide +kernel)) (by decide) rfl (by decide) (by kpf_close) (fun _ _ => rfl)
    rintro co _ N2 ⟨⟨t7, rfl⟩, rfl⟩
    refine ⟨rfl, cardM (keyM zH), fun _ => ⟨t7, rfl⟩, .mk _ (MapI (fun c : Nat => signNo c * 2 ^ Int.toNat 20) (cardM (keyM zH)).cps.toList _) _ ⟨rfl, .nil⟩ (by rw [hcw]; exact (by decide : 3 ≤ sizeLine)) ?turn2 ?done2⟩
    case turn2 =>
      intro i ys N1 c t Y en hi hc hJ hE
      obtain ⟨rfl, _⟩ := id hJ
      have hcl : (cardM (keyM zH)).cps.toList[i]? = some c := by rw [Array.getElem?_toList]; exact hc
      have hcm : c ∈ [10, 34, 92] := by rcases hcsg _ _ hc with rfl | rfl | rfl <;> decide
      refine ge_bin (ge_methS (sv := signs3) hk hE.lk (by kpf_close) (by isplit) PySem.GM.index ?_ rfl (fun _ => ⟨_, rfl⟩))
      refine ga_pure (cls := [.str ⟨#[c]⟩]) hE.lk (by kpf_close) (by isplit) ?_
      refine wc_index (signNo_of c hcm).1 ?_
      refine ge_pure hE.lk (by kpf_close) (by exact ⟨by decide, (by decide +kernel : (Builtin.Int.intBits 2 : Int) * 20 ≤ 2 ^ 27)⟩) ?_
      refine gb_pure (by kpf_close) (by exact IntMulOk.of_right (by decide +kernel)) ?_
      intro k
      exact hJ.next (t := k) hcl
    case done2 =>
      rintro ys2 N1 ld ⟨rfl, hy2⟩ hd2
      have e : (((cardM (keyM zH)).cps.toList.take (cardM (keyM zH)).cps.size).map fun c : Nat => signNo c * 2 ^ Int.toNat 20) = [signNo cx * 2 ^ Int.toNat 20, signNo cy * 2 ^ Int.toNat 20, signNo cz * 2 ^ Int.toNat 20] := by rw [hcw]; rfl
      rw [e] at hy2
      refine gc_ne_ints (.tail _ (.head _)) (.head _) hy hy2 (ble_le hU rfl) ⟨rfl, ws_nil ?_⟩
      exact ws_weak (.of (.inl rfl) (.of (.inl rfl) (.of (.inl rfl) (.of (.inl rfl) .nil)))) (.of (.inl rfl) (.of (.inl rfl) .nil)) (fun _ h => .tail _ (.tail _ (.tail _ h))) go
end
end
section
example : PySem.Challenge.rw_uj0005_01.row.prog = PySem.Challenge.rw_uj0005_01.row.prog ∧ hd.heap_1 = hd.heap_1 := by
  k_fill
  exact ⟨rfl, rfl⟩
section
variable {w : World} {p : Program} {loose : List Str} {mean : ExcName → Option Value} {mg mb : Str → Option Value} {D U : Nat}
variable {X : Cx w p loose mean mg mb D U} {cs : Scope} {Q : FinS → Prop} {mc m : Loc} {N : Led} {en : Env} {f : Str → Option Value} {lk : Str → Option VC}
theorem wc_divN {c4 c5 : Addr} {oc4 oc5 : Obj} (hV : HasDiv X c4 c5 oc4 oc5) (hD : Nat.ble 120 D = true) (hU : Nat.ble 5500 U = true) {a b : Int} (ha : -2 ^ 78 ≤ a ∧ a < 2 ^ 78) (hb : 1 < -b ∧ -b < 2 ^ 19) {Q : VC → Led → Prop}
    (h : ∀ d u v, (∀ q ∈ N, q.1 < d) → Q (.val (.ref d)) ((d, tupO [.int (a.fdiv b) u, .int (a.fmod b) v]) :: N)) : WC X cs mc N (.ref 70) [.int a, .int b] Q := by
  refine wc_con1 (fun ς co hc => idivneg_n (hV.div hc) (bits_neg ha) hb) ?_ (ble_le hD rfl) (ble_le hU rfl)
  rintro co _ N2 ⟨d, u1, u2, rfl, rfl, hlt⟩
  exact ⟨d, _, rfl, hlt, h d u1 u2 fun q hq => hlt q (List.mem_append_left _ hq)⟩
theorem lw16 {c4 c5 : Addr} {oc4 oc5 : Obj} (hV : HasDiv X c4 c5 oc4 oc5) (hD : Nat.ble 120 D = true) (hU : Nat.ble 5500 U = true) {ls : Addr} {vS : List Value} {nS : List Int} (hS : X.h₀.IsList ls vS.toArray) (hI : IntsAre vS nS) (hl : nS.length ≤ 63)
    (go : ∀ tot : Int, WS X lawScope Q mc [("less", .int (tot.fmod (-17550)))] N (lawBody.drop 24)) (hm : Sub mc mc) :
    WS X lawScope Q mc [("unit", .int unitM), ("script", .val (.ref ls))] N (lawBody.drop 21) := by
  refine ws_setE (by with_unfolding_all rfl) rfl (fun hk τ ρ => ge_bin (ge_bin (ge_bin (ge_pure (lk_F hk) (by with_unfolding_all rfl) (by isplit) ?_))))
  refine ge_call hk (wn_builtin (by k_is) (by with_unfolding_all rfl) (by with_unfolding_all rfl) (by decide) (by decide) hk) wf_builtin rfl (ga_cons (ge_step (lk_F hk) (by with_unfolding_all rfl) (by isplit) (by with_unfolding_all rfl) (by isplit) (by with_unfolding_all rfl) (by isplit) (by decide) hS hI hl ?_ (fun _ _ => ⟨_, by with_unfolding_all rfl⟩)) rfl) (fun _ => rfl)
  intro d ws ms hw hml hlt2
  refine ga_nil (wc_sum (.head _) hw ?_)
  refine gb_pure (by with_unfolding_all rfl) (by isplit) (ge_pure (lk_F hk) (by with_unfolding_all rfl) (by isplit) ?_)
  refine gb_pure (by with_unfolding_all rfl) (by isplit) (ge_pure (lk_F hk) (by with_unfolding_all rfl) (by isplit) ?_)
  refine gb_pure (by with_unfolding_all rfl) (by isplit) ?_
  obtain ht := tot_bounds2 (4433 + 41 * (17550 * 81 ^ Int.toNat 8) + ms.sum)
  generalize (4433 + 41 * (17550 * 81 ^ Int.toNat 8) + ms.sum).fmod (81 * (17550 * 81 ^ Int.toNat 8)) - 40 * (17550 * 81 ^ Int.toNat 8) = tot at *
  refine ws_led (N' := N) (fun _ h => .tail _ h) ?_
  refine ws_put2 (we_call (wn_def (by k_is) (by with_unfolding_all rfl) (by decide)) (wf_def (by k_is)) (by with_unfolding_all rfl) (by isplit) (wc_divN hV hD hU ht (by decide) ?_) rfl (fun _ => rfl)) (fun _ => rfl) (fun _ => rfl)
  intro d u v hlt
  refine ⟨d, _, _, rfl, .head _, wb_local (by with_unfolding_all rfl) (wb_local (by with_unfolding_all rfl) ?_)⟩
  refine ws_ifF (wt_cmpE (fun hk τ ρ => ge_list (lk_F hk) (by with_unfolding_all rfl) (by isplit) rfl (fun a σ _ => ge_list (lk_F hk) (by with_unfolding_all rfl) (by isplit) rfl (fun b ς _ => ?_))) (by with_unfolding_all rfl))
  refine gc_ne_ints (.tail _ (.head _)) (.head _) (.cons _ _ (.cons _ _ .nil)) (.cons _ _ (.cons _ _ .nil)) (Nat.ble_trans' (ble_le hU rfl)) ⟨rfl, ws_nil ?_⟩
  exact ws_weak hm (.of (.inr rfl) .nil) (fun q hq => .tail _ (.tail _ (.tail _ hq))) (go tot)
end
end
section
example : PySem.Challenge.rw_uj0005_01.row.prog = PySem.Challenge.rw_uj0005_01.row.prog ∧ hd.heap_1 = hd.heap_1 := by
  k_fill
  exact ⟨rfl, rfl⟩
section
variable {w : World} {p : Program} {loose : List Str} {mean : ExcName → Option Value} {mg mb : Str → Option Value} {D U : Nat}
variable {X : Cx w p loose mean mg mb D U} {cs : Scope} {Q : FinS → Prop} {mc m : Loc} {N : Led} {en : Env} {f : Str → Option Value} {lk : Str → Option VC}
theorem Lex.ltOf {L : Lex} {vs ws vs' ws' : List Value} {k kp k' kp' : Nat} {n n' : Int} {tn tn' : Tok} {P rest : Led} {d : Addr} (h : ∀ q ∈ P ++ L.led vs k n tn ws kp rest, q.1 < d) : ∀ q ∈ P ++ L.led vs' k' n' tn' ws' kp' rest, q.1 < d := by
  intro q hq
  rcases List.mem_append.mp hq with hq | hq
  · exact h q (List.mem_append_left _ hq)
  · obtain ⟨o, ho⟩ := L.keys (vs' := vs) (ws' := ws) (k' := k) (kp' := kp) (n' := n) (tn' := tn) q hq
    exact h (q.1, o) (List.mem_append_right _ ho)
inductive DkI (L : Lex) (P rest : Led) (lp lsh lk : Addr) (op : Obj) (mc0 : Loc) (vL : List Value) (kL : Nat) (n : Int) (tL : Tok) (k : Nat) (mc m : Loc) (N : Led) : Prop
  | mk (dv : List Value) (dk : Nat) (dn : List Int) (sv : List Value) (sk : Nat) (sn : List Int) (ws : List Value) (kw : Nat) (h1 : Sub [("shown", .val (.ref lsh)), ("deck", .val (.ref lk))] m) (h2 : mc = mc0) (h3 : ∀ q ∈ (lk, lsO dv dk) :: (lsh, lsO sv sk) :: (lp, op) :: (P ++ L.led vL kL n tL ws kw rest), q ∈ N) (h4 : IntsAre dv dn) (h5 : IntsAre sv sn) (h6 : DeckOk k dn sn) (h7 : StrsAre ws (sn.map cardR)) : DkI L P rest lp lsh lk op mc0 vL kL n tL k mc m N
set_option maxHeartbeats 2000000 in
theorem lw17 (hD : Nat.ble 120 D = true) (hU : Nat.ble 5500 U = true) {L : Lex} (hL : L.Ok w p loose mean mg mb) {P : Led} (hP : ∀ q ∈ P, Off L q.1) (hN : ∀ q ∈ N, @LT.lt Nat _ q.1 L.C) {lr lw : Addr} {wr : Int} {vr : List Value} {nr : Nat} (hlr : (lr, lsO vr nr) ∈ N) (hr : IntsAre vr rowM) {tot : Int} {vL : List Value} {kL kp : Nat} {n : Int} {tL : Tok}
    (go : ∀ lsh y0 y1 y2 t0 t1 t2 sk ws kw, (0 ≤ y0 ∧ y0 < 27) → (0 ≤ y1 ∧ y1 < 27) → (0 ≤ y2 ∧ y2 < 27) → Cards [y2, y1, y0] → (∀ q ∈ P ++ L.led vL kL n tL [] kp N, q.1 < lsh) → StrsAre ws ([y0, y1, y2].map cardR) →
      WS X lawScope Q (mcL L lw wr lr) [("shown", .val (.ref lsh))] ((lsh, lsO [.int y0 t0, .int y1 t1, .int y2 t2] sk) :: P ++ L.led vL kL n tL ws kw N) (lawBody.drop 27)) :
    WS X lawScope Q (mcL L lw wr lr) [("less", .int (tot.fmod (-17550)))] (P ++ L.led vL kL n tL [] kp N) (lawBody.drop 24) := by
  refine ws_setE (by kpf_close) rfl (fun hk τ ρ => ge_listrange (n := 27) (lk_F hk) (wn_builtin (by k_is) (by kpf_close) (by kpf_close) (by decide) (by decide) hk) (wn_builtin (by k_is) (by kpf_close) (by kpf_close) (by decide) (by decide) hk) (by kpf_close) (by isplit) (by decide +kernel) (by decide) rfl ?_)
  intro lk us k27 hI27 hlk
  rw [rk27] at hI27
  refine ws_put rfl (we_list (by kpf_close) (by isplit) rfl fun lsh σ hlsh => wb_local (by kpf_close) ?_)
  have hql := less_ok tot
  refine ws_cons (w_for (wi_list (we_list (by kpf_close) (by isplit) rfl fun lp σ hlp => ⟨lp, _, _, rfl, .head _, ?_⟩)) (fun _ _ => rfl))
  generalize hqE : -(tot.fmod (-17550)) = qq at *
  have hIP : IntsAre [.int (qq.fdiv 650) (σ 0), .int ((qq.fmod 650).fdiv 25) (σ 1), .int (qq.fmod 25) (σ 2)] (placesL qq) := .cons _ _ (.cons _ _ (.cons _ _ .nil))
  refine .mk _ _ (DkI L P N lp lsh lk (lsO [.int (qq.fdiv 650) (σ 0), .int ((qq.fmod 650).fdiv 25) (σ 1), .int (qq.fmod 25) (σ 2)] 0) (mcL L lw wr lr) vL kL n tL) (.mk us k27 (rangeInts 0 1 27) [] 0 [] [] kp (.of (.inl rfl) (.of (.inl rfl) .nil)) rfl ?h3 hI27 .nil deck_start .nil) (nxt_list (vs := [.int (qq.fdiv 650) (σ 0), .int ((qq.fmod 650).fdiv 25) (σ 1), .int (qq.fmod 25) (σ 2)]) (n := 0) ?hl) ?turn ?done
  case h3 => exact List.forall_mem_cons.mpr ⟨.tail _ (.tail _ (.head _)), List.forall_mem_cons.mpr ⟨.tail _ (.head _), List.forall_mem_cons.mpr ⟨.head _, fun q hq => .tail _ (.tail _ (.tail _ hq))⟩⟩⟩
  case hl =>
    rintro k mc m N1 ⟨dv, dk, dn, sv, sk, sn, ws, kw, h1, rfl, h3, h4, h5, h6, h7⟩
    exact h3 _ (.tail _ (.tail _ (.head _)))
  case done =>
    rintro mc m N1 ⟨dv, dk, dn, sv, sk, sn, ws, kw, h1, rfl, h3, h4, h5, h6, h7⟩
    obtain ⟨y0, y1, y2, rfl, hy0, hy1, hy2, hCy⟩ := deck3 (show DeckOk 3 dn sn from h6)
    obtain ⟨t0, t1, t2, rfl⟩ := ints3 h5
    refine ws_weak (.of (.inl rfl) (.of (.inl rfl) (.of (.inl rfl) (.of (.inl rfl) .nil)))) (fun q hq => h1 q (by rw [List.mem_singleton.mp hq]; exact .head _)) (fun q hq => h3 q ?_) (go lsh y0 y1 y2 t0 t1 t2 sk ws kw hy0 hy1 hy2 hCy (fun q hq => hlsh q (.tail _ hq)) h7)
    rcases List.mem_cons.mp hq with rfl | hq
    · exact .tail _ (.head _)
    · exact .tail _ (.tail _ (.tail _ hq))
  case turn =>
    rintro I o k c mc m N1 hk3 ⟨v, rfl, hv⟩ ⟨dv, dk, dn, sv, sk, sn, ws, kw, h1, rfl, h3, h4, h5, h6, h7⟩
    obtain ⟨z, tz, rfl, hz⟩ := hIP.at _ _ hv
    have hz8 := places_ok hql hz
    have hk3' : k < 3 := hk3
    obtain ⟨a6, b6, _, _⟩ := id h6
    have hi : z < dn.length := by omega
    obtain ⟨h6', hx8⟩ := h6.next hz8.1 hi
    have q1 := Lex.ltOf (vs' := vL) (ws' := ws) (k' := kL) (kp' := kw) (n' := n) (tn' := tL) hlk
    have q2 := Lex.ltOf (vs' := vL) (ws' := ws) (k' := kL) (kp' := kw) (n' := n) (tn' := tL) fun q hq => hlsh q (.tail _ hq)
    have q3 := Lex.ltOf (vs' := vL) (ws' := ws) (k' := kL) (kp' := kw) (n' := n) (tn' := tL) fun q hq => hlp q (.tail _ (.tail _ hq))
    have o1 : lk < lsh := hlsh (lk, lsO us k27) (.head _)
    have o2 : lk < lp := hlp (lk, lsO us k27) (.tail _ (.head _))
    have o3 : lsh < lp := hlp (lsh, _) (.head _)
    refine wb_local (by kpf_close) (ws_weak (mc' := mcL L lw wr lr) (m' := [("place", .int z), ("shown", .val (.ref lsh)), ("deck", .val (.ref lk))]) (.of (.inl rfl) (.of (.inl rfl) (.of (.inl rfl) (.of (.inl rfl) .nil)))) (.of (.inr rfl) (h1.cons rfl)) h3 ?_)
    refine ws_cons (w_expr (fun hk τ ρ => ge_methG (l := lsh) hk (lk_F hk) (by kpf_close) (by isplit) (.tail _ (.head _)) PySem.F.slot_list_append PySem.F.type_list_append (ga_cons (ge_methG (l := lk) hk (lk_F hk) (by kpf_close) (by isplit) (.head _) PySem.F.slot_list_pop PySem.F.type_list_pop (ga_pure (cls := [.int z]) (lk_F hk) (by kpf_close) (by isplit) (wc_pop ?poff h4 hz8.1 hi ?pz ?_)) rfl (fun _ => ⟨_, rfl⟩)) rfl) rfl (fun _ => ⟨_, rfl⟩)) rfl)
    case poff => exact List.forall_mem_cons.mpr ⟨Nat.ne_of_gt o1, List.forall_mem_cons.mpr ⟨Nat.ne_of_gt o2, fun q hq => Nat.ne_of_lt (q1 q hq)⟩⟩
    case pz => exact Nat.lt_of_le_of_lt (by omega : dn.length ≤ 27) (by decide)
    intro dv' hdv'
    refine ga_nil (wc_led (N' := (lsh, lsO sv sk) :: (lk, lsO dv' (dk + 1)) :: (lp, lsO [.int (qq.fdiv 650) (σ 0), .int ((qq.fmod 650).fdiv 25) (σ 1), .int (qq.fmod 25) (σ 2)] 0) :: (P ++ L.led vL kL n tL ws kw N)) ?mem (wc_append ?aoff ?az ?_))
    case mem => exact List.forall_mem_cons.mpr ⟨.tail _ (.head _), List.forall_mem_cons.mpr ⟨.head _, fun q hq => .tail _ (.tail _ hq)⟩⟩
    case aoff => exact List.forall_mem_cons.mpr ⟨Nat.ne_of_lt o1, List.forall_mem_cons.mpr ⟨Nat.ne_of_gt o3, fun q hq => Nat.ne_of_lt (q2 q hq)⟩⟩
    case az => rw [h5.length, a6]; exact Nat.le_trans (Nat.le_of_lt hk3') (by decide)
    intro kt
    generalize hxE : dn.getD z.toNat 0 = x at *
    refine ws_cons (w_expr (fun hk τ ρ => ge_inst (l := L.x) (C := 144) (dx := L.dx) (g := 141) hk (lk_F hk) (by kpf_close) (by isplit) (.tail _ (.tail _ (.tail _ (List.mem_append_right _ (.tail _ (.tail _ (.tail _ (.tail _ (.tail _ (.head _)))))))))) (.tail _ (.tail _ (.tail _ (List.mem_append_right _ (.tail _ (.tail _ (.tail _ (.tail _ (.head _))))))))) (by k_is) (by k_is) (by k_is) rfl (by k_is) (ga_cons (ge_call hk (wn_def (by k_is) (by kpf_close) (by decide) hk) (wf_def (by k_is)) rfl (ga_cons (ge_sub (lk_F hk) (by kpf_close) (by isplit) (ge_last (lk_F hk) (by kpf_close) (by isplit) (by kpf_close) (by isplit) (.head _) ?lz (.mk x kt vr rowM nr (keyM x) _ (.tail _ (.tail _ (.tail _ (List.mem_append_right _ (L.mem hlr))))) hr hx8.1 (Int.lt_trans hx8.2 (by decide)) (key_at hx8) (ga_nil (wc_con0 (fun ς co _ => card_w (key_mem hx8)) ?card (ble_le hD rfl) (ble_le hU rfl)))) (fun _ => by kpf_close)) (fun _ _ => by kpf_close)) rfl) (fun _ => rfl)) rfl) rfl (fun _ => ⟨_, rfl⟩)) rfl)
    case lz => rw [h5.length, a6]; exact Nat.lt_of_lt_of_le hk3' (by decide)
    rintro co _ N2 ⟨⟨t7, rfl⟩, rfl⟩
    refine ⟨rfl, ga_nil (wc_push (P := (lsh, lsO (sv ++ [.int x kt]) (sk + 1)) :: (lk, lsO dv' (dk + 1)) :: (lp, lsO [.int (qq.fdiv 650) (σ 0), .int ((qq.fmod 650).fdiv 25) (σ 1), .int (qq.fmod 25) (σ 2)] 0) :: P) hL hN ?hP ?wz hD hU fun t7 => ws_nil (.mk dv' (dk + 1) (dn.take z.toNat ++ dn.drop (z.toNat + 1)) (sv ++ [.int x kt]) (sk + 1) (sn ++ [x]) (ws ++ [.str (cardM (keyM x)) t7]) (kw + 1) (.of (.inl rfl) (.of (.inl rfl) .nil)) rfl ?h3' hdv' (ints_snoc h5 _ _) h6' ?h7'))⟩
    case hP => exact List.forall_mem_cons.mpr ⟨Lex.offLt q2, List.forall_mem_cons.mpr ⟨Lex.offLt q1, List.forall_mem_cons.mpr ⟨Lex.offLt q3, hP⟩⟩⟩
    case wz => rw [strs_len h7, List.length_map, a6]; exact Nat.le_trans (Nat.le_of_lt hk3') (by decide)
    case h3' => exact List.forall_mem_cons.mpr ⟨.tail _ (.head _), List.forall_mem_cons.mpr ⟨.head _, fun q hq => .tail _ (.tail _ hq)⟩⟩
    case h7' =>
      rw [List.map_append]
      exact kct_snoc h7
end
end
section
example : PySem.Challenge.rw_uj0005_01.row.prog = PySem.Challenge.rw_uj0005_01.row.prog ∧ hd.heap_1 = hd.heap_1 := by
  k_fill
  exact ⟨rfl, rfl⟩
section
variable {w : World} {p : Program} {loose : List Str} {mean : ExcName → Option Value} {mg mb : Str → Option Value} {D U : Nat}
variable {X : Cx w p loose mean mg mb D U} {cs : Scope} {Q : FinS → Prop} {mc m : Loc} {N : Led} {en : Env} {f : Str → Option Value} {lk : Str → Option VC}
set_option maxHeartbeats 2000000 in
theorem lw18 {c4 c5 : Addr} {oc4 oc5 : Obj} {L : Lex} {lr : Addr} {vr : List Value} {nr : Nat} (h9 : B9 X L lr vr nr c4 c5 oc4 oc5 N) (hH : ∀ q ∈ X.hid, NotN q.2) (h5 : ∀ q ∈ N, q.1 ≠ 195) {lw lsh c : Addr} {oc : Obj} {wr y0 y1 y2 : Int} {t0 t1 t2 : Tok} {sk : Nat} (hy0 : 0 ≤ y0 ∧ y0 < 27) (hy1 : 0 ≤ y1 ∧ y1 < 27) (hy2 : 0 ≤ y2 ∧ y2 < 27) (hCy : Cards [y2, y1, y0]) {vL ws : List Value} {kL kw kp : Nat} {n : Int} {tL : Tok} (hC : CodeN c oc (L.led vL kL n tL [] kp N)) (hlt : ∀ q ∈ [(195, tabN c), (c, oc)] ++ L.led vL kL n tL [] kp N, q.1 < lsh) (hw : StrsAre ws ([y0, y1, y2].map cardR))
    (hQ : ∀ N', (∃ ps, (195, tabObj ps) ∈ N') → (∀ q ∈ N, q ∈ N') → Q (.ret (.val (.bool true)) N')) :
    WS X lawScope Q (mcL L lw wr lr) [("shown", .val (.ref lsh))] ((lsh, lsO [.int y0 t0, .int y1 t1, .int y2 t2] sk) :: [(195, tabN c), (c, oc)] ++ L.led vL kL n tL ws kw N) (lawBody.drop 27) := by
  obtain ⟨hX, hV, hD, hU, hL, hN, h195, hlr, hr⟩ := h9
  have hP : ∀ q ∈ (lsh, lsO [.int y0 t0, .int y1 t1, .int y2 t2] sk) :: [(195, tabN c), (c, oc)], Off L q.1 := by
    obtain ⟨⟨g1, g2, g3, g4, g5⟩, g6, g7, g8⟩ := hL.ord
    have d1 := Nat.lt_trans h195 g1
    have d6 := Nat.lt_trans (Nat.lt_trans (Nat.lt_trans (Nat.lt_trans (Nat.lt_trans d1 g2) g3) g4) g5) g6
    exact List.forall_mem_cons.mpr ⟨Lex.offLt hlt, List.forall_mem_cons.mpr ⟨⟨Nat.ne_of_lt (Nat.lt_trans (Nat.lt_trans d6 g7) g8), Nat.ne_of_lt d1, Nat.ne_of_lt d6⟩, List.forall_mem_cons.mpr ⟨CodeN.off (P := []) hC, List.forall_mem_nil _⟩⟩⟩
  have hI3 : IntsAre [.int y0 t0, .int y1 t1, .int y2 t2] [y0, y1, y2] := .cons _ _ (.cons _ _ (.cons _ _ .nil))
  refine ws_compR (n := 3) (wn_builtin (by k_is) (by kpf_close) (by kpf_close) (by decide) (by decide)) (by kpf_close) (by isplit) (by decide +kernel) (by decide) rfl (SeenJ (fun wsb kb => ((lsh, lsO [.int y0 t0, .int y1 t1, .int y2 t2] sk) :: [(195, tabN c), (c, oc)]) ++ L.led vL kL n tL wsb kb N) [y0, y1, y2]) ⟨ws, kw, rfl, hw, .nil⟩ ?turn ?done (by kpf_close) (by kpf_close) (free_ok hX (by decide +kernel)) (by decide) rfl (by decide) (by kpf_close)
  case turn =>
    rintro i ys N1 t Y en f hi hJ hE
    obtain ⟨z9, t9, ws9, kb9, hz9, rfl, hl9, hnx9⟩ := hJ.turn hi (show 3 ≤ 40 by decide)
    have hz8 : 0 ≤ z9 ∧ z9 < 27 := three_at hy0 hy1 hy2 z9 (List.mem_of_getElem? hz9)
    refine ge_call rfl (hE.gd _ _ (by k_is) (by kpf_close) (by decide)) (wf_def (by k_is)) rfl (ga_cons (ge_pure hE.lk (by kpf_close) (by isplit) (ga_cons (ge_inst0 (l := L.x) (C := 144) (dx := L.dx) (g := 134) rfl hE.lk (by kpf_close) (by isplit) (List.mem_append_right _ (.tail _ (.tail _ (.tail _ (.tail _ (.tail _ (.head _))))))) (List.mem_append_right _ (.tail _ (.tail _ (.tail _ (.tail _ (.head _)))))) (by k_is) (by k_is) (by k_is) rfl (by k_is) (wc_lex hP (fun σ pre hp => tokp_P hL hN (fun q hq => (hp q hq).1) hl9) ?_ (ble_le hD rfl) (ble_le hU rfl)) (fun _ => ⟨_, rfl⟩)) rfl)) rfl) (fun _ => rfl)
    rintro pre v N2 ⟨rfl, rfl⟩
    refine ⟨vL, kL, tL, ws9, kb9 + 1, rfl, ga_nil (wc_con0 (fun ς co _ => rank_nL (List.mem_append_left _ (List.mem_append_right _ (L.mem hlr))) hr hz8) ?_ (ble_le hD rfl) (ble_le hU rfl))⟩
    rintro co _ N2 ⟨⟨t7, rfl⟩, rfl⟩
    exact ⟨rfl, fun k => hnx9 t7⟩
  case done =>
    rintro ys N1 ld ⟨wsS, kbS, rfl, hwsS, hysS⟩ hd
    obtain ⟨z0, z1, z2, rfl⟩ := ints3 (show IntsAre ys [y0, y1, y2] from hysS)
    have hIs : IntsAre [.int y0 z0, .int y1 z1, .int y2 z2] [y0, y1, y2] := .cons _ _ (.cons _ _ (.cons _ _ .nil))
    obtain ⟨⟨vc, tc, hcd, hcv⟩, hcn, _⟩ := hC
    refine ws_setE (by kpf_close) rfl (fun hk τ ρ => ge_call hk (wn_def (by k_is) (by kpf_close) (by decide) hk) (wf_def (by k_is)) rfl (ga_pure (lk_F hk) (by kpf_close) (by isplit) (wc_led (N' := (195, tabN c) :: (ld, LCg.lst [.int y0 z0, .int y1 z1, .int y2 z2]) :: (c, oc) :: (lsh, lsO [.int y0 t0, .int y1 t1, .int y2 t2] sk) :: L.led vL kL n tL wsS kbS N) ?mem (wc_named hV hH hD hU (n := 3) (.head _) ?off hCy (.inr ⟨c, oc, vc, tc, rfl, .tail _ (.head _), hcd, hcv⟩) ?_))) (fun _ => rfl))
    case mem => exact List.forall_mem_cons.mpr ⟨.tail _ (.tail _ (.head _)), List.forall_mem_cons.mpr ⟨.head _, List.forall_mem_cons.mpr ⟨.tail _ (.tail _ (.tail _ (.head _))), List.forall_mem_cons.mpr ⟨.tail _ (.head _), fun q hq => .tail _ (.tail _ (.tail _ (.tail _ hq)))⟩⟩⟩⟩
    case off => exact List.forall_mem_cons.mpr ⟨Ne.symm (hd (195, tabN c) (.tail _ (.head _))), List.forall_mem_cons.mpr ⟨hcn, List.forall_mem_cons.mpr ⟨Nat.ne_of_gt (hlt (195, tabN c) (.head _)), L.above hL h195 h5⟩⟩⟩
    intro zU tzU c' oc' hNm _
    have hzU := named_new hNm
    refine ws_retE (fun hk τ ρ => ge_and (ge_cmp (ge_pure (lk_F hk) (by kpf_close) (by isplit) (ge_pure (lk_F hk) (by kpf_close) (by isplit) (gc_eq_ints (.tail _ (.tail _ (.head _))) (.tail _ (.tail _ (.tail _ (.tail _ (.head _))))) hIs hI3 (ble_le hU rfl) ⟨rfl, ?_⟩))) (by kpf_close)))
    refine ge_cmp (ge_call hk (wn_def (by k_is) (by kpf_close) (by decide) hk) (wf_def (by k_is)) rfl (ga_cons (ge_bin (ge_pure (lk_F hk) (by kpf_close) (by isplit) (ge_list (lk_F hk) (by kpf_close) (by isplit) rfl fun lf σ _ => ?_))) rfl) (fun _ => rfl)) (by kpf_close)
    refine gb_add_list (.tail _ (.tail _ (.tail _ (.head _)))) (.head _) (by exact (by decide : 4 ≤ sizeLine)) fun lg _ => ga_nil ?_
    refine wc_show (r0 := y0) (r1 := y1) (r2 := y2) (r3 := zU) (t0 := z0) (t1 := z1) (t2 := z2) (t3 := σ 0) (n := 0) hV hD hU (.head _) (cards_more hCy hzU) fun x us hs _ hp hh hu => ?_
    rw [show_named hNm hp hh] at hu
    refine ge_bin (ge_list (lk_F hk) (by kpf_close) (by isplit) rfl fun li σ' _ => ?_)
    refine ge_pure (lk_F hk) (by kpf_close) (by isplit) (gb_add_ints (ns := [zU]) (.head _) (.tail _ (.tail _ (.tail _ (.tail _ (.tail _ (.tail _ (.tail _ (.tail _ (.head _))))))))) (.cons _ _ .nil) hI3 (by exact (by decide : 4 ≤ sizeLine)) fun lj uj huj _ => ?_)
    refine gc_eq_ints (.tail _ (.tail _ (.head _))) (.head _) hu huj (ble_le hU rfl) (hQ _ ⟨_, .tail _ (.tail _ (.tail _ (.tail _ (.tail _ (.head _)))))⟩ fun q hq => .tail _ (.tail _ (.tail _ (.tail _ (.tail _ (.tail _ (.tail _ (.tail _ (.tail _ (.tail _ (L.mem hq)))))))))))
end
end
section
example : PySem.Challenge.rw_uj0005_01.row.prog = PySem.Challenge.rw_uj0005_01.row.prog ∧ hd.heap_1 = hd.heap_1 := by
  k_fill
  exact ⟨rfl, rfl⟩
section
variable {w : World} {p : Program} {loose : List Str} {mean : ExcName → Option Value} {mg mb : Str → Option Value} {D U : Nat}
variable {X : Cx w p loose mean mg mb D U} {cs : Scope} {Q : FinS → Prop} {mc m : Loc} {N : Led} {en : Env} {f : Str → Option Value} {lk : Str → Option VC}
def LawQ : FinS → Prop
  | .ret c N => c = .val (.bool true) ∧ ∀ P ∈ [195, 150, 51, 44, 202], ∃ ps, (P, tabObj ps) ∈ N
  | _ => False
abbrev tbs : Led := [(195, tabObj #[]), (150, tabObj #[]), (51, tabObj #[]), (44, tabObj #[]), (202, tabObj #[])]
theorem Lex.sub {L : Lex} {vs ws : List Value} {k kp : Nat} {n : Int} {tn : Tok} {r r' : Led} (h : ∀ q ∈ r', q ∈ r) : ∀ q ∈ L.led vs k n tn ws kp r', q ∈ L.led vs k n tn ws kp r := by
  intro q hq
  rcases List.mem_append.mp hq with h' | h'
  · exact List.mem_append_left _ h'
  · exact Lex.hmem ((List.mem_cons.mp h').elim (fun e => e ▸ .head _) fun h' => .tail _ (h q h'))
theorem NoCode.tab0 : NoCode (tabObj #[]) := fun v h s t => by cases h; simp
theorem notN_of {o : Obj} {v : Array Value} {q : Str} {t : Tok} (e : o.data = .fields v) (f : v[1]? = some (.str q t)) (h : (q == nameN) = false) : NotN o := by
  intro v' t' e' f'
  rw [e] at e'
  injection e' with e'
  subst e'
  rw [f] at f'
  injection f' with f'
  injection f' with f'
  subst f'
  exact absurd h (by rw [beq_self_eq_true]; decide)
set_option maxHeartbeats 2000000 in
theorem law_all (hX : LawCl X) (hH : X.hid = []) (hC : CodeHd X.h₀ 204 202) (hcd : X.ccd = .ref 204) (hcn : X.cn = "law") (hD : Nat.ble 120 D = true) (hU : Nat.ble 5500 U = true) {ls : Addr} {vS : List Value} {nS : List Int} (hS : X.h₀.IsList ls vS.toArray) (hI : IntsAre vS nS) (hl : nS.length ≤ 63) :
    WS X lawScope LawQ [] [("script", .val (.ref ls))] tbs lawBody := by
  have hD' := ble_le (b := 116) hD rfl
  have hU' := ble_le (b := 5300) hU rfl
  refine lw0 hX fun d σ hd => ?_
  refine lw1 (N₀ := tbs) hX (.of (.inl rfl) .nil) (.head _) (fun q hq => ⟨.tail _ hq, hd q hq⟩) (.cons _ _ (.cons _ _ (.cons _ _ .nil))) fun lr vr nr hr hlr => ?_
  have r195 : @LT.lt Nat _ 195 lr := hlr (195, tabObj #[]) (.head _)
  have r202 : @LT.lt Nat _ 202 lr := hlr (202, tabObj #[]) (.tail _ (.tail _ (.tail _ (.tail _ (.head _)))))
  refine ws_led (N' := (44, tabObj #[]) :: (51, tabObj #[]) :: [(lr, lsO vr nr), (195, tabObj #[]), (150, tabObj #[]), (202, tabObj #[])]) (List.forall_mem_cons.mpr ⟨(.tail _ (.tail _ (.tail _ (.tail _ (.head _))))), (List.forall_mem_cons.mpr ⟨(.tail _ (.tail _ (.tail _ (.head _)))), (List.forall_mem_cons.mpr ⟨(.head _), (List.forall_mem_cons.mpr ⟨(.tail _ (.head _)), (List.forall_mem_cons.mpr ⟨(.tail _ (.tail _ (.head _))), (List.forall_mem_cons.mpr ⟨(.tail _ (.tail _ (.tail _ (.tail _ (.tail _ (.head _)))))), (List.forall_mem_nil _)⟩)⟩)⟩)⟩)⟩)⟩) (lw2 (vr := []) (nr := 0) hX hH hD' hU' hS hI hl ?n1 ?c1 ⟨_, .tail _ (.head _)⟩ fun tot c4 oc4 c5 oc5 _ hDF k4 k5 => ?_)
  case n1 => exact (List.forall_mem_cons.mpr ⟨⟨Nat.ne_of_gt (Nat.lt_trans (by decide) r195), Nat.ne_of_gt (Nat.lt_trans (by decide) r195)⟩, (List.forall_mem_cons.mpr ⟨⟨by decide, by decide⟩, (List.forall_mem_cons.mpr ⟨⟨by decide, by decide⟩, (List.forall_mem_cons.mpr ⟨⟨by decide, by decide⟩, (List.forall_mem_nil _)⟩)⟩)⟩)⟩)
  case c1 => exact (List.forall_mem_cons.mpr ⟨NoCode.lst _ _, (List.forall_mem_cons.mpr ⟨NoCode.tab0, (List.forall_mem_cons.mpr ⟨NoCode.tab0, (List.forall_mem_cons.mpr ⟨NoCode.tab0, (List.forall_mem_nil _)⟩)⟩)⟩)⟩)
  have hV : HasDiv ((((X.hide 44 (T4 c4)).hide 51 (T5 c5)).hide c4 oc4).hide c5 oc5) c4 c5 oc4 oc5 := ⟨(.tail _ (.tail _ (.tail _ (.head _)))), (.tail _ (.tail _ (.head _))), (.tail _ (.head _)), .head _, hDF⟩
  have hNN : ∀ q ∈ ((((X.hide 44 (T4 c4)).hide 51 (T5 c5)).hide c4 oc4).hide c5 oc5).hid, NotN q.2 := by
    obtain ⟨⟨v4, s4, e4, f4⟩, ⟨v5, s5, e5, f5⟩, _, _, _⟩ := hDF
    show ∀ q ∈ (c5, oc5) :: (c4, oc4) :: (51, T5 c5) :: (44, T4 c4) :: X.hid, NotN q.2
    rw [hH]
    exact (List.forall_mem_cons.mpr ⟨notN_of e5 f5 (by decide +kernel), (List.forall_mem_cons.mpr ⟨notN_of e4 f4 (by decide +kernel), (List.forall_mem_cons.mpr ⟨fun v t e => NoCode.t5 v e nameN t, (List.forall_mem_cons.mpr ⟨fun v t e => NoCode.t4 v e nameN t, (List.forall_mem_nil _)⟩)⟩)⟩)⟩)
  have hX2 : LawCl ((((X.hide 44 (T4 c4)).hide 51 (T5 c5)).hide c4 oc4).hide c5 oc5) := hX
  refine ws_led (N' := (202, tabObj #[]) :: [(lr, lsO vr nr), (195, tabObj #[]), (150, tabObj #[])]) (List.forall_mem_cons.mpr ⟨(.tail _ (.tail _ (.tail _ (.head _)))), (List.forall_mem_cons.mpr ⟨(.head _), (List.forall_mem_cons.mpr ⟨(.tail _ (.head _)), (List.forall_mem_cons.mpr ⟨(.tail _ (.tail _ (.head _))), (List.forall_mem_nil _)⟩)⟩)⟩)⟩) (lw3 (X := (((X.hide 44 (T4 c4)).hide 51 (T5 c5)).hide c4 oc4).hide c5 oc5) hX2 hC hcd hcn hD' hU' ?n2 fun l z0 z1 z2 z3 t0 t1 t2 t3 n ps tl hR hll => ?_)
  case n2 => exact (List.forall_mem_cons.mpr ⟨Nat.ne_of_gt r202, (List.forall_mem_cons.mpr ⟨by decide, (List.forall_mem_cons.mpr ⟨by decide, (List.forall_mem_nil _)⟩)⟩)⟩)
  have l195 : @LT.lt Nat _ 195 l := hll (195, tabObj #[]) (.tail _ (.head _))
  refine ws_led (N' := [(l, lsO [.int z0 t0, .int z1 t1, .int z2 t2, .int z3 t3] n), (202, tabObj ps), (lr, lsO vr nr), (195, tabObj #[]), (150, tabObj #[])]) ?m3 (lw4 hR (.head _) ?_)
  case m3 => exact (List.forall_mem_cons.mpr ⟨(.head _), (List.forall_mem_cons.mpr ⟨(.tail _ (.head _)), (List.forall_mem_cons.mpr ⟨.tail _ (.tail _ (List.mem_append_right _ (.head _))), (List.forall_mem_cons.mpr ⟨.tail _ (.tail _ (List.mem_append_right _ (.tail _ (.head _)))), (List.forall_mem_cons.mpr ⟨.tail _ (.tail _ (List.mem_append_right _ (.tail _ (.tail _ (.head _))))), (List.forall_mem_nil _)⟩)⟩)⟩)⟩)⟩)
  refine lw5 hX2 hD' hU' hR (.head _) (.tail _ (.tail _ (.head _))) hr fun lw u0 u1 u2 u3 hlw => ?_
  refine lw6 hX2 hD' hU' hR (.head _) ?_
  refine ws_led (N' := (150, tabObj #[]) :: [(195, tabObj #[]), (lw, LCg.lst [.str (cardR z0) u0, .str (cardR z1) u1, .str (cardR z2) u2, .str (cardR z3) u3]), (l, lsO [.int z0 t0, .int z1 t1, .int z2 t2, .int z3 t3] n), (lr, lsO vr nr), (202, tabObj ps)]) (List.forall_mem_cons.mpr ⟨(.tail _ (.tail _ (.tail _ (.tail _ (.tail _ (.head _)))))), (List.forall_mem_cons.mpr ⟨(.tail _ (.tail _ (.tail _ (.tail _ (.head _))))), (List.forall_mem_cons.mpr ⟨(.head _), (List.forall_mem_cons.mpr ⟨(.tail _ (.head _)), (List.forall_mem_cons.mpr ⟨(.tail _ (.tail _ (.tail _ (.head _)))), (List.forall_mem_cons.mpr ⟨(.tail _ (.tail _ (.head _))), (List.forall_mem_nil _)⟩)⟩)⟩)⟩)⟩)⟩) (lw7 hX2 hD' hU' hR ?n3 ⟨_, .head _⟩ fun L vs k tn kp ps' hL hLt h15 hv => ?_)
  case n3 => exact (List.forall_mem_cons.mpr ⟨by decide, (List.forall_mem_cons.mpr ⟨Ne.symm (hlw (150, tabObj #[]) (.tail _ (.tail _ (.tail _ (.tail _ (.head _)))))), (List.forall_mem_cons.mpr ⟨Nat.ne_of_gt (Nat.lt_trans (by decide) l195), (List.forall_mem_cons.mpr ⟨Nat.ne_of_gt (Nat.lt_trans (by decide) r195), (List.forall_mem_cons.mpr ⟨(by decide : (202 : Nat) ≠ 150), (List.forall_mem_nil _)⟩)⟩)⟩)⟩)⟩)
  have hC5 : @LT.lt Nat _ 195 L.C := hLt (195, tabObj #[]) (.head _)
  have hltR : ∀ q ∈ ([(150, tabObj ps'), (lw, LCg.lst [.str (cardR z0) u0, .str (cardR z1) u1, .str (cardR z2) u2, .str (cardR z3) u3]), (l, lsO [.int z0 t0, .int z1 t1, .int z2 t2, .int z3 t3] n), (lr, lsO vr nr), (202, tabObj ps)] : Led), @LT.lt Nat _ q.1 L.C := List.forall_mem_cons.mpr ⟨h15, fun q hq => hLt q (.tail _ hq)⟩
  have hltR5 : ∀ q ∈ (195, tabObj #[]) :: ([(150, tabObj ps'), (lw, LCg.lst [.str (cardR z0) u0, .str (cardR z1) u1, .str (cardR z2) u2, .str (cardR z3) u3]), (l, lsO [.int z0 t0, .int z1 t1, .int z2 t2, .int z3 t3] n), (lr, lsO vr nr), (202, tabObj ps)] : Led), @LT.lt Nat _ q.1 L.C := List.forall_mem_cons.mpr ⟨hC5, hltR⟩
  have hR5 : ∀ q ∈ ([(150, tabObj ps'), (lw, LCg.lst [.str (cardR z0) u0, .str (cardR z1) u1, .str (cardR z2) u2, .str (cardR z3) u3]), (l, lsO [.int z0 t0, .int z1 t1, .int z2 t2, .int z3 t3] n), (lr, lsO vr nr), (202, tabObj ps)] : Led), q.1 ≠ 195 := (List.forall_mem_cons.mpr ⟨(by decide : (150 : Nat) ≠ 195), (List.forall_mem_cons.mpr ⟨Ne.symm (hlw (195, tabObj #[]) (.tail _ (.tail _ (.tail _ (.head _))))), (List.forall_mem_cons.mpr ⟨Nat.ne_of_gt l195, (List.forall_mem_cons.mpr ⟨Nat.ne_of_gt r195, (List.forall_mem_cons.mpr ⟨(by decide : (202 : Nat) ≠ 195), (List.forall_mem_nil _)⟩)⟩)⟩)⟩)⟩)
  have h9b : B9 ((((X.hide 44 (T4 c4)).hide 51 (T5 c5)).hide c4 oc4).hide c5 oc5) L lr vr nr c4 c5 oc4 oc5 [(150, tabObj ps'), (lw, LCg.lst [.str (cardR z0) u0, .str (cardR z1) u1, .str (cardR z2) u2, .str (cardR z3) u3]), (l, lsO [.int z0 t0, .int z1 t1, .int z2 t2, .int z3 t3] n), (lr, lsO vr nr), (202, tabObj ps)] := ⟨hX2, hV, hD, hU, hL, hltR, hC5, (.tail _ (.tail _ (.tail _ (.head _)))), hr⟩
  have h9a : B9 ((((X.hide 44 (T4 c4)).hide 51 (T5 c5)).hide c4 oc4).hide c5 oc5) L lr vr nr c4 c5 oc4 oc5 ((195, tabObj #[]) :: [(150, tabObj ps'), (lw, LCg.lst [.str (cardR z0) u0, .str (cardR z1) u1, .str (cardR z2) u2, .str (cardR z3) u3]), (l, lsO [.int z0 t0, .int z1 t1, .int z2 t2, .int z3 t3] n), (lr, lsO vr nr), (202, tabObj ps)]) := ⟨hX2, hV, hD, hU, hL, hltR5, hC5, (.tail _ (.tail _ (.tail _ (.tail _ (.head _))))), hr⟩
  refine ws_led (N' := L.led vs k 1 tn [] kp ((195, tabObj #[]) :: [(150, tabObj ps'), (lw, LCg.lst [.str (cardR z0) u0, .str (cardR z1) u1, .str (cardR z2) u2, .str (cardR z3) u3]), (l, lsO [.int z0 t0, .int z1 t1, .int z2 t2, .int z3 t3] n), (lr, lsO vr nr), (202, tabObj ps)])) (Lex.sub (List.forall_mem_cons.mpr ⟨(.tail _ (.head _)), (List.forall_mem_cons.mpr ⟨(.head _), (List.forall_mem_cons.mpr ⟨(.tail _ (.tail _ (.head _))), (List.forall_mem_cons.mpr ⟨(.tail _ (.tail _ (.tail _ (.head _)))), (List.forall_mem_cons.mpr ⟨(.tail _ (.tail _ (.tail _ (.tail _ (.head _))))), (List.forall_mem_cons.mpr ⟨(.tail _ (.tail _ (.tail _ (.tail _ (.tail _ (.head _)))))), (List.forall_mem_nil _)⟩)⟩)⟩)⟩)⟩)⟩)) (lw8 hX2 hD' hU' hL hR hltR5 (.tail _ (.tail _ (.head _))) hv fun lh v0 v1 v2 v3 wL vL kL tL hlh hvL => ?_)
  refine lw9 hX2 hD' hU' hR (.tail _ (L.mem (.tail _ (.tail _ (.tail _ (.head _)))))) (.tail _ (L.mem (.tail _ (.tail _ (.tail _ (.tail _ (.head _))))))) hr (.tail _ (L.mem (.tail _ (.tail _ (.head _))))) (.head _) ?_
  refine lw10 hV hD hU hR (.tail _ (L.mem (.tail _ (.tail _ (.tail _ (.head _)))))) fun lt zH zf zx zy uH uf ux uy hT hlt => ?_
  have hltL := fun q hq => hlt q (.tail _ hq)
  have hlt5 : @LT.lt Nat _ 195 lt := hltL (195, tabObj #[]) (L.mem (.head _))
  refine ws_led (N' := [(lt, LT zH zf zx zy uH uf ux uy)] ++ L.led vL kL (1 + lineM (cardsL (tot.fdiv 17550) z0 z1 z2 z3)) tL [] kp ((195, tabObj #[]) :: [(150, tabObj ps'), (lw, LCg.lst [.str (cardR z0) u0, .str (cardR z1) u1, .str (cardR z2) u2, .str (cardR z3) u3]), (l, lsO [.int z0 t0, .int z1 t1, .int z2 t2, .int z3 t3] n), (lr, lsO vr nr), (202, tabObj ps)])) (List.forall_mem_cons.mpr ⟨.head _, fun q hq => .tail _ (.tail _ hq)⟩) (lw11 h9a hT hltL fun ws kp' hws => ?_)
  refine lw12 h9a (Lex.offLt (P := []) hltL) hws hvL fun la q0 q1 q2 q3 q4 vs2 k2 tn2 kp2 _ _ => ?_
  refine lw13 h9a hT (by rw [text_count]) ?_
  refine lw14 h9b hNN hR5 hT (Nat.ne_of_gt hlt5) fun c oc hcN => ?_
  refine lw15 hX2 hD hU (.tail _ (.tail _ (.tail _ (L.mem (.tail _ (.tail _ (.tail _ (.head _)))))))) hr hT (.tail _ (.tail _ (.head _))) ?_
  refine lw16 hV hD hU hS hI hl (fun tot2 => ?_) (.of (.inl rfl) (.of (.inl rfl) (.of (.inl rfl) (.of (.inl rfl) .nil))))
  have hcN2 : CodeN c oc (L.led vs2 k2 (1 + lineM (cardsL (tot.fdiv 17550) z0 z1 z2 z3)) tn2 [] kp2 [(150, tabObj ps'), (lw, LCg.lst [.str (cardR z0) u0, .str (cardR z1) u1, .str (cardR z2) u2, .str (cardR z3) u3]), (l, lsO [.int z0 t0, .int z1 t1, .int z2 t2, .int z3 t3] n), (lr, lsO vr nr), (202, tabObj ps)]) := ⟨hcN.d, hcN.n, fun o h => hcN.u o (.tail _ h)⟩
  have o195 : Off L 195 := by
    obtain ⟨⟨g1, g2, g3, g4, g5⟩, g6, g7, g8⟩ := hL.ord
    have d1 := Nat.lt_trans hC5 g1
    have d6 := Nat.lt_trans (Nat.lt_trans (Nat.lt_trans (Nat.lt_trans (Nat.lt_trans d1 g2) g3) g4) g5) g6
    exact ⟨Nat.ne_of_lt (Nat.lt_trans (Nat.lt_trans d6 g7) g8), Nat.ne_of_lt d1, Nat.ne_of_lt d6⟩
  refine ws_led (N' := [(195, tabN c), (c, oc)] ++ L.led vs2 k2 (1 + lineM (cardsL (tot.fdiv 17550) z0 z1 z2 z3)) tn2 [] kp2 [(150, tabObj ps'), (lw, LCg.lst [.str (cardR z0) u0, .str (cardR z1) u1, .str (cardR z2) u2, .str (cardR z3) u3]), (l, lsO [.int z0 t0, .int z1 t1, .int z2 t2, .int z3 t3] n), (lr, lsO vr nr), (202, tabObj ps)]) (List.forall_mem_cons.mpr ⟨(.head _), (List.forall_mem_cons.mpr ⟨(.tail _ (.head _)), (fun q hq => .tail _ (.tail _ (.tail _ hq)))⟩)⟩) (lw17 hD hU hL (List.forall_mem_cons.mpr ⟨o195, (List.forall_mem_cons.mpr ⟨CodeN.off (P := []) hcN2, (List.forall_mem_nil _)⟩)⟩) hltR (.tail _ (.tail _ (.tail _ (.head _)))) hr fun lsh y0 y1 y2 s0 s1 s2 sk ws2 kw hy0 hy1 hy2 hCy hlsh hw => ?_)
  refine lw18 h9b hNN hR5 hy0 hy1 hy2 hCy hcN2 hlsh hw fun N' h195 hN' => ⟨rfl, ?_⟩
  obtain ⟨ps5, m195⟩ := h195
  refine (List.forall_mem_cons.mpr ⟨⟨_, .tail _ (.tail _ (.tail _ (.tail _ m195)))⟩, (List.forall_mem_cons.mpr ⟨⟨_, .tail _ (.tail _ (.tail _ (.tail _ (hN' _ (.head _)))))⟩, (List.forall_mem_cons.mpr ⟨⟨_, (.tail _ (.head _))⟩, (List.forall_mem_cons.mpr ⟨⟨_, (.head _)⟩, (List.forall_mem_cons.mpr ⟨⟨_, .tail _ (.tail _ (.tail _ (.tail _ (hN' _ (.tail _ (.tail _ (.tail _ (.tail _ (.head _)))))))))⟩, (List.forall_mem_nil _)⟩)⟩)⟩)⟩)⟩)
end
end
section
example : PySem.Challenge.rw_uj0005_01.row.prog = PySem.Challenge.rw_uj0005_01.row.prog ∧ hd.heap_1 = hd.heap_1 := by
  k_fill
  exact ⟨rfl, rfl⟩
section
variable {w : World} {p : Program} {loose : List Str} {mean : ExcName → Option Value} {mg mb : Str → Option Value} {D U : Nat}
variable {X : Cx w p loose mean mg mb D U} {cs : Scope} {Q : FinS → Prop} {mc m : Loc} {N : Led} {en : Env} {f : Str → Option Value} {lk : Str → Option VC}
abbrev lawClL (L : Nat) : List (Str × Addr) := [("size", L + 1 + 1 + 1 + 1 + 1 + 1), ("lexer", L + 1 + 1 + 1 + 1 + 1), ("words", L + 1 + 1 + 1 + 1), ("writing", L + 1 + 1 + 1), ("hue", L + 1 + 1), ("row", L + 1)]
theorem nd6 (n : Nat) : [n + 1 + 1 + 1 + 1 + 1 + 1, n + 1 + 1 + 1 + 1 + 1, n + 1 + 1 + 1 + 1, n + 1 + 1 + 1, n + 1 + 1, n + 1].Nodup := by
  simp only [List.nodup_cons, List.mem_cons, List.not_mem_nil, or_false, not_or, not_false_eq_true, List.nodup_nil, and_true]
  omega
theorem law_br {H0 hp1 : Heap} {L0 : Nat} {a ls : Addr} {vS : List Value} {nS : List Int} {q1 q2 q3 q4 q5 q6 : Obj} {ρ : Str → Option Value} {g : Array GenState} {d : Drawn} {o : OsState} {tk1 : Nat} {Post : Flow → Shared → Prop} {E : Value → Shared → Prop}
    (X9 : (hd.heap_1 w.params).In H0) (T9 : Top p loose mean mg mb H0) (K9 : Below callerA H0 [] H0) (hcodes : CodesAt H0) (hC202 : CodeHd H0 204 202) (hlist : H0.IsList ls vS.toArray) (hI0 : IntsAre vS nS) (hlen0 : ¬ ((63 : Nat) : Int) < ((nS.length : Nat) : Int))
    (g1 : q1.data = .cell none) (g2 : q2.data = .cell none) (g3 : q3.data = .cell none) (g4 : q4.data = .cell none) (g5 : q5.data = .cell none) (g6 : q6.data = .cell none)
    (F9 : Fr H0 L0 hp1 (fun y => if y = ("script" : Str) then some (.ref ls) else ρ y)) (l0 : @LT.lt Nat _ 195 L0 ∧ @LT.lt Nat _ 150 L0 ∧ @LT.lt Nat _ 51 L0 ∧ @LT.lt Nat _ 44 L0 ∧ @LT.lt Nat _ 202 L0)
    (N9 : News H0 L0 hp1 [(L0 + 1 + 1 + 1 + 1 + 1 + 1, q6), (L0 + 1 + 1 + 1 + 1 + 1, q5), (L0 + 1 + 1 + 1 + 1, q4), (L0 + 1 + 1 + 1, q3), (L0 + 1 + 1, q2), (L0 + 1, q1), (195, tabObj #[]), (150, tabObj #[]), (51, tabObj #[]), (44, tabObj #[]), (202, tabObj #[])])
    (H : ∀ h t m, Fr H0 L0 h m → (∀ P ∈ [195, 150, 51, 44, 202], ∃ ps, h.get? P = some (tabObj ps)) → Post (.ret (.bool true)) ⟨h, g, d, t, o⟩) :
    wpAny (model PySem.Challenge.rw_uj0005_01.row.prog w) (callerA.deeper (envX "law" lawScope L0 a (.ref 204) (lawClL L0))) (execs lawBody (envX "law" lawScope L0 a (.ref 204) (lawClL L0))) Post E ⟨hp1, g, d, tk1, o⟩ := by
  let X : Cx w p loose mean mg mb 120 5500 := { dp := 2 + claimMargin, un := 7, gd := some [], cn := "law", L := L0, a := a, ccd := .ref 204, cl := lawClL L0, cnn := (by decide +kernel : [("size" : Str), "lexer", "words", "writing", "hue", "row"].Nodup), hid := [], outer := [], A₀ := callerA, base := H0, h₀ := H0, g := g, d := d, o := o, B := K9, X := X9, T := T9, hc := hcodes, hdp := by decide, hun := by decide }
  have hX : LawCl X := by
    intro x hx
    have h := List.contains_iff_mem.mp hx
    simp only [List.mem_cons, List.not_mem_nil, or_false] at h
    rcases h with rfl | rfl | rfl | rfl | rfl | rfl <;> kpf_close
  have F8 : Fr H0 L0 hp1 (Loc.at [("script", .val (.ref ls))] (fun y => if y = ("script" : Str) then 0 else 0) ρ) := by
    rw [← at_set (c := .val (.ref ls)) (k := 0) (τ := fun _ => 0)]
    exact F9
  refine wpAny_mono (law_all (X := X) hX rfl hC202 rfl rfl rfl rfl hlist hI0 (by omega) rfl _ _ hp1 tk1 E ⟨F8, fun _ _ h => (nomatch h), [(L0 + 1 + 1 + 1 + 1 + 1 + 1, q6), (L0 + 1 + 1 + 1 + 1 + 1, q5), (L0 + 1 + 1 + 1 + 1, q4), (L0 + 1 + 1 + 1, q3), (L0 + 1 + 1, q2), (L0 + 1, q1)], ⟨_, (List.append_nil _).symm, ⟨_, _, _, rfl, g6, fun _ h => (nomatch h), _, _, _, rfl, g5, fun _ h => (nomatch h), _, _, _, rfl, g4, fun _ h => (nomatch h), _, _, _, rfl, g3, fun _ h => (nomatch h), _, _, _, rfl, g2, fun _ h => (nomatch h), _, _, _, rfl, g1, fun _ h => (nomatch h), rfl⟩⟩, ?nd, newsSub N9 ?sub, ?off⟩) ?_ fun _ _ x => x
  case nd => exact nd6 L0
  case sub =>
    intro q hq
    exact (List.mem_append.mp hq).elim (fun h => .tail _ (.tail _ (.tail _ (.tail _ (.tail _ (.tail _ h)))))) fun h => (List.mem_append_left tbs h : q ∈ [(L0 + 1 + 1 + 1 + 1 + 1 + 1, q6), (L0 + 1 + 1 + 1 + 1 + 1, q5), (L0 + 1 + 1 + 1 + 1, q4), (L0 + 1 + 1 + 1, q3), (L0 + 1 + 1, q2), (L0 + 1, q1)] ++ tbs)
  case off =>
    intro q hq r hr
    have h1 : q.1 < L0 := by
      simp only [List.mem_cons, List.not_mem_nil, or_false] at hq
      rcases hq with rfl | rfl | rfl | rfl | rfl
      · exact l0.1
      · exact l0.2.1
      · exact l0.2.2.1
      · exact l0.2.2.2.1
      · exact l0.2.2.2.2
    have h2 : L0 < r.1 := by
      simp only [List.mem_cons, List.not_mem_nil, or_false] at hr
      rcases hr with rfl | rfl | rfl | rfl | rfl | rfl <;> (show L0 < _) <;> omega
    exact Nat.ne_of_lt (Nat.lt_trans h1 h2)
  intro fl s hs
  induction hs with
  | ret c k mc f N h t a' q =>
    obtain ⟨rfl, hq⟩ := q
    exact H h t _ a'.F fun P hP => (hq P hP).imp fun ps m => (a'.N _ m).1
  | next mc m N h t τ ρ a' q => exact q.elim
  | brk mc m N h t τ ρ a' q => exact q.elim
  | cont mc m N h t τ ρ a' q => exact q.elim
end
end
section
set_option maxHeartbeats 0 in
theorem law_BR : PySem.Challenge.rw_uj0005_01.Holds := hd (by
  k_go0
  rename_i hp1 tk1 q6 q5 q4 q3 q2 q1 e6 e5 e4 e3 e2 e1 X0 X9 T9 K9 F9 d1 d2 d3 d4 N9 l0
  rename Shared => s1
  rename IntsAre _ _ => hI0
  rename ¬ (_ : Int) < _ => hlen0
  have hcodes : CodesAt (ghostOf s1.heap [(199, 195), (154, 150), (55, 51), (48, 44), (204, 202)]) := ⟨d4, d3, d2, d1, codeHd⟩
  have hC202 : CodeHd (ghostOf s1.heap [(199, 195), (154, 150), (55, 51), (48, 44), (204, 202)]) 204 202 := codeHd
  have hlist := lifted
  have g1 : q1.data = .cell none := e1
  have g2 : q2.data = .cell none := e2
  have g3 : q3.data = .cell none := e3
  have g4 : q4.data = .cell none := e4
  have g5 : q5.data = .cell none := e5
  have g6 : q6.data = .cell none := e6
  clear e1 e2 e3 e4 e5 e6 X0 d1 d2 d3 d4 codeHd lifted
  generalize hH0 : ghostOf s1.heap [(199, 195), (154, 150), (55, 51), (48, 44), (204, 202)] = H0 at *
  generalize hL0 : s1.heap.objs.size = L0 at *
  refine law_br X9 T9 K9 hcodes hC202 hlist hI0 hlen0 g1 g2 g3 g4 g5 g6 F9 l0 N9 ?_
  intro h t m F hT
  exact ⟨goodW_bool F (by assumption) (fun _ => rfl) (by with_unfolding_all rfl) rfl, hT _ (.head _), hT _ (.tail _ (.head _)), hT _ (.tail _ (.tail _ (.head _))), hT _ (.tail _ (.tail _ (.tail _ (.head _)))), hT _ (.tail _ (.tail _ (.tail _ (.tail _ (.head _))))), trivial⟩)
end
end
end Mine
theorem PySem.Challenge.cw_uj0005_01_holds : PySem.Challenge.rw_uj0005_01.Holds :=
  Mine.law_BR
