import PyProof.Rows.All
import Wide.All
import OpenK.AllK
import Wide.FinOn
import PySem.Challenge.RW_ta0007_01
set_option Elab.async false
set_option maxRecDepth 100000
set_option maxHeartbeats 8000000
set_option linter.all false

section
open PySem PySem.W PyProof.Rows
namespace Mine
open_top hd for PySem.Challenge.rw_ta0007_01
end Mine
end
section
open PySem PySem.W PyProof.Rows PySem.Calls PyProof PyProof.V
namespace Mine
def apL : Nat → List UInt8
  | 0 => []
  | n + 1 => apL ((n + 1) / 16) ++ [UInt8.ofNat (65 + (n + 1) % 16)]
decreasing_by omega
theorem apL_step {n : Nat} (h : n ≠ 0) : apL n = apL (n / 16) ++ [UInt8.ofNat (65 + n % 16)] := by
  cases n with
  | zero => exact absurd rfl h
  | succ n => rw [apL]
theorem apL_zero : apL 0 = [] := by rw [apL]
theorem apL_len : ∀ (k n : Nat), n < 16 ^ k → (apL n).length ≤ k := by
  intro k
  induction k with
  | zero => intro n h; have : n = 0 := by simpa using h
            subst this; rw [apL_zero]; exact Nat.le_refl _
  | succ k ih =>
    intro n h
    by_cases h0 : n = 0
    · subst h0; rw [apL_zero]; exact Nat.zero_le _
    · rw [apL_step h0, List.length_append, List.length_singleton]
      have : n / 16 < 16 ^ k := by rw [Nat.div_lt_iff_lt_mul (by decide)]; rwa [Nat.pow_succ] at h
      have := ih _ this
      omega
abbrev apTab : Array UInt8 := #[65, 66, 67, 68, 69, 70, 71, 72, 73, 74, 75, 76, 77, 78, 79, 80]
theorem ap_pick0 : ∀ j : Fin 16, KBy.picked apTab (some (j.val : Int)) (some ((j.val : Int) + 1)) = #[UInt8.ofNat (65 + j.val)] := by decide +kernel
theorem ap_pick {k : Int} (h0 : 0 ≤ k) (h1 : k < 16) : KBy.picked apTab (some k) (some (k + 1)) = #[UInt8.ofNat (65 + k.toNat)] := by
  have := ap_pick0 ⟨k.toNat, by omega⟩
  rwa [show (((⟨k.toNat, by omega⟩ : Fin 16).val : Nat) : Int) = k from by simp only; omega] at this
/-- one turn of Int2AP's loop -/
theorem ap_turn {num : Int} {val : List UInt8} {N : Nat} (hn : 0 ≤ num) (h0 : num ≠ 0) (hv : apL num.toNat ++ val = apL N) :
    0 ≤ num.fdiv 16 ∧ apL (num.fdiv 16).toNat ++ ([UInt8.ofNat (65 + (num.fmod 16).toNat)] ++ val) = apL N ∧ (num.fdiv 16).toNat < num.toNat ∧ 0 ≤ num.fmod 16 ∧ num.fmod 16 < 16 := by
  rw [Int.fdiv_eq_ediv_of_nonneg _ (by decide), Int.fmod_eq_emod_of_nonneg _ (by decide)]
  have e1 : (num / 16).toNat = num.toNat / 16 := by omega
  have e2 : (num % 16).toNat = num.toNat % 16 := by omega
  refine ⟨by omega, ?_, by omega, by omega, by omega⟩
  rw [← hv, e1, e2, apL_step (n := num.toNat) (by omega), List.append_assoc]
end Mine
namespace Mine
/-- a text by its codes -/
abbrev txt (l : List Nat) : Str := ⟨l.toArray⟩
theorem txt_len (l : List Nat) : (txt l).length = l.length := by simp [Str.length]
/-- the sign at p, or none -/
def sgn (l : List Nat) (p : Nat) : List Nat := (l.drop p).take 1
theorem slice_sgn (l : List Nat) (p : Nat) : Txt.slice (txt l) (some (p : Int)) (some ((p : Int) + 1)) = txt (sgn l p) := by
  by_cases h : p + 1 ≤ l.length
  · have e := eq_of_beq (PyProof.Rows.slice_closes (x := txt l) (i := (p : Int)) (j := (p : Int) + 1) ⟨by omega, by omega, by show _ ≤ (((txt l).cps.toList.length : Nat) : Int); simp only [txt]; omega⟩)
    rw [e]
    simp only [txt, sgn, Int.toNat_natCast, show ((p : Int) + 1 - p).toNat = 1 by omega]
  · have hi : PySem.Builtin.Str.strSliceIndices (some (p : Int)) (some ((p : Int) + 1)) 1 (txt l).length = [] := by
      rw [txt_len]
      unfold PySem.Builtin.Str.strSliceIndices sliceRange
      simp only [show ¬ ((p : Int) < 0) by omega, show ¬ ((p : Int) + 1 < 0) by omega, if_false, show (1 : Int) > 0 by decide, if_true]
      rw [show max (0 : Int) (min (p : Int) (l.length : Int)) = l.length by omega, show max (0 : Int) (min ((p : Int) + 1) (l.length : Int)) = l.length by omega]
      simp
    unfold Txt.slice
    rw [hi]
    have hd : sgn l p = [] := by unfold sgn; rw [List.drop_of_length_le (by omega)]; rfl
    rw [hd]
    by_cases hl : l = []
    · subst hl; simp [Str.length]
    · have : (txt l).length ≠ 0 := by rw [txt_len]; exact fun h => hl (List.eq_nil_of_length_eq_zero h)
      simp only [List.length_nil, beq_self_eq_true, Bool.true_and, beq_iff_eq, Ne.symm this, if_false, List.filterMap_nil]
end Mine
namespace Mine
theorem txt_inj {a b : List Nat} (h : txt a = txt b) : a = b := by
  have := congrArg (fun z : Str => z.cps.toList) h
  simpa using this
theorem txt_eq {a b : List Nat} (h : (txt a == txt b) = true) : a = b := txt_inj (eq_of_beq h)
theorem txt_ne {a b : List Nat} (h : (txt a == txt b) = false) : a ≠ b := fun e => by subst e; simp at h
end Mine
namespace Mine
/-- white space of the lexer -/
def ws (c : Nat) : Bool := c == 10 || c == 9 || c == 13 || c == 32
def bare : List Nat → List Nat → Option (List Nat × List Nat)
  | _, [] => none
  | acc, c :: r => if ws c then some (acc, r) else if c = 92 then (match r with | [] => none | d :: r' => bare (acc ++ [d]) r') else bare (acc ++ [c]) r
def quoted : List Nat → List Nat → Option (List Nat × List Nat)
  | _, [] => none
  | acc, c :: r => if c = 34 then some (acc, r) else if c = 92 then (match r with | [] => none | d :: r' => quoted (acc ++ [d]) r') else quoted (acc ++ [c]) r
def skip : List Nat → Option (List Nat × List Nat)
  | [] => none
  | c :: r => if ws c then skip r else if c = 34 then quoted [] r else if c = 92 then (match r with | [] => none | d :: r' => bare [d] r') else bare [c] r
/-- the line number at p -/
def lnAt (l : List Nat) (p : Nat) : Int := 1 + ((l.take p).count 10 : Nat)
theorem sgn_of {l : List Nat} {p c : Nat} {r : List Nat} (h : l.drop p = c :: r) : sgn l p = [c] := by unfold sgn; rw [h]; rfl
theorem drop_next {l : List Nat} {p c : Nat} {r : List Nat} (h : l.drop p = c :: r) : l.drop (p + 1) = r := by
  rw [← List.drop_drop, h]; rfl
theorem lt_of_drop {l : List Nat} {p c : Nat} {r : List Nat} (h : l.drop p = c :: r) : p < l.length := by
  by_cases q : p < l.length
  · exact q
  · rw [List.drop_of_length_le (by omega)] at h; cases h
theorem lnAt_next {l : List Nat} {p c : Nat} {r : List Nat} (h : l.drop p = c :: r) : lnAt l (p + 1) = if sgn l p = [10] then lnAt l p + 1 else lnAt l p := by
  have e : l.take (p + 1) = l.take p ++ [c] := by
    have : l[p]? = some c := by rw [← List.head?_drop, h]; rfl
    rw [List.take_add_one, this]; rfl
  unfold lnAt
  rw [e, List.count_append, sgn_of h]
  by_cases q : c = 10
  · subst q; simp; omega
  · simp [q]
end Mine
namespace Mine
theorem ws_occ (c : Nat) : (PySem.Builtin.Str.occurrences (Str.ofString "\n\t\r ") (txt [c]) 0 (Str.ofString "\n\t\r ").length 1).isEmpty = !ws c := by
  have h := StrLaws.found_one (Str.ofString "\n\t\r ") c
  rw [show (Str.ofString "\n\t\r ").cps.toList = [10, 9, 13, 32] from by decide] at h
  have e : decide (c ∈ [10, 9, 13, 32]) = ws c := by
    unfold ws
    by_cases h1 : c = 10 <;> by_cases h2 : c = 9 <;> by_cases h3 : c = 13 <;> by_cases h4 : c = 32 <;> simp [h1, h2, h3, h4]
  rw [e] at h
  show (PySem.Builtin.Str.occurrences (Str.ofString "\n\t\r ") ⟨#[c]⟩ 0 (Str.ofString "\n\t\r ").length 1).isEmpty = !ws c
  rw [← h, Bool.not_not]
theorem txt_app (a b : List Nat) : txt a ++ txt b = txt (a ++ b) := by
  show (⟨a.toArray ++ b.toArray⟩ : Str) = ⟨(a ++ b).toArray⟩
  simp
end Mine
namespace Mine
theorem txt_eq1 {a b : Nat} (h : (txt [a] == txt [b]) = true) : a = b := (List.cons.inj (txt_eq h)).1
theorem txt_ne1 {a b : Nat} (h : (txt [a] == txt [b]) = false) : a ≠ b := fun e => txt_ne h (by rw [e])
theorem ws_yes {c : Nat} (h : (PySem.Builtin.Str.occurrences (Str.ofString "\n\t\r ") (txt [c]) 0 (Str.ofString "\n\t\r ").length 1).isEmpty = false) : ws c = true := by
  rw [ws_occ] at h; simpa using h
theorem ws_no {c : Nat} (h : (PySem.Builtin.Str.occurrences (Str.ofString "\n\t\r ") (txt [c]) 0 (Str.ofString "\n\t\r ").length 1).isEmpty = true) : ws c = false := by
  rw [ws_occ] at h; simpa using h
section
variable {acc tok r r3 : List Nat} {c : Nat}
theorem quoted_end (h : quoted acc (c :: r3) = some (tok, r)) (hc : c = 34) : acc = tok ∧ r3 = r := by
  unfold quoted at h; rw [if_pos hc] at h; simpa using h
theorem quoted_esc (h : quoted acc (c :: r3) = some (tok, r)) (h0 : c ≠ 34) (hc : c = 92) : ∃ d r4, r3 = d :: r4 ∧ quoted (acc ++ [d]) r4 = some (tok, r) := by
  unfold quoted at h; rw [if_neg h0, if_pos hc] at h
  cases r3 with
  | nil => cases h
  | cons d r4 => exact ⟨d, r4, rfl, h⟩
theorem quoted_lit (h : quoted acc (c :: r3) = some (tok, r)) (h0 : c ≠ 34) (hc : c ≠ 92) : quoted (acc ++ [c]) r3 = some (tok, r) := by
  unfold quoted at h; rwa [if_neg h0, if_neg hc] at h
theorem bare_end (h : bare acc (c :: r3) = some (tok, r)) (hc : ws c = true) : acc = tok ∧ r3 = r := by
  unfold bare at h; rw [if_pos hc] at h; simpa using h
theorem bare_esc (h : bare acc (c :: r3) = some (tok, r)) (h0 : ws c = false) (hc : c = 92) : ∃ d r4, r3 = d :: r4 ∧ bare (acc ++ [d]) r4 = some (tok, r) := by
  unfold bare at h; rw [h0, if_neg Bool.false_ne_true, if_pos hc] at h
  cases r3 with
  | nil => cases h
  | cons d r4 => exact ⟨d, r4, rfl, h⟩
theorem bare_lit (h : bare acc (c :: r3) = some (tok, r)) (h0 : ws c = false) (hc : c ≠ 92) : bare (acc ++ [c]) r3 = some (tok, r) := by
  unfold bare at h; rwa [h0, if_neg Bool.false_ne_true, if_neg hc] at h
theorem skip_ws (h : skip (c :: r3) = some (tok, r)) (hw : ws c = true) : skip r3 = some (tok, r) := by
  unfold skip at h; rwa [if_pos hw] at h
theorem skip_quo (h : skip (c :: r3) = some (tok, r)) (hw : ws c = false) (hc : c = 34) : quoted [] r3 = some (tok, r) := by
  unfold skip at h; rwa [hw, if_neg Bool.false_ne_true, if_pos hc] at h
theorem skip_esc (h : skip (c :: r3) = some (tok, r)) (hw : ws c = false) (h0 : c ≠ 34) (hc : c = 92) : ∃ d r4, r3 = d :: r4 ∧ bare [d] r4 = some (tok, r) := by
  unfold skip at h; rw [hw, if_neg Bool.false_ne_true, if_neg h0, if_pos hc] at h
  cases r3 with
  | nil => cases h
  | cons d r4 => exact ⟨d, r4, rfl, h⟩
theorem skip_lit (h : skip (c :: r3) = some (tok, r)) (hw : ws c = false) (h0 : c ≠ 34) (hc : c ≠ 92) : bare [c] r3 = some (tok, r) := by
  unfold skip at h; rwa [hw, if_neg Bool.false_ne_true, if_neg h0, if_neg hc] at h
end
end Mine
end
section
open PySem PySem.W PyProof.Rows PySem.Calls
set_option maxHeartbeats 4000000
namespace Mine

theorem any_le {α : Type} {M : Model} {A : Around} {t : Sem α} {Q : α → Shared → Prop} {E : Value → Shared → Prop} {s : Shared} {d u : Nat}
    (h : wpAny M A t Q E s) (hd : d ≤ A.depth) (hu : u ≤ A.units) : wpAny M { A with depth := d, units := u } t Q E s :=
  fun Γ p hΓ => h Γ p ⟨hΓ.1, Nat.le_trans hΓ.2.1 hd, hΓ.2.2.1, hΓ.2.2.2.1, Nat.le_trans hΓ.2.2.2.2 hu⟩

theorem code_le {M : Model} {A : Around} {c : Code} {R : Result → Shared → Prop} {s : Shared} {d u : Nat}
    (h : codeAny M A c R s) (hd : d ≤ A.depth) (hu : u ≤ A.units) : codeAny M { A with depth := d, units := u } c R s :=
  fun Γ p hc hΓ => h Γ p hc ⟨hΓ.1, Nat.le_trans hΓ.2.1 hd, hΓ.2.2.1, hΓ.2.2.2.1, Nat.le_trans hΓ.2.2.2.2 hu⟩

/-- where a call stands: the frames' facts over the ground h₀ -/
structure Here (prog : Program) (w : World) (K : Frag) (p : Program) (loose : List Str) (mean : ExcName → Option Value) (mg mb : Str → Option Value)
    (D U : Nat) (A : Around) (env : Env) (outer : List Env) (A₀ : Around) (base h₀ : Heap) (L : Addr) : Prop where
  below : Below A₀ base outer h₀
  kin : K.In h₀
  top : Top p loose mean mg mb h₀
  frames : A.frames = some (env :: outer)
  frame : env.frame = some L
  kind : env.scope.kind = .function
  handled : A.handled = none
  depth : A.depth ≤ D
  units : A.units ≤ U

def Apart (P rest : List (Addr × Obj)) : Prop := ∀ p ∈ P, ∀ q ∈ rest, p.1 ≠ q.1

/-- what a call of f with these arguments does: of the objects P it makes P', all else that stood stands -/
def Fn (prog : Program) (w : World) (K : Frag) (p : Program) (loose : List Str) (mean : ExcName → Option Value) (mg mb : Str → Option Value)
    (D U : Nat) (f : Addr) (args : List Value) (P : List (Addr × Obj)) (post : Value → List (Addr × Obj) → Prop) : Prop :=
  ∀ (A : Around) (env : Env) (outer : List Env) (A₀ : Around) (base h₀ : Heap) (L : Addr) (m : Str → Option Value) (rest : List (Addr × Obj)) (s : Shared) (R : Result → Shared → Prop),
    Here prog w K p loose mean mg mb D U A env outer A₀ base h₀ L → Fr h₀ L s.heap m → News h₀ L s.heap P → News h₀ L s.heap rest → Apart P rest →
    (∀ v P' h' tk', post v P' → Fr h₀ L h' m → News h₀ L h' P' → News h₀ L h' rest → Apart P' rest → R (.ok (.ret v)) { s with heap := h', toks := tk' }) →
    codeAny (model prog w) A (.call (.ref f) ⟨args, []⟩) R s

def retOf : Flow → Value
  | .ret v => v
  | _ => .none

/-- the end of a body -/
def Ends (g : Heap) (L : Addr) (post : Value → List (Addr × Obj) → Prop) (s : Shared) (v : Value) (s' : Shared) : Prop :=
  ∃ P' m' h' tk', s' = { s with heap := h', toks := tk' } ∧ post v P' ∧ Fr g L h' m' ∧ News g L h' P'

theorem Ends.intro {g : Heap} {L : Addr} {post : Value → List (Addr × Obj) → Prop} {s : Shared} {v : Value} {P' : List (Addr × Obj)} {m' : Str → Option Value} {h' : Heap} {tk' : Nat}
    (F : Fr g L h' m') (N : News g L h' P') (hp : post v P') : Ends g L post s v { s with heap := h', toks := tk' } := ⟨P', m', h', tk', rfl, hp, F, N⟩

section
variable {prog : Program} {w : World} {K : Frag} {p : Program} {loose : List Str} {mean : ExcName → Option Value} {mg mb : Str → Option Value} {D U : Nat}

/-- the ground under a call that may turn P alone -/
theorem ground {A A₀ : Around} {env : Env} {outer : List Env} {base h₀ : Heap} {L : Addr} {m : Str → Option Value} {P rest : List (Addr × Obj)} {s : Shared}
    (H : Here prog w K p loose mean mg mb D U A env outer A₀ base h₀ L) (F : Fr h₀ L s.heap m) (N : News h₀ L s.heap P) (N2 : News h₀ L s.heap rest) (hap : Apart P rest) :
    Below A base (env :: outer) (hideAll s.heap (P.map (·.1))) ∧ K.In (hideAll s.heap (P.map (·.1))) ∧ Top p loose mean mg mb (hideAll s.heap (P.map (·.1))) ∧
    (∀ (L' : Addr) (h' : Heap) (m' : Str → Option Value) (P' : List (Addr × Obj)), Fr (hideAll s.heap (P.map (·.1))) L' h' m' → News (hideAll s.heap (P.map (·.1))) L' h' P' →
      Fr h₀ L h' m ∧ News h₀ L h' P' ∧ News h₀ L h' rest ∧ Apart P' rest) := by
  have nm : ∀ b o, h₀.get? b = some o → b ∉ P.map (·.1) := fun b o e q => by
    obtain ⟨p, hp, rfl⟩ := List.mem_map.mp q
    rw [(N p hp).2.2] at e; cases e
  have st : h₀.StaysIn (hideAll s.heap (P.map (·.1))) := fun b o e => hideAll_get _ (F.keep b o e) (nm b o e)
  obtain ⟨oL, es, ep, hL, hLd, hLk, hLf⟩ := F.ns
  have nL : L ∉ P.map (·.1) := fun q => by
    obtain ⟨p, hp, e⟩ := List.mem_map.mp q
    exact (N p hp).2.1 e
  have hLg := hideAll_get (P.map (·.1)) hL nL
  have B₁ := pushX H.below F H.frame H.kind
  refine ⟨⟨H.frames, fun b o e => st b o (H.below.stays b o e), funFrames_hideAll B₁.frames fun env' he b hb hf' => ?_⟩, H.kin.keeps st, H.top.keeps st, fun L' h' m' P' F' N' => ?_⟩
  · cases he with
    | head => exact nL ((Option.some.inj (H.frame.symm.trans hf') : L = b) ▸ hb)
    | tail _ he =>
      obtain ⟨L₁, o₁, hf₁, ho₁⟩ := funFrames_in H.below.frames env' he
      rw [hf₁] at hf'
      exact nm L₁ o₁ ho₁ ((Option.some.inj hf' : L₁ = b) ▸ hb)
  · have hr : ∀ q ∈ rest, (hideAll s.heap (P.map (·.1))).get? q.1 = some q.2 := fun q hq => hideAll_get _ (N2 q hq).1 fun hm => by
      obtain ⟨p, hp, e⟩ := List.mem_map.mp hm
      exact hap p hp q hq e
    refine ⟨⟨⟨oL, es, ep, F'.keep L oL hLg, hLd, hLk, hLf⟩, fun b o e => F'.keep b o (st b o e), F.above⟩, fun p hp => ⟨(N' p hp).1, fun q => ?_, ?_⟩, fun q hq => ⟨F'.keep _ _ (hr q hq), (N2 q hq).2⟩, fun p hp q hq e => ?_⟩
    · have := (N' p hp).2.2; rw [q, hLg] at this; cases this
    · cases q : h₀.get? p.1 with
      | none => rfl
      | some o => have := (N' p hp).2.2; rw [st _ _ q] at this; cases this
    · have := (N' p hp).2.2; rw [e, hr q hq] at this; cases this

/-- a def without cells, its body shown once -/
theorem Fn.plain {f : Addr} {args : List Value} {P : List (Addr × Obj)} {post : Value → List (Addr × Obj) → Prop} {name qual : Str} {params : Arguments} {body : List Stmt} {scope : Scope}
    {dV kV doc pm cdv ct oc : Value} {an od : Option Addr} {osl : Array (Option Value)} {binds : List (Str × Value)}
    (ho : K.lookup f = some ⟨oc, od, .func (fnOf name qual params body scope dV kV doc pm an cdv ct), osl⟩) (hcd : codeIn K cdv qual = true)
    (hbind : ∀ s, BindsTo s (fnOf name qual params body scope dV kV doc pm an cdv ct) ⟨args, []⟩ binds) (hloc : ∀ y ∈ binds, scope.names.lookup y.1 = some .local)
    (h : ∀ (gd : Option (List Code)) (outer : List Env) (A₀ : Around) (base g : Heap) (L : Addr) (s : Shared),
      Below A₀ base outer g → K.In g → Top p loose mean mg mb g → Fr g L s.heap (fun y => binds.reverse.lookup y) → News g L s.heap P → (∀ p ∈ P, p.1 < L) →
      wpAny (model prog w) (ktrTop (D + 1) (U + 3) gd qual scope L f cdv [] outer) (execs body (envOf qual scope L f cdv)) (fun fl s' => Ends g L post s (retOf fl) s') (fun _ _ => False) s)
    (hD : D < recursionLimit) (hco : scope.isCoroutine = false) (hgen : scope.isGenerator = false) (hk : scope.kind = .function) (hcell : ∀ x ∈ scope.names, x.2 ≠ .cell) :
    Fn prog w K p loose mean mg mb D U f args P post := by
  intro A env outer A₀ base h₀ L m rest s R H F N N2 hap k
  obtain ⟨BG, KG, TG, back⟩ := ground H F N N2 hap
  have hA : A = { handled := none, depth := A.depth, frames := some (env :: outer), guards := A.guards, units := A.units } := by
    obtain ⟨a, b, c, d, e⟩ := A
    have h1 := H.frames
    have h2 := H.handled
    simp only at h1 h2
    subst h1 h2
    rfl
  have up : codeAny (model prog w) { handled := none, depth := D, frames := some (env :: outer), guards := A.guards, units := U } (.call (.ref f) ⟨args, []⟩) R s := by
    refine codeAny_call_def (fd := fnX name qual params body scope [] dV kV doc pm an cdv ct) (body := body) (binds := binds) hD (H.kin.keeps F.keep f _ ho) rfl (H.top.nolimit.keeps F.keep) (codeRec_of (H.kin.keeps F.keep) hcd) rfl (hbind _) hcell hloc (fun h₁ hns hk₁ => ?_) hco hgen hk
    refine wpAny_mono (h A.guards (env :: outer) A base (hideAll s.heap (P.map (·.1))) s.heap.objs.size { s with heap := h₁, toks := s.toks + binds.length } BG KG TG ⟨hns, fun b o e => hk₁ b o (of_hideAll _ e), Nat.le_of_eq (hideAll_size _ _)⟩
      (fun p hp => ⟨hk₁ _ _ (N p hp).1, Nat.ne_of_lt (Heap.lt_size (N p hp).1), hideAll_none _ (List.mem_map_of_mem hp)⟩) (fun p hp => Heap.lt_size (N p hp).1)) (fun fl s' hl => ?_) fun _ _ y => y.elim
    obtain ⟨P', m', h', tk', rfl, hp, F', N'⟩ := hl
    obtain ⟨F2, N3, N4, hap2⟩ := back _ _ _ _ F' N'
    have := k _ _ _ tk' hp F2 N3 N4 hap2
    cases fl <;> exact this
  rw [hA]
  exact code_le up H.depth H.units
end
end Mine
namespace Mine
structure Stop (P : Prop) : Prop where
  out : P
theorem stop {P : Prop} (h : Stop P) : P := h.out
end Mine
end
section
open PySem PySem.W PyProof.Rows PySem.Calls
set_option maxHeartbeats 4000000
namespace Mine

abbrev FalseE : Value → Shared → Prop := fun _ _ => False

/-- a namespace's object -/
def NsObj (o : Obj) (m : Str → Option Value) : Prop := ∃ es ep, o.data = .dict es ep ∧ StrKeys es ∧ ∀ name, nsFind es name = m name
theorem NsObj.ns {o : Obj} {m : Str → Option Value} {h : Heap} {a : Addr} (x : NsObj o m) (e : h.get? a = some o) : h.Ns a m :=
  let ⟨es, ep, q⟩ := x; ⟨o, es, ep, e, q⟩
theorem NsObj.of {m : Str → Option Value} {h : Heap} {a : Addr} (x : h.Ns a m) : ∃ o, h.get? a = some o ∧ NsObj o m :=
  let ⟨o, es, ep, e, q⟩ := x; ⟨o, e, es, ep, q⟩

/-- what a turn leaves -/
def LedEnd {σ : Type} (h₀ : Heap) (L : Addr) (s : Shared) (Led : σ → List (Addr × Obj)) (ps : σ → List (Str × Value)) (stored : List Str) (m₀ : Str → Option Value) (P : σ → Prop) (s₂ : Shared) : Prop :=
  ∃ (c' : σ) (h' : Heap) (tk : Nat) (m' : Str → Option Value) (news' : List (Addr × Obj)), s₂ = { s with heap := h', toks := tk } ∧ Fr h₀ L h' m' ∧ News h₀ L h' news' ∧ (∀ p ∈ Led c', p ∈ news') ∧ (∀ p ∈ ps c', m' p.1 = some p.2) ∧
    (∀ z, (∀ p ∈ ps c', z ≠ p.1) → stored.contains z = false → m' z = m₀ z) ∧ P c'
theorem LedEnd.intro {σ : Type} {h₀ : Heap} {L : Addr} {s : Shared} {Led : σ → List (Addr × Obj)} {ps : σ → List (Str × Value)} {stored : List Str} {m₀ m' : Str → Option Value} {P : σ → Prop} {h' : Heap} {tk : Nat} {news' : List (Addr × Obj)} (c' : σ)
    (F : Fr h₀ L h' m') (N : News h₀ L h' news') (hn : ∀ p ∈ Led c', p ∈ news') (hk : ∀ p ∈ ps c', m' p.1 = some p.2) (hr : ∀ z, (∀ p ∈ ps c', z ≠ p.1) → stored.contains z = false → m' z = m₀ z) (hp : P c') :
    LedEnd h₀ L s Led ps stored m₀ P { s with heap := h', toks := tk } := ⟨c', h', tk, m', news', rfl, F, N, hn, hk, hr, hp⟩

def ForPost {σ : Type} (h₀ : Heap) (L : Addr) (s : Shared) (Led : σ → List (Addr × Obj)) (ps : σ → List (Str × Value)) (stored : List Str) (m₀ : Str → Option Value) (P : σ → Prop) (Q : Flow → Shared → Prop) (f : Flow) (s₂ : Shared) : Prop :=
  match f with
  | .ret v => Q (.ret v) s₂
  | .brk => Q .next s₂
  | .next => LedEnd h₀ L s Led ps stored m₀ P s₂
  | .cont => LedEnd h₀ L s Led ps stored m₀ P s₂

section
variable {prog : Program} {w : World} {A : Around} {Q : Flow → Shared → Prop} {s : Shared} {env : Env} {h₀ : Heap} {L : Addr}

/-- one turn's draw -/
def ForTurn {σ : Type} (prog : Program) (w : World) (A : Around) (env : Env) (target : Expr) (body : List Stmt) (h₀ : Heap) (L : Addr) (s : Shared) (Led : σ → List (Addr × Obj)) (ps : σ → List (Str × Value)) (stored : List Str) (m₀ : Str → Option Value) (P : σ → Prop) (Q : Flow → Shared → Prop) (r : Option Value) (s₁ : Shared) : Prop :=
  match r with
  | none => Q .next s₁
  | some v => wpAny (model prog w) A (assign target env v) (fun _ s₂ => wpAny (model prog w) A (execs body env) (ForPost h₀ L s Led ps stored m₀ P Q) FalseE s₂) FalseE s₁

/-- a for by its state; the measure stands in the word -/
theorem for_led {σ : Type} {target : Expr} {it : Value} {body : List Stmt} {m₀ : Str → Option Value} {E : Value → Shared → Prop} (Led : σ → List (Addr × Obj)) (ps : σ → List (Str × Value)) (stored : List Str) (P : Nat → σ → Prop) (n₀ : Nat) (c₀ : σ)
    (F : Fr h₀ L s.heap m₀) (N : News h₀ L s.heap (Led c₀)) (hk : ∀ p ∈ ps c₀, m₀ p.1 = some p.2) (hp : P n₀ c₀)
    (turn : ∀ (n : Nat) (c : σ) (u : Str → Option Value) h tk, P n c → Fr h₀ L h (kstB (fun z => if stored.contains z then u z else m₀ z) (ps c)) → News h₀ L h (Led c) →
      wpAny (model prog w) A (pyNext it) (ForTurn prog w A env target body h₀ L s Led ps stored m₀ (fun c' => ∃ n', n' < n ∧ P n' c') Q) FalseE { s with heap := h, toks := tk })
    (ht : ∀ v, letOwnedTupleGo target it v = pure () := by intro _; rfl) :
    codeAny (model prog w) A (.forLoop target it body [] env) (fun r s' => match r with | .ok f => Q f s' | .error e => cameBackBy (model prog w) A env E e s') s := by
  refine codeAny_forLoop (fun n s' => ∃ (c : σ) (h : Heap) (tk : Nat) (m : Str → Option Value), s' = { s with heap := h, toks := tk } ∧ Fr h₀ L h m ∧ News h₀ L h (Led c) ∧ (∀ p ∈ ps c, m p.1 = some p.2) ∧
    (∀ z, (∀ p ∈ ps c, z ≠ p.1) → stored.contains z = false → m z = m₀ z) ∧ P n c) ?_ n₀ ⟨c₀, s.heap, s.toks, m₀, rfl, F, N, hk, fun _ _ _ => rfl, hp⟩ ht
  rintro n s' ⟨c, h, tk, m, rfl, F₁, N₁, h1, h2, hp₁⟩
  refine wpAny_mono (turn n c m h tk hp₁ (ksw_fr h1 h2 F₁) N₁) (fun r s₁ hr => ?_) fun _ _ e => e.elim
  cases r with
  | none => exact wpAny_execs_nil hr
  | some v =>
    refine wpAny_mono hr (fun _ s₂ h₂ => wpAny_mono h₂ (fun f s₃ h₃ => ?_) fun _ _ e => e.elim) fun _ _ e => e.elim
    cases f with
    | next =>
      obtain ⟨c', h', tk', m', news', rfl, F', N', hn, hk', hr', n', hlt, hp'⟩ := h₃
      exact ⟨n', hlt, c', h', tk', m', rfl, F', fun p hp => N' p (hn p hp), hk', hr', hp'⟩
    | cont =>
      obtain ⟨c', h', tk', m', news', rfl, F', N', hn, hk', hr', n', hlt, hp'⟩ := h₃
      exact ⟨n', hlt, c', h', tk', m', rfl, F', fun p hp => N' p (hn p hp), hk', hr', hp'⟩
    | brk => exact h₃
    | ret v => exact h₃
end

/-- neither the block's own names nor its list lie in P -/
def Off (C D : Addr) (P : List (Addr × Obj)) : Prop := ∀ p ∈ P, p.1 ≠ C ∧ p.1 ≠ D

section
variable {prog : Program} {w : World} {A : Around} {E : Value → Shared → Prop} {Q : Value → Shared → Prop} {s : Shared} {env : Env} {h₀ : Heap} {L : Addr} {m : Str → Option Value}
  {elt iter : Expr} {x : Str} {px : Pos} {ifs : List Expr} {scope : Scope} {cl : List (Str × Addr)} {pos : Pos}

/-- the block behind its iterator -/
def CompAt (prog : Program) (w : World) (A : Around) (env : Env) (elt iter : Expr) (x : Str) (px : Pos) (ifs : List Expr) (scope : Scope) (cl : List (Str × Addr)) (pos : Pos) (E : Value → Shared → Prop) (Q : Value → Shared → Prop) (it : Value) (s₂ : Shared) : Prop :=
  wpAny (model prog w) A (newList []) (fun acc s₃ => wpAny (model prog w) A (newFunctionEnv scope env.globals cl [] env.qual none .none (some env)) (fun cenv s₄ =>
    codeAny (model prog w) A (.compStart (.ListComp elt [⟨.Name x px, iter, ifs, 0⟩] scope pos) 0 it acc { cenv with scope := relabel scope env }) (compPost (model prog w) A E none Q acc cenv.locals) s₄) E s₃) E s₂

theorem comp_open (hclos : closureFor scope env = pure cl) (hkind : scope.kind = .function) (hnames : ∀ y ∈ scope.names, y.2 = .local → scope.names.lookup y.1 = some .local)
    (h : wpAny (model prog w) A (eval iter env) (fun xv s₁ => wpAny (model prog w) A (pyIter xv) (fun it s₂ => CompAt prog w A env elt iter x px ifs scope cl pos E Q it s₂) E s₁) E s)
    (hs : ∀ x, foldedSetIterable iter env x = pure x) :
    wpAny (model prog w) A (eval (.ListComp elt [⟨.Name x px, iter, ifs, 0⟩] scope pos) env) Q E s := by
  rw [eval_ListComp]
  exact wpAny_comprehension_free (use := none) rfl hs hclos hkind hnames h

abbrev testsOf (ifs : List Expr) (cenv : Env) : Sem Bool := forIn ifs true fun c r => if r = true then do let ok ← isTrue c cenv (eval c cenv); pure (ForInStep.yield ok) else pure (ForInStep.yield r)

/-- what an element leaves -/
def CompEnd {σ : Type} (h₀ : Heap) (L : Addr) (m : Str → Option Value) (s : Shared) (keep : List (Addr × Obj)) (C D : Addr) (Led : σ → List (Addr × Obj)) (P : σ → Prop) (s₂ : Shared) : Prop :=
  ∃ (c' : σ) (h' : Heap) (tk : Nat) (news' : List (Addr × Obj)), s₂ = { s with heap := h', toks := tk } ∧ Fr h₀ L h' m ∧ News h₀ L h' news' ∧ (∀ p ∈ keep, p ∈ news') ∧ (∀ p ∈ Led c', p ∈ news') ∧ Off C D (Led c') ∧ P c'
theorem CompEnd.intro {σ : Type} {h₀ : Heap} {L : Addr} {m : Str → Option Value} {s : Shared} {keep : List (Addr × Obj)} {C D : Addr} {Led : σ → List (Addr × Obj)} {P : σ → Prop} {h' : Heap} {tk : Nat} {news' : List (Addr × Obj)} (c' : σ)
    (F : Fr h₀ L h' m) (N : News h₀ L h' news') (hk : ∀ p ∈ keep, p ∈ news') (hn : ∀ p ∈ Led c', p ∈ news') (ho : Off C D (Led c')) (hp : P c') :
    CompEnd h₀ L m s keep C D Led P { s with heap := h', toks := tk } := ⟨c', h', tk, news', rfl, F, N, hk, hn, ho, hp⟩

def CompTurn {σ : Type} (h₀ : Heap) (L : Addr) (m : Str → Option Value) (s : Shared) (keep : List (Addr × Obj)) (C D : Addr) (Led : σ → List (Addr × Obj)) (Fin : σ → Prop) (Mid : Value → σ → Prop) (r : Option Value) (s₁ : Shared) : Prop :=
  match r with
  | none => CompEnd h₀ L m s keep C D Led Fin s₁
  | some v => CompEnd h₀ L m s keep C D Led (Mid v) s₁
end
end Mine
end
section
open PySem PySem.W PyProof.Rows PySem.Calls
set_option maxHeartbeats 4000000
namespace Mine
section
variable {prog : Program} {w : World} {K : Frag} {p : Program} {loose : List Str} {mean : ExcName → Option Value} {mg mb : Str → Option Value} {D U : Nat}

/-- a def with cells, its body shown once -/
theorem Fn.cells {f : Addr} {args : List Value} {P : List (Addr × Obj)} {post : Value → List (Addr × Obj) → Prop} {name qual : Str} {params : Arguments} {body : List Stmt} {scope : Scope}
    {dV kV doc pm cdv ct oc : Value} {an od : Option Addr} {osl : Array (Option Value)} {binds : List (Str × Value)}
    (ho : K.lookup f = some ⟨oc, od, .func (fnOf name qual params body scope dV kV doc pm an cdv ct), osl⟩) (hcd : codeIn K cdv qual = true)
    (hbind : ∀ s, BindsTo s (fnOf name qual params body scope dV kV doc pm an cdv ct) ⟨args, []⟩ binds)
    (hkind : (binds.all fun y => scope.names.lookup y.1 == some .local || scope.names.lookup y.1 == some .cell) = true) (hnd : ((cellsFrom 0 scope.names []).map (·.1)).Nodup)
    (h : ∀ (gd : Option (List Code)) (outer : List Env) (A₀ : Around) (base g : Heap) (L : Addr) (s : Shared) (cells : List (Addr × Obj)),
      Below A₀ base outer g → K.In g → Top p loose mean mg mb g → Fr g L s.heap (bindL (envOfC qual scope L f cdv).kindOf binds fun _ => none) → News g L s.heap (cells ++ P) →
      CellsAre (bindC (envOfC qual scope L f cdv).kindOf binds fun _ => none) (cellsFrom (L + 1) scope.names []) cells → (∀ p ∈ P, p.1 < L) →
      wpAny (model prog w) (ktrTop (D + 1) (U + 3) gd qual scope L f cdv (cellsFrom (L + 1) scope.names []) outer) (execs body (envOfC qual scope L f cdv)) (fun fl s' => Ends g L post s (retOf fl) s') (fun _ _ => False) s)
    (hD : D < recursionLimit) (hco : scope.isCoroutine = false) (hgen : scope.isGenerator = false) (hk : scope.kind = .function) :
    Fn prog w K p loose mean mg mb D U f args P post := by
  intro A env outer A₀ base h₀ L m rest s R H F N N2 hap k
  obtain ⟨BG, KG, TG, back⟩ := ground H F N N2 hap
  have hA : A = { handled := none, depth := A.depth, frames := some (env :: outer), guards := A.guards, units := A.units } := by
    obtain ⟨a, b, c, d, e⟩ := A
    have h1 := H.frames
    have h2 := H.handled
    simp only at h1 h2
    subst h1 h2
    rfl
  have up : codeAny (model prog w) { handled := none, depth := D, frames := some (env :: outer), guards := A.guards, units := U } (.call (.ref f) ⟨args, []⟩) R s := by
    refine codeAny_call_function hD (H.kin.keeps F.keep f _ ho) rfl hco hgen rfl (codeRec_of (H.kin.keeps F.keep) hcd) (hbind _ _ _ _ _ ?_)
    refine wpAny_newFunctionEnv_cells hk (kindsX hkind _) fun env' he s' x => ?_
    subst he
    refine ⟨((H.top.nolimit).keeps F.keep).keeps x.toInCall.keep, codeAny_func ?_⟩
    obtain ⟨h₁, tk, rfl, _⟩ := x.done
    have hk₁ := x.toInCall.keep
    obtain ⟨cells, NC, Y⟩ := Cl.news (h₀ := s.heap) (Nat.le_refl _) fun n c hm => ⟨x.cell n c (lookup_of_mem_nodup (cellsFrom_names scope.names 0 (s.heap.objs.size + 1) [] [] rfl ▸ hnd) hm), x.above n c hm⟩
    refine wpAny_mono (h A.guards (env :: outer) A base (hideAll s.heap (P.map (·.1))) s.heap.objs.size { s with heap := h₁, toks := tk } cells BG KG TG ⟨x.toInCall.ns, fun b o e => hk₁ b o (of_hideAll _ e), Nat.le_of_eq (hideAll_size _ _)⟩
      (fun p hp => ?_) Y (fun p hp => Heap.lt_size (N p hp).1)) (fun fl s' hl => ?_) fun _ _ y => y.elim
    · rcases List.mem_append.mp hp with hp | hp
      · refine ⟨(NC p hp).1, (NC p hp).2.1, ?_⟩
        cases q : (hideAll s.heap (P.map (·.1))).get? p.1 with
        | none => rfl
        | some o => have := of_hideAll _ q; rw [(NC p hp).2.2] at this; cases this
      · exact ⟨hk₁ _ _ (N p hp).1, Nat.ne_of_lt (Heap.lt_size (N p hp).1), hideAll_none _ (List.mem_map_of_mem hp)⟩
    · obtain ⟨P', m', h', tk', rfl, hp, F', N'⟩ := hl
      obtain ⟨F2, N3, N4, hap2⟩ := back _ _ _ _ F' N'
      have := k _ _ _ tk' hp F2 N3 N4 hap2
      cases fl <;> exact this
  rw [hA]
  exact code_le up H.depth H.units

/-- a def that the call has made, its object and its code in P -/
theorem Fn.made {f : Addr} {args : List Value} {P : List (Addr × Obj)} {post : Value → List (Addr × Obj) → Prop} {name qual : Str} {params : Arguments} {body : List Stmt} {scope : Scope}
    {cl : List (Str × Addr)} {doc pm ctv : Value} {c' : Addr} {oc : Obj} {vs : Array Value} {tq : Tok} {binds : List (Str × Value)}
    (ho : (f, fnMade name qual params body scope cl doc pm c' ctv) ∈ P) (hc : (c', oc) ∈ P) (hcd : oc.data = .fields vs) (hcv : vs[1]? = some (.str qual tq))
    (hbind : ∀ s, BindsTo s (fnX name qual params body scope cl .none .none doc pm none (.ref c') ctv) ⟨args, []⟩ binds) (hloc : ∀ y ∈ binds, scope.names.lookup y.1 = some .local)
    (h : ∀ (gd : Option (List Code)) (outer : List Env) (A₀ : Around) (base g : Heap) (L : Addr) (s : Shared),
      Below A₀ base outer g → K.In g → Top p loose mean mg mb g → Fr g L s.heap (fun y => binds.reverse.lookup y) → News g L s.heap P → (∀ p ∈ P, p.1 < L) →
      wpAny (model prog w) (ktrTop (D + 1) (U + 3) gd qual scope L f (.ref c') cl outer) (execs body (envX qual scope L f (.ref c') cl)) (fun fl s' => Ends g L post s (retOf fl) s') (fun _ _ => False) s)
    (hD : D < recursionLimit) (hco : scope.isCoroutine = false) (hgen : scope.isGenerator = false) (hk : scope.kind = .function) (hcell : ∀ x ∈ scope.names, x.2 ≠ .cell) :
    Fn prog w K p loose mean mg mb D U f args P post := by
  intro A env outer A₀ base h₀ L m rest s R H F N N2 hap k
  obtain ⟨BG, KG, TG, back⟩ := ground H F N N2 hap
  have hA : A = { handled := none, depth := A.depth, frames := some (env :: outer), guards := A.guards, units := A.units } := by
    obtain ⟨a, b, c, d, e⟩ := A
    have h1 := H.frames
    have h2 := H.handled
    simp only at h1 h2
    subst h1 h2
    rfl
  have up : codeAny (model prog w) { handled := none, depth := D, frames := some (env :: outer), guards := A.guards, units := U } (.call (.ref f) ⟨args, []⟩) R s := by
    refine codeAny_call_def (fd := fnX name qual params body scope cl .none .none doc pm none (.ref c') ctv) (body := body) (binds := binds) hD (N _ ho).1 rfl (H.top.nolimit.keeps F.keep) (codeRec_news N hc hcd hcv) rfl (hbind _) hcell hloc (fun h₁ hns hk₁ => ?_) hco hgen hk
    refine wpAny_mono (h A.guards (env :: outer) A base (hideAll s.heap (P.map (·.1))) s.heap.objs.size { s with heap := h₁, toks := s.toks + binds.length } BG KG TG ⟨hns, fun b o e => hk₁ b o (of_hideAll _ e), Nat.le_of_eq (hideAll_size _ _)⟩
      (fun p hp => ⟨hk₁ _ _ (N p hp).1, Nat.ne_of_lt (Heap.lt_size (N p hp).1), hideAll_none _ (List.mem_map_of_mem hp)⟩) (fun p hp => Heap.lt_size (N p hp).1)) (fun fl s' hl => ?_) fun _ _ y => y.elim
    obtain ⟨P', m', h', tk', rfl, hp, F', N'⟩ := hl
    obtain ⟨F2, N3, N4, hap2⟩ := back _ _ _ _ F' N'
    have := k _ _ _ tk' hp F2 N3 N4 hap2
    cases fl <;> exact this
  rw [hA]
  exact code_le up H.depth H.units
end
end Mine
namespace Mine
theorem Ends.sub {g : Heap} {L : Addr} {post : Value → List (Addr × Obj) → Prop} {s : Shared} {v : Value} {P' news' : List (Addr × Obj)} {m' : Str → Option Value} {h' : Heap} {tk' : Nat}
    (F : Fr g L h' m') (N : News g L h' news') (hs : ∀ p ∈ P', p ∈ news') (hp : post v P') : Ends g L post s v { s with heap := h', toks := tk' } := ⟨P', m', h', tk', rfl, hp, F, fun p h => N p (hs p h)⟩
end Mine
end
section
open PySem PySem.W PyProof.Rows PySem.Calls PySem.Flt
set_option maxHeartbeats 4000000
namespace Mine
def IsFnObj (h : Heap) (a D : Addr) (md : Str → Option Value) : Prop := (∃ fd sl, h.get? a = some { cls := .type "function", dict := some D, data := .func fd, slots := sl }) ∧ h.Ns D md
theorem lk_fn_getattr : typeLookup (.type "function") "__getattr__" = pure none := by rw [typeLookup_type, builtinLookup_eq_fast]; kernel_rfl
theorem lk_fn_read : typeLookup (.type "function") "read" = pure none := by rw [typeLookup_type, builtinLookup_eq_fast]; kernel_rfl
theorem slot_fn_ga : Slot "function" "__getattribute__" "object.__getattribute__" :=
  .of (owner := "object") (n := "__getattribute__") (by rw [typeLookup_type, builtinLookup_eq_fast]; kernel_rfl) (by decide +kernel) (by decide +kernel) (by decide +kernel)
    (by first | exact .inl (by decide +kernel) | exact .inr (by decide +kernel)) (by rw [isSubtype_type]; kernel_rfl)
theorem slot_fn_sa : Slot "function" "__setattr__" "object.__setattr__" :=
  .of (owner := "object") (n := "__setattr__") (by rw [typeLookup_type, builtinLookup_eq_fast]; kernel_rfl) (by decide +kernel) (by decide +kernel) (by decide +kernel)
    (by first | exact .inl (by decide +kernel) | exact .inr (by decide +kernel)) (by rw [isSubtype_type]; kernel_rfl)
theorem canon_obj_ga : (Manifest.canonical "object.__getattribute__" != "object.__getattribute__") = false := by decide +kernel
theorem sub_fn_static : isSubtype (.type "function") (.type "staticmethod") = pure false := by rw [isSubtype_type]; kernel_rfl
theorem sub_fn_classm : isSubtype (.type "function") (.type "classmethod") = pure false := by rw [isSubtype_type]; kernel_rfl
section
variable {prog : Program} {w : World} {A : Around} {E : Value → Shared → Prop} {h : Heap} {g : Array GenState} {d : Drawn} {t : Nat} {os : OsState} {a D : Addr} {md : Str → Option Value}

theorem fn_object_entry {name : Str} {tk : Tok} {v : Value} {Q : Fin → Shared → Prop} (hm : IsFnObj h a D md) (hnm : typeLookup (.type "function") name = pure none) (hv : md name = some v)
    (hq : Q (.done (.ret v)) ⟨h, g, d, t, os⟩) : wpAny (model prog w) A (Builtin.«object.__getattribute__» ⟨[.ref a, .str name tk], []⟩) Q E ⟨h, g, d, t, os⟩ := by
  obtain ⟨⟨fd, sl, hM⟩, hD⟩ := hm
  have hT : (⟨h, g, d, t, os⟩ : Shared).TypeIs (.ref a) "function" := ⟨_, hM, rfl⟩
  have f1 := sub_fn_static
  have f2 := sub_fn_classm
  repeat (any_goals (first | assumption | with_reducible apply wpAny_nsGet_known | with_reducible apply wpAny_loadPart_known | wp_step))

theorem getAttr_fn {name : Str} {v : Value} {ex : Bool} {Q : Value → Shared → Prop} (hm : IsFnObj h a D md) (hnm : typeLookup (.type "function") name = pure none) (hv : md name = some v)
    (hh : handedOut v = pure v) (hq : Q v ⟨h, g, d, t + 1, os⟩) : wpAny (model prog w) A (getAttr (.ref a) name ex) Q E ⟨h, g, d, t, os⟩ := by
  have hm' := hm
  obtain ⟨⟨fd, sl, hM⟩, hD⟩ := hm'
  have hT : (⟨h, g, d, t, os⟩ : Shared).TypeIs (.ref a) "function" := ⟨_, hM, rfl⟩
  have hT1 : (⟨h, g, d, t + 1, os⟩ : Shared).TypeIs (.ref a) "function" := ⟨_, hM, rfl⟩
  have f1 := slot_fn_ga.lookup
  have f2 := lk_fn_getattr
  have f4 := slot_fn_ga.bind (.ref a)
  cases ex
  all_goals (
    repeat (any_goals (first | assumption | (rw [if_neg (show ¬ (onTheHeap (Value.type "function") && Value.builtin "object.__getattribute__" == Value.builtin "object.__getattribute__") = true by decide)]) | wp_step))
    refine codeAny_call_builtin slot_fn_ga.plain F.entry_object_getattribute (slot_fn_ga.check _ _ _ _ _ _ _ _ hT1 (F.args_object_getattribute_2 _ _) (fn_object_entry hm hnm hv ?_))
    repeat (any_goals (first | assumption | wp_step)))

theorem getMethod_fn {name : Str} {v : Value} {pl : Sem Bool} {Q : Value × List Value → Shared → Prop} (hm : IsFnObj h a D md) (hnm : typeLookup (.type "function") name = pure none) (hv : md name = some v)
    (hh : handedOut v = pure v) (hq : Q (v, []) ⟨h, g, d, t + 1, os⟩) : wpAny (model prog w) A (getMethod (.ref a) name pl) Q E ⟨h, g, d, t, os⟩ := by
  have hm' := hm
  obtain ⟨⟨fd, sl, hM⟩, hD⟩ := hm'
  have hT : (⟨h, g, d, t, os⟩ : Shared).TypeIs (.ref a) "function" := ⟨_, hM, rfl⟩
  have hT1 : (⟨h, g, d, t + 1, os⟩ : Shared).TypeIs (.ref a) "function" := ⟨_, hM, rfl⟩
  have f1 := slot_fn_ga.lookup
  have f2 := lk_fn_getattr
  unfold getMethod
  refine wpAny_bind (wpAny_specialOf hT f1 ?_)
  show wpAny _ A (if (Manifest.canonical "object.__getattribute__" != "object.__getattribute__") = true then _ else _) Q E _
  rw [canon_obj_ga, if_neg Bool.false_ne_true]
  refine wpAny_bind (wpAny_specialOf hT f2 ?_)
  rw [if_neg (by simp)]
  refine wpAny_bind (wpAny_specialOf hT hnm ?_)
  exact wpAny_bind (getAttr_fn hm hnm hv hh (wpAny_pure hq))
end
end Mine
end
section
open PySem PySem.W PyProof.Rows PySem.Calls PySem.Flt
set_option maxHeartbeats 4000000
namespace Mine
theorem mro_fn : mroOf (.type "function") = pure [.type "function", .type "object"] := by rw [mroOf_type]; kernel_rfl
section
variable {prog : Program} {w : World} {A : Around} {E : Value → Shared → Prop} {h : Heap} {g : Array GenState} {d : Drawn} {t : Nat} {os : OsState} {a D : Addr} {md : Str → Option Value}
theorem fn_set_entry {name : Str} {tk : Tok} {v : Value} {fd : FuncData} {sl : Array (Option Value)} {Q : Fin → Shared → Prop} (ho : h.get? a = some { cls := .type "function", dict := none, data := .func fd, slots := sl })
    (hnm : typeLookup (.type "function") name = pure none)
    (hq : ∀ h' tk' hsh tn, h'.get? a = some { cls := .type "function", dict := some h.objs.size, data := .func fd, slots := sl } → h'.get? h.objs.size = some (dictOf [⟨hsh, .str name tn, v⟩] 1) →
      (∀ b o, b ≠ a → h.get? b = some o → h'.get? b = some o) → Q (.done (.ret .none)) ⟨h', g, d, tk', os⟩) :
    wpAny (model prog w) A (Builtin.«object.__setattr__» ⟨[.ref a, .str name tk, v], []⟩) Q E ⟨h, g, d, t, os⟩ := by
  have hT : (⟨h, g, d, t, os⟩ : Shared).TypeIs (.ref a) "function" := ⟨_, ho, rfl⟩
  have f0 := mro_fn
  repeat (any_goals (first | assumption | wp_step))
  refine wpAny_askSetting ?_
  refine wpAny_pure ?_
  have hda : h.objs.size ≠ a := Nat.ne_of_gt (Heap.lt_size ho)
  repeat (any_goals (first | assumption | wp_step))
  refine hq _ _ (if name.cps.isEmpty = true then 0 else reduceHash (w.params.strHash name.cps)) t ?_ ?_ ?_
  · rw [Heap.get?_update_of_ne _ hda]
    refine Heap.get?_update_self _ (Heap.get?_push_of_some _ ho) rfl
  · have e1 : ((h.push { cls := .type "dict", data := .dict #[] }).update a fun o => { cls := o.cls, dict := some h.objs.size, data := o.data, slots := o.slots }).get? h.objs.size = some (dictOf [] 0) := by
      rw [Heap.get?_update_of_ne _ (Ne.symm hda)]
      exact Heap.get?_push_size _ rfl
    rw [Heap.get?_update_self _ e1 (by rw [putName_dict]; rfl), putName_dict]
    rfl
  · intro b o hb e
    have hb2 : b ≠ h.objs.size := Nat.ne_of_lt (Heap.lt_size e)
    have hb3 := Ne.symm hb2
    have hb4 := Ne.symm hb
    heap_get
theorem setAttr_fn {name : Str} {v : Value} {fd : FuncData} {sl : Array (Option Value)} {Q : Unit → Shared → Prop} (ho : h.get? a = some { cls := .type "function", dict := none, data := .func fd, slots := sl })
    (hnm : typeLookup (.type "function") name = pure none)
    (hq : ∀ h' tk' hsh tn, h'.get? a = some { cls := .type "function", dict := some h.objs.size, data := .func fd, slots := sl } → h'.get? h.objs.size = some (dictOf [⟨hsh, .str name tn, v⟩] 1) →
      (∀ b o, b ≠ a → h.get? b = some o → h'.get? b = some o) → Q () ⟨h', g, d, tk', os⟩) :
    wpAny (model prog w) A (setAttr (.ref a) name v) Q E ⟨h, g, d, t, os⟩ := by
  have hT : (⟨h, g, d, t, os⟩ : Shared).TypeIs (.ref a) "function" := ⟨_, ho, rfl⟩
  have hT1 : (⟨h, g, d, t + 1, os⟩ : Shared).TypeIs (.ref a) "function" := ⟨_, ho, rfl⟩
  have f1 := slot_fn_sa.lookup
  have f4 := slot_fn_sa.bind (.ref a)
  unfold setAttr
  refine wpAny_bind (wpAny_mkText ?_)
  repeat (any_goals (first | assumption | wp_step))
  refine codeAny_call_builtin slot_fn_sa.plain F.entry_object_setattr (slot_fn_sa.check _ _ _ _ _ _ _ _ hT1 (F.args_object_setattr_3 _ _ _) (fn_set_entry ho hnm fun h' tk' hsh tn a1 a2 a3 => ?_))
  repeat (any_goals (first | assumption | wp_step))
  exact hq h' tk' hsh tn a1 a2 a3
end
end Mine
end
section
open PySem PySem.W PyProof.Rows PySem.Calls PySem.Flt
set_option maxHeartbeats 4000000
namespace Mine
theorem wpAny_callBorrowed {M : Model} {A : Around} {E : Value → Shared → Prop} {s : Shared} {f : Value} {pos : List Value} {Q : Value → Shared → Prop}
    (hc : codeAny M A (.call f ⟨pos, []⟩) (fun r s' => match r with | .ok (.ret v) => Q v s' | .ok _ => False | .error e => E e s') s) :
    wpAny M A (callBorrowed f pos) Q E s := by
  have e : Sem.keep [borrowed] (call f pos) = callBorrowed f pos := by
    unfold callBorrowed call runValue run
    show Sem.call _ _ _ _ _ = Sem.call _ _ _ _ _
    congr 1
    funext r
    rcases r with e | f
    · rfl
    · cases f <;> rfl
  rw [← e]
  exact Calls.wpAny_keep (wpAny_call hc)
theorem slot_ci_next : Slot "callable_iterator" "__next__" "callable_iterator.__next__" :=
  .of (owner := "callable_iterator") (n := "__next__") (by rw [typeLookup_type, builtinLookup_eq_fast]; kernel_rfl) (by decide +kernel) (by decide +kernel) (by decide +kernel)
    (by first | exact .inl (by decide +kernel) | exact .inr (by decide +kernel)) (by rw [isSubtype_type]; kernel_rfl)
theorem slot_ci_iter : Slot "callable_iterator" "__iter__" "callable_iterator.__iter__" :=
  .of (owner := "callable_iterator") (n := "__iter__") (by rw [typeLookup_type, builtinLookup_eq_fast]; kernel_rfl) (by decide +kernel) (by decide +kernel) (by decide +kernel)
    (by first | exact .inl (by decide +kernel) | exact .inr (by decide +kernel)) (by rw [isSubtype_type]; kernel_rfl)
theorem entry_ci_next : entryFor table "callable_iterator.__next__" = some Builtin.«callable_iterator.__next__» := entryFor_of_tree (by kernel_rfl)
theorem entry_ci_iter : entryFor table "callable_iterator.__iter__" = some Builtin.«dict_keyiterator.__iter__» := entryFor_alias (id' := "dict_keyiterator.__iter__") (by rw [fastTable_eq_tree]; kernel_rfl) (by first | rfl | decide +kernel) (by decide +kernel) (by rw [fastTable_eq_tree]; kernel_rfl)
theorem args_ci_next (a : Value) : argsOk "callable_iterator.__next__" ⟨[a], []⟩ := by unfold argsOk; kernel_rfl
theorem args_ci_iter (a : Value) : argsOk "callable_iterator.__iter__" ⟨[a], []⟩ := by unfold argsOk; kernel_rfl

def ciObj (f sent : Value) (b : Bool) : Obj := { cls := .type "callable_iterator", data := .fields #[f, sent, .bool b] }
section
variable {prog : Program} {w : World} {A : Around} {E : Value → Shared → Prop} {s : Shared} {I bm fa x : Addr} {sent : Value}
theorem borrows_meth {M : Model} {A : Around} {E : Value → Shared → Prop} {s : Shared} {fo : Obj} {fd : FuncData} {Q : Bool → Shared → Prop} (hb : s.heap.get? bm = some (methodObj (.ref fa) (.ref x))) (hf : s.heap.get? fa = some fo) (hd : fo.data = .func fd) (h : Q true s) :
    wpAny M A (borrowsExactly (.ref bm)) Q E s := by
  unfold borrowsExactly
  dsimp only
  refine wpAny_bind (wpAny_load hb ?_)
  dsimp only
  rw [if_pos (show (Value.type "method" == Value.type "method") = true by decide)]
  show wpAny M A (load fa >>= _) _ _ _
  refine wpAny_bind (wpAny_load hf ?_)
  rw [hd]
  exact wpAny_pure h

/-- a draw from iter(x.m, sentinel) that gives an item -/
theorem pyNext_ci {fo : Obj} {fd : FuncData} {y : Str} {ty : Tok} {Q : Option Value → Shared → Prop} (hI : s.heap.get? I = some (ciObj (.ref bm) (.str y ty) false))
    (hb : s.heap.get? bm = some (methodObj (.ref fa) (.ref x))) (hf : s.heap.get? fa = some fo) (hd : fo.data = .func fd)
    (h : codeAny (model prog w) A.in1 (.call (.ref fa) ⟨[.ref x], []⟩) (fun r s' => ∃ v tv, r = .ok (.ret (.str v tv)) ∧ v ≠ y ∧ s'.heap.get? I = some (ciObj (.ref bm) (.str y ty) false) ∧ ∀ tk, Q (some (.str v tv)) { s' with toks := tk }) s) :
    wpAny (model prog w) A (pyNext (.ref I)) Q E s := by
  have hT : s.TypeIs (.ref I) "callable_iterator" := ⟨_, hI, rfl⟩
  unfold pyNext
  refine wpAny_bind (wpAny_attempt (wpAny_callSpecial?_slot (name := Str.ofString "__next__") hT slot_ci_next
    (wpAny_call_entry slot_ci_next hT entry_ci_next ?_ (args_ci_next _))))
  unfold Builtin.«callable_iterator.__next__»
  show wpAny _ _ (field (.ref I) 2 >>= _) _ _ s
  refine wpAny_bind (wpAny_field hI (x := .bool false) rfl rfl ?_)
  rw [if_neg (show ¬ ((Value.bool false == Value.bool true) = true) from Bool.false_ne_true)]
  dsimp only
  refine wpAny_bind (wpAny_field hI (x := .ref bm) rfl rfl ?_)
  refine wpAny_bind (wpAny_attempt ?_)
  unfold callOutOfASlot
  refine wpAny_bind (borrows_meth hb hf hd ?_)
  rw [if_pos rfl]
  refine wpAny_callBorrowed (method_call hb (codeAny_mono h fun r s' hr => ?_))
  obtain ⟨v, tv, rfl, hne, hI', hq⟩ := hr
  dsimp only
  refine wpAny_bind (wpAny_field hI' (x := .bool false) rfl rfl ?_)
  rw [if_neg (show ¬ ((Value.bool false == Value.bool true) = true) from Bool.false_ne_true)]
  refine wpAny_bind (wpAny_field hI' (x := .str y ty) rfl rfl ?_)
  refine wpAny_bind (wpAny_holding (eqBool_str ?_))
  rw [show (y == v) = false from by rw [beq_eq_false_iff_ne]; exact fun e => hne e.symm]
  rw [if_pos (show (!false) = true from rfl)]
  exact wpAny_pure ⟨_, rfl, wpAny_pure (hq s'.toks)⟩
theorem pyIter_ci {f sent : Value} {b : Bool} {Q : Value → Shared → Prop} (hI : s.heap.get? I = some (ciObj f sent b)) (h : Q (.ref I) s) : wpAny (model prog w) A (pyIter (.ref I)) Q E s := by
  have hT : s.TypeIs (.ref I) "callable_iterator" := ⟨_, hI, rfl⟩
  refine wpAny_pyIter_slot hT slot_ci_iter (wpAny_call_entry slot_ci_iter hT entry_ci_iter ?_ (args_ci_iter _))
  show wpAny _ _ (do ret (Value.ref I)) _ _ s
  exact wpAny_pure ⟨_, rfl, "callable_iterator", _, hT, slot_ci_next.lookup, h⟩
theorem lk_meth_call : typeLookup (.type "method") "__call__" = pure (some (.builtin "method.__call__")) := by rw [typeLookup_type, builtinLookup_eq_fast]; kernel_rfl
theorem iter_kind : builtinKind "iter" = none := by decide +kernel
theorem iter_plain : plainId "iter" = true := by decide +kernel
theorem iter_entry : entryFor table "iter" = some Builtin.«iter» := entryFor_of_tree (by kernel_rfl)
theorem iter_args (a b : Value) : argsOk "iter" ⟨[a, b], []⟩ := by unfold argsOk; kernel_rfl
theorem call_iter2 {sent : Value} {Q : Value → Shared → Prop} (hb : s.heap.get? bm = some (methodObj (.ref fa) (.ref x)))
    (h : Q (.ref s.heap.objs.size) { s with heap := s.heap.push (ciObj (.ref bm) sent false) }) :
    wpAny (model prog w) A (call (.builtin "iter") [.ref bm, sent]) Q E s := by
  have hT : s.TypeIs (.ref bm) "method" := ⟨_, hb, rfl⟩
  refine Calls.call_function_entry iter_kind iter_plain iter_entry (iter_args _ _) ?_
  unfold Builtin.«iter»
  have f1 := lk_meth_call
  refine wpAny_bind (wpAny_of_eq (a := [.ref bm, sent]) rfl ?_)
  dsimp only
  refine wpAny_bind (wpAny_specialOf hT f1 ?_)
  rw [if_neg (by simp)]
  refine wpAny_bind (wpAny_rule ?_)
  exact wpAny_bind (wpAny_newObj_type (wpAny_pure ⟨_, rfl, h⟩))
end
end Mine
end
section
open PySem PySem.W PyProof.Rows PySem.Calls PySem.Flt
set_option maxHeartbeats 4000000
namespace Mine
section
variable {prog : Program} {w : World} {A : Around} {E : Value → Shared → Prop} {s : Shared} {h₀ : Heap} {L a : Addr} {m : Str → Option Value} {news : List (Addr × Obj)} {g : Obj → List (Addr × Obj)}
theorem setAttr_fnN {name : Str} {v : Value} {fd : FuncData} {sl : Array (Option Value)} {Q : Unit → Shared → Prop} (F : Fr h₀ L s.heap m) (N : News h₀ L s.heap news)
    (U : UpdF a { cls := .type "function", dict := none, data := .func fd, slots := sl } news g) (hnm : typeLookup (.type "function") name = pure none)
    (h : ∀ D hsh tn h' tk', Fr h₀ L h' m → News h₀ L h' ((D, dictOf [⟨hsh, .str name tn, v⟩] 1) :: g { cls := .type "function", dict := some D, data := .func fd, slots := sl }) → (∀ p ∈ news, p.1 < D) → Q () { s with heap := h', toks := tk' }) :
    wpAny (model prog w) A (setAttr (.ref a) name v) Q E s := by
  obtain ⟨pre, post, rfl, hg, n1, n2⟩ := U.split
  obtain ⟨hh, gs, dr, tk, os⟩ := s
  have za := N (a, _) (List.mem_append_right _ (.head _))
  refine setAttr_fn za.1 hnm fun h' tk' hsh tn e1 e2 e3 => ?_
  have hL : L ≠ a := Ne.symm za.2.1
  have hLD : L ≠ hh.objs.size := Nat.ne_of_lt F.ns.lt
  have F' : Fr h₀ L h' m := by
    obtain ⟨oL, q1, q2, q3, q4⟩ := F.ns
    refine ⟨⟨oL, q1, q2, e3 _ _ hL q3, q4⟩, fun b o e => e3 _ _ (fun q => ?_) (F.keep b o e), F.above⟩
    rw [q, za.2.2] at e; cases e
  refine h hh.objs.size hsh tn h' tk' F' ?_ fun p hp => Heap.lt_size (N p hp).1
  intro p hp
  rw [hg] at hp
  rcases List.mem_cons.mp hp with rfl | hp
  · refine ⟨e2, Ne.symm hLD, ?_⟩
    cases q : h₀.get? hh.objs.size with
    | none => rfl
    | some o => exact absurd (Heap.lt_size (F.keep _ _ q)) (Nat.lt_irrefl _)
  · rcases List.mem_append.mp hp with hp | hp
    · have z := N p (List.mem_append_left _ hp)
      exact ⟨e3 _ _ (n1 p hp) z.1, z.2⟩
    · rcases List.mem_cons.mp hp with rfl | hp
      · exact ⟨e1, za.2⟩
      · have z := N p (List.mem_append_right _ (.tail _ hp))
        exact ⟨e3 _ _ (n2 p hp) z.1, z.2⟩

/-- the namespace of a written dict with one str key -/
theorem ns_one {h : Heap} {D : Addr} {hsh : Int} {tn : Tok} {name : Str} {v : Value} (e : h.get? D = some (dictOf [⟨hsh, .str name tn, v⟩] 1)) : h.Ns D (fun y => if y = name then some v else none) := by
  refine ⟨_, _, _, e, rfl, ?_, ?_⟩
  · intro x hx
    rw [show x = ⟨hsh, .str name tn, v⟩ by simpa using hx]
    exact ⟨_, _, rfl⟩
  · intro y
    unfold nsFind findBy
    by_cases hy : y = name
    · subst hy; simp [Value.isStr]
    · simp [Value.isStr, hy, Ne.symm hy]
theorem IsFnObj.of {fd : FuncData} {sl : Array (Option Value)} {D : Addr} {hsh : Int} {tn : Tok} {name : Str} {v : Value} {h : Heap} (N : News h₀ L h news) (h1 : (a, { cls := .type "function", dict := some D, data := .func fd, slots := sl }) ∈ news)
    (h2 : (D, dictOf [⟨hsh, .str name tn, v⟩] 1) ∈ news) : IsFnObj h a D (fun y => if y = name then some v else none) := ⟨⟨_, _, (N _ h1).1⟩, ns_one (N _ h2).1⟩
/-- x.read, x a function of the call's own -/
theorem getMethod_fnN {fd : FuncData} {sl : Array (Option Value)} {D rd : Addr} {hsh : Int} {tn : Tok} {pl : Sem Bool} {Q : Value × List Value → Shared → Prop} (N : News h₀ L s.heap news)
    (h1 : (a, { cls := .type "function", dict := some D, data := .func fd, slots := sl }) ∈ news) (h2 : (D, dictOf [⟨hsh, .str "read" tn, .ref rd⟩] 1) ∈ news) (h : Q (.ref rd, []) { s with toks := s.toks + 1 }) :
    wpAny (model prog w) A (getMethod (.ref a) "read" pl) Q E s := by
  obtain ⟨hh, gs, dr, tk, os⟩ := s
  exact getMethod_fn (IsFnObj.of N h1 h2) lk_fn_read (by simp) rfl h
end
end Mine
namespace Mine
theorem call_iter2_N {prog : Program} {w : World} {A : Around} {E : Value → Shared → Prop} {s : Shared} {h₀ : Heap} {L : Addr} {m : Str → Option Value} {news : List (Addr × Obj)} {bm fa x : Addr} {sent : Value} {Q : Value → Shared → Prop}
    (F : Fr h₀ L s.heap m) (N : News h₀ L s.heap news) (hm : (bm, methodObj (.ref fa) (.ref x)) ∈ news)
    (h : ∀ I h', Fr h₀ L h' m → News h₀ L h' ((I, ciObj (.ref bm) sent false) :: news) → (∀ p ∈ news, p.1 < I) → Q (.ref I) { s with heap := h' }) :
    wpAny (model prog w) A (call (.builtin "iter") [.ref bm, sent]) Q E s :=
  call_iter2 (N _ hm).1 (h _ _ (F.push _) (N.push F _) fun p hp => Heap.lt_size (N p hp).1)
theorem pyIter_ci_N {prog : Program} {w : World} {A : Around} {E : Value → Shared → Prop} {s : Shared} {h₀ : Heap} {L : Addr} {news : List (Addr × Obj)} {I : Addr} {f sent : Value} {b : Bool} {Q : Value → Shared → Prop}
    (N : News h₀ L s.heap news) (hm : (I, ciObj f sent b) ∈ news) (h : Q (.ref I) s) : wpAny (model prog w) A (pyIter (.ref I)) Q E s := pyIter_ci (N _ hm).1 h
end Mine
end
section
open PySem PySem.W PyProof.Rows PySem.Calls
set_option maxHeartbeats 4000000
namespace Mine
inductive Pick {α : Type} (x : α) : List α → List α → Prop
  | here {r} : Pick x (x :: r) r
  | there {y r r'} : Pick x r r' → Pick x (y :: r) (y :: r')
inductive Split {α : Type} : List α → List α → List α → Prop
  | nil {r} : Split r [] r
  | cons {x l l' P r} : Pick x l l' → Split l' P r → Split l (x :: P) r
theorem Pick.mem {α : Type} {x : α} {l r : List α} (h : Pick x l r) : x ∈ l ∧ ∀ y ∈ r, y ∈ l := by
  induction h with
  | here => exact ⟨.head _, fun y hy => .tail _ hy⟩
  | there _ ih => exact ⟨.tail _ ih.1, fun y hy => by
      rcases List.mem_cons.mp hy with rfl | hy
      · exact .head _
      · exact .tail _ (ih.2 y hy)⟩
theorem Split.mem {α : Type} {l P r : List α} (h : Split l P r) : (∀ x ∈ P, x ∈ l) ∧ ∀ y ∈ r, y ∈ l := by
  induction h with
  | nil => exact ⟨(fun _ hx => nomatch hx), fun _ hy => hy⟩
  | cons hp _ ih =>
    refine ⟨fun x hx => ?_, fun y hy => hp.mem.2 y (ih.2 y hy)⟩
    rcases List.mem_cons.mp hx with rfl | hx
    · exact hp.mem.1
    · exact hp.mem.2 x (ih.1 x hx)
theorem News.app {h₀ h : Heap} {L : Addr} {P R : List (Addr × Obj)} (a : News h₀ L h P) (b : News h₀ L h R) : News h₀ L h (P ++ R) := fun p hp => (List.mem_append.mp hp).elim (a p) (b p)
section
variable {prog : Program} {w : World} {K : Frag} {p : Program} {loose : List Str} {mean : ExcName → Option Value} {mg mb : Str → Option Value} {D U : Nat}
theorem Fn.use {f : Addr} {args : List Value} {P news rest : List (Addr × Obj)} {post : Value → List (Addr × Obj) → Prop} {A A₀ : Around} {env : Env} {outer : List Env} {base h₀ : Heap} {L : Addr} {m : Str → Option Value} {s : Shared} {Q E : Value → Shared → Prop}
    (C : Fn prog w K p loose mean mg mb D U f args P post) (H : Here prog w K p loose mean mg mb D U A env outer A₀ base h₀ L) (F : Fr h₀ L s.heap m) (N : News h₀ L s.heap news) (S : Split news P rest) (ap : Apart P rest)
    (k : ∀ v P' h' tk', post v P' → Fr h₀ L h' m → News h₀ L h' (P' ++ rest) → Apart P' rest → Q v { s with heap := h', toks := tk' }) :
    wpAny (model prog w) A (call (.ref f) args) Q E s :=
  wpAny_call (C A env outer A₀ base h₀ L m rest s _ H F (fun p hp => N p (S.mem.1 p hp)) (fun p hp => N p (S.mem.2 p hp)) ap fun v P' h' tk' hp F' N1 N2 ap' => k v P' h' tk' hp F' (News.app N1 N2) ap')
theorem Fn.useC {f : Addr} {args : List Value} {P news rest : List (Addr × Obj)} {post : Value → List (Addr × Obj) → Prop} {A A₀ : Around} {env : Env} {outer : List Env} {base h₀ : Heap} {L : Addr} {m : Str → Option Value} {s : Shared} {R : Result → Shared → Prop}
    (C : Fn prog w K p loose mean mg mb D U f args P post) (H : Here prog w K p loose mean mg mb D U A env outer A₀ base h₀ L) (F : Fr h₀ L s.heap m) (N : News h₀ L s.heap news) (S : Split news P rest) (ap : Apart P rest)
    (k : ∀ v P' h' tk', post v P' → Fr h₀ L h' m → News h₀ L h' (P' ++ rest) → Apart P' rest → R (.ok (.ret v)) { s with heap := h', toks := tk' }) :
    codeAny (model prog w) A (.call (.ref f) ⟨args, []⟩) R s :=
  C A env outer A₀ base h₀ L m rest s _ H F (fun p hp => N p (S.mem.1 p hp)) (fun p hp => N p (S.mem.2 p hp)) ap fun v P' h' tk' hp F' N1 N2 ap' => k v P' h' tk' hp F' (News.app N1 N2) ap'
end
theorem apart_nil {R : List (Addr × Obj)} : Apart [] R := fun _ h => nomatch h
theorem apart_cons {x : Addr × Obj} {P R : List (Addr × Obj)} (a : ∀ q ∈ R, x.1 ≠ q.1) (b : Apart P R) : Apart (x :: P) R := List.forall_mem_cons.mpr ⟨a, b⟩
end Mine
namespace Mine
theorem Split_app {α : Type} : ∀ (P R : List α), Split (P ++ R) P R
  | [], _ => .nil
  | _ :: P, R => .cons .here (Split_app P R)
end Mine
namespace Mine
theorem News.sub {h₀ h : Heap} {L : Addr} {P news : List (Addr × Obj)} (N : News h₀ L h news) (hs : ∀ p ∈ P, p ∈ news) : News h₀ L h P := fun p hp => N p (hs p hp)
end Mine
end
section
open PySem PySem.W PyProof.Rows PySem.Calls
set_option maxHeartbeats 4000000
namespace Mine
/-- a contract whose end tells where the new objects lie: above B, and all else below it -/
def FnB (prog : Program) (w : World) (K : Frag) (p : Program) (loose : List Str) (mean : ExcName → Option Value) (mg mb : Str → Option Value)
    (D U : Nat) (f : Addr) (args : List Value) (P : List (Addr × Obj)) (post : Nat → Value → List (Addr × Obj) → Prop) : Prop :=
  ∀ (A : Around) (env : Env) (outer : List Env) (A₀ : Around) (base h₀ : Heap) (L : Addr) (m : Str → Option Value) (rest : List (Addr × Obj)) (s : Shared) (R : Result → Shared → Prop),
    Here prog w K p loose mean mg mb D U A env outer A₀ base h₀ L → Fr h₀ L s.heap m → News h₀ L s.heap P → News h₀ L s.heap rest → Apart P rest →
    (∀ (B : Nat) v P' h' tk', post B v P' → Fr h₀ L h' m → News h₀ L h' P' → News h₀ L h' rest → Apart P' rest → (∀ q ∈ rest, q.1 < B) → R (.ok (.ret v)) { s with heap := h', toks := tk' }) →
    codeAny (model prog w) A (.call (.ref f) ⟨args, []⟩) R s
section
variable {prog : Program} {w : World} {K : Frag} {p : Program} {loose : List Str} {mean : ExcName → Option Value} {mg mb : Str → Option Value} {D U : Nat}

/-- a def with cells, its body shown once -/
theorem FnB.cells {f : Addr} {args : List Value} {P : List (Addr × Obj)} {post : Nat → Value → List (Addr × Obj) → Prop} {name qual : Str} {params : Arguments} {body : List Stmt} {scope : Scope}
    {dV kV doc pm cdv ct oc : Value} {an od : Option Addr} {osl : Array (Option Value)} {binds : List (Str × Value)}
    (ho : K.lookup f = some ⟨oc, od, .func (fnOf name qual params body scope dV kV doc pm an cdv ct), osl⟩) (hcd : codeIn K cdv qual = true)
    (hbind : ∀ s, BindsTo s (fnOf name qual params body scope dV kV doc pm an cdv ct) ⟨args, []⟩ binds)
    (hkind : (binds.all fun y => scope.names.lookup y.1 == some .local || scope.names.lookup y.1 == some .cell) = true) (hnd : ((cellsFrom 0 scope.names []).map (·.1)).Nodup)
    (h : ∀ (gd : Option (List Code)) (outer : List Env) (A₀ : Around) (base g : Heap) (L : Addr) (s : Shared) (cells : List (Addr × Obj)),
      Below A₀ base outer g → K.In g → Top p loose mean mg mb g → Fr g L s.heap (bindL (envOfC qual scope L f cdv).kindOf binds fun _ => none) → News g L s.heap (cells ++ P) →
      CellsAre (bindC (envOfC qual scope L f cdv).kindOf binds fun _ => none) (cellsFrom (L + 1) scope.names []) cells → (∀ p ∈ P, p.1 < L) →
      wpAny (model prog w) (ktrTop (D + 1) (U + 3) gd qual scope L f cdv (cellsFrom (L + 1) scope.names []) outer) (execs body (envOfC qual scope L f cdv)) (fun fl s' => Ends g L (post L) s (retOf fl) s') (fun _ _ => False) s)
    (hD : D < recursionLimit) (hco : scope.isCoroutine = false) (hgen : scope.isGenerator = false) (hk : scope.kind = .function) :
    FnB prog w K p loose mean mg mb D U f args P post := by
  intro A env outer A₀ base h₀ L m rest s R H F N N2 hap k
  obtain ⟨BG, KG, TG, back⟩ := ground H F N N2 hap
  have hA : A = { handled := none, depth := A.depth, frames := some (env :: outer), guards := A.guards, units := A.units } := by
    obtain ⟨a, b, c, d, e⟩ := A
    have h1 := H.frames
    have h2 := H.handled
    simp only at h1 h2
    subst h1 h2
    rfl
  have up : codeAny (model prog w) { handled := none, depth := D, frames := some (env :: outer), guards := A.guards, units := U } (.call (.ref f) ⟨args, []⟩) R s := by
    refine codeAny_call_function hD (H.kin.keeps F.keep f _ ho) rfl hco hgen rfl (codeRec_of (H.kin.keeps F.keep) hcd) (hbind _ _ _ _ _ ?_)
    refine wpAny_newFunctionEnv_cells hk (kindsX hkind _) fun env' he s' x => ?_
    subst he
    refine ⟨((H.top.nolimit).keeps F.keep).keeps x.toInCall.keep, codeAny_func ?_⟩
    obtain ⟨h₁, tk, rfl, _⟩ := x.done
    have hk₁ := x.toInCall.keep
    obtain ⟨cells, NC, Y⟩ := Cl.news (h₀ := s.heap) (Nat.le_refl _) fun n c hm => ⟨x.cell n c (lookup_of_mem_nodup (cellsFrom_names scope.names 0 (s.heap.objs.size + 1) [] [] rfl ▸ hnd) hm), x.above n c hm⟩
    refine wpAny_mono (h A.guards (env :: outer) A base (hideAll s.heap (P.map (·.1))) s.heap.objs.size { s with heap := h₁, toks := tk } cells BG KG TG ⟨x.toInCall.ns, fun b o e => hk₁ b o (of_hideAll _ e), Nat.le_of_eq (hideAll_size _ _)⟩
      (fun p hp => ?_) Y (fun p hp => Heap.lt_size (N p hp).1)) (fun fl s' hl => ?_) fun _ _ y => y.elim
    · rcases List.mem_append.mp hp with hp | hp
      · refine ⟨(NC p hp).1, (NC p hp).2.1, ?_⟩
        cases q : (hideAll s.heap (P.map (·.1))).get? p.1 with
        | none => rfl
        | some o => have := of_hideAll _ q; rw [(NC p hp).2.2] at this; cases this
      · exact ⟨hk₁ _ _ (N p hp).1, Nat.ne_of_lt (Heap.lt_size (N p hp).1), hideAll_none _ (List.mem_map_of_mem hp)⟩
    · obtain ⟨P', m', h', tk', rfl, hp, F', N'⟩ := hl
      obtain ⟨F2, N3, N4, hap2⟩ := back _ _ _ _ F' N'
      have := k _ _ _ _ tk' hp F2 N3 N4 hap2 fun p hp => Heap.lt_size (N2 p hp).1
      cases fl <;> exact this
  rw [hA]
  exact code_le up H.depth H.units

theorem FnB.use {f : Addr} {args : List Value} {P news rest : List (Addr × Obj)} {post : Nat → Value → List (Addr × Obj) → Prop} {A A₀ : Around} {env : Env} {outer : List Env} {base h₀ : Heap} {L : Addr} {m : Str → Option Value} {s : Shared} {Q E : Value → Shared → Prop}
    (C : FnB prog w K p loose mean mg mb D U f args P post) (H : Here prog w K p loose mean mg mb D U A env outer A₀ base h₀ L) (F : Fr h₀ L s.heap m) (N : News h₀ L s.heap news) (S : Split news P rest) (ap : Apart P rest)
    (k : ∀ (B : Nat) v P' h' tk', post B v P' → Fr h₀ L h' m → News h₀ L h' (P' ++ rest) → Apart P' rest → (∀ q ∈ rest, q.1 < B) → Q v { s with heap := h', toks := tk' }) :
    wpAny (model prog w) A (call (.ref f) args) Q E s :=
  wpAny_call (C A env outer A₀ base h₀ L m rest s _ H F (fun p hp => N p (S.mem.1 p hp)) (fun p hp => N p (S.mem.2 p hp)) ap fun B v P' h' tk' hp F' N1 N2 ap' lt => k B v P' h' tk' hp F' (News.app N1 N2) ap' lt)
end
end Mine
namespace Mine
section
variable {prog : Program} {w : World} {K : Frag} {p : Program} {loose : List Str} {mean : ExcName → Option Value} {mg mb : Str → Option Value} {D U : Nat}
theorem FnB.plain {f : Addr} {args : List Value} {P : List (Addr × Obj)} {post : Nat → Value → List (Addr × Obj) → Prop} {name qual : Str} {params : Arguments} {body : List Stmt} {scope : Scope}
    {dV kV doc pm cdv ct oc : Value} {an od : Option Addr} {osl : Array (Option Value)} {binds : List (Str × Value)}
    (ho : K.lookup f = some ⟨oc, od, .func (fnOf name qual params body scope dV kV doc pm an cdv ct), osl⟩) (hcd : codeIn K cdv qual = true)
    (hbind : ∀ s, BindsTo s (fnOf name qual params body scope dV kV doc pm an cdv ct) ⟨args, []⟩ binds) (hloc : ∀ y ∈ binds, scope.names.lookup y.1 = some .local)
    (h : ∀ (gd : Option (List Code)) (outer : List Env) (A₀ : Around) (base g : Heap) (L : Addr) (s : Shared),
      Below A₀ base outer g → K.In g → Top p loose mean mg mb g → Fr g L s.heap (fun y => binds.reverse.lookup y) → News g L s.heap P → (∀ p ∈ P, p.1 < L) →
      wpAny (model prog w) (ktrTop (D + 1) (U + 3) gd qual scope L f cdv [] outer) (execs body (envOf qual scope L f cdv)) (fun fl s' => Ends g L (post L) s (retOf fl) s') (fun _ _ => False) s)
    (hD : D < recursionLimit) (hco : scope.isCoroutine = false) (hgen : scope.isGenerator = false) (hk : scope.kind = .function) (hcell : ∀ x ∈ scope.names, x.2 ≠ .cell) :
    FnB prog w K p loose mean mg mb D U f args P post := by
  intro A env outer A₀ base h₀ L m rest s R H F N N2 hap k
  obtain ⟨BG, KG, TG, back⟩ := ground H F N N2 hap
  have hA : A = { handled := none, depth := A.depth, frames := some (env :: outer), guards := A.guards, units := A.units } := by
    obtain ⟨a, b, c, d, e⟩ := A
    have h1 := H.frames
    have h2 := H.handled
    simp only at h1 h2
    subst h1 h2
    rfl
  have up : codeAny (model prog w) { handled := none, depth := D, frames := some (env :: outer), guards := A.guards, units := U } (.call (.ref f) ⟨args, []⟩) R s := by
    refine codeAny_call_def (fd := fnX name qual params body scope [] dV kV doc pm an cdv ct) (body := body) (binds := binds) hD (H.kin.keeps F.keep f _ ho) rfl (H.top.nolimit.keeps F.keep) (codeRec_of (H.kin.keeps F.keep) hcd) rfl (hbind _) hcell hloc (fun h₁ hns hk₁ => ?_) hco hgen hk
    refine wpAny_mono (h A.guards (env :: outer) A base (hideAll s.heap (P.map (·.1))) s.heap.objs.size { s with heap := h₁, toks := s.toks + binds.length } BG KG TG ⟨hns, fun b o e => hk₁ b o (of_hideAll _ e), Nat.le_of_eq (hideAll_size _ _)⟩
      (fun p hp => ⟨hk₁ _ _ (N p hp).1, Nat.ne_of_lt (Heap.lt_size (N p hp).1), hideAll_none _ (List.mem_map_of_mem hp)⟩) (fun p hp => Heap.lt_size (N p hp).1)) (fun fl s' hl => ?_) fun _ _ y => y.elim
    obtain ⟨P', m', h', tk', rfl, hp, F', N'⟩ := hl
    obtain ⟨F2, N3, N4, hap2⟩ := back _ _ _ _ F' N'
    have := k _ _ _ _ tk' hp F2 N3 N4 hap2 fun p hp => Heap.lt_size (N2 p hp).1
    cases fl <;> exact this
  rw [hA]
  exact code_le up H.depth H.units
theorem FnB.useC {f : Addr} {args : List Value} {P news rest : List (Addr × Obj)} {post : Nat → Value → List (Addr × Obj) → Prop} {A A₀ : Around} {env : Env} {outer : List Env} {base h₀ : Heap} {L : Addr} {m : Str → Option Value} {s : Shared} {R : Result → Shared → Prop}
    (C : FnB prog w K p loose mean mg mb D U f args P post) (H : Here prog w K p loose mean mg mb D U A env outer A₀ base h₀ L) (F : Fr h₀ L s.heap m) (N : News h₀ L s.heap news) (S : Split news P rest) (ap : Apart P rest)
    (k : ∀ B v P' h' tk', post B v P' → Fr h₀ L h' m → News h₀ L h' (P' ++ rest) → (∀ q ∈ rest, q.1 < B) → R (.ok (.ret v)) { s with heap := h', toks := tk' }) :
    codeAny (model prog w) A (.call (.ref f) ⟨args, []⟩) R s :=
  C A env outer A₀ base h₀ L m rest s R H F (fun p hp => N p (S.mem.1 p hp)) (fun p hp => N p (S.mem.2 p hp)) ap fun B v P' h' tk' hp F' N1 N2 _ lt => k B v P' h' tk' hp F' (News.app N1 N2) lt
end
end Mine
end
section
open PySem PySem.W PyProof.Rows PySem.Calls
set_option maxHeartbeats 4000000
namespace Mine
/-- what a call from outside does: pre speaks of what stands behind it, P is what it may turn -/
def FnTop (prog : Program) (w : World) (K : Frag) (p : Program) (loose : List Str) (mean : ExcName → Option Value) (mg mb : Str → Option Value)
    (D U : Nat) (f : Addr) (args : List Value) (P : List (Addr × Obj)) (pre : Heap → Prop) (post : Value → List (Addr × Obj) → Prop) : Prop :=
  ∀ (A : Around) (g : Heap) (s : Shared) (R : Result → Shared → Prop), A.handled = none → A.frames = some [] → A.depth ≤ D → A.units ≤ U → K.In g → Top p loose mean mg mb g → pre g →
    g.StaysIn s.heap → g.objs.size ≤ s.heap.objs.size → (∀ p ∈ P, s.heap.get? p.1 = some p.2 ∧ g.get? p.1 = none) →
    (∀ v P' L m h' tk', post v P' → Fr g L h' m → News g L h' P' → R (.ok (.ret v)) { s with heap := h', toks := tk' }) →
    codeAny (model prog w) A (.call (.ref f) ⟨args, []⟩) R s
section
variable {prog : Program} {w : World} {K : Frag} {p : Program} {loose : List Str} {mean : ExcName → Option Value} {mg mb : Str → Option Value} {D U : Nat}
theorem FnTop.cells {f : Addr} {args : List Value} {P : List (Addr × Obj)} {pre : Heap → Prop} {post : Value → List (Addr × Obj) → Prop} {name qual : Str} {params : Arguments} {body : List Stmt} {scope : Scope}
    {dV kV doc pm cdv ct oc : Value} {an od : Option Addr} {osl : Array (Option Value)} {binds : List (Str × Value)}
    (ho : K.lookup f = some ⟨oc, od, .func (fnOf name qual params body scope dV kV doc pm an cdv ct), osl⟩) (hcd : codeIn K cdv qual = true)
    (hbind : ∀ s, BindsTo s (fnOf name qual params body scope dV kV doc pm an cdv ct) ⟨args, []⟩ binds)
    (hkind : (binds.all fun y => scope.names.lookup y.1 == some .local || scope.names.lookup y.1 == some .cell) = true) (hnd : ((cellsFrom 0 scope.names []).map (·.1)).Nodup)
    (h : ∀ (gd : Option (List Code)) (outer : List Env) (A₀ : Around) (base g : Heap) (L : Addr) (s : Shared) (cells : List (Addr × Obj)),
      Below A₀ base outer g → K.In g → Top p loose mean mg mb g → pre g → Fr g L s.heap (bindL (envOfC qual scope L f cdv).kindOf binds fun _ => none) → News g L s.heap (cells ++ P) →
      CellsAre (bindC (envOfC qual scope L f cdv).kindOf binds fun _ => none) (cellsFrom (L + 1) scope.names []) cells → (∀ p ∈ P, p.1 < L) →
      wpAny (model prog w) (ktrTop (D + 1) (U + 3) gd qual scope L f cdv (cellsFrom (L + 1) scope.names []) outer) (execs body (envOfC qual scope L f cdv)) (fun fl s' => Ends g L post s (retOf fl) s') (fun _ _ => False) s)
    (hD : D < recursionLimit) (hco : scope.isCoroutine = false) (hgen : scope.isGenerator = false) (hk : scope.kind = .function) :
    FnTop prog w K p loose mean mg mb D U f args P pre post := by
  intro A g s R hA1 hA2 hA3 hA4 X T hpre st hsz N k
  have hA : A = { handled := none, depth := A.depth, frames := some [], guards := A.guards, units := A.units } := by
    obtain ⟨a, b, c, d, e⟩ := A
    simp only at hA1 hA2
    subst hA1 hA2
    rfl
  have up : codeAny (model prog w) { handled := none, depth := D, frames := some [], guards := A.guards, units := U } (.call (.ref f) ⟨args, []⟩) R s := by
    refine codeAny_call_function hD (X.keeps st f _ ho) rfl hco hgen rfl (codeRec_of (X.keeps st) hcd) (hbind _ _ _ _ _ ?_)
    refine wpAny_newFunctionEnv_cells hk (kindsX hkind _) fun env' he s' x => ?_
    subst he
    refine ⟨(T.nolimit.keeps st).keeps x.toInCall.keep, codeAny_func ?_⟩
    obtain ⟨h₁, tk, rfl, _⟩ := x.done
    have hk₁ := x.toInCall.keep
    obtain ⟨cells, NC, Y⟩ := Cl.news (h₀ := s.heap) (Nat.le_refl _) fun n c hm => ⟨x.cell n c (lookup_of_mem_nodup (cellsFrom_names scope.names 0 (s.heap.objs.size + 1) [] [] rfl ▸ hnd) hm), x.above n c hm⟩
    refine wpAny_mono (h A.guards [] { handled := none, depth := D, frames := some [], guards := A.guards, units := U } g g s.heap.objs.size { s with heap := h₁, toks := tk } cells ⟨rfl, fun _ _ e => e, trivial⟩ X T hpre ⟨x.toInCall.ns, fun b o e => hk₁ b o (st b o e), hsz⟩
      (fun p hp => ?_) Y (fun p hp => Heap.lt_size (N p hp).1)) (fun fl s' hl => ?_) fun _ _ y => y.elim
    · rcases List.mem_append.mp hp with hp | hp
      · refine ⟨(NC p hp).1, (NC p hp).2.1, ?_⟩
        cases q : g.get? p.1 with
        | none => rfl
        | some o => have := st _ _ q; rw [(NC p hp).2.2] at this; cases this
      · exact ⟨hk₁ _ _ (N p hp).1, Nat.ne_of_lt (Heap.lt_size (N p hp).1), (N p hp).2⟩
    · obtain ⟨P', m', h', tk', rfl, hp, F', N'⟩ := hl
      have := k _ _ _ _ _ tk' hp F' N'
      cases fl <;> exact this
  rw [hA]
  exact code_le up hA3 hA4
end
end Mine
end
section
open PySem PySem.W PyProof.Rows PySem.Calls
set_option maxHeartbeats 4000000
namespace Mine
/-- an iterator's step i, told by the objects that it reads -/
def SrcAt (St : Nat → Heap → Prop) (fp : List Addr) (i : Nat) (os : List (Addr × Obj)) : Prop := ∃ h : Heap, St i h ∧ ∀ b ∈ fp, ∀ o, h.get? b = some o → (b, o) ∈ os
theorem SrcAt.st {prog : Program} {w : World} {A : Around} {I : Addr} {fp wr : List Addr} {n : Nat} {P : Nat → Value → Prop} {St : Nat → Heap → Prop} {i : Nat} {os : List (Addr × Obj)} {h : Heap}
    (W : Walks prog w A I fp wr n P St) (a : SrcAt St fp i os) (hh : ∀ p ∈ os, h.get? p.1 = some p.2) : St i h := by
  obtain ⟨h0, hst, hk⟩ := a
  exact W.frame i h0 h hst fun b hb o e => hh _ (hk b hb o e)
/-- the footprint: the iterator and what stands in fx -/
def FpIn (I : Addr) (fp : List Addr) (fx : List (Addr × Obj)) : Prop := ∀ b ∈ fp, b = I ∨ ∃ o, (b, o) ∈ fx
theorem SrcAt.next {prog : Program} {w : World} {A : Around} {I : Addr} {fp wr : List Addr} {n : Nat} {P : Nat → Value → Prop} {St : Nat → Heap → Prop} {i : Nat} {fx : List (Addr × Obj)} {h : Heap} {oI : Obj}
    (W : Walks prog w A I fp wr n P St) (hf : FpIn I fp fx) (st : St i h) (hI : h.get? I = some oI) (hh : ∀ p ∈ fx, h.get? p.1 = some p.2) : SrcAt St fp i ((I, oI) :: fx) := by
  refine ⟨h, st, fun b hb o e => ?_⟩
  rcases hf b hb with rfl | ⟨o', ho'⟩
  · rw [hI] at e; cases e; exact .head _
  · have := hh _ ho'
    rw [e] at this; cases this; exact .tail _ ho'

section
variable {prog : Program} {w : World} {A : Around} {s : Shared} {env : Env} {h₀ : Heap} {L : Addr} {m : Str → Option Value}

/-- a draw, as the ledger sees it -/
theorem draw_src {I : Addr} {fp : List Addr} {n : Nat} {P : Nat → Value → Prop} {St : Nat → Heap → Prop} {i : Nat} {fx news : List (Addr × Obj)} {oI : Obj} {Q : Option Value → Shared → Prop} {E : Value → Shared → Prop}
    (W : Walks prog w A I fp [I] n P St) (hf : FpIn I fp fx) (hin : ∀ i h, St i h → ∃ o, h.get? I = some o) (hi : i < n) (a : SrcAt St fp i ((I, oI) :: fx)) (F : Fr h₀ L s.heap m) (N : News h₀ L s.heap ((I, oI) :: news)) (hfx : ∀ p ∈ fx, p ∈ news) (hI : ∀ p ∈ news, p.1 ≠ I)
    (h : ∀ v oI' h' tk', P i v → SrcAt St fp (i + 1) ((I, oI') :: fx) → Fr h₀ L h' m → News h₀ L h' ((I, oI') :: news) → Q (some v) { s with heap := h', toks := tk' }) :
    wpAny (model prog w) A (pyNext (.ref I)) Q E s := by
  refine W.item i s Q E hi (a.st W fun p hp => ?_) fun v h' tk hP st' hk => ?_
  · rcases List.mem_cons.mp hp with rfl | hp
    · exact (N _ (.head _)).1
    · exact (N _ (.tail _ (hfx _ hp))).1
  · have z := N _ (.head _)
    obtain ⟨oI', hI'⟩ := hin _ _ st'
    have old : ∀ b o, b ≠ I → s.heap.get? b = some o → h'.get? b = some o := fun b o hb e => hk b o (by simpa using hb) e
    have F' : Fr h₀ L h' m := by
      obtain ⟨oL, q1, q2, q3, q4⟩ := F.ns
      refine ⟨⟨oL, q1, q2, old _ _ (Ne.symm z.2.1) q3, q4⟩, fun b o e => old _ _ (fun q => ?_) (F.keep b o e), F.above⟩
      rw [q, z.2.2] at e; cases e
    have N' : News h₀ L h' ((I, oI') :: news) := fun p hp => by
      rcases List.mem_cons.mp hp with rfl | hp
      · exact ⟨hI', z.2⟩
      · have y := N _ (.tail _ hp)
        exact ⟨old _ _ (hI p hp) y.1, y.2⟩
    exact h v oI' h' tk hP (SrcAt.next W hf st' hI' fun p hp => (N' _ (.tail _ (hfx p hp))).1) F' N'
theorem end_src {I : Addr} {fp : List Addr} {n : Nat} {P : Nat → Value → Prop} {St : Nat → Heap → Prop} {fx news : List (Addr × Obj)} {oI : Obj} {Q : Option Value → Shared → Prop} {E : Value → Shared → Prop}
    (W : Walks prog w A I fp [I] n P St) (a : SrcAt St fp n ((I, oI) :: fx)) (F : Fr h₀ L s.heap m) (N : News h₀ L s.heap ((I, oI) :: news)) (hfx : ∀ p ∈ fx, p ∈ news) (hI : ∀ p ∈ news, p.1 ≠ I)
    (h : ∀ h' tk', Fr h₀ L h' m → News h₀ L h' news → Q none { s with heap := h', toks := tk' }) :
    wpAny (model prog w) A (pyNext (.ref I)) Q E s := by
  refine W.done s Q E (a.st W fun p hp => ?_) fun h' tk hk => ?_
  · rcases List.mem_cons.mp hp with rfl | hp
    · exact (N _ (.head _)).1
    · exact (N _ (.tail _ (hfx _ hp))).1
  · have z := N _ (.head _)
    have old : ∀ b o, b ≠ I → s.heap.get? b = some o → h'.get? b = some o := fun b o hb e => hk b o (by simpa using hb) e
    have F' : Fr h₀ L h' m := by
      obtain ⟨oL, q1, q2, q3, q4⟩ := F.ns
      refine ⟨⟨oL, q1, q2, old _ _ (Ne.symm z.2.1) q3, q4⟩, fun b o e => old _ _ (fun q => ?_) (F.keep b o e), F.above⟩
      rw [q, z.2.2] at e; cases e
    exact h h' tk F' fun p hp => by
      have y := N _ (.tail _ hp)
      exact ⟨old _ _ (hI p hp) y.1, y.2⟩

/-- what an iterator is made of -/
structure Src (prog : Program) (w : World) (I : Addr) (oI : Obj) (fx : List (Addr × Obj)) (n : Nat) (P : Nat → Value → Prop) (fp : List Addr) (St : Nat → Heap → Prop) : Prop where
  walks : ∀ A : Around, A.handled = none → Walks prog w A I fp [I] n P St
  fpin : FpIn I fp fx
  has : ∀ i h, St i h → ∃ o, h.get? I = some o
  at0 : SrcAt St fp 0 ((I, oI) :: fx)

theorem for_src {σ : Type} {target : Expr} {body : List Stmt} {Q : Flow → Shared → Prop} {m₀ : Str → Option Value} {E : Value → Shared → Prop} {I : Addr} {oI : Obj} {fx : List (Addr × Obj)} {n : Nat} {P : Nat → Value → Prop} {fp : List Addr} {St : Nat → Heap → Prop}
    (S : Src prog w I oI fx n P fp St) (hA : A.handled = none) (Led : σ → List (Addr × Obj)) (ps : σ → List (Str × Value)) (stored : List Str) (J : Nat → σ → Prop) (c₀ : σ)
    (F : Fr h₀ L s.heap m₀) (N : News h₀ L s.heap ((I, oI) :: Led c₀)) (hI : ∀ p ∈ Led c₀, p.1 ≠ I) (hk : ∀ p ∈ ps c₀, m₀ p.1 = some p.2) (hfx : ∀ i c, J i c → ∀ p ∈ fx, p ∈ Led c) (hj : J 0 c₀)
    (turn : ∀ (i : Nat) (c : σ) (u : Str → Option Value) h tk v oI', i < n → P i v → J i c → Fr h₀ L h (kstB (fun z => if stored.contains z then u z else m₀ z) (ps c)) → News h₀ L h ((I, oI') :: Led c) → (∀ p ∈ Led c, p.1 ≠ I) →
      wpAny (model prog w) A (assign target env v) (fun _ s₂ => wpAny (model prog w) A (execs body env) (ForPost h₀ L s (fun c => (I, oI') :: Led c) ps stored m₀ (fun c' => (∀ p ∈ Led c', p.1 ≠ I) ∧ J (i + 1) c') Q) FalseE s₂) FalseE { s with heap := h, toks := tk })
    (done : ∀ (c : σ) (u : Str → Option Value) h tk, J n c → Fr h₀ L h (kstB (fun z => if stored.contains z then u z else m₀ z) (ps c)) → News h₀ L h (Led c) → Q .next { s with heap := h, toks := tk })
    (ht : ∀ v, letOwnedTupleGo target (.ref I) v = pure () := by intro _; rfl) :
    codeAny (model prog w) A (.forLoop target (.ref I) body [] env) (fun r s' => match r with | .ok f => Q f s' | .error e => cameBackBy (model prog w) A env E e s') s := by
  refine for_led (σ := σ × Obj × Nat) (fun c => (I, c.2.1) :: Led c.1) (fun c => ps c.1) stored (fun k c => k = n - c.2.2 ∧ c.2.2 ≤ n ∧ (∀ p ∈ Led c.1, p.1 ≠ I) ∧ SrcAt St fp c.2.2 ((I, c.2.1) :: fx) ∧ J c.2.2 c.1) n (c₀, oI, 0) F N hk ⟨rfl, Nat.zero_le _, hI, S.at0, hj⟩ ?_ ht
  rintro k ⟨c, oI', i⟩ u h tk ⟨hk', hle, hI', hat, hJ⟩ F' N'
  dsimp only at hk' hle hI' hat hJ N' F'
  by_cases hi : i < n
  · refine draw_src (S.walks A.in1 hA).of_in1 S.fpin S.has hi hat F' N' (hfx _ _ hJ) hI' fun v oI'' h' tk' hP hat' F2 N2 => ?_
    dsimp only [ForTurn]
    refine wpAny_mono (turn i c u h' tk' v oI'' hi hP hJ F2 N2 hI') (fun _ s₂ hs₂ => wpAny_mono hs₂ (fun f s₃ hf => ?_) fun _ _ e => e.elim) fun _ _ e => e.elim
    cases f with
    | next =>
      obtain ⟨c', h3, tk3, m3, news3, rfl, F3, N3, hn3, hk3, hr3, hI3, hJ3⟩ := hf
      exact ⟨(c', oI'', i + 1), h3, tk3, m3, news3, rfl, F3, N3, hn3, hk3, hr3, n - (i + 1), by omega, rfl, hi, hI3, hat', hJ3⟩
    | cont =>
      obtain ⟨c', h3, tk3, m3, news3, rfl, F3, N3, hn3, hk3, hr3, hI3, hJ3⟩ := hf
      exact ⟨(c', oI'', i + 1), h3, tk3, m3, news3, rfl, F3, N3, hn3, hk3, hr3, n - (i + 1), by omega, rfl, hi, hI3, hat', hJ3⟩
    | brk => exact hf
    | ret v => exact hf
  · have e : i = n := by omega
    subst e
    refine end_src (S.walks A.in1 hA).of_in1 hat F' N' (hfx _ _ hJ) hI' fun h' tk' F2 N2 => ?_
    exact done c u h' tk' hJ F2 N2

variable {E : Value → Shared → Prop} {Q : Value → Shared → Prop} {elt iter : Expr} {x : Str} {px : Pos} {ifs : List Expr} {scope : Scope} {cl : List (Str × Addr)} {pos : Pos}
end
section
variable {prog : Program} {w : World}
theorem src_str {I : Addr} {o : Obj} {x : Str} {St : Nat → Heap → Prop} {h : Heap} (W : ∀ A' : Around, A'.handled = none → Walks prog w A' I [I] [I] x.cps.size (SignAt x) St) (st : St 0 h) (e : h.get? I = some o)
    (hin : ∀ i h, St i h → ∃ o, h.get? I = some o) : Src prog w I o [] x.cps.size (SignAt x) [I] St :=
  ⟨W, fun b hb => .inl (by simpa using hb), hin, SrcAt.next (W ⟨none, 0, none, none, 0⟩ rfl) (fun b hb => .inl (by simpa using hb)) st e (fun _ h => nomatch h)⟩
end
section
variable {prog : Program} {w : World} {A : Around} {s : Shared} {E : Value → Shared → Prop} {Q : Value → Shared → Prop} {h₀ : Heap} {L : Addr} {m : Str → Option Value} {news : List (Addr × Obj)}
theorem iter_str_N {x : Str} {t : Tok} (F : Fr h₀ L s.heap m) (N : News h₀ L s.heap news)
    (h : ∀ I oI St h', Src prog w I oI [] x.cps.size (SignAt x) [I] St → Fr h₀ L h' m → News h₀ L h' ((I, oI) :: news) → (∀ p ∈ news, p.1 < I) → Q (.ref I) { s with heap := h' }) :
    wpAny (model prog w) A (pyIter (.str x t)) Q E s := by
  cases ha : x.cps.all (· < 128)
  · refine wpAny_pyIter_wide ha ?_
    exact h _ _ _ _ (src_str (St := fun i h => h.IsStrIter _ "str_iterator" x t i) (h := s.heap.push _) (fun A' hA => Walks.strWide hA _ x t) ⟨_, Heap.get?_push_size _ rfl, rfl, rfl⟩ (Heap.get?_push_size _ rfl) (fun i h ⟨o, ho, _⟩ => ⟨o, ho⟩)) (F.push _) (N.push F _) fun p hp => Heap.lt_size (N p hp).1
  · refine wpAny_pyIter_ascii ha ?_
    exact h _ _ _ _ (src_str (St := fun i h => h.IsStrIter _ "str_ascii_iterator" x t i) (h := s.heap.push _) (fun A' hA => Walks.strAscii hA _ x t) ⟨_, Heap.get?_push_size _ rfl, rfl, rfl⟩ (Heap.get?_push_size _ rfl) (fun i h ⟨o, ho, _⟩ => ⟨o, ho⟩)) (F.push _) (N.push F _) fun p hp => Heap.lt_size (N p hp).1
def ByteAt (b : Array UInt8) (i : Nat) (v : Value) : Prop := ∃ c u, b[i]? = some c ∧ v = .int (c.toNat : Int) u
theorem iter_bytes_N {b : Array UInt8} {t : Tok} (F : Fr h₀ L s.heap m) (N : News h₀ L s.heap news)
    (h : ∀ I oI St h', Src prog w I oI [] b.size (ByteAt b) [I] St → Fr h₀ L h' m → News h₀ L h' ((I, oI) :: news) → (∀ p ∈ news, p.1 < I) → Q (.ref I) { s with heap := h' }) :
    wpAny (model prog w) A (pyIter (.bytes b t)) Q E s := by
  refine KBw.pyIter_bytes ?_
  refine h _ _ (fun i h => KBw.IsBytesIter h s.heap.objs.size b t i) _ ⟨fun A' hA => KBw.walks hA _ b t, fun b hb => .inl (by simpa using hb), fun i h ⟨o, ho, _⟩ => ⟨o, ho⟩, ?_⟩ (F.push _) (N.push F _) fun p hp => Heap.lt_size (N p hp).1
  exact SrcAt.next (h := s.heap.push _) (KBw.walks (prog := prog) (w := w) (A := ⟨none, 0, none, none, 0⟩) rfl _ b t) (fun b hb => .inl (by simpa using hb)) ⟨_, Heap.get?_push_size _ rfl, rfl, rfl⟩ (Heap.get?_push_size _ rfl) (fun _ h => nomatch h)
def ItemAt (items : Array Value) (i : Nat) (v : Value) : Prop := items[i]? = some v
theorem iter_list_N {l : Addr} {items : Array Value} {k : Nat} (F : Fr h₀ L s.heap m) (N : News h₀ L s.heap news) (hl : (l, listOf items k) ∈ news)
    (h : ∀ I oI St h', Src prog w I oI [(l, listOf items k)] items.size (ItemAt items) [I, l] St → Fr h₀ L h' m → News h₀ L h' ((I, oI) :: news) → (∀ p ∈ news, p.1 < I) → Q (.ref I) { s with heap := h' }) :
    wpAny (model prog w) A (pyIter (.ref l)) Q E s := by
  have il := News.isList N hl
  have hne : l ≠ s.heap.objs.size := Nat.ne_of_lt (Heap.lt_size (N _ hl).1)
  have fp : FpIn s.heap.objs.size [s.heap.objs.size, l] [(l, listOf items k)] := fun b hb => by
    rcases List.mem_cons.mp hb with rfl | hb
    · exact .inl rfl
    · exact .inr ⟨_, by rw [List.mem_singleton.mp hb]; exact .head _⟩
  refine wpAny_pyIter_list il ?_
  refine h _ _ (fun i h => h.IsListIter s.heap.objs.size l i ∧ h.IsList l items) _ ⟨fun A' hA => Walks.list hA _ l hne items, fp, fun i h st => let ⟨o, ho, _⟩ := st.1; ⟨o, ho⟩, ?_⟩ (F.push _) (N.push F _) fun p hp => Heap.lt_size (N p hp).1
  refine SrcAt.next (h := s.heap.push _) (Walks.list (prog := prog) (w := w) (A := ⟨none, 0, none, none, 0⟩) rfl _ l hne items) fp ⟨⟨_, Heap.get?_push_size _ rfl, rfl, rfl⟩, ?_⟩ (Heap.get?_push_size _ rfl) ?_
  · obtain ⟨o, ho, r⟩ := il
    exact ⟨o, Heap.get?_push_of_some _ ho, r⟩
  · intro p hp
    rw [List.mem_singleton.mp hp]
    exact Heap.get?_push_of_some _ (N _ hl).1
def RangeAt (a : Int) (i : Nat) (v : Value) : Prop := ∃ t, v = .int (a + i * 1) t
theorem iter_range_N {r : Addr} {a b : Int} {t u v : Tok} {n : Nat} (F : Fr h₀ L s.heap m) (N : News h₀ L s.heap news) (hr : IsRange s.heap r a b 1 t u v) (hsmall : Builtin.Range.small a b 1 = true) (hn : Builtin.Range.rangeSize a b 1 = (n : Int))
    (h : ∀ I oI St h', Src prog w I oI [] n (RangeAt a) [I] St → Fr h₀ L h' m → News h₀ L h' ((I, oI) :: news) → (∀ p ∈ news, p.1 < I) → Q (.ref I) { s with heap := h' }) :
    wpAny (model prog w) A (pyIter (.ref r)) Q E s := by
  refine wpAny_pyIter_range hr hsmall ?_
  refine h _ _ (fun i h => IsRangeIter h s.heap.objs.size (a + (i : Nat) * 1) ((n : Int) - (i : Nat)) 1) _ ⟨fun A' hA => Walks.range hA _ a 1 n, fun b hb => .inl (by simpa using hb), fun i h st => ⟨_, st⟩, ?_⟩ (F.push _) (N.push F _) fun p hp => Heap.lt_size (N p hp).1
  refine SrcAt.next (h := s.heap.push _) (Walks.range (prog := prog) (w := w) (A := ⟨none, 0, none, none, 0⟩) rfl _ a 1 n) (fun b hb => .inl (by simpa using hb)) ?_ (Heap.get?_push_size _ rfl) (fun _ h => nomatch h)
  show IsRangeIter _ _ _ _ _
  rw [hn]
  simpa using Heap.get?_push_size _ rfl
end
end Mine
end
section
open PySem PySem.W PyProof.Rows PySem.Calls
namespace Mine
theorem join_txts : ∀ ls : List (List Nat), Txt.join (Str.ofString "") (ls.map fun l => txt l) = txt ls.flatten := by
  intro ls
  rw [eq_of_beq (join_plain_closes _ _)]
  induction ls with
  | nil => rfl
  | cons x r ih =>
    cases r with
    | nil => show txt x = _; rw [List.flatten_cons, List.flatten_nil, List.append_nil]
    | cons y r =>
      show txt x ++ Str.ofString "" ++ Str.join _ ((y :: r).map fun l => txt l) = _
      rw [ih, List.flatten_cons (l := x), ← txt_app, show txt x ++ Str.ofString "" = txt x from by rw [show Str.ofString "" = txt [] from rfl, txt_app, List.append_nil]]
theorem StrsAre.snoc {vs : List Value} {ys : List Str} (h : StrsAre vs ys) (y : Str) (t : Tok) : StrsAre (vs ++ [.str y t]) (ys ++ [y]) := h.append' (.cons _ _ .nil)
theorem IntsAre.snoc {vs : List Value} {ys : List Int} (h : IntsAre vs ys) (y : Int) (t : Tok) : IntsAre (vs ++ [.int y t]) (ys ++ [y]) := h.append (.cons _ _ .nil)
theorem take_snoc {α : Type} {l : List α} {i : Nat} {x : α} (h : l[i]? = some x) : l.take (i + 1) = l.take i ++ [x] := by
  rw [List.take_add_one, h]; rfl
theorem flatten_ones : ∀ l : List UInt8, (l.map fun c => [c.toNat]).flatten = l.map (·.toNat)
  | [] => rfl
  | a :: r => by rw [List.map_cons, List.flatten_cons, flatten_ones r]; rfl
theorem slice_one (l : List Nat) : Txt.slice (txt l) none (some 1) = txt (l.take 1) := by
  have e : Txt.slice (txt l) none (some 1) = Txt.slice (txt l) (some ((0 : Nat) : Int)) (some (((0 : Nat) : Int) + 1)) := rfl
  rw [e, slice_sgn]; rfl
theorem no_head {l : List Nat} {c : Nat} (h : (Txt.slice (txt l) none (some 1) == txt [c]) = true) : l.head? = some c := by
  rw [slice_one] at h
  have e := txt_inj (eq_of_beq h)
  cases l with
  | nil => cases e
  | cons a r => simp only [List.take_succ_cons, List.take_zero] at e; cases e; rfl
abbrev numOf (l : List Nat) : Int := l.foldl (fun (n : Int) (c : Nat) => n * 16 + (c : Int) - 65) 0
theorem numOf_snoc {l : List Nat} {i c : Nat} (h : l[i]? = some c) : numOf (l.take (i + 1)) = numOf (l.take i) * 16 + (c : Int) - 65 := by
  rw [numOf, take_snoc h, List.foldl_append]; rfl
/-- what _law_written makes of a word -/
def wrt (l : List Nat) (way : Nat) : List Nat :=
  (if l = [] ∨ way % 3 = 2 then [34] ++ l ++ [34] else if way % 3 = 1 then (l.map fun c => [92, c]).flatten else l) ++ [[32, 10, 9, 13].getD (way / 3 % 4) 0]
theorem item_ws (way : Nat) : Txt.item (Str.ofString " \n\t\r") (((way : Int).fdiv 3).fmod 4) = txt [[32, 10, 9, 13].getD (way / 3 % 4) 0] := by
  have e : ((way : Int).fdiv 3).fmod 4 = ((way / 3 % 4 : Nat) : Int) := by
    rw [Int.fdiv_eq_ediv_of_nonneg _ (by decide), Int.fmod_eq_emod_of_nonneg _ (by decide)]; omega
  rw [e]
  have hk : way / 3 % 4 < 4 := Nat.mod_lt _ (by decide)
  generalize way / 3 % 4 = k at hk
  match k, hk with
  | 0, _ => rfl
  | 1, _ => rfl
  | 2, _ => rfl
  | 3, _ => rfl
theorem fmod3 {way : Nat} {k : Nat} : (way : Int).fmod 3 = (k : Int) ↔ way % 3 = k := by
  rw [Int.fmod_eq_emod_of_nonneg _ (by decide)]; omega
theorem join_map {α : Type} (f : α → List Nat) (l : List α) : Txt.join (Str.ofString "") (l.map fun c => txt (f c)) = txt (l.map f).flatten := by
  have e : (l.map fun c => txt (f c)) = ((l.map f).map fun x => txt x) := by rw [List.map_map]; rfl
  rw [e, join_txts]
theorem weigh_map {α : Type} (f : α → List Nat) (k : Nat) : ∀ l : List α, (∀ a ∈ l, (f a).length ≤ k) → ((l.map fun c => txt (f c)).map (·.length)).sum + (l.map fun c => txt (f c)).length ≤ (k + 1) * l.length
  | [], _ => by simp
  | a :: r, h => by
    have ih := weigh_map f k r fun x hx => h x (.tail _ hx)
    have h1 := h a (.head _)
    simp only [List.map_cons, List.sum_cons, List.length_cons, txt_len, List.length_map] at ih ⊢
    rw [Nat.mul_add]
    omega
theorem flat2_len : ∀ l : List Nat, (l.map fun c => [92, c]).flatten.length = 2 * l.length
  | [] => rfl
  | a :: r => by rw [List.map_cons, List.flatten_cons, List.length_append, flat2_len r]; simp only [List.length_cons, List.length_nil]; omega
/-- a number's word -/
def wcode (x : Int) : List Nat := (apL x.natAbs).map (·.toNat)
/-- what a turn lays for the place j -/
def dw (ns : List Int) (j : Nat) : List Nat := wcode (ns.getD j 0 - ns.getD ((j + 1) % ns.length) 0)
theorem strs_head {vs : List Value} {x : List Nat} {r : List (List Nat)} (h : StrsAre vs ((x :: r).map fun l => txt l)) : ∃ t vs', vs = .str (txt x) t :: vs' ∧ StrsAre vs' (r.map fun l => txt l) := by
  cases h with
  | cons y t h => exact ⟨t, _, rfl, h⟩
theorem nums_bound {ns : List Int} {b : Nat} (h : ∀ x ∈ ns, x.natAbs < b) (j : Nat) (hb : 0 < b := by decide) : (ns.getD j 0).natAbs < b := by
  rw [List.getD_eq_getElem?_getD]
  by_cases hj : j < ns.length
  · rw [List.getElem?_eq_getElem hj]; exact h _ (List.getElem_mem hj)
  · rw [List.getElem?_eq_none (Nat.not_lt.mp hj)]; exact hb
theorem getD_take {l : List Int} {i k : Nat} (h : i < k) : (l.take k).getD i 0 = l.getD i 0 := by
  rw [List.getD_eq_getElem?_getD, List.getD_eq_getElem?_getD, List.getElem?_take, if_pos h]
end Mine
end
section
open PySem PySem.W PyProof.Rows PySem.Calls
namespace Mine
theorem CompEnd.same {σ : Type} {h₀ : Heap} {L : Addr} {m : Str → Option Value} {s : Shared} {C D I : Addr} {oC oD oI : Obj} {Led : σ → List (Addr × Obj)} {P : σ → Prop} {h' : Heap} {tk : Nat} (c : σ)
    (F : Fr h₀ L h' m) (N : News h₀ L h' ((C, oC) :: (D, oD) :: (I, oI) :: Led c)) (ho : Off C D ((I, oI) :: Led c)) (hp : P c) :
    CompEnd h₀ L m s [(C, oC), (D, oD), (I, oI)] C D Led P { s with heap := h', toks := tk } :=
  CompEnd.intro c F N (fun p hp => by
    rcases List.mem_cons.mp hp with rfl | hp
    · exact .head _
    · rcases List.mem_cons.mp hp with rfl | hp
      · exact .tail _ (.head _)
      · rcases List.mem_cons.mp hp with rfl | hp
        · exact .tail _ (.tail _ (.head _))
        · cases hp) (fun p hp => .tail _ (.tail _ (.tail _ hp))) (fun p hp => ho p (.tail _ hp)) hp
set_option maxHeartbeats 4000000
section
variable {prog : Program} {w : World} {A : Around} {E : Value → Shared → Prop} {Q : Value → Shared → Prop} {s : Shared} {env : Env} {h₀ : Heap} {L : Addr} {m : Str → Option Value}
  {elt iter : Expr} {x : Str} {px : Pos} {ifs : List Expr} {scope : Scope} {cl : List (Str × Addr)} {pos : Pos}

theorem comp_ledS {σ : Type} {it : Value} (Led : σ → List (Addr × Obj)) (J : Nat → List Value → σ → Prop) (Mid : Nat → List Value → Value → σ → Prop) (Fin : List Value → σ → Prop) (n₀ : Nat) (c₀ : σ)
    (F : Fr h₀ L s.heap m) (N : News h₀ L s.heap (Led c₀)) (hj : J n₀ [] c₀)
    (hself : ∀ (s' : Shared) (R : Value → Shared → Prop) E', (∀ p ∈ Led c₀, s'.heap.get? p.1 = some p.2) → R it s' → wpAny (model prog w) A (pyIter it) R E' s')
    (draw : ∀ (n : Nat) (ys : List Value) (c : σ) C D oC kD h tk, J n ys c → Fr h₀ L h m → News h₀ L h ((C, oC) :: (D, listOf ys.toArray kD) :: Led c) → Off C D (Led c) →
      wpAny (model prog w) A (pyNext it) (CompTurn h₀ L m s [(C, oC), (D, listOf ys.toArray kD)] C D Led (Fin ys) (Mid n ys)) FalseE { s with heap := h, toks := tk })
    (turn : ∀ (n : Nat) (ys : List Value) (v : Value) (c : σ) C D oC mC kD h tk, Mid n ys v c → Fr h₀ L h m → News h₀ L h ((C, oC) :: (D, listOf ys.toArray kD) :: Led c) → Off C D (Led c) → C ≠ D → NsObj oC mC → mC x = some v →
      wpAny (model prog w) A (testsOf ifs (compEnvC scope cl C env)) (fun ok s₃ =>
        if ok = true then wpAny (model prog w) A (eval elt (compEnvC scope cl C env)) (fun y s₄ => CompEnd h₀ L m s [(C, oC), (D, listOf ys.toArray kD)] C D Led (fun c' => ∃ n', n' < n ∧ J n' (ys ++ [y]) c') s₄) FalseE s₃
        else CompEnd h₀ L m s [(C, oC), (D, listOf ys.toArray kD)] C D Led (fun c' => ∃ n', n' < n ∧ J n' ys c') s₃) FalseE { s with heap := h, toks := tk })
    (hsz : ∀ n ys c, J n ys c → ys.length ≤ sizeLine)
    (done : ∀ (ys : List Value) (c : σ) D kD h tk, Fin ys c → Fr h₀ L h m → News h₀ L h ((D, listOf ys.toArray kD) :: Led c) → (∀ p ∈ Led c, p.1 ≠ D) → (∀ p ∈ Led c₀, p.1 < D) → Q (.ref D) { s with heap := h, toks := tk })
    (hcell : ∀ y ∈ scope.names, y.2 ≠ .cell) (hkind : scope.kind = .function) (hx : scope.names.lookup x = some .local) (hf : ∀ p ∈ Led c₀, p.1 < s.heap.objs.size) :
    CompAt prog w A env elt iter x px ifs scope cl pos E Q it s := by
  unfold CompAt
  have hh0 : ∀ a, s.heap.objs.size ≤ a → h₀.get? a = none := fun a ha => by
    cases e : h₀.get? a with
    | none => rfl
    | some o => exact absurd (Heap.lt_size (F.keep _ _ e)) (Nat.not_lt.mpr ha)
  have hL : L < s.heap.objs.size := F.ns.lt
  refine wpAny_newObj_type (wpAny_newFunctionEnv hcell (by intro y hy; simp at hy) (fun h₁ hns₁ hsb₁ => ?_) hkind)
  dsimp only at hns₁ hsb₁ ⊢
  generalize hH2 : s.heap.push { cls := .type "list", dict := none, data := .seq ([] : List Value).toArray } = H2 at hns₁ hsb₁ ⊢
  have hC : H2.objs.size = s.heap.objs.size + 1 := by rw [← hH2, Heap.size_push]
  have hDC : s.heap.objs.size ≠ H2.objs.size := by rw [hC]; exact Nat.ne_of_lt (Nat.lt_succ_self _)
  have old : ∀ b o, s.heap.get? b = some o → h₁.get? b = some o := fun b o e => hsb₁.extBut b o (by rw [hC]; exact Nat.ne_of_lt (Nat.lt_succ_of_lt (Heap.lt_size e))) (Heap.get?_push_of_some _ (hH2 ▸ Heap.get?_push_of_some _ e))
  have hacc : h₁.get? s.heap.objs.size = some (listOf #[] 0) := hsb₁.extBut _ _ hDC (Heap.get?_push_of_some _ (hH2 ▸ Heap.get?_push_size _ rfl))
  obtain ⟨oC, hoC, hnC⟩ := NsObj.of hns₁
  have F₁ : Fr h₀ L h₁ m := F.keeps old
  have N₁ : News h₀ L h₁ ((H2.objs.size, oC) :: (s.heap.objs.size, listOf ([] : List Value).toArray 0) :: Led c₀) := by
    intro p hp
    rcases List.mem_cons.mp hp with rfl | hp
    · exact ⟨hoC, (by rw [hC]; exact Nat.ne_of_gt (Nat.lt_succ_of_lt hL)), hh0 _ (by rw [hC]; exact Nat.le_succ _)⟩
    · rcases List.mem_cons.mp hp with rfl | hp
      · exact ⟨hacc, Nat.ne_of_gt hL, hh0 _ (Nat.le_refl _)⟩
      · exact ⟨old _ _ (N p hp).1, (N p hp).2⟩
  have hoff : Off H2.objs.size s.heap.objs.size (Led c₀) := fun p hp => ⟨by rw [hC]; exact Nat.ne_of_lt (Nat.lt_succ_of_lt (hf p hp)), Nat.ne_of_lt (hf p hp)⟩
  have loop : codeAny (model prog w) A (.compLoop (.ListComp elt [⟨.Name x px, iter, ifs, 0⟩] scope pos) 0 it (.ref s.heap.objs.size) (compEnvC scope cl H2.objs.size env))
      (compPost (model prog w) A E none Q (.ref s.heap.objs.size) H2.objs.size) { s with heap := h₁, toks := s.toks + ([] : List (Str × Value)).length } := by
    refine codeAny_compLoop_tests (fun n s' => ∃ (ys : List Value) (c : σ) (oC : Obj) (mC : Str → Option Value) (kD : Nat) (h : Heap) (tk : Nat), s' = { s with heap := h, toks := tk } ∧ J n ys c ∧ Fr h₀ L h m ∧
        News h₀ L h ((H2.objs.size, oC) :: (s.heap.objs.size, listOf ys.toArray kD) :: Led c) ∧ Off H2.objs.size s.heap.objs.size (Led c) ∧ NsObj oC mC) ?_ n₀
      ⟨[], c₀, oC, _, 0, h₁, _, rfl, hj, F₁, N₁, hoff, hnC⟩
    rintro n s' ⟨ys, c, oC, mC, kD, h, tk, rfl, hJ, F₂, N₂, hoff₂, hn₂⟩
    refine wpAny_mono (draw n ys c _ _ oC kD h tk hJ F₂ N₂ hoff₂) (fun r s₁ hr => ?_) fun _ _ e => e.elim
    cases r with
    | none =>
      obtain ⟨c', h', tk', news', rfl, F', N', hk, hn, ho, hfin⟩ := hr
      have NC := N' _ (hk _ (.head _))
      refine ⟨mC, hn₂.ns NC.1, fun h'' hs'' => ?_⟩
      refine done ys c' s.heap.objs.size kD h'' tk' hfin ?_ (fun p hp => ?_) (fun p hp => (ho p hp).2) hf
      · exact ⟨F'.ns.sameBut hs'' (Ne.symm NC.2.1), fun b o e => (hs''.2 b (fun q => by rw [q, NC.2.2] at e; cases e)).trans (F'.keep b o e), F'.above⟩
      · rcases List.mem_cons.mp hp with rfl | hp
        · have z := N' _ (hk _ (.tail _ (.head _)))
          exact ⟨(hs''.2 _ hDC).trans z.1, z.2⟩
        · have z := N' _ (hn _ hp)
          exact ⟨(hs''.2 _ (ho p hp).1).trans z.1, z.2⟩
    | some v =>
      obtain ⟨c', h', tk', news', rfl, F', N', hk, hn, ho, hmid⟩ := hr
      have NC := N' _ (hk _ (.head _))
      have ND := N' _ (hk _ (.tail _ (.head _)))
      refine wpAny_assign_Name (wpAny_storeName_local (lookup_relabel_local hx) (hn₂.ns NC.1) (fun h₃ hn₃ hs₃ => ?_) (by simp [compEnvC, relabel, hkind]))
      obtain ⟨oC', hoC', hnC'⟩ := NsObj.of hn₃
      have F₃ : Fr h₀ L h₃ m := ⟨F'.ns.sameBut hs₃ (Ne.symm NC.2.1), fun b o e => (hs₃.2 b (fun q => by rw [q] at e; change h₀.get? H2.objs.size = some o at e; rw [NC.2.2] at e; cases e)).trans (F'.keep b o e), F'.above⟩
      have N₃ : News h₀ L h₃ ((H2.objs.size, oC') :: (s.heap.objs.size, listOf ys.toArray kD) :: Led c') := by
        intro p hp
        rcases List.mem_cons.mp hp with rfl | hp
        · exact ⟨hoC', NC.2⟩
        · rcases List.mem_cons.mp hp with rfl | hp
          · exact ⟨(hs₃.2 _ hDC).trans ND.1, ND.2⟩
          · have z := N' _ (hn _ hp)
            exact ⟨(hs₃.2 _ (ho p hp).1).trans z.1, z.2⟩
      refine wpAny_mono (turn n ys v c' _ _ oC' _ kD h₃ _ hmid F₃ N₃ ho (Ne.symm hDC) hnC' (by simp)) (fun ok s₃ hok => ?_) fun _ _ e => e.elim
      cases ok with
      | false =>
        simp only [Bool.false_eq_true, if_false] at hok ⊢
        obtain ⟨c₂, h₄, tk₄, news₄, rfl, F₄, N₄, hk₄, hn₄, ho₄, n', hlt, hJ'⟩ := hok
        refine ⟨n', hlt, ys, c₂, oC', _, kD, h₄, tk₄, rfl, hJ', F₄, fun p hp => ?_, ho₄, hnC'⟩
        rcases List.mem_cons.mp hp with rfl | hp
        · exact N₄ _ (hk₄ _ (.head _))
        · rcases List.mem_cons.mp hp with rfl | hp
          · exact N₄ _ (hk₄ _ (.tail _ (.head _)))
          · exact N₄ _ (hn₄ _ hp)
      | true =>
        simp only [if_true] at hok ⊢
        refine wpAny_mono hok (fun y s₄ hy => ?_) fun _ _ e => e.elim
        obtain ⟨c₂, h₄, tk₄, news₄, rfl, F₄, N₄, hk₄, hn₄, ho₄, n', hlt, hJ'⟩ := hy
        have N₅ : News h₀ L h₄ ((H2.objs.size, oC') :: (s.heap.objs.size, listOf ys.toArray kD) :: Led c₂) := fun p hp => by
          rcases List.mem_cons.mp hp with rfl | hp
          · exact N₄ _ (hk₄ _ (.head _))
          · rcases List.mem_cons.mp hp with rfl | hp
            · exact N₄ _ (hk₄ _ (.tail _ (.head _)))
            · exact N₄ _ (hn₄ _ hp)
        refine append_K (news' := (H2.objs.size, oC') :: (s.heap.objs.size, listOf (ys.toArray.push y) (kD + 1)) :: Led c₂) F₄ N₅ (.tail (Ne.symm hDC) (.head fun p hp => (ho₄ p hp).2)) (fun h₅ F₅ N₆ => ?_) (by have z := hsz _ _ _ hJ'; rw [List.length_append] at z; rw [List.size_toArray]; omega)
        exact ⟨n', hlt, ys ++ [y], c₂, oC', _, kD + 1, h₅, _, rfl, hJ', F₅, by rw [← List.push_toArray]; exact N₆, ho₄, hnC'⟩
  exact codeAny_compStart_list loop (hself _ _ _ (fun p hp => (N₁ p (.tail _ (.tail _ hp))).1) loop)

theorem comp_srcS {σ : Type} {I : Addr} {oI : Obj} {fx : List (Addr × Obj)} {n : Nat} {P : Nat → Value → Prop} {fp : List Addr} {St : Nat → Heap → Prop}
    (S : Src prog w I oI fx n P fp St) (hA : A.handled = none) (Led : σ → List (Addr × Obj)) (J : Nat → List Value → σ → Prop) (c₀ : σ)
    (F : Fr h₀ L s.heap m) (N : News h₀ L s.heap ((I, oI) :: Led c₀)) (hI : ∀ p ∈ Led c₀, p.1 ≠ I) (hfx : ∀ i ys c, J i ys c → ∀ p ∈ fx, p ∈ Led c) (hj : J 0 [] c₀)
    (turn : ∀ (i : Nat) (ys : List Value) (v : Value) (c : σ) C D oI' oC mC kD h tk, i < n → P i v → J i ys c → Fr h₀ L h m → News h₀ L h ((C, oC) :: (D, listOf ys.toArray kD) :: (I, oI') :: Led c) → Off C D ((I, oI') :: Led c) → (∀ p ∈ Led c, p.1 ≠ I) → C ≠ D → NsObj oC mC → mC x = some v →
      wpAny (model prog w) A (testsOf ifs (compEnvC scope cl C env)) (fun ok s₃ =>
        if ok = true then wpAny (model prog w) A (eval elt (compEnvC scope cl C env)) (fun y s₄ => CompEnd h₀ L m s [(C, oC), (D, listOf ys.toArray kD), (I, oI')] C D Led (fun c' => (∀ p ∈ Led c', p.1 ≠ I) ∧ J (i + 1) (ys ++ [y]) c') s₄) FalseE s₃
        else CompEnd h₀ L m s [(C, oC), (D, listOf ys.toArray kD), (I, oI')] C D Led (fun c' => (∀ p ∈ Led c', p.1 ≠ I) ∧ J (i + 1) ys c') s₃) FalseE { s with heap := h, toks := tk })
    (hsz : ∀ i ys c, J i ys c → ys.length ≤ sizeLine)
    (done : ∀ (ys : List Value) (c : σ) D kD h tk, J n ys c → Fr h₀ L h m → News h₀ L h ((D, listOf ys.toArray kD) :: Led c) → (∀ p ∈ Led c, p.1 ≠ D) → (∀ p ∈ Led c₀, p.1 < D) → Q (.ref D) { s with heap := h, toks := tk })
    (hcell : ∀ y ∈ scope.names, y.2 ≠ .cell) (hkind : scope.kind = .function) (hx : scope.names.lookup x = some .local) :
    CompAt prog w A env elt iter x px ifs scope cl pos E Q (.ref I) s := by
  refine comp_ledS (σ := σ × List (Addr × Obj) × Nat) (fun c => c.2.1 ++ Led c.1)
    (fun k ys c => k = n - c.2.2 ∧ c.2.2 ≤ n ∧ (∀ p ∈ Led c.1, p.1 ≠ I) ∧ (∃ oI, c.2.1 = [(I, oI)] ∧ SrcAt St fp c.2.2 ((I, oI) :: fx)) ∧ J c.2.2 ys c.1)
    (fun k ys v c => k = n - c.2.2 ∧ c.2.2 < n ∧ P c.2.2 v ∧ (∀ p ∈ Led c.1, p.1 ≠ I) ∧ (∃ oI, c.2.1 = [(I, oI)] ∧ SrcAt St fp (c.2.2 + 1) ((I, oI) :: fx)) ∧ J c.2.2 ys c.1)
    (fun ys c => J n ys c.1) n (c₀, [(I, oI)], 0) F N ⟨rfl, Nat.zero_le _, hI, ⟨oI, rfl, S.at0⟩, hj⟩ ?_ ?_ ?_ ?_ ?_ hcell hkind hx ?_
  · intro s' R E' hs hR
    exact (S.walks A hA).self 0 s' R E' (S.at0.st (S.walks A hA) fun p hp => hs p (by
      rcases List.mem_cons.mp hp with rfl | hp
      · exact .head _
      · exact .tail _ (hfx _ _ _ hj p hp))) hR
  · rintro k ys ⟨c, lI, i⟩ C D oC kD h tk ⟨hk', hle, hI', ⟨oI', hlI, hat⟩, hJ⟩ F' N' off
    dsimp only at hk' hle hI' hlI hat hJ N' off
    subst hlI
    have ND : News h₀ L h ((I, oI') :: ((C, oC) :: (D, listOf ys.toArray kD) :: Led c)) := fun p hp => N' p (by
      rcases List.mem_cons.mp hp with rfl | hp
      · exact .tail _ (.tail _ (.head _))
      · rcases List.mem_cons.mp hp with rfl | hp
        · exact .head _
        · rcases List.mem_cons.mp hp with rfl | hp
          · exact .tail _ (.head _)
          · exact .tail _ (.tail _ (.tail _ hp)))
    have hoff := off _ (.head _)
    have hI2 : ∀ p ∈ ((C, oC) :: (D, listOf ys.toArray kD) :: Led c), p.1 ≠ I := fun p hp => by
      rcases List.mem_cons.mp hp with rfl | hp
      · exact Ne.symm hoff.1
      · rcases List.mem_cons.mp hp with rfl | hp
        · exact Ne.symm hoff.2
        · exact hI' p hp
    have offc : Off C D (Led c) := fun p hp => off p (.tail _ hp)
    by_cases hi : i < n
    · refine draw_src (S.walks A.in1 hA).of_in1 S.fpin S.has hi hat F' ND (fun p hp => .tail _ (.tail _ (hfx _ _ _ hJ p hp))) hI2 fun v oI'' h' tk' hP hat' F2 N2 => ?_
      dsimp only [CompTurn]
      refine CompEnd.intro (c, [(I, oI'')], i) F2 N2 (fun p hp => ?_) (fun p hp => ?_) (fun p hp => ?_) ⟨hk', hi, hP, hI', ⟨_, rfl, hat'⟩, hJ⟩
      · rcases List.mem_cons.mp hp with rfl | hp
        · exact .tail _ (.head _)
        · rcases List.mem_cons.mp hp with rfl | hp
          · exact .tail _ (.tail _ (.head _))
          · cases hp
      · rcases List.mem_cons.mp hp with rfl | hp
        · exact .head _
        · exact .tail _ (.tail _ (.tail _ hp))
      · rcases List.mem_cons.mp hp with rfl | hp
        · exact hoff
        · exact offc p hp
    · have e : i = n := by omega
      subst e
      refine end_src (S.walks A.in1 hA).of_in1 hat F' ND (fun p hp => .tail _ (.tail _ (hfx _ _ _ hJ p hp))) hI2 fun h' tk' F2 N2 => ?_
      dsimp only [CompTurn]
      refine CompEnd.intro (c, [], i) F2 N2 (fun p hp => ?_) (fun p hp => .tail _ (.tail _ hp)) offc hJ
      rcases List.mem_cons.mp hp with rfl | hp
      · exact .head _
      · rcases List.mem_cons.mp hp with rfl | hp
        · exact .tail _ (.head _)
        · cases hp
  · rintro k ys v ⟨c, lI, i⟩ C D oC mC kD h tk ⟨hk', hi, hP, hI', ⟨oI', hlI, hat⟩, hJ⟩ F' N' off hCD hns hxv
    dsimp only at hk' hi hP hI' hlI hat hJ N' off
    subst hlI
    refine wpAny_mono (turn i ys v c C D oI' oC mC kD h tk hi hP hJ F' N' off hI' hCD hns hxv) (fun ok s₃ hok => ?_) fun _ _ e => e
    have conv : ∀ (ys' : List Value) s', CompEnd h₀ L m s [(C, oC), (D, listOf ys.toArray kD), (I, oI')] C D Led (fun c' => (∀ p ∈ Led c', p.1 ≠ I) ∧ J (i + 1) ys' c') s' →
        CompEnd h₀ L m s [(C, oC), (D, listOf ys.toArray kD)] C D (fun (c : σ × List (Addr × Obj) × Nat) => c.2.1 ++ Led c.1) (fun (c' : σ × List (Addr × Obj) × Nat) => ∃ n', n' < k ∧ (n' = n - c'.2.2 ∧ c'.2.2 ≤ n ∧ (∀ p ∈ Led c'.1, p.1 ≠ I) ∧ (∃ oI, c'.2.1 = [(I, oI)] ∧ SrcAt St fp c'.2.2 ((I, oI) :: fx)) ∧ J c'.2.2 ys' c'.1)) s' := by
      rintro ys' s' ⟨c', h', tk', news', rfl, F2, N2, hk2, hn2, ho2, hI2, hJ2⟩
      refine CompEnd.intro (c', [(I, oI')], i + 1) F2 N2 (fun p hp => ?_) (fun p hp => ?_) (fun p hp => ?_) ⟨n - (i + 1), by omega, rfl, hi, hI2, ⟨_, rfl, hat⟩, hJ2⟩
      · rcases List.mem_cons.mp hp with rfl | hp
        · exact hk2 _ (.head _)
        · rcases List.mem_cons.mp hp with rfl | hp
          · exact hk2 _ (.tail _ (.head _))
          · cases hp
      · rcases List.mem_cons.mp hp with rfl | hp
        · exact hk2 _ (.tail _ (.tail _ (.head _)))
        · exact hn2 p hp
      · rcases List.mem_cons.mp hp with rfl | hp
        · exact off _ (.head _)
        · exact ho2 p hp
    cases ok with
    | true =>
      simp only [if_true] at hok ⊢
      exact wpAny_mono hok (fun y s₄ hy => conv _ _ hy) fun _ _ e => e
    | false =>
      simp only [Bool.false_eq_true, if_false] at hok ⊢
      exact conv _ _ hok
  · rintro k ys ⟨c, lI, i⟩ ⟨_, _, _, _, hJ⟩
    exact hsz _ _ _ hJ
  · rintro ys ⟨c, lI, i⟩ D kD h tk hJ F' N' hD hD0
    refine done ys c D kD h tk hJ F' (fun p hp => N' p ?_) (fun p hp => hD p (List.mem_append_right _ hp)) fun p hp => hD0 p (List.mem_append_right _ hp)
    rcases List.mem_cons.mp hp with rfl | hp
    · exact .head _
    · exact .tail _ (List.mem_append_right _ hp)
  · intro p hp
    exact Heap.lt_size (N p hp).1

/-- what an element without traces leaves -/
def PureEnd (h₀ : Heap) (L : Addr) (m : Str → Option Value) (s : Shared) (all : List (Addr × Obj)) (P : Prop) (s₂ : Shared) : Prop := ∃ h' tk, s₂ = { s with heap := h', toks := tk } ∧ Fr h₀ L h' m ∧ News h₀ L h' all ∧ P
theorem PureEnd.intro {h₀ : Heap} {L : Addr} {m : Str → Option Value} {s : Shared} {all : List (Addr × Obj)} {P : Prop} {h' : Heap} {tk : Nat} (F : Fr h₀ L h' m) (N : News h₀ L h' all) (hp : P) : PureEnd h₀ L m s all P { s with heap := h', toks := tk } := ⟨h', tk, rfl, F, N, hp⟩
theorem comp_pure {I : Addr} {oI : Obj} {fx news : List (Addr × Obj)} {n : Nat} {P : Nat → Value → Prop} {fp : List Addr} {St : Nat → Heap → Prop}
    (S : Src prog w I oI fx n P fp St) (hA : A.handled = none) (J : Nat → List Value → Prop)
    (F : Fr h₀ L s.heap m) (N : News h₀ L s.heap ((I, oI) :: news)) (hI : ∀ p ∈ news, p.1 < I) (hfx : ∀ p ∈ fx, p ∈ news) (hj : J 0 [])
    (turn : ∀ (i : Nat) (ys : List Value) (v : Value) C D oI' oC mC kD h tk, i < n → P i v → J i ys → Fr h₀ L h m → News h₀ L h ((C, oC) :: (D, listOf ys.toArray kD) :: (I, oI') :: news) → LCg.NsObj oC mC → mC x = some v →
      wpAny (model prog w) A (testsOf ifs (compEnvC scope cl C env)) (fun ok s₃ =>
        if ok = true then wpAny (model prog w) A (eval elt (compEnvC scope cl C env)) (fun y s₄ => PureEnd h₀ L m s ((C, oC) :: (D, listOf ys.toArray kD) :: (I, oI') :: news) (J (i + 1) (ys ++ [y])) s₄) FalseE s₃
        else PureEnd h₀ L m s ((C, oC) :: (D, listOf ys.toArray kD) :: (I, oI') :: news) (J (i + 1) ys) s₃) FalseE { s with heap := h, toks := tk })
    (hsz : ∀ i ys, J i ys → ys.length ≤ sizeLine)
    (done : ∀ (ys : List Value) D kD h tk, J n ys → Fr h₀ L h m → News h₀ L h ((D, listOf ys.toArray kD) :: news) → (∀ p ∈ news, p.1 < D) → Q (.ref D) { s with heap := h, toks := tk })
    (hcell : ∀ y ∈ scope.names, y.2 ≠ .cell) (hkind : scope.kind = .function) (hx : scope.names.lookup x = some .local) :
    CompAt prog w A env elt iter x px ifs scope cl pos E Q (.ref I) s := by
  refine comp_srcS (σ := Unit) S hA (fun _ => news) (fun i ys _ => J i ys) () F N (fun p hp => Nat.ne_of_lt (hI p hp)) (fun _ _ _ _ => hfx) hj ?_ (fun i ys _ => hsz i ys) (fun ys _ D kD h tk hJ F' N' _ lt => done ys D kD h tk hJ F' N' lt) hcell hkind hx
  rintro i ys v - C D oI' oC mC kD h tk hi hP hJ F' N' off hI' hCD hns hxv
  refine wpAny_mono (turn i ys v C D oI' oC mC kD h tk hi hP hJ F' N' hns hxv) (fun ok s₃ hok => ?_) fun _ _ e => e
  have conv : ∀ ys' s', PureEnd h₀ L m s ((C, oC) :: (D, listOf ys.toArray kD) :: (I, oI') :: news) (J (i + 1) ys') s' → CompEnd h₀ L m s [(C, oC), (D, listOf ys.toArray kD), (I, oI')] C D (fun _ : Unit => news) (fun _ => (∀ p ∈ news, p.1 ≠ I) ∧ J (i + 1) ys') s' := by
    rintro ys' s' ⟨h', tk', rfl, F2, N2, hp⟩
    exact CompEnd.same () F2 N2 off ⟨fun p hp => Nat.ne_of_lt (hI p hp), hp⟩
  cases ok with
  | true =>
    simp only [if_true] at hok ⊢
    exact wpAny_mono hok (fun y s₄ hy => conv _ _ hy) fun _ _ e => e
  | false =>
    simp only [Bool.false_eq_true, if_false] at hok ⊢
    exact conv _ _ hok
end
theorem ints_at {vs : List Value} {ns : List Int} (h : IntsAre vs ns) {i : Nat} {v : Value} (hv : ItemAt vs.toArray i v) : ∃ x t, v = .int x t ∧ ns[i]? = some x := by
  have hv' : vs[i]? = some v := by simpa [ItemAt] using hv
  clear hv
  induction h generalizing i with
  | nil => cases hv'
  | cons n t h ih =>
    cases i with
    | zero => cases hv'; exact ⟨n, t, rfl, rfl⟩
    | succ i => exact ih hv'
theorem News.drop1 {h₀ h : Heap} {L : Addr} {x : Addr × Obj} {r : List (Addr × Obj)} (N : News h₀ L h (x :: r)) : News h₀ L h r := fun p hp => N p (.tail _ hp)
theorem seven_lit (a b c d e f g : Int) (t1 t2 t3 t4 t5 t6 t7 : Tok) : ∃ fs : List Value, #[Value.int a t1, .int b t2, .int c t3, .int d t4, .int e t5, .int f t6, .int g t7] = fs.toArray ∧ IntsAre fs [a, b, c, d, e, f, g] :=
  ⟨_, rfl, .cons _ _ (.cons _ _ (.cons _ _ (.cons _ _ (.cons _ _ (.cons _ _ (.cons _ _ .nil))))))⟩
def rowOf (u : Nat) (us : List Nat) : List Int := us.map fun (v : Nat) => (v : Int) * (u : Int)
theorem row_step {u i : Nat} {us : List Nat} {ys : List Value} (hs : IntsAre ys (rowOf u us)) (hl : us.length = i) (hle : ∀ v ∈ us, v ≤ 6) (x : Int) (t : Tok) :
    ∃ us' : List Nat, IntsAre (ys ++ [.int (x.fmod 7 * u) t]) (rowOf u us') ∧ us'.length = i + 1 ∧ ∀ v ∈ us', v ≤ 6 := by
  have h1 : 0 ≤ x.fmod 7 := Int.fmod_nonneg_of_pos x (by decide)
  have h2 : x.fmod 7 < 7 := Int.fmod_lt_of_pos x (by decide)
  refine ⟨us ++ [(x.fmod 7).toNat], ?_, by rw [List.length_append, hl]; rfl, fun v hv => ?_⟩
  · rw [rowOf, List.map_append]
    have e : ((x.fmod 7).toNat : Int) = x.fmod 7 := Int.toNat_of_nonneg h1
    rw [show [(x.fmod 7).toNat].map (fun v : Nat => (v : Int) * (u : Int)) = [x.fmod 7 * (u : Int)] by rw [List.map_singleton, e]]
    exact IntsAre.snoc hs _ _
  · rcases List.mem_append.mp hv with hv | hv
    · exact hle v hv
    · rw [List.mem_singleton.mp hv]; omega
theorem rowOf_get (u : Nat) (us : List Nat) (k : Nat) : (rowOf u us).getD k 0 = ((us.getD k 0 : Nat) : Int) * (u : Int) := by
  rw [List.getD_eq_getElem?_getD, List.getD_eq_getElem?_getD, rowOf, List.getElem?_map]
  cases us[k]? with
  | none => simp
  | some v => rfl
def chunk (u : Nat) (us : List Nat) (k : Nat) : List Nat := wrt (wcode (((us.getD k 0 : Nat) : Int) * (u : Int))) (us.getD k 0 + 5 * k)
theorem us_le {us : List Nat} (h : ∀ v ∈ us, v ≤ 6) (k : Nat) : us.getD k 0 ≤ 6 := by
  rw [List.getD_eq_getElem?_getD]
  by_cases hk : k < us.length
  · rw [List.getElem?_eq_getElem hk]; exact h _ (List.getElem_mem hk)
  · rw [List.getElem?_eq_none (Nat.not_lt.mp hk)]; exact Nat.zero_le _
theorem wcode_sign {x sg : Int} (h : sg.natAbs = 1) : wcode (x * sg) = wcode x := by rw [wcode, wcode, Int.natAbs_mul, h, Nat.mul_one]
theorem sign_pow (i : Nat) : ∃ sg : Int, (-1 : Int) ^ i = sg ∧ -1 ≤ sg ∧ sg ≤ 1 ∧ sg.natAbs = 1 := by
  induction i with
  | zero => exact ⟨1, rfl, by decide, by decide, rfl⟩
  | succ i ih => obtain ⟨sg, h, h1, h2, h3⟩ := ih; exact ⟨-sg, by rw [Int.pow_succ, h]; omega, by omega, by omega, by omega⟩
theorem vu_bound {v u : Nat} (hv : v ≤ 6) (hu : u ≤ 655) : v * u ≤ 3930 := Nat.mul_le_mul hv hu
theorem wcode_len {x : Int} (h : x.natAbs < 16 ^ 20) : (wcode x).length ≤ 20 := by rw [wcode, List.length_map]; exact apL_len 20 _ h
theorem wrt_len {l : List Nat} {way : Nat} : (wrt l way).length ≤ 2 * l.length + 3 := by
  rw [wrt, List.length_append, List.length_singleton]
  split
  · rw [List.length_append, List.length_append, List.length_singleton]; omega
  · split
    · rw [flat2_len]; omega
    · omega
theorem vu_nat (v u : Nat) : ((v : Int) * (u : Int)).natAbs = v * u := by rw [Int.natAbs_mul]; rfl
theorem chunk_len {u : Nat} {us : List Nat} {k : Nat} (hv : us.getD k 0 ≤ 6) (hu : u ≤ 655) : (chunk u us k).length ≤ 43 := by
  have h := wcode_len (x := ((us.getD k 0 : Nat) : Int) * (u : Int)) (by rw [vu_nat]; have := vu_bound hv hu; omega)
  have := wrt_len (l := wcode (((us.getD k 0 : Nat) : Int) * (u : Int))) (way := us.getD k 0 + 5 * k)
  rw [chunk]; omega
theorem fdiv_back {v u : Nat} (hu : 0 < u) : ((v : Int) * (u : Int)).fdiv (u : Int) = (v : Int) := by
  rw [Int.fdiv_eq_ediv_of_nonneg _ (Int.natCast_nonneg _)]
  exact Int.mul_ediv_cancel _ (by omega)
theorem flat_len {f : Nat → List Nat} {b : Nat} (h : ∀ k, (f k).length ≤ b) : ∀ n, ((List.range n).map f).flatten.length ≤ b * n
  | 0 => Nat.zero_le _
  | n + 1 => by
    have ih := flat_len h n
    rw [List.range_succ, List.map_append, List.flatten_append, List.length_append, List.map_singleton, List.flatten_singleton, Nat.mul_add]
    have := h n
    omega
end Mine
end
section
open PySem PySem.W PyProof.Rows PySem.Calls
set_option maxHeartbeats 4000000
namespace Mine
section
variable {prog : Program} {w : World} {A : Around} {E : Value → Shared → Prop} {Q : Value → Shared → Prop} {s : Shared} {env : Env} {h₀ : Heap} {L : Addr} {m : Str → Option Value}
  {elt iter : Expr} {x : Str} {px : Pos} {ifs : List Expr} {scope : Scope} {cl : List (Str × Addr)} {pos : Pos} {y : Str} {py : Pos}


/-- the block behind its iterator, its list stored in a name of the def at its end -/
def CompAtA (prog : Program) (w : World) (A : Around) (env : Env) (elt iter : Expr) (x : Str) (px : Pos) (ifs : List Expr) (scope : Scope) (cl : List (Str × Addr)) (pos : Pos) (y : Str) (py : Pos) (E : Value → Shared → Prop) (Q : Value → Shared → Prop) (it : Value) (s₂ : Shared) : Prop :=
  wpAny (model prog w) A (newList []) (fun acc s₃ => wpAny (model prog w) A (newFunctionEnv scope env.globals cl [] env.qual none .none (some env)) (fun cenv s₄ =>
    codeAny (model prog w) A (.compStart (.ListComp elt [⟨.Name x px, iter, ifs, 0⟩] scope pos) 0 it acc { cenv with scope := relabel scope env }) (compPost (model prog w) A E (some (assign (.Name y py) env)) Q acc cenv.locals) s₄) E s₃) E s₂

theorem comp_openA {spos : Pos} {Qf : Flow → Shared → Prop} (hsw : swapsWith (.ListComp elt [⟨.Name x px, iter, ifs, 0⟩] scope pos) (some (.Name y py)) spos.line env = pure true)
    (hclos : closureFor scope env = pure cl) (hkind : scope.kind = .function) (hnames : ∀ y ∈ scope.names, y.2 = .local → scope.names.lookup y.1 = some .local)
    (h : wpAny (model prog w) A (eval iter env) (fun xv s₁ => wpAny (model prog w) A (pyIter xv) (fun it s₂ => CompAtA prog w A env elt iter x px ifs scope cl pos y py E (fun _ s' => Qf .next s') it s₂) E s₁) E s)
    (hs : ∀ x, foldedSetIterable iter env x = pure x) :
    wpAny (model prog w) A (exec (.Assign [.Name y py] (.ListComp elt [⟨.Name x px, iter, ifs, 0⟩] scope pos) spos) env) Qf E s := by
  rw [exec_Assign_Name_used _ _ _ _ hsw]
  refine wpAny_bind (wpAny_standAt (wpAny_bind ?_))
  show wpAny _ A (do let _ ← comprehension (.ListComp elt [⟨.Name x px, iter, ifs, 0⟩] scope pos) scope env _ (newList []) false (eval iter env) (some (assign (.Name y py) env))) _ _ s
  refine wpAny_bind (wpAny_mono (wpAny_comprehension_free (use := some (assign (.Name y py) env)) (Q := fun _ s' => Qf .next s') rfl hs hclos hkind hnames
    (wpAny_mono h (fun xv s₁ h₁ => h₁) fun _ _ e => e)) (fun _ s' hq => wpAny_pure (wpAny_pure hq)) fun _ _ e => e)

theorem comp_ledA {σ : Type} {it : Value} (Led : σ → List (Addr × Obj)) (J : Nat → List Value → σ → Prop) (Mid : Nat → List Value → Value → σ → Prop) (Fin : List Value → σ → Prop) (n₀ : Nat) (c₀ : σ)
    (F : Fr h₀ L s.heap m) (N : News h₀ L s.heap (Led c₀)) (hj : J n₀ [] c₀)
    (hself : ∀ (s' : Shared) (R : Value → Shared → Prop) E', (∀ p ∈ Led c₀, s'.heap.get? p.1 = some p.2) → R it s' → wpAny (model prog w) A (pyIter it) R E' s')
    (draw : ∀ (n : Nat) (ys : List Value) (c : σ) C D oC kD h tk, J n ys c → Fr h₀ L h m → News h₀ L h ((C, oC) :: (D, listOf ys.toArray kD) :: Led c) → Off C D (Led c) →
      wpAny (model prog w) A (pyNext it) (CompTurn h₀ L m s [(C, oC), (D, listOf ys.toArray kD)] C D Led (Fin ys) (Mid n ys)) FalseE { s with heap := h, toks := tk })
    (turn : ∀ (n : Nat) (ys : List Value) (v : Value) (c : σ) C D oC mC kD h tk, Mid n ys v c → Fr h₀ L h m → News h₀ L h ((C, oC) :: (D, listOf ys.toArray kD) :: Led c) → Off C D (Led c) → C ≠ D → NsObj oC mC → mC x = some v →
      wpAny (model prog w) A (testsOf ifs (compEnvC scope cl C env)) (fun ok s₃ =>
        if ok = true then wpAny (model prog w) A (eval elt (compEnvC scope cl C env)) (fun y s₄ => CompEnd h₀ L m s [(C, oC), (D, listOf ys.toArray kD)] C D Led (fun c' => ∃ n', n' < n ∧ J n' (ys ++ [y]) c') s₄) FalseE s₃
        else CompEnd h₀ L m s [(C, oC), (D, listOf ys.toArray kD)] C D Led (fun c' => ∃ n', n' < n ∧ J n' ys c') s₃) FalseE { s with heap := h, toks := tk })
    (hsz : ∀ n ys c, J n ys c → ys.length ≤ sizeLine)
    (done : ∀ (ys : List Value) (c : σ) D kD h tk, Fin ys c → Fr h₀ L h (fun z => if z = y then some (.ref D) else m z) → News h₀ L h ((D, listOf ys.toArray kD) :: Led c) → (∀ p ∈ Led c, p.1 ≠ D) → (∀ p ∈ Led c₀, p.1 < D) → Q .none { s with heap := h, toks := tk })
    (hLe : env.locals = L) (hy : env.kindOf y = some .local) (hp : (env.scope.kind == .class || (env.scope.kind == .module && env.locals != env.globals)) = false) (hcell : ∀ y ∈ scope.names, y.2 ≠ .cell) (hkind : scope.kind = .function) (hx : scope.names.lookup x = some .local) (hf : ∀ p ∈ Led c₀, p.1 < s.heap.objs.size) :
    CompAtA prog w A env elt iter x px ifs scope cl pos y py E Q it s := by
  unfold CompAtA
  have hh0 : ∀ a, s.heap.objs.size ≤ a → h₀.get? a = none := fun a ha => by
    cases e : h₀.get? a with
    | none => rfl
    | some o => exact absurd (Heap.lt_size (F.keep _ _ e)) (Nat.not_lt.mpr ha)
  have hL : L < s.heap.objs.size := F.ns.lt
  refine wpAny_newObj_type (wpAny_newFunctionEnv hcell (by intro y hy; simp at hy) (fun h₁ hns₁ hsb₁ => ?_) hkind)
  dsimp only at hns₁ hsb₁ ⊢
  generalize hH2 : s.heap.push { cls := .type "list", dict := none, data := .seq ([] : List Value).toArray } = H2 at hns₁ hsb₁ ⊢
  have hC : H2.objs.size = s.heap.objs.size + 1 := by rw [← hH2, Heap.size_push]
  have hDC : s.heap.objs.size ≠ H2.objs.size := by rw [hC]; exact Nat.ne_of_lt (Nat.lt_succ_self _)
  have old : ∀ b o, s.heap.get? b = some o → h₁.get? b = some o := fun b o e => hsb₁.extBut b o (by rw [hC]; exact Nat.ne_of_lt (Nat.lt_succ_of_lt (Heap.lt_size e))) (Heap.get?_push_of_some _ (hH2 ▸ Heap.get?_push_of_some _ e))
  have hacc : h₁.get? s.heap.objs.size = some (listOf #[] 0) := hsb₁.extBut _ _ hDC (Heap.get?_push_of_some _ (hH2 ▸ Heap.get?_push_size _ rfl))
  obtain ⟨oC, hoC, hnC⟩ := NsObj.of hns₁
  have F₁ : Fr h₀ L h₁ m := F.keeps old
  have N₁ : News h₀ L h₁ ((H2.objs.size, oC) :: (s.heap.objs.size, listOf ([] : List Value).toArray 0) :: Led c₀) := by
    intro p hp
    rcases List.mem_cons.mp hp with rfl | hp
    · exact ⟨hoC, (by rw [hC]; exact Nat.ne_of_gt (Nat.lt_succ_of_lt hL)), hh0 _ (by rw [hC]; exact Nat.le_succ _)⟩
    · rcases List.mem_cons.mp hp with rfl | hp
      · exact ⟨hacc, Nat.ne_of_gt hL, hh0 _ (Nat.le_refl _)⟩
      · exact ⟨old _ _ (N p hp).1, (N p hp).2⟩
  have hoff : Off H2.objs.size s.heap.objs.size (Led c₀) := fun p hp => ⟨by rw [hC]; exact Nat.ne_of_lt (Nat.lt_succ_of_lt (hf p hp)), Nat.ne_of_lt (hf p hp)⟩
  have loop : codeAny (model prog w) A (.compLoop (.ListComp elt [⟨.Name x px, iter, ifs, 0⟩] scope pos) 0 it (.ref s.heap.objs.size) (compEnvC scope cl H2.objs.size env))
      (compPost (model prog w) A E (some (assign (.Name y py) env)) Q (.ref s.heap.objs.size) H2.objs.size) { s with heap := h₁, toks := s.toks + ([] : List (Str × Value)).length } := by
    refine codeAny_compLoop_tests (fun n s' => ∃ (ys : List Value) (c : σ) (oC : Obj) (mC : Str → Option Value) (kD : Nat) (h : Heap) (tk : Nat), s' = { s with heap := h, toks := tk } ∧ J n ys c ∧ Fr h₀ L h m ∧
        News h₀ L h ((H2.objs.size, oC) :: (s.heap.objs.size, listOf ys.toArray kD) :: Led c) ∧ Off H2.objs.size s.heap.objs.size (Led c) ∧ NsObj oC mC) ?_ n₀
      ⟨[], c₀, oC, _, 0, h₁, _, rfl, hj, F₁, N₁, hoff, hnC⟩
    rintro n s' ⟨ys, c, oC, mC, kD, h, tk, rfl, hJ, F₂, N₂, hoff₂, hn₂⟩
    refine wpAny_mono (draw n ys c _ _ oC kD h tk hJ F₂ N₂ hoff₂) (fun r s₁ hr => ?_) fun _ _ e => e.elim
    cases r with
    | none =>
      obtain ⟨c', h', tk', news', rfl, F', N', hk, hn, ho, hfin⟩ := hr
      have NC := N' _ (hk _ (.head _))
      show wpAny _ A (assign (.Name y py) env (.ref s.heap.objs.size)) _ _ _
      refine wpAny_assign_Name (wpAny_storeName_local hy (hLe.symm ▸ F'.ns) (fun h₂ hn₂' hs₂ => ?_) hp)
      rw [hLe] at hn₂' hs₂
      have hL₀ : h₀.get? L = none := Heap.get?_none_of_le F'.above
      have F₂ : Fr h₀ L h₂ (fun z => if z = y then some (.ref s.heap.objs.size) else m z) := ⟨hn₂', fun b o e => hs₂.extBut b o (fun q => by rw [q, hL₀] at e; cases e) (F'.keep b o e), F'.above⟩
      have old₂ : ∀ b o, b ≠ L → h'.get? b = some o → h₂.get? b = some o := fun b o hb e => hs₂.extBut b o hb e
      refine ⟨mC, hn₂.ns (old₂ _ _ NC.2.1 NC.1), fun h'' hs'' => ?_⟩
      refine done ys c' s.heap.objs.size kD h'' _ hfin ?_ (fun p hp => ?_) (fun p hp => (ho p hp).2) hf
      · exact ⟨F₂.ns.sameBut hs'' (Ne.symm NC.2.1), fun b o e => (hs''.2 b (fun q => by rw [q, NC.2.2] at e; cases e)).trans (F₂.keep b o e), F'.above⟩
      · rcases List.mem_cons.mp hp with rfl | hp
        · have z := N' _ (hk _ (.tail _ (.head _)))
          exact ⟨(hs''.2 _ hDC).trans (old₂ _ _ z.2.1 z.1), z.2⟩
        · have z := N' _ (hn _ hp)
          exact ⟨(hs''.2 _ (ho p hp).1).trans (old₂ _ _ z.2.1 z.1), z.2⟩
    | some v =>
      obtain ⟨c', h', tk', news', rfl, F', N', hk, hn, ho, hmid⟩ := hr
      have NC := N' _ (hk _ (.head _))
      have ND := N' _ (hk _ (.tail _ (.head _)))
      refine wpAny_assign_Name (wpAny_storeName_local (lookup_relabel_local hx) (hn₂.ns NC.1) (fun h₃ hn₃ hs₃ => ?_) (by simp [compEnvC, relabel, hkind]))
      obtain ⟨oC', hoC', hnC'⟩ := NsObj.of hn₃
      have F₃ : Fr h₀ L h₃ m := ⟨F'.ns.sameBut hs₃ (Ne.symm NC.2.1), fun b o e => (hs₃.2 b (fun q => by rw [q] at e; change h₀.get? H2.objs.size = some o at e; rw [NC.2.2] at e; cases e)).trans (F'.keep b o e), F'.above⟩
      have N₃ : News h₀ L h₃ ((H2.objs.size, oC') :: (s.heap.objs.size, listOf ys.toArray kD) :: Led c') := by
        intro p hp
        rcases List.mem_cons.mp hp with rfl | hp
        · exact ⟨hoC', NC.2⟩
        · rcases List.mem_cons.mp hp with rfl | hp
          · exact ⟨(hs₃.2 _ hDC).trans ND.1, ND.2⟩
          · have z := N' _ (hn _ hp)
            exact ⟨(hs₃.2 _ (ho p hp).1).trans z.1, z.2⟩
      refine wpAny_mono (turn n ys v c' _ _ oC' _ kD h₃ _ hmid F₃ N₃ ho (Ne.symm hDC) hnC' (by simp)) (fun ok s₃ hok => ?_) fun _ _ e => e.elim
      cases ok with
      | false =>
        simp only [Bool.false_eq_true, if_false] at hok ⊢
        obtain ⟨c₂, h₄, tk₄, news₄, rfl, F₄, N₄, hk₄, hn₄, ho₄, n', hlt, hJ'⟩ := hok
        refine ⟨n', hlt, ys, c₂, oC', _, kD, h₄, tk₄, rfl, hJ', F₄, fun p hp => ?_, ho₄, hnC'⟩
        rcases List.mem_cons.mp hp with rfl | hp
        · exact N₄ _ (hk₄ _ (.head _))
        · rcases List.mem_cons.mp hp with rfl | hp
          · exact N₄ _ (hk₄ _ (.tail _ (.head _)))
          · exact N₄ _ (hn₄ _ hp)
      | true =>
        simp only [if_true] at hok ⊢
        refine wpAny_mono hok (fun y s₄ hy => ?_) fun _ _ e => e.elim
        obtain ⟨c₂, h₄, tk₄, news₄, rfl, F₄, N₄, hk₄, hn₄, ho₄, n', hlt, hJ'⟩ := hy
        have N₅ : News h₀ L h₄ ((H2.objs.size, oC') :: (s.heap.objs.size, listOf ys.toArray kD) :: Led c₂) := fun p hp => by
          rcases List.mem_cons.mp hp with rfl | hp
          · exact N₄ _ (hk₄ _ (.head _))
          · rcases List.mem_cons.mp hp with rfl | hp
            · exact N₄ _ (hk₄ _ (.tail _ (.head _)))
            · exact N₄ _ (hn₄ _ hp)
        refine append_K (news' := (H2.objs.size, oC') :: (s.heap.objs.size, listOf (ys.toArray.push y) (kD + 1)) :: Led c₂) F₄ N₅ (.tail (Ne.symm hDC) (.head fun p hp => (ho₄ p hp).2)) (fun h₅ F₅ N₆ => ?_) (by have z := hsz _ _ _ hJ'; rw [List.length_append] at z; rw [List.size_toArray]; omega)
        exact ⟨n', hlt, ys ++ [y], c₂, oC', _, kD + 1, h₅, _, rfl, hJ', F₅, by rw [← List.push_toArray]; exact N₆, ho₄, hnC'⟩
  exact codeAny_compStart_list loop (hself _ _ _ (fun p hp => (N₁ p (.tail _ (.tail _ hp))).1) loop)


theorem comp_srcA {σ : Type} {I : Addr} {oI : Obj} {fx : List (Addr × Obj)} {n : Nat} {P : Nat → Value → Prop} {fp : List Addr} {St : Nat → Heap → Prop}
    (S : Src prog w I oI fx n P fp St) (hA : A.handled = none) (Led : σ → List (Addr × Obj)) (J : Nat → List Value → σ → Prop) (c₀ : σ)
    (F : Fr h₀ L s.heap m) (N : News h₀ L s.heap ((I, oI) :: Led c₀)) (hI : ∀ p ∈ Led c₀, p.1 ≠ I) (hfx : ∀ i ys c, J i ys c → ∀ p ∈ fx, p ∈ Led c) (hj : J 0 [] c₀)
    (turn : ∀ (i : Nat) (ys : List Value) (v : Value) (c : σ) C D oI' oC mC kD h tk, i < n → P i v → J i ys c → Fr h₀ L h m → News h₀ L h ((C, oC) :: (D, listOf ys.toArray kD) :: (I, oI') :: Led c) → Off C D ((I, oI') :: Led c) → (∀ p ∈ Led c, p.1 ≠ I) → C ≠ D → NsObj oC mC → mC x = some v →
      wpAny (model prog w) A (testsOf ifs (compEnvC scope cl C env)) (fun ok s₃ =>
        if ok = true then wpAny (model prog w) A (eval elt (compEnvC scope cl C env)) (fun y s₄ => CompEnd h₀ L m s [(C, oC), (D, listOf ys.toArray kD), (I, oI')] C D Led (fun c' => (∀ p ∈ Led c', p.1 ≠ I) ∧ J (i + 1) (ys ++ [y]) c') s₄) FalseE s₃
        else CompEnd h₀ L m s [(C, oC), (D, listOf ys.toArray kD), (I, oI')] C D Led (fun c' => (∀ p ∈ Led c', p.1 ≠ I) ∧ J (i + 1) ys c') s₃) FalseE { s with heap := h, toks := tk })
    (hsz : ∀ i ys c, J i ys c → ys.length ≤ sizeLine)
    (done : ∀ (ys : List Value) (c : σ) D kD h tk, J n ys c → Fr h₀ L h (fun z => if z = y then some (.ref D) else m z) → News h₀ L h ((D, listOf ys.toArray kD) :: Led c) → (∀ p ∈ Led c, p.1 ≠ D) → (∀ p ∈ Led c₀, p.1 < D) → Q .none { s with heap := h, toks := tk })
    (hLe : env.locals = L) (hy : env.kindOf y = some .local) (hp : (env.scope.kind == .class || (env.scope.kind == .module && env.locals != env.globals)) = false) (hcell : ∀ y ∈ scope.names, y.2 ≠ .cell) (hkind : scope.kind = .function) (hx : scope.names.lookup x = some .local) :
    CompAtA prog w A env elt iter x px ifs scope cl pos y py E Q (.ref I) s := by
  refine comp_ledA (σ := σ × List (Addr × Obj) × Nat) (fun c => c.2.1 ++ Led c.1)
    (fun k ys c => k = n - c.2.2 ∧ c.2.2 ≤ n ∧ (∀ p ∈ Led c.1, p.1 ≠ I) ∧ (∃ oI, c.2.1 = [(I, oI)] ∧ SrcAt St fp c.2.2 ((I, oI) :: fx)) ∧ J c.2.2 ys c.1)
    (fun k ys v c => k = n - c.2.2 ∧ c.2.2 < n ∧ P c.2.2 v ∧ (∀ p ∈ Led c.1, p.1 ≠ I) ∧ (∃ oI, c.2.1 = [(I, oI)] ∧ SrcAt St fp (c.2.2 + 1) ((I, oI) :: fx)) ∧ J c.2.2 ys c.1)
    (fun ys c => J n ys c.1) n (c₀, [(I, oI)], 0) F N ⟨rfl, Nat.zero_le _, hI, ⟨oI, rfl, S.at0⟩, hj⟩ ?_ ?_ ?_ ?_ ?_ hLe hy hp hcell hkind hx ?_
  · intro s' R E' hs hR
    exact (S.walks A hA).self 0 s' R E' (S.at0.st (S.walks A hA) fun p hp => hs p (by
      rcases List.mem_cons.mp hp with rfl | hp
      · exact .head _
      · exact .tail _ (hfx _ _ _ hj p hp))) hR
  · rintro k ys ⟨c, lI, i⟩ C D oC kD h tk ⟨hk', hle, hI', ⟨oI', hlI, hat⟩, hJ⟩ F' N' off
    dsimp only at hk' hle hI' hlI hat hJ N' off
    subst hlI
    have ND : News h₀ L h ((I, oI') :: ((C, oC) :: (D, listOf ys.toArray kD) :: Led c)) := fun p hp => N' p (by
      rcases List.mem_cons.mp hp with rfl | hp
      · exact .tail _ (.tail _ (.head _))
      · rcases List.mem_cons.mp hp with rfl | hp
        · exact .head _
        · rcases List.mem_cons.mp hp with rfl | hp
          · exact .tail _ (.head _)
          · exact .tail _ (.tail _ (.tail _ hp)))
    have hoff := off _ (.head _)
    have hI2 : ∀ p ∈ ((C, oC) :: (D, listOf ys.toArray kD) :: Led c), p.1 ≠ I := fun p hp => by
      rcases List.mem_cons.mp hp with rfl | hp
      · exact Ne.symm hoff.1
      · rcases List.mem_cons.mp hp with rfl | hp
        · exact Ne.symm hoff.2
        · exact hI' p hp
    have offc : Off C D (Led c) := fun p hp => off p (.tail _ hp)
    by_cases hi : i < n
    · refine draw_src (S.walks A.in1 hA).of_in1 S.fpin S.has hi hat F' ND (fun p hp => .tail _ (.tail _ (hfx _ _ _ hJ p hp))) hI2 fun v oI'' h' tk' hP hat' F2 N2 => ?_
      dsimp only [CompTurn]
      refine CompEnd.intro (c, [(I, oI'')], i) F2 N2 (fun p hp => ?_) (fun p hp => ?_) (fun p hp => ?_) ⟨hk', hi, hP, hI', ⟨_, rfl, hat'⟩, hJ⟩
      · rcases List.mem_cons.mp hp with rfl | hp
        · exact .tail _ (.head _)
        · rcases List.mem_cons.mp hp with rfl | hp
          · exact .tail _ (.tail _ (.head _))
          · cases hp
      · rcases List.mem_cons.mp hp with rfl | hp
        · exact .head _
        · exact .tail _ (.tail _ (.tail _ hp))
      · rcases List.mem_cons.mp hp with rfl | hp
        · exact hoff
        · exact offc p hp
    · have e : i = n := by omega
      subst e
      refine end_src (S.walks A.in1 hA).of_in1 hat F' ND (fun p hp => .tail _ (.tail _ (hfx _ _ _ hJ p hp))) hI2 fun h' tk' F2 N2 => ?_
      dsimp only [CompTurn]
      refine CompEnd.intro (c, [], i) F2 N2 (fun p hp => ?_) (fun p hp => .tail _ (.tail _ hp)) offc hJ
      rcases List.mem_cons.mp hp with rfl | hp
      · exact .head _
      · rcases List.mem_cons.mp hp with rfl | hp
        · exact .tail _ (.head _)
        · cases hp
  · rintro k ys v ⟨c, lI, i⟩ C D oC mC kD h tk ⟨hk', hi, hP, hI', ⟨oI', hlI, hat⟩, hJ⟩ F' N' off hCD hns hxv
    dsimp only at hk' hi hP hI' hlI hat hJ N' off
    subst hlI
    refine wpAny_mono (turn i ys v c C D oI' oC mC kD h tk hi hP hJ F' N' off hI' hCD hns hxv) (fun ok s₃ hok => ?_) fun _ _ e => e
    have conv : ∀ (ys' : List Value) s', CompEnd h₀ L m s [(C, oC), (D, listOf ys.toArray kD), (I, oI')] C D Led (fun c' => (∀ p ∈ Led c', p.1 ≠ I) ∧ J (i + 1) ys' c') s' →
        CompEnd h₀ L m s [(C, oC), (D, listOf ys.toArray kD)] C D (fun (c : σ × List (Addr × Obj) × Nat) => c.2.1 ++ Led c.1) (fun (c' : σ × List (Addr × Obj) × Nat) => ∃ n', n' < k ∧ (n' = n - c'.2.2 ∧ c'.2.2 ≤ n ∧ (∀ p ∈ Led c'.1, p.1 ≠ I) ∧ (∃ oI, c'.2.1 = [(I, oI)] ∧ SrcAt St fp c'.2.2 ((I, oI) :: fx)) ∧ J c'.2.2 ys' c'.1)) s' := by
      rintro ys' s' ⟨c', h', tk', news', rfl, F2, N2, hk2, hn2, ho2, hI2, hJ2⟩
      refine CompEnd.intro (c', [(I, oI')], i + 1) F2 N2 (fun p hp => ?_) (fun p hp => ?_) (fun p hp => ?_) ⟨n - (i + 1), by omega, rfl, hi, hI2, ⟨_, rfl, hat⟩, hJ2⟩
      · rcases List.mem_cons.mp hp with rfl | hp
        · exact hk2 _ (.head _)
        · rcases List.mem_cons.mp hp with rfl | hp
          · exact hk2 _ (.tail _ (.head _))
          · cases hp
      · rcases List.mem_cons.mp hp with rfl | hp
        · exact hk2 _ (.tail _ (.tail _ (.head _)))
        · exact hn2 p hp
      · rcases List.mem_cons.mp hp with rfl | hp
        · exact off _ (.head _)
        · exact ho2 p hp
    cases ok with
    | true =>
      simp only [if_true] at hok ⊢
      exact wpAny_mono hok (fun y s₄ hy => conv _ _ hy) fun _ _ e => e
    | false =>
      simp only [Bool.false_eq_true, if_false] at hok ⊢
      exact conv _ _ hok
  · rintro k ys ⟨c, lI, i⟩ ⟨_, _, _, _, hJ⟩
    exact hsz _ _ _ hJ
  · rintro ys ⟨c, lI, i⟩ D kD h tk hJ F' N' hD hD0
    refine done ys c D kD h tk hJ F' (fun p hp => N' p ?_) (fun p hp => hD p (List.mem_append_right _ hp)) fun p hp => hD0 p (List.mem_append_right _ hp)
    rcases List.mem_cons.mp hp with rfl | hp
    · exact .head _
    · exact .tail _ (List.mem_append_right _ hp)
  · intro p hp
    exact Heap.lt_size (N p hp).1

end
end Mine
end
section
open PySem PySem.W PyProof.Rows PySem.Calls
set_option maxHeartbeats 4000000
namespace Mine
section
variable {prog : Program} {w : World} {A : Around} {E : Value → Shared → Prop} {Q : Value → Shared → Prop} {s : Shared} {env : Env} {h₀ : Heap} {L : Addr} {m : Str → Option Value}
  {elt iter : Expr} {x : Str} {px : Pos} {ifs : List Expr} {scope : Scope} {cl : List (Str × Addr)} {pos : Pos} {y : Str} {py : Pos}
/-- a comprehension whose target is a cell of its own, kept in a local name, its elements without a trace -/
theorem comp_pureC {I : Addr} {oI : Obj} {fx news : List (Addr × Obj)} {n : Nat} {P : Nat → Value → Prop} {fp : List Addr} {St : Nat → Heap → Prop}
    (S : Src prog w I oI fx n P fp St) (hA : A.handled = none) (J : Nat → List Value → Prop)
    (F : Fr h₀ L s.heap m) (N : News h₀ L s.heap ((I, oI) :: news)) (hI : ∀ p ∈ news, p.1 < I) (hfx : ∀ p ∈ fx, p ∈ news) (hj : J 0 [])
    (turn : ∀ (i : Nat) (ys : List Value) (v : Value) C D K oI' oC oK kD h tk, i < n → P i v → J i ys → Fr h₀ L h m → News h₀ L h ((C, oC) :: (D, listOf ys.toArray kD) :: (K, oK) :: (I, oI') :: news) → oK.data = .cell (some v) →
      (∀ p ∈ news, p.1 < I) → @LT.lt Nat _ I D → @LT.lt Nat _ D C → @LT.lt Nat _ C K →
      wpAny (model prog w) A (testsOf ifs (compEnvC scope ((x, K) :: cl) C env)) (fun ok s₃ =>
        if ok = true then wpAny (model prog w) A (eval elt (compEnvC scope ((x, K) :: cl) C env)) (fun y s₄ => PureEnd h₀ L m s ((C, oC) :: (D, listOf ys.toArray kD) :: (K, oK) :: (I, oI') :: news) (J (i + 1) (ys ++ [y])) s₄) FalseE s₃
        else PureEnd h₀ L m s ((C, oC) :: (D, listOf ys.toArray kD) :: (K, oK) :: (I, oI') :: news) (J (i + 1) ys) s₃) FalseE { s with heap := h, toks := tk })
    (hsz : ∀ i ys, J i ys → ys.length ≤ sizeLine)
    (done : ∀ (ys : List Value) D kD h tk, J n ys → Fr h₀ L h (fun z => if z = y then some (.ref D) else m z) → News h₀ L h ((D, listOf ys.toArray kD) :: news) → (∀ p ∈ news, p.1 < D) → Q .none { s with heap := h, toks := tk })
    (hLe : env.locals = L) (hy : env.kindOf y = some .local) (hp : (env.scope.kind == .class || (env.scope.kind == .module && env.locals != env.globals)) = false) (hkind : scope.kind = .function)
    (hcells : ∀ a, cellsFrom a scope.names cl = (x, a) :: cl) (hpush : ∀ h, pushCells h scope.names = h.push { cls := .type "cell", data := .cell none }) (hx : (relabel scope env).names.lookup x = some .cell) :
    CompAtA prog w A env elt iter x px ifs scope cl pos y py E Q (.ref I) s := by
  unfold CompAtA
  have hh0 : ∀ a, s.heap.objs.size ≤ a → h₀.get? a = none := fun a ha => by
    cases e : h₀.get? a with
    | none => rfl
    | some o => exact absurd (Heap.lt_size (F.keep _ _ e)) (Nat.not_lt.mpr ha)
  have hL : L < s.heap.objs.size := F.ns.lt
  have hIs : I < s.heap.objs.size := Heap.lt_size (N _ (.head _)).1
  refine wpAny_newObj_type ?_
  simp only [newFunctionEnv, Option.isSome_some, if_true]
  refine wpAny_bind (wpAny_alloc ?_)
  refine wpAny_bind (wpAny_layCells _ (fun name kind cells => by cases hkc : kind == NameKind.cell <;> simp [hkc]) _ _ _ _ ?_)
  rw [hcells, hpush]
  rw [List.forIn_nil]
  refine wpAny_bind (wpAny_pure (wpAny_pure ?_))
  dsimp only
  generalize hH2 : s.heap.push { cls := .type "list", dict := none, data := .seq ([] : List Value).toArray } = H2
  generalize hH3 : H2.push { cls := Value.type "dict", data := Data.dict #[] } = H3
  generalize hH4 : H3.push { cls := Value.type "cell", data := Data.cell none } = H4
  have zC : H2.objs.size = s.heap.objs.size + 1 := by rw [← hH2, Heap.size_push]
  have zK : H3.objs.size = s.heap.objs.size + 2 := by rw [← hH3, Heap.size_push, zC]
  generalize hD : s.heap.objs.size = D at zC zK hh0 hL hIs
  generalize hC : H2.objs.size = C at zC
  generalize hK : H3.objs.size = K at zK
  have hIs' : @LT.lt Nat _ I D := hIs
  have hL' : @LT.lt Nat _ L D := hL
  have kC : @LT.lt Nat _ I C := by omega
  have kK : @LT.lt Nat _ I K := by omega
  have lC : @LT.lt Nat _ L C := by omega
  have lK : @LT.lt Nat _ L K := by omega
  have old : ∀ b o, s.heap.get? b = some o → H4.get? b = some o := fun b o e => hH4 ▸ Heap.get?_push_of_some _ (hH3 ▸ Heap.get?_push_of_some _ (hH2 ▸ Heap.get?_push_of_some _ e))
  have gD : H4.get? D = some (listOf #[] 0) := hH4 ▸ Heap.get?_push_of_some _ (hH3 ▸ Heap.get?_push_of_some _ (hH2 ▸ hD ▸ Heap.get?_push_size _ rfl))
  have gC : H4.get? C = some { cls := Value.type "dict", data := Data.dict #[] } := hH4 ▸ Heap.get?_push_of_some _ (hH3 ▸ hC ▸ Heap.get?_push_size _ rfl)
  have gK : H4.get? K = some { cls := Value.type "cell", data := Data.cell none } := hH4 ▸ hK ▸ Heap.get?_push_size _ rfl
  have nsC : H4.Ns C (fun _ => none) := ((hC ▸ hH3 ▸ Heap.Ns.new H2 (.type "dict")).keeps fun b o e => hH4 ▸ Heap.get?_push_of_some _ e)
  obtain ⟨oC, hoC, hnC⟩ := NsObj.of nsC
  have F₁ : Fr h₀ L H4 m := F.keeps old
  have lt : ∀ p ∈ news, p.1 < D := fun p hp => Nat.lt_trans (hI p hp) hIs
  have neI : ∀ p ∈ (C, oC) :: (D, listOf ([] : List Value).toArray 0) :: news, p.1 ≠ I := fun p hp => by
    rcases List.mem_cons.mp hp with rfl | hp
    · exact Nat.ne_of_gt kC
    · rcases List.mem_cons.mp hp with rfl | hp
      · exact Nat.ne_of_gt hIs
      · exact Nat.ne_of_lt (hI p hp)
  have N₁ : News h₀ L H4 ((C, oC) :: (D, listOf ([] : List Value).toArray 0) :: (K, { cls := Value.type "cell", data := Data.cell none }) :: (I, oI) :: news) := by
    intro p hp
    rcases List.mem_cons.mp hp with rfl | hp
    · exact ⟨hoC, Nat.ne_of_gt lC, hh0 _ (by omega)⟩
    · rcases List.mem_cons.mp hp with rfl | hp
      · exact ⟨gD, Nat.ne_of_gt hL, hh0 _ (Nat.le_refl _)⟩
      · rcases List.mem_cons.mp hp with rfl | hp
        · exact ⟨gK, Nat.ne_of_gt lK, hh0 _ (by omega)⟩
        · exact ⟨old _ _ (N p hp).1, (N p hp).2⟩
  have hLne : ∀ {o : Obj} {a : Addr} {h : Heap} {l}, News h₀ L h l → (a, o) ∈ l → h₀.get? a = none := fun N hm => (N _ hm).2.2
  have loop : codeAny (model prog w) A (.compLoop (.ListComp elt [⟨.Name x px, iter, ifs, 0⟩] scope pos) 0 (.ref I) (.ref D) (compEnvC scope ((x, K) :: cl) C env))
      (compPost (model prog w) A E (some (assign (.Name y py) env)) Q (.ref D) C) { s with heap := H4, toks := s.toks } := by
    refine codeAny_compLoop_tests (fun k s' => ∃ (i : Nat) (ys : List Value) (oC : Obj) (mC : Str → Option Value) (kD : Nat) (oK oI' : Obj) (v0 : Option Value) (h : Heap) (tk : Nat), s' = { s with heap := h, toks := tk } ∧ k = n - i ∧ i ≤ n ∧ J i ys ∧ SrcAt St fp i ((I, oI') :: fx) ∧ Fr h₀ L h m ∧
        News h₀ L h ((C, oC) :: (D, listOf ys.toArray kD) :: (K, oK) :: (I, oI') :: news) ∧ NsObj oC mC ∧ oK.data = .cell v0) ?_ n
      ⟨0, [], oC, _, 0, _, oI, none, H4, _, rfl, rfl, Nat.zero_le _, hj, S.at0, F₁, N₁, hnC, rfl⟩
    rintro k s' ⟨i, ys, oC, mC, kD, oK, oI', v0, h, tk, rfl, hk', hle, hJ, hat, F₂, N₂, hn₂, hK₂⟩
    have ND : News h₀ L h ((I, oI') :: ((C, oC) :: (D, listOf ys.toArray kD) :: (K, oK) :: news)) := fun p hp => N₂ p (by
      rcases List.mem_cons.mp hp with rfl | hp
      · exact .tail _ (.tail _ (.tail _ (.head _)))
      · rcases List.mem_cons.mp hp with rfl | hp
        · exact .head _
        · rcases List.mem_cons.mp hp with rfl | hp
          · exact .tail _ (.head _)
          · rcases List.mem_cons.mp hp with rfl | hp
            · exact .tail _ (.tail _ (.head _))
            · exact .tail _ (.tail _ (.tail _ (.tail _ hp))))
    have hI2 : ∀ p ∈ ((C, oC) :: (D, listOf ys.toArray kD) :: (K, oK) :: news), p.1 ≠ I := fun p hp => by
      rcases List.mem_cons.mp hp with rfl | hp
      · exact Nat.ne_of_gt kC
      · rcases List.mem_cons.mp hp with rfl | hp
        · exact Nat.ne_of_gt hIs
        · rcases List.mem_cons.mp hp with rfl | hp
          · exact Nat.ne_of_gt kK
          · exact Nat.ne_of_lt (hI p hp)
    have hfx2 : ∀ p ∈ fx, p ∈ ((C, oC) :: (D, listOf ys.toArray kD) :: (K, oK) :: news) := fun p hp => .tail _ (.tail _ (.tail _ (hfx p hp)))
    by_cases hi : i < n
    · refine draw_src (S.walks A.in1 hA).of_in1 S.fpin S.has hi hat F₂ ND hfx2 hI2 fun v oI'' h' tk' hP hat' F' N' => ?_
      dsimp only
      have NK := N' _ (.tail _ (.tail _ (.tail _ (.head _))))
      refine wpAny_assign_Name (wpAny_storeName_cell (v₀ := v0) hkind hx (c := K) (by simp [compEnvC]) ⟨oK, NK.1, hK₂⟩ (fun h₃ hc₃ hs₃ => ?_))
      obtain ⟨oK', hoK', hdK'⟩ := hc₃
      have F₃ : Fr h₀ L h₃ m := ⟨F'.ns.sameBut hs₃ (Ne.symm NK.2.1), fun b o e => (hs₃.2 b (fun q => by rw [q] at e; change h₀.get? K = some o at e; rw [NK.2.2] at e; cases e)).trans (F'.keep b o e), F'.above⟩
      have N₃ : News h₀ L h₃ ((C, oC) :: (D, listOf ys.toArray kD) :: (K, oK') :: (I, oI'') :: news) := by
        intro p hp
        rcases List.mem_cons.mp hp with rfl | hp
        · have z := N' _ (.tail _ (.head _))
          exact ⟨(hs₃.2 _ (Nat.ne_of_lt (show C < K by omega))).trans z.1, z.2⟩
        · rcases List.mem_cons.mp hp with rfl | hp
          · have z := N' _ (.tail _ (.tail _ (.head _)))
            exact ⟨(hs₃.2 _ (Nat.ne_of_lt (show D < K by omega))).trans z.1, z.2⟩
          · rcases List.mem_cons.mp hp with rfl | hp
            · exact ⟨hoK', NK.2⟩
            · rcases List.mem_cons.mp hp with rfl | hp
              · have z := N' _ (.head _)
                exact ⟨(hs₃.2 _ (Nat.ne_of_lt kK)).trans z.1, z.2⟩
              · have z := N' p (.tail _ (.tail _ (.tail _ (.tail _ hp))))
                exact ⟨(hs₃.2 _ (Nat.ne_of_lt (show p.1 < K from Nat.lt_trans (lt p hp) (by omega)))).trans z.1, z.2⟩
      refine wpAny_mono (turn i ys v C D K oI'' oC oK' kD h₃ _ hi hP hJ F₃ N₃ hdK' hI hIs (show D < C by omega) (show C < K by omega)) (fun ok s₃ hok => ?_) fun _ _ e => e.elim
      cases ok with
      | false =>
        simp only [Bool.false_eq_true, if_false] at hok ⊢
        obtain ⟨h₄, tk₄, rfl, F₄, N₄, hJ'⟩ := hok
        exact ⟨n - (i + 1), by omega, i + 1, ys, oC, mC, kD, oK', oI'', some v, h₄, tk₄, rfl, rfl, hi, hJ', hat', F₄, N₄, hn₂, hdK'⟩
      | true =>
        simp only [if_true] at hok ⊢
        refine wpAny_mono hok (fun y s₄ hy => ?_) fun _ _ e => e.elim
        obtain ⟨h₄, tk₄, rfl, F₄, N₄, hJ'⟩ := hy
        refine append_K (news' := (C, oC) :: (D, listOf (ys.toArray.push y) (kD + 1)) :: (K, oK') :: (I, oI'') :: news) F₄ N₄ (.tail (show C ≠ D by omega) (.head fun p hp => ?_)) (fun h₅ F₅ N₆ => ?_) (by have z := hsz _ _ hJ'; rw [List.length_append] at z; rw [List.size_toArray]; omega)
        · rcases List.mem_cons.mp hp with rfl | hp
          · exact Nat.ne_of_gt (show D < K by omega)
          · rcases List.mem_cons.mp hp with rfl | hp
            · exact Nat.ne_of_lt hIs
            · exact Nat.ne_of_lt (lt p hp)
        · exact ⟨n - (i + 1), by omega, i + 1, ys ++ [y], oC, mC, kD + 1, oK', oI'', some v, h₅, _, rfl, rfl, hi, hJ', hat', F₅, by rw [← List.push_toArray]; exact N₆, hn₂, hdK'⟩
    · have e : i = n := by omega
      subst e
      refine end_src (S.walks A.in1 hA).of_in1 hat F₂ ND hfx2 hI2 fun h' tk' F' N' => ?_
      dsimp only
      have NC := N' _ (.head _)
      show wpAny _ A (assign (.Name y py) env (.ref D)) _ _ _
      refine wpAny_assign_Name (wpAny_storeName_local hy (hLe.symm ▸ F'.ns) (fun h₂ hn₂' hs₂ => ?_) hp)
      rw [hLe] at hn₂' hs₂
      have hL₀ : h₀.get? L = none := Heap.get?_none_of_le F'.above
      have F₃ : Fr h₀ L h₂ (fun z => if z = y then some (.ref D) else m z) := ⟨hn₂', fun b o e => hs₂.extBut b o (fun q => by rw [q, hL₀] at e; cases e) (F'.keep b o e), F'.above⟩
      have old₂ : ∀ b o, b ≠ L → h'.get? b = some o → h₂.get? b = some o := fun b o hb e => hs₂.extBut b o hb e
      refine ⟨mC, hn₂.ns (old₂ _ _ NC.2.1 NC.1), fun h'' hs'' => ?_⟩
      refine done ys D kD h'' _ hJ ?_ (fun p hp => ?_) lt
      · exact ⟨F₃.ns.sameBut hs'' (Ne.symm NC.2.1), fun b o e => (hs''.2 b (fun q => by rw [q, NC.2.2] at e; cases e)).trans (F₃.keep b o e), F'.above⟩
      · rcases List.mem_cons.mp hp with rfl | hp
        · have z := N' _ (.tail _ (.head _))
          exact ⟨(hs''.2 _ (Nat.ne_of_lt (show D < C by omega))).trans (old₂ _ _ z.2.1 z.1), z.2⟩
        · have z := N' p (.tail _ (.tail _ (.tail _ hp)))
          exact ⟨(hs''.2 _ (Nat.ne_of_lt (show p.1 < C from Nat.lt_trans (lt p hp) (by omega)))).trans (old₂ _ _ z.2.1 z.1), z.2⟩
  exact codeAny_compStart_list loop ((S.walks A hA).self 0 _ _ _ (S.at0.st (S.walks A hA) fun p hp => (N₁ p (by
      rcases List.mem_cons.mp hp with rfl | hp
      · exact .tail _ (.tail _ (.tail _ (.head _)))
      · exact .tail _ (.tail _ (.tail _ (.tail _ (hfx p hp)))))).1) loop)
end
end Mine
end
section
open PySem PySem.W PyProof.Rows PySem.Calls
set_option maxHeartbeats 4000000
namespace Mine
section
variable {prog : Program} {w : World} {A : Around} {E : Value → Shared → Prop} {s : Shared} {env : Env} {h₀ : Heap}
/-- a turn of `for x, y in zip(a, b)` whose body leaves no trace -/
def ZipTurn (h₀ : Heap) (L : Addr) (s : Shared) (m : Str → Option Value) (all : List (Addr × Obj)) (R : Result → Shared → Prop) (f : Flow) (s₂ : Shared) : Prop :=
  match f with
  | .ret v => R (.ok (.ret v)) s₂
  | .brk => R (.ok .next) s₂
  | _ => ∃ h' tk, s₂ = { s with heap := h', toks := tk } ∧ Fr h₀ L h' m ∧ News h₀ L h' all
theorem for_zip {R : Result → Shared → Prop} {xi xc : Str} {pk pv pt : Pos} {x1 : Nat} {body : List Stmt} {l1 l2 : Addr} {xs ys : List Value} {n1 n2 : Nat} {m : Str → Option Value} {news : List (Addr × Obj)}
    (hh : A.handled = none) (F : Fr h₀ env.locals s.heap m) (N : News h₀ env.locals s.heap news) (hm1 : (l1, listOf xs.toArray n1) ∈ news) (hm2 : (l2, listOf ys.toArray n2) ∈ news)
    (hxi : env.kindOf xi = some .local) (hxc : env.kindOf xc = some .local) (hp : (env.scope.kind == .class || (env.scope.kind == .module && env.locals != env.globals)) = false)
    (step : ∀ (i : Nat) v0 v1 h tk own, xs[i]? = some v0 → ys[i]? = some v1 → Fr h₀ env.locals h (fun y => if y = xc then some v1 else if y = xi then some v0 else m y) → News h₀ env.locals h (own ++ news) →
      wpAny (model prog w) A (execs body env) (ZipTurn h₀ env.locals s (fun y => if y = xc then some v1 else if y = xi then some v0 else m y) (own ++ news) R) FalseE { s with heap := h, toks := tk })
    (hR : ∀ h' tk m', Fr h₀ env.locals h' m' → (∀ z, z ≠ xi → z ≠ xc → m' z = m z) → News h₀ env.locals h' news → R (.ok .next) { s with heap := h', toks := tk }) :
    wpAny (model prog w) A (call (.type "zip") [.ref l1, .ref l2]) (fun xv s₁ => wpAny (model prog w) A (pyIter xv) (fun it s₂ => codeAny (model prog w) A (.forLoop (.Tuple [.Name xi pk, .Name xc pv] x1 pt) it body [] env) R s₂) E s₁) E s := by
  have hax1 := N _ hm1
  have hax2 := N _ hm2
  have hl1 : s.heap.IsList l1 xs.toArray := ⟨_, hax1.1, rfl, n1, rfl⟩
  have hl2 : s.heap.IsList l2 ys.toArray := ⟨_, hax2.1, rfl, n2, rfl⟩
  have hlt1 : l1 < s.heap.objs.size := Heap.lt_size hax1.1
  have hlt2 : l2 < s.heap.objs.size := Heap.lt_size hax2.1
  have hLs : env.locals < s.heap.objs.size := F.ns.lt
  have D : ZipApart (s.heap.objs.size + 4) (s.heap.objs.size + 2) (s.heap.objs.size + 3) s.heap.objs.size (s.heap.objs.size + 1) l1 l2 := ktu_apart _ _ _ hlt1 hlt2
  refine call_zip_2 hl1 hl2 fun h' hz hTI hTO hi1 hi2 hsz hk => ?_
  refine wpAny_pyIter_zip hz ?_
  refine codeAny_forLoop_frT (P2 := fun i v0 v1 => xs[i]? = some v0 ∧ ys[i]? = some v1) (s := { s with heap := h' }) (m := m) (news := news) hh (WalksT.zip2 hh _ _ _ _ _ _ _ D xs.toArray ys.toArray) ?_ hxi hxc hp ?_ ?_ ?_
    ⟨hz, hTI, ⟨_, _, hTO⟩, hi1, hi2, hl1.at fun o e => hk l1 o e, hl2.at fun o e => hk l2 o e⟩ (F.keeps hk) (N.grown hk) (fun _ m₁ news₁ => news₁ = news ∧ ∀ z, z ≠ xi → z ≠ xc → m₁ z = m z) ⟨rfl, fun _ _ _ => rfl⟩ ?_ ?_
  · rintro i vals ⟨x, y, hx, hy, rfl⟩
    exact ⟨x, y, rfl, by simpa using hx, by simpa using hy⟩
  · intro hI'
    have hb' : env.locals = s.heap.objs.size + 4 ∨ env.locals = s.heap.objs.size + 2 ∨ env.locals = s.heap.objs.size + 3 ∨ env.locals = s.heap.objs.size ∨ env.locals = s.heap.objs.size + 1 ∨ env.locals = l1 ∨ env.locals = l2 := by simpa using hI'
    rcases hb' with e | e | e | e | e | e | e
    · exact ktu_ne 4 hLs e
    · exact ktu_ne 2 hLs e
    · exact ktu_ne 3 hLs e
    · exact Nat.ne_of_lt hLs e
    · exact ktu_ne 1 hLs e
    · exact hax1.2.1 e.symm
    · exact hax2.2.1 e.symm
  · intro b hb
    have hb' : b = s.heap.objs.size + 4 ∨ b = s.heap.objs.size + 3 ∨ b = s.heap.objs.size ∨ b = s.heap.objs.size + 1 := by simpa using hb
    rcases hb' with rfl | rfl | rfl | rfl
    · exact ktu_new F (Nat.le_add_right _ _)
    · exact ktu_new F (Nat.le_add_right _ _)
    · exact ktu_new F (Nat.le_refl _)
    · exact ktu_new F (Nat.le_add_right _ _)
  · intro p hp hI'
    have hb' : p.1 = s.heap.objs.size + 4 ∨ p.1 = s.heap.objs.size + 3 ∨ p.1 = s.heap.objs.size ∨ p.1 = s.heap.objs.size + 1 := by simpa using hI'
    have hlp := Heap.lt_size (N p hp).1
    rcases hb' with e | e | e | e
    · exact ktu_ne 4 hlp e
    · exact ktu_ne 3 hlp e
    · exact Nat.ne_of_lt hlp e
    · exact ktu_ne 1 hlp e
  · rintro i v0 v1 m₁ news₁ s₁ own ⟨h, tk, rfl⟩ hi ⟨hx, hy⟩ ⟨rfl, hm⟩ - - F₁ N₁
    have em : (fun y => if y = xc then some v1 else if y = xi then some v0 else m₁ y) = (fun y => if y = xc then some v1 else if y = xi then some v0 else m y) := by
      funext z
      by_cases h1 : z = xc
      · rw [if_pos h1, if_pos h1]
      · rw [if_neg h1, if_neg h1]
        by_cases h2 : z = xi
        · rw [if_pos h2, if_pos h2]
        · rw [if_neg h2, if_neg h2]; exact hm z h2 h1
    rw [em] at F₁
    refine wpAny_mono (step i v0 v1 h tk own hx hy F₁ N₁) (fun f s₃ hf => ?_) fun _ _ e => e.elim
    have hm' : ∀ z, z ≠ xi → z ≠ xc → (fun y => if y = xc then some v1 else if y = xi then some v0 else m y) z = m z := fun z h1 h2 => by
      show (if z = xc then _ else _) = _
      rw [if_neg h2, if_neg h1]
    cases f with
    | ret v => exact hf
    | brk => exact hf
    | next =>
      obtain ⟨h4, tk4, rfl, F4, N4⟩ := hf
      exact ⟨rfl, h4, tk4, _, _, rfl, F4, N4, rfl, rfl, hm'⟩
    | cont =>
      obtain ⟨h4, tk4, rfl, F4, N4⟩ := hf
      exact ⟨rfl, h4, tk4, _, _, rfl, F4, N4, rfl, rfl, hm'⟩
  · rintro h4 tk4 m4 news4 F4 N4 - ⟨rfl, hm4⟩
    exact hR h4 tk4 m4 F4 hm4 N4
end
end Mine
end
section
open PySem PySem.W PyProof.Rows PySem.Calls
namespace Mine
/-! what follows a part is given a name while that part is walked: the terms stay small -/
section
variable {M : Model} {A : Around} {env cenv : Env} {E E' : Value → Shared → Prop} {s : Shared}
theorem turn_gen {tgt : Expr} {v : Value} {body : List Stmt} {Q : Flow → Shared → Prop} (h : ∀ Q', Q = Q' → wpAny M A (assign tgt env v) (fun _ s₂ => wpAny M A (execs body env) Q' E s₂) E' s) :
    wpAny M A (assign tgt env v) (fun _ s₂ => wpAny M A (execs body env) Q E s₂) E' s := h Q rfl
theorem post_gen {α : Type} {t : Sem α} {Q : α → Shared → Prop} (h : ∀ Q', Q = Q' → wpAny M A t Q' E s) : wpAny M A t Q E s := h Q rfl
theorem while_gen {t : Sem Bool} {body : List Stmt} {QB : Flow → Shared → Prop} {QN : Shared → Prop}
    (h : ∀ QB' QN', QB = QB' → QN = QN' → wpAny M A t (fun b s₂ => if b = true then wpAny M A (execs body env) QB' E s₂ else QN' s₂) E' s) :
    wpAny M A t (fun b s₂ => if b = true then wpAny M A (execs body env) QB E s₂ else QN s₂) E' s := h QB QN rfl rfl
theorem comp_gen {ifs : List Expr} {elt : Expr} {PY : Value → Shared → Prop} {PN : Shared → Prop}
    (h : ∀ PY' PN', PY = PY' → PN = PN' → wpAny M A (testsOf ifs cenv) (fun ok s₃ => if ok = true then wpAny M A (eval elt cenv) PY' E s₃ else PN' s₃) E' s) :
    wpAny M A (testsOf ifs cenv) (fun ok s₃ => if ok = true then wpAny M A (eval elt cenv) PY E s₃ else PN s₃) E' s := h PY PN rfl rfl
theorem fr_gen {h₀ h : Heap} {L : Addr} {m : Str → Option Value} (F : Fr h₀ L h m) : ∃ m', m = m' ∧ Fr h₀ L h m' := ⟨m, rfl, F⟩
theorem fr_gen1 {h₀ h : Heap} {L : Addr} {m : Str → Option Value} {x : Str} {v : Value} (F : Fr h₀ L h m) (e : m x = some v) : ∃ m' : Str → Option Value, m = m' ∧ m' x = some v ∧ Fr h₀ L h (fun y => if y = x then some v else m' y) :=
  ⟨m, rfl, e, by
    have : (fun y => if y = x then some v else m y) = m := funext fun y => by
      by_cases h : y = x
      · rw [if_pos h, h, e]
      · rw [if_neg h]
    rw [this]; exact F⟩
end
/-- the order tells the places apart -/
theorem apart_lt {P R : List (Addr × Obj)} (B : Nat) (hP : ∀ p ∈ P, @LE.le Nat _ B p.1) (hR : ∀ q ∈ R, @LT.lt Nat _ q.1 B) : Apart P R := fun p hp q hq => Nat.ne_of_gt (Nat.lt_of_lt_of_le (hR q hq) (hP p hp))
theorem apart_sub {P P' R : List (Addr × Obj)} (a : Apart P R) (h : ∀ p ∈ P', ∃ q ∈ P, q.1 = p.1) : Apart P' R := fun p hp r hr => by
  obtain ⟨q, hq, e⟩ := h p hp
  rw [← e]; exact a q hq r hr
end Mine
namespace Mine
theorem ne_s {a b : Nat} (h : a ≠ b) : a + 1 ≠ b + 1 := fun e => h (Nat.succ.inj e)
theorem ne_z1 {a : Nat} : a ≠ a + 1 := Nat.ne_of_lt (by omega)
theorem ne_z2 {a : Nat} : a ≠ a + 1 + 1 := Nat.ne_of_lt (by omega)
theorem ne_z3 {a : Nat} : a ≠ a + 1 + 1 + 1 := Nat.ne_of_lt (by omega)
theorem ne_z4 {a : Nat} : a ≠ a + 1 + 1 + 1 + 1 := Nat.ne_of_lt (by omega)
theorem ne_z5 {a : Nat} : a ≠ a + 1 + 1 + 1 + 1 + 1 := Nat.ne_of_lt (by omega)
theorem ne_z6 {a : Nat} : a ≠ a + 1 + 1 + 1 + 1 + 1 + 1 := Nat.ne_of_lt (by omega)
theorem ne_z7 {a : Nat} : a ≠ a + 1 + 1 + 1 + 1 + 1 + 1 + 1 := Nat.ne_of_lt (by omega)
theorem ne_z8 {a : Nat} : a ≠ a + 1 + 1 + 1 + 1 + 1 + 1 + 1 + 1 := Nat.ne_of_lt (by omega)
end Mine
namespace Mine
theorem tok_gen {α : Type} {M : Model} {A : Around} {t : Sem α} {Q : α → Shared → Prop} {E : Value → Shared → Prop} {h₀ h : Heap} {L : Addr} {m : Str → Option Value} (s : Shared) (_ : Fr h₀ L h m) {tk : Nat}
    (k : ∀ tk', wpAny M A t Q E { s with heap := h, toks := tk' }) : wpAny M A t Q E { s with heap := h, toks := tk } := k tk
end Mine
namespace Mine
/-- the goal by a name of its own, while what stands behind an ∃ is taken apart: each such step tells the goal anew -/
theorem opq {G : Prop} (h : ∀ X : Prop, (G → X) → X) : G := h G id
end Mine
end
section
open PySem PySem.W PyProof.Rows PySem.Calls
namespace Mine
/-! small steps, so that the terms stay small -/
theorem all_nil {α : Type} {p : α → Prop} : ∀ x ∈ ([] : List α), p x := fun _ h => nomatch h
theorem all_cons {α : Type} {p : α → Prop} {a : α} {l : List α} (h : p a) (t : ∀ x ∈ l, p x) : ∀ x ∈ a :: l, p x := List.forall_mem_cons.mpr ⟨h, t⟩
theorem ltA {a d : Addr} {l : List (Addr × Obj)} {o : Obj} (h : AllLt d l) (m : (a, o) ∈ l) : @LT.lt Nat _ a d := by
  induction l with
  | nil => cases m
  | cons p r ih => cases m with
    | head => exact h.1
    | tail _ m => exact ih h.2 m
theorem mem_h {α : Type} {a : α} {l : List α} : a ∈ a :: l := .head _
theorem mem_t {α : Type} {a b : α} {l : List α} (h : a ∈ l) : a ∈ b :: l := .tail _ h
theorem ltS {a d : Nat} (h : @LT.lt Nat _ a d) : @LT.lt Nat _ a (d + 1) := Nat.lt_succ_of_lt h
theorem ne_lt {a d : Nat} (h : @LT.lt Nat _ a d) : a ≠ d := Nat.ne_of_lt h
theorem ne_gt {a d : Nat} (h : @LT.lt Nat _ d a) : a ≠ d := Nat.ne_of_gt h
end Mine
namespace Mine
open PySem
theorem ltZ {a : Nat} : @LT.lt Nat _ a (a + 1) := Nat.lt_succ_self a
theorem ltP {a d : Nat} (h : @LT.lt Nat _ (a + 1) d) : @LT.lt Nat _ a d := Nat.lt_of_succ_lt h
theorem ltR {a d : Addr} {l : List (Addr × Obj)} {o : Obj} (h : ∀ p ∈ l, p.1 < d) (m : (a, o) ∈ l) : @LT.lt Nat _ a d := h _ m
end Mine
end
section
open PySem PySem.W PyProof.Rows PySem.Calls
namespace Mine
/-- the letters of a word -/
def Ltr (l : List Nat) : Prop := ∀ c ∈ l, 65 ≤ c ∧ c ≤ 80
theorem apL_ltr : ∀ n : Nat, ∀ c ∈ apL n, 65 ≤ c.toNat ∧ c.toNat ≤ 80 := by
  intro n
  induction n using Nat.strongRecOn with
  | ind n ih =>
    by_cases h : n = 0
    · subst h; rw [apL_zero]; exact fun _ h => nomatch h
    · rw [apL_step h]
      intro c hc
      rcases List.mem_append.mp hc with hc | hc
      · exact ih _ (by omega) c hc
      · rw [List.mem_singleton.mp hc, UInt8.toNat_ofNat']; omega
theorem wcode_ltr (x : Int) : Ltr (wcode x) := by
  intro c hc
  obtain ⟨a, ha, rfl⟩ := List.mem_map.mp hc
  exact apL_ltr _ a ha
theorem apL_head : ∀ n : Nat, ((apL n).map (·.toNat)).head? ≠ some 65 := by
  intro n
  induction n using Nat.strongRecOn with
  | ind n ih =>
    by_cases h : n = 0
    · subst h; rw [apL_zero]; exact fun h => nomatch h
    · rw [apL_step h, List.map_append]
      by_cases h2 : n / 16 = 0
      · rw [h2, apL_zero]
        simp only [List.map_nil, List.nil_append, List.map_cons, List.head?_cons]
        intro e
        have e := Option.some.inj e
        rw [UInt8.toNat_ofNat'] at e; omega
      · have := ih (n / 16) (by omega)
        revert this
        rw [apL_step h2, List.map_append]
        generalize (apL (n / 16 / 16)).map (·.toNat) = q
        cases q with
        | nil => simp
        | cons a r => simp
theorem wcode_head (x : Int) : (wcode x).head? ≠ some 65 := apL_head _
theorem numOf_apL : ∀ n : Nat, numOf ((apL n).map (·.toNat)) = (n : Int) := by
  intro n
  induction n using Nat.strongRecOn with
  | ind n ih =>
    by_cases h : n = 0
    · subst h; rw [apL_zero]; rfl
    · rw [apL_step h, List.map_append, numOf, List.foldl_append]
      have := ih (n / 16) (by omega)
      rw [numOf] at this
      rw [this]
      simp only [List.map_cons, List.map_nil, List.foldl_cons, List.foldl_nil, UInt8.toNat_ofNat']
      omega
theorem numOf_wcode (x : Int) : numOf (wcode x) = (x.natAbs : Int) := numOf_apL _
theorem bare_c (acc : List Nat) (c : Nat) (r : List Nat) : bare acc (c :: r) = if ws c then some (acc, r) else if c = 92 then (match r with | [] => none | d :: r' => bare (acc ++ [d]) r') else bare (acc ++ [c]) r := by rw [bare.eq_def] <;> (cases r <;> rfl)
theorem quoted_c (acc : List Nat) (c : Nat) (r : List Nat) : quoted acc (c :: r) = if c = 34 then some (acc, r) else if c = 92 then (match r with | [] => none | d :: r' => quoted (acc ++ [d]) r') else quoted (acc ++ [c]) r := by rw [quoted.eq_def] <;> (cases r <;> rfl)
theorem skip_c (c : Nat) (r : List Nat) : skip (c :: r) = if ws c then skip r else if c = 34 then quoted [] r else if c = 92 then (match r with | [] => none | d :: r' => bare [d] r') else bare [c] r := by rw [skip.eq_def] <;> (cases r <;> rfl)
theorem bare_lits : ∀ (w acc r : List Nat) (c : Nat), Ltr w → ws c = true → bare acc (w ++ c :: r) = some (acc ++ w, r)
  | [], acc, r, c, _, hc => by rw [List.nil_append, bare_c, if_pos hc, List.append_nil]
  | a :: w, acc, r, c, hw, hc => by
    have ha := hw a (.head _)
    have h1 : ws a = false := by unfold ws; simp; omega
    rw [List.cons_append, bare_c, h1, if_neg Bool.false_ne_true, if_neg (by omega), bare_lits w _ r c (fun b hb => hw b (.tail _ hb)) hc, List.append_assoc, List.singleton_append]
theorem bare_escs : ∀ (w acc r : List Nat) (c : Nat), ws c = true → bare acc ((w.map fun c => [92, c]).flatten ++ c :: r) = some (acc ++ w, r)
  | [], acc, r, c, hc => by rw [List.map_nil, List.flatten_nil, List.nil_append, bare_c, if_pos hc, List.append_nil]
  | a :: w, acc, r, c, hc => by
    have h1 : ws 92 = false := rfl
    rw [List.map_cons, List.flatten_cons, List.append_assoc, List.cons_append, List.cons_append, List.nil_append, bare_c, h1, if_neg Bool.false_ne_true, if_pos rfl]
    show bare (acc ++ [a]) ((w.map fun c => [92, c]).flatten ++ c :: r) = _
    rw [bare_escs w _ r c hc, List.append_assoc, List.singleton_append]
theorem quoted_lits : ∀ (w acc r : List Nat), Ltr w → quoted acc (w ++ 34 :: r) = some (acc ++ w, r)
  | [], acc, r, _ => by rw [List.nil_append, quoted_c, if_pos rfl, List.append_nil]
  | a :: w, acc, r, hw => by
    have ha := hw a (.head _)
    rw [List.cons_append, quoted_c, if_neg (by omega), if_neg (by omega), quoted_lits w _ r (fun b hb => hw b (.tail _ hb)), List.append_assoc, List.singleton_append]
theorem wrt_ws (way : Nat) : ws ([32, 10, 9, 13].getD (way / 3 % 4) 0) = true := by
  have hk : way / 3 % 4 < 4 := Nat.mod_lt _ (by decide)
  generalize way / 3 % 4 = k at hk
  match k, hk with
  | 0, _ => rfl
  | 1, _ => rfl
  | 2, _ => rfl
  | 3, _ => rfl
/-- what is left behind a word that was read -/
def Left (rest r : List Nat) : Prop := r = rest ∨ ∃ c, ws c = true ∧ r = c :: rest
theorem skip_wrt {l : List Nat} (hl : Ltr l) (way : Nat) (rest : List Nat) : ∃ r, skip (wrt l way ++ rest) = some (l, r) ∧ Left rest r := by
  obtain ⟨c, hc, hc0⟩ : ∃ c, c = [32, 10, 9, 13].getD (way / 3 % 4) 0 ∧ ws c = true := ⟨_, rfl, wrt_ws way⟩
  unfold wrt
  rw [← hc]
  by_cases h : l = [] ∨ way % 3 = 2
  · rw [if_pos h]
    refine ⟨c :: rest, ?_, .inr ⟨c, hc0, rfl⟩⟩
    rw [show [34] ++ l ++ [34] ++ [c] ++ rest = 34 :: (l ++ 34 :: (c :: rest)) by simp, skip_c, show ws 34 = false from rfl, if_neg Bool.false_ne_true, if_pos rfl, quoted_lits l [] _ hl, List.nil_append]
  · rw [if_neg h]
    obtain ⟨a, w, rfl⟩ : ∃ a w, l = a :: w := by
      cases l with
      | nil => exact absurd (.inl rfl) h
      | cons a w => exact ⟨a, w, rfl⟩
    have ha := hl a (.head _)
    refine ⟨rest, ?_, .inl rfl⟩
    by_cases h1 : way % 3 = 1
    · rw [if_pos h1, List.map_cons, List.flatten_cons]
      rw [show [92, a] ++ (w.map fun c => [92, c]).flatten ++ [c] ++ rest = 92 :: a :: ((w.map fun c => [92, c]).flatten ++ c :: rest) by simp, skip_c, show ws 92 = false from rfl, if_neg Bool.false_ne_true, if_neg (by decide), if_pos rfl]
      show bare [a] ((w.map fun c => [92, c]).flatten ++ c :: rest) = _
      rw [bare_escs w [a] rest c hc0]; rfl
    · rw [if_neg h1]
      have h2 : ws a = false := by unfold ws; simp; omega
      rw [show a :: w ++ [c] ++ rest = a :: (w ++ c :: rest) by simp, skip_c, h2, if_neg Bool.false_ne_true, if_neg (by omega), if_neg (by omega), bare_lits w [a] rest c (fun b hb => hl b (.tail _ hb)) hc0]; rfl
theorem skip_left {rest r : List Nat} (h : Left rest r) : skip r = skip rest := by
  rcases h with rfl | ⟨c, hc, rfl⟩
  · rfl
  · rw [skip_c, if_pos hc]
end Mine
namespace Mine
theorem addr_all {R : Addr → Prop} : ∀ {l l' : List (Addr × Obj)}, l.map (·.1) = l'.map (·.1) → (∀ p ∈ l, R p.1) → ∀ p ∈ l', R p.1
  | [], [], _, _ => fun _ h => nomatch h
  | [], _ :: _, e, _ => nomatch e
  | _ :: _, [], e, _ => nomatch e
  | a :: l, b :: l', e, h => by
    have e1 : a.1 = b.1 := (List.cons.inj e).1
    intro p hp
    rcases List.mem_cons.mp hp with rfl | hp
    · rw [← e1]; exact h a (.head _)
    · exact addr_all (List.cons.inj e).2 (fun q hq => h q (.tail _ hq)) p hp
theorem apart_same {P P' R R' : List (Addr × Obj)} (e : P.map (·.1) = P'.map (·.1)) (e' : R.map (·.1) = R'.map (·.1)) (h : Apart P R) : Apart P' R' :=
  addr_all (R := fun a => ∀ q ∈ R', a ≠ q.1) e fun p hp => addr_all (R := fun a => p.1 ≠ a) e' (h p hp)
theorem apart_more {P R : List (Addr × Obj)} {x : Addr × Obj} (h : ∀ p ∈ P, p.1 ≠ x.1) (a : Apart P R) : Apart P (x :: R) := fun p hp => List.forall_mem_cons.mpr ⟨h p hp, a p hp⟩
theorem off_same {C D : Addr} {P P' : List (Addr × Obj)} (e : P.map (·.1) = P'.map (·.1)) (h : Off C D P) : Off C D P' := addr_all (R := fun a => a ≠ C ∧ a ≠ D) e h
/-- what is still to be read from the word i on -/
def restW (u : Nat) (us : List Nat) (n i : Nat) : List Nat := (((List.range n).drop i).map (chunk u us)).flatten
theorem restW_at {u n i : Nat} {us : List Nat} (h : i < n) : restW u us n i = chunk u us i ++ restW u us n (i + 1) := by
  unfold restW
  rw [List.drop_eq_getElem_cons (by rw [List.length_range]; exact h), List.getElem_range, List.map_cons, List.flatten_cons]
end Mine
end
section
open PySem PySem.W PyProof.Rows PySem.Calls
namespace Mine
abbrev absL (ns : List Int) : List Int := ns.map fun x => (x.natAbs : Int)
/-- what a turn lays for the next one -/
def dn (ns : List Int) : List Int := (List.range ns.length).map fun j => ns.getD j 0 - ns.getD ((j + 1) % ns.length) 0
theorem dn_len (ns : List Int) : (dn ns).length = ns.length := by rw [dn, List.length_map, List.length_range]
theorem dn_words {ns : List Int} {n : Nat} (h : ns.length = n) : (List.range n).map (dw ns) = (dn ns).map wcode := by
  subst h; rw [dn, List.map_map]; rfl
def absd (a b : Nat) : Nat := (a - b) + (b - a)
/-- Ducci's turn -/
def duc (us : List Nat) : List Nat := (List.range us.length).map fun j => absd (us.getD j 0) (us.getD ((j + 1) % us.length) 0)
theorem duc_len (us : List Nat) : (duc us).length = us.length := by rw [duc, List.length_map, List.length_range]
theorem rowOf_len (u : Nat) (us : List Nat) : (rowOf u us).length = us.length := by rw [rowOf, List.length_map]
theorem absd_mul (a b u : Nat) : ((((a : Nat) : Int) * (u : Int) - (b : Nat) * (u : Int)).natAbs : Int) = ((absd a b : Nat) : Int) * (u : Int) := by
  rw [← Int.sub_mul, Int.natAbs_mul, Int.natAbs_natCast, Int.natCast_mul]
  congr 1
  unfold absd; omega
theorem abs_dn (u : Nat) (us : List Nat) : absL (dn (rowOf u us)) = rowOf u (duc us) := by
  rw [absL, dn, List.map_map, rowOf_len, duc, show rowOf u ((List.range us.length).map fun j => absd (us.getD j 0) (us.getD ((j + 1) % us.length) 0)) = ((List.range us.length).map fun j => absd (us.getD j 0) (us.getD ((j + 1) % us.length) 0)).map fun (v : Nat) => (v : Int) * (u : Int) from rfl, List.map_map]
  refine List.map_congr_left fun j _ => ?_
  simp only [Function.comp, rowOf_get]
  exact absd_mul _ _ _
theorem abs_row (u : Nat) (us : List Nat) : absL (rowOf u us) = rowOf u us := by
  rw [absL, rowOf, List.map_map]
  refine List.map_congr_left fun j _ => ?_
  simp only [Function.comp]
  rw [vu_nat, Int.natCast_mul]
theorem duc_le {us : List Nat} {b : Nat} (h : ∀ v ∈ us, v ≤ b) : ∀ v ∈ duc us, v ≤ b := by
  intro v hv
  obtain ⟨j, -, rfl⟩ := List.mem_map.mp hv
  have g : ∀ k, us.getD k 0 ≤ b := by
    intro k
    rw [List.getD_eq_getElem?_getD]
    by_cases hk : k < us.length
    · rw [List.getElem?_eq_getElem hk]; exact h _ (List.getElem_mem hk)
    · rw [List.getElem?_eq_none (Nat.not_lt.mp hk)]; exact Nat.zero_le _
  have := g j
  have := g ((j + 1) % us.length)
  unfold absd; omega
theorem row_words (u : Nat) (us : List Nat) : ((List.range us.length).map fun j => txt (wcode (((us.getD j 0 : Nat) : Int) * (u : Int)))) = (rowOf u us).map fun x => txt (wcode x) := by
  rw [rowOf, List.map_map]
  refine List.ext_getElem (by simp) fun i h1 h2 => ?_
  simp only [List.getElem_map, List.getElem_range, Function.comp]
  rw [List.getD_eq_getElem?_getD, List.getElem?_eq_getElem (by simpa using h1)]; rfl
theorem row_bound {u : Nat} {us : List Nat} (hu : u ≤ 655) (h : ∀ v ∈ us, v ≤ 6) : ∀ x ∈ rowOf u us, x.natAbs < 16 ^ 18 := by
  intro x hx
  obtain ⟨v, hv, rfl⟩ := List.mem_map.mp hx
  have := vu_bound (h v hv) hu
  rw [vu_nat]; omega
theorem dn_bound {ns : List Int} (h : ∀ x ∈ ns, x.natAbs ≤ 3930) : ∀ x ∈ dn ns, x.natAbs < 16 ^ 18 := by
  intro x hx
  obtain ⟨j, -, rfl⟩ := List.mem_map.mp hx
  have g : ∀ k, (ns.getD k 0).natAbs < 3931 := fun k => nums_bound (b := 3931) (fun x hx => Nat.lt_succ_of_le (h x hx)) k
  have := g j
  have := g ((j + 1) % ns.length)
  omega
end Mine
end
section
open PySem PySem.W PyProof.Rows PySem.Calls
namespace Mine
def okRow (us : List Nat) : Prop := ∃ m, ∀ v ∈ us, v = 0 ∨ v = m
def itD : Nat → List Nat → List Nat
  | 0, us => us
  | t + 1, us => itD t (duc us)
theorem itD_add : ∀ (a b : Nat) (us : List Nat), itD a (itD b us) = itD (b + a) us
  | a, 0, us => by rw [Nat.zero_add]; rfl
  | a, b + 1, us => by rw [show b + 1 + a = (b + a) + 1 by omega]; exact itD_add a b (duc us)
theorem itD_len : ∀ (t : Nat) (us : List Nat), (itD t us).length = us.length
  | 0, _ => rfl
  | t + 1, us => by rw [itD, itD_len t, duc_len]
theorem itD_le {b : Nat} : ∀ (t : Nat) {us : List Nat}, (∀ v ∈ us, v ≤ b) → ∀ v ∈ itD t us, v ≤ b
  | 0, _, h => h
  | t + 1, _, h => itD_le t (duc_le h)
/-- the same for functions -/
def fD (f : Nat → Nat) (i : Nat) : Nat := absd (f i) (f (i + 1))
def fIt : Nat → (Nat → Nat) → Nat → Nat
  | 0, f => f
  | t + 1, f => fIt t (fD f)
def fn (us : List Nat) (i : Nat) : Nat := us.getD (i % us.length) 0
theorem fn_duc {us : List Nat} (h : 0 < us.length) : fn (duc us) = fD (fn us) := by
  funext i
  have hi : i % us.length < us.length := Nat.mod_lt _ h
  unfold fn fD
  rw [duc_len, duc, List.getD_eq_getElem?_getD, List.getElem?_map, List.getElem?_range hi]
  simp only [Option.map_some, Option.getD_some]
  rw [Nat.mod_add_mod]
theorem fn_it : ∀ (t : Nat) {us : List Nat}, 0 < us.length → fn (itD t us) = fIt t (fn us)
  | 0, _, _ => rfl
  | t + 1, us, h => by rw [itD, fn_it t (by rw [duc_len]; exact h), fn_duc h]; rfl
theorem window : ∀ (t : Nat) (f : Nat → Nat) (j M : Nat), 0 < M → (∀ i, f i ≤ M) → fIt t f j = M → (∀ i, i ≤ t → f (j + i) = 0 ∨ f (j + i) = M) ∧ ∃ i, i ≤ t ∧ f (j + i) = M
  | 0, f, j, M, _, _, he => ⟨fun i hi => by rw [Nat.le_zero.mp hi]; exact .inr he, 0, Nat.le_refl _, he⟩
  | t + 1, f, j, M, hM, hb, he => by
    have hb' : ∀ i, fD f i ≤ M := fun i => by have := hb i; have := hb (i + 1); unfold fD absd; omega
    obtain ⟨h1, i0, hi0, h2⟩ := window t (fD f) j M hM hb' he
    have step : ∀ i, i ≤ t → ((f (j + i) = 0 ∨ f (j + i) = M) ↔ (f (j + (i + 1)) = 0 ∨ f (j + (i + 1)) = M)) := by
      intro i hi
      have q := h1 i hi
      have p1 := hb (j + i)
      have p2 := hb (j + i + 1)
      unfold fD absd at q
      rw [← Nat.add_assoc]
      constructor <;> intro h <;> omega
    have all : ∀ i, i ≤ t + 1 → ((f (j + i) = 0 ∨ f (j + i) = M) ↔ (f (j + 0) = 0 ∨ f (j + 0) = M)) := by
      intro i
      induction i with
      | zero => exact fun _ => Iff.rfl
      | succ i ih => exact fun hi => (step i (by omega)).symm.trans (ih (by omega))
    have p1 := hb (j + i0)
    have p2 := hb (j + i0 + 1)
    unfold fD absd at h2
    have g0 : f (j + i0) = 0 ∨ f (j + i0) = M := by omega
    have gj := (all i0 (by omega)).mp g0
    refine ⟨fun i hi => (all i hi).mpr gj, ?_⟩
    by_cases hx : f (j + i0) = M
    · exact ⟨i0, by omega, hx⟩
    · exact ⟨i0 + 1, by omega, by rw [← Nat.add_assoc]; omega⟩
theorem fn_le {us : List Nat} {b : Nat} (h : ∀ v ∈ us, v ≤ b) (i : Nat) : fn us i ≤ b := by
  unfold fn
  rw [List.getD_eq_getElem?_getD]
  by_cases hk : i % us.length < us.length
  · rw [List.getElem?_eq_getElem hk]; exact h _ (List.getElem_mem hk)
  · rw [List.getElem?_eq_none (Nat.not_lt.mp hk)]; exact Nat.zero_le _
theorem fn_mem {us : List Nat} {v : Nat} (h : v ∈ us) : ∃ i, i < us.length ∧ fn us i = v := by
  obtain ⟨i, hi, rfl⟩ := List.getElem_of_mem h
  refine ⟨i, hi, ?_⟩
  unfold fn
  rw [Nat.mod_eq_of_lt hi, List.getD_eq_getElem?_getD, List.getElem?_eq_getElem hi]; rfl
/-- Ducci's turns come to nought and one other number -/
theorem ducci_ends : ∀ (b : Nat) (us : List Nat), (∀ v ∈ us, v ≤ b) → ∃ t, okRow (itD t us)
  | 0, us, h => ⟨0, 0, fun v hv => .inl (Nat.le_zero.mp (h v hv))⟩
  | b + 1, us, h => by
    by_cases hx : ∃ v ∈ itD us.length us, v = b + 1
    · obtain ⟨v, hv, rfl⟩ := hx
      obtain ⟨j, hj, he⟩ := fn_mem hv
      rw [itD_len] at hj
      rw [fn_it us.length (by omega)] at he
      obtain ⟨w1, -⟩ := window us.length (fn us) j (b + 1) (by omega) (fn_le h) he
      refine ⟨0, b + 1, fun v (hv : v ∈ us) => ?_⟩
      obtain ⟨i, hi, rfl⟩ := fn_mem hv
      by_cases hij : j ≤ i
      · have := w1 (i - j) (by omega)
        rwa [show j + (i - j) = i by omega] at this
      · have := w1 (i + us.length - j) (by omega)
        rw [show j + (i + us.length - j) = i + us.length by omega] at this
        unfold fn at this ⊢
        rwa [Nat.add_mod_right] at this
    · have hle : ∀ v ∈ itD us.length us, v ≤ b := fun v hv => by
        have := itD_le us.length h v hv
        have : v ≠ b + 1 := fun e => hx ⟨v, hv, e⟩
        omega
      obtain ⟨t, ht⟩ := ducci_ends b _ hle
      rw [itD_add] at ht
      exact ⟨_, ht⟩
/-- the while's test, on -/
theorem not_ok {u : Nat} {us : List Nat} {M x : Int} (hM : M ∈ rowOf u us) (hb : ∀ a ∈ rowOf u us, a ≤ M) (hx : x ∈ rowOf u us) (h0 : x ≠ 0) (h1 : x ≠ M) : ¬ okRow us := by
  rintro ⟨m, hm⟩
  have hle := hb x hx
  obtain ⟨v, hv, rfl⟩ := List.mem_map.mp hx
  obtain ⟨v', hv', rfl⟩ := List.mem_map.mp hM
  rcases hm v hv with rfl | rfl
  · exact h0 (by simp)
  · rcases hm v' hv' with rfl | rfl
    · have : (0 : Int) ≤ (v : Int) * (u : Int) := Int.mul_nonneg (Int.natCast_nonneg _) (Int.natCast_nonneg _)
      simp at hle
      simp at h0
      omega
    · exact h1 rfl
theorem ends_next {us : List Nat} {r : Nat} (h : ∃ t, t ≤ r ∧ okRow (itD t us)) (hn : ¬ okRow us) : 0 < r ∧ ∃ t, t ≤ r - 1 ∧ okRow (itD t (duc us)) := by
  obtain ⟨t, ht, ho⟩ := h
  cases t with
  | zero => exact absurd ho hn
  | succ t => exact ⟨by omega, t, by omega, ho⟩
end Mine
namespace Mine
theorem flt_yes {α : Type} {p : α → Bool} {l : List α} {i : Nat} {x : α} (h : l[i]? = some x) (hp : p x = true) : (l.take (i + 1)).filter p = (l.take i).filter p ++ [x] := by
  rw [take_snoc h, List.filter_append, List.filter_cons_of_pos hp]; rfl
theorem flt_no {α : Type} {p : α → Bool} {l : List α} {i : Nat} {x : α} (h : l[i]? = some x) (hp : p x = false) : (l.take (i + 1)).filter p = (l.take i).filter p := by
  rw [take_snoc h, List.filter_append, List.filter_cons_of_neg (by rw [hp]; exact Bool.false_ne_true), List.filter_nil, List.append_nil]
end Mine
namespace Mine
theorem next_place {i n : Nat} (h : 0 < n) : ∃ j : Nat, ((0 : Int) + (i : Int) * 1 + 1).fmod (n : Int) = (j : Int) ∧ j = (i + 1) % n ∧ j < n := by
  refine ⟨(i + 1) % n, ?_, rfl, Nat.mod_lt _ h⟩
  rw [show (0 : Int) + (i : Int) * 1 + 1 = ((i + 1 : Nat) : Int) by omega, Int.fmod_eq_emod_of_nonneg _ (Int.natCast_nonneg _), Int.natCast_emod]
theorem duc_at {u : Nat} {us : List Nat} {i n : Nat} (hl : us.length = n) (hi : i < n) : ∃ v, (duc us)[i]? = some v ∧ ((((rowOf u us).getD i 0 - (rowOf u us).getD ((i + 1) % n) 0).natAbs : Nat) : Int) = (v : Int) * (u : Int) := by
  subst hl
  refine ⟨absd (us.getD i 0) (us.getD ((i + 1) % us.length) 0), ?_, ?_⟩
  · rw [duc, List.getElem?_map, List.getElem?_range hi]; rfl
  · rw [rowOf_get, rowOf_get]; exact absd_mul _ _ _
theorem rowOf_snoc {u i v : Nat} {us : List Nat} (h : us[i]? = some v) : rowOf u (us.take (i + 1)) = rowOf u (us.take i) ++ [(v : Int) * (u : Int)] := by
  rw [take_snoc h, rowOf, List.map_append]; rfl
end Mine
namespace Mine
theorem abs_ite (x : Int) : ((x.natAbs : Nat) : Int) = if x < 0 then -x else x := by split <;> omega
end Mine
namespace Mine
theorem row_le {u : Nat} {us : List Nat} (hu : u ≤ 655) (h : ∀ v ∈ us, v ≤ 6) : ∀ x ∈ rowOf u us, x.natAbs ≤ 3930 := by
  intro x hx
  obtain ⟨v, hv, rfl⟩ := List.mem_map.mp hx
  have := vu_bound (h v hv) hu
  rw [vu_nat]; exact this
end Mine
end
section
open PySem PySem.W PyProof.Rows PySem.Calls
namespace Mine
/-- after how many turns all comes round -/
def rnd (n : Nat) : Nat := [15, 6, 7].getD (n - 5) 0
theorem rnd_eq {n : Nat} (h5 : 5 ≤ n) (h7 : n ≤ 7) : ([15, 6, 7] : List Int).getD ((n : Int) - 5).toNat 0 = (rnd n : Int) ∧ 6 ≤ rnd n ∧ rnd n ≤ 15 := by
  have : n = 5 ∨ n = 6 ∨ n = 7 := by omega
  rcases this with rfl | rfl | rfl <;> exact ⟨rfl, by decide, by decide⟩
theorem itD_next (i : Nat) (us : List Nat) : itD (i + 1) us = duc (itD i us) := by rw [← itD_add 1 i us]; rfl
end Mine
namespace Mine
theorem fr_name {h₀ h : Heap} {L : Addr} {m : Str → Option Value} (_ : Fr h₀ L h m) : ∃ m', m' = m := ⟨m, rfl⟩
/-- the number of steps that a turn stands for -/
def stp (R i : Nat) : Nat := if i + 1 < R + 2 then i + 1 else i + 1 - R
end Mine
namespace Mine
theorem bit_and (a b : Nat) : Builtin.bitAnd ((0 : Int) + (a : Int) * 1) (b : Int) = ((a &&& b : Nat) : Int) := by
  rw [show (0 : Int) + (a : Int) * 1 = (a : Int) by omega]; rfl
/-- the places whose ones are ones of st -/
def plc (st : Nat) : List Nat := (List.range (st + 1)).filter fun j => j &&& st == j
theorem rng_yes {p : Nat → Bool} {i : Nat} (h : p i = true) : (List.range (i + 1)).filter p = (List.range i).filter p ++ [i] := by
  rw [List.range_succ, List.filter_append, List.filter_cons_of_pos h]; rfl
theorem rng_no {p : Nat → Bool} {i : Nat} (h : p i = false) : (List.range (i + 1)).filter p = (List.range i).filter p := by
  rw [List.range_succ, List.filter_append, List.filter_cons_of_neg (by rw [h]; exact Bool.false_ne_true), List.filter_nil, List.append_nil]
end Mine
namespace Mine
/-- who lives, by the binomials -/
def livB (ns : List Int) (n st k : Nat) : Bool := decide (((plc st).filter fun j => decide (ns.getD ((k + j) % n) 0 ≠ 0)).length % 2 = 1)
theorem far_place {k j n : Nat} (h : 0 < n) : ∃ q : Nat, ((0 : Int) + (k : Int) * 1 + (j : Int)).fmod (n : Int) = (q : Int) ∧ q = (k + j) % n ∧ q < n := by
  refine ⟨(k + j) % n, ?_, rfl, Nat.mod_lt _ h⟩
  rw [show (0 : Int) + (k : Int) * 1 + (j : Int) = ((k + j : Nat) : Int) by omega, Int.fmod_eq_emod_of_nonneg _ (Int.natCast_nonneg _), Int.natCast_emod]
end Mine
namespace Mine
theorem odd_b (c : Nat) : ((c : Int).fmod 2 == 1) = decide (c % 2 = 1) := by
  rw [Int.fmod_eq_emod_of_nonneg _ (by decide)]
  by_cases h : c % 2 = 1
  · rw [decide_eq_true h, beq_iff_eq]; omega
  · rw [decide_eq_false h, beq_eq_false_iff_ne]; omega
end Mine
namespace Mine
/-- the row that the binomials tell -/
def lvM (ns : List Int) (n st : Nat) (M : Int) : List Int := (List.range n).map fun k => if livB ns n st k = true then M else 0
theorem lvM_at {ns : List Int} {n st i : Nat} {M : Int} (h : i < n) : (lvM ns n st M)[i]? = some (if livB ns n st i = true then M else 0) := by
  rw [lvM, List.getElem?_map, List.getElem?_range h]; rfl
theorem live_at {ns : List Int} {n st i : Nat} {v : Value} (h : ItemAt ((List.range n).map (fun k => Value.bool (livB ns n st k))).toArray i v) : v = .bool (livB ns n st i) ∧ i < n := by
  have h' : ((List.range n).map (fun k => Value.bool (livB ns n st k)))[i]? = some v := by simpa [ItemAt] using h
  have hi : i < n := by
    have := (List.getElem?_eq_some_iff.mp h').1
    rwa [List.length_map, List.length_range] at this
  rw [List.getElem?_map, List.getElem?_range hi] at h'
  exact ⟨(Option.some.inj h').symm, hi⟩
/-- the law of the second part: binomials by 2 (shown below) -/
def Tells (us : List Nat) (u n R : Nat) (M : Int) : Prop := ∀ i, i < R + 3 → rowOf u (itD (i + 1) us) = lvM (rowOf u us) n (stp R i) M
end Mine
namespace Mine
theorem live_top {u n st k : Nat} {us : List Nat} {M : Int} (hu : 256 ≤ u) (hM : M ∈ rowOf u us) (hb : ∀ a ∈ rowOf u us, a ≤ M) (h : livB (rowOf u us) n st k = true) : 256 ≤ M := by
  unfold livB at h
  have h1 := of_decide_eq_true h
  have h2 : ((plc st).filter fun j => decide ((rowOf u us).getD ((k + j) % n) 0 ≠ 0)) ≠ [] := by
    intro e; rw [e] at h1; simp at h1
  obtain ⟨j, hj⟩ := List.exists_mem_of_ne_nil _ h2
  have h3 := of_decide_eq_true (List.mem_filter.mp hj).2
  have h4 : (rowOf u us).getD ((k + j) % n) 0 ∈ rowOf u us := by
    rw [List.getD_eq_getElem?_getD] at h3 ⊢
    by_cases hk : (k + j) % n < (rowOf u us).length
    · rw [List.getElem?_eq_getElem hk]; exact List.getElem_mem hk
    · rw [List.getElem?_eq_none (Nat.not_lt.mp hk)] at h3; exact absurd rfl h3
  have h5 := hb _ h4
  obtain ⟨v, hv, e⟩ := List.mem_map.mp h4
  rw [← e] at h3 h5
  have : 1 ≤ v := by
    rcases Nat.eq_zero_or_pos v with rfl | h
    · simp at h3
    · exact h
  have h6 : (1 : Int) * (u : Int) ≤ (v : Int) * (u : Int) := Int.mul_le_mul_of_nonneg_right (by omega) (by omega)
  omega
theorem top_mul {u : Nat} {us : List Nat} {M : Int} (hM : M ∈ rowOf u us) (h6 : ∀ v ∈ us, v ≤ 6) : ∃ v : Nat, M = (v : Int) * (u : Int) ∧ v ≤ 6 := by
  obtain ⟨v, hv, e⟩ := List.mem_map.mp hM
  exact ⟨v, e.symm, h6 v hv⟩
theorem lv_item {ns : List Int} {n st i : Nat} {M x : Int} (hi : i < n) (h : (lvM ns n st M)[i]? = some x) : x = if livB ns n st i = true then M else 0 := by
  rw [lvM_at hi] at h
  exact (Option.some.inj h).symm
end Mine
end
section
open PySem PySem.W PyProof.Rows PySem.Calls
namespace Mine
def rows : Nat → List (List Bool)
  | 0 => [[]]
  | n + 1 => (rows n).map (fun r => false :: r) ++ (rows n).map (fun r => true :: r)
theorem mem_rows : ∀ bs : List Bool, bs ∈ rows bs.length
  | [] => .head _
  | b :: r => by
    have ih := mem_rows r
    cases b with
    | false => exact List.mem_append_left _ (List.mem_map_of_mem ih)
    | true => exact List.mem_append_right _ (List.mem_map_of_mem ih)
def rot (j : Nat) (bs : List Bool) : List Bool := bs.drop j ++ bs.take j
/-- a turn of noughts and ones -/
def xorZ (bs : List Bool) : List Bool := List.zipWith xor bs (rot 1 bs)
def livZ (bs : List Bool) (n : Nat) : List Nat → List Bool
  | [] => List.replicate n false
  | j :: r => List.zipWith xor (rot (j % n) bs) (livZ bs n r)
/-- the rows from the turn i on, k of them -/
def okAll (n R : Nat) (bs : List Bool) : Nat → Nat → List Bool → Bool
  | 0, _, _ => true
  | k + 1, i, cur => (xorZ cur == livZ bs n (plc (stp R i))) && okAll n R bs k (i + 1) (xorZ cur)
def chk (n : Nat) : Bool := (rows n).all fun bs => okAll n (rnd n) bs (rnd n + 3) 0 bs
theorem chk5 : chk 5 = true := by decide +kernel
theorem chk6 : chk 6 = true := by decide +kernel
theorem chk7 : chk 7 = true := by decide +kernel
def itX : Nat → List Bool → List Bool
  | 0, bs => bs
  | t + 1, bs => itX t (xorZ bs)
theorem okAll_at {n R : Nat} {bs : List Bool} : ∀ (k i : Nat) (cur : List Bool), okAll n R bs k i cur = true → ∀ d, d < k → itX (d + 1) cur = livZ bs n (plc (stp R (i + d)))
  | 0, _, _, _, _, h => absurd h (Nat.not_lt_zero _)
  | k + 1, i, cur, h, d, hd => by
    rw [okAll, Bool.and_eq_true, beq_iff_eq] at h
    cases d with
    | zero => exact h.1
    | succ d =>
      have := okAll_at k (i + 1) (xorZ cur) h.2 d (by omega)
      rw [show i + (d + 1) = i + 1 + d by omega, ← this]
      rfl
theorem rot_at {bs : List Bool} {q k : Nat} (hq : q ≤ bs.length) (hk : k < bs.length) : (rot q bs)[k]? = bs[(k + q) % bs.length]? := by
  unfold rot
  by_cases h : k < bs.length - q
  · rw [List.getElem?_append_left (by rw [List.length_drop]; exact h), List.getElem?_drop, Nat.mod_eq_of_lt (by omega), Nat.add_comm]
  · rw [List.getElem?_append_right (by rw [List.length_drop]; omega), List.length_drop, List.getElem?_take, if_pos (by omega), Nat.mod_eq_sub_mod (by omega), Nat.mod_eq_of_lt (by omega)]
    congr 1
    omega
theorem rot_len {bs : List Bool} {q : Nat} : (rot q bs).length = bs.length := by
  unfold rot
  rw [List.length_append, List.length_drop, List.length_take]; omega
theorem xorZ_len {bs : List Bool} : (xorZ bs).length = bs.length := by
  unfold xorZ
  rw [List.length_zipWith, rot_len, Nat.min_self]
theorem livZ_len {bs : List Bool} {n : Nat} (h : bs.length = n) : ∀ ps, (livZ bs n ps).length = n
  | [] => List.length_replicate
  | j :: r => by rw [livZ, List.length_zipWith, rot_len, livZ_len h r, h, Nat.min_self]
def odd (c : Nat) : Bool := decide (c % 2 = 1)
theorem odd_succ (c : Nat) : odd (c + 1) = xor true (odd c) := by
  unfold odd
  by_cases h : c % 2 = 1
  · rw [decide_eq_true h, decide_eq_false (by omega)]; rfl
  · rw [decide_eq_false h, decide_eq_true (by omega)]; rfl
theorem livZ_at {bs : List Bool} {n : Nat} (h : bs.length = n) {k : Nat} (hk : k < n) : ∀ ps : List Nat, (livZ bs n ps)[k]? = some (odd (ps.filter fun j => bs.getD ((k + j) % n) false).length)
  | [] => by rw [livZ, List.getElem?_replicate, if_pos hk]; rfl
  | j :: r => by
    have ih := livZ_at h hk r
    have hm : (k + j) % n < bs.length := by rw [h]; exact Nat.mod_lt _ (by omega)
    have e1 : (rot (j % n) bs)[k]? = some (bs.getD ((k + j) % n) false) := by
      rw [rot_at (by rw [h]; exact Nat.le_of_lt (Nat.mod_lt _ (by omega))) (by omega), h, Nat.add_mod_mod, List.getD_eq_getElem?_getD, List.getElem?_eq_getElem hm]; rfl
    rw [livZ, List.getElem?_zipWith, e1, ih]
    cases hb : bs.getD ((k + j) % n) false with
    | true => rw [List.filter_cons_of_pos (p := fun j => bs.getD ((k + j) % n) false) (a := j) (l := r) hb, List.length_cons, odd_succ]
    | false => rw [List.filter_cons_of_neg (p := fun j => bs.getD ((k + j) % n) false) (a := j) (l := r) (by rw [hb]; exact Bool.false_ne_true)]; simp
/-- a turn of us told by noughts and ones -/
def sel (m : Nat) (b : Bool) : Nat := if b = true then m else 0
theorem duc_sel (m : Nat) {bs : List Bool} : duc (bs.map (sel m)) = (xorZ bs).map (sel m) := by
  refine List.ext_getElem? fun j => ?_
  rw [duc, List.length_map, List.getElem?_map, List.getElem?_map, xorZ, List.getElem?_zipWith]
  by_cases hj : j < bs.length
  · have hm : (j + 1) % bs.length < bs.length := Nat.mod_lt _ (by omega)
    rw [List.getElem?_range hj, rot_at (by omega) hj, List.getElem?_eq_getElem hj, List.getElem?_eq_getElem hm]
    have g : ∀ k (hk : k < bs.length), (bs.map (sel m)).getD k 0 = sel m bs[k] := fun k hk => by
      rw [List.getD_eq_getElem?_getD, List.getElem?_map, List.getElem?_eq_getElem hk]; rfl
    simp only [Option.map_some]
    rw [g j hj, g _ hm]
    generalize bs[j] = a
    generalize bs[(j + 1) % bs.length] = b
    cases a <;> cases b <;> simp [sel, absd]
  · rw [List.getElem?_eq_none (by rw [List.length_range]; omega), List.getElem?_eq_none (Nat.not_lt.mp hj)]; rfl
theorem itD_sel (m : Nat) : ∀ (t : Nat) (bs : List Bool), itD t (bs.map (sel m)) = (itX t bs).map (sel m)
  | 0, _ => rfl
  | t + 1, bs => by rw [itD, duc_sel, itD_sel m t, itX]
theorem tells {u n : Nat} {us : List Nat} {M : Int} (hu : 256 ≤ u) (hl : us.length = n) (h5 : 5 ≤ n) (h7 : n ≤ 7) (hM : M ∈ rowOf u us)
    (hz : [] = (rowOf u us).filter fun x => decide (x ≠ 0) && decide (x ≠ M)) : Tells us u n (rnd n) M := by
  obtain ⟨m, hm, rfl⟩ := List.mem_map.mp hM
  have hall : ∀ v ∈ us, v = 0 ∨ v = m := fun v hv => by
    by_cases h0 : v = 0
    · exact .inl h0
    · refine .inr (Decidable.byContradiction fun hne => ?_)
      have hx : (v : Int) * (u : Int) ∈ (rowOf u us).filter fun x => decide (x ≠ 0) && decide (x ≠ (m : Int) * (u : Int)) := by
        refine List.mem_filter.mpr ⟨List.mem_map_of_mem hv, ?_⟩
        rw [Bool.and_eq_true]
        refine ⟨decide_eq_true (Int.mul_ne_zero (by omega) (by omega)), decide_eq_true fun e => hne ?_⟩
        have := Int.eq_of_mul_eq_mul_right (by omega : (u : Int) ≠ 0) e
        omega
      rw [← hz] at hx; cases hx
  obtain ⟨bs, hbs⟩ : ∃ bs, bs = us.map fun v => decide (v ≠ 0) := ⟨_, rfl⟩
  have hus : us = bs.map (sel m) := by
    rw [hbs, List.map_map]
    refine (List.map_id us).symm.trans (List.map_congr_left fun v hv => ?_)
    show v = sel m (decide (v ≠ 0))
    rcases hall v hv with rfl | rfl
    · rfl
    · by_cases h0 : v = 0
      · subst h0; rfl
      · rw [decide_eq_true h0]; rfl
  have hbl : bs.length = n := by rw [hbs, List.length_map, hl]
  have hget : ∀ q, decide ((rowOf u us).getD q 0 ≠ 0) = bs.getD q false := fun q => by
    rw [rowOf_get, hbs, List.getD_eq_getElem?_getD, List.getD_eq_getElem?_getD, List.getElem?_map]
    by_cases hq : q < us.length
    · rw [List.getElem?_eq_getElem hq]
      simp only [Option.getD_some, Option.map_some]
      by_cases h0 : us[q] = 0
      · rw [h0]; simp
      · rw [decide_eq_true h0, decide_eq_true (Int.mul_ne_zero (by omega) (by omega))]
    · rw [List.getElem?_eq_none (Nat.not_lt.mp hq)]; simp
  have hchk : chk n = true := by
    have : n = 5 ∨ n = 6 ∨ n = 7 := by omega
    rcases this with e | e | e <;> subst e
    · exact chk5
    · exact chk6
    · exact chk7
  have hok : okAll n (rnd n) bs (rnd n + 3) 0 bs = true := List.all_eq_true.mp hchk bs (hbl ▸ mem_rows bs)
  intro i hi
  have h1 := okAll_at _ _ _ hok i hi
  rw [Nat.zero_add] at h1
  have h2 : itD (i + 1) us = (livZ bs n (plc (stp (rnd n) i))).map (sel m) := by rw [hus, itD_sel, h1]
  rw [h2, rowOf, List.map_map]
  refine List.ext_getElem? fun k => ?_
  by_cases hk : k < n
  · rw [List.getElem?_map, livZ_at hbl hk, lvM_at hk]
    unfold livB
    have : (fun j => decide ((rowOf u us).getD ((k + j) % n) 0 ≠ 0)) = fun j => bs.getD ((k + j) % n) false := funext fun j => hget _
    rw [this]
    show some (((sel m (odd _) : Nat) : Int) * (u : Int)) = _
    unfold odd
    cases decide (((plc (stp (rnd n) i)).filter fun j => bs.getD ((k + j) % n) false).length % 2 = 1) with
    | true => rfl
    | false => simp [sel]
  · rw [List.getElem?_eq_none (by rw [List.length_map, livZ_len hbl]; omega), List.getElem?_eq_none (by rw [lvM, List.length_map, List.length_range]; omega)]
end Mine
end
section
open PySem PySem.W PyProof.Rows PySem.Calls
namespace Mine
set_option genInjectivity false
set_option genSizeOf false
/-- the names that the module may bind -/
noncomputable abbrev lse : List Str := looseW hd.view_39 [] ++ (recsOf hd.view_39).map (·.name) ++ (litsOf hd.view_39).map (·.1) ++ (clssOf hd.view_39 (looseW hd.view_39 [])).map (·.name)
abbrev FD (D : Nat) (w : World) (mean : ExcName → Option Value) (mg mb : Str → Option Value) := Fn PySem.Challenge.pw_ta0007_01 w (hd.heap_39 w.params) topProg lse mean mg mb D D
abbrev F1 := FD 500
abbrev streamP (st sd rd pl cp ct c1 : Addr) (sfd : FuncData) (ssl : Array (Option Value)) (hsh : Int) (tn : Tok) (rfd : FuncData) (oc1 ocp oct : Obj) (pos : Int) (tp : Tok) (n : Nat) : List (Addr × Obj) :=
  [(pl, listOf #[.int pos tp] n), (st, { cls := .type "function", dict := some sd, data := .func sfd, slots := ssl }), (sd, dictOf [⟨hsh, .str "read" tn, .ref rd⟩] 1), (rd, { cls := .type "function", data := .func rfd }), (c1, oc1), (cp, ocp), (ct, oct)]
/-- a lexer's fixed parts -/
structure Lx where
  (x dx st sd rd pl cp ct c1 pb : Addr)
  sfd : FuncData
  ssl : Array (Option Value)
  hsh : Int
  tn : Tok
  rfd : FuncData
  (oc1 ocp oct : Obj)
  (h1 h2 h3 h4 : Int)
  (t1 t2 t3 t4 tw : Tok)
abbrev Lx.stream (k : Lx) (pos : Int) (tp : Tok) (n : Nat) : List (Addr × Obj) := streamP k.st k.sd k.rd k.pl k.cp k.ct k.c1 k.sfd k.ssl k.hsh k.tn k.rfd k.oc1 k.ocp k.oct pos tp n
abbrev Lx.dict (k : Lx) (ln : Int) (tl : Tok) : Obj := dictOf [⟨k.h1, .str "lineno" k.t1, .int ln tl⟩, ⟨k.h2, .str "instream" k.t2, .ref k.st⟩, ⟨k.h3, .str "whitespace" k.t3, .str "\n\t\r " k.tw⟩, ⟨k.h4, .str "pushback" k.t4, .ref k.pb⟩] 4
abbrev Lx.P (k : Lx) (pos : Int) (tp : Tok) (n : Nat) (ln : Int) (tl : Tok) : List (Addr × Obj) := (k.x, instObj 59 k.dx) :: (k.dx, k.dict ln tl) :: k.stream pos tp n
/-- its addresses in their order -/
structure Lx.Ok (k : Lx) : Prop where
  a1 : @LT.lt Nat _ k.ct k.cp
  a2 : @LT.lt Nat _ k.cp k.pl
  a3 : @LT.lt Nat _ k.pl k.c1
  a4 : @LT.lt Nat _ k.c1 k.rd
  a5 : @LT.lt Nat _ k.rd k.st
  a6 : @LT.lt Nat _ k.st k.sd
  a7 : @LT.lt Nat _ k.sd k.dx
  a8 : @LT.lt Nat _ k.dx k.x
  a9 : @LT.lt Nat _ k.x k.pb
/-- what read does -/
def Lx.Reads (k : Lx) (w : World) (mean : ExcName → Option Value) (mg mb : Str → Option Value) (l : List Nat) : Prop :=
  ∀ (pos : Nat) tp n t, F1 w mean mg mb k.rd [.int 1 t] (k.stream pos tp n) (fun v P' => ∃ tv tp' n', v = .str (txt (sgn l pos)) tv ∧ P' = k.stream ((pos + 1 : Nat) : Int) tp' n')
end Mine
namespace Mine
/-- the lexer where it has read p signs of l -/
abbrev Lx.At (k : Lx) (l : List Nat) (p : Nat) (tp : Tok) (n : Nat) (tl : Tok) : List (Addr × Obj) := k.P (p : Int) tp n (lnAt l p) tl
end Mine
end
section
open PySem PySem.W PyProof.Rows PySem.Calls
namespace Mine
example (no : False) : PySem.Challenge.rw_ta0007_01.Holds := hd (by
  k_fill
  w_top off
  exact no.elim)
local macro_rules | `(tactic| walk_at $s:str) => `(tactic| k_extra $(Lean.Syntax.mkStrLit ("x " ++ s.getString)))
local macro_rules | `(tactic| k_ne) => `(tactic| k_extra "x k_ne")
local macro_rules | `(tactic| k_all) => `(tactic| k_extra "x k_all")
local macro_rules | `(tactic| k_lt $h) => `(tactic| (replace $h := allLt_of $h))
variable {w : World} {mean : ExcName → Option Value} {mg mb : Str → Option Value}
section
example : True := by
  k_with_none
  k_with "x fn_open" =>
    with_unfolding_all refine' Fn.plain ?ho ?hcd ?hbind ?hloc ?_ ?hD ?hco ?hgen ?hk ?hcell
    case ho => k_is
    case hcd => k_is
    case hbind => exact fun s => BindsTo.of_eq rfl
    case hloc => exact locs rfl
    case hD => decide
    case hco => exact rfl
    case hgen => exact rfl
    case hk => exact rfl
    case hcell => decide
    intro gd outer A₀ base g L s B X T F N lt
  k_with "x fn_cells" =>
    with_unfolding_all refine' Fn.cells ?ho ?hcd ?hbind ?hkind ?hnd ?_ ?hD ?hco ?hgen ?hk
    case ho => k_is
    case hcd => k_is
    case hbind => exact fun s => BindsTo.of_eq rfl
    case hkind => exact rfl
    case hnd => decide +kernel
    case hD => decide
    case hco => exact rfl
    case hgen => exact rfl
    case hk => exact rfl
    intro gd outer A₀ base g L s cells B X T F N Y lt
  k_with "x fn_made" =>
    with_unfolding_all refine' Fn.made ?ho ?hc ?hcd ?hcv ?hbind ?hloc ?_ ?hD ?hco ?hgen ?hk ?hcell
    case ho => k_mem
    case hc => k_mem
    case hcd => assumption
    case hcv => assumption
    case hbind => exact fun s => BindsTo.of_eq rfl
    case hloc => exact locs rfl
    case hD => decide
    case hco => exact rfl
    case hgen => exact rfl
    case hk => exact rfl
    case hcell => decide
    intro gd outer A₀ base g L s B X T F N lt
  k_with "x Ends" => refine stop ?_
  k_with "x steps" => repeat' (first | (k_unfold; (try dsimp only)) | walk1 | (dsimp only; walk1))
  k_with "x fn_pick" => first | exact Pick.here | (refine' Pick.there ?p1; (case p1 => k_extra "x fn_pick"))
  k_with "x fn_split" => first | exact Split.nil | (refine' Split.cons ?a1 ?b1; (case a1 => k_extra "x fn_pick"); (case b1 => k_extra "x fn_split"))
  k_with "x fn_nes" => first | exact all_nil | (refine' all_cons ?a2 ?b2; (case a2 => k_ne); (case b2 => k_extra "x fn_nes"))
  k_with "x fn_apart" => first | exact apart_nil | (refine' apart_cons ?a3 ?b3; (case a3 => k_extra "x fn_nes"); (case b3 => k_extra "x fn_apart"))
  k_with "x fn_here" => exact ⟨by k_asm, by k_asm, by k_asm, rfl, rfl, rfl, rfl, Nat.le_of_ble_eq_true rfl, Nat.le_of_ble_eq_true rfl⟩
  k_with "x fn_sub" => first | exact all_nil | (refine' all_cons ?a4 ?b4; (case a4 => k_mem); (case b4 => k_extra "x fn_sub"))
  k_with "x k_all" => first | exact all_nil | (refine' all_cons ?a5 ?b5; (case a5 => k_ne); (case b5 => k_all))
  k_with "x fn_ords" => first | exact all_nil | (refine' all_cons ?a6 ?b6; (case a6 => ((try dsimp only); first | k_extra "x k_lo" | exact Nat.le_refl _ | (refine Nat.le_of_lt ?_; k_extra "x k_lo") | (simp only [AllLt, and_true] at *; omega))); (case b6 => k_extra "x fn_ords"))
  k_with "x k_mm" => first | exact mem_h | exact mem_t (mem_h) | exact mem_t (mem_t (mem_h)) | exact mem_t (mem_t (mem_t (mem_h))) | exact mem_t (mem_t (mem_t (mem_t (mem_h)))) | exact mem_t (mem_t (mem_t (mem_t (mem_t (mem_h))))) | exact mem_t (mem_t (mem_t (mem_t (mem_t (mem_t (mem_h)))))) | exact mem_t (mem_t (mem_t (mem_t (mem_t (mem_t (mem_t (mem_h))))))) | exact mem_t (mem_t (mem_t (mem_t (mem_t (mem_t (mem_t (mem_t (mem_h)))))))) | exact mem_t (mem_t (mem_t (mem_t (mem_t (mem_t (mem_t (mem_t (mem_t (mem_h))))))))) | exact mem_t (mem_t (mem_t (mem_t (mem_t (mem_t (mem_t (mem_t (mem_t (mem_t (mem_h)))))))))) | exact mem_t (mem_t (mem_t (mem_t (mem_t (mem_t (mem_t (mem_t (mem_t (mem_t (mem_t (mem_h))))))))))) | exact mem_t (mem_t (mem_t (mem_t (mem_t (mem_t (mem_t (mem_t (mem_t (mem_t (mem_t (mem_t (mem_h)))))))))))) | exact mem_t (mem_t (mem_t (mem_t (mem_t (mem_t (mem_t (mem_t (mem_t (mem_t (mem_t (mem_t (mem_t (mem_h))))))))))))) | exact mem_t (mem_t (mem_t (mem_t (mem_t (mem_t (mem_t (mem_t (mem_t (mem_t (mem_t (mem_t (mem_t (mem_t (mem_h)))))))))))))) | exact mem_t (mem_t (mem_t (mem_t (mem_t (mem_t (mem_t (mem_t (mem_t (mem_t (mem_t (mem_t (mem_t (mem_t (mem_t (mem_h))))))))))))))) | exact mem_t (mem_t (mem_t (mem_t (mem_t (mem_t (mem_t (mem_t (mem_t (mem_t (mem_t (mem_t (mem_t (mem_t (mem_t (mem_t (mem_h)))))))))))))))) | exact mem_t (mem_t (mem_t (mem_t (mem_t (mem_t (mem_t (mem_t (mem_t (mem_t (mem_t (mem_t (mem_t (mem_t (mem_t (mem_t (mem_t (mem_h))))))))))))))))) | exact mem_t (mem_t (mem_t (mem_t (mem_t (mem_t (mem_t (mem_t (mem_t (mem_t (mem_t (mem_t (mem_t (mem_t (mem_t (mem_t (mem_t (mem_t (mem_h)))))))))))))))))) | exact mem_t (mem_t (mem_t (mem_t (mem_t (mem_t (mem_t (mem_t (mem_t (mem_t (mem_t (mem_t (mem_t (mem_t (mem_t (mem_t (mem_t (mem_t (mem_t (mem_h))))))))))))))))))) | exact mem_t (mem_t (mem_t (mem_t (mem_t (mem_t (mem_t (mem_t (mem_t (mem_t (mem_t (mem_t (mem_t (mem_t (mem_t (mem_t (mem_t (mem_t (mem_t (mem_t (mem_h)))))))))))))))))))) | exact mem_t (mem_t (mem_t (mem_t (mem_t (mem_t (mem_t (mem_t (mem_t (mem_t (mem_t (mem_t (mem_t (mem_t (mem_t (mem_t (mem_t (mem_t (mem_t (mem_t (mem_t (mem_h))))))))))))))))))))) | exact mem_t (mem_t (mem_t (mem_t (mem_t (mem_t (mem_t (mem_t (mem_t (mem_t (mem_t (mem_t (mem_t (mem_t (mem_t (mem_t (mem_t (mem_t (mem_t (mem_t (mem_t (mem_t (mem_h)))))))))))))))))))))) | exact mem_t (mem_t (mem_t (mem_t (mem_t (mem_t (mem_t (mem_t (mem_t (mem_t (mem_t (mem_t (mem_t (mem_t (mem_t (mem_t (mem_t (mem_t (mem_t (mem_t (mem_t (mem_t (mem_t (mem_h))))))))))))))))))))))) | exact mem_t (mem_t (mem_t (mem_t (mem_t (mem_t (mem_t (mem_t (mem_t (mem_t (mem_t (mem_t (mem_t (mem_t (mem_t (mem_t (mem_t (mem_t (mem_t (mem_t (mem_t (mem_t (mem_t (mem_t (mem_h)))))))))))))))))))))))) | exact mem_t (mem_t (mem_t (mem_t (mem_t (mem_t (mem_t (mem_t (mem_t (mem_t (mem_t (mem_t (mem_t (mem_t (mem_t (mem_t (mem_t (mem_t (mem_t (mem_t (mem_t (mem_t (mem_t (mem_t (mem_t (mem_h)))))))))))))))))))))))))
  k_with "x k_q1" => exact ltA (by with_reducible assumption) (by k_extra "x k_mm")
  k_with "x k_up" => first | exact ltP (by with_reducible assumption) | exact ltP (ltP (by with_reducible assumption)) | exact ltP (ltP (ltP (by with_reducible assumption))) | exact ltP (ltP (ltP (ltP (by with_reducible assumption)))) | exact ltP (ltP (ltP (ltP (ltP (by with_reducible assumption))))) | exact ltP (ltP (ltP (ltP (ltP (ltP (by with_reducible assumption)))))) | exact ltP (ltP (ltP (ltP (ltP (ltP (ltP (by with_reducible assumption))))))) | exact ltP (ltP (ltP (ltP (ltP (ltP (ltP (ltP (by with_reducible assumption))))))))
  k_with "x k_hi" => first | with_reducible assumption | k_extra "x k_q1" | exact ltR (by with_reducible assumption) (by k_extra "x k_mm") | k_extra "x k_up" | (refine Nat.lt_trans ?_ (by with_reducible assumption); k_extra "x k_hi")
  k_with "x k_l1" => first | k_extra "x k_q1" | exact ltZ | k_extra "x k_hi" | (refine ltS ?_; k_extra "x k_l1")
  k_with "x k_l2" => first | k_extra "x k_l1" | (refine Nat.lt_trans (by with_reducible assumption) ?_; k_extra "x k_l2")
  k_with "x k_lo" => ((fail_if_success (with_reducible show @LT.lt Nat _ _ 79)); k_extra "x k_l2")
  k_with "x k_ne" =>
    refine neN ?_
    try dsimp only
    first
      | with_reducible assumption
      | exact Ne.symm (by with_reducible assumption)
      | exact ne_lt (ltA (by with_reducible assumption) (by k_extra "x k_mm"))
      | exact ne_gt (ltA (by with_reducible assumption) (by k_extra "x k_mm"))
      | ((repeat refine ne_s ?_); first | exact ne_z1 | exact ne_z2 | exact ne_z3 | exact ne_z4 | exact ne_z5 | exact ne_z6 | exact ne_z7 | exact ne_z8 | exact ne_z1.symm | exact ne_z2.symm | exact ne_z3.symm | exact ne_z4.symm | exact ne_z5.symm | exact ne_z6.symm | exact ne_z7.symm | exact ne_z8.symm)
      | (refine ne_lt ?_; k_extra "x k_lo")
      | (refine ne_gt ?_; k_extra "x k_lo")
      | (simp only [AllLt, and_true] at *; omega)
  k_with "x Ends" => refine Ends.intro (by k_asm) (by k_asm) ?_
  k_with "x exec While Name cons nil" => refine stop ?_
  trivial
theorem c_int2ap (x : Int) (t : Tok) (hx : x.natAbs < 16 ^ 20) : F1 w mean mg mb 21 [.int x t] [] (fun v P' => ∃ tk, v = .bytes (apL x.natAbs).toArray tk ∧ P' = []) := by
  walk_at "fn_open"
  walk_at "steps"
  refine ⟨?_⟩
  have hlen := apL_len 20 _ hx
  with_unfolding_all refine' ksw_while (σ := Int × Tok × List UInt8 × Tok) (fun _ => []) (fun c => [("num", .int c.1 c.2.1), ("val", .bytes c.2.2.1.toArray c.2.2.2)]) (fun _ => True) ["mod"] (fun c => 0 ≤ c.1 ∧ apL c.1.toNat ++ c.2.2.1 = apL x.natAbs) (fun c => c.1.toNat) (if x < 0 then -x else x, _, [], _) (by k_asm) (by k_asm) trivial ?hk ?hp ?turn ?hE
  case hk =>
    refine all_cons ?_ (all_cons ?_ (fun _ h => nomatch h))
    · exact rfl
    · refine Eq.trans (b := some (.bytes #[] s.toks)) ?_ ?_
      · exact rfl
      · exact rfl
  case hp => (dsimp only; exact ⟨by split <;> omega, by rw [List.append_nil]; congr 1; split <;> omega⟩)
  case hE => exact PassesOwn.never
  case turn =>
    rintro ⟨num, t1, val, t2⟩ u h tk - ⟨hn, hv⟩ F1 N1
    dsimp only at *
    have hvl : val.length ≤ 20 := by rw [← hv, List.length_append] at hlen; omega
    walk_at "steps"
    · have h0 : num ≠ 0 := by assumption
      have hT := ap_turn hn h0 hv
      dsimp only
      refine KBc.slice_K (s := ⟨_,_,_,_,_⟩) (by k_asm) (by k_asm) rfl (.int _ _) (.int _ _) (by decide) ?_
      intro h2 t2 k2 F2 N2 hk2
      rw [show KBy.picked #[65, 66, 67, 68, 69, 70, 71, 72, 73, 74, 75, 76, 77, 78, 79, 80] (some (num.fmod 16)) (some (num.fmod 16 + 1)) = _ from ap_pick hT.2.2.2.1 hT.2.2.2.2]
      clear hk2
      walk_at "steps"
      dsimp only
      refine KBa.add_K rfl rfl ?_ ?_
      · rw [KBw.ints_length, KBw.ints_length]; simp only [List.size_toArray, List.length_cons, List.length_nil]; omega
      intro t3 k3 _
      rw [show (#[UInt8.ofNat (65 + (num.fmod 16).toNat)] ++ val.toArray : Array UInt8) = ([UInt8.ofNat (65 + (num.fmod 16).toNat)] ++ val).toArray from by simp]
      walk_at "steps"
      refine' ksw_end (num.fdiv 16, _, [UInt8.ofNat (65 + (num.fmod 16).toNat)] ++ val, _) (by k_asm) (by k_asm) (fun _ h => nomatch h) trivial ?hk ?hr ⟨hT.1, hT.2.1⟩ hT.2.2.1
      case hk =>
        refine all_cons ?_ (all_cons ?_ (fun _ h => nomatch h))
        · exact rfl
        · exact rfl
      case hr =>
        intro z h1 h2
        have n1 := h1 _ (.head _)
        have n2 := h1 _ (.tail _ (.head _))
        have n3 : z ≠ "mod" := fun e => by subst e; exact absurd h2 (by decide)
        dsimp only at n1 n2 ⊢
        simp only [if_neg n1, if_neg n2, if_neg n3, kstB, h2, Bool.false_eq_true, if_false]
    have hz : val = apL x.natAbs := by rw [← hv, show num = 0 by assumption]; simp [apL_zero]
    rw [← hz]; exact rfl
end
section
example : True := by
  k_with_none
  k_with "x fn_open" =>
    with_unfolding_all refine' Fn.plain ?ho ?hcd ?hbind ?hloc ?_ ?hD ?hco ?hgen ?hk ?hcell
    case ho => k_is
    case hcd => k_is
    case hbind => exact fun s => BindsTo.of_eq rfl
    case hloc => exact locs rfl
    case hD => decide
    case hco => exact rfl
    case hgen => exact rfl
    case hk => exact rfl
    case hcell => decide
    intro gd outer A₀ base g L s B X T F N lt
  k_with "x fn_cells" =>
    with_unfolding_all refine' Fn.cells ?ho ?hcd ?hbind ?hkind ?hnd ?_ ?hD ?hco ?hgen ?hk
    case ho => k_is
    case hcd => k_is
    case hbind => exact fun s => BindsTo.of_eq rfl
    case hkind => exact rfl
    case hnd => decide +kernel
    case hD => decide
    case hco => exact rfl
    case hgen => exact rfl
    case hk => exact rfl
    intro gd outer A₀ base g L s cells B X T F N Y lt
  k_with "x fn_cellsB" =>
    with_unfolding_all refine' FnB.cells ?ho ?hcd ?hbind ?hkind ?hnd ?_ ?hD ?hco ?hgen ?hk
    case ho => k_is
    case hcd => k_is
    case hbind => exact fun s => BindsTo.of_eq rfl
    case hkind => exact rfl
    case hnd => decide +kernel
    case hD => decide
    case hco => exact rfl
    case hgen => exact rfl
    case hk => exact rfl
    intro gd outer A₀ base g L s cells B X T F N Y lt
  k_with "x fn_made" =>
    with_unfolding_all refine' Fn.made ?ho ?hc ?hcd ?hcv ?hbind ?hloc ?_ ?hD ?hco ?hgen ?hk ?hcell
    case ho => k_mem
    case hc => k_mem
    case hcd => assumption
    case hcv => assumption
    case hbind => exact fun s => BindsTo.of_eq rfl
    case hloc => exact locs rfl
    case hD => decide
    case hco => exact rfl
    case hgen => exact rfl
    case hk => exact rfl
    case hcell => decide
    intro gd outer A₀ base g L s B X T F N lt
  k_with "x Ends" => refine stop ?_
  k_with "x steps" => repeat' (first | (k_unfold; (try dsimp only)) | walk1 | (dsimp only; walk1))
  k_with "x fn_pick" => first | exact Pick.here | (refine' Pick.there ?p1; (case p1 => k_extra "x fn_pick"))
  k_with "x fn_split" => first | exact Split.nil | (refine' Split.cons ?a1 ?b1; (case a1 => k_extra "x fn_pick"); (case b1 => k_extra "x fn_split"))
  k_with "x fn_nes" => first | exact all_nil | (refine' all_cons ?a2 ?b2; (case a2 => k_ne); (case b2 => k_extra "x fn_nes"))
  k_with "x fn_apart" => first | exact apart_nil | (refine' apart_cons ?a3 ?b3; (case a3 => k_extra "x fn_nes"); (case b3 => k_extra "x fn_apart"))
  k_with "x fn_here" => exact ⟨by k_asm, by k_asm, by k_asm, rfl, rfl, rfl, rfl, Nat.le_of_ble_eq_true rfl, Nat.le_of_ble_eq_true rfl⟩
  k_with "x fn_sub" => first | exact all_nil | (refine' all_cons ?a4 ?b4; (case a4 => k_mem); (case b4 => k_extra "x fn_sub"))
  k_with "x k_all" => first | exact all_nil | (refine' all_cons ?a5 ?b5; (case a5 => k_ne); (case b5 => k_all))
  k_with "x fn_ords" => first | exact all_nil | (refine' all_cons ?a6 ?b6; (case a6 => ((try dsimp only); first | k_extra "x k_lo" | exact Nat.le_refl _ | (refine Nat.le_of_lt ?_; k_extra "x k_lo") | (simp only [AllLt, and_true] at *; omega))); (case b6 => k_extra "x fn_ords"))
  k_with "x k_mm" => first | exact mem_h | exact mem_t (mem_h) | exact mem_t (mem_t (mem_h)) | exact mem_t (mem_t (mem_t (mem_h))) | exact mem_t (mem_t (mem_t (mem_t (mem_h)))) | exact mem_t (mem_t (mem_t (mem_t (mem_t (mem_h))))) | exact mem_t (mem_t (mem_t (mem_t (mem_t (mem_t (mem_h)))))) | exact mem_t (mem_t (mem_t (mem_t (mem_t (mem_t (mem_t (mem_h))))))) | exact mem_t (mem_t (mem_t (mem_t (mem_t (mem_t (mem_t (mem_t (mem_h)))))))) | exact mem_t (mem_t (mem_t (mem_t (mem_t (mem_t (mem_t (mem_t (mem_t (mem_h))))))))) | exact mem_t (mem_t (mem_t (mem_t (mem_t (mem_t (mem_t (mem_t (mem_t (mem_t (mem_h)))))))))) | exact mem_t (mem_t (mem_t (mem_t (mem_t (mem_t (mem_t (mem_t (mem_t (mem_t (mem_t (mem_h))))))))))) | exact mem_t (mem_t (mem_t (mem_t (mem_t (mem_t (mem_t (mem_t (mem_t (mem_t (mem_t (mem_t (mem_h)))))))))))) | exact mem_t (mem_t (mem_t (mem_t (mem_t (mem_t (mem_t (mem_t (mem_t (mem_t (mem_t (mem_t (mem_t (mem_h))))))))))))) | exact mem_t (mem_t (mem_t (mem_t (mem_t (mem_t (mem_t (mem_t (mem_t (mem_t (mem_t (mem_t (mem_t (mem_t (mem_h)))))))))))))) | exact mem_t (mem_t (mem_t (mem_t (mem_t (mem_t (mem_t (mem_t (mem_t (mem_t (mem_t (mem_t (mem_t (mem_t (mem_t (mem_h))))))))))))))) | exact mem_t (mem_t (mem_t (mem_t (mem_t (mem_t (mem_t (mem_t (mem_t (mem_t (mem_t (mem_t (mem_t (mem_t (mem_t (mem_t (mem_h)))))))))))))))) | exact mem_t (mem_t (mem_t (mem_t (mem_t (mem_t (mem_t (mem_t (mem_t (mem_t (mem_t (mem_t (mem_t (mem_t (mem_t (mem_t (mem_t (mem_h))))))))))))))))) | exact mem_t (mem_t (mem_t (mem_t (mem_t (mem_t (mem_t (mem_t (mem_t (mem_t (mem_t (mem_t (mem_t (mem_t (mem_t (mem_t (mem_t (mem_t (mem_h)))))))))))))))))) | exact mem_t (mem_t (mem_t (mem_t (mem_t (mem_t (mem_t (mem_t (mem_t (mem_t (mem_t (mem_t (mem_t (mem_t (mem_t (mem_t (mem_t (mem_t (mem_t (mem_h))))))))))))))))))) | exact mem_t (mem_t (mem_t (mem_t (mem_t (mem_t (mem_t (mem_t (mem_t (mem_t (mem_t (mem_t (mem_t (mem_t (mem_t (mem_t (mem_t (mem_t (mem_t (mem_t (mem_h)))))))))))))))))))) | exact mem_t (mem_t (mem_t (mem_t (mem_t (mem_t (mem_t (mem_t (mem_t (mem_t (mem_t (mem_t (mem_t (mem_t (mem_t (mem_t (mem_t (mem_t (mem_t (mem_t (mem_t (mem_h))))))))))))))))))))) | exact mem_t (mem_t (mem_t (mem_t (mem_t (mem_t (mem_t (mem_t (mem_t (mem_t (mem_t (mem_t (mem_t (mem_t (mem_t (mem_t (mem_t (mem_t (mem_t (mem_t (mem_t (mem_t (mem_h)))))))))))))))))))))) | exact mem_t (mem_t (mem_t (mem_t (mem_t (mem_t (mem_t (mem_t (mem_t (mem_t (mem_t (mem_t (mem_t (mem_t (mem_t (mem_t (mem_t (mem_t (mem_t (mem_t (mem_t (mem_t (mem_t (mem_h))))))))))))))))))))))) | exact mem_t (mem_t (mem_t (mem_t (mem_t (mem_t (mem_t (mem_t (mem_t (mem_t (mem_t (mem_t (mem_t (mem_t (mem_t (mem_t (mem_t (mem_t (mem_t (mem_t (mem_t (mem_t (mem_t (mem_t (mem_h)))))))))))))))))))))))) | exact mem_t (mem_t (mem_t (mem_t (mem_t (mem_t (mem_t (mem_t (mem_t (mem_t (mem_t (mem_t (mem_t (mem_t (mem_t (mem_t (mem_t (mem_t (mem_t (mem_t (mem_t (mem_t (mem_t (mem_t (mem_t (mem_h)))))))))))))))))))))))))
  k_with "x k_q1" => exact ltA (by with_reducible assumption) (by k_extra "x k_mm")
  k_with "x k_up" => first | exact ltP (by with_reducible assumption) | exact ltP (ltP (by with_reducible assumption)) | exact ltP (ltP (ltP (by with_reducible assumption))) | exact ltP (ltP (ltP (ltP (by with_reducible assumption)))) | exact ltP (ltP (ltP (ltP (ltP (by with_reducible assumption))))) | exact ltP (ltP (ltP (ltP (ltP (ltP (by with_reducible assumption)))))) | exact ltP (ltP (ltP (ltP (ltP (ltP (ltP (by with_reducible assumption))))))) | exact ltP (ltP (ltP (ltP (ltP (ltP (ltP (ltP (by with_reducible assumption))))))))
  k_with "x k_hi" => first | with_reducible assumption | k_extra "x k_q1" | exact ltR (by with_reducible assumption) (by k_extra "x k_mm") | k_extra "x k_up" | (refine Nat.lt_trans ?_ (by with_reducible assumption); k_extra "x k_hi")
  k_with "x k_l1" => first | k_extra "x k_q1" | exact ltZ | k_extra "x k_hi" | (refine ltS ?_; k_extra "x k_l1")
  k_with "x k_l2" => first | k_extra "x k_l1" | (refine Nat.lt_trans (by with_reducible assumption) ?_; k_extra "x k_l2")
  k_with "x k_lo" => ((fail_if_success (with_reducible show @LT.lt Nat _ _ 79)); k_extra "x k_l2")
  k_with "x k_ne" =>
    refine neN ?_
    try dsimp only
    first
      | with_reducible assumption
      | exact Ne.symm (by with_reducible assumption)
      | exact ne_lt (ltA (by with_reducible assumption) (by k_extra "x k_mm"))
      | exact ne_gt (ltA (by with_reducible assumption) (by k_extra "x k_mm"))
      | ((repeat refine ne_s ?_); first | exact ne_z1 | exact ne_z2 | exact ne_z3 | exact ne_z4 | exact ne_z5 | exact ne_z6 | exact ne_z7 | exact ne_z8 | exact ne_z1.symm | exact ne_z2.symm | exact ne_z3.symm | exact ne_z4.symm | exact ne_z5.symm | exact ne_z6.symm | exact ne_z7.symm | exact ne_z8.symm)
      | (refine ne_lt ?_; k_extra "x k_lo")
      | (refine ne_gt ?_; k_extra "x k_lo")
      | (simp only [AllLt, and_true] at *; omega)
  trivial
theorem c_stream (l : List Nat) (t : Tok) (hl : l.length ≤ sizeLine) : FnB PySem.Challenge.pw_ta0007_01 w (hd.heap_39 w.params) topProg lse mean mg mb 500 500 84 [.str (txt l) t] [(79, tabObj #[])] (fun B v P' => ∃ st sd rd pl cp ct c1 sfd ssl hsh tn rfd oc1 ocp oct tp n ps, v = .ref st ∧ P' = streamP st sd rd pl cp ct c1 sfd ssl hsh tn rfd oc1 ocp oct 0 tp n ++ [(79, tabObj ps)] ∧ (@LT.lt Nat _ B ct ∧ @LT.lt Nat _ ct cp ∧ @LT.lt Nat _ cp pl ∧ @LT.lt Nat _ pl c1 ∧ @LT.lt Nat _ c1 rd ∧ @LT.lt Nat _ rd st ∧ @LT.lt Nat _ st sd) ∧
    (∀ (pos : Nat) tp n t, F1 w mean mg mb rd [.int 1 t] (streamP st sd rd pl cp ct c1 sfd ssl hsh tn rfd oc1 ocp oct pos tp n) (fun v P' => ∃ tv tp' n', v = .str (txt (sgn l pos)) tv ∧ P' = streamP st sd rd pl cp ct c1 sfd ssl hsh tn rfd oc1 ocp oct ((pos + 1 : Nat) : Int) tp' n'))) := by
  walk_at "fn_cellsB"
  have C : CodeHd g 83 79 := codeHd_of_K X (by kernel_rfl)
  k_cells Y
  simp only [List.cons_append, List.nil_append] at N
  k_lt lt
  rename_i o1 o2 d1 d2
  replace d1 : o1.data = .cell none := d1
  replace d2 : o2.data = .cell (some (.str (txt l) t)) := d2
  walk_at "steps"
  rename_i pl _ l1a _ ocp dcp rd c1 oc1 vs1 tq1 ct1 dc1 _ _ dv1 dw1 l1b l2b _ st c2 oc2 vs2 tq2 ct2 _ _ dv2 dw2 l1c l2c _ _ _
  refine' setAttr_fnN ?F ?N ?U lk_fn_read ?_
  case F => k_asm
  case N => k_asm
  case U => k_dflt k_updF
  intro D hsh tn h2 tk2 F2 N2 l2
  k_lt l2
  walk_at "steps"
  refine ⟨?_⟩
  refine' Ends.sub (P' := streamP st D rd pl (L + 1 + 1) (L + 1) c1 _ _ hsh tn _ oc1 ocp o2 0 _ _ ++ [(79, tabObj _)]) (by k_asm) (by k_asm) ?_ ⟨_, _, _, _, _, _, _, _, _, _, _, _, _, _, _, _, _, _, rfl, rfl, ⟨by walk_at "k_lo", by walk_at "k_lo", by walk_at "k_lo", by walk_at "k_lo", by walk_at "k_lo", by walk_at "k_lo", by walk_at "k_lo"⟩, ?_⟩
  · dsimp only [streamP, List.cons_append, List.nil_append]
    refine' all_cons ?_ (all_cons ?_ (all_cons ?_ (all_cons ?_ (all_cons ?_ (all_cons ?_ (all_cons ?_ (all_cons ?_ (fun _ h => nomatch h)))))))) <;> k_mem
  intro pos tp n t1
  walk_at "fn_made"
  walk_at "steps"
  refine ⟨?_⟩
  have e1 : Txt.slice (txt l) (some ((pos : Int) + 1 - 1)) (some ((pos : Int) + 1)) = txt (sgn l pos) := by
    rw [show (pos : Int) + 1 - 1 = pos by omega, slice_sgn]
  refine' Ends.sub (by k_asm) (by k_asm) (fun p hp => hp) ⟨_, _, _, congrArg (fun z => Value.str z _) e1, rfl⟩
end
section
example : True := by
  k_with_none
  k_with "x fn_open" =>
    with_unfolding_all refine' Fn.plain ?ho ?hcd ?hbind ?hloc ?_ ?hD ?hco ?hgen ?hk ?hcell
    case ho => k_is
    case hcd => k_is
    case hbind => exact fun s => BindsTo.of_eq rfl
    case hloc => exact locs rfl
    case hD => decide
    case hco => exact rfl
    case hgen => exact rfl
    case hk => exact rfl
    case hcell => decide
    intro gd outer A₀ base g L s B X T F N lt
  k_with "x fn_cells" =>
    with_unfolding_all refine' Fn.cells ?ho ?hcd ?hbind ?hkind ?hnd ?_ ?hD ?hco ?hgen ?hk
    case ho => k_is
    case hcd => k_is
    case hbind => exact fun s => BindsTo.of_eq rfl
    case hkind => exact rfl
    case hnd => decide +kernel
    case hD => decide
    case hco => exact rfl
    case hgen => exact rfl
    case hk => exact rfl
    intro gd outer A₀ base g L s cells B X T F N Y lt
  k_with "x fn_made" =>
    with_unfolding_all refine' Fn.made ?ho ?hc ?hcd ?hcv ?hbind ?hloc ?_ ?hD ?hco ?hgen ?hk ?hcell
    case ho => k_mem
    case hc => k_mem
    case hcd => assumption
    case hcv => assumption
    case hbind => exact fun s => BindsTo.of_eq rfl
    case hloc => exact locs rfl
    case hD => decide
    case hco => exact rfl
    case hgen => exact rfl
    case hk => exact rfl
    case hcell => decide
    intro gd outer A₀ base g L s B X T F N lt
  k_with "x Ends" => refine stop ?_
  k_with "x steps" => repeat' (first | (k_unfold; (try dsimp only)) | walk1 | (dsimp only; walk1))
  k_with "x fn_pick" => first | exact Pick.here | (refine' Pick.there ?p1; (case p1 => k_extra "x fn_pick"))
  k_with "x fn_split" => first | exact Split.nil | (refine' Split.cons ?a1 ?b1; (case a1 => k_extra "x fn_pick"); (case b1 => k_extra "x fn_split"))
  k_with "x fn_nes" => first | exact all_nil | (refine' all_cons ?a2 ?b2; (case a2 => k_ne); (case b2 => k_extra "x fn_nes"))
  k_with "x fn_apart" => first | exact apart_nil | (refine' apart_cons ?a3 ?b3; (case a3 => k_extra "x fn_nes"); (case b3 => k_extra "x fn_apart"))
  k_with "x fn_here" => exact ⟨by k_asm, by k_asm, by k_asm, rfl, rfl, rfl, rfl, Nat.le_of_ble_eq_true rfl, Nat.le_of_ble_eq_true rfl⟩
  k_with "x fn_sub" => first | exact all_nil | (refine' all_cons ?a4 ?b4; (case a4 => k_mem); (case b4 => k_extra "x fn_sub"))
  k_with "x k_all" => first | exact all_nil | (refine' all_cons ?a5 ?b5; (case a5 => k_ne); (case b5 => k_all))
  k_with "x fn_ords" => first | exact all_nil | (refine' all_cons ?a6 ?b6; (case a6 => ((try dsimp only); first | k_extra "x k_lo" | exact Nat.le_refl _ | (refine Nat.le_of_lt ?_; k_extra "x k_lo") | (simp only [AllLt, and_true] at *; omega))); (case b6 => k_extra "x fn_ords"))
  k_with "x k_mm" => first | exact mem_h | exact mem_t (mem_h) | exact mem_t (mem_t (mem_h)) | exact mem_t (mem_t (mem_t (mem_h))) | exact mem_t (mem_t (mem_t (mem_t (mem_h)))) | exact mem_t (mem_t (mem_t (mem_t (mem_t (mem_h))))) | exact mem_t (mem_t (mem_t (mem_t (mem_t (mem_t (mem_h)))))) | exact mem_t (mem_t (mem_t (mem_t (mem_t (mem_t (mem_t (mem_h))))))) | exact mem_t (mem_t (mem_t (mem_t (mem_t (mem_t (mem_t (mem_t (mem_h)))))))) | exact mem_t (mem_t (mem_t (mem_t (mem_t (mem_t (mem_t (mem_t (mem_t (mem_h))))))))) | exact mem_t (mem_t (mem_t (mem_t (mem_t (mem_t (mem_t (mem_t (mem_t (mem_t (mem_h)))))))))) | exact mem_t (mem_t (mem_t (mem_t (mem_t (mem_t (mem_t (mem_t (mem_t (mem_t (mem_t (mem_h))))))))))) | exact mem_t (mem_t (mem_t (mem_t (mem_t (mem_t (mem_t (mem_t (mem_t (mem_t (mem_t (mem_t (mem_h)))))))))))) | exact mem_t (mem_t (mem_t (mem_t (mem_t (mem_t (mem_t (mem_t (mem_t (mem_t (mem_t (mem_t (mem_t (mem_h))))))))))))) | exact mem_t (mem_t (mem_t (mem_t (mem_t (mem_t (mem_t (mem_t (mem_t (mem_t (mem_t (mem_t (mem_t (mem_t (mem_h)))))))))))))) | exact mem_t (mem_t (mem_t (mem_t (mem_t (mem_t (mem_t (mem_t (mem_t (mem_t (mem_t (mem_t (mem_t (mem_t (mem_t (mem_h))))))))))))))) | exact mem_t (mem_t (mem_t (mem_t (mem_t (mem_t (mem_t (mem_t (mem_t (mem_t (mem_t (mem_t (mem_t (mem_t (mem_t (mem_t (mem_h)))))))))))))))) | exact mem_t (mem_t (mem_t (mem_t (mem_t (mem_t (mem_t (mem_t (mem_t (mem_t (mem_t (mem_t (mem_t (mem_t (mem_t (mem_t (mem_t (mem_h))))))))))))))))) | exact mem_t (mem_t (mem_t (mem_t (mem_t (mem_t (mem_t (mem_t (mem_t (mem_t (mem_t (mem_t (mem_t (mem_t (mem_t (mem_t (mem_t (mem_t (mem_h)))))))))))))))))) | exact mem_t (mem_t (mem_t (mem_t (mem_t (mem_t (mem_t (mem_t (mem_t (mem_t (mem_t (mem_t (mem_t (mem_t (mem_t (mem_t (mem_t (mem_t (mem_t (mem_h))))))))))))))))))) | exact mem_t (mem_t (mem_t (mem_t (mem_t (mem_t (mem_t (mem_t (mem_t (mem_t (mem_t (mem_t (mem_t (mem_t (mem_t (mem_t (mem_t (mem_t (mem_t (mem_t (mem_h)))))))))))))))))))) | exact mem_t (mem_t (mem_t (mem_t (mem_t (mem_t (mem_t (mem_t (mem_t (mem_t (mem_t (mem_t (mem_t (mem_t (mem_t (mem_t (mem_t (mem_t (mem_t (mem_t (mem_t (mem_h))))))))))))))))))))) | exact mem_t (mem_t (mem_t (mem_t (mem_t (mem_t (mem_t (mem_t (mem_t (mem_t (mem_t (mem_t (mem_t (mem_t (mem_t (mem_t (mem_t (mem_t (mem_t (mem_t (mem_t (mem_t (mem_h)))))))))))))))))))))) | exact mem_t (mem_t (mem_t (mem_t (mem_t (mem_t (mem_t (mem_t (mem_t (mem_t (mem_t (mem_t (mem_t (mem_t (mem_t (mem_t (mem_t (mem_t (mem_t (mem_t (mem_t (mem_t (mem_t (mem_h))))))))))))))))))))))) | exact mem_t (mem_t (mem_t (mem_t (mem_t (mem_t (mem_t (mem_t (mem_t (mem_t (mem_t (mem_t (mem_t (mem_t (mem_t (mem_t (mem_t (mem_t (mem_t (mem_t (mem_t (mem_t (mem_t (mem_t (mem_h)))))))))))))))))))))))) | exact mem_t (mem_t (mem_t (mem_t (mem_t (mem_t (mem_t (mem_t (mem_t (mem_t (mem_t (mem_t (mem_t (mem_t (mem_t (mem_t (mem_t (mem_t (mem_t (mem_t (mem_t (mem_t (mem_t (mem_t (mem_t (mem_h)))))))))))))))))))))))))
  k_with "x k_q1" => exact ltA (by with_reducible assumption) (by k_extra "x k_mm")
  k_with "x k_up" => first | exact ltP (by with_reducible assumption) | exact ltP (ltP (by with_reducible assumption)) | exact ltP (ltP (ltP (by with_reducible assumption))) | exact ltP (ltP (ltP (ltP (by with_reducible assumption)))) | exact ltP (ltP (ltP (ltP (ltP (by with_reducible assumption))))) | exact ltP (ltP (ltP (ltP (ltP (ltP (by with_reducible assumption)))))) | exact ltP (ltP (ltP (ltP (ltP (ltP (ltP (by with_reducible assumption))))))) | exact ltP (ltP (ltP (ltP (ltP (ltP (ltP (ltP (by with_reducible assumption))))))))
  k_with "x k_hi" => first | with_reducible assumption | k_extra "x k_q1" | exact ltR (by with_reducible assumption) (by k_extra "x k_mm") | k_extra "x k_up" | (refine Nat.lt_trans ?_ (by with_reducible assumption); k_extra "x k_hi")
  k_with "x k_l1" => first | k_extra "x k_q1" | exact ltZ | k_extra "x k_hi" | (refine ltS ?_; k_extra "x k_l1")
  k_with "x k_l2" => first | k_extra "x k_l1" | (refine Nat.lt_trans (by with_reducible assumption) ?_; k_extra "x k_l2")
  k_with "x k_lo" => ((fail_if_success (with_reducible show @LT.lt Nat _ _ 79)); k_extra "x k_l2")
  k_with "x k_ne" =>
    refine neN ?_
    try dsimp only
    first
      | with_reducible assumption
      | exact Ne.symm (by with_reducible assumption)
      | exact ne_lt (ltA (by with_reducible assumption) (by k_extra "x k_mm"))
      | exact ne_gt (ltA (by with_reducible assumption) (by k_extra "x k_mm"))
      | ((repeat refine ne_s ?_); first | exact ne_z1 | exact ne_z2 | exact ne_z3 | exact ne_z4 | exact ne_z5 | exact ne_z6 | exact ne_z7 | exact ne_z8 | exact ne_z1.symm | exact ne_z2.symm | exact ne_z3.symm | exact ne_z4.symm | exact ne_z5.symm | exact ne_z6.symm | exact ne_z7.symm | exact ne_z8.symm)
      | (refine ne_lt ?_; k_extra "x k_lo")
      | (refine ne_gt ?_; k_extra "x k_lo")
      | (simp only [AllLt, and_true] at *; omega)
  k_with "x getMethod ref" => refine getMethod_fnN (by k_asm) (by k_mem) (by k_mem) ?_
  k_with "x callWith ref" => k_dflt (refine' callWith_F (FnAt.of (by k_asm) (by k_mem)) ?_; k_whole)
  k_with "x call ref" => (refine' Fn.use (hR _ _ _ _) ?H ?F ?N ?S ?A ?_; (case H => k_extra "x fn_here"); (case F => k_asm); (case N => k_asm); (case S => k_extra "x fn_split"); (case A => k_extra "x fn_apart"); (rintro v P' h' tk' ⟨tv, tp', n', rfl, rfl⟩ F' N' ap'); (simp only [List.cons_append, List.nil_append] at N'))
  trivial
theorem c_readchar (k : Lx) (ok : k.Ok) (l : List Nat) (hR : k.Reads w mean mg mb l) (pos : Nat) (tp : Tok) (n : Nat) (ln : Int) (tl : Tok) : FD 480 w mean mg mb 42 [.ref k.x] (k.P pos tp n ln tl)
    (fun v P' => ∃ tv tp' n' tl', v = .str (txt (sgn l pos)) tv ∧ P' = k.P ((pos + 1 : Nat) : Int) tp' n' (if sgn l pos = [10] then ln + 1 else ln) tl') := by
  obtain ⟨a1, a2, a3, a4, a5, a6, a7, a8, a9⟩ := ok
  walk_at "fn_open"
  walk_at "steps"
  · have e : sgn l pos = [10] := txt_eq (b := [10]) (by assumption)
    refine' ⟨Ends.sub (P' := k.P ((pos + 1 : Nat) : Int) tp' n' (ln + 1) _) (by k_asm) (by k_asm) ?_ ⟨tv, tp', n', _, rfl, by rw [if_pos e]⟩⟩
    walk_at "fn_sub"
  · have e : sgn l pos ≠ [10] := txt_ne (b := [10]) (by assumption)
    refine' ⟨Ends.sub (P' := k.P ((pos + 1 : Nat) : Int) tp' n' ln _) (by k_asm) (by k_asm) ?_ ⟨tv, tp', n', _, rfl, by rw [if_neg e]⟩⟩
    walk_at "fn_sub"
end
section
example : True := by
  k_with_none
  k_with "x fn_open" =>
    with_unfolding_all refine' Fn.plain ?ho ?hcd ?hbind ?hloc ?_ ?hD ?hco ?hgen ?hk ?hcell
    case ho => k_is
    case hcd => k_is
    case hbind => exact fun s => BindsTo.of_eq rfl
    case hloc => exact locs rfl
    case hD => decide
    case hco => exact rfl
    case hgen => exact rfl
    case hk => exact rfl
    case hcell => decide
    intro gd outer A₀ base g L s B X T F N lt
  k_with "x fn_cells" =>
    with_unfolding_all refine' Fn.cells ?ho ?hcd ?hbind ?hkind ?hnd ?_ ?hD ?hco ?hgen ?hk
    case ho => k_is
    case hcd => k_is
    case hbind => exact fun s => BindsTo.of_eq rfl
    case hkind => exact rfl
    case hnd => decide +kernel
    case hD => decide
    case hco => exact rfl
    case hgen => exact rfl
    case hk => exact rfl
    intro gd outer A₀ base g L s cells B X T F N Y lt
  k_with "x fn_made" =>
    with_unfolding_all refine' Fn.made ?ho ?hc ?hcd ?hcv ?hbind ?hloc ?_ ?hD ?hco ?hgen ?hk ?hcell
    case ho => k_mem
    case hc => k_mem
    case hcd => assumption
    case hcv => assumption
    case hbind => exact fun s => BindsTo.of_eq rfl
    case hloc => exact locs rfl
    case hD => decide
    case hco => exact rfl
    case hgen => exact rfl
    case hk => exact rfl
    case hcell => decide
    intro gd outer A₀ base g L s B X T F N lt
  k_with "x Ends" => refine stop ?_
  k_with "x steps" => repeat' (first | (k_unfold; (try dsimp only)) | walk1 | (dsimp only; walk1))
  k_with "x fn_pick" => first | exact Pick.here | (refine' Pick.there ?p1; (case p1 => k_extra "x fn_pick"))
  k_with "x fn_split" => first | exact Split.nil | (refine' Split.cons ?a1 ?b1; (case a1 => k_extra "x fn_pick"); (case b1 => k_extra "x fn_split"))
  k_with "x fn_nes" => first | exact all_nil | (refine' all_cons ?a2 ?b2; (case a2 => k_ne); (case b2 => k_extra "x fn_nes"))
  k_with "x fn_apart" => first | exact apart_nil | (refine' apart_cons ?a3 ?b3; (case a3 => k_extra "x fn_nes"); (case b3 => k_extra "x fn_apart"))
  k_with "x fn_here" => exact ⟨by k_asm, by k_asm, by k_asm, rfl, rfl, rfl, rfl, Nat.le_of_ble_eq_true rfl, Nat.le_of_ble_eq_true rfl⟩
  k_with "x fn_sub" => first | exact all_nil | (refine' all_cons ?a4 ?b4; (case a4 => k_mem); (case b4 => k_extra "x fn_sub"))
  k_with "x k_all" => first | exact all_nil | (refine' all_cons ?a5 ?b5; (case a5 => k_ne); (case b5 => k_all))
  k_with "x fn_ords" => first | exact all_nil | (refine' all_cons ?a6 ?b6; (case a6 => ((try dsimp only); first | k_extra "x k_lo" | exact Nat.le_refl _ | (refine Nat.le_of_lt ?_; k_extra "x k_lo") | (simp only [AllLt, and_true] at *; omega))); (case b6 => k_extra "x fn_ords"))
  k_with "x k_mm" => first | exact mem_h | exact mem_t (mem_h) | exact mem_t (mem_t (mem_h)) | exact mem_t (mem_t (mem_t (mem_h))) | exact mem_t (mem_t (mem_t (mem_t (mem_h)))) | exact mem_t (mem_t (mem_t (mem_t (mem_t (mem_h))))) | exact mem_t (mem_t (mem_t (mem_t (mem_t (mem_t (mem_h)))))) | exact mem_t (mem_t (mem_t (mem_t (mem_t (mem_t (mem_t (mem_h))))))) | exact mem_t (mem_t (mem_t (mem_t (mem_t (mem_t (mem_t (mem_t (mem_h)))))))) | exact mem_t (mem_t (mem_t (mem_t (mem_t (mem_t (mem_t (mem_t (mem_t (mem_h))))))))) | exact mem_t (mem_t (mem_t (mem_t (mem_t (mem_t (mem_t (mem_t (mem_t (mem_t (mem_h)))))))))) | exact mem_t (mem_t (mem_t (mem_t (mem_t (mem_t (mem_t (mem_t (mem_t (mem_t (mem_t (mem_h))))))))))) | exact mem_t (mem_t (mem_t (mem_t (mem_t (mem_t (mem_t (mem_t (mem_t (mem_t (mem_t (mem_t (mem_h)))))))))))) | exact mem_t (mem_t (mem_t (mem_t (mem_t (mem_t (mem_t (mem_t (mem_t (mem_t (mem_t (mem_t (mem_t (mem_h))))))))))))) | exact mem_t (mem_t (mem_t (mem_t (mem_t (mem_t (mem_t (mem_t (mem_t (mem_t (mem_t (mem_t (mem_t (mem_t (mem_h)))))))))))))) | exact mem_t (mem_t (mem_t (mem_t (mem_t (mem_t (mem_t (mem_t (mem_t (mem_t (mem_t (mem_t (mem_t (mem_t (mem_t (mem_h))))))))))))))) | exact mem_t (mem_t (mem_t (mem_t (mem_t (mem_t (mem_t (mem_t (mem_t (mem_t (mem_t (mem_t (mem_t (mem_t (mem_t (mem_t (mem_h)))))))))))))))) | exact mem_t (mem_t (mem_t (mem_t (mem_t (mem_t (mem_t (mem_t (mem_t (mem_t (mem_t (mem_t (mem_t (mem_t (mem_t (mem_t (mem_t (mem_h))))))))))))))))) | exact mem_t (mem_t (mem_t (mem_t (mem_t (mem_t (mem_t (mem_t (mem_t (mem_t (mem_t (mem_t (mem_t (mem_t (mem_t (mem_t (mem_t (mem_t (mem_h)))))))))))))))))) | exact mem_t (mem_t (mem_t (mem_t (mem_t (mem_t (mem_t (mem_t (mem_t (mem_t (mem_t (mem_t (mem_t (mem_t (mem_t (mem_t (mem_t (mem_t (mem_t (mem_h))))))))))))))))))) | exact mem_t (mem_t (mem_t (mem_t (mem_t (mem_t (mem_t (mem_t (mem_t (mem_t (mem_t (mem_t (mem_t (mem_t (mem_t (mem_t (mem_t (mem_t (mem_t (mem_t (mem_h)))))))))))))))))))) | exact mem_t (mem_t (mem_t (mem_t (mem_t (mem_t (mem_t (mem_t (mem_t (mem_t (mem_t (mem_t (mem_t (mem_t (mem_t (mem_t (mem_t (mem_t (mem_t (mem_t (mem_t (mem_h))))))))))))))))))))) | exact mem_t (mem_t (mem_t (mem_t (mem_t (mem_t (mem_t (mem_t (mem_t (mem_t (mem_t (mem_t (mem_t (mem_t (mem_t (mem_t (mem_t (mem_t (mem_t (mem_t (mem_t (mem_t (mem_h)))))))))))))))))))))) | exact mem_t (mem_t (mem_t (mem_t (mem_t (mem_t (mem_t (mem_t (mem_t (mem_t (mem_t (mem_t (mem_t (mem_t (mem_t (mem_t (mem_t (mem_t (mem_t (mem_t (mem_t (mem_t (mem_t (mem_h))))))))))))))))))))))) | exact mem_t (mem_t (mem_t (mem_t (mem_t (mem_t (mem_t (mem_t (mem_t (mem_t (mem_t (mem_t (mem_t (mem_t (mem_t (mem_t (mem_t (mem_t (mem_t (mem_t (mem_t (mem_t (mem_t (mem_t (mem_h)))))))))))))))))))))))) | exact mem_t (mem_t (mem_t (mem_t (mem_t (mem_t (mem_t (mem_t (mem_t (mem_t (mem_t (mem_t (mem_t (mem_t (mem_t (mem_t (mem_t (mem_t (mem_t (mem_t (mem_t (mem_t (mem_t (mem_t (mem_t (mem_h)))))))))))))))))))))))))
  k_with "x k_q1" => exact ltA (by with_reducible assumption) (by k_extra "x k_mm")
  k_with "x k_up" => first | exact ltP (by with_reducible assumption) | exact ltP (ltP (by with_reducible assumption)) | exact ltP (ltP (ltP (by with_reducible assumption))) | exact ltP (ltP (ltP (ltP (by with_reducible assumption)))) | exact ltP (ltP (ltP (ltP (ltP (by with_reducible assumption))))) | exact ltP (ltP (ltP (ltP (ltP (ltP (by with_reducible assumption)))))) | exact ltP (ltP (ltP (ltP (ltP (ltP (ltP (by with_reducible assumption))))))) | exact ltP (ltP (ltP (ltP (ltP (ltP (ltP (ltP (by with_reducible assumption))))))))
  k_with "x k_hi" => first | with_reducible assumption | k_extra "x k_q1" | exact ltR (by with_reducible assumption) (by k_extra "x k_mm") | k_extra "x k_up" | (refine Nat.lt_trans ?_ (by with_reducible assumption); k_extra "x k_hi")
  k_with "x k_l1" => first | k_extra "x k_q1" | exact ltZ | k_extra "x k_hi" | (refine ltS ?_; k_extra "x k_l1")
  k_with "x k_l2" => first | k_extra "x k_l1" | (refine Nat.lt_trans (by with_reducible assumption) ?_; k_extra "x k_l2")
  k_with "x k_lo" => ((fail_if_success (with_reducible show @LT.lt Nat _ _ 79)); k_extra "x k_l2")
  k_with "x k_ne" =>
    refine neN ?_
    try dsimp only
    first
      | with_reducible assumption
      | exact Ne.symm (by with_reducible assumption)
      | exact ne_lt (ltA (by with_reducible assumption) (by k_extra "x k_mm"))
      | exact ne_gt (ltA (by with_reducible assumption) (by k_extra "x k_mm"))
      | ((repeat refine ne_s ?_); first | exact ne_z1 | exact ne_z2 | exact ne_z3 | exact ne_z4 | exact ne_z5 | exact ne_z6 | exact ne_z7 | exact ne_z8 | exact ne_z1.symm | exact ne_z2.symm | exact ne_z3.symm | exact ne_z4.symm | exact ne_z5.symm | exact ne_z6.symm | exact ne_z7.symm | exact ne_z8.symm)
      | (refine ne_lt ?_; k_extra "x k_lo")
      | (refine ne_gt ?_; k_extra "x k_lo")
      | (simp only [AllLt, and_true] at *; omega)
  trivial
theorem k42 (P : Params) : ∃ fo fd, (hd.heap_39 P).lookup 42 = some fo ∧ fo.data = .func fd := ⟨_, _, rfl, rfl⟩
/-- a draw from iter(self._read_char, "") -/
theorem next_ci {A A₀ : Around} {env : Env} {outer : List Env} {base g : Heap} {L : Addr} {m : Str → Option Value} {s : Shared} {rest : List (Addr × Obj)} {I bm : Addr} {ty : Tok} {Q : Option Value → Shared → Prop} {E : Value → Shared → Prop}
    (k : Lx) (ok : k.Ok) {l : List Nat} (hR : k.Reads w mean mg mb l) {p : Nat} {tp : Tok} {n : Nat} {tl : Tok} {c : Nat} {r : List Nat} (hdr : l.drop p = c :: r)
    (H : Here PySem.Challenge.pw_ta0007_01 w (hd.heap_39 w.params) topProg lse mean mg mb 480 480 A.in1 env outer A₀ base g L) (F : Fr g L s.heap m) (N : News g L s.heap (k.At l p tp n tl ++ rest))
    (hI : (I, ciObj (.ref bm) (.str "" ty) false) ∈ rest) (hb : (bm, methodObj (.ref 42) (.ref k.x)) ∈ rest) (ap : Apart (k.At l p tp n tl) rest)
    (h : ∀ h' tk' tv tp' n' tl', Fr g L h' m → News g L h' (k.At l (p + 1) tp' n' tl' ++ rest) → Q (some (.str (txt [c]) tv)) { s with heap := h', toks := tk' }) :
    wpAny (model PySem.Challenge.pw_ta0007_01 w) A (pyNext (.ref I)) Q E s := by
  have X := H.kin.keeps F.keep
  obtain ⟨fo, fd, ho, hf⟩ := k42 w.params
  refine pyNext_ci (N _ (List.mem_append_right _ hI)).1 (N _ (List.mem_append_right _ hb)).1 (X 42 _ ho) hf ?_
  refine Fn.useC (c_readchar k ok l hR p tp n _ tl) H F (fun q hq => N q hq) (Split_app _ _) ap ?_
  rintro v P' h' tk' ⟨tv, tp', n', tl', rfl, rfl⟩ F' N' ap'
  rw [← lnAt_next hdr] at N'
  exact ⟨txt [c], tv, by rw [sgn_of hdr], fun e => List.cons_ne_nil _ _ (txt_inj (b := []) e), (N' _ (List.mem_append_right _ hI)).1, fun tk => h h' tk tv tp' n' tl' F' N'⟩
end
section
example : True := by
  k_with_none
  k_with "x fn_open" =>
    with_unfolding_all refine' Fn.plain ?ho ?hcd ?hbind ?hloc ?_ ?hD ?hco ?hgen ?hk ?hcell
    case ho => k_is
    case hcd => k_is
    case hbind => exact fun s => BindsTo.of_eq rfl
    case hloc => exact locs rfl
    case hD => decide
    case hco => exact rfl
    case hgen => exact rfl
    case hk => exact rfl
    case hcell => decide
    intro gd outer A₀ base g L s B X T F N lt
  k_with "x fn_cells" =>
    with_unfolding_all refine' Fn.cells ?ho ?hcd ?hbind ?hkind ?hnd ?_ ?hD ?hco ?hgen ?hk
    case ho => k_is
    case hcd => k_is
    case hbind => exact fun s => BindsTo.of_eq rfl
    case hkind => exact rfl
    case hnd => decide +kernel
    case hD => decide
    case hco => exact rfl
    case hgen => exact rfl
    case hk => exact rfl
    intro gd outer A₀ base g L s cells B X T F N Y lt
  k_with "x fn_made" =>
    with_unfolding_all refine' Fn.made ?ho ?hc ?hcd ?hcv ?hbind ?hloc ?_ ?hD ?hco ?hgen ?hk ?hcell
    case ho => k_mem
    case hc => k_mem
    case hcd => assumption
    case hcv => assumption
    case hbind => exact fun s => BindsTo.of_eq rfl
    case hloc => exact locs rfl
    case hD => decide
    case hco => exact rfl
    case hgen => exact rfl
    case hk => exact rfl
    case hcell => decide
    intro gd outer A₀ base g L s B X T F N lt
  k_with "x Ends" => refine stop ?_
  k_with "x steps" => repeat' (first | (k_unfold; (try dsimp only)) | walk1 | (dsimp only; walk1))
  k_with "x fn_pick" => first | exact Pick.here | (refine' Pick.there ?p1; (case p1 => k_extra "x fn_pick"))
  k_with "x fn_split" => first | exact Split.nil | (refine' Split.cons ?a1 ?b1; (case a1 => k_extra "x fn_pick"); (case b1 => k_extra "x fn_split"))
  k_with "x fn_nes" => first | exact all_nil | (refine' all_cons ?a2 ?b2; (case a2 => k_ne); (case b2 => k_extra "x fn_nes"))
  k_with "x fn_apart" => first | exact apart_nil | (refine' apart_cons ?a3 ?b3; (case a3 => k_extra "x fn_nes"); (case b3 => k_extra "x fn_apart"))
  k_with "x fn_here" => exact ⟨by k_asm, by k_asm, by k_asm, rfl, rfl, rfl, rfl, Nat.le_of_ble_eq_true rfl, Nat.le_of_ble_eq_true rfl⟩
  k_with "x fn_sub" => first | exact all_nil | (refine' all_cons ?a4 ?b4; (case a4 => k_mem); (case b4 => k_extra "x fn_sub"))
  k_with "x k_all" => first | exact all_nil | (refine' all_cons ?a5 ?b5; (case a5 => k_ne); (case b5 => k_all))
  k_with "x fn_ords" => first | exact all_nil | (refine' all_cons ?a6 ?b6; (case a6 => ((try dsimp only); first | k_extra "x k_lo" | exact Nat.le_refl _ | (refine Nat.le_of_lt ?_; k_extra "x k_lo") | (simp only [AllLt, and_true] at *; omega))); (case b6 => k_extra "x fn_ords"))
  k_with "x k_mm" => first | exact mem_h | exact mem_t (mem_h) | exact mem_t (mem_t (mem_h)) | exact mem_t (mem_t (mem_t (mem_h))) | exact mem_t (mem_t (mem_t (mem_t (mem_h)))) | exact mem_t (mem_t (mem_t (mem_t (mem_t (mem_h))))) | exact mem_t (mem_t (mem_t (mem_t (mem_t (mem_t (mem_h)))))) | exact mem_t (mem_t (mem_t (mem_t (mem_t (mem_t (mem_t (mem_h))))))) | exact mem_t (mem_t (mem_t (mem_t (mem_t (mem_t (mem_t (mem_t (mem_h)))))))) | exact mem_t (mem_t (mem_t (mem_t (mem_t (mem_t (mem_t (mem_t (mem_t (mem_h))))))))) | exact mem_t (mem_t (mem_t (mem_t (mem_t (mem_t (mem_t (mem_t (mem_t (mem_t (mem_h)))))))))) | exact mem_t (mem_t (mem_t (mem_t (mem_t (mem_t (mem_t (mem_t (mem_t (mem_t (mem_t (mem_h))))))))))) | exact mem_t (mem_t (mem_t (mem_t (mem_t (mem_t (mem_t (mem_t (mem_t (mem_t (mem_t (mem_t (mem_h)))))))))))) | exact mem_t (mem_t (mem_t (mem_t (mem_t (mem_t (mem_t (mem_t (mem_t (mem_t (mem_t (mem_t (mem_t (mem_h))))))))))))) | exact mem_t (mem_t (mem_t (mem_t (mem_t (mem_t (mem_t (mem_t (mem_t (mem_t (mem_t (mem_t (mem_t (mem_t (mem_h)))))))))))))) | exact mem_t (mem_t (mem_t (mem_t (mem_t (mem_t (mem_t (mem_t (mem_t (mem_t (mem_t (mem_t (mem_t (mem_t (mem_t (mem_h))))))))))))))) | exact mem_t (mem_t (mem_t (mem_t (mem_t (mem_t (mem_t (mem_t (mem_t (mem_t (mem_t (mem_t (mem_t (mem_t (mem_t (mem_t (mem_h)))))))))))))))) | exact mem_t (mem_t (mem_t (mem_t (mem_t (mem_t (mem_t (mem_t (mem_t (mem_t (mem_t (mem_t (mem_t (mem_t (mem_t (mem_t (mem_t (mem_h))))))))))))))))) | exact mem_t (mem_t (mem_t (mem_t (mem_t (mem_t (mem_t (mem_t (mem_t (mem_t (mem_t (mem_t (mem_t (mem_t (mem_t (mem_t (mem_t (mem_t (mem_h)))))))))))))))))) | exact mem_t (mem_t (mem_t (mem_t (mem_t (mem_t (mem_t (mem_t (mem_t (mem_t (mem_t (mem_t (mem_t (mem_t (mem_t (mem_t (mem_t (mem_t (mem_t (mem_h))))))))))))))))))) | exact mem_t (mem_t (mem_t (mem_t (mem_t (mem_t (mem_t (mem_t (mem_t (mem_t (mem_t (mem_t (mem_t (mem_t (mem_t (mem_t (mem_t (mem_t (mem_t (mem_t (mem_h)))))))))))))))))))) | exact mem_t (mem_t (mem_t (mem_t (mem_t (mem_t (mem_t (mem_t (mem_t (mem_t (mem_t (mem_t (mem_t (mem_t (mem_t (mem_t (mem_t (mem_t (mem_t (mem_t (mem_t (mem_h))))))))))))))))))))) | exact mem_t (mem_t (mem_t (mem_t (mem_t (mem_t (mem_t (mem_t (mem_t (mem_t (mem_t (mem_t (mem_t (mem_t (mem_t (mem_t (mem_t (mem_t (mem_t (mem_t (mem_t (mem_t (mem_h)))))))))))))))))))))) | exact mem_t (mem_t (mem_t (mem_t (mem_t (mem_t (mem_t (mem_t (mem_t (mem_t (mem_t (mem_t (mem_t (mem_t (mem_t (mem_t (mem_t (mem_t (mem_t (mem_t (mem_t (mem_t (mem_t (mem_h))))))))))))))))))))))) | exact mem_t (mem_t (mem_t (mem_t (mem_t (mem_t (mem_t (mem_t (mem_t (mem_t (mem_t (mem_t (mem_t (mem_t (mem_t (mem_t (mem_t (mem_t (mem_t (mem_t (mem_t (mem_t (mem_t (mem_t (mem_h)))))))))))))))))))))))) | exact mem_t (mem_t (mem_t (mem_t (mem_t (mem_t (mem_t (mem_t (mem_t (mem_t (mem_t (mem_t (mem_t (mem_t (mem_t (mem_t (mem_t (mem_t (mem_t (mem_t (mem_t (mem_t (mem_t (mem_t (mem_t (mem_h)))))))))))))))))))))))))
  k_with "x k_q1" => exact ltA (by with_reducible assumption) (by k_extra "x k_mm")
  k_with "x k_up" => first | exact ltP (by with_reducible assumption) | exact ltP (ltP (by with_reducible assumption)) | exact ltP (ltP (ltP (by with_reducible assumption))) | exact ltP (ltP (ltP (ltP (by with_reducible assumption)))) | exact ltP (ltP (ltP (ltP (ltP (by with_reducible assumption))))) | exact ltP (ltP (ltP (ltP (ltP (ltP (by with_reducible assumption)))))) | exact ltP (ltP (ltP (ltP (ltP (ltP (ltP (by with_reducible assumption))))))) | exact ltP (ltP (ltP (ltP (ltP (ltP (ltP (ltP (by with_reducible assumption))))))))
  k_with "x k_hi" => first | with_reducible assumption | k_extra "x k_q1" | exact ltR (by with_reducible assumption) (by k_extra "x k_mm") | k_extra "x k_up" | (refine Nat.lt_trans ?_ (by with_reducible assumption); k_extra "x k_hi")
  k_with "x k_l1" => first | k_extra "x k_q1" | exact ltZ | k_extra "x k_hi" | (refine ltS ?_; k_extra "x k_l1")
  k_with "x k_l2" => first | k_extra "x k_l1" | (refine Nat.lt_trans (by with_reducible assumption) ?_; k_extra "x k_l2")
  k_with "x k_lo" => ((fail_if_success (with_reducible show @LT.lt Nat _ _ 79)); k_extra "x k_l2")
  k_with "x k_ne" =>
    refine neN ?_
    try dsimp only
    first
      | with_reducible assumption
      | exact Ne.symm (by with_reducible assumption)
      | exact ne_lt (ltA (by with_reducible assumption) (by k_extra "x k_mm"))
      | exact ne_gt (ltA (by with_reducible assumption) (by k_extra "x k_mm"))
      | ((repeat refine ne_s ?_); first | exact ne_z1 | exact ne_z2 | exact ne_z3 | exact ne_z4 | exact ne_z5 | exact ne_z6 | exact ne_z7 | exact ne_z8 | exact ne_z1.symm | exact ne_z2.symm | exact ne_z3.symm | exact ne_z4.symm | exact ne_z5.symm | exact ne_z6.symm | exact ne_z7.symm | exact ne_z8.symm)
      | (refine ne_lt ?_; k_extra "x k_lo")
      | (refine ne_gt ?_; k_extra "x k_lo")
      | (simp only [AllLt, and_true] at *; omega)
  trivial
theorem c_get_push (k : Lx) (ok : k.Ok) (ln : Int) (tl : Tok) (v : Value) (vs : List Value) (n : Nat) (hz : vs.length ≤ 1000) : FD 450 w mean mg mb 49 [.ref k.x] [(k.x, instObj 59 k.dx), (k.dx, k.dict ln tl), (k.pb, listOf (v :: vs).toArray n)]
    (fun r P' => ∃ n', r = v ∧ P' = [(k.x, instObj 59 k.dx), (k.dx, k.dict ln tl), (k.pb, listOf vs.toArray n')]) := by
  obtain ⟨a1, a2, a3, a4, a5, a6, a7, a8, a9⟩ := ok
  walk_at "fn_open"
  walk_at "steps"
  refine wpAny_truthy_list (News.isList (by k_asm) (by k_mem)) (by rw [List.size_toArray, List.length_cons]; omega) ?_
  have e : (!(v :: vs).toArray.isEmpty) = true := by simp
  rw [e]
  walk_at "steps"
  refine' kl_popAt (k := 0) (p := []) (y := v) (q := vs) (its := (v :: vs).toArray) (by k_asm) (by k_asm) (by decide) ?hk rfl ?U ?hz ?h
  case hk => rw [List.size_toArray, List.length_cons]; simp [seqIndex?]
  case U => k_upd
  case hz => show (v :: vs).length ≤ sizeLine; rw [List.length_cons, sizeLine_eq]; omega
  intro h2 F2 N2
  walk_at "steps"
  exact ⟨Ends.sub (by k_asm) (by k_asm) (fun p hp => hp) ⟨_, rfl, rfl⟩⟩
theorem c_push (k : Lx) (ok : k.Ok) (ln : Int) (tl : Tok) (v : Value) (vs : List Value) (n : Nat) (hz : vs.length ≤ 1000) : FD 450 w mean mg mb 56 [.ref k.x, v] [(k.x, instObj 59 k.dx), (k.dx, k.dict ln tl), (k.pb, listOf vs.toArray n)]
    (fun r P' => ∃ n', r = .none ∧ P' = [(k.x, instObj 59 k.dx), (k.dx, k.dict ln tl), (k.pb, listOf (vs ++ [v]).toArray n')]) := by
  obtain ⟨a1, a2, a3, a4, a5, a6, a7, a8, a9⟩ := ok
  walk_at "fn_open"
  walk_at "steps"
  refine' ⟨Ends.sub (P' := [(k.x, instObj 59 k.dx), (k.dx, k.dict ln tl), (k.pb, listOf (vs ++ [v]).toArray (n + 1))]) (by k_asm) (by k_asm) ?_ ⟨_, rfl, rfl⟩⟩
  rw [← List.push_toArray]
  walk_at "fn_sub"
end
section
example : True := by
  k_with_none
  k_with "x fn_open" =>
    with_unfolding_all refine' Fn.plain ?ho ?hcd ?hbind ?hloc ?_ ?hD ?hco ?hgen ?hk ?hcell
    case ho => k_is
    case hcd => k_is
    case hbind => exact fun s => BindsTo.of_eq rfl
    case hloc => exact locs rfl
    case hD => decide
    case hco => exact rfl
    case hgen => exact rfl
    case hk => exact rfl
    case hcell => decide
    intro gd outer A₀ base g L s B X T F N lt
  k_with "x fn_cells" =>
    with_unfolding_all refine' Fn.cells ?ho ?hcd ?hbind ?hkind ?hnd ?_ ?hD ?hco ?hgen ?hk
    case ho => k_is
    case hcd => k_is
    case hbind => exact fun s => BindsTo.of_eq rfl
    case hkind => exact rfl
    case hnd => decide +kernel
    case hD => decide
    case hco => exact rfl
    case hgen => exact rfl
    case hk => exact rfl
    intro gd outer A₀ base g L s cells B X T F N Y lt
  k_with "x fn_made" =>
    with_unfolding_all refine' Fn.made ?ho ?hc ?hcd ?hcv ?hbind ?hloc ?_ ?hD ?hco ?hgen ?hk ?hcell
    case ho => k_mem
    case hc => k_mem
    case hcd => assumption
    case hcv => assumption
    case hbind => exact fun s => BindsTo.of_eq rfl
    case hloc => exact locs rfl
    case hD => decide
    case hco => exact rfl
    case hgen => exact rfl
    case hk => exact rfl
    case hcell => decide
    intro gd outer A₀ base g L s B X T F N lt
  k_with "x Ends" => refine stop ?_
  k_with "x steps" => repeat' (first | (k_unfold; (try dsimp only)) | walk1 | (dsimp only; walk1))
  k_with "x fn_pick" => first | exact Pick.here | (refine' Pick.there ?p1; (case p1 => k_extra "x fn_pick"))
  k_with "x fn_split" => first | exact Split.nil | (refine' Split.cons ?a1 ?b1; (case a1 => k_extra "x fn_pick"); (case b1 => k_extra "x fn_split"))
  k_with "x fn_nes" => first | exact all_nil | (refine' all_cons ?a2 ?b2; (case a2 => k_ne); (case b2 => k_extra "x fn_nes"))
  k_with "x fn_apart" => first | exact apart_nil | (refine' apart_cons ?a3 ?b3; (case a3 => k_extra "x fn_nes"); (case b3 => k_extra "x fn_apart"))
  k_with "x fn_here" => exact ⟨by k_asm, by k_asm, by k_asm, rfl, rfl, rfl, rfl, Nat.le_of_ble_eq_true rfl, Nat.le_of_ble_eq_true rfl⟩
  k_with "x fn_sub" => first | exact all_nil | (refine' all_cons ?a4 ?b4; (case a4 => k_mem); (case b4 => k_extra "x fn_sub"))
  k_with "x k_all" => first | exact all_nil | (refine' all_cons ?a5 ?b5; (case a5 => k_ne); (case b5 => k_all))
  k_with "x fn_ords" => first | exact all_nil | (refine' all_cons ?a6 ?b6; (case a6 => ((try dsimp only); first | k_extra "x k_lo" | exact Nat.le_refl _ | (refine Nat.le_of_lt ?_; k_extra "x k_lo") | (simp only [AllLt, and_true] at *; omega))); (case b6 => k_extra "x fn_ords"))
  k_with "x k_mm" => first | exact mem_h | exact mem_t (mem_h) | exact mem_t (mem_t (mem_h)) | exact mem_t (mem_t (mem_t (mem_h))) | exact mem_t (mem_t (mem_t (mem_t (mem_h)))) | exact mem_t (mem_t (mem_t (mem_t (mem_t (mem_h))))) | exact mem_t (mem_t (mem_t (mem_t (mem_t (mem_t (mem_h)))))) | exact mem_t (mem_t (mem_t (mem_t (mem_t (mem_t (mem_t (mem_h))))))) | exact mem_t (mem_t (mem_t (mem_t (mem_t (mem_t (mem_t (mem_t (mem_h)))))))) | exact mem_t (mem_t (mem_t (mem_t (mem_t (mem_t (mem_t (mem_t (mem_t (mem_h))))))))) | exact mem_t (mem_t (mem_t (mem_t (mem_t (mem_t (mem_t (mem_t (mem_t (mem_t (mem_h)))))))))) | exact mem_t (mem_t (mem_t (mem_t (mem_t (mem_t (mem_t (mem_t (mem_t (mem_t (mem_t (mem_h))))))))))) | exact mem_t (mem_t (mem_t (mem_t (mem_t (mem_t (mem_t (mem_t (mem_t (mem_t (mem_t (mem_t (mem_h)))))))))))) | exact mem_t (mem_t (mem_t (mem_t (mem_t (mem_t (mem_t (mem_t (mem_t (mem_t (mem_t (mem_t (mem_t (mem_h))))))))))))) | exact mem_t (mem_t (mem_t (mem_t (mem_t (mem_t (mem_t (mem_t (mem_t (mem_t (mem_t (mem_t (mem_t (mem_t (mem_h)))))))))))))) | exact mem_t (mem_t (mem_t (mem_t (mem_t (mem_t (mem_t (mem_t (mem_t (mem_t (mem_t (mem_t (mem_t (mem_t (mem_t (mem_h))))))))))))))) | exact mem_t (mem_t (mem_t (mem_t (mem_t (mem_t (mem_t (mem_t (mem_t (mem_t (mem_t (mem_t (mem_t (mem_t (mem_t (mem_t (mem_h)))))))))))))))) | exact mem_t (mem_t (mem_t (mem_t (mem_t (mem_t (mem_t (mem_t (mem_t (mem_t (mem_t (mem_t (mem_t (mem_t (mem_t (mem_t (mem_t (mem_h))))))))))))))))) | exact mem_t (mem_t (mem_t (mem_t (mem_t (mem_t (mem_t (mem_t (mem_t (mem_t (mem_t (mem_t (mem_t (mem_t (mem_t (mem_t (mem_t (mem_t (mem_h)))))))))))))))))) | exact mem_t (mem_t (mem_t (mem_t (mem_t (mem_t (mem_t (mem_t (mem_t (mem_t (mem_t (mem_t (mem_t (mem_t (mem_t (mem_t (mem_t (mem_t (mem_t (mem_h))))))))))))))))))) | exact mem_t (mem_t (mem_t (mem_t (mem_t (mem_t (mem_t (mem_t (mem_t (mem_t (mem_t (mem_t (mem_t (mem_t (mem_t (mem_t (mem_t (mem_t (mem_t (mem_t (mem_h)))))))))))))))))))) | exact mem_t (mem_t (mem_t (mem_t (mem_t (mem_t (mem_t (mem_t (mem_t (mem_t (mem_t (mem_t (mem_t (mem_t (mem_t (mem_t (mem_t (mem_t (mem_t (mem_t (mem_t (mem_h))))))))))))))))))))) | exact mem_t (mem_t (mem_t (mem_t (mem_t (mem_t (mem_t (mem_t (mem_t (mem_t (mem_t (mem_t (mem_t (mem_t (mem_t (mem_t (mem_t (mem_t (mem_t (mem_t (mem_t (mem_t (mem_h)))))))))))))))))))))) | exact mem_t (mem_t (mem_t (mem_t (mem_t (mem_t (mem_t (mem_t (mem_t (mem_t (mem_t (mem_t (mem_t (mem_t (mem_t (mem_t (mem_t (mem_t (mem_t (mem_t (mem_t (mem_t (mem_t (mem_h))))))))))))))))))))))) | exact mem_t (mem_t (mem_t (mem_t (mem_t (mem_t (mem_t (mem_t (mem_t (mem_t (mem_t (mem_t (mem_t (mem_t (mem_t (mem_t (mem_t (mem_t (mem_t (mem_t (mem_t (mem_t (mem_t (mem_t (mem_h)))))))))))))))))))))))) | exact mem_t (mem_t (mem_t (mem_t (mem_t (mem_t (mem_t (mem_t (mem_t (mem_t (mem_t (mem_t (mem_t (mem_t (mem_t (mem_t (mem_t (mem_t (mem_t (mem_t (mem_t (mem_t (mem_t (mem_t (mem_t (mem_h)))))))))))))))))))))))))
  k_with "x k_q1" => exact ltA (by with_reducible assumption) (by k_extra "x k_mm")
  k_with "x k_up" => first | exact ltP (by with_reducible assumption) | exact ltP (ltP (by with_reducible assumption)) | exact ltP (ltP (ltP (by with_reducible assumption))) | exact ltP (ltP (ltP (ltP (by with_reducible assumption)))) | exact ltP (ltP (ltP (ltP (ltP (by with_reducible assumption))))) | exact ltP (ltP (ltP (ltP (ltP (ltP (by with_reducible assumption)))))) | exact ltP (ltP (ltP (ltP (ltP (ltP (ltP (by with_reducible assumption))))))) | exact ltP (ltP (ltP (ltP (ltP (ltP (ltP (ltP (by with_reducible assumption))))))))
  k_with "x k_hi" => first | with_reducible assumption | k_extra "x k_q1" | exact ltR (by with_reducible assumption) (by k_extra "x k_mm") | k_extra "x k_up" | (refine Nat.lt_trans ?_ (by with_reducible assumption); k_extra "x k_hi")
  k_with "x k_l1" => first | k_extra "x k_q1" | exact ltZ | k_extra "x k_hi" | (refine ltS ?_; k_extra "x k_l1")
  k_with "x k_l2" => first | k_extra "x k_l1" | (refine Nat.lt_trans (by with_reducible assumption) ?_; k_extra "x k_l2")
  k_with "x k_lo" => ((fail_if_success (with_reducible show @LT.lt Nat _ _ 79)); k_extra "x k_l2")
  k_with "x k_ne" =>
    refine neN ?_
    try dsimp only
    first
      | with_reducible assumption
      | exact Ne.symm (by with_reducible assumption)
      | exact ne_lt (ltA (by with_reducible assumption) (by k_extra "x k_mm"))
      | exact ne_gt (ltA (by with_reducible assumption) (by k_extra "x k_mm"))
      | ((repeat refine ne_s ?_); first | exact ne_z1 | exact ne_z2 | exact ne_z3 | exact ne_z4 | exact ne_z5 | exact ne_z6 | exact ne_z7 | exact ne_z8 | exact ne_z1.symm | exact ne_z2.symm | exact ne_z3.symm | exact ne_z4.symm | exact ne_z5.symm | exact ne_z6.symm | exact ne_z7.symm | exact ne_z8.symm)
      | (refine ne_lt ?_; k_extra "x k_lo")
      | (refine ne_gt ?_; k_extra "x k_lo")
      | (simp only [AllLt, and_true] at *; omega)
  k_with "x truthy ref" => refine wpAny_truthy_list (News.isList (by k_asm) (by k_mem)) (by decide) ?_
  k_with "x call builtin:iter" => (refine' call_iter2_N ?F ?N ?m ?_; (case F => k_asm); (case N => k_asm); (case m => k_mem); intro I h' F' N' l2; k_lt l2)
  k_with "x exec For Name Name cons nil" => (refine' wpAny_For ?_ ?hs; (case hs => (intro _; with_unfolding_all rfl)))
  k_with "x pyIter ref" => (refine' pyIter_ci_N ?N ?m ?_; (case N => k_asm); (case m => k_mem))
  k_with "x call ref" => ((with_reducible show wpAny _ _ (call (Value.ref 42) _) _ _ _); refine' Fn.use (c_readchar k ok l hR _ _ _ _ _) ?H ?F ?N ?S ?A ?_; (case H => k_extra "x fn_here"); (case F => k_asm); (case N => k_asm); (case S => k_extra "x fn_split"); (case A => k_extra "x fn_apart"); (rintro v P' h' tk' ⟨tv', tp', n', tl', rfl, rfl⟩ F' N_NOW ap'); (simp only [List.cons_append, List.nil_append] at N_NOW))
  k_with "x inplaceOp Add str str" => refine stop ?_
  trivial
theorem c_get_read (k : Lx) (ok : k.Ok) (l : List Nat) (hl : l.length ≤ 1000000) (hR : k.Reads w mean mg mb l) (p : Nat) (tp : Tok) (n : Nat) (tl : Tok) (nb : Nat) (tok r : List Nat) (hs : skip (l.drop p) = some (tok, r)) :
    FD 450 w mean mg mb 49 [.ref k.x] (k.At l p tp n tl ++ [(k.pb, listOf #[] nb)])
    (fun v P' => ∃ tv p' tp' n' tl', v = .str (txt tok) tv ∧ l.drop p' = r ∧ P' = k.At l p' tp' n' tl' ++ [(k.pb, listOf #[] nb)]) := by
  have ok' := ok
  obtain ⟨a1, a2, a3, a4, a5, a6, a7, a8, a9⟩ := ok'
  walk_at "fn_open"
  simp only [List.cons_append, List.nil_append] at N
  walk_at "steps"
  rename_i q _ l1 _ F0 N0
  refine for_led (σ := Nat × Tok × Nat × Tok) (fun c => k.At l c.1 c.2.1 c.2.2.1 c.2.2.2 ++ [(k.pb, listOf #[] nb), (I, ciObj (.ref q) (.str "" _) false), (q, methodObj (.ref 42) (.ref k.x))]) (fun _ => []) ["ch"] (fun n c => skip (l.drop c.1) = some (tok, r) ∧ n = l.length - c.1) (l.length - p) (p, tp, n, tl) F0 (News.sub N0 (by walk_at "fn_sub")) (fun _ h => nomatch h) ⟨hs, rfl⟩ ?_
  rintro n1 ⟨p1, tp1, m1, tl1⟩ u h1 tk1 ⟨hs1, hn1⟩ F1 N1
  dsimp only at hs1 hn1
  cases hdr : l.drop p1 with
  | nil => rw [hdr] at hs1; cases hs1
  | cons c rr =>
    rw [hdr] at hs1
    have hlt := lt_of_drop hdr
    have hdn := drop_next hdr
    refine next_ci k ok hR hdr (by walk_at "fn_here") F1 N1 (.tail _ (.head _)) (.tail _ (.tail _ (.head _))) (by walk_at "fn_apart") ?_
    intro h2 tk2 tv tp2 m2 tl2 F2 N2
    dsimp only [ForTurn]
    refine turn_gen fun QB hQB => ?_
    simp only [List.cons_append, List.nil_append] at N2
    walk_at "steps"
    · have hw : ws c = false := ws_no (by assumption)
      have hc : c = 34 := txt_eq1 (b := 34) (by assumption)
      have hq : quoted [] (l.drop (p1 + 1)) = some (tok, r) := by rw [hdn]; exact skip_quo hs1 hw hc
      refine' for_led (σ := Nat × Tok × Nat × Tok × List Nat × Tok) (fun c => k.At l c.1 c.2.1 c.2.2.1 c.2.2.2.1 ++ [(k.pb, listOf #[] nb), (I, ciObj (.ref q) (.str "" _) false), (q, methodObj (.ref 42) (.ref k.x))]) (fun c => [("token", .str (txt c.2.2.2.2.1) c.2.2.2.2.2)]) ["ch"] (fun n c => quoted c.2.2.2.2.1 (l.drop c.1) = some (tok, r) ∧ c.2.2.2.2.1.length ≤ c.1 ∧ n = l.length - c.1) (l.length - (p1 + 1)) ((p1 + 1), _, _, _, [], _) (by k_asm) (News.sub (by k_asm) ?sub4) ?hk4 ⟨hq, Nat.zero_le _, rfl⟩ ?turn4
      case sub4 => walk_at "fn_sub"
      case hk4 => refine all_cons ?_ (fun _ h => nomatch h); exact rfl
      case turn4 =>
        rintro n3 ⟨p3, tp3, m3, tl3, acc, tt3⟩ u3 h3 tk3 ⟨hb3, hl3, hn3⟩ F3 N3
        dsimp only at hb3 hl3 hn3
        cases hdr3 : l.drop p3 with
        | nil => rw [hdr3] at hb3; cases hb3
        | cons c3 r3 =>
          rw [hdr3] at hb3
          have hlt3 := lt_of_drop hdr3
          have hdn3 := drop_next hdr3
          refine next_ci k ok hR hdr3 (by walk_at "fn_here") F3 N3 (.tail _ (.head _)) (.tail _ (.tail _ (.head _))) (by walk_at "fn_apart") ?_
          intro h4 tk4 tv4 tp4 m4 tl4 F4 N4
          dsimp only [ForTurn]
          refine turn_gen fun QC hQC => ?_
          simp only [List.cons_append, List.nil_append] at N4
          walk_at "steps"
          · obtain ⟨e1, e2⟩ := quoted_end hb3 (txt_eq1 (b := 34) (by assumption))
            subst e1 e2
            subst hQC
            (try dsimp only [ForPost])
            subst hQB
            (try dsimp only [ForPost])
            first | refine Stop.mk ?_ | skip
            refine' Ends.sub (P' := k.At l (p3 + 1) _ _ _ ++ [(k.pb, listOf #[] nb)]) (by k_asm) (by k_asm) ?sub1 ⟨_, _, _, _, _, rfl, hdn3, rfl⟩
            case sub1 => walk_at "fn_sub"
          · have hc3 : c3 = 92 := txt_eq1 (b := 92) (by assumption)
            have hw3 : c3 ≠ 34 := txt_ne1 (b := 34) (by assumption)
            obtain ⟨d, r4, hr3, hb4⟩ := quoted_esc hb3 hw3 hc3
            rw [hr3] at hdn3
            have hs4 : sgn l (p3 + 1) = [d] := sgn_of hdn3
            have hlt4 := lt_of_drop hdn3
            have hln4 := lnAt_next hdn3
            (with_reducible rename News _ _ _ _ => NN)
            rw [← hln4] at NN
            refine Stop.mk ?_
            refine' iadd_str ?_ ?hsz2
            case hsz2 => rw [txt_len, txt_len, hs4, sizeLine_eq]; simp only [List.length_cons, List.length_nil]; omega
            intro t5 tk5
            rw [hs4, txt_app]
            walk_at "steps"
            subst hQC
            refine' LedEnd.intro (p3 + 1 + 1, _, _, _, acc ++ [d], _) (by k_asm) (by k_asm) ?sub2 ?hk2 ?hr2 ⟨_, ?lt2, by rw [drop_next hdn3]; exact hb4, by rw [List.length_append]; simp only [List.length_cons, List.length_nil]; omega, rfl⟩
            case sub2 => walk_at "fn_sub"
            case hk2 => refine all_cons ?_ (fun _ h => nomatch h); exact rfl
            case hr2 => (intro z h1 h2; have n1 := h1 _ (.head _); have n3 : z ≠ "ch" := (fun e => by subst e; exact absurd h2 (by decide)); dsimp only at n1 ⊢; simp only [if_neg n1, if_neg n3, kstB, h2, Bool.false_eq_true, if_false])
            case lt2 => dsimp only; omega
          · have hc3 : c3 ≠ 92 := txt_ne1 (b := 92) (by assumption)
            have hw3 : c3 ≠ 34 := txt_ne1 (b := 34) (by assumption)
            have hb4 := quoted_lit hb3 hw3 hc3
            refine Stop.mk ?_
            refine' iadd_str ?_ ?hsz3
            case hsz3 => rw [txt_len, txt_len, sizeLine_eq]; simp only [List.length_cons, List.length_nil]; omega
            intro t5 tk5
            rw [txt_app]
            walk_at "steps"
            subst hQC
            refine' LedEnd.intro (p3 + 1, _, _, _, acc ++ [c3], _) (by k_asm) (by k_asm) ?sub3 ?hk3 ?hr3 ⟨_, ?lt3, by rw [hdn3]; exact hb4, by rw [List.length_append]; simp only [List.length_cons, List.length_nil]; omega, rfl⟩
            case sub3 => walk_at "fn_sub"
            case hk3 => refine all_cons ?_ (fun _ h => nomatch h); exact rfl
            case hr3 => (intro z h1 h2; have n1 := h1 _ (.head _); have n3 : z ≠ "ch" := (fun e => by subst e; exact absurd h2 (by decide)); dsimp only at n1 ⊢; simp only [if_neg n1, if_neg n3, kstB, h2, Bool.false_eq_true, if_false])
            case lt3 => dsimp only; omega
    · have hw : ws c = false := ws_no (by assumption)
      have hc0 : c ≠ 34 := txt_ne1 (b := 34) (by assumption)
      have hc : c = 92 := txt_eq1 (b := 92) (by assumption)
      obtain ⟨d, r2, hr2, hq0⟩ := skip_esc hs1 hw hc0 hc
      rw [hr2] at hdn
      have hq : bare [d] (l.drop (p1 + 1 + 1)) = some (tok, r) := by rw [drop_next hdn]; exact hq0
      have hs2 : sgn l (p1 + 1) = [d] := sgn_of hdn
      have hlt2 := lt_of_drop hdn
      have hln2 := lnAt_next hdn
      (with_reducible rename News _ _ _ _ => NN)
      rw [← hln2] at NN
      refine Stop.mk ?_
      refine' iadd_str ?_ ?hszA
      case hszA => show 0 + (txt (sgn l (p1 + 1))).length ≤ sizeLine; rw [txt_len, hs2, sizeLine_eq]; simp only [List.length_cons, List.length_nil]; omega
      intro t2 tk2'
      rw [hs2, show Str.ofString "" ++ txt [d] = txt [d] from txt_app [] [d]]
      walk_at "steps"
      refine' for_led (σ := Nat × Tok × Nat × Tok × List Nat × Tok) (fun c => k.At l c.1 c.2.1 c.2.2.1 c.2.2.2.1 ++ [(k.pb, listOf #[] nb), (I, ciObj (.ref q) (.str "" _) false), (q, methodObj (.ref 42) (.ref k.x))]) (fun c => [("token", .str (txt c.2.2.2.2.1) c.2.2.2.2.2)]) ["ch"] (fun n c => bare c.2.2.2.2.1 (l.drop c.1) = some (tok, r) ∧ c.2.2.2.2.1.length ≤ c.1 ∧ n = l.length - c.1) (l.length - (p1 + 1 + 1)) ((p1 + 1 + 1), _, _, _, [d], _) (by k_asm) (News.sub (by k_asm) ?sub8) ?hk8 ⟨hq, by simp only [List.length_cons, List.length_nil]; omega, rfl⟩ ?turn8
      case sub8 => walk_at "fn_sub"
      case hk8 => refine all_cons ?_ (fun _ h => nomatch h); exact rfl
      case turn8 =>
        rintro n3 ⟨p3, tp3, m3, tl3, acc, tt3⟩ u3 h3 tk3 ⟨hb3, hl3, hn3⟩ F3 N3
        dsimp only at hb3 hl3 hn3
        cases hdr3 : l.drop p3 with
        | nil => rw [hdr3] at hb3; cases hb3
        | cons c3 r3 =>
          rw [hdr3] at hb3
          have hlt3 := lt_of_drop hdr3
          have hdn3 := drop_next hdr3
          refine next_ci k ok hR hdr3 (by walk_at "fn_here") F3 N3 (.tail _ (.head _)) (.tail _ (.tail _ (.head _))) (by walk_at "fn_apart") ?_
          intro h4 tk4 tv4 tp4 m4 tl4 F4 N4
          dsimp only [ForTurn]
          refine turn_gen fun QC hQC => ?_
          simp only [List.cons_append, List.nil_append] at N4
          walk_at "steps"
          · have hc3 : c3 = 92 := txt_eq1 (b := 92) (by assumption)
            have hw3 : ws c3 = false := ws_no (by assumption)
            obtain ⟨d, r4, hr3, hb4⟩ := bare_esc hb3 hw3 hc3
            rw [hr3] at hdn3
            have hs4 : sgn l (p3 + 1) = [d] := sgn_of hdn3
            have hlt4 := lt_of_drop hdn3
            have hln4 := lnAt_next hdn3
            (with_reducible rename News _ _ _ _ => NN)
            rw [← hln4] at NN
            refine Stop.mk ?_
            refine' iadd_str ?_ ?hsz5
            case hsz5 => rw [txt_len, txt_len, hs4, sizeLine_eq]; simp only [List.length_cons, List.length_nil]; omega
            intro t5 tk5
            rw [hs4, txt_app]
            walk_at "steps"
            subst hQC
            refine' LedEnd.intro (p3 + 1 + 1, _, _, _, acc ++ [d], _) (by k_asm) (by k_asm) ?sub5 ?hk5 ?hr5 ⟨_, ?lt5, by rw [drop_next hdn3]; exact hb4, by rw [List.length_append]; simp only [List.length_cons, List.length_nil]; omega, rfl⟩
            case sub5 => walk_at "fn_sub"
            case hk5 => refine all_cons ?_ (fun _ h => nomatch h); exact rfl
            case hr5 => (intro z h1 h2; have n1 := h1 _ (.head _); have n3 : z ≠ "ch" := (fun e => by subst e; exact absurd h2 (by decide)); dsimp only at n1 ⊢; simp only [if_neg n1, if_neg n3, kstB, h2, Bool.false_eq_true, if_false])
            case lt5 => dsimp only; omega
          · have hc3 : c3 ≠ 92 := txt_ne1 (b := 92) (by assumption)
            have hw3 : ws c3 = false := ws_no (by assumption)
            have hb4 := bare_lit hb3 hw3 hc3
            refine Stop.mk ?_
            refine' iadd_str ?_ ?hsz6
            case hsz6 => rw [txt_len, txt_len, sizeLine_eq]; simp only [List.length_cons, List.length_nil]; omega
            intro t5 tk5
            rw [txt_app]
            walk_at "steps"
            subst hQC
            refine' LedEnd.intro (p3 + 1, _, _, _, acc ++ [c3], _) (by k_asm) (by k_asm) ?sub6 ?hk6 ?hr6 ⟨_, ?lt6, by rw [hdn3]; exact hb4, by rw [List.length_append]; simp only [List.length_cons, List.length_nil]; omega, rfl⟩
            case sub6 => walk_at "fn_sub"
            case hk6 => refine all_cons ?_ (fun _ h => nomatch h); exact rfl
            case hr6 => (intro z h1 h2; have n1 := h1 _ (.head _); have n3 : z ≠ "ch" := (fun e => by subst e; exact absurd h2 (by decide)); dsimp only at n1 ⊢; simp only [if_neg n1, if_neg n3, kstB, h2, Bool.false_eq_true, if_false])
            case lt6 => dsimp only; omega
          · obtain ⟨e1, e2⟩ := bare_end hb3 (ws_yes (by assumption))
            subst e1 e2
            subst hQC
            (try dsimp only [ForPost])
            subst hQB
            (try dsimp only [ForPost])
            first | refine Stop.mk ?_ | skip
            refine' Ends.sub (P' := k.At l (p3 + 1) _ _ _ ++ [(k.pb, listOf #[] nb)]) (by k_asm) (by k_asm) ?sub7 ⟨_, _, _, _, _, rfl, hdn3, rfl⟩
            case sub7 => walk_at "fn_sub"
    · have hw : ws c = false := ws_no (by assumption)
      have hc0 : c ≠ 34 := txt_ne1 (b := 34) (by assumption)
      have hc : c ≠ 92 := txt_ne1 (b := 92) (by assumption)
      have hq : bare [c] (l.drop (p1 + 1)) = some (tok, r) := by rw [hdn]; exact skip_lit hs1 hw hc0 hc
      refine Stop.mk ?_
      refine' iadd_str ?_ ?hszB
      case hszB => show 0 + (txt [c]).length ≤ sizeLine; rw [txt_len, sizeLine_eq]; simp only [List.length_cons, List.length_nil]; omega
      intro t2 tk2'
      rw [show Str.ofString "" ++ txt [c] = txt [c] from txt_app [] [c]]
      walk_at "steps"
      refine' for_led (σ := Nat × Tok × Nat × Tok × List Nat × Tok) (fun c => k.At l c.1 c.2.1 c.2.2.1 c.2.2.2.1 ++ [(k.pb, listOf #[] nb), (I, ciObj (.ref q) (.str "" _) false), (q, methodObj (.ref 42) (.ref k.x))]) (fun c => [("token", .str (txt c.2.2.2.2.1) c.2.2.2.2.2)]) ["ch"] (fun n c => bare c.2.2.2.2.1 (l.drop c.1) = some (tok, r) ∧ c.2.2.2.2.1.length ≤ c.1 ∧ n = l.length - c.1) (l.length - (p1 + 1)) ((p1 + 1), _, _, _, [c], _) (by k_asm) (News.sub (by k_asm) ?sub12) ?hk12 ⟨hq, by simp only [List.length_cons, List.length_nil]; omega, rfl⟩ ?turn12
      case sub12 => walk_at "fn_sub"
      case hk12 => refine all_cons ?_ (fun _ h => nomatch h); exact rfl
      case turn12 =>
        rintro n3 ⟨p3, tp3, m3, tl3, acc, tt3⟩ u3 h3 tk3 ⟨hb3, hl3, hn3⟩ F3 N3
        dsimp only at hb3 hl3 hn3
        cases hdr3 : l.drop p3 with
        | nil => rw [hdr3] at hb3; cases hb3
        | cons c3 r3 =>
          rw [hdr3] at hb3
          have hlt3 := lt_of_drop hdr3
          have hdn3 := drop_next hdr3
          refine next_ci k ok hR hdr3 (by walk_at "fn_here") F3 N3 (.tail _ (.head _)) (.tail _ (.tail _ (.head _))) (by walk_at "fn_apart") ?_
          intro h4 tk4 tv4 tp4 m4 tl4 F4 N4
          dsimp only [ForTurn]
          refine turn_gen fun QC hQC => ?_
          simp only [List.cons_append, List.nil_append] at N4
          walk_at "steps"
          · have hc3 : c3 = 92 := txt_eq1 (b := 92) (by assumption)
            have hw3 : ws c3 = false := ws_no (by assumption)
            obtain ⟨d, r4, hr3, hb4⟩ := bare_esc hb3 hw3 hc3
            rw [hr3] at hdn3
            have hs4 : sgn l (p3 + 1) = [d] := sgn_of hdn3
            have hlt4 := lt_of_drop hdn3
            have hln4 := lnAt_next hdn3
            (with_reducible rename News _ _ _ _ => NN)
            rw [← hln4] at NN
            refine Stop.mk ?_
            refine' iadd_str ?_ ?hsz9
            case hsz9 => rw [txt_len, txt_len, hs4, sizeLine_eq]; simp only [List.length_cons, List.length_nil]; omega
            intro t5 tk5
            rw [hs4, txt_app]
            walk_at "steps"
            subst hQC
            refine' LedEnd.intro (p3 + 1 + 1, _, _, _, acc ++ [d], _) (by k_asm) (by k_asm) ?sub9 ?hk9 ?hr9 ⟨_, ?lt9, by rw [drop_next hdn3]; exact hb4, by rw [List.length_append]; simp only [List.length_cons, List.length_nil]; omega, rfl⟩
            case sub9 => walk_at "fn_sub"
            case hk9 => refine all_cons ?_ (fun _ h => nomatch h); exact rfl
            case hr9 => (intro z h1 h2; have n1 := h1 _ (.head _); have n3 : z ≠ "ch" := (fun e => by subst e; exact absurd h2 (by decide)); dsimp only at n1 ⊢; simp only [if_neg n1, if_neg n3, kstB, h2, Bool.false_eq_true, if_false])
            case lt9 => dsimp only; omega
          · have hc3 : c3 ≠ 92 := txt_ne1 (b := 92) (by assumption)
            have hw3 : ws c3 = false := ws_no (by assumption)
            have hb4 := bare_lit hb3 hw3 hc3
            refine Stop.mk ?_
            refine' iadd_str ?_ ?hsz10
            case hsz10 => rw [txt_len, txt_len, sizeLine_eq]; simp only [List.length_cons, List.length_nil]; omega
            intro t5 tk5
            rw [txt_app]
            walk_at "steps"
            subst hQC
            refine' LedEnd.intro (p3 + 1, _, _, _, acc ++ [c3], _) (by k_asm) (by k_asm) ?sub10 ?hk10 ?hr10 ⟨_, ?lt10, by rw [hdn3]; exact hb4, by rw [List.length_append]; simp only [List.length_cons, List.length_nil]; omega, rfl⟩
            case sub10 => walk_at "fn_sub"
            case hk10 => refine all_cons ?_ (fun _ h => nomatch h); exact rfl
            case hr10 => (intro z h1 h2; have n1 := h1 _ (.head _); have n3 : z ≠ "ch" := (fun e => by subst e; exact absurd h2 (by decide)); dsimp only at n1 ⊢; simp only [if_neg n1, if_neg n3, kstB, h2, Bool.false_eq_true, if_false])
            case lt10 => dsimp only; omega
          · obtain ⟨e1, e2⟩ := bare_end hb3 (ws_yes (by assumption))
            subst e1 e2
            subst hQC
            (try dsimp only [ForPost])
            subst hQB
            (try dsimp only [ForPost])
            first | refine Stop.mk ?_ | skip
            refine' Ends.sub (P' := k.At l (p3 + 1) _ _ _ ++ [(k.pb, listOf #[] nb)]) (by k_asm) (by k_asm) ?sub11 ⟨_, _, _, _, _, rfl, hdn3, rfl⟩
            case sub11 => walk_at "fn_sub"
    · have hw : ws c = true := ws_yes (by assumption)
      subst hQB
      dsimp only [ForPost]
      refine' LedEnd.intro (p1 + 1, _, _, _) (by k_asm) (by k_asm) ?subZ (fun _ h => nomatch h) ?hrZ ⟨_, ?ltZ, by rw [hdn]; exact skip_ws hs1 hw, rfl⟩
      case subZ => walk_at "fn_sub"
      case hrZ =>
        intro z h1 h2
        have n3 : z ≠ "ch" := fun e => by subst e; exact absurd h2 (by decide)
        dsimp only
        simp only [if_neg n3, kstB, h2, Bool.false_eq_true, if_false]
      case ltZ => dsimp only; omega
end
section
example : True := by
  k_with_none
  k_with "x fn_open" =>
    with_unfolding_all refine' Fn.plain ?ho ?hcd ?hbind ?hloc ?_ ?hD ?hco ?hgen ?hk ?hcell
    case ho => k_is
    case hcd => k_is
    case hbind => exact fun s => BindsTo.of_eq rfl
    case hloc => exact locs rfl
    case hD => decide
    case hco => exact rfl
    case hgen => exact rfl
    case hk => exact rfl
    case hcell => decide
    intro gd outer A₀ base g L s B X T F N lt
  k_with "x fn_cells" =>
    with_unfolding_all refine' Fn.cells ?ho ?hcd ?hbind ?hkind ?hnd ?_ ?hD ?hco ?hgen ?hk
    case ho => k_is
    case hcd => k_is
    case hbind => exact fun s => BindsTo.of_eq rfl
    case hkind => exact rfl
    case hnd => decide +kernel
    case hD => decide
    case hco => exact rfl
    case hgen => exact rfl
    case hk => exact rfl
    intro gd outer A₀ base g L s cells B X T F N Y lt
  k_with "x fn_made" =>
    with_unfolding_all refine' Fn.made ?ho ?hc ?hcd ?hcv ?hbind ?hloc ?_ ?hD ?hco ?hgen ?hk ?hcell
    case ho => k_mem
    case hc => k_mem
    case hcd => assumption
    case hcv => assumption
    case hbind => exact fun s => BindsTo.of_eq rfl
    case hloc => exact locs rfl
    case hD => decide
    case hco => exact rfl
    case hgen => exact rfl
    case hk => exact rfl
    case hcell => decide
    intro gd outer A₀ base g L s B X T F N lt
  k_with "x Ends" => refine stop ?_
  k_with "x steps" => repeat' (first | (k_unfold; (try dsimp only)) | walk1 | (dsimp only; walk1))
  k_with "x fn_pick" => first | exact Pick.here | (refine' Pick.there ?p1; (case p1 => k_extra "x fn_pick"))
  k_with "x fn_split" => first | exact Split.nil | (refine' Split.cons ?a1 ?b1; (case a1 => k_extra "x fn_pick"); (case b1 => k_extra "x fn_split"))
  k_with "x fn_nes" => first | exact all_nil | (refine' all_cons ?a2 ?b2; (case a2 => k_ne); (case b2 => k_extra "x fn_nes"))
  k_with "x fn_apart" => first | exact apart_nil | (refine' apart_cons ?a3 ?b3; (case a3 => k_extra "x fn_nes"); (case b3 => k_extra "x fn_apart"))
  k_with "x fn_here" => exact ⟨by k_asm, by k_asm, by k_asm, rfl, rfl, rfl, rfl, Nat.le_of_ble_eq_true rfl, Nat.le_of_ble_eq_true rfl⟩
  k_with "x fn_sub" => first | exact all_nil | (refine' all_cons ?a4 ?b4; (case a4 => k_mem); (case b4 => k_extra "x fn_sub"))
  k_with "x k_all" => first | exact all_nil | (refine' all_cons ?a5 ?b5; (case a5 => k_ne); (case b5 => k_all))
  k_with "x fn_ords" => first | exact all_nil | (refine' all_cons ?a6 ?b6; (case a6 => ((try dsimp only); first | k_extra "x k_lo" | exact Nat.le_refl _ | (refine Nat.le_of_lt ?_; k_extra "x k_lo") | (simp only [AllLt, and_true] at *; omega))); (case b6 => k_extra "x fn_ords"))
  k_with "x k_mm" => first | exact mem_h | exact mem_t (mem_h) | exact mem_t (mem_t (mem_h)) | exact mem_t (mem_t (mem_t (mem_h))) | exact mem_t (mem_t (mem_t (mem_t (mem_h)))) | exact mem_t (mem_t (mem_t (mem_t (mem_t (mem_h))))) | exact mem_t (mem_t (mem_t (mem_t (mem_t (mem_t (mem_h)))))) | exact mem_t (mem_t (mem_t (mem_t (mem_t (mem_t (mem_t (mem_h))))))) | exact mem_t (mem_t (mem_t (mem_t (mem_t (mem_t (mem_t (mem_t (mem_h)))))))) | exact mem_t (mem_t (mem_t (mem_t (mem_t (mem_t (mem_t (mem_t (mem_t (mem_h))))))))) | exact mem_t (mem_t (mem_t (mem_t (mem_t (mem_t (mem_t (mem_t (mem_t (mem_t (mem_h)))))))))) | exact mem_t (mem_t (mem_t (mem_t (mem_t (mem_t (mem_t (mem_t (mem_t (mem_t (mem_t (mem_h))))))))))) | exact mem_t (mem_t (mem_t (mem_t (mem_t (mem_t (mem_t (mem_t (mem_t (mem_t (mem_t (mem_t (mem_h)))))))))))) | exact mem_t (mem_t (mem_t (mem_t (mem_t (mem_t (mem_t (mem_t (mem_t (mem_t (mem_t (mem_t (mem_t (mem_h))))))))))))) | exact mem_t (mem_t (mem_t (mem_t (mem_t (mem_t (mem_t (mem_t (mem_t (mem_t (mem_t (mem_t (mem_t (mem_t (mem_h)))))))))))))) | exact mem_t (mem_t (mem_t (mem_t (mem_t (mem_t (mem_t (mem_t (mem_t (mem_t (mem_t (mem_t (mem_t (mem_t (mem_t (mem_h))))))))))))))) | exact mem_t (mem_t (mem_t (mem_t (mem_t (mem_t (mem_t (mem_t (mem_t (mem_t (mem_t (mem_t (mem_t (mem_t (mem_t (mem_t (mem_h)))))))))))))))) | exact mem_t (mem_t (mem_t (mem_t (mem_t (mem_t (mem_t (mem_t (mem_t (mem_t (mem_t (mem_t (mem_t (mem_t (mem_t (mem_t (mem_t (mem_h))))))))))))))))) | exact mem_t (mem_t (mem_t (mem_t (mem_t (mem_t (mem_t (mem_t (mem_t (mem_t (mem_t (mem_t (mem_t (mem_t (mem_t (mem_t (mem_t (mem_t (mem_h)))))))))))))))))) | exact mem_t (mem_t (mem_t (mem_t (mem_t (mem_t (mem_t (mem_t (mem_t (mem_t (mem_t (mem_t (mem_t (mem_t (mem_t (mem_t (mem_t (mem_t (mem_t (mem_h))))))))))))))))))) | exact mem_t (mem_t (mem_t (mem_t (mem_t (mem_t (mem_t (mem_t (mem_t (mem_t (mem_t (mem_t (mem_t (mem_t (mem_t (mem_t (mem_t (mem_t (mem_t (mem_t (mem_h)))))))))))))))))))) | exact mem_t (mem_t (mem_t (mem_t (mem_t (mem_t (mem_t (mem_t (mem_t (mem_t (mem_t (mem_t (mem_t (mem_t (mem_t (mem_t (mem_t (mem_t (mem_t (mem_t (mem_t (mem_h))))))))))))))))))))) | exact mem_t (mem_t (mem_t (mem_t (mem_t (mem_t (mem_t (mem_t (mem_t (mem_t (mem_t (mem_t (mem_t (mem_t (mem_t (mem_t (mem_t (mem_t (mem_t (mem_t (mem_t (mem_t (mem_h)))))))))))))))))))))) | exact mem_t (mem_t (mem_t (mem_t (mem_t (mem_t (mem_t (mem_t (mem_t (mem_t (mem_t (mem_t (mem_t (mem_t (mem_t (mem_t (mem_t (mem_t (mem_t (mem_t (mem_t (mem_t (mem_t (mem_h))))))))))))))))))))))) | exact mem_t (mem_t (mem_t (mem_t (mem_t (mem_t (mem_t (mem_t (mem_t (mem_t (mem_t (mem_t (mem_t (mem_t (mem_t (mem_t (mem_t (mem_t (mem_t (mem_t (mem_t (mem_t (mem_t (mem_t (mem_h)))))))))))))))))))))))) | exact mem_t (mem_t (mem_t (mem_t (mem_t (mem_t (mem_t (mem_t (mem_t (mem_t (mem_t (mem_t (mem_t (mem_t (mem_t (mem_t (mem_t (mem_t (mem_t (mem_t (mem_t (mem_t (mem_t (mem_t (mem_t (mem_h)))))))))))))))))))))))))
  k_with "x k_q1" => exact ltA (by with_reducible assumption) (by k_extra "x k_mm")
  k_with "x k_up" => first | exact ltP (by with_reducible assumption) | exact ltP (ltP (by with_reducible assumption)) | exact ltP (ltP (ltP (by with_reducible assumption))) | exact ltP (ltP (ltP (ltP (by with_reducible assumption)))) | exact ltP (ltP (ltP (ltP (ltP (by with_reducible assumption))))) | exact ltP (ltP (ltP (ltP (ltP (ltP (by with_reducible assumption)))))) | exact ltP (ltP (ltP (ltP (ltP (ltP (ltP (by with_reducible assumption))))))) | exact ltP (ltP (ltP (ltP (ltP (ltP (ltP (ltP (by with_reducible assumption))))))))
  k_with "x k_hi" => first | with_reducible assumption | k_extra "x k_q1" | exact ltR (by with_reducible assumption) (by k_extra "x k_mm") | k_extra "x k_up" | (refine Nat.lt_trans ?_ (by with_reducible assumption); k_extra "x k_hi")
  k_with "x k_l1" => first | k_extra "x k_q1" | exact ltZ | k_extra "x k_hi" | (refine ltS ?_; k_extra "x k_l1")
  k_with "x k_l2" => first | k_extra "x k_l1" | (refine Nat.lt_trans (by with_reducible assumption) ?_; k_extra "x k_l2")
  k_with "x k_lo" => ((fail_if_success (with_reducible show @LT.lt Nat _ _ 79)); k_extra "x k_l2")
  k_with "x k_ne" =>
    refine neN ?_
    try dsimp only
    first
      | with_reducible assumption
      | exact Ne.symm (by with_reducible assumption)
      | exact ne_lt (ltA (by with_reducible assumption) (by k_extra "x k_mm"))
      | exact ne_gt (ltA (by with_reducible assumption) (by k_extra "x k_mm"))
      | ((repeat refine ne_s ?_); first | exact ne_z1 | exact ne_z2 | exact ne_z3 | exact ne_z4 | exact ne_z5 | exact ne_z6 | exact ne_z7 | exact ne_z8 | exact ne_z1.symm | exact ne_z2.symm | exact ne_z3.symm | exact ne_z4.symm | exact ne_z5.symm | exact ne_z6.symm | exact ne_z7.symm | exact ne_z8.symm)
      | (refine ne_lt ?_; k_extra "x k_lo")
      | (refine ne_gt ?_; k_extra "x k_lo")
      | (simp only [AllLt, and_true] at *; omega)
  k_with "x eval ListComp" => refine stop ?_
  k_with "x call ref" => refine stop ?_
  k_with "x pyIter" => refine stop ?_
  k_with "x fn_comp" => (refine ⟨?_⟩; (with_unfolding_all refine comp_open (by with_unfolding_all rfl) (by rfl) (by decide) ?_ (fun _ => rfl)))
  trivial
theorem c_word (x : Int) (t : Tok) (hx : x.natAbs < 16 ^ 20) : FD 490 w mean mg mb 89 [.int x t] [] (fun v P' => ∃ tk, v = .str (txt ((apL x.natAbs).map (·.toNat))) tk ∧ P' = []) := by
  walk_at "fn_open"
  walk_at "steps"
  walk_at "fn_comp"
  walk_at "steps"
  refine ⟨?_⟩
  refine Fn.use (c_int2ap x t hx) (by walk_at "fn_here") (by k_asm) (by k_asm) (by walk_at "fn_split") (by walk_at "fn_apart") ?_
  rintro v P' h1 tk1 ⟨tk, rfl, rfl⟩ F1 N1 -
  dsimp only [List.nil_append] at N1
  walk_at "steps"
  refine ⟨iter_bytes_N F1 N1 ?_⟩
  intro I oI St h2 S F2 N2 lt2
  have hlen := apL_len 20 _ hx
  refine' comp_pure S rfl (fun i ys => StrsAre ys (((apL x.natAbs).take i).map fun c => txt [c.toNat]) ∧ i ≤ 20) F2 N2 lt2 (fun _ h => nomatch h) ⟨.nil, by decide⟩ ?turn ?hsz ?done ?b1 ?b2 ?b3
  case b1 => decide
  case b2 => rfl
  case b3 => rfl
  case hsz => 
    rintro i ys ⟨hs, hi⟩
    rw [hs.len_eq, List.length_map, List.length_take, sizeLine_eq]; omega
  case turn =>
    rintro i ys v C D oI' oC mC kD h tk3 hi ⟨c, u, hc, rfl⟩ ⟨hs, -⟩ F3 N3 hns hxv
    refine comp_gen fun PY PN hPY hPN => ?_
    walk_at "steps"
    have hc' := c.toNat_lt
    have hi' : i < (apL x.natAbs).length := hi
    refine chr_of_range (by omega) (by omega) ?_
    subst hPY
    refine PureEnd.intro F3 N3 ⟨?_, (by omega)⟩
    have hc2 : (apL x.natAbs)[i]? = some c := by simpa using hc
    rw [take_snoc hc2, List.map_append]
    exact StrsAre.snoc hs _ _
  case done =>
    rintro ys D kD h tk3 ⟨hs, -⟩ F3 N3 hD
    walk_at "steps"
    have e : ((apL x.natAbs).take (apL x.natAbs).toArray.size) = apL x.natAbs := by rw [List.size_toArray, List.take_length]
    rw [e] at hs
    refine join_listW (News.isList N3 (.head _)) hs (by decide) ?_ ?_
    · rw [List.map_map, List.length_map]
      have e2 : ((apL x.natAbs).map ((fun s : Str => s.length) ∘ fun c : UInt8 => txt [c.toNat])) = (apL x.natAbs).map fun _ => 1 := List.map_congr_left fun _ _ => txt_len _
      rw [e2, List.map_const', List.sum_replicate_nat]
      omega
    · intro t' k'
      walk_at "steps"
      refine ⟨Ends.sub (P' := []) (by k_asm) (by k_asm) (fun _ h => (nomatch h)) ⟨t', ?_, rfl⟩⟩
      have e3 : ((apL x.natAbs).map fun c => txt [c.toNat]) = (((apL x.natAbs).map fun c => [c.toNat]).map fun l => txt l) := by rw [List.map_map]; rfl
      rw [e3, join_txts]
      rw [flatten_ones]
      rfl
end
section
example : True := by
  k_with_none
  k_with "x fn_open" =>
    with_unfolding_all refine' Fn.plain ?ho ?hcd ?hbind ?hloc ?_ ?hD ?hco ?hgen ?hk ?hcell
    case ho => k_is
    case hcd => k_is
    case hbind => exact fun s => BindsTo.of_eq rfl
    case hloc => exact locs rfl
    case hD => decide
    case hco => exact rfl
    case hgen => exact rfl
    case hk => exact rfl
    case hcell => decide
    intro gd outer A₀ base g L s B X T F N lt
  k_with "x fn_cells" =>
    with_unfolding_all refine' Fn.cells ?ho ?hcd ?hbind ?hkind ?hnd ?_ ?hD ?hco ?hgen ?hk
    case ho => k_is
    case hcd => k_is
    case hbind => exact fun s => BindsTo.of_eq rfl
    case hkind => exact rfl
    case hnd => decide +kernel
    case hD => decide
    case hco => exact rfl
    case hgen => exact rfl
    case hk => exact rfl
    intro gd outer A₀ base g L s cells B X T F N Y lt
  k_with "x fn_made" =>
    with_unfolding_all refine' Fn.made ?ho ?hc ?hcd ?hcv ?hbind ?hloc ?_ ?hD ?hco ?hgen ?hk ?hcell
    case ho => k_mem
    case hc => k_mem
    case hcd => assumption
    case hcv => assumption
    case hbind => exact fun s => BindsTo.of_eq rfl
    case hloc => exact locs rfl
    case hD => decide
    case hco => exact rfl
    case hgen => exact rfl
    case hk => exact rfl
    case hcell => decide
    intro gd outer A₀ base g L s B X T F N lt
  k_with "x Ends" => refine stop ?_
  k_with "x steps" => repeat' (first | (k_unfold; (try dsimp only)) | walk1 | (dsimp only; walk1))
  k_with "x fn_pick" => first | exact Pick.here | (refine' Pick.there ?p1; (case p1 => k_extra "x fn_pick"))
  k_with "x fn_split" => first | exact Split.nil | (refine' Split.cons ?a1 ?b1; (case a1 => k_extra "x fn_pick"); (case b1 => k_extra "x fn_split"))
  k_with "x fn_nes" => first | exact all_nil | (refine' all_cons ?a2 ?b2; (case a2 => k_ne); (case b2 => k_extra "x fn_nes"))
  k_with "x fn_apart" => first | exact apart_nil | (refine' apart_cons ?a3 ?b3; (case a3 => k_extra "x fn_nes"); (case b3 => k_extra "x fn_apart"))
  k_with "x fn_here" => exact ⟨by k_asm, by k_asm, by k_asm, rfl, rfl, rfl, rfl, Nat.le_of_ble_eq_true rfl, Nat.le_of_ble_eq_true rfl⟩
  k_with "x fn_sub" => first | exact all_nil | (refine' all_cons ?a4 ?b4; (case a4 => k_mem); (case b4 => k_extra "x fn_sub"))
  k_with "x k_all" => first | exact all_nil | (refine' all_cons ?a5 ?b5; (case a5 => k_ne); (case b5 => k_all))
  k_with "x fn_ords" => first | exact all_nil | (refine' all_cons ?a6 ?b6; (case a6 => ((try dsimp only); first | k_extra "x k_lo" | exact Nat.le_refl _ | (refine Nat.le_of_lt ?_; k_extra "x k_lo") | (simp only [AllLt, and_true] at *; omega))); (case b6 => k_extra "x fn_ords"))
  k_with "x k_mm" => first | exact mem_h | exact mem_t (mem_h) | exact mem_t (mem_t (mem_h)) | exact mem_t (mem_t (mem_t (mem_h))) | exact mem_t (mem_t (mem_t (mem_t (mem_h)))) | exact mem_t (mem_t (mem_t (mem_t (mem_t (mem_h))))) | exact mem_t (mem_t (mem_t (mem_t (mem_t (mem_t (mem_h)))))) | exact mem_t (mem_t (mem_t (mem_t (mem_t (mem_t (mem_t (mem_h))))))) | exact mem_t (mem_t (mem_t (mem_t (mem_t (mem_t (mem_t (mem_t (mem_h)))))))) | exact mem_t (mem_t (mem_t (mem_t (mem_t (mem_t (mem_t (mem_t (mem_t (mem_h))))))))) | exact mem_t (mem_t (mem_t (mem_t (mem_t (mem_t (mem_t (mem_t (mem_t (mem_t (mem_h)))))))))) | exact mem_t (mem_t (mem_t (mem_t (mem_t (mem_t (mem_t (mem_t (mem_t (mem_t (mem_t (mem_h))))))))))) | exact mem_t (mem_t (mem_t (mem_t (mem_t (mem_t (mem_t (mem_t (mem_t (mem_t (mem_t (mem_t (mem_h)))))))))))) | exact mem_t (mem_t (mem_t (mem_t (mem_t (mem_t (mem_t (mem_t (mem_t (mem_t (mem_t (mem_t (mem_t (mem_h))))))))))))) | exact mem_t (mem_t (mem_t (mem_t (mem_t (mem_t (mem_t (mem_t (mem_t (mem_t (mem_t (mem_t (mem_t (mem_t (mem_h)))))))))))))) | exact mem_t (mem_t (mem_t (mem_t (mem_t (mem_t (mem_t (mem_t (mem_t (mem_t (mem_t (mem_t (mem_t (mem_t (mem_t (mem_h))))))))))))))) | exact mem_t (mem_t (mem_t (mem_t (mem_t (mem_t (mem_t (mem_t (mem_t (mem_t (mem_t (mem_t (mem_t (mem_t (mem_t (mem_t (mem_h)))))))))))))))) | exact mem_t (mem_t (mem_t (mem_t (mem_t (mem_t (mem_t (mem_t (mem_t (mem_t (mem_t (mem_t (mem_t (mem_t (mem_t (mem_t (mem_t (mem_h))))))))))))))))) | exact mem_t (mem_t (mem_t (mem_t (mem_t (mem_t (mem_t (mem_t (mem_t (mem_t (mem_t (mem_t (mem_t (mem_t (mem_t (mem_t (mem_t (mem_t (mem_h)))))))))))))))))) | exact mem_t (mem_t (mem_t (mem_t (mem_t (mem_t (mem_t (mem_t (mem_t (mem_t (mem_t (mem_t (mem_t (mem_t (mem_t (mem_t (mem_t (mem_t (mem_t (mem_h))))))))))))))))))) | exact mem_t (mem_t (mem_t (mem_t (mem_t (mem_t (mem_t (mem_t (mem_t (mem_t (mem_t (mem_t (mem_t (mem_t (mem_t (mem_t (mem_t (mem_t (mem_t (mem_t (mem_h)))))))))))))))))))) | exact mem_t (mem_t (mem_t (mem_t (mem_t (mem_t (mem_t (mem_t (mem_t (mem_t (mem_t (mem_t (mem_t (mem_t (mem_t (mem_t (mem_t (mem_t (mem_t (mem_t (mem_t (mem_h))))))))))))))))))))) | exact mem_t (mem_t (mem_t (mem_t (mem_t (mem_t (mem_t (mem_t (mem_t (mem_t (mem_t (mem_t (mem_t (mem_t (mem_t (mem_t (mem_t (mem_t (mem_t (mem_t (mem_t (mem_t (mem_h)))))))))))))))))))))) | exact mem_t (mem_t (mem_t (mem_t (mem_t (mem_t (mem_t (mem_t (mem_t (mem_t (mem_t (mem_t (mem_t (mem_t (mem_t (mem_t (mem_t (mem_t (mem_t (mem_t (mem_t (mem_t (mem_t (mem_h))))))))))))))))))))))) | exact mem_t (mem_t (mem_t (mem_t (mem_t (mem_t (mem_t (mem_t (mem_t (mem_t (mem_t (mem_t (mem_t (mem_t (mem_t (mem_t (mem_t (mem_t (mem_t (mem_t (mem_t (mem_t (mem_t (mem_t (mem_h)))))))))))))))))))))))) | exact mem_t (mem_t (mem_t (mem_t (mem_t (mem_t (mem_t (mem_t (mem_t (mem_t (mem_t (mem_t (mem_t (mem_t (mem_t (mem_t (mem_t (mem_t (mem_t (mem_t (mem_t (mem_t (mem_t (mem_t (mem_t (mem_h)))))))))))))))))))))))))
  k_with "x k_q1" => exact ltA (by with_reducible assumption) (by k_extra "x k_mm")
  k_with "x k_up" => first | exact ltP (by with_reducible assumption) | exact ltP (ltP (by with_reducible assumption)) | exact ltP (ltP (ltP (by with_reducible assumption))) | exact ltP (ltP (ltP (ltP (by with_reducible assumption)))) | exact ltP (ltP (ltP (ltP (ltP (by with_reducible assumption))))) | exact ltP (ltP (ltP (ltP (ltP (ltP (by with_reducible assumption)))))) | exact ltP (ltP (ltP (ltP (ltP (ltP (ltP (by with_reducible assumption))))))) | exact ltP (ltP (ltP (ltP (ltP (ltP (ltP (ltP (by with_reducible assumption))))))))
  k_with "x k_hi" => first | with_reducible assumption | k_extra "x k_q1" | exact ltR (by with_reducible assumption) (by k_extra "x k_mm") | k_extra "x k_up" | (refine Nat.lt_trans ?_ (by with_reducible assumption); k_extra "x k_hi")
  k_with "x k_l1" => first | k_extra "x k_q1" | exact ltZ | k_extra "x k_hi" | (refine ltS ?_; k_extra "x k_l1")
  k_with "x k_l2" => first | k_extra "x k_l1" | (refine Nat.lt_trans (by with_reducible assumption) ?_; k_extra "x k_l2")
  k_with "x k_lo" => ((fail_if_success (with_reducible show @LT.lt Nat _ _ 79)); k_extra "x k_l2")
  k_with "x k_ne" =>
    refine neN ?_
    try dsimp only
    first
      | with_reducible assumption
      | exact Ne.symm (by with_reducible assumption)
      | exact ne_lt (ltA (by with_reducible assumption) (by k_extra "x k_mm"))
      | exact ne_gt (ltA (by with_reducible assumption) (by k_extra "x k_mm"))
      | ((repeat refine ne_s ?_); first | exact ne_z1 | exact ne_z2 | exact ne_z3 | exact ne_z4 | exact ne_z5 | exact ne_z6 | exact ne_z7 | exact ne_z8 | exact ne_z1.symm | exact ne_z2.symm | exact ne_z3.symm | exact ne_z4.symm | exact ne_z5.symm | exact ne_z6.symm | exact ne_z7.symm | exact ne_z8.symm)
      | (refine ne_lt ?_; k_extra "x k_lo")
      | (refine ne_gt ?_; k_extra "x k_lo")
      | (simp only [AllLt, and_true] at *; omega)
  k_with "x eval ListComp" => refine stop ?_
  k_with "x call ref" => refine stop ?_
  k_with "x pyIter" => refine stop ?_
  k_with "x fn_comp" => (refine ⟨?_⟩; (with_unfolding_all refine comp_open (by with_unfolding_all rfl) (by rfl) (by decide) ?_ (fun _ => rfl)))
  k_with "x exec For Name Name cons nil" => refine wpAny_For ?_ (by intro _; with_unfolding_all rfl)
  k_with "x exec For Name Call cons nil" => refine wpAny_For ?_ (by intro _; with_unfolding_all rfl)
  k_with "x exec For Tuple Call cons nil" => refine wpAny_For ?_ (by intro _; with_unfolding_all rfl)
  k_with "x exec For Name Name" => refine wpAny_For ?_ (by intro _; with_unfolding_all rfl)
  k_with "x exec For Name Call" => refine wpAny_For ?_ (by intro _; with_unfolding_all rfl)
  k_with "x last exec For Name Name" => refine wpAny_For ?_ (by intro _; with_unfolding_all rfl)
  trivial
theorem c_number (l : List Nat) (t : Tok) (h0 : l.head? ≠ some 65) (hl : l.length ≤ 100) : FD 490 w mean mg mb 96 [.str (txt l) t] [] (fun v P' => ∃ tk, v = .int (numOf l) tk ∧ P' = []) := by
  walk_at "fn_open"
  walk_at "steps"
  · exact absurd (no_head (c := 65) (by assumption)) h0
  · refine ⟨iter_str_N (by k_asm) (by k_asm) ?_⟩
    intro I oI St h2 S F2 N2 lt2
    dsimp only
    refine' for_src (σ := Int × Tok) S rfl (fun _ => []) (fun c => [("number", .int c.1 c.2)]) ["sign"] (fun i c => c.1 = numOf (l.take i)) (0, _) F2 N2 (fun _ h => nomatch h) ?hk1 (fun _ _ _ _ h => nomatch h) rfl ?turn1 ?done1
    case hk1 => refine all_cons ?_ (fun _ h => nomatch h); exact rfl
    case turn1 =>
      rintro i ⟨num, t1⟩ u h tk3 v oI' hi ⟨c, u2, hc, rfl⟩ hJ F3 N3 hI
      dsimp only at hJ
      refine turn_gen fun QB hQB => ?_
      walk_at "steps"
      subst hQB
      refine' LedEnd.intro (num * 16 + c - 65, _) (by k_asm) (by k_asm) ?sub1 ?hk2 ?hr1 ⟨(fun _ h => nomatch h), ?J1⟩
      case sub1 => walk_at "fn_sub"
      case hk2 => refine all_cons ?_ (fun _ h => nomatch h); exact rfl
      case hr1 => (intro z h1 h2; have n1 := h1 _ (.head _); have n3 : z ≠ "sign" := (fun e => by subst e; exact absurd h2 (by decide)); dsimp only at n1 ⊢; simp only [if_neg n1, if_neg n3, kstB, h2, Bool.false_eq_true, if_false])
      case J1 => (dsimp only; rw [hJ]; exact (numOf_snoc (by simpa using hc)).symm)
    case done1 =>
      rintro ⟨num, t1⟩ u h tk3 hJ F3 N3
      dsimp only at hJ
      walk_at "steps"
      have hJ2 : num = numOf l := by rw [hJ, List.size_toArray, List.take_length]
      refine ⟨Ends.sub (P' := []) (by k_asm) (by k_asm) (fun _ h => (nomatch h)) ⟨t1, ?_, rfl⟩⟩
      rw [← hJ2]
      rfl
end
section
example : True := by
  k_with_none
  k_with "x fn_open" =>
    with_unfolding_all refine' Fn.plain ?ho ?hcd ?hbind ?hloc ?_ ?hD ?hco ?hgen ?hk ?hcell
    case ho => k_is
    case hcd => k_is
    case hbind => exact fun s => BindsTo.of_eq rfl
    case hloc => exact locs rfl
    case hD => decide
    case hco => exact rfl
    case hgen => exact rfl
    case hk => exact rfl
    case hcell => decide
    intro gd outer A₀ base g L s B X T F N lt
  k_with "x fn_cells" =>
    with_unfolding_all refine' Fn.cells ?ho ?hcd ?hbind ?hkind ?hnd ?_ ?hD ?hco ?hgen ?hk
    case ho => k_is
    case hcd => k_is
    case hbind => exact fun s => BindsTo.of_eq rfl
    case hkind => exact rfl
    case hnd => decide +kernel
    case hD => decide
    case hco => exact rfl
    case hgen => exact rfl
    case hk => exact rfl
    intro gd outer A₀ base g L s cells B X T F N Y lt
  k_with "x fn_made" =>
    with_unfolding_all refine' Fn.made ?ho ?hc ?hcd ?hcv ?hbind ?hloc ?_ ?hD ?hco ?hgen ?hk ?hcell
    case ho => k_mem
    case hc => k_mem
    case hcd => assumption
    case hcv => assumption
    case hbind => exact fun s => BindsTo.of_eq rfl
    case hloc => exact locs rfl
    case hD => decide
    case hco => exact rfl
    case hgen => exact rfl
    case hk => exact rfl
    case hcell => decide
    intro gd outer A₀ base g L s B X T F N lt
  k_with "x Ends" => refine stop ?_
  k_with "x steps" => repeat' (first | (k_unfold; (try dsimp only)) | walk1 | (dsimp only; walk1))
  k_with "x fn_pick" => first | exact Pick.here | (refine' Pick.there ?p1; (case p1 => k_extra "x fn_pick"))
  k_with "x fn_split" => first | exact Split.nil | (refine' Split.cons ?a1 ?b1; (case a1 => k_extra "x fn_pick"); (case b1 => k_extra "x fn_split"))
  k_with "x fn_nes" => first | exact all_nil | (refine' all_cons ?a2 ?b2; (case a2 => k_ne); (case b2 => k_extra "x fn_nes"))
  k_with "x fn_apart" => first | exact apart_nil | (refine' apart_cons ?a3 ?b3; (case a3 => k_extra "x fn_nes"); (case b3 => k_extra "x fn_apart"))
  k_with "x fn_here" => exact ⟨by k_asm, by k_asm, by k_asm, rfl, rfl, rfl, rfl, Nat.le_of_ble_eq_true rfl, Nat.le_of_ble_eq_true rfl⟩
  k_with "x fn_sub" => first | exact all_nil | (refine' all_cons ?a4 ?b4; (case a4 => k_mem); (case b4 => k_extra "x fn_sub"))
  k_with "x k_all" => first | exact all_nil | (refine' all_cons ?a5 ?b5; (case a5 => k_ne); (case b5 => k_all))
  k_with "x fn_ords" => first | exact all_nil | (refine' all_cons ?a6 ?b6; (case a6 => ((try dsimp only); first | k_extra "x k_lo" | exact Nat.le_refl _ | (refine Nat.le_of_lt ?_; k_extra "x k_lo") | (simp only [AllLt, and_true] at *; omega))); (case b6 => k_extra "x fn_ords"))
  k_with "x k_mm" => first | exact mem_h | exact mem_t (mem_h) | exact mem_t (mem_t (mem_h)) | exact mem_t (mem_t (mem_t (mem_h))) | exact mem_t (mem_t (mem_t (mem_t (mem_h)))) | exact mem_t (mem_t (mem_t (mem_t (mem_t (mem_h))))) | exact mem_t (mem_t (mem_t (mem_t (mem_t (mem_t (mem_h)))))) | exact mem_t (mem_t (mem_t (mem_t (mem_t (mem_t (mem_t (mem_h))))))) | exact mem_t (mem_t (mem_t (mem_t (mem_t (mem_t (mem_t (mem_t (mem_h)))))))) | exact mem_t (mem_t (mem_t (mem_t (mem_t (mem_t (mem_t (mem_t (mem_t (mem_h))))))))) | exact mem_t (mem_t (mem_t (mem_t (mem_t (mem_t (mem_t (mem_t (mem_t (mem_t (mem_h)))))))))) | exact mem_t (mem_t (mem_t (mem_t (mem_t (mem_t (mem_t (mem_t (mem_t (mem_t (mem_t (mem_h))))))))))) | exact mem_t (mem_t (mem_t (mem_t (mem_t (mem_t (mem_t (mem_t (mem_t (mem_t (mem_t (mem_t (mem_h)))))))))))) | exact mem_t (mem_t (mem_t (mem_t (mem_t (mem_t (mem_t (mem_t (mem_t (mem_t (mem_t (mem_t (mem_t (mem_h))))))))))))) | exact mem_t (mem_t (mem_t (mem_t (mem_t (mem_t (mem_t (mem_t (mem_t (mem_t (mem_t (mem_t (mem_t (mem_t (mem_h)))))))))))))) | exact mem_t (mem_t (mem_t (mem_t (mem_t (mem_t (mem_t (mem_t (mem_t (mem_t (mem_t (mem_t (mem_t (mem_t (mem_t (mem_h))))))))))))))) | exact mem_t (mem_t (mem_t (mem_t (mem_t (mem_t (mem_t (mem_t (mem_t (mem_t (mem_t (mem_t (mem_t (mem_t (mem_t (mem_t (mem_h)))))))))))))))) | exact mem_t (mem_t (mem_t (mem_t (mem_t (mem_t (mem_t (mem_t (mem_t (mem_t (mem_t (mem_t (mem_t (mem_t (mem_t (mem_t (mem_t (mem_h))))))))))))))))) | exact mem_t (mem_t (mem_t (mem_t (mem_t (mem_t (mem_t (mem_t (mem_t (mem_t (mem_t (mem_t (mem_t (mem_t (mem_t (mem_t (mem_t (mem_t (mem_h)))))))))))))))))) | exact mem_t (mem_t (mem_t (mem_t (mem_t (mem_t (mem_t (mem_t (mem_t (mem_t (mem_t (mem_t (mem_t (mem_t (mem_t (mem_t (mem_t (mem_t (mem_t (mem_h))))))))))))))))))) | exact mem_t (mem_t (mem_t (mem_t (mem_t (mem_t (mem_t (mem_t (mem_t (mem_t (mem_t (mem_t (mem_t (mem_t (mem_t (mem_t (mem_t (mem_t (mem_t (mem_t (mem_h)))))))))))))))))))) | exact mem_t (mem_t (mem_t (mem_t (mem_t (mem_t (mem_t (mem_t (mem_t (mem_t (mem_t (mem_t (mem_t (mem_t (mem_t (mem_t (mem_t (mem_t (mem_t (mem_t (mem_t (mem_h))))))))))))))))))))) | exact mem_t (mem_t (mem_t (mem_t (mem_t (mem_t (mem_t (mem_t (mem_t (mem_t (mem_t (mem_t (mem_t (mem_t (mem_t (mem_t (mem_t (mem_t (mem_t (mem_t (mem_t (mem_t (mem_h)))))))))))))))))))))) | exact mem_t (mem_t (mem_t (mem_t (mem_t (mem_t (mem_t (mem_t (mem_t (mem_t (mem_t (mem_t (mem_t (mem_t (mem_t (mem_t (mem_t (mem_t (mem_t (mem_t (mem_t (mem_t (mem_t (mem_h))))))))))))))))))))))) | exact mem_t (mem_t (mem_t (mem_t (mem_t (mem_t (mem_t (mem_t (mem_t (mem_t (mem_t (mem_t (mem_t (mem_t (mem_t (mem_t (mem_t (mem_t (mem_t (mem_t (mem_t (mem_t (mem_t (mem_t (mem_h)))))))))))))))))))))))) | exact mem_t (mem_t (mem_t (mem_t (mem_t (mem_t (mem_t (mem_t (mem_t (mem_t (mem_t (mem_t (mem_t (mem_t (mem_t (mem_t (mem_t (mem_t (mem_t (mem_t (mem_t (mem_t (mem_t (mem_t (mem_t (mem_h)))))))))))))))))))))))))
  k_with "x k_q1" => exact ltA (by with_reducible assumption) (by k_extra "x k_mm")
  k_with "x k_up" => first | exact ltP (by with_reducible assumption) | exact ltP (ltP (by with_reducible assumption)) | exact ltP (ltP (ltP (by with_reducible assumption))) | exact ltP (ltP (ltP (ltP (by with_reducible assumption)))) | exact ltP (ltP (ltP (ltP (ltP (by with_reducible assumption))))) | exact ltP (ltP (ltP (ltP (ltP (ltP (by with_reducible assumption)))))) | exact ltP (ltP (ltP (ltP (ltP (ltP (ltP (by with_reducible assumption))))))) | exact ltP (ltP (ltP (ltP (ltP (ltP (ltP (ltP (by with_reducible assumption))))))))
  k_with "x k_hi" => first | with_reducible assumption | k_extra "x k_q1" | exact ltR (by with_reducible assumption) (by k_extra "x k_mm") | k_extra "x k_up" | (refine Nat.lt_trans ?_ (by with_reducible assumption); k_extra "x k_hi")
  k_with "x k_l1" => first | k_extra "x k_q1" | exact ltZ | k_extra "x k_hi" | (refine ltS ?_; k_extra "x k_l1")
  k_with "x k_l2" => first | k_extra "x k_l1" | (refine Nat.lt_trans (by with_reducible assumption) ?_; k_extra "x k_l2")
  k_with "x k_lo" => ((fail_if_success (with_reducible show @LT.lt Nat _ _ 79)); k_extra "x k_l2")
  k_with "x k_ne" =>
    refine neN ?_
    try dsimp only
    first
      | with_reducible assumption
      | exact Ne.symm (by with_reducible assumption)
      | exact ne_lt (ltA (by with_reducible assumption) (by k_extra "x k_mm"))
      | exact ne_gt (ltA (by with_reducible assumption) (by k_extra "x k_mm"))
      | ((repeat refine ne_s ?_); first | exact ne_z1 | exact ne_z2 | exact ne_z3 | exact ne_z4 | exact ne_z5 | exact ne_z6 | exact ne_z7 | exact ne_z8 | exact ne_z1.symm | exact ne_z2.symm | exact ne_z3.symm | exact ne_z4.symm | exact ne_z5.symm | exact ne_z6.symm | exact ne_z7.symm | exact ne_z8.symm)
      | (refine ne_lt ?_; k_extra "x k_lo")
      | (refine ne_gt ?_; k_extra "x k_lo")
      | (simp only [AllLt, and_true] at *; omega)
  k_with "x eval ListComp" => refine stop ?_
  k_with "x call ref" => refine stop ?_
  k_with "x pyIter" => refine stop ?_
  k_with "x fn_comp" => (refine ⟨?_⟩; (with_unfolding_all refine comp_open (by with_unfolding_all rfl) (by rfl) (by decide) ?_ (fun _ => rfl)))
  k_with "x exec For Name Name cons nil" => refine wpAny_For ?_ (by intro _; with_unfolding_all rfl)
  k_with "x exec For Name Call cons nil" => refine wpAny_For ?_ (by intro _; with_unfolding_all rfl)
  k_with "x exec For Tuple Call cons nil" => refine wpAny_For ?_ (by intro _; with_unfolding_all rfl)
  k_with "x exec For Name Name" => refine wpAny_For ?_ (by intro _; with_unfolding_all rfl)
  k_with "x exec For Name Call" => refine wpAny_For ?_ (by intro _; with_unfolding_all rfl)
  k_with "x last exec For Name Name" => refine wpAny_For ?_ (by intro _; with_unfolding_all rfl)
  k_with "x sadd" => (refine add_str (fun _ _ => ?_) (by show (txt _).length + (txt _).length ≤ sizeLine; rw [txt_len, txt_len, sizeLine_eq]; (try simp only [List.length_append, List.length_cons, List.length_nil]); omega))
  k_with "x binaryOp Add str str" => refine stop ?_
  trivial
theorem c_written (l : List Nat) (t tw : Tok) (way : Nat) (hw : way ≤ 1000) (hl : l.length ≤ 100) : FD 490 w mean mg mb 101 [.str (txt l) t, .int way tw] [] (fun v P' => ∃ tk, v = .str (txt (wrt l way)) tk ∧ P' = []) := by
  walk_at "fn_open"
  have e34 : Str.ofString "\"" = txt [34] := rfl
  have e92 : Str.ofString "\\" = txt [92] := rfl
  walk_at "steps"
  · have h0 : l = [] := txt_inj (b := []) (eq_of_beq (by assumption))
    rw [e34]
    refine ⟨?_⟩
    walk_at "sadd"
    rw [txt_app]
    walk_at "steps"
    refine ⟨?_⟩
    walk_at "sadd"
    rw [txt_app]
    walk_at "steps"
    rw [item_ws]
    refine ⟨?_⟩
    walk_at "sadd"
    rw [txt_app]
    walk_at "steps"
    refine ⟨Ends.sub (P' := []) (by k_asm) (by k_asm) (fun _ h => (nomatch h)) ⟨_, congrArg (fun x => Value.str (txt x) _) ?_, rfl⟩⟩
    rw [wrt, if_pos (.inl h0)]
  · have h0 : way % 3 = 2 := fmod3.mp (by assumption)
    rw [e34]
    refine ⟨?_⟩
    walk_at "sadd"
    rw [txt_app]
    walk_at "steps"
    refine ⟨?_⟩
    walk_at "sadd"
    rw [txt_app]
    walk_at "steps"
    rw [item_ws]
    refine ⟨?_⟩
    walk_at "sadd"
    rw [txt_app]
    walk_at "steps"
    refine ⟨Ends.sub (P' := []) (by k_asm) (by k_asm) (fun _ h => (nomatch h)) ⟨_, congrArg (fun x => Value.str (txt x) _) ?_, rfl⟩⟩
    rw [wrt, if_pos (.inr h0)]
  · have h0 : way % 3 = 1 := fmod3.mp (by assumption)
    have h1 : ¬ (l = [] ∨ way % 3 = 2) := by
      rintro (rfl | h)
      · exact absurd (show (txt [] == Str.ofString "") = false by assumption) (by decide)
      · omega
    walk_at "fn_comp"
    walk_at "steps"
    refine ⟨iter_str_N (by k_asm) (by k_asm) ?_⟩
    intro I oI St h2 S F2 N2 lt2
    refine' comp_pure S rfl (fun i ys => StrsAre ys ((l.take i).map fun c => txt [92, c]) ∧ i ≤ 100) F2 N2 lt2 (fun _ h => nomatch h) ⟨.nil, by decide⟩ ?turn ?hsz ?done ?b1 ?b2 ?b3
    case b1 => decide
    case b2 => rfl
    case b3 => rfl
    case hsz => 
      rintro i ys ⟨hs, hi⟩
      rw [hs.len_eq, List.length_map, List.length_take, sizeLine_eq]; omega
    case turn =>
      rintro i ys v C D oI' oC mC kD h tk3 hi ⟨c, u, hc, rfl⟩ ⟨hs, -⟩ F3 N3 hns hxv
      refine comp_gen fun PY PN hPY hPN => ?_
      walk_at "steps"
      refine ⟨?_⟩
      rw [e92]
      walk_at "sadd"
      have hi' : i < l.length := hi
      subst hPY
      refine PureEnd.intro F3 N3 ⟨?_, by omega⟩
      have hc2 : l[i]? = some c := by simpa using hc
      rw [take_snoc hc2, List.map_append]
      show StrsAre _ (_ ++ [txt ([92] ++ [c])])
      rw [← txt_app]
      exact StrsAre.snoc hs _ _
    case done =>
      rintro ys D kD h tk3 ⟨hs, -⟩ F3 N3 hD
      walk_at "steps"
      have e : l.take (txt l).cps.size = l := by rw [List.size_toArray, List.take_length]
      rw [e] at hs
      refine join_listW (News.isList N3 (.head _)) hs (by decide) (Nat.le_trans (weigh_map (fun c => [92, c]) 2 l fun _ _ => Nat.le_refl _) (by omega)) ?_
      intro t' k'
      rw [join_map (fun c => [92, c]) l]
      walk_at "steps"
      rw [item_ws]
      have hl2 : (l.map fun c => [92, c]).flatten.length ≤ 200 := by rw [flat2_len]; omega
      refine ⟨?_⟩
      walk_at "sadd"
      rw [txt_app]
      walk_at "steps"
      refine ⟨Ends.sub (P' := []) (by k_asm) (by k_asm) (fun _ h => (nomatch h)) ⟨_, congrArg (fun x => Value.str (txt x) _) ?_, rfl⟩⟩
      rw [wrt, if_neg h1, if_pos h0]
  · have h0 : way % 3 ≠ 1 := fun h => absurd (fmod3.mpr h) (by assumption)
    have h2 : way % 3 ≠ 2 := fun h => absurd (fmod3.mpr h) (by assumption)
    have h1 : ¬ (l = [] ∨ way % 3 = 2) := by
      rintro (rfl | h)
      · exact absurd (show (txt [] == Str.ofString "") = false by assumption) (by decide)
      · omega
    rw [item_ws]
    refine ⟨?_⟩
    walk_at "sadd"
    rw [txt_app]
    walk_at "steps"
    refine ⟨Ends.sub (P' := []) (by k_asm) (by k_asm) (fun _ h => (nomatch h)) ⟨_, congrArg (fun x => Value.str (txt x) _) ?_, rfl⟩⟩
    rw [wrt, if_neg h1, if_neg h0]
end
section
example : True := by
  k_with_none
  k_with "x fn_open" =>
    with_unfolding_all refine' Fn.plain ?ho ?hcd ?hbind ?hloc ?_ ?hD ?hco ?hgen ?hk ?hcell
    case ho => k_is
    case hcd => k_is
    case hbind => exact fun s => BindsTo.of_eq rfl
    case hloc => exact locs rfl
    case hD => decide
    case hco => exact rfl
    case hgen => exact rfl
    case hk => exact rfl
    case hcell => decide
    intro gd outer A₀ base g L s B X T F N lt
  k_with "x fn_cells" =>
    with_unfolding_all refine' Fn.cells ?ho ?hcd ?hbind ?hkind ?hnd ?_ ?hD ?hco ?hgen ?hk
    case ho => k_is
    case hcd => k_is
    case hbind => exact fun s => BindsTo.of_eq rfl
    case hkind => exact rfl
    case hnd => decide +kernel
    case hD => decide
    case hco => exact rfl
    case hgen => exact rfl
    case hk => exact rfl
    intro gd outer A₀ base g L s cells B X T F N Y lt
  k_with "x fn_made" =>
    with_unfolding_all refine' Fn.made ?ho ?hc ?hcd ?hcv ?hbind ?hloc ?_ ?hD ?hco ?hgen ?hk ?hcell
    case ho => k_mem
    case hc => k_mem
    case hcd => assumption
    case hcv => assumption
    case hbind => exact fun s => BindsTo.of_eq rfl
    case hloc => exact locs rfl
    case hD => decide
    case hco => exact rfl
    case hgen => exact rfl
    case hk => exact rfl
    case hcell => decide
    intro gd outer A₀ base g L s B X T F N lt
  k_with "x Ends" => refine stop ?_
  k_with "x steps" => repeat' (first | (k_unfold; (try dsimp only)) | walk1 | (dsimp only; walk1))
  k_with "x fn_pick" => first | exact Pick.here | (refine' Pick.there ?p1; (case p1 => k_extra "x fn_pick"))
  k_with "x fn_split" => first | exact Split.nil | (refine' Split.cons ?a1 ?b1; (case a1 => k_extra "x fn_pick"); (case b1 => k_extra "x fn_split"))
  k_with "x fn_nes" => first | exact all_nil | (refine' all_cons ?a2 ?b2; (case a2 => k_ne); (case b2 => k_extra "x fn_nes"))
  k_with "x fn_apart" => first | exact apart_nil | (refine' apart_cons ?a3 ?b3; (case a3 => k_extra "x fn_nes"); (case b3 => k_extra "x fn_apart"))
  k_with "x fn_here" => exact ⟨by k_asm, by k_asm, by k_asm, rfl, rfl, rfl, rfl, Nat.le_of_ble_eq_true rfl, Nat.le_of_ble_eq_true rfl⟩
  k_with "x fn_sub" => first | exact all_nil | (refine' all_cons ?a4 ?b4; (case a4 => k_mem); (case b4 => k_extra "x fn_sub"))
  k_with "x k_all" => first | exact all_nil | (refine' all_cons ?a5 ?b5; (case a5 => k_ne); (case b5 => k_all))
  k_with "x fn_ords" => first | exact all_nil | (refine' all_cons ?a6 ?b6; (case a6 => ((try dsimp only); first | k_extra "x k_lo" | exact Nat.le_refl _ | (refine Nat.le_of_lt ?_; k_extra "x k_lo") | (simp only [AllLt, and_true] at *; omega))); (case b6 => k_extra "x fn_ords"))
  k_with "x k_mm" => first | exact mem_h | exact mem_t (mem_h) | exact mem_t (mem_t (mem_h)) | exact mem_t (mem_t (mem_t (mem_h))) | exact mem_t (mem_t (mem_t (mem_t (mem_h)))) | exact mem_t (mem_t (mem_t (mem_t (mem_t (mem_h))))) | exact mem_t (mem_t (mem_t (mem_t (mem_t (mem_t (mem_h)))))) | exact mem_t (mem_t (mem_t (mem_t (mem_t (mem_t (mem_t (mem_h))))))) | exact mem_t (mem_t (mem_t (mem_t (mem_t (mem_t (mem_t (mem_t (mem_h)))))))) | exact mem_t (mem_t (mem_t (mem_t (mem_t (mem_t (mem_t (mem_t (mem_t (mem_h))))))))) | exact mem_t (mem_t (mem_t (mem_t (mem_t (mem_t (mem_t (mem_t (mem_t (mem_t (mem_h)))))))))) | exact mem_t (mem_t (mem_t (mem_t (mem_t (mem_t (mem_t (mem_t (mem_t (mem_t (mem_t (mem_h))))))))))) | exact mem_t (mem_t (mem_t (mem_t (mem_t (mem_t (mem_t (mem_t (mem_t (mem_t (mem_t (mem_t (mem_h)))))))))))) | exact mem_t (mem_t (mem_t (mem_t (mem_t (mem_t (mem_t (mem_t (mem_t (mem_t (mem_t (mem_t (mem_t (mem_h))))))))))))) | exact mem_t (mem_t (mem_t (mem_t (mem_t (mem_t (mem_t (mem_t (mem_t (mem_t (mem_t (mem_t (mem_t (mem_t (mem_h)))))))))))))) | exact mem_t (mem_t (mem_t (mem_t (mem_t (mem_t (mem_t (mem_t (mem_t (mem_t (mem_t (mem_t (mem_t (mem_t (mem_t (mem_h))))))))))))))) | exact mem_t (mem_t (mem_t (mem_t (mem_t (mem_t (mem_t (mem_t (mem_t (mem_t (mem_t (mem_t (mem_t (mem_t (mem_t (mem_t (mem_h)))))))))))))))) | exact mem_t (mem_t (mem_t (mem_t (mem_t (mem_t (mem_t (mem_t (mem_t (mem_t (mem_t (mem_t (mem_t (mem_t (mem_t (mem_t (mem_t (mem_h))))))))))))))))) | exact mem_t (mem_t (mem_t (mem_t (mem_t (mem_t (mem_t (mem_t (mem_t (mem_t (mem_t (mem_t (mem_t (mem_t (mem_t (mem_t (mem_t (mem_t (mem_h)))))))))))))))))) | exact mem_t (mem_t (mem_t (mem_t (mem_t (mem_t (mem_t (mem_t (mem_t (mem_t (mem_t (mem_t (mem_t (mem_t (mem_t (mem_t (mem_t (mem_t (mem_t (mem_h))))))))))))))))))) | exact mem_t (mem_t (mem_t (mem_t (mem_t (mem_t (mem_t (mem_t (mem_t (mem_t (mem_t (mem_t (mem_t (mem_t (mem_t (mem_t (mem_t (mem_t (mem_t (mem_t (mem_h)))))))))))))))))))) | exact mem_t (mem_t (mem_t (mem_t (mem_t (mem_t (mem_t (mem_t (mem_t (mem_t (mem_t (mem_t (mem_t (mem_t (mem_t (mem_t (mem_t (mem_t (mem_t (mem_t (mem_t (mem_h))))))))))))))))))))) | exact mem_t (mem_t (mem_t (mem_t (mem_t (mem_t (mem_t (mem_t (mem_t (mem_t (mem_t (mem_t (mem_t (mem_t (mem_t (mem_t (mem_t (mem_t (mem_t (mem_t (mem_t (mem_t (mem_h)))))))))))))))))))))) | exact mem_t (mem_t (mem_t (mem_t (mem_t (mem_t (mem_t (mem_t (mem_t (mem_t (mem_t (mem_t (mem_t (mem_t (mem_t (mem_t (mem_t (mem_t (mem_t (mem_t (mem_t (mem_t (mem_t (mem_h))))))))))))))))))))))) | exact mem_t (mem_t (mem_t (mem_t (mem_t (mem_t (mem_t (mem_t (mem_t (mem_t (mem_t (mem_t (mem_t (mem_t (mem_t (mem_t (mem_t (mem_t (mem_t (mem_t (mem_t (mem_t (mem_t (mem_t (mem_h)))))))))))))))))))))))) | exact mem_t (mem_t (mem_t (mem_t (mem_t (mem_t (mem_t (mem_t (mem_t (mem_t (mem_t (mem_t (mem_t (mem_t (mem_t (mem_t (mem_t (mem_t (mem_t (mem_t (mem_t (mem_t (mem_t (mem_t (mem_t (mem_h)))))))))))))))))))))))))
  k_with "x k_q1" => exact ltA (by with_reducible assumption) (by k_extra "x k_mm")
  k_with "x k_up" => first | exact ltP (by with_reducible assumption) | exact ltP (ltP (by with_reducible assumption)) | exact ltP (ltP (ltP (by with_reducible assumption))) | exact ltP (ltP (ltP (ltP (by with_reducible assumption)))) | exact ltP (ltP (ltP (ltP (ltP (by with_reducible assumption))))) | exact ltP (ltP (ltP (ltP (ltP (ltP (by with_reducible assumption)))))) | exact ltP (ltP (ltP (ltP (ltP (ltP (ltP (by with_reducible assumption))))))) | exact ltP (ltP (ltP (ltP (ltP (ltP (ltP (ltP (by with_reducible assumption))))))))
  k_with "x k_hi" => first | with_reducible assumption | k_extra "x k_q1" | exact ltR (by with_reducible assumption) (by k_extra "x k_mm") | k_extra "x k_up" | (refine Nat.lt_trans ?_ (by with_reducible assumption); k_extra "x k_hi")
  k_with "x k_l1" => first | k_extra "x k_q1" | exact ltZ | k_extra "x k_hi" | (refine ltS ?_; k_extra "x k_l1")
  k_with "x k_l2" => first | k_extra "x k_l1" | (refine Nat.lt_trans (by with_reducible assumption) ?_; k_extra "x k_l2")
  k_with "x k_lo" => ((fail_if_success (with_reducible show @LT.lt Nat _ _ 79)); k_extra "x k_l2")
  k_with "x k_ne" =>
    refine neN ?_
    try dsimp only
    first
      | with_reducible assumption
      | exact Ne.symm (by with_reducible assumption)
      | exact ne_lt (ltA (by with_reducible assumption) (by k_extra "x k_mm"))
      | exact ne_gt (ltA (by with_reducible assumption) (by k_extra "x k_mm"))
      | ((repeat refine ne_s ?_); first | exact ne_z1 | exact ne_z2 | exact ne_z3 | exact ne_z4 | exact ne_z5 | exact ne_z6 | exact ne_z7 | exact ne_z8 | exact ne_z1.symm | exact ne_z2.symm | exact ne_z3.symm | exact ne_z4.symm | exact ne_z5.symm | exact ne_z6.symm | exact ne_z7.symm | exact ne_z8.symm)
      | (refine ne_lt ?_; k_extra "x k_lo")
      | (refine ne_gt ?_; k_extra "x k_lo")
      | (simp only [AllLt, and_true] at *; omega)
  k_with "x eval ListComp" => refine stop ?_
  k_with "x call ref" => refine stop ?_
  k_with "x pyIter" => refine stop ?_
  k_with "x fn_comp" => (refine ⟨?_⟩; (with_unfolding_all refine comp_open (by with_unfolding_all rfl) (by rfl) (by decide) ?_ (fun _ => rfl)))
  k_with "x exec For Name Name cons nil" => refine wpAny_For ?_ (by intro _; with_unfolding_all rfl)
  k_with "x exec For Name Call cons nil" => refine wpAny_For ?_ (by intro _; with_unfolding_all rfl)
  k_with "x exec For Tuple Call cons nil" => refine wpAny_For ?_ (by intro _; with_unfolding_all rfl)
  k_with "x exec For Name Name" => refine wpAny_For ?_ (by intro _; with_unfolding_all rfl)
  k_with "x exec For Name Call" => refine wpAny_For ?_ (by intro _; with_unfolding_all rfl)
  k_with "x last exec For Name Name" => refine wpAny_For ?_ (by intro _; with_unfolding_all rfl)
  k_with "x call builtin:list.append" => refine stop ?_
  trivial
theorem c_turn (k : Lx) (ok : k.Ok) (ln : Int) (tl : Tok) (vs : List Value) (nb : Nat) (r0 : List Nat) (rs : List (List Nat)) (ts : Tok) (hv : StrsAre vs ((r0 :: rs).map fun l => txt l)) (hn : rs.length + 1 ≤ 7)
    (hr : ∀ r ∈ r0 :: rs, r.head? ≠ some 65 ∧ r.length ≤ 100 ∧ (numOf r).natAbs < 16 ^ 19) :
    FD 400 w mean mg mb 108 [.ref k.x, .int (rs.length + 1 : Nat) ts] [(k.x, instObj 59 k.dx), (k.dx, k.dict ln tl), (k.pb, listOf vs.toArray nb)]
      (fun v P' => ∃ D ys vs' n1 n2, v = .ref D ∧ IntsAre ys ((r0 :: rs).map numOf) ∧ StrsAre vs' (((List.range (rs.length + 1)).map (dw ((r0 :: rs).map numOf))).map fun l => txt l) ∧
        P' = [(k.x, instObj 59 k.dx), (k.dx, k.dict ln tl), (k.pb, listOf vs'.toArray n1), (D, listOf ys.toArray n2)]) := by
  have ok' := ok
  obtain ⟨a1, a2, a3, a4, a5, a6, a7, a8, a9⟩ := ok'
  obtain ⟨t0, vs1, rfl, hv1⟩ := strs_head hv
  have hvl := hv1.len_eq
  rw [List.length_map] at hvl
  have h00 := hr _ (.head _)
  obtain ⟨ws, hws⟩ : ∃ ws, ws = r0 :: rs := ⟨_, rfl⟩
  obtain ⟨ns, hns⟩ : ∃ ns, ns = ws.map numOf := ⟨_, rfl⟩
  have hwl : ws.length = rs.length + 1 := by rw [hws]; rfl
  have hnl : ns.length = rs.length + 1 := by rw [hns, List.length_map, hwl]
  rw [← hws] at hr
  have hnb : ∀ j, (ns.getD j 0).natAbs < 16 ^ 19 := nums_bound (by rw [hns]; intro x hx; obtain ⟨r, hr', rfl⟩ := List.mem_map.mp hx; exact (hr r hr').2.2)
  have hdb : ∀ i j, (ns.getD i 0 - ns.getD j 0).natAbs < 16 ^ 20 := fun i j => by have := hnb i; have := hnb j; omega
  have hn0 : [numOf r0] = ns.take 1 := by rw [hns, hws]; rfl
  have hd1 : ws.drop 1 = rs := by rw [hws]; rfl
  rw [← hws, ← hns]
  clear hv
  walk_at "fn_open"
  walk_at "steps"
  refine ⟨?_⟩
  refine Fn.use (c_get_push k ok ln tl (.str (txt r0) t0) vs1 nb (by omega)) (by walk_at "fn_here") (by k_asm) (by k_asm) (by walk_at "fn_split") (by walk_at "fn_apart") ?_
  intro v P' h1 tk1 hpq F1 N1 apq
  clear apq
  refine opq fun XX hXX => ?_
  obtain ⟨n1, rfl, rfl⟩ := hpq
  refine hXX ?_
  clear hXX XX
  simp only [List.cons_append, List.nil_append] at N1
  walk_at "steps"
  refine ⟨?_⟩
  refine Fn.use (c_number r0 t0 h00.1 h00.2.1) (by walk_at "fn_here") (by k_asm) (by k_asm) (by walk_at "fn_split") (by walk_at "fn_apart") ?_
  intro v P' h2 tk2 hpq F2 N2 apq
  clear apq
  refine opq fun XX hXX => ?_
  obtain ⟨t2, rfl, rfl⟩ := hpq
  refine hXX ?_
  clear hXX XX
  simp only [List.nil_append] at N2
  walk_at "steps"
  rename_i D h3 hDl h4 F4 N4 h5 tk4 q1 q2 q3 hrg F5 N5 hkeep
  have hrs : Builtin.Range.rangeSize 1 ((rs.length + 1 : Nat) : Int) 1 = (rs.length : Int) := by rw [rangeSize_one]; split <;> omega
  refine ⟨iter_range_N F5 N5 hrg (small_one (by omega) (by omega) (by omega) (by omega)) hrs ?_⟩
  intro I oI St h6 S F6 N6 lt6
  have i1 : @LT.lt Nat _ D I := lt6 _ (.head _)
  have i2 : @LT.lt Nat _ k.x I := lt6 _ (.tail _ (.head _))
  have i3 : @LT.lt Nat _ k.dx I := lt6 _ (.tail _ (.tail _ (.head _)))
  have i4 : @LT.lt Nat _ k.pb I := lt6 _ (.tail _ (.tail _ (.tail _ (.head _))))
  dsimp only
  refine' for_src (σ := List Value × Nat × List Value × Nat) S rfl (fun c => [(D, listOf c.1.toArray c.2.1), (k.x, instObj 59 k.dx), (k.dx, k.dict ln tl), (k.pb, listOf c.2.2.1.toArray c.2.2.2)]) (fun _ => []) ["place"] (fun i c => IntsAre c.1 (ns.take (i + 1)) ∧ StrsAre c.2.2.1 ((ws.drop (i + 1) ++ (List.range i).map (dw ns)).map fun l => txt l)) ([.int (numOf r0) t2], 0, vs1, n1) F6 N6 (fun q hq => Nat.ne_of_lt (lt6 q hq)) (fun _ h => nomatch h) (fun _ _ _ _ h => nomatch h) ⟨by rw [show 0 + 1 = 1 from rfl, ← hn0]; exact .cons _ _ .nil, by simpa [hd1] using hv1⟩ ?turn1 ?done1
  case turn1 =>
    rintro i ⟨ys, kD, vq, nq⟩ u h7 tk7 v oI' hi ⟨ti, rfl⟩ ⟨hys, hvq⟩ F7 N7 hI
    dsimp only at hys hvq F7 N7 hI
    have hlt : i + 1 < ws.length := by omega
    obtain ⟨r, hrm, hri, hdr⟩ : ∃ r, r ∈ ws ∧ ws[i + 1]? = some r ∧ ws.drop (i + 1) = r :: ws.drop (i + 2) := ⟨ws[i + 1], List.getElem_mem hlt, List.getElem?_eq_getElem hlt, List.drop_eq_getElem_cons hlt⟩
    rw [hdr, List.cons_append] at hvq
    obtain ⟨tr, vq', rfl, hvq'⟩ := strs_head hvq
    have hvl' := hvq'.len_eq
    rw [List.length_map, List.length_append, List.length_drop, List.length_map, List.length_range] at hvl'
    have hyl := hys.length
    rw [List.length_take] at hyl
    have hr1 := hr r hrm
    refine turn_gen fun QB hQB => ?_
    walk_at "steps"
    refine ⟨?_⟩
    refine Fn.use (c_get_push k ok ln tl (.str (txt r) tr) vq' nq (by omega)) (by walk_at "fn_here") (by k_asm) (by k_asm) (by walk_at "fn_split") (by walk_at "fn_apart") ?_
    intro v P' h8 tk8 hpq F8 N8 apq
    clear apq
    refine opq fun XX hXX => ?_
    obtain ⟨n8, rfl, rfl⟩ := hpq
    refine hXX ?_
    clear hXX XX
    simp only [List.cons_append, List.nil_append] at N8
    walk_at "steps"
    refine ⟨?_⟩
    refine Fn.use (c_number r tr hr1.1 hr1.2.1) (by walk_at "fn_here") (by k_asm) (by k_asm) (by walk_at "fn_split") (by walk_at "fn_apart") ?_
    intro v P' h9 tk9 hpq F9 N9 apq
    clear apq
    refine opq fun XX hXX => ?_
    obtain ⟨t9, rfl, rfl⟩ := hpq
    refine hXX ?_
    clear hXX XX
    simp only [List.nil_append] at N9
    walk_at "steps"
    refine ⟨?_⟩
    refine' append_K F9 N9 ?UA ?kA ?szA
    case UA => k_upd
    case szA => rw [List.size_toArray, sizeLine_eq]; omega
    case kA =>
      intro h10 F10 N10
      rw [List.push_toArray] at N10
      have hnr : ns[i + 1]? = some (numOf r) := by rw [hns, List.getElem?_map, hri]; rfl
      have hys2 : IntsAre (ys ++ [.int (numOf r) t9]) (ns.take (i + 2)) := by rw [take_snoc hnr]; exact IntsAre.snoc hys _ _
      clear hys
      walk_at "steps"
      have e1 : ((1 : Int) + (i : Int) * 1 - 1).toNat = i := by omega
      have e2 : ((1 : Int) + (i : Int) * 1).toNat = i + 1 := by omega
      rw [e1, e2, getD_take (by omega), getD_take (by omega)]
      have hdw : wcode (ns.getD i 0 - ns.getD (i + 1) 0) = dw ns i := by rw [dw, hnl, Nat.mod_eq_of_lt (by omega)]
      refine ⟨?_⟩
      refine Fn.use (c_word (ns.getD i 0 - ns.getD (i + 1) 0) _ (hdb _ _)) (by walk_at "fn_here") (by k_asm) (by k_asm) (by walk_at "fn_split") (by walk_at "fn_apart") ?_
      intro v P' h11 tk11 hpq F11 N11 apq
      clear apq
      refine opq fun XX hXX => ?_
      obtain ⟨t11, rfl, rfl⟩ := hpq
      refine hXX ?_
      clear hXX XX
      simp only [List.nil_append] at N11
      walk_at "steps"
      refine ⟨?_⟩
      refine Fn.use (c_push k ok ln tl (.str (txt (wcode (ns.getD i 0 - ns.getD (i + 1) 0))) t11) vq' n8 (by omega)) (by walk_at "fn_here") (by k_asm) (by k_asm) (by walk_at "fn_split") (by walk_at "fn_apart") ?_
      intro v P' h12 tk12 hpq F12 N12 apq
      clear apq
      refine opq fun XX hXX => ?_
      obtain ⟨n12, rfl, rfl⟩ := hpq
      refine hXX ?_
      clear hXX XX
      simp only [List.cons_append, List.nil_append] at N12
      walk_at "steps"
      subst hQB
      refine' LedEnd.intro (ys ++ [.int (numOf r) t9], _, vq' ++ [.str (txt (wcode (ns.getD i 0 - ns.getD (i + 1) 0))) t11], _) (by k_asm) (by k_asm) ?subL (fun _ h => nomatch h) ?hrL ⟨?offL, hys2, ?strL⟩
      case subL => walk_at "fn_sub"
      case offL => exact all_cons (Nat.ne_of_lt i1) (all_cons (Nat.ne_of_lt i2) (all_cons (Nat.ne_of_lt i3) (all_cons (Nat.ne_of_lt i4) (all_nil))))
      case strL =>
        have e5 : (ws.drop (i + 1 + 1) ++ (List.range (i + 1)).map (dw ns)) = (ws.drop (i + 2) ++ (List.range i).map (dw ns)) ++ [dw ns i] := by rw [List.range_succ, List.map_append, ← List.append_assoc]; rfl
        rw [hdw, e5, List.map_append]
        exact StrsAre.snoc hvq' _ _
      case hrL =>
        intro z z1 z2
        have n3 : z ≠ "place" := fun e => by subst e; exact absurd z2 (by decide)
        (try dsimp only)
        simp only [if_neg n3, kstB, z2, Bool.false_eq_true, if_false]
  case done1 =>
    rintro ⟨ys, kD, vq, nq⟩ u h7 tk7 ⟨hys, hvq⟩ F7 N7
    dsimp only at hys hvq F7 N7
    rw [List.take_of_length_le (by omega)] at hys
    rw [List.drop_of_length_le (by omega), List.nil_append] at hvq
    have hvl' := hvq.len_eq
    rw [List.length_map, List.length_map, List.length_range] at hvl'
    walk_at "steps"
    have e1 : (((rs.length + 1 : Nat) : Int) - 1).toNat = rs.length := by omega
    rw [e1, Int.toNat_zero]
    refine ⟨?_⟩
    refine Fn.use (c_word (ns.getD rs.length 0 - ns.getD 0 0) _ (hdb _ _)) (by walk_at "fn_here") (by k_asm) (by k_asm) (by walk_at "fn_split") (by walk_at "fn_apart") ?_
    intro v P' h8 tk8 hpq F8 N8 apq
    clear apq
    refine opq fun XX hXX => ?_
    obtain ⟨t8, rfl, rfl⟩ := hpq
    refine hXX ?_
    clear hXX XX
    simp only [List.nil_append] at N8
    walk_at "steps"
    refine ⟨?_⟩
    refine Fn.use (c_push k ok ln tl (.str (txt (wcode (ns.getD rs.length 0 - ns.getD 0 0))) t8) vq nq (by omega)) (by walk_at "fn_here") (by k_asm) (by k_asm) (by walk_at "fn_split") (by walk_at "fn_apart") ?_
    intro v P' h9 tk9 hpq F9 N9 apq
    clear apq
    refine opq fun XX hXX => ?_
    obtain ⟨n9, rfl, rfl⟩ := hpq
    refine hXX ?_
    clear hXX XX
    simp only [List.cons_append, List.nil_append] at N9
    walk_at "steps"
    refine' ⟨Ends.sub (P' := [(k.x, instObj 59 k.dx), (k.dx, k.dict ln tl), (k.pb, listOf (vq ++ [Value.str (txt (wcode (ns.getD rs.length 0 - ns.getD 0 0))) t8]).toArray n9), (D, listOf ys.toArray kD)]) (by k_asm) (by k_asm) ?subE ⟨D, ys, _, _, _, rfl, hys, ?strE, rfl⟩⟩
    case subE => walk_at "fn_sub"
    case strE =>
      have hdw : wcode (ns.getD rs.length 0 - ns.getD 0 0) = dw ns rs.length := by rw [dw, hnl, Nat.mod_self]
      rw [hdw, List.range_succ, List.map_append, List.map_append]
      exact StrsAre.snoc hvq _ _
end
section
example : True := by
  k_with_none
  k_with "x fn_open" =>
    with_unfolding_all refine' Fn.plain ?ho ?hcd ?hbind ?hloc ?_ ?hD ?hco ?hgen ?hk ?hcell
    case ho => k_is
    case hcd => k_is
    case hbind => exact fun s => BindsTo.of_eq rfl
    case hloc => exact locs rfl
    case hD => decide
    case hco => exact rfl
    case hgen => exact rfl
    case hk => exact rfl
    case hcell => decide
    intro gd outer A₀ base g L s B X T F N lt
  k_with "x fn_cells" =>
    with_unfolding_all refine' Fn.cells ?ho ?hcd ?hbind ?hkind ?hnd ?_ ?hD ?hco ?hgen ?hk
    case ho => k_is
    case hcd => k_is
    case hbind => exact fun s => BindsTo.of_eq rfl
    case hkind => exact rfl
    case hnd => decide +kernel
    case hD => decide
    case hco => exact rfl
    case hgen => exact rfl
    case hk => exact rfl
    intro gd outer A₀ base g L s cells B X T F N Y lt
  k_with "x fn_made" =>
    with_unfolding_all refine' Fn.made ?ho ?hc ?hcd ?hcv ?hbind ?hloc ?_ ?hD ?hco ?hgen ?hk ?hcell
    case ho => k_mem
    case hc => k_mem
    case hcd => assumption
    case hcv => assumption
    case hbind => exact fun s => BindsTo.of_eq rfl
    case hloc => exact locs rfl
    case hD => decide
    case hco => exact rfl
    case hgen => exact rfl
    case hk => exact rfl
    case hcell => decide
    intro gd outer A₀ base g L s B X T F N lt
  k_with "x Ends" => refine stop ?_
  k_with "x steps" => repeat' (first | (k_unfold; (try dsimp only)) | walk1 | (dsimp only; walk1))
  k_with "x fn_pick" => first | exact Pick.here | (refine' Pick.there ?p1; (case p1 => k_extra "x fn_pick"))
  k_with "x fn_split" => first | exact Split.nil | (refine' Split.cons ?a1 ?b1; (case a1 => k_extra "x fn_pick"); (case b1 => k_extra "x fn_split"))
  k_with "x fn_nes" => first | exact all_nil | (refine' all_cons ?a2 ?b2; (case a2 => k_ne); (case b2 => k_extra "x fn_nes"))
  k_with "x fn_apart" => first | exact apart_nil | (refine' apart_cons ?a3 ?b3; (case a3 => k_extra "x fn_nes"); (case b3 => k_extra "x fn_apart"))
  k_with "x fn_here" => exact ⟨by k_asm, by k_asm, by k_asm, rfl, rfl, rfl, rfl, Nat.le_of_ble_eq_true rfl, Nat.le_of_ble_eq_true rfl⟩
  k_with "x fn_sub" => first | exact all_nil | (refine' all_cons ?a4 ?b4; (case a4 => k_mem); (case b4 => k_extra "x fn_sub"))
  k_with "x k_all" => first | exact all_nil | (refine' all_cons ?a5 ?b5; (case a5 => k_ne); (case b5 => k_all))
  k_with "x fn_ords" => first | exact all_nil | (refine' all_cons ?a6 ?b6; (case a6 => ((try dsimp only); first | k_extra "x k_lo" | exact Nat.le_refl _ | (refine Nat.le_of_lt ?_; k_extra "x k_lo") | (simp only [AllLt, and_true] at *; omega))); (case b6 => k_extra "x fn_ords"))
  k_with "x k_mm" => first | exact mem_h | exact mem_t (mem_h) | exact mem_t (mem_t (mem_h)) | exact mem_t (mem_t (mem_t (mem_h))) | exact mem_t (mem_t (mem_t (mem_t (mem_h)))) | exact mem_t (mem_t (mem_t (mem_t (mem_t (mem_h))))) | exact mem_t (mem_t (mem_t (mem_t (mem_t (mem_t (mem_h)))))) | exact mem_t (mem_t (mem_t (mem_t (mem_t (mem_t (mem_t (mem_h))))))) | exact mem_t (mem_t (mem_t (mem_t (mem_t (mem_t (mem_t (mem_t (mem_h)))))))) | exact mem_t (mem_t (mem_t (mem_t (mem_t (mem_t (mem_t (mem_t (mem_t (mem_h))))))))) | exact mem_t (mem_t (mem_t (mem_t (mem_t (mem_t (mem_t (mem_t (mem_t (mem_t (mem_h)))))))))) | exact mem_t (mem_t (mem_t (mem_t (mem_t (mem_t (mem_t (mem_t (mem_t (mem_t (mem_t (mem_h))))))))))) | exact mem_t (mem_t (mem_t (mem_t (mem_t (mem_t (mem_t (mem_t (mem_t (mem_t (mem_t (mem_t (mem_h)))))))))))) | exact mem_t (mem_t (mem_t (mem_t (mem_t (mem_t (mem_t (mem_t (mem_t (mem_t (mem_t (mem_t (mem_t (mem_h))))))))))))) | exact mem_t (mem_t (mem_t (mem_t (mem_t (mem_t (mem_t (mem_t (mem_t (mem_t (mem_t (mem_t (mem_t (mem_t (mem_h)))))))))))))) | exact mem_t (mem_t (mem_t (mem_t (mem_t (mem_t (mem_t (mem_t (mem_t (mem_t (mem_t (mem_t (mem_t (mem_t (mem_t (mem_h))))))))))))))) | exact mem_t (mem_t (mem_t (mem_t (mem_t (mem_t (mem_t (mem_t (mem_t (mem_t (mem_t (mem_t (mem_t (mem_t (mem_t (mem_t (mem_h)))))))))))))))) | exact mem_t (mem_t (mem_t (mem_t (mem_t (mem_t (mem_t (mem_t (mem_t (mem_t (mem_t (mem_t (mem_t (mem_t (mem_t (mem_t (mem_t (mem_h))))))))))))))))) | exact mem_t (mem_t (mem_t (mem_t (mem_t (mem_t (mem_t (mem_t (mem_t (mem_t (mem_t (mem_t (mem_t (mem_t (mem_t (mem_t (mem_t (mem_t (mem_h)))))))))))))))))) | exact mem_t (mem_t (mem_t (mem_t (mem_t (mem_t (mem_t (mem_t (mem_t (mem_t (mem_t (mem_t (mem_t (mem_t (mem_t (mem_t (mem_t (mem_t (mem_t (mem_h))))))))))))))))))) | exact mem_t (mem_t (mem_t (mem_t (mem_t (mem_t (mem_t (mem_t (mem_t (mem_t (mem_t (mem_t (mem_t (mem_t (mem_t (mem_t (mem_t (mem_t (mem_t (mem_t (mem_h)))))))))))))))))))) | exact mem_t (mem_t (mem_t (mem_t (mem_t (mem_t (mem_t (mem_t (mem_t (mem_t (mem_t (mem_t (mem_t (mem_t (mem_t (mem_t (mem_t (mem_t (mem_t (mem_t (mem_t (mem_h))))))))))))))))))))) | exact mem_t (mem_t (mem_t (mem_t (mem_t (mem_t (mem_t (mem_t (mem_t (mem_t (mem_t (mem_t (mem_t (mem_t (mem_t (mem_t (mem_t (mem_t (mem_t (mem_t (mem_t (mem_t (mem_h)))))))))))))))))))))) | exact mem_t (mem_t (mem_t (mem_t (mem_t (mem_t (mem_t (mem_t (mem_t (mem_t (mem_t (mem_t (mem_t (mem_t (mem_t (mem_t (mem_t (mem_t (mem_t (mem_t (mem_t (mem_t (mem_t (mem_h))))))))))))))))))))))) | exact mem_t (mem_t (mem_t (mem_t (mem_t (mem_t (mem_t (mem_t (mem_t (mem_t (mem_t (mem_t (mem_t (mem_t (mem_t (mem_t (mem_t (mem_t (mem_t (mem_t (mem_t (mem_t (mem_t (mem_t (mem_h)))))))))))))))))))))))) | exact mem_t (mem_t (mem_t (mem_t (mem_t (mem_t (mem_t (mem_t (mem_t (mem_t (mem_t (mem_t (mem_t (mem_t (mem_t (mem_t (mem_t (mem_t (mem_t (mem_t (mem_t (mem_t (mem_t (mem_t (mem_t (mem_h)))))))))))))))))))))))))
  k_with "x k_q1" => exact ltA (by with_reducible assumption) (by k_extra "x k_mm")
  k_with "x k_up" => first | exact ltP (by with_reducible assumption) | exact ltP (ltP (by with_reducible assumption)) | exact ltP (ltP (ltP (by with_reducible assumption))) | exact ltP (ltP (ltP (ltP (by with_reducible assumption)))) | exact ltP (ltP (ltP (ltP (ltP (by with_reducible assumption))))) | exact ltP (ltP (ltP (ltP (ltP (ltP (by with_reducible assumption)))))) | exact ltP (ltP (ltP (ltP (ltP (ltP (ltP (by with_reducible assumption))))))) | exact ltP (ltP (ltP (ltP (ltP (ltP (ltP (ltP (by with_reducible assumption))))))))
  k_with "x k_hi" => first | with_reducible assumption | k_extra "x k_q1" | exact ltR (by with_reducible assumption) (by k_extra "x k_mm") | k_extra "x k_up" | (refine Nat.lt_trans ?_ (by with_reducible assumption); k_extra "x k_hi")
  k_with "x k_l1" => first | k_extra "x k_q1" | exact ltZ | k_extra "x k_hi" | (refine ltS ?_; k_extra "x k_l1")
  k_with "x k_l2" => first | k_extra "x k_l1" | (refine Nat.lt_trans (by with_reducible assumption) ?_; k_extra "x k_l2")
  k_with "x k_lo" => ((fail_if_success (with_reducible show @LT.lt Nat _ _ 79)); k_extra "x k_l2")
  k_with "x k_ne" =>
    refine neN ?_
    try dsimp only
    first
      | with_reducible assumption
      | exact Ne.symm (by with_reducible assumption)
      | exact ne_lt (ltA (by with_reducible assumption) (by k_extra "x k_mm"))
      | exact ne_gt (ltA (by with_reducible assumption) (by k_extra "x k_mm"))
      | ((repeat refine ne_s ?_); first | exact ne_z1 | exact ne_z2 | exact ne_z3 | exact ne_z4 | exact ne_z5 | exact ne_z6 | exact ne_z7 | exact ne_z8 | exact ne_z1.symm | exact ne_z2.symm | exact ne_z3.symm | exact ne_z4.symm | exact ne_z5.symm | exact ne_z6.symm | exact ne_z7.symm | exact ne_z8.symm)
      | (refine ne_lt ?_; k_extra "x k_lo")
      | (refine ne_gt ?_; k_extra "x k_lo")
      | (simp only [AllLt, and_true] at *; omega)
  k_with "x eval ListComp" => refine stop ?_
  k_with "x call ref" => refine stop ?_
  k_with "x pyIter" => refine stop ?_
  k_with "x fn_comp" => (refine ⟨?_⟩; (with_unfolding_all refine comp_open (by with_unfolding_all rfl) (by rfl) (by decide) ?_ (fun _ => rfl)))
  trivial
theorem c_turnR (k : Lx) (ok : k.Ok) (ln : Int) (tl : Tok) (vs : List Value) (nb : Nat) (ns : List Int) (n : Nat) (hn : ns.length = n) (h0 : 0 < n) (h7 : n ≤ 7) (ts : Tok) (hb : ∀ x ∈ ns, x.natAbs < 16 ^ 18) (hv : StrsAre vs (ns.map fun x => txt (wcode x))) :
    FD 400 w mean mg mb 108 [.ref k.x, .int (n : Int) ts] [(k.x, instObj 59 k.dx), (k.dx, k.dict ln tl), (k.pb, listOf vs.toArray nb)]
      (fun v P' => ∃ D ys vs' n1 n2, v = .ref D ∧ IntsAre ys (absL ns) ∧ StrsAre vs' ((dn (absL ns)).map fun x => txt (wcode x)) ∧
        P' = [(k.x, instObj 59 k.dx), (k.dx, k.dict ln tl), (k.pb, listOf vs'.toArray n1), (D, listOf ys.toArray n2)]) := by
  obtain ⟨x0, xr, rfl⟩ : ∃ x0 xr, ns = x0 :: xr := by
    cases ns with
    | nil => subst hn; exact absurd h0 (by decide)
    | cons a r => exact ⟨a, r, rfl⟩
  subst hn
  have e1 : (wcode x0 :: xr.map wcode).map numOf = absL (x0 :: xr) := by
    rw [List.map_cons, List.map_map, numOf_wcode, absL, List.map_cons]
    congr 1
    exact List.map_congr_left fun x _ => numOf_wcode x
  have hl : (xr.map wcode).length = xr.length := List.length_map ..
  have C := c_turn (w := w) (mean := mean) (mg := mg) (mb := mb) k ok ln tl vs nb (wcode x0) (xr.map wcode) ts (by rw [List.map_cons, List.map_map]; exact hv) (by rw [hl]; exact h7) (by
    intro r hr
    have hr' : r ∈ (x0 :: xr).map wcode := hr
    obtain ⟨x, hx, rfl⟩ := List.mem_map.mp hr'
    have h1 := hb x hx
    refine ⟨wcode_head x, Nat.le_trans (wcode_len (by omega)) (by omega), ?_⟩
    rw [numOf_wcode]; omega)
  rw [hl, e1] at C
  have e2 : (List.range (xr.length + 1)).map (dw (absL (x0 :: xr))) = (dn (absL (x0 :: xr))).map wcode := dn_words (by simp)
  rw [e2] at C
  simp only [List.map_map] at C
  exact C
end
section
example : True := by
  k_with_none
  k_with "x fn_open" =>
    with_unfolding_all refine' Fn.plain ?ho ?hcd ?hbind ?hloc ?_ ?hD ?hco ?hgen ?hk ?hcell
    case ho => k_is
    case hcd => k_is
    case hbind => exact fun s => BindsTo.of_eq rfl
    case hloc => exact locs rfl
    case hD => decide
    case hco => exact rfl
    case hgen => exact rfl
    case hk => exact rfl
    case hcell => decide
    intro gd outer A₀ base g L s B X T F N lt
  k_with "x fn_cells" =>
    with_unfolding_all refine' Fn.cells ?ho ?hcd ?hbind ?hkind ?hnd ?_ ?hD ?hco ?hgen ?hk
    case ho => k_is
    case hcd => k_is
    case hbind => exact fun s => BindsTo.of_eq rfl
    case hkind => exact rfl
    case hnd => decide +kernel
    case hD => decide
    case hco => exact rfl
    case hgen => exact rfl
    case hk => exact rfl
    intro gd outer A₀ base g L s cells B X T F N Y lt
  k_with "x fn_made" =>
    with_unfolding_all refine' Fn.made ?ho ?hc ?hcd ?hcv ?hbind ?hloc ?_ ?hD ?hco ?hgen ?hk ?hcell
    case ho => k_mem
    case hc => k_mem
    case hcd => assumption
    case hcv => assumption
    case hbind => exact fun s => BindsTo.of_eq rfl
    case hloc => exact locs rfl
    case hD => decide
    case hco => exact rfl
    case hgen => exact rfl
    case hk => exact rfl
    case hcell => decide
    intro gd outer A₀ base g L s B X T F N lt
  k_with "x Ends" => refine stop ?_
  k_with "x steps" => repeat' (first | (k_unfold; (try dsimp only)) | walk1 | (dsimp only; walk1))
  k_with "x fn_pick" => first | exact Pick.here | (refine' Pick.there ?p1; (case p1 => k_extra "x fn_pick"))
  k_with "x fn_split" => first | exact Split.nil | (refine' Split.cons ?a1 ?b1; (case a1 => k_extra "x fn_pick"); (case b1 => k_extra "x fn_split"))
  k_with "x fn_nes" => first | exact all_nil | (refine' all_cons ?a2 ?b2; (case a2 => k_ne); (case b2 => k_extra "x fn_nes"))
  k_with "x fn_apart" => first | exact apart_nil | (refine' apart_cons ?a3 ?b3; (case a3 => k_extra "x fn_nes"); (case b3 => k_extra "x fn_apart"))
  k_with "x fn_here" => exact ⟨by k_asm, by k_asm, by k_asm, rfl, rfl, rfl, rfl, Nat.le_of_ble_eq_true rfl, Nat.le_of_ble_eq_true rfl⟩
  k_with "x fn_sub" => first | exact all_nil | (refine' all_cons ?a4 ?b4; (case a4 => k_mem); (case b4 => k_extra "x fn_sub"))
  k_with "x k_all" => first | exact all_nil | (refine' all_cons ?a5 ?b5; (case a5 => k_ne); (case b5 => k_all))
  k_with "x fn_ords" => first | exact all_nil | (refine' all_cons ?a6 ?b6; (case a6 => ((try dsimp only); first | k_extra "x k_lo" | exact Nat.le_refl _ | (refine Nat.le_of_lt ?_; k_extra "x k_lo") | (simp only [AllLt, and_true] at *; omega))); (case b6 => k_extra "x fn_ords"))
  k_with "x k_mm" => first | exact mem_h | exact mem_t (mem_h) | exact mem_t (mem_t (mem_h)) | exact mem_t (mem_t (mem_t (mem_h))) | exact mem_t (mem_t (mem_t (mem_t (mem_h)))) | exact mem_t (mem_t (mem_t (mem_t (mem_t (mem_h))))) | exact mem_t (mem_t (mem_t (mem_t (mem_t (mem_t (mem_h)))))) | exact mem_t (mem_t (mem_t (mem_t (mem_t (mem_t (mem_t (mem_h))))))) | exact mem_t (mem_t (mem_t (mem_t (mem_t (mem_t (mem_t (mem_t (mem_h)))))))) | exact mem_t (mem_t (mem_t (mem_t (mem_t (mem_t (mem_t (mem_t (mem_t (mem_h))))))))) | exact mem_t (mem_t (mem_t (mem_t (mem_t (mem_t (mem_t (mem_t (mem_t (mem_t (mem_h)))))))))) | exact mem_t (mem_t (mem_t (mem_t (mem_t (mem_t (mem_t (mem_t (mem_t (mem_t (mem_t (mem_h))))))))))) | exact mem_t (mem_t (mem_t (mem_t (mem_t (mem_t (mem_t (mem_t (mem_t (mem_t (mem_t (mem_t (mem_h)))))))))))) | exact mem_t (mem_t (mem_t (mem_t (mem_t (mem_t (mem_t (mem_t (mem_t (mem_t (mem_t (mem_t (mem_t (mem_h))))))))))))) | exact mem_t (mem_t (mem_t (mem_t (mem_t (mem_t (mem_t (mem_t (mem_t (mem_t (mem_t (mem_t (mem_t (mem_t (mem_h)))))))))))))) | exact mem_t (mem_t (mem_t (mem_t (mem_t (mem_t (mem_t (mem_t (mem_t (mem_t (mem_t (mem_t (mem_t (mem_t (mem_t (mem_h))))))))))))))) | exact mem_t (mem_t (mem_t (mem_t (mem_t (mem_t (mem_t (mem_t (mem_t (mem_t (mem_t (mem_t (mem_t (mem_t (mem_t (mem_t (mem_h)))))))))))))))) | exact mem_t (mem_t (mem_t (mem_t (mem_t (mem_t (mem_t (mem_t (mem_t (mem_t (mem_t (mem_t (mem_t (mem_t (mem_t (mem_t (mem_t (mem_h))))))))))))))))) | exact mem_t (mem_t (mem_t (mem_t (mem_t (mem_t (mem_t (mem_t (mem_t (mem_t (mem_t (mem_t (mem_t (mem_t (mem_t (mem_t (mem_t (mem_t (mem_h)))))))))))))))))) | exact mem_t (mem_t (mem_t (mem_t (mem_t (mem_t (mem_t (mem_t (mem_t (mem_t (mem_t (mem_t (mem_t (mem_t (mem_t (mem_t (mem_t (mem_t (mem_t (mem_h))))))))))))))))))) | exact mem_t (mem_t (mem_t (mem_t (mem_t (mem_t (mem_t (mem_t (mem_t (mem_t (mem_t (mem_t (mem_t (mem_t (mem_t (mem_t (mem_t (mem_t (mem_t (mem_t (mem_h)))))))))))))))))))) | exact mem_t (mem_t (mem_t (mem_t (mem_t (mem_t (mem_t (mem_t (mem_t (mem_t (mem_t (mem_t (mem_t (mem_t (mem_t (mem_t (mem_t (mem_t (mem_t (mem_t (mem_t (mem_h))))))))))))))))))))) | exact mem_t (mem_t (mem_t (mem_t (mem_t (mem_t (mem_t (mem_t (mem_t (mem_t (mem_t (mem_t (mem_t (mem_t (mem_t (mem_t (mem_t (mem_t (mem_t (mem_t (mem_t (mem_t (mem_h)))))))))))))))))))))) | exact mem_t (mem_t (mem_t (mem_t (mem_t (mem_t (mem_t (mem_t (mem_t (mem_t (mem_t (mem_t (mem_t (mem_t (mem_t (mem_t (mem_t (mem_t (mem_t (mem_t (mem_t (mem_t (mem_t (mem_h))))))))))))))))))))))) | exact mem_t (mem_t (mem_t (mem_t (mem_t (mem_t (mem_t (mem_t (mem_t (mem_t (mem_t (mem_t (mem_t (mem_t (mem_t (mem_t (mem_t (mem_t (mem_t (mem_t (mem_t (mem_t (mem_t (mem_t (mem_h)))))))))))))))))))))))) | exact mem_t (mem_t (mem_t (mem_t (mem_t (mem_t (mem_t (mem_t (mem_t (mem_t (mem_t (mem_t (mem_t (mem_t (mem_t (mem_t (mem_t (mem_t (mem_t (mem_t (mem_t (mem_t (mem_t (mem_t (mem_t (mem_h)))))))))))))))))))))))))
  k_with "x k_q1" => exact ltA (by with_reducible assumption) (by k_extra "x k_mm")
  k_with "x k_up" => first | exact ltP (by with_reducible assumption) | exact ltP (ltP (by with_reducible assumption)) | exact ltP (ltP (ltP (by with_reducible assumption))) | exact ltP (ltP (ltP (ltP (by with_reducible assumption)))) | exact ltP (ltP (ltP (ltP (ltP (by with_reducible assumption))))) | exact ltP (ltP (ltP (ltP (ltP (ltP (by with_reducible assumption)))))) | exact ltP (ltP (ltP (ltP (ltP (ltP (ltP (by with_reducible assumption))))))) | exact ltP (ltP (ltP (ltP (ltP (ltP (ltP (ltP (by with_reducible assumption))))))))
  k_with "x k_hi" => first | with_reducible assumption | k_extra "x k_q1" | exact ltR (by with_reducible assumption) (by k_extra "x k_mm") | k_extra "x k_up" | (refine Nat.lt_trans ?_ (by with_reducible assumption); k_extra "x k_hi")
  k_with "x k_l1" => first | k_extra "x k_q1" | exact ltZ | k_extra "x k_hi" | (refine ltS ?_; k_extra "x k_l1")
  k_with "x k_l2" => first | k_extra "x k_l1" | (refine Nat.lt_trans (by with_reducible assumption) ?_; k_extra "x k_l2")
  k_with "x k_lo" => ((fail_if_success (with_reducible show @LT.lt Nat _ _ 79)); k_extra "x k_l2")
  k_with "x k_ne" =>
    refine neN ?_
    try dsimp only
    first
      | with_reducible assumption
      | exact Ne.symm (by with_reducible assumption)
      | exact ne_lt (ltA (by with_reducible assumption) (by k_extra "x k_mm"))
      | exact ne_gt (ltA (by with_reducible assumption) (by k_extra "x k_mm"))
      | ((repeat refine ne_s ?_); first | exact ne_z1 | exact ne_z2 | exact ne_z3 | exact ne_z4 | exact ne_z5 | exact ne_z6 | exact ne_z7 | exact ne_z8 | exact ne_z1.symm | exact ne_z2.symm | exact ne_z3.symm | exact ne_z4.symm | exact ne_z5.symm | exact ne_z6.symm | exact ne_z7.symm | exact ne_z8.symm)
      | (refine ne_lt ?_; k_extra "x k_lo")
      | (refine ne_gt ?_; k_extra "x k_lo")
      | (simp only [AllLt, and_true] at *; omega)
  k_with "x eval ListComp" => refine stop ?_
  k_with "x call ref" => refine stop ?_
  k_with "x pyIter" => refine stop ?_
  k_with "x fn_comp" => (refine ⟨?_⟩; (with_unfolding_all refine comp_open (by with_unfolding_all rfl) (by rfl) (by decide) ?_ (fun _ => rfl)))
  trivial
theorem c_isnt (x : Int) (t : Tok) : FD 490 w mean mg mb 70 [.int x t] [] (fun v P' => v = .bool (decide (256 ≤ x)) ∧ P' = []) := by
  walk_at "fn_open"
  walk_at "steps"
  exact ⟨Ends.sub (P' := []) (by k_asm) (by k_asm) (by walk_at "fn_sub") ⟨rfl, rfl⟩⟩
theorem c_iseof (x : Int) (t : Tok) : FD 490 w mean mg mb 77 [.int x t] [] (fun v P' => v = .bool (x == 0) ∧ P' = []) := by
  walk_at "fn_open"
  walk_at "steps"
  exact ⟨Ends.sub (P' := []) (by k_asm) (by k_asm) (by walk_at "fn_sub") ⟨rfl, rfl⟩⟩
end
section
example : True := by
  k_with_none
  k_with "x fn_open" =>
    with_unfolding_all refine' Fn.plain ?ho ?hcd ?hbind ?hloc ?_ ?hD ?hco ?hgen ?hk ?hcell
    case ho => k_is
    case hcd => k_is
    case hbind => exact fun s => BindsTo.of_eq rfl
    case hloc => exact locs rfl
    case hD => decide
    case hco => exact rfl
    case hgen => exact rfl
    case hk => exact rfl
    case hcell => decide
    intro gd outer A₀ base g L s B X T F N lt
  k_with "x fn_cells" =>
    with_unfolding_all refine' Fn.cells ?ho ?hcd ?hbind ?hkind ?hnd ?_ ?hD ?hco ?hgen ?hk
    case ho => k_is
    case hcd => k_is
    case hbind => exact fun s => BindsTo.of_eq rfl
    case hkind => exact rfl
    case hnd => decide +kernel
    case hD => decide
    case hco => exact rfl
    case hgen => exact rfl
    case hk => exact rfl
    intro gd outer A₀ base g L s cells B X T F N Y lt
  k_with "x fn_made" =>
    with_unfolding_all refine' Fn.made ?ho ?hc ?hcd ?hcv ?hbind ?hloc ?_ ?hD ?hco ?hgen ?hk ?hcell
    case ho => k_mem
    case hc => k_mem
    case hcd => assumption
    case hcv => assumption
    case hbind => exact fun s => BindsTo.of_eq rfl
    case hloc => exact locs rfl
    case hD => decide
    case hco => exact rfl
    case hgen => exact rfl
    case hk => exact rfl
    case hcell => decide
    intro gd outer A₀ base g L s B X T F N lt
  k_with "x Ends" => refine stop ?_
  k_with "x steps" => repeat' (first | (k_unfold; (try dsimp only)) | walk1 | (dsimp only; walk1))
  k_with "x fn_pick" => first | exact Pick.here | (refine' Pick.there ?p1; (case p1 => k_extra "x fn_pick"))
  k_with "x fn_split" => first | exact Split.nil | (refine' Split.cons ?a1 ?b1; (case a1 => k_extra "x fn_pick"); (case b1 => k_extra "x fn_split"))
  k_with "x fn_nes" => first | exact all_nil | (refine' all_cons ?a2 ?b2; (case a2 => k_ne); (case b2 => k_extra "x fn_nes"))
  k_with "x fn_apart" => first | exact apart_nil | (refine' apart_cons ?a3 ?b3; (case a3 => k_extra "x fn_nes"); (case b3 => k_extra "x fn_apart"))
  k_with "x fn_here" => exact ⟨by k_asm, by k_asm, by k_asm, rfl, rfl, rfl, rfl, Nat.le_of_ble_eq_true rfl, Nat.le_of_ble_eq_true rfl⟩
  k_with "x fn_sub" => first | exact all_nil | (refine' all_cons ?a4 ?b4; (case a4 => k_mem); (case b4 => k_extra "x fn_sub"))
  k_with "x k_all" => first | exact all_nil | (refine' all_cons ?a5 ?b5; (case a5 => k_ne); (case b5 => k_all))
  k_with "x fn_ords" => first | exact all_nil | (refine' all_cons ?a6 ?b6; (case a6 => ((try dsimp only); first | k_extra "x k_lo" | exact Nat.le_refl _ | (refine Nat.le_of_lt ?_; k_extra "x k_lo") | (simp only [AllLt, and_true] at *; omega))); (case b6 => k_extra "x fn_ords"))
  k_with "x k_mm" => first | exact mem_h | exact mem_t (mem_h) | exact mem_t (mem_t (mem_h)) | exact mem_t (mem_t (mem_t (mem_h))) | exact mem_t (mem_t (mem_t (mem_t (mem_h)))) | exact mem_t (mem_t (mem_t (mem_t (mem_t (mem_h))))) | exact mem_t (mem_t (mem_t (mem_t (mem_t (mem_t (mem_h)))))) | exact mem_t (mem_t (mem_t (mem_t (mem_t (mem_t (mem_t (mem_h))))))) | exact mem_t (mem_t (mem_t (mem_t (mem_t (mem_t (mem_t (mem_t (mem_h)))))))) | exact mem_t (mem_t (mem_t (mem_t (mem_t (mem_t (mem_t (mem_t (mem_t (mem_h))))))))) | exact mem_t (mem_t (mem_t (mem_t (mem_t (mem_t (mem_t (mem_t (mem_t (mem_t (mem_h)))))))))) | exact mem_t (mem_t (mem_t (mem_t (mem_t (mem_t (mem_t (mem_t (mem_t (mem_t (mem_t (mem_h))))))))))) | exact mem_t (mem_t (mem_t (mem_t (mem_t (mem_t (mem_t (mem_t (mem_t (mem_t (mem_t (mem_t (mem_h)))))))))))) | exact mem_t (mem_t (mem_t (mem_t (mem_t (mem_t (mem_t (mem_t (mem_t (mem_t (mem_t (mem_t (mem_t (mem_h))))))))))))) | exact mem_t (mem_t (mem_t (mem_t (mem_t (mem_t (mem_t (mem_t (mem_t (mem_t (mem_t (mem_t (mem_t (mem_t (mem_h)))))))))))))) | exact mem_t (mem_t (mem_t (mem_t (mem_t (mem_t (mem_t (mem_t (mem_t (mem_t (mem_t (mem_t (mem_t (mem_t (mem_t (mem_h))))))))))))))) | exact mem_t (mem_t (mem_t (mem_t (mem_t (mem_t (mem_t (mem_t (mem_t (mem_t (mem_t (mem_t (mem_t (mem_t (mem_t (mem_t (mem_h)))))))))))))))) | exact mem_t (mem_t (mem_t (mem_t (mem_t (mem_t (mem_t (mem_t (mem_t (mem_t (mem_t (mem_t (mem_t (mem_t (mem_t (mem_t (mem_t (mem_h))))))))))))))))) | exact mem_t (mem_t (mem_t (mem_t (mem_t (mem_t (mem_t (mem_t (mem_t (mem_t (mem_t (mem_t (mem_t (mem_t (mem_t (mem_t (mem_t (mem_t (mem_h)))))))))))))))))) | exact mem_t (mem_t (mem_t (mem_t (mem_t (mem_t (mem_t (mem_t (mem_t (mem_t (mem_t (mem_t (mem_t (mem_t (mem_t (mem_t (mem_t (mem_t (mem_t (mem_h))))))))))))))))))) | exact mem_t (mem_t (mem_t (mem_t (mem_t (mem_t (mem_t (mem_t (mem_t (mem_t (mem_t (mem_t (mem_t (mem_t (mem_t (mem_t (mem_t (mem_t (mem_t (mem_t (mem_h)))))))))))))))))))) | exact mem_t (mem_t (mem_t (mem_t (mem_t (mem_t (mem_t (mem_t (mem_t (mem_t (mem_t (mem_t (mem_t (mem_t (mem_t (mem_t (mem_t (mem_t (mem_t (mem_t (mem_t (mem_h))))))))))))))))))))) | exact mem_t (mem_t (mem_t (mem_t (mem_t (mem_t (mem_t (mem_t (mem_t (mem_t (mem_t (mem_t (mem_t (mem_t (mem_t (mem_t (mem_t (mem_t (mem_t (mem_t (mem_t (mem_t (mem_h)))))))))))))))))))))) | exact mem_t (mem_t (mem_t (mem_t (mem_t (mem_t (mem_t (mem_t (mem_t (mem_t (mem_t (mem_t (mem_t (mem_t (mem_t (mem_t (mem_t (mem_t (mem_t (mem_t (mem_t (mem_t (mem_t (mem_h))))))))))))))))))))))) | exact mem_t (mem_t (mem_t (mem_t (mem_t (mem_t (mem_t (mem_t (mem_t (mem_t (mem_t (mem_t (mem_t (mem_t (mem_t (mem_t (mem_t (mem_t (mem_t (mem_t (mem_t (mem_t (mem_t (mem_t (mem_h)))))))))))))))))))))))) | exact mem_t (mem_t (mem_t (mem_t (mem_t (mem_t (mem_t (mem_t (mem_t (mem_t (mem_t (mem_t (mem_t (mem_t (mem_t (mem_t (mem_t (mem_t (mem_t (mem_t (mem_t (mem_t (mem_t (mem_t (mem_t (mem_h)))))))))))))))))))))))))
  k_with "x k_q1" => exact ltA (by with_reducible assumption) (by k_extra "x k_mm")
  k_with "x k_up" => first | exact ltP (by with_reducible assumption) | exact ltP (ltP (by with_reducible assumption)) | exact ltP (ltP (ltP (by with_reducible assumption))) | exact ltP (ltP (ltP (ltP (by with_reducible assumption)))) | exact ltP (ltP (ltP (ltP (ltP (by with_reducible assumption))))) | exact ltP (ltP (ltP (ltP (ltP (ltP (by with_reducible assumption)))))) | exact ltP (ltP (ltP (ltP (ltP (ltP (ltP (by with_reducible assumption))))))) | exact ltP (ltP (ltP (ltP (ltP (ltP (ltP (ltP (by with_reducible assumption))))))))
  k_with "x k_hi" => first | with_reducible assumption | k_extra "x k_q1" | exact ltR (by with_reducible assumption) (by k_extra "x k_mm") | k_extra "x k_up" | (refine Nat.lt_trans ?_ (by with_reducible assumption); k_extra "x k_hi")
  k_with "x k_l1" => first | k_extra "x k_q1" | exact ltZ | k_extra "x k_hi" | (refine ltS ?_; k_extra "x k_l1")
  k_with "x k_l2" => first | k_extra "x k_l1" | (refine Nat.lt_trans (by with_reducible assumption) ?_; k_extra "x k_l2")
  k_with "x k_lo" => ((fail_if_success (with_reducible show @LT.lt Nat _ _ 79)); k_extra "x k_l2")
  k_with "x k_ne" =>
    refine neN ?_
    try dsimp only
    first
      | with_reducible assumption
      | exact Ne.symm (by with_reducible assumption)
      | exact ne_lt (ltA (by with_reducible assumption) (by k_extra "x k_mm"))
      | exact ne_gt (ltA (by with_reducible assumption) (by k_extra "x k_mm"))
      | ((repeat refine ne_s ?_); first | exact ne_z1 | exact ne_z2 | exact ne_z3 | exact ne_z4 | exact ne_z5 | exact ne_z6 | exact ne_z7 | exact ne_z8 | exact ne_z1.symm | exact ne_z2.symm | exact ne_z3.symm | exact ne_z4.symm | exact ne_z5.symm | exact ne_z6.symm | exact ne_z7.symm | exact ne_z8.symm)
      | (refine ne_lt ?_; k_extra "x k_lo")
      | (refine ne_gt ?_; k_extra "x k_lo")
      | (simp only [AllLt, and_true] at *; omega)
  k_with "x eval ListComp" => refine stop ?_
  k_with "x call ref" => refine stop ?_
  k_with "x pyIter" => refine stop ?_
  k_with "x fn_comp" => (refine ⟨?_⟩; (with_unfolding_all refine comp_open (by with_unfolding_all rfl) (by rfl) (by decide) ?_ (fun _ => rfl)))
  trivial
theorem c_init (x dx st : Addr) (hxd : @LT.lt Nat _ dx x) : FD 400 w mean mg mb 35 [.ref x, .ref st] [(x, instObj 59 dx), (dx, dictOf [] 0)]
    (fun v P' => ∃ pb t1 t2 t3 t4 t5 t6, v = .none ∧ @LT.lt Nat _ x pb ∧ P' = [(pb, listOf #[] 0), (x, instObj 59 dx), (dx, dictOf [⟨PyData.keyHash w.params (Str.ofString "lineno"), .str "lineno" t1, .int 1 t2⟩, ⟨PyData.keyHash w.params (Str.ofString "instream"), .str "instream" t3, .ref st⟩, ⟨PyData.keyHash w.params (Str.ofString "whitespace"), .str "whitespace" t4, .str "\n\t\r " t5⟩, ⟨PyData.keyHash w.params (Str.ofString "pushback"), .str "pushback" t6, .ref pb⟩] 4)]) := by
  walk_at "fn_open"
  walk_at "steps"
  rename_i l1 _ _ _
  refine' ⟨Ends.sub (P' := [_, _, _]) (by k_asm) (by k_asm) (fun p hp => ?_) ⟨_, _, _, _, _, _, _, rfl, l1.1, rfl⟩⟩
  exact hp
end
section
local macro_rules | `(tactic| k_enter) => `(tactic| k_extra "x k_enter")
example : True := by
  k_with_none
  k_with "x fn_open" =>
    with_unfolding_all refine' Fn.plain ?ho ?hcd ?hbind ?hloc ?_ ?hD ?hco ?hgen ?hk ?hcell
    case ho => k_is
    case hcd => k_is
    case hbind => exact fun s => BindsTo.of_eq rfl
    case hloc => exact locs rfl
    case hD => decide
    case hco => exact rfl
    case hgen => exact rfl
    case hk => exact rfl
    case hcell => decide
    intro gd outer A₀ base g L s B X T F N lt
  k_with "x fn_cells" =>
    with_unfolding_all refine' Fn.cells ?ho ?hcd ?hbind ?hkind ?hnd ?_ ?hD ?hco ?hgen ?hk
    case ho => k_is
    case hcd => k_is
    case hbind => exact fun s => BindsTo.of_eq rfl
    case hkind => exact rfl
    case hnd => decide +kernel
    case hD => decide
    case hco => exact rfl
    case hgen => exact rfl
    case hk => exact rfl
    intro gd outer A₀ base g L s cells B X T F N Y lt
  k_with "x fn_top" =>
    with_unfolding_all refine' FnTop.cells ?ho ?hcd ?hbind ?hkind ?hnd ?_ ?hD ?hco ?hgen ?hk
    case ho => k_is
    case hcd => k_is
    case hbind => exact fun s => BindsTo.of_eq rfl
    case hkind => exact rfl
    case hnd => decide +kernel
    case hD => decide
    case hco => exact rfl
    case hgen => exact rfl
    case hk => exact rfl
    intro gd outer A₀ base g L s cells B X T HL F N Y lt
  k_with "x fn_made" =>
    with_unfolding_all refine' Fn.made ?ho ?hc ?hcd ?hcv ?hbind ?hloc ?_ ?hD ?hco ?hgen ?hk ?hcell
    case ho => k_mem
    case hc => k_mem
    case hcd => assumption
    case hcv => assumption
    case hbind => exact fun s => BindsTo.of_eq rfl
    case hloc => exact locs rfl
    case hD => decide
    case hco => exact rfl
    case hgen => exact rfl
    case hk => exact rfl
    case hcell => decide
    intro gd outer A₀ base g L s B X T F N lt
  k_with "x Ends" => refine stop ?_
  k_with "x steps" => repeat' (first | (k_unfold; (try dsimp only)) | walk1 | (dsimp only; walk1))
  k_with "x fn_pick" => first | exact Pick.here | (refine' Pick.there ?p1; (case p1 => k_extra "x fn_pick"))
  k_with "x fn_split" => first | exact Split.nil | (refine' Split.cons ?a1 ?b1; (case a1 => k_extra "x fn_pick"); (case b1 => k_extra "x fn_split"))
  k_with "x fn_nes" => first | exact all_nil | (refine' all_cons ?a2 ?b2; (case a2 => k_ne); (case b2 => k_extra "x fn_nes"))
  k_with "x fn_apart" => first | exact apart_nil | (refine' apart_cons ?a3 ?b3; (case a3 => k_extra "x fn_nes"); (case b3 => k_extra "x fn_apart"))
  k_with "x fn_here" => exact ⟨by k_asm, by k_asm, by k_asm, rfl, rfl, rfl, rfl, Nat.le_of_ble_eq_true rfl, Nat.le_of_ble_eq_true rfl⟩
  k_with "x fn_sub" => first | exact all_nil | (refine' all_cons ?a4 ?b4; (case a4 => k_mem); (case b4 => k_extra "x fn_sub"))
  k_with "x k_all" => first | exact all_nil | (refine' all_cons ?a5 ?b5; (case a5 => k_ne); (case b5 => k_all))
  k_with "x fn_ords" => first | exact all_nil | (refine' all_cons ?a6 ?b6; (case a6 => ((try dsimp only); first | k_extra "x k_lo" | exact Nat.le_refl _ | (refine Nat.le_of_lt ?_; k_extra "x k_lo") | (simp only [AllLt, and_true] at *; omega))); (case b6 => k_extra "x fn_ords"))
  k_with "x k_mm" => first | exact mem_h | exact mem_t (mem_h) | exact mem_t (mem_t (mem_h)) | exact mem_t (mem_t (mem_t (mem_h))) | exact mem_t (mem_t (mem_t (mem_t (mem_h)))) | exact mem_t (mem_t (mem_t (mem_t (mem_t (mem_h))))) | exact mem_t (mem_t (mem_t (mem_t (mem_t (mem_t (mem_h)))))) | exact mem_t (mem_t (mem_t (mem_t (mem_t (mem_t (mem_t (mem_h))))))) | exact mem_t (mem_t (mem_t (mem_t (mem_t (mem_t (mem_t (mem_t (mem_h)))))))) | exact mem_t (mem_t (mem_t (mem_t (mem_t (mem_t (mem_t (mem_t (mem_t (mem_h))))))))) | exact mem_t (mem_t (mem_t (mem_t (mem_t (mem_t (mem_t (mem_t (mem_t (mem_t (mem_h)))))))))) | exact mem_t (mem_t (mem_t (mem_t (mem_t (mem_t (mem_t (mem_t (mem_t (mem_t (mem_t (mem_h))))))))))) | exact mem_t (mem_t (mem_t (mem_t (mem_t (mem_t (mem_t (mem_t (mem_t (mem_t (mem_t (mem_t (mem_h)))))))))))) | exact mem_t (mem_t (mem_t (mem_t (mem_t (mem_t (mem_t (mem_t (mem_t (mem_t (mem_t (mem_t (mem_t (mem_h))))))))))))) | exact mem_t (mem_t (mem_t (mem_t (mem_t (mem_t (mem_t (mem_t (mem_t (mem_t (mem_t (mem_t (mem_t (mem_t (mem_h)))))))))))))) | exact mem_t (mem_t (mem_t (mem_t (mem_t (mem_t (mem_t (mem_t (mem_t (mem_t (mem_t (mem_t (mem_t (mem_t (mem_t (mem_h))))))))))))))) | exact mem_t (mem_t (mem_t (mem_t (mem_t (mem_t (mem_t (mem_t (mem_t (mem_t (mem_t (mem_t (mem_t (mem_t (mem_t (mem_t (mem_h)))))))))))))))) | exact mem_t (mem_t (mem_t (mem_t (mem_t (mem_t (mem_t (mem_t (mem_t (mem_t (mem_t (mem_t (mem_t (mem_t (mem_t (mem_t (mem_t (mem_h))))))))))))))))) | exact mem_t (mem_t (mem_t (mem_t (mem_t (mem_t (mem_t (mem_t (mem_t (mem_t (mem_t (mem_t (mem_t (mem_t (mem_t (mem_t (mem_t (mem_t (mem_h)))))))))))))))))) | exact mem_t (mem_t (mem_t (mem_t (mem_t (mem_t (mem_t (mem_t (mem_t (mem_t (mem_t (mem_t (mem_t (mem_t (mem_t (mem_t (mem_t (mem_t (mem_t (mem_h))))))))))))))))))) | exact mem_t (mem_t (mem_t (mem_t (mem_t (mem_t (mem_t (mem_t (mem_t (mem_t (mem_t (mem_t (mem_t (mem_t (mem_t (mem_t (mem_t (mem_t (mem_t (mem_t (mem_h)))))))))))))))))))) | exact mem_t (mem_t (mem_t (mem_t (mem_t (mem_t (mem_t (mem_t (mem_t (mem_t (mem_t (mem_t (mem_t (mem_t (mem_t (mem_t (mem_t (mem_t (mem_t (mem_t (mem_t (mem_h))))))))))))))))))))) | exact mem_t (mem_t (mem_t (mem_t (mem_t (mem_t (mem_t (mem_t (mem_t (mem_t (mem_t (mem_t (mem_t (mem_t (mem_t (mem_t (mem_t (mem_t (mem_t (mem_t (mem_t (mem_t (mem_h)))))))))))))))))))))) | exact mem_t (mem_t (mem_t (mem_t (mem_t (mem_t (mem_t (mem_t (mem_t (mem_t (mem_t (mem_t (mem_t (mem_t (mem_t (mem_t (mem_t (mem_t (mem_t (mem_t (mem_t (mem_t (mem_t (mem_h))))))))))))))))))))))) | exact mem_t (mem_t (mem_t (mem_t (mem_t (mem_t (mem_t (mem_t (mem_t (mem_t (mem_t (mem_t (mem_t (mem_t (mem_t (mem_t (mem_t (mem_t (mem_t (mem_t (mem_t (mem_t (mem_t (mem_t (mem_h)))))))))))))))))))))))) | exact mem_t (mem_t (mem_t (mem_t (mem_t (mem_t (mem_t (mem_t (mem_t (mem_t (mem_t (mem_t (mem_t (mem_t (mem_t (mem_t (mem_t (mem_t (mem_t (mem_t (mem_t (mem_t (mem_t (mem_t (mem_t (mem_h)))))))))))))))))))))))))
  k_with "x k_q1" => exact ltA (by with_reducible assumption) (by k_extra "x k_mm")
  k_with "x k_up" => first | exact ltP (by with_reducible assumption) | exact ltP (ltP (by with_reducible assumption)) | exact ltP (ltP (ltP (by with_reducible assumption))) | exact ltP (ltP (ltP (ltP (by with_reducible assumption)))) | exact ltP (ltP (ltP (ltP (ltP (by with_reducible assumption))))) | exact ltP (ltP (ltP (ltP (ltP (ltP (by with_reducible assumption)))))) | exact ltP (ltP (ltP (ltP (ltP (ltP (ltP (by with_reducible assumption))))))) | exact ltP (ltP (ltP (ltP (ltP (ltP (ltP (ltP (by with_reducible assumption))))))))
  k_with "x k_hi" => first | with_reducible assumption | k_extra "x k_q1" | exact ltR (by with_reducible assumption) (by k_extra "x k_mm") | k_extra "x k_up" | (refine Nat.lt_trans ?_ (by with_reducible assumption); k_extra "x k_hi")
  k_with "x k_l1" => first | k_extra "x k_q1" | exact ltZ | k_extra "x k_hi" | (refine ltS ?_; k_extra "x k_l1")
  k_with "x k_l2" => first | k_extra "x k_l1" | (refine Nat.lt_trans (by with_reducible assumption) ?_; k_extra "x k_l2")
  k_with "x k_lo" => ((fail_if_success (with_reducible show @LT.lt Nat _ _ 79)); k_extra "x k_l2")
  k_with "x k_ne" =>
    refine neN ?_
    try dsimp only
    first
      | with_reducible assumption
      | exact Ne.symm (by with_reducible assumption)
      | exact ne_lt (ltA (by with_reducible assumption) (by k_extra "x k_mm"))
      | exact ne_gt (ltA (by with_reducible assumption) (by k_extra "x k_mm"))
      | ((repeat refine ne_s ?_); first | exact ne_z1 | exact ne_z2 | exact ne_z3 | exact ne_z4 | exact ne_z5 | exact ne_z6 | exact ne_z7 | exact ne_z8 | exact ne_z1.symm | exact ne_z2.symm | exact ne_z3.symm | exact ne_z4.symm | exact ne_z5.symm | exact ne_z6.symm | exact ne_z7.symm | exact ne_z8.symm)
      | (refine ne_lt ?_; k_extra "x k_lo")
      | (refine ne_gt ?_; k_extra "x k_lo")
      | (simp only [AllLt, and_true] at *; omega)
  k_with "x eval ListComp" => refine stop ?_
  k_with "x call ref" => ((fail_if_success (show wpAny _ _ (call (Value.ref 59) _) _ _ _)); refine stop ?_)
  k_with "x pyIter" => refine stop ?_
  k_with "x fn_comp" => (refine ⟨?_⟩; (with_unfolding_all refine comp_open (by with_unfolding_all rfl) (by rfl) (by decide) ?_ (fun _ => rfl)))
  k_with "x exec For Name Name cons nil" => refine wpAny_For ?_ (by intro _; with_unfolding_all rfl)
  k_with "x exec For Name Call cons nil" => refine wpAny_For ?_ (by intro _; with_unfolding_all rfl)
  k_with "x exec For Tuple Call cons nil" => refine wpAny_For ?_ (by intro _; with_unfolding_all rfl)
  k_with "x exec For Name Name" => refine wpAny_For ?_ (by intro _; with_unfolding_all rfl)
  k_with "x exec For Name Call" => refine wpAny_For ?_ (by intro _; with_unfolding_all rfl)
  k_with "x last exec For Name Name" => refine wpAny_For ?_ (by intro _; with_unfolding_all rfl)
  k_with "x exec Assign cons ListComp" => refine stop ?_
  k_with "x k_enter" => refine stop ?_
  k_with "x fn_conj" => first | exact all_cons lA' all_nil | (refine all_cons lA'.1 ?_; replace lA' := lA'.2; k_extra "x fn_conj")
  k_with "x exec" => ((with_reducible show wpAny _ _ (exec (Stmt.While _ _ _ _) _) _ _ _); refine stop ?_)
  k_with "x subscriptTail Name BinOp ref int" => ((with_reducible show wpAny _ _ (subscriptTail _ _ _ (Value.int (Int.fmod _ (Nat.cast _)) _)) _ _ _); refine stop ?_)
  k_with "x KswPost" => refine stop ?_
  k_with "x storeName" => ((with_reducible show wpAny _ _ (storeName _ _ (Value.int (256 + Int.fmod _ 400) _)) _ _ _); refine stop ?_)
  k_with "x call type:zip" => refine stop ?_
  trivial
theorem kc_nine {cm : Str → Option Value} {n₀ n₁ n₂ n₃ n₄ n₅ n₆ n₇ n₈ : Str} {c₀ c₁ c₂ c₃ c₄ c₅ c₆ c₇ c₈ : Addr} {cells : List (Addr × Obj)} (x : CellsAre cm [(n₀, c₀), (n₁, c₁), (n₂, c₂), (n₃, c₃), (n₄, c₄), (n₅, c₅), (n₆, c₆), (n₇, c₇), (n₈, c₈)] cells) :
    ∃ o₀ o₁ o₂ o₃ o₄ o₅ o₆ o₇ o₈, cells = [(c₀, o₀), (c₁, o₁), (c₂, o₂), (c₃, o₃), (c₄, o₄), (c₅, o₅), (c₆, o₆), (c₇, o₇), (c₈, o₈)] ∧ o₀.data = .cell (cm n₀) ∧ o₁.data = .cell (cm n₁) ∧ o₂.data = .cell (cm n₂) ∧ o₃.data = .cell (cm n₃) ∧ o₄.data = .cell (cm n₄) ∧ o₅.data = .cell (cm n₅) ∧ o₆.data = .cell (cm n₆) ∧ o₇.data = .cell (cm n₇) ∧ o₈.data = .cell (cm n₈) := by
  cases x with | cons h r => obtain ⟨o₁, o₂, o₃, o₄, o₅, o₆, o₇, o₈, rfl, h₁, h₂, h₃, h₄, h₅, h₆, h₇, h₈⟩ := kc_eight r; exact ⟨_, o₁, o₂, o₃, o₄, o₅, o₆, o₇, o₈, rfl, h, h₁, h₂, h₃, h₄, h₅, h₆, h₇, h₈⟩
theorem c_law (lst : Addr) (items : List Value) (xs : List Int) (hx : IntsAre items xs) (hl : xs.length ≤ 63) :
    FnTop PySem.Challenge.pw_ta0007_01 w (hd.heap_39 w.params) topProg lse mean mg mb 301 301 113 [.ref lst] [(79, tabObj #[])] (fun g => g.IsList lst items.toArray) (fun v P' => ∃ ps, v = .bool true ∧ P' = [(79, tabObj ps)]) := by
  walk_at "fn_top"
  refine opq fun XX hXX => ?_
  obtain ⟨o0, o1, o2, o3, o4, o5, o6, o7, o8, rfl, d0, d1, d2, d3, d4, d5, d6, d7, d8⟩ := kc_nine Y
  refine hXX ?_
  clear hXX XX Y
  obtain ⟨m0, -, F⟩ := fr_gen F
  simp only [List.cons_append, List.nil_append] at N
  k_lt lt
  replace d0 : o0.data = .cell none := d0
  replace d1 : o1.data = .cell none := d1
  replace d2 : o2.data = .cell none := d2
  replace d3 : o3.data = .cell none := d3
  replace d4 : o4.data = .cell none := d4
  replace d5 : o5.data = .cell none := d5
  replace d6 : o6.data = .cell none := d6
  replace d7 : o7.data = .cell none := d7
  replace d8 : o8.data = .cell (some (.ref lst)) := d8
  walk_at "steps"
  rename_i h1 oSz F1 N1 dSz
  obtain ⟨n, hn, hn5, hn7⟩ : ∃ n : Nat, 5 + (xs.length : Int).fmod 3 = (n : Int) ∧ 5 ≤ n ∧ n ≤ 7 := by
    rw [Int.fmod_eq_emod_of_nonneg _ (by decide)]
    exact ⟨5 + xs.length % 3, by omega, by omega, by omega⟩
  obtain ⟨tSz, dSz⟩ : ∃ t, oSz.data = .cell (some (.int n t)) := ⟨_, by rw [dSz, hn]⟩
  walk_at "fn_comp"
  walk_at "steps"
  rename_i D1 ws1 h2 F2 N2 hI1 hC1 hL1 lD1
  refine ⟨iter_list_N F2 N2 (.head _) ?_⟩
  intro I oI St h3 S F3 N3 lt3
  refine' comp_pure S rfl (fun i ys => IntsAre ys (((xs.take 60).take i).map fun x => x.fmod 1000000)) F3 N3 lt3 (fun q hq => by rw [List.mem_singleton.mp hq]; exact .head _) .nil ?turnA ?hszA ?doneA ?bA1 ?bA2 ?bA3
  case bA1 => decide
  case bA2 => rfl
  case bA3 => rfl
  case hszA =>
    intro i ys hs
    rw [hs.length, List.length_map, List.length_take, sizeLine_eq]; omega
  case turnA =>
    rintro i ys v C D oI' oC mC kD h tk3 hi hv hs F4 N4 hns hxv
    obtain ⟨x, t1, rfl, hxi⟩ := ints_at hI1 hv
    refine comp_gen fun PY PN hPY hPN => ?_
    walk_at "steps"
    subst hPY
    refine PureEnd.intro (by k_asm) (by k_asm) ?_
    rw [take_snoc hxi, List.map_append]
    exact IntsAre.snoc hs _ _
  case doneA =>
    rintro ys D2 kD h4 tk3 hs F4 N4 hD
    walk_at "steps"
    refine ⟨?_⟩
    (with_reducible rename News _ _ _ _ => NN)
    replace NN := News.drop1 (News.drop1 NN)
    generalize (List.map (fun x : Int => x.fmod 1000000) (List.take ws1.toArray.size (List.take 60 xs))).sum = S
    obtain ⟨u, hu, hu1, hu2⟩ : ∃ u : Nat, 256 + S.fmod 400 = (u : Int) ∧ 256 ≤ u ∧ u ≤ 655 := by
      rw [Int.fmod_eq_emod_of_nonneg _ (by decide)]
      exact ⟨(256 + S % 400).toNat, by omega, by omega, by omega⟩
    rw [hu]
    clear hs hI1 hC1 hL1 lD1 lt3 hD hu
    walk_at "steps"
    rename_i oU dU tkF DF h6 lDF h7 oF F7 N7 dF
    obtain ⟨tU, dU⟩ : ∃ t, oU.data = .cell (some (.int (u : Int) t)) := ⟨_, dU⟩
    obtain ⟨fs, hfs, hIf⟩ := seven_lit 3 0 5 1 6 2 4 tkF (tkF + 1) (tkF + 1 + 1) (tkF + 1 + 1 + 1) (tkF + 1 + 1 + 1 + 1) (tkF + 1 + 1 + 1 + 1 + 1) (tkF + 1 + 1 + 1 + 1 + 1 + 1)
    rw [hfs] at N7
    clear hfs
    refine ⟨wpAny_Assign_Name ?_ (by with_unfolding_all rfl)⟩
    refine stop ?_
    walk_at "fn_comp"
    walk_at "steps"
    rename_i h8 tk8 q1 q2 q3 hrg F8 N8 hkeep
    refine ⟨iter_range_N (n := n) F8 N8 hrg (small_one (by omega) (by omega) (by omega) (by omega)) (by rw [rangeSize_one]; split <;> omega) ?_⟩
    intro I oI St h9 S F9 N9 lt9
    refine' comp_pure S rfl (fun i ys => ∃ us : List Nat, IntsAre ys (rowOf u us) ∧ us.length = i ∧ i ≤ n ∧ ∀ v ∈ us, v ≤ 6) F9 N9 lt9 (fun _ h => nomatch h) ⟨[], .nil, rfl, Nat.zero_le _, fun _ h => nomatch h⟩ ?turnB ?hszB ?doneB ?bB1 ?bB2 ?bB3
    case bB1 => decide
    case bB2 => rfl
    case bB3 => rfl
    case hszB =>
      rintro i ys ⟨us, hs, hl2, hin, -⟩
      rw [hs.length, rowOf, List.length_map, hl2, sizeLine_eq]; omega
    case turnB =>
      rintro i ys v C D oI' oC mC kD h tk3 hi ⟨t1, rfl⟩ ⟨us, hs, hl2, hin, hle⟩ F4 N4 hns hxv
      refine comp_gen fun PY PN hPY hPN => ?_
      walk_at "steps"
      · subst hPY
        refine PureEnd.intro (by k_asm) (by k_asm) ?_
        obtain ⟨us', q1, q2, q3⟩ := row_step hs hl2 hle _ _
        exact ⟨us', q1, q2, hi, q3⟩
      · subst hPY
        refine PureEnd.intro (by k_asm) (by k_asm) ?_
        obtain ⟨us', q1, q2, q3⟩ := row_step hs hl2 hle _ _
        exact ⟨us', q1, q2, hi, q3⟩
    case doneB =>
      rintro ysR D2 kR h4 tk3 ⟨us, hsR, hl2, -, hle⟩ F4 N4 hD
      k_lt hD
      (try clear hrg); (try clear hkeep); (try clear lt9)
      walk_at "steps"
      rename_i h10 oR F10 N10 dR
      have hrl : (rowOf u us).length = n := by rw [rowOf, List.length_map, hl2]
      have hus := us_le hle
      walk_at "fn_comp"
      walk_at "steps"
      rename_i h11 tk11 q1 q2 q3 hrg F11 N11 hkeep
      refine ⟨iter_range_N (n := n) F11 N11 hrg (small_one (by omega) (by omega) (by omega) (by omega)) (by rw [rangeSize_one]; split <;> omega) ?_⟩
      intro I oI St h12 S F12 N12 lt12
      refine' comp_pure S rfl (fun i ys => StrsAre ys ((List.range i).map fun k => txt (chunk u us k)) ∧ i ≤ n) F12 N12 lt12 (fun _ h => nomatch h) ⟨.nil, Nat.zero_le _⟩ ?turnC ?hszC ?doneC ?bC1 ?bC2 ?bC3
      case bC1 => decide
      case bC2 => rfl
      case bC3 => rfl
      case hszC =>
        rintro i ys ⟨hs, hin⟩
        rw [hs.len_eq, List.length_map, List.length_range, sizeLine_eq]; omega
      case turnC =>
        rintro i ys v C D oI' oC mC kD h tk3 hi ⟨t1, rfl⟩ ⟨hst, hin⟩ F4 N4 hns hxv
        have e0 : ((0 : Int) + (i : Int) * 1).toNat = i := by omega
        obtain ⟨sg, hsg, hs1, hs2, hs3⟩ := sign_pow i
        have hb := vu_bound (hus i) hu2
        obtain ⟨vv, hvv⟩ : ∃ vv, vv = us.getD i 0 := ⟨_, rfl⟩
        have hv6 : vv ≤ 6 := by rw [hvv]; exact hus i
        have hget : (rowOf u us).getD i 0 = (vv : Int) * (u : Int) := by rw [rowOf_get, hvv]
        rw [← hvv] at hb
        have hna : ((vv : Int) * (u : Int)).natAbs = vv * u := by rw [Int.natAbs_mul]; rfl
        refine comp_gen fun PY PN hPY hPN => ?_
        walk_at "steps"
        rw [e0, hsg, hget]
        walk_at "steps"
        refine ⟨?_⟩
        refine Fn.use (c_word ((vv : Int) * (u : Int) * sg) _ (by rw [Int.natAbs_mul, hs3, hna]; omega)) (by walk_at "fn_here") (by k_asm) (by k_asm) (by walk_at "fn_split") (by walk_at "fn_apart") ?_
        intro v P' h13 tk13 hp13 F13 N13 ap13
        clear ap13
        refine opq fun XX hXX => ?_
        obtain ⟨t13, rfl, rfl⟩ := hp13
        refine hXX ?_
        clear hXX XX
        simp only [List.nil_append] at N13
        have hwc : (apL ((vv : Int) * (u : Int) * sg).natAbs).map (·.toNat) = wcode ((vv : Int) * (u : Int)) := wcode_sign (x := (vv : Int) * (u : Int)) hs3
        rw [hwc]
        walk_at "steps"
        rw [e0, hget, fdiv_back (by omega), show ((vv : Int) + 5 * (0 + (i : Int) * 1)) = ((vv + 5 * i : Nat) : Int) by omega]
        refine ⟨?_⟩
        have hwl := wcode_len (x := (vv : Int) * (u : Int)) (by rw [hna]; omega)
        refine Fn.use (c_written (wcode ((vv : Int) * (u : Int))) _ _ (vv + 5 * i) (by omega) (by omega)) (by walk_at "fn_here") (by k_asm) (by k_asm) (by walk_at "fn_split") (by walk_at "fn_apart") ?_
        intro v P' h14 tk14 hp14 F14 N14 ap14
        clear ap14
        refine opq fun XX hXX => ?_
        obtain ⟨t14, rfl, rfl⟩ := hp14
        refine hXX ?_
        clear hXX XX
        simp only [List.nil_append] at N14
        subst hPY
        refine PureEnd.intro (by k_asm) (by k_asm) ⟨?_, hi⟩
        have hck : chunk u us i = wrt (wcode ((vv : Int) * (u : Int))) (vv + 5 * i) := by rw [chunk, hvv]
        rw [List.range_succ, List.map_append, List.map_singleton, hck]
        exact StrsAre.snoc hst _ _
      case doneC =>
        rintro ys D3 kD h4 tk3 ⟨hst, -⟩ F4 N4 hD
        k_lt hD
        walk_at "steps"
        refine join_listW (News.isList (by k_asm) (by k_mem)) hst (by decide) (Nat.le_trans (weigh_map (chunk u us) 43 (List.range n) fun a _ => chunk_len (hus a) hu2) (by rw [List.length_range]; omega)) ?_
        intro t15 tk15
        rw [join_map (chunk u us) (List.range n)]
        (with_reducible rename News _ _ _ _ => NN)
        replace NN := News.drop1 NN
        walk_at "steps"
        obtain ⟨l, hl0⟩ : ∃ l, l = ((List.range n).map (chunk u us)).flatten := ⟨_, rfl⟩
        rw [← hl0]
        have hll : l.length ≤ 400 := by
          rw [hl0]; exact Nat.le_trans (flat_len (fun a => chunk_len (hus a) hu2) n) (by omega)
        refine ⟨?_⟩
        refine FnB.use (c_stream l _ (by rw [sizeLine_eq]; omega)) (by walk_at "fn_here") (by k_asm) (by k_asm) (by walk_at "fn_split") (by walk_at "fn_apart") ?_
        intro B16 v P' h16 tk16 hp16 F16 N16 ap16 lt16
        clear ap16
        refine opq fun XX hXX => ?_
        obtain ⟨st, sd, rd, pl, cp, ct, c1, sfd, ssl, hsh, tn, rfd, oc1, ocp, oct, tp, nn, ps, rfl, rfl, ⟨b0, b1, b2, b3, b4, b5, b6⟩, hread⟩ := hp16
        refine hXX ?_
        clear hXX XX
        k_lt lt16
        simp only [streamP, List.cons_append, List.nil_append] at N16
        walk_at "steps"
        rename_i x dx hA7 FA NA lA lB
        refine ⟨?_⟩
        have lA' := lA
        refine Fn.useC (c_init x dx st lB) (by walk_at "fn_here") (by k_asm) (by k_asm) (by walk_at "fn_split") (apart_lt dx (by walk_at "fn_ords") (by walk_at "fn_ords")) ?_
        intro v P' hA1 tkA hp17 F17a N17a ap17
        clear ap17
        refine opq fun XX hXX => ?_
        obtain ⟨pb, ta1, ta2, ta3, ta4, ta5, ta6, rfl, lC, rfl⟩ := hp17
        refine hXX ?_
        clear hXX XX
        clear FA NA lA'
        simp only [List.cons_append, List.nil_append] at N17a
        dsimp only [InitBack]
        (try refine ⟨rfl, ?_⟩)
        walk_at "steps"
        rename_i h17 oX F17 N17 dX
        refine ⟨?_⟩
        with_unfolding_all refine comp_openA (by with_unfolding_all rfl) (by with_unfolding_all rfl) (by rfl) (by decide) ?_ (fun _ => rfl)
        walk_at "steps"
        rename_i h18 tk18 p1 p2 p3 hrg2 F18 N18 hkeep2
        have hG : ∃ k : Lx, k.Ok ∧ k.Reads w mean mg mb l ∧ (∃ tl, News g L h18 (k.At l 0 tp nn tl ++ [(k.pb, listOf #[] 0), (D2, listOf ysR.toArray kR), (79, tabObj ps), (L + 1 + 1 + 1 + 1 + 1 + 1 + 1 + 1 + 1, o0), (L + 1 + 1 + 1 + 1 + 1 + 1 + 1 + 1, o1), (L + 1 + 1 + 1 + 1 + 1 + 1 + 1, o2), (L + 1 + 1 + 1 + 1 + 1 + 1, oX), (L + 1 + 1 + 1 + 1 + 1, oR), (L + 1 + 1 + 1, oU), (L + 1 + 1, oSz)])) ∧ oX.data = .cell (some (.ref k.x)) ∧ @LT.lt Nat _ D2 k.ct := by
          refine ⟨⟨x, dx, st, sd, rd, pl, cp, ct, c1, pb, sfd, ssl, hsh, tn, rfd, oc1, ocp, oct, PyData.keyHash w.params (Str.ofString "lineno"), PyData.keyHash w.params (Str.ofString "instream"), PyData.keyHash w.params (Str.ofString "whitespace"), PyData.keyHash w.params (Str.ofString "pushback"), ta1, ta3, ta4, ta6, ta5⟩, ⟨b1, b2, b3, b4, b5, b6, lA.2.2.1, lB, lC⟩, hread, ⟨ta2, ?_⟩, dX, Nat.lt_of_lt_of_le lt16.1 (Nat.le_of_lt b0)⟩
          have e0 : lnAt l 0 = 1 := by unfold lnAt; rw [List.take_zero]; rfl
          simp only [Lx.At, Lx.P, Lx.stream, Lx.dict, streamP, e0, List.cons_append, List.nil_append]
          exact News.sub N18 (by walk_at "fn_sub")
        have lD2 : @LT.lt Nat _ (L + 1 + 1 + 1 + 1 + 1 + 1 + 1 + 1 + 1) D2 := by walk_at "k_lo"
        clear lDF hD lt12 lt16 lA lC lB N18 hread b0 b1 b2 b3 b4 b5 b6 hkeep hkeep2 hrg S hst hle
        clear dX
        obtain ⟨k, ok, hread, ⟨tl, NW⟩, dX, lkx⟩ := hG
        obtain ⟨a1, a2, a3, a4, a5, a6, a7, a8, a9⟩ := id ok
        have hapR : Apart (k.At l 0 tp nn tl ++ [(k.pb, listOf #[] 0)]) [(D2, listOf ysR.toArray kR), (79, tabObj ps), (L + 1 + 1 + 1 + 1 + 1 + 1 + 1 + 1 + 1, o0), (L + 1 + 1 + 1 + 1 + 1 + 1 + 1 + 1, o1), (L + 1 + 1 + 1 + 1 + 1 + 1 + 1, o2), (L + 1 + 1 + 1 + 1 + 1 + 1, oX), (L + 1 + 1 + 1 + 1 + 1, oR), (L + 1 + 1 + 1, oU), (L + 1 + 1, oSz)] := by
          have q1 := lt
          simp only [Lx.At, Lx.P, Lx.stream, streamP, List.cons_append, List.nil_append]
          exact apart_lt k.ct (by walk_at "fn_ords") (by walk_at "fn_ords")
        have hapL : Apart [(k.x, instObj 59 k.dx), (k.dx, k.dict 0 tl), (k.pb, listOf ([] : List Value).toArray 0)] [(79, tabObj ps), (L + 1 + 1 + 1 + 1 + 1 + 1 + 1 + 1 + 1, o0), (L + 1 + 1 + 1 + 1 + 1 + 1 + 1 + 1, o1), (L + 1 + 1 + 1 + 1 + 1 + 1 + 1, o2), (L + 1 + 1 + 1 + 1 + 1 + 1, oX), (L + 1 + 1 + 1 + 1 + 1, oR), (L + 1 + 1 + 1, oU), (L + 1 + 1, oSz)] := by
          have q1 := lt
          exact apart_lt k.dx (by walk_at "fn_ords") (by walk_at "fn_ords")
        refine ⟨iter_range_N (n := n) F18 NW hrg2 (small_one (by omega) (by omega) (by omega) (by omega)) (by rw [rangeSize_one]; split <;> omega) ?_⟩
        intro I oI St h19 S F19 N19 lt19
        refine' comp_srcA S rfl (fun c : Nat × Tok × Nat × Tok => k.At l c.1 c.2.1 c.2.2.1 c.2.2.2 ++ [(k.pb, listOf #[] 0), (D2, listOf ysR.toArray kR), (79, tabObj ps), (L + 1 + 1 + 1 + 1 + 1 + 1 + 1 + 1 + 1, o0), (L + 1 + 1 + 1 + 1 + 1 + 1 + 1 + 1, o1), (L + 1 + 1 + 1 + 1 + 1 + 1 + 1, o2), (L + 1 + 1 + 1 + 1 + 1 + 1, oX), (L + 1 + 1 + 1 + 1 + 1, oR), (L + 1 + 1 + 1, oU), (L + 1 + 1, oSz)]) (fun i ys c => StrsAre ys ((List.range i).map fun j => txt (wcode (((us.getD j 0 : Nat) : Int) * (u : Int)))) ∧ Left (restW u us n i) (l.drop c.1) ∧ i ≤ n) (0, tp, nn, tl) F19 N19 (fun p hp => Nat.ne_of_lt (lt19 p hp)) (fun _ _ _ _ _ h => nomatch h) ⟨.nil, .inl (by rw [List.drop_zero, hl0]; rfl), Nat.zero_le _⟩ ?turnD ?hszD ?doneD rfl rfl rfl ?hcD rfl rfl
        case hcD => decide
        case hszD =>
          rintro i ys c ⟨hs, -, hin⟩
          rw [hs.len_eq, List.length_map, List.length_range, sizeLine_eq]; omega
        case turnD =>
          rintro i ys v ⟨p, tp1, nn1, tl1⟩ C D oI' oC mC kD h tk3 hi ⟨t1, rfl⟩ ⟨hst, hlf, hin⟩ F4 N4 hoff hI4 hCD hns hxv
          dsimp only at hst hlf N4 hoff hI4
          have hns' : LCg.NsObj oC mC := hns
          have hP : ∀ q ∈ k.At l p tp1 nn1 tl1 ++ [(k.pb, listOf #[] 0)], q.1 ≠ C ∧ q.1 ≠ D ∧ q.1 ≠ I := by
            intro q hq
            have hq' : q ∈ (k.At l p tp1 nn1 tl1 ++ [(k.pb, listOf #[] 0), (D2, listOf ysR.toArray kR), (79, tabObj ps), (L + 1 + 1 + 1 + 1 + 1 + 1 + 1 + 1 + 1, o0), (L + 1 + 1 + 1 + 1 + 1 + 1 + 1 + 1, o1), (L + 1 + 1 + 1 + 1 + 1 + 1 + 1, o2), (L + 1 + 1 + 1 + 1 + 1 + 1, oX), (L + 1 + 1 + 1 + 1 + 1, oR), (L + 1 + 1 + 1, oU), (L + 1 + 1, oSz)]) := by
              rcases List.mem_append.mp hq with h | h
              · exact List.mem_append_left _ h
              · rw [List.mem_singleton.mp h]; exact List.mem_append_right _ (.head _)
            exact ⟨(hoff q (.tail _ hq')).1, (hoff q (.tail _ hq')).2, hI4 q hq'⟩
          have hap : Apart (k.At l p tp1 nn1 tl1 ++ [(k.pb, listOf #[] 0)]) ((C, oC) :: (D, listOf ys.toArray kD) :: (I, oI') :: [(D2, listOf ysR.toArray kR), (79, tabObj ps), (L + 1 + 1 + 1 + 1 + 1 + 1 + 1 + 1 + 1, o0), (L + 1 + 1 + 1 + 1 + 1 + 1 + 1 + 1, o1), (L + 1 + 1 + 1 + 1 + 1 + 1 + 1, o2), (L + 1 + 1 + 1 + 1 + 1 + 1, oX), (L + 1 + 1 + 1 + 1 + 1, oR), (L + 1 + 1 + 1, oU), (L + 1 + 1, oSz)]) :=
            apart_more (fun q hq => (hP q hq).1) (apart_more (fun q hq => (hP q hq).2.1) (apart_more (fun q hq => (hP q hq).2.2) (apart_same (by exact rfl) (by exact rfl) hapR)))
          obtain ⟨r, hsk, hlr⟩ := skip_wrt (wcode_ltr (((us.getD i 0 : Nat) : Int) * (u : Int))) (us.getD i 0 + 5 * i) (restW u us n (i + 1))
          have hsk2 : skip (l.drop p) = some (wcode (((us.getD i 0 : Nat) : Int) * (u : Int)), r) := by
            rw [skip_left hlf, restW_at hi]; exact hsk
          simp only [Lx.At, Lx.P, Lx.stream, streamP, List.cons_append, List.nil_append] at N4
          refine comp_gen fun PY PN hPY hPN => ?_
          walk_at "steps"
          refine ⟨?_⟩
          refine Fn.use (c_get_read k ok l (by omega) hread p tp1 nn1 tl1 0 _ _ hsk2) (by walk_at "fn_here") (by k_asm) (by k_asm) (by walk_at "fn_split") hap ?_
          intro v P' h20 tk20 hpq F20 N20 apq
          clear apq
          refine opq fun XX hXX => ?_
          obtain ⟨tv, p', tp', n', tl', rfl, hdp, rfl⟩ := hpq
          refine hXX ?_
          clear hXX XX
          simp only [Lx.At, Lx.P, Lx.stream, streamP, List.cons_append, List.nil_append] at N20
          walk_at "steps"
          subst hPY
          refine' CompEnd.intro (p', tp', n', tl') (by k_asm) (by k_asm) ?kpD ?suD (off_same (by exact rfl) fun q hq => hoff q (.tail _ hq)) ⟨addr_all (R := fun a => a ≠ I) (by exact rfl) hI4, ?stD, ?lfD, hi⟩
          case kpD => walk_at "fn_sub"
          case suD => simp only [Lx.At, Lx.P, Lx.stream, streamP, List.cons_append, List.nil_append]; walk_at "fn_sub"
          case stD =>
            rw [List.range_succ, List.map_append, List.map_singleton]
            exact StrsAre.snoc hst _ _
          case lfD => rw [hdp]; exact hlr
        case doneD =>
          rintro ysW ⟨p, tpD, nnD, tlD⟩ DW kW h20 tk20 ⟨hst, -, -⟩ F20 N20 hDne hDlt
          have lDW : @LT.lt Nat _ k.pb DW := hDlt (k.pb, listOf #[] 0) (List.mem_append_right _ (.head _))
          clear hDne hDlt hapR hread S lt19
          obtain ⟨ln, hln⟩ : ∃ ln, ln = lnAt l p := ⟨_, rfl⟩
          replace N20 : News g L h20 [(k.x, instObj 59 k.dx), (k.dx, k.dict ln tlD), (k.pb, listOf ([] : List Value).toArray 0), (DW, listOf ysW.toArray kW), (D2, listOf ysR.toArray kR), (79, tabObj ps), (L + 1 + 1 + 1 + 1 + 1 + 1 + 1 + 1 + 1, o0), (L + 1 + 1 + 1 + 1 + 1 + 1 + 1 + 1, o1), (L + 1 + 1 + 1 + 1 + 1 + 1 + 1, o2), (L + 1 + 1 + 1 + 1 + 1 + 1, oX), (L + 1 + 1 + 1 + 1 + 1, oR), (L + 1 + 1 + 1, oU), (L + 1 + 1, oSz)] := by
            simp only [Lx.At, Lx.P, Lx.stream, streamP, ← hln, List.cons_append, List.nil_append] at N20
            exact News.sub N20 (by walk_at "fn_sub")
          clear hln N19 F19 NW F18
          walk_at "steps"
          refine ⟨iter_list_N F20 N20 (.tail _ (.tail _ (.tail _ (.head _)))) ?_⟩
          intro I oI St h21 S F21 N21 lt21
          have hwl : ysW.length = n := by rw [hst.len_eq, List.length_map, List.length_range]
          have iDW : @LT.lt Nat _ DW I := lt21 _ (.tail _ (.tail _ (.tail _ (.head _))))
          refine' for_src (σ := Nat × Nat) S rfl (fun c => [(k.x, instObj 59 k.dx), (k.dx, k.dict ln tlD), (k.pb, listOf (ysW.take c.1).toArray c.2), (DW, listOf ysW.toArray kW), (D2, listOf ysR.toArray kR), (79, tabObj ps), (L + 1 + 1 + 1 + 1 + 1 + 1 + 1 + 1 + 1, o0), (L + 1 + 1 + 1 + 1 + 1 + 1 + 1 + 1, o1), (L + 1 + 1 + 1 + 1 + 1 + 1 + 1, o2), (L + 1 + 1 + 1 + 1 + 1 + 1, oX), (L + 1 + 1 + 1 + 1 + 1, oR), (L + 1 + 1 + 1, oU), (L + 1 + 1, oSz)]) (fun _ => []) ["word"] (fun i c => c.1 = i) (0, 0) F21 N21 (fun q hq => Nat.ne_of_lt (lt21 q hq)) (fun _ h => nomatch h) (fun i c _ q hq => by rw [List.mem_singleton.mp hq]; exact .tail _ (.tail _ (.tail _ (.head _)))) rfl ?turnE ?doneE
          case turnE =>
            rintro i ⟨j, nb⟩ u h22 tk22 v oI' hi hv hj F22 N22 hI
            dsimp only at hj N22 hI
            subst hj
            have hlt := lt
            refine turn_gen fun QB hQB => ?_
            walk_at "steps"
            refine ⟨?_⟩
            refine Fn.use (c_push k ok ln tlD v (ysW.take j) nb (by rw [List.length_take]; omega)) (by walk_at "fn_here") (by k_asm) (by k_asm) (by walk_at "fn_split") (apart_more (by walk_at "fn_nes") (apart_more (by walk_at "fn_nes") (apart_more (by walk_at "fn_nes") (apart_same (by exact rfl) (by exact rfl) hapL)))) ?_
            intro v' P' h23 tk23 hpq F23 N23 apq
            clear apq
            refine opq fun XX hXX => ?_
            obtain ⟨n23, rfl, rfl⟩ := hpq
            refine hXX ?_
            clear hXX XX
            simp only [List.cons_append, List.nil_append] at N23
            rw [← take_snoc (show ysW[j]? = some v by simpa [ItemAt] using hv)] at N23
            walk_at "steps"
            subst hQB
            refine' LedEnd.intro (j + 1, n23) (by k_asm) (by k_asm) ?subE (fun _ h => nomatch h) ?hrE ⟨addr_all (R := fun a => a ≠ I) (by exact rfl) hI, rfl⟩
            case subE => walk_at "fn_sub"
            case hrE =>
              intro z z1 z2
              have n3 : z ≠ "word" := fun e => by subst e; exact absurd z2 (by decide)
              (try dsimp only)
              simp only [if_neg n3, kstB, z2, Bool.false_eq_true, if_false]
          case doneE =>
            rintro ⟨j, nb⟩ uE h22 tk22 hj F22 N22
            dsimp only at hj N22
            subst hj
            rw [List.size_toArray, List.take_length] at N22
            have hwv : StrsAre ysW ((rowOf u us).map fun x => txt (wcode x)) := by
              rw [← row_words, hl2]; exact hst
            have hus6 : ∀ v ∈ us, v ≤ 6 := fun v hv => by
              obtain ⟨i, hi, rfl⟩ := List.getElem_of_mem hv
              have := hus i
              rwa [List.getD_eq_getElem?_getD, List.getElem?_eq_getElem hi] at this
            have hq := lt
            walk_at "steps"
            refine ⟨?_⟩
            refine Fn.use (c_turnR k ok ln tlD ysW nb (rowOf u us) n hrl (by omega) hn7 _ (row_bound hu2 hus6) hwv) (by walk_at "fn_here") (by k_asm) (by k_asm) (by walk_at "fn_split") (apart_more (by walk_at "fn_nes") (apart_more (by walk_at "fn_nes") (apart_same (by exact rfl) (by exact rfl) hapL))) ?_
            intro v' P' h23 tk23 hpq F23 N23 ap23
            refine opq fun XX hXX => ?_
            obtain ⟨DT, ysT, vs1, n1, n2, rfl, hsT, hv1, rfl⟩ := hpq
            refine hXX ?_
            clear hXX XX
            simp only [List.cons_append, List.nil_append] at N23
            rw [abs_row] at hsT hv1
            have nDT : @Ne Nat DT (L + 1 + 1 + 1 + 1 + 1 + 1 + 1) := ap23 (DT, listOf ysT.toArray n2) (.tail _ (.tail _ (.tail _ (.head _)))) (L + 1 + 1 + 1 + 1 + 1 + 1 + 1, o2) (by k_mem)
            have nDW : @LT.lt Nat _ (L + 1 + 1 + 1 + 1 + 1 + 1 + 1 + 1 + 1) DW := by omega
            clear ap23 lt21 S hrg2
            walk_at "steps"
            rename_i MX tX kX aM bM hX oT FX NX dT
            obtain ⟨r0, hr0⟩ := ducci_ends 6 us hus6
            have hl9 := lt
            have neD : @LT.lt Nat _ (L + 1 + 1 + 1 + 1 + 1 + 1 + 1 + 1 + 1) D2 := lD2
            have ne1 : @Ne Nat D2 k.x := by omega
            have ne2 : @Ne Nat D2 k.dx := by omega
            have ne3 : @Ne Nat D2 k.pb := by omega
            clear hst hwv hwl
            refine ⟨?_⟩
            with_unfolding_all refine' ksw_while (σ := List Nat × Addr × List Value × Nat × Obj × Obj × List Value × Nat × Nat) (fun c => [(k.x, instObj 59 k.dx), (k.dx, k.dict ln tlD), (k.pb, listOf c.2.2.2.2.2.2.1.toArray c.2.2.2.2.2.2.2.1), (c.2.1, listOf c.2.2.1.toArray c.2.2.2.1), (79, tabObj ps), (L + 1 + 1 + 1 + 1 + 1 + 1 + 1 + 1 + 1, o0), (L + 1 + 1 + 1 + 1 + 1 + 1 + 1 + 1, o1), (L + 1 + 1 + 1 + 1 + 1 + 1 + 1, c.2.2.2.2.2.1), (L + 1 + 1 + 1 + 1 + 1 + 1, oX), (L + 1 + 1 + 1 + 1 + 1, c.2.2.2.2.1), (L + 1 + 1 + 1, oU), (L + 1 + 1, oSz)]) (fun _ => []) (fun _ => True) [] (fun c => (c.1.length = n ∧ (∀ v ∈ c.1, v ≤ 6) ∧ IntsAre c.2.2.1 (rowOf u c.1) ∧ c.2.2.2.2.1.data = .cell (some (.ref c.2.1)) ∧ (∃ M t, c.2.2.2.2.2.1.data = .cell (some (.int M t)) ∧ M ∈ rowOf u c.1 ∧ ∀ a ∈ rowOf u c.1, a ≤ M) ∧ StrsAre c.2.2.2.2.2.2.1 ((dn (rowOf u c.1)).map fun x => txt (wcode x))) ∧ (@LT.lt Nat _ (L + 1 + 1 + 1 + 1 + 1 + 1 + 1 + 1 + 1) c.2.1 ∧ @Ne Nat c.2.1 k.x ∧ @Ne Nat c.2.1 k.dx ∧ @Ne Nat c.2.1 k.pb) ∧ ∃ t, t ≤ c.2.2.2.2.2.2.2.2 ∧ okRow (itD t c.1)) (fun c => c.2.2.2.2.2.2.2.2) (us, D2, ysR, kR, oR, oT, vs1, n1, r0) FX ?nF trivial (fun _ h => nomatch h) ⟨⟨hl2, hus6, hsR, dR, ⟨MX, tX, dT, aM, bM⟩, hv1⟩, ⟨neD, ne1, ne2, ne3⟩, r0, Nat.le_refl _, hr0⟩ ?turnF ?hEF
            case nF => exact News.sub NX (by walk_at "fn_sub")
            case turnF =>
              clear ne1 ne2 ne3 neD hr0 hv1 dT aM bM hsR dR hrl hus hus6 hsT nDT nDW lDW iDW hl2 hl0 lD2
              rintro ⟨us', DR, ysR', kR', oR', oT', vs', nb', r⟩ uF h24 tk24 - ⟨⟨hl2, hus6, hsR, dR, ⟨M, tM, dT, aM, bM⟩, hv1⟩, ⟨e1, e2, e3, e4⟩, hterm⟩ F24 N24
              dsimp only at hl2 hus6 hsR dR dT aM bM hv1 e1 e2 e3 e4 hterm N24
              obtain ⟨mF, hmF, F24⟩ := fr_gen F24
              refine while_gen fun QB QN hQB hQN => ?_
              walk_at "steps"
              walk_at "fn_comp"
              walk_at "steps"
              refine ⟨iter_list_N F24 N24 (by k_mem) ?_⟩
              intro I oI St h25 S F25 N25 lt25
              refine' comp_pure S rfl (fun i ys => IntsAre ys (((rowOf u us').take i).filter fun x => decide (x ≠ 0) && decide (x ≠ M)) ∧ ys.length ≤ i ∧ i ≤ n) F25 N25 lt25 (fun q hq => by rw [List.mem_singleton.mp hq]; exact .tail _ (.tail _ (.tail _ (.head _)))) ⟨.nil, Nat.le_refl _, Nat.zero_le _⟩ ?turnG ?hszG ?doneG ?bG1 ?bG2 ?bG3
              case bG1 => decide
              case bG2 => rfl
              case bG3 => rfl
              case hszG =>
                rintro i ys ⟨-, h1, h2⟩
                rw [sizeLine_eq]; omega
              case turnG =>
                rintro i ys v C D oI' oC mC kD h26 tk26 hi hv ⟨hs, hy, hin⟩ F26 N26 hns hxv
                obtain ⟨x, t1, rfl, hxi⟩ := ints_at hsR hv
                have hin' : i < n := by
                  have e := hsR.length
                  rw [rowOf_len, hl2] at e
                  rw [List.size_toArray] at hi
                  omega
                refine comp_gen fun PY PN hPY hPN => ?_
                walk_at "steps"
                · rename_i g0 g1
                  subst hPY
                  refine PureEnd.intro (by k_asm) (by k_asm) ⟨?_, by rw [List.length_append, List.length_singleton]; omega, hin'⟩
                  rw [flt_yes hxi (by rw [decide_eq_true g0, decide_eq_true g1]; rfl)]
                  exact IntsAre.snoc hs _ _
                · rename_i g0 g1
                  subst hPN
                  refine PureEnd.intro (by k_asm) (by k_asm) ⟨?_, by omega, hin'⟩
                  rw [flt_no hxi (by rw [decide_eq_false (p := x ≠ M) (fun h => h g1), Bool.and_false])]
                  exact hs
                · rename_i g0
                  subst hPN
                  refine PureEnd.intro (by k_asm) (by k_asm) ⟨?_, by omega, hin'⟩
                  rw [flt_no hxi (by rw [decide_eq_false (p := x ≠ 0) (fun h => h g0), Bool.false_and])]
                  exact hs
              case doneG =>
                rintro ysF DF kF h26 tk26 ⟨hs, -, -⟩ F26 N26 hD26
                rw [List.size_toArray, hsR.length, List.take_length] at hs
                obtain ⟨zs, hz⟩ : ∃ zs, zs = (rowOf u us').filter fun x => decide (x ≠ 0) && decide (x ≠ M) := ⟨_, rfl⟩
                rw [← hz] at hs
                k_lt hD26
                walk_at "steps"
                · clear hQB QB
                  subst hQN
                  walk_at "steps"
                  rename_i hR tkR p7 p8 p9 hrg3 FT NT hkeep3
                  have hzs : zs = [] := of_decide_eq_true (by assumption)
                  obtain ⟨hRe, hR6, hR15⟩ := rnd_eq hn5 hn7
                  rw [hRe] at hrg3 FT
                  obtain ⟨R, hRn⟩ : ∃ R, R = rnd n := ⟨_, rfl⟩
                  rw [← hRn] at hrg3 FT hR6 hR15
                  replace NT := News.sub (P := [(k.x, instObj 59 k.dx), (k.dx, k.dict ln tlD), (k.pb, listOf vs'.toArray nb'), (DR, listOf ysR'.toArray kR'), (79, tabObj ps), (L + 1 + 1 + 1 + 1 + 1 + 1 + 1 + 1 + 1, o0), (L + 1 + 1 + 1 + 1 + 1 + 1 + 1 + 1, o1), (L + 1 + 1 + 1 + 1 + 1 + 1 + 1, oT'), (L + 1 + 1 + 1 + 1 + 1 + 1, oX), (L + 1 + 1 + 1 + 1 + 1, oR'), (L + 1 + 1 + 1, oU), (L + 1 + 1, oSz)]) NT (by walk_at "fn_sub")
                  subst hzs
                  clear hs hterm hD26 lt25 hkeep3
                  have hrl : (rowOf u us').length = n := by rw [rowOf_len, hl2]
                  have htell : Tells us' u n R M := by rw [hRn]; exact tells hu1 hl2 hn5 hn7 aM hz
                  refine ⟨iter_range_N (n := R + 3) FT NT hrg3 (small_one (by omega) (by omega) (by omega) (by omega)) (by rw [rangeSize_one]; split <;> omega) ?_⟩
                  intro I oI St h27 S F27 N27 lt27
                  refine' for_src (σ := Obj × Obj × List Value × Nat) S rfl (fun c => [(k.x, instObj 59 k.dx), (k.dx, k.dict ln tlD), (k.pb, listOf c.2.2.1.toArray c.2.2.2), (DR, listOf ysR'.toArray kR'), (79, tabObj ps), (L + 1 + 1 + 1 + 1 + 1 + 1 + 1 + 1 + 1, c.1), (L + 1 + 1 + 1 + 1 + 1 + 1 + 1 + 1, c.2.1), (L + 1 + 1 + 1 + 1 + 1 + 1 + 1, oT'), (L + 1 + 1 + 1 + 1 + 1 + 1, oX), (L + 1 + 1 + 1 + 1 + 1, oR'), (L + 1 + 1 + 1, oU), (L + 1 + 1, oSz)]) (fun _ => []) ["turn", "lives", "told", "x", "live"] (fun i c => StrsAre c.2.2.1 ((dn (rowOf u (itD i us'))).map fun x => txt (wcode x)) ∧ (∃ w0, c.1.data = .cell w0) ∧ (∃ w1, c.2.1.data = .cell w1)) (o0, o1, vs', nb') F27 N27 (fun q hq => Nat.ne_of_lt (lt27 q hq)) (fun _ h => nomatch h) (fun _ _ _ _ h => nomatch h) ⟨hv1, ⟨_, d0⟩, ⟨_, d1⟩⟩ ?turnT ?doneT
                  case turnT =>
                    rintro i ⟨oP, oS, vs2, nb2⟩ uT h28 tk28 v oI' hi ⟨t1, rfl⟩ ⟨hv2, ⟨w0, dP⟩, ⟨w1, dS⟩⟩ F28 N28 hI28
                    dsimp only at hv2 dP dS N28 hI28
                    have lI : @LT.lt Nat _ k.pb I := lt27 (k.pb, _) (.tail _ (.tail _ (.head _)))
                    have lI2 : @LT.lt Nat _ DR I := lt27 (DR, _) (.tail _ (.tail _ (.tail _ (.head _))))
                    clear lt27 S hrg3 FT NT
                    obtain ⟨mK, hmK, hmR, F28⟩ := fr_gen1 (x := Str.ofString "rounds") F28 rfl
                    refine turn_gen fun QB hQB => ?_
                    walk1
                    walk1
                    walk1
                    walk1
                    (with_reducible rename Fr _ _ _ _ => FQ)
                    obtain ⟨mT, hmT⟩ := fr_name FQ
                    refine' wpAny_mono (Q := fun f s' => Stop (f = .next ∧ ∃ h' tk' oS' st t, s' = { s with heap := h', toks := tk' } ∧ Fr g L h' mT ∧ News g L h' [(I, oI'), (k.x, instObj 59 k.dx), (k.dx, k.dict ln tlD), (k.pb, listOf vs2.toArray nb2), (DR, listOf ysR'.toArray kR'), (79, tabObj ps), (L + 1 + 1 + 1 + 1 + 1 + 1 + 1 + 1 + 1, oP), (L + 1 + 1 + 1 + 1 + 1 + 1 + 1 + 1, oS'), (L + 1 + 1 + 1 + 1 + 1 + 1 + 1, oT'), (L + 1 + 1 + 1 + 1 + 1 + 1, oX), (L + 1 + 1 + 1 + 1 + 1, oR'), (L + 1 + 1 + 1, oU), (L + 1 + 1, oSz)] ∧ oS'.data = .cell (some (.int ((st : Nat) : Int) t)) ∧ st = stp R i)) ?fstT ?rstT ?errT
                    case errT => exact fun _ _ e => e
                    case fstT =>
                      walk_at "steps"
                      · rename_i hQ oQ FQ2 NQ dQ
                        refine ⟨rfl, _, _, oQ, i + 1, t1, rfl, by rw [hmT]; exact FQ2, NQ, ?_, by rw [stp, if_pos (by omega)]⟩
                        rw [dQ, show (1 : Int) + (i : Int) * 1 = ((i + 1 : Nat) : Int) by omega]
                      · rename_i hQ oQ FQ2 NQ dQ
                        obtain ⟨tq, dQ⟩ : ∃ t, oQ.data = .cell (some (.int (1 + (i : Int) * 1 - (R : Int)) t)) := ⟨_, dQ⟩
                        refine ⟨rfl, _, _, oQ, i + 1 - R, tq, rfl, by rw [hmT]; exact FQ2, NQ, ?_, by rw [stp, if_neg (by omega)]⟩
                        rw [dQ, show (1 : Int) + (i : Int) * 1 - (R : Int) = ((i + 1 - R : Nat) : Int) by omega]
                    case rstT =>
                      subst hmT
                      rintro f s' ⟨rfl, h29, tk29, oS2, st, t2, rfl, F29, N29, dS2, hst⟩
                      have hst16 : st ≤ 16 := by rw [hst, stp]; split <;> omega
                      walk_at "steps"
                      refine ⟨wpAny_Assign_Name ?_ (by with_unfolding_all rfl)⟩
                      refine stop ?_
                      walk_at "fn_comp"
                      walk_at "steps"
                      rename_i h30 tk30 p10 p11 p12 hrg4 F30 N30 hkeep4
                      refine ⟨iter_range_N (n := st + 1) F30 N30 hrg4 (small_one (by omega) (by omega) (by omega) (by omega)) (by rw [rangeSize_one]; split <;> omega) ?_⟩
                      intro I2 oI2 St2 h31 S F31 N31 lt31
                      clear hkeep4 hrg4 F30 N30
                      refine' comp_pure S rfl (fun i ys => IntsAre ys (((List.range i).filter fun j => j &&& st == j).map fun (j : Nat) => (j : Int)) ∧ ys.length ≤ i ∧ i ≤ st + 1) F31 N31 lt31 (fun _ h => nomatch h) ⟨.nil, Nat.le_refl _, Nat.zero_le _⟩ ?turnL ?hszL ?doneL ?bL1 ?bL2 ?bL3
                      case bL1 => decide
                      case bL2 => rfl
                      case bL3 => rfl
                      case hszL =>
                        rintro i ys ⟨-, h1, h2⟩
                        rw [sizeLine_eq]; omega
                      case turnL =>
                        rintro i2 ys v C D oI2' oC mC kD h32 tk32 hi2 ⟨t3, rfl⟩ ⟨hs, hy, hin⟩ F32 N32 hns hxv
                        clear S lt31
                        refine comp_gen fun PY PN hPY hPN => ?_
                        walk_at "steps"
                        · rename_i g0
                          rw [bit_and] at g0
                          subst hPY
                          refine PureEnd.intro (by k_asm) (by k_asm) ⟨?_, by rw [List.length_append, List.length_singleton]; omega, hi2⟩
                          rw [rng_yes (by rw [beq_iff_eq]; omega), List.map_append, show (0 : Int) + (i2 : Int) * 1 = (i2 : Int) by omega]
                          exact IntsAre.snoc hs _ _
                        · rename_i g0
                          rw [bit_and] at g0
                          subst hPN
                          refine PureEnd.intro (by k_asm) (by k_asm) ⟨?_, by omega, hi2⟩
                          rw [rng_no (by rw [beq_eq_false_iff_ne]; omega)]
                          exact hs
                      case doneL =>
                        rintro ysP DP kP h32 tk32 ⟨hsP, hyP, -⟩ F32 N32 hD32
                        have hlen : ysP.length ≤ 17 := by omega
                        k_lt hD32
                        replace hsP : IntsAre ysP ((plc st).map fun (j : Nat) => (j : Int)) := hsP
                        walk_at "steps"
                        refine ⟨?_⟩
                        with_unfolding_all refine comp_openA (by with_unfolding_all rfl) (by with_unfolding_all rfl) (by rfl) (by decide) ?_ (fun _ => rfl)
                        walk_at "steps"
                        rename_i h33 tk33 p13 p14 p15 hrg5 F33 N33 hkeep5
                        refine ⟨iter_range_N (n := n) F33 N33 hrg5 (small_one (by omega) (by omega) (by omega) (by omega)) (by rw [rangeSize_one]; split <;> omega) ?_⟩
                        intro I3 oI3 St3 h34 S F34 N34 lt34
                        clear hkeep5 hrg5 F33 N33
                        refine' comp_pureC S rfl (fun i ys => ys = (List.range i).map (fun k => Value.bool (livB (rowOf u us') n st k)) ∧ i ≤ n) F34 N34 lt34 (fun _ h => nomatch h) ⟨rfl, Nat.zero_le _⟩ ?turnM ?hszM ?doneM rfl rfl rfl ?cM1 ?cM2 ?cM3 ?cM4
                        case cM1 => rfl
                        case cM2 => exact fun a => rfl
                        case cM3 => exact fun h => rfl
                        case cM4 => rfl
                        case hszM =>
                          rintro i ys ⟨rfl, h2⟩
                          rw [List.length_map, List.length_range, sizeLine_eq]; omega
                        case turnM =>
                          rintro kk ys v C D K oI4 oC oK kD h35 tk35 hkk ⟨t3, rfl⟩ ⟨hys, -⟩ F35 N35 dK ltI ltD ltC ltK
                          clear S lt34
                          refine comp_gen fun PYo PNo hPYo hPNo => ?_
                          walk_at "steps"
                          walk_at "fn_comp"
                          walk_at "steps"
                          refine ⟨iter_list_N (by k_asm) (by k_asm) (by k_mem) ?_⟩
                          intro I5 oI5 St5 h36 S F36 N36 lt36
                          refine' comp_pure S rfl (fun i ys => IntsAre ys ((((plc st).take i).filter fun j => decide ((rowOf u us').getD ((kk + j) % n) 0 ≠ 0)).map fun (j : Nat) => (j : Int)) ∧ ys.length ≤ i ∧ i ≤ 17) F36 N36 lt36 (fun q hq => by rw [List.mem_singleton.mp hq]; exact .tail _ (.tail _ (.tail _ (.tail _ (.head _))))) ⟨.nil, Nat.le_refl _, Nat.zero_le _⟩ ?turnN ?hszN ?doneN ?bN1 ?bN2 ?bN3
                          case bN1 => decide
                          case bN2 => rfl
                          case bN3 => rfl
                          case hszN =>
                            rintro i ys ⟨-, h1, h2⟩
                            rw [sizeLine_eq]; omega
                          case turnN =>
                            rintro i6 ys6 v C6 D6 oI6 oC6 mC6 kD6 h37 tk37 hi6 hv ⟨hs, hy, hin⟩ F37 N37 hns hxv
                            have hP6 := hsP.length
                            rw [List.length_map] at hP6
                            rw [List.size_toArray] at hi6
                            obtain ⟨xj, t6, rfl, hxj⟩ := ints_at hsP hv
                            rw [List.getElem?_map] at hxj
                            obtain ⟨j, hj, rfl⟩ := Option.map_eq_some_iff.mp hxj
                            obtain ⟨q, hq1, hq2, hqn⟩ := far_place (k := kk) (j := j) (n := n) (by omega)
                            clear S lt36
                            refine comp_gen fun PY PN hPY hPN => ?_
                            walk_at "steps"
                            refine ⟨?_⟩
                            rw [hq1]
                            walk_at "steps"
                            · rename_i g0
                              rw [Int.toNat_natCast, hq2] at g0
                              subst hPY
                              refine PureEnd.intro (by k_asm) (by k_asm) ⟨?_, by rw [List.length_append, List.length_singleton]; omega, by omega⟩
                              rw [flt_yes hj (decide_eq_true g0), List.map_append]
                              exact IntsAre.snoc hs _ _
                            · rename_i g0
                              rw [Int.toNat_natCast, hq2] at g0
                              subst hPN
                              refine PureEnd.intro (by k_asm) (by k_asm) ⟨?_, by omega, by omega⟩
                              rw [flt_no hj (decide_eq_false (fun h => h g0))]
                              exact hs
                          case doneN =>
                            rintro ys6 D6 kD6 h37 tk37 ⟨hs6, -, -⟩ F37 N37 hD37
                            k_lt hD37
                            have hP6 := hsP.length
                            rw [List.length_map] at hP6
                            rw [List.size_toArray, hP6, List.take_length] at hs6
                            obtain ⟨zs6, hz6⟩ : ∃ zs6, zs6 = ((plc st).filter fun j => decide ((rowOf u us').getD ((kk + j) % n) 0 ≠ 0)).map fun (j : Nat) => (j : Int) := ⟨_, rfl⟩
                            have hz17 : zs6.length ≤ 17 := by
                              rw [hz6, List.length_map]
                              exact Nat.le_trans (List.length_filter_le _ _) (by omega)
                            rw [← hz6] at hs6
                            walk_at "steps"
                            (with_reducible rename News _ _ _ _ => NN)
                            subst hPYo
                            refine PureEnd.intro (by k_asm) (News.sub NN (by walk_at "fn_sub")) ⟨?_, hkk⟩
                            rw [List.range_succ, List.map_append, List.map_singleton, hys, odd_b, hz6, List.length_map]
                            rfl
                        case doneM =>
                          rintro ysL DL kL h35 tk35 ⟨rfl, -⟩ F35 N35 hD35
                          k_lt hD35
                          walk_at "steps"
                          refine ⟨?_⟩
                          refine Fn.use (c_turnR k ok ln tlD vs2 nb2 (dn (rowOf u (itD i us'))) n (by rw [dn_len, rowOf_len, itD_len, hl2]) (by omega) hn7 _ (dn_bound (row_le hu2 (itD_le i hus6))) hv2) (by walk_at "fn_here") (by k_asm) (by k_asm) (by walk_at "fn_split") (apart_more (by walk_at "fn_nes") (apart_more (by walk_at "fn_nes") (apart_more (by walk_at "fn_nes") (apart_more (by walk_at "fn_nes") (apart_same (by exact rfl) (by exact rfl) hapL))))) ?_
                          intro v' P' h36 tk36 hpq F36 N36 ap36
                          refine opq fun XX hXX => ?_
                          obtain ⟨DT, ysT, vs3, n1, n2, rfl, hsT, hv3, rfl⟩ := hpq
                          refine hXX ?_
                          clear hXX XX
                          simp only [List.cons_append, List.nil_append] at N36
                          rw [abs_dn, ← itD_next] at hsT hv3
                          walk_at "steps"
                          have hpl : rowOf u (itD (i + 1) us') = lvM (rowOf u us') n st M := by rw [hst]; exact htell i hi
                          rw [hpl] at hsT
                          walk_at "fn_comp"
                          walk_at "steps"
                          refine ⟨iter_list_N (by k_asm) (by k_asm) (by k_mem) ?_⟩
                          intro I7 oI7 St7 h37 S F37 N37 lt37
                          refine' comp_pure S rfl (fun i ys => IntsAre ys ((lvM (rowOf u us') n st M).take i) ∧ ys.length ≤ i ∧ i ≤ n) F37 N37 lt37 (fun q hq => by rw [List.mem_singleton.mp hq]; exact .tail _ (.tail _ (.tail _ (.tail _ (.head _))))) ⟨.nil, Nat.le_refl _, Nat.zero_le _⟩ ?turnP ?hszP ?doneP ?bP1 ?bP2 ?bP3
                          case bP1 => decide
                          case bP2 => rfl
                          case bP3 => rfl
                          case hszP =>
                            rintro i ys ⟨-, h1, h2⟩
                            rw [sizeLine_eq]; omega
                          case turnP =>
                            rintro i7 ys7 v C7 D7 oI8 oC7 mC7 kD7 h38 tk38 hi7 hv ⟨hs, hy, hin⟩ F38 N38 hns hxv
                            obtain ⟨rfl, hi7n⟩ := live_at hv
                            have hat := lvM_at (ns := rowOf u us') (st := st) (M := M) hi7n
                            clear S lt37 hsT
                            refine comp_gen fun PY PN hPY hPN => ?_
                            cases hb : livB (rowOf u us') n st i7 with
                            | true =>
                              rw [hb] at hxv hat
                              walk_at "steps"
                              subst hPY
                              refine PureEnd.intro (by k_asm) (by k_asm) ⟨?_, by rw [List.length_append, List.length_singleton]; omega, hi7n⟩
                              rw [take_snoc hat]
                              exact IntsAre.snoc hs _ _
                            | false =>
                              rw [hb] at hxv hat
                              walk_at "steps"
                              subst hPY
                              refine PureEnd.intro (by k_asm) (by k_asm) ⟨?_, by rw [List.length_append, List.length_singleton]; omega, hi7n⟩
                              rw [take_snoc hat]
                              exact IntsAre.snoc hs _ _
                          case doneP =>
                            rintro ys7 D7 kD7 h38 tk38 ⟨hs7, -, -⟩ F38 N38 hD38
                            rw [List.size_toArray, List.length_map, List.length_range, List.take_of_length_le (by rw [lvM, List.length_map, List.length_range]; exact Nat.le_refl _)] at hs7
                            clear S lt37
                            walk_at "steps"
                            refine ⟨for_zip rfl (by k_asm) (by k_asm) (by k_mem) (by k_mem) rfl rfl rfl ?stepZ ?doneZ⟩
                            case stepZ =>
                              rintro i8 v0 v1 h39 tk39 own hx8 hy8 F39 N39
                              obtain ⟨x8, t8, rfl, hxi8⟩ := ints_at (i := i8) hsT (show ysT.toArray[i8]? = some v0 by simpa using hx8)
                              obtain ⟨rfl, hi8⟩ := live_at (i := i8) (v := v1) (show (List.toArray _)[i8]? = some v1 by simpa using hy8)
                              have hx := lv_item hi8 hxi8
                              clear hxi8 hx8 hy8
                              obtain ⟨mv, hmv, hmv6⟩ := top_mul aM hus6
                              have hdiv : M.fdiv (u : Int) = (mv : Int) := by rw [hmv]; exact fdiv_back (by omega)
                              have hM0 : 0 ≤ M := by rw [hmv]; exact Int.mul_nonneg (Int.natCast_nonneg _) (Int.natCast_nonneg _)
                              replace F39 : Fr g L h39 _ := F39
                              replace N39 : News g L h39 _ := N39
                              have Nl := News.sub (P := [(DL, listOf ((List.range n).map (fun k => Value.bool (livB (rowOf u us') n st k))).toArray kL), (L + 1 + 1 + 1, oU)]) N39 (fun p hp => List.mem_append_right _ (by revert p; walk_at "fn_sub"))
                              cases hb : livB (rowOf u us') n st i8 with
                              | true =>
                                have h256 := live_top (u := u) hu1 aM bM hb
                                rw [hb, if_pos rfl] at hx
                                subst hx
                                rw [hb] at F39
                                refine post_gen fun QZ hQZ => ?_
                                walk_at "steps"
                                refine ⟨?_⟩
                                refine Fn.use (c_isnt x8 _) (by walk_at "fn_here") (by k_asm) N39 .nil apart_nil ?_
                                intro v' P' h40 tk40 hpq F40 N40 apq
                                clear apq
                                refine opq fun XX hXX => ?_
                                obtain ⟨rfl, rfl⟩ := hpq
                                refine hXX ?_
                                clear hXX XX
                                simp only [List.nil_append] at N40
                                replace Nl := News.sub (P := [(DL, listOf ((List.range n).map (fun k => Value.bool (livB (rowOf u us') n st k))).toArray kL), (L + 1 + 1 + 1, oU)]) N40 (fun p hp => List.mem_append_right _ (by revert p; walk_at "fn_sub"))
                                rw [decide_eq_true h256]
                                walk_at "steps"
                                refine ⟨?_⟩
                                refine Fn.use (c_isnt _ _) (by walk_at "fn_here") (by k_asm) N40 .nil apart_nil ?_
                                intro v' P' h41 tk41 hpq F41 N41 apq
                                clear apq
                                refine opq fun XX hXX => ?_
                                obtain ⟨rfl, rfl⟩ := hpq
                                refine hXX ?_
                                clear hXX XX
                                simp only [List.nil_append] at N41
                                replace Nl := News.sub (P := [(DL, listOf ((List.range n).map (fun k => Value.bool (livB (rowOf u us') n st k))).toArray kL), (L + 1 + 1 + 1, oU)]) N41 (fun p hp => List.mem_append_right _ (by revert p; walk_at "fn_sub"))
                                rw [hdiv, decide_eq_false (by omega)]
                                walk_at "steps"
                                refine ⟨?_⟩
                                refine Fn.use (c_iseof x8 _) (by walk_at "fn_here") (by k_asm) N41 .nil apart_nil ?_
                                intro v' P' h42 tk42 hpq F42 N42 apq
                                clear apq
                                refine opq fun XX hXX => ?_
                                obtain ⟨rfl, rfl⟩ := hpq
                                refine hXX ?_
                                clear hXX XX
                                simp only [List.nil_append] at N42
                                replace Nl := News.sub (P := [(DL, listOf ((List.range n).map (fun k => Value.bool (livB (rowOf u us') n st k))).toArray kL), (L + 1 + 1 + 1, oU)]) N42 (fun p hp => List.mem_append_right _ (by revert p; walk_at "fn_sub"))
                                rw [show (x8 == 0) = false from beq_eq_false_iff_ne.mpr (by omega)]
                                walk_at "steps"
                                subst hQZ
                                refine ⟨_, _, rfl, ?_, N42⟩
                                exact F42
                              | false =>
                                rw [hb, if_neg Bool.false_ne_true] at hx
                                subst hx
                                rw [hb] at F39
                                refine post_gen fun QZ hQZ => ?_
                                walk_at "steps"
                                refine ⟨?_⟩
                                refine Fn.use (c_isnt 0 _) (by walk_at "fn_here") (by k_asm) N39 .nil apart_nil ?_
                                intro v' P' h40 tk40 hpq F40 N40 apq
                                clear apq
                                refine opq fun XX hXX => ?_
                                obtain ⟨rfl, rfl⟩ := hpq
                                refine hXX ?_
                                clear hXX XX
                                simp only [List.nil_append] at N40
                                replace Nl := News.sub (P := [(DL, listOf ((List.range n).map (fun k => Value.bool (livB (rowOf u us') n st k))).toArray kL), (L + 1 + 1 + 1, oU)]) N40 (fun p hp => List.mem_append_right _ (by revert p; walk_at "fn_sub"))
                                rw [show decide ((256 : Int) ≤ 0) = false from rfl]
                                walk_at "steps"
                                refine ⟨?_⟩
                                refine Fn.use (c_isnt _ _) (by walk_at "fn_here") (by k_asm) N40 .nil apart_nil ?_
                                intro v' P' h41 tk41 hpq F41 N41 apq
                                clear apq
                                refine opq fun XX hXX => ?_
                                obtain ⟨rfl, rfl⟩ := hpq
                                refine hXX ?_
                                clear hXX XX
                                simp only [List.nil_append] at N41
                                replace Nl := News.sub (P := [(DL, listOf ((List.range n).map (fun k => Value.bool (livB (rowOf u us') n st k))).toArray kL), (L + 1 + 1 + 1, oU)]) N41 (fun p hp => List.mem_append_right _ (by revert p; walk_at "fn_sub"))
                                rw [show (0 : Int).fdiv (u : Int) = 0 from Int.zero_fdiv _, show decide ((256 : Int) ≤ 0) = false from rfl]
                                walk_at "steps"
                                refine ⟨?_⟩
                                refine Fn.use (c_iseof 0 _) (by walk_at "fn_here") (by k_asm) N41 .nil apart_nil ?_
                                intro v' P' h42 tk42 hpq F42 N42 apq
                                clear apq
                                refine opq fun XX hXX => ?_
                                obtain ⟨rfl, rfl⟩ := hpq
                                refine hXX ?_
                                clear hXX XX
                                simp only [List.nil_append] at N42
                                replace Nl := News.sub (P := [(DL, listOf ((List.range n).map (fun k => Value.bool (livB (rowOf u us') n st k))).toArray kL), (L + 1 + 1 + 1, oU)]) N42 (fun p hp => List.mem_append_right _ (by revert p; walk_at "fn_sub"))
                                rw [show ((0 : Int) == 0) = true from rfl]
                                walk_at "steps"
                                subst hQZ
                                refine ⟨_, _, rfl, ?_, N42⟩
                                exact F42
                            case doneZ =>
                              rintro h39 tk39 m39 F39 hm39 N39
                              replace F39 : Fr g L h39 m39 := F39
                              replace N39 : News g L h39 _ := N39
                              walk_at "steps"
                              subst hQB
                              refine' LedEnd.intro (_, oS2, vs3, n1) (by k_asm) (by k_asm) ?subR (fun _ h => nomatch h) ?hrR ⟨?offR, hv3, ⟨_, ?dPR⟩, ⟨_, dS2⟩⟩
                              case subR => walk_at "fn_sub"
                              case dPR => assumption
                              case offR => exact addr_all (R := fun a => a ≠ I) (by exact rfl) hI28
                              case hrR =>
                                intro z z1 z2
                                have e1 : z ≠ "turn" := fun e => by subst e; exact absurd z2 (by decide)
                                have e2 : z ≠ "lives" := fun e => by subst e; exact absurd z2 (by decide)
                                have e3 : z ≠ "told" := fun e => by subst e; exact absurd z2 (by decide)
                                have e4 : z ≠ "x" := fun e => by subst e; exact absurd z2 (by decide)
                                have e5 : z ≠ "live" := fun e => by subst e; exact absurd z2 (by decide)
                                rw [hm39 z e4 e5]
                                (try dsimp only)
                                have e6 : ∀ v, mK (Str.ofString "rounds") = some v → (if z = Str.ofString "rounds" then some v else mK z) = mK z := fun v hv => by
                                  by_cases hz : z = Str.ofString "rounds"
                                  · rw [if_pos hz, hz]; exact hv.symm
                                  · rw [if_neg hz]
                                rw [if_neg e3, if_neg e2, if_neg e1, e6 _ hmR, ← hmK]
                                simp only [kstB, z2, Bool.false_eq_true, if_false]
                  case doneT =>
                    rintro ⟨oP, oS, vs2, nb2⟩ uT h28 tk28 ⟨hv2, -, -⟩ F28 N28
                    dsimp only at hv2 N28
                    walk_at "steps"
                    refine' ⟨Ends.sub (P' := [(79, tabObj ps)]) (by k_asm) (by k_asm) ?subS ⟨ps, rfl, rfl⟩⟩
                    case subS => walk_at "fn_sub"
                · rename_i lE hE FE NE lE1 zne
                  have hnok : ¬ okRow us' := by
                    have hzs : zs ≠ [] := of_decide_eq_false zne
                    obtain ⟨x, hx⟩ := List.exists_mem_of_ne_nil zs hzs
                    rw [hz, List.mem_filter, Bool.and_eq_true] at hx
                    exact not_ok aM bM hx.1 (of_decide_eq_true hx.2.1) (of_decide_eq_true hx.2.2)
                  obtain ⟨hr1, hterm2⟩ := ends_next hterm hnok
                  clear hterm hnok zne hz hs lE1
                  replace NE := News.sub (P := [(k.x, instObj 59 k.dx), (k.dx, k.dict ln tlD), (k.pb, listOf vs'.toArray nb'), (DR, listOf ysR'.toArray kR'), (79, tabObj ps), (L + 1 + 1 + 1 + 1 + 1 + 1 + 1 + 1 + 1, o0), (L + 1 + 1 + 1 + 1 + 1 + 1 + 1 + 1, o1), (L + 1 + 1 + 1 + 1 + 1 + 1 + 1, oT'), (L + 1 + 1 + 1 + 1 + 1 + 1, oX), (L + 1 + 1 + 1 + 1 + 1, oR'), (L + 1 + 1 + 1, oU), (L + 1 + 1, oSz)]) NE (by walk_at "fn_sub")
                  have hrl : (rowOf u us').length = n := by rw [rowOf_len, hl2]
                  refine ⟨wpAny_Assign_Name ?_ (by with_unfolding_all rfl)⟩
                  refine stop ?_
                  walk_at "fn_comp"
                  walk_at "steps"
                  rename_i h27 tk27 p4 p5 p6 hrg F27 N27 hkeep
                  refine ⟨iter_range_N (n := n) F27 N27 hrg (small_one (by omega) (by omega) (by omega) (by omega)) (by rw [rangeSize_one]; split <;> omega) ?_⟩
                  intro I oI St h28 S F28 N28 lt28
                  clear hrg hkeep F27 N27
                  refine' comp_pure S rfl (fun i ys => IntsAre ys (rowOf u ((duc us').take i)) ∧ ys.length ≤ i ∧ i ≤ n) F28 N28 lt28 (fun _ h => nomatch h) ⟨by rw [List.take_zero]; exact .nil, Nat.le_refl _, Nat.zero_le _⟩ ?turnH ?hszH ?doneH ?bH1 ?bH2 ?bH3
                  case bH1 => decide
                  case bH2 => rfl
                  case bH3 => rfl
                  case hszH =>
                    rintro i ys ⟨-, h1, h2⟩
                    rw [sizeLine_eq]; omega
                  case turnH =>
                    rintro i ys v C D oI' oC mC kD h29 tk29 hi ⟨t1, rfl⟩ ⟨hs, hy, hin⟩ F29 N29 hns hxv
                    clear S lt28
                    obtain ⟨j, hj, hj2, hjn⟩ := next_place (i := i) (n := n) (by omega)
                    refine comp_gen fun PY PN hPY hPN => ?_
                    walk_at "steps"
                    refine ⟨?_⟩
                    rw [hj]
                    walk_at "steps"
                    obtain ⟨dv, hdv, hde⟩ := duc_at (u := u) hl2 hi
                    have e0 : ((0 : Int) + (i : Int) * 1).toNat = i := by omega
                    rw [e0, Int.toNat_natCast, hj2]
                    subst hPY
                    refine PureEnd.intro (by k_asm) (by k_asm) ⟨?_, by rw [List.length_append, List.length_singleton]; omega, hi⟩
                    rw [rowOf_snoc hdv, ← hde, abs_ite]
                    exact IntsAre.snoc hs _ _
                  case doneH =>
                    rintro ysN DN kN h29 tk29 ⟨hsN, -, -⟩ F29 N29 hD29
                    k_lt hD29
                    rw [List.take_of_length_le (by rw [duc_len, hl2]; exact Nat.le_refl _)] at hsN
                    have hl2' : (duc us').length = n := by rw [duc_len, hl2]
                    have hus6' : ∀ v ∈ duc us', v ≤ 6 := duc_le hus6
                    have hrl' : (rowOf u (duc us')).length = n := by rw [rowOf_len, hl2']
                    walk_at "steps"
                    rename_i oR1 dR1 tkR hMX MX tX kX aM2 bM2 hX oT1 FX NX dT1
                    refine ⟨?_⟩
                    refine Fn.use (c_turnR k ok ln tlD vs' nb' (dn (rowOf u us')) n (by rw [dn_len, rowOf_len, hl2]) (by omega) hn7 _ (dn_bound (row_le hu2 hus6)) hv1) (by walk_at "fn_here") (by k_asm) (by k_asm) (by walk_at "fn_split") (apart_more (by walk_at "fn_nes") (apart_more (by walk_at "fn_nes") (apart_same (by exact rfl) (by exact rfl) hapL))) ?_
                    intro v' P' h30 tk30 hpq F30 N30 ap30
                    refine opq fun XX hXX => ?_
                    obtain ⟨DT, ysT, vs1, n1, n2, rfl, hsT, hv2, rfl⟩ := hpq
                    refine hXX ?_
                    clear hXX XX
                    simp only [List.cons_append, List.nil_append] at N30
                    rw [abs_dn] at hsT hv2
                    clear ap30 hv1 hsR
                    walk_at "steps"
                    subst hQB
                    subst hmF
                    refine' ksw_end (duc us', DN, ysN, kN, oR1, oT1, vs1, n1, r - 1) (by k_asm) (by k_asm) ?subJ trivial (fun _ h => nomatch h) (fun _ _ _ => rfl) ⟨⟨hl2', hus6', hsN, dR1, ⟨MX, tX, dT1, aM2, bM2⟩, hv2⟩, ⟨?q1, ?q2, ?q3, ?q4⟩, hterm2⟩ ?mJ
                    case subJ => walk_at "fn_sub"
                    case q1 => exact hD29.2.2.2.2.2.1
                    case q2 => exact Ne.symm (Nat.ne_of_lt hD29.1)
                    case q3 => exact Ne.symm (Nat.ne_of_lt hD29.2.1)
                    case q4 => exact Ne.symm (Nat.ne_of_lt hD29.2.2.1)
                    case mJ => exact Nat.sub_lt hr1 Nat.one_pos
            case hEF => passes_own
end
end Mine
end
section
open PySem PySem.W PyProof.Rows PySem.Calls
namespace Mine
example : True := by
  k_with_none
  trivial
theorem law_holds : PySem.Challenge.rw_ta0007_01.Holds := hd (by
  k_fill
  intro w s₀ s₁ mg mb G Y fa o pm cd doc dV kV ho hdd hcd hD hmg hg args vals as hpre hlay hrd hwl hlo
  have KX := km_in_of Y
  km_tabs Y
  have X := (Ground.X G).1
  have V := (Ground.X G).2
  refine Ground.open G ?_
  intro T B D TE TW
  try (refine guard_noD D (by decide +kernel) ?_; clear D)
  have hfa : some (Value.ref 113) = some (Value.ref fa) := (mg_of (n := Str.ofString "law") KX (Top.g T) (by kernel_rfl)).symm.trans hmg
  km_lay T hmg ho hdd cd
  clear hmg
  wrow_args hpre hlay hrd hwl hlo
  all_goals (first | refine callC_kw (enter_call ?_) | refine enter_call ?_)
  w_top on
  kn_posts
  cases hfa
  rename_i xs _ _ _ _ _ _ _ lst items _ hL2 _ _ _ hI _ hc1 _
  have hlen : xs.length ≤ 63 := by
    have h1 : ¬ ((63 : Nat) : Int) < (xs.length : Int) := hc1
    omega
  refine c_law (w := w) (mean := ExcName.means s₀.heap) (mg := mg) (mb := mb) lst items xs hI hlen callerA (ghostOf s₁.heap [(83, 79)]) s₁ _ rfl rfl (by decide) (by decide) (ghost_K hT9 KX (by kernel_rfl)) (ghost_top hT9 T) (ghost_list hT9 hL2) (fun b o e => of_hideAll _ e) (Nat.le_of_eq (hideAll_size _ _)) ?_ ?_
  · intro p hp
    rw [List.mem_singleton.mp hp]
    exact ⟨(hT9 (83, 79) (.head _)).2, hideAll_none _ (.head _)⟩
  · rintro v P' L m h' tk' ⟨ps, rfl, rfl⟩ F N
    refine ⟨goodW_bool F hg (raisesW_false ?_) ?_, ⟨ps, (N _ (.head _)).1⟩, trivial⟩
    · wrow_none_raised
    · wrow_post)
end Mine
end
theorem PySem.Challenge.cw_ta0007_01_holds : PySem.Challenge.rw_ta0007_01.Holds := by
  exact Mine.law_holds
