import PyProof.Rows.All
import Wide.All
import OpenK.AllK
import Wide.FinOn
import PySem.Challenge.RW_ta0007_02
set_option Elab.async false
set_option maxRecDepth 100000
set_option maxHeartbeats 8000000
set_option linter.all false
set_option genInjectivity false
set_option genSizeOf false

section
open PySem PySem.W PyProof.Rows
namespace Mine
open_top hd for PySem.Challenge.rw_ta0007_02
end Mine
end
section
open PySem PySem.W PyProof.Rows PySem.Calls PyProof PyProof.V
namespace Mine
noncomputable def apL : Nat → List UInt8
  | 0 => []
  | n + 1 => apL ((n + 1) / 16) ++ [UInt8.ofNat (65 + (n + 1) % 16)]
decreasing_by omega
theorem apL_step {n : Nat} (h : n ≠ 0) : apL n = apL (n / 16) ++ [UInt8.ofNat (65 + n % 16)] := by
  cases n with
  | zero => exact absurd rfl h
  | succ n => rw [apL]
theorem apL_zero : apL 0 = [] := by rw [apL]
theorem apL_len : ∀ (k n : Nat), n < 16 ^ k → (apL n).length ≤ k := by
  intro k
  induction k with
  | zero => intro n h; have : n = 0 := by simpa using h
            subst this; rw [apL_zero]; exact Nat.le_refl _
  | succ k ih =>
    intro n h
    by_cases h0 : n = 0
    · subst h0; rw [apL_zero]; exact Nat.zero_le _
    · rw [apL_step h0, List.length_append, List.length_singleton]
      have : n / 16 < 16 ^ k := by rw [Nat.div_lt_iff_lt_mul (by decide)]; rwa [Nat.pow_succ] at h
      have := ih _ this
      omega
noncomputable abbrev apTab : Array UInt8 := #[65, 66, 67, 68, 69, 70, 71, 72, 73, 74, 75, 76, 77, 78, 79, 80]
theorem ap_pick0 : ∀ j : Fin 16, KBy.picked apTab (some (j.val : Int)) (some ((j.val : Int) + 1)) = #[UInt8.ofNat (65 + j.val)] := by decide +kernel
theorem ap_pick {k : Int} (h0 : 0 ≤ k) (h1 : k < 16) : KBy.picked apTab (some k) (some (k + 1)) = #[UInt8.ofNat (65 + k.toNat)] := by
  have := ap_pick0 ⟨k.toNat, by omega⟩
  rwa [show (((⟨k.toNat, by omega⟩ : Fin 16).val : Nat) : Int) = k from by simp only; omega] at this
theorem ap_turn {num : Int} {val : List UInt8} {N : Nat} (hn : 0 ≤ num) (h0 : num ≠ 0) (hv : apL num.toNat ++ val = apL N) :
    0 ≤ num.fdiv 16 ∧ apL (num.fdiv 16).toNat ++ ([UInt8.ofNat (65 + (num.fmod 16).toNat)] ++ val) = apL N ∧ (num.fdiv 16).toNat < num.toNat ∧ 0 ≤ num.fmod 16 ∧ num.fmod 16 < 16 := by
  rw [Int.fdiv_eq_ediv_of_nonneg _ (by decide), Int.fmod_eq_emod_of_nonneg _ (by decide)]
  have e1 : (num / 16).toNat = num.toNat / 16 := by omega
  have e2 : (num % 16).toNat = num.toNat % 16 := by omega
  refine ⟨by omega, ?_, by omega, by omega, by omega⟩
  rw [← hv, e1, e2, apL_step (n := num.toNat) (by omega), List.append_assoc]
end Mine
namespace Mine
noncomputable abbrev txt (l : List Nat) : Str := ⟨l.toArray⟩
theorem txt_len (l : List Nat) : (txt l).length = l.length := by simp [Str.length]
noncomputable def sgn (l : List Nat) (p : Nat) : List Nat := (l.drop p).take 1
theorem slice_sgn (l : List Nat) (p : Nat) : Txt.slice (txt l) (some (p : Int)) (some ((p : Int) + 1)) = txt (sgn l p) := by
  by_cases h : p + 1 ≤ l.length
  · have e := eq_of_beq (PyProof.Rows.slice_closes (x := txt l) (i := (p : Int)) (j := (p : Int) + 1) ⟨by omega, by omega, by show _ ≤ (((txt l).cps.toList.length : Nat) : Int); simp only [txt]; omega⟩)
    rw [e]
    simp only [txt, sgn, Int.toNat_natCast, show ((p : Int) + 1 - p).toNat = 1 by omega]
  · have hi : PySem.Builtin.Str.strSliceIndices (some (p : Int)) (some ((p : Int) + 1)) 1 (txt l).length = [] := by
      rw [txt_len]
      unfold PySem.Builtin.Str.strSliceIndices sliceRange
      simp only [show ¬ ((p : Int) < 0) by omega, show ¬ ((p : Int) + 1 < 0) by omega, if_false, show (1 : Int) > 0 by decide, if_true]
      rw [show max (0 : Int) (min (p : Int) (l.length : Int)) = l.length by omega, show max (0 : Int) (min ((p : Int) + 1) (l.length : Int)) = l.length by omega]
      simp
    unfold Txt.slice
    rw [hi]
    have hd : sgn l p = [] := by unfold sgn; rw [List.drop_of_length_le (by omega)]; rfl
    rw [hd]
    by_cases hl : l = []
    · subst hl; simp [Str.length]
    · have : (txt l).length ≠ 0 := by rw [txt_len]; exact fun h => hl (List.eq_nil_of_length_eq_zero h)
      simp only [List.length_nil, beq_self_eq_true, Bool.true_and, beq_iff_eq, Ne.symm this, if_false, List.filterMap_nil]
end Mine
namespace Mine
theorem txt_inj {a b : List Nat} (h : txt a = txt b) : a = b := by
  have := congrArg (fun z : Str => z.cps.toList) h
  simpa using this
theorem txt_eq {a b : List Nat} (h : (txt a == txt b) = true) : a = b := txt_inj (eq_of_beq h)
theorem txt_ne {a b : List Nat} (h : (txt a == txt b) = false) : a ≠ b := fun e => by subst e; simp at h
end Mine
namespace Mine
noncomputable def ws (c : Nat) : Bool := c == 10 || c == 9 || c == 13 || c == 32
noncomputable def bare : List Nat → List Nat → Option (List Nat × List Nat)
  | _, [] => none
  | acc, c :: r => if ws c then some (acc, r) else if c = 92 then (match r with | [] => none | d :: r' => bare (acc ++ [d]) r') else bare (acc ++ [c]) r
noncomputable def quoted : List Nat → List Nat → Option (List Nat × List Nat)
  | _, [] => none
  | acc, c :: r => if c = 34 then some (acc, r) else if c = 92 then (match r with | [] => none | d :: r' => quoted (acc ++ [d]) r') else quoted (acc ++ [c]) r
noncomputable def skip : List Nat → Option (List Nat × List Nat)
  | [] => none
  | c :: r => if ws c then skip r else if c = 34 then quoted [] r else if c = 92 then (match r with | [] => none | d :: r' => bare [d] r') else bare [c] r
noncomputable def lnAt (l : List Nat) (p : Nat) : Int := 1 + ((l.take p).count 10 : Nat)
theorem sgn_of {l : List Nat} {p c : Nat} {r : List Nat} (h : l.drop p = c :: r) : sgn l p = [c] := by unfold sgn; rw [h]; rfl
theorem drop_next {l : List Nat} {p c : Nat} {r : List Nat} (h : l.drop p = c :: r) : l.drop (p + 1) = r := by
  rw [← List.drop_drop, h]; rfl
theorem lt_of_drop {l : List Nat} {p c : Nat} {r : List Nat} (h : l.drop p = c :: r) : p < l.length := by
  by_cases q : p < l.length
  · exact q
  · rw [List.drop_of_length_le (by omega)] at h; cases h
theorem lnAt_next {l : List Nat} {p c : Nat} {r : List Nat} (h : l.drop p = c :: r) : lnAt l (p + 1) = if sgn l p = [10] then lnAt l p + 1 else lnAt l p := by
  have e : l.take (p + 1) = l.take p ++ [c] := by
    have : l[p]? = some c := by rw [← List.head?_drop, h]; rfl
    rw [List.take_add_one, this]; rfl
  unfold lnAt
  rw [e, List.count_append, sgn_of h]
  by_cases q : c = 10
  · subst q; simp; omega
  · simp [q]
end Mine
namespace Mine
theorem ws_occ (c : Nat) : (PySem.Builtin.Str.occurrences (Str.ofString "\n\t\r ") (txt [c]) 0 (Str.ofString "\n\t\r ").length 1).isEmpty = !ws c := by
  have h := StrLaws.found_one (Str.ofString "\n\t\r ") c
  rw [show (Str.ofString "\n\t\r ").cps.toList = [10, 9, 13, 32] from by decide] at h
  have e : decide (c ∈ [10, 9, 13, 32]) = ws c := by
    unfold ws
    by_cases h1 : c = 10 <;> by_cases h2 : c = 9 <;> by_cases h3 : c = 13 <;> by_cases h4 : c = 32 <;> simp [h1, h2, h3, h4]
  rw [e] at h
  show (PySem.Builtin.Str.occurrences (Str.ofString "\n\t\r ") ⟨#[c]⟩ 0 (Str.ofString "\n\t\r ").length 1).isEmpty = !ws c
  rw [← h, Bool.not_not]
theorem txt_app (a b : List Nat) : txt a ++ txt b = txt (a ++ b) := by
  show (⟨a.toArray ++ b.toArray⟩ : Str) = ⟨(a ++ b).toArray⟩
  simp
end Mine
namespace Mine
theorem txt_eq1 {a b : Nat} (h : (txt [a] == txt [b]) = true) : a = b := (List.cons.inj (txt_eq h)).1
theorem txt_ne1 {a b : Nat} (h : (txt [a] == txt [b]) = false) : a ≠ b := fun e => txt_ne h (by rw [e])
theorem ws_yes {c : Nat} (h : (PySem.Builtin.Str.occurrences (Str.ofString "\n\t\r ") (txt [c]) 0 (Str.ofString "\n\t\r ").length 1).isEmpty = false) : ws c = true := by
  rw [ws_occ] at h; simpa using h
theorem ws_no {c : Nat} (h : (PySem.Builtin.Str.occurrences (Str.ofString "\n\t\r ") (txt [c]) 0 (Str.ofString "\n\t\r ").length 1).isEmpty = true) : ws c = false := by
  rw [ws_occ] at h; simpa using h
section
variable {acc tok r r3 : List Nat} {c : Nat}
theorem quoted_end (h : quoted acc (c :: r3) = some (tok, r)) (hc : c = 34) : acc = tok ∧ r3 = r := by
  unfold quoted at h; rw [if_pos hc] at h; simpa using h
theorem quoted_esc (h : quoted acc (c :: r3) = some (tok, r)) (h0 : c ≠ 34) (hc : c = 92) : ∃ d r4, r3 = d :: r4 ∧ quoted (acc ++ [d]) r4 = some (tok, r) := by
  unfold quoted at h; rw [if_neg h0, if_pos hc] at h
  cases r3 with
  | nil => cases h
  | cons d r4 => exact ⟨d, r4, rfl, h⟩
theorem quoted_lit (h : quoted acc (c :: r3) = some (tok, r)) (h0 : c ≠ 34) (hc : c ≠ 92) : quoted (acc ++ [c]) r3 = some (tok, r) := by
  unfold quoted at h; rwa [if_neg h0, if_neg hc] at h
theorem bare_end (h : bare acc (c :: r3) = some (tok, r)) (hc : ws c = true) : acc = tok ∧ r3 = r := by
  unfold bare at h; rw [if_pos hc] at h; simpa using h
theorem bare_esc (h : bare acc (c :: r3) = some (tok, r)) (h0 : ws c = false) (hc : c = 92) : ∃ d r4, r3 = d :: r4 ∧ bare (acc ++ [d]) r4 = some (tok, r) := by
  unfold bare at h; rw [h0, if_neg Bool.false_ne_true, if_pos hc] at h
  cases r3 with
  | nil => cases h
  | cons d r4 => exact ⟨d, r4, rfl, h⟩
theorem bare_lit (h : bare acc (c :: r3) = some (tok, r)) (h0 : ws c = false) (hc : c ≠ 92) : bare (acc ++ [c]) r3 = some (tok, r) := by
  unfold bare at h; rwa [h0, if_neg Bool.false_ne_true, if_neg hc] at h
theorem skip_ws (h : skip (c :: r3) = some (tok, r)) (hw : ws c = true) : skip r3 = some (tok, r) := by
  unfold skip at h; rwa [if_pos hw] at h
theorem skip_quo (h : skip (c :: r3) = some (tok, r)) (hw : ws c = false) (hc : c = 34) : quoted [] r3 = some (tok, r) := by
  unfold skip at h; rwa [hw, if_neg Bool.false_ne_true, if_pos hc] at h
theorem skip_esc (h : skip (c :: r3) = some (tok, r)) (hw : ws c = false) (h0 : c ≠ 34) (hc : c = 92) : ∃ d r4, r3 = d :: r4 ∧ bare [d] r4 = some (tok, r) := by
  unfold skip at h; rw [hw, if_neg Bool.false_ne_true, if_neg h0, if_pos hc] at h
  cases r3 with
  | nil => cases h
  | cons d r4 => exact ⟨d, r4, rfl, h⟩
theorem skip_lit (h : skip (c :: r3) = some (tok, r)) (hw : ws c = false) (h0 : c ≠ 34) (hc : c ≠ 92) : bare [c] r3 = some (tok, r) := by
  unfold skip at h; rwa [hw, if_neg Bool.false_ne_true, if_neg h0, if_neg hc] at h
end
end Mine
end
section
open PySem PySem.W PyProof.Rows PySem.Calls
set_option maxHeartbeats 4000000
namespace Mine

theorem code_le {M : Model} {A : Around} {c : Code} {R : Result → Shared → Prop} {s : Shared} {d u : Nat}
    (h : codeAny M A c R s) (hd : d ≤ A.depth) (hu : u ≤ A.units) : codeAny M { A with depth := d, units := u } c R s :=
  fun Γ p hc hΓ => h Γ p hc ⟨hΓ.1, Nat.le_trans hΓ.2.1 hd, hΓ.2.2.1, hΓ.2.2.2.1, Nat.le_trans hΓ.2.2.2.2 hu⟩

structure Here (prog : Program) (w : World) (K : Frag) (p : Program) (loose : List Str) (mean : ExcName → Option Value) (mg mb : Str → Option Value)
    (D U : Nat) (A : Around) (env : Env) (outer : List Env) (A₀ : Around) (base h₀ : Heap) (L : Addr) : Prop where
  below : Below A₀ base outer h₀
  kin : K.In h₀
  top : Top p loose mean mg mb h₀
  frames : A.frames = some (env :: outer)
  frame : env.frame = some L
  kind : env.scope.kind = .function
  handled : A.handled = none
  depth : A.depth ≤ D
  units : A.units ≤ U

noncomputable def Apart (P rest : List (Addr × Obj)) : Prop := ∀ p ∈ P, ∀ q ∈ rest, p.1 ≠ q.1

noncomputable def Fn (prog : Program) (w : World) (K : Frag) (p : Program) (loose : List Str) (mean : ExcName → Option Value) (mg mb : Str → Option Value)
    (D U : Nat) (f : Addr) (args : List Value) (P : List (Addr × Obj)) (post : Value → List (Addr × Obj) → Prop) : Prop :=
  ∀ (A : Around) (env : Env) (outer : List Env) (A₀ : Around) (base h₀ : Heap) (L : Addr) (m : Str → Option Value) (rest : List (Addr × Obj)) (s : Shared) (R : Result → Shared → Prop),
    Here prog w K p loose mean mg mb D U A env outer A₀ base h₀ L → Fr h₀ L s.heap m → News h₀ L s.heap P → News h₀ L s.heap rest → Apart P rest →
    (∀ v P' h' tk', post v P' → Fr h₀ L h' m → News h₀ L h' P' → News h₀ L h' rest → Apart P' rest → R (.ok (.ret v)) { s with heap := h', toks := tk' }) →
    codeAny (model prog w) A (.call (.ref f) ⟨args, []⟩) R s

noncomputable def retOf : Flow → Value
  | .ret v => v
  | _ => .none

noncomputable def Ends (g : Heap) (L : Addr) (post : Value → List (Addr × Obj) → Prop) (s : Shared) (v : Value) (s' : Shared) : Prop :=
  ∃ P' m' h' tk', s' = { s with heap := h', toks := tk' } ∧ post v P' ∧ Fr g L h' m' ∧ News g L h' P'

theorem Ends.intro {g : Heap} {L : Addr} {post : Value → List (Addr × Obj) → Prop} {s : Shared} {v : Value} {P' : List (Addr × Obj)} {m' : Str → Option Value} {h' : Heap} {tk' : Nat}
    (F : Fr g L h' m') (N : News g L h' P') (hp : post v P') : Ends g L post s v { s with heap := h', toks := tk' } := ⟨P', m', h', tk', rfl, hp, F, N⟩

section
variable {prog : Program} {w : World} {K : Frag} {p : Program} {loose : List Str} {mean : ExcName → Option Value} {mg mb : Str → Option Value} {D U : Nat}

theorem ground {A A₀ : Around} {env : Env} {outer : List Env} {base h₀ : Heap} {L : Addr} {m : Str → Option Value} {P rest : List (Addr × Obj)} {s : Shared}
    (H : Here prog w K p loose mean mg mb D U A env outer A₀ base h₀ L) (F : Fr h₀ L s.heap m) (N : News h₀ L s.heap P) (N2 : News h₀ L s.heap rest) (hap : Apart P rest) :
    Below A base (env :: outer) (hideAll s.heap (P.map (·.1))) ∧ K.In (hideAll s.heap (P.map (·.1))) ∧ Top p loose mean mg mb (hideAll s.heap (P.map (·.1))) ∧
    (∀ (L' : Addr) (h' : Heap) (m' : Str → Option Value) (P' : List (Addr × Obj)), Fr (hideAll s.heap (P.map (·.1))) L' h' m' → News (hideAll s.heap (P.map (·.1))) L' h' P' →
      Fr h₀ L h' m ∧ News h₀ L h' P' ∧ News h₀ L h' rest ∧ Apart P' rest) := by
  have nm : ∀ b o, h₀.get? b = some o → b ∉ P.map (·.1) := fun b o e q => by
    obtain ⟨p, hp, rfl⟩ := List.mem_map.mp q
    rw [(N p hp).2.2] at e; cases e
  have st : h₀.StaysIn (hideAll s.heap (P.map (·.1))) := fun b o e => hideAll_get _ (F.keep b o e) (nm b o e)
  obtain ⟨oL, es, ep, hL, hLd, hLk, hLf⟩ := F.ns
  have nL : L ∉ P.map (·.1) := fun q => by
    obtain ⟨p, hp, e⟩ := List.mem_map.mp q
    exact (N p hp).2.1 e
  have hLg := hideAll_get (P.map (·.1)) hL nL
  have B₁ := pushX H.below F H.frame H.kind
  refine ⟨⟨H.frames, fun b o e => st b o (H.below.stays b o e), funFrames_hideAll B₁.frames fun env' he b hb hf' => ?_⟩, H.kin.keeps st, H.top.keeps st, fun L' h' m' P' F' N' => ?_⟩
  · cases he with
    | head => exact nL ((Option.some.inj (H.frame.symm.trans hf') : L = b) ▸ hb)
    | tail _ he =>
      obtain ⟨L₁, o₁, hf₁, ho₁⟩ := funFrames_in H.below.frames env' he
      rw [hf₁] at hf'
      exact nm L₁ o₁ ho₁ ((Option.some.inj hf' : L₁ = b) ▸ hb)
  · have hr : ∀ q ∈ rest, (hideAll s.heap (P.map (·.1))).get? q.1 = some q.2 := fun q hq => hideAll_get _ (N2 q hq).1 fun hm => by
      obtain ⟨p, hp, e⟩ := List.mem_map.mp hm
      exact hap p hp q hq e
    refine ⟨⟨⟨oL, es, ep, F'.keep L oL hLg, hLd, hLk, hLf⟩, fun b o e => F'.keep b o (st b o e), F.above⟩, fun p hp => ⟨(N' p hp).1, fun q => ?_, ?_⟩, fun q hq => ⟨F'.keep _ _ (hr q hq), (N2 q hq).2⟩, fun p hp q hq e => ?_⟩
    · have := (N' p hp).2.2; rw [q, hLg] at this; cases this
    · cases q : h₀.get? p.1 with
      | none => rfl
      | some o => have := (N' p hp).2.2; rw [st _ _ q] at this; cases this
    · have := (N' p hp).2.2; rw [e, hr q hq] at this; cases this

theorem Fn.plain {f : Addr} {args : List Value} {P : List (Addr × Obj)} {post : Value → List (Addr × Obj) → Prop} {name qual : Str} {params : Arguments} {body : List Stmt} {scope : Scope}
    {dV kV doc pm cdv ct oc : Value} {an od : Option Addr} {osl : Array (Option Value)} {binds : List (Str × Value)}
    (ho : K.lookup f = some ⟨oc, od, .func (fnOf name qual params body scope dV kV doc pm an cdv ct), osl⟩) (hcd : codeIn K cdv qual = true)
    (hbind : ∀ s, BindsTo s (fnOf name qual params body scope dV kV doc pm an cdv ct) ⟨args, []⟩ binds) (hloc : ∀ y ∈ binds, scope.names.lookup y.1 = some .local)
    (h : ∀ (gd : Option (List Code)) (outer : List Env) (A₀ : Around) (base g : Heap) (L : Addr) (s : Shared),
      Below A₀ base outer g → K.In g → Top p loose mean mg mb g → Fr g L s.heap (fun y => binds.reverse.lookup y) → News g L s.heap P → (∀ p ∈ P, p.1 < L) →
      wpAny (model prog w) (ktrTop (D + 1) (U + 3) gd qual scope L f cdv [] outer) (execs body (envOf qual scope L f cdv)) (fun fl s' => Ends g L post s (retOf fl) s') (fun _ _ => False) s)
    (hD : D < recursionLimit) (hco : scope.isCoroutine = false) (hgen : scope.isGenerator = false) (hk : scope.kind = .function) (hcell : ∀ x ∈ scope.names, x.2 ≠ .cell) :
    Fn prog w K p loose mean mg mb D U f args P post := by
  intro A env outer A₀ base h₀ L m rest s R H F N N2 hap k
  obtain ⟨BG, KG, TG, back⟩ := ground H F N N2 hap
  have hA : A = { handled := none, depth := A.depth, frames := some (env :: outer), guards := A.guards, units := A.units } := by
    obtain ⟨a, b, c, d, e⟩ := A
    have h1 := H.frames
    have h2 := H.handled
    simp only at h1 h2
    subst h1 h2
    rfl
  have up : codeAny (model prog w) { handled := none, depth := D, frames := some (env :: outer), guards := A.guards, units := U } (.call (.ref f) ⟨args, []⟩) R s := by
    refine codeAny_call_def (fd := fnX name qual params body scope [] dV kV doc pm an cdv ct) (body := body) (binds := binds) hD (H.kin.keeps F.keep f _ ho) rfl (H.top.nolimit.keeps F.keep) (codeRec_of (H.kin.keeps F.keep) hcd) rfl (hbind _) hcell hloc (fun h₁ hns hk₁ => ?_) hco hgen hk
    refine wpAny_mono (h A.guards (env :: outer) A base (hideAll s.heap (P.map (·.1))) s.heap.objs.size { s with heap := h₁, toks := s.toks + binds.length } BG KG TG ⟨hns, fun b o e => hk₁ b o (of_hideAll _ e), Nat.le_of_eq (hideAll_size _ _)⟩
      (fun p hp => ⟨hk₁ _ _ (N p hp).1, Nat.ne_of_lt (Heap.lt_size (N p hp).1), hideAll_none _ (List.mem_map_of_mem hp)⟩) (fun p hp => Heap.lt_size (N p hp).1)) (fun fl s' hl => ?_) fun _ _ y => y.elim
    obtain ⟨P', m', h', tk', rfl, hp, F', N'⟩ := hl
    obtain ⟨F2, N3, N4, hap2⟩ := back _ _ _ _ F' N'
    have := k _ _ _ tk' hp F2 N3 N4 hap2
    cases fl <;> exact this
  rw [hA]
  exact code_le up H.depth H.units
end
end Mine
namespace Mine
structure Stop (P : Prop) : Prop where
  out : P
theorem stop {P : Prop} (h : Stop P) : P := h.out
end Mine
end
section
open PySem PySem.W PyProof.Rows PySem.Calls
set_option maxHeartbeats 4000000
namespace Mine

noncomputable abbrev FalseE : Value → Shared → Prop := fun _ _ => False

noncomputable def NsObj (o : Obj) (m : Str → Option Value) : Prop := ∃ es ep, o.data = .dict es ep ∧ StrKeys es ∧ ∀ name, nsFind es name = m name
theorem NsObj.ns {o : Obj} {m : Str → Option Value} {h : Heap} {a : Addr} (x : NsObj o m) (e : h.get? a = some o) : h.Ns a m :=
  let ⟨es, ep, q⟩ := x; ⟨o, es, ep, e, q⟩
theorem NsObj.of {m : Str → Option Value} {h : Heap} {a : Addr} (x : h.Ns a m) : ∃ o, h.get? a = some o ∧ NsObj o m :=
  let ⟨o, es, ep, e, q⟩ := x; ⟨o, e, es, ep, q⟩

noncomputable def LedEnd {σ : Type} (h₀ : Heap) (L : Addr) (s : Shared) (Led : σ → List (Addr × Obj)) (ps : σ → List (Str × Value)) (stored : List Str) (m₀ : Str → Option Value) (P : σ → Prop) (s₂ : Shared) : Prop :=
  ∃ (c' : σ) (h' : Heap) (tk : Nat) (m' : Str → Option Value) (news' : List (Addr × Obj)), s₂ = { s with heap := h', toks := tk } ∧ Fr h₀ L h' m' ∧ News h₀ L h' news' ∧ (∀ p ∈ Led c', p ∈ news') ∧ (∀ p ∈ ps c', m' p.1 = some p.2) ∧
    (∀ z, (∀ p ∈ ps c', z ≠ p.1) → stored.contains z = false → m' z = m₀ z) ∧ P c'
theorem LedEnd.intro {σ : Type} {h₀ : Heap} {L : Addr} {s : Shared} {Led : σ → List (Addr × Obj)} {ps : σ → List (Str × Value)} {stored : List Str} {m₀ m' : Str → Option Value} {P : σ → Prop} {h' : Heap} {tk : Nat} {news' : List (Addr × Obj)} (c' : σ)
    (F : Fr h₀ L h' m') (N : News h₀ L h' news') (hn : ∀ p ∈ Led c', p ∈ news') (hk : ∀ p ∈ ps c', m' p.1 = some p.2) (hr : ∀ z, (∀ p ∈ ps c', z ≠ p.1) → stored.contains z = false → m' z = m₀ z) (hp : P c') :
    LedEnd h₀ L s Led ps stored m₀ P { s with heap := h', toks := tk } := ⟨c', h', tk, m', news', rfl, F, N, hn, hk, hr, hp⟩

noncomputable def ForPost {σ : Type} (h₀ : Heap) (L : Addr) (s : Shared) (Led : σ → List (Addr × Obj)) (ps : σ → List (Str × Value)) (stored : List Str) (m₀ : Str → Option Value) (P : σ → Prop) (Q : Flow → Shared → Prop) (f : Flow) (s₂ : Shared) : Prop :=
  match f with
  | .ret v => Q (.ret v) s₂
  | .brk => Q .next s₂
  | .next => LedEnd h₀ L s Led ps stored m₀ P s₂
  | .cont => LedEnd h₀ L s Led ps stored m₀ P s₂

section
variable {prog : Program} {w : World} {A : Around} {Q : Flow → Shared → Prop} {s : Shared} {env : Env} {h₀ : Heap} {L : Addr}

noncomputable def ForTurn {σ : Type} (prog : Program) (w : World) (A : Around) (env : Env) (target : Expr) (body : List Stmt) (h₀ : Heap) (L : Addr) (s : Shared) (Led : σ → List (Addr × Obj)) (ps : σ → List (Str × Value)) (stored : List Str) (m₀ : Str → Option Value) (P : σ → Prop) (Q : Flow → Shared → Prop) (r : Option Value) (s₁ : Shared) : Prop :=
  match r with
  | none => Q .next s₁
  | some v => wpAny (model prog w) A (assign target env v) (fun _ s₂ => wpAny (model prog w) A (execs body env) (ForPost h₀ L s Led ps stored m₀ P Q) FalseE s₂) FalseE s₁

theorem for_led {σ : Type} {target : Expr} {it : Value} {body : List Stmt} {m₀ : Str → Option Value} {E : Value → Shared → Prop} (Led : σ → List (Addr × Obj)) (ps : σ → List (Str × Value)) (stored : List Str) (P : Nat → σ → Prop) (n₀ : Nat) (c₀ : σ)
    (F : Fr h₀ L s.heap m₀) (N : News h₀ L s.heap (Led c₀)) (hk : ∀ p ∈ ps c₀, m₀ p.1 = some p.2) (hp : P n₀ c₀)
    (turn : ∀ (n : Nat) (c : σ) (u : Str → Option Value) h tk, P n c → Fr h₀ L h (kstB (fun z => if stored.contains z then u z else m₀ z) (ps c)) → News h₀ L h (Led c) →
      wpAny (model prog w) A (pyNext it) (ForTurn prog w A env target body h₀ L s Led ps stored m₀ (fun c' => ∃ n', n' < n ∧ P n' c') Q) FalseE { s with heap := h, toks := tk })
    (ht : ∀ v, letOwnedTupleGo target it v = pure () := by intro _; rfl) :
    codeAny (model prog w) A (.forLoop target it body [] env) (fun r s' => match r with | .ok f => Q f s' | .error e => cameBackBy (model prog w) A env E e s') s := by
  refine codeAny_forLoop (fun n s' => ∃ (c : σ) (h : Heap) (tk : Nat) (m : Str → Option Value), s' = { s with heap := h, toks := tk } ∧ Fr h₀ L h m ∧ News h₀ L h (Led c) ∧ (∀ p ∈ ps c, m p.1 = some p.2) ∧
    (∀ z, (∀ p ∈ ps c, z ≠ p.1) → stored.contains z = false → m z = m₀ z) ∧ P n c) ?_ n₀ ⟨c₀, s.heap, s.toks, m₀, rfl, F, N, hk, fun _ _ _ => rfl, hp⟩ ht
  rintro n s' ⟨c, h, tk, m, rfl, F₁, N₁, h1, h2, hp₁⟩
  refine wpAny_mono (turn n c m h tk hp₁ (ksw_fr h1 h2 F₁) N₁) (fun r s₁ hr => ?_) fun _ _ e => e.elim
  cases r with
  | none => exact wpAny_execs_nil hr
  | some v =>
    refine wpAny_mono hr (fun _ s₂ h₂ => wpAny_mono h₂ (fun f s₃ h₃ => ?_) fun _ _ e => e.elim) fun _ _ e => e.elim
    cases f with
    | next =>
      obtain ⟨c', h', tk', m', news', rfl, F', N', hn, hk', hr', n', hlt, hp'⟩ := h₃
      exact ⟨n', hlt, c', h', tk', m', rfl, F', fun p hp => N' p (hn p hp), hk', hr', hp'⟩
    | cont =>
      obtain ⟨c', h', tk', m', news', rfl, F', N', hn, hk', hr', n', hlt, hp'⟩ := h₃
      exact ⟨n', hlt, c', h', tk', m', rfl, F', fun p hp => N' p (hn p hp), hk', hr', hp'⟩
    | brk => exact h₃
    | ret v => exact h₃
end

section
variable {prog : Program} {w : World} {A : Around} {E : Value → Shared → Prop} {Q : Value → Shared → Prop} {s : Shared} {env : Env} {h₀ : Heap} {L : Addr} {m : Str → Option Value}
  {elt iter : Expr} {x : Str} {px : Pos} {ifs : List Expr} {scope : Scope} {cl : List (Str × Addr)} {pos : Pos}

noncomputable abbrev testsOf (ifs : List Expr) (cenv : Env) : Sem Bool := forIn ifs true fun c r => if r = true then do let ok ← isTrue c cenv (eval c cenv); pure (ForInStep.yield ok) else pure (ForInStep.yield r)

end
end Mine
end
section
open PySem PySem.W PyProof.Rows PySem.Calls
set_option maxHeartbeats 4000000
namespace Mine
section
variable {prog : Program} {w : World} {K : Frag} {p : Program} {loose : List Str} {mean : ExcName → Option Value} {mg mb : Str → Option Value} {D U : Nat}

theorem Fn.made {f : Addr} {args : List Value} {P : List (Addr × Obj)} {post : Value → List (Addr × Obj) → Prop} {name qual : Str} {params : Arguments} {body : List Stmt} {scope : Scope}
    {cl : List (Str × Addr)} {doc pm ctv : Value} {c' : Addr} {oc : Obj} {vs : Array Value} {tq : Tok} {binds : List (Str × Value)}
    (ho : (f, fnMade name qual params body scope cl doc pm c' ctv) ∈ P) (hc : (c', oc) ∈ P) (hcd : oc.data = .fields vs) (hcv : vs[1]? = some (.str qual tq))
    (hbind : ∀ s, BindsTo s (fnX name qual params body scope cl .none .none doc pm none (.ref c') ctv) ⟨args, []⟩ binds) (hloc : ∀ y ∈ binds, scope.names.lookup y.1 = some .local)
    (h : ∀ (gd : Option (List Code)) (outer : List Env) (A₀ : Around) (base g : Heap) (L : Addr) (s : Shared),
      Below A₀ base outer g → K.In g → Top p loose mean mg mb g → Fr g L s.heap (fun y => binds.reverse.lookup y) → News g L s.heap P → (∀ p ∈ P, p.1 < L) →
      wpAny (model prog w) (ktrTop (D + 1) (U + 3) gd qual scope L f (.ref c') cl outer) (execs body (envX qual scope L f (.ref c') cl)) (fun fl s' => Ends g L post s (retOf fl) s') (fun _ _ => False) s)
    (hD : D < recursionLimit) (hco : scope.isCoroutine = false) (hgen : scope.isGenerator = false) (hk : scope.kind = .function) (hcell : ∀ x ∈ scope.names, x.2 ≠ .cell) :
    Fn prog w K p loose mean mg mb D U f args P post := by
  intro A env outer A₀ base h₀ L m rest s R H F N N2 hap k
  obtain ⟨BG, KG, TG, back⟩ := ground H F N N2 hap
  have hA : A = { handled := none, depth := A.depth, frames := some (env :: outer), guards := A.guards, units := A.units } := by
    obtain ⟨a, b, c, d, e⟩ := A
    have h1 := H.frames
    have h2 := H.handled
    simp only at h1 h2
    subst h1 h2
    rfl
  have up : codeAny (model prog w) { handled := none, depth := D, frames := some (env :: outer), guards := A.guards, units := U } (.call (.ref f) ⟨args, []⟩) R s := by
    refine codeAny_call_def (fd := fnX name qual params body scope cl .none .none doc pm none (.ref c') ctv) (body := body) (binds := binds) hD (N _ ho).1 rfl (H.top.nolimit.keeps F.keep) (codeRec_news N hc hcd hcv) rfl (hbind _) hcell hloc (fun h₁ hns hk₁ => ?_) hco hgen hk
    refine wpAny_mono (h A.guards (env :: outer) A base (hideAll s.heap (P.map (·.1))) s.heap.objs.size { s with heap := h₁, toks := s.toks + binds.length } BG KG TG ⟨hns, fun b o e => hk₁ b o (of_hideAll _ e), Nat.le_of_eq (hideAll_size _ _)⟩
      (fun p hp => ⟨hk₁ _ _ (N p hp).1, Nat.ne_of_lt (Heap.lt_size (N p hp).1), hideAll_none _ (List.mem_map_of_mem hp)⟩) (fun p hp => Heap.lt_size (N p hp).1)) (fun fl s' hl => ?_) fun _ _ y => y.elim
    obtain ⟨P', m', h', tk', rfl, hp, F', N'⟩ := hl
    obtain ⟨F2, N3, N4, hap2⟩ := back _ _ _ _ F' N'
    have := k _ _ _ tk' hp F2 N3 N4 hap2
    cases fl <;> exact this
  rw [hA]
  exact code_le up H.depth H.units
end
end Mine
namespace Mine
theorem Ends.sub {g : Heap} {L : Addr} {post : Value → List (Addr × Obj) → Prop} {s : Shared} {v : Value} {P' news' : List (Addr × Obj)} {m' : Str → Option Value} {h' : Heap} {tk' : Nat}
    (F : Fr g L h' m') (N : News g L h' news') (hs : ∀ p ∈ P', p ∈ news') (hp : post v P') : Ends g L post s v { s with heap := h', toks := tk' } := ⟨P', m', h', tk', rfl, hp, F, fun p h => N p (hs p h)⟩
end Mine
end
section
open PySem PySem.W PyProof.Rows PySem.Calls PySem.Flt
set_option maxHeartbeats 4000000
namespace Mine
noncomputable def IsFnObj (h : Heap) (a D : Addr) (md : Str → Option Value) : Prop := (∃ fd sl, h.get? a = some { cls := .type "function", dict := some D, data := .func fd, slots := sl }) ∧ h.Ns D md
theorem lk_fn_getattr : typeLookup (.type "function") "__getattr__" = pure none := by rw [typeLookup_type, builtinLookup_eq_fast]; kernel_rfl
theorem lk_fn_read : typeLookup (.type "function") "read" = pure none := by rw [typeLookup_type, builtinLookup_eq_fast]; kernel_rfl
theorem slot_fn_ga : Slot "function" "__getattribute__" "object.__getattribute__" :=
  .of (owner := "object") (n := "__getattribute__") (by rw [typeLookup_type, builtinLookup_eq_fast]; kernel_rfl) (by decide +kernel) (by decide +kernel) (by decide +kernel)
    (by first | exact .inl (by decide +kernel) | exact .inr (by decide +kernel)) (by rw [isSubtype_type]; kernel_rfl)
theorem slot_fn_sa : Slot "function" "__setattr__" "object.__setattr__" :=
  .of (owner := "object") (n := "__setattr__") (by rw [typeLookup_type, builtinLookup_eq_fast]; kernel_rfl) (by decide +kernel) (by decide +kernel) (by decide +kernel)
    (by first | exact .inl (by decide +kernel) | exact .inr (by decide +kernel)) (by rw [isSubtype_type]; kernel_rfl)
theorem canon_obj_ga : (Manifest.canonical "object.__getattribute__" != "object.__getattribute__") = false := by decide +kernel
theorem sub_fn_static : isSubtype (.type "function") (.type "staticmethod") = pure false := by rw [isSubtype_type]; kernel_rfl
theorem sub_fn_classm : isSubtype (.type "function") (.type "classmethod") = pure false := by rw [isSubtype_type]; kernel_rfl
section
variable {prog : Program} {w : World} {A : Around} {E : Value → Shared → Prop} {h : Heap} {g : Array GenState} {d : Drawn} {t : Nat} {os : OsState} {a D : Addr} {md : Str → Option Value}

theorem fn_object_entry {name : Str} {tk : Tok} {v : Value} {Q : Fin → Shared → Prop} (hm : IsFnObj h a D md) (hnm : typeLookup (.type "function") name = pure none) (hv : md name = some v)
    (hq : Q (.done (.ret v)) ⟨h, g, d, t, os⟩) : wpAny (model prog w) A (Builtin.«object.__getattribute__» ⟨[.ref a, .str name tk], []⟩) Q E ⟨h, g, d, t, os⟩ := by
  obtain ⟨⟨fd, sl, hM⟩, hD⟩ := hm
  have hT : (⟨h, g, d, t, os⟩ : Shared).TypeIs (.ref a) "function" := ⟨_, hM, rfl⟩
  have f1 := sub_fn_static
  have f2 := sub_fn_classm
  repeat (any_goals (first | assumption | with_reducible apply wpAny_nsGet_known | with_reducible apply wpAny_loadPart_known | wp_step))

theorem getAttr_fn {name : Str} {v : Value} {ex : Bool} {Q : Value → Shared → Prop} (hm : IsFnObj h a D md) (hnm : typeLookup (.type "function") name = pure none) (hv : md name = some v)
    (hh : handedOut v = pure v) (hq : Q v ⟨h, g, d, t + 1, os⟩) : wpAny (model prog w) A (getAttr (.ref a) name ex) Q E ⟨h, g, d, t, os⟩ := by
  have hm' := hm
  obtain ⟨⟨fd, sl, hM⟩, hD⟩ := hm'
  have hT : (⟨h, g, d, t, os⟩ : Shared).TypeIs (.ref a) "function" := ⟨_, hM, rfl⟩
  have hT1 : (⟨h, g, d, t + 1, os⟩ : Shared).TypeIs (.ref a) "function" := ⟨_, hM, rfl⟩
  have f1 := slot_fn_ga.lookup
  have f2 := lk_fn_getattr
  have f4 := slot_fn_ga.bind (.ref a)
  cases ex
  all_goals (
    repeat (any_goals (first | assumption | (rw [if_neg (show ¬ (onTheHeap (Value.type "function") && Value.builtin "object.__getattribute__" == Value.builtin "object.__getattribute__") = true by decide)]) | wp_step))
    refine codeAny_call_builtin slot_fn_ga.plain F.entry_object_getattribute (slot_fn_ga.check _ _ _ _ _ _ _ _ hT1 (F.args_object_getattribute_2 _ _) (fn_object_entry hm hnm hv ?_))
    repeat (any_goals (first | assumption | wp_step)))

theorem getMethod_fn {name : Str} {v : Value} {pl : Sem Bool} {Q : Value × List Value → Shared → Prop} (hm : IsFnObj h a D md) (hnm : typeLookup (.type "function") name = pure none) (hv : md name = some v)
    (hh : handedOut v = pure v) (hq : Q (v, []) ⟨h, g, d, t + 1, os⟩) : wpAny (model prog w) A (getMethod (.ref a) name pl) Q E ⟨h, g, d, t, os⟩ := by
  have hm' := hm
  obtain ⟨⟨fd, sl, hM⟩, hD⟩ := hm'
  have hT : (⟨h, g, d, t, os⟩ : Shared).TypeIs (.ref a) "function" := ⟨_, hM, rfl⟩
  have hT1 : (⟨h, g, d, t + 1, os⟩ : Shared).TypeIs (.ref a) "function" := ⟨_, hM, rfl⟩
  have f1 := slot_fn_ga.lookup
  have f2 := lk_fn_getattr
  unfold getMethod
  refine wpAny_bind (wpAny_specialOf hT f1 ?_)
  show wpAny _ A (if (Manifest.canonical "object.__getattribute__" != "object.__getattribute__") = true then _ else _) Q E _
  rw [canon_obj_ga, if_neg Bool.false_ne_true]
  refine wpAny_bind (wpAny_specialOf hT f2 ?_)
  rw [if_neg (by simp)]
  refine wpAny_bind (wpAny_specialOf hT hnm ?_)
  exact wpAny_bind (getAttr_fn hm hnm hv hh (wpAny_pure hq))
end
end Mine
end
section
open PySem PySem.W PyProof.Rows PySem.Calls PySem.Flt
set_option maxHeartbeats 4000000
namespace Mine
theorem mro_fn : mroOf (.type "function") = pure [.type "function", .type "object"] := by rw [mroOf_type]; kernel_rfl
section
variable {prog : Program} {w : World} {A : Around} {E : Value → Shared → Prop} {h : Heap} {g : Array GenState} {d : Drawn} {t : Nat} {os : OsState} {a D : Addr} {md : Str → Option Value}
theorem fn_set_entry {name : Str} {tk : Tok} {v : Value} {fd : FuncData} {sl : Array (Option Value)} {Q : Fin → Shared → Prop} (ho : h.get? a = some { cls := .type "function", dict := none, data := .func fd, slots := sl })
    (hnm : typeLookup (.type "function") name = pure none)
    (hq : ∀ h' tk' hsh tn, h'.get? a = some { cls := .type "function", dict := some h.objs.size, data := .func fd, slots := sl } → h'.get? h.objs.size = some (dictOf [⟨hsh, .str name tn, v⟩] 1) →
      (∀ b o, b ≠ a → h.get? b = some o → h'.get? b = some o) → Q (.done (.ret .none)) ⟨h', g, d, tk', os⟩) :
    wpAny (model prog w) A (Builtin.«object.__setattr__» ⟨[.ref a, .str name tk, v], []⟩) Q E ⟨h, g, d, t, os⟩ := by
  have hT : (⟨h, g, d, t, os⟩ : Shared).TypeIs (.ref a) "function" := ⟨_, ho, rfl⟩
  have f0 := mro_fn
  repeat (any_goals (first | assumption | wp_step))
  refine wpAny_askSetting ?_
  refine wpAny_pure ?_
  have hda : h.objs.size ≠ a := Nat.ne_of_gt (Heap.lt_size ho)
  repeat (any_goals (first | assumption | wp_step))
  refine hq _ _ (if name.cps.isEmpty = true then 0 else reduceHash (w.params.strHash name.cps)) t ?_ ?_ ?_
  · rw [Heap.get?_update_of_ne _ hda]
    refine Heap.get?_update_self _ (Heap.get?_push_of_some _ ho) rfl
  · have e1 : ((h.push { cls := .type "dict", data := .dict #[] }).update a fun o => { cls := o.cls, dict := some h.objs.size, data := o.data, slots := o.slots }).get? h.objs.size = some (dictOf [] 0) := by
      rw [Heap.get?_update_of_ne _ (Ne.symm hda)]
      exact Heap.get?_push_size _ rfl
    rw [Heap.get?_update_self _ e1 (by rw [putName_dict]; rfl), putName_dict]
    rfl
  · intro b o hb e
    have hb2 : b ≠ h.objs.size := Nat.ne_of_lt (Heap.lt_size e)
    have hb3 := Ne.symm hb2
    have hb4 := Ne.symm hb
    heap_get
theorem setAttr_fn {name : Str} {v : Value} {fd : FuncData} {sl : Array (Option Value)} {Q : Unit → Shared → Prop} (ho : h.get? a = some { cls := .type "function", dict := none, data := .func fd, slots := sl })
    (hnm : typeLookup (.type "function") name = pure none)
    (hq : ∀ h' tk' hsh tn, h'.get? a = some { cls := .type "function", dict := some h.objs.size, data := .func fd, slots := sl } → h'.get? h.objs.size = some (dictOf [⟨hsh, .str name tn, v⟩] 1) →
      (∀ b o, b ≠ a → h.get? b = some o → h'.get? b = some o) → Q () ⟨h', g, d, tk', os⟩) :
    wpAny (model prog w) A (setAttr (.ref a) name v) Q E ⟨h, g, d, t, os⟩ := by
  have hT : (⟨h, g, d, t, os⟩ : Shared).TypeIs (.ref a) "function" := ⟨_, ho, rfl⟩
  have hT1 : (⟨h, g, d, t + 1, os⟩ : Shared).TypeIs (.ref a) "function" := ⟨_, ho, rfl⟩
  have f1 := slot_fn_sa.lookup
  have f4 := slot_fn_sa.bind (.ref a)
  unfold setAttr
  refine wpAny_bind (wpAny_mkText ?_)
  repeat (any_goals (first | assumption | wp_step))
  refine codeAny_call_builtin slot_fn_sa.plain F.entry_object_setattr (slot_fn_sa.check _ _ _ _ _ _ _ _ hT1 (F.args_object_setattr_3 _ _ _) (fn_set_entry ho hnm fun h' tk' hsh tn a1 a2 a3 => ?_))
  repeat (any_goals (first | assumption | wp_step))
  exact hq h' tk' hsh tn a1 a2 a3
end
end Mine
end
section
open PySem PySem.W PyProof.Rows PySem.Calls PySem.Flt
set_option maxHeartbeats 4000000
namespace Mine
theorem wpAny_callBorrowed {M : Model} {A : Around} {E : Value → Shared → Prop} {s : Shared} {f : Value} {pos : List Value} {Q : Value → Shared → Prop}
    (hc : codeAny M A (.call f ⟨pos, []⟩) (fun r s' => match r with | .ok (.ret v) => Q v s' | .ok _ => False | .error e => E e s') s) :
    wpAny M A (callBorrowed f pos) Q E s := by
  have e : Sem.keep [borrowed] (call f pos) = callBorrowed f pos := by
    unfold callBorrowed call runValue run
    show Sem.call _ _ _ _ _ = Sem.call _ _ _ _ _
    congr 1
    funext r
    rcases r with e | f
    · rfl
    · cases f <;> rfl
  rw [← e]
  exact Calls.wpAny_keep (wpAny_call hc)
theorem slot_ci_next : Slot "callable_iterator" "__next__" "callable_iterator.__next__" :=
  .of (owner := "callable_iterator") (n := "__next__") (by rw [typeLookup_type, builtinLookup_eq_fast]; kernel_rfl) (by decide +kernel) (by decide +kernel) (by decide +kernel)
    (by first | exact .inl (by decide +kernel) | exact .inr (by decide +kernel)) (by rw [isSubtype_type]; kernel_rfl)
theorem slot_ci_iter : Slot "callable_iterator" "__iter__" "callable_iterator.__iter__" :=
  .of (owner := "callable_iterator") (n := "__iter__") (by rw [typeLookup_type, builtinLookup_eq_fast]; kernel_rfl) (by decide +kernel) (by decide +kernel) (by decide +kernel)
    (by first | exact .inl (by decide +kernel) | exact .inr (by decide +kernel)) (by rw [isSubtype_type]; kernel_rfl)
theorem entry_ci_next : entryFor table "callable_iterator.__next__" = some Builtin.«callable_iterator.__next__» := entryFor_of_tree (by kernel_rfl)
theorem entry_ci_iter : entryFor table "callable_iterator.__iter__" = some Builtin.«dict_keyiterator.__iter__» := entryFor_alias (id' := "dict_keyiterator.__iter__") (by rw [fastTable_eq_tree]; kernel_rfl) (by first | rfl | decide +kernel) (by decide +kernel) (by rw [fastTable_eq_tree]; kernel_rfl)
theorem args_ci_next (a : Value) : argsOk "callable_iterator.__next__" ⟨[a], []⟩ := by unfold argsOk; kernel_rfl
theorem args_ci_iter (a : Value) : argsOk "callable_iterator.__iter__" ⟨[a], []⟩ := by unfold argsOk; kernel_rfl

noncomputable def ciObj (f sent : Value) (b : Bool) : Obj := { cls := .type "callable_iterator", data := .fields #[f, sent, .bool b] }
section
variable {prog : Program} {w : World} {A : Around} {E : Value → Shared → Prop} {s : Shared} {I bm fa x : Addr} {sent : Value}
theorem borrows_meth {M : Model} {A : Around} {E : Value → Shared → Prop} {s : Shared} {fo : Obj} {fd : FuncData} {Q : Bool → Shared → Prop} (hb : s.heap.get? bm = some (methodObj (.ref fa) (.ref x))) (hf : s.heap.get? fa = some fo) (hd : fo.data = .func fd) (h : Q true s) :
    wpAny M A (borrowsExactly (.ref bm)) Q E s := by
  unfold borrowsExactly
  dsimp only
  refine wpAny_bind (wpAny_load hb ?_)
  dsimp only
  rw [if_pos (show (Value.type "method" == Value.type "method") = true by decide)]
  show wpAny M A (load fa >>= _) _ _ _
  refine wpAny_bind (wpAny_load hf ?_)
  rw [hd]
  exact wpAny_pure h

theorem pyNext_ci {fo : Obj} {fd : FuncData} {y : Str} {ty : Tok} {Q : Option Value → Shared → Prop} (hI : s.heap.get? I = some (ciObj (.ref bm) (.str y ty) false))
    (hb : s.heap.get? bm = some (methodObj (.ref fa) (.ref x))) (hf : s.heap.get? fa = some fo) (hd : fo.data = .func fd)
    (h : codeAny (model prog w) A.in1 (.call (.ref fa) ⟨[.ref x], []⟩) (fun r s' => ∃ v tv, r = .ok (.ret (.str v tv)) ∧ v ≠ y ∧ s'.heap.get? I = some (ciObj (.ref bm) (.str y ty) false) ∧ ∀ tk, Q (some (.str v tv)) { s' with toks := tk }) s) :
    wpAny (model prog w) A (pyNext (.ref I)) Q E s := by
  have hT : s.TypeIs (.ref I) "callable_iterator" := ⟨_, hI, rfl⟩
  unfold pyNext
  refine wpAny_bind (wpAny_attempt (wpAny_callSpecial?_slot (name := Str.ofString "__next__") hT slot_ci_next
    (wpAny_call_entry slot_ci_next hT entry_ci_next ?_ (args_ci_next _))))
  unfold Builtin.«callable_iterator.__next__»
  show wpAny _ _ (field (.ref I) 2 >>= _) _ _ s
  refine wpAny_bind (wpAny_field hI (x := .bool false) rfl rfl ?_)
  rw [if_neg (show ¬ ((Value.bool false == Value.bool true) = true) from Bool.false_ne_true)]
  dsimp only
  refine wpAny_bind (wpAny_field hI (x := .ref bm) rfl rfl ?_)
  refine wpAny_bind (wpAny_attempt ?_)
  unfold callOutOfASlot
  refine wpAny_bind (borrows_meth hb hf hd ?_)
  rw [if_pos rfl]
  refine wpAny_callBorrowed (method_call hb (codeAny_mono h fun r s' hr => ?_))
  obtain ⟨v, tv, rfl, hne, hI', hq⟩ := hr
  dsimp only
  refine wpAny_bind (wpAny_field hI' (x := .bool false) rfl rfl ?_)
  rw [if_neg (show ¬ ((Value.bool false == Value.bool true) = true) from Bool.false_ne_true)]
  refine wpAny_bind (wpAny_field hI' (x := .str y ty) rfl rfl ?_)
  refine wpAny_bind (wpAny_holding (eqBool_str ?_))
  rw [show (y == v) = false from by rw [beq_eq_false_iff_ne]; exact fun e => hne e.symm]
  rw [if_pos (show (!false) = true from rfl)]
  exact wpAny_pure ⟨_, rfl, wpAny_pure (hq s'.toks)⟩
theorem pyIter_ci {f sent : Value} {b : Bool} {Q : Value → Shared → Prop} (hI : s.heap.get? I = some (ciObj f sent b)) (h : Q (.ref I) s) : wpAny (model prog w) A (pyIter (.ref I)) Q E s := by
  have hT : s.TypeIs (.ref I) "callable_iterator" := ⟨_, hI, rfl⟩
  refine wpAny_pyIter_slot hT slot_ci_iter (wpAny_call_entry slot_ci_iter hT entry_ci_iter ?_ (args_ci_iter _))
  show wpAny _ _ (do ret (Value.ref I)) _ _ s
  exact wpAny_pure ⟨_, rfl, "callable_iterator", _, hT, slot_ci_next.lookup, h⟩
theorem lk_meth_call : typeLookup (.type "method") "__call__" = pure (some (.builtin "method.__call__")) := by rw [typeLookup_type, builtinLookup_eq_fast]; kernel_rfl
theorem iter_kind : builtinKind "iter" = none := by decide +kernel
theorem iter_plain : plainId "iter" = true := by decide +kernel
theorem iter_entry : entryFor table "iter" = some Builtin.«iter» := entryFor_of_tree (by kernel_rfl)
theorem iter_args (a b : Value) : argsOk "iter" ⟨[a, b], []⟩ := by unfold argsOk; kernel_rfl
theorem call_iter2 {sent : Value} {Q : Value → Shared → Prop} (hb : s.heap.get? bm = some (methodObj (.ref fa) (.ref x)))
    (h : Q (.ref s.heap.objs.size) { s with heap := s.heap.push (ciObj (.ref bm) sent false) }) :
    wpAny (model prog w) A (call (.builtin "iter") [.ref bm, sent]) Q E s := by
  have hT : s.TypeIs (.ref bm) "method" := ⟨_, hb, rfl⟩
  refine Calls.call_function_entry iter_kind iter_plain iter_entry (iter_args _ _) ?_
  unfold Builtin.«iter»
  have f1 := lk_meth_call
  refine wpAny_bind (wpAny_of_eq (a := [.ref bm, sent]) rfl ?_)
  dsimp only
  refine wpAny_bind (wpAny_specialOf hT f1 ?_)
  rw [if_neg (by simp)]
  refine wpAny_bind (wpAny_rule ?_)
  exact wpAny_bind (wpAny_newObj_type (wpAny_pure ⟨_, rfl, h⟩))
end
end Mine
end
section
open PySem PySem.W PyProof.Rows PySem.Calls PySem.Flt
set_option maxHeartbeats 4000000
namespace Mine
section
variable {prog : Program} {w : World} {A : Around} {E : Value → Shared → Prop} {s : Shared} {I bm fa x : Addr}
theorem pyNext_ci_end {fo : Obj} {fd : FuncData} {y : Str} {ty : Tok} {Q : Option Value → Shared → Prop} (hh : A.handled = none) (hI : s.heap.get? I = some (ciObj (.ref bm) (.str y ty) false))
    (hb : s.heap.get? bm = some (methodObj (.ref fa) (.ref x))) (hf : s.heap.get? fa = some fo) (hd : fo.data = .func fd)
    (h : codeAny (model prog w) A.in1 (.call (.ref fa) ⟨[.ref x], []⟩) (fun r s' => ∃ tv, r = .ok (.ret (.str y tv)) ∧ s'.heap.get? I = some (ciObj (.ref bm) (.str y ty) false) ∧
      s'.heap.get? bm = some (methodObj (.ref fa) (.ref x)) ∧ s'.heap.get? fa = some fo ∧ ∀ h' tk, Heap.ExtBut I s'.heap h' → Q none { s' with heap := h', toks := tk }) s) :
    wpAny (model prog w) A (pyNext (.ref I)) Q E s := by
  have hT : s.TypeIs (.ref I) "callable_iterator" := ⟨_, hI, rfl⟩
  unfold pyNext
  refine wpAny_bind (wpAny_attempt (wpAny_callSpecial?_slot (name := Str.ofString "__next__") hT slot_ci_next
    (wpAny_call_entry slot_ci_next hT entry_ci_next ?_ (args_ci_next _))))
  unfold Builtin.«callable_iterator.__next__»
  show wpAny _ _ (field (.ref I) 2 >>= _) _ _ s
  refine wpAny_bind (wpAny_field hI (x := .bool false) rfl rfl ?_)
  rw [if_neg (show ¬ ((Value.bool false == Value.bool true) = true) from Bool.false_ne_true)]
  dsimp only
  refine wpAny_bind (wpAny_field hI (x := .ref bm) rfl rfl ?_)
  refine wpAny_bind (wpAny_attempt ?_)
  unfold callOutOfASlot
  refine wpAny_bind (borrows_meth hb hf hd ?_)
  rw [if_pos rfl]
  refine wpAny_callBorrowed (method_call hb (codeAny_mono h fun r s' hr => ?_))
  obtain ⟨tv, rfl, hI', hb', hf', hq⟩ := hr
  dsimp only
  refine wpAny_bind (wpAny_field hI' (x := .bool false) rfl rfl ?_)
  rw [if_neg (show ¬ ((Value.bool false == Value.bool true) = true) from Bool.false_ne_true)]
  refine wpAny_bind (wpAny_field hI' (x := .str y ty) rfl rfl ?_)
  refine wpAny_bind (wpAny_holding (eqBool_str ?_))
  rw [show (y == y) = true from beq_self_eq_true y]
  rw [if_neg (show ¬ ((!true) = true) from Bool.false_ne_true)]
  refine wpAny_bind (wpAny_rule ?_)
  show wpAny _ _ ((field (.ref I) 0 >>= _) >>= _) _ _ _
  refine wpAny_bind (wpAny_bind (wpAny_field hI' (x := .ref bm) rfl rfl ?_))
  refine wpAny_bind ?_
  unfold slotLetsGo
  refine wpAny_bind (borrows_meth hb' hf' hd ?_)
  rw [if_pos rfl]
  refine wpAny_pure ?_
  refine wpAny_bind (wpAny_setField hI' rfl (by simp) ?_)
  refine wpAny_bind (wpAny_setField (Heap.get?_update_self _ hI' rfl) rfl (by simp) ?_)
  refine wpAny_setField (Heap.get?_update_self _ (Heap.get?_update_self _ hI' rfl) rfl) rfl (by simp) ?_
  show wpAny _ _ (newExc (.type "StopIteration") [] >>= _) _ _ _
  refine wpAny_bind ?_
  simp only [newExc, newTuple]
  refine wpAny_bind (wpAny_newObj_type ?_ (by size_fits))
  refine wpAny_bind (m := firstArgMember _ _) (wpAny_of_eq (a := Value.none) (by first | rfl | (simp only [firstArgMember]; rfl)) ?_)
  refine wpAny_newObj_type ?_ (by size_fits)
  simp only [raiseNew]
  refine wpAny_bind (wpAny_handled ?_)
  rw [show A.in1.handled = none from hh]
  refine wpAny_bind (wpAny_pure (wpAny_throw ?_))
  refine wpAny_bind (wpAny_isInstance (T := "StopIteration") (b := true) ⟨_, Heap.get?_push_size _ rfl, rfl⟩ isSubtype_stop ?_)
  exact wpAny_pure (hq _ _ (((((Heap.SameBut.update ..).trans (Heap.SameBut.update ..)).trans (Heap.SameBut.update ..)).extBut.push _).push _))
end
end Mine
end
section
open PySem PySem.W PyProof.Rows PySem.Calls PySem.Flt
set_option maxHeartbeats 4000000
namespace Mine
section
variable {prog : Program} {w : World} {A : Around} {E : Value → Shared → Prop} {s : Shared} {h₀ : Heap} {L a : Addr} {m : Str → Option Value} {news : List (Addr × Obj)} {g : Obj → List (Addr × Obj)}
theorem setAttr_fnN {name : Str} {v : Value} {fd : FuncData} {sl : Array (Option Value)} {Q : Unit → Shared → Prop} (F : Fr h₀ L s.heap m) (N : News h₀ L s.heap news)
    (U : UpdF a { cls := .type "function", dict := none, data := .func fd, slots := sl } news g) (hnm : typeLookup (.type "function") name = pure none)
    (h : ∀ D hsh tn h' tk', Fr h₀ L h' m → News h₀ L h' ((D, dictOf [⟨hsh, .str name tn, v⟩] 1) :: g { cls := .type "function", dict := some D, data := .func fd, slots := sl }) → (∀ p ∈ news, p.1 < D) → Q () { s with heap := h', toks := tk' }) :
    wpAny (model prog w) A (setAttr (.ref a) name v) Q E s := by
  obtain ⟨pre, post, rfl, hg, n1, n2⟩ := U.split
  obtain ⟨hh, gs, dr, tk, os⟩ := s
  have za := N (a, _) (List.mem_append_right _ (.head _))
  refine setAttr_fn za.1 hnm fun h' tk' hsh tn e1 e2 e3 => ?_
  have hL : L ≠ a := Ne.symm za.2.1
  have hLD : L ≠ hh.objs.size := Nat.ne_of_lt F.ns.lt
  have F' : Fr h₀ L h' m := by
    obtain ⟨oL, q1, q2, q3, q4⟩ := F.ns
    refine ⟨⟨oL, q1, q2, e3 _ _ hL q3, q4⟩, fun b o e => e3 _ _ (fun q => ?_) (F.keep b o e), F.above⟩
    rw [q, za.2.2] at e; cases e
  refine h hh.objs.size hsh tn h' tk' F' ?_ fun p hp => Heap.lt_size (N p hp).1
  intro p hp
  rw [hg] at hp
  rcases List.mem_cons.mp hp with rfl | hp
  · refine ⟨e2, Ne.symm hLD, ?_⟩
    cases q : h₀.get? hh.objs.size with
    | none => rfl
    | some o => exact absurd (Heap.lt_size (F.keep _ _ q)) (Nat.lt_irrefl _)
  · rcases List.mem_append.mp hp with hp | hp
    · have z := N p (List.mem_append_left _ hp)
      exact ⟨e3 _ _ (n1 p hp) z.1, z.2⟩
    · rcases List.mem_cons.mp hp with rfl | hp
      · exact ⟨e1, za.2⟩
      · have z := N p (List.mem_append_right _ (.tail _ hp))
        exact ⟨e3 _ _ (n2 p hp) z.1, z.2⟩

theorem ns_one {h : Heap} {D : Addr} {hsh : Int} {tn : Tok} {name : Str} {v : Value} (e : h.get? D = some (dictOf [⟨hsh, .str name tn, v⟩] 1)) : h.Ns D (fun y => if y = name then some v else none) := by
  refine ⟨_, _, _, e, rfl, ?_, ?_⟩
  · intro x hx
    rw [show x = ⟨hsh, .str name tn, v⟩ by simpa using hx]
    exact ⟨_, _, rfl⟩
  · intro y
    unfold nsFind findBy
    by_cases hy : y = name
    · subst hy; simp [Value.isStr]
    · simp [Value.isStr, hy, Ne.symm hy]
theorem IsFnObj.of {fd : FuncData} {sl : Array (Option Value)} {D : Addr} {hsh : Int} {tn : Tok} {name : Str} {v : Value} {h : Heap} (N : News h₀ L h news) (h1 : (a, { cls := .type "function", dict := some D, data := .func fd, slots := sl }) ∈ news)
    (h2 : (D, dictOf [⟨hsh, .str name tn, v⟩] 1) ∈ news) : IsFnObj h a D (fun y => if y = name then some v else none) := ⟨⟨_, _, (N _ h1).1⟩, ns_one (N _ h2).1⟩
theorem getMethod_fnN {fd : FuncData} {sl : Array (Option Value)} {D rd : Addr} {hsh : Int} {tn : Tok} {pl : Sem Bool} {Q : Value × List Value → Shared → Prop} (N : News h₀ L s.heap news)
    (h1 : (a, { cls := .type "function", dict := some D, data := .func fd, slots := sl }) ∈ news) (h2 : (D, dictOf [⟨hsh, .str "read" tn, .ref rd⟩] 1) ∈ news) (h : Q (.ref rd, []) { s with toks := s.toks + 1 }) :
    wpAny (model prog w) A (getMethod (.ref a) "read" pl) Q E s := by
  obtain ⟨hh, gs, dr, tk, os⟩ := s
  exact getMethod_fn (IsFnObj.of N h1 h2) lk_fn_read (by simp) rfl h
end
end Mine
namespace Mine
theorem call_iter2_N {prog : Program} {w : World} {A : Around} {E : Value → Shared → Prop} {s : Shared} {h₀ : Heap} {L : Addr} {m : Str → Option Value} {news : List (Addr × Obj)} {bm fa x : Addr} {sent : Value} {Q : Value → Shared → Prop}
    (F : Fr h₀ L s.heap m) (N : News h₀ L s.heap news) (hm : (bm, methodObj (.ref fa) (.ref x)) ∈ news)
    (h : ∀ I h', Fr h₀ L h' m → News h₀ L h' ((I, ciObj (.ref bm) sent false) :: news) → (∀ p ∈ news, p.1 < I) → Q (.ref I) { s with heap := h' }) :
    wpAny (model prog w) A (call (.builtin "iter") [.ref bm, sent]) Q E s :=
  call_iter2 (N _ hm).1 (h _ _ (F.push _) (N.push F _) fun p hp => Heap.lt_size (N p hp).1)
theorem pyIter_ci_N {prog : Program} {w : World} {A : Around} {E : Value → Shared → Prop} {s : Shared} {h₀ : Heap} {L : Addr} {news : List (Addr × Obj)} {I : Addr} {f sent : Value} {b : Bool} {Q : Value → Shared → Prop}
    (N : News h₀ L s.heap news) (hm : (I, ciObj f sent b) ∈ news) (h : Q (.ref I) s) : wpAny (model prog w) A (pyIter (.ref I)) Q E s := pyIter_ci (N _ hm).1 h
end Mine
end
section
open PySem PySem.W PyProof.Rows PySem.Calls
set_option maxHeartbeats 4000000
namespace Mine
inductive Pick {α : Type} (x : α) : List α → List α → Prop
  | here {r} : Pick x (x :: r) r
  | there {y r r'} : Pick x r r' → Pick x (y :: r) (y :: r')
inductive Split {α : Type} : List α → List α → List α → Prop
  | nil {r} : Split r [] r
  | cons {x l l' P r} : Pick x l l' → Split l' P r → Split l (x :: P) r
theorem Pick.mem {α : Type} {x : α} {l r : List α} (h : Pick x l r) : x ∈ l ∧ ∀ y ∈ r, y ∈ l := by
  induction h with
  | here => exact ⟨.head _, fun y hy => .tail _ hy⟩
  | there _ ih => exact ⟨.tail _ ih.1, fun y hy => by
      rcases List.mem_cons.mp hy with rfl | hy
      · exact .head _
      · exact .tail _ (ih.2 y hy)⟩
theorem Split.mem {α : Type} {l P r : List α} (h : Split l P r) : (∀ x ∈ P, x ∈ l) ∧ ∀ y ∈ r, y ∈ l := by
  induction h with
  | nil => exact ⟨(fun _ hx => nomatch hx), fun _ hy => hy⟩
  | cons hp _ ih =>
    refine ⟨fun x hx => ?_, fun y hy => hp.mem.2 y (ih.2 y hy)⟩
    rcases List.mem_cons.mp hx with rfl | hx
    · exact hp.mem.1
    · exact hp.mem.2 x (ih.1 x hx)
theorem News.app {h₀ h : Heap} {L : Addr} {P R : List (Addr × Obj)} (a : News h₀ L h P) (b : News h₀ L h R) : News h₀ L h (P ++ R) := fun p hp => (List.mem_append.mp hp).elim (a p) (b p)
section
variable {prog : Program} {w : World} {K : Frag} {p : Program} {loose : List Str} {mean : ExcName → Option Value} {mg mb : Str → Option Value} {D U : Nat}
theorem Fn.use {f : Addr} {args : List Value} {P news rest : List (Addr × Obj)} {post : Value → List (Addr × Obj) → Prop} {A A₀ : Around} {env : Env} {outer : List Env} {base h₀ : Heap} {L : Addr} {m : Str → Option Value} {s : Shared} {Q E : Value → Shared → Prop}
    (C : Fn prog w K p loose mean mg mb D U f args P post) (H : Here prog w K p loose mean mg mb D U A env outer A₀ base h₀ L) (F : Fr h₀ L s.heap m) (N : News h₀ L s.heap news) (S : Split news P rest) (ap : Apart P rest)
    (k : ∀ v P' h' tk', post v P' → Fr h₀ L h' m → News h₀ L h' (P' ++ rest) → Apart P' rest → Q v { s with heap := h', toks := tk' }) :
    wpAny (model prog w) A (call (.ref f) args) Q E s :=
  wpAny_call (C A env outer A₀ base h₀ L m rest s _ H F (fun p hp => N p (S.mem.1 p hp)) (fun p hp => N p (S.mem.2 p hp)) ap fun v P' h' tk' hp F' N1 N2 ap' => k v P' h' tk' hp F' (News.app N1 N2) ap')
theorem Fn.useC {f : Addr} {args : List Value} {P news rest : List (Addr × Obj)} {post : Value → List (Addr × Obj) → Prop} {A A₀ : Around} {env : Env} {outer : List Env} {base h₀ : Heap} {L : Addr} {m : Str → Option Value} {s : Shared} {R : Result → Shared → Prop}
    (C : Fn prog w K p loose mean mg mb D U f args P post) (H : Here prog w K p loose mean mg mb D U A env outer A₀ base h₀ L) (F : Fr h₀ L s.heap m) (N : News h₀ L s.heap news) (S : Split news P rest) (ap : Apart P rest)
    (k : ∀ v P' h' tk', post v P' → Fr h₀ L h' m → News h₀ L h' (P' ++ rest) → Apart P' rest → R (.ok (.ret v)) { s with heap := h', toks := tk' }) :
    codeAny (model prog w) A (.call (.ref f) ⟨args, []⟩) R s :=
  C A env outer A₀ base h₀ L m rest s _ H F (fun p hp => N p (S.mem.1 p hp)) (fun p hp => N p (S.mem.2 p hp)) ap fun v P' h' tk' hp F' N1 N2 ap' => k v P' h' tk' hp F' (News.app N1 N2) ap'
end
theorem apart_nil {R : List (Addr × Obj)} : Apart [] R := fun _ h => nomatch h
theorem apart_cons {x : Addr × Obj} {P R : List (Addr × Obj)} (a : ∀ q ∈ R, x.1 ≠ q.1) (b : Apart P R) : Apart (x :: P) R := List.forall_mem_cons.mpr ⟨a, b⟩
end Mine
namespace Mine
theorem Split_app {α : Type} : ∀ (P R : List α), Split (P ++ R) P R
  | [], _ => .nil
  | _ :: P, R => .cons .here (Split_app P R)
end Mine
namespace Mine
theorem News.sub {h₀ h : Heap} {L : Addr} {P news : List (Addr × Obj)} (N : News h₀ L h news) (hs : ∀ p ∈ P, p ∈ news) : News h₀ L h P := fun p hp => N p (hs p hp)
end Mine
end
section
open PySem PySem.W PyProof.Rows PySem.Calls
set_option maxHeartbeats 4000000
namespace Mine
noncomputable def FnB (prog : Program) (w : World) (K : Frag) (p : Program) (loose : List Str) (mean : ExcName → Option Value) (mg mb : Str → Option Value)
    (D U : Nat) (f : Addr) (args : List Value) (P : List (Addr × Obj)) (post : Nat → Value → List (Addr × Obj) → Prop) : Prop :=
  ∀ (A : Around) (env : Env) (outer : List Env) (A₀ : Around) (base h₀ : Heap) (L : Addr) (m : Str → Option Value) (rest : List (Addr × Obj)) (s : Shared) (R : Result → Shared → Prop),
    Here prog w K p loose mean mg mb D U A env outer A₀ base h₀ L → Fr h₀ L s.heap m → News h₀ L s.heap P → News h₀ L s.heap rest → Apart P rest →
    (∀ (B : Nat) v P' h' tk', post B v P' → Fr h₀ L h' m → News h₀ L h' P' → News h₀ L h' rest → Apart P' rest → (∀ q ∈ rest, q.1 < B) → R (.ok (.ret v)) { s with heap := h', toks := tk' }) →
    codeAny (model prog w) A (.call (.ref f) ⟨args, []⟩) R s
section
variable {prog : Program} {w : World} {K : Frag} {p : Program} {loose : List Str} {mean : ExcName → Option Value} {mg mb : Str → Option Value} {D U : Nat}

theorem FnB.cells {f : Addr} {args : List Value} {P : List (Addr × Obj)} {post : Nat → Value → List (Addr × Obj) → Prop} {name qual : Str} {params : Arguments} {body : List Stmt} {scope : Scope}
    {dV kV doc pm cdv ct oc : Value} {an od : Option Addr} {osl : Array (Option Value)} {binds : List (Str × Value)}
    (ho : K.lookup f = some ⟨oc, od, .func (fnOf name qual params body scope dV kV doc pm an cdv ct), osl⟩) (hcd : codeIn K cdv qual = true)
    (hbind : ∀ s, BindsTo s (fnOf name qual params body scope dV kV doc pm an cdv ct) ⟨args, []⟩ binds)
    (hkind : (binds.all fun y => scope.names.lookup y.1 == some .local || scope.names.lookup y.1 == some .cell) = true) (hnd : ((cellsFrom 0 scope.names []).map (·.1)).Nodup)
    (h : ∀ (gd : Option (List Code)) (outer : List Env) (A₀ : Around) (base g : Heap) (L : Addr) (s : Shared) (cells : List (Addr × Obj)),
      Below A₀ base outer g → K.In g → Top p loose mean mg mb g → Fr g L s.heap (bindL (envOfC qual scope L f cdv).kindOf binds fun _ => none) → News g L s.heap (cells ++ P) →
      CellsAre (bindC (envOfC qual scope L f cdv).kindOf binds fun _ => none) (cellsFrom (L + 1) scope.names []) cells → (∀ p ∈ P, p.1 < L) →
      wpAny (model prog w) (ktrTop (D + 1) (U + 3) gd qual scope L f cdv (cellsFrom (L + 1) scope.names []) outer) (execs body (envOfC qual scope L f cdv)) (fun fl s' => Ends g L (post L) s (retOf fl) s') (fun _ _ => False) s)
    (hD : D < recursionLimit) (hco : scope.isCoroutine = false) (hgen : scope.isGenerator = false) (hk : scope.kind = .function) :
    FnB prog w K p loose mean mg mb D U f args P post := by
  intro A env outer A₀ base h₀ L m rest s R H F N N2 hap k
  obtain ⟨BG, KG, TG, back⟩ := ground H F N N2 hap
  have hA : A = { handled := none, depth := A.depth, frames := some (env :: outer), guards := A.guards, units := A.units } := by
    obtain ⟨a, b, c, d, e⟩ := A
    have h1 := H.frames
    have h2 := H.handled
    simp only at h1 h2
    subst h1 h2
    rfl
  have up : codeAny (model prog w) { handled := none, depth := D, frames := some (env :: outer), guards := A.guards, units := U } (.call (.ref f) ⟨args, []⟩) R s := by
    refine codeAny_call_function hD (H.kin.keeps F.keep f _ ho) rfl hco hgen rfl (codeRec_of (H.kin.keeps F.keep) hcd) (hbind _ _ _ _ _ ?_)
    refine wpAny_newFunctionEnv_cells hk (kindsX hkind _) fun env' he s' x => ?_
    subst he
    refine ⟨((H.top.nolimit).keeps F.keep).keeps x.toInCall.keep, codeAny_func ?_⟩
    obtain ⟨h₁, tk, rfl, _⟩ := x.done
    have hk₁ := x.toInCall.keep
    obtain ⟨cells, NC, Y⟩ := Cl.news (h₀ := s.heap) (Nat.le_refl _) fun n c hm => ⟨x.cell n c (lookup_of_mem_nodup (cellsFrom_names scope.names 0 (s.heap.objs.size + 1) [] [] rfl ▸ hnd) hm), x.above n c hm⟩
    refine wpAny_mono (h A.guards (env :: outer) A base (hideAll s.heap (P.map (·.1))) s.heap.objs.size { s with heap := h₁, toks := tk } cells BG KG TG ⟨x.toInCall.ns, fun b o e => hk₁ b o (of_hideAll _ e), Nat.le_of_eq (hideAll_size _ _)⟩
      (fun p hp => ?_) Y (fun p hp => Heap.lt_size (N p hp).1)) (fun fl s' hl => ?_) fun _ _ y => y.elim
    · rcases List.mem_append.mp hp with hp | hp
      · refine ⟨(NC p hp).1, (NC p hp).2.1, ?_⟩
        cases q : (hideAll s.heap (P.map (·.1))).get? p.1 with
        | none => rfl
        | some o => have := of_hideAll _ q; rw [(NC p hp).2.2] at this; cases this
      · exact ⟨hk₁ _ _ (N p hp).1, Nat.ne_of_lt (Heap.lt_size (N p hp).1), hideAll_none _ (List.mem_map_of_mem hp)⟩
    · obtain ⟨P', m', h', tk', rfl, hp, F', N'⟩ := hl
      obtain ⟨F2, N3, N4, hap2⟩ := back _ _ _ _ F' N'
      have := k _ _ _ _ tk' hp F2 N3 N4 hap2 fun p hp => Heap.lt_size (N2 p hp).1
      cases fl <;> exact this
  rw [hA]
  exact code_le up H.depth H.units

theorem FnB.use {f : Addr} {args : List Value} {P news rest : List (Addr × Obj)} {post : Nat → Value → List (Addr × Obj) → Prop} {A A₀ : Around} {env : Env} {outer : List Env} {base h₀ : Heap} {L : Addr} {m : Str → Option Value} {s : Shared} {Q E : Value → Shared → Prop}
    (C : FnB prog w K p loose mean mg mb D U f args P post) (H : Here prog w K p loose mean mg mb D U A env outer A₀ base h₀ L) (F : Fr h₀ L s.heap m) (N : News h₀ L s.heap news) (S : Split news P rest) (ap : Apart P rest)
    (k : ∀ (B : Nat) v P' h' tk', post B v P' → Fr h₀ L h' m → News h₀ L h' (P' ++ rest) → Apart P' rest → (∀ q ∈ rest, q.1 < B) → Q v { s with heap := h', toks := tk' }) :
    wpAny (model prog w) A (call (.ref f) args) Q E s :=
  wpAny_call (C A env outer A₀ base h₀ L m rest s _ H F (fun p hp => N p (S.mem.1 p hp)) (fun p hp => N p (S.mem.2 p hp)) ap fun B v P' h' tk' hp F' N1 N2 ap' lt => k B v P' h' tk' hp F' (News.app N1 N2) ap' lt)
end
end Mine
namespace Mine
section
variable {prog : Program} {w : World} {K : Frag} {p : Program} {loose : List Str} {mean : ExcName → Option Value} {mg mb : Str → Option Value} {D U : Nat}
end
end Mine
end
section
open PySem PySem.W PyProof.Rows PySem.Calls
set_option maxHeartbeats 4000000
namespace Mine
noncomputable def FnTop (prog : Program) (w : World) (K : Frag) (p : Program) (loose : List Str) (mean : ExcName → Option Value) (mg mb : Str → Option Value)
    (D U : Nat) (f : Addr) (args : List Value) (P : List (Addr × Obj)) (pre : Heap → Prop) (post : Value → List (Addr × Obj) → Prop) : Prop :=
  ∀ (A : Around) (g : Heap) (s : Shared) (R : Result → Shared → Prop), A.handled = none → A.frames = some [] → A.depth ≤ D → A.units ≤ U → K.In g → Top p loose mean mg mb g → pre g →
    g.StaysIn s.heap → g.objs.size ≤ s.heap.objs.size → (∀ p ∈ P, s.heap.get? p.1 = some p.2 ∧ g.get? p.1 = none) →
    (∀ v P' L m h' tk', post v P' → Fr g L h' m → News g L h' P' → R (.ok (.ret v)) { s with heap := h', toks := tk' }) →
    codeAny (model prog w) A (.call (.ref f) ⟨args, []⟩) R s
section
variable {prog : Program} {w : World} {K : Frag} {p : Program} {loose : List Str} {mean : ExcName → Option Value} {mg mb : Str → Option Value} {D U : Nat}
theorem FnTop.cells {f : Addr} {args : List Value} {P : List (Addr × Obj)} {pre : Heap → Prop} {post : Value → List (Addr × Obj) → Prop} {name qual : Str} {params : Arguments} {body : List Stmt} {scope : Scope}
    {dV kV doc pm cdv ct oc : Value} {an od : Option Addr} {osl : Array (Option Value)} {binds : List (Str × Value)}
    (ho : K.lookup f = some ⟨oc, od, .func (fnOf name qual params body scope dV kV doc pm an cdv ct), osl⟩) (hcd : codeIn K cdv qual = true)
    (hbind : ∀ s, BindsTo s (fnOf name qual params body scope dV kV doc pm an cdv ct) ⟨args, []⟩ binds)
    (hkind : (binds.all fun y => scope.names.lookup y.1 == some .local || scope.names.lookup y.1 == some .cell) = true) (hnd : ((cellsFrom 0 scope.names []).map (·.1)).Nodup)
    (h : ∀ (gd : Option (List Code)) (outer : List Env) (A₀ : Around) (base g : Heap) (L : Addr) (s : Shared) (cells : List (Addr × Obj)),
      Below A₀ base outer g → K.In g → Top p loose mean mg mb g → pre g → Fr g L s.heap (bindL (envOfC qual scope L f cdv).kindOf binds fun _ => none) → News g L s.heap (cells ++ P) →
      CellsAre (bindC (envOfC qual scope L f cdv).kindOf binds fun _ => none) (cellsFrom (L + 1) scope.names []) cells → (∀ p ∈ P, p.1 < L) →
      wpAny (model prog w) (ktrTop (D + 1) (U + 3) gd qual scope L f cdv (cellsFrom (L + 1) scope.names []) outer) (execs body (envOfC qual scope L f cdv)) (fun fl s' => Ends g L post s (retOf fl) s') (fun _ _ => False) s)
    (hD : D < recursionLimit) (hco : scope.isCoroutine = false) (hgen : scope.isGenerator = false) (hk : scope.kind = .function) :
    FnTop prog w K p loose mean mg mb D U f args P pre post := by
  intro A g s R hA1 hA2 hA3 hA4 X T hpre st hsz N k
  have hA : A = { handled := none, depth := A.depth, frames := some [], guards := A.guards, units := A.units } := by
    obtain ⟨a, b, c, d, e⟩ := A
    simp only at hA1 hA2
    subst hA1 hA2
    rfl
  have up : codeAny (model prog w) { handled := none, depth := D, frames := some [], guards := A.guards, units := U } (.call (.ref f) ⟨args, []⟩) R s := by
    refine codeAny_call_function hD (X.keeps st f _ ho) rfl hco hgen rfl (codeRec_of (X.keeps st) hcd) (hbind _ _ _ _ _ ?_)
    refine wpAny_newFunctionEnv_cells hk (kindsX hkind _) fun env' he s' x => ?_
    subst he
    refine ⟨(T.nolimit.keeps st).keeps x.toInCall.keep, codeAny_func ?_⟩
    obtain ⟨h₁, tk, rfl, _⟩ := x.done
    have hk₁ := x.toInCall.keep
    obtain ⟨cells, NC, Y⟩ := Cl.news (h₀ := s.heap) (Nat.le_refl _) fun n c hm => ⟨x.cell n c (lookup_of_mem_nodup (cellsFrom_names scope.names 0 (s.heap.objs.size + 1) [] [] rfl ▸ hnd) hm), x.above n c hm⟩
    refine wpAny_mono (h A.guards [] { handled := none, depth := D, frames := some [], guards := A.guards, units := U } g g s.heap.objs.size { s with heap := h₁, toks := tk } cells ⟨rfl, fun _ _ e => e, trivial⟩ X T hpre ⟨x.toInCall.ns, fun b o e => hk₁ b o (st b o e), hsz⟩
      (fun p hp => ?_) Y (fun p hp => Heap.lt_size (N p hp).1)) (fun fl s' hl => ?_) fun _ _ y => y.elim
    · rcases List.mem_append.mp hp with hp | hp
      · refine ⟨(NC p hp).1, (NC p hp).2.1, ?_⟩
        cases q : g.get? p.1 with
        | none => rfl
        | some o => have := st _ _ q; rw [(NC p hp).2.2] at this; cases this
      · exact ⟨hk₁ _ _ (N p hp).1, Nat.ne_of_lt (Heap.lt_size (N p hp).1), (N p hp).2⟩
    · obtain ⟨P', m', h', tk', rfl, hp, F', N'⟩ := hl
      have := k _ _ _ _ _ tk' hp F' N'
      cases fl <;> exact this
  rw [hA]
  exact code_le up hA3 hA4
end
end Mine
end
section
open PySem PySem.W PyProof.Rows PySem.Calls
set_option maxHeartbeats 4000000
namespace Mine
noncomputable def SrcAt (St : Nat → Heap → Prop) (fp : List Addr) (i : Nat) (os : List (Addr × Obj)) : Prop := ∃ h : Heap, St i h ∧ ∀ b ∈ fp, ∀ o, h.get? b = some o → (b, o) ∈ os
theorem SrcAt.st {prog : Program} {w : World} {A : Around} {I : Addr} {fp wr : List Addr} {n : Nat} {P : Nat → Value → Prop} {St : Nat → Heap → Prop} {i : Nat} {os : List (Addr × Obj)} {h : Heap}
    (W : Walks prog w A I fp wr n P St) (a : SrcAt St fp i os) (hh : ∀ p ∈ os, h.get? p.1 = some p.2) : St i h := by
  obtain ⟨h0, hst, hk⟩ := a
  exact W.frame i h0 h hst fun b hb o e => hh _ (hk b hb o e)
noncomputable def FpIn (I : Addr) (fp : List Addr) (fx : List (Addr × Obj)) : Prop := ∀ b ∈ fp, b = I ∨ ∃ o, (b, o) ∈ fx
theorem SrcAt.next {prog : Program} {w : World} {A : Around} {I : Addr} {fp wr : List Addr} {n : Nat} {P : Nat → Value → Prop} {St : Nat → Heap → Prop} {i : Nat} {fx : List (Addr × Obj)} {h : Heap} {oI : Obj}
    (W : Walks prog w A I fp wr n P St) (hf : FpIn I fp fx) (st : St i h) (hI : h.get? I = some oI) (hh : ∀ p ∈ fx, h.get? p.1 = some p.2) : SrcAt St fp i ((I, oI) :: fx) := by
  refine ⟨h, st, fun b hb o e => ?_⟩
  rcases hf b hb with rfl | ⟨o', ho'⟩
  · rw [hI] at e; cases e; exact .head _
  · have := hh _ ho'
    rw [e] at this; cases this; exact .tail _ ho'

section
variable {prog : Program} {w : World} {A : Around} {s : Shared} {env : Env} {h₀ : Heap} {L : Addr} {m : Str → Option Value}

theorem draw_src {I : Addr} {fp : List Addr} {n : Nat} {P : Nat → Value → Prop} {St : Nat → Heap → Prop} {i : Nat} {fx news : List (Addr × Obj)} {oI : Obj} {Q : Option Value → Shared → Prop} {E : Value → Shared → Prop}
    (W : Walks prog w A I fp [I] n P St) (hf : FpIn I fp fx) (hin : ∀ i h, St i h → ∃ o, h.get? I = some o) (hi : i < n) (a : SrcAt St fp i ((I, oI) :: fx)) (F : Fr h₀ L s.heap m) (N : News h₀ L s.heap ((I, oI) :: news)) (hfx : ∀ p ∈ fx, p ∈ news) (hI : ∀ p ∈ news, p.1 ≠ I)
    (h : ∀ v oI' h' tk', P i v → SrcAt St fp (i + 1) ((I, oI') :: fx) → Fr h₀ L h' m → News h₀ L h' ((I, oI') :: news) → Q (some v) { s with heap := h', toks := tk' }) :
    wpAny (model prog w) A (pyNext (.ref I)) Q E s := by
  refine W.item i s Q E hi (a.st W fun p hp => ?_) fun v h' tk hP st' hk => ?_
  · rcases List.mem_cons.mp hp with rfl | hp
    · exact (N _ (.head _)).1
    · exact (N _ (.tail _ (hfx _ hp))).1
  · have z := N _ (.head _)
    obtain ⟨oI', hI'⟩ := hin _ _ st'
    have old : ∀ b o, b ≠ I → s.heap.get? b = some o → h'.get? b = some o := fun b o hb e => hk b o (by simpa using hb) e
    have F' : Fr h₀ L h' m := by
      obtain ⟨oL, q1, q2, q3, q4⟩ := F.ns
      refine ⟨⟨oL, q1, q2, old _ _ (Ne.symm z.2.1) q3, q4⟩, fun b o e => old _ _ (fun q => ?_) (F.keep b o e), F.above⟩
      rw [q, z.2.2] at e; cases e
    have N' : News h₀ L h' ((I, oI') :: news) := fun p hp => by
      rcases List.mem_cons.mp hp with rfl | hp
      · exact ⟨hI', z.2⟩
      · have y := N _ (.tail _ hp)
        exact ⟨old _ _ (hI p hp) y.1, y.2⟩
    exact h v oI' h' tk hP (SrcAt.next W hf st' hI' fun p hp => (N' _ (.tail _ (hfx p hp))).1) F' N'
theorem end_src {I : Addr} {fp : List Addr} {n : Nat} {P : Nat → Value → Prop} {St : Nat → Heap → Prop} {fx news : List (Addr × Obj)} {oI : Obj} {Q : Option Value → Shared → Prop} {E : Value → Shared → Prop}
    (W : Walks prog w A I fp [I] n P St) (a : SrcAt St fp n ((I, oI) :: fx)) (F : Fr h₀ L s.heap m) (N : News h₀ L s.heap ((I, oI) :: news)) (hfx : ∀ p ∈ fx, p ∈ news) (hI : ∀ p ∈ news, p.1 ≠ I)
    (h : ∀ h' tk', Fr h₀ L h' m → News h₀ L h' news → Q none { s with heap := h', toks := tk' }) :
    wpAny (model prog w) A (pyNext (.ref I)) Q E s := by
  refine W.done s Q E (a.st W fun p hp => ?_) fun h' tk hk => ?_
  · rcases List.mem_cons.mp hp with rfl | hp
    · exact (N _ (.head _)).1
    · exact (N _ (.tail _ (hfx _ hp))).1
  · have z := N _ (.head _)
    have old : ∀ b o, b ≠ I → s.heap.get? b = some o → h'.get? b = some o := fun b o hb e => hk b o (by simpa using hb) e
    have F' : Fr h₀ L h' m := by
      obtain ⟨oL, q1, q2, q3, q4⟩ := F.ns
      refine ⟨⟨oL, q1, q2, old _ _ (Ne.symm z.2.1) q3, q4⟩, fun b o e => old _ _ (fun q => ?_) (F.keep b o e), F.above⟩
      rw [q, z.2.2] at e; cases e
    exact h h' tk F' fun p hp => by
      have y := N _ (.tail _ hp)
      exact ⟨old _ _ (hI p hp) y.1, y.2⟩

structure Src (prog : Program) (w : World) (I : Addr) (oI : Obj) (fx : List (Addr × Obj)) (n : Nat) (P : Nat → Value → Prop) (fp : List Addr) (St : Nat → Heap → Prop) : Prop where
  walks : ∀ A : Around, A.handled = none → Walks prog w A I fp [I] n P St
  fpin : FpIn I fp fx
  has : ∀ i h, St i h → ∃ o, h.get? I = some o
  at0 : SrcAt St fp 0 ((I, oI) :: fx)

theorem for_src {σ : Type} {target : Expr} {body : List Stmt} {Q : Flow → Shared → Prop} {m₀ : Str → Option Value} {E : Value → Shared → Prop} {I : Addr} {oI : Obj} {fx : List (Addr × Obj)} {n : Nat} {P : Nat → Value → Prop} {fp : List Addr} {St : Nat → Heap → Prop}
    (S : Src prog w I oI fx n P fp St) (hA : A.handled = none) (Led : σ → List (Addr × Obj)) (ps : σ → List (Str × Value)) (stored : List Str) (J : Nat → σ → Prop) (c₀ : σ)
    (F : Fr h₀ L s.heap m₀) (N : News h₀ L s.heap ((I, oI) :: Led c₀)) (hI : ∀ p ∈ Led c₀, p.1 ≠ I) (hk : ∀ p ∈ ps c₀, m₀ p.1 = some p.2) (hfx : ∀ i c, J i c → ∀ p ∈ fx, p ∈ Led c) (hj : J 0 c₀)
    (turn : ∀ (i : Nat) (c : σ) (u : Str → Option Value) h tk v oI', i < n → P i v → J i c → Fr h₀ L h (kstB (fun z => if stored.contains z then u z else m₀ z) (ps c)) → News h₀ L h ((I, oI') :: Led c) → (∀ p ∈ Led c, p.1 ≠ I) →
      wpAny (model prog w) A (assign target env v) (fun _ s₂ => wpAny (model prog w) A (execs body env) (ForPost h₀ L s (fun c => (I, oI') :: Led c) ps stored m₀ (fun c' => (∀ p ∈ Led c', p.1 ≠ I) ∧ J (i + 1) c') Q) FalseE s₂) FalseE { s with heap := h, toks := tk })
    (done : ∀ (c : σ) (u : Str → Option Value) h tk, J n c → Fr h₀ L h (kstB (fun z => if stored.contains z then u z else m₀ z) (ps c)) → News h₀ L h (Led c) → Q .next { s with heap := h, toks := tk })
    (ht : ∀ v, letOwnedTupleGo target (.ref I) v = pure () := by intro _; rfl) :
    codeAny (model prog w) A (.forLoop target (.ref I) body [] env) (fun r s' => match r with | .ok f => Q f s' | .error e => cameBackBy (model prog w) A env E e s') s := by
  refine for_led (σ := σ × Obj × Nat) (fun c => (I, c.2.1) :: Led c.1) (fun c => ps c.1) stored (fun k c => k = n - c.2.2 ∧ c.2.2 ≤ n ∧ (∀ p ∈ Led c.1, p.1 ≠ I) ∧ SrcAt St fp c.2.2 ((I, c.2.1) :: fx) ∧ J c.2.2 c.1) n (c₀, oI, 0) F N hk ⟨rfl, Nat.zero_le _, hI, S.at0, hj⟩ ?_ ht
  rintro k ⟨c, oI', i⟩ u h tk ⟨hk', hle, hI', hat, hJ⟩ F' N'
  dsimp only at hk' hle hI' hat hJ N' F'
  by_cases hi : i < n
  · refine draw_src (S.walks A.in1 hA).of_in1 S.fpin S.has hi hat F' N' (hfx _ _ hJ) hI' fun v oI'' h' tk' hP hat' F2 N2 => ?_
    dsimp only [ForTurn]
    refine wpAny_mono (turn i c u h' tk' v oI'' hi hP hJ F2 N2 hI') (fun _ s₂ hs₂ => wpAny_mono hs₂ (fun f s₃ hf => ?_) fun _ _ e => e.elim) fun _ _ e => e.elim
    cases f with
    | next =>
      obtain ⟨c', h3, tk3, m3, news3, rfl, F3, N3, hn3, hk3, hr3, hI3, hJ3⟩ := hf
      exact ⟨(c', oI'', i + 1), h3, tk3, m3, news3, rfl, F3, N3, hn3, hk3, hr3, n - (i + 1), by omega, rfl, hi, hI3, hat', hJ3⟩
    | cont =>
      obtain ⟨c', h3, tk3, m3, news3, rfl, F3, N3, hn3, hk3, hr3, hI3, hJ3⟩ := hf
      exact ⟨(c', oI'', i + 1), h3, tk3, m3, news3, rfl, F3, N3, hn3, hk3, hr3, n - (i + 1), by omega, rfl, hi, hI3, hat', hJ3⟩
    | brk => exact hf
    | ret v => exact hf
  · have e : i = n := by omega
    subst e
    refine end_src (S.walks A.in1 hA).of_in1 hat F' N' (hfx _ _ hJ) hI' fun h' tk' F2 N2 => ?_
    exact done c u h' tk' hJ F2 N2

variable {E : Value → Shared → Prop} {Q : Value → Shared → Prop} {elt iter : Expr} {x : Str} {px : Pos} {ifs : List Expr} {scope : Scope} {cl : List (Str × Addr)} {pos : Pos}
end
section
variable {prog : Program} {w : World}
theorem src_str {I : Addr} {o : Obj} {x : Str} {St : Nat → Heap → Prop} {h : Heap} (W : ∀ A' : Around, A'.handled = none → Walks prog w A' I [I] [I] x.cps.size (SignAt x) St) (st : St 0 h) (e : h.get? I = some o)
    (hin : ∀ i h, St i h → ∃ o, h.get? I = some o) : Src prog w I o [] x.cps.size (SignAt x) [I] St :=
  ⟨W, fun b hb => .inl (by simpa using hb), hin, SrcAt.next (W ⟨none, 0, none, none, 0⟩ rfl) (fun b hb => .inl (by simpa using hb)) st e (fun _ h => nomatch h)⟩
end
section
variable {prog : Program} {w : World} {A : Around} {s : Shared} {E : Value → Shared → Prop} {Q : Value → Shared → Prop} {h₀ : Heap} {L : Addr} {m : Str → Option Value} {news : List (Addr × Obj)}
theorem iter_str_N {x : Str} {t : Tok} (F : Fr h₀ L s.heap m) (N : News h₀ L s.heap news)
    (h : ∀ I oI St h', Src prog w I oI [] x.cps.size (SignAt x) [I] St → Fr h₀ L h' m → News h₀ L h' ((I, oI) :: news) → (∀ p ∈ news, p.1 < I) → Q (.ref I) { s with heap := h' }) :
    wpAny (model prog w) A (pyIter (.str x t)) Q E s := by
  cases ha : x.cps.all (· < 128)
  · refine wpAny_pyIter_wide ha ?_
    exact h _ _ _ _ (src_str (St := fun i h => h.IsStrIter _ "str_iterator" x t i) (h := s.heap.push _) (fun A' hA => Walks.strWide hA _ x t) ⟨_, Heap.get?_push_size _ rfl, rfl, rfl⟩ (Heap.get?_push_size _ rfl) (fun i h ⟨o, ho, _⟩ => ⟨o, ho⟩)) (F.push _) (N.push F _) fun p hp => Heap.lt_size (N p hp).1
  · refine wpAny_pyIter_ascii ha ?_
    exact h _ _ _ _ (src_str (St := fun i h => h.IsStrIter _ "str_ascii_iterator" x t i) (h := s.heap.push _) (fun A' hA => Walks.strAscii hA _ x t) ⟨_, Heap.get?_push_size _ rfl, rfl, rfl⟩ (Heap.get?_push_size _ rfl) (fun i h ⟨o, ho, _⟩ => ⟨o, ho⟩)) (F.push _) (N.push F _) fun p hp => Heap.lt_size (N p hp).1
noncomputable def ByteAt (b : Array UInt8) (i : Nat) (v : Value) : Prop := ∃ c u, b[i]? = some c ∧ v = .int (c.toNat : Int) u
theorem iter_bytes_N {b : Array UInt8} {t : Tok} (F : Fr h₀ L s.heap m) (N : News h₀ L s.heap news)
    (h : ∀ I oI St h', Src prog w I oI [] b.size (ByteAt b) [I] St → Fr h₀ L h' m → News h₀ L h' ((I, oI) :: news) → (∀ p ∈ news, p.1 < I) → Q (.ref I) { s with heap := h' }) :
    wpAny (model prog w) A (pyIter (.bytes b t)) Q E s := by
  refine KBw.pyIter_bytes ?_
  refine h _ _ (fun i h => KBw.IsBytesIter h s.heap.objs.size b t i) _ ⟨fun A' hA => KBw.walks hA _ b t, fun b hb => .inl (by simpa using hb), fun i h ⟨o, ho, _⟩ => ⟨o, ho⟩, ?_⟩ (F.push _) (N.push F _) fun p hp => Heap.lt_size (N p hp).1
  exact SrcAt.next (h := s.heap.push _) (KBw.walks (prog := prog) (w := w) (A := ⟨none, 0, none, none, 0⟩) rfl _ b t) (fun b hb => .inl (by simpa using hb)) ⟨_, Heap.get?_push_size _ rfl, rfl, rfl⟩ (Heap.get?_push_size _ rfl) (fun _ h => nomatch h)
noncomputable def ItemAt (items : Array Value) (i : Nat) (v : Value) : Prop := items[i]? = some v
theorem iter_list_N {l : Addr} {items : Array Value} {k : Nat} (F : Fr h₀ L s.heap m) (N : News h₀ L s.heap news) (hl : (l, listOf items k) ∈ news)
    (h : ∀ I oI St h', Src prog w I oI [(l, listOf items k)] items.size (ItemAt items) [I, l] St → Fr h₀ L h' m → News h₀ L h' ((I, oI) :: news) → (∀ p ∈ news, p.1 < I) → Q (.ref I) { s with heap := h' }) :
    wpAny (model prog w) A (pyIter (.ref l)) Q E s := by
  have il := News.isList N hl
  have hne : l ≠ s.heap.objs.size := Nat.ne_of_lt (Heap.lt_size (N _ hl).1)
  have fp : FpIn s.heap.objs.size [s.heap.objs.size, l] [(l, listOf items k)] := fun b hb => by
    rcases List.mem_cons.mp hb with rfl | hb
    · exact .inl rfl
    · exact .inr ⟨_, by rw [List.mem_singleton.mp hb]; exact .head _⟩
  refine wpAny_pyIter_list il ?_
  refine h _ _ (fun i h => h.IsListIter s.heap.objs.size l i ∧ h.IsList l items) _ ⟨fun A' hA => Walks.list hA _ l hne items, fp, fun i h st => let ⟨o, ho, _⟩ := st.1; ⟨o, ho⟩, ?_⟩ (F.push _) (N.push F _) fun p hp => Heap.lt_size (N p hp).1
  refine SrcAt.next (h := s.heap.push _) (Walks.list (prog := prog) (w := w) (A := ⟨none, 0, none, none, 0⟩) rfl _ l hne items) fp ⟨⟨_, Heap.get?_push_size _ rfl, rfl, rfl⟩, ?_⟩ (Heap.get?_push_size _ rfl) ?_
  · obtain ⟨o, ho, r⟩ := il
    exact ⟨o, Heap.get?_push_of_some _ ho, r⟩
  · intro p hp
    rw [List.mem_singleton.mp hp]
    exact Heap.get?_push_of_some _ (N _ hl).1
noncomputable def RangeAt (a : Int) (i : Nat) (v : Value) : Prop := ∃ t, v = .int (a + i * 1) t
theorem iter_range_N {r : Addr} {a b : Int} {t u v : Tok} {n : Nat} (F : Fr h₀ L s.heap m) (N : News h₀ L s.heap news) (hr : IsRange s.heap r a b 1 t u v) (hsmall : Builtin.Range.small a b 1 = true) (hn : Builtin.Range.rangeSize a b 1 = (n : Int))
    (h : ∀ I oI St h', Src prog w I oI [] n (RangeAt a) [I] St → Fr h₀ L h' m → News h₀ L h' ((I, oI) :: news) → (∀ p ∈ news, p.1 < I) → Q (.ref I) { s with heap := h' }) :
    wpAny (model prog w) A (pyIter (.ref r)) Q E s := by
  refine wpAny_pyIter_range hr hsmall ?_
  refine h _ _ (fun i h => IsRangeIter h s.heap.objs.size (a + (i : Nat) * 1) ((n : Int) - (i : Nat)) 1) _ ⟨fun A' hA => Walks.range hA _ a 1 n, fun b hb => .inl (by simpa using hb), fun i h st => ⟨_, st⟩, ?_⟩ (F.push _) (N.push F _) fun p hp => Heap.lt_size (N p hp).1
  refine SrcAt.next (h := s.heap.push _) (Walks.range (prog := prog) (w := w) (A := ⟨none, 0, none, none, 0⟩) rfl _ a 1 n) (fun b hb => .inl (by simpa using hb)) ?_ (Heap.get?_push_size _ rfl) (fun _ h => nomatch h)
  show IsRangeIter _ _ _ _ _
  rw [hn]
  simpa using Heap.get?_push_size _ rfl
end
end Mine
end
section
open PySem PySem.W PyProof.Rows PySem.Calls
namespace Mine
theorem join_txts : ∀ ls : List (List Nat), Txt.join (Str.ofString "") (ls.map fun l => txt l) = txt ls.flatten := by
  intro ls
  rw [eq_of_beq (join_plain_closes _ _)]
  induction ls with
  | nil => rfl
  | cons x r ih =>
    cases r with
    | nil => show txt x = _; rw [List.flatten_cons, List.flatten_nil, List.append_nil]
    | cons y r =>
      show txt x ++ Str.ofString "" ++ Str.join _ ((y :: r).map fun l => txt l) = _
      rw [ih, List.flatten_cons (l := x), ← txt_app, show txt x ++ Str.ofString "" = txt x from by rw [show Str.ofString "" = txt [] from rfl, txt_app, List.append_nil]]
theorem StrsAre.snoc {vs : List Value} {ys : List Str} (h : StrsAre vs ys) (y : Str) (t : Tok) : StrsAre (vs ++ [.str y t]) (ys ++ [y]) := h.append' (.cons _ _ .nil)
theorem IntsAre.snoc {vs : List Value} {ys : List Int} (h : IntsAre vs ys) (y : Int) (t : Tok) : IntsAre (vs ++ [.int y t]) (ys ++ [y]) := h.append (.cons _ _ .nil)
theorem take_snoc {α : Type} {l : List α} {i : Nat} {x : α} (h : l[i]? = some x) : l.take (i + 1) = l.take i ++ [x] := by
  rw [List.take_add_one, h]; rfl
theorem flatten_ones : ∀ l : List UInt8, (l.map fun c => [c.toNat]).flatten = l.map (·.toNat)
  | [] => rfl
  | a :: r => by rw [List.map_cons, List.flatten_cons, flatten_ones r]; rfl
theorem slice_one (l : List Nat) : Txt.slice (txt l) none (some 1) = txt (l.take 1) := by
  have e : Txt.slice (txt l) none (some 1) = Txt.slice (txt l) (some ((0 : Nat) : Int)) (some (((0 : Nat) : Int) + 1)) := rfl
  rw [e, slice_sgn]; rfl
theorem no_head {l : List Nat} {c : Nat} (h : (Txt.slice (txt l) none (some 1) == txt [c]) = true) : l.head? = some c := by
  rw [slice_one] at h
  have e := txt_inj (eq_of_beq h)
  cases l with
  | nil => cases e
  | cons a r => simp only [List.take_succ_cons, List.take_zero] at e; cases e; rfl
noncomputable abbrev numOf (l : List Nat) : Int := l.foldl (fun (n : Int) (c : Nat) => n * 16 + (c : Int) - 65) 0
theorem numOf_snoc {l : List Nat} {i c : Nat} (h : l[i]? = some c) : numOf (l.take (i + 1)) = numOf (l.take i) * 16 + (c : Int) - 65 := by
  rw [numOf, take_snoc h, List.foldl_append]; rfl
noncomputable def wrt (l : List Nat) (way : Nat) : List Nat :=
  (if l = [] ∨ way % 3 = 2 then [34] ++ l ++ [34] else if way % 3 = 1 then (l.map fun c => [92, c]).flatten else l) ++ [[32, 10, 9, 13].getD (way / 3 % 4) 0]
theorem item_ws (way : Nat) : Txt.item (Str.ofString " \n\t\r") (((way : Int).fdiv 3).fmod 4) = txt [[32, 10, 9, 13].getD (way / 3 % 4) 0] := by
  have e : ((way : Int).fdiv 3).fmod 4 = ((way / 3 % 4 : Nat) : Int) := by
    rw [Int.fdiv_eq_ediv_of_nonneg _ (by decide), Int.fmod_eq_emod_of_nonneg _ (by decide)]; omega
  rw [e]
  have hk : way / 3 % 4 < 4 := Nat.mod_lt _ (by decide)
  generalize way / 3 % 4 = k at hk
  match k, hk with
  | 0, _ => rfl
  | 1, _ => rfl
  | 2, _ => rfl
  | 3, _ => rfl
theorem fmod3 {way : Nat} {k : Nat} : (way : Int).fmod 3 = (k : Int) ↔ way % 3 = k := by
  rw [Int.fmod_eq_emod_of_nonneg _ (by decide)]; omega
theorem join_map {α : Type} (f : α → List Nat) (l : List α) : Txt.join (Str.ofString "") (l.map fun c => txt (f c)) = txt (l.map f).flatten := by
  have e : (l.map fun c => txt (f c)) = ((l.map f).map fun x => txt x) := by rw [List.map_map]; rfl
  rw [e, join_txts]
theorem weigh_map {α : Type} (f : α → List Nat) (k : Nat) : ∀ l : List α, (∀ a ∈ l, (f a).length ≤ k) → ((l.map fun c => txt (f c)).map (·.length)).sum + (l.map fun c => txt (f c)).length ≤ (k + 1) * l.length
  | [], _ => by simp
  | a :: r, h => by
    have ih := weigh_map f k r fun x hx => h x (.tail _ hx)
    have h1 := h a (.head _)
    simp only [List.map_cons, List.sum_cons, List.length_cons, txt_len, List.length_map] at ih ⊢
    rw [Nat.mul_add]
    omega
theorem flat2_len : ∀ l : List Nat, (l.map fun c => [92, c]).flatten.length = 2 * l.length
  | [] => rfl
  | a :: r => by rw [List.map_cons, List.flatten_cons, List.length_append, flat2_len r]; simp only [List.length_cons, List.length_nil]; omega
noncomputable def wcode (x : Int) : List Nat := (apL x.natAbs).map (·.toNat)
end Mine
end
section
open PySem PySem.W PyProof.Rows PySem.Calls
namespace Mine
set_option maxHeartbeats 4000000
noncomputable def PureEnd (h₀ : Heap) (L : Addr) (m : Str → Option Value) (s : Shared) (all : List (Addr × Obj)) (P : Prop) (s₂ : Shared) : Prop := ∃ h' tk, s₂ = { s with heap := h', toks := tk } ∧ Fr h₀ L h' m ∧ News h₀ L h' all ∧ P
theorem PureEnd.intro {h₀ : Heap} {L : Addr} {m : Str → Option Value} {s : Shared} {all : List (Addr × Obj)} {P : Prop} {h' : Heap} {tk : Nat} (F : Fr h₀ L h' m) (N : News h₀ L h' all) (hp : P) : PureEnd h₀ L m s all P { s with heap := h', toks := tk } := ⟨h', tk, rfl, F, N, hp⟩
theorem News.drop1 {h₀ h : Heap} {L : Addr} {x : Addr × Obj} {r : List (Addr × Obj)} (N : News h₀ L h (x :: r)) : News h₀ L h r := fun p hp => N p (.tail _ hp)
theorem wcode_len {x : Int} (h : x.natAbs < 16 ^ 20) : (wcode x).length ≤ 20 := by rw [wcode, List.length_map]; exact apL_len 20 _ h
theorem wrt_len {l : List Nat} {way : Nat} : (wrt l way).length ≤ 2 * l.length + 3 := by
  rw [wrt, List.length_append, List.length_singleton]
  split
  · rw [List.length_append, List.length_append, List.length_singleton]; omega
  · split
    · rw [flat2_len]; omega
    · omega
end Mine
end
section
open PySem PySem.W PyProof.Rows PySem.Calls
namespace Mine
section
variable {M : Model} {A : Around} {env cenv : Env} {E E' : Value → Shared → Prop} {s : Shared}
theorem turn_gen {tgt : Expr} {v : Value} {body : List Stmt} {Q : Flow → Shared → Prop} (h : ∀ Q', Q = Q' → wpAny M A (assign tgt env v) (fun _ s₂ => wpAny M A (execs body env) Q' E s₂) E' s) :
    wpAny M A (assign tgt env v) (fun _ s₂ => wpAny M A (execs body env) Q E s₂) E' s := h Q rfl
theorem post_gen {α : Type} {t : Sem α} {Q : α → Shared → Prop} (h : ∀ Q', Q = Q' → wpAny M A t Q' E s) : wpAny M A t Q E s := h Q rfl
theorem while_gen {t : Sem Bool} {body : List Stmt} {QB : Flow → Shared → Prop} {QN : Shared → Prop}
    (h : ∀ QB' QN', QB = QB' → QN = QN' → wpAny M A t (fun b s₂ => if b = true then wpAny M A (execs body env) QB' E s₂ else QN' s₂) E' s) :
    wpAny M A t (fun b s₂ => if b = true then wpAny M A (execs body env) QB E s₂ else QN s₂) E' s := h QB QN rfl rfl
theorem comp_gen {ifs : List Expr} {elt : Expr} {PY : Value → Shared → Prop} {PN : Shared → Prop}
    (h : ∀ PY' PN', PY = PY' → PN = PN' → wpAny M A (testsOf ifs cenv) (fun ok s₃ => if ok = true then wpAny M A (eval elt cenv) PY' E s₃ else PN' s₃) E' s) :
    wpAny M A (testsOf ifs cenv) (fun ok s₃ => if ok = true then wpAny M A (eval elt cenv) PY E s₃ else PN s₃) E' s := h PY PN rfl rfl
theorem fr_gen {h₀ h : Heap} {L : Addr} {m : Str → Option Value} (F : Fr h₀ L h m) : ∃ m', m = m' ∧ Fr h₀ L h m' := ⟨m, rfl, F⟩
end
theorem apart_lt {P R : List (Addr × Obj)} (B : Nat) (hP : ∀ p ∈ P, @LE.le Nat _ B p.1) (hR : ∀ q ∈ R, @LT.lt Nat _ q.1 B) : Apart P R := fun p hp q hq => Nat.ne_of_gt (Nat.lt_of_lt_of_le (hR q hq) (hP p hp))
end Mine
namespace Mine
theorem ne_s {a b : Nat} (h : a ≠ b) : a + 1 ≠ b + 1 := fun e => h (Nat.succ.inj e)
theorem ne_z1 {a : Nat} : a ≠ a + 1 := Nat.ne_of_lt (by omega)
theorem ne_z2 {a : Nat} : a ≠ a + 1 + 1 := Nat.ne_of_lt (by omega)
theorem ne_z3 {a : Nat} : a ≠ a + 1 + 1 + 1 := Nat.ne_of_lt (by omega)
theorem ne_z4 {a : Nat} : a ≠ a + 1 + 1 + 1 + 1 := Nat.ne_of_lt (by omega)
theorem ne_z5 {a : Nat} : a ≠ a + 1 + 1 + 1 + 1 + 1 := Nat.ne_of_lt (by omega)
end Mine
namespace Mine
theorem tok_gen {α : Type} {M : Model} {A : Around} {t : Sem α} {Q : α → Shared → Prop} {E : Value → Shared → Prop} {h₀ h : Heap} {L : Addr} {m : Str → Option Value} (s : Shared) (_ : Fr h₀ L h m) {tk : Nat}
    (k : ∀ tk', wpAny M A t Q E { s with heap := h, toks := tk' }) : wpAny M A t Q E { s with heap := h, toks := tk } := k tk
end Mine
namespace Mine
theorem opq {G : Prop} (h : ∀ X : Prop, (G → X) → X) : G := h G id
end Mine
end
section
open PySem PySem.W PyProof.Rows PySem.Calls
namespace Mine
theorem all_nil {α : Type} {p : α → Prop} : ∀ x ∈ ([] : List α), p x := fun _ h => nomatch h
theorem all_cons {α : Type} {p : α → Prop} {a : α} {l : List α} (h : p a) (t : ∀ x ∈ l, p x) : ∀ x ∈ a :: l, p x := List.forall_mem_cons.mpr ⟨h, t⟩
theorem ltA {a d : Addr} {l : List (Addr × Obj)} {o : Obj} (h : AllLt d l) (m : (a, o) ∈ l) : @LT.lt Nat _ a d := by
  induction l with
  | nil => cases m
  | cons p r ih => cases m with
    | head => exact h.1
    | tail _ m => exact ih h.2 m
theorem mem_h {α : Type} {a : α} {l : List α} : a ∈ a :: l := .head _
theorem mem_t {α : Type} {a b : α} {l : List α} (h : a ∈ l) : a ∈ b :: l := .tail _ h
theorem ltS {a d : Nat} (h : @LT.lt Nat _ a d) : @LT.lt Nat _ a (d + 1) := Nat.lt_succ_of_lt h
theorem ne_lt {a d : Nat} (h : @LT.lt Nat _ a d) : a ≠ d := Nat.ne_of_lt h
theorem ne_gt {a d : Nat} (h : @LT.lt Nat _ d a) : a ≠ d := Nat.ne_of_gt h
end Mine
namespace Mine
open PySem
theorem ltZ {a : Nat} : @LT.lt Nat _ a (a + 1) := Nat.lt_succ_self a
theorem ltP {a d : Nat} (h : @LT.lt Nat _ (a + 1) d) : @LT.lt Nat _ a d := Nat.lt_of_succ_lt h
theorem ltR {a d : Addr} {l : List (Addr × Obj)} {o : Obj} (h : ∀ p ∈ l, p.1 < d) (m : (a, o) ∈ l) : @LT.lt Nat _ a d := h _ m
end Mine
namespace Mine
open PySem
theorem mem_0 {α : Type} {a : α} {l : List α} : a ∈ a :: l := by
  first | exact .head _ | (repeat (first | exact .head _ | refine .tail _ ?_))
theorem mem_1 {α : Type} {a b : α} {l : List α} : a ∈ b :: a :: l := by
  first | exact .head _ | (repeat (first | exact .head _ | refine .tail _ ?_))
theorem mem_2 {α : Type} {a b c : α} {l : List α} : a ∈ b :: c :: a :: l := by
  first | exact .head _ | (repeat (first | exact .head _ | refine .tail _ ?_))
theorem mem_3 {α : Type} {a b c d : α} {l : List α} : a ∈ b :: c :: d :: a :: l := by
  first | exact .head _ | (repeat (first | exact .head _ | refine .tail _ ?_))
theorem mem_4 {α : Type} {a b c d e : α} {l : List α} : a ∈ b :: c :: d :: e :: a :: l := by
  first | exact .head _ | (repeat (first | exact .head _ | refine .tail _ ?_))
theorem mem_5 {α : Type} {a b c d e f : α} {l : List α} : a ∈ b :: c :: d :: e :: f :: a :: l := by
  first | exact .head _ | (repeat (first | exact .head _ | refine .tail _ ?_))
theorem mem_6 {α : Type} {a b c d e f g : α} {l : List α} : a ∈ b :: c :: d :: e :: f :: g :: a :: l := by
  first | exact .head _ | (repeat (first | exact .head _ | refine .tail _ ?_))
theorem mem_7 {α : Type} {a b c d e f g i : α} {l : List α} : a ∈ b :: c :: d :: e :: f :: g :: i :: a :: l := by
  first | exact .head _ | (repeat (first | exact .head _ | refine .tail _ ?_))
theorem mem_8 {α : Type} {a b c d e f g i j : α} {l : List α} : a ∈ b :: c :: d :: e :: f :: g :: i :: j :: a :: l := by
  first | exact .head _ | (repeat (first | exact .head _ | refine .tail _ ?_))
theorem mem_9 {α : Type} {a b c d e f g i j k : α} {l : List α} : a ∈ b :: c :: d :: e :: f :: g :: i :: j :: k :: a :: l := by
  first | exact .head _ | (repeat (first | exact .head _ | refine .tail _ ?_))
theorem mem_s {α : Type} {a b c d e f g i j k m : α} {l : List α} (h : a ∈ l) : a ∈ b :: c :: d :: e :: f :: g :: i :: j :: k :: m :: l := .tail _ (.tail _ (.tail _ (.tail _ (.tail _ (.tail _ (.tail _ (.tail _ (.tail _ (.tail _ h)))))))))
theorem neA {a d : Addr} {l : List (Addr × Obj)} {o : Obj} (h : AllLt d l) (m : (a, o) ∈ l) : a ≠ d := Nat.ne_of_lt (ltA h m)
theorem neB {a d : Addr} {l : List (Addr × Obj)} {o : Obj} (h : AllLt d l) (m : (a, o) ∈ l) : d ≠ a := Nat.ne_of_gt (ltA h m)
theorem ne_fst {a b : Addr} {o : Obj} (h : b ≠ a) : (b, o).1 ≠ a := h
theorem ne_fst2 {a b : Addr} {o o' : Obj} (h : b ≠ a) : (b, o).1 ≠ (a, o').1 := h
theorem ne_snd {a b : Addr} {o' : Obj} (h : b ≠ a) : b ≠ (a, o').1 := h
theorem ne_consL {a b : Addr} {o : Obj} {R : List (Addr × Obj)} (t : ∀ q ∈ R, a ≠ q.1) (h : a ≠ b) : ∀ q ∈ (b, o) :: R, a ≠ q.1 := List.forall_mem_cons.mpr ⟨h, t⟩
theorem ne_consR {a b : Addr} {o : Obj} {R : List (Addr × Obj)} (t : ∀ q ∈ R, q.1 ≠ a) (h : b ≠ a) : ∀ q ∈ (b, o) :: R, q.1 ≠ a := List.forall_mem_cons.mpr ⟨h, t⟩
theorem apart_consP {a : Addr} {o : Obj} {P R : List (Addr × Obj)} (h : ∀ q ∈ R, a ≠ q.1) (t : Apart P R) : Apart ((a, o) :: P) R := apart_cons h t
noncomputable def ApartA (as bs : List Addr) : Prop := ∀ a ∈ as, ∀ b ∈ bs, a ≠ b
theorem apartA {P R : List (Addr × Obj)} (h : Apart P R) : ApartA (P.map (·.1)) (R.map (·.1)) := fun _ ha _ hb => by
  obtain ⟨p, hp, rfl⟩ := List.mem_map.mp ha
  obtain ⟨q, hq, rfl⟩ := List.mem_map.mp hb
  exact h p hp q hq
theorem apart_of {P R : List (Addr × Obj)} (h : ApartA (P.map (·.1)) (R.map (·.1))) : Apart P R := fun _ hp _ hq => h _ (List.mem_map_of_mem hp) _ (List.mem_map_of_mem hq)
theorem ltP2 {a d : Nat} (h : @LT.lt Nat _ (a + 1 + 1) d) : @LT.lt Nat _ a d := by omega
theorem ltP3 {a d : Nat} (h : @LT.lt Nat _ (a + 1 + 1 + 1) d) : @LT.lt Nat _ a d := by omega
theorem ltP4 {a d : Nat} (h : @LT.lt Nat _ (a + 1 + 1 + 1 + 1) d) : @LT.lt Nat _ a d := by omega
theorem ltP5 {a d : Nat} (h : @LT.lt Nat _ (a + 1 + 1 + 1 + 1 + 1) d) : @LT.lt Nat _ a d := by omega
theorem ltP6 {a d : Nat} (h : @LT.lt Nat _ (a + 1 + 1 + 1 + 1 + 1 + 1) d) : @LT.lt Nat _ a d := by omega
theorem ltP7 {a d : Nat} (h : @LT.lt Nat _ (a + 1 + 1 + 1 + 1 + 1 + 1 + 1) d) : @LT.lt Nat _ a d := by omega
theorem ltP8 {a d : Nat} (h : @LT.lt Nat _ (a + 1 + 1 + 1 + 1 + 1 + 1 + 1 + 1) d) : @LT.lt Nat _ a d := by omega
end Mine
end
section
open PySem PySem.W PyProof.Rows PySem.Calls
namespace Mine
theorem fr_names {h₀ h : Heap} {L : Addr} {m : Str → Option Value} (F : Fr h₀ L h m) (ps : List (Str × Value)) (hp : ∀ p ∈ ps, m p.1 = some p.2) : ∃ m', Fr h₀ L h (kstB m' ps) ∧ kstB m' ps = m :=
  have e : kstB m ps = m := funext fun _ => kstB_eq hp fun _ => rfl
  ⟨m, e.symm ▸ F, e⟩
theorem body_open {M : Model} {A : Around} {body : List Stmt} {env : Env} {Q : Flow → Shared → Prop} {E : Value → Shared → Prop} {s : Shared} {h₀ : Heap} {L : Addr} {m : Str → Option Value} (F : Fr h₀ L s.heap m) (ps : List (Str × Value)) (hp : ∀ p ∈ ps, m p.1 = some p.2)
    (h : ∀ m', Fr h₀ L s.heap (kstB m' ps) → let A' := A; let env' := env; let Q' := Q; wpAny M A' (execs body env') Q' E s) : wpAny M A (execs body env) Q E s :=
  let ⟨m', F', _⟩ := fr_names F ps hp
  h m' F'
end Mine
end
section
open PySem PySem.W PyProof.Rows PySem.Calls
set_option maxHeartbeats 4000000
namespace Mine
noncomputable def FnP (prog : Program) (w : World) (K : Frag) (p : Program) (loose : List Str) (mean : ExcName → Option Value) (mg mb : Str → Option Value)
    (D U : Nat) (f : Addr) (args : List Value) (pre : Heap → Prop) (P : List (Addr × Obj)) (post : Value → List (Addr × Obj) → Prop) : Prop :=
  ∀ (A : Around) (env : Env) (outer : List Env) (A₀ : Around) (base h₀ : Heap) (L : Addr) (m : Str → Option Value) (rest : List (Addr × Obj)) (s : Shared) (R : Result → Shared → Prop),
    Here prog w K p loose mean mg mb D U A env outer A₀ base h₀ L → pre h₀ → Fr h₀ L s.heap m → News h₀ L s.heap P → News h₀ L s.heap rest → Apart P rest →
    (∀ v P' h' tk', post v P' → Fr h₀ L h' m → News h₀ L h' P' → News h₀ L h' rest → Apart P' rest → R (.ok (.ret v)) { s with heap := h', toks := tk' }) →
    codeAny (model prog w) A (.call (.ref f) ⟨args, []⟩) R s
section
variable {prog : Program} {w : World} {K : Frag} {p : Program} {loose : List Str} {mean : ExcName → Option Value} {mg mb : Str → Option Value} {D U : Nat}
theorem ground_st {h₀ : Heap} {L : Addr} {m : Str → Option Value} {P : List (Addr × Obj)} {s : Shared} (F : Fr h₀ L s.heap m) (N : News h₀ L s.heap P) : h₀.StaysIn (hideAll s.heap (P.map (·.1))) :=
  fun b o e => hideAll_get _ (F.keep b o e) fun q => by
    obtain ⟨p, hp, rfl⟩ := List.mem_map.mp q
    rw [(N p hp).2.2] at e; cases e
theorem FnP.plain {f : Addr} {args : List Value} {pre : Heap → Prop} {P : List (Addr × Obj)} {post : Value → List (Addr × Obj) → Prop} {name qual : Str} {params : Arguments} {body : List Stmt} {scope : Scope}
    {dV kV doc pm cdv ct oc : Value} {an od : Option Addr} {osl : Array (Option Value)} {binds : List (Str × Value)}
    (ho : K.lookup f = some ⟨oc, od, .func (fnOf name qual params body scope dV kV doc pm an cdv ct), osl⟩) (hcd : codeIn K cdv qual = true)
    (hbind : ∀ s, BindsTo s (fnOf name qual params body scope dV kV doc pm an cdv ct) ⟨args, []⟩ binds) (hloc : ∀ y ∈ binds, scope.names.lookup y.1 = some .local)
    (h : ∀ (gd : Option (List Code)) (outer : List Env) (A₀ : Around) (base g : Heap) (L : Addr) (s : Shared),
      Below A₀ base outer g → K.In g → Top p loose mean mg mb g → pre g → Fr g L s.heap (fun y => binds.reverse.lookup y) → News g L s.heap P → (∀ p ∈ P, p.1 < L) →
      wpAny (model prog w) (ktrTop (D + 1) (U + 3) gd qual scope L f cdv [] outer) (execs body (envOf qual scope L f cdv)) (fun fl s' => Ends g L post s (retOf fl) s') (fun _ _ => False) s)
    (hpre : ∀ h h' : Heap, pre h → h.StaysIn h' → pre h')
    (hD : D < recursionLimit) (hco : scope.isCoroutine = false) (hgen : scope.isGenerator = false) (hk : scope.kind = .function) (hcell : ∀ x ∈ scope.names, x.2 ≠ .cell) :
    FnP prog w K p loose mean mg mb D U f args pre P post := by
  intro A env outer A₀ base h₀ L m rest s R H hp₀ F N N2 hap k
  obtain ⟨BG, KG, TG, back⟩ := ground H F N N2 hap
  have PG := hpre _ _ hp₀ (ground_st F N)
  have hA : A = { handled := none, depth := A.depth, frames := some (env :: outer), guards := A.guards, units := A.units } := by
    obtain ⟨a, b, c, d, e⟩ := A
    have h1 := H.frames
    have h2 := H.handled
    simp only at h1 h2
    subst h1 h2
    rfl
  have up : codeAny (model prog w) { handled := none, depth := D, frames := some (env :: outer), guards := A.guards, units := U } (.call (.ref f) ⟨args, []⟩) R s := by
    refine codeAny_call_def (fd := fnX name qual params body scope [] dV kV doc pm an cdv ct) (body := body) (binds := binds) hD (H.kin.keeps F.keep f _ ho) rfl (H.top.nolimit.keeps F.keep) (codeRec_of (H.kin.keeps F.keep) hcd) rfl (hbind _) hcell hloc (fun h₁ hns hk₁ => ?_) hco hgen hk
    refine wpAny_mono (h A.guards (env :: outer) A base (hideAll s.heap (P.map (·.1))) s.heap.objs.size { s with heap := h₁, toks := s.toks + binds.length } BG KG TG PG ⟨hns, fun b o e => hk₁ b o (of_hideAll _ e), Nat.le_of_eq (hideAll_size _ _)⟩
      (fun p hp => ⟨hk₁ _ _ (N p hp).1, Nat.ne_of_lt (Heap.lt_size (N p hp).1), hideAll_none _ (List.mem_map_of_mem hp)⟩) (fun p hp => Heap.lt_size (N p hp).1)) (fun fl s' hl => ?_) fun _ _ y => y.elim
    obtain ⟨P', m', h', tk', rfl, hp, F', N'⟩ := hl
    obtain ⟨F2, N3, N4, hap2⟩ := back _ _ _ _ F' N'
    have := k _ _ _ tk' hp F2 N3 N4 hap2
    cases fl <;> exact this
  rw [hA]
  exact code_le up H.depth H.units
end
end Mine
namespace Mine
theorem meet {M : Model} {A : Around} {t : Sem Value} {Q : Value → Shared → Prop} {E : Value → Shared → Prop} {s : Shared} (P : Value → Prop)
    (h : wpAny M A t (fun v s' => P v ∧ ∃ tk, s' = { s with toks := tk }) (fun _ _ => False) s) (k : ∀ v tk, P v → Q v { s with toks := tk }) : wpAny M A t Q E s :=
  wpAny_mono h (fun v s' ⟨hp, tk, e⟩ => e ▸ k v tk hp) fun _ _ e => e.elim
end Mine
end
section
open PySem PySem.W PyProof.Rows PySem.Calls
namespace Mine
noncomputable def Ltr (l : List Nat) : Prop := ∀ c ∈ l, 65 ≤ c ∧ c ≤ 80
theorem apL_head : ∀ n : Nat, ((apL n).map (·.toNat)).head? ≠ some 65 := by
  intro n
  induction n using Nat.strongRecOn with
  | ind n ih =>
    by_cases h : n = 0
    · subst h; rw [apL_zero]; exact fun h => nomatch h
    · rw [apL_step h, List.map_append]
      by_cases h2 : n / 16 = 0
      · rw [h2, apL_zero]
        simp only [List.map_nil, List.nil_append, List.map_cons, List.head?_cons]
        intro e
        have e := Option.some.inj e
        rw [UInt8.toNat_ofNat'] at e; omega
      · have := ih (n / 16) (by omega)
        revert this
        rw [apL_step h2, List.map_append]
        generalize (apL (n / 16 / 16)).map (·.toNat) = q
        cases q with
        | nil => simp
        | cons a r => simp
theorem wcode_head (x : Int) : (wcode x).head? ≠ some 65 := apL_head _
theorem numOf_apL : ∀ n : Nat, numOf ((apL n).map (·.toNat)) = (n : Int) := by
  intro n
  induction n using Nat.strongRecOn with
  | ind n ih =>
    by_cases h : n = 0
    · subst h; rw [apL_zero]; rfl
    · rw [apL_step h, List.map_append, numOf, List.foldl_append]
      have := ih (n / 16) (by omega)
      rw [numOf] at this
      rw [this]
      simp only [List.map_cons, List.map_nil, List.foldl_cons, List.foldl_nil, UInt8.toNat_ofNat']
      omega
theorem numOf_wcode (x : Int) : numOf (wcode x) = (x.natAbs : Int) := numOf_apL _
theorem bare_c (acc : List Nat) (c : Nat) (r : List Nat) : bare acc (c :: r) = if ws c then some (acc, r) else if c = 92 then (match r with | [] => none | d :: r' => bare (acc ++ [d]) r') else bare (acc ++ [c]) r := by rw [bare.eq_def] <;> (cases r <;> rfl)
theorem quoted_c (acc : List Nat) (c : Nat) (r : List Nat) : quoted acc (c :: r) = if c = 34 then some (acc, r) else if c = 92 then (match r with | [] => none | d :: r' => quoted (acc ++ [d]) r') else quoted (acc ++ [c]) r := by rw [quoted.eq_def] <;> (cases r <;> rfl)
theorem skip_c (c : Nat) (r : List Nat) : skip (c :: r) = if ws c then skip r else if c = 34 then quoted [] r else if c = 92 then (match r with | [] => none | d :: r' => bare [d] r') else bare [c] r := by rw [skip.eq_def] <;> (cases r <;> rfl)
theorem bare_lits : ∀ (w acc r : List Nat) (c : Nat), Ltr w → ws c = true → bare acc (w ++ c :: r) = some (acc ++ w, r)
  | [], acc, r, c, _, hc => by rw [List.nil_append, bare_c, if_pos hc, List.append_nil]
  | a :: w, acc, r, c, hw, hc => by
    have ha := hw a (.head _)
    have h1 : ws a = false := by unfold ws; simp; omega
    rw [List.cons_append, bare_c, h1, if_neg Bool.false_ne_true, if_neg (by omega), bare_lits w _ r c (fun b hb => hw b (.tail _ hb)) hc, List.append_assoc, List.singleton_append]
theorem bare_escs : ∀ (w acc r : List Nat) (c : Nat), ws c = true → bare acc ((w.map fun c => [92, c]).flatten ++ c :: r) = some (acc ++ w, r)
  | [], acc, r, c, hc => by rw [List.map_nil, List.flatten_nil, List.nil_append, bare_c, if_pos hc, List.append_nil]
  | a :: w, acc, r, c, hc => by
    have h1 : ws 92 = false := rfl
    rw [List.map_cons, List.flatten_cons, List.append_assoc, List.cons_append, List.cons_append, List.nil_append, bare_c, h1, if_neg Bool.false_ne_true, if_pos rfl]
    show bare (acc ++ [a]) ((w.map fun c => [92, c]).flatten ++ c :: r) = _
    rw [bare_escs w _ r c hc, List.append_assoc, List.singleton_append]
theorem quoted_lits : ∀ (w acc r : List Nat), Ltr w → quoted acc (w ++ 34 :: r) = some (acc ++ w, r)
  | [], acc, r, _ => by rw [List.nil_append, quoted_c, if_pos rfl, List.append_nil]
  | a :: w, acc, r, hw => by
    have ha := hw a (.head _)
    rw [List.cons_append, quoted_c, if_neg (by omega), if_neg (by omega), quoted_lits w _ r (fun b hb => hw b (.tail _ hb)), List.append_assoc, List.singleton_append]
theorem wrt_ws (way : Nat) : ws ([32, 10, 9, 13].getD (way / 3 % 4) 0) = true := by
  have hk : way / 3 % 4 < 4 := Nat.mod_lt _ (by decide)
  generalize way / 3 % 4 = k at hk
  match k, hk with
  | 0, _ => rfl
  | 1, _ => rfl
  | 2, _ => rfl
  | 3, _ => rfl
noncomputable def Left (rest r : List Nat) : Prop := r = rest ∨ ∃ c, ws c = true ∧ r = c :: rest
theorem skip_wrt {l : List Nat} (hl : Ltr l) (way : Nat) (rest : List Nat) : ∃ r, skip (wrt l way ++ rest) = some (l, r) ∧ Left rest r := by
  obtain ⟨c, hc, hc0⟩ : ∃ c, c = [32, 10, 9, 13].getD (way / 3 % 4) 0 ∧ ws c = true := ⟨_, rfl, wrt_ws way⟩
  unfold wrt
  rw [← hc]
  by_cases h : l = [] ∨ way % 3 = 2
  · rw [if_pos h]
    refine ⟨c :: rest, ?_, .inr ⟨c, hc0, rfl⟩⟩
    rw [show [34] ++ l ++ [34] ++ [c] ++ rest = 34 :: (l ++ 34 :: (c :: rest)) by simp, skip_c, show ws 34 = false from rfl, if_neg Bool.false_ne_true, if_pos rfl, quoted_lits l [] _ hl, List.nil_append]
  · rw [if_neg h]
    obtain ⟨a, w, rfl⟩ : ∃ a w, l = a :: w := by
      cases l with
      | nil => exact absurd (.inl rfl) h
      | cons a w => exact ⟨a, w, rfl⟩
    have ha := hl a (.head _)
    refine ⟨rest, ?_, .inl rfl⟩
    by_cases h1 : way % 3 = 1
    · rw [if_pos h1, List.map_cons, List.flatten_cons]
      rw [show [92, a] ++ (w.map fun c => [92, c]).flatten ++ [c] ++ rest = 92 :: a :: ((w.map fun c => [92, c]).flatten ++ c :: rest) by simp, skip_c, show ws 92 = false from rfl, if_neg Bool.false_ne_true, if_neg (by decide), if_pos rfl]
      show bare [a] ((w.map fun c => [92, c]).flatten ++ c :: rest) = _
      rw [bare_escs w [a] rest c hc0]; rfl
    · rw [if_neg h1]
      have h2 : ws a = false := by unfold ws; simp; omega
      rw [show a :: w ++ [c] ++ rest = a :: (w ++ c :: rest) by simp, skip_c, h2, if_neg Bool.false_ne_true, if_neg (by omega), if_neg (by omega), bare_lits w [a] rest c (fun b hb => hl b (.tail _ hb)) hc0]; rfl
theorem skip_left {rest r : List Nat} (h : Left rest r) : skip r = skip rest := by
  rcases h with rfl | ⟨c, hc, rfl⟩
  · rfl
  · rw [skip_c, if_pos hc]
end Mine
namespace Mine
end Mine
end
section
open PySem PySem.W PyProof.Rows PySem.Calls
set_option maxHeartbeats 4000000
namespace Mine
section
variable {prog : Program} {w : World} {K : Type} [DecidableEq K] {knd : KeyKind prog w K} {A : Around} {s : Shared} {E : Value → Shared → Prop} {Q : Value → Shared → Prop} {h₀ : Heap} {L : Addr} {m : Str → Option Value} {news : List (Addr × Obj)}
noncomputable def KeyAt (knd : KeyKind prog w K) (kvs : List (K × Value)) (i : Nat) (v : Value) : Prop := ∃ k x, kvs[i]? = some (k, x) ∧ knd.is k v = true
noncomputable def ValAt (kvs : List (K × Value)) (i : Nat) (v : Value) : Prop := ∃ k, kvs[i]? = some (k, v)
theorem iter_dict_N {d : Addr} {o : Obj} {kvs : List (K × Value)} (F : Fr h₀ L s.heap m) (N : News h₀ L s.heap news) (hm : (d, o) ∈ news) (hd : o.IsDictOf knd kvs) (lo : (d == sysModules) = false)
    (h : ∀ I oI St h', Src prog w I oI [(d, o)] kvs.length (KeyAt knd kvs) [I, d] St → Fr h₀ L h' m → News h₀ L h' ((I, oI) :: news) → (∀ p ∈ news, p.1 < I) → Q (.ref I) { s with heap := h' }) :
    wpAny (model prog w) A (pyIter (.ref d)) Q E s := by
  obtain ⟨ep, hat⟩ := (Heap.dictOf_iff.mpr ⟨o, (N _ hm).1, hd⟩ : s.heap.DictOf knd d kvs).dictAt
  have hne : d ≠ s.heap.objs.size := Nat.ne_of_lt (Heap.lt_size (N _ hm).1)
  have fp : FpIn s.heap.objs.size [s.heap.objs.size, d] [(d, o)] := fun b hb => by
    rcases List.mem_cons.mp hb with rfl | hb
    · exact .inl rfl
    · exact .inr ⟨_, by rw [List.mem_singleton.mp hb]; exact .head _⟩
  refine wpAny_pyIter_dict lo hat ?_
  refine h _ _ (fun i h => h.IsKeyIter s.heap.objs.size d i kvs.length ep ∧ h.DictAt knd d kvs ep) _ ⟨fun A' hA => Walks.dictKeys hA _ d hne kvs ep, fp, fun i h st => let ⟨o, ho, _⟩ := st.1; ⟨o, ho⟩, ?_⟩ (F.push _) (N.push F _) fun p hp => Heap.lt_size (N p hp).1
  refine SrcAt.next (h := s.heap.push _) (Walks.dictKeys (prog := prog) (w := w) (A := ⟨none, 0, none, none, 0⟩) rfl _ d hne kvs ep) fp ⟨⟨_, Heap.get?_push_size _ rfl, rfl, rfl⟩, hat.push _⟩ (Heap.get?_push_size _ rfl) ?_
  intro p hp
  rw [List.mem_singleton.mp hp]
  exact Heap.get?_push_of_some _ (N _ hm).1
theorem iter_values_N {v d : Addr} {o : Obj} {kvs : List (K × Value)} (F : Fr h₀ L s.heap m) (N : News h₀ L s.heap news) (hv : s.heap.IsValuesView v d) (hm : (d, o) ∈ news) (hd : o.IsDictOf knd kvs)
    (h : ∀ I oI St h', Src prog w I oI [(d, o)] kvs.length (ValAt kvs) [I, d] St → Fr h₀ L h' m → News h₀ L h' ((I, oI) :: news) → (∀ p ∈ news, p.1 < I) → Q (.ref I) { s with heap := h' }) :
    wpAny (model prog w) A (pyIter (.ref v)) Q E s := by
  obtain ⟨ep, hat⟩ := (Heap.dictOf_iff.mpr ⟨o, (N _ hm).1, hd⟩ : s.heap.DictOf knd d kvs).dictAt
  have hne : d ≠ s.heap.objs.size := Nat.ne_of_lt (Heap.lt_size (N _ hm).1)
  have fp : FpIn s.heap.objs.size [s.heap.objs.size, d] [(d, o)] := fun b hb => by
    rcases List.mem_cons.mp hb with rfl | hb
    · exact .inl rfl
    · exact .inr ⟨_, by rw [List.mem_singleton.mp hb]; exact .head _⟩
  refine wpAny_pyIter_values hv hat ?_
  refine h _ _ (fun i h => h.IsValIter s.heap.objs.size d i kvs.length ep ∧ h.DictAt knd d kvs ep) _ ⟨fun A' hA => Walks.dictValues hA _ d hne kvs ep, fp, fun i h st => let ⟨o, ho, _⟩ := st.1; ⟨o, ho⟩, ?_⟩ (F.push _) (N.push F _) fun p hp => Heap.lt_size (N p hp).1
  refine SrcAt.next (h := s.heap.push _) (Walks.dictValues (prog := prog) (w := w) (A := ⟨none, 0, none, none, 0⟩) rfl _ d hne kvs ep) fp ⟨⟨_, Heap.get?_push_size _ rfl, rfl, rfl⟩, hat.push _⟩ (Heap.get?_push_size _ rfl) ?_
  intro p hp
  rw [List.mem_singleton.mp hp]
  exact Heap.get?_push_of_some _ (N _ hm).1
theorem set_mem {d : Addr} {o : Obj} {kvs : List (K × Value)} {k : K} {key v : Value} {Q : Unit → Shared → Prop} (F : Fr h₀ L s.heap m) (N : News h₀ L s.heap news) (hm : (d, o) ∈ news) (hd : o.IsDictOf knd kvs) (hkey : knd.is k key = true) (hsz : kvs.length ≤ sizeLine)
    (h : ∀ h' o', Fr h₀ L h' m → (∀ news', (∀ p ∈ news', p = (d, o') ∨ (p ∈ news ∧ p.1 ≠ d)) → News h₀ L h' news') → o'.IsDictOf knd (stored kvs k v) → Q () { s with heap := h', toks := s.toks + 1 }) :
    wpAny (model prog w) A (setItem (.ref d) key v) Q E s := by
  have z := N _ hm
  refine wpAny_setItem_pairs (hsz := hsz) hkey (Heap.dictOf_iff.mpr ⟨o, z.1, hd⟩) fun h' hmm hs => ?_
  obtain ⟨o', ho', hd'⟩ := Heap.dictOf_iff.mp hmm
  refine h h' o' (F.change hs z.2.1 z.2.2) (fun news' hn p hp => ?_) hd'
  rcases hn p hp with rfl | ⟨hp', hne⟩
  · exact ⟨ho', z.2⟩
  · exact ⟨(hs.2 _ hne).trans (N p hp').1, (N p hp').2⟩
end
end Mine
end
section
open PySem PySem.W PyProof.Rows PySem.Calls
set_option maxHeartbeats 4000000
namespace Mine
structure BlkAt (h₀ : Heap) (L : Addr) (m : Str → Option Value) (s : Shared) (C D : Addr) (rest : List (Addr × Obj)) (J : List Value → (Str → Option Value) → Prop) (h' : Heap) (tk : Nat) (s' : Shared) (ys : List Value) (oC : Obj) (mC : Str → Option Value) (kD : Nat) : Prop where
  st : s' = { s with heap := h', toks := tk }
  fr : Fr h₀ L h' m
  nw : News h₀ L h' ((C, oC) :: (D, listOf ys.toArray kD) :: rest)
  ns : NsObj oC mC
  j : J ys mC
noncomputable def Blk (h₀ : Heap) (L : Addr) (m : Str → Option Value) (s : Shared) (C D : Addr) (rest : List (Addr × Obj)) (J : List Value → (Str → Option Value) → Prop) (s' : Shared) : Prop :=
  ∃ h' tk ys oC mC kD, BlkAt h₀ L m s C D rest J h' tk s' ys oC mC kD
structure BlkOff (C D I : Addr) (rest : List (Addr × Obj)) : Prop where
  cd : C ≠ D
  ci : C ≠ I
  di : D ≠ I
  c : ∀ p ∈ rest, p.1 ≠ C
  d : ∀ p ∈ rest, p.1 ≠ D
  i : ∀ p ∈ rest, p.1 ≠ I
section
variable {prog : Program} {w : World} {A : Around} {E : Value → Shared → Prop} {Q : Value → Shared → Prop} {s : Shared} {env cenv : Env} {h₀ : Heap} {L : Addr} {m : Str → Option Value}
  {elt iter : Expr} {x : Str} {px : Pos} {ifs : List Expr} {scope : Scope} {cl : List (Str × Addr)} {pos : Pos}
theorem blk_store {C D I : Addr} {oC oI : Obj} {mC : Str → Option Value} {ys : List Value} {kD : Nat} {rest : List (Addr × Obj)} {v : Value} {X : Unit → Shared → Prop} (hc : cenv.locals = C) (hl : cenv.kindOf x = some .local) (hp : (cenv.scope.kind == .class || (cenv.scope.kind == .module && cenv.locals != cenv.globals)) = false)
    (F : Fr h₀ L s.heap m) (N : News h₀ L s.heap ((I, oI) :: (C, oC) :: (D, listOf ys.toArray kD) :: rest)) (off : BlkOff C D I rest) (ns : NsObj oC mC)
    (h : ∀ h' oC', Fr h₀ L h' m → News h₀ L h' ((C, oC') :: (D, listOf ys.toArray kD) :: (I, oI) :: rest) → NsObj oC' (fun y => if y = x then some v else mC y) → X () { s with heap := h', toks := s.toks + 1 }) :
    wpAny (model prog w) A (assign (.Name x px) cenv v) X E s := by
  have NC := N _ (.tail _ (.head _))
  refine wpAny_assign_Name (wpAny_storeName_local hl (hc ▸ ns.ns NC.1) (fun h₃ hn₃ hs₃ => ?_) hp)
  rw [hc] at hn₃ hs₃
  obtain ⟨oC', hoC', hnC'⟩ := NsObj.of hn₃
  have old : ∀ p : Addr × Obj, p.1 ≠ C → s.heap.get? p.1 = some p.2 ∧ p.1 ≠ L ∧ h₀.get? p.1 = none → h₃.get? p.1 = some p.2 ∧ p.1 ≠ L ∧ h₀.get? p.1 = none := fun p hp z => ⟨(hs₃.2 _ hp).trans z.1, z.2⟩
  refine h h₃ oC' ⟨F.ns.sameBut hs₃ (Ne.symm NC.2.1), fun b o e => (hs₃.2 b (fun q => by rw [q, NC.2.2] at e; cases e)).trans (F.keep b o e), F.above⟩ ?_ hnC'
  refine all_cons ⟨hoC', NC.2⟩ (all_cons (old _ (Ne.symm off.cd) (N _ (.tail _ (.tail _ (.head _))))) (all_cons (old _ (Ne.symm off.ci) (N _ (.head _))) fun p hp => old p (off.c p hp) (N _ (.tail _ (.tail _ (.tail _ hp))))))
theorem blk_loop {C D I : Addr} {oI oC : Obj} {fx rest : List (Addr × Obj)} {n : Nat} {P : Nat → Value → Prop} {fp : List Addr} {St : Nat → Heap → Prop} {c : Code} {R : Result → Shared → Prop} {Body : (Shared → Prop) → Shared → Prop}
    (rule : ∀ Inv : Nat → Shared → Prop, (∀ k s, Inv k s → wpAny (model prog w) A (pyNext (.ref I)) (fun r s₁ => match r with
      | none => R (.ok .next) s₁
      | some v => wpAny (model prog w) A (assign (.Name x px) cenv v) (fun _ s₂ => Body (fun s₃ => ∃ k', k' < k ∧ Inv k' s₃) s₂) FalseE s₁) FalseE s) → ∀ k s, Inv k s → codeAny (model prog w) A c R s)
    (S : Src prog w I oI fx n P fp St) (hA : A.handled = none) (J : Nat → List Value → (Str → Option Value) → Prop) {ys : List Value} {kD : Nat} {mC : Str → Option Value}
    (F : Fr h₀ L s.heap m) (N : News h₀ L s.heap ((I, oI) :: (C, oC) :: (D, listOf ys.toArray kD) :: rest)) (hfx : ∀ p ∈ fx, p ∈ rest) (off : BlkOff C D I rest) (ns : NsObj oC mC) (hj : J 0 ys mC)
    (hc : cenv.locals = C) (hl : cenv.kindOf x = some .local) (hp : (cenv.scope.kind == .class || (cenv.scope.kind == .module && cenv.locals != cenv.globals)) = false)
    (turn : ∀ (i : Nat) (ys : List Value) (v : Value) oI' oC mC kD h tk, i < n → P i v → J i ys mC → Fr h₀ L h m → News h₀ L h ((C, oC) :: (D, listOf ys.toArray kD) :: (I, oI') :: rest) → NsObj oC (fun y => if y = x then some v else mC y) →
      ∀ X : Shared → Prop, (∀ s', Blk h₀ L m s C D ((I, oI') :: rest) (J (i + 1)) s' → X s') → Body X { s with heap := h, toks := tk })
    (done : ∀ (ys : List Value) oC mC kD h tk, J n ys mC → Fr h₀ L h m → News h₀ L h ((C, oC) :: (D, listOf ys.toArray kD) :: rest) → NsObj oC mC → R (.ok .next) { s with heap := h, toks := tk }) :
    codeAny (model prog w) A c R s := by
  refine rule (fun k s' => ∃ i oI', k = n - i ∧ i ≤ n ∧ SrcAt St fp i ((I, oI') :: fx) ∧ Blk h₀ L m s C D ((I, oI') :: rest) (J i) s') ?_ n s ⟨0, oI, rfl, Nat.zero_le _, S.at0, s.heap, s.toks, ys, oC, mC, kD, ⟨rfl, F, (all_cons (N _ (.tail _ (.head _))) (all_cons (N _ (.tail _ (.tail _ (.head _)))) (all_cons (N _ (.head _)) fun p hp => N _ (.tail _ (.tail _ (.tail _ hp)))))), ns, hj⟩⟩
  rintro k s' ⟨i, oI', hk, hle, hat, h, tk, ys, oC, mC, kD, B⟩
  obtain ⟨rfl, F', N', ns', hJ⟩ := B
  have ND : News h₀ L h ((I, oI') :: (C, oC) :: (D, listOf ys.toArray kD) :: rest) := all_cons (N' _ (.tail _ (.tail _ (.head _)))) (all_cons (N' _ (.head _)) (all_cons (N' _ (.tail _ (.head _))) fun p hp => N' _ (.tail _ (.tail _ (.tail _ hp)))))
  have hI2 : ∀ p ∈ ((C, oC) :: (D, listOf ys.toArray kD) :: rest), p.1 ≠ I := all_cons off.ci (all_cons off.di off.i)
  have hf2 : ∀ p ∈ fx, p ∈ ((C, oC) :: (D, listOf ys.toArray kD) :: rest) := fun p hp => .tail _ (.tail _ (hfx p hp))
  by_cases hi : i < n
  · refine draw_src (S.walks A.in1 hA).of_in1 S.fpin S.has hi hat F' ND hf2 hI2 fun v oI'' h' tk' hP hat' F2 N2 => ?_
    refine blk_store hc hl hp F2 N2 off ns' fun h3 oC' F3 N3 ns3 => ?_
    exact turn i ys v oI'' oC' mC kD h3 _ hi hP hJ F3 N3 ns3 _ fun s' b => ⟨n - (i + 1), (by omega), i + 1, oI'', rfl, hi, hat', b⟩
  · have e : i = n := Nat.le_antisymm hle (Nat.not_lt.mp hi)
    subst e
    exact end_src (S.walks A.in1 hA).of_in1 hat F' ND hf2 hI2 fun h' tk' F2 N2 => done ys oC mC kD h' tk' hJ F2 N2 ns'
theorem blk_append {C D I : Addr} {oI oC : Obj} {rest : List (Addr × Obj)} {ys : List Value} {kD : Nat} {v : Value} {mC : Str → Option Value} {J : List Value → (Str → Option Value) → Prop} {X : Shared → Prop} {h : Heap} {tk : Nat} {E' : Value → Shared → Prop}
    (F : Fr h₀ L h m) (N : News h₀ L h ((C, oC) :: (D, listOf ys.toArray kD) :: (I, oI) :: rest)) (off : BlkOff C D I rest) (ns : NsObj oC mC) (hj : J (ys ++ [v]) mC) (hsz : ys.length ≤ sizeLine)
    (k : ∀ s', Blk h₀ L m s C D ((I, oI) :: rest) J s' → X s') : wpAny (model prog w) A (call (.builtin "list.append") [.ref D, v]) (fun _ s₅ => X s₅) E' { s with heap := h, toks := tk } :=
  append_K (news' := (C, oC) :: (D, listOf (ys.toArray.push v) (kD + 1)) :: (I, oI) :: rest) F N (.tail off.cd (.head (all_cons (Ne.symm off.di) off.d)))
    (fun h₅ F₅ N₆ => k _ ⟨h₅, _, ys ++ [v], oC, mC, kD + 1, ⟨rfl, F₅, (by rw [← List.push_toArray]; exact N₆), ns, hj⟩⟩) (by rw [List.size_toArray]; exact hsz)
noncomputable def mUse (u : Option Str) (D : Addr) (m : Str → Option Value) : Str → Option Value := match u with
  | none => m
  | some y => fun z => if z = y then some (.ref D) else m z
noncomputable def vUse (u : Option Str) (D : Addr) : Value := match u with
  | none => .ref D
  | some _ => .none
noncomputable def sUse (u : Option Str) (py : Pos) (env : Env) : Option (Value → Sem Unit) := match u with
  | none => none
  | some y => some (assign (.Name y py) env)
noncomputable def UseOk (u : Option Str) (L : Addr) (env : Env) : Prop := ∀ y, u = some y → env.locals = L ∧ env.kindOf y = some .local ∧ (env.scope.kind == .class || (env.scope.kind == .module && env.locals != env.globals)) = false
theorem UseOk.none : UseOk none L env := fun _ h => nomatch h
theorem blk_fin {u : Option Str} {py : Pos} {C D : Addr} {oC : Obj} {mC : Str → Option Value} {ys : List Value} {kD : Nat} {news : List (Addr × Obj)} {h : Heap} {tk : Nat} (hu : UseOk u L env) (hCD : C ≠ D) (hnc : ∀ p ∈ news, p.1 ≠ C)
    (F' : Fr h₀ L h m) (N' : News h₀ L h ((C, oC) :: (D, listOf ys.toArray kD) :: news)) (ns' : NsObj oC mC)
    (k : ∀ h' tk', Fr h₀ L h' (mUse u D m) → News h₀ L h' ((D, listOf ys.toArray kD) :: news) → Q (vUse u D) { s with heap := h', toks := tk' }) :
    compPost (model prog w) A E (sUse u py env) Q (.ref D) C (.ok .next) { s with heap := h, toks := tk } := by
  have NC := N' _ (.head _)
  have fin : ∀ (h₂ : Heap) (m₂ : Str → Option Value) (tk₂ : Nat), Fr h₀ L h₂ m₂ → News h₀ L h₂ ((C, oC) :: (D, listOf ys.toArray kD) :: news) → (∀ h' tk', Fr h₀ L h' m₂ → News h₀ L h' ((D, listOf ys.toArray kD) :: news) → Q (vUse u D) { s with heap := h', toks := tk' }) →
      ∃ m, h₂.Ns C m ∧ ∀ h', Heap.SameBut C h₂ h' → Q (vUse u D) { s with heap := h', toks := tk₂ } := fun h₂ m₂ tk₂ F2 N2 k2 => by
    have NC := N2 _ (.head _)
    refine ⟨mC, ns'.ns NC.1, fun h'' hs'' => k2 h'' tk₂ ⟨F2.ns.sameBut hs'' (Ne.symm NC.2.1), fun b o e => (hs''.2 b (fun q => by rw [q] at e; exact nomatch (NC.2.2.symm.trans e : none = some o))).trans (F2.keep b o e), F2.above⟩ ?_⟩
    have z := N2 _ (.tail _ (.head _))
    refine all_cons ⟨(hs''.2 _ (Ne.symm hCD)).trans z.1, z.2⟩ fun p hp => ?_
    have z := N2 _ (.tail _ (.tail _ hp))
    exact ⟨(hs''.2 _ (hnc p hp)).trans z.1, z.2⟩
  cases u with
  | none => exact fin h m tk F' N' k
  | some y =>
    obtain ⟨hLe, hy, hp⟩ := hu y rfl
    show wpAny _ A (assign (.Name y py) env (.ref D)) _ _ _
    refine wpAny_assign_Name (wpAny_storeName_local hy (hLe.symm ▸ F'.ns) (fun h₂ hn₂ hs₂ => ?_) hp)
    rw [hLe] at hn₂ hs₂
    have hL₀ : h₀.get? L = none := Heap.get?_none_of_le F'.above
    exact fin h₂ _ _ ⟨hn₂, fun b o e => hs₂.extBut b o (fun q => by rw [q, hL₀] at e; cases e) (F'.keep b o e), F'.above⟩ (fun p hp => have z := N' p hp; ⟨hs₂.extBut _ _ z.2.1 z.1, z.2⟩) k
theorem blk_start {u : Option Str} {py : Pos} {it : Value} {gens : List Comprehension} {news : List (Addr × Obj)} (F : Fr h₀ L s.heap m) (N : News h₀ L s.heap news) (hcell : ∀ y ∈ scope.names, y.2 ≠ .cell) (hkind : scope.kind = .function)
    (h : ∀ C D oC mC h₁ tk, C ≠ D → (∀ p ∈ news, p.1 ≠ C ∧ p.1 < D) → Fr h₀ L h₁ m → News h₀ L h₁ ((C, oC) :: (D, listOf ([] : List Value).toArray 0) :: news) → NsObj oC mC →
      codeAny (model prog w) A (.compStart (.ListComp elt gens scope pos) 0 it (.ref D) (compEnvC scope cl C env)) (compPost (model prog w) A E (sUse u py env) Q (.ref D) C) { s with heap := h₁, toks := tk }) :
    wpAny (model prog w) A (newList []) (fun acc s₃ => wpAny (model prog w) A (newFunctionEnv scope env.globals cl [] env.qual none .none (some env)) (fun cenv s₄ =>
      codeAny (model prog w) A (.compStart (.ListComp elt gens scope pos) 0 it acc { cenv with scope := relabel scope env }) (compPost (model prog w) A E (sUse u py env) Q acc cenv.locals) s₄) E s₃) E s := by
  have hh0 : ∀ a, s.heap.objs.size ≤ a → h₀.get? a = none := fun a ha => by
    cases e : h₀.get? a with
    | none => rfl
    | some o => exact absurd (Heap.lt_size (F.keep _ _ e)) (Nat.not_lt.mpr ha)
  have hL : L < s.heap.objs.size := F.ns.lt
  refine wpAny_newObj_type (wpAny_newFunctionEnv hcell (by intro y hy; simp at hy) (fun h₁ hns₁ hsb₁ => ?_) hkind)
  dsimp only at hns₁ hsb₁ ⊢
  generalize hH2 : s.heap.push { cls := .type "list", dict := none, data := .seq ([] : List Value).toArray } = H2 at hns₁ hsb₁ ⊢
  have hC : H2.objs.size = s.heap.objs.size + 1 := by rw [← hH2, Heap.size_push]
  have hDC : s.heap.objs.size ≠ H2.objs.size := by rw [hC]; exact Nat.ne_of_lt (Nat.lt_succ_self _)
  have old : ∀ b o, s.heap.get? b = some o → h₁.get? b = some o := fun b o e => hsb₁.extBut b o (by rw [hC]; exact Nat.ne_of_lt (Nat.lt_succ_of_lt (Heap.lt_size e))) (Heap.get?_push_of_some _ (hH2 ▸ Heap.get?_push_of_some _ e))
  have hacc : h₁.get? s.heap.objs.size = some (listOf #[] 0) := hsb₁.extBut _ _ hDC (Heap.get?_push_of_some _ (hH2 ▸ Heap.get?_push_size _ rfl))
  obtain ⟨oC, hoC, hnC⟩ := NsObj.of hns₁
  have hlt : ∀ p ∈ news, p.1 < s.heap.objs.size := fun p hp => Heap.lt_size (N p hp).1
  exact h H2.objs.size s.heap.objs.size oC _ h₁ _ (Ne.symm hDC) (fun p hp => ⟨by rw [hC]; exact Nat.ne_of_lt (Nat.lt_succ_of_lt (hlt p hp)), hlt p hp⟩) (F.keeps old)
    (all_cons ⟨hoC, (by rw [hC]; exact Nat.ne_of_gt (Nat.lt_succ_of_lt hL)), hh0 _ (by rw [hC]; exact Nat.le_succ _)⟩ (all_cons ⟨hacc, Nat.ne_of_gt hL, hh0 _ (Nat.le_refl _)⟩ fun p hp => ⟨old _ _ (N p hp).1, (N p hp).2⟩)) hnC
noncomputable def CompAtU (u : Option Str) (py : Pos) (prog : Program) (w : World) (A : Around) (env : Env) (elt : Expr) (gens : List Comprehension) (scope : Scope) (cl : List (Str × Addr)) (pos : Pos) (E : Value → Shared → Prop) (Q : Value → Shared → Prop) (it : Value) (s₂ : Shared) : Prop :=
  wpAny (model prog w) A (newList []) (fun acc s₃ => wpAny (model prog w) A (newFunctionEnv scope env.globals cl [] env.qual none .none (some env)) (fun cenv s₄ =>
    codeAny (model prog w) A (.compStart (.ListComp elt gens scope pos) 0 it acc { cenv with scope := relabel scope env }) (compPost (model prog w) A E (sUse u py env) Q acc cenv.locals) s₄) E s₃) E s₂
theorem comp_openU {t : Expr} {gs : List Comprehension} (hclos : closureFor scope env = pure cl) (hkind : scope.kind = .function) (hnames : ∀ y ∈ scope.names, y.2 = .local → scope.names.lookup y.1 = some .local)
    (h : wpAny (model prog w) A (eval iter env) (fun xv s₁ => wpAny (model prog w) A (pyIter xv) (fun it s₂ => CompAtU none pos prog w A env elt (⟨t, iter, ifs, 0⟩ :: gs) scope cl pos E Q it s₂) E s₁) E s)
    (hs : ∀ x, foldedSetIterable iter env x = pure x) :
    wpAny (model prog w) A (eval (.ListComp elt (⟨t, iter, ifs, 0⟩ :: gs) scope pos) env) Q E s := by
  rw [eval_ListComp]
  exact wpAny_comprehension_free (use := none) rfl hs hclos hkind hnames h
theorem comp_openA {y : Str} {py : Pos} {spos : Pos} {Qf : Flow → Shared → Prop} {t : Expr} {gs : List Comprehension} (hsw : swapsWith (.ListComp elt (⟨t, iter, ifs, 0⟩ :: gs) scope pos) (some (.Name y py)) spos.line env = pure true)
    (hclos : closureFor scope env = pure cl) (hkind : scope.kind = .function) (hnames : ∀ y ∈ scope.names, y.2 = .local → scope.names.lookup y.1 = some .local)
    (h : wpAny (model prog w) A (eval iter env) (fun xv s₁ => wpAny (model prog w) A (pyIter xv) (fun it s₂ => CompAtU (some y) py prog w A env elt (⟨t, iter, ifs, 0⟩ :: gs) scope cl pos E (fun _ s' => Qf .next s') it s₂) E s₁) E s)
    (hs : ∀ x, foldedSetIterable iter env x = pure x) :
    wpAny (model prog w) A (exec (.Assign [.Name y py] (.ListComp elt (⟨t, iter, ifs, 0⟩ :: gs) scope pos) spos) env) Qf E s := by
  rw [exec_Assign_Name_used _ _ _ _ hsw]
  refine wpAny_bind (wpAny_standAt (wpAny_bind ?_))
  show wpAny _ A (do let _ ← comprehension (.ListComp elt (⟨t, iter, ifs, 0⟩ :: gs) scope pos) scope env _ (newList []) false (eval iter env) (some (assign (.Name y py) env))) _ _ s
  refine wpAny_bind (wpAny_mono (wpAny_comprehension_free (use := some (assign (.Name y py) env)) (Q := fun _ s' => Qf .next s') rfl hs hclos hkind hnames
    (wpAny_mono h (fun xv s₁ h₁ => h₁) fun _ _ e => e)) (fun _ s' hq => wpAny_pure (wpAny_pure hq)) fun _ _ e => e)
theorem comp_pureU {u : Option Str} {py : Pos} {I : Addr} {oI : Obj} {fx news : List (Addr × Obj)} {n : Nat} {P : Nat → Value → Prop} {fp : List Addr} {St : Nat → Heap → Prop}
    (S : Src prog w I oI fx n P fp St) (hA : A.handled = none) (J : Nat → List Value → Prop)
    (F : Fr h₀ L s.heap m) (N : News h₀ L s.heap ((I, oI) :: news)) (hI : ∀ p ∈ news, p.1 < I) (hfx : ∀ p ∈ fx, p ∈ news) (hj : J 0 [])
    (turn : ∀ (i : Nat) (ys : List Value) (v : Value) C D oI' oC mC kD h tk, i < n → P i v → J i ys → Fr h₀ L h m → News h₀ L h ((C, oC) :: (D, listOf ys.toArray kD) :: (I, oI') :: news) → LCg.NsObj oC mC → mC x = some v →
      wpAny (model prog w) A (testsOf ifs (compEnvC scope cl C env)) (fun ok s₃ =>
        if ok = true then wpAny (model prog w) A (eval elt (compEnvC scope cl C env)) (fun y s₄ => PureEnd h₀ L m s ((C, oC) :: (D, listOf ys.toArray kD) :: (I, oI') :: news) (J (i + 1) (ys ++ [y])) s₄) FalseE s₃
        else PureEnd h₀ L m s ((C, oC) :: (D, listOf ys.toArray kD) :: (I, oI') :: news) (J (i + 1) ys) s₃) FalseE { s with heap := h, toks := tk })
    (hsz : ∀ i ys, J i ys → ys.length ≤ sizeLine)
    (done : ∀ (ys : List Value) D kD h tk, J n ys → Fr h₀ L h (mUse u D m) → News h₀ L h ((D, listOf ys.toArray kD) :: news) → (∀ p ∈ news, p.1 < D) → Q (vUse u D) { s with heap := h, toks := tk })
    (hcell : ∀ y ∈ scope.names, y.2 ≠ .cell) (hkind : scope.kind = .function) (hx : scope.names.lookup x = some .local) (hu : UseOk u L env) :
    CompAtU u py prog w A env elt [⟨.Name x px, iter, ifs, 0⟩] scope cl pos E Q (.ref I) s := by
  unfold CompAtU
  refine blk_start F N hcell hkind fun C D oC mC h₁ tk0 hCD hnw F₁ N₁ ns₁ => ?_
  have off : BlkOff C D I news := ⟨hCD, Ne.symm (hnw _ (.head _)).1, Nat.ne_of_gt (hnw _ (.head _)).2, fun p hp => (hnw p (.tail _ hp)).1, fun p hp => Nat.ne_of_lt (hnw p (.tail _ hp)).2, fun p hp => Nat.ne_of_lt (hI p hp)⟩
  have N2 : News h₀ L h₁ ((I, oI) :: (C, oC) :: (D, listOf ([] : List Value).toArray 0) :: news) := all_cons (N₁ _ (.tail _ (.tail _ (.head _)))) (all_cons (N₁ _ (.head _)) (all_cons (N₁ _ (.tail _ (.head _))) fun p hp => N₁ _ (.tail _ (.tail _ (.tail _ hp)))))
  have loop : codeAny (model prog w) A (.compLoop (.ListComp elt [⟨.Name x px, iter, ifs, 0⟩] scope pos) 0 (.ref I) (.ref D) (compEnvC scope cl C env)) (compPost (model prog w) A E (sUse u py env) Q (.ref D) C) { s with heap := h₁, toks := tk0 } := by
    refine blk_loop (s := { s with heap := h₁, toks := tk0 }) (x := x) (px := px) (cenv := compEnvC scope cl C env) (Body := fun X s₂ => wpAny (model prog w) A (testsOf ifs (compEnvC scope cl C env)) (fun ok s₃ => if ok = true then wpAny (model prog w) A (eval elt (compEnvC scope cl C env)) (fun y s₄ => wpAny (model prog w) A (call (.builtin "list.append") [.ref D, y]) (fun _ s₅ => X s₅) FalseE s₄) FalseE s₃ else X s₃) FalseE s₂)
      (fun Inv ht k s' hk => codeAny_compLoop_tests Inv (fun k s' hk => wpAny_mono (ht k s' hk) (fun r s₁ hr => by
        cases r with
        | none => exact hr
        | some v => exact wpAny_mono hr (fun _ s₂ h2 => wpAny_mono h2 (fun ok s₃ h3 => by
          cases ok with
          | true => rw [if_pos rfl] at h3 ⊢; exact wpAny_mono h3 (fun y s₄ h4 => wpAny_mono h4 (fun _ _ h => h) fun _ _ e => e.elim) fun _ _ e => e.elim
          | false => exact h3) fun _ _ e => e.elim) fun _ _ e => e.elim) fun _ _ e => e.elim) k hk)
      S hA (fun i ys _ => J i ys) F₁ N2 hfx off ns₁ hj rfl (lookup_relabel_local hx) (by simp [compEnvC, relabel, hkind]) ?_ fun ys oC mC kD h tk hJ F' N' ns' => blk_fin hu hCD off.c F' N' ns' fun h' tk' F3 N3 => done ys D kD h' tk' hJ F3 N3 fun p hp => (hnw p (.tail _ hp)).2
    · intro i ys v oI' oC mC kD h tk hi hP hJ F' N' ns' X hX
      refine wpAny_mono (turn i ys v C D oI' oC _ kD h tk hi hP hJ F' N' ns' (if_pos rfl)) (fun ok s₃ hok => ?_) fun _ _ e => e
      cases ok with
      | true =>
        rw [if_pos rfl] at hok ⊢
        refine wpAny_mono hok (fun y s₄ hy => ?_) fun _ _ e => e
        obtain ⟨h', tk', rfl, F2, N2, hp⟩ := hy
        exact blk_append (s := { s with heap := h₁, toks := tk0 }) (J := fun ys _ => J (i + 1) ys) F2 N2 ⟨off.cd, off.ci, off.di, off.c, off.d, off.i⟩ ns' hp (hsz i ys hJ) hX
      | false =>
        rw [if_neg Bool.false_ne_true] at hok ⊢
        obtain ⟨h', tk', rfl, F2, N2, hp⟩ := hok
        exact hX _ ⟨h', tk', ys, oC, _, kD, ⟨rfl, F2, N2, ns', hp⟩⟩
  exact codeAny_compStart_list loop ((S.walks A hA).self 0 _ _ _ (S.at0.st (S.walks A hA) (all_cons (N2 _ (.head _)).1 fun p hp => (N2 _ (.tail _ (.tail _ (.tail _ (hfx p hp))))).1)) loop)
theorem comp_pure {py : Pos} {I : Addr} {oI : Obj} {fx news : List (Addr × Obj)} {n : Nat} {P : Nat → Value → Prop} {fp : List Addr} {St : Nat → Heap → Prop}
    (S : Src prog w I oI fx n P fp St) (hA : A.handled = none) (J : Nat → List Value → Prop)
    (F : Fr h₀ L s.heap m) (N : News h₀ L s.heap ((I, oI) :: news)) (hI : ∀ p ∈ news, p.1 < I) (hfx : ∀ p ∈ fx, p ∈ news) (hj : J 0 [])
    (turn : ∀ (i : Nat) (ys : List Value) (v : Value) C D oI' oC mC kD h tk, i < n → P i v → J i ys → Fr h₀ L h m → News h₀ L h ((C, oC) :: (D, listOf ys.toArray kD) :: (I, oI') :: news) → LCg.NsObj oC mC → mC x = some v →
      wpAny (model prog w) A (testsOf ifs (compEnvC scope cl C env)) (fun ok s₃ =>
        if ok = true then wpAny (model prog w) A (eval elt (compEnvC scope cl C env)) (fun y s₄ => PureEnd h₀ L m s ((C, oC) :: (D, listOf ys.toArray kD) :: (I, oI') :: news) (J (i + 1) (ys ++ [y])) s₄) FalseE s₃
        else PureEnd h₀ L m s ((C, oC) :: (D, listOf ys.toArray kD) :: (I, oI') :: news) (J (i + 1) ys) s₃) FalseE { s with heap := h, toks := tk })
    (hsz : ∀ i ys, J i ys → ys.length ≤ sizeLine)
    (done : ∀ (ys : List Value) D kD h tk, J n ys → Fr h₀ L h m → News h₀ L h ((D, listOf ys.toArray kD) :: news) → (∀ p ∈ news, p.1 < D) → Q (.ref D) { s with heap := h, toks := tk })
    (hcell : ∀ y ∈ scope.names, y.2 ≠ .cell) (hkind : scope.kind = .function) (hx : scope.names.lookup x = some .local) :
    CompAtU (none) py prog w A env elt [⟨.Name x px, iter, ifs, 0⟩] scope cl pos E Q (.ref I) s :=
  comp_pureU (u := none) S hA J F N hI hfx hj turn hsz done hcell hkind hx UseOk.none
theorem comp_pureA {y : Str} {py : Pos} {I : Addr} {oI : Obj} {fx news : List (Addr × Obj)} {n : Nat} {P : Nat → Value → Prop} {fp : List Addr} {St : Nat → Heap → Prop}
    (S : Src prog w I oI fx n P fp St) (hA : A.handled = none) (J : Nat → List Value → Prop)
    (F : Fr h₀ L s.heap m) (N : News h₀ L s.heap ((I, oI) :: news)) (hI : ∀ p ∈ news, p.1 < I) (hfx : ∀ p ∈ fx, p ∈ news) (hj : J 0 [])
    (turn : ∀ (i : Nat) (ys : List Value) (v : Value) C D oI' oC mC kD h tk, i < n → P i v → J i ys → Fr h₀ L h m → News h₀ L h ((C, oC) :: (D, listOf ys.toArray kD) :: (I, oI') :: news) → LCg.NsObj oC mC → mC x = some v →
      wpAny (model prog w) A (testsOf ifs (compEnvC scope cl C env)) (fun ok s₃ =>
        if ok = true then wpAny (model prog w) A (eval elt (compEnvC scope cl C env)) (fun y s₄ => PureEnd h₀ L m s ((C, oC) :: (D, listOf ys.toArray kD) :: (I, oI') :: news) (J (i + 1) (ys ++ [y])) s₄) FalseE s₃
        else PureEnd h₀ L m s ((C, oC) :: (D, listOf ys.toArray kD) :: (I, oI') :: news) (J (i + 1) ys) s₃) FalseE { s with heap := h, toks := tk })
    (hsz : ∀ i ys, J i ys → ys.length ≤ sizeLine)
    (done : ∀ (ys : List Value) D kD h tk, J n ys → Fr h₀ L h (fun z => if z = y then some (.ref D) else m z) → News h₀ L h ((D, listOf ys.toArray kD) :: news) → (∀ p ∈ news, p.1 < D) → Q .none { s with heap := h, toks := tk })
    (hcell : ∀ y ∈ scope.names, y.2 ≠ .cell) (hkind : scope.kind = .function) (hx : scope.names.lookup x = some .local) (hu : env.locals = L ∧ env.kindOf y = some .local ∧ (env.scope.kind == .class || (env.scope.kind == .module && env.locals != env.globals)) = false) :
    CompAtU (some y) py prog w A env elt [⟨.Name x px, iter, ifs, 0⟩] scope cl pos E Q (.ref I) s :=
  comp_pureU (u := some y) S hA J F N hI hfx hj turn hsz done hcell hkind hx (fun z e => by cases e; exact hu)
end
section
variable {prog : Program} {w : World} {A : Around} {E : Value → Shared → Prop} {Q : Value → Shared → Prop} {s : Shared} {env cenv : Env} {h₀ : Heap} {L : Addr} {m : Str → Option Value}
  {elt i1 i2 : Expr} {x1 x2 : Str} {p1 p2 : Pos} {scope : Scope} {cl : List (Str × Addr)} {pos : Pos}
noncomputable abbrev two (elt i1 i2 : Expr) (x1 x2 : Str) (p1 p2 : Pos) (scope : Scope) (pos : Pos) : Expr := .ListComp elt [⟨.Name x1 p1, i1, [], 0⟩, ⟨.Name x2 p2, i2, [], 0⟩] scope pos
theorem turn_two0 (it acc : Value) (env : Env) : compTurn (two elt i1 i2 x1 x2 p1 p2 scope pos) 0 it acc env = (standAt i1.pos >>= fun _ => pyNext it >>= fun r => match r with
      | none => pure (.done .next)
      | some v => letOwnedTupleGo (.Name x1 p1) it v >>= fun _ => assign (.Name x1 p1) env v >>= fun _ =>
        (eval i2 env >>= fun x => standAt i2.pos >>= fun _ => foldedSetIterable i2 env x >>= fun x => holding [x] (pyIter x) >>= fun j => runOwn (.compStart (two elt i1 i2 x1 x2 p1 p2 scope pos) 1 j acc env) env >>= fun _ =>
          again (.compLoop (two elt i1 i2 x1 x2 p1 p2 scope pos) 0 it acc env))) := by rfl
theorem turn_two1 (it acc : Value) (env : Env) : compTurn (two elt i1 i2 x1 x2 p1 p2 scope pos) 1 it acc env = (standAt i2.pos >>= fun _ => pyNext it >>= fun r => match r with
      | none => pure (.done .next)
      | some v => letOwnedTupleGo (.Name x2 p2) it v >>= fun _ => assign (.Name x2 p2) env v >>= fun _ =>
        (eval elt env >>= fun x => call (.builtin "list.append") [acc, x] >>= fun _ => pure ()) >>= fun _ =>
          again (.compLoop (two elt i1 i2 x1 x2 p1 p2 scope pos) 1 it acc env)) := by rfl
noncomputable def Inner (prog : Program) (w : World) (A : Around) (e : Expr) (cenv : Env) (D : Addr) (X : Shared → Prop) (j : Value) (s : Shared) : Prop :=
  codeAny (model prog w) A (.compStart e 1 j (.ref D) cenv) (fun r s' => match r with | .ok _ => X s' | .error _ => False) s
theorem inner_start {j : Value} {D : Addr} {X : Shared → Prop}
    (h0 : codeAny (model prog w) A (.compLoop (two elt i1 i2 x1 x2 p1 p2 scope pos) 1 j (.ref D) cenv) (fun r s' => match r with | .ok _ => X s' | .error _ => False) s)
    (h : ∀ (R : Value → Shared → Prop) E', R j s → wpAny (model prog w) A (pyIter j) R E' s) : Inner prog w A (two elt i1 i2 x1 x2 p1 p2 scope pos) cenv D X j s := by
  refine codeAny_of_tree ?_
  show wpAny _ _ ((compStart (two elt i1 i2 x1 x2 p1 p2 scope pos) 1 j (.ref D) cenv).onRaise (fun x => do noteFrame x cenv; standAt theWindowsPlace)) _ _ s
  refine wpAny_notedAt ?_
  unfold compStart
  show wpAny _ _ (ask >>= _) _ _ s
  refine wpAny_bind (wpAny_askSetting (wpAny_ite ?_))
  split
  · first
      | exact wpAny_bind (wpAny_pure (wpAny_pure (And.intro rfl h0)))
      | exact wpAny_pure (And.intro rfl h0)
  · first
      | exact wpAny_bind (wpAny_rule (wpAny_bind (wpAny_standAt (wpAny_bind (h _ _ (wpAny_pure (And.intro rfl h0)))))))
      | (refine wpAny_bind (wpAny_rule ?_); show wpAny _ _ (standAt i2.pos >>= _) _ _ s; exact wpAny_bind (wpAny_standAt (wpAny_bind (h _ _ (wpAny_pure (And.intro rfl h0))))))

theorem inner_loop {C D I : Addr} {oI oC : Obj} {fx rest : List (Addr × Obj)} {n : Nat} {P : Nat → Value → Prop} {fp : List Addr} {St : Nat → Heap → Prop} {X : Shared → Prop} {ys : List Value} {kD : Nat} {mC : Str → Option Value} {v : Value}
    (S : Src prog w I oI fx n P fp St) (hA : A.handled = none) (J : Nat → List Value → Prop)
    (F : Fr h₀ L s.heap m) (N : News h₀ L s.heap ((I, oI) :: (C, oC) :: (D, listOf ys.toArray kD) :: rest)) (hfx : ∀ p ∈ fx, p ∈ rest) (off : BlkOff C D I rest) (ns : NsObj oC mC) (hv : mC x1 = some v) (h12 : x1 ≠ x2) (hj : J 0 ys)
    (hkind : scope.kind = .function) (hx : scope.names.lookup x2 = some .local)
    (turn : ∀ (i : Nat) (ys : List Value) (v2 : Value) oI' oC mC kD h tk, i < n → P i v2 → J i ys → Fr h₀ L h m → News h₀ L h ((C, oC) :: (D, listOf ys.toArray kD) :: (I, oI') :: rest) → LCg.NsObj oC mC → mC x1 = some v → mC x2 = some v2 →
      wpAny (model prog w) A (eval elt (compEnvC scope cl C env)) (fun y s₄ => PureEnd h₀ L m s ((C, oC) :: (D, listOf ys.toArray kD) :: (I, oI') :: rest) (J (i + 1) (ys ++ [y])) s₄) FalseE { s with heap := h, toks := tk })
    (hsz : ∀ i ys, J i ys → ys.length ≤ sizeLine)
    (done : ∀ s', Blk h₀ L m s C D rest (fun ys _ => J n ys) s' → X s') : Inner prog w A (two elt i1 i2 x1 x2 p1 p2 scope pos) (compEnvC scope cl C env) D X (.ref I) s := by
  refine inner_start ?_ fun R E' hR => (S.walks A hA).self 0 _ _ _ (S.at0.st (S.walks A hA) (all_cons (N _ (.head _)).1 fun p hp => (N _ (.tail _ (.tail _ (.tail _ (hfx p hp))))).1)) hR
  refine blk_loop (x := x2) (px := p2) (cenv := compEnvC scope cl C env) (Body := fun Y s₂ => wpAny (model prog w) A (eval elt (compEnvC scope cl C env)) (fun y s₄ => wpAny (model prog w) A (call (.builtin "list.append") [.ref D, y]) (fun _ s₅ => Y s₅) FalseE s₄) FalseE s₂)
    (fun Inv ht k s' hk => ?_) S hA (fun i ys mC => mC x1 = some v ∧ J i ys) F N hfx off ns ⟨hv, hj⟩ rfl (lookup_relabel_local hx) (by simp [compEnvC, relabel, hkind]) ?_ fun ys oC mC kD h tk hJ F' N' ns' => done _ ⟨h, tk, ys, oC, mC, kD, ⟨rfl, F', N', ns', hJ.2⟩⟩
  · refine codeAny_loop rfl Inv (fun n s hI => ?_) k hk
    show wpAny _ A ((compTurn (two elt i1 i2 x1 x2 p1 p2 scope pos) 1 (.ref I) (.ref D) (compEnvC scope cl C env)).onRaise (fun x => do noteFrame x (compEnvC scope cl C env); theTreesLotGoes x)) _ _ s
    refine wpAny_noted ?_
    rw [turn_two1]
    refine wpAny_bind (wpAny_standAt (wpAny_bind (wpAny_mono (ht n s hI) (fun r s₁ h₁ => ?_) fun _ _ e => e.elim)))
    cases r with
    | none => exact wpAny_pure h₁
    | some v =>
      refine wpAny_bind (wpAny_of_eq (by rfl) ?_)
      exact wpAny_bind (wpAny_mono h₁ (fun _ s₂ h₂ => wpAny_bind (wpAny_bind (wpAny_mono h₂ (fun x s₃ h₃ => wpAny_bind (wpAny_mono h₃
        (fun _ s₄ h₄ => wpAny_pure (wpAny_pure ⟨rfl, h₄⟩)) fun _ _ e => e.elim)) fun _ _ e => e.elim))) fun _ _ e => e.elim)
  · intro i ys v2 oI' oC mC kD h tk hi hP hJ F' N' ns' Y hY
    have hv' : (fun y => if y = x2 then some v2 else mC y) x1 = some v := by dsimp only; rw [if_neg h12]; exact hJ.1
    refine wpAny_mono (turn i ys v2 oI' oC _ kD h tk hi hP hJ.2 F' N' ns' hv' (if_pos rfl)) (fun y s₄ hy => ?_) fun _ _ e => e
    obtain ⟨h', tk', rfl, F2, N2, hp⟩ := hy
    exact blk_append (J := fun ys mC => mC x1 = some v ∧ J (i + 1) ys) F2 N2 off ns' ⟨hv', hp⟩ (hsz i ys hJ.2) hY
theorem comp_two {u : Option Str} {py : Pos} {I : Addr} {oI : Obj} {fx news : List (Addr × Obj)} {n : Nat} {P : Nat → Value → Prop} {fp : List Addr} {St : Nat → Heap → Prop}
    (S : Src prog w I oI fx n P fp St) (hA : A.handled = none) (J : Nat → List Value → Prop)
    (F : Fr h₀ L s.heap m) (N : News h₀ L s.heap ((I, oI) :: news)) (hI : ∀ p ∈ news, p.1 < I) (hfx : ∀ p ∈ fx, p ∈ news) (hj : J 0 [])
    (turn : ∀ (i : Nat) (ys : List Value) (v : Value) C D oI' oC mC kD h tk, i < n → P i v → J i ys → Fr h₀ L h m → News h₀ L h ((C, oC) :: (D, listOf ys.toArray kD) :: (I, oI') :: news) → BlkOff C D I news → LCg.NsObj oC mC → mC x1 = some v →
      ∀ X : Shared → Prop, (∀ s', Blk h₀ L m s C D ((I, oI') :: news) (fun ys _ => J (i + 1) ys) s' → X s') →
      wpAny (model prog w) A (eval i2 (compEnvC scope cl C env)) (fun xv s₁ => wpAny (model prog w) A (pyIter xv) (fun j s₂ => Inner prog w A (two elt i1 i2 x1 x2 p1 p2 scope pos) (compEnvC scope cl C env) D X j s₂) FalseE s₁) FalseE { s with heap := h, toks := tk })
    (done : ∀ (ys : List Value) D kD h tk, J n ys → Fr h₀ L h (mUse u D m) → News h₀ L h ((D, listOf ys.toArray kD) :: news) → (∀ p ∈ news, p.1 < D) → Q (vUse u D) { s with heap := h, toks := tk })
    (hcell : ∀ y ∈ scope.names, y.2 ≠ .cell) (hkind : scope.kind = .function) (hx : scope.names.lookup x1 = some .local) (hs2 : ∀ C x, foldedSetIterable i2 (compEnvC scope cl C env) x = pure x) (hu : UseOk u L env) :
    CompAtU u py prog w A env elt [⟨.Name x1 p1, i1, [], 0⟩, ⟨.Name x2 p2, i2, [], 0⟩] scope cl pos E Q (.ref I) s := by
  unfold CompAtU
  refine blk_start F N hcell hkind fun C D oC mC h₁ tk0 hCD hnw F₁ N₁ ns₁ => ?_
  have off : BlkOff C D I news := ⟨hCD, Ne.symm (hnw _ (.head _)).1, Nat.ne_of_gt (hnw _ (.head _)).2, fun p hp => (hnw p (.tail _ hp)).1, fun p hp => Nat.ne_of_lt (hnw p (.tail _ hp)).2, fun p hp => Nat.ne_of_lt (hI p hp)⟩
  have N2 : News h₀ L h₁ ((I, oI) :: (C, oC) :: (D, listOf ([] : List Value).toArray 0) :: news) := all_cons (N₁ _ (.tail _ (.tail _ (.head _)))) (all_cons (N₁ _ (.head _)) (all_cons (N₁ _ (.tail _ (.head _))) fun p hp => N₁ _ (.tail _ (.tail _ (.tail _ hp)))))
  have loop : codeAny (model prog w) A (.compLoop (two elt i1 i2 x1 x2 p1 p2 scope pos) 0 (.ref I) (.ref D) (compEnvC scope cl C env)) (compPost (model prog w) A E (sUse u py env) Q (.ref D) C) { s with heap := h₁, toks := tk0 } := by
    refine blk_loop (s := { s with heap := h₁, toks := tk0 }) (x := x1) (px := p1) (cenv := compEnvC scope cl C env) (Body := fun X s₂ => wpAny (model prog w) A (eval i2 (compEnvC scope cl C env)) (fun xv s₁ => wpAny (model prog w) A (pyIter xv) (fun j s₂ => Inner prog w A (two elt i1 i2 x1 x2 p1 p2 scope pos) (compEnvC scope cl C env) D X j s₂) FalseE s₁) FalseE s₂)
      (fun Inv ht k s' hk => ?_)
      S hA (fun i ys _ => J i ys) F₁ N2 hfx off ns₁ hj rfl (lookup_relabel_local hx) (by simp [compEnvC, relabel, hkind]) ?_ fun ys oC mC kD h tk hJ F' N' ns' => blk_fin hu hCD off.c F' N' ns' fun h' tk' F3 N3 => done ys D kD h' tk' hJ F3 N3 fun p hp => (hnw p (.tail _ hp)).2
    · refine codeAny_loop rfl Inv (fun n s hI => ?_) k hk
      show wpAny _ A ((compTurn (two elt i1 i2 x1 x2 p1 p2 scope pos) 0 (.ref I) (.ref D) (compEnvC scope cl C env)).onRaise (fun x => do noteFrame x (compEnvC scope cl C env); theTreesLotGoes x)) _ _ s
      refine wpAny_noted ?_
      rw [turn_two0]
      refine wpAny_bind (wpAny_standAt (wpAny_bind (wpAny_mono (ht n s hI) (fun r s₁ h₁ => ?_) fun _ _ e => e.elim)))
      cases r with
      | none => exact wpAny_pure h₁
      | some v =>
        refine wpAny_bind (wpAny_of_eq (by rfl) ?_)
        refine wpAny_bind (wpAny_mono h₁ (fun _ s₂ h₂ => wpAny_bind (wpAny_mono h₂ (fun x s₃ h₃ => wpAny_bind (wpAny_standAt (wpAny_bind (wpAny_of_eq (hs2 C x) (wpAny_bind (wpAny_holding (wpAny_mono h₃ (fun j s₄ h₄ => ?_) fun _ _ e => e.elim))))))) fun _ _ e => e.elim)) fun _ _ e => e.elim)
        refine wpAny_bind (wpAny_runOwn ?_)
        refine codeAny_mono h₄ fun r s₅ h₅ => ?_
        cases r with
        | ok f => exact wpAny_pure ⟨rfl, h₅⟩
        | error e => exact h₅.elim
    · intro i ys v oI' oC mC kD h tk hi hP hJ F' N' ns' X hX
      exact turn i ys v C D oI' oC _ kD h tk hi hP hJ F' N' off ns' (if_pos rfl) X fun s' ⟨h, tk, ys, oC, mC, kD, B⟩ => hX s' ⟨h, tk, ys, oC, mC, kD, ⟨B.st, B.fr, B.nw, B.ns, B.j⟩⟩
  exact codeAny_compStart_list loop ((S.walks A hA).self 0 _ _ _ (S.at0.st (S.walks A hA) (all_cons (N2 _ (.head _)).1 fun p hp => (N2 _ (.tail _ (.tail _ (.tail _ (hfx p hp))))).1)) loop)
end
end Mine
end
section
namespace Mine
noncomputable def isP (ws : List (List Nat)) (x : List Nat) : Bool := ws.any fun y => x.isPrefixOf y
theorem isP_iff {ws : List (List Nat)} {x : List Nat} : isP ws x = true ↔ ∃ y ∈ ws, x <+: y := by
  unfold isP; rw [List.any_eq_true]
  exact ⟨fun ⟨y, h, e⟩ => ⟨y, h, List.isPrefixOf_iff_prefix.mp e⟩, fun ⟨y, h, e⟩ => ⟨y, h, List.isPrefixOf_iff_prefix.mpr e⟩⟩
theorem isP_word {ws : List (List Nat)} {x : List Nat} (h : x ∈ ws) : isP ws x = true := isP_iff.mpr ⟨x, h, List.prefix_refl x⟩
theorem isP_pre {ws : List (List Nat)} {x y : List Nat} (h : isP ws (x ++ y) = true) : isP ws x = true := by
  obtain ⟨z, hz, e⟩ := isP_iff.mp h
  exact isP_iff.mpr ⟨z, hz, (List.prefix_append x y).trans e⟩
theorem isP_len {ws : List (List Nat)} {x : List Nat} {n : Nat} (hw : ∀ y ∈ ws, y.length ≤ n) (h : isP ws x = true) : x.length ≤ n := by
  obtain ⟨y, hy, e⟩ := isP_iff.mp h
  exact Nat.le_trans e.length_le (hw y hy)
section
variable (ws : List (List Nat))
noncomputable def lsuf : List Nat → List Nat
  | [] => []
  | c :: r => if isP ws (c :: r) = true then c :: r else lsuf r
noncomputable def fail (x : List Nat) : List Nat := lsuf ws x.tail
noncomputable def sfx : List Nat → List (List Nat)
  | [] => []
  | c :: r => (if (c :: r) ∈ ws then [c :: r] else []) ++ sfx r
end
section
variable {ws : List (List Nat)}
theorem lsuf_len : ∀ x : List Nat, (lsuf ws x).length ≤ x.length
  | [] => Nat.le_refl _
  | c :: r => by
    unfold lsuf; split
    · exact Nat.le_refl _
    · exact Nat.le_succ_of_le (lsuf_len r)
theorem lsuf_p (h0 : ws ≠ []) : ∀ x : List Nat, isP ws (lsuf ws x) = true
  | [] => by
    cases ws with
    | nil => exact absurd rfl h0
    | cons y r => exact isP_iff.mpr ⟨y, .head _, List.nil_prefix⟩
  | c :: r => by
    unfold lsuf; split
    · assumption
    · exact lsuf_p h0 r
theorem lsuf_self {x : List Nat} (h : isP ws x = true) : lsuf ws x = x := by
  cases x with
  | nil => rfl
  | cons c r => unfold lsuf; rw [if_pos h]
theorem lsuf_step (c : Nat) : ∀ z : List Nat, lsuf ws (z ++ [c]) = lsuf ws (lsuf ws z ++ [c])
  | [] => rfl
  | a :: r => by
    by_cases h : isP ws (a :: r) = true
    · rw [lsuf_self h]
    · have h2 : ¬ isP ws ((a :: r) ++ [c]) = true := fun q => h (isP_pre q)
      have e1 : lsuf ws ((a :: r) ++ [c]) = lsuf ws (r ++ [c]) := by
        exact if_neg h2
      have e2 : lsuf ws (a :: r) = lsuf ws r := by rw [lsuf, if_neg h]
      rw [e1, e2]
      exact lsuf_step c r
theorem lsuf_stop {y : List Nat} {c : Nat} (h : y = [] ∨ isP ws (y ++ [c]) = true) : lsuf ws (y ++ [c]) = if isP ws (y ++ [c]) = true then y ++ [c] else [] := by
  by_cases q : isP ws (y ++ [c]) = true
  · rw [if_pos q, lsuf_self q]
  · rw [if_neg q]
    rcases h with rfl | h
    · exact if_neg q
    · exact absurd h q
theorem lsuf_on {y : List Nat} {c : Nat} (h : y ≠ []) (q : isP ws (y ++ [c]) ≠ true) : lsuf ws (y ++ [c]) = lsuf ws (fail ws y ++ [c]) := by
  cases y with
  | nil => exact absurd rfl h
  | cons a r =>
    show lsuf ws (a :: (r ++ [c])) = lsuf ws (lsuf ws r ++ [c])
    rw [← lsuf_step]; exact if_neg q
theorem fail_len {y : List Nat} (h : y ≠ []) : (fail ws y).length < y.length := by
  cases y with
  | nil => exact absurd rfl h
  | cons a r => exact Nat.lt_succ_of_le (lsuf_len r)
theorem fail_p (h0 : ws ≠ []) (y : List Nat) : isP ws (fail ws y) = true := lsuf_p h0 _
theorem fail_snoc {x : List Nat} {c : Nat} (h : x ≠ []) : fail ws (x ++ [c]) = lsuf ws (fail ws x ++ [c]) := by
  cases x with
  | nil => exact absurd rfl h
  | cons a r => exact lsuf_step c r
theorem sfx_lsuf : ∀ z : List Nat, sfx ws z = sfx ws (lsuf ws z)
  | [] => rfl
  | a :: r => by
    by_cases h : isP ws (a :: r) = true
    · rw [lsuf_self h]
    · have h2 : (a :: r) ∉ ws := fun q => h (isP_word q)
      have e2 : lsuf ws (a :: r) = lsuf ws r := by rw [lsuf, if_neg h]
      rw [e2, ← sfx_lsuf r, sfx, if_neg h2]; rfl
theorem sfx_fail {x : List Nat} (h : x ≠ []) : sfx ws x = (if x ∈ ws then [x] else []) ++ sfx ws (fail ws x) := by
  cases x with
  | nil => exact absurd rfl h
  | cons a r => show (if (a :: r) ∈ ws then [a :: r] else []) ++ sfx ws r = _ ++ sfx ws (lsuf ws r); rw [← sfx_lsuf]
theorem sfx_mem : ∀ {z y : List Nat}, y ∈ sfx ws z → y ∈ ws ∧ y.length ≤ z.length
  | [], _, h => nomatch h
  | a :: r, y, h => by
    rcases List.mem_append.mp h with h | h
    · split at h
      · rw [List.mem_singleton.mp h]; exact ⟨by assumption, Nat.le_refl _⟩
      · cases h
    · exact ⟨(sfx_mem h).1, Nat.le_succ_of_le (sfx_mem h).2⟩
theorem sfx_len : ∀ z : List Nat, (sfx ws z).length ≤ z.length
  | [] => Nat.le_refl _
  | a :: r => by
    show ((if (a :: r) ∈ ws then [a :: r] else []) ++ sfx ws r).length ≤ r.length + 1
    rw [List.length_append]
    have := sfx_len r
    split <;> simp only [List.length_cons, List.length_nil] <;> omega
noncomputable def tailsL : List Nat → List (List Nat)
  | [] => [[]]
  | c :: r => (c :: r) :: tailsL r
noncomputable def ends (z : List Nat) : List (List Nat) := tailsL (z.drop (z.length - 4))
theorem tailsL_range : ∀ y : List Nat, tailsL y = (List.range (y.length + 1)).map fun k => y.drop k
  | [] => rfl
  | c :: r => by
    rw [List.length_cons, List.range_succ_eq_map, List.map_cons, List.map_map, tailsL, tailsL_range r]; rfl
theorem lsuf_first : ∀ y : List Nat, ∃ l, (tailsL y).filter (isP ws) = lsuf ws y :: l ∨ (lsuf ws y = [] ∧ (tailsL y).filter (isP ws) = [])
  | [] => by
    by_cases h : isP ws [] = true
    · exact ⟨[], .inl (by rw [tailsL, List.filter_cons, if_pos h]; rfl)⟩
    · exact ⟨[], .inr ⟨rfl, by rw [tailsL, List.filter_cons, if_neg h]; rfl⟩⟩
  | c :: r => by
    by_cases h : isP ws (c :: r) = true
    · exact ⟨_, .inl (by rw [tailsL, List.filter_cons, if_pos h, lsuf, if_pos h])⟩
    · rw [tailsL, List.filter_cons, if_neg h, lsuf, if_neg h]; exact lsuf_first r
theorem lsuf_head (h0 : ws ≠ []) (y : List Nat) : ∃ l, (tailsL y).filter (isP ws) = lsuf ws y :: l := by
  have hp : ∀ y : List Nat, [] ∈ tailsL y := fun y => by
    induction y with
    | nil => exact .head _
    | cons c r ih => exact .tail _ ih
  obtain ⟨l, h | ⟨_, h⟩⟩ := lsuf_first (ws := ws) y
  · exact ⟨l, h⟩
  · exact absurd h (List.ne_nil_of_mem (List.mem_filter.mpr ⟨hp y, lsuf_p h0 []⟩))
theorem sfx_tails (h0 : [] ∉ ws) : ∀ y : List Nat, (tailsL y).filter (fun x => decide (x ∈ ws)) = sfx ws y
  | [] => by rw [tailsL, List.filter_cons, if_neg (by simpa using h0)]; rfl
  | c :: r => by
    rw [tailsL, List.filter_cons, sfx_tails h0 r, sfx]
    by_cases h : (c :: r) ∈ ws
    · rw [if_pos h, if_pos (decide_eq_true h)]; rfl
    · rw [if_neg h, if_neg (by simpa using h)]; rfl
theorem lsuf_short (hw : ∀ y ∈ ws, y.length ≤ 4) : ∀ z : List Nat, lsuf ws z = lsuf ws (z.drop (z.length - 4))
  | [] => rfl
  | c :: r => by
    by_cases q : (c :: r).length ≤ 4
    · rw [Nat.sub_eq_zero_of_le q]; rfl
    · have e : (c :: r).length - 4 = (r.length - 4) + 1 := by simp only [List.length_cons] at q ⊢; omega
      rw [e, List.drop_succ_cons, ← lsuf_short hw r, lsuf, if_neg fun h => q (isP_len hw h)]
theorem sfx_short (hw : ∀ y ∈ ws, y.length ≤ 4) : ∀ z : List Nat, sfx ws z = sfx ws (z.drop (z.length - 4))
  | [] => rfl
  | c :: r => by
    by_cases q : (c :: r).length ≤ 4
    · rw [Nat.sub_eq_zero_of_le q]; rfl
    · have e : (c :: r).length - 4 = (r.length - 4) + 1 := by simp only [List.length_cons] at q ⊢; omega
      rw [e, List.drop_succ_cons, ← sfx_short hw r, sfx, if_neg fun h => q (hw _ h)]; rfl
theorem due_first (hw : ∀ y ∈ ws, y.length ≤ 4) (h0 : ws ≠ []) (z : List Nat) : ∃ l, (ends z).filter (isP ws) = lsuf ws z :: l := by
  rw [lsuf_short hw z]; exact lsuf_head h0 _
theorem due_all (hw : ∀ y ∈ ws, y.length ≤ 4) (h0 : [] ∉ ws) (z : List Nat) : (ends z).filter (fun x => decide (x ∈ ws)) = sfx ws z := by
  rw [sfx_short hw z]; exact sfx_tails h0 _
noncomputable def begins (ws : List (List Nat)) : List (List Nat) := ws.flatMap fun y => (List.range (y.length + 1)).map fun k => y.take k
theorem begins_iff {x : List Nat} : x ∈ begins ws ↔ isP ws x = true := by
  rw [isP_iff, begins, List.mem_flatMap]
  constructor
  · rintro ⟨y, hy, h⟩
    obtain ⟨k, _, rfl⟩ := List.mem_map.mp h
    exact ⟨y, hy, List.take_prefix k y⟩
  · rintro ⟨y, hy, h⟩
    refine ⟨y, hy, List.mem_map.mpr ⟨x.length, List.mem_range.mpr (Nat.lt_succ_of_le h.length_le), ?_⟩⟩
    exact (List.prefix_iff_eq_take.mp h).symm
end
end Mine
end
section
namespace Mine
theorem nodup_le {α : Type} [DecidableEq α] : ∀ {l m : List α}, l.Nodup → (∀ x ∈ l, x ∈ m) → l.length ≤ m.length
  | [], _, _, _ => Nat.zero_le _
  | a :: l, m, h, s => by
    obtain ⟨h1, h2⟩ := List.nodup_cons.mp h
    have hm := s a (.head _)
    have := nodup_le (l := l) (m := m.erase a) h2 fun x hx => by
      exact (List.mem_erase_of_ne (fun e : x = a => h1 (e ▸ hx))).mpr (s x (.tail _ hx))
    rw [List.length_erase_of_mem hm] at this
    have := List.length_pos_of_mem hm
    rw [List.length_cons]; omega
structure Bfs (ws D Q : List (List Nat)) : Prop where
  nd : (D ++ Q).Nodup
  inP : ∀ y ∈ D ++ Q, isP ws y = true ∧ y ≠ []
  par : ∀ y c, y ++ [c] ∈ D ++ Q → y = [] ∨ y ∈ D
  chd : ∀ y c, (y = [] ∨ y ∈ D) → isP ws (y ++ [c]) = true → y ++ [c] ∈ D ++ Q
  srt : Q.Pairwise fun a b => a.length ≤ b.length
  near : ∀ x r, Q = x :: r → ∀ y ∈ Q, y.length ≤ x.length + 1
section
variable {ws D Q r : List (List Nat)} {x : List Nat}
theorem Bfs.short (B : Bfs ws D (x :: r)) : ∀ y : List Nat, isP ws y = true → y.length < x.length → y = [] ∨ y ∈ D := by
  intro y
  induction hn : y.length generalizing y with
  | zero => exact fun _ _ => .inl (List.eq_nil_of_length_eq_zero hn)
  | succ n ih =>
    intro hp hl
    rcases List.eq_nil_or_concat y with rfl | ⟨z, c, rfl⟩
    · exact .inl rfl
    · rw [List.concat_eq_append] at *
      have hz : z.length = n := by simp at hn; exact hn
      rcases List.mem_append.mp (B.chd z c (ih z hz (isP_pre hp) (by omega)) hp) with h | h
      · exact .inr h
      · refine absurd ?_ (Nat.not_le_of_lt (hn ▸ hl))
        rcases List.mem_cons.mp h with h | h
        · rw [h]; exact Nat.le_refl _
        · exact (List.pairwise_cons.mp B.srt).1 _ h
theorem Bfs.done (B : Bfs ws D []) : ∀ y : List Nat, isP ws y = true → y = [] ∨ y ∈ D := by
  intro y
  induction hn : y.length generalizing y with
  | zero => exact fun _ => .inl (List.eq_nil_of_length_eq_zero hn)
  | succ n ih =>
    intro hp
    rcases List.eq_nil_or_concat y with rfl | ⟨z, c, rfl⟩
    · exact .inl rfl
    · rw [List.concat_eq_append] at *
      have hz : z.length = n := by simp at hn; exact hn
      have := B.chd z c (ih z hz (isP_pre hp)) hp
      rw [List.append_nil] at this
      exact .inr this
theorem snoc_inj {a b : List Nat} {c d : Nat} (h : a ++ [c] = b ++ [d]) : a = b ∧ c = d := by
  have := List.append_inj' h rfl
  exact ⟨this.1, by simpa using this.2⟩
theorem kids_nodup {ks : List Nat} (hn : ks.Nodup) : (ks.map fun c => x ++ [c]).Nodup := by
  refine List.Pairwise.map _ (fun a b h e => h (snoc_inj e).2) hn
theorem Bfs.turn (B : Bfs ws D (x :: r)) {ks : List Nat} (hn : ks.Nodup) (hk : ∀ c, c ∈ ks ↔ isP ws (x ++ [c]) = true) : Bfs ws (D ++ [x]) (r ++ ks.map fun c => x ++ [c]) := by
  have hnd := B.nd
  have e : D ++ [x] ++ (r ++ ks.map fun c => x ++ [c]) = (D ++ x :: r) ++ ks.map fun c => x ++ [c] := by simp
  have hxD : x ∉ D := fun h => (List.nodup_append.mp hnd).2.2 x h x (.head _) rfl
  have hx := (B.inP x (List.mem_append_right _ (.head _)))
  refine ⟨?_, ?_, ?_, ?_, ?_, ?_⟩
  · rw [e, List.nodup_append]
    refine ⟨hnd, kids_nodup hn, fun a ha b hb q => ?_⟩
    obtain ⟨c, _, rfl⟩ := List.mem_map.mp hb
    rcases B.par x c (q ▸ ha) with h | h
    · exact hx.2 h
    · exact hxD h
  · rw [e]
    intro y hy
    rcases List.mem_append.mp hy with hy | hy
    · exact B.inP y hy
    · obtain ⟨c, hc, rfl⟩ := List.mem_map.mp hy
      exact ⟨(hk c).mp hc, by simp⟩
  · rw [e]
    intro y c hy
    rcases List.mem_append.mp hy with hy | hy
    · exact (B.par y c hy).imp_right fun h => List.mem_append_left _ h
    · obtain ⟨c', _, q⟩ := List.mem_map.mp hy
      rw [← (snoc_inj q).1]
      exact .inr (List.mem_append_right _ (.head _))
  · rw [e]
    intro y c hy hp
    rcases hy with rfl | hy
    · exact List.mem_append_left _ (B.chd [] c (.inl rfl) hp)
    · rcases List.mem_append.mp hy with hy | hy
      · exact List.mem_append_left _ (B.chd y c (.inr hy) hp)
      · rw [List.mem_singleton] at hy
        subst hy
        exact List.mem_append_right _ (List.mem_map.mpr ⟨c, (hk c).mpr hp, rfl⟩)
  · refine List.pairwise_append.mpr ⟨(List.pairwise_cons.mp B.srt).2, ?_, fun a ha b hb => ?_⟩
    · exact List.pairwise_map.mpr (List.Pairwise.imp (fun _ => by simp) hn)
    · obtain ⟨c, _, rfl⟩ := List.mem_map.mp hb
      rw [List.length_append]; exact B.near x r rfl a (.tail _ ha)
  · intro a r' q y hy
    have hle : x.length ≤ a.length := by
      have ha : a ∈ r ++ ks.map fun c => x ++ [c] := by rw [q]; exact .head _
      rcases List.mem_append.mp ha with ha | ha
      · exact (List.pairwise_cons.mp B.srt).1 a ha
      · obtain ⟨c, _, rfl⟩ := List.mem_map.mp ha
        rw [List.length_append]; omega
    rcases List.mem_append.mp hy with hy | hy
    · exact Nat.le_trans (B.near x r rfl y (.tail _ hy)) (Nat.succ_le_succ hle)
    · obtain ⟨c, _, rfl⟩ := List.mem_map.mp hy
      rw [List.length_append]; exact Nat.succ_le_succ hle
theorem Bfs.start {ks : List Nat} (hn : ks.Nodup) (hk : ∀ c, c ∈ ks ↔ isP ws [c] = true) : Bfs ws [] (ks.map fun c => [c]) := by
  have hlen : ∀ y ∈ ks.map fun c => [c], y.length = 1 := fun y hy => by obtain ⟨c, _, rfl⟩ := List.mem_map.mp hy; rfl
  refine ⟨?_, ?_, ?_, ?_, ?_, ?_⟩
  · exact kids_nodup (x := []) hn
  · intro y hy
    obtain ⟨c, hc, rfl⟩ := List.mem_map.mp hy
    exact ⟨(hk c).mp hc, by simp⟩
  · intro y c hy
    have := hlen _ hy
    simp at this
    exact .inl this
  · rintro y c (rfl | hy) hp
    · exact List.mem_map.mpr ⟨c, (hk c).mpr hp, rfl⟩
    · cases hy
  · exact List.pairwise_map.mpr (List.Pairwise.imp (fun _ => by simp) hn)
  · intro a r' q y hy
    rw [hlen y hy]; omega
theorem Bfs.le (B : Bfs ws D Q) : D.length + Q.length ≤ (begins ws).length := by
  rw [← List.length_append]
  exact nodup_le B.nd fun y hy => begins_iff.mpr (B.inP y hy).1
theorem begins_len (hw : ∀ y ∈ ws, y.length ≤ 4) : (begins ws).length ≤ 5 * ws.length := by
  induction ws with
  | nil => exact Nat.zero_le _
  | cons y ws ih =>
    have := ih fun z hz => hw z (.tail _ hz)
    have h1 := hw y (.head _)
    rw [begins, List.flatMap_cons, List.length_append, List.length_map, List.length_range]
    rw [begins] at this
    simp only [List.length_cons]
    omega
end
end Mine
end
section
namespace Mine
theorem code_num : ∀ {l : List Nat}, Ltr l → l.head? ≠ some 65 → ∃ n : Nat, numOf l = (n : Int) ∧ (apL n).map (·.toNat) = l ∧ (l ≠ [] → n ≠ 0) ∧ n < 16 ^ l.length := by
  intro l
  induction hn : l.length generalizing l with
  | zero =>
    intro _ _
    rw [List.eq_nil_of_length_eq_zero hn]
    exact ⟨0, rfl, by rw [apL_zero]; rfl, fun h => absurd rfl h, by decide⟩
  | succ k ih =>
    intro hl h0
    rcases List.eq_nil_or_concat l with rfl | ⟨z, c, rfl⟩
    · cases hn
    · rw [List.concat_eq_append] at *
      have hz : z.length = k := by simp at hn; exact hn
      have hc := hl c (by simp)
      obtain ⟨n, e1, e2, e3, e4⟩ := ih hz (fun d hd => hl d (List.mem_append_left _ hd)) (by
        intro q; apply h0
        cases z with
        | nil => cases q
        | cons a r => exact q)
      have e : numOf (z ++ [c]) = (((n * 16 + (c - 65) : Nat)) : Int) := by
        rw [numOf, List.foldl_append]
        show numOf z * 16 + (c : Int) - 65 = _
        rw [e1]; omega
      have hne : n * 16 + (c - 65) ≠ 0 := by
        cases z with
        | nil =>
          have : c ≠ 65 := fun q => h0 (by rw [q]; rfl)
          omega
        | cons a r => have := e3 (List.cons_ne_nil _ _); omega
      refine ⟨_, e, ?_, fun _ => hne, ?_⟩
      · rw [apL_step hne, List.map_append, show (n * 16 + (c - 65)) / 16 = n by omega, e2, show (n * 16 + (c - 65)) % 16 = c - 65 by omega, show 65 + (c - 65) = c by omega]
        have : (UInt8.ofNat c).toNat = c := by rw [UInt8.toNat_ofNat']; exact Nat.mod_eq_of_lt (by omega)
        simp [this]
      · rw [Nat.pow_succ]; omega
noncomputable def Abc (l : List Nat) : Prop := ∀ c ∈ l, c = 65 ∨ c = 66 ∨ c = 67
theorem Abc.ltr {l : List Nat} (h : Abc l) : Ltr l := fun c hc => by rcases h c hc with rfl | rfl | rfl <;> decide
theorem wcode_num {l : List Nat} (hl : Ltr l) (h0 : l.head? ≠ some 65) : wcode (-numOf l) = l := by
  obtain ⟨n, e1, e2, _, _⟩ := code_num hl h0
  rw [wcode, e1, Int.natAbs_neg, Int.natAbs_natCast, e2]
theorem num_bound {l : List Nat} (hl : Ltr l) (h0 : l.head? ≠ some 65) (hk : l.length ≤ 14) : (-numOf l).natAbs < 16 ^ 20 := by
  obtain ⟨n, e1, _, _, e4⟩ := code_num hl h0
  rw [e1, Int.natAbs_neg, Int.natAbs_natCast]
  exact Nat.lt_of_lt_of_le e4 (Nat.pow_le_pow_right (by decide) (by omega))
noncomputable def Reads1 : List Nat → List (List Nat) → List Nat → Prop
  | r, [], r' => r = r'
  | r, t :: ts, r' => ∃ r1, skip r = some (t, r1) ∧ Reads1 r1 ts r'
theorem reads_left : ∀ {ts : List (List Nat)} {rest r r' : List Nat}, Left rest r → ts ≠ [] → Reads1 rest ts r' → Reads1 r ts r'
  | [], _, _, _, _, h, _ => absurd rfl h
  | t :: ts, rest, r, r', hl, _, ⟨r1, h1, h2⟩ => ⟨r1, (skip_left hl).trans h1, h2⟩
theorem reads_wrt {l : List Nat} (hl : Ltr l) (way : Nat) {ts : List (List Nat)} {rest r' : List Nat} (hts : ts ≠ []) (h : Reads1 rest ts r') : Reads1 (wrt l way ++ rest) (l :: ts) r' := by
  obtain ⟨r, e, hr⟩ := skip_wrt hl way rest
  exact ⟨r, e, reads_left hr hts h⟩
theorem reads_last {l : List Nat} (hl : Ltr l) (way : Nat) : ∃ r', Reads1 (wrt l way) [l] r' ∧ r'.all ws = true := by
  obtain ⟨r, e, hr⟩ := skip_wrt hl way []
  rw [List.append_nil] at e
  refine ⟨r, ⟨r, e, rfl⟩, ?_⟩
  rcases hr with rfl | ⟨c, hc, rfl⟩
  · rfl
  · simp [hc]
theorem reads_empty {ts : List (List Nat)} {rest r' : List Nat} (h : Reads1 rest ts r') : Reads1 ([34, 34] ++ rest) ([] :: ts) r' := ⟨rest, by
  show skip (34 :: 34 :: rest) = _
  rw [skip_c, if_neg (by decide), if_pos rfl, quoted_c, if_pos rfl], h⟩
theorem reads_ws {c : Nat} {ts : List (List Nat)} {rest r' : List Nat} (hc : ws c = true) (hts : ts ≠ []) (h : Reads1 rest ts r') : Reads1 (c :: rest) ts r' := reads_left (.inr ⟨c, hc, rfl⟩) hts h
theorem text_reads {w0 w1 w2 w3 t : List Nat} {a0 a1 a2 a3 a4 : Nat} (h0 : Ltr w0) (h1 : Ltr w1) (h2 : Ltr w2) (h3 : Ltr w3) (ht : Ltr t) :
    ∃ r', Reads1 (wrt w0 a0 ++ (wrt w1 a1 ++ (wrt w2 a2 ++ (wrt w3 a3 ++ ([34, 34] ++ (32 :: ([34, 34] ++ (10 :: wrt t a4)))))))) [w0, w1, w2, w3, [], [], t] r' ∧ r'.all ws = true := by
  obtain ⟨r', h, hr⟩ := reads_last ht a4
  refine ⟨r', ?_, hr⟩
  have n1 : ∀ {a : List Nat} {l : List (List Nat)}, a :: l ≠ [] := List.cons_ne_nil _ _
  refine reads_wrt h0 _ n1 (reads_wrt h1 _ n1 (reads_wrt h2 _ n1 (reads_wrt h3 _ n1 (reads_empty (reads_ws (by decide) n1 (reads_empty (reads_ws (by decide) n1 h)))))))
end Mine
end
section
open PySem PySem.W PyProof.Rows
namespace Mine
section
variable {α κ : Type} [DecidableEq κ]
theorem valueAt_map {l : List α} {f : α → κ} {g : α → Value} {x : α} (hx : x ∈ l) (hi : ∀ y ∈ l, f y = f x → y = x) : valueAt (l.map fun y => (f y, g y)) (f x) = some (g x) := by
  induction l with
  | nil => cases hx
  | cons a r ih =>
    unfold valueAt at ih ⊢
    rw [List.map_cons, List.find?_cons]
    by_cases e : f a = f x
    · have := hi a (.head _) e
      subst this
      simp
    · simp only [e, decide_false]
      rcases List.mem_cons.mp hx with h | h
      · exact absurd (by rw [h]) e
      · exact ih h fun y hy => hi y (.tail _ hy)
theorem valueAt_none {l : List α} {f : α → κ} {g : α → Value} {k : κ} (h : ∀ y ∈ l, f y ≠ k) : valueAt (l.map fun y => (f y, g y)) k = none := by
  unfold valueAt
  rw [Option.map_eq_none_iff, List.find?_eq_none]
  intro p hp
  obtain ⟨y, hy, rfl⟩ := List.mem_map.mp hp
  simpa using h y hy
theorem stored_new {l : List α} {f : α → κ} {g : α → Value} {k : κ} {v : Value} (h : ∀ y ∈ l, f y ≠ k) : stored (l.map fun y => (f y, g y)) k v = (l.map fun y => (f y, g y)) ++ [(k, v)] := by
  unfold stored
  rw [if_neg]
  intro q
  obtain ⟨p, hp, e⟩ := List.any_eq_true.mp q
  obtain ⟨y, hy, rfl⟩ := List.mem_map.mp hp
  exact h y hy (by simpa using e)
end
theorem nin_ne {α : Type} {l : List α} {a y : α} (h : a ∉ l) (hy : y ∈ l) : y ≠ a := fun e => h (e ▸ hy)
theorem nodup_map_inj {α β : Type} {f : α → β} : ∀ {l : List α}, (l.map f).Nodup → ∀ a ∈ l, ∀ b ∈ l, f a = f b → a = b
  | [], _, _, h, _, _, _ => nomatch h
  | z :: l, hn, a, ha, b, hb, e => by
    rw [List.map_cons, List.nodup_cons] at hn
    rcases List.mem_cons.mp ha with ha | ha <;> rcases List.mem_cons.mp hb with hb | hb
    · rw [ha, hb]
    · refine absurd ?_ hn.1
      rw [← ha, e]; exact List.mem_map_of_mem hb
    · refine absurd ?_ hn.1
      rw [← hb, ← e]; exact List.mem_map_of_mem ha
    · exact nodup_map_inj hn.2 a ha b hb e
noncomputable def upd {β : Type} (f : List Nat → β) (x : List Nat) (v : β) : List Nat → β := fun y => if y = x then v else f y
theorem upd_self {β : Type} (f : List Nat → β) (x : List Nat) (v : β) : upd f x v x = v := if_pos rfl
theorem upd_ne {β : Type} {f : List Nat → β} {x y : List Nat} {v : β} (h : y ≠ x) : upd f x v y = f y := if_neg h
structure Tree where
  N : List (List Nat)
  ν : List Nat → Int
  α : List Nat → Addr
  ob : List Nat → Obj
  K : List Nat → List (Nat × Tok)
  τ : List Nat → Tok
noncomputable def Tree.sons (T : Tree) : List (Int × Value) := T.N.map fun y => (T.ν y, Value.ref (T.α y))
noncomputable def Tree.names (T : Tree) : List (Int × Value) := T.N.map fun y => (T.ν y, Value.str (txt y) (T.τ y))
noncomputable def Tree.kids (T : Tree) (y : List Nat) : List (Str × Value) := (T.K y).map fun c => (txt [c.1], Value.int (T.ν (y ++ [c.1])) c.2)
noncomputable def Tree.fam (T : Tree) : List (Addr × Obj) := T.N.map fun y => (T.α y, T.ob y)
theorem Tree.mem_fam {T : Tree} {y : List Nat} (h : y ∈ T.N) : (T.α y, T.ob y) ∈ T.fam := List.mem_map_of_mem (f := fun y => (T.α y, T.ob y)) h
structure Tree.Ok (prog : Program) (w : World) (ws : List (List Nat)) (T : Tree) : Prop where
  nd : T.N.Nodup
  root : [] ∈ T.N
  par : ∀ y c, y ++ [c] ∈ T.N → y ∈ T.N
  inP : ∀ y ∈ T.N, isP ws y = true
  num : ∀ y ∈ T.N, ∃ j, j < T.N.length ∧ T.ν y = ((j + (if y ∈ ws then 256 else 0) : Nat) : Int)
  inj : ∀ y ∈ T.N, ∀ z ∈ T.N, T.ν y = T.ν z → y = z
  zero : T.ν [] = 0
  kid : ∀ y ∈ T.N, ∀ c, c ∈ (T.K y).map (·.1) ↔ y ++ [c] ∈ T.N
  kidnd : ∀ y ∈ T.N, ((T.K y).map (·.1)).Nodup
  obk : ∀ y ∈ T.N, (T.ob y).IsDictOf (strKind prog w) (T.kids y)
theorem txt1_inj {a b : Nat} (h : txt [a] = txt [b]) : a = b := (List.cons.inj (txt_inj h)).1
section
variable {prog : Program} {w : World} {ws : List (List Nat)} {T : Tree} {x : List Nat} {c : Nat}
theorem Tree.Ok.son (h : T.Ok prog w ws) (hx : x ∈ T.N) : valueAt T.sons (T.ν x) = some (.ref (T.α x)) := valueAt_map hx fun y hy e => h.inj y hy x hx e
theorem Tree.Ok.name (h : T.Ok prog w ws) (hx : x ∈ T.N) : valueAt T.names (T.ν x) = some (.str (txt x) (T.τ x)) := valueAt_map hx fun y hy e => h.inj y hy x hx e
theorem Tree.Ok.kid_yes (h : T.Ok prog w ws) (hx : x ∈ T.N) (hc : x ++ [c] ∈ T.N) : ∃ t, valueAt (T.kids x) (txt [c]) = some (.int (T.ν (x ++ [c])) t) := by
  obtain ⟨p, hp, e⟩ := List.mem_map.mp ((h.kid x hx c).mpr hc)
  subst e
  exact ⟨p.2, valueAt_map (f := fun c : Nat × Tok => txt [c.1]) hp fun q hq e => nodup_map_inj (h.kidnd x hx) q hq p hp (txt1_inj e)⟩
theorem Tree.Ok.kid_no (h : T.Ok prog w ws) (hx : x ∈ T.N) (hc : x ++ [c] ∉ T.N) : valueAt (T.kids x) (txt [c]) = none :=
  valueAt_none (f := fun c : Nat × Tok => txt [c.1]) fun p hp e => hc ((h.kid x hx c).mp (by rw [← txt1_inj e]; exact List.mem_map_of_mem hp))
theorem Tree.Ok.le (h : T.Ok prog w ws) : T.N.length ≤ (begins ws).length := nodup_le h.nd fun y hy => begins_iff.mpr (h.inP y hy)
theorem Tree.Ok.kids_new (h : T.Ok prog w ws) (hx : x ∈ T.N) (hc : x ++ [c] ∉ T.N) (v : Value) : stored (T.kids x) (txt [c]) v = T.kids x ++ [(txt [c], v)] :=
  stored_new (f := fun c : Nat × Tok => txt [c.1]) fun p hp e => hc ((h.kid x hx c).mp (by rw [← txt1_inj e]; exact List.mem_map_of_mem hp))
theorem Tree.Ok.kids_le (h : T.Ok prog w ws) (hx : x ∈ T.N) : (T.kids x).length ≤ T.N.length := by
  have e : (T.kids x).length = (((T.K x).map (·.1)).map fun c => x ++ [c]).length := by simp [Tree.kids]
  rw [e]
  exact nodup_le (kids_nodup (h.kidnd x hx)) fun y hy => by
    obtain ⟨c, hc, rfl⟩ := List.mem_map.mp hy
    exact (h.kid x hx c).mp hc
noncomputable def Tree.next (ws : List (List Nat)) (T : Tree) (y : List Nat) : Int := ((T.N.length + (if y ∈ ws then 256 else 0) : Nat) : Int)
theorem Tree.Ok.next_ne (h : T.Ok prog w ws) (hl : T.N.length < 256) (z : List Nat) {y : List Nat} (hy : y ∈ T.N) : T.ν y ≠ T.next ws z := by
  obtain ⟨j, hj, e⟩ := h.num y hy
  rw [e, Tree.next]
  intro q
  have := Int.ofNat.inj q
  split at this <;> split at this <;> omega
theorem Tree.Ok.sons_new (h : T.Ok prog w ws) (hl : T.N.length < 256) (z : List Nat) (v : Value) : stored T.sons (T.next ws z) v = T.sons ++ [(T.next ws z, v)] := stored_new fun _ hy => h.next_ne hl z hy
theorem Tree.Ok.names_new (h : T.Ok prog w ws) (hl : T.N.length < 256) (z : List Nat) (v : Value) : stored T.names (T.next ws z) v = T.names ++ [(T.next ws z, v)] := stored_new fun _ hy => h.next_ne hl z hy
noncomputable def Tree.turn (T : Tree) (x : List Nat) (o : Obj) : List (Addr × Obj) := T.N.map fun y => (T.α y, upd T.ob x o y)
theorem Tree.turn_old {o : Obj} (inj : ∀ y ∈ T.N, T.α y = T.α x → y = x) {p : Addr × Obj} (hp : p ∈ T.turn x o) : p = (T.α x, o) ∨ (p ∈ T.fam ∧ p.1 ≠ T.α x) := by
  obtain ⟨y, hy, rfl⟩ := List.mem_map.mp hp
  by_cases q : y = x
  · subst q; exact .inl (by rw [upd_self])
  · exact .inr ⟨by rw [upd_ne q]; exact Tree.mem_fam hy, fun e => q (inj y hy e)⟩
noncomputable def Tree.add (ws : List (List Nat)) (T : Tree) (x : List Nat) (c : Nat) (d : Addr) (o' o : Obj) (tk tn : Tok) : Tree where
  N := T.N ++ [x ++ [c]]
  ν := upd T.ν (x ++ [c]) (T.next ws (x ++ [c]))
  α := upd T.α (x ++ [c]) d
  ob := upd (upd T.ob x o') (x ++ [c]) o
  K := upd (upd T.K x (T.K x ++ [(c, tk)])) (x ++ [c]) []
  τ := upd T.τ (x ++ [c]) tn
theorem snoc_ne (x : List Nat) (c : Nat) : x ≠ x ++ [c] := fun e => by have := congrArg List.length e; simp at this
variable {d : Addr} {o o' : Obj} {tk tn : Tok}
theorem Tree.add_sons (h : x ++ [c] ∉ T.N) : (T.add ws x c d o' o tk tn).sons = T.sons ++ [(T.next ws (x ++ [c]), .ref d)] := by
  unfold Tree.sons Tree.add
  dsimp only
  rw [List.map_append, List.map_singleton, upd_self, upd_self]
  congr 1
  exact List.map_congr_left fun y hy => by rw [upd_ne (nin_ne h hy), upd_ne (nin_ne h hy)]
theorem Tree.add_names (h : x ++ [c] ∉ T.N) : (T.add ws x c d o' o tk tn).names = T.names ++ [(T.next ws (x ++ [c]), .str (txt (x ++ [c])) tn)] := by
  unfold Tree.names Tree.add
  dsimp only
  rw [List.map_append, List.map_singleton, upd_self, upd_self]
  congr 1
  exact List.map_congr_left fun y hy => by rw [upd_ne (nin_ne h hy), upd_ne (nin_ne h hy)]
theorem Tree.add_kids_x (hO : T.Ok prog w ws) (hx : x ∈ T.N) (h : x ++ [c] ∉ T.N) : (T.add ws x c d o' o tk tn).kids x = T.kids x ++ [(txt [c], .int (T.next ws (x ++ [c])) tk)] := by
  unfold Tree.kids Tree.add
  dsimp only
  rw [upd_ne (snoc_ne x c), upd_self, List.map_append, List.map_singleton, upd_self]
  congr 1
  refine List.map_congr_left fun p hp => ?_
  rw [upd_ne (nin_ne h ((hO.kid x hx p.1).mp (List.mem_map_of_mem hp)))]
theorem Tree.add_kids (hO : T.Ok prog w ws) {y : List Nat} (hy : y ∈ T.N) (hn : y ≠ x) (h : x ++ [c] ∉ T.N) : (T.add ws x c d o' o tk tn).kids y = T.kids y := by
  unfold Tree.kids Tree.add
  dsimp only
  rw [upd_ne (nin_ne h hy), upd_ne hn]
  refine List.map_congr_left fun p hp => ?_
  rw [upd_ne (nin_ne h ((hO.kid y hy p.1).mp (List.mem_map_of_mem hp)))]
theorem Tree.add_ok (hO : T.Ok prog w ws) (hx : x ∈ T.N) (h : x ++ [c] ∉ T.N) (hp : isP ws (x ++ [c]) = true) (hl : T.N.length < 256)
    (ho' : o'.IsDictOf (strKind prog w) (T.kids x ++ [(txt [c], .int (T.next ws (x ++ [c])) tk)])) (ho : o.IsDictOf (strKind prog w) []) : (T.add ws x c d o' o tk tn).Ok prog w ws := by
  have nin : ∀ {y}, y ∈ T.N → y ≠ x ++ [c] := fun hy e => h (e ▸ hy)
  have hne := snoc_ne x c
  refine ⟨?_, List.mem_append_left _ hO.root, ?_, ?_, ?_, ?_, ?_, ?_, ?_, ?_⟩
  · show (T.N ++ [x ++ [c]]).Nodup
    exact List.nodup_append.mpr ⟨hO.nd, by simp, fun a ha b hb e => by rw [List.mem_singleton.mp hb] at e; exact h (e ▸ ha)⟩
  · intro y e hy
    rcases List.mem_append.mp hy with hy | hy
    · exact List.mem_append_left _ (hO.par y e hy)
    · rw [(snoc_inj (List.mem_singleton.mp hy)).1]; exact List.mem_append_left _ hx
  · intro y hy
    rcases List.mem_append.mp hy with hy | hy
    · exact hO.inP y hy
    · rw [List.mem_singleton.mp hy]; exact hp
  · intro y hy
    show ∃ j, j < (T.N ++ [x ++ [c]]).length ∧ upd T.ν (x ++ [c]) (T.next ws (x ++ [c])) y = _
    rw [List.length_append, List.length_singleton]
    rcases List.mem_append.mp hy with hy | hy
    · obtain ⟨j, hj, e⟩ := hO.num y hy
      exact ⟨j, by omega, by rw [upd_ne (nin hy), e]⟩
    · rw [List.mem_singleton.mp hy]
      exact ⟨T.N.length, by omega, by rw [upd_self, Tree.next]⟩
  · intro y hy z hz
    show upd T.ν (x ++ [c]) (T.next ws (x ++ [c])) y = upd T.ν (x ++ [c]) (T.next ws (x ++ [c])) z → _
    rcases List.mem_append.mp hy with hy | hy <;> rcases List.mem_append.mp hz with hz | hz
    · rw [upd_ne (nin hy), upd_ne (nin hz)]; exact hO.inj y hy z hz
    · rw [List.mem_singleton.mp hz, upd_ne (nin hy), upd_self]; exact fun e => absurd e (hO.next_ne hl _ hy)
    · rw [List.mem_singleton.mp hy, upd_ne (nin hz), upd_self]; exact fun e => absurd e.symm (hO.next_ne hl _ hz)
    · rw [List.mem_singleton.mp hy, List.mem_singleton.mp hz]; exact fun _ => rfl
  · show upd T.ν (x ++ [c]) (T.next ws (x ++ [c])) [] = 0
    rw [upd_ne (by simp)]; exact hO.zero
  · intro y hy e
    show e ∈ (upd (upd T.K x (T.K x ++ [(c, tk)])) (x ++ [c]) [] y).map (·.1) ↔ y ++ [e] ∈ T.N ++ [x ++ [c]]
    rw [List.mem_append, List.mem_singleton]
    rcases List.mem_append.mp hy with hy | hy
    · rw [upd_ne (nin hy)]
      by_cases q : y = x
      · subst q
        rw [upd_self, List.map_append, List.mem_append, hO.kid y hx e]
        constructor
        · rintro (r | r)
          · exact .inl r
          · exact .inr (by simp at r; rw [r])
        · rintro (r | r)
          · exact .inl r
          · exact .inr (by simp [(snoc_inj r).2])
      · rw [upd_ne q, hO.kid y hy e]
        exact ⟨.inl, fun r => r.elim id fun r => absurd (snoc_inj r).1 q⟩
    · rw [List.mem_singleton.mp hy, upd_self]
      refine ⟨(fun r => nomatch r), fun r => ?_⟩
      rcases r with r | r
      · exact absurd (hO.par _ _ r) h
      · exact absurd (snoc_inj r).1.symm hne
  · intro y hy
    show ((upd (upd T.K x (T.K x ++ [(c, tk)])) (x ++ [c]) [] y).map (·.1)).Nodup
    rcases List.mem_append.mp hy with hy | hy
    · rw [upd_ne (nin hy)]
      by_cases q : y = x
      · subst q
        rw [upd_self, List.map_append, List.nodup_append]
        refine ⟨hO.kidnd y hx, by simp, fun a ha b hb e => ?_⟩
        have hb' : b = c := by simpa using hb
        exact h ((hO.kid y hx c).mp (by rw [← hb', ← e]; exact ha))
      · rw [upd_ne q]; exact hO.kidnd y hy
    · rw [List.mem_singleton.mp hy, upd_self]; exact List.nodup_nil
  · intro y hy
    show (upd (upd T.ob x o') (x ++ [c]) o y).IsDictOf _ _
    rcases List.mem_append.mp hy with hy | hy
    · rw [upd_ne (nin hy)]
      by_cases q : y = x
      · subst q
        rw [upd_self, Tree.add_kids_x hO hx h]; exact ho'
      · rw [upd_ne q, Tree.add_kids hO hy q h]; exact hO.obk y hy
    · rw [List.mem_singleton.mp hy, upd_self]
      have e : (T.add ws x c d o' o tk tn).kids (x ++ [c]) = [] := by unfold Tree.kids Tree.add; dsimp only; rw [upd_self]; rfl
      rw [e]; exact ho
theorem Tree.add_fam (h : x ++ [c] ∉ T.N) : ∀ p ∈ (T.add ws x c d o' o tk tn).fam, p = (d, o) ∨ p ∈ T.turn x o' := by
  intro p hp
  obtain ⟨y, hy, rfl⟩ := List.mem_map.mp hp
  have e : ((T.add ws x c d o' o tk tn).α y, (T.add ws x c d o' o tk tn).ob y) = (upd T.α (x ++ [c]) d y, upd (upd T.ob x o') (x ++ [c]) o y) := rfl
  rw [e]
  rcases List.mem_append.mp hy with hy | hy
  · rw [upd_ne (nin_ne h hy), upd_ne (nin_ne h hy)]
    exact .inr (List.mem_map.mpr ⟨y, hy, rfl⟩)
  · rw [List.mem_singleton.mp hy, upd_self, upd_self]; exact .inl rfl
noncomputable def Tree.one (d : Addr) (o : Obj) (tn : Tok) : Tree := ⟨[[]], fun _ => 0, fun _ => d, fun _ => o, fun _ => [], fun _ => tn⟩
theorem Tree.one_ok (h0 : ws ≠ []) (h1 : [] ∉ ws) (ho : o.IsDictOf (strKind prog w) []) : (Tree.one d o tn).Ok prog w ws := by
  refine ⟨by simp [Tree.one], .head _, ?_, ?_, ?_, ?_, rfl, ?_, ?_, ?_⟩
  · intro y c hy
    exact absurd (List.mem_singleton.mp hy) (by simp)
  · intro y hy
    rw [List.mem_singleton.mp hy]
    cases ws with
    | nil => exact absurd rfl h0
    | cons a r => exact isP_iff.mpr ⟨a, .head _, List.nil_prefix⟩
  · intro y hy
    rw [List.mem_singleton.mp hy]
    exact ⟨0, by simp [Tree.one], by rw [if_neg h1]; rfl⟩
  · intro y hy z hz _
    rw [List.mem_singleton.mp hy, List.mem_singleton.mp hz]
  · intro y hy c
    refine ⟨(fun r => nomatch r), fun r => absurd (List.mem_singleton.mp r : y ++ [c] = []) (List.append_ne_nil_of_right_ne_nil _ (List.cons_ne_nil _ _))⟩
  · intro y hy; exact List.nodup_nil
  · intro y hy; exact ho
end
end Mine
end
section
open PySem PySem.W PyProof.Rows
namespace Mine
section
variable {κ : Type} [DecidableEq κ]
theorem valueAt_stored (l : List (κ × Value)) (k k' : κ) (v : Value) : valueAt (stored l k v) k' = if k' = k then some v else valueAt l k' := by
  unfold stored valueAt
  by_cases ha : (l.any fun kv => decide (kv.1 = k)) = true
  · rw [if_pos ha]
    induction l with
    | nil => cases ha
    | cons p r ih =>
      rw [List.map_cons, List.find?_cons, List.find?_cons]
      by_cases hp : p.1 = k
      · rw [if_pos hp]
        by_cases hk : k' = k
        · rw [if_pos hk]; subst hk; simp [hp]
        · rw [if_neg hk]
          have h1 : decide (p.1 = k') = false := decide_eq_false fun e => hk (e.symm.trans hp)
          simp only [h1]
          by_cases hr : (r.any fun kv => decide (kv.1 = k)) = true
          · have := ih hr; rw [if_neg hk] at this; exact this
          · have e : (r.map fun kv => if kv.1 = k then (kv.1, v) else kv) = r := by
              refine (List.map_congr_left fun q hq => ?_).trans (List.map_id r)
              rw [if_neg fun e => hr (List.any_eq_true.mpr ⟨q, hq, by simpa using e⟩)]; rfl
            rw [e]
      · rw [if_neg hp]
        have hr : (r.any fun kv => decide (kv.1 = k)) = true := by simpa [hp] using ha
        have := ih hr
        by_cases h1 : p.1 = k'
        · have hk : ¬ k' = k := fun e => hp (h1.trans e)
          rw [if_neg hk]; simp [h1]
        · simp only [decide_eq_false h1]; exact this
  · rw [if_neg ha, List.find?_append, List.find?_cons, List.find?_nil]
    by_cases hk : k' = k
    · subst hk
      rw [if_pos rfl]
      have : (l.find? fun kv => decide (kv.1 = k')) = none := List.find?_eq_none.mpr fun p hp e => ha (List.any_eq_true.mpr ⟨p, hp, e⟩)
      rw [this]; simp
    · rw [if_neg hk]
      have : decide (k = k') = false := decide_eq_false fun e => hk e.symm
      simp only [this, Option.or_none]
end
section
variable {prog : Program} {w : World} {ws : List (List Nat)} {T : Tree} {x : List Nat}
theorem Tree.Ok.eof (h : T.Ok prog w ws) (hx : x ∈ T.N) : (T.ν x == 0) = decide (x = []) := by
  by_cases e : x = []
  · subst e; rw [h.zero]; rfl
  · rw [decide_eq_false e]
    exact beq_eq_false_iff_ne.mpr fun q => e (h.inj x hx [] h.root (q.trans h.zero.symm))
theorem Tree.Ok.big (h : T.Ok prog w ws) (hl : T.N.length < 256) (hx : x ∈ T.N) : decide (256 ≤ T.ν x) = decide (x ∈ ws) := by
  obtain ⟨j, hj, e⟩ := h.num x hx
  by_cases q : x ∈ ws
  · rw [if_pos q] at e
    rw [decide_eq_true q, decide_eq_true]; rw [e]; omega
  · rw [if_neg q] at e
    rw [decide_eq_false q, decide_eq_false]; rw [e]; omega
theorem Tree.Ok.bnd (h : T.Ok prog w ws) (hl : T.N.length < 256) (hx : x ∈ T.N) : 0 ≤ T.ν x ∧ T.ν x < 600 := by
  obtain ⟨j, hj, e⟩ := h.num x hx
  rw [e]; split <;> omega
theorem Tree.Ok.code (h : T.Ok prog w ws) (hl : T.N.length < 256) (hx : x ∈ T.N) : (T.ν x).natAbs < 16 ^ 20 ∧ numOf (wcode (T.ν x)) = T.ν x := by
  have := h.bnd hl hx
  refine ⟨by omega, ?_⟩
  rw [numOf_wcode]; omega
structure Links (ws : List (List Nat)) (T : Tree) (kl : List (Int × Value)) (S : List (List Nat)) : Prop where
  sub : ∀ y ∈ S, y ∈ T.N
  at_ : ∀ y, (y = [] ∨ y ∈ S) → ∃ t, valueAt kl (T.ν y) = some (.int (T.ν (fail ws y)) t)
  len : kl.length ≤ S.length + 1
theorem Links.add {kl : List (Int × Value)} {S : List (List Nat)} (L : Links ws T kl S) (h : T.Ok prog w ws) (hx : x ∈ T.N) {n : Int} (t : Tok) (e : n = T.ν (fail ws x)) :
    Links ws T (stored kl (T.ν x) (.int n t)) (S ++ [x]) := by
  refine ⟨fun y hy => ?_, fun y hy => ?_, ?_⟩
  · rcases List.mem_append.mp hy with hy | hy
    · exact L.sub y hy
    · rw [List.mem_singleton.mp hy]; exact hx
  · rw [valueAt_stored]
    by_cases q : y = x
    · subst q; rw [if_pos rfl, e]; exact ⟨t, rfl⟩
    · have hy' : y = [] ∨ y ∈ S := hy.imp_right fun hy => (List.mem_append.mp hy).resolve_right fun z => q (List.mem_singleton.mp z)
      have hyN : y ∈ T.N := hy'.elim (fun e => e ▸ h.root) (L.sub y)
      rw [if_neg fun e => q (h.inj y hyN x hx e)]
      exact L.at_ y hy'
  · have := stored_length_le kl (T.ν x) (.int n t)
    have := L.len
    rw [List.length_append, List.length_singleton]; omega
structure Hits (ws : List (List Nat)) (T : Tree) (R : List (Addr × Obj)) (kh : List (Int × Value)) (S : List (List Nat)) : Prop where
  sub : ∀ y ∈ S, y ∈ T.N
  at_ : ∀ y, (y = [] ∨ y ∈ S) → ∃ a vs n, valueAt kh (T.ν y) = some (.ref a) ∧ (a, listOf vs.toArray n) ∈ R ∧ StrsAre vs ((sfx ws y).map fun z => txt z)
  len : kh.length ≤ S.length + 1
theorem Hits.mono {R R' : List (Addr × Obj)} {kh : List (Int × Value)} {S : List (List Nat)} (H : Hits ws T R kh S) (hs : ∀ p ∈ R, p ∈ R') : Hits ws T R' kh S :=
  ⟨H.sub, fun y hy => let ⟨a, vs, n, h1, h2, h3⟩ := H.at_ y hy; ⟨a, vs, n, h1, hs _ h2, h3⟩, H.len⟩
theorem Hits.add {R : List (Addr × Obj)} {kh : List (Int × Value)} {S : List (List Nat)} (H : Hits ws T R kh S) (h : T.Ok prog w ws) (hx : x ∈ T.N) {a : Addr} {vs : List Value} {n : Nat}
    (hv : StrsAre vs ((sfx ws x).map fun z => txt z)) : Hits ws T ((a, listOf vs.toArray n) :: R) (stored kh (T.ν x) (.ref a)) (S ++ [x]) := by
  refine ⟨fun y hy => ?_, fun y hy => ?_, ?_⟩
  · rcases List.mem_append.mp hy with hy | hy
    · exact H.sub y hy
    · rw [List.mem_singleton.mp hy]; exact hx
  · rw [valueAt_stored]
    by_cases q : y = x
    · subst q; rw [if_pos rfl]; exact ⟨a, vs, n, rfl, .head _, hv⟩
    · have hy' : y = [] ∨ y ∈ S := hy.imp_right fun hy => (List.mem_append.mp hy).resolve_right fun z => q (List.mem_singleton.mp z)
      have hyN : y ∈ T.N := hy'.elim (fun e => e ▸ h.root) (H.sub y)
      rw [if_neg fun e => q (h.inj y hyN x hx e)]
      obtain ⟨a', vs', n', h1, h2, h3⟩ := H.at_ y hy'
      exact ⟨a', vs', n', h1, .tail _ h2, h3⟩
  · have := stored_length_le kh (T.ν x) (.ref a)
    have := H.len
    rw [List.length_append, List.length_singleton]; omega
noncomputable def Ring (T : Tree) (vs : List Value) (Q : List (List Nat)) : Prop := StrsAre vs (Q.map fun y => txt (wcode (T.ν y)))
theorem Ring.snoc {vs : List Value} {Q : List (List Nat)} (R : Ring T vs Q) (y : List Nat) (t : Tok) : Ring T (vs ++ [.str (txt (wcode (T.ν y))) t]) (Q ++ [y]) := by
  unfold Ring at *
  rw [List.map_append]; exact StrsAre.snoc R _ _
theorem Ring.len {vs : List Value} {Q : List (List Nat)} (R : Ring T vs Q) : vs.length = Q.length := by
  have := StrsAre.len_eq R; rwa [List.length_map] at this
theorem Ring.head {vs : List Value} {y : List Nat} {Q : List (List Nat)} (R : Ring T vs (y :: Q)) : ∃ t vs', vs = .str (txt (wcode (T.ν y))) t :: vs' ∧ Ring T vs' Q := by
  unfold Ring at R
  rw [List.map_cons] at R
  cases R with
  | cons _ t r => exact ⟨t, _, rfl, r⟩
noncomputable def Tree.brs (T : Tree) (x : List Nat) : List (List Nat) := ((T.K x).map (·.1)).map fun c => x ++ [c]
theorem brs_len (x : List Nat) : (T.brs x).length = (T.K x).length := by simp [Tree.brs]
theorem kids_len (x : List Nat) : (T.kids x).length = (T.K x).length := by simp [Tree.kids]
theorem Tree.Ok.kid_at (h : T.Ok prog w ws) (hx : x ∈ T.N) {i : Nat} {k : Str} {v : Value} (e : (T.kids x)[i]? = some (k, v)) : ∃ c t, (T.brs x)[i]? = some (x ++ [c]) ∧ x ++ [c] ∈ T.N ∧ k = txt [c] ∧ v = .int (T.ν (x ++ [c])) t := by
  rw [Tree.kids, List.getElem?_map, Option.map_eq_some_iff] at e
  obtain ⟨p, hp, e⟩ := e
  obtain ⟨rfl, rfl⟩ := Prod.mk.inj e
  refine ⟨p.1, p.2, ?_, (h.kid x hx p.1).mp (List.mem_map_of_mem (List.mem_of_getElem? hp)), rfl, rfl⟩
  rw [Tree.brs, List.getElem?_map, List.getElem?_map, hp]; rfl
theorem Tree.Ok.turn (h : T.Ok prog w ws) (hall : ∀ y, isP ws y = true → y ∈ T.N) {D Q : List (List Nat)} (B : Bfs ws D (x :: Q)) : Bfs ws (D ++ [x]) (Q ++ T.brs x) := by
  have hx : x ∈ T.N := hall x (B.inP x (List.mem_append_right _ (.head _))).1
  exact B.turn (h.kidnd x hx) fun c => (h.kid x hx c).trans ⟨h.inP _, hall _⟩
theorem Tree.Ok.start (h : T.Ok prog w ws) (hall : ∀ y, isP ws y = true → y ∈ T.N) : Bfs ws [] (T.brs []) :=
  Bfs.start (h.kidnd [] h.root) fun c => (h.kid [] h.root c).trans ⟨h.inP _, hall _⟩
theorem Bfs.low {D Q : List (List Nat)} (B : Bfs ws D (x :: Q)) (h0 : ws ≠ []) : fail ws x = [] ∨ fail ws x ∈ D :=
  B.short _ (fail_p h0 x) (fail_len (B.inP x (List.mem_append_right _ (.head _))).2)
end
end Mine
end
section
open PySem PySem.W PyProof.Rows PySem.Calls
namespace Mine
noncomputable def pc (W : List (List Nat)) (ul : List Int) (k : Nat) : List Nat := wrt (W.getD k []) (ul.getD k 0).toNat
theorem pick_to (vs : List Value) {n : Nat} {k : Int} (hk : k = (n : Int)) (h : n ≤ vs.length) : (slicePick vs.toArray none (some k) none).toList = vs.take n := by
  subst hk
  have e : sliceBounds none (some (n : Int)) none vs.toArray.size = (((0 : Nat) : Int), ((n : Nat) : Int), 1) := by
    simp only [sliceBounds, Option.getD_none, show (1 : Int) > 0 by decide, if_true, if_neg (show ¬ ((n : Int) < 0) by omega), List.size_toArray]
    congr 1
    congr 1
    omega
  rw [kmk_pick_nat _ e]
  rfl
theorem slice_txt (l : List Nat) {a b : Int} {x y : Nat} (ha : a = (x : Int)) (hb : b = (y : Int)) (h : x ≤ y) (hl : y ≤ l.length) : Txt.slice (txt l) (some a) (some b) = txt ((l.take y).drop x) := by
  subst ha hb
  have e := eq_of_beq (PyProof.Rows.slice_closes (x := txt l) (i := (x : Int)) (j := (y : Int)) ⟨by omega, by omega, by show _ ≤ (((txt l).cps.toList.length : Nat) : Int); simp only [txt]; omega⟩)
  rw [e, show ((y : Int) - (x : Int)).toNat = y - x by omega, Int.toNat_natCast, List.drop_take]
theorem slice_to (l : List Nat) {b : Int} {y : Nat} (hb : b = (y : Int)) (hl : y ≤ l.length) : Txt.slice (txt l) none (some b) = txt (l.take y) := by
  have e : Txt.slice (txt l) none (some b) = Txt.slice (txt l) (some ((0 : Nat) : Int)) (some b) := by
    unfold Txt.slice PySem.Builtin.Str.strSliceIndices
    rfl
  rw [e, slice_txt l rfl hb (Nat.zero_le _) hl, List.drop_zero]
theorem ends_at {z : List Nat} {p : Nat} (hz : z.length = p) : ends z = (List.range (min p 4 + 1)).map fun j => z.drop (p - 4 + j) := by
  unfold ends
  rw [tailsL_range, List.length_drop, hz, show p - (p - 4) = min p 4 by omega]
  exact List.map_congr_left fun j _ => by rw [List.drop_drop]
theorem filter_take {α : Type} (f : α → Bool) {l : List α} {i : Nat} {x : α} (h : l[i]? = some x) : (l.take (i + 1)).filter f = (l.take i).filter f ++ (if f x = true then [x] else []) := by
  rw [take_snoc h, List.filter_append]
  congr 1
  by_cases q : f x = true
  · rw [if_pos q]; simp [q]
  · rw [if_neg q]; simp [q]
theorem begins_take {ws : List (List Nat)} {i : Nat} {y : List Nat} (h : ws[i]? = some y) : begins (ws.take (i + 1)) = begins (ws.take i) ++ (List.range (y.length + 1)).map fun k => y.take k := by
  unfold begins
  rw [take_snoc h, List.flatMap_append, List.flatMap_singleton]
theorem mem_txt {l : List (List Nat)} {x : List Nat} : txt x ∈ l.map (fun l => txt l) ↔ x ∈ l := by
  rw [List.mem_map]
  exact ⟨fun ⟨y, hy, e⟩ => txt_inj e ▸ hy, fun h => ⟨x, h, rfl⟩⟩
theorem anyT {X : List (List Nat)} {y : List Nat} : ((X.map fun l => txt l).any fun x => x == txt y) = decide (y ∈ X) := by
  rw [Bool.eq_iff_iff, List.any_eq_true, decide_eq_true_iff, ← mem_txt]
  exact ⟨fun ⟨x, hx, e⟩ => eq_of_beq e ▸ hx, fun h => ⟨_, h, beq_self_eq_true _⟩⟩
theorem filt_yes {f : List Nat → Bool} {l X : List (List Nat)} {ys : List Value} {y : List Nat} {j : Nat} (t : Tok) (hf : ∀ y, f y = decide (y ∈ X)) (hs : StrsAre ys (((l.take j).filter f).map fun l => txt l)) (hy : l[j]? = some y) (h : ((X.map fun l => txt l).any fun x => x == txt y) = true) :
    StrsAre (ys ++ [.str (txt y) t]) (((l.take (j + 1)).filter f).map fun l => txt l) := by
  rw [filter_take f hy, if_pos ((hf y).trans (anyT.symm.trans h)), List.map_append]
  exact StrsAre.snoc hs _ _
theorem filt_no {f : List Nat → Bool} {l X : List (List Nat)} {ys : List Value} {y : List Nat} {j : Nat} (hf : ∀ y, f y = decide (y ∈ X)) (hs : StrsAre ys (((l.take j).filter f).map fun l => txt l)) (hy : l[j]? = some y) (h : ((X.map fun l => txt l).any fun x => x == txt y) = false) :
    StrsAre ys (((l.take (j + 1)).filter f).map fun l => txt l) := by
  rw [filter_take f hy, if_neg (by rw [hf y, ← anyT, h]; exact Bool.false_ne_true), List.append_nil]
  exact hs
theorem isP_begins (ws : List (List Nat)) (y : List Nat) : isP ws y = decide (y ∈ begins ws) := by
  rw [Bool.eq_iff_iff, decide_eq_true_iff, begins_iff]
theorem ends_len (z : List Nat) : (ends z).length ≤ 5 := by
  rw [ends_at rfl, List.length_map, List.length_range]; omega
theorem filt_len {f : List Nat → Bool} {z : List Nat} {ys : List Value} {j : Nat} (hs : StrsAre ys ((((ends z).take j).filter f).map fun l => txt l)) : ys.length ≤ 5 := by
  rw [hs.len_eq, List.length_map]
  refine Nat.le_trans (List.length_filter_le _ _) (Nat.le_trans ?_ (ends_len z))
  rw [List.length_take]
  exact Nat.min_le_right _ _
theorem count_txt (l : List Nat) : Txt.count (txt l) (Str.ofString "\n") = ((l.count 10 : Nat) : Int) := by
  have h : ∀ l : List Nat, cnt 10 l = ((l.count 10 : Nat) : Int) := fun l => by
    induction l with
    | nil => rfl
    | cons a r ih => rw [cnt_cons, ih, List.count_cons]; by_cases q : a = 10 <;> simp [q] <;> omega
  rw [show Str.ofString "\n" = ⟨#[10]⟩ from rfl, count_cnt]
  exact h l
theorem range_snoc {α : Type} (f : Nat → α) (i : Nat) : (List.range (i + 1)).map f = (List.range i).map f ++ [f i] := by
  rw [List.range_succ, List.map_append, List.map_singleton]
theorem strs_get : ∀ {vs : List Value} {ys : List Str} {i : Nat} {y : Str}, StrsAre vs ys → ys[i]? = some y → ∃ t, vs[i]? = some (.str y t)
  | _, _, _, _, .nil, h => by cases h
  | _, _, 0, _, .cons _ t _, h => by cases h; exact ⟨t, rfl⟩
  | _, _, i + 1, _, .cons _ _ r, h => strs_get (i := i) r h
theorem ints_get : ∀ {vs : List Value} {ys : List Int} {i : Nat} {y : Int}, IntsAre vs ys → ys[i]? = some y → ∃ t, vs[i]? = some (.int y t)
  | _, _, _, _, .nil, h => by cases h
  | _, _, 0, _, .cons _ t _, h => by cases h; exact ⟨t, rfl⟩
  | _, _, i + 1, _, .cons _ _ r, h => ints_get (i := i) r h
end Mine
end
section
open PySem PySem.W PyProof.Rows PySem.Calls
namespace Mine
set_option genInjectivity false
set_option genSizeOf false
noncomputable abbrev lse : List Str := looseW hd.view_39 [] ++ (recsOf hd.view_39).map (·.name) ++ (litsOf hd.view_39).map (·.1) ++ (clssOf hd.view_39 (looseW hd.view_39 [])).map (·.name)
noncomputable abbrev FD (D : Nat) (w : World) (mean : ExcName → Option Value) (mg mb : Str → Option Value) := Fn PySem.Challenge.pw_ta0007_02 w (hd.heap_39 w.params) topProg lse mean mg mb D D
noncomputable abbrev F1 := FD 500
noncomputable abbrev streamP (st sd rd pl cp ct c1 : Addr) (sfd : FuncData) (ssl : Array (Option Value)) (hsh : Int) (tn : Tok) (rfd : FuncData) (oc1 ocp oct : Obj) (pos : Int) (tp : Tok) (n : Nat) : List (Addr × Obj) :=
  [(pl, listOf #[.int pos tp] n), (st, { cls := .type "function", dict := some sd, data := .func sfd, slots := ssl }), (sd, dictOf [⟨hsh, .str "read" tn, .ref rd⟩] 1), (rd, { cls := .type "function", data := .func rfd }), (c1, oc1), (cp, ocp), (ct, oct)]
structure Lx where
  (x dx st sd rd pl cp ct c1 pb : Addr)
  sfd : FuncData
  ssl : Array (Option Value)
  hsh : Int
  tn : Tok
  rfd : FuncData
  (oc1 ocp oct : Obj)
  (h1 h2 h3 h4 : Int)
  (t1 t2 t3 t4 tw : Tok)
noncomputable abbrev Lx.stream (k : Lx) (pos : Int) (tp : Tok) (n : Nat) : List (Addr × Obj) := streamP k.st k.sd k.rd k.pl k.cp k.ct k.c1 k.sfd k.ssl k.hsh k.tn k.rfd k.oc1 k.ocp k.oct pos tp n
noncomputable abbrev Lx.dict (k : Lx) (ln : Int) (tl : Tok) : Obj := dictOf [⟨k.h1, .str "lineno" k.t1, .int ln tl⟩, ⟨k.h2, .str "instream" k.t2, .ref k.st⟩, ⟨k.h3, .str "whitespace" k.t3, .str "\n\t\r " k.tw⟩, ⟨k.h4, .str "pushback" k.t4, .ref k.pb⟩] 4
noncomputable abbrev Lx.P (k : Lx) (pos : Int) (tp : Tok) (n : Nat) (ln : Int) (tl : Tok) : List (Addr × Obj) := (k.x, instObj 52 k.dx) :: (k.dx, k.dict ln tl) :: k.stream pos tp n
structure Lx.Ok (k : Lx) : Prop where
  a1 : @LT.lt Nat _ k.ct k.cp
  a2 : @LT.lt Nat _ k.cp k.pl
  a3 : @LT.lt Nat _ k.pl k.c1
  a4 : @LT.lt Nat _ k.c1 k.rd
  a5 : @LT.lt Nat _ k.rd k.st
  a6 : @LT.lt Nat _ k.st k.sd
  a7 : @LT.lt Nat _ k.sd k.dx
  a8 : @LT.lt Nat _ k.dx k.x
  a9 : @LT.lt Nat _ k.x k.pb
noncomputable def Lx.Reads (k : Lx) (w : World) (mean : ExcName → Option Value) (mg mb : Str → Option Value) (l : List Nat) : Prop :=
  ∀ (pos : Nat) tp n t, F1 w mean mg mb k.rd [.int 1 t] (k.stream pos tp n) (fun v P' => ∃ tv tp' n', v = .str (txt (sgn l pos)) tv ∧ P' = k.stream ((pos + 1 : Nat) : Int) tp' n')
end Mine
namespace Mine
noncomputable abbrev Lx.At (k : Lx) (l : List Nat) (p : Nat) (tp : Tok) (n : Nat) (tl : Tok) : List (Addr × Obj) := k.P (p : Int) tp n (lnAt l p) tl
end Mine
end
section
open PySem PySem.W PyProof.Rows PySem.Calls
namespace Mine
example (no : False) : PySem.Challenge.rw_ta0007_02.Holds := hd (by
  k_fill
  w_top off
  exact no.elim)
local macro_rules | `(tactic| walk_at $s:str) => `(tactic| k_extra $(Lean.Syntax.mkStrLit ("x " ++ s.getString)))
local macro_rules | `(tactic| k_ne) => `(tactic| k_extra "x k_ne")
local macro_rules | `(tactic| k_all) => `(tactic| k_extra "x k_all")
local macro_rules | `(tactic| k_lt $h) => `(tactic| (replace $h := allLt_of $h))
local macro_rules | `(tactic| k_mem) => `(tactic| k_extra "x k_mem")
variable {w : World} {mean : ExcName → Option Value} {mg mb : Str → Option Value}
section
example : True := by
  k_with_none
  k_with "x fn_open" =>
    with_unfolding_all refine' Fn.plain ?ho ?hcd ?hbind ?hloc ?_ ?hD ?hco ?hgen ?hk ?hcell
    case ho => k_is
    case hcd => k_is
    case hbind => exact fun s => BindsTo.of_eq rfl
    case hloc => exact locs rfl
    case hD => decide
    case hco => exact rfl
    case hgen => exact rfl
    case hk => exact rfl
    case hcell => decide
    intro gd outer A₀ base g L s B X T F N lt
  k_with "x fn_cells" =>
    with_unfolding_all refine' Fn.cells ?ho ?hcd ?hbind ?hkind ?hnd ?_ ?hD ?hco ?hgen ?hk
    case ho => k_is
    case hcd => k_is
    case hbind => exact fun s => BindsTo.of_eq rfl
    case hkind => exact rfl
    case hnd => decide +kernel
    case hD => decide
    case hco => exact rfl
    case hgen => exact rfl
    case hk => exact rfl
    intro gd outer A₀ base g L s cells B X T F N Y lt
  k_with "x fn_made" =>
    with_unfolding_all refine' Fn.made ?ho ?hc ?hcd ?hcv ?hbind ?hloc ?_ ?hD ?hco ?hgen ?hk ?hcell
    case ho => k_mem
    case hc => k_mem
    case hcd => assumption
    case hcv => assumption
    case hbind => exact fun s => BindsTo.of_eq rfl
    case hloc => exact locs rfl
    case hD => decide
    case hco => exact rfl
    case hgen => exact rfl
    case hk => exact rfl
    case hcell => decide
    intro gd outer A₀ base g L s B X T F N lt
  k_with "x Ends" => refine stop ?_
  k_with "x steps" => repeat' (first | (k_unfold; (try dsimp only)) | walk1 | (dsimp only; walk1))
  k_with "x fn_pick" => first | exact Pick.here | (refine' Pick.there ?p1; (case p1 => k_extra "x fn_pick"))
  k_with "x fn_split" => first | exact Split.nil | (refine' Split.cons ?a1 ?b1; (case a1 => k_extra "x fn_pick"); (case b1 => k_extra "x fn_split"))
  k_with "x fn_nes" => first | exact all_nil | ((with_reducible refine ne_consL ?_ ?_); (focus (k_extra "x fn_nes")); k_extra "x ne") | ((fail_if_success with_reducible refine ne_consL ?_ ?_); refine' all_cons ?a2 ?b2; (case a2 => k_ne); (case b2 => k_extra "x fn_nes")) | k_extra "x k_tl"
  k_with "x fn_apart" => first | exact apart_nil | ((with_reducible refine' apart_consP ?a3 ?b3); (case a3 => k_extra "x fn_nes"); (case b3 => k_extra "x fn_apart")) | ((fail_if_success with_reducible refine apart_consP ?_ ?_); refine' apart_cons ?a3 ?b3; (case a3 => k_extra "x fn_nes"); (case b3 => k_extra "x fn_apart"))
  k_with "x fn_here" => exact ⟨by k_asm, by k_asm, by k_asm, rfl, rfl, rfl, rfl, Nat.le_of_ble_eq_true rfl, Nat.le_of_ble_eq_true rfl⟩
  k_with "x fn_sub" => first | exact all_nil | (refine' all_cons ?a4 ?b4; (case a4 => k_mem); (case b4 => k_extra "x fn_sub"))
  k_with "x k_all" => first | exact all_nil | ((with_reducible refine ne_consR ?_ ?_); (focus (k_extra "x k_all")); k_extra "x ne") | ((fail_if_success with_reducible refine ne_consR ?_ ?_); refine' all_cons ?a5 ?b5; (case a5 => k_ne); (case b5 => k_extra "x k_all")) | k_extra "x k_tl"
  k_with "x fn_ords" => first | exact all_nil | (refine' all_cons ?a6 ?b6; (case a6 => ((try dsimp only); first | k_extra "x k_lo" | exact Nat.le_refl _ | (refine Nat.le_of_lt ?_; k_extra "x k_lo") | (simp only [AllLt, and_true] at *; omega))); (case b6 => k_extra "x fn_ords"))
  k_with "x k_mt" => first | assumption | (refine mem_t ?_; k_extra "x k_mt")
  k_with "x k_tl" => first | exact fun q hq => ne_lt (ltA (o := q.2) (by with_reducible assumption) (by k_extra "x k_mt")) | with_reducible assumption
  k_with "x k_mem" => k_extra "x k_mm"
  k_with "x ne" => first
    | exact neA (by with_reducible assumption) (by k_extra "x k_mm")
    | exact neB (by with_reducible assumption) (by k_extra "x k_mm")
    | with_reducible assumption
    | exact Ne.symm (by with_reducible assumption)
    | ((repeat refine ne_s ?_); first | exact ne_z1 | exact ne_z2 | exact ne_z3 | exact ne_z4 | exact ne_z5 | exact ne_z6 | exact ne_z7 | exact ne_z8 | exact ne_z1.symm | exact ne_z2.symm | exact ne_z3.symm | exact ne_z4.symm | exact ne_z5.symm | exact ne_z6.symm | exact ne_z7.symm | exact ne_z8.symm)
    | (refine ne_lt ?_; k_extra "x k_lo")
    | (refine ne_gt ?_; k_extra "x k_lo")
  k_with "x k_mm" => with_reducible (first | exact mem_0 | exact mem_1 | exact mem_2 | exact mem_3 | exact mem_4 | exact mem_5 | exact mem_6 | exact mem_7 | exact mem_8 | exact mem_9 | (refine mem_s ?_; k_extra "x k_mm"))
  k_with "x k_q1" => exact ltA (by with_reducible assumption) (by k_extra "x k_mm")
  k_with "x k_up" => first | exact ltP (by with_reducible assumption) | exact ltP2 (by with_reducible assumption) | exact ltP3 (by with_reducible assumption) | exact ltP4 (by with_reducible assumption) | exact ltP5 (by with_reducible assumption) | exact ltP6 (by with_reducible assumption) | exact ltP7 (by with_reducible assumption) | exact ltP8 (by with_reducible assumption) 
  k_with "x k_hi" => first | with_reducible assumption | k_extra "x k_q1" | exact ltR (by with_reducible assumption) (by k_extra "x k_mm") | k_extra "x k_up" | (refine Nat.lt_trans ?_ (by with_reducible assumption); k_extra "x k_hi")
  k_with "x k_l1" => first | k_extra "x k_q1" | exact ltZ | k_extra "x k_hi" | (refine ltS ?_; k_extra "x k_l1")
  k_with "x k_l2" => first | k_extra "x k_l1" | (refine Nat.lt_trans (by with_reducible assumption) ?_; k_extra "x k_l2")
  k_with "x k_lo" => ((fail_if_success (with_reducible show @LT.lt Nat _ _ 79)); k_extra "x k_l2")
  k_with "x k_ne" => (refine neN ?_; (try dsimp only); k_extra "x ne")
  k_with "x Ends" => refine Ends.intro (by k_asm) (by k_asm) ?_
  k_with "x exec While Name cons nil" => refine stop ?_
  trivial
theorem c_int2ap (x : Int) (t : Tok) (hx : x.natAbs < 16 ^ 20) : F1 w mean mg mb 63 [.int x t] [] (fun v P' => ∃ tk, v = .bytes (apL x.natAbs).toArray tk ∧ P' = []) := by
  walk_at "fn_open"
  with_reducible refine body_open F [("num", .int x t)] ?hps ?_
  case hps => exact (all_cons rfl all_nil)
  clear F
  intro m0 F AA ee QQ
  walk_at "steps"
  refine ⟨?_⟩
  have hlen := apL_len 20 _ hx
  with_unfolding_all refine' ksw_while (σ := Int × Tok × List UInt8 × Tok) (fun _ => []) (fun c => [("num", .int c.1 c.2.1), ("val", .bytes c.2.2.1.toArray c.2.2.2)]) (fun _ => True) ["mod"] (fun c => 0 ≤ c.1 ∧ apL c.1.toNat ++ c.2.2.1 = apL x.natAbs) (fun c => c.1.toNat) (if x < 0 then -x else x, _, [], _) (by k_asm) (by k_asm) trivial ?hk ?hp ?turn ?hE
  case hk =>
    refine all_cons ?_ (all_cons ?_ (fun _ h => nomatch h))
    · exact rfl
    · refine Eq.trans (b := some (.bytes #[] s.toks)) ?_ ?_
      · exact rfl
      · exact rfl
  case hp => (dsimp only; exact ⟨by split <;> omega, by rw [List.append_nil]; congr 1; split <;> omega⟩)
  case hE => exact PassesOwn.never
  case turn =>
    rintro ⟨num, t1, val, t2⟩ u h tk - ⟨hn, hv⟩ F1 N1
    dsimp only at *
    have hvl : val.length ≤ 20 := by rw [← hv, List.length_append] at hlen; omega
    walk_at "steps"
    · have h0 : num ≠ 0 := by assumption
      have hT := ap_turn hn h0 hv
      dsimp only
      refine KBc.slice_K (s := ⟨_,_,_,_,_⟩) (by k_asm) (by k_asm) rfl (.int _ _) (.int _ _) (by decide) ?_
      intro h2 t2 k2 F2 N2 hk2
      rw [show KBy.picked #[65, 66, 67, 68, 69, 70, 71, 72, 73, 74, 75, 76, 77, 78, 79, 80] (some (num.fmod 16)) (some (num.fmod 16 + 1)) = _ from ap_pick hT.2.2.2.1 hT.2.2.2.2]
      clear hk2
      walk_at "steps"
      dsimp only
      refine KBa.add_K rfl rfl ?_ ?_
      · rw [KBw.ints_length, KBw.ints_length]; simp only [List.size_toArray, List.length_cons, List.length_nil]; omega
      intro t3 k3 _
      rw [show (#[UInt8.ofNat (65 + (num.fmod 16).toNat)] ++ val.toArray : Array UInt8) = ([UInt8.ofNat (65 + (num.fmod 16).toNat)] ++ val).toArray from by simp]
      walk_at "steps"
      refine' ksw_end (num.fdiv 16, _, [UInt8.ofNat (65 + (num.fmod 16).toNat)] ++ val, _) (by k_asm) (by k_asm) (fun _ h => nomatch h) trivial ?hk ?hr ⟨hT.1, hT.2.1⟩ hT.2.2.1
      case hk =>
        refine all_cons ?_ (all_cons ?_ (fun _ h => nomatch h))
        · exact rfl
        · exact rfl
      case hr =>
        intro z h1 h2
        have n1 := h1 _ (.head _)
        have n2 := h1 _ (.tail _ (.head _))
        have n3 : z ≠ "mod" := fun e => by subst e; exact absurd h2 (by decide)
        dsimp only at n1 n2 ⊢
        simp only [if_neg n1, if_neg n2, if_neg n3, kstB, h2, Bool.false_eq_true, if_false]
    have hz : val = apL x.natAbs := by rw [← hv, show num = 0 by assumption]; simp [apL_zero]
    rw [← hz]; exact rfl
end
section
example : True := by
  k_with_none
  k_with "x fn_open" =>
    with_unfolding_all refine' Fn.plain ?ho ?hcd ?hbind ?hloc ?_ ?hD ?hco ?hgen ?hk ?hcell
    case ho => k_is
    case hcd => k_is
    case hbind => exact fun s => BindsTo.of_eq rfl
    case hloc => exact locs rfl
    case hD => decide
    case hco => exact rfl
    case hgen => exact rfl
    case hk => exact rfl
    case hcell => decide
    intro gd outer A₀ base g L s B X T F N lt
  k_with "x fn_cells" =>
    with_unfolding_all refine' Fn.cells ?ho ?hcd ?hbind ?hkind ?hnd ?_ ?hD ?hco ?hgen ?hk
    case ho => k_is
    case hcd => k_is
    case hbind => exact fun s => BindsTo.of_eq rfl
    case hkind => exact rfl
    case hnd => decide +kernel
    case hD => decide
    case hco => exact rfl
    case hgen => exact rfl
    case hk => exact rfl
    intro gd outer A₀ base g L s cells B X T F N Y lt
  k_with "x fn_cellsB" =>
    with_unfolding_all refine' FnB.cells ?ho ?hcd ?hbind ?hkind ?hnd ?_ ?hD ?hco ?hgen ?hk
    case ho => k_is
    case hcd => k_is
    case hbind => exact fun s => BindsTo.of_eq rfl
    case hkind => exact rfl
    case hnd => decide +kernel
    case hD => decide
    case hco => exact rfl
    case hgen => exact rfl
    case hk => exact rfl
    intro gd outer A₀ base g L s cells B X T F N Y lt
  k_with "x fn_made" =>
    with_unfolding_all refine' Fn.made ?ho ?hc ?hcd ?hcv ?hbind ?hloc ?_ ?hD ?hco ?hgen ?hk ?hcell
    case ho => k_mem
    case hc => k_mem
    case hcd => assumption
    case hcv => assumption
    case hbind => exact fun s => BindsTo.of_eq rfl
    case hloc => exact locs rfl
    case hD => decide
    case hco => exact rfl
    case hgen => exact rfl
    case hk => exact rfl
    case hcell => decide
    intro gd outer A₀ base g L s B X T F N lt
  k_with "x Ends" => refine stop ?_
  k_with "x steps" => repeat' (first | (k_unfold; (try dsimp only)) | walk1 | (dsimp only; walk1))
  k_with "x fn_pick" => first | exact Pick.here | (refine' Pick.there ?p1; (case p1 => k_extra "x fn_pick"))
  k_with "x fn_split" => first | exact Split.nil | (refine' Split.cons ?a1 ?b1; (case a1 => k_extra "x fn_pick"); (case b1 => k_extra "x fn_split"))
  k_with "x fn_nes" => first | exact all_nil | ((with_reducible refine ne_consL ?_ ?_); (focus (k_extra "x fn_nes")); k_extra "x ne") | ((fail_if_success with_reducible refine ne_consL ?_ ?_); refine' all_cons ?a2 ?b2; (case a2 => k_ne); (case b2 => k_extra "x fn_nes")) | k_extra "x k_tl"
  k_with "x fn_apart" => first | exact apart_nil | ((with_reducible refine' apart_consP ?a3 ?b3); (case a3 => k_extra "x fn_nes"); (case b3 => k_extra "x fn_apart")) | ((fail_if_success with_reducible refine apart_consP ?_ ?_); refine' apart_cons ?a3 ?b3; (case a3 => k_extra "x fn_nes"); (case b3 => k_extra "x fn_apart"))
  k_with "x fn_here" => exact ⟨by k_asm, by k_asm, by k_asm, rfl, rfl, rfl, rfl, Nat.le_of_ble_eq_true rfl, Nat.le_of_ble_eq_true rfl⟩
  k_with "x fn_sub" => first | exact all_nil | (refine' all_cons ?a4 ?b4; (case a4 => k_mem); (case b4 => k_extra "x fn_sub"))
  k_with "x k_all" => first | exact all_nil | ((with_reducible refine ne_consR ?_ ?_); (focus (k_extra "x k_all")); k_extra "x ne") | ((fail_if_success with_reducible refine ne_consR ?_ ?_); refine' all_cons ?a5 ?b5; (case a5 => k_ne); (case b5 => k_extra "x k_all")) | k_extra "x k_tl"
  k_with "x fn_ords" => first | exact all_nil | (refine' all_cons ?a6 ?b6; (case a6 => ((try dsimp only); first | k_extra "x k_lo" | exact Nat.le_refl _ | (refine Nat.le_of_lt ?_; k_extra "x k_lo") | (simp only [AllLt, and_true] at *; omega))); (case b6 => k_extra "x fn_ords"))
  k_with "x k_mt" => first | assumption | (refine mem_t ?_; k_extra "x k_mt")
  k_with "x k_tl" => first | exact fun q hq => ne_lt (ltA (o := q.2) (by with_reducible assumption) (by k_extra "x k_mt")) | with_reducible assumption
  k_with "x k_mem" => k_extra "x k_mm"
  k_with "x ne" => first
    | exact neA (by with_reducible assumption) (by k_extra "x k_mm")
    | exact neB (by with_reducible assumption) (by k_extra "x k_mm")
    | with_reducible assumption
    | exact Ne.symm (by with_reducible assumption)
    | ((repeat refine ne_s ?_); first | exact ne_z1 | exact ne_z2 | exact ne_z3 | exact ne_z4 | exact ne_z5 | exact ne_z6 | exact ne_z7 | exact ne_z8 | exact ne_z1.symm | exact ne_z2.symm | exact ne_z3.symm | exact ne_z4.symm | exact ne_z5.symm | exact ne_z6.symm | exact ne_z7.symm | exact ne_z8.symm)
    | (refine ne_lt ?_; k_extra "x k_lo")
    | (refine ne_gt ?_; k_extra "x k_lo")
  k_with "x k_mm" => with_reducible (first | exact mem_0 | exact mem_1 | exact mem_2 | exact mem_3 | exact mem_4 | exact mem_5 | exact mem_6 | exact mem_7 | exact mem_8 | exact mem_9 | (refine mem_s ?_; k_extra "x k_mm"))
  k_with "x k_q1" => exact ltA (by with_reducible assumption) (by k_extra "x k_mm")
  k_with "x k_up" => first | exact ltP (by with_reducible assumption) | exact ltP2 (by with_reducible assumption) | exact ltP3 (by with_reducible assumption) | exact ltP4 (by with_reducible assumption) | exact ltP5 (by with_reducible assumption) | exact ltP6 (by with_reducible assumption) | exact ltP7 (by with_reducible assumption) | exact ltP8 (by with_reducible assumption) 
  k_with "x k_hi" => first | with_reducible assumption | k_extra "x k_q1" | exact ltR (by with_reducible assumption) (by k_extra "x k_mm") | k_extra "x k_up" | (refine Nat.lt_trans ?_ (by with_reducible assumption); k_extra "x k_hi")
  k_with "x k_l1" => first | k_extra "x k_q1" | exact ltZ | k_extra "x k_hi" | (refine ltS ?_; k_extra "x k_l1")
  k_with "x k_l2" => first | k_extra "x k_l1" | (refine Nat.lt_trans (by with_reducible assumption) ?_; k_extra "x k_l2")
  k_with "x k_lo" => ((fail_if_success (with_reducible show @LT.lt Nat _ _ 79)); k_extra "x k_l2")
  k_with "x k_ne" => (refine neN ?_; (try dsimp only); k_extra "x ne")
  trivial
theorem c_stream (l : List Nat) (t : Tok) (hl : l.length ≤ sizeLine) : FnB PySem.Challenge.pw_ta0007_02 w (hd.heap_39 w.params) topProg lse mean mg mb 500 500 84 [.str (txt l) t] [(79, tabObj #[])] (fun B v P' => ∃ st sd rd pl cp ct c1 sfd ssl hsh tn rfd oc1 ocp oct tp n ps, v = .ref st ∧ P' = streamP st sd rd pl cp ct c1 sfd ssl hsh tn rfd oc1 ocp oct 0 tp n ++ [(79, tabObj ps)] ∧ (@LT.lt Nat _ B ct ∧ @LT.lt Nat _ ct cp ∧ @LT.lt Nat _ cp pl ∧ @LT.lt Nat _ pl c1 ∧ @LT.lt Nat _ c1 rd ∧ @LT.lt Nat _ rd st ∧ @LT.lt Nat _ st sd) ∧
    (∀ (pos : Nat) tp n t, F1 w mean mg mb rd [.int 1 t] (streamP st sd rd pl cp ct c1 sfd ssl hsh tn rfd oc1 ocp oct pos tp n) (fun v P' => ∃ tv tp' n', v = .str (txt (sgn l pos)) tv ∧ P' = streamP st sd rd pl cp ct c1 sfd ssl hsh tn rfd oc1 ocp oct ((pos + 1 : Nat) : Int) tp' n'))) := by
  walk_at "fn_cellsB"
  have C : CodeHd g 83 79 := codeHd_of_K X (by kernel_rfl)
  k_cells Y
  simp only [List.cons_append, List.nil_append] at N
  k_lt lt
  rename_i o1 o2 d1 d2
  replace d1 : o1.data = .cell none := d1
  replace d2 : o2.data = .cell (some (.str (txt l) t)) := d2
  walk_at "steps"
  rename_i pl _ l1a _ ocp dcp rd c1 oc1 vs1 tq1 ct1 dc1 _ _ dv1 dw1 l1b l2b _ st c2 oc2 vs2 tq2 ct2 _ _ dv2 dw2 l1c l2c _ _ _
  refine' setAttr_fnN ?F ?N ?U lk_fn_read ?_
  case F => k_asm
  case N => k_asm
  case U => k_dflt k_updF
  intro D hsh tn h2 tk2 F2 N2 l2
  k_lt l2
  walk_at "steps"
  refine ⟨?_⟩
  refine' Ends.sub (P' := streamP st D rd pl (L + 1 + 1) (L + 1) c1 _ _ hsh tn _ oc1 ocp o2 0 _ _ ++ [(79, tabObj _)]) (by k_asm) (by k_asm) ?_ ⟨_, _, _, _, _, _, _, _, _, _, _, _, _, _, _, _, _, _, rfl, rfl, ⟨by walk_at "k_lo", by walk_at "k_lo", by walk_at "k_lo", by walk_at "k_lo", by walk_at "k_lo", by walk_at "k_lo", by walk_at "k_lo"⟩, ?_⟩
  · dsimp only [streamP, List.cons_append, List.nil_append]
    refine' all_cons ?_ (all_cons ?_ (all_cons ?_ (all_cons ?_ (all_cons ?_ (all_cons ?_ (all_cons ?_ (all_cons ?_ (fun _ h => nomatch h)))))))) <;> k_mem
  intro pos tp n t1
  walk_at "fn_made"
  with_reducible refine body_open F [("size", .int 1 t1)] ?hps ?_
  case hps => exact (all_cons rfl all_nil)
  clear F
  intro m0 F AA ee QQ
  walk_at "steps"
  refine ⟨?_⟩
  have e1 : Txt.slice (txt l) (some ((pos : Int) + 1 - 1)) (some ((pos : Int) + 1)) = txt (sgn l pos) := by
    rw [show (pos : Int) + 1 - 1 = pos by omega, slice_sgn]
  refine' Ends.sub (by k_asm) (by k_asm) (fun p hp => hp) ⟨_, _, _, congrArg (fun z => Value.str z _) e1, rfl⟩
end
section
example : True := by
  k_with_none
  k_with "x fn_open" =>
    with_unfolding_all refine' Fn.plain ?ho ?hcd ?hbind ?hloc ?_ ?hD ?hco ?hgen ?hk ?hcell
    case ho => k_is
    case hcd => k_is
    case hbind => exact fun s => BindsTo.of_eq rfl
    case hloc => exact locs rfl
    case hD => decide
    case hco => exact rfl
    case hgen => exact rfl
    case hk => exact rfl
    case hcell => decide
    intro gd outer A₀ base g L s B X T F N lt
  k_with "x fn_cells" =>
    with_unfolding_all refine' Fn.cells ?ho ?hcd ?hbind ?hkind ?hnd ?_ ?hD ?hco ?hgen ?hk
    case ho => k_is
    case hcd => k_is
    case hbind => exact fun s => BindsTo.of_eq rfl
    case hkind => exact rfl
    case hnd => decide +kernel
    case hD => decide
    case hco => exact rfl
    case hgen => exact rfl
    case hk => exact rfl
    intro gd outer A₀ base g L s cells B X T F N Y lt
  k_with "x fn_made" =>
    with_unfolding_all refine' Fn.made ?ho ?hc ?hcd ?hcv ?hbind ?hloc ?_ ?hD ?hco ?hgen ?hk ?hcell
    case ho => k_mem
    case hc => k_mem
    case hcd => assumption
    case hcv => assumption
    case hbind => exact fun s => BindsTo.of_eq rfl
    case hloc => exact locs rfl
    case hD => decide
    case hco => exact rfl
    case hgen => exact rfl
    case hk => exact rfl
    case hcell => decide
    intro gd outer A₀ base g L s B X T F N lt
  k_with "x Ends" => refine stop ?_
  k_with "x steps" => repeat' (first | (k_unfold; (try dsimp only)) | walk1 | (dsimp only; walk1))
  k_with "x fn_pick" => first | exact Pick.here | (refine' Pick.there ?p1; (case p1 => k_extra "x fn_pick"))
  k_with "x fn_split" => first | exact Split.nil | (refine' Split.cons ?a1 ?b1; (case a1 => k_extra "x fn_pick"); (case b1 => k_extra "x fn_split"))
  k_with "x fn_nes" => first | exact all_nil | ((with_reducible refine ne_consL ?_ ?_); (focus (k_extra "x fn_nes")); k_extra "x ne") | ((fail_if_success with_reducible refine ne_consL ?_ ?_); refine' all_cons ?a2 ?b2; (case a2 => k_ne); (case b2 => k_extra "x fn_nes")) | k_extra "x k_tl"
  k_with "x fn_apart" => first | exact apart_nil | ((with_reducible refine' apart_consP ?a3 ?b3); (case a3 => k_extra "x fn_nes"); (case b3 => k_extra "x fn_apart")) | ((fail_if_success with_reducible refine apart_consP ?_ ?_); refine' apart_cons ?a3 ?b3; (case a3 => k_extra "x fn_nes"); (case b3 => k_extra "x fn_apart"))
  k_with "x fn_here" => exact ⟨by k_asm, by k_asm, by k_asm, rfl, rfl, rfl, rfl, Nat.le_of_ble_eq_true rfl, Nat.le_of_ble_eq_true rfl⟩
  k_with "x fn_sub" => first | exact all_nil | (refine' all_cons ?a4 ?b4; (case a4 => k_mem); (case b4 => k_extra "x fn_sub"))
  k_with "x k_all" => first | exact all_nil | ((with_reducible refine ne_consR ?_ ?_); (focus (k_extra "x k_all")); k_extra "x ne") | ((fail_if_success with_reducible refine ne_consR ?_ ?_); refine' all_cons ?a5 ?b5; (case a5 => k_ne); (case b5 => k_extra "x k_all")) | k_extra "x k_tl"
  k_with "x fn_ords" => first | exact all_nil | (refine' all_cons ?a6 ?b6; (case a6 => ((try dsimp only); first | k_extra "x k_lo" | exact Nat.le_refl _ | (refine Nat.le_of_lt ?_; k_extra "x k_lo") | (simp only [AllLt, and_true] at *; omega))); (case b6 => k_extra "x fn_ords"))
  k_with "x k_mt" => first | assumption | (refine mem_t ?_; k_extra "x k_mt")
  k_with "x k_tl" => first | exact fun q hq => ne_lt (ltA (o := q.2) (by with_reducible assumption) (by k_extra "x k_mt")) | with_reducible assumption
  k_with "x k_mem" => k_extra "x k_mm"
  k_with "x ne" => first
    | exact neA (by with_reducible assumption) (by k_extra "x k_mm")
    | exact neB (by with_reducible assumption) (by k_extra "x k_mm")
    | with_reducible assumption
    | exact Ne.symm (by with_reducible assumption)
    | ((repeat refine ne_s ?_); first | exact ne_z1 | exact ne_z2 | exact ne_z3 | exact ne_z4 | exact ne_z5 | exact ne_z6 | exact ne_z7 | exact ne_z8 | exact ne_z1.symm | exact ne_z2.symm | exact ne_z3.symm | exact ne_z4.symm | exact ne_z5.symm | exact ne_z6.symm | exact ne_z7.symm | exact ne_z8.symm)
    | (refine ne_lt ?_; k_extra "x k_lo")
    | (refine ne_gt ?_; k_extra "x k_lo")
  k_with "x k_mm" => with_reducible (first | exact mem_0 | exact mem_1 | exact mem_2 | exact mem_3 | exact mem_4 | exact mem_5 | exact mem_6 | exact mem_7 | exact mem_8 | exact mem_9 | (refine mem_s ?_; k_extra "x k_mm"))
  k_with "x k_q1" => exact ltA (by with_reducible assumption) (by k_extra "x k_mm")
  k_with "x k_up" => first | exact ltP (by with_reducible assumption) | exact ltP2 (by with_reducible assumption) | exact ltP3 (by with_reducible assumption) | exact ltP4 (by with_reducible assumption) | exact ltP5 (by with_reducible assumption) | exact ltP6 (by with_reducible assumption) | exact ltP7 (by with_reducible assumption) | exact ltP8 (by with_reducible assumption) 
  k_with "x k_hi" => first | with_reducible assumption | k_extra "x k_q1" | exact ltR (by with_reducible assumption) (by k_extra "x k_mm") | k_extra "x k_up" | (refine Nat.lt_trans ?_ (by with_reducible assumption); k_extra "x k_hi")
  k_with "x k_l1" => first | k_extra "x k_q1" | exact ltZ | k_extra "x k_hi" | (refine ltS ?_; k_extra "x k_l1")
  k_with "x k_l2" => first | k_extra "x k_l1" | (refine Nat.lt_trans (by with_reducible assumption) ?_; k_extra "x k_l2")
  k_with "x k_lo" => ((fail_if_success (with_reducible show @LT.lt Nat _ _ 79)); k_extra "x k_l2")
  k_with "x k_ne" => (refine neN ?_; (try dsimp only); k_extra "x ne")
  k_with "x getMethod ref" => refine getMethod_fnN (by k_asm) (by k_mem) (by k_mem) ?_
  k_with "x callWith ref" => k_dflt (refine' callWith_F (FnAt.of (by k_asm) (by k_mem)) ?_; k_whole)
  k_with "x call ref" => (refine' Fn.use (hR _ _ _ _) ?H ?F ?N ?S ?A ?_; (case H => k_extra "x fn_here"); (case F => k_asm); (case N => k_asm); (case S => k_extra "x fn_split"); (case A => k_extra "x fn_apart"); (rintro v P' h' tk' ⟨tv, tp', n', rfl, rfl⟩ F' N' ap'); (simp only [List.cons_append, List.nil_append] at N'))
  trivial
theorem c_readchar (k : Lx) (ok : k.Ok) (l : List Nat) (hR : k.Reads w mean mg mb l) (pos : Nat) (tp : Tok) (n : Nat) (ln : Int) (tl : Tok) : FD 480 w mean mg mb 35 [.ref k.x] (k.P pos tp n ln tl)
    (fun v P' => ∃ tv tp' n' tl', v = .str (txt (sgn l pos)) tv ∧ P' = k.P ((pos + 1 : Nat) : Int) tp' n' (if sgn l pos = [10] then ln + 1 else ln) tl') := by
  obtain ⟨a1, a2, a3, a4, a5, a6, a7, a8, a9⟩ := ok
  walk_at "fn_open"
  with_reducible refine body_open F [("self", .ref k.x)] ?hps ?_
  case hps => exact (all_cons rfl all_nil)
  clear F
  intro m0 F AA ee QQ
  walk_at "steps"
  · have e : sgn l pos = [10] := txt_eq (b := [10]) (by assumption)
    refine' ⟨Ends.sub (P' := k.P ((pos + 1 : Nat) : Int) tp' n' (ln + 1) _) (by k_asm) (by k_asm) ?_ ⟨tv, tp', n', _, rfl, by rw [if_pos e]⟩⟩
    walk_at "fn_sub"
  · have e : sgn l pos ≠ [10] := txt_ne (b := [10]) (by assumption)
    refine' ⟨Ends.sub (P' := k.P ((pos + 1 : Nat) : Int) tp' n' ln _) (by k_asm) (by k_asm) ?_ ⟨tv, tp', n', _, rfl, by rw [if_neg e]⟩⟩
    walk_at "fn_sub"
end
section
example : True := by
  k_with_none
  k_with "x fn_open" =>
    with_unfolding_all refine' Fn.plain ?ho ?hcd ?hbind ?hloc ?_ ?hD ?hco ?hgen ?hk ?hcell
    case ho => k_is
    case hcd => k_is
    case hbind => exact fun s => BindsTo.of_eq rfl
    case hloc => exact locs rfl
    case hD => decide
    case hco => exact rfl
    case hgen => exact rfl
    case hk => exact rfl
    case hcell => decide
    intro gd outer A₀ base g L s B X T F N lt
  k_with "x fn_cells" =>
    with_unfolding_all refine' Fn.cells ?ho ?hcd ?hbind ?hkind ?hnd ?_ ?hD ?hco ?hgen ?hk
    case ho => k_is
    case hcd => k_is
    case hbind => exact fun s => BindsTo.of_eq rfl
    case hkind => exact rfl
    case hnd => decide +kernel
    case hD => decide
    case hco => exact rfl
    case hgen => exact rfl
    case hk => exact rfl
    intro gd outer A₀ base g L s cells B X T F N Y lt
  k_with "x fn_made" =>
    with_unfolding_all refine' Fn.made ?ho ?hc ?hcd ?hcv ?hbind ?hloc ?_ ?hD ?hco ?hgen ?hk ?hcell
    case ho => k_mem
    case hc => k_mem
    case hcd => assumption
    case hcv => assumption
    case hbind => exact fun s => BindsTo.of_eq rfl
    case hloc => exact locs rfl
    case hD => decide
    case hco => exact rfl
    case hgen => exact rfl
    case hk => exact rfl
    case hcell => decide
    intro gd outer A₀ base g L s B X T F N lt
  k_with "x Ends" => refine stop ?_
  k_with "x steps" => repeat' (first | (k_unfold; (try dsimp only)) | walk1 | (dsimp only; walk1))
  k_with "x fn_pick" => first | exact Pick.here | (refine' Pick.there ?p1; (case p1 => k_extra "x fn_pick"))
  k_with "x fn_split" => first | exact Split.nil | (refine' Split.cons ?a1 ?b1; (case a1 => k_extra "x fn_pick"); (case b1 => k_extra "x fn_split"))
  k_with "x fn_nes" => first | exact all_nil | ((with_reducible refine ne_consL ?_ ?_); (focus (k_extra "x fn_nes")); k_extra "x ne") | ((fail_if_success with_reducible refine ne_consL ?_ ?_); refine' all_cons ?a2 ?b2; (case a2 => k_ne); (case b2 => k_extra "x fn_nes")) | k_extra "x k_tl"
  k_with "x fn_apart" => first | exact apart_nil | ((with_reducible refine' apart_consP ?a3 ?b3); (case a3 => k_extra "x fn_nes"); (case b3 => k_extra "x fn_apart")) | ((fail_if_success with_reducible refine apart_consP ?_ ?_); refine' apart_cons ?a3 ?b3; (case a3 => k_extra "x fn_nes"); (case b3 => k_extra "x fn_apart"))
  k_with "x fn_here" => exact ⟨by k_asm, by k_asm, by k_asm, rfl, rfl, rfl, rfl, Nat.le_of_ble_eq_true rfl, Nat.le_of_ble_eq_true rfl⟩
  k_with "x fn_sub" => first | exact all_nil | (refine' all_cons ?a4 ?b4; (case a4 => k_mem); (case b4 => k_extra "x fn_sub"))
  k_with "x k_all" => first | exact all_nil | ((with_reducible refine ne_consR ?_ ?_); (focus (k_extra "x k_all")); k_extra "x ne") | ((fail_if_success with_reducible refine ne_consR ?_ ?_); refine' all_cons ?a5 ?b5; (case a5 => k_ne); (case b5 => k_extra "x k_all")) | k_extra "x k_tl"
  k_with "x fn_ords" => first | exact all_nil | (refine' all_cons ?a6 ?b6; (case a6 => ((try dsimp only); first | k_extra "x k_lo" | exact Nat.le_refl _ | (refine Nat.le_of_lt ?_; k_extra "x k_lo") | (simp only [AllLt, and_true] at *; omega))); (case b6 => k_extra "x fn_ords"))
  k_with "x k_mt" => first | assumption | (refine mem_t ?_; k_extra "x k_mt")
  k_with "x k_tl" => first | exact fun q hq => ne_lt (ltA (o := q.2) (by with_reducible assumption) (by k_extra "x k_mt")) | with_reducible assumption
  k_with "x k_mem" => k_extra "x k_mm"
  k_with "x ne" => first
    | exact neA (by with_reducible assumption) (by k_extra "x k_mm")
    | exact neB (by with_reducible assumption) (by k_extra "x k_mm")
    | with_reducible assumption
    | exact Ne.symm (by with_reducible assumption)
    | ((repeat refine ne_s ?_); first | exact ne_z1 | exact ne_z2 | exact ne_z3 | exact ne_z4 | exact ne_z5 | exact ne_z6 | exact ne_z7 | exact ne_z8 | exact ne_z1.symm | exact ne_z2.symm | exact ne_z3.symm | exact ne_z4.symm | exact ne_z5.symm | exact ne_z6.symm | exact ne_z7.symm | exact ne_z8.symm)
    | (refine ne_lt ?_; k_extra "x k_lo")
    | (refine ne_gt ?_; k_extra "x k_lo")
  k_with "x k_mm" => with_reducible (first | exact mem_0 | exact mem_1 | exact mem_2 | exact mem_3 | exact mem_4 | exact mem_5 | exact mem_6 | exact mem_7 | exact mem_8 | exact mem_9 | (refine mem_s ?_; k_extra "x k_mm"))
  k_with "x k_q1" => exact ltA (by with_reducible assumption) (by k_extra "x k_mm")
  k_with "x k_up" => first | exact ltP (by with_reducible assumption) | exact ltP2 (by with_reducible assumption) | exact ltP3 (by with_reducible assumption) | exact ltP4 (by with_reducible assumption) | exact ltP5 (by with_reducible assumption) | exact ltP6 (by with_reducible assumption) | exact ltP7 (by with_reducible assumption) | exact ltP8 (by with_reducible assumption) 
  k_with "x k_hi" => first | with_reducible assumption | k_extra "x k_q1" | exact ltR (by with_reducible assumption) (by k_extra "x k_mm") | k_extra "x k_up" | (refine Nat.lt_trans ?_ (by with_reducible assumption); k_extra "x k_hi")
  k_with "x k_l1" => first | k_extra "x k_q1" | exact ltZ | k_extra "x k_hi" | (refine ltS ?_; k_extra "x k_l1")
  k_with "x k_l2" => first | k_extra "x k_l1" | (refine Nat.lt_trans (by with_reducible assumption) ?_; k_extra "x k_l2")
  k_with "x k_lo" => ((fail_if_success (with_reducible show @LT.lt Nat _ _ 79)); k_extra "x k_l2")
  k_with "x k_ne" => (refine neN ?_; (try dsimp only); k_extra "x ne")
  trivial
theorem k42 (P : Params) : ∃ fo fd, (hd.heap_39 P).lookup 35 = some fo ∧ fo.data = .func fd := ⟨_, _, rfl, rfl⟩
theorem next_ci {A A₀ : Around} {env : Env} {outer : List Env} {base g : Heap} {L : Addr} {m : Str → Option Value} {s : Shared} {rest : List (Addr × Obj)} {I bm : Addr} {ty : Tok} {Q : Option Value → Shared → Prop} {E : Value → Shared → Prop}
    (k : Lx) (ok : k.Ok) {l : List Nat} (hR : k.Reads w mean mg mb l) {p : Nat} {tp : Tok} {n : Nat} {tl : Tok} {c : Nat} {r : List Nat} (hdr : l.drop p = c :: r)
    (H : Here PySem.Challenge.pw_ta0007_02 w (hd.heap_39 w.params) topProg lse mean mg mb 480 480 A.in1 env outer A₀ base g L) (F : Fr g L s.heap m) (N : News g L s.heap (k.At l p tp n tl ++ rest))
    (hI : (I, ciObj (.ref bm) (.str "" ty) false) ∈ rest) (hb : (bm, methodObj (.ref 35) (.ref k.x)) ∈ rest) (ap : Apart (k.At l p tp n tl) rest)
    (h : ∀ h' tk' tv tp' n' tl', Fr g L h' m → News g L h' (k.At l (p + 1) tp' n' tl' ++ rest) → Q (some (.str (txt [c]) tv)) { s with heap := h', toks := tk' }) :
    wpAny (model PySem.Challenge.pw_ta0007_02 w) A (pyNext (.ref I)) Q E s := by
  have X := H.kin.keeps F.keep
  obtain ⟨fo, fd, ho, hf⟩ := k42 w.params
  refine pyNext_ci (N _ (List.mem_append_right _ hI)).1 (N _ (List.mem_append_right _ hb)).1 (X 35 _ ho) hf ?_
  refine Fn.useC (c_readchar k ok l hR p tp n _ tl) H F (fun q hq => N q hq) (Split_app _ _) ap ?_
  rintro v P' h' tk' ⟨tv, tp', n', tl', rfl, rfl⟩ F' N' ap'
  rw [← lnAt_next hdr] at N'
  exact ⟨txt [c], tv, by rw [sgn_of hdr], fun e => List.cons_ne_nil _ _ (txt_inj (b := []) e), (N' _ (List.mem_append_right _ hI)).1, fun tk => h h' tk tv tp' n' tl' F' N'⟩
end
section
example : True := by
  k_with_none
  k_with "x fn_open" =>
    with_unfolding_all refine' Fn.plain ?ho ?hcd ?hbind ?hloc ?_ ?hD ?hco ?hgen ?hk ?hcell
    case ho => k_is
    case hcd => k_is
    case hbind => exact fun s => BindsTo.of_eq rfl
    case hloc => exact locs rfl
    case hD => decide
    case hco => exact rfl
    case hgen => exact rfl
    case hk => exact rfl
    case hcell => decide
    intro gd outer A₀ base g L s B X T F N lt
  k_with "x fn_cells" =>
    with_unfolding_all refine' Fn.cells ?ho ?hcd ?hbind ?hkind ?hnd ?_ ?hD ?hco ?hgen ?hk
    case ho => k_is
    case hcd => k_is
    case hbind => exact fun s => BindsTo.of_eq rfl
    case hkind => exact rfl
    case hnd => decide +kernel
    case hD => decide
    case hco => exact rfl
    case hgen => exact rfl
    case hk => exact rfl
    intro gd outer A₀ base g L s cells B X T F N Y lt
  k_with "x fn_made" =>
    with_unfolding_all refine' Fn.made ?ho ?hc ?hcd ?hcv ?hbind ?hloc ?_ ?hD ?hco ?hgen ?hk ?hcell
    case ho => k_mem
    case hc => k_mem
    case hcd => assumption
    case hcv => assumption
    case hbind => exact fun s => BindsTo.of_eq rfl
    case hloc => exact locs rfl
    case hD => decide
    case hco => exact rfl
    case hgen => exact rfl
    case hk => exact rfl
    case hcell => decide
    intro gd outer A₀ base g L s B X T F N lt
  k_with "x Ends" => refine stop ?_
  k_with "x steps" => repeat' (first | (k_unfold; (try dsimp only)) | walk1 | (dsimp only; walk1))
  k_with "x fn_pick" => first | exact Pick.here | (refine' Pick.there ?p1; (case p1 => k_extra "x fn_pick"))
  k_with "x fn_split" => first | exact Split.nil | (refine' Split.cons ?a1 ?b1; (case a1 => k_extra "x fn_pick"); (case b1 => k_extra "x fn_split"))
  k_with "x fn_nes" => first | exact all_nil | ((with_reducible refine ne_consL ?_ ?_); (focus (k_extra "x fn_nes")); k_extra "x ne") | ((fail_if_success with_reducible refine ne_consL ?_ ?_); refine' all_cons ?a2 ?b2; (case a2 => k_ne); (case b2 => k_extra "x fn_nes")) | k_extra "x k_tl"
  k_with "x fn_apart" => first | exact apart_nil | ((with_reducible refine' apart_consP ?a3 ?b3); (case a3 => k_extra "x fn_nes"); (case b3 => k_extra "x fn_apart")) | ((fail_if_success with_reducible refine apart_consP ?_ ?_); refine' apart_cons ?a3 ?b3; (case a3 => k_extra "x fn_nes"); (case b3 => k_extra "x fn_apart"))
  k_with "x fn_here" => exact ⟨by k_asm, by k_asm, by k_asm, rfl, rfl, rfl, rfl, Nat.le_of_ble_eq_true rfl, Nat.le_of_ble_eq_true rfl⟩
  k_with "x fn_sub" => first | exact all_nil | (refine' all_cons ?a4 ?b4; (case a4 => k_mem); (case b4 => k_extra "x fn_sub"))
  k_with "x k_all" => first | exact all_nil | ((with_reducible refine ne_consR ?_ ?_); (focus (k_extra "x k_all")); k_extra "x ne") | ((fail_if_success with_reducible refine ne_consR ?_ ?_); refine' all_cons ?a5 ?b5; (case a5 => k_ne); (case b5 => k_extra "x k_all")) | k_extra "x k_tl"
  k_with "x fn_ords" => first | exact all_nil | (refine' all_cons ?a6 ?b6; (case a6 => ((try dsimp only); first | k_extra "x k_lo" | exact Nat.le_refl _ | (refine Nat.le_of_lt ?_; k_extra "x k_lo") | (simp only [AllLt, and_true] at *; omega))); (case b6 => k_extra "x fn_ords"))
  k_with "x k_mt" => first | assumption | (refine mem_t ?_; k_extra "x k_mt")
  k_with "x k_tl" => first | exact fun q hq => ne_lt (ltA (o := q.2) (by with_reducible assumption) (by k_extra "x k_mt")) | with_reducible assumption
  k_with "x k_mem" => k_extra "x k_mm"
  k_with "x ne" => first
    | exact neA (by with_reducible assumption) (by k_extra "x k_mm")
    | exact neB (by with_reducible assumption) (by k_extra "x k_mm")
    | with_reducible assumption
    | exact Ne.symm (by with_reducible assumption)
    | ((repeat refine ne_s ?_); first | exact ne_z1 | exact ne_z2 | exact ne_z3 | exact ne_z4 | exact ne_z5 | exact ne_z6 | exact ne_z7 | exact ne_z8 | exact ne_z1.symm | exact ne_z2.symm | exact ne_z3.symm | exact ne_z4.symm | exact ne_z5.symm | exact ne_z6.symm | exact ne_z7.symm | exact ne_z8.symm)
    | (refine ne_lt ?_; k_extra "x k_lo")
    | (refine ne_gt ?_; k_extra "x k_lo")
  k_with "x k_mm" => with_reducible (first | exact mem_0 | exact mem_1 | exact mem_2 | exact mem_3 | exact mem_4 | exact mem_5 | exact mem_6 | exact mem_7 | exact mem_8 | exact mem_9 | (refine mem_s ?_; k_extra "x k_mm"))
  k_with "x k_q1" => exact ltA (by with_reducible assumption) (by k_extra "x k_mm")
  k_with "x k_up" => first | exact ltP (by with_reducible assumption) | exact ltP2 (by with_reducible assumption) | exact ltP3 (by with_reducible assumption) | exact ltP4 (by with_reducible assumption) | exact ltP5 (by with_reducible assumption) | exact ltP6 (by with_reducible assumption) | exact ltP7 (by with_reducible assumption) | exact ltP8 (by with_reducible assumption) 
  k_with "x k_hi" => first | with_reducible assumption | k_extra "x k_q1" | exact ltR (by with_reducible assumption) (by k_extra "x k_mm") | k_extra "x k_up" | (refine Nat.lt_trans ?_ (by with_reducible assumption); k_extra "x k_hi")
  k_with "x k_l1" => first | k_extra "x k_q1" | exact ltZ | k_extra "x k_hi" | (refine ltS ?_; k_extra "x k_l1")
  k_with "x k_l2" => first | k_extra "x k_l1" | (refine Nat.lt_trans (by with_reducible assumption) ?_; k_extra "x k_l2")
  k_with "x k_lo" => ((fail_if_success (with_reducible show @LT.lt Nat _ _ 79)); k_extra "x k_l2")
  k_with "x k_ne" => (refine neN ?_; (try dsimp only); k_extra "x ne")
  trivial
theorem fr_off {h₀ h h' : Heap} {L I : Addr} {m : Str → Option Value} (F : Fr h₀ L h m) (x : Heap.ExtBut I h h') (hI : h₀.get? I = none) (hL : I ≠ L) : Fr h₀ L h' m :=
  ⟨F.ns.extBut x (Ne.symm hL), fun b o e => x b o (fun q => by rw [q, hI] at e; cases e) (F.keep b o e), F.above⟩
theorem news_off {h₀ h h' : Heap} {L I : Addr} {P : List (Addr × Obj)} (N : News h₀ L h P) (x : Heap.ExtBut I h h') (hP : ∀ p ∈ P, p.1 ≠ I) : News h₀ L h' P :=
  fun p hp => ⟨x p.1 p.2 (hP p hp) (N p hp).1, (N p hp).2⟩
theorem lnAt_end {l : List Nat} {p : Nat} (h : l.drop p = []) : lnAt l (p + 1) = lnAt l p := by
  have h1 : l.length ≤ p := List.drop_eq_nil_iff.mp h
  unfold lnAt
  rw [List.take_of_length_le h1, List.take_of_length_le (Nat.le_succ_of_le h1)]
theorem sgn_end {l : List Nat} {p : Nat} (h : l.drop p = []) : sgn l p = [] := by unfold sgn; rw [h]; rfl
theorem next_end {A A₀ : Around} {env : Env} {outer : List Env} {base g : Heap} {L : Addr} {m : Str → Option Value} {s : Shared} {rest rest' : List (Addr × Obj)} {I bm : Addr} {ty : Tok} {Q : Option Value → Shared → Prop} {E : Value → Shared → Prop}
    (k : Lx) (ok : k.Ok) {l : List Nat} (hR : k.Reads w mean mg mb l) {p : Nat} {tp : Tok} {n : Nat} {tl : Tok} (hdr : l.drop p = [])
    (H : Here PySem.Challenge.pw_ta0007_02 w (hd.heap_39 w.params) topProg lse mean mg mb 480 480 A.in1 env outer A₀ base g L) (F : Fr g L s.heap m) (N : News g L s.heap (k.At l p tp n tl ++ rest))
    (hI : (I, ciObj (.ref bm) (.str "" ty) false) ∈ rest) (hb : (bm, methodObj (.ref 35) (.ref k.x)) ∈ rest) (ap : Apart (k.At l p tp n tl) rest)
    (hr : ∀ q ∈ rest', q ∈ rest ∧ q.1 ≠ I)
    (h : ∀ h' tk' tp' n' tl', Fr g L h' m → News g L h' (k.At l (p + 1) tp' n' tl' ++ rest') → Q none { s with heap := h', toks := tk' }) :
    wpAny (model PySem.Challenge.pw_ta0007_02 w) A (pyNext (.ref I)) Q E s := by
  have X := H.kin.keeps F.keep
  obtain ⟨fo, fd, ho, hf⟩ := k42 w.params
  refine pyNext_ci_end H.handled (N _ (List.mem_append_right _ hI)).1 (N _ (List.mem_append_right _ hb)).1 (X 35 _ ho) hf ?_
  refine Fn.useC (c_readchar k ok l hR p tp n _ tl) H F (fun q hq => N q hq) (Split_app _ _) ap ?_
  rintro v P' h' tk' ⟨tv, tp', n', tl', rfl, rfl⟩ F' N' ap'
  rw [sgn_end hdr] at N' ap' ⊢
  rw [if_neg (List.cons_ne_nil _ _).symm, ← lnAt_end hdr] at N' ap'
  have NI := N' _ (List.mem_append_right _ hI)
  have X' := H.kin.keeps F'.keep
  refine ⟨tv, rfl, NI.1, (N' _ (List.mem_append_right _ hb)).1, X' 35 _ ho, fun h2 tk x => h h2 tk tp' n' tl' (fr_off F' x NI.2.2 NI.2.1) (news_off (fun q hq => ?_) x (fun q hq => ?_))⟩
  · rcases List.mem_append.mp hq with hq | hq
    · exact N' q (List.mem_append_left _ hq)
    · exact N' q (List.mem_append_right _ (hr q hq).1)
  · rcases List.mem_append.mp hq with hq | hq
    · exact ap' q hq _ hI
    · exact (hr q hq).2
end
section
example : True := by
  k_with_none
  k_with "x fn_open" =>
    with_unfolding_all refine' Fn.plain ?ho ?hcd ?hbind ?hloc ?_ ?hD ?hco ?hgen ?hk ?hcell
    case ho => k_is
    case hcd => k_is
    case hbind => exact fun s => BindsTo.of_eq rfl
    case hloc => exact locs rfl
    case hD => decide
    case hco => exact rfl
    case hgen => exact rfl
    case hk => exact rfl
    case hcell => decide
    intro gd outer A₀ base g L s B X T F N lt
  k_with "x fn_cells" =>
    with_unfolding_all refine' Fn.cells ?ho ?hcd ?hbind ?hkind ?hnd ?_ ?hD ?hco ?hgen ?hk
    case ho => k_is
    case hcd => k_is
    case hbind => exact fun s => BindsTo.of_eq rfl
    case hkind => exact rfl
    case hnd => decide +kernel
    case hD => decide
    case hco => exact rfl
    case hgen => exact rfl
    case hk => exact rfl
    intro gd outer A₀ base g L s cells B X T F N Y lt
  k_with "x fn_made" =>
    with_unfolding_all refine' Fn.made ?ho ?hc ?hcd ?hcv ?hbind ?hloc ?_ ?hD ?hco ?hgen ?hk ?hcell
    case ho => k_mem
    case hc => k_mem
    case hcd => assumption
    case hcv => assumption
    case hbind => exact fun s => BindsTo.of_eq rfl
    case hloc => exact locs rfl
    case hD => decide
    case hco => exact rfl
    case hgen => exact rfl
    case hk => exact rfl
    case hcell => decide
    intro gd outer A₀ base g L s B X T F N lt
  k_with "x Ends" => refine stop ?_
  k_with "x steps" => repeat' (first | (k_unfold; (try dsimp only)) | walk1 | (dsimp only; walk1))
  k_with "x fn_pick" => first | exact Pick.here | (refine' Pick.there ?p1; (case p1 => k_extra "x fn_pick"))
  k_with "x fn_split" => first | exact Split.nil | (refine' Split.cons ?a1 ?b1; (case a1 => k_extra "x fn_pick"); (case b1 => k_extra "x fn_split"))
  k_with "x fn_nes" => first | exact all_nil | ((with_reducible refine ne_consL ?_ ?_); (focus (k_extra "x fn_nes")); k_extra "x ne") | ((fail_if_success with_reducible refine ne_consL ?_ ?_); refine' all_cons ?a2 ?b2; (case a2 => k_ne); (case b2 => k_extra "x fn_nes")) | k_extra "x k_tl"
  k_with "x fn_apart" => first | exact apart_nil | ((with_reducible refine' apart_consP ?a3 ?b3); (case a3 => k_extra "x fn_nes"); (case b3 => k_extra "x fn_apart")) | ((fail_if_success with_reducible refine apart_consP ?_ ?_); refine' apart_cons ?a3 ?b3; (case a3 => k_extra "x fn_nes"); (case b3 => k_extra "x fn_apart"))
  k_with "x fn_here" => exact ⟨by k_asm, by k_asm, by k_asm, rfl, rfl, rfl, rfl, Nat.le_of_ble_eq_true rfl, Nat.le_of_ble_eq_true rfl⟩
  k_with "x fn_sub" => first | exact all_nil | (refine' all_cons ?a4 ?b4; (case a4 => k_mem); (case b4 => k_extra "x fn_sub"))
  k_with "x k_all" => first | exact all_nil | ((with_reducible refine ne_consR ?_ ?_); (focus (k_extra "x k_all")); k_extra "x ne") | ((fail_if_success with_reducible refine ne_consR ?_ ?_); refine' all_cons ?a5 ?b5; (case a5 => k_ne); (case b5 => k_extra "x k_all")) | k_extra "x k_tl"
  k_with "x fn_ords" => first | exact all_nil | (refine' all_cons ?a6 ?b6; (case a6 => ((try dsimp only); first | k_extra "x k_lo" | exact Nat.le_refl _ | (refine Nat.le_of_lt ?_; k_extra "x k_lo") | (simp only [AllLt, and_true] at *; omega))); (case b6 => k_extra "x fn_ords"))
  k_with "x k_mt" => first | assumption | (refine mem_t ?_; k_extra "x k_mt")
  k_with "x k_tl" => first | exact fun q hq => ne_lt (ltA (o := q.2) (by with_reducible assumption) (by k_extra "x k_mt")) | with_reducible assumption
  k_with "x k_mem" => k_extra "x k_mm"
  k_with "x ne" => first
    | exact neA (by with_reducible assumption) (by k_extra "x k_mm")
    | exact neB (by with_reducible assumption) (by k_extra "x k_mm")
    | with_reducible assumption
    | exact Ne.symm (by with_reducible assumption)
    | ((repeat refine ne_s ?_); first | exact ne_z1 | exact ne_z2 | exact ne_z3 | exact ne_z4 | exact ne_z5 | exact ne_z6 | exact ne_z7 | exact ne_z8 | exact ne_z1.symm | exact ne_z2.symm | exact ne_z3.symm | exact ne_z4.symm | exact ne_z5.symm | exact ne_z6.symm | exact ne_z7.symm | exact ne_z8.symm)
    | (refine ne_lt ?_; k_extra "x k_lo")
    | (refine ne_gt ?_; k_extra "x k_lo")
  k_with "x k_mm" => with_reducible (first | exact mem_0 | exact mem_1 | exact mem_2 | exact mem_3 | exact mem_4 | exact mem_5 | exact mem_6 | exact mem_7 | exact mem_8 | exact mem_9 | (refine mem_s ?_; k_extra "x k_mm"))
  k_with "x k_q1" => exact ltA (by with_reducible assumption) (by k_extra "x k_mm")
  k_with "x k_up" => first | exact ltP (by with_reducible assumption) | exact ltP2 (by with_reducible assumption) | exact ltP3 (by with_reducible assumption) | exact ltP4 (by with_reducible assumption) | exact ltP5 (by with_reducible assumption) | exact ltP6 (by with_reducible assumption) | exact ltP7 (by with_reducible assumption) | exact ltP8 (by with_reducible assumption) 
  k_with "x k_hi" => first | with_reducible assumption | k_extra "x k_q1" | exact ltR (by with_reducible assumption) (by k_extra "x k_mm") | k_extra "x k_up" | (refine Nat.lt_trans ?_ (by with_reducible assumption); k_extra "x k_hi")
  k_with "x k_l1" => first | k_extra "x k_q1" | exact ltZ | k_extra "x k_hi" | (refine ltS ?_; k_extra "x k_l1")
  k_with "x k_l2" => first | k_extra "x k_l1" | (refine Nat.lt_trans (by with_reducible assumption) ?_; k_extra "x k_l2")
  k_with "x k_lo" => ((fail_if_success (with_reducible show @LT.lt Nat _ _ 79)); k_extra "x k_l2")
  k_with "x k_ne" => (refine neN ?_; (try dsimp only); k_extra "x ne")
  trivial
theorem c_get_push (k : Lx) (ok : k.Ok) (ln : Int) (tl : Tok) (v : Value) (vs : List Value) (n : Nat) (hz : vs.length ≤ 1000) : FD 450 w mean mg mb 42 [.ref k.x] [(k.x, instObj 52 k.dx), (k.dx, k.dict ln tl), (k.pb, listOf (v :: vs).toArray n)]
    (fun r P' => ∃ n', r = v ∧ P' = [(k.x, instObj 52 k.dx), (k.dx, k.dict ln tl), (k.pb, listOf vs.toArray n')]) := by
  obtain ⟨a1, a2, a3, a4, a5, a6, a7, a8, a9⟩ := ok
  walk_at "fn_open"
  with_reducible refine body_open F [("self", .ref k.x)] ?hps ?_
  case hps => exact (all_cons rfl all_nil)
  clear F
  intro m0 F AA ee QQ
  walk_at "steps"
  refine wpAny_truthy_list (News.isList (by k_asm) (by k_mem)) (by rw [List.size_toArray, List.length_cons]; omega) ?_
  have e : (!(v :: vs).toArray.isEmpty) = true := by simp
  rw [e]
  walk_at "steps"
  refine' kl_popAt (k := 0) (p := []) (y := v) (q := vs) (its := (v :: vs).toArray) (by k_asm) (by k_asm) (by decide) ?hk rfl ?U ?hz ?h
  case hk => rw [List.size_toArray, List.length_cons]; simp [seqIndex?]
  case U => k_upd
  case hz => show (v :: vs).length ≤ sizeLine; rw [List.length_cons, sizeLine_eq]; omega
  intro h2 F2 N2
  walk_at "steps"
  exact ⟨Ends.sub (by k_asm) (by k_asm) (fun p hp => hp) ⟨_, rfl, rfl⟩⟩
theorem c_push (k : Lx) (ok : k.Ok) (ln : Int) (tl : Tok) (v : Value) (vs : List Value) (n : Nat) (hz : vs.length ≤ 1000) : FD 450 w mean mg mb 49 [.ref k.x, v] [(k.x, instObj 52 k.dx), (k.dx, k.dict ln tl), (k.pb, listOf vs.toArray n)]
    (fun r P' => ∃ n', r = .none ∧ P' = [(k.x, instObj 52 k.dx), (k.dx, k.dict ln tl), (k.pb, listOf (vs ++ [v]).toArray n')]) := by
  obtain ⟨a1, a2, a3, a4, a5, a6, a7, a8, a9⟩ := ok
  walk_at "fn_open"
  with_reducible refine body_open F [("self", .ref k.x), ("token", v)] ?hps ?_
  case hps => exact (all_cons rfl (all_cons rfl all_nil))
  clear F
  intro m0 F AA ee QQ
  walk_at "steps"
  refine' ⟨Ends.sub (P' := [(k.x, instObj 52 k.dx), (k.dx, k.dict ln tl), (k.pb, listOf (vs ++ [v]).toArray (n + 1))]) (by k_asm) (by k_asm) ?_ ⟨_, rfl, rfl⟩⟩
  rw [← List.push_toArray]
  walk_at "fn_sub"
end
section
example : True := by
  k_with_none
  k_with "x fn_open" =>
    with_unfolding_all refine' Fn.plain ?ho ?hcd ?hbind ?hloc ?_ ?hD ?hco ?hgen ?hk ?hcell
    case ho => k_is
    case hcd => k_is
    case hbind => exact fun s => BindsTo.of_eq rfl
    case hloc => exact locs rfl
    case hD => decide
    case hco => exact rfl
    case hgen => exact rfl
    case hk => exact rfl
    case hcell => decide
    intro gd outer A₀ base g L s B X T F N lt
  k_with "x fn_cells" =>
    with_unfolding_all refine' Fn.cells ?ho ?hcd ?hbind ?hkind ?hnd ?_ ?hD ?hco ?hgen ?hk
    case ho => k_is
    case hcd => k_is
    case hbind => exact fun s => BindsTo.of_eq rfl
    case hkind => exact rfl
    case hnd => decide +kernel
    case hD => decide
    case hco => exact rfl
    case hgen => exact rfl
    case hk => exact rfl
    intro gd outer A₀ base g L s cells B X T F N Y lt
  k_with "x fn_made" =>
    with_unfolding_all refine' Fn.made ?ho ?hc ?hcd ?hcv ?hbind ?hloc ?_ ?hD ?hco ?hgen ?hk ?hcell
    case ho => k_mem
    case hc => k_mem
    case hcd => assumption
    case hcv => assumption
    case hbind => exact fun s => BindsTo.of_eq rfl
    case hloc => exact locs rfl
    case hD => decide
    case hco => exact rfl
    case hgen => exact rfl
    case hk => exact rfl
    case hcell => decide
    intro gd outer A₀ base g L s B X T F N lt
  k_with "x Ends" => refine stop ?_
  k_with "x steps" => repeat' (first | (k_unfold; (try dsimp only)) | walk1 | (dsimp only; walk1))
  k_with "x fn_pick" => first | exact Pick.here | (refine' Pick.there ?p1; (case p1 => k_extra "x fn_pick"))
  k_with "x fn_split" => first | exact Split.nil | (refine' Split.cons ?a1 ?b1; (case a1 => k_extra "x fn_pick"); (case b1 => k_extra "x fn_split"))
  k_with "x fn_nes" => first | exact all_nil | ((with_reducible refine ne_consL ?_ ?_); (focus (k_extra "x fn_nes")); k_extra "x ne") | ((fail_if_success with_reducible refine ne_consL ?_ ?_); refine' all_cons ?a2 ?b2; (case a2 => k_ne); (case b2 => k_extra "x fn_nes")) | k_extra "x k_tl"
  k_with "x fn_apart0" => first | exact apart_nil | ((with_reducible refine' apart_consP ?a3 ?b3); (case a3 => k_extra "x fn_nes"); (case b3 => k_extra "x fn_apart0")) | ((fail_if_success with_reducible refine apart_consP ?_ ?_); refine' apart_cons ?a3 ?b3; (case a3 => k_extra "x fn_nes"); (case b3 => k_extra "x fn_apart0"))
  k_with "x fn_here" => exact ⟨by k_asm, by k_asm, by k_asm, rfl, rfl, rfl, rfl, Nat.le_of_ble_eq_true rfl, Nat.le_of_ble_eq_true rfl⟩
  k_with "x fn_sub" => first | exact all_nil | (refine' all_cons ?a4 ?b4; (case a4 => k_mem); (case b4 => k_extra "x fn_sub"))
  k_with "x k_all" => first | exact all_nil | ((with_reducible refine ne_consR ?_ ?_); (focus (k_extra "x k_all")); k_extra "x ne") | ((fail_if_success with_reducible refine ne_consR ?_ ?_); refine' all_cons ?a5 ?b5; (case a5 => k_ne); (case b5 => k_extra "x k_all")) | k_extra "x k_tl"
  k_with "x fn_ords" => first | exact all_nil | (refine' all_cons ?a6 ?b6; (case a6 => ((try dsimp only); first | k_extra "x k_lo" | exact Nat.le_refl _ | (refine Nat.le_of_lt ?_; k_extra "x k_lo") | (simp only [AllLt, and_true] at *; omega))); (case b6 => k_extra "x fn_ords"))
  k_with "x k_mt" => first | assumption | (refine mem_t ?_; k_extra "x k_mt")
  k_with "x k_tl" => first | exact fun q hq => ne_lt (ltA (o := q.2) (by with_reducible assumption) (by k_extra "x k_mt")) | with_reducible assumption
  k_with "x k_mem" => k_extra "x k_mm"
  k_with "x ne" => first
    | exact neA (by with_reducible assumption) (by k_extra "x k_mm")
    | exact neB (by with_reducible assumption) (by k_extra "x k_mm")
    | with_reducible assumption
    | exact Ne.symm (by with_reducible assumption)
    | ((repeat refine ne_s ?_); first | exact ne_z1 | exact ne_z2 | exact ne_z3 | exact ne_z4 | exact ne_z5 | exact ne_z6 | exact ne_z7 | exact ne_z8 | exact ne_z1.symm | exact ne_z2.symm | exact ne_z3.symm | exact ne_z4.symm | exact ne_z5.symm | exact ne_z6.symm | exact ne_z7.symm | exact ne_z8.symm)
    | (refine ne_lt ?_; k_extra "x k_lo")
    | (refine ne_gt ?_; k_extra "x k_lo")
  k_with "x k_mm" => with_reducible (first | exact mem_0 | exact mem_1 | exact mem_2 | exact mem_3 | exact mem_4 | exact mem_5 | exact mem_6 | exact mem_7 | exact mem_8 | exact mem_9 | (refine mem_s ?_; k_extra "x k_mm"))
  k_with "x k_q1" => exact ltA (by with_reducible assumption) (by k_extra "x k_mm")
  k_with "x k_up" => first | exact ltP (by with_reducible assumption) | exact ltP2 (by with_reducible assumption) | exact ltP3 (by with_reducible assumption) | exact ltP4 (by with_reducible assumption) | exact ltP5 (by with_reducible assumption) | exact ltP6 (by with_reducible assumption) | exact ltP7 (by with_reducible assumption) | exact ltP8 (by with_reducible assumption) 
  k_with "x k_hi" => first | with_reducible assumption | k_extra "x k_q1" | exact ltR (by with_reducible assumption) (by k_extra "x k_mm") | k_extra "x k_up" | (refine Nat.lt_trans ?_ (by with_reducible assumption); k_extra "x k_hi")
  k_with "x k_l1" => first | k_extra "x k_q1" | exact ltZ | k_extra "x k_hi" | (refine ltS ?_; k_extra "x k_l1")
  k_with "x k_l2" => first | k_extra "x k_l1" | (refine Nat.lt_trans (by with_reducible assumption) ?_; k_extra "x k_l2")
  k_with "x k_lo" => ((fail_if_success (with_reducible show @LT.lt Nat _ _ 79)); k_extra "x k_l2")
  k_with "x k_ne" => (refine neN ?_; (try dsimp only); k_extra "x ne")
  k_with "x fn_apart" => exact apart_of hap
  k_with "x truthy ref" => refine wpAny_truthy_list (News.isList (by k_asm) (by k_mem)) (by decide) ?_
  k_with "x call builtin:iter" => (refine' call_iter2_N ?F ?N ?m ?_; (case F => k_asm); (case N => k_asm); (case m => k_mem); intro I h' F' N' l2; k_lt l2)
  k_with "x exec For Name Name cons nil" => (refine' wpAny_For ?_ ?hs; (case hs => (intro _; with_unfolding_all rfl)))
  k_with "x pyIter ref" => (refine' pyIter_ci_N ?N ?m ?_; (case N => k_asm); (case m => k_mem))
  k_with "x call ref" => ((with_reducible show wpAny _ _ (call (Value.ref 35) _) _ _ _); refine' Fn.use (c_readchar k ok l hR _ _ _ _ _) ?H ?F ?N ?S ?A ?_; (case H => k_extra "x fn_here"); (case F => k_asm); (case N => k_asm); (case S => k_extra "x fn_split"); (case A => k_extra "x fn_apart"); (rintro v P' h' tk' ⟨tv', tp', n', tl', rfl, rfl⟩ F' N_NOW ap'); (simp only [List.cons_append, List.nil_append] at N_NOW))
  k_with "x inplaceOp Add str str" => refine stop ?_
  trivial
theorem c_get_read (k : Lx) (ok : k.Ok) (l : List Nat) (hl : l.length ≤ 1000000) (hR : k.Reads w mean mg mb l) (p : Nat) (tp : Tok) (n : Nat) (tl : Tok) (nb : Nat) (tok r : List Nat) (hs : skip (l.drop p) = some (tok, r)) :
    FD 450 w mean mg mb 42 [.ref k.x] (k.At l p tp n tl ++ [(k.pb, listOf #[] nb)])
    (fun v P' => ∃ tv p' tp' n' tl', v = .str (txt tok) tv ∧ l.drop p' = r ∧ P' = k.At l p' tp' n' tl' ++ [(k.pb, listOf #[] nb)]) := by
  have ok' := ok
  obtain ⟨a1, a2, a3, a4, a5, a6, a7, a8, a9⟩ := ok'
  walk_at "fn_open"
  with_reducible refine body_open F [("self", .ref k.x)] ?hps ?_
  case hps => exact (all_cons rfl all_nil)
  clear F
  intro m0 F AA ee QQ
  simp only [List.cons_append, List.nil_append] at N
  walk_at "steps"
  rename_i q _ l1 _ F0 N0
  have hap := apartA (show Apart (k.At l p tp n tl) [(k.pb, listOf #[] nb), (I, ciObj (.ref q) (.str "" 0) false), (q, methodObj (.ref 35) (.ref k.x))] by walk_at "fn_apart0")
  refine for_led (σ := Nat × Tok × Nat × Tok) (fun c => k.At l c.1 c.2.1 c.2.2.1 c.2.2.2 ++ [(k.pb, listOf #[] nb), (I, ciObj (.ref q) (.str "" _) false), (q, methodObj (.ref 35) (.ref k.x))]) (fun _ => []) ["ch"] (fun n c => skip (l.drop c.1) = some (tok, r) ∧ n = l.length - c.1) (l.length - p) (p, tp, n, tl) F0 (News.sub N0 (by walk_at "fn_sub")) (fun _ h => nomatch h) ⟨hs, rfl⟩ ?_
  rintro n1 ⟨p1, tp1, m1, tl1⟩ u h1 tk1 ⟨hs1, hn1⟩ F1 N1
  dsimp only at hs1 hn1
  cases hdr : l.drop p1 with
  | nil => rw [hdr] at hs1; cases hs1
  | cons c rr =>
    rw [hdr] at hs1
    have hlt := lt_of_drop hdr
    have hdn := drop_next hdr
    refine next_ci k ok hR hdr (by walk_at "fn_here") F1 N1 (.tail _ (.head _)) (.tail _ (.tail _ (.head _))) (by walk_at "fn_apart") ?_
    intro h2 tk2 tv tp2 m2 tl2 F2 N2
    dsimp only [ForTurn]
    refine turn_gen fun QB hQB => ?_
    simp only [List.cons_append, List.nil_append] at N2
    walk_at "steps"
    · have hw : ws c = false := ws_no (by assumption)
      have hc : c = 34 := txt_eq1 (b := 34) (by assumption)
      have hq : quoted [] (l.drop (p1 + 1)) = some (tok, r) := by rw [hdn]; exact skip_quo hs1 hw hc
      refine' for_led (σ := Nat × Tok × Nat × Tok × List Nat × Tok) (fun c => k.At l c.1 c.2.1 c.2.2.1 c.2.2.2.1 ++ [(k.pb, listOf #[] nb), (I, ciObj (.ref q) (.str "" _) false), (q, methodObj (.ref 35) (.ref k.x))]) (fun c => [("token", .str (txt c.2.2.2.2.1) c.2.2.2.2.2)]) ["ch"] (fun n c => quoted c.2.2.2.2.1 (l.drop c.1) = some (tok, r) ∧ c.2.2.2.2.1.length ≤ c.1 ∧ n = l.length - c.1) (l.length - (p1 + 1)) ((p1 + 1), _, _, _, [], _) (by k_asm) (News.sub (by k_asm) ?sub4) ?hk4 ⟨hq, Nat.zero_le _, rfl⟩ ?turn4
      case sub4 => walk_at "fn_sub"
      case hk4 => refine all_cons ?_ (fun _ h => nomatch h); exact rfl
      case turn4 =>
        rintro n3 ⟨p3, tp3, m3, tl3, acc, tt3⟩ u3 h3 tk3 ⟨hb3, hl3, hn3⟩ F3 N3
        dsimp only at hb3 hl3 hn3
        cases hdr3 : l.drop p3 with
        | nil => rw [hdr3] at hb3; cases hb3
        | cons c3 r3 =>
          rw [hdr3] at hb3
          have hlt3 := lt_of_drop hdr3
          have hdn3 := drop_next hdr3
          refine next_ci k ok hR hdr3 (by walk_at "fn_here") F3 N3 (.tail _ (.head _)) (.tail _ (.tail _ (.head _))) (by walk_at "fn_apart") ?_
          intro h4 tk4 tv4 tp4 m4 tl4 F4 N4
          dsimp only [ForTurn]
          refine turn_gen fun QC hQC => ?_
          simp only [List.cons_append, List.nil_append] at N4
          walk_at "steps"
          · obtain ⟨e1, e2⟩ := quoted_end hb3 (txt_eq1 (b := 34) (by assumption))
            subst e1 e2
            subst hQC
            (try dsimp only [ForPost])
            subst hQB
            (try dsimp only [ForPost])
            first | refine Stop.mk ?_ | skip
            refine' Ends.sub (P' := k.At l (p3 + 1) _ _ _ ++ [(k.pb, listOf #[] nb)]) (by k_asm) (by k_asm) ?sub1 ⟨_, _, _, _, _, rfl, hdn3, rfl⟩
            case sub1 => walk_at "fn_sub"
          · have hc3 : c3 = 92 := txt_eq1 (b := 92) (by assumption)
            have hw3 : c3 ≠ 34 := txt_ne1 (b := 34) (by assumption)
            obtain ⟨d, r4, hr3, hb4⟩ := quoted_esc hb3 hw3 hc3
            rw [hr3] at hdn3
            have hs4 : sgn l (p3 + 1) = [d] := sgn_of hdn3
            have hlt4 := lt_of_drop hdn3
            have hln4 := lnAt_next hdn3
            (with_reducible rename News _ _ _ _ => NN)
            rw [← hln4] at NN
            refine Stop.mk ?_
            refine' iadd_str ?_ ?hsz2
            case hsz2 => rw [txt_len, txt_len, hs4, sizeLine_eq]; simp only [List.length_cons, List.length_nil]; omega
            intro t5 tk5
            rw [hs4, txt_app]
            walk_at "steps"
            subst hQC
            refine' LedEnd.intro (p3 + 1 + 1, _, _, _, acc ++ [d], _) (by k_asm) (by k_asm) ?sub2 ?hk2 ?hr2 ⟨_, ?lt2, by rw [drop_next hdn3]; exact hb4, by rw [List.length_append]; simp only [List.length_cons, List.length_nil]; omega, rfl⟩
            case sub2 => walk_at "fn_sub"
            case hk2 => refine all_cons ?_ (fun _ h => nomatch h); exact rfl
            case hr2 => (intro z h1 h2; have n1 := h1 _ (.head _); have n3 : z ≠ "ch" := (fun e => by subst e; exact absurd h2 (by decide)); dsimp only at n1 ⊢; simp only [if_neg n1, if_neg n3, kstB, h2, Bool.false_eq_true, if_false])
            case lt2 => dsimp only; omega
          · have hc3 : c3 ≠ 92 := txt_ne1 (b := 92) (by assumption)
            have hw3 : c3 ≠ 34 := txt_ne1 (b := 34) (by assumption)
            have hb4 := quoted_lit hb3 hw3 hc3
            refine Stop.mk ?_
            refine' iadd_str ?_ ?hsz3
            case hsz3 => rw [txt_len, txt_len, sizeLine_eq]; simp only [List.length_cons, List.length_nil]; omega
            intro t5 tk5
            rw [txt_app]
            walk_at "steps"
            subst hQC
            refine' LedEnd.intro (p3 + 1, _, _, _, acc ++ [c3], _) (by k_asm) (by k_asm) ?sub3 ?hk3 ?hr3 ⟨_, ?lt3, by rw [hdn3]; exact hb4, by rw [List.length_append]; simp only [List.length_cons, List.length_nil]; omega, rfl⟩
            case sub3 => walk_at "fn_sub"
            case hk3 => refine all_cons ?_ (fun _ h => nomatch h); exact rfl
            case hr3 => (intro z h1 h2; have n1 := h1 _ (.head _); have n3 : z ≠ "ch" := (fun e => by subst e; exact absurd h2 (by decide)); dsimp only at n1 ⊢; simp only [if_neg n1, if_neg n3, kstB, h2, Bool.false_eq_true, if_false])
            case lt3 => dsimp only; omega
    · have hw : ws c = false := ws_no (by assumption)
      have hc0 : c ≠ 34 := txt_ne1 (b := 34) (by assumption)
      have hc : c = 92 := txt_eq1 (b := 92) (by assumption)
      obtain ⟨d, r2, hr2, hq0⟩ := skip_esc hs1 hw hc0 hc
      rw [hr2] at hdn
      have hq : bare [d] (l.drop (p1 + 1 + 1)) = some (tok, r) := by rw [drop_next hdn]; exact hq0
      have hs2 : sgn l (p1 + 1) = [d] := sgn_of hdn
      have hlt2 := lt_of_drop hdn
      have hln2 := lnAt_next hdn
      (with_reducible rename News _ _ _ _ => NN)
      rw [← hln2] at NN
      refine Stop.mk ?_
      refine' iadd_str ?_ ?hszA
      case hszA => show 0 + (txt (sgn l (p1 + 1))).length ≤ sizeLine; rw [txt_len, hs2, sizeLine_eq]; simp only [List.length_cons, List.length_nil]; omega
      intro t2 tk2'
      rw [hs2, show Str.ofString "" ++ txt [d] = txt [d] from txt_app [] [d]]
      walk_at "steps"
      refine' for_led (σ := Nat × Tok × Nat × Tok × List Nat × Tok) (fun c => k.At l c.1 c.2.1 c.2.2.1 c.2.2.2.1 ++ [(k.pb, listOf #[] nb), (I, ciObj (.ref q) (.str "" _) false), (q, methodObj (.ref 35) (.ref k.x))]) (fun c => [("token", .str (txt c.2.2.2.2.1) c.2.2.2.2.2)]) ["ch"] (fun n c => bare c.2.2.2.2.1 (l.drop c.1) = some (tok, r) ∧ c.2.2.2.2.1.length ≤ c.1 ∧ n = l.length - c.1) (l.length - (p1 + 1 + 1)) ((p1 + 1 + 1), _, _, _, [d], _) (by k_asm) (News.sub (by k_asm) ?sub8) ?hk8 ⟨hq, by simp only [List.length_cons, List.length_nil]; omega, rfl⟩ ?turn8
      case sub8 => walk_at "fn_sub"
      case hk8 => refine all_cons ?_ (fun _ h => nomatch h); exact rfl
      case turn8 =>
        rintro n3 ⟨p3, tp3, m3, tl3, acc, tt3⟩ u3 h3 tk3 ⟨hb3, hl3, hn3⟩ F3 N3
        dsimp only at hb3 hl3 hn3
        cases hdr3 : l.drop p3 with
        | nil => rw [hdr3] at hb3; cases hb3
        | cons c3 r3 =>
          rw [hdr3] at hb3
          have hlt3 := lt_of_drop hdr3
          have hdn3 := drop_next hdr3
          refine next_ci k ok hR hdr3 (by walk_at "fn_here") F3 N3 (.tail _ (.head _)) (.tail _ (.tail _ (.head _))) (by walk_at "fn_apart") ?_
          intro h4 tk4 tv4 tp4 m4 tl4 F4 N4
          dsimp only [ForTurn]
          refine turn_gen fun QC hQC => ?_
          simp only [List.cons_append, List.nil_append] at N4
          walk_at "steps"
          · have hc3 : c3 = 92 := txt_eq1 (b := 92) (by assumption)
            have hw3 : ws c3 = false := ws_no (by assumption)
            obtain ⟨d, r4, hr3, hb4⟩ := bare_esc hb3 hw3 hc3
            rw [hr3] at hdn3
            have hs4 : sgn l (p3 + 1) = [d] := sgn_of hdn3
            have hlt4 := lt_of_drop hdn3
            have hln4 := lnAt_next hdn3
            (with_reducible rename News _ _ _ _ => NN)
            rw [← hln4] at NN
            refine Stop.mk ?_
            refine' iadd_str ?_ ?hsz5
            case hsz5 => rw [txt_len, txt_len, hs4, sizeLine_eq]; simp only [List.length_cons, List.length_nil]; omega
            intro t5 tk5
            rw [hs4, txt_app]
            walk_at "steps"
            subst hQC
            refine' LedEnd.intro (p3 + 1 + 1, _, _, _, acc ++ [d], _) (by k_asm) (by k_asm) ?sub5 ?hk5 ?hr5 ⟨_, ?lt5, by rw [drop_next hdn3]; exact hb4, by rw [List.length_append]; simp only [List.length_cons, List.length_nil]; omega, rfl⟩
            case sub5 => walk_at "fn_sub"
            case hk5 => refine all_cons ?_ (fun _ h => nomatch h); exact rfl
            case hr5 => (intro z h1 h2; have n1 := h1 _ (.head _); have n3 : z ≠ "ch" := (fun e => by subst e; exact absurd h2 (by decide)); dsimp only at n1 ⊢; simp only [if_neg n1, if_neg n3, kstB, h2, Bool.false_eq_true, if_false])
            case lt5 => dsimp only; omega
          · have hc3 : c3 ≠ 92 := txt_ne1 (b := 92) (by assumption)
            have hw3 : ws c3 = false := ws_no (by assumption)
            have hb4 := bare_lit hb3 hw3 hc3
            refine Stop.mk ?_
            refine' iadd_str ?_ ?hsz6
            case hsz6 => rw [txt_len, txt_len, sizeLine_eq]; simp only [List.length_cons, List.length_nil]; omega
            intro t5 tk5
            rw [txt_app]
            walk_at "steps"
            subst hQC
            refine' LedEnd.intro (p3 + 1, _, _, _, acc ++ [c3], _) (by k_asm) (by k_asm) ?sub6 ?hk6 ?hr6 ⟨_, ?lt6, by rw [hdn3]; exact hb4, by rw [List.length_append]; simp only [List.length_cons, List.length_nil]; omega, rfl⟩
            case sub6 => walk_at "fn_sub"
            case hk6 => refine all_cons ?_ (fun _ h => nomatch h); exact rfl
            case hr6 => (intro z h1 h2; have n1 := h1 _ (.head _); have n3 : z ≠ "ch" := (fun e => by subst e; exact absurd h2 (by decide)); dsimp only at n1 ⊢; simp only [if_neg n1, if_neg n3, kstB, h2, Bool.false_eq_true, if_false])
            case lt6 => dsimp only; omega
          · obtain ⟨e1, e2⟩ := bare_end hb3 (ws_yes (by assumption))
            subst e1 e2
            subst hQC
            (try dsimp only [ForPost])
            subst hQB
            (try dsimp only [ForPost])
            first | refine Stop.mk ?_ | skip
            refine' Ends.sub (P' := k.At l (p3 + 1) _ _ _ ++ [(k.pb, listOf #[] nb)]) (by k_asm) (by k_asm) ?sub7 ⟨_, _, _, _, _, rfl, hdn3, rfl⟩
            case sub7 => walk_at "fn_sub"
    · have hw : ws c = false := ws_no (by assumption)
      have hc0 : c ≠ 34 := txt_ne1 (b := 34) (by assumption)
      have hc : c ≠ 92 := txt_ne1 (b := 92) (by assumption)
      have hq : bare [c] (l.drop (p1 + 1)) = some (tok, r) := by rw [hdn]; exact skip_lit hs1 hw hc0 hc
      refine Stop.mk ?_
      refine' iadd_str ?_ ?hszB
      case hszB => show 0 + (txt [c]).length ≤ sizeLine; rw [txt_len, sizeLine_eq]; simp only [List.length_cons, List.length_nil]; omega
      intro t2 tk2'
      rw [show Str.ofString "" ++ txt [c] = txt [c] from txt_app [] [c]]
      walk_at "steps"
      refine' for_led (σ := Nat × Tok × Nat × Tok × List Nat × Tok) (fun c => k.At l c.1 c.2.1 c.2.2.1 c.2.2.2.1 ++ [(k.pb, listOf #[] nb), (I, ciObj (.ref q) (.str "" _) false), (q, methodObj (.ref 35) (.ref k.x))]) (fun c => [("token", .str (txt c.2.2.2.2.1) c.2.2.2.2.2)]) ["ch"] (fun n c => bare c.2.2.2.2.1 (l.drop c.1) = some (tok, r) ∧ c.2.2.2.2.1.length ≤ c.1 ∧ n = l.length - c.1) (l.length - (p1 + 1)) ((p1 + 1), _, _, _, [c], _) (by k_asm) (News.sub (by k_asm) ?sub12) ?hk12 ⟨hq, by simp only [List.length_cons, List.length_nil]; omega, rfl⟩ ?turn12
      case sub12 => walk_at "fn_sub"
      case hk12 => refine all_cons ?_ (fun _ h => nomatch h); exact rfl
      case turn12 =>
        rintro n3 ⟨p3, tp3, m3, tl3, acc, tt3⟩ u3 h3 tk3 ⟨hb3, hl3, hn3⟩ F3 N3
        dsimp only at hb3 hl3 hn3
        cases hdr3 : l.drop p3 with
        | nil => rw [hdr3] at hb3; cases hb3
        | cons c3 r3 =>
          rw [hdr3] at hb3
          have hlt3 := lt_of_drop hdr3
          have hdn3 := drop_next hdr3
          refine next_ci k ok hR hdr3 (by walk_at "fn_here") F3 N3 (.tail _ (.head _)) (.tail _ (.tail _ (.head _))) (by walk_at "fn_apart") ?_
          intro h4 tk4 tv4 tp4 m4 tl4 F4 N4
          dsimp only [ForTurn]
          refine turn_gen fun QC hQC => ?_
          simp only [List.cons_append, List.nil_append] at N4
          walk_at "steps"
          · have hc3 : c3 = 92 := txt_eq1 (b := 92) (by assumption)
            have hw3 : ws c3 = false := ws_no (by assumption)
            obtain ⟨d, r4, hr3, hb4⟩ := bare_esc hb3 hw3 hc3
            rw [hr3] at hdn3
            have hs4 : sgn l (p3 + 1) = [d] := sgn_of hdn3
            have hlt4 := lt_of_drop hdn3
            have hln4 := lnAt_next hdn3
            (with_reducible rename News _ _ _ _ => NN)
            rw [← hln4] at NN
            refine Stop.mk ?_
            refine' iadd_str ?_ ?hsz9
            case hsz9 => rw [txt_len, txt_len, hs4, sizeLine_eq]; simp only [List.length_cons, List.length_nil]; omega
            intro t5 tk5
            rw [hs4, txt_app]
            walk_at "steps"
            subst hQC
            refine' LedEnd.intro (p3 + 1 + 1, _, _, _, acc ++ [d], _) (by k_asm) (by k_asm) ?sub9 ?hk9 ?hr9 ⟨_, ?lt9, by rw [drop_next hdn3]; exact hb4, by rw [List.length_append]; simp only [List.length_cons, List.length_nil]; omega, rfl⟩
            case sub9 => walk_at "fn_sub"
            case hk9 => refine all_cons ?_ (fun _ h => nomatch h); exact rfl
            case hr9 => (intro z h1 h2; have n1 := h1 _ (.head _); have n3 : z ≠ "ch" := (fun e => by subst e; exact absurd h2 (by decide)); dsimp only at n1 ⊢; simp only [if_neg n1, if_neg n3, kstB, h2, Bool.false_eq_true, if_false])
            case lt9 => dsimp only; omega
          · have hc3 : c3 ≠ 92 := txt_ne1 (b := 92) (by assumption)
            have hw3 : ws c3 = false := ws_no (by assumption)
            have hb4 := bare_lit hb3 hw3 hc3
            refine Stop.mk ?_
            refine' iadd_str ?_ ?hsz10
            case hsz10 => rw [txt_len, txt_len, sizeLine_eq]; simp only [List.length_cons, List.length_nil]; omega
            intro t5 tk5
            rw [txt_app]
            walk_at "steps"
            subst hQC
            refine' LedEnd.intro (p3 + 1, _, _, _, acc ++ [c3], _) (by k_asm) (by k_asm) ?sub10 ?hk10 ?hr10 ⟨_, ?lt10, by rw [hdn3]; exact hb4, by rw [List.length_append]; simp only [List.length_cons, List.length_nil]; omega, rfl⟩
            case sub10 => walk_at "fn_sub"
            case hk10 => refine all_cons ?_ (fun _ h => nomatch h); exact rfl
            case hr10 => (intro z h1 h2; have n1 := h1 _ (.head _); have n3 : z ≠ "ch" := (fun e => by subst e; exact absurd h2 (by decide)); dsimp only at n1 ⊢; simp only [if_neg n1, if_neg n3, kstB, h2, Bool.false_eq_true, if_false])
            case lt10 => dsimp only; omega
          · obtain ⟨e1, e2⟩ := bare_end hb3 (ws_yes (by assumption))
            subst e1 e2
            subst hQC
            (try dsimp only [ForPost])
            subst hQB
            (try dsimp only [ForPost])
            first | refine Stop.mk ?_ | skip
            refine' Ends.sub (P' := k.At l (p3 + 1) _ _ _ ++ [(k.pb, listOf #[] nb)]) (by k_asm) (by k_asm) ?sub11 ⟨_, _, _, _, _, rfl, hdn3, rfl⟩
            case sub11 => walk_at "fn_sub"
    · have hw : ws c = true := ws_yes (by assumption)
      subst hQB
      dsimp only [ForPost]
      refine' LedEnd.intro (p1 + 1, _, _, _) (by k_asm) (by k_asm) ?subZ (fun _ h => nomatch h) ?hrZ ⟨_, ?ltZ, by rw [hdn]; exact skip_ws hs1 hw, rfl⟩
      case subZ => walk_at "fn_sub"
      case hrZ =>
        intro z h1 h2
        have n3 : z ≠ "ch" := fun e => by subst e; exact absurd h2 (by decide)
        dsimp only
        simp only [if_neg n3, kstB, h2, Bool.false_eq_true, if_false]
      case ltZ => dsimp only; omega
end
section
example : True := by
  k_with_none
  k_with "x fn_open" =>
    with_unfolding_all refine' Fn.plain ?ho ?hcd ?hbind ?hloc ?_ ?hD ?hco ?hgen ?hk ?hcell
    case ho => k_is
    case hcd => k_is
    case hbind => exact fun s => BindsTo.of_eq rfl
    case hloc => exact locs rfl
    case hD => decide
    case hco => exact rfl
    case hgen => exact rfl
    case hk => exact rfl
    case hcell => decide
    intro gd outer A₀ base g L s B X T F N lt
  k_with "x fn_cells" =>
    with_unfolding_all refine' Fn.cells ?ho ?hcd ?hbind ?hkind ?hnd ?_ ?hD ?hco ?hgen ?hk
    case ho => k_is
    case hcd => k_is
    case hbind => exact fun s => BindsTo.of_eq rfl
    case hkind => exact rfl
    case hnd => decide +kernel
    case hD => decide
    case hco => exact rfl
    case hgen => exact rfl
    case hk => exact rfl
    intro gd outer A₀ base g L s cells B X T F N Y lt
  k_with "x fn_made" =>
    with_unfolding_all refine' Fn.made ?ho ?hc ?hcd ?hcv ?hbind ?hloc ?_ ?hD ?hco ?hgen ?hk ?hcell
    case ho => k_mem
    case hc => k_mem
    case hcd => assumption
    case hcv => assumption
    case hbind => exact fun s => BindsTo.of_eq rfl
    case hloc => exact locs rfl
    case hD => decide
    case hco => exact rfl
    case hgen => exact rfl
    case hk => exact rfl
    case hcell => decide
    intro gd outer A₀ base g L s B X T F N lt
  k_with "x Ends" => refine stop ?_
  k_with "x steps" => repeat' (first | (k_unfold; (try dsimp only)) | walk1 | (dsimp only; walk1))
  k_with "x fn_pick" => first | exact Pick.here | (refine' Pick.there ?p1; (case p1 => k_extra "x fn_pick"))
  k_with "x fn_split" => first | exact Split.nil | (refine' Split.cons ?a1 ?b1; (case a1 => k_extra "x fn_pick"); (case b1 => k_extra "x fn_split"))
  k_with "x fn_nes" => first | exact all_nil | ((with_reducible refine ne_consL ?_ ?_); (focus (k_extra "x fn_nes")); k_extra "x ne") | ((fail_if_success with_reducible refine ne_consL ?_ ?_); refine' all_cons ?a2 ?b2; (case a2 => k_ne); (case b2 => k_extra "x fn_nes")) | k_extra "x k_tl"
  k_with "x fn_apart" => first | exact apart_nil | ((with_reducible refine' apart_consP ?a3 ?b3); (case a3 => k_extra "x fn_nes"); (case b3 => k_extra "x fn_apart")) | ((fail_if_success with_reducible refine apart_consP ?_ ?_); refine' apart_cons ?a3 ?b3; (case a3 => k_extra "x fn_nes"); (case b3 => k_extra "x fn_apart"))
  k_with "x fn_here" => exact ⟨by k_asm, by k_asm, by k_asm, rfl, rfl, rfl, rfl, Nat.le_of_ble_eq_true rfl, Nat.le_of_ble_eq_true rfl⟩
  k_with "x fn_sub" => first | exact all_nil | (refine' all_cons ?a4 ?b4; (case a4 => k_mem); (case b4 => k_extra "x fn_sub"))
  k_with "x k_all" => first | exact all_nil | ((with_reducible refine ne_consR ?_ ?_); (focus (k_extra "x k_all")); k_extra "x ne") | ((fail_if_success with_reducible refine ne_consR ?_ ?_); refine' all_cons ?a5 ?b5; (case a5 => k_ne); (case b5 => k_extra "x k_all")) | k_extra "x k_tl"
  k_with "x fn_ords" => first | exact all_nil | (refine' all_cons ?a6 ?b6; (case a6 => ((try dsimp only); first | k_extra "x k_lo" | exact Nat.le_refl _ | (refine Nat.le_of_lt ?_; k_extra "x k_lo") | (simp only [AllLt, and_true] at *; omega))); (case b6 => k_extra "x fn_ords"))
  k_with "x k_mt" => first | assumption | (refine mem_t ?_; k_extra "x k_mt")
  k_with "x k_tl" => first | exact fun q hq => ne_lt (ltA (o := q.2) (by with_reducible assumption) (by k_extra "x k_mt")) | with_reducible assumption
  k_with "x k_mem" => k_extra "x k_mm"
  k_with "x ne" => first
    | exact neA (by with_reducible assumption) (by k_extra "x k_mm")
    | exact neB (by with_reducible assumption) (by k_extra "x k_mm")
    | with_reducible assumption
    | exact Ne.symm (by with_reducible assumption)
    | ((repeat refine ne_s ?_); first | exact ne_z1 | exact ne_z2 | exact ne_z3 | exact ne_z4 | exact ne_z5 | exact ne_z6 | exact ne_z7 | exact ne_z8 | exact ne_z1.symm | exact ne_z2.symm | exact ne_z3.symm | exact ne_z4.symm | exact ne_z5.symm | exact ne_z6.symm | exact ne_z7.symm | exact ne_z8.symm)
    | (refine ne_lt ?_; k_extra "x k_lo")
    | (refine ne_gt ?_; k_extra "x k_lo")
  k_with "x k_mm" => with_reducible (first | exact mem_0 | exact mem_1 | exact mem_2 | exact mem_3 | exact mem_4 | exact mem_5 | exact mem_6 | exact mem_7 | exact mem_8 | exact mem_9 | (refine mem_s ?_; k_extra "x k_mm"))
  k_with "x k_q1" => exact ltA (by with_reducible assumption) (by k_extra "x k_mm")
  k_with "x k_up" => first | exact ltP (by with_reducible assumption) | exact ltP2 (by with_reducible assumption) | exact ltP3 (by with_reducible assumption) | exact ltP4 (by with_reducible assumption) | exact ltP5 (by with_reducible assumption) | exact ltP6 (by with_reducible assumption) | exact ltP7 (by with_reducible assumption) | exact ltP8 (by with_reducible assumption) 
  k_with "x k_hi" => first | with_reducible assumption | k_extra "x k_q1" | exact ltR (by with_reducible assumption) (by k_extra "x k_mm") | k_extra "x k_up" | (refine Nat.lt_trans ?_ (by with_reducible assumption); k_extra "x k_hi")
  k_with "x k_l1" => first | k_extra "x k_q1" | exact ltZ | k_extra "x k_hi" | (refine ltS ?_; k_extra "x k_l1")
  k_with "x k_l2" => first | k_extra "x k_l1" | (refine Nat.lt_trans (by with_reducible assumption) ?_; k_extra "x k_l2")
  k_with "x k_lo" => ((fail_if_success (with_reducible show @LT.lt Nat _ _ 79)); k_extra "x k_l2")
  k_with "x k_ne" => (refine neN ?_; (try dsimp only); k_extra "x ne")
  k_with "x truthy ref" => refine wpAny_truthy_list (News.isList (by k_asm) (by k_mem)) (by decide) ?_
  k_with "x call builtin:iter" => (refine' call_iter2_N ?F ?N ?m ?_; (case F => k_asm); (case N => k_asm); (case m => k_mem); intro I h' F' N' l2; k_lt l2)
  k_with "x exec For Name Name cons nil" => (refine' wpAny_For ?_ ?hs; (case hs => (intro _; with_unfolding_all rfl)))
  k_with "x pyIter ref" => (refine' pyIter_ci_N ?N ?m ?_; (case N => k_asm); (case m => k_mem))
  k_with "x call ref" => ((with_reducible show wpAny _ _ (call (Value.ref 35) _) _ _ _); refine' Fn.use (c_readchar k ok l hR _ _ _ _ _) ?H ?F ?N ?S ?A ?_; (case H => k_extra "x fn_here"); (case F => k_asm); (case N => k_asm); (case S => k_extra "x fn_split"); (case A => k_extra "x fn_apart"); (rintro v P' h' tk' ⟨tv', tp', n', tl', rfl, rfl⟩ F' N_NOW ap'); (simp only [List.cons_append, List.nil_append] at N_NOW))
  k_with "x inplaceOp Add str str" => refine stop ?_
  k_with "x ite" => ((with_reducible show (if (!(List.isEmpty (PySem.Builtin.Str.occurrences _ _ _ _ _))) = true then _ else _)); refine stop ?_)
  trivial
theorem c_get_end (k : Lx) (ok : k.Ok) (l : List Nat) (hl : l.length ≤ 1000000) (hR : k.Reads w mean mg mb l) (p : Nat) (tp : Tok) (n : Nat) (tl : Tok) (nb : Nat) (hs : (l.drop p).all ws = true) :
    FD 450 w mean mg mb 42 [.ref k.x] (k.At l p tp n tl ++ [(k.pb, listOf #[] nb)])
    (fun v P' => ∃ tv p' tp' n' tl', v = .str (txt []) tv ∧ l.length ≤ p' ∧ P' = k.At l p' tp' n' tl' ++ [(k.pb, listOf #[] nb)]) := by
  have ok' := ok
  obtain ⟨a1, a2, a3, a4, a5, a6, a7, a8, a9⟩ := ok'
  walk_at "fn_open"
  with_reducible refine body_open F [("self", .ref k.x)] ?hps ?_
  case hps => exact (all_cons rfl all_nil)
  clear F
  intro m0 F AA ee QQ
  simp only [List.cons_append, List.nil_append] at N
  walk_at "steps"
  rename_i q _ l1 _ F0 N0
  refine for_led (σ := Nat × Tok × Nat × Tok) (fun c => k.At l c.1 c.2.1 c.2.2.1 c.2.2.2 ++ [(k.pb, listOf #[] nb), (I, ciObj (.ref q) (.str "" _) false), (q, methodObj (.ref 35) (.ref k.x))]) (fun _ => []) ["ch"] (fun n c => (l.drop c.1).all ws = true ∧ n = l.length - c.1) (l.length - p) (p, tp, n, tl) F0 (News.sub N0 (by walk_at "fn_sub")) (fun _ h => nomatch h) ⟨hs, rfl⟩ ?_
  rintro n1 ⟨p1, tp1, m1, tl1⟩ u h1 tk1 ⟨hs1, hn1⟩ F1 N1
  dsimp only at hs1 hn1
  cases hdr : l.drop p1 with
  | nil =>
    refine next_end k ok hR hdr (by walk_at "fn_here") F1 N1 (.tail _ (.head _)) (.tail _ (.tail _ (.head _))) (by walk_at "fn_apart") (rest' := [(k.pb, listOf #[] nb)]) (fun q hq => by rw [List.mem_singleton.mp hq]; exact ⟨.head _, by k_ne⟩) ?_
    intro h2 tk2 tp2 m2 tl2 F2 N2
    dsimp only [ForTurn]
    simp only [List.cons_append, List.nil_append] at N2
    walk_at "steps"
    refine' ⟨Ends.sub (P' := k.At l (p1 + 1) _ _ _ ++ [(k.pb, listOf #[] nb)]) (by k_asm) (by k_asm) ?sub1 ⟨_, _, _, _, _, rfl, Nat.le_succ_of_le (List.drop_eq_nil_iff.mp hdr), rfl⟩⟩
    case sub1 => walk_at "fn_sub"
  | cons c rr =>
    rw [hdr] at hs1
    have hlt := lt_of_drop hdr
    have hdn := drop_next hdr
    rw [List.all_cons, Bool.and_eq_true] at hs1
    refine next_ci k ok hR hdr (by walk_at "fn_here") F1 N1 (.tail _ (.head _)) (.tail _ (.tail _ (.head _))) (by walk_at "fn_apart") ?_
    intro h2 tk2 tv tp2 m2 tl2 F2 N2
    dsimp only [ForTurn]
    refine turn_gen fun QB hQB => ?_
    simp only [List.cons_append, List.nil_append] at N2
    walk_at "steps"
    refine ⟨?_⟩
    rw [ws_occ, hs1.1, if_pos (show (!!true) = true from rfl)]
    walk_at "steps"
    subst hQB
    dsimp only [ForPost]
    refine' LedEnd.intro (p1 + 1, _, _, _) (by k_asm) (by k_asm) ?subZ (fun _ h => nomatch h) ?hrZ ⟨_, ?ltZ, by rw [hdn]; exact hs1.2, rfl⟩
    case subZ => walk_at "fn_sub"
    case hrZ =>
      intro z h1 h2
      have n3 : z ≠ "ch" := fun e => by subst e; exact absurd h2 (by decide)
      dsimp only
      simp only [if_neg n3, kstB, h2, Bool.false_eq_true, if_false]
    case ltZ => dsimp only; omega
end
section
example : True := by
  k_with_none
  k_with "x fn_open" =>
    with_unfolding_all refine' Fn.plain ?ho ?hcd ?hbind ?hloc ?_ ?hD ?hco ?hgen ?hk ?hcell
    case ho => k_is
    case hcd => k_is
    case hbind => exact fun s => BindsTo.of_eq rfl
    case hloc => exact locs rfl
    case hD => decide
    case hco => exact rfl
    case hgen => exact rfl
    case hk => exact rfl
    case hcell => decide
    intro gd outer A₀ base g L s B X T F N lt
  k_with "x fn_cells" =>
    with_unfolding_all refine' Fn.cells ?ho ?hcd ?hbind ?hkind ?hnd ?_ ?hD ?hco ?hgen ?hk
    case ho => k_is
    case hcd => k_is
    case hbind => exact fun s => BindsTo.of_eq rfl
    case hkind => exact rfl
    case hnd => decide +kernel
    case hD => decide
    case hco => exact rfl
    case hgen => exact rfl
    case hk => exact rfl
    intro gd outer A₀ base g L s cells B X T F N Y lt
  k_with "x fn_made" =>
    with_unfolding_all refine' Fn.made ?ho ?hc ?hcd ?hcv ?hbind ?hloc ?_ ?hD ?hco ?hgen ?hk ?hcell
    case ho => k_mem
    case hc => k_mem
    case hcd => assumption
    case hcv => assumption
    case hbind => exact fun s => BindsTo.of_eq rfl
    case hloc => exact locs rfl
    case hD => decide
    case hco => exact rfl
    case hgen => exact rfl
    case hk => exact rfl
    case hcell => decide
    intro gd outer A₀ base g L s B X T F N lt
  k_with "x Ends" => refine stop ?_
  k_with "x steps" => repeat' (first | (k_unfold; (try dsimp only)) | walk1 | (dsimp only; walk1))
  k_with "x fn_pick" => first | exact Pick.here | (refine' Pick.there ?p1; (case p1 => k_extra "x fn_pick"))
  k_with "x fn_split" => first | exact Split.nil | (refine' Split.cons ?a1 ?b1; (case a1 => k_extra "x fn_pick"); (case b1 => k_extra "x fn_split"))
  k_with "x fn_nes" => first | exact all_nil | ((with_reducible refine ne_consL ?_ ?_); (focus (k_extra "x fn_nes")); k_extra "x ne") | ((fail_if_success with_reducible refine ne_consL ?_ ?_); refine' all_cons ?a2 ?b2; (case a2 => k_ne); (case b2 => k_extra "x fn_nes")) | k_extra "x k_tl"
  k_with "x fn_apart" => first | exact apart_nil | ((with_reducible refine' apart_consP ?a3 ?b3); (case a3 => k_extra "x fn_nes"); (case b3 => k_extra "x fn_apart")) | ((fail_if_success with_reducible refine apart_consP ?_ ?_); refine' apart_cons ?a3 ?b3; (case a3 => k_extra "x fn_nes"); (case b3 => k_extra "x fn_apart"))
  k_with "x fn_here" => exact ⟨by k_asm, by k_asm, by k_asm, rfl, rfl, rfl, rfl, Nat.le_of_ble_eq_true rfl, Nat.le_of_ble_eq_true rfl⟩
  k_with "x fn_sub" => first | exact all_nil | (refine' all_cons ?a4 ?b4; (case a4 => k_mem); (case b4 => k_extra "x fn_sub"))
  k_with "x k_all" => first | exact all_nil | ((with_reducible refine ne_consR ?_ ?_); (focus (k_extra "x k_all")); k_extra "x ne") | ((fail_if_success with_reducible refine ne_consR ?_ ?_); refine' all_cons ?a5 ?b5; (case a5 => k_ne); (case b5 => k_extra "x k_all")) | k_extra "x k_tl"
  k_with "x fn_ords" => first | exact all_nil | (refine' all_cons ?a6 ?b6; (case a6 => ((try dsimp only); first | k_extra "x k_lo" | exact Nat.le_refl _ | (refine Nat.le_of_lt ?_; k_extra "x k_lo") | (simp only [AllLt, and_true] at *; omega))); (case b6 => k_extra "x fn_ords"))
  k_with "x k_mt" => first | assumption | (refine mem_t ?_; k_extra "x k_mt")
  k_with "x k_tl" => first | exact fun q hq => ne_lt (ltA (o := q.2) (by with_reducible assumption) (by k_extra "x k_mt")) | with_reducible assumption
  k_with "x k_mem" => k_extra "x k_mm"
  k_with "x ne" => first
    | exact neA (by with_reducible assumption) (by k_extra "x k_mm")
    | exact neB (by with_reducible assumption) (by k_extra "x k_mm")
    | with_reducible assumption
    | exact Ne.symm (by with_reducible assumption)
    | ((repeat refine ne_s ?_); first | exact ne_z1 | exact ne_z2 | exact ne_z3 | exact ne_z4 | exact ne_z5 | exact ne_z6 | exact ne_z7 | exact ne_z8 | exact ne_z1.symm | exact ne_z2.symm | exact ne_z3.symm | exact ne_z4.symm | exact ne_z5.symm | exact ne_z6.symm | exact ne_z7.symm | exact ne_z8.symm)
    | (refine ne_lt ?_; k_extra "x k_lo")
    | (refine ne_gt ?_; k_extra "x k_lo")
  k_with "x k_mm" => with_reducible (first | exact mem_0 | exact mem_1 | exact mem_2 | exact mem_3 | exact mem_4 | exact mem_5 | exact mem_6 | exact mem_7 | exact mem_8 | exact mem_9 | (refine mem_s ?_; k_extra "x k_mm"))
  k_with "x k_q1" => exact ltA (by with_reducible assumption) (by k_extra "x k_mm")
  k_with "x k_up" => first | exact ltP (by with_reducible assumption) | exact ltP2 (by with_reducible assumption) | exact ltP3 (by with_reducible assumption) | exact ltP4 (by with_reducible assumption) | exact ltP5 (by with_reducible assumption) | exact ltP6 (by with_reducible assumption) | exact ltP7 (by with_reducible assumption) | exact ltP8 (by with_reducible assumption) 
  k_with "x k_hi" => first | with_reducible assumption | k_extra "x k_q1" | exact ltR (by with_reducible assumption) (by k_extra "x k_mm") | k_extra "x k_up" | (refine Nat.lt_trans ?_ (by with_reducible assumption); k_extra "x k_hi")
  k_with "x k_l1" => first | k_extra "x k_q1" | exact ltZ | k_extra "x k_hi" | (refine ltS ?_; k_extra "x k_l1")
  k_with "x k_l2" => first | k_extra "x k_l1" | (refine Nat.lt_trans (by with_reducible assumption) ?_; k_extra "x k_l2")
  k_with "x k_lo" => ((fail_if_success (with_reducible show @LT.lt Nat _ _ 79)); k_extra "x k_l2")
  k_with "x k_ne" => (refine neN ?_; (try dsimp only); k_extra "x ne")
  k_with "x eval ListComp" => refine stop ?_
  k_with "x call ref" => refine stop ?_
  k_with "x pyIter" => refine stop ?_
  k_with "x fn_comp" => (refine ⟨?_⟩; (with_unfolding_all refine comp_openU (by with_unfolding_all rfl) (by rfl) (by decide) ?_ (fun _ => rfl)))
  trivial
theorem c_word (x : Int) (t : Tok) (hx : x.natAbs < 16 ^ 20) : FD 490 w mean mg mb 89 [.int x t] [] (fun v P' => ∃ tk, v = .str (txt ((apL x.natAbs).map (·.toNat))) tk ∧ P' = []) := by
  walk_at "fn_open"
  with_reducible refine body_open F [("number", .int x t)] ?hps ?_
  case hps => exact (all_cons rfl all_nil)
  clear F
  intro m0 F AA ee QQ
  walk_at "steps"
  walk_at "fn_comp"
  walk_at "steps"
  refine ⟨?_⟩
  refine Fn.use (c_int2ap x t hx) (by walk_at "fn_here") (by k_asm) (by k_asm) (by walk_at "fn_split") (by walk_at "fn_apart") ?_
  rintro v P' h1 tk1 ⟨tk, rfl, rfl⟩ F1 N1 -
  dsimp only [List.nil_append] at N1
  walk_at "steps"
  refine ⟨iter_bytes_N F1 N1 ?_⟩
  intro I oI St h2 S F2 N2 lt2
  have hlen := apL_len 20 _ hx
  refine' comp_pure S rfl (fun i ys => StrsAre ys (((apL x.natAbs).take i).map fun c => txt [c.toNat]) ∧ i ≤ 20) F2 N2 lt2 (fun _ h => nomatch h) ⟨.nil, by decide⟩ ?turn ?hsz ?done ?b1 ?b2 ?b3
  case b1 => decide
  case b2 => rfl
  case b3 => rfl
  case hsz => 
    rintro i ys ⟨hs, hi⟩
    rw [hs.len_eq, List.length_map, List.length_take, sizeLine_eq]; omega
  case turn =>
    rintro i ys v C D oI' oC mC kD h tk3 hi ⟨c, u, hc, rfl⟩ ⟨hs, -⟩ F3 N3 hns hxv
    refine comp_gen fun PY PN hPY hPN => ?_
    walk_at "steps"
    have hc' := c.toNat_lt
    have hi' : i < (apL x.natAbs).length := hi
    refine chr_of_range (by omega) (by omega) ?_
    subst hPY
    refine PureEnd.intro F3 N3 ⟨?_, (by omega)⟩
    have hc2 : (apL x.natAbs)[i]? = some c := by simpa using hc
    rw [take_snoc hc2, List.map_append]
    exact StrsAre.snoc hs _ _
  case done =>
    rintro ys D kD h tk3 ⟨hs, -⟩ F3 N3 hD
    walk_at "steps"
    have e : ((apL x.natAbs).take (apL x.natAbs).toArray.size) = apL x.natAbs := by rw [List.size_toArray, List.take_length]
    rw [e] at hs
    refine join_listW (News.isList N3 (.head _)) hs (by decide) ?_ ?_
    · rw [List.map_map, List.length_map]
      have e2 : ((apL x.natAbs).map ((fun s : Str => s.length) ∘ fun c : UInt8 => txt [c.toNat])) = (apL x.natAbs).map fun _ => 1 := List.map_congr_left fun _ _ => txt_len _
      rw [e2, List.map_const', List.sum_replicate_nat]
      omega
    · intro t' k'
      walk_at "steps"
      refine ⟨Ends.sub (P' := []) (by k_asm) (by k_asm) (fun _ h => (nomatch h)) ⟨t', ?_, rfl⟩⟩
      have e3 : ((apL x.natAbs).map fun c => txt [c.toNat]) = (((apL x.natAbs).map fun c => [c.toNat]).map fun l => txt l) := by rw [List.map_map]; rfl
      rw [e3, join_txts]
      rw [flatten_ones]
      rfl
end
section
example : True := by
  k_with_none
  k_with "x fn_open" =>
    with_unfolding_all refine' Fn.plain ?ho ?hcd ?hbind ?hloc ?_ ?hD ?hco ?hgen ?hk ?hcell
    case ho => k_is
    case hcd => k_is
    case hbind => exact fun s => BindsTo.of_eq rfl
    case hloc => exact locs rfl
    case hD => decide
    case hco => exact rfl
    case hgen => exact rfl
    case hk => exact rfl
    case hcell => decide
    intro gd outer A₀ base g L s B X T F N lt
  k_with "x fn_cells" =>
    with_unfolding_all refine' Fn.cells ?ho ?hcd ?hbind ?hkind ?hnd ?_ ?hD ?hco ?hgen ?hk
    case ho => k_is
    case hcd => k_is
    case hbind => exact fun s => BindsTo.of_eq rfl
    case hkind => exact rfl
    case hnd => decide +kernel
    case hD => decide
    case hco => exact rfl
    case hgen => exact rfl
    case hk => exact rfl
    intro gd outer A₀ base g L s cells B X T F N Y lt
  k_with "x fn_made" =>
    with_unfolding_all refine' Fn.made ?ho ?hc ?hcd ?hcv ?hbind ?hloc ?_ ?hD ?hco ?hgen ?hk ?hcell
    case ho => k_mem
    case hc => k_mem
    case hcd => assumption
    case hcv => assumption
    case hbind => exact fun s => BindsTo.of_eq rfl
    case hloc => exact locs rfl
    case hD => decide
    case hco => exact rfl
    case hgen => exact rfl
    case hk => exact rfl
    case hcell => decide
    intro gd outer A₀ base g L s B X T F N lt
  k_with "x Ends" => refine stop ?_
  k_with "x steps" => repeat' (first | (k_unfold; (try dsimp only)) | walk1 | (dsimp only; walk1))
  k_with "x fn_pick" => first | exact Pick.here | (refine' Pick.there ?p1; (case p1 => k_extra "x fn_pick"))
  k_with "x fn_split" => first | exact Split.nil | (refine' Split.cons ?a1 ?b1; (case a1 => k_extra "x fn_pick"); (case b1 => k_extra "x fn_split"))
  k_with "x fn_nes" => first | exact all_nil | ((with_reducible refine ne_consL ?_ ?_); (focus (k_extra "x fn_nes")); k_extra "x ne") | ((fail_if_success with_reducible refine ne_consL ?_ ?_); refine' all_cons ?a2 ?b2; (case a2 => k_ne); (case b2 => k_extra "x fn_nes")) | k_extra "x k_tl"
  k_with "x fn_apart" => first | exact apart_nil | ((with_reducible refine' apart_consP ?a3 ?b3); (case a3 => k_extra "x fn_nes"); (case b3 => k_extra "x fn_apart")) | ((fail_if_success with_reducible refine apart_consP ?_ ?_); refine' apart_cons ?a3 ?b3; (case a3 => k_extra "x fn_nes"); (case b3 => k_extra "x fn_apart"))
  k_with "x fn_here" => exact ⟨by k_asm, by k_asm, by k_asm, rfl, rfl, rfl, rfl, Nat.le_of_ble_eq_true rfl, Nat.le_of_ble_eq_true rfl⟩
  k_with "x fn_sub" => first | exact all_nil | (refine' all_cons ?a4 ?b4; (case a4 => k_mem); (case b4 => k_extra "x fn_sub"))
  k_with "x k_all" => first | exact all_nil | ((with_reducible refine ne_consR ?_ ?_); (focus (k_extra "x k_all")); k_extra "x ne") | ((fail_if_success with_reducible refine ne_consR ?_ ?_); refine' all_cons ?a5 ?b5; (case a5 => k_ne); (case b5 => k_extra "x k_all")) | k_extra "x k_tl"
  k_with "x fn_ords" => first | exact all_nil | (refine' all_cons ?a6 ?b6; (case a6 => ((try dsimp only); first | k_extra "x k_lo" | exact Nat.le_refl _ | (refine Nat.le_of_lt ?_; k_extra "x k_lo") | (simp only [AllLt, and_true] at *; omega))); (case b6 => k_extra "x fn_ords"))
  k_with "x k_mt" => first | assumption | (refine mem_t ?_; k_extra "x k_mt")
  k_with "x k_tl" => first | exact fun q hq => ne_lt (ltA (o := q.2) (by with_reducible assumption) (by k_extra "x k_mt")) | with_reducible assumption
  k_with "x k_mem" => k_extra "x k_mm"
  k_with "x ne" => first
    | exact neA (by with_reducible assumption) (by k_extra "x k_mm")
    | exact neB (by with_reducible assumption) (by k_extra "x k_mm")
    | with_reducible assumption
    | exact Ne.symm (by with_reducible assumption)
    | ((repeat refine ne_s ?_); first | exact ne_z1 | exact ne_z2 | exact ne_z3 | exact ne_z4 | exact ne_z5 | exact ne_z6 | exact ne_z7 | exact ne_z8 | exact ne_z1.symm | exact ne_z2.symm | exact ne_z3.symm | exact ne_z4.symm | exact ne_z5.symm | exact ne_z6.symm | exact ne_z7.symm | exact ne_z8.symm)
    | (refine ne_lt ?_; k_extra "x k_lo")
    | (refine ne_gt ?_; k_extra "x k_lo")
  k_with "x k_mm" => with_reducible (first | exact mem_0 | exact mem_1 | exact mem_2 | exact mem_3 | exact mem_4 | exact mem_5 | exact mem_6 | exact mem_7 | exact mem_8 | exact mem_9 | (refine mem_s ?_; k_extra "x k_mm"))
  k_with "x k_q1" => exact ltA (by with_reducible assumption) (by k_extra "x k_mm")
  k_with "x k_up" => first | exact ltP (by with_reducible assumption) | exact ltP2 (by with_reducible assumption) | exact ltP3 (by with_reducible assumption) | exact ltP4 (by with_reducible assumption) | exact ltP5 (by with_reducible assumption) | exact ltP6 (by with_reducible assumption) | exact ltP7 (by with_reducible assumption) | exact ltP8 (by with_reducible assumption) 
  k_with "x k_hi" => first | with_reducible assumption | k_extra "x k_q1" | exact ltR (by with_reducible assumption) (by k_extra "x k_mm") | k_extra "x k_up" | (refine Nat.lt_trans ?_ (by with_reducible assumption); k_extra "x k_hi")
  k_with "x k_l1" => first | k_extra "x k_q1" | exact ltZ | k_extra "x k_hi" | (refine ltS ?_; k_extra "x k_l1")
  k_with "x k_l2" => first | k_extra "x k_l1" | (refine Nat.lt_trans (by with_reducible assumption) ?_; k_extra "x k_l2")
  k_with "x k_lo" => ((fail_if_success (with_reducible show @LT.lt Nat _ _ 79)); k_extra "x k_l2")
  k_with "x k_ne" => (refine neN ?_; (try dsimp only); k_extra "x ne")
  k_with "x eval ListComp" => refine stop ?_
  k_with "x call ref" => refine stop ?_
  k_with "x pyIter" => refine stop ?_
  k_with "x fn_comp" => (refine ⟨?_⟩; (with_unfolding_all refine comp_open (by with_unfolding_all rfl) (by rfl) (by decide) ?_ (fun _ => rfl)))
  k_with "x exec For Name Name cons nil" => refine wpAny_For ?_ (by intro _; with_unfolding_all rfl)
  k_with "x exec For Name Call cons nil" => refine wpAny_For ?_ (by intro _; with_unfolding_all rfl)
  k_with "x exec For Tuple Call cons nil" => refine wpAny_For ?_ (by intro _; with_unfolding_all rfl)
  k_with "x exec For Name Name" => refine wpAny_For ?_ (by intro _; with_unfolding_all rfl)
  k_with "x exec For Name Call" => refine wpAny_For ?_ (by intro _; with_unfolding_all rfl)
  k_with "x last exec For Name Name" => refine wpAny_For ?_ (by intro _; with_unfolding_all rfl)
  trivial
theorem c_number (l : List Nat) (t : Tok) (h0 : l.head? ≠ some 65) (hl : l.length ≤ 100) : FD 490 w mean mg mb 96 [.str (txt l) t] [] (fun v P' => ∃ tk, v = .int (numOf l) tk ∧ P' = []) := by
  walk_at "fn_open"
  with_reducible refine body_open F [("word", .str (txt l) t)] ?hps ?_
  case hps => exact (all_cons rfl all_nil)
  clear F
  intro m0 F AA ee QQ
  walk_at "steps"
  · exact absurd (no_head (c := 65) (by assumption)) h0
  · refine ⟨iter_str_N (by k_asm) (by k_asm) ?_⟩
    intro I oI St h2 S F2 N2 lt2
    dsimp only
    refine' for_src (σ := Int × Tok) S rfl (fun _ => []) (fun c => [("number", .int c.1 c.2)]) ["sign"] (fun i c => c.1 = numOf (l.take i)) (0, _) F2 N2 (fun _ h => nomatch h) ?hk1 (fun _ _ _ _ h => nomatch h) rfl ?turn1 ?done1
    case hk1 => refine all_cons ?_ (fun _ h => nomatch h); exact rfl
    case turn1 =>
      rintro i ⟨num, t1⟩ u h tk3 v oI' hi ⟨c, u2, hc, rfl⟩ hJ F3 N3 hI
      dsimp only at hJ
      refine turn_gen fun QB hQB => ?_
      walk_at "steps"
      subst hQB
      refine' LedEnd.intro (num * 16 + c - 65, _) (by k_asm) (by k_asm) ?sub1 ?hk2 ?hr1 ⟨(fun _ h => nomatch h), ?J1⟩
      case sub1 => walk_at "fn_sub"
      case hk2 => refine all_cons ?_ (fun _ h => nomatch h); exact rfl
      case hr1 => (intro z h1 h2; have n1 := h1 _ (.head _); have n3 : z ≠ "sign" := (fun e => by subst e; exact absurd h2 (by decide)); dsimp only at n1 ⊢; simp only [if_neg n1, if_neg n3, kstB, h2, Bool.false_eq_true, if_false])
      case J1 => (dsimp only; rw [hJ]; exact (numOf_snoc (by simpa using hc)).symm)
    case done1 =>
      rintro ⟨num, t1⟩ u h tk3 hJ F3 N3
      dsimp only at hJ
      walk_at "steps"
      have hJ2 : num = numOf l := by rw [hJ, List.size_toArray, List.take_length]
      refine ⟨Ends.sub (P' := []) (by k_asm) (by k_asm) (fun _ h => (nomatch h)) ⟨t1, ?_, rfl⟩⟩
      rw [← hJ2]
      rfl
end
section
example : True := by
  k_with_none
  k_with "x fn_open" =>
    with_unfolding_all refine' Fn.plain ?ho ?hcd ?hbind ?hloc ?_ ?hD ?hco ?hgen ?hk ?hcell
    case ho => k_is
    case hcd => k_is
    case hbind => exact fun s => BindsTo.of_eq rfl
    case hloc => exact locs rfl
    case hD => decide
    case hco => exact rfl
    case hgen => exact rfl
    case hk => exact rfl
    case hcell => decide
    intro gd outer A₀ base g L s B X T F N lt
  k_with "x fn_cells" =>
    with_unfolding_all refine' Fn.cells ?ho ?hcd ?hbind ?hkind ?hnd ?_ ?hD ?hco ?hgen ?hk
    case ho => k_is
    case hcd => k_is
    case hbind => exact fun s => BindsTo.of_eq rfl
    case hkind => exact rfl
    case hnd => decide +kernel
    case hD => decide
    case hco => exact rfl
    case hgen => exact rfl
    case hk => exact rfl
    intro gd outer A₀ base g L s cells B X T F N Y lt
  k_with "x fn_made" =>
    with_unfolding_all refine' Fn.made ?ho ?hc ?hcd ?hcv ?hbind ?hloc ?_ ?hD ?hco ?hgen ?hk ?hcell
    case ho => k_mem
    case hc => k_mem
    case hcd => assumption
    case hcv => assumption
    case hbind => exact fun s => BindsTo.of_eq rfl
    case hloc => exact locs rfl
    case hD => decide
    case hco => exact rfl
    case hgen => exact rfl
    case hk => exact rfl
    case hcell => decide
    intro gd outer A₀ base g L s B X T F N lt
  k_with "x Ends" => refine stop ?_
  k_with "x steps" => repeat' (first | (k_unfold; (try dsimp only)) | walk1 | (dsimp only; walk1))
  k_with "x fn_pick" => first | exact Pick.here | (refine' Pick.there ?p1; (case p1 => k_extra "x fn_pick"))
  k_with "x fn_split" => first | exact Split.nil | (refine' Split.cons ?a1 ?b1; (case a1 => k_extra "x fn_pick"); (case b1 => k_extra "x fn_split"))
  k_with "x fn_nes" => first | exact all_nil | ((with_reducible refine ne_consL ?_ ?_); (focus (k_extra "x fn_nes")); k_extra "x ne") | ((fail_if_success with_reducible refine ne_consL ?_ ?_); refine' all_cons ?a2 ?b2; (case a2 => k_ne); (case b2 => k_extra "x fn_nes")) | k_extra "x k_tl"
  k_with "x fn_apart" => first | exact apart_nil | ((with_reducible refine' apart_consP ?a3 ?b3); (case a3 => k_extra "x fn_nes"); (case b3 => k_extra "x fn_apart")) | ((fail_if_success with_reducible refine apart_consP ?_ ?_); refine' apart_cons ?a3 ?b3; (case a3 => k_extra "x fn_nes"); (case b3 => k_extra "x fn_apart"))
  k_with "x fn_here" => exact ⟨by k_asm, by k_asm, by k_asm, rfl, rfl, rfl, rfl, Nat.le_of_ble_eq_true rfl, Nat.le_of_ble_eq_true rfl⟩
  k_with "x fn_sub" => first | exact all_nil | (refine' all_cons ?a4 ?b4; (case a4 => k_mem); (case b4 => k_extra "x fn_sub"))
  k_with "x k_all" => first | exact all_nil | ((with_reducible refine ne_consR ?_ ?_); (focus (k_extra "x k_all")); k_extra "x ne") | ((fail_if_success with_reducible refine ne_consR ?_ ?_); refine' all_cons ?a5 ?b5; (case a5 => k_ne); (case b5 => k_extra "x k_all")) | k_extra "x k_tl"
  k_with "x fn_ords" => first | exact all_nil | (refine' all_cons ?a6 ?b6; (case a6 => ((try dsimp only); first | k_extra "x k_lo" | exact Nat.le_refl _ | (refine Nat.le_of_lt ?_; k_extra "x k_lo") | (simp only [AllLt, and_true] at *; omega))); (case b6 => k_extra "x fn_ords"))
  k_with "x k_mt" => first | assumption | (refine mem_t ?_; k_extra "x k_mt")
  k_with "x k_tl" => first | exact fun q hq => ne_lt (ltA (o := q.2) (by with_reducible assumption) (by k_extra "x k_mt")) | with_reducible assumption
  k_with "x k_mem" => k_extra "x k_mm"
  k_with "x ne" => first
    | exact neA (by with_reducible assumption) (by k_extra "x k_mm")
    | exact neB (by with_reducible assumption) (by k_extra "x k_mm")
    | with_reducible assumption
    | exact Ne.symm (by with_reducible assumption)
    | ((repeat refine ne_s ?_); first | exact ne_z1 | exact ne_z2 | exact ne_z3 | exact ne_z4 | exact ne_z5 | exact ne_z6 | exact ne_z7 | exact ne_z8 | exact ne_z1.symm | exact ne_z2.symm | exact ne_z3.symm | exact ne_z4.symm | exact ne_z5.symm | exact ne_z6.symm | exact ne_z7.symm | exact ne_z8.symm)
    | (refine ne_lt ?_; k_extra "x k_lo")
    | (refine ne_gt ?_; k_extra "x k_lo")
  k_with "x k_mm" => with_reducible (first | exact mem_0 | exact mem_1 | exact mem_2 | exact mem_3 | exact mem_4 | exact mem_5 | exact mem_6 | exact mem_7 | exact mem_8 | exact mem_9 | (refine mem_s ?_; k_extra "x k_mm"))
  k_with "x k_q1" => exact ltA (by with_reducible assumption) (by k_extra "x k_mm")
  k_with "x k_up" => first | exact ltP (by with_reducible assumption) | exact ltP2 (by with_reducible assumption) | exact ltP3 (by with_reducible assumption) | exact ltP4 (by with_reducible assumption) | exact ltP5 (by with_reducible assumption) | exact ltP6 (by with_reducible assumption) | exact ltP7 (by with_reducible assumption) | exact ltP8 (by with_reducible assumption) 
  k_with "x k_hi" => first | with_reducible assumption | k_extra "x k_q1" | exact ltR (by with_reducible assumption) (by k_extra "x k_mm") | k_extra "x k_up" | (refine Nat.lt_trans ?_ (by with_reducible assumption); k_extra "x k_hi")
  k_with "x k_l1" => first | k_extra "x k_q1" | exact ltZ | k_extra "x k_hi" | (refine ltS ?_; k_extra "x k_l1")
  k_with "x k_l2" => first | k_extra "x k_l1" | (refine Nat.lt_trans (by with_reducible assumption) ?_; k_extra "x k_l2")
  k_with "x k_lo" => ((fail_if_success (with_reducible show @LT.lt Nat _ _ 79)); k_extra "x k_l2")
  k_with "x k_ne" => (refine neN ?_; (try dsimp only); k_extra "x ne")
  k_with "x eval ListComp" => refine stop ?_
  k_with "x call ref" => refine stop ?_
  k_with "x pyIter" => refine stop ?_
  k_with "x fn_comp" => (refine ⟨?_⟩; (with_unfolding_all refine comp_openU (by with_unfolding_all rfl) (by rfl) (by decide) ?_ (fun _ => rfl)))
  k_with "x exec For Name Name cons nil" => refine wpAny_For ?_ (by intro _; with_unfolding_all rfl)
  k_with "x exec For Name Call cons nil" => refine wpAny_For ?_ (by intro _; with_unfolding_all rfl)
  k_with "x exec For Tuple Call cons nil" => refine wpAny_For ?_ (by intro _; with_unfolding_all rfl)
  k_with "x exec For Name Name" => refine wpAny_For ?_ (by intro _; with_unfolding_all rfl)
  k_with "x exec For Name Call" => refine wpAny_For ?_ (by intro _; with_unfolding_all rfl)
  k_with "x last exec For Name Name" => refine wpAny_For ?_ (by intro _; with_unfolding_all rfl)
  k_with "x sadd" => (refine add_str (fun _ _ => ?_) (by show (txt _).length + (txt _).length ≤ sizeLine; rw [txt_len, txt_len, sizeLine_eq]; (try simp only [List.length_append, List.length_cons, List.length_nil]); omega))
  k_with "x binaryOp Add str str" => refine stop ?_
  trivial
theorem c_written (l : List Nat) (t tw : Tok) (way : Nat) (hw : way ≤ 1000000) (hl : l.length ≤ 100) : FD 490 w mean mg mb 101 [.str (txt l) t, .int way tw] [] (fun v P' => ∃ tk, v = .str (txt (wrt l way)) tk ∧ P' = []) := by
  walk_at "fn_open"
  with_reducible refine body_open F [("word", .str (txt l) t), ("way", .int way tw)] ?hps ?_
  case hps => exact (all_cons rfl (all_cons rfl all_nil))
  clear F
  intro m0 F AA ee QQ
  have e34 : Str.ofString "\"" = txt [34] := rfl
  have e92 : Str.ofString "\\" = txt [92] := rfl
  walk_at "steps"
  · have h0 : l = [] := txt_inj (b := []) (eq_of_beq (by assumption))
    rw [e34]
    refine ⟨?_⟩
    walk_at "sadd"
    rw [txt_app]
    walk_at "steps"
    refine ⟨?_⟩
    walk_at "sadd"
    rw [txt_app]
    walk_at "steps"
    rw [item_ws]
    refine ⟨?_⟩
    walk_at "sadd"
    rw [txt_app]
    walk_at "steps"
    refine ⟨Ends.sub (P' := []) (by k_asm) (by k_asm) (fun _ h => (nomatch h)) ⟨_, congrArg (fun x => Value.str (txt x) _) ?_, rfl⟩⟩
    rw [wrt, if_pos (.inl h0)]
  · have h0 : way % 3 = 2 := fmod3.mp (by assumption)
    rw [e34]
    refine ⟨?_⟩
    walk_at "sadd"
    rw [txt_app]
    walk_at "steps"
    refine ⟨?_⟩
    walk_at "sadd"
    rw [txt_app]
    walk_at "steps"
    rw [item_ws]
    refine ⟨?_⟩
    walk_at "sadd"
    rw [txt_app]
    walk_at "steps"
    refine ⟨Ends.sub (P' := []) (by k_asm) (by k_asm) (fun _ h => (nomatch h)) ⟨_, congrArg (fun x => Value.str (txt x) _) ?_, rfl⟩⟩
    rw [wrt, if_pos (.inr h0)]
  · have h0 : way % 3 = 1 := fmod3.mp (by assumption)
    have h1 : ¬ (l = [] ∨ way % 3 = 2) := by
      rintro (rfl | h)
      · exact absurd (show (txt [] == Str.ofString "") = false by assumption) (by decide)
      · omega
    walk_at "fn_comp"
    walk_at "steps"
    refine ⟨iter_str_N (by k_asm) (by k_asm) ?_⟩
    intro I oI St h2 S F2 N2 lt2
    refine' comp_pure S rfl (fun i ys => StrsAre ys ((l.take i).map fun c => txt [92, c]) ∧ i ≤ 100) F2 N2 lt2 (fun _ h => nomatch h) ⟨.nil, by decide⟩ ?turn ?hsz ?done ?b1 ?b2 ?b3
    case b1 => decide
    case b2 => rfl
    case b3 => rfl
    case hsz => 
      rintro i ys ⟨hs, hi⟩
      rw [hs.len_eq, List.length_map, List.length_take, sizeLine_eq]; omega
    case turn =>
      rintro i ys v C D oI' oC mC kD h tk3 hi ⟨c, u, hc, rfl⟩ ⟨hs, -⟩ F3 N3 hns hxv
      refine comp_gen fun PY PN hPY hPN => ?_
      walk_at "steps"
      refine ⟨?_⟩
      rw [e92]
      walk_at "sadd"
      have hi' : i < l.length := hi
      subst hPY
      refine PureEnd.intro F3 N3 ⟨?_, by omega⟩
      have hc2 : l[i]? = some c := by simpa using hc
      rw [take_snoc hc2, List.map_append]
      show StrsAre _ (_ ++ [txt ([92] ++ [c])])
      rw [← txt_app]
      exact StrsAre.snoc hs _ _
    case done =>
      rintro ys D kD h tk3 ⟨hs, -⟩ F3 N3 hD
      walk_at "steps"
      have e : l.take (txt l).cps.size = l := by rw [List.size_toArray, List.take_length]
      rw [e] at hs
      refine join_listW (News.isList N3 (.head _)) hs (by decide) (Nat.le_trans (weigh_map (fun c => [92, c]) 2 l fun _ _ => Nat.le_refl _) (by omega)) ?_
      intro t' k'
      rw [join_map (fun c => [92, c]) l]
      walk_at "steps"
      rw [item_ws]
      have hl2 : (l.map fun c => [92, c]).flatten.length ≤ 200 := by rw [flat2_len]; omega
      refine ⟨?_⟩
      walk_at "sadd"
      rw [txt_app]
      walk_at "steps"
      refine ⟨Ends.sub (P' := []) (by k_asm) (by k_asm) (fun _ h => (nomatch h)) ⟨_, congrArg (fun x => Value.str (txt x) _) ?_, rfl⟩⟩
      rw [wrt, if_neg h1, if_pos h0]
  · have h0 : way % 3 ≠ 1 := fun h => absurd (fmod3.mpr h) (by assumption)
    have h2 : way % 3 ≠ 2 := fun h => absurd (fmod3.mpr h) (by assumption)
    have h1 : ¬ (l = [] ∨ way % 3 = 2) := by
      rintro (rfl | h)
      · exact absurd (show (txt [] == Str.ofString "") = false by assumption) (by decide)
      · omega
    rw [item_ws]
    refine ⟨?_⟩
    walk_at "sadd"
    rw [txt_app]
    walk_at "steps"
    refine ⟨Ends.sub (P' := []) (by k_asm) (by k_asm) (fun _ h => (nomatch h)) ⟨_, congrArg (fun x => Value.str (txt x) _) ?_, rfl⟩⟩
    rw [wrt, if_neg h1, if_neg h0]
end
section
example : True := by
  k_with_none
  k_with "x fn_open" =>
    with_unfolding_all refine' Fn.plain ?ho ?hcd ?hbind ?hloc ?_ ?hD ?hco ?hgen ?hk ?hcell
    case ho => k_is
    case hcd => k_is
    case hbind => exact fun s => BindsTo.of_eq rfl
    case hloc => exact locs rfl
    case hD => decide
    case hco => exact rfl
    case hgen => exact rfl
    case hk => exact rfl
    case hcell => decide
    intro gd outer A₀ base g L s B X T F N lt
  k_with "x fn_cells" =>
    with_unfolding_all refine' Fn.cells ?ho ?hcd ?hbind ?hkind ?hnd ?_ ?hD ?hco ?hgen ?hk
    case ho => k_is
    case hcd => k_is
    case hbind => exact fun s => BindsTo.of_eq rfl
    case hkind => exact rfl
    case hnd => decide +kernel
    case hD => decide
    case hco => exact rfl
    case hgen => exact rfl
    case hk => exact rfl
    intro gd outer A₀ base g L s cells B X T F N Y lt
  k_with "x fn_made" =>
    with_unfolding_all refine' Fn.made ?ho ?hc ?hcd ?hcv ?hbind ?hloc ?_ ?hD ?hco ?hgen ?hk ?hcell
    case ho => k_mem
    case hc => k_mem
    case hcd => assumption
    case hcv => assumption
    case hbind => exact fun s => BindsTo.of_eq rfl
    case hloc => exact locs rfl
    case hD => decide
    case hco => exact rfl
    case hgen => exact rfl
    case hk => exact rfl
    case hcell => decide
    intro gd outer A₀ base g L s B X T F N lt
  k_with "x Ends" => refine stop ?_
  k_with "x steps" => repeat' (first | (k_unfold; (try dsimp only)) | walk1 | (dsimp only; walk1))
  k_with "x fn_pick" => first | exact Pick.here | (refine' Pick.there ?p1; (case p1 => k_extra "x fn_pick"))
  k_with "x fn_split" => first | exact Split.nil | (refine' Split.cons ?a1 ?b1; (case a1 => k_extra "x fn_pick"); (case b1 => k_extra "x fn_split"))
  k_with "x fn_nes" => first | exact all_nil | ((with_reducible refine ne_consL ?_ ?_); (focus (k_extra "x fn_nes")); k_extra "x ne") | ((fail_if_success with_reducible refine ne_consL ?_ ?_); refine' all_cons ?a2 ?b2; (case a2 => k_ne); (case b2 => k_extra "x fn_nes")) | k_extra "x k_tl"
  k_with "x fn_apart" => first | exact apart_nil | ((with_reducible refine' apart_consP ?a3 ?b3); (case a3 => k_extra "x fn_nes"); (case b3 => k_extra "x fn_apart")) | ((fail_if_success with_reducible refine apart_consP ?_ ?_); refine' apart_cons ?a3 ?b3; (case a3 => k_extra "x fn_nes"); (case b3 => k_extra "x fn_apart"))
  k_with "x fn_here" => exact ⟨by k_asm, by k_asm, by k_asm, rfl, rfl, rfl, rfl, Nat.le_of_ble_eq_true rfl, Nat.le_of_ble_eq_true rfl⟩
  k_with "x fn_sub" => first | exact all_nil | (refine' all_cons ?a4 ?b4; (case a4 => k_mem); (case b4 => k_extra "x fn_sub"))
  k_with "x k_all" => first | exact all_nil | ((with_reducible refine ne_consR ?_ ?_); (focus (k_extra "x k_all")); k_extra "x ne") | ((fail_if_success with_reducible refine ne_consR ?_ ?_); refine' all_cons ?a5 ?b5; (case a5 => k_ne); (case b5 => k_extra "x k_all")) | k_extra "x k_tl"
  k_with "x fn_ords" => first | exact all_nil | (refine' all_cons ?a6 ?b6; (case a6 => ((try dsimp only); first | k_extra "x k_lo" | exact Nat.le_refl _ | (refine Nat.le_of_lt ?_; k_extra "x k_lo") | (simp only [AllLt, and_true] at *; omega))); (case b6 => k_extra "x fn_ords"))
  k_with "x k_mt" => first | assumption | (refine mem_t ?_; k_extra "x k_mt")
  k_with "x k_tl" => first | exact fun q hq => ne_lt (ltA (o := q.2) (by with_reducible assumption) (by k_extra "x k_mt")) | with_reducible assumption
  k_with "x k_mem" => k_extra "x k_mm"
  k_with "x ne" => first
    | exact neA (by with_reducible assumption) (by k_extra "x k_mm")
    | exact neB (by with_reducible assumption) (by k_extra "x k_mm")
    | with_reducible assumption
    | exact Ne.symm (by with_reducible assumption)
    | ((repeat refine ne_s ?_); first | exact ne_z1 | exact ne_z2 | exact ne_z3 | exact ne_z4 | exact ne_z5 | exact ne_z6 | exact ne_z7 | exact ne_z8 | exact ne_z1.symm | exact ne_z2.symm | exact ne_z3.symm | exact ne_z4.symm | exact ne_z5.symm | exact ne_z6.symm | exact ne_z7.symm | exact ne_z8.symm)
    | (refine ne_lt ?_; k_extra "x k_lo")
    | (refine ne_gt ?_; k_extra "x k_lo")
  k_with "x k_mm" => with_reducible (first | exact mem_0 | exact mem_1 | exact mem_2 | exact mem_3 | exact mem_4 | exact mem_5 | exact mem_6 | exact mem_7 | exact mem_8 | exact mem_9 | (refine mem_s ?_; k_extra "x k_mm"))
  k_with "x k_q1" => exact ltA (by with_reducible assumption) (by k_extra "x k_mm")
  k_with "x k_up" => first | exact ltP (by with_reducible assumption) | exact ltP2 (by with_reducible assumption) | exact ltP3 (by with_reducible assumption) | exact ltP4 (by with_reducible assumption) | exact ltP5 (by with_reducible assumption) | exact ltP6 (by with_reducible assumption) | exact ltP7 (by with_reducible assumption) | exact ltP8 (by with_reducible assumption) 
  k_with "x k_hi" => first | with_reducible assumption | k_extra "x k_q1" | exact ltR (by with_reducible assumption) (by k_extra "x k_mm") | k_extra "x k_up" | (refine Nat.lt_trans ?_ (by with_reducible assumption); k_extra "x k_hi")
  k_with "x k_l1" => first | k_extra "x k_q1" | exact ltZ | k_extra "x k_hi" | (refine ltS ?_; k_extra "x k_l1")
  k_with "x k_l2" => first | k_extra "x k_l1" | (refine Nat.lt_trans (by with_reducible assumption) ?_; k_extra "x k_l2")
  k_with "x k_lo" => ((fail_if_success (with_reducible show @LT.lt Nat _ _ 79)); k_extra "x k_l2")
  k_with "x k_ne" => (refine neN ?_; (try dsimp only); k_extra "x ne")
  k_with "x eval ListComp" => refine stop ?_
  k_with "x call ref" => refine stop ?_
  k_with "x pyIter" => refine stop ?_
  k_with "x fn_comp" => (refine ⟨?_⟩; (with_unfolding_all refine comp_open (by with_unfolding_all rfl) (by rfl) (by decide) ?_ (fun _ => rfl)))
  trivial
theorem c_isnt (x : Int) (t : Tok) : FD 490 w mean mg mb 70 [.int x t] [] (fun v P' => v = .bool (decide (256 ≤ x)) ∧ P' = []) := by
  walk_at "fn_open"
  with_reducible refine body_open F [("x", .int x t)] ?hps ?_
  case hps => exact (all_cons rfl all_nil)
  clear F
  intro m0 F AA ee QQ
  walk_at "steps"
  exact ⟨Ends.sub (P' := []) (by k_asm) (by k_asm) (by walk_at "fn_sub") ⟨rfl, rfl⟩⟩
theorem c_iseof (x : Int) (t : Tok) : FD 490 w mean mg mb 77 [.int x t] [] (fun v P' => v = .bool (x == 0) ∧ P' = []) := by
  walk_at "fn_open"
  with_reducible refine body_open F [("x", .int x t)] ?hps ?_
  case hps => exact (all_cons rfl all_nil)
  clear F
  intro m0 F AA ee QQ
  walk_at "steps"
  exact ⟨Ends.sub (P' := []) (by k_asm) (by k_asm) (by walk_at "fn_sub") ⟨rfl, rfl⟩⟩
end
section
example : True := by
  k_with_none
  k_with "x fn_open" =>
    with_unfolding_all refine' Fn.plain ?ho ?hcd ?hbind ?hloc ?_ ?hD ?hco ?hgen ?hk ?hcell
    case ho => k_is
    case hcd => k_is
    case hbind => exact fun s => BindsTo.of_eq rfl
    case hloc => exact locs rfl
    case hD => decide
    case hco => exact rfl
    case hgen => exact rfl
    case hk => exact rfl
    case hcell => decide
    intro gd outer A₀ base g L s B X T F N lt
  k_with "x fn_cells" =>
    with_unfolding_all refine' Fn.cells ?ho ?hcd ?hbind ?hkind ?hnd ?_ ?hD ?hco ?hgen ?hk
    case ho => k_is
    case hcd => k_is
    case hbind => exact fun s => BindsTo.of_eq rfl
    case hkind => exact rfl
    case hnd => decide +kernel
    case hD => decide
    case hco => exact rfl
    case hgen => exact rfl
    case hk => exact rfl
    intro gd outer A₀ base g L s cells B X T F N Y lt
  k_with "x fn_made" =>
    with_unfolding_all refine' Fn.made ?ho ?hc ?hcd ?hcv ?hbind ?hloc ?_ ?hD ?hco ?hgen ?hk ?hcell
    case ho => k_mem
    case hc => k_mem
    case hcd => assumption
    case hcv => assumption
    case hbind => exact fun s => BindsTo.of_eq rfl
    case hloc => exact locs rfl
    case hD => decide
    case hco => exact rfl
    case hgen => exact rfl
    case hk => exact rfl
    case hcell => decide
    intro gd outer A₀ base g L s B X T F N lt
  k_with "x Ends" => refine stop ?_
  k_with "x steps" => repeat' (first | (k_unfold; (try dsimp only)) | walk1 | (dsimp only; walk1))
  k_with "x fn_pick" => first | exact Pick.here | (refine' Pick.there ?p1; (case p1 => k_extra "x fn_pick"))
  k_with "x fn_split" => first | exact Split.nil | (refine' Split.cons ?a1 ?b1; (case a1 => k_extra "x fn_pick"); (case b1 => k_extra "x fn_split"))
  k_with "x fn_nes" => first | exact all_nil | ((with_reducible refine ne_consL ?_ ?_); (focus (k_extra "x fn_nes")); k_extra "x ne") | ((fail_if_success with_reducible refine ne_consL ?_ ?_); refine' all_cons ?a2 ?b2; (case a2 => k_ne); (case b2 => k_extra "x fn_nes")) | k_extra "x k_tl"
  k_with "x fn_apart" => first | exact apart_nil | ((with_reducible refine' apart_consP ?a3 ?b3); (case a3 => k_extra "x fn_nes"); (case b3 => k_extra "x fn_apart")) | ((fail_if_success with_reducible refine apart_consP ?_ ?_); refine' apart_cons ?a3 ?b3; (case a3 => k_extra "x fn_nes"); (case b3 => k_extra "x fn_apart"))
  k_with "x fn_here" => exact ⟨by k_asm, by k_asm, by k_asm, rfl, rfl, rfl, rfl, Nat.le_of_ble_eq_true rfl, Nat.le_of_ble_eq_true rfl⟩
  k_with "x fn_sub" => first | exact all_nil | (refine' all_cons ?a4 ?b4; (case a4 => k_mem); (case b4 => k_extra "x fn_sub"))
  k_with "x k_all" => first | exact all_nil | ((with_reducible refine ne_consR ?_ ?_); (focus (k_extra "x k_all")); k_extra "x ne") | ((fail_if_success with_reducible refine ne_consR ?_ ?_); refine' all_cons ?a5 ?b5; (case a5 => k_ne); (case b5 => k_extra "x k_all")) | k_extra "x k_tl"
  k_with "x fn_ords" => first | exact all_nil | (refine' all_cons ?a6 ?b6; (case a6 => ((try dsimp only); first | k_extra "x k_lo" | exact Nat.le_refl _ | (refine Nat.le_of_lt ?_; k_extra "x k_lo") | (simp only [AllLt, and_true] at *; omega))); (case b6 => k_extra "x fn_ords"))
  k_with "x k_mt" => first | assumption | (refine mem_t ?_; k_extra "x k_mt")
  k_with "x k_tl" => first | exact fun q hq => ne_lt (ltA (o := q.2) (by with_reducible assumption) (by k_extra "x k_mt")) | with_reducible assumption
  k_with "x k_mem" => k_extra "x k_mm"
  k_with "x ne" => first
    | exact neA (by with_reducible assumption) (by k_extra "x k_mm")
    | exact neB (by with_reducible assumption) (by k_extra "x k_mm")
    | with_reducible assumption
    | exact Ne.symm (by with_reducible assumption)
    | ((repeat refine ne_s ?_); first | exact ne_z1 | exact ne_z2 | exact ne_z3 | exact ne_z4 | exact ne_z5 | exact ne_z6 | exact ne_z7 | exact ne_z8 | exact ne_z1.symm | exact ne_z2.symm | exact ne_z3.symm | exact ne_z4.symm | exact ne_z5.symm | exact ne_z6.symm | exact ne_z7.symm | exact ne_z8.symm)
    | (refine ne_lt ?_; k_extra "x k_lo")
    | (refine ne_gt ?_; k_extra "x k_lo")
  k_with "x k_mm" => with_reducible (first | exact mem_0 | exact mem_1 | exact mem_2 | exact mem_3 | exact mem_4 | exact mem_5 | exact mem_6 | exact mem_7 | exact mem_8 | exact mem_9 | (refine mem_s ?_; k_extra "x k_mm"))
  k_with "x k_q1" => exact ltA (by with_reducible assumption) (by k_extra "x k_mm")
  k_with "x k_up" => first | exact ltP (by with_reducible assumption) | exact ltP2 (by with_reducible assumption) | exact ltP3 (by with_reducible assumption) | exact ltP4 (by with_reducible assumption) | exact ltP5 (by with_reducible assumption) | exact ltP6 (by with_reducible assumption) | exact ltP7 (by with_reducible assumption) | exact ltP8 (by with_reducible assumption) 
  k_with "x k_hi" => first | with_reducible assumption | k_extra "x k_q1" | exact ltR (by with_reducible assumption) (by k_extra "x k_mm") | k_extra "x k_up" | (refine Nat.lt_trans ?_ (by with_reducible assumption); k_extra "x k_hi")
  k_with "x k_l1" => first | k_extra "x k_q1" | exact ltZ | k_extra "x k_hi" | (refine ltS ?_; k_extra "x k_l1")
  k_with "x k_l2" => first | k_extra "x k_l1" | (refine Nat.lt_trans (by with_reducible assumption) ?_; k_extra "x k_l2")
  k_with "x k_lo" => ((fail_if_success (with_reducible show @LT.lt Nat _ _ 79)); k_extra "x k_l2")
  k_with "x k_ne" => (refine neN ?_; (try dsimp only); k_extra "x ne")
  k_with "x eval ListComp" => refine stop ?_
  k_with "x call ref" => refine stop ?_
  k_with "x pyIter" => refine stop ?_
  k_with "x fn_comp" => (refine ⟨?_⟩; (with_unfolding_all refine comp_open (by with_unfolding_all rfl) (by rfl) (by decide) ?_ (fun _ => rfl)))
  trivial
theorem c_init (x dx st : Addr) (hxd : @LT.lt Nat _ dx x) : FD 400 w mean mg mb 28 [.ref x, .ref st] [(x, instObj 52 dx), (dx, dictOf [] 0)]
    (fun v P' => ∃ pb t1 t2 t3 t4 t5 t6, v = .none ∧ @LT.lt Nat _ x pb ∧ P' = [(pb, listOf #[] 0), (x, instObj 52 dx), (dx, dictOf [⟨PyData.keyHash w.params (Str.ofString "lineno"), .str "lineno" t1, .int 1 t2⟩, ⟨PyData.keyHash w.params (Str.ofString "instream"), .str "instream" t3, .ref st⟩, ⟨PyData.keyHash w.params (Str.ofString "whitespace"), .str "whitespace" t4, .str "\n\t\r " t5⟩, ⟨PyData.keyHash w.params (Str.ofString "pushback"), .str "pushback" t6, .ref pb⟩] 4)]) := by
  walk_at "fn_open"
  walk_at "steps"
  rename_i l1 _ _ _
  refine' ⟨Ends.sub (P' := [_, _, _]) (by k_asm) (by k_asm) (fun p hp => ?_) ⟨_, _, _, _, _, _, _, rfl, l1.1, rfl⟩⟩
  exact hp
end
section
example : True := by
  k_with_none
  k_with "x fn_open" =>
    with_unfolding_all refine' Fn.plain ?ho ?hcd ?hbind ?hloc ?_ ?hD ?hco ?hgen ?hk ?hcell
    case ho => k_is
    case hcd => k_is
    case hbind => exact fun s => BindsTo.of_eq rfl
    case hloc => exact locs rfl
    case hD => decide
    case hco => exact rfl
    case hgen => exact rfl
    case hk => exact rfl
    case hcell => decide
    intro gd outer A₀ base g L s B X T F N lt
  k_with "x fn_cells" =>
    with_unfolding_all refine' Fn.cells ?ho ?hcd ?hbind ?hkind ?hnd ?_ ?hD ?hco ?hgen ?hk
    case ho => k_is
    case hcd => k_is
    case hbind => exact fun s => BindsTo.of_eq rfl
    case hkind => exact rfl
    case hnd => decide +kernel
    case hD => decide
    case hco => exact rfl
    case hgen => exact rfl
    case hk => exact rfl
    intro gd outer A₀ base g L s cells B X T F N Y lt
  k_with "x Ends" => refine stop ?_
  k_with "x steps" => repeat' (first | (k_unfold; (try dsimp only)) | walk1 | (dsimp only; walk1))
  k_with "x fn_pick" => first | exact Pick.here | (refine' Pick.there ?p1; (case p1 => k_extra "x fn_pick"))
  k_with "x fn_split" => first | exact Split.nil | (refine' Split.cons ?a1 ?b1; (case a1 => k_extra "x fn_pick"); (case b1 => k_extra "x fn_split"))
  k_with "x fn_nes" => first | exact all_nil | ((with_reducible refine ne_consL ?_ ?_); (focus (k_extra "x fn_nes")); k_extra "x ne") | ((fail_if_success with_reducible refine ne_consL ?_ ?_); refine' all_cons ?a2 ?b2; (case a2 => k_ne); (case b2 => k_extra "x fn_nes")) | k_extra "x k_tl"
  k_with "x fn_apart" => first | exact apart_nil | ((with_reducible refine' apart_consP ?a3 ?b3); (case a3 => k_extra "x fn_nes"); (case b3 => k_extra "x fn_apart")) | ((fail_if_success with_reducible refine apart_consP ?_ ?_); refine' apart_cons ?a3 ?b3; (case a3 => k_extra "x fn_nes"); (case b3 => k_extra "x fn_apart"))
  k_with "x fn_here" => exact ⟨by k_asm, by k_asm, by k_asm, rfl, rfl, rfl, rfl, Nat.le_of_ble_eq_true rfl, Nat.le_of_ble_eq_true rfl⟩
  k_with "x fn_sub" => first | exact all_nil | (refine' all_cons ?a4 ?b4; (case a4 => k_mem); (case b4 => k_extra "x fn_sub"))
  k_with "x k_mt" => first | assumption | (refine mem_t ?_; k_extra "x k_mt")
  k_with "x k_tl" => first | exact fun q hq => ne_lt (ltA (o := q.2) (by with_reducible assumption) (by k_extra "x k_mt")) | with_reducible assumption
  k_with "x k_all" => first | exact all_nil | ((with_reducible refine ne_consR ?_ ?_); (focus (k_extra "x k_all")); k_extra "x ne") | ((fail_if_success with_reducible refine ne_consR ?_ ?_); refine' all_cons ?a5 ?b5; (case a5 => k_ne); (case b5 => k_extra "x k_all")) | k_extra "x k_tl"
  k_with "x fn_ords" => first | exact all_nil | (refine' all_cons ?a6 ?b6; (case a6 => ((try dsimp only); first | k_extra "x k_lo" | exact Nat.le_refl _ | (refine Nat.le_of_lt ?_; k_extra "x k_lo") | (simp only [AllLt, and_true] at *; omega))); (case b6 => k_extra "x fn_ords"))
  k_with "x k_mm" => with_reducible (first | exact mem_0 | exact mem_1 | exact mem_2 | exact mem_3 | exact mem_4 | exact mem_5 | exact mem_6 | exact mem_7 | exact mem_8 | exact mem_9 | (refine mem_s ?_; k_extra "x k_mm"))
  k_with "x k_q1" => exact ltA (by with_reducible assumption) (by k_extra "x k_mm")
  k_with "x k_up" => first | exact ltP (by with_reducible assumption) | exact ltP2 (by with_reducible assumption) | exact ltP3 (by with_reducible assumption) | exact ltP4 (by with_reducible assumption) | exact ltP5 (by with_reducible assumption) | exact ltP6 (by with_reducible assumption) | exact ltP7 (by with_reducible assumption) | exact ltP8 (by with_reducible assumption) 
  k_with "x k_hi" => first | with_reducible assumption | k_extra "x k_q1" | exact ltR (by with_reducible assumption) (by k_extra "x k_mm") | k_extra "x k_up" | (refine Nat.lt_trans ?_ (by with_reducible assumption); k_extra "x k_hi")
  k_with "x k_l1" => first | k_extra "x k_q1" | exact ltZ | k_extra "x k_hi" | (refine ltS ?_; k_extra "x k_l1")
  k_with "x k_l2" => first | k_extra "x k_l1" | (refine Nat.lt_trans (by with_reducible assumption) ?_; k_extra "x k_l2")
  k_with "x k_lo" => ((fail_if_success (with_reducible show @LT.lt Nat _ _ 79)); k_extra "x k_l2")
  k_with "x k_mem" => k_extra "x k_mm"
  k_with "x ne" => first
    | exact neA (by with_reducible assumption) (by k_extra "x k_mm")
    | exact neB (by with_reducible assumption) (by k_extra "x k_mm")
    | with_reducible assumption
    | exact Ne.symm (by with_reducible assumption)
    | ((repeat refine ne_s ?_); first | exact ne_z1 | exact ne_z2 | exact ne_z3 | exact ne_z4 | exact ne_z5 | exact ne_z6 | exact ne_z7 | exact ne_z8 | exact ne_z1.symm | exact ne_z2.symm | exact ne_z3.symm | exact ne_z4.symm | exact ne_z5.symm | exact ne_z6.symm | exact ne_z7.symm | exact ne_z8.symm)
    | (refine ne_lt ?_; k_extra "x k_lo")
    | (refine ne_gt ?_; k_extra "x k_lo")
  k_with "x k_ne" => (refine neN ?_; (try dsimp only); k_extra "x ne")
  k_with "x eval ListComp" => refine stop ?_
  k_with "x call ref" => refine stop ?_
  k_with "x pyIter" => refine stop ?_
  k_with "x fn_comp" => (refine ⟨?_⟩; (with_unfolding_all refine comp_openU (by with_unfolding_all rfl) (by rfl) (by decide) ?_ (fun _ => rfl)))
  k_with "x exec For Name Name cons nil" => refine wpAny_For ?_ (by intro _; with_unfolding_all rfl)
  k_with "x exec For Name Call cons nil" => refine wpAny_For ?_ (by intro _; with_unfolding_all rfl)
  k_with "x exec For Tuple Call cons nil" => refine wpAny_For ?_ (by intro _; with_unfolding_all rfl)
  k_with "x exec For Name Name" => refine wpAny_For ?_ (by intro _; with_unfolding_all rfl)
  k_with "x exec For Name Call" => refine wpAny_For ?_ (by intro _; with_unfolding_all rfl)
  k_with "x last exec For Name Name" => refine wpAny_For ?_ (by intro _; with_unfolding_all rfl)
  k_with "x fn_openP" =>
    with_unfolding_all refine' FnP.plain ?ho ?hcd ?hbind ?hloc ?_ ?hpre ?hD ?hco ?hgen ?hk ?hcell
    case ho => k_is
    case hcd => k_is
    case hbind => exact fun s => BindsTo.of_eq rfl
    case hloc => exact locs rfl
    case hpre => exact fun h h' a st => let ⟨o, e, r⟩ := a; ⟨o, st _ _ e, r⟩
    case hD => decide
    case hco => exact rfl
    case hgen => exact rfl
    case hk => exact rfl
    case hcell => decide
    intro gd outer A₀ base g L s B X T HL F N lt
  k_with "x eval IfExp" => refine stop ?_
  k_with "x storeName" => first | ((with_reducible show wpAny _ _ (storeName _ (Str.ofString "drawn") _) _ _ _); refine stop ?_) | ((with_reducible show wpAny _ _ (storeName _ (Str.ofString "word") _) _ _ _); refine stop ?_)
  trivial
noncomputable def W4 (n : Nat) (l : List Nat) : Prop := l ≠ [] ∧ l.length ≤ n ∧ Abc l ∧ l.head? ≠ some 65
theorem item_bc (z : Int) : ∃ c, (c = 66 ∨ c = 67) ∧ Txt.item (Str.ofString "BC") (z.fmod 2) = txt [c] := by
  rw [Int.fmod_eq_emod_of_nonneg _ (by decide)]
  rcases (by omega : z % 2 = 0 ∨ z % 2 = 1) with e | e
  · exact ⟨66, .inl rfl, by rw [e]; rfl⟩
  · exact ⟨67, .inr rfl, by rw [e]; rfl⟩
theorem item_abc (z : Int) : ∃ c, (c = 65 ∨ c = 66 ∨ c = 67) ∧ Txt.item (Str.ofString "ABC") (z.fmod 3) = txt [c] := by
  rw [Int.fmod_eq_emod_of_nonneg _ (by decide)]
  rcases (by omega : z % 3 = 0 ∨ z % 3 = 1 ∨ z % 3 = 2) with e | e | e
  · exact ⟨65, .inl rfl, by rw [e]; rfl⟩
  · exact ⟨66, .inr (.inl rfl), by rw [e]; rfl⟩
  · exact ⟨67, .inr (.inr rfl), by rw [e]; rfl⟩
theorem abc_head {c : Nat} (h : c = 66 ∨ c = 67) : ([c] : List Nat).head? ≠ some 65 := by rcases h with rfl | rfl <;> decide
theorem pow3 {j : Nat} (h : j < 4) : ∃ M : Int, 8 * 3 ^ (0 + (j : Int) * 1).toNat = M ∧ M ≠ 0 ∧ 0 < M ∧ M ≤ 216 := by
  have e : (0 + (j : Int) * 1).toNat = j := by omega
  rw [e]
  match j, h with
  | 0, _ => exact ⟨8, rfl, by decide, by decide, by decide⟩
  | 1, _ => exact ⟨24, rfl, by decide, by decide, by decide⟩
  | 2, _ => exact ⟨72, rfl, by decide, by decide, by decide⟩
  | 3, _ => exact ⟨216, rfl, by decide, by decide, by decide⟩
noncomputable def LetV (j : Nat) (v : Value) : Prop := ∃ c t, v = .str (txt [c]) t ∧ (c = 65 ∨ c = 66 ∨ c = 67) ∧ (j = 0 → c ≠ 65)
theorem letV_bc {j : Nat} (D : Int) (t : Tok) : LetV j (.str (Txt.item (Str.ofString "BC") (D.fmod 2)) t) := by
  obtain ⟨c, hc, e⟩ := item_bc D
  exact ⟨c, t, by rw [e], .inr hc, fun _ q => by subst q; rcases hc with h | h <;> cases h⟩
theorem letV_abc {j : Nat} (D : Int) (t : Tok) (h : j ≠ 0) : LetV j (.str (Txt.item (Str.ofString "ABC") (D.fmod 3)) t) := by
  obtain ⟨c, hc, e⟩ := item_abc D
  exact ⟨c, t, by rw [e], hc, fun q => absurd q h⟩
structure Drawn (vs us : List Value) (wl : List (List Nat)) (t : List Nat) (ul : List Int) : Prop where
  len : wl.length = 4
  wstrs : StrsAre vs ((wl ++ [t]).map fun l => txt l)
  good : ∀ l ∈ wl, W4 4 l
  tlen : t.length = 14
  tabc : Abc t
  thead : t.head? ≠ some 65
  wints : IntsAre us ul
  ulen : ul.length = 5
  ubnd : ∀ x ∈ ul, 0 ≤ x ∧ x ≤ 600000
theorem sum_bound {b : Int} : ∀ {ul : List Int}, (∀ x ∈ ul, 0 ≤ x ∧ x ≤ b) → 0 ≤ ul.sum ∧ ul.sum ≤ b * ul.length
  | [], _ => by simp
  | x :: r, h => by
    have h1 := h x (.head _)
    have h2 := sum_bound (ul := r) fun y hy => h y (.tail _ hy)
    rw [List.sum_cons, List.length_cons]
    refine ⟨by omega, ?_⟩
    rw [show b * ((r.length + 1 : Nat) : Int) = b * r.length + b by rw [Int.natCast_add, Int.mul_add]; simp]
    omega
theorem seed4 : ∀ j : Nat, 0 ≤ [(17 : Int), 62, 43, 4].getD j 0 ∧ [(17 : Int), 62, 43, 4].getD j 0 ≤ 62
  | 0 | 1 | 2 | 3 => by decide
  | _ + 4 => by simp
theorem seed14 : ∀ j : Nat, 0 ≤ [(0 : Int), 2, 1, 2, 1, 0, 2, 1, 2, 1, 1, 2, 0, 2].getD j 0 ∧ [(0 : Int), 2, 1, 2, 1, 0, 2, 1, 2, 1, 1, 2, 0, 2].getD j 0 ≤ 2
  | 0 | 1 | 2 | 3 | 4 | 5 | 6 | 7 | 8 | 9 | 10 | 11 | 12 | 13 => by decide
  | _ + 14 => by simp
theorem range_14 : Builtin.Range.rangeSize 0 14 1 = ((14 : Nat) : Int) := by decide
theorem range_4 : Builtin.Range.rangeSize 0 4 1 = ((4 : Nat) : Int) := by decide
theorem c_drawn (lst : Addr) (items : List Value) (xs : List Int) (hx : IntsAre items xs) (hl : xs.length ≤ 63) :
    FnP PySem.Challenge.pw_ta0007_02 w (hd.heap_39 w.params) topProg lse mean mg mb 400 400 108 [.ref lst] (fun g => g.IsList lst items.toArray) []
    (fun v P' => ∃ (TP D1 D2 : Addr) (vs us : List Value) (n1 n2 : Nat) (wl : List (List Nat)) (t : List Nat) (ul : List Int), v = .ref TP ∧ Drawn vs us wl t ul ∧
      P' = [(TP, { cls := .type "tuple", data := .seq #[.ref D1, .ref D2] }), (D2, listOf us.toArray n2), (D1, listOf vs.toArray n1)]) := by
  walk_at "fn_openP"
  replace HL : g.IsList lst items.toArray := HL
  with_reducible refine body_open F [("script", .ref lst)] ?hps ?_
  case hps => exact (all_cons rfl all_nil)
  clear F
  intro m0 F AA ee QQ
  walk_at "steps"
  rename_i W _ lW _ _ Y _ lY _ F1 N1 h2 tk2 q1 q2 q3 hrg F2 N2 hkeep
  refine ⟨iter_range_N F2 N2 hrg (by decide) range_4 ?_⟩
  intro I oI St h3 S F3 N3 lt3
  refine' for_src (σ := List Value × Nat × List Value × Nat) S rfl (fun c => [(Y, listOf c.2.2.1.toArray c.2.2.2), (W, listOf c.1.toArray c.2.1)]) (fun _ => []) ["k", "drawn", "word", "place"]
    (fun i c => ∃ (wl : List (List Nat)) (ul : List Int), wl.length = i ∧ ul.length = i ∧ StrsAre c.1 (wl.map fun l => txt l) ∧ (∀ l ∈ wl, W4 4 l) ∧ IntsAre c.2.2.1 ul ∧ (∀ x ∈ ul, 0 ≤ x ∧ x ≤ 150000)) ([], 0, [], 0) F3 N3 (fun q hq => Nat.ne_of_lt (lt3 q hq)) (fun _ h => nomatch h) (fun _ _ _ _ h => nomatch h) ⟨[], [], rfl, rfl, .nil, (fun _ h => nomatch h), .nil, (fun _ h => nomatch h)⟩ ?turn1 ?done1
  case turn1 =>
    rintro i ⟨vw, kw, vy, ky⟩ u h7 tk7 v oI' hi ⟨ti, rfl⟩ hJ F7 N7 hI
    dsimp only at F7 N7 hI
    obtain ⟨wl, ul, hw1, hu1, hvw, hwl, hvy, hul⟩ := hJ
    have lvw := hvw.len_eq
    rw [List.length_map, hw1] at lvw
    have lvy := hvy.length
    rw [hu1] at lvy
    refine turn_gen fun QB hQB => ?_
    walk_at "steps"
    refine ⟨?_⟩
    refine meet (fun v => ∃ x t, v = .int x t ∧ 0 ≤ x ∧ x < 1000000) ?if1 ?if2
    case if1 =>
      refine wpAny_IfExp ?_
      walk_at "steps"
    case if2 =>
      rintro v tkA ⟨x, tx, rfl, hx0, hx1⟩
      walk_at "steps"
      refine ⟨?_⟩
      obtain ⟨D, hD, hD0, hD1⟩ : ∃ D : Int, [(17 : Int), 62, 43, 4].getD (0 + (i : Int) * 1).toNat 0 + x = D ∧ 0 ≤ D ∧ D ≤ 1000061 := ⟨_, rfl, by have := seed4 (0 + (i : Int) * 1).toNat; omega, by have := seed4 (0 + (i : Int) * 1).toNat; omega⟩
      rw [hD]
      trace_state
      refine storeX_L (by k_asm) (by k_asm) ?_
      intro h8 F8 N8
      walk_at "steps"
      refine ⟨?_⟩
      obtain ⟨c0, hc0, hi0⟩ := item_bc (D.fdiv 4)
      rw [hi0]
      refine storeX_L (by k_asm) (by k_asm) ?_
      intro h9 F9 N9
      walk_at "steps"
      rename_i h10 tk10 p1 p2 p3 hrg2 F10 N10 hk2
      obtain ⟨n2, hn2, hlt2⟩ : ∃ n : Nat, D.fmod 4 = (n : Int) ∧ n < 4 := ⟨(D % 4).toNat, by rw [Int.fmod_eq_emod_of_nonneg _ (by decide)]; omega, by omega⟩
      rw [hn2] at hrg2
      refine ⟨iter_range_N (n := n2) F10 N10 hrg2 (small_one (by omega) (by omega) (by omega) (by omega)) (by rw [rangeSize_one]; split <;> omega) ?_⟩
      intro I2 oI2 St2 h11 S2 F11 N11 lt11
      refine' for_src (σ := List Nat × Tok) S2 rfl (fun _ => [(I, oI'), (Y, listOf vy.toArray ky), (W, listOf vw.toArray kw)]) (fun c => [("word", .str (txt c.1) c.2)]) ["place"]
        (fun j c => c.1.length = j + 1 ∧ Abc c.1 ∧ c.1.head? ≠ some 65) ([c0], _) F11 (News.sub N11 (by walk_at "fn_sub")) (fun q hq => Nat.ne_of_lt (lt11 q (.tail _ hq))) ?hk1 (fun _ _ _ _ h => nomatch h) ⟨rfl, (fun c hc => by rw [List.mem_singleton.mp hc]; exact .inr hc0), (abc_head hc0)⟩ ?turn2 ?done2
      case hk1 => refine all_cons ?_ all_nil; exact rfl
      case turn2 =>
        rintro j ⟨lw, tw⟩ u2 h12 tk12 v2 oI2' hj ⟨tj, rfl⟩ ⟨hj1, hj2, hj3⟩ F12 N12 hI2
        dsimp only at F12 N12 hI2 hj1 hj2 hj3
        refine turn_gen fun QC hQC => ?_
        walk_at "steps"
        obtain ⟨M, hM, hM0, hM1, hM2⟩ := pow3 (j := j) (by omega)
        rw [hM]
        walk_at "steps"
        dsimp only
        obtain ⟨c, hc, hic⟩ := item_abc (D.fdiv M)
        rw [hic]
        refine add_str (fun t5 tk5 => ?_) (by show (txt _).length + (txt _).length ≤ sizeLine; rw [txt_len, txt_len, sizeLine_eq, hj1]; simp only [List.length_cons, List.length_nil]; omega)
        rw [txt_app]
        walk_at "steps"
        refine ⟨?_⟩
        refine storeX_L (by k_asm) (by k_asm) ?_
        intro h13 F13 N13
        walk_at "steps"
        subst hQC
        refine' LedEnd.intro (lw ++ [c], _) (by k_asm) (by k_asm) ?sub2 ?hk2 ?hr2 ⟨?_, ?_, ?_, ?_⟩
        case sub2 => walk_at "fn_sub"
        case hk2 => refine all_cons ?_ all_nil; exact rfl
        case hr2 => (intro z h1 h2; have n1 := h1 _ (.head _); have n3 : z ≠ "place" := (fun e => by subst e; exact absurd h2 (by decide)); dsimp only at n1 ⊢; simp only [if_neg n1, if_neg n3, kstB, h2, Bool.false_eq_true, if_false])
        · exact hI2
        · rw [List.length_append, hj1]; rfl
        · intro d hd; rcases List.mem_append.mp hd with hd | hd
          · exact hj2 d hd
          · rw [List.mem_singleton.mp hd]; exact hc
        · cases lw with
          | nil => cases hj1
          | cons a r => exact hj3
      case done2 =>
        rintro ⟨lw, tw⟩ u2 h12 tk12 ⟨hj1, hj2, hj3⟩ F12 N12
        dsimp only at F12 N12 hj1 hj2 hj3
        walk_at "steps"
        subst hQB
        dsimp only [ForPost]
        refine' LedEnd.intro (vw ++ [.str (txt lw) tw], _, vy ++ [.int (D.fdiv 7) _], _) (by k_asm) (by k_asm) ?subE (fun _ h => nomatch h) ?hrE ⟨?_, wl ++ [lw], ul ++ [D.fdiv 7], ?_, ?_, ?_, ?_, ?_, ?_⟩
        case subE => dsimp only; simp only [← List.push_toArray]; walk_at "fn_sub"
        case hrE =>
          intro z h1 h2
          have na : z ≠ "k" := fun e => by subst e; exact absurd h2 (by decide)
          have nb : z ≠ "drawn" := fun e => by subst e; exact absurd h2 (by decide)
          have nc : z ≠ "word" := fun e => by subst e; exact absurd h2 (by decide)
          have nd : z ≠ "place" := fun e => by subst e; exact absurd h2 (by decide)
          have np : (["place"] : List Str).contains z = false := by simpa using nd
          simp only [kstB, if_neg na, if_neg nb, if_neg nc, np, h2, Bool.false_eq_true, if_false]
        · intro q hq
          have hY : Y ≠ I := hI (Y, listOf vy.toArray ky) (.head _)
          have hW : W ≠ I := hI (W, listOf vw.toArray kw) (.tail _ (.head _))
          rcases List.mem_cons.mp hq with rfl | hq
          · exact hY
          · rw [List.mem_singleton.mp hq]; exact hW
        · rw [List.length_append, hw1]; rfl
        · rw [List.length_append, hu1]; rfl
        · rw [List.map_append]; exact StrsAre.snoc hvw _ _
        · intro l hl
          rcases List.mem_append.mp hl with hl | hl
          · exact hwl l hl
          · rw [List.mem_singleton.mp hl]
            exact ⟨fun e => (by rw [e] at hj1; cases hj1), by omega, hj2, hj3⟩
        · exact IntsAre.snoc hvy _ _
        · intro y hy
          rcases List.mem_append.mp hy with hy | hy
          · exact hul y hy
          · rw [List.mem_singleton.mp hy, Int.fdiv_eq_ediv_of_nonneg _ (by decide)]; omega
  case done1 =>
    rintro ⟨vw, kw, vy, ky⟩ u h7 tk7 ⟨wl, ul, hw1, hu1, hvw, hwl, hvy, hul⟩ F7 N7
    dsimp only at F7 N7 hvw hvy
    have lvw := hvw.len_eq
    rw [List.length_map, hw1] at lvw
    have lvy := hvy.length
    rw [hu1] at lvy
    walk_at "steps"
    refine ⟨?_⟩
    refine storeX_L (by k_asm) (by k_asm) ?_
    intro h8 F8 N8
    walk_at "steps"
    rename_i h9 tk9 p1 p2 p3 hrg2 F9 N9 hk2
    refine ⟨iter_range_N F9 N9 hrg2 (by decide) range_14 ?_⟩
    intro I2 oI2 St2 h11 S2 F11 N11 lt11
    refine' for_src (σ := List Nat × Tok) S2 rfl (fun _ => [(Y, listOf vy.toArray ky), (W, listOf vw.toArray kw)]) (fun c => [("word", .str (txt c.1) c.2)]) ["k", "drawn"]
      (fun j c => c.1.length = j ∧ Abc c.1 ∧ c.1.head? ≠ some 65) ([], _) F11 N11 (fun q hq => Nat.ne_of_lt (lt11 q hq)) ?hkT (fun _ _ _ _ h => nomatch h) ⟨rfl, (fun _ h => nomatch h), fun h => nomatch h⟩ ?turnT ?doneT
    case hkT => refine all_cons ?_ all_nil; exact rfl
    case turnT =>
      rintro j ⟨lw, tw⟩ u2 h12 tk12 v2 oI2' hj ⟨tj, rfl⟩ ⟨hj1, hj2, hj3⟩ F12 N12 hI2
      dsimp only at F12 N12 hI2 hj1 hj2 hj3
      refine turn_gen fun QC hQC => ?_
      walk_at "steps"
      refine ⟨?_⟩
      refine meet (fun v => ∃ x t, v = .int x t ∧ 0 ≤ x ∧ x < 1000000) ?if3 ?if4
      case if3 =>
        refine wpAny_IfExp ?_
        walk_at "steps"
      case if4 =>
        rintro v tkA ⟨x, tx, rfl, hx0, hx1⟩
        walk_at "steps"
        refine ⟨?_⟩
        obtain ⟨D, hD, hD0, hD1⟩ : ∃ D : Int, [(0 : Int), 2, 1, 2, 1, 0, 2, 1, 2, 1, 1, 2, 0, 2].getD (0 + (j : Int) * 1).toNat 0 + x = D ∧ 0 ≤ D ∧ D ≤ 1000061 := ⟨_, rfl, by have := seed14 (0 + (j : Int) * 1).toNat; omega, by have := seed14 (0 + (j : Int) * 1).toNat; omega⟩
        rw [hD]
        refine storeX_L (by k_asm) (by k_asm) ?_
        intro h13 F13 N13
        walk_at "steps"
        refine ⟨?_⟩
        refine meet (LetV j) ?if5 ?if6
        case if5 =>
          refine wpAny_IfExp ?_
          walk_at "steps"
          · exact letV_bc D _
          · refine letV_abc D _ ?_
            omega
        case if6 =>
          rintro v tkB ⟨c, tc, rfl, hc, hc0⟩
          walk_at "steps"
          refine ⟨?_⟩
          rw [txt_app]
          refine storeX_L (by k_asm) (by k_asm) ?_
          intro h14 F14 N14
          walk_at "steps"
          subst hQC
          dsimp only [ForPost]
          refine' LedEnd.intro (lw ++ [c], _) (by k_asm) (by k_asm) ?sub2 ?hk2 ?hr2 ⟨?_, ?_, ?_, ?_⟩
          case sub2 => walk_at "fn_sub"
          case hk2 => refine all_cons ?_ all_nil; exact rfl
          case hr2 =>
            intro z h1 h2
            have n1 := h1 _ (.head _)
            have na : z ≠ "k" := fun e => by subst e; exact absurd h2 (by decide)
            have nb : z ≠ "drawn" := fun e => by subst e; exact absurd h2 (by decide)
            dsimp only at n1 ⊢
            simp only [if_neg n1, if_neg na, if_neg nb, kstB, h2, Bool.false_eq_true, if_false]
          · exact hI2
          · rw [List.length_append, hj1]; rfl
          · intro d hd; rcases List.mem_append.mp hd with hd | hd
            · exact hj2 d hd
            · rw [List.mem_singleton.mp hd]; exact hc
          · cases lw with
            | nil => exact fun q => hc0 (by rw [← hj1]; rfl) (by simpa using q)
            | cons a r => exact hj3
    case doneT =>
      rintro ⟨lw, tw⟩ u2 h12 tk12 ⟨hj1, hj2, hj3⟩ F12 N12
      dsimp only at F12 N12 hj1 hj2 hj3
      have hsum := sum_bound hul
      rw [hu1] at hsum
      walk_at "steps"
      refine' ⟨Ends.sub (P' := [(_, { cls := .type "tuple", data := .seq #[.ref W, .ref Y] }), (Y, listOf (vy ++ [Value.int ul.sum _]).toArray (ky + 1)), (W, listOf (vw ++ [Value.str (txt lw) tw]).toArray (kw + 1))]) (by k_asm) (by k_asm) ?subF ⟨_, W, Y, vw ++ [Value.str (txt lw) tw], vy ++ [Value.int ul.sum _], _, _, wl, lw, ul ++ [ul.sum], rfl, ⟨hw1, ?_, hwl, hj1, hj2, hj3, IntsAre.snoc hvy _ _, ?_, ?_⟩, rfl⟩⟩
      case subF => simp only [← List.push_toArray]; walk_at "fn_sub"
      · rw [List.map_append]; exact StrsAre.snoc hvw _ _
      · rw [List.length_append, hu1]; rfl
      · intro y hy
        rcases List.mem_append.mp hy with hy | hy
        · have := hul y hy; omega
        · rw [List.mem_singleton.mp hy]; omega
end
section
example : True := by
  k_with_none
  k_with "x fn_open" =>
    with_unfolding_all refine' Fn.plain ?ho ?hcd ?hbind ?hloc ?_ ?hD ?hco ?hgen ?hk ?hcell
    case ho => k_is
    case hcd => k_is
    case hbind => exact fun s => BindsTo.of_eq rfl
    case hloc => exact locs rfl
    case hD => decide
    case hco => exact rfl
    case hgen => exact rfl
    case hk => exact rfl
    case hcell => decide
    intro gd outer A₀ base g L s B X T F N lt
  k_with "x fn_cells" =>
    with_unfolding_all refine' Fn.cells ?ho ?hcd ?hbind ?hkind ?hnd ?_ ?hD ?hco ?hgen ?hk
    case ho => k_is
    case hcd => k_is
    case hbind => exact fun s => BindsTo.of_eq rfl
    case hkind => exact rfl
    case hnd => decide +kernel
    case hD => decide
    case hco => exact rfl
    case hgen => exact rfl
    case hk => exact rfl
    intro gd outer A₀ base g L s cells B X T F N Y lt
  k_with "x Ends" => refine stop ?_
  k_with "x steps" => repeat' (first | (k_unfold; (try dsimp only)) | walk1 | (dsimp only; walk1))
  k_with "x fn_pick" => first | exact Pick.here | (refine' Pick.there ?p1; (case p1 => k_extra "x fn_pick"))
  k_with "x fn_split" => first | exact Split.nil | (refine' Split.cons ?a1 ?b1; (case a1 => k_extra "x fn_pick"); (case b1 => k_extra "x fn_split"))
  k_with "x fn_nes" => first | exact all_nil | ((with_reducible refine ne_consL ?_ ?_); (focus (k_extra "x fn_nes")); k_extra "x ne") | ((fail_if_success with_reducible refine ne_consL ?_ ?_); refine' all_cons ?a2 ?b2; (case a2 => k_ne); (case b2 => k_extra "x fn_nes")) | k_extra "x k_tl"
  k_with "x fn_apart" => first | exact apart_nil | ((with_reducible refine' apart_consP ?a3 ?b3); (case a3 => k_extra "x fn_nes"); (case b3 => k_extra "x fn_apart")) | ((fail_if_success with_reducible refine apart_consP ?_ ?_); refine' apart_cons ?a3 ?b3; (case a3 => k_extra "x fn_nes"); (case b3 => k_extra "x fn_apart"))
  k_with "x fn_here" => exact ⟨by k_asm, by k_asm, by k_asm, rfl, rfl, rfl, rfl, Nat.le_of_ble_eq_true rfl, Nat.le_of_ble_eq_true rfl⟩
  k_with "x fn_sub" => first | exact all_nil | (refine' all_cons ?a4 ?b4; (case a4 => k_mem); (case b4 => k_extra "x fn_sub"))
  k_with "x k_mt" => first | assumption | (refine mem_t ?_; k_extra "x k_mt")
  k_with "x k_tl" => first | exact fun q hq => ne_lt (ltA (o := q.2) (by with_reducible assumption) (by k_extra "x k_mt")) | with_reducible assumption
  k_with "x k_all" => first | exact all_nil | ((with_reducible refine ne_consR ?_ ?_); (focus (k_extra "x k_all")); k_extra "x ne") | ((fail_if_success with_reducible refine ne_consR ?_ ?_); refine' all_cons ?a5 ?b5; (case a5 => k_ne); (case b5 => k_extra "x k_all")) | k_extra "x k_tl"
  k_with "x fn_ords" => first | exact all_nil | (refine' all_cons ?a6 ?b6; (case a6 => ((try dsimp only); first | k_extra "x k_lo" | exact Nat.le_refl _ | (refine Nat.le_of_lt ?_; k_extra "x k_lo") | (simp only [AllLt, and_true] at *; omega))); (case b6 => k_extra "x fn_ords"))
  k_with "x k_mm" => with_reducible (first | exact mem_0 | exact mem_1 | exact mem_2 | exact mem_3 | exact mem_4 | exact mem_5 | exact mem_6 | exact mem_7 | exact mem_8 | exact mem_9 | (refine mem_s ?_; k_extra "x k_mm"))
  k_with "x k_q1" => exact ltA (by with_reducible assumption) (by k_extra "x k_mm")
  k_with "x k_up" => first | exact ltP (by with_reducible assumption) | exact ltP2 (by with_reducible assumption) | exact ltP3 (by with_reducible assumption) | exact ltP4 (by with_reducible assumption) | exact ltP5 (by with_reducible assumption) | exact ltP6 (by with_reducible assumption) | exact ltP7 (by with_reducible assumption) | exact ltP8 (by with_reducible assumption) 
  k_with "x k_hi" => first | with_reducible assumption | k_extra "x k_q1" | exact ltR (by with_reducible assumption) (by k_extra "x k_mm") | k_extra "x k_up" | (refine Nat.lt_trans ?_ (by with_reducible assumption); k_extra "x k_hi")
  k_with "x k_l1" => first | k_extra "x k_q1" | exact ltZ | k_extra "x k_hi" | (refine ltS ?_; k_extra "x k_l1")
  k_with "x k_l2" => first | k_extra "x k_l1" | (refine Nat.lt_trans (by with_reducible assumption) ?_; k_extra "x k_l2")
  k_with "x k_lo" => ((fail_if_success (with_reducible show @LT.lt Nat _ _ 79)); k_extra "x k_l2")
  k_with "x k_mem" => k_extra "x k_mm"
  k_with "x ne" => first
    | exact neA (by with_reducible assumption) (by k_extra "x k_mm")
    | exact neB (by with_reducible assumption) (by k_extra "x k_mm")
    | with_reducible assumption
    | exact Ne.symm (by with_reducible assumption)
    | ((repeat refine ne_s ?_); first | exact ne_z1 | exact ne_z2 | exact ne_z3 | exact ne_z4 | exact ne_z5 | exact ne_z6 | exact ne_z7 | exact ne_z8 | exact ne_z1.symm | exact ne_z2.symm | exact ne_z3.symm | exact ne_z4.symm | exact ne_z5.symm | exact ne_z6.symm | exact ne_z7.symm | exact ne_z8.symm)
    | (refine ne_lt ?_; k_extra "x k_lo")
    | (refine ne_gt ?_; k_extra "x k_lo")
  k_with "x k_ne" => (refine neN ?_; (try dsimp only); k_extra "x ne")
  k_with "x eval ListComp" => refine stop ?_
  k_with "x call ref" => refine stop ?_
  k_with "x pyIter" => refine stop ?_
  k_with "x fn_comp" => (refine ⟨?_⟩; (with_unfolding_all refine comp_openU (by with_unfolding_all rfl) (by rfl) (by decide) ?_ (fun _ => rfl)))
  k_with "x exec For Name Name cons nil" => refine wpAny_For ?_ (by intro _; with_unfolding_all rfl)
  k_with "x exec For Name Call cons nil" => refine wpAny_For ?_ (by intro _; with_unfolding_all rfl)
  k_with "x exec For Tuple Call cons nil" => refine wpAny_For ?_ (by intro _; with_unfolding_all rfl)
  k_with "x exec For Name Name" => refine wpAny_For ?_ (by intro _; with_unfolding_all rfl)
  k_with "x exec For Name Call" => refine wpAny_For ?_ (by intro _; with_unfolding_all rfl)
  k_with "x last exec For Name Name" => refine wpAny_For ?_ (by intro _; with_unfolding_all rfl)
  k_with "x eval IfExp" => refine stop ?_
  k_with "x storeName" => ((with_reducible show wpAny _ _ (storeName _ (Str.ofString "son") _) _ _ _); refine stop ?_)
  k_with "x rest_names" => (intro z h1 h2; have n1 := h1 _ (.head _); have na : z ≠ "sign" := (fun e => by subst e; exact absurd h2 (by decide)); have nb : z ≠ "name" := (fun e => by subst e; exact absurd h2 (by decide)); have nc : z ≠ "son" := (fun e => by subst e; exact absurd h2 (by decide)); dsimp only at n1 ⊢; simp only [if_neg n1, if_neg na, if_neg nb, if_neg nc, kstB, h2, Bool.false_eq_true, if_false])
  k_with "x subscriptTail Name Name ref int" => refine halt ?_
  k_with "x subscriptTail Name Name ref str" => refine halt ?_
  k_with "x setItem ref int ref" => refine halt ?_
  k_with "x setItem ref int str" => refine halt ?_
  k_with "x setItem ref str int" => refine halt ?_
  k_with "x steps" => ((repeat' (first | (k_unfold; (try dsimp only)) | walk1 | (dsimp only; walk1))); (all_goals (try with_reducible refine Halt.mk ?_)))
  trivial
structure Halt (P : Prop) : Prop where
  h : P
theorem halt {P : Prop} (x : Halt P) : P := x.h
structure TreeAt (prog : Program) (w : World) (wl : List (List Nat)) (low : List Addr) (oS oN : Obj) (T : Tree) : Prop where
  ok : T.Ok prog w wl
  sons : oS.IsDictOf (intKind prog w) T.sons
  names : oN.IsDictOf (intKind prog w) T.names
  off : ∀ y ∈ T.N, (T.α y == sysModules) = false ∧ ∀ a ∈ low, T.α y ≠ a
  inj : ∀ y ∈ T.N, ∀ z ∈ T.N, T.α y = T.α z → y = z
theorem strs_at {vs : List Value} {ys : List Str} {i : Nat} {v : Value} (h : StrsAre vs ys) (hv : vs.toArray[i]? = some v) : ∃ y t, ys[i]? = some y ∧ v = .str y t := by
  rw [List.getElem?_toArray] at hv
  induction h generalizing i with
  | nil => cases hv
  | cons y t _ ih =>
    cases i with
    | zero => cases hv; exact ⟨_, _, rfl, rfl⟩
    | succ i => exact ih hv
theorem any_txt {wl : List (List Nat)} {y : List Nat} : ((wl.map fun l => txt l).any fun x => x == txt y) = true ↔ y ∈ wl := by
  rw [List.any_map, List.any_eq_true]
  constructor
  · rintro ⟨z, hz, e⟩; rw [← txt_eq e]; exact hz
  · exact fun h => ⟨y, h, beq_self_eq_true _⟩
noncomputable def FlagV (wl : List (List Nat)) (y : List Nat) (v : Value) : Prop := ∃ t, v = .int (((if y ∈ wl then 256 else 0 : Nat)) : Int) t
theorem c_tree (D : Addr) (vs : List Value) (nb : Nat) (wl : List (List Nat)) (hs : StrsAre vs (wl.map fun l => txt l)) (hlen : wl.length = 4) (hg : ∀ l ∈ wl, W4 4 l) :
    FD 400 w mean mg mb 115 [.ref D] [(D, listOf vs.toArray nb)]
    (fun v P' => ∃ (TP DS DN : Addr) (oS oN : Obj) (T : Tree), v = .ref TP ∧ TreeAt PySem.Challenge.pw_ta0007_02 w wl [DN, DS, D] oS oN T ∧ (∀ x, isP wl x = true → x ∈ T.N) ∧ (DS == sysModules) = false ∧ (DN == sysModules) = false ∧
      P' = (TP, { cls := .type "tuple", data := .seq #[.ref DS, .ref DN] }) :: (DN, oN) :: (DS, oS) :: (D, listOf vs.toArray nb) :: T.fam) := by
  walk_at "fn_open"
  with_reducible refine body_open F [("words", .ref D)] ?hps ?_
  case hps => exact all_cons rfl all_nil
  clear F
  intro m0 F AA ee QQ
  walk_at "steps"
  rename_i DS _ _ loS _ lS d0 _ o0 lo0 hs0 _ _ _ l0 _ oS hdS hN hM oN loN hdN _ apN lN h1 F1 N1
  replace hdS : oS.IsDictOf (intKind PySem.Challenge.pw_ta0007_02 w) [((0 : Int), Value.ref d0)] := hdS
  dsimp only at F1 N1
  obtain ⟨tN, hdN⟩ : ∃ t, oN.IsDictOf (intKind PySem.Challenge.pw_ta0007_02 w) [((0 : Int), Value.str (txt []) t)] := ⟨_, hdN⟩
  generalize hN.objs.size = DN at *
  refine ⟨iter_list_N F1 N1 (by k_mem) ?_⟩
  intro I oI St h2 S F2 N2 lt2
  have hsub : ∀ p ∈ ((DN, oN) :: (DS, oS) :: (D, listOf vs.toArray nb) :: (Tree.one d0 o0 tN).fam), p ∈ [(DN, oN), (d0, o0), (DS, oS), (D, listOf vs.toArray nb)] := by
    show ∀ p ∈ [(DN, oN), (DS, oS), (D, listOf vs.toArray nb), (d0, o0)], p ∈ _
    walk_at "fn_sub"
  have NS : News g L h2 ((I, oI) :: (DN, oN) :: (DS, oS) :: (D, listOf vs.toArray nb) :: (Tree.one d0 o0 tN).fam) := News.sub N2 (all_cons (.head _) fun p hp => .tail _ (hsub p hp))
  refine' for_src (σ := Obj × Obj × Tree) S rfl (fun c => (DN, c.2.1) :: (DS, c.1) :: (D, listOf vs.toArray nb) :: c.2.2.fam) (fun _ => []) ["word", "node", "sign", "name", "son"]
    (fun i c => TreeAt PySem.Challenge.pw_ta0007_02 w wl [DN, DS, D] c.1 c.2.1 c.2.2 ∧ ∀ l ∈ wl.take i, ∀ k, l.take k ∈ c.2.2.N) (oS, oN, Tree.one d0 o0 tN) F2 NS ?hI0 (fun _ h => nomatch h) ?hfx ?hJ0 ?turn1 ?done1
  case hI0 => exact fun q hq => Nat.ne_of_lt (lt2 q (hsub q hq))
  case hfx =>
    intro i c _ p hp
    rw [List.mem_singleton.mp hp]
    exact .tail _ (.tail _ (.head _))
  case hJ0 =>
    refine ⟨⟨Tree.one_ok (fun e => by rw [e] at hlen; cases hlen) (fun h => (hg _ h).1 rfl) hs0, hdS, hdN, ?_, ?_⟩, fun l hl => nomatch hl⟩
    · intro y _
      refine ⟨lo0, ?_⟩
      show ∀ a ∈ [DN, DS, D], d0 ≠ a
      refine all_cons (by k_ne) (all_cons (by k_ne) (all_cons (by k_ne) all_nil))
    · intro y hy z hz _
      rw [List.mem_singleton.mp hy, List.mem_singleton.mp hz]
  case turn1 =>
    rintro i ⟨oS1, oN1, T1⟩ u h3 tk3 v oI' hi hv ⟨hT, hpre⟩ F3 N3 hI
    dsimp only at hT hpre F3 N3 hI
    obtain ⟨y, tw, hy, rfl⟩ := strs_at hs hv
    rw [List.getElem?_map, Option.map_eq_some_iff] at hy
    obtain ⟨l, hl, rfl⟩ := hy
    have hlw : l ∈ wl := List.mem_of_getElem? hl
    obtain ⟨hl0, hl4, hlabc, hlh⟩ := hg l hlw
    refine turn_gen fun QB hQB => ?_
    walk_at "steps"
    refine ⟨iter_str_N (by k_asm) (by k_asm) ?_⟩
    intro I2 oI2 St2 h4 S2 F4 N4 lt4
    refine' for_src (σ := Obj × Obj × Tree × Int × Tok) S2 rfl (fun c => (I, oI') :: (DN, c.2.1) :: (DS, c.1) :: (D, listOf vs.toArray nb) :: c.2.2.1.fam) (fun c => [("node", .int c.2.2.2.1 c.2.2.2.2)]) ["sign", "name", "son"]
      (fun j c => TreeAt PySem.Challenge.pw_ta0007_02 w wl [I, DN, DS, D] c.1 c.2.1 c.2.2.1 ∧ (∀ l ∈ wl.take i, ∀ k, l.take k ∈ c.2.2.1.N) ∧ (∀ k, k ≤ j → l.take k ∈ c.2.2.1.N) ∧ c.2.2.2.1 = c.2.2.1.ν (l.take j)) (oS1, oN1, T1, 0, _) F4 N4 (fun q hq => Nat.ne_of_lt (lt4 q hq)) ?hk2 (fun _ _ _ _ h => nomatch h) ?hJ2 ?turn2 ?done2
    case hk2 => refine all_cons ?_ all_nil; exact rfl
    case hJ2 =>
      refine ⟨⟨hT.ok, hT.sons, hT.names, fun y hy => ⟨(hT.off y hy).1, fun a ha => ?_⟩, hT.inj⟩, hpre, fun k hk => ?_, ?_⟩
      · rcases List.mem_cons.mp ha with rfl | ha
        · exact hI (T1.α y, T1.ob y) (.tail _ (.tail _ (.tail _ (Tree.mem_fam hy))))
        · exact (hT.off y hy).2 a ha
      · rw [Nat.le_zero.mp hk]; exact hT.ok.root
      · exact hT.ok.zero.symm
    case turn2 =>
      rintro j ⟨oS2, oN2, T2, nd, tnd⟩ u2 h5 tk5 v2 oI2' hj ⟨c, tc, hc, rfl⟩ ⟨hT2, hpre2, hthis, hnd⟩ F5 N5 hI2
      dsimp only at hT2 hpre2 hthis hnd F5 N5 hI2
      subst hnd
      have hcl : l[j]? = some c := by simpa using hc
      have hx : l.take j ∈ T2.N := hthis j (Nat.le_refl _)
      have hxc := take_snoc hcl
      refine turn_gen fun QC hQC => ?_
      walk_at "steps"
      dsimp only
      have hl20 : T2.N.length ≤ 20 := Nat.le_trans hT2.ok.le (Nat.le_trans (begins_len fun y hy => (hg y hy).2.1) (by omega))
      refine kda_item (k := T2.ν (l.take j)) (knd := intKind PySem.Challenge.pw_ta0007_02 w) (o := oS2) (by k_asm) (by k_mem) hT2.sons (intKind_is _ _ _ _) (hT2.ok.son hx) ?_
      (with_reducible rename News _ _ _ _ => N6)
      have hm : (T2.α (l.take j), T2.ob (l.take j)) ∈ (I2, oI2') :: (I, oI') :: (DN, oN2) :: (DS, oS2) :: (D, listOf vs.toArray nb) :: T2.fam := .tail _ (.tail _ (.tail _ (.tail _ (.tail _ (Tree.mem_fam hx)))))
      refine wpAny_notIn_of (knd := strKind PySem.Challenge.pw_ta0007_02 w) (k := txt [c]) (strKind_is _ _ _ _) (hT2.off _ hx).1 (kda_dict N6 hm (hT2.ok.obk _ hx)).mapOf ?_
      by_cases hin : l.take (j + 1) ∈ T2.N
      · rw [hxc] at hin
        obtain ⟨tk1, ek⟩ := hT2.ok.kid_yes hx hin
        rw [ek, Option.isSome_some, Bool.not_true]
        walk_at "steps"
        dsimp only
        refine kda_item (k := T2.ν (l.take j)) (knd := intKind PySem.Challenge.pw_ta0007_02 w) (o := oS2) (by k_asm) (by k_mem) hT2.sons (intKind_is _ _ _ _) (hT2.ok.son hx) ?_
        walk_at "steps"
        refine kda_item (k := txt [c]) (knd := strKind PySem.Challenge.pw_ta0007_02 w) (o := T2.ob (l.take j)) (by k_asm) hm (hT2.ok.obk _ hx) (strKind_is _ _ _ _) ek ?_
        walk_at "steps"
        subst hQC
        dsimp only [ForPost]
        refine' LedEnd.intro (oS2, oN2, T2, T2.ν (l.take j ++ [c]), _) (by k_asm) (by k_asm) (fun p hp => hp) ?hkA ?hrA ⟨hI2, hT2, hpre2, ?hthA, by rw [hxc]⟩
        case hkA => refine all_cons ?_ all_nil; exact rfl
        case hrA => walk_at "rest_names"
        case hthA =>
          intro k hk
          rcases Nat.lt_or_ge k (j + 1) with q | q
          · exact hthis k (Nat.le_of_lt_succ q)
          · rw [Nat.le_antisymm hk q, hxc]; exact hin
      · rw [hxc] at hin
        rw [hT2.ok.kid_no hx hin, Option.isSome_none, Bool.not_false]
        walk_at "steps"
        dsimp only
        refine kda_item (k := T2.ν (l.take j)) (knd := intKind PySem.Challenge.pw_ta0007_02 w) (o := oN2) (by k_asm) (by k_mem) hT2.names (intKind_is _ _ _ _) (hT2.ok.name hx) ?_
        walk_at "steps"
        dsimp only
        refine add_str (fun t5 tk5 => ?_) (by show (txt _).length + (txt [c]).length ≤ sizeLine; rw [txt_len, txt_len, sizeLine_eq, List.length_take]; simp only [List.length_cons, List.length_nil]; omega)
        rw [show ({ cps := #[c] } : Str) = txt [c] from rfl, txt_app]
        walk_at "steps"
        have hsl : T2.sons.length = T2.N.length := List.length_map _
        refine kda_len (knd := intKind PySem.Challenge.pw_ta0007_02 w) (o := oS2) (by k_asm) (by k_mem) hT2.sons loS (by omega) ?_
        rw [hsl]
        walk_at "steps"
        refine ⟨?_⟩
        refine meet (FlagV wl (l.take j ++ [c])) ?if1 ?if2
        case if1 =>
          refine wpAny_IfExp ?_
          walk_at "steps"
          · rename_i a2; exact ⟨_, by rw [if_pos (any_txt.mp a2)]; rfl⟩
          · rename_i a2; exact ⟨_, by rw [if_neg fun q => by rw [any_txt.mpr q] at a2; cases a2]; rfl⟩
        case if2 =>
          rintro v tkA ⟨t6, rfl⟩
          walk_at "steps"
          refine ⟨?_⟩
          rw [show ((T2.N.length : Int) + ((if l.take j ++ [c] ∈ wl then 256 else 0 : Nat) : Int)) = T2.next wl (l.take j ++ [c]) from (Int.natCast_add _ _).symm]
          refine storeX_L (by k_asm) (by k_asm) ?_
          intro h7 F7 N7
          walk_at "steps"
          dsimp only
          refine kda_item (k := T2.ν (l.take j)) (knd := intKind PySem.Challenge.pw_ta0007_02 w) (o := oS2) (by k_asm) (by k_mem) hT2.sons (intKind_is _ _ _ _) (hT2.ok.son hx) ?_
          walk_at "steps"
          refine set_mem (knd := strKind PySem.Challenge.pw_ta0007_02 w) (k := txt [c]) (o := T2.ob (l.take j)) (by k_asm) (by k_asm) hm (hT2.ok.obk _ hx) (strKind_is _ _ _ _) (by rw [sizeLine_eq]; have := hT2.ok.kids_le hx; omega) ?_
          intro h8 o8 F8 NB8 hd8
          rw [hT2.ok.kids_new hx hin] at hd8
          have hIx : I2 ≠ T2.α (l.take j) := fun e => hI2 (T2.α (l.take j), T2.ob (l.take j)) (.tail _ (.tail _ (.tail _ (.tail _ (Tree.mem_fam hx))))) e.symm
          have hoff := (hT2.off _ hx).2
          have N8 := NB8 ((I2, oI2') :: (I, oI') :: (DN, oN2) :: (DS, oS2) :: (D, listOf vs.toArray nb) :: T2.turn (l.take j) o8) (by
            intro p hp
            rcases List.mem_cons.mp hp with rfl | hp
            · exact .inr ⟨.head _, hIx⟩
            rcases List.mem_cons.mp hp with rfl | hp
            · exact .inr ⟨.tail _ (.head _), (hoff I (.head _)).symm⟩
            rcases List.mem_cons.mp hp with rfl | hp
            · exact .inr ⟨.tail _ (.tail _ (.head _)), (hoff DN (.tail _ (.head _))).symm⟩
            rcases List.mem_cons.mp hp with rfl | hp
            · exact .inr ⟨.tail _ (.tail _ (.tail _ (.head _))), (hoff DS (.tail _ (.tail _ (.head _)))).symm⟩
            rcases List.mem_cons.mp hp with rfl | hp
            · exact .inr ⟨.tail _ (.tail _ (.tail _ (.tail _ (.head _)))), (hoff D (.tail _ (.tail _ (.tail _ (.head _))))).symm⟩
            rcases Tree.turn_old (fun y hy e => hT2.inj y hy _ hx e) hp with rfl | ⟨hp, hne⟩
            · exact .inl rfl
            · exact .inr ⟨.tail _ (.tail _ (.tail _ (.tail _ (.tail _ hp)))), hne⟩)
          clear NB8 hm
          walk_at "steps"
          rename_i d _ o9 F9 N9 lo9 hs9 _ _ _ l9
          have lD9 : ∀ p ∈ ((I2, oI2') :: (I, oI') :: (DN, oN2) :: (DS, oS2) :: (D, listOf vs.toArray nb) :: T2.turn (l.take j) o8), p.1 ≠ d := fun p hp => Nat.ne_of_lt (ltA l9 hp)
          have eT : ∀ a ∈ [I, DN, DS, D], ∀ p ∈ T2.turn (l.take j) o8, p.1 ≠ a := fun a ha p hp => by
            obtain ⟨y, hy, rfl⟩ := List.mem_map.mp hp
            exact (hT2.off y hy).2 a ha
          have mDN : DN ∈ [I, DN, DS, D] := .tail _ (.head _)
          have mDS : DS ∈ [I, DN, DS, D] := .tail _ (.tail _ (.head _))
          have mD : D ∈ [I, DN, DS, D] := .tail _ (.tail _ (.tail _ (.head _)))
          have eI2N : DN ≠ I2 := hI2 (DN, oN2) (.tail _ (.head _))
          have eI2S : DS ≠ I2 := hI2 (DS, oS2) (.tail _ (.tail _ (.head _)))
          have eI2D : D ≠ I2 := hI2 (D, listOf vs.toArray nb) (.tail _ (.tail _ (.tail _ (.head _))))
          have eI2I : I ≠ I2 := hI2 (I, oI') (.head _)
          have eIN : DN ≠ I := hI (DN, oN1) (.head _)
          have eIS : DS ≠ I := hI (DS, oS1) (.tail _ (.head _))
          have eNS : DN ≠ DS := by k_ne
          have eDS : D ≠ DS := by k_ne
          have eDN : D ≠ DN := by k_ne
          have e2d : I2 ≠ d := lD9 _ (.head _)
          have eId : I ≠ d := lD9 _ (.tail _ (.head _))
          have eNd : DN ≠ d := lD9 _ (.tail _ (.tail _ (.head _)))
          have eSd : DS ≠ d := lD9 _ (.tail _ (.tail _ (.tail _ (.head _))))
          have eDd : D ≠ d := lD9 _ (.tail _ (.tail _ (.tail _ (.tail _ (.head _)))))
          have eTd : ∀ p ∈ T2.turn (l.take j) o8, p.1 ≠ d := fun p hp => lD9 _ (.tail _ (.tail _ (.tail _ (.tail _ (.tail _ hp)))))
          clear lD9
          refine set_mem (knd := intKind PySem.Challenge.pw_ta0007_02 w) (k := T2.next wl (l.take j ++ [c])) (o := oS2) (by k_asm) (by k_asm) (by k_mem) hT2.sons (intKind_is _ _ _ _) (by rw [sizeLine_eq]; omega) ?_
          intro h10 oS3 F10 NB10 hd10
          rw [hT2.ok.sons_new (by omega)] at hd10
          have N10 := NB10 ((d, o9) :: (I2, oI2') :: (I, oI') :: (DN, oN2) :: (DS, oS3) :: (D, listOf vs.toArray nb) :: T2.turn (l.take j) o8)
            (all_cons (.inr ⟨.head _, eSd.symm⟩) (all_cons (.inr ⟨.tail _ (.head _), eI2S.symm⟩) (all_cons (.inr ⟨.tail _ (.tail _ (.head _)), eIS.symm⟩) (all_cons (.inr ⟨.tail _ (.tail _ (.tail _ (.head _))), eNS⟩)
              (all_cons (.inl rfl) (all_cons (.inr ⟨.tail _ (.tail _ (.tail _ (.tail _ (.tail _ (.head _))))), eDS⟩) fun p hp => .inr ⟨.tail _ (.tail _ (.tail _ (.tail _ (.tail _ (.tail _ hp))))), eT DS mDS p hp⟩))))))
          clear NB10
          walk_at "steps"
          refine set_mem (knd := intKind PySem.Challenge.pw_ta0007_02 w) (k := T2.next wl (l.take j ++ [c])) (o := oN2) (by k_asm) (by k_asm) (by k_mem) hT2.names (intKind_is _ _ _ _) (by rw [sizeLine_eq]; have : T2.names.length = T2.N.length := List.length_map _; omega) ?_
          intro h11 oN3 F11 NB11 hd11
          rw [hT2.ok.names_new (by omega)] at hd11
          obtain ⟨T3, hT3⟩ : ∃ T3, T3 = T2.add wl (l.take j) c d o8 o9 tkA t5 := ⟨_, rfl⟩
          have hfam := Tree.add_fam (ws := wl) (d := d) (o' := o8) (o := o9) (tk := tkA) (tn := t5) hin
          rw [← hT3] at hfam
          have N11 := NB11 ((I2, oI2') :: (I, oI') :: (DN, oN3) :: (DS, oS3) :: (D, listOf vs.toArray nb) :: T3.fam)
            (all_cons (.inr ⟨.tail _ (.head _), eI2N.symm⟩) (all_cons (.inr ⟨.tail _ (.tail _ (.head _)), eIN.symm⟩) (all_cons (.inl rfl) (all_cons (.inr ⟨.tail _ (.tail _ (.tail _ (.tail _ (.head _)))), eNS.symm⟩)
              (all_cons (.inr ⟨.tail _ (.tail _ (.tail _ (.tail _ (.tail _ (.head _))))), eDN⟩) fun p hp => .inr (by
                rcases hfam p hp with rfl | hp
                · exact ⟨.head _, eNd.symm⟩
                · exact ⟨.tail _ (.tail _ (.tail _ (.tail _ (.tail _ (.tail _ hp))))), eT DN mDN p hp⟩))))))
          clear NB11
          have hPx : isP wl (l.take j ++ [c]) = true := isP_iff.mpr ⟨l, hlw, by rw [← hxc]; exact List.take_prefix _ _⟩
          have eα : ∀ y ∈ T2.N, T3.α y = T2.α y := fun y hy => by rw [hT3]; exact upd_ne (nin_ne hin hy)
          have eαd : T3.α (l.take j ++ [c]) = d := by rw [hT3]; exact upd_self _ _ _
          have eN3 : T3.N = T2.N ++ [l.take j ++ [c]] := by rw [hT3]; rfl
          have eνx : T3.ν (l.take j) = T2.ν (l.take j) := by rw [hT3]; exact upd_ne (snoc_ne _ _)
          have eTα : ∀ y ∈ T2.N, T2.α y ≠ d := fun y hy => eTd (T2.α y, upd T2.ob (l.take j) o8 y) (List.mem_map.mpr ⟨y, hy, rfl⟩)
          have hA3 : TreeAt PySem.Challenge.pw_ta0007_02 w wl [I, DN, DS, D] oS3 oN3 T3 := by
            refine ⟨?_, ?_, ?_, ?_, ?_⟩
            · rw [hT3]; exact Tree.add_ok hT2.ok hx hin hPx (by omega) hd8 hs9
            · rw [hT3, Tree.add_sons hin]; exact hd10
            · rw [hT3, Tree.add_names hin]; exact hd11
            · intro y hy
              rw [eN3] at hy
              rcases List.mem_append.mp hy with hy | hy
              · rw [eα y hy]; exact hT2.off y hy
              · rw [List.mem_singleton.mp hy, eαd]
                exact ⟨lo9, all_cons eId.symm (all_cons eNd.symm (all_cons eSd.symm (all_cons eDd.symm all_nil)))⟩
            · intro y hy z hz e
              rw [eN3] at hy hz
              rcases List.mem_append.mp hy with hy | hy <;> rcases List.mem_append.mp hz with hz | hz
              · rw [eα y hy, eα z hz] at e; exact hT2.inj y hy z hz e
              · rw [List.mem_singleton.mp hz, eα y hy, eαd] at e; exact absurd e (eTα y hy)
              · rw [List.mem_singleton.mp hy, eα z hz, eαd] at e; exact absurd e.symm (eTα z hz)
              · rw [List.mem_singleton.mp hy, List.mem_singleton.mp hz]
          have hsub3 : ∀ y ∈ T2.N, y ∈ T3.N := fun y hy => by rw [eN3]; exact List.mem_append_left _ hy
          have hx3 := hsub3 _ hx
          have hnew3 : l.take j ++ [c] ∈ T3.N := by rw [eN3]; exact List.mem_append_right _ (.head _)
          have hfne : ∀ p ∈ T3.fam, p.1 ≠ I2 := fun p hp => by
            obtain ⟨y, hy, rfl⟩ := List.mem_map.mp hp
            rw [eN3] at hy
            rcases List.mem_append.mp hy with hy | hy
            · show T3.α y ≠ I2
              rw [eα y hy]; exact hI2 (T2.α y, T2.ob y) (.tail _ (.tail _ (.tail _ (.tail _ (Tree.mem_fam hy)))))
            · show T3.α y ≠ I2
              rw [List.mem_singleton.mp hy, eαd]; exact e2d.symm
          clear hfam hT3 eTα eTd eT eα eαd hd8 hd10 hd11 hs9
          walk_at "steps"
          dsimp only
          obtain ⟨tk2, ek⟩ := hA3.ok.kid_yes hx3 hnew3
          refine kda_item (k := T2.ν (l.take j)) (knd := intKind PySem.Challenge.pw_ta0007_02 w) (o := oS3) (by k_asm) (by k_mem) hA3.sons (intKind_is _ _ _ _) (by rw [← eνx]; exact hA3.ok.son hx3) ?_
          walk_at "steps"
          refine kda_item (k := txt [c]) (knd := strKind PySem.Challenge.pw_ta0007_02 w) (o := T3.ob (l.take j)) (by k_asm) (.tail _ (.tail _ (.tail _ (.tail _ (.tail _ (Tree.mem_fam hx3)))))) (hA3.ok.obk _ hx3) (strKind_is _ _ _ _) ek ?_
          walk_at "steps"
          subst hQC
          dsimp only [ForPost]
          refine' LedEnd.intro (oS3, oN3, T3, T3.ν (l.take j ++ [c]), _) (by k_asm) (by k_asm) (fun p hp => hp) ?hkC ?hrC ⟨?hIC, hA3, (fun l' hl' k => hsub3 _ (hpre2 l' hl' k)), ?hthC, by rw [hxc]⟩
          case hkC => refine all_cons ?_ all_nil; exact rfl
          case hrC => walk_at "rest_names"
          case hIC => exact all_cons eI2I (all_cons eI2N (all_cons eI2S (all_cons eI2D hfne)))
          case hthC =>
            intro k hk
            rcases Nat.lt_or_ge k (j + 1) with q | q
            · exact hsub3 _ (hthis k (Nat.le_of_lt_succ q))
            · rw [Nat.le_antisymm hk q, hxc]; exact hnew3
    case done2 =>
      rintro ⟨oS2, oN2, T2, nd, tnd⟩ u2 h5 tk5 ⟨hT2, hpre2, hthis, hnd⟩ F5 N5
      dsimp only at hT2 hpre2 hthis hnd F5 N5
      walk_at "steps"
      subst hQB
      dsimp only [ForPost]
      refine' LedEnd.intro (oS2, oN2, T2) (by k_asm) (by k_asm) (fun p hp => hp) (fun _ h => nomatch h) ?hrB ⟨?hIB, ⟨hT2.ok, hT2.sons, hT2.names, fun y hy => ⟨(hT2.off y hy).1, fun a ha => (hT2.off y hy).2 a (.tail _ ha)⟩, hT2.inj⟩, ?hpB⟩
      case hrB =>
        intro z h1 h2
        have na : z ≠ "word" := fun e => by subst e; exact absurd h2 (by decide)
        have nb : z ≠ "node" := fun e => by subst e; exact absurd h2 (by decide)
        have nc : z ≠ "sign" := fun e => by subst e; exact absurd h2 (by decide)
        have nd : z ≠ "name" := fun e => by subst e; exact absurd h2 (by decide)
        have ne : z ≠ "son" := fun e => by subst e; exact absurd h2 (by decide)
        have np : (["sign", "name", "son"] : List Str).contains z = false := by simp [nc, nd, ne]
        simp only [kstB, if_neg na, if_neg nb, np, h2, Bool.false_eq_true, if_false]
      case hIB =>
        refine all_cons (hI (DN, oN1) (.head _)) (all_cons (hI (DS, oS1) (.tail _ (.head _))) (all_cons (hI _ (.tail _ (.tail _ (.head _)))) fun p hp => ?_))
        obtain ⟨y, hy, rfl⟩ := List.mem_map.mp hp
        exact (hT2.off y hy).2 I (.head _)
      case hpB =>
        intro l' hl' k
        rw [take_snoc hl] at hl'
        rcases List.mem_append.mp hl' with hl' | hl'
        · exact hpre2 l' hl' k
        · rw [List.mem_singleton.mp hl']
          by_cases hk : k ≤ l.length
          · exact hthis k (by simpa using hk)
          · rw [List.take_of_length_le (by omega)]
            have := hthis l.length (by simp)
            rwa [List.take_length] at this
  case done1 =>
    rintro ⟨oS1, oN1, T1⟩ u h3 tk3 ⟨hT, hpre⟩ F3 N3
    dsimp only at hT hpre F3 N3
    have hlv : vs.length = wl.length := by have := hs.len_eq; rw [List.length_map] at this; exact this
    walk_at "steps"
    refine' ⟨Ends.intro (by k_asm) (by k_asm) ⟨_, DS, DN, oS1, oN1, T1, rfl, hT, ?_, loS, loN, rfl⟩⟩
    intro x hxp
    obtain ⟨y, hy, e⟩ := isP_iff.mp hxp
    rw [List.size_toArray, hlv, List.take_length] at hpre
    rw [List.prefix_iff_eq_take.mp e]
    exact hpre y hy _
end
section
example : True := by
  k_with_none
  k_with "x fn_open" =>
    with_unfolding_all refine' Fn.plain ?ho ?hcd ?hbind ?hloc ?_ ?hD ?hco ?hgen ?hk ?hcell
    case ho => k_is
    case hcd => k_is
    case hbind => exact fun s => BindsTo.of_eq rfl
    case hloc => exact locs rfl
    case hD => decide
    case hco => exact rfl
    case hgen => exact rfl
    case hk => exact rfl
    case hcell => decide
    intro gd outer A₀ base g L s B X T F N lt
  k_with "x fn_cells" =>
    with_unfolding_all refine' Fn.cells ?ho ?hcd ?hbind ?hkind ?hnd ?_ ?hD ?hco ?hgen ?hk
    case ho => k_is
    case hcd => k_is
    case hbind => exact fun s => BindsTo.of_eq rfl
    case hkind => exact rfl
    case hnd => decide +kernel
    case hD => decide
    case hco => exact rfl
    case hgen => exact rfl
    case hk => exact rfl
    intro gd outer A₀ base g L s cells B X T F N Y lt
  k_with "x Ends" => refine stop ?_
  k_with "x steps" => repeat' (first | (k_unfold; (try dsimp only)) | walk1 | (dsimp only; walk1))
  k_with "x fn_pick" => first | exact Pick.here | (refine' Pick.there ?p1; (case p1 => k_extra "x fn_pick"))
  k_with "x fn_split" => first | exact Split.nil | (refine' Split.cons ?a1 ?b1; (case a1 => k_extra "x fn_pick"); (case b1 => k_extra "x fn_split"))
  k_with "x fn_nes" => first | exact all_nil | ((with_reducible refine ne_consL ?_ ?_); (focus (k_extra "x fn_nes")); k_extra "x ne") | ((fail_if_success with_reducible refine ne_consL ?_ ?_); refine' all_cons ?a2 ?b2; (case a2 => k_ne); (case b2 => k_extra "x fn_nes")) | k_extra "x k_tl"
  k_with "x fn_apart" => first | exact apart_nil | ((with_reducible refine' apart_consP ?a3 ?b3); (case a3 => k_extra "x fn_nes"); (case b3 => k_extra "x fn_apart")) | ((fail_if_success with_reducible refine apart_consP ?_ ?_); refine' apart_cons ?a3 ?b3; (case a3 => k_extra "x fn_nes"); (case b3 => k_extra "x fn_apart"))
  k_with "x fn_here" => exact ⟨by k_asm, by k_asm, by k_asm, rfl, rfl, rfl, rfl, Nat.le_of_ble_eq_true rfl, Nat.le_of_ble_eq_true rfl⟩
  k_with "x fn_sub" => first | exact all_nil | (refine' all_cons ?a4 ?b4; (case a4 => k_mem); (case b4 => k_extra "x fn_sub"))
  k_with "x k_mt" => first | assumption | (refine mem_t ?_; k_extra "x k_mt")
  k_with "x k_tl" => first | exact fun q hq => ne_lt (ltA (o := q.2) (by with_reducible assumption) (by k_extra "x k_mt")) | with_reducible assumption
  k_with "x k_all" => first | exact all_nil | ((with_reducible refine ne_consR ?_ ?_); (focus (k_extra "x k_all")); k_extra "x ne") | ((fail_if_success with_reducible refine ne_consR ?_ ?_); refine' all_cons ?a5 ?b5; (case a5 => k_ne); (case b5 => k_extra "x k_all")) | k_extra "x k_tl"
  k_with "x fn_ords" => first | exact all_nil | (refine' all_cons ?a6 ?b6; (case a6 => ((try dsimp only); first | k_extra "x k_lo" | exact Nat.le_refl _ | (refine Nat.le_of_lt ?_; k_extra "x k_lo") | (simp only [AllLt, and_true] at *; omega))); (case b6 => k_extra "x fn_ords"))
  k_with "x k_mm" => with_reducible (first | exact mem_0 | exact mem_1 | exact mem_2 | exact mem_3 | exact mem_4 | exact mem_5 | exact mem_6 | exact mem_7 | exact mem_8 | exact mem_9 | (refine mem_s ?_; k_extra "x k_mm"))
  k_with "x k_q1" => exact ltA (by with_reducible assumption) (by k_extra "x k_mm")
  k_with "x k_up" => first | exact ltP (by with_reducible assumption) | exact ltP2 (by with_reducible assumption) | exact ltP3 (by with_reducible assumption) | exact ltP4 (by with_reducible assumption) | exact ltP5 (by with_reducible assumption) | exact ltP6 (by with_reducible assumption) | exact ltP7 (by with_reducible assumption) | exact ltP8 (by with_reducible assumption) 
  k_with "x k_hi" => first | with_reducible assumption | k_extra "x k_q1" | exact ltR (by with_reducible assumption) (by k_extra "x k_mm") | k_extra "x k_up" | (refine Nat.lt_trans ?_ (by with_reducible assumption); k_extra "x k_hi")
  k_with "x k_l1" => first | k_extra "x k_q1" | exact ltZ | k_extra "x k_hi" | (refine ltS ?_; k_extra "x k_l1")
  k_with "x k_l2" => first | k_extra "x k_l1" | (refine Nat.lt_trans (by with_reducible assumption) ?_; k_extra "x k_l2")
  k_with "x k_lo" => ((fail_if_success (with_reducible show @LT.lt Nat _ _ 79)); k_extra "x k_l2")
  k_with "x k_mem" => k_extra "x k_mm"
  k_with "x ne" => first
    | exact neA (by with_reducible assumption) (by k_extra "x k_mm")
    | exact neB (by with_reducible assumption) (by k_extra "x k_mm")
    | with_reducible assumption
    | exact Ne.symm (by with_reducible assumption)
    | ((repeat refine ne_s ?_); first | exact ne_z1 | exact ne_z2 | exact ne_z3 | exact ne_z4 | exact ne_z5 | exact ne_z6 | exact ne_z7 | exact ne_z8 | exact ne_z1.symm | exact ne_z2.symm | exact ne_z3.symm | exact ne_z4.symm | exact ne_z5.symm | exact ne_z6.symm | exact ne_z7.symm | exact ne_z8.symm)
    | (refine ne_lt ?_; k_extra "x k_lo")
    | (refine ne_gt ?_; k_extra "x k_lo")
  k_with "x k_ne" => (refine neN ?_; (try dsimp only); k_extra "x ne")
  k_with "x eval ListComp" => refine stop ?_
  k_with "x call ref" => refine stop ?_
  k_with "x pyIter" => refine stop ?_
  k_with "x fn_comp" => (refine ⟨?_⟩; (with_unfolding_all refine comp_openU (by with_unfolding_all rfl) (by rfl) (by decide) ?_ (fun _ => rfl)))
  k_with "x exec For Name Name cons nil" => refine wpAny_For ?_ (by intro _; with_unfolding_all rfl)
  k_with "x exec For Name Call cons nil" => refine wpAny_For ?_ (by intro _; with_unfolding_all rfl)
  k_with "x exec For Tuple Call cons nil" => refine wpAny_For ?_ (by intro _; with_unfolding_all rfl)
  k_with "x exec For Name Name" => refine wpAny_For ?_ (by intro _; with_unfolding_all rfl)
  k_with "x exec For Name Call" => refine wpAny_For ?_ (by intro _; with_unfolding_all rfl)
  k_with "x last exec For Name Name" => refine wpAny_For ?_ (by intro _; with_unfolding_all rfl)
  trivial
noncomputable abbrev MX (w : World) : Model := model PySem.Challenge.pw_ta0007_02 w
noncomputable abbrev HereD (D : Nat) (w : World) (mean : ExcName → Option Value) (mg mb : Str → Option Value) := Here PySem.Challenge.pw_ta0007_02 w (hd.heap_39 w.params) topProg lse mean mg mb D D
section
variable {A A₀ : Around} {env : Env} {outer : List Env} {base h₀ : Heap} {L : Addr} {m : Str → Option Value} {s : Shared} {Q E : Value → Shared → Prop} {news : List (Addr × Obj)} {D : Nat} {f : Addr} {args : List Value} {P rest : List (Addr × Obj)} {post : Value → List (Addr × Obj) → Prop}
theorem Fn.useM (C : FD D w mean mg mb f args P post) (H : HereD D w mean mg mb A env outer A₀ base h₀ L) (F : Fr h₀ L s.heap m) (N : News h₀ L s.heap news) (hP : ∀ p ∈ P, p ∈ news) (hr : ∀ p ∈ rest, p ∈ news) (ap : Apart P rest)
    (k : ∀ v P' h' tk', post v P' → Fr h₀ L h' m → News h₀ L h' P' → News h₀ L h' rest → Q v { s with heap := h', toks := tk' }) :
    wpAny (MX w) A (call (.ref f) args) Q E s :=
  wpAny_call (C A env outer A₀ base h₀ L m rest s _ H F (fun p hp => N p (hP p hp)) (fun p hp => N p (hr p hp)) ap fun v P' h' tk' hp F' N1 N2 _ => k v P' h' tk' hp F' N1 N2)
theorem Fn.use0 {φ : Value → Prop} (C : FD D w mean mg mb f args [] post) (hp : ∀ v P', post v P' → φ v) (H : HereD D w mean mg mb A env outer A₀ base h₀ L) (F : Fr h₀ L s.heap m) (N : News h₀ L s.heap news)
    (k : ∀ v h' tk', φ v → Fr h₀ L h' m → News h₀ L h' news → Q v { s with heap := h', toks := tk' }) :
    wpAny (MX w) A (call (.ref f) args) Q E s :=
  Fn.useM C H F N (fun _ h => nomatch h) (fun _ h => h) apart_nil fun v P' h' tk' q F' _ N' => k v h' tk' (hp v P' q) F' N'
theorem use_word {x : Int} {t : Tok} (hx : x.natAbs < 16 ^ 20) (H : HereD 490 w mean mg mb A env outer A₀ base h₀ L) (F : Fr h₀ L s.heap m) (N : News h₀ L s.heap news)
    (k : ∀ tv h' tk', Fr h₀ L h' m → News h₀ L h' news → Q (.str (txt (wcode x)) tv) { s with heap := h', toks := tk' }) : wpAny (MX w) A (call (.ref 89) [.int x t]) Q E s :=
  Fn.use0 (c_word x t hx) (φ := fun v => ∃ tk, v = .str (txt (wcode x)) tk) (fun _ _ h => let ⟨tk, e, _⟩ := h; ⟨tk, e⟩) H F N fun v h' tk' q F' N' => let ⟨tv, e⟩ := q; e ▸ k tv h' tk' F' N'
theorem use_number {x : List Nat} {t : Tok} (h0 : x.head? ≠ some 65) (hl : x.length ≤ 100) (H : HereD 490 w mean mg mb A env outer A₀ base h₀ L) (F : Fr h₀ L s.heap m) (N : News h₀ L s.heap news)
    (k : ∀ tv h' tk', Fr h₀ L h' m → News h₀ L h' news → Q (.int (numOf x) tv) { s with heap := h', toks := tk' }) : wpAny (MX w) A (call (.ref 96) [.str (txt x) t]) Q E s :=
  Fn.use0 (c_number x t h0 hl) (φ := fun v => ∃ tk, v = .int (numOf x) tk) (fun _ _ h => let ⟨tk, e, _⟩ := h; ⟨tk, e⟩) H F N fun v h' tk' q F' N' => let ⟨tv, e⟩ := q; e ▸ k tv h' tk' F' N'
theorem use_isnt {x : Int} {t : Tok} (H : HereD 490 w mean mg mb A env outer A₀ base h₀ L) (F : Fr h₀ L s.heap m) (N : News h₀ L s.heap news)
    (k : ∀ h' tk', Fr h₀ L h' m → News h₀ L h' news → Q (.bool (decide (256 ≤ x))) { s with heap := h', toks := tk' }) : wpAny (MX w) A (call (.ref 70) [.int x t]) Q E s :=
  Fn.use0 (c_isnt x t) (φ := fun v => v = .bool (decide (256 ≤ x))) (fun _ _ h => h.1) H F N fun v h' tk' q F' N' => q ▸ k h' tk' F' N'
theorem use_iseof {x : Int} {t : Tok} (H : HereD 490 w mean mg mb A env outer A₀ base h₀ L) (F : Fr h₀ L s.heap m) (N : News h₀ L s.heap news)
    (k : ∀ h' tk', Fr h₀ L h' m → News h₀ L h' news → Q (.bool (x == 0)) { s with heap := h', toks := tk' }) : wpAny (MX w) A (call (.ref 77) [.int x t]) Q E s :=
  Fn.use0 (c_iseof x t) (φ := fun v => v = .bool (x == 0)) (fun _ _ h => h.1) H F N fun v h' tk' q F' N' => q ▸ k h' tk' F' N'
end
noncomputable def Lx.A3 (k : Lx) (ln : Int) (tl : Tok) (vs : List Value) (n : Nat) : List (Addr × Obj) := [(k.x, instObj 52 k.dx), (k.dx, k.dict ln tl), (k.pb, listOf vs.toArray n)]
noncomputable def Lx.S7 (k : Lx) (pos : Int) (tp : Tok) (n : Nat) : List (Addr × Obj) := k.stream pos tp n
noncomputable def Lx.adr (k : Lx) : List Addr := [k.x, k.dx, k.pb, k.pl, k.st, k.sd, k.rd, k.c1, k.cp, k.ct]
structure Ls where
  vs : List Value
  n : Nat
  p : Nat
  tp : Tok
  m : Nat
  tl : Tok
noncomputable def lex (k : Lx) (l : List Nat) (c : Ls) (Y : List (Addr × Obj)) : List (Addr × Obj) := k.A3 (lnAt l c.p) c.tl c.vs c.n ++ (k.S7 c.p c.tp c.m ++ Y)
noncomputable def OffK (k : Lx) (X : List (Addr × Obj)) : Prop := ∀ a ∈ k.adr, ∀ q ∈ X, a ≠ q.1
theorem A3_adr {k : Lx} {ln : Int} {tl : Tok} {vs : List Value} {n : Nat} : ∀ p ∈ k.A3 ln tl vs n, p.1 ∈ k.adr :=
  all_cons (.head _) (all_cons (.tail _ (.head _)) (all_cons (.tail _ (.tail _ (.head _))) all_nil))
theorem S7_adr {k : Lx} {pos : Int} {tp : Tok} {n : Nat} : ∀ p ∈ k.S7 pos tp n, p.1 ∈ k.adr := by
  have t : ∀ {a : Addr}, a ∈ [k.pl, k.st, k.sd, k.rd, k.c1, k.cp, k.ct] → a ∈ k.adr := fun h => .tail _ (.tail _ (.tail _ h))
  exact all_cons (t (.head _)) (all_cons (t (.tail _ (.head _))) (all_cons (t (.tail _ (.tail _ (.head _)))) (all_cons (t (.tail _ (.tail _ (.tail _ (.head _))))) (all_cons (t (.tail _ (.tail _ (.tail _ (.tail _ (.head _)))))) (all_cons (t (.tail _ (.tail _ (.tail _ (.tail _ (.tail _ (.head _))))))) (all_cons (t (.tail _ (.tail _ (.tail _ (.tail _ (.tail _ (.tail _ (.head _)))))))) all_nil))))))
theorem A3_S7 {k : Lx} (ok : k.Ok) {ln : Int} {tl : Tok} {vs : List Value} {n : Nat} {pos : Int} {tp : Tok} {m : Nat} : Apart (k.A3 ln tl vs n) (k.S7 pos tp m) := by
  obtain ⟨a1, a2, a3, a4, a5, a6, a7, a8, a9⟩ := ok
  refine apart_lt k.dx (all_cons (Nat.le_of_lt a8) (all_cons (Nat.le_refl _) (all_cons (Nat.le_of_lt (Nat.lt_trans a8 a9)) all_nil))) ?_
  intro q hq
  have e6 := Nat.lt_trans a6 a7
  have e5 := Nat.lt_trans a5 e6
  have e4 := Nat.lt_trans a4 e5
  have e3 := Nat.lt_trans a3 e4
  have e2 := Nat.lt_trans a2 e3
  have e1 := Nat.lt_trans a1 e2
  exact all_cons (p := fun q : Addr × Obj => @LT.lt Nat _ q.1 k.dx) e3 (all_cons e6 (all_cons a7 (all_cons e5 (all_cons e4 (all_cons e2 (all_cons e1 all_nil)))))) q hq
theorem off_apart {k : Lx} {P X : List (Addr × Obj)} (hP : ∀ p ∈ P, p.1 ∈ k.adr) (h : OffK k X) : Apart P X := fun p hp => h _ (hP p hp)
theorem off_app {k : Lx} {X Y : List (Addr × Obj)} (h : OffK k X) (h' : OffK k Y) : OffK k (X ++ Y) := fun a ha q hq => (List.mem_append.mp hq).elim (h a ha q) (h' a ha q)
theorem off_cons {k : Lx} {d : Addr} {o : Obj} {Y : List (Addr × Obj)} (h : ∀ a ∈ k.adr, a ≠ d) (h' : OffK k Y) : OffK k ((d, o) :: Y) := fun a ha => all_cons (h a ha) (h' a ha)
section
variable {k : Lx} {l : List Nat} {c c' : Ls} {X Y : List (Addr × Obj)}
theorem lex_A3 : ∀ p ∈ k.A3 (lnAt l c.p) c.tl c.vs c.n, p ∈ X ++ lex k l c Y := fun _ h => List.mem_append_right _ (List.mem_append_left _ h)
theorem lex_S7 : ∀ p ∈ k.S7 c.p c.tp c.m, p ∈ X ++ lex k l c Y := fun _ h => List.mem_append_right _ (List.mem_append_right _ (List.mem_append_left _ h))
theorem lex_Y : ∀ p ∈ Y, p ∈ lex k l c Y := fun _ h => List.mem_append_right _ (List.mem_append_right _ h)
theorem lex_XY : ∀ p ∈ X ++ Y, p ∈ X ++ lex k l c Y := fun p h => (List.mem_append.mp h).elim (List.mem_append_left _) fun h => List.mem_append_right _ (lex_Y p h)
theorem lex_adr : ∀ a ∈ k.adr, ∃ o, (a, o) ∈ lex k l c Y :=
  all_cons ⟨_, .head _⟩ (all_cons ⟨_, .tail _ (.head _)⟩ (all_cons ⟨_, .tail _ (.tail _ (.head _))⟩ (all_cons ⟨_, lex_S7 (X := []) _ (.head _)⟩ (all_cons ⟨_, lex_S7 (X := []) _ (.tail _ (.head _))⟩ (all_cons ⟨_, lex_S7 (X := []) _ (.tail _ (.tail _ (.head _)))⟩
    (all_cons ⟨_, lex_S7 (X := []) _ (.tail _ (.tail _ (.tail _ (.head _))))⟩ (all_cons ⟨_, lex_S7 (X := []) _ (.tail _ (.tail _ (.tail _ (.tail _ (.head _)))))⟩ (all_cons ⟨_, lex_S7 (X := []) _ (.tail _ (.tail _ (.tail _ (.tail _ (.tail _ (.head _))))))⟩
    (all_cons ⟨_, lex_S7 (X := []) _ (.tail _ (.tail _ (.tail _ (.tail _ (.tail _ (.tail _ (.head _)))))))⟩ all_nil)))))))))
theorem lex_in : ∀ q ∈ lex k l c [], q.1 ∈ k.adr := fun q hq => (List.mem_append.mp hq).elim (A3_adr q) fun hq => (List.mem_append.mp hq).elim (S7_adr q) (fun h => nomatch h)
theorem off_of_apart {P : List (Addr × Obj)} (ap : Apart P (lex k l c Y)) : OffK k P := fun a ha q hq => let ⟨_, h⟩ := lex_adr (c := c) (Y := Y) a ha; (ap q hq _ h).symm
theorem off_lt {d : Addr} {news : List (Addr × Obj)} (lt : AllLt d news) (hs : ∀ p ∈ lex k l c Y, p ∈ news) : ∀ a ∈ k.adr, a ≠ d := fun a ha => let ⟨_, h⟩ := lex_adr (c := c) (Y := Y) a ha; ne_lt (ltA lt (hs _ h))
theorem lex_of {h₀ h : Heap} {L : Addr} (n1 : News h₀ L h (k.A3 (lnAt l c.p) c.tl c.vs c.n)) (n2 : News h₀ L h (k.S7 c.p c.tp c.m)) (n3 : News h₀ L h (X ++ Y)) : News h₀ L h (X ++ lex k l c Y) := fun p hp =>
  (List.mem_append.mp hp).elim (fun hp => n3 p (List.mem_append_left _ hp)) fun hp => (List.mem_append.mp hp).elim (n1 p) fun hp => (List.mem_append.mp hp).elim (n2 p) fun hp => n3 p (List.mem_append_right _ hp)
end
theorem perm_At {k : Lx} {l : List Nat} {p : Nat} {tp : Tok} {m : Nat} {tl : Tok} {nb : Nat} : ∀ x ∈ k.At l p tp m tl ++ [(k.pb, listOf #[] nb)], x ∈ k.A3 (lnAt l p) tl [] nb ++ k.S7 p tp m := fun x hx =>
  (List.mem_append.mp hx).elim (fun hx => (List.mem_cons.mp hx).elim (fun e => e ▸ .head _) fun hx => (List.mem_cons.mp hx).elim (fun e => e ▸ .tail _ (.head _)) (List.mem_append_right _)) fun hx => List.mem_singleton.mp hx ▸ .tail _ (.tail _ (.head _))
theorem At_A3 {k : Lx} {l : List Nat} {p : Nat} {tp : Tok} {m : Nat} {tl : Tok} {nb : Nat} : ∀ x ∈ k.A3 (lnAt l p) tl [] nb, x ∈ k.At l p tp m tl ++ [(k.pb, listOf #[] nb)] :=
  all_cons (.head _) (all_cons (.tail _ (.head _)) (all_cons (List.mem_append_right _ (.head _)) all_nil))
theorem At_S7 {k : Lx} {l : List Nat} {p : Nat} {tp : Tok} {m : Nat} {tl : Tok} {nb : Nat} : ∀ x ∈ k.S7 p tp m, x ∈ k.At l p tp m tl ++ [(k.pb, listOf #[] nb)] := fun _ h => List.mem_append_left _ (.tail _ (.tail _ h))
section
variable {A A₀ : Around} {env : Env} {outer : List Env} {base h₀ : Heap} {L : Addr} {m : Str → Option Value} {s : Shared} {Q E : Value → Shared → Prop} {X Y : List (Addr × Obj)} {k : Lx} {l : List Nat} {c : Ls}
theorem ap_lex (ok : k.Ok) {ln : Int} {tl : Tok} {vs : List Value} {n : Nat} {pos : Int} {tp : Tok} {m : Nat} (hO : OffK k (X ++ Y)) : Apart (k.A3 ln tl vs n) (k.S7 pos tp m ++ (X ++ Y)) :=
  fun p hp q hq => (List.mem_append.mp hq).elim (A3_S7 ok p hp q) (hO _ (A3_adr p hp) q)
theorem push_lex (ok : k.Ok) {v : Value} (hz : c.vs.length ≤ 1000) (hO : OffK k (X ++ Y)) (H : HereD 450 w mean mg mb A env outer A₀ base h₀ L) (F : Fr h₀ L s.heap m) (N : News h₀ L s.heap (X ++ lex k l c Y))
    (g : ∀ h' tk' n', Fr h₀ L h' m → News h₀ L h' (X ++ lex k l { c with vs := c.vs ++ [v], n := n' } Y) → Q .none { s with heap := h', toks := tk' }) :
    wpAny (MX w) A (call (.ref 49) [.ref k.x, v]) Q E s :=
  Fn.useM (rest := k.S7 c.p c.tp c.m ++ (X ++ Y)) (c_push k ok (lnAt l c.p) c.tl v c.vs c.n hz) H F N lex_A3 (fun p hp => (List.mem_append.mp hp).elim (lex_S7 p) (lex_XY p)) (ap_lex ok hO) fun v' P' h' tk' q F' N1 N2 =>
    let ⟨n', e, e'⟩ := q
    e ▸ g h' tk' n' F' (lex_of (c := { c with vs := c.vs ++ [v], n := n' }) (fun p hp => (e' ▸ N1) p hp) (fun p hp => N2 p (List.mem_append_left _ hp)) fun p hp => N2 p (List.mem_append_right _ hp))
theorem getp_lex (ok : k.Ok) {v : Value} {vs : List Value} (hv : c.vs = v :: vs) (hz : vs.length ≤ 1000) (hO : OffK k (X ++ Y)) (H : HereD 450 w mean mg mb A env outer A₀ base h₀ L) (F : Fr h₀ L s.heap m) (N : News h₀ L s.heap (X ++ lex k l c Y))
    (g : ∀ h' tk' n', Fr h₀ L h' m → News h₀ L h' (X ++ lex k l { c with vs := vs, n := n' } Y) → Q v { s with heap := h', toks := tk' }) :
    wpAny (MX w) A (call (.ref 42) [.ref k.x]) Q E s :=
  Fn.useM (rest := k.S7 c.p c.tp c.m ++ (X ++ Y)) (c_get_push k ok (lnAt l c.p) c.tl v vs c.n hz) H F N (fun p hp => lex_A3 p (by rw [hv]; exact hp)) (fun p hp => (List.mem_append.mp hp).elim (lex_S7 p) (lex_XY p)) (ap_lex (vs := v :: vs) ok hO) fun v' P' h' tk' q F' N1 N2 =>
    let ⟨n', e, e'⟩ := q
    e ▸ g h' tk' n' F' (lex_of (c := { c with vs := vs, n := n' }) (fun p hp => (e' ▸ N1) p hp) (fun p hp => N2 p (List.mem_append_left _ hp)) fun p hp => N2 p (List.mem_append_right _ hp))
theorem getr_lex (ok : k.Ok) (hl : l.length ≤ 1000000) (hR : k.Reads w mean mg mb l) {tok r : List Nat} (hs : skip (l.drop c.p) = some (tok, r)) (hv : c.vs = []) (hO : OffK k (X ++ Y)) (H : HereD 450 w mean mg mb A env outer A₀ base h₀ L) (F : Fr h₀ L s.heap m) (N : News h₀ L s.heap (X ++ lex k l c Y))
    (g : ∀ h' tk' tv p' tp' m' tl', l.drop p' = r → Fr h₀ L h' m → News h₀ L h' (X ++ lex k l { c with p := p', tp := tp', m := m', tl := tl' } Y) → Q (.str (txt tok) tv) { s with heap := h', toks := tk' }) :
    wpAny (MX w) A (call (.ref 42) [.ref k.x]) Q E s :=
  Fn.useM (rest := X ++ Y) (c_get_read k ok l hl hR c.p c.tp c.m c.tl c.n tok r hs) H F N (fun p hp => (List.mem_append.mp (perm_At p hp)).elim (fun h => lex_A3 p (by rw [hv]; exact h)) (lex_S7 p)) lex_XY
    (off_apart (fun p hp => (List.mem_append.mp (perm_At p hp)).elim (A3_adr p) (S7_adr p)) hO) fun v' P' h' tk' q F' N1 N2 =>
    let ⟨tv, p', tp', m', tl', e, hp', e'⟩ := q
    e ▸ g h' tk' tv p' tp' m' tl' hp' F' (lex_of (c := { c with p := p', tp := tp', m := m', tl := tl' }) (fun p hp => (e' ▸ N1) p (At_A3 p (by rw [← hv]; exact hp))) (fun p hp => (e' ▸ N1) p (At_S7 p hp)) N2)
end
end
section
example : True := by
  k_with_none
  k_with "x fn_open" =>
    with_unfolding_all refine' Fn.plain ?ho ?hcd ?hbind ?hloc ?_ ?hD ?hco ?hgen ?hk ?hcell
    case ho => k_is
    case hcd => k_is
    case hbind => exact fun s => BindsTo.of_eq rfl
    case hloc => exact locs rfl
    case hD => decide
    case hco => exact rfl
    case hgen => exact rfl
    case hk => exact rfl
    case hcell => decide
    intro gd outer A₀ base g L s B X T F N lt
  k_with "x fn_cells" =>
    with_unfolding_all refine' Fn.cells ?ho ?hcd ?hbind ?hkind ?hnd ?_ ?hD ?hco ?hgen ?hk
    case ho => k_is
    case hcd => k_is
    case hbind => exact fun s => BindsTo.of_eq rfl
    case hkind => exact rfl
    case hnd => decide +kernel
    case hD => decide
    case hco => exact rfl
    case hgen => exact rfl
    case hk => exact rfl
    intro gd outer A₀ base g L s cells B X T F N Y lt
  k_with "x Ends" => refine stop ?_
  k_with "x steps" => repeat' (first | (k_unfold; (try dsimp only)) | walk1 | (dsimp only; walk1))
  k_with "x fn_pick" => first | exact Pick.here | (refine' Pick.there ?p1; (case p1 => k_extra "x fn_pick"))
  k_with "x fn_split" => first | exact Split.nil | (refine' Split.cons ?a1 ?b1; (case a1 => k_extra "x fn_pick"); (case b1 => k_extra "x fn_split"))
  k_with "x fn_nes" => first | exact all_nil | ((with_reducible refine ne_consL ?_ ?_); (focus (k_extra "x fn_nes")); k_extra "x ne") | ((fail_if_success with_reducible refine ne_consL ?_ ?_); refine' all_cons ?a2 ?b2; (case a2 => k_ne); (case b2 => k_extra "x fn_nes")) | k_extra "x k_tl"
  k_with "x fn_apart" => first | exact apart_nil | ((with_reducible refine' apart_consP ?a3 ?b3); (case a3 => k_extra "x fn_nes"); (case b3 => k_extra "x fn_apart")) | ((fail_if_success with_reducible refine apart_consP ?_ ?_); refine' apart_cons ?a3 ?b3; (case a3 => k_extra "x fn_nes"); (case b3 => k_extra "x fn_apart"))
  k_with "x fn_here" => exact ⟨by k_asm, by k_asm, by k_asm, rfl, rfl, rfl, rfl, Nat.le_of_ble_eq_true rfl, Nat.le_of_ble_eq_true rfl⟩
  k_with "x fn_sub" => first | exact all_nil | (refine' all_cons ?a4 ?b4; (case a4 => k_mem); (case b4 => k_extra "x fn_sub"))
  k_with "x k_mt" => first | assumption | (refine mem_t ?_; k_extra "x k_mt")
  k_with "x k_tl" => first | exact fun q hq => ne_lt (ltA (o := q.2) (by with_reducible assumption) (by k_extra "x k_mt")) | with_reducible assumption
  k_with "x k_all" => first | exact all_nil | ((with_reducible refine ne_consR ?_ ?_); (focus (k_extra "x k_all")); k_extra "x ne") | ((fail_if_success with_reducible refine ne_consR ?_ ?_); refine' all_cons ?a5 ?b5; (case a5 => k_ne); (case b5 => k_extra "x k_all")) | k_extra "x k_tl"
  k_with "x fn_ords" => first | exact all_nil | (refine' all_cons ?a6 ?b6; (case a6 => ((try dsimp only); first | k_extra "x k_lo" | exact Nat.le_refl _ | (refine Nat.le_of_lt ?_; k_extra "x k_lo") | (simp only [AllLt, and_true] at *; omega))); (case b6 => k_extra "x fn_ords"))
  k_with "x k_mm" => with_reducible (first | exact mem_0 | exact mem_1 | exact mem_2 | exact mem_3 | exact mem_4 | exact mem_5 | exact mem_6 | exact mem_7 | exact mem_8 | exact mem_9 | (refine mem_s ?_; k_extra "x k_mm"))
  k_with "x k_q1" => exact ltA (by with_reducible assumption) (by k_extra "x k_mm")
  k_with "x k_up" => first | exact ltP (by with_reducible assumption) | exact ltP2 (by with_reducible assumption) | exact ltP3 (by with_reducible assumption) | exact ltP4 (by with_reducible assumption) | exact ltP5 (by with_reducible assumption) | exact ltP6 (by with_reducible assumption) | exact ltP7 (by with_reducible assumption) | exact ltP8 (by with_reducible assumption) 
  k_with "x k_hi" => first | with_reducible assumption | k_extra "x k_q1" | exact ltR (by with_reducible assumption) (by k_extra "x k_mm") | k_extra "x k_up" | (refine Nat.lt_trans ?_ (by with_reducible assumption); k_extra "x k_hi")
  k_with "x k_l1" => first | k_extra "x k_q1" | exact ltZ | k_extra "x k_hi" | (refine ltS ?_; k_extra "x k_l1")
  k_with "x k_l2" => first | k_extra "x k_l1" | (refine Nat.lt_trans (by with_reducible assumption) ?_; k_extra "x k_l2")
  k_with "x k_lo" => ((fail_if_success (with_reducible show @LT.lt Nat _ _ 79)); k_extra "x k_l2")
  k_with "x k_mem" => k_extra "x k_mm"
  k_with "x ne" => first
    | exact neA (by with_reducible assumption) (by k_extra "x k_mm")
    | exact neB (by with_reducible assumption) (by k_extra "x k_mm")
    | with_reducible assumption
    | exact Ne.symm (by with_reducible assumption)
    | ((repeat refine ne_s ?_); first | exact ne_z1 | exact ne_z2 | exact ne_z3 | exact ne_z4 | exact ne_z5 | exact ne_z6 | exact ne_z7 | exact ne_z8 | exact ne_z1.symm | exact ne_z2.symm | exact ne_z3.symm | exact ne_z4.symm | exact ne_z5.symm | exact ne_z6.symm | exact ne_z7.symm | exact ne_z8.symm)
    | (refine ne_lt ?_; k_extra "x k_lo")
    | (refine ne_gt ?_; k_extra "x k_lo")
  k_with "x k_ne" => (refine neN ?_; (try dsimp only); k_extra "x ne")
  k_with "x eval ListComp" => refine stop ?_
  k_with "x call ref" => refine stop ?_
  k_with "x pyIter" => refine stop ?_
  k_with "x fn_comp" => (refine ⟨?_⟩; (with_unfolding_all refine comp_openU (by with_unfolding_all rfl) (by rfl) (by decide) ?_ (fun _ => rfl)))
  k_with "x exec For Name Name cons nil" => refine wpAny_For ?_ (by intro _; with_unfolding_all rfl)
  k_with "x exec For Name Call cons nil" => refine wpAny_For ?_ (by intro _; with_unfolding_all rfl)
  k_with "x exec For Tuple Call cons nil" => refine wpAny_For ?_ (by intro _; with_unfolding_all rfl)
  k_with "x exec For Name Name" => refine wpAny_For ?_ (by intro _; with_unfolding_all rfl)
  k_with "x exec For Name Call" => refine wpAny_For ?_ (by intro _; with_unfolding_all rfl)
  k_with "x last exec For Name Name" => refine wpAny_For ?_ (by intro _; with_unfolding_all rfl)
  trivial
theorem bne_yes {x : List Nat} (h : (txt x != Str.ofString "") = true) : x ≠ [] := fun e => by subst e; exact absurd h (by decide)
theorem bne_no {x : List Nat} (h : (txt x != Str.ofString "") = false) : x = [] := by
  have e : txt x = Str.ofString "" := by simpa using h
  exact txt_inj (b := []) e
theorem drop_some {α : Type} {l : List α} {j : Nat} (h : j < l.length) : ∃ y, l.drop j = y :: l.drop (j + 1) := ⟨l[j], List.drop_eq_getElem_cons h⟩
theorem reads_head {r r' : List Nat} {t : List Nat} {ts : List (List Nat)} (h : Reads1 r (t :: ts) r') : ∃ r1, skip r = some (t, r1) ∧ Reads1 r1 ts r' := h
structure Pl where
  k : Lx
  l : List Nat
  DL : Addr
  DH : Addr
  DN : Addr
  DS : Addr
  oN : Obj
  oS : Obj
  T : Tree
structure Sv where
  oL : Obj
  oH : Obj
  kl : List (Int × Value)
  kh : List (Int × Value)
  R : List (Addr × Obj)
  c : Ls
noncomputable def Sv.Y (g : Pl) (x : Sv) : List (Addr × Obj) := (g.DL, x.oL) :: (g.DH, x.oH) :: x.R
noncomputable def Sv.led (g : Pl) (x : Sv) : List (Addr × Obj) := lex g.k g.l x.c (x.Y g)
structure Sep (g : Pl) (X : List (Addr × Obj)) : Prop where
  k : OffK g.k X
  dl : ∀ q ∈ X, q.1 ≠ g.DL
  dh : ∀ q ∈ X, q.1 ≠ g.DH
structure Pl.Ok (w : World) (mean : ExcName → Option Value) (mg mb : Str → Option Value) (wl : List (List Nat)) (g : Pl) : Prop where
  k : g.k.Ok
  l : g.l.length ≤ 1000000
  rd : g.k.Reads w mean mg mb g.l
  dl : ∀ a ∈ g.k.adr, a ≠ g.DL
  dh : ∀ a ∈ g.k.adr, a ≠ g.DH
  ne : g.DL ≠ g.DH
  ok : g.T.Ok PySem.Challenge.pw_ta0007_02 w wl
  sons : g.oS.IsDictOf (intKind PySem.Challenge.pw_ta0007_02 w) g.T.sons
  names : g.oN.IsDictOf (intKind PySem.Challenge.pw_ta0007_02 w) g.T.names
  off : ∀ y ∈ g.T.N, (g.T.α y == sysModules) = false
  all : ∀ x, isP wl x = true → x ∈ g.T.N
  n : g.T.N.length ≤ 20
structure Sv.Ok (w : World) (g : Pl) (x : Sv) : Prop where
  sep : Sep g x.R
  dl : x.oL.IsDictOf (intKind PySem.Challenge.pw_ta0007_02 w) x.kl
  dh : x.oH.IsDictOf (intKind PySem.Challenge.pw_ta0007_02 w) x.kh
  fam : ∀ y ∈ g.T.N, (g.T.α y, g.T.ob y) ∈ x.R
  dn : (g.DN, g.oN) ∈ x.R
  ds : (g.DS, g.oS) ∈ x.R
section
variable {g : Pl} {x : Sv} {X : List (Addr × Obj)} {wl : List (List Nat)}
theorem sep_nil : Sep g [] := ⟨(fun _ _ _ h => nomatch h), (fun _ h => nomatch h), (fun _ h => nomatch h)⟩
theorem sv_L : (g.DL, x.oL) ∈ x.led g := lex_Y _ (.head _)
theorem sv_H : (g.DH, x.oH) ∈ x.led g := lex_Y _ (.tail _ (.head _))
theorem sv_R {q : Addr × Obj} (h : q ∈ x.R) : q ∈ x.led g := lex_Y _ (.tail _ (.tail _ h))
theorem led_adr {a : Addr} {X Y : List (Addr × Obj)} {k : Lx} {l : List Nat} {c c' : Ls} (hXY : ∀ p ∈ Y, ∃ p' ∈ X, p'.1 = p.1) (hI : ∀ p ∈ lex k l c X, p.1 ≠ a) : ∀ p ∈ lex k l c' Y, p.1 ≠ a := fun p hp =>
  (List.mem_append.mp hp).elim (fun hp => let ⟨o, h⟩ := lex_adr (k := k) (l := l) (c := c) (Y := X) _ (A3_adr p hp); hI (p.1, o) h) fun hp => (List.mem_append.mp hp).elim (fun hp => let ⟨o, h⟩ := lex_adr (k := k) (l := l) (c := c) (Y := X) _ (S7_adr p hp); hI (p.1, o) h) fun hp => let ⟨p', h, e⟩ := hXY p hp; e ▸ hI p' (lex_Y p' h)
theorem led_apart {a : Addr} {x x' : Sv} (hI : ∀ p ∈ x.led g, p.1 ≠ a) (hR : x'.R = x.R := by rfl) : ∀ p ∈ x'.led g, p.1 ≠ a :=
  led_adr (X := x.Y g) (c := x.c) (all_cons ⟨_, .head _, rfl⟩ (all_cons ⟨_, .tail _ (.head _), rfl⟩ (by rw [hR]; exact fun p hp => ⟨p, .tail _ (.tail _ hp), rfl⟩))) hI
theorem sep_ne {I : Addr} {oI : Obj} (hI : ∀ p ∈ x.led g, p.1 ≠ I) : Sep g [(I, oI)] :=
  ⟨fun a ha => all_cons (let ⟨_, h⟩ := lex_adr (c := x.c) (Y := x.Y g) a ha; hI _ h) all_nil, all_cons (hI _ sv_L).symm all_nil, all_cons (hI _ sv_H).symm all_nil⟩
theorem sep_cons {d : Addr} {o : Obj} {R : List (Addr × Obj)} (h : Sep g [(d, o)]) (h' : Sep g R) : Sep g ((d, o) :: R) :=
  ⟨fun a ha => all_cons (h.k a ha _ (.head _)) (h'.k a ha), all_cons (h.dl _ (.head _)) h'.dl, all_cons (h.dh _ (.head _)) h'.dh⟩
theorem Sv.Ok.offY (ok : g.Ok w mean mg mb wl) (h : x.Ok w g) (hX : Sep g X) : OffK g.k (X ++ x.Y g) := off_app hX.k fun a ha => all_cons (ok.dl a ha) (all_cons (ok.dh a ha) (h.sep.k a ha))
theorem sv_old (x' : Sv) {D : Addr} (hk : ∀ a ∈ g.k.adr, a ≠ D) (hXD : ∀ q ∈ X, q.1 ≠ D) (hc : x'.c = x.c) (hY : ∀ p ∈ x'.Y g, p = (D, if D = g.DL then x'.oL else x'.oH) ∨ (p ∈ x.Y g ∧ p.1 ≠ D)) :
    ∀ p ∈ X ++ x'.led g, p = (D, if D = g.DL then x'.oL else x'.oH) ∨ (p ∈ X ++ x.led g ∧ p.1 ≠ D) := by
  have hA : ∀ p ∈ g.k.A3 (lnAt g.l x'.c.p) x'.c.tl x'.c.vs x'.c.n, p ∈ X ++ x.led g := by rw [hc]; exact lex_A3
  have hS : ∀ p ∈ g.k.S7 x'.c.p x'.c.tp x'.c.m, p ∈ X ++ x.led g := by rw [hc]; exact lex_S7
  intro p hp
  rcases List.mem_append.mp hp with hp | hp
  · exact .inr ⟨List.mem_append_left _ hp, hXD p hp⟩
  · rcases List.mem_append.mp hp with hp | hp
    · exact .inr ⟨hA p hp, hk _ (A3_adr p hp)⟩
    · rcases List.mem_append.mp hp with hp | hp
      · exact .inr ⟨hS p hp, hk _ (S7_adr p hp)⟩
      · exact (hY p hp).imp_right fun h => ⟨List.mem_append_right _ (lex_Y p h.1), h.2⟩
end
section
variable {A A₀ : Around} {env : Env} {outer : List Env} {base h₀ : Heap} {L : Addr} {m : Str → Option Value} {s : Shared} {Q E : Value → Shared → Prop} {X news : List (Addr × Obj)} {g : Pl} {x : Sv} {wl : List (List Nat)} {y : List Nat} {S : List (List Nat)}
theorem setL_sv (ok : g.Ok w mean mg mb wl) (h : x.Ok w g) {n : Int} {t : Tok} {v : Value} {Q : Unit → Shared → Prop} (hX : Sep g X) (F : Fr h₀ L s.heap m) (N : News h₀ L s.heap (X ++ x.led g)) (hsz : x.kl.length ≤ sizeLine)
    (k : ∀ h' o', Fr h₀ L h' m → News h₀ L h' (X ++ ({ x with oL := o', kl := stored x.kl n v } : Sv).led g) → ({ x with oL := o', kl := stored x.kl n v } : Sv).Ok w g → Q () { s with heap := h', toks := s.toks + 1 }) :
    wpAny (MX w) A (setItem (.ref g.DL) (.int n t) v) Q E s :=
  set_mem F N (List.mem_append_right _ sv_L) h.dl (intKind_is _ _ _ _) hsz fun h' o' F' NB hd' => k h' o' F' (NB _ fun p hp => by
    have := sv_old (x := x) { x with oL := o', kl := stored x.kl n v } (D := g.DL) ok.dl hX.dl rfl (all_cons (.inl (by rw [if_pos rfl])) (all_cons (.inr ⟨.tail _ (.head _), ok.ne.symm⟩) fun p hp => .inr ⟨.tail _ (.tail _ hp), h.sep.dl p hp⟩)) p hp
    rw [if_pos rfl] at this; exact this) ⟨h.sep, hd', h.dh, h.fam, h.dn, h.ds⟩
theorem setH_sv (ok : g.Ok w mean mg mb wl) (h : x.Ok w g) {n : Int} {t : Tok} {v : Value} {Q : Unit → Shared → Prop} (hX : Sep g X) (F : Fr h₀ L s.heap m) (N : News h₀ L s.heap (X ++ x.led g)) (hsz : x.kh.length ≤ sizeLine)
    (k : ∀ h' o', Fr h₀ L h' m → News h₀ L h' (X ++ ({ x with oH := o', kh := stored x.kh n v } : Sv).led g) → ({ x with oH := o', kh := stored x.kh n v } : Sv).Ok w g → Q () { s with heap := h', toks := s.toks + 1 }) :
    wpAny (MX w) A (setItem (.ref g.DH) (.int n t) v) Q E s :=
  set_mem F N (List.mem_append_right _ sv_H) h.dh (intKind_is _ _ _ _) hsz fun h' o' F' NB hd' => k h' o' F' (NB _ fun p hp => by
    have := sv_old (x := x) { x with oH := o', kh := stored x.kh n v } (D := g.DH) ok.dh hX.dh rfl (all_cons (.inr ⟨.head _, ok.ne⟩) (all_cons (.inl (by rw [if_neg ok.ne.symm])) fun p hp => .inr ⟨.tail _ (.tail _ hp), h.sep.dh p hp⟩)) p hp
    rw [if_neg ok.ne.symm] at this; exact this) ⟨h.sep, h.dl, hd', h.fam, h.dn, h.ds⟩
theorem push_sv (ok : g.Ok w mean mg mb wl) (h : x.Ok w g) {v : Value} (hz : x.c.vs.length ≤ 1000) (hX : Sep g X) (H : HereD 450 w mean mg mb A env outer A₀ base h₀ L) (F : Fr h₀ L s.heap m) (N : News h₀ L s.heap (X ++ x.led g))
    (k : ∀ h' tk' n', Fr h₀ L h' m → News h₀ L h' (X ++ ({ x with c := { x.c with vs := x.c.vs ++ [v], n := n' } } : Sv).led g) → ({ x with c := { x.c with vs := x.c.vs ++ [v], n := n' } } : Sv).Ok w g → Q .none { s with heap := h', toks := tk' }) :
    wpAny (MX w) A (call (.ref 49) [.ref g.k.x, v]) Q E s :=
  push_lex ok.k hz (h.offY ok hX) H F N fun h' tk' n' F' N' => k h' tk' n' F' N' ⟨h.sep, h.dl, h.dh, h.fam, h.dn, h.ds⟩
theorem getp_sv (ok : g.Ok w mean mg mb wl) (h : x.Ok w g) {v : Value} {vs : List Value} (hv : x.c.vs = v :: vs) (hz : vs.length ≤ 1000) (hX : Sep g X) (H : HereD 450 w mean mg mb A env outer A₀ base h₀ L) (F : Fr h₀ L s.heap m) (N : News h₀ L s.heap (X ++ x.led g))
    (k : ∀ h' tk' n', Fr h₀ L h' m → News h₀ L h' (X ++ ({ x with c := { x.c with vs := vs, n := n' } } : Sv).led g) → ({ x with c := { x.c with vs := vs, n := n' } } : Sv).Ok w g → Q v { s with heap := h', toks := tk' }) :
    wpAny (MX w) A (call (.ref 42) [.ref g.k.x]) Q E s :=
  getp_lex ok.k hv hz (h.offY ok hX) H F N fun h' tk' n' F' N' => k h' tk' n' F' N' ⟨h.sep, h.dl, h.dh, h.fam, h.dn, h.ds⟩
theorem getr_sv (ok : g.Ok w mean mg mb wl) (h : x.Ok w g) {tok r : List Nat} (hs : skip (g.l.drop x.c.p) = some (tok, r)) (hv : x.c.vs = []) (hX : Sep g X) (H : HereD 450 w mean mg mb A env outer A₀ base h₀ L) (F : Fr h₀ L s.heap m) (N : News h₀ L s.heap (X ++ x.led g))
    (k : ∀ h' tk' tv p' tp' m' tl', g.l.drop p' = r → Fr h₀ L h' m → News h₀ L h' (X ++ ({ x with c := { x.c with p := p', tp := tp', m := m', tl := tl' } } : Sv).led g) → ({ x with c := { x.c with p := p', tp := tp', m := m', tl := tl' } } : Sv).Ok w g → Q (.str (txt tok) tv) { s with heap := h', toks := tk' }) :
    wpAny (MX w) A (call (.ref 42) [.ref g.k.x]) Q E s :=
  getr_lex ok.k ok.l ok.rd hs hv (h.offY ok hX) H F N fun h' tk' tv p' tp' m' tl' hp' F' N' => k h' tk' tv p' tp' m' tl' hp' F' N' ⟨h.sep, h.dl, h.dh, h.fam, h.dn, h.ds⟩
section
variable {value slice : PySem.Expr} {t : Tok}
theorem item_S (ok : g.Ok w mean mg mb wl) (hm : (g.DS, g.oS) ∈ news) (hy : y ∈ g.T.N) (N : News h₀ L s.heap news) (k : Q (.ref (g.T.α y)) { s with toks := s.toks + 1 })
    (hs : subscripted slice false (.ref g.DS) (.int (g.T.ν y) t) = operate [.ref g.DS, (.int (g.T.ν y) t)] (getItem (.ref g.DS) (.int (g.T.ν y) t)) := by with_unfolding_all rfl) (hg : ∀ r, letTemporaryGo value (.ref g.DS) r = pure () := by intro _; with_unfolding_all rfl) :
    wpAny (MX w) A (subscriptTail value slice (.ref g.DS) (.int (g.T.ν y) t)) Q E s := kda_item N hm ok.sons (intKind_is _ _ _ _) (ok.ok.son hy) k hs hg
theorem item_N (ok : g.Ok w mean mg mb wl) (hm : (g.DN, g.oN) ∈ news) (hy : y ∈ g.T.N) (N : News h₀ L s.heap news) (k : ∀ tv, Q (.str (txt y) tv) { s with toks := s.toks + 1 })
    (hs : subscripted slice false (.ref g.DN) (.int (g.T.ν y) t) = operate [.ref g.DN, (.int (g.T.ν y) t)] (getItem (.ref g.DN) (.int (g.T.ν y) t)) := by with_unfolding_all rfl) (hg : ∀ r, letTemporaryGo value (.ref g.DN) r = pure () := by intro _; with_unfolding_all rfl) :
    wpAny (MX w) A (subscriptTail value slice (.ref g.DN) (.int (g.T.ν y) t)) Q E s := kda_item N hm ok.names (intKind_is _ _ _ _) (ok.ok.name hy) (k _) hs hg
theorem item_L (h : x.Ok w g) (hm : (g.DL, x.oL) ∈ news) (hL : Links wl g.T x.kl S) (hy : y = [] ∨ y ∈ S) (N : News h₀ L s.heap news) (k : ∀ tv, Q (.int (g.T.ν (fail wl y)) tv) { s with toks := s.toks + 1 })
    (hs : subscripted slice false (.ref g.DL) (.int (g.T.ν y) t) = operate [.ref g.DL, (.int (g.T.ν y) t)] (getItem (.ref g.DL) (.int (g.T.ν y) t)) := by with_unfolding_all rfl) (hg : ∀ r, letTemporaryGo value (.ref g.DL) r = pure () := by intro _; with_unfolding_all rfl) :
    wpAny (MX w) A (subscriptTail value slice (.ref g.DL) (.int (g.T.ν y) t)) Q E s := let ⟨tv, e⟩ := hL.at_ y hy; kda_item N hm h.dl (intKind_is _ _ _ _) e (k tv) hs hg
theorem item_H (h : x.Ok w g) (hm : (g.DH, x.oH) ∈ news) (hH : Hits wl g.T x.R x.kh S) (hy : y = [] ∨ y ∈ S) (N : News h₀ L s.heap news) (k : ∀ a vs n, (a, listOf vs.toArray n) ∈ x.R → StrsAre vs ((sfx wl y).map fun z => txt z) → Q (.ref a) { s with toks := s.toks + 1 })
    (hs : subscripted slice false (.ref g.DH) (.int (g.T.ν y) t) = operate [.ref g.DH, (.int (g.T.ν y) t)] (getItem (.ref g.DH) (.int (g.T.ν y) t)) := by with_unfolding_all rfl) (hg : ∀ r, letTemporaryGo value (.ref g.DH) r = pure () := by intro _; with_unfolding_all rfl) :
    wpAny (MX w) A (subscriptTail value slice (.ref g.DH) (.int (g.T.ν y) t)) Q E s := let ⟨a, vs, n, e, hm', hv⟩ := hH.at_ y hy; kda_item N hm h.dh (intKind_is _ _ _ _) e (k a vs n hm' hv) hs hg
theorem item_B {c : Nat} {tc : Tok} (ok : g.Ok w mean mg mb wl) (hm : (g.T.α y, g.T.ob y) ∈ news) (hy : y ∈ g.T.N) (hc : y ++ [c] ∈ g.T.N) (N : News h₀ L s.heap news) (k : ∀ tv, Q (.int (g.T.ν (y ++ [c])) tv) { s with toks := s.toks + 1 })
    (hs : subscripted slice false (.ref (g.T.α y)) (.str (txt [c]) tc) = operate [.ref (g.T.α y), (.str (txt [c]) tc)] (getItem (.ref (g.T.α y)) (.str (txt [c]) tc)) := by with_unfolding_all rfl) (hg : ∀ r, letTemporaryGo value (.ref (g.T.α y)) r = pure () := by intro _; with_unfolding_all rfl) :
    wpAny (MX w) A (subscriptTail value slice (.ref (g.T.α y)) (.str (txt [c]) tc)) Q E s := let ⟨tv, e⟩ := ok.ok.kid_yes hy hc; kda_item N hm (ok.ok.obk y hy) (strKind_is _ _ _ _) e (k tv) hs hg
end
theorem notin_B {c : Nat} {tc : Tok} (ok : g.Ok w mean mg mb wl) (hm : (g.T.α y, g.T.ob y) ∈ news) (hy : y ∈ g.T.N) (N : News h₀ L s.heap news) (k : Q (.bool (!decide (y ++ [c] ∈ g.T.N))) { s with toks := s.toks + 1 }) :
    wpAny (MX w) A (compareOp .NotIn (.str (txt [c]) tc) (.ref (g.T.α y))) Q E s := by
  refine wpAny_notIn_of (knd := strKind PySem.Challenge.pw_ta0007_02 w) (k := txt [c]) (strKind_is _ _ _ _) (ok.off y hy) (kda_dict N hm (ok.ok.obk y hy)).mapOf ?_
  by_cases hin : y ++ [c] ∈ g.T.N
  · obtain ⟨tk1, ek⟩ := ok.ok.kid_yes hy hin
    rw [ek, Option.isSome_some, ← decide_eq_true hin]; exact k
  · rw [ok.ok.kid_no hy hin, Option.isSome_none, ← decide_eq_false hin]; exact k
end
end
section
example : True := by
  k_with_none
  k_with "x fn_open" =>
    with_unfolding_all refine' Fn.plain ?ho ?hcd ?hbind ?hloc ?_ ?hD ?hco ?hgen ?hk ?hcell
    case ho => k_is
    case hcd => k_is
    case hbind => exact fun s => BindsTo.of_eq rfl
    case hloc => exact locs rfl
    case hD => decide
    case hco => exact rfl
    case hgen => exact rfl
    case hk => exact rfl
    case hcell => decide
    intro gd outer A₀ base g L s B X T F N lt
  k_with "x fn_cells" =>
    with_unfolding_all refine' Fn.cells ?ho ?hcd ?hbind ?hkind ?hnd ?_ ?hD ?hco ?hgen ?hk
    case ho => k_is
    case hcd => k_is
    case hbind => exact fun s => BindsTo.of_eq rfl
    case hkind => exact rfl
    case hnd => decide +kernel
    case hD => decide
    case hco => exact rfl
    case hgen => exact rfl
    case hk => exact rfl
    intro gd outer A₀ base g L s cells B X T F N Y lt
  k_with "x Ends" => refine stop ?_
  k_with "x steps" => repeat' (first | (k_unfold; (try dsimp only)) | walk1 | (dsimp only; walk1))
  k_with "x fn_pick" => first | exact Pick.here | (refine' Pick.there ?p1; (case p1 => k_extra "x fn_pick"))
  k_with "x fn_split" => first | exact Split.nil | (refine' Split.cons ?a1 ?b1; (case a1 => k_extra "x fn_pick"); (case b1 => k_extra "x fn_split"))
  k_with "x fn_nes" => first | exact all_nil | ((with_reducible refine ne_consL ?_ ?_); (focus (k_extra "x fn_nes")); k_extra "x ne") | ((fail_if_success with_reducible refine ne_consL ?_ ?_); refine' all_cons ?a2 ?b2; (case a2 => k_ne); (case b2 => k_extra "x fn_nes")) | k_extra "x k_tl"
  k_with "x fn_apart" => first | exact apart_nil | ((with_reducible refine' apart_consP ?a3 ?b3); (case a3 => k_extra "x fn_nes"); (case b3 => k_extra "x fn_apart")) | ((fail_if_success with_reducible refine apart_consP ?_ ?_); refine' apart_cons ?a3 ?b3; (case a3 => k_extra "x fn_nes"); (case b3 => k_extra "x fn_apart"))
  k_with "x fn_here" => exact ⟨by k_asm, by k_asm, by k_asm, rfl, rfl, rfl, rfl, Nat.le_of_ble_eq_true rfl, Nat.le_of_ble_eq_true rfl⟩
  k_with "x fn_sub" => first | exact all_nil | (refine' all_cons ?a4 ?b4; (case a4 => k_mem); (case b4 => k_extra "x fn_sub"))
  k_with "x k_mt" => first | assumption | (refine mem_t ?_; k_extra "x k_mt")
  k_with "x k_tl" => first | exact fun q hq => ne_lt (ltA (o := q.2) (by with_reducible assumption) (by k_extra "x k_mt")) | with_reducible assumption
  k_with "x k_all" => first | exact all_nil | ((with_reducible refine ne_consR ?_ ?_); (focus (k_extra "x k_all")); k_extra "x ne") | ((fail_if_success with_reducible refine ne_consR ?_ ?_); refine' all_cons ?a5 ?b5; (case a5 => k_ne); (case b5 => k_extra "x k_all")) | k_extra "x k_tl"
  k_with "x fn_ords" => first | exact all_nil | (refine' all_cons ?a6 ?b6; (case a6 => ((try dsimp only); first | k_extra "x k_lo" | exact Nat.le_refl _ | (refine Nat.le_of_lt ?_; k_extra "x k_lo") | (simp only [AllLt, and_true] at *; omega))); (case b6 => k_extra "x fn_ords"))
  k_with "x k_mm" => with_reducible (first | exact mem_0 | exact mem_1 | exact mem_2 | exact mem_3 | exact mem_4 | exact mem_5 | exact mem_6 | exact mem_7 | exact mem_8 | exact mem_9 | (refine mem_s ?_; k_extra "x k_mm"))
  k_with "x k_q1" => exact ltA (by with_reducible assumption) (by k_extra "x k_mm")
  k_with "x k_up" => first | exact ltP (by with_reducible assumption) | exact ltP2 (by with_reducible assumption) | exact ltP3 (by with_reducible assumption) | exact ltP4 (by with_reducible assumption) | exact ltP5 (by with_reducible assumption) | exact ltP6 (by with_reducible assumption) | exact ltP7 (by with_reducible assumption) | exact ltP8 (by with_reducible assumption) 
  k_with "x k_hi" => first | with_reducible assumption | k_extra "x k_q1" | exact ltR (by with_reducible assumption) (by k_extra "x k_mm") | k_extra "x k_up" | (refine Nat.lt_trans ?_ (by with_reducible assumption); k_extra "x k_hi")
  k_with "x k_l1" => first | k_extra "x k_q1" | exact ltZ | k_extra "x k_hi" | (refine ltS ?_; k_extra "x k_l1")
  k_with "x k_l2" => first | k_extra "x k_l1" | (refine Nat.lt_trans (by with_reducible assumption) ?_; k_extra "x k_l2")
  k_with "x k_lo" => ((fail_if_success (with_reducible show @LT.lt Nat _ _ 79)); k_extra "x k_l2")
  k_with "x k_mem" => k_extra "x k_mm"
  k_with "x ne" => first
    | exact neA (by with_reducible assumption) (by k_extra "x k_mm")
    | exact neB (by with_reducible assumption) (by k_extra "x k_mm")
    | with_reducible assumption
    | exact Ne.symm (by with_reducible assumption)
    | ((repeat refine ne_s ?_); first | exact ne_z1 | exact ne_z2 | exact ne_z3 | exact ne_z4 | exact ne_z5 | exact ne_z6 | exact ne_z7 | exact ne_z8 | exact ne_z1.symm | exact ne_z2.symm | exact ne_z3.symm | exact ne_z4.symm | exact ne_z5.symm | exact ne_z6.symm | exact ne_z7.symm | exact ne_z8.symm)
    | (refine ne_lt ?_; k_extra "x k_lo")
    | (refine ne_gt ?_; k_extra "x k_lo")
  k_with "x k_ne" => (refine neN ?_; (try dsimp only); k_extra "x ne")
  k_with "x eval ListComp" => refine stop ?_
  k_with "x call ref" => refine stop ?_
  k_with "x pyIter" => refine stop ?_
  k_with "x fn_comp" => (refine ⟨?_⟩; (with_unfolding_all refine comp_openU (by with_unfolding_all rfl) (by rfl) (by decide) ?_ (fun _ => rfl)))
  k_with "x exec For Name Name cons nil" => refine wpAny_For ?_ (by intro _; with_unfolding_all rfl)
  k_with "x exec For Name Call cons nil" => refine wpAny_For ?_ (by intro _; with_unfolding_all rfl)
  k_with "x exec For Tuple Call cons nil" => refine wpAny_For ?_ (by intro _; with_unfolding_all rfl)
  k_with "x exec For Name Name" => refine wpAny_For ?_ (by intro _; with_unfolding_all rfl)
  k_with "x exec For Name Call" => refine wpAny_For ?_ (by intro _; with_unfolding_all rfl)
  k_with "x last exec For Name Name" => refine wpAny_For ?_ (by intro _; with_unfolding_all rfl)
  trivial
structure Sq (w : World) (g : Pl) (wl D q S : List (List Nat)) (ts : List (List Nat)) (r : List Nat) (x : Sv) : Prop where
  ok : x.Ok w g
  ring : Ring g.T x.c.vs q
  links : Links wl g.T x.kl S
  hits : Hits wl g.T x.R x.kh D
  rd : Reads1 (g.l.drop x.c.p) ts r
section
variable {g : Pl} {x : Sv} {wl D q S ts : List (List Nat)} {r : List Nat} {y : List Nat}
theorem Pl.Ok.big (ok : g.Ok w mean mg mb wl) : g.T.N.length < 256 := Nat.lt_of_le_of_lt ok.n (by decide)
theorem brs_in (ok : g.Ok w mean mg mb wl) (hy : y ∈ g.T.N) : ∀ z ∈ g.T.brs y, z ∈ g.T.N := fun z hz => by
  obtain ⟨c, hc, rfl⟩ := List.mem_map.mp hz
  exact (ok.ok.kid y hy c).mp hc
theorem Sq.kl_le (h : Sq w g wl D q S ts r x) (hS : S.length ≤ 100) : x.kl.length ≤ sizeLine := by
  have := h.links.len
  rw [sizeLine_eq]; omega
theorem Sq.kh_le (h : Sq w g wl D q S ts r x) (hS : D.length ≤ 100) : x.kh.length ≤ sizeLine := by
  have := h.hits.len
  rw [sizeLine_eq]; omega
theorem Sq.vs_le (h : Sq w g wl D q S ts r x) (hS : q.length ≤ 100) : x.c.vs.length ≤ 1000 := by
  rw [h.ring.len]; omega
theorem Sq.more (h : Sq w g wl D q S ts r x) (ok : g.Ok w mean mg mb wl) (hy : y ∈ g.T.N) {oL : Obj} {t tw : Tok} {n : Int} {m : Nat} (e : n = g.T.ν (fail wl y)) (h' : ({ x with oL := oL, kl := stored x.kl (g.T.ν y) (.int n t), c := { x.c with vs := x.c.vs ++ [.str (txt (wcode (g.T.ν y))) tw], n := m } } : Sv).Ok w g) :
    Sq w g wl D (q ++ [y]) (S ++ [y]) ts r { x with oL := oL, kl := stored x.kl (g.T.ν y) (.int n t), c := { x.c with vs := x.c.vs ++ [.str (txt (wcode (g.T.ν y))) tw], n := m } } :=
  ⟨h', h.ring.snoc _ _, h.links.add ok.ok hy t e, h.hits, h.rd⟩
end
structure Mw where
  D : List (List Nat)
  q : List (List Nat)
  x : Sv
  tn : Tok
structure Mw.Ok (w : World) (g : Pl) (wl : List (List Nat)) (t r : List Nat) (c : Mw) : Prop where
  bfs : Bfs wl c.D c.q
  sq : Sq w g wl c.D c.q.tail (c.D ++ c.q) (if c.q = [] then [t] else [[], t]) r c.x
theorem Mw.Ok.le {g : Pl} {wl : List (List Nat)} {t r : List Nat} {c : Mw} (h : c.Ok w g wl t r) (hw : ∀ x ∈ wl, W4 4 x) (hlen : wl.length = 4) : c.D.length + c.q.length ≤ 20 :=
  Nat.le_trans h.bfs.le (Nat.le_trans (begins_len fun y hy => (hw y hy).2.1) (by rw [hlen]; decide))
section
variable {A A₀ : Around} {env : Env} {outer : List Env} {base h₀ : Heap} {L : Addr} {m : Str → Option Value} {s : Shared} {Q E : Value → Shared → Prop} {X news : List (Addr × Obj)} {g : Pl} {x : Sv} {wl D q S : List (List Nat)} {y : List Nat} {t r : List Nat}
theorem get_sq (ok : g.Ok w mean mg mb wl) (h : Sq w g wl D q S [[], t] r x) (hq : ∀ y ∈ q, y ∈ g.T.N) (hz : q.length ≤ 100) (hX : Sep g X) (H : HereD 450 w mean mg mb A env outer A₀ base h₀ L) (F : Fr h₀ L s.heap m) (N : News h₀ L s.heap (X ++ x.led g))
    (k : ∀ h' tk' x' z tv, Fr h₀ L h' m → News h₀ L h' (X ++ x'.led g) → Sq w g wl D q.tail S (if q = [] then [t] else [[], t]) r x' → z.head? ≠ some 65 → z.length ≤ 100 → numOf z = g.T.ν (q.headD []) → Q (.str (txt z) tv) { s with heap := h', toks := tk' }) :
    wpAny (MX w) A (call (.ref 42) [.ref g.k.x]) Q E s := by
  cases q with
  | nil =>
    obtain ⟨r1, hs, hr⟩ := reads_head h.rd
    refine getr_sv ok h.ok hs (List.eq_nil_of_length_eq_zero h.ring.len) hX H F N ?_
    intro h' tk' tv p' tp' m' tl' hp' F' N' o'
    exact k h' tk' _ [] tv F' N' ⟨o', h.ring, h.links, h.hits, by rw [if_pos rfl]; dsimp only; rw [hp']; exact hr⟩ (by decide) (by decide) ok.ok.zero.symm
  | cons y q =>
    obtain ⟨tv, vs, hv, hr⟩ := h.ring.head
    obtain ⟨hb, hn⟩ := ok.ok.code ok.big (hq y (.head _))
    refine getp_sv ok h.ok hv (by rw [hr.len]; exact Nat.le_trans (Nat.le_of_succ_le hz) (by decide)) hX H F N ?_
    intro h' tk' n' F' N' o'
    exact k h' tk' _ (wcode (g.T.ν y)) tv F' N' ⟨o', hr, h.links, h.hits, by rw [if_neg (List.cons_ne_nil _ _)]; exact h.rd⟩ (wcode_head _) (Nat.le_trans (wcode_len hb) (by decide)) hn
theorem meth_get {pl : Sem Bool} {Q : Value × List Value → Shared → Prop} (ok : g.Ok w mean mg mb wl) (hm : (g.T.α y, g.T.ob y) ∈ news) (hy : y ∈ g.T.N) (N : News h₀ L s.heap news) (h : Q (.builtin "dict.get", [.ref (g.T.α y)]) s) :
    wpAny (MX w) A (getMethod (.ref (g.T.α y)) "get" pl) Q E s := kdg_method N hm (ok.ok.obk y hy) h
theorem call_get {c : Nat} {tc t0 : Tok} (ok : g.Ok w mean mg mb wl) (hm : (g.T.α y, g.T.ob y) ∈ news) (hy : y ∈ g.T.N) (N : News h₀ L s.heap news) (k : ∀ tv, Q (.int (g.T.ν (if isP wl (y ++ [c]) = true then y ++ [c] else [])) tv) { s with toks := s.toks + 1 }) :
    wpAny (MX w) A (call (.builtin "dict.get") [.ref (g.T.α y), .str (txt [c]) tc, .int 0 t0]) Q E s := by
  refine kdg_get2 (k := txt [c]) N hm (ok.ok.obk y hy) (ok.off y hy) (strKind_is _ _ _ _) _ rfl ?_
  by_cases hp : isP wl (y ++ [c]) = true
  · obtain ⟨tv, e⟩ := ok.ok.kid_yes hy (ok.all _ hp)
    have := k tv
    rw [if_pos hp] at this
    rw [e]; exact this
  · have := k t0
    rw [if_neg hp, ok.ok.zero] at this
    rw [ok.ok.kid_no hy fun q => hp (ok.ok.inP _ q)]; exact this
theorem meth_values {pl : Sem Bool} {Q : Value × List Value → Shared → Prop} (ok : g.Ok w mean mg mb wl) (hm : (g.T.α y, g.T.ob y) ∈ news) (hy : y ∈ g.T.N) (N : News h₀ L s.heap news) (h : Q (.builtin "dict.values", [.ref (g.T.α y)]) s) :
    wpAny (MX w) A (getMethod (.ref (g.T.α y)) "values" pl) Q E s := kdl_method PySem.F.slot_dict_values PySem.F.type_dict_values N hm (ok.ok.obk y hy) h
theorem call_values (ok : g.Ok w mean mg mb wl) (hm : (g.T.α y, g.T.ob y) ∈ news) (hy : y ∈ g.T.N) (F : Fr h₀ L s.heap m) (N : News h₀ L s.heap news) (k : ∀ v h', h'.IsValuesView v (g.T.α y) → Fr h₀ L h' m → News h₀ L h' news → Q (.ref v) { s with heap := h' }) :
    wpAny (MX w) A (call (.builtin "dict.values") [.ref (g.T.α y)]) Q E s := kta_callValues F N hm (ok.ok.obk y hy) (ok.off y hy) (k _)
theorem item_S0 {value slice : PySem.Expr} {t : Tok} (ok : g.Ok w mean mg mb wl) (hm : (g.DS, g.oS) ∈ news) (N : News h₀ L s.heap news) (k : Q (.ref (g.T.α [])) { s with toks := s.toks + 1 })
    (hs : subscripted slice false (.ref g.DS) (.int 0 t) = operate [.ref g.DS, (.int 0 t)] (getItem (.ref g.DS) (.int 0 t)) := by with_unfolding_all rfl) (hg : ∀ r, letTemporaryGo value (.ref g.DS) r = pure () := by intro _; with_unfolding_all rfl) :
    wpAny (MX w) A (subscriptTail value slice (.ref g.DS) (.int 0 t)) Q E s := kda_item N hm ok.sons (intKind_is _ _ _ _) (by have := ok.ok.son ok.ok.root; rw [ok.ok.zero] at this; exact this) k hs hg
noncomputable def OneL (h₀ : Heap) (L : Addr) (m : Str → Option Value) (news : List (Addr × Obj)) (s : Shared) (φ : List Value → Prop) (v : Value) (s' : Shared) : Prop :=
  ∃ d vs n h' tk, v = .ref d ∧ s' = { s with heap := h', toks := tk } ∧ Fr h₀ L h' m ∧ News h₀ L h' ((d, listOf vs.toArray n) :: news) ∧ (∀ p ∈ news, p.1 < d) ∧ φ vs
theorem allLt_out {d : Addr} {news : List (Addr × Obj)} (h : AllLt d news) : ∀ p ∈ news, @LT.lt Nat _ p.1 d := fun p hp => ltA (o := p.2) h hp
theorem OneL.intro {φ : List Value → Prop} {d : Addr} {vs : List Value} {n tk : Nat} {h' : Heap} (F : Fr h₀ L h' m) (N : News h₀ L h' ((d, listOf vs.toArray n) :: news)) (lt : AllLt d news) (hp : φ vs) : OneL h₀ L m news s φ (.ref d) { s with heap := h', toks := tk } := ⟨d, vs, n, h', tk, rfl, rfl, F, N, allLt_out lt, hp⟩
theorem meetL {φ : List Value → Prop} {tt : Sem Value} (_ : Fr h₀ L s.heap m) (h : wpAny (MX w) A tt (OneL h₀ L m news s φ) (fun _ _ => False) s)
    (k : ∀ d vs n h' tk, Fr h₀ L h' m → News h₀ L h' ((d, listOf vs.toArray n) :: news) → (∀ p ∈ news, p.1 < d) → φ vs → Q (.ref d) { s with heap := h', toks := tk }) : wpAny (MX w) A tt Q E s :=
  wpAny_mono h (fun v s' hq => by obtain ⟨d, vs, n, h', tk, rfl, rfl, a, b, c, e⟩ := hq; exact k d vs n h' tk a b c e) fun _ _ e => e.elim
noncomputable def OneB (h₀ : Heap) (L : Addr) (m : Str → Option Value) (news : List (Addr × Obj)) (s : Shared) (φ b : Bool) (s' : Shared) : Prop := ∃ h' tk, s' = { s with heap := h', toks := tk } ∧ Fr h₀ L h' m ∧ News h₀ L h' news ∧ b = φ
theorem OneB.intro {φ b : Bool} {tk : Nat} {h' : Heap} (F : Fr h₀ L h' m) (N : News h₀ L h' news) (hp : b = φ) : OneB h₀ L m news s φ b { s with heap := h', toks := tk } := ⟨h', tk, rfl, F, N, hp⟩
theorem meetB {tt : Sem Bool} {Q : Bool → Shared → Prop} (φ : Bool) (_ : Fr h₀ L s.heap m) (_ : News h₀ L s.heap news) (h : wpAny (MX w) A tt (OneB h₀ L m news s φ) (fun _ _ => False) s)
    (k : ∀ h' tk, Fr h₀ L h' m → News h₀ L h' news → Q φ { s with heap := h', toks := tk }) : wpAny (MX w) A tt Q E s :=
  wpAny_mono h (fun v s' hq => by obtain ⟨h', tk, rfl, a, b, rfl⟩ := hq; exact k h' tk a b) fun _ _ e => e.elim
theorem Sv.Ok.grow {d : Addr} {o : Obj} (h : x.Ok w g) (hs : Sep g [(d, o)]) : ({ x with R := (d, o) :: x.R } : Sv).Ok w g := ⟨sep_cons hs h.sep, h.dl, h.dh, fun y hy => .tail _ (h.fam y hy), .tail _ h.dn, .tail _ h.ds⟩
theorem led_grow {h : Heap} {d : Addr} {o : Obj} (N : News h₀ L h ([(d, o)] ++ x.led g)) : News h₀ L h (({ x with R := (d, o) :: x.R } : Sv).led g) :=
  lex_of (X := []) (fun p hp => N p (.tail _ (lex_A3 (X := []) p hp))) (fun p hp => N p (.tail _ (lex_S7 (X := []) p hp))) (all_cons (N _ (.tail _ (sv_L (g := g) (x := x)))) (all_cons (N _ (.tail _ (sv_H (g := g) (x := x)))) (all_cons (N _ (.head _)) fun p hp => N p (.tail _ (sv_R (g := g) (x := x) hp)))))
theorem sep_lt {d : Addr} {o : Obj} (lt : ∀ p ∈ x.led g, p.1 < d) : Sep g [(d, o)] := sep_ne fun p hp => ne_lt (lt p hp)
end
structure Fw where
  z : List Nat
  tn : Tok
structure Lw (wl D : List (List Nat)) (b c : Nat) (v z : List Nat) : Prop where
  at_ : z = [] ∨ z ∈ D
  low : z.length < b
  eq : lsuf wl (z ++ [c]) = v
theorem Lw.on {wl D : List (List Nat)} {b c : Nat} {v z : List Nat} (h : Lw wl D b c v z) (h0 : wl ≠ []) (hb : ∀ y, isP wl y = true → y.length < b → y = [] ∨ y ∈ D) (hz : z ≠ []) (hq : isP wl (z ++ [c]) ≠ true) : Lw wl D b c v (fail wl z) :=
  have hl := Nat.lt_trans (fail_len (ws := wl) hz) h.low
  ⟨hb _ (fail_p h0 z) hl, hl, (lsuf_on hz hq).symm.trans h.eq⟩
theorem Lw.stop {wl D : List (List Nat)} {b c : Nat} {v z : List Nat} (h : Lw wl D b c v z) (hz : z = [] ∨ isP wl (z ++ [c]) = true) : (if isP wl (z ++ [c]) = true then z ++ [c] else []) = v := (lsuf_stop hz).symm.trans h.eq
theorem key_at {prog : Program} {T : Tree} {ws : List (List Nat)} {y : List Nat} {i : Nat} {v : Value} (h : T.Ok prog w ws) (hy : y ∈ T.N) (hv : KeyAt (strKind prog w) (T.kids y) i v) : ∃ c t, v = .str (txt [c]) t ∧ (T.brs y)[i]? = some (y ++ [c]) ∧ y ++ [c] ∈ T.N := by
  obtain ⟨k, x, e, hk⟩ := hv
  obtain ⟨c, t, hb, hN, rfl, -⟩ := h.kid_at hy e
  obtain ⟨t', rfl⟩ := Value.isStrOf_shape hk
  exact ⟨c, t', rfl, hb, hN⟩
theorem hit_len {x : Sv} {vs1 vs2 : List Value} {wl : List (List Nat)} {y z : List Nat} (h1 : StrsAre vs1 ((if y ∈ wl then [y] else []).map fun z => txt z)) (h2 : StrsAre vs2 ((sfx wl z).map fun z => txt z)) (hz : z.length ≤ 4) : vs1.length + vs2.length ≤ sizeLine := by
  have a := h1.len_eq
  have b := h2.len_eq
  have c := sfx_len (ws := wl) z
  rw [List.length_map] at a b
  have d : (if y ∈ wl then [y] else []).length ≤ 1 := by split; exact Nat.le_refl 1; exact Nat.zero_le 1
  rw [sizeLine_eq]; omega
theorem Sq.hit {g : Pl} {x : Sv} {wl D q S ts : List (List Nat)} {r y : List Nat} {vs1 vs2 : List Value} {n : Nat} {d : Addr} {o : Obj} (h : Sq w g wl D q S ts r x) (ok : g.Ok w mean mg mb wl) (hy : y ∈ g.T.N) (hy0 : y ≠ [])
    (h1 : StrsAre vs1 ((if y ∈ wl then [y] else []).map fun z => txt z)) (h2 : StrsAre vs2 ((sfx wl (fail wl y)).map fun z => txt z)) (h' : ({ x with oH := o, kh := stored x.kh (g.T.ν y) (.ref d) } : Sv).Ok w g) (hs : Sep g [(d, listOf (vs1 ++ vs2).toArray n)]) :
    Sq w g wl (D ++ [y]) q S ts r { x with oH := o, kh := stored x.kh (g.T.ν y) (.ref d), R := (d, listOf (vs1 ++ vs2).toArray n) :: x.R } :=
  ⟨h'.grow hs, h.ring, h.links, h.hits.add ok.ok hy (by rw [sfx_fail hy0, List.map_append]; exact h1.append' h2), h.rd⟩
structure Tw where
  tv : List Value
  n : Nat
  x : Sv
  z : List Nat
  tn : Tok
noncomputable def toldAt (wl : List (List Nat)) (t : List Nat) (i : Nat) : Dat := Dat.tuple [Dat.str (txt (lsuf wl (t.take (i + 1)))), Dat.list ((sfx wl (t.take (i + 1))).map fun z => Dat.str (txt z))]
structure Tw.Ok (w : World) (g : Pl) (wl D : List (List Nat)) (t r : List Nat) (TL : Addr) (i : Nat) (c : Tw) : Prop where
  sq : Sq w g wl D [] D [] r c.x
  z : c.z = lsuf wl (t.take i)
  dat : DatAll c.x.R c.tv ((List.range i).map (toldAt wl t))
  off : ∀ p ∈ c.x.led g, p.1 ≠ TL
theorem strs_dat {news : List (Addr × Obj)} {vs : List Value} {ls : List (List Nat)} (h : StrsAre vs (ls.map fun l => txt l)) : DatAll news vs (ls.map fun z => Dat.str (txt z)) := by
  induction ls generalizing vs with
  | nil => cases h; exact .nil
  | cons a r ih => cases h with | cons _ t hr => exact .cons (.str _ _) (ih hr)
theorem grow_ne {g : Pl} {x : Sv} {a d : Addr} {o : Obj} (h : ∀ p ∈ x.led g, p.1 ≠ a) (hd : d ≠ a) : ∀ p ∈ ({ x with R := (d, o) :: x.R } : Sv).led g, p.1 ≠ a := fun p hp =>
  (List.mem_append.mp hp).elim (fun hp => h _ (lex_A3 (X := []) p hp)) fun hp => (List.mem_append.mp hp).elim (fun hp => h _ (lex_S7 (X := []) p hp)) fun hp =>
    all_cons (p := fun q : Addr × Obj => q.1 ≠ a) (h _ (sv_L (g := g) (x := x))) (all_cons (h _ (sv_H (g := g) (x := x))) (all_cons hd fun p hp => h p (sv_R hp))) p hp
theorem Tw.Ok.next {g : Pl} {wl D : List (List Nat)} {t r : List Nat} {TL a d : Addr} {i n m : Nat} {tn' tw : Tok} {vs : List Value} {o : Obj} {c : Tw} (h : c.Ok w g wl D t r TL i) (ho : o = { cls := .type "tuple", data := .seq #[.str (txt (lsuf wl (t.take (i + 1)))) tw, .ref a] }) (ha : (a, listOf vs.toArray n) ∈ c.x.R) (hv : StrsAre vs ((sfx wl (lsuf wl (t.take (i + 1)))).map fun z => txt z))
    (lt : ∀ p ∈ c.x.led g, p.1 < d) (hd : d ≠ TL) : Tw.Ok w g wl D t r TL (i + 1) ⟨c.tv ++ [.ref d], m, { c.x with R := (d, o) :: c.x.R }, lsuf wl (t.take (i + 1)), tn'⟩ := by
  refine ⟨⟨h.sq.ok.grow (sep_lt lt), h.sq.ring, h.sq.links, h.sq.hits.mono fun p hp => .tail _ hp, h.sq.rd⟩, rfl, ?_, ?_⟩
  · rw [List.range_succ, List.map_append]
    refine (h.dat.mono fun p hp => .tail _ hp).append (.one ?_)
    subst ho
    rw [← sfx_lsuf] at hv
    exact .tuple (vs := [_, _]) (.head _) (.cons (.str _ _) (.cons (.list (.tail _ ha) (strs_dat hv)) .nil))
  · exact grow_ne h.off hd
theorem sv_start {k : Lx} {l : List Nat} {cc : Ls} {DL DH DN DS LE W TP : Addr} {oL oH oH0 oN oS oW oT : Obj} {T : Tree} {t0 : Tok} {wl : List (List Nat)} {t r : List Nat} {h₀ h : Heap} {L : Addr} (ok : k.Ok) (hl : l.length ≤ 1000000) (hR : k.Reads w mean mg mb l) (hw : ∀ x ∈ wl, W4 4 x) (hlen : wl.length = 4)
    (hT : TreeAt PySem.Challenge.pw_ta0007_02 w wl [DN, DS, W] oS oN T) (hall : ∀ x, isP wl x = true → x ∈ T.N) (off : OffK k ((TP, oT) :: (DN, oN) :: (DS, oS) :: (W, oW) :: T.fam))
    (lL : AllLt DL ((TP, oT) :: (DN, oN) :: (DS, oS) :: (W, oW) :: (T.fam ++ lex k l cc []))) (lH : AllLt DH ((DL, oL) :: (TP, oT) :: (DN, oN) :: (DS, oS) :: (W, oW) :: (T.fam ++ lex k l cc [])))
    (lE : AllLt LE ((DH, oH0) :: (DL, oL) :: (TP, oT) :: (DN, oN) :: (DS, oS) :: (W, oW) :: (T.fam ++ lex k l cc [])))
    (hdL : oL.IsDictOf (intKind PySem.Challenge.pw_ta0007_02 w) [(0, .int 0 t0)]) (hdH : oH.IsDictOf (intKind PySem.Challenge.pw_ta0007_02 w) [(0, .ref LE)]) (hv : cc.vs = []) (hr : Reads1 (l.drop cc.p) [[], t] r)
    (N : News h₀ L h ((LE, listOf #[] 0) :: (DH, oH) :: (DL, oL) :: (TP, oT) :: (DN, oN) :: (DS, oS) :: (W, oW) :: (T.fam ++ lex k l cc []))) :
    ∃ (g : Pl) (x : Sv), k = g.k ∧ l = g.l ∧ DL = g.DL ∧ DH = g.DH ∧ DN = g.DN ∧ DS = g.DS ∧ g.Ok w mean mg mb wl ∧ News h₀ L h (x.led g) ∧ Sq w g wl [] [] [] [[], t] r x := by
  have hfl : ∀ p ∈ T.fam, p ∈ (TP, oT) :: (DN, oN) :: (DS, oS) :: (W, oW) :: (T.fam ++ lex k l cc []) := fun p hp => .tail _ (.tail _ (.tail _ (.tail _ (List.mem_append_left _ hp))))
  have hxl : ∀ p ∈ lex k l cc [], p ∈ (TP, oT) :: (DN, oN) :: (DS, oS) :: (W, oW) :: (T.fam ++ lex k l cc []) := fun p hp => .tail _ (.tail _ (.tail _ (.tail _ (List.mem_append_right _ hp))))
  have ltL : ∀ p ∈ (TP, oT) :: (DN, oN) :: (DS, oS) :: (W, oW) :: (T.fam ++ lex k l cc []), p.1 ≠ DL := fun p hp => ne_lt (ltA (o := p.2) lL hp)
  have ltH : ∀ p ∈ (DL, oL) :: (TP, oT) :: (DN, oN) :: (DS, oS) :: (W, oW) :: (T.fam ++ lex k l cc []), p.1 ≠ DH := fun p hp => ne_lt (ltA (o := p.2) lH hp)
  have ltE : ∀ p ∈ (DH, oH0) :: (DL, oL) :: (TP, oT) :: (DN, oN) :: (DS, oS) :: (W, oW) :: (T.fam ++ lex k l cc []), p.1 ≠ LE := fun p hp => ne_lt (ltA (o := p.2) lE hp)
  have z : T.ν [] = 0 := hT.ok.zero
  have hsep : Sep ⟨k, l, DL, DH, DN, DS, oN, oS, T⟩ ((LE, listOf #[] 0) :: (DN, oN) :: (DS, oS) :: T.fam) := by
    refine ⟨off_cons (off_lt lE fun p hp => .tail _ (.tail _ (hxl p hp))) fun a ha => all_cons (off a ha _ (.tail _ (.head _))) (all_cons (off a ha _ (.tail _ (.tail _ (.head _)))) fun q hq => off a ha q (.tail _ (.tail _ (.tail _ (.tail _ hq))))), ?_, ?_⟩
    · exact all_cons (ltE (DL, oL) (.tail _ (.head _))).symm (all_cons (ltL (DN, oN) (.tail _ (.head _))) (all_cons (ltL (DS, oS) (.tail _ (.tail _ (.head _)))) fun q hq => ltL q (hfl q hq)))
    · exact all_cons (ltE (DH, oH0) (.head _)).symm (all_cons (ltH (DN, oN) (.tail _ (.tail _ (.head _)))) (all_cons (ltH (DS, oS) (.tail _ (.tail _ (.tail _ (.head _))))) fun q hq => ltH q (.tail _ (hfl q hq))))
  refine ⟨⟨k, l, DL, DH, DN, DS, oN, oS, T⟩, ⟨oL, oH, [(0, .int 0 t0)], [(0, .ref LE)], (LE, listOf #[] 0) :: (DN, oN) :: (DS, oS) :: T.fam, cc⟩, rfl, rfl, rfl, rfl, rfl, rfl, ?_, ?_, ?_⟩
  · exact ⟨ok, hl, hR, off_lt lL hxl, off_lt lH fun p hp => .tail _ (hxl p hp), ltH (DL, oL) (.head _), hT.ok, hT.sons, hT.names, fun y hy => (hT.off y hy).1, hall, Nat.le_trans hT.ok.le (Nat.le_trans (begins_len fun y hy => (hw y hy).2.1) (by rw [hlen]; decide))⟩
  · have NX : ∀ p ∈ lex k l cc [], p ∈ (LE, listOf #[] 0) :: (DH, oH) :: (DL, oL) :: (TP, oT) :: (DN, oN) :: (DS, oS) :: (W, oW) :: (T.fam ++ lex k l cc []) := fun p hp => .tail _ (.tail _ (.tail _ (hxl p hp)))
    exact lex_of (X := []) (fun p hp => N p (NX p (lex_A3 (X := []) p hp))) (fun p hp => N p (NX p (lex_S7 (X := []) p hp))) (all_cons (N _ (.tail _ (.tail _ (.head _)))) (all_cons (N _ (.tail _ (.head _))) (all_cons (N _ (.head _)) (all_cons (N _ (.tail _ (.tail _ (.tail _ (.tail _ (.head _)))))) (all_cons (N _ (.tail _ (.tail _ (.tail _ (.tail _ (.tail _ (.head _))))))) fun p hp => N p (.tail _ (.tail _ (.tail _ (hfl p hp)))))))))
  · refine ⟨⟨hsep, hdL, hdH, fun y hy => .tail _ (.tail _ (.tail _ (Tree.mem_fam hy))), .tail _ (.head _), .tail _ (.tail _ (.head _))⟩, by show StrsAre cc.vs _; rw [hv]; exact .nil, ⟨(fun _ h => nomatch h), ?_, Nat.le_refl _⟩, ⟨(fun _ h => nomatch h), ?_, Nat.le_refl _⟩, hr⟩
    · rintro y (rfl | h)
      · exact ⟨t0, by show valueAt [((0 : Int), _)] (T.ν []) = some (.int (T.ν []) t0); rw [z]; rfl⟩
      · cases h
    · rintro y (rfl | h)
      · exact ⟨LE, [], 0, by show valueAt [((0 : Int), _)] (T.ν []) = _; rw [z]; rfl, .head _, .nil⟩
      · cases h
end
section
example : True := by
  k_with_none
  k_with "x fn_open" =>
    with_unfolding_all refine' Fn.plain ?ho ?hcd ?hbind ?hloc ?_ ?hD ?hco ?hgen ?hk ?hcell
    case ho => k_is
    case hcd => k_is
    case hbind => exact fun s => BindsTo.of_eq rfl
    case hloc => exact locs rfl
    case hD => decide
    case hco => exact rfl
    case hgen => exact rfl
    case hk => exact rfl
    case hcell => decide
    intro gd outer A₀ base g L s B X T F N lt
  k_with "x fn_cells" =>
    with_unfolding_all refine' Fn.cells ?ho ?hcd ?hbind ?hkind ?hnd ?_ ?hD ?hco ?hgen ?hk
    case ho => k_is
    case hcd => k_is
    case hbind => exact fun s => BindsTo.of_eq rfl
    case hkind => exact rfl
    case hnd => decide +kernel
    case hD => decide
    case hco => exact rfl
    case hgen => exact rfl
    case hk => exact rfl
    intro gd outer A₀ base g L s cells B X T F N Y lt
  k_with "x Ends" => refine stop ?_
  k_with "x steps" => repeat' (first | (k_unfold; (try dsimp only)) | walk1 | (dsimp only; walk1))
  k_with "x fn_pick" => first | exact Pick.here | (refine' Pick.there ?p1; (case p1 => k_extra "x fn_pick"))
  k_with "x fn_split" => first | exact Split.nil | (refine' Split.cons ?a1 ?b1; (case a1 => k_extra "x fn_pick"); (case b1 => k_extra "x fn_split"))
  k_with "x fn_nes" => first | exact all_nil | ((with_reducible refine ne_consL ?_ ?_); (focus (k_extra "x fn_nes")); k_extra "x ne") | ((fail_if_success with_reducible refine ne_consL ?_ ?_); refine' all_cons ?a2 ?b2; (case a2 => k_ne); (case b2 => k_extra "x fn_nes")) | k_extra "x k_tl"
  k_with "x fn_apart" => first | exact apart_nil | ((with_reducible refine' apart_consP ?a3 ?b3); (case a3 => k_extra "x fn_nes"); (case b3 => k_extra "x fn_apart")) | ((fail_if_success with_reducible refine apart_consP ?_ ?_); refine' apart_cons ?a3 ?b3; (case a3 => k_extra "x fn_nes"); (case b3 => k_extra "x fn_apart"))
  k_with "x fn_here" => exact ⟨by k_asm, by k_asm, by k_asm, rfl, rfl, rfl, rfl, Nat.le_of_ble_eq_true rfl, Nat.le_of_ble_eq_true rfl⟩
  k_with "x fn_sub" => first | exact all_nil | (refine' all_cons ?a4 ?b4; (case a4 => k_mem); (case b4 => k_extra "x fn_sub"))
  k_with "x k_mt" => first | assumption | (refine mem_t ?_; k_extra "x k_mt")
  k_with "x k_tl" => first | exact fun q hq => ne_lt (ltA (o := q.2) (by with_reducible assumption) (by k_extra "x k_mt")) | with_reducible assumption
  k_with "x k_all" => first | exact all_nil | ((with_reducible refine ne_consR ?_ ?_); (focus (k_extra "x k_all")); k_extra "x ne") | ((fail_if_success with_reducible refine ne_consR ?_ ?_); refine' all_cons ?a5 ?b5; (case a5 => k_ne); (case b5 => k_extra "x k_all")) | k_extra "x k_tl"
  k_with "x fn_ords" => first | exact all_nil | (refine' all_cons ?a6 ?b6; (case a6 => ((try dsimp only); first | k_extra "x k_lo" | exact Nat.le_refl _ | (refine Nat.le_of_lt ?_; k_extra "x k_lo") | (simp only [AllLt, and_true] at *; omega))); (case b6 => k_extra "x fn_ords"))
  k_with "x k_mm" => with_reducible (first | exact mem_0 | exact mem_1 | exact mem_2 | exact mem_3 | exact mem_4 | exact mem_5 | exact mem_6 | exact mem_7 | exact mem_8 | exact mem_9 | (refine mem_s ?_; k_extra "x k_mm"))
  k_with "x k_q1" => exact ltA (by with_reducible assumption) (by k_extra "x k_mm")
  k_with "x k_up" => first | exact ltP (by with_reducible assumption) | exact ltP2 (by with_reducible assumption) | exact ltP3 (by with_reducible assumption) | exact ltP4 (by with_reducible assumption) | exact ltP5 (by with_reducible assumption) | exact ltP6 (by with_reducible assumption) | exact ltP7 (by with_reducible assumption) | exact ltP8 (by with_reducible assumption) 
  k_with "x k_hi" => first | with_reducible assumption | k_extra "x k_q1" | exact ltR (by with_reducible assumption) (by k_extra "x k_mm") | k_extra "x k_up" | (refine Nat.lt_trans ?_ (by with_reducible assumption); k_extra "x k_hi")
  k_with "x k_l1" => first | k_extra "x k_q1" | exact ltZ | k_extra "x k_hi" | (refine ltS ?_; k_extra "x k_l1")
  k_with "x k_l2" => first | k_extra "x k_l1" | (refine Nat.lt_trans (by with_reducible assumption) ?_; k_extra "x k_l2")
  k_with "x k_lo" => ((fail_if_success (with_reducible show @LT.lt Nat _ _ 79)); k_extra "x k_l2")
  k_with "x k_mem" => k_extra "x k_mm"
  k_with "x ne" => first
    | exact neA (by with_reducible assumption) (by k_extra "x k_mm")
    | exact neB (by with_reducible assumption) (by k_extra "x k_mm")
    | with_reducible assumption
    | exact Ne.symm (by with_reducible assumption)
    | ((repeat refine ne_s ?_); first | exact ne_z1 | exact ne_z2 | exact ne_z3 | exact ne_z4 | exact ne_z5 | exact ne_z6 | exact ne_z7 | exact ne_z8 | exact ne_z1.symm | exact ne_z2.symm | exact ne_z3.symm | exact ne_z4.symm | exact ne_z5.symm | exact ne_z6.symm | exact ne_z7.symm | exact ne_z8.symm)
    | (refine ne_lt ?_; k_extra "x k_lo")
    | (refine ne_gt ?_; k_extra "x k_lo")
  k_with "x k_ne" => (refine neN ?_; (try dsimp only); k_extra "x ne")
  k_with "x eval ListComp" => refine stop ?_
  k_with "x call ref" => refine stop ?_
  k_with "x pyIter" => refine stop ?_
  k_with "x fn_comp" => (refine ⟨?_⟩; (with_unfolding_all refine comp_openU (by with_unfolding_all rfl) (by rfl) (by decide) ?_ (fun _ => rfl)))
  k_with "x exec For Name Name cons nil" => refine wpAny_For ?_ (by intro _; with_unfolding_all rfl)
  k_with "x exec For Name Call cons nil" => refine wpAny_For ?_ (by intro _; with_unfolding_all rfl)
  k_with "x exec For Tuple Call cons nil" => refine wpAny_For ?_ (by intro _; with_unfolding_all rfl)
  k_with "x exec For Name Name" => refine wpAny_For ?_ (by intro _; with_unfolding_all rfl)
  k_with "x exec For Name Call" => refine wpAny_For ?_ (by intro _; with_unfolding_all rfl)
  k_with "x last exec For Name Name" => refine wpAny_For ?_ (by intro _; with_unfolding_all rfl)
  k_with "x exec For Name Subscript" => refine wpAny_For ?_ (by intro _; with_unfolding_all rfl)
  k_with "x eval IfExp" => refine stop ?_
  k_with "x exec" => ((with_reducible show wpAny _ _ (exec (Stmt.While _ _ _ _) _) _ _ _); refine stop ?_)
  k_with "x subscriptTail Name Name ref int" => refine halt ?_
  k_with "x subscriptTail Name Name ref str" => refine halt ?_
  k_with "x subscriptTail Name Subscript ref int" => refine halt ?_
  k_with "x subscriptTail Name Constant ref int" => refine halt ?_
  k_with "x setItem ref int int" => refine halt ?_
  k_with "x setItem ref int ref" => refine halt ?_
  k_with "x compareOp NotIn str ref" => refine halt ?_
  k_with "x call builtin:dict.get cons nil" => refine halt ?_
  k_with "x call builtin:dict.values cons nil" => refine halt ?_
  k_with "x steps" => ((repeat' (first | (k_unfold; (try dsimp only)) | walk1 | (dsimp only; walk1))); (all_goals (try with_reducible refine Halt.mk ?_)))
  trivial
structure Wd where
  i : Nat
  ws : List Value
  kW : Nat
  cur : List Nat
  tc : Tok
  c : Ls
structure Wd.Ok (wl : List (List Nat)) (t r l : List Nat) (c : Wd) : Prop where
  i : c.i ≤ 4
  ws : StrsAre c.ws ((wl.take c.i).map fun l => txt l)
  cur : (wl ++ [[], [], t]).drop c.i = c.cur :: (wl ++ [[], [], t]).drop (c.i + 1)
  rd : Reads1 (l.drop c.c.p) ((wl ++ [[], [], t]).drop (c.i + 1)) r
  vs : c.c.vs = []
theorem Wd.Ok.more {wl : List (List Nat)} {t r l : List Nat} {c : Wd} (h : c.Ok wl t r l) (hlen : wl.length = 4) (hne : c.cur ≠ []) : c.i < 4 := by
  rcases Nat.lt_or_ge c.i 4 with q | q
  · exact q
  · have e4 : c.i = 4 := Nat.le_antisymm h.i q
    have hc := h.cur
    rw [e4, List.drop_append_of_le_length (Nat.le_of_eq hlen.symm), List.drop_eq_nil_of_le (Nat.le_of_eq hlen)] at hc
    exact absurd (List.cons.inj hc).1.symm hne
theorem Wd.Ok.word {wl : List (List Nat)} {t r l : List Nat} {c : Wd} (h : c.Ok wl t r l) (hlen : wl.length = 4) (hi : c.i < 4) : wl[c.i]? = some c.cur := by
  have := congrArg List.head? h.cur
  rw [List.head?_drop, List.getElem?_append_left (by rw [hlen]; exact hi)] at this
  exact this
theorem Wd.Ok.next {wl : List (List Nat)} {t r l : List Nat} {c : Wd} (h : c.Ok wl t r l) (hlen : wl.length = 4) (hi : c.i < 4) :
    ∃ y r2, skip (l.drop c.c.p) = some (y, r2) ∧ ∀ kW c' tc tc', c'.vs = [] → l.drop c'.p = r2 → Wd.Ok wl t r l ⟨c.i + 1, c.ws ++ [.str (txt c.cur) tc], kW, y, tc', c'⟩ := by
  obtain ⟨y, hy⟩ := drop_some (l := wl ++ [[], [], t]) (j := c.i + 1) (by rw [List.length_append, hlen]; exact Nat.lt_of_lt_of_le (Nat.succ_lt_succ hi) (Nat.le_add_left 5 2))
  have hrd := h.rd
  rw [hy] at hrd
  obtain ⟨r2, hsk, hrd2⟩ := reads_head hrd
  refine ⟨y, r2, hsk, fun kW c' tc tc' hv hp => ⟨hi, ?_, hy, ?_, hv⟩⟩
  · dsimp only; rw [take_snoc (h.word hlen hi), List.map_append]; exact StrsAre.snoc h.ws _ _
  · dsimp only; rw [hp]; exact hrd2
theorem Wd.Ok.last {wl : List (List Nat)} {t r l : List Nat} {c : Wd} (h : c.Ok wl t r l) (hlen : wl.length = 4) (hg : ∀ x ∈ wl, W4 4 x) (he : c.cur = []) : StrsAre c.ws (wl.map fun l => txt l) ∧ Reads1 (l.drop c.c.p) [[], t] r := by
  rcases Nat.lt_or_ge c.i 4 with q | q
  · exact absurd he (hg _ (List.mem_of_getElem? (h.word hlen q))).1
  · have e4 : c.i = 4 := Nat.le_antisymm h.i q
    refine ⟨?_, ?_⟩
    · have := h.ws
      rwa [e4, List.take_of_length_le (Nat.le_of_eq hlen)] at this
    · have := h.rd
      rw [e4, List.drop_append, hlen, List.drop_eq_nil_of_le (as := wl) (by rw [hlen]; decide)] at this
      exact this
theorem c_search (k : Lx) (ok : k.Ok) (l : List Nat) (hl : l.length ≤ 1000000) (hR : k.Reads w mean mg mb l) (p : Nat) (tp : Tok) (n : Nat) (tl : Tok) (nb : Nat) (wl : List (List Nat)) (t r : List Nat)
    (hlen : wl.length = 4) (hg : ∀ x ∈ wl, W4 4 x) (ht : t.length = 14) (htab : Abc t) (hth : t.head? ≠ some 65) (hrd : Reads1 (l.drop p) (wl ++ [[], [], t]) r) :
    FD 380 w mean mg mb 122 [.ref k.x] (k.At l p tp n tl ++ [(k.pb, listOf #[] nb)])
    (fun v P' => ∃ (TL : Addr) (tv : List Value) (n : Nat) (cc : Ls) (Y : List (Addr × Obj)), v = .ref TL ∧ DatAll Y tv ((List.range 14).map (toldAt wl t)) ∧ cc.vs = [] ∧ l.drop cc.p = r ∧ OffK k ((TL, listOf tv.toArray n) :: Y) ∧ P' = (TL, listOf tv.toArray n) :: lex k l cc Y) := by
  walk_at "fn_open"
  with_reducible refine body_open F [("lexer", .ref k.x)] ?hps ?_
  case hps => exact (all_cons rfl all_nil)
  clear F
  intro m1 F AA ee QQ
  have NA : News g L s.heap (lex k l ⟨[], nb, p, tp, n, tl⟩ []) := News.sub N fun p hp => ((List.mem_append.mp hp).elim (fun h => At_A3 p h) fun h => (List.mem_append.mp h).elim (fun h => At_S7 p h) fun h => nomatch h)
  clear N lt
  walk_at "steps"
  rename_i W hW lW h1 F1 N1
  refine ⟨?_⟩
  have hO : OffK k ([] ++ []) := fun _ _ _ h => nomatch h
  have offW : ∀ a ∈ k.adr, a ≠ W := off_lt (k := k) (l := l) (c := ⟨[], nb, p, tp, n, tl⟩) (Y := []) lW fun p hp => hp
  have hOW : ∀ {o}, OffK k ([(W, o)] ++ []) := fun {o} => off_cons (o := o) offW fun _ _ _ h => nomatch h
  obtain ⟨y0, hy0⟩ := drop_some (l := wl ++ [[], [], t]) (j := 0) (by rw [List.length_append, hlen]; exact Nat.lt_of_lt_of_le (by decide) (Nat.le_add_left 7 0))
  obtain ⟨r1, hsk, hrd1⟩ := reads_head (show Reads1 (l.drop p) (y0 :: (wl ++ [[], [], t]).drop 1) r by rw [← hy0]; exact hrd)
  refine getr_lex (X := [(W, _)]) ok hl hR hsk rfl hOW (by walk_at "fn_here") F1 N1 ?_
  intro h2 tk2 tv p1 tp1 n1 tl1 hp1 F2 N2
  walk_at "steps"
  refine ⟨?_⟩
  with_unfolding_all refine' ksw_while (σ := Wd) (fun c => (W, listOf c.ws.toArray c.kW) :: lex k l c.c []) (fun c => [("word", .str (txt c.cur) c.tc)]) (fun _ => True) [] (Wd.Ok wl t r l) (fun c => 4 - c.i) ⟨0, [], 0, y0, tv, ⟨[], nb, p1, tp1, n1, tl1⟩⟩ (by k_asm) (by k_asm) trivial ?hk_a ?hp_a ?turn_a ?hE_a
  case hE_a => passes_own
  case hk_a => refine all_cons ?_ all_nil; exact rfl
  case hp_a => exact ⟨Nat.zero_le _, .nil, hy0, by dsimp only; rw [hp1]; exact hrd1, rfl⟩
  case turn_a =>
    intro c u h3 tk3 _ hc F3 N3
    refine while_gen fun QB QN hQB hQN => ?_
    walk_at "steps"
    · have hi4 := hc.more hlen (bne_yes (by assumption))
      obtain ⟨y, r2, hsk2, hnx⟩ := hc.next hlen hi4
      have lvs : c.ws.length ≤ 4 := by have := hc.ws.len_eq; rw [List.length_map, List.length_take] at this; omega
      walk_at "steps"
      (with_reducible rename News _ _ _ _ => N4)
      (with_reducible rename Fr _ _ _ _ => F4)
      refine ⟨?_⟩
      refine getr_lex (X := [(W, _)]) ok hl hR hsk2 hc.vs hOW (by walk_at "fn_here") F4 N4 ?_
      intro h5 tk5 tv5 p5 tp5 n5 tl5 hp5 F5 N5
      walk_at "steps"
      subst hQB
      refine' ksw_end ⟨c.i + 1, c.ws ++ [.str (txt c.cur) c.tc], c.kW + 1, y, tv5, { c.c with p := p5, tp := tp5, m := n5, tl := tl5 }⟩ (by k_asm) (by k_asm) ?subA_b trivial ?hkA_b ?hrA_b (hnx _ _ c.tc tv5 hc.vs hp5) ?mA_b
      case subA_b => dsimp only; rw [← List.push_toArray]; exact fun _ h => h
      case hkA_b => refine all_cons ?_ all_nil; exact rfl
      case hrA_b => intro z h1 h2; have n1 := h1 _ (.head _); dsimp only at n1 ⊢; simp only [if_neg n1, kstB, h2, Bool.false_eq_true, if_false]
      case mA_b => exact Nat.sub_lt_sub_left hi4 (Nat.lt_succ_self _)
    · have he : c.cur = [] := bne_no (by assumption)
      subst hQN
      obtain ⟨hvs, hrd2⟩ := hc.last hlen hg he
      have hcv := hc.vs
      (with_reducible rename Fr _ _ _ _ => F4)
      obtain ⟨m2, F4, -⟩ := fr_names F4 [("words", .ref W), ("lexer", .ref k.x)] (all_cons rfl (all_cons rfl all_nil))
      generalize c.c = cc at *
      generalize c.ws = vs at *
      generalize c.kW = kW at *
      clear hc he
      walk_at "steps"
      refine ⟨?_⟩
      clear hQB hy0 hsk hrd1 hp1 hrd
      have apW : Apart [(W, listOf vs.toArray kW)] (lex k l cc []) := fun p hp q hq => by rw [List.mem_singleton.mp hp]; exact (offW _ (lex_in q hq)).symm
      refine Fn.use (c_tree W vs kW wl hvs hlen hg) (by walk_at "fn_here") F4 N3 (.cons .here .nil) apW ?_
      intro v P' h4 tk4 hpq F5 N5 ap5
      refine opq fun XX hXX => ?_
      obtain ⟨TP, DS, DN, oS, oN, T0, rfl, hT, hall, loS, loN, rfl⟩ := hpq
      refine hXX ?_
      clear hXX XX apW
      have off5 := off_of_apart ap5
      clear ap5
      simp only [List.cons_append, List.nil_append] at N5
      walk_at "steps"
      rename_i hA0 hA1 hA2 tkA hA5 oL loL hdL hfL apL lL hA4 DH hA3 oH0 loH hdH0 lH LE hA6 lE hA7 oH hdH hA8 F6 N6
      dsimp only at F6
      generalize hA2.objs.size = DL at *
      replace hdL : oL.IsDictOf (intKind PySem.Challenge.pw_ta0007_02 w) [((0 : Int), _)] := hdL
      replace hdH : oH.IsDictOf (intKind PySem.Challenge.pw_ta0007_02 w) [((0 : Int), Value.ref LE)] := hdH
      obtain ⟨m3, F6, -⟩ := fr_names F6 [("hits", .ref DH), ("links", .ref DL), ("names", .ref DN), ("sons", .ref DS), ("lexer", .ref k.x)] (all_cons rfl (all_cons rfl (all_cons rfl (all_cons rfl (all_cons rfl all_nil)))))
      have hst := sv_start ok hl hR hg hlen hT hall off5 lL lH lE hdL hdH hcv hrd2 N6
      clear hdL hdH lL lH lE off5 N6 apL hfL hdH0 hT hall hrd2 hR hl lW
      refine opq fun XX hXX => ?_
      obtain ⟨pl, x0, e1, e2, e3, e4, e5, e6, hg', N6, hq0⟩ := hst
      subst e1 e2 e3 e4 e5 e6
      refine hXX ?_
      clear hXX XX
      refine item_S0 hg' (sv_R hq0.ok.ds) N6 ?_
      have hroot := hg'.ok.root
      refine meth_values hg' (sv_R (hq0.ok.fam [] hroot)) hroot N6 ?_
      walk_at "steps"
      refine call_values hg' (sv_R (hq0.ok.fam [] hroot)) hroot (by k_asm) (by k_asm) ?_
      intro v1 h7 hv1 F7 N7
      refine iter_values_N F7 N7 hv1 (sv_R (hq0.ok.fam [] hroot)) (hg'.ok.obk [] hroot) ?_
      intro I oI St h8 S F8 N8 lt8
      refine' for_src (σ := Sv) S rfl (fun x => x.led pl) (fun _ => []) ["son"] (fun i x => Sq w pl wl [] ((pl.T.brs []).take i) ((pl.T.brs []).take i) [[], t] r x) x0 F8 N8 (fun q hq => ne_lt (lt8 q hq)) (fun _ h => nomatch h) ?hfx_f hq0 ?turn1_f ?done1_f
      case hfx_f => exact fun i x hx => all_cons (sv_R (hx.ok.fam [] hroot)) all_nil
      case turn1_f =>
        intro i x u h9 tk9 v oI' hi hv hx F9 N9 hI
        obtain ⟨kk, hv⟩ := hv
        obtain ⟨c, tc, hb, hcN, rfl, rfl⟩ := hg'.ok.kid_at hroot hv
        have hX := sep_ne (g := pl) (x := x) (oI := oI') hI
        refine turn_gen fun QB hQB => ?_
        walk_at "steps"
        have hlt : i < (pl.T.brs []).length := by rw [brs_len, ← kids_len]; exact hi
        have hl20 : ((pl.T.brs []).take i).length ≤ 100 := by
          rw [List.length_take, brs_len, ← kids_len]
          exact Nat.le_trans (Nat.min_le_right _ _) (Nat.le_trans (hg'.ok.kids_le hroot) (Nat.le_trans hg'.n (by decide)))
        refine setL_sv hg' hx.ok hX (by k_asm) (by k_asm) (hx.kl_le hl20) ?_
        intro h10 oL2 F10 N10 ok10
        walk_at "steps"
        refine ⟨?_⟩
        refine use_word (hg'.ok.code hg'.big hcN).1 (by walk_at "fn_here") (by k_asm) (by k_asm) ?_
        intro tw h11 tk11 F11 N11
        walk_at "steps"
        refine ⟨?_⟩
        refine push_sv hg' ok10 (hx.vs_le hl20) hX (by walk_at "fn_here") (by k_asm) (by k_asm) ?_
        intro h12 tk12 n12 F12 N12 ok12
        walk_at "steps"
        subst hQB
        dsimp only [ForPost]
        refine' LedEnd.intro _ (by k_asm) (by k_asm) (fun p hp => hp) (fun _ h => nomatch h) ?hrA_g ⟨?hIA_g, ?hqA_g⟩
        case hqA_g => rw [take_snoc hb]; exact hx.more hg' hcN hg'.ok.zero.symm ok12
        case hrA_g =>
          intro z h1 h2
          have na : z ≠ "son" := fun e => by subst e; exact absurd h2 (by decide)
          dsimp only [kstB]
          simp only [if_neg na, h2, Bool.false_eq_true, if_false]
        case hIA_g => exact led_apart hI
      case done1_f =>
        intro x1 u1 h9 tk9 hx1 F9 N9
        rw [kids_len, ← brs_len, List.take_length] at hx1
        have hB := hg'.ok.start hg'.all
        have hbr := brs_in hg' hroot
        have hl1 : (pl.T.brs []).length ≤ 100 := by
          rw [brs_len, ← kids_len]
          exact Nat.le_trans (hg'.ok.kids_le hroot) (Nat.le_trans hg'.n (by decide))
        obtain ⟨m4, F9, -⟩ := fr_names F9 [("hits", .ref pl.DH), ("links", .ref pl.DL), ("names", .ref pl.DN), ("sons", .ref pl.DS), ("lexer", .ref pl.k.x)] (all_cons rfl (all_cons rfl (all_cons rfl (all_cons rfl (all_cons rfl all_nil)))))
        clear hq0 F8 N8 S lt8 hv1 F7 N7
        walk_at "steps"
        refine ⟨?_⟩
        refine get_sq (X := []) hg' hx1 hbr hl1 sep_nil (by walk_at "fn_here") (by k_asm) (by k_asm) ?_
        intro h10 tk10 x2 z tz F10 N10 hx2 hz0 hz1 hz2
        walk_at "steps"
        refine ⟨?_⟩
        refine use_number hz0 hz1 (by walk_at "fn_here") (by k_asm) (by k_asm) ?_
        intro tn h11 tk11 F11 N11
        rw [hz2]
        walk_at "steps"
        (with_reducible rename News _ _ _ _ => NW)
        (with_reducible rename Fr _ _ _ _ => FW)
        clear hx1 hz0 hz1 hz2
        refine ⟨?_⟩
        with_unfolding_all refine' ksw_while (σ := Mw) (fun c => c.x.led pl) (fun c => [("node", .int (pl.T.ν (c.q.headD [])) c.tn)]) (fun _ => True) ["sign", "far"] (Mw.Ok w pl wl t r) (fun c => 30 - c.D.length) ⟨[], pl.T.brs [], x2, tn⟩ FW NW trivial ?hk_i ?hp_i ?turn_i ?hE_i
        case hE_i => passes_own
        case hk_i => refine all_cons ?_ all_nil; exact rfl
        case hp_i => exact ⟨hB, hx2⟩
        case turn_i =>
          clear hB hx2 NW FW
          intro c u h12 tk12 _ hc F12 N12
          refine while_gen fun QB QN hQB hQN => ?_
          have hle := hc.le hg hlen
          walk_at "steps"
          refine ⟨?_⟩
          refine use_iseof (by walk_at "fn_here") (by k_asm) (by k_asm) ?_
          intro h13 tk13 F13 N13
          by_cases hq : c.q = []
          · have e : (pl.T.ν (c.q.headD []) == 0) = true := by rw [hq, List.headD_nil, hg'.ok.zero]; rfl
            rw [e]
            clear F12 N12
            walk_at "steps"
            subst hQN
            have hx : Sq w pl wl c.D [] c.D [t] r c.x := by
              have := hc.sq
              rw [hq, if_pos rfl, List.append_nil] at this
              exact this
            have hdn : ∀ y, isP wl y = true → y = [] ∨ y ∈ c.D := Bfs.done (by rw [← hq]; exact hc.bfs)
            rw [hq] at F13
            obtain ⟨m5, F13, -⟩ := fr_names F13 [("node", .int (pl.T.ν []) c.tn), ("hits", .ref pl.DH), ("links", .ref pl.DL), ("names", .ref pl.DN), ("sons", .ref pl.DS), ("lexer", .ref pl.k.x)] (all_cons rfl (all_cons rfl (all_cons rfl (all_cons rfl (all_cons rfl (all_cons rfl all_nil))))))
            clear hQB
            generalize c.D = D at *
            generalize c.x = x6 at *
            clear hc
            walk_at "steps"
            rename_i TL hT0 lT0 hT1 FT NT
            obtain ⟨rz, hskz, hrz⟩ := reads_head hx.rd
            have hrz' : rz = r := hrz
            subst hrz'
            clear hrz
            have lT := allLt_out lT0
            have hXT : ∀ {o}, Sep pl [(TL, o)] := fun {o} => sep_lt lT
            refine ⟨?_⟩
            refine getr_sv (X := [(TL, _)]) hg' hx.ok hskz (List.eq_nil_of_length_eq_zero hx.ring.len) hXT (by walk_at "fn_here") FT NT ?_
            intro h20 tk20 tvt p7 tp7 n7 tl7 hp7 F20 N20 ok20
            have hT7 : Tw.Ok w pl wl D t rz TL 0 ⟨[], 0, { x6 with c := { x6.c with p := p7, tp := tp7, m := n7, tl := tl7 } }, [], c.tn⟩ := ⟨⟨ok20, hx.ring, hx.links, hx.hits, hp7⟩, by rw [List.take_zero]; rfl, .nil, led_apart fun p hp => ne_lt (lT p hp)⟩
            generalize ({ x6 with c := { x6.c with p := p7, tp := tp7, m := n7, tl := tl7 } } : Sv) = x7 at *
            clear ok20 hx lT hXT lT0 NT FT hskz hp7
            walk_at "steps"
            refine ⟨iter_str_N F20 N20 ?_⟩
            intro I oI St h21 S F21 N21 lt21
            refine' for_src (σ := Tw) S rfl (fun c => (TL, listOf c.tv.toArray c.n) :: c.x.led pl) (fun c => [("node", .int (pl.T.ν c.z) c.tn)]) ["sign"] (fun i c => Tw.Ok w pl wl D t rz TL i c) ⟨[], 0, x7, [], c.tn⟩ F21 N21 (fun q hq => ne_lt (lt21 q hq)) ?hk7_s (fun _ _ _ _ h => nomatch h) hT7 ?turnT_s ?doneT_s
            case hk7_s => refine all_cons ?_ all_nil; exact rfl
            case turnT_s =>
              intro i d u h22 tk22 v oI' hi hv hd F22 N22 hI
              obtain ⟨cc, tc, hcc, rfl⟩ := hv
              have hcl : t[i]? = some cc := by simpa using hcc
              have hzN : ∀ y, isP wl y = true → y ∈ pl.T.N := hg'.all
              have hTI : TL ≠ I := hI (TL, listOf d.tv.toArray d.n) (.head _)
              refine turn_gen fun QB hQB => ?_
              walk_at "steps"
              (with_reducible rename News _ _ _ _ => N23)
              (with_reducible rename Fr _ _ _ _ => F23)
              obtain ⟨m6, F23, hm6⟩ := fr_names F23 [("sign", .str (txt [cc]) tc), ("told", .ref TL), ("node", .int (pl.T.ν d.z) d.tn), ("hits", .ref pl.DH), ("links", .ref pl.DL), ("names", .ref pl.DN), ("sons", .ref pl.DS)] (all_cons rfl (all_cons rfl (all_cons rfl (all_cons rfl (all_cons rfl (all_cons rfl (all_cons rfl all_nil)))))))
              have hwl0 : wl ≠ [] := by intro q0; rw [q0] at hlen; cases hlen
              have hzt := hd.z
              have hv0 : lsuf wl (t.take (i + 1)) = lsuf wl (d.z ++ [cc]) := by rw [take_snoc hcl, lsuf_step, ← hzt]
              refine ⟨?_⟩
              with_unfolding_all refine' ksw_while (σ := Fw) (fun _ => (I, oI') :: (TL, listOf d.tv.toArray d.n) :: d.x.led pl) (fun e => [("node", .int (pl.T.ν e.z) e.tn)]) (fun _ => True) [] (fun e => Lw wl D (d.z.length + 1) cc (lsuf wl (t.take (i + 1))) e.z) (fun e => e.z.length) ⟨d.z, d.tn⟩ F23 N23 trivial ?hkF_t ?hpF_t ?turnF_t ?hEF_t
              case hEF_t => passes_own
              case hkF_t => refine all_cons ?_ all_nil; exact rfl
              case hpF_t => exact ⟨hdn _ (by rw [hzt]; exact lsuf_p hwl0 _), Nat.lt_succ_self _, hv0.symm⟩
              case turnF_t =>
                intro e u3 h24 tk24 _ he F24 N24
                refine while_gen fun QD QM hQD hQM => ?_
                have hzN : e.z ∈ pl.T.N := he.at_.elim (fun q => q ▸ hroot) fun h => hd.sq.hits.sub _ h
                refine meetB (!decide (e.z = []) && !decide (e.z ++ [cc] ∈ pl.T.N)) F24 N24 ?testF_t ?restF_t
                case testF_t =>
                  walk_at "steps"
                  refine ⟨?_⟩
                  refine use_iseof (by walk_at "fn_here") (by k_asm) (by k_asm) ?_
                  intro h25 tk25 F25 N25
                  rw [hg'.ok.eof hzN]
                  by_cases hz : e.z = []
                  · rw [decide_eq_true hz]
                    walk_at "steps"
                    exact OneB.intro (by k_asm) (by k_asm) rfl
                  · rw [decide_eq_false hz]
                    walk_at "steps"
                    refine item_S hg' (.tail _ (.tail _ (sv_R hd.sq.ok.ds))) hzN (by k_asm) ?_
                    walk_at "steps"
                    refine notin_B hg' (.tail _ (.tail _ (sv_R (hd.sq.ok.fam _ hzN)))) hzN (by k_asm) ?_
                    walk_at "steps"
                    · exact OneB.intro (by k_asm) (by k_asm) (by rw [decide_eq_true (by assumption)]; rfl)
                    · exact OneB.intro (by k_asm) (by k_asm) (by rw [decide_eq_false (by assumption)]; rfl)
                case restF_t =>
                  intro h25 tk25 F25 N25
                  by_cases hb3 : (!decide (e.z = []) && !decide (e.z ++ [cc] ∈ pl.T.N)) = true
                  · rw [if_pos hb3]
                    rw [Bool.and_eq_true, Bool.not_eq_true', Bool.not_eq_true', decide_eq_false_iff_not, decide_eq_false_iff_not] at hb3
                    walk_at "steps"
                    refine item_L hd.sq.ok (.tail _ (.tail _ sv_L)) hd.sq.links he.at_ (by k_asm) ?_
                    intro tv5
                    walk_at "steps"
                    subst hQD
                    refine' ksw_end ⟨fail wl e.z, tv5⟩ (by k_asm) (by k_asm) (fun p hp => hp) trivial ?hkA_t ?hrA_t (he.on hwl0 (fun y hy _ => hdn y hy) hb3.1 fun q => hb3.2 (hg'.all _ q)) (fail_len hb3.1)
                    case hkA_t => refine all_cons ?_ all_nil; exact rfl
                    case hrA_t => intro z h1 h2; have n1 := h1 _ (.head _); dsimp only at n1 ⊢; simp only [if_neg n1, kstB, h2, Bool.false_eq_true, if_false]
                  · rw [if_neg hb3]
                    have hst : e.z = [] ∨ isP wl (e.z ++ [cc]) = true := by
                      by_cases hz : e.z = []
                      · exact .inl hz
                      · refine .inr (hg'.ok.inP _ ?_)
                        by_cases hz2 : e.z ++ [cc] ∈ pl.T.N
                        · exact hz2
                        · exact absurd (by rw [decide_eq_false hz, decide_eq_false hz2]; rfl) hb3
                    subst hQM
                    have hfr := he.stop hst
                    have hpz : isP wl (lsuf wl (t.take (i + 1))) = true := lsuf_p hwl0 _
                    walk_at "steps"
                    refine item_S hg' (.tail _ (.tail _ (sv_R hd.sq.ok.ds))) hzN (by k_asm) ?_
                    walk_at "steps"
                    refine meth_get hg' (.tail _ (.tail _ (sv_R (hd.sq.ok.fam _ hzN)))) hzN (by k_asm) ?_
                    walk_at "steps"
                    refine call_get hg' (.tail _ (.tail _ (sv_R (hd.sq.ok.fam _ hzN)))) hzN (by k_asm) ?_
                    intro tv6
                    rw [hfr]
                    walk_at "steps"
                    have hzpN : lsuf wl (t.take (i + 1)) ∈ pl.T.N := hg'.all _ hpz
                    refine item_N hg' (.tail _ (.tail _ (sv_R hd.sq.ok.dn))) hzpN (by k_asm) ?_
                    intro tv7
                    walk_at "steps"
                    refine item_H hd.sq.ok (.tail _ (.tail _ sv_H)) hd.sq.hits (hdn _ hpz) (by k_asm) ?_
                    intro aH vs2 n2 hmH hvs2
                    walk_at "steps"
                    rename_i D2 h28 F28 N28 l28
                    have lt28 : ∀ p ∈ d.x.led pl, p.1 < D2 := fun p hp => ltA (o := p.2) l28 (.tail _ (.tail _ hp))
                    have hTD : TL ≠ D2 := ne_lt (ltA l28 (.tail _ (.head _)))
                    have hID : I ≠ D2 := ne_lt (ltA l28 (.head _))
                    have hi' : i < t.length := by simpa using hi
                    have hlv : d.tv.length ≤ 14 := by have := hd.dat.length; rw [List.length_map, List.length_range] at this; rw [this]; omega
                    refine append_K (F := F28) (N := N28) (U := .tail hTD.symm (.tail hTI.symm (.head hd.off))) ?_ (by rw [List.size_toArray, sizeLine_eq]; omega)
                    intro h29 F29 N29
                    rw [List.push_toArray] at N29
                    have NE : News g L h29 ((I, oI') :: (TL, listOf (d.tv ++ [Value.ref D2]).toArray (d.n + 1)) :: ({ d.x with R := (D2, _) :: d.x.R } : Sv).led pl) :=
                      all_cons (N29 _ (.tail _ (.head _))) (all_cons (N29 _ (.tail _ (.tail _ (.head _)))) (led_grow (News.sub N29 (all_cons (.head _) fun p hp => .tail _ (.tail _ (.tail _ hp))))))
                    have hnx := hd.next (m := d.n + 1) (tn' := tv6) (tw := tv7) rfl hmH hvs2 lt28 hTD.symm
                    clear N28 N29
                    walk_at "steps"
                    subst hQB
                    dsimp only [ForPost]
                    refine' LedEnd.intro _ (by k_asm) NE (fun p hp => hp) ?hkA_x ?hrA_x ⟨?hIA_x, hnx⟩
                    case hkA_x => refine all_cons ?_ all_nil; exact rfl
                    case hrA_x =>
                      intro z h1 h2
                      have n1 := h1 _ (.head _)
                      have na : z ≠ "sign" := fun e => by subst e; exact absurd h2 (by decide)
                      dsimp only at n1
                      show (if z = Str.ofString "node" then _ else if z = Str.ofString "node" then _ else if ([] : List Str).contains z = true then u3 z else kstB m6 _ z) = _
                      rw [if_neg n1, if_neg n1, hm6]
                      simp only [if_neg n1, if_neg na, kstB, h2, Bool.false_eq_true, if_false, List.contains_nil]
                    case hIA_x => exact all_cons hTI (grow_ne (fun p hp => hI p (.tail _ hp)) hID.symm)
            case doneT_s =>
              intro d u h22 tk22 hd F22 N22
              have e14 : (txt t).cps.size = 14 := by simpa using ht
              rw [e14] at hd
              have hd14 := hd
              walk_at "steps"
              refine' ⟨Ends.intro (by k_asm) (by k_asm) ⟨TL, d.tv, d.n, d.x.c, d.x.Y pl, rfl, hd14.dat.mono (fun p hp => .tail _ (.tail _ hp)), List.eq_nil_of_length_eq_zero hd14.sq.ring.len, hd14.sq.rd, ?_, rfl⟩⟩
              exact off_cons (fun a ha => let ⟨o, h⟩ := lex_adr (k := pl.k) (l := pl.l) (c := d.x.c) (Y := d.x.Y pl) a ha; hd14.off (a, o) h) (hd14.sq.ok.offY hg' sep_nil)
          · obtain ⟨y, rr, hq⟩ := List.exists_cons_of_ne_nil hq
            have hyq : y ∈ c.D ++ c.q := by rw [hq]; exact List.mem_append_right _ (.head _)
            have hyN : y ∈ pl.T.N := hg'.all _ (hc.bfs.inP y hyq).1
            have hy0 : y ≠ [] := (hc.bfs.inP y hyq).2
            have e : (pl.T.ν (c.q.headD []) == 0) = false := by rw [hq]; show (pl.T.ν y == 0) = false; rw [hg'.ok.eof hyN, decide_eq_false hy0]
            rw [e]
            clear F12 N12
            rw [hq] at F13
            replace F13 : Fr g L h13 (kstB _ [("node", .int (pl.T.ν y) c.tn)]) := F13
            obtain ⟨m5, F13, hm5⟩ := fr_names F13 [("node", .int (pl.T.ν y) c.tn), ("hits", .ref pl.DH), ("links", .ref pl.DL), ("names", .ref pl.DN), ("sons", .ref pl.DS), ("lexer", .ref pl.k.x)] (all_cons rfl (all_cons rfl (all_cons rfl (all_cons rfl (all_cons rfl (all_cons rfl all_nil))))))
            walk_at "steps"
            (with_reducible rename News _ _ _ _ => N14)
            refine ⟨?_⟩
            refine meetL (news := c.x.led pl) (φ := fun vs => StrsAre vs ((if y ∈ wl then [y] else []).map fun z => txt z)) F13 ?if1_k ?if2_k
            case if1_k =>
              refine wpAny_IfExp ?_
              walk_at "steps"
              refine ⟨?_⟩
              refine use_isnt (by walk_at "fn_here") (by k_asm) (by k_asm) ?_
              intro h14 tk14 F14 N14
              rw [hg'.ok.big hg'.big hyN]
              by_cases hyw : y ∈ wl
              · rw [decide_eq_true hyw]
                walk_at "steps"
                refine item_N hg' (sv_R hc.sq.ok.dn) hyN (by k_asm) ?_
                intro tv
                walk_at "steps"
                (with_reducible rename AllLt _ _ => lt15)
                exact OneL.intro (vs := [.str (txt y) tv]) (by k_asm) (by k_asm) lt15 (by rw [if_pos hyw]; exact .cons _ _ .nil)
              · rw [decide_eq_false hyw]
                walk_at "steps"
                (with_reducible rename AllLt _ _ => lt15)
                exact OneL.intro (vs := []) (by k_asm) (by k_asm) lt15 (by rw [if_neg hyw]; exact .nil)
            case if2_k =>
              intro d vs1 n1 h14 tk14 F14 N14 lt14 hvs1
              walk_at "steps"
              have hBf : Bfs wl c.D (y :: rr) := by rw [← hq]; exact hc.bfs
              have hlow := hBf.low (by intro q0; rw [q0] at hlen; cases hlen)
              refine item_L hc.sq.ok (.tail _ sv_L) hc.sq.links (.inr hyq) (by k_asm) ?_
              intro tv2
              walk_at "steps"
              refine item_H hc.sq.ok (.tail _ sv_H) hc.sq.hits hlow (by k_asm) ?_
              intro aH vs2 n2 hmH hvs2
              have hfl : (fail wl y).length ≤ 4 := Nat.le_trans (Nat.le_of_lt (fail_len hy0)) (isP_len (fun x hx => (hg x hx).2.1) (hc.bfs.inP y hyq).1)
              walk_at "steps"
              refine kmk_add_lit (zs := vs1 ++ vs2) (by k_asm) (by k_asm) (News.isList (by k_asm) (.head _)) (News.isList (by k_asm) (.tail _ (sv_R hmH))) rfl ?_ (hit_len (x := c.x) hvs1 hvs2 hfl)
              intro d2 h15 F15 N15 lt15
              walk_at "steps"
              (with_reducible rename News _ _ _ _ => N16)
              have lt16 : ∀ p ∈ c.x.led pl, p.1 < d2 := fun p hp => lt15 p (.tail _ hp)
              have hX2 : ∀ {o}, Sep pl [(d2, o)] := fun {o} => sep_lt lt16
              replace N16 := News.sub (P := [(d2, listOf (vs1 ++ vs2).toArray 0)] ++ c.x.led pl) N16 (all_cons (.head _) fun p hp => .tail _ (.tail _ hp))
              refine setH_sv hg' hc.sq.ok hX2 (by k_asm) N16 (hc.sq.kh_le (by omega)) ?_
              intro h17 oH17 F17 N17 ok17
              have hx17 := hc.sq.hit (n := 0) hg' hyN hy0 hvs1 hvs2 ok17 hX2
              have NG := led_grow N17
              clear N17
              rw [hq] at hx17
              rw [if_neg (List.cons_ne_nil y rr)] at hx17
              generalize hx3 : ({ c.x with oH := oH17, kh := stored c.x.kh (pl.T.ν y) (.ref d2), R := (d2, listOf (vs1 ++ vs2).toArray 0) :: c.x.R } : Sv) = x3 at hx17 NG
              clear ok17 hx3 lt16 lt15 hX2 N16 hvs1 hvs2 hmH hfl lt14
              walk_at "steps"
              refine item_S hg' (sv_R hx17.ok.ds) hyN NG ?_
              walk_at "steps"
              refine ⟨iter_dict_N (knd := strKind PySem.Challenge.pw_ta0007_02 w) (by k_asm) (by k_asm) (sv_R (hx17.ok.fam y hyN)) (hg'.ok.obk y hyN) (hg'.off y hyN) ?_⟩
              intro I2 oI2 St2 h18 S2 F18 N18 lt18
              have hbrl : (pl.T.brs y).length ≤ 20 := by rw [brs_len, ← kids_len]; exact Nat.le_trans (hg'.ok.kids_le hyN) hg'.n
              have hrl : rr.length ≤ 20 ∧ (c.D ++ y :: rr).length ≤ 20 := by rw [hq] at hle; rw [List.length_append]; rw [List.length_cons] at hle ⊢; omega
              have hyS : ∀ i, y ∈ (c.D ++ y :: rr) ++ (pl.T.brs y).take i := fun i => List.mem_append_left _ (List.mem_append_right _ (.head _))
              refine' for_src (σ := Sv) S2 rfl (fun x => x.led pl) (fun _ => []) ["sign", "far"] (fun i x => Sq w pl wl (c.D ++ [y]) (rr ++ (pl.T.brs y).take i) ((c.D ++ y :: rr) ++ (pl.T.brs y).take i) [[], t] r x) x3 F18 N18 (fun q hq => ne_lt (lt18 q hq)) (fun _ h => nomatch h) ?hfx_n (by rw [List.take_zero, List.append_nil, List.append_nil]; exact hx17) ?turn2_n ?done2_n
              case hfx_n => exact fun i x hx => all_cons (sv_R (hx.ok.fam y hyN)) all_nil
              case turn2_n =>
                intro i x u2 h19 tk19 v oI' hi hv hx F19 N19 hI
                obtain ⟨cc, tc, rfl, hb, hcN⟩ := key_at hg'.ok hyN hv
                have hX := sep_ne (g := pl) (x := x) (oI := oI') hI
                refine turn_gen fun QC hQC => ?_
                walk_at "steps"
                refine item_L hx.ok (.tail _ sv_L) hx.links (.inr (hyS i)) (by k_asm) ?_
                intro tv3
                walk_at "steps"
                (with_reducible rename News _ _ _ _ => N20)
                (with_reducible rename Fr _ _ _ _ => F20)
                obtain ⟨m6, F20, hm6⟩ := fr_names F20 [("far", .int (pl.T.ν (fail wl y)) tv3), ("sign", .str (txt [cc]) tc), ("node", .int (pl.T.ν y) c.tn), ("links", .ref pl.DL), ("sons", .ref pl.DS), ("lexer", .ref pl.k.x)] (all_cons rfl (all_cons rfl (all_cons rfl (all_cons rfl (all_cons rfl (all_cons rfl all_nil))))))
                have hwl0 : wl ≠ [] := by intro q0; rw [q0] at hlen; cases hlen
                refine ⟨?_⟩
                with_unfolding_all refine' ksw_while (σ := Fw) (fun _ => (I2, oI') :: x.led pl) (fun d => [("far", .int (pl.T.ν d.z) d.tn)]) (fun _ => True) [] (fun d => Lw wl c.D y.length cc (fail wl (y ++ [cc])) d.z) (fun d => d.z.length) ⟨fail wl y, tv3⟩ F20 N20 trivial ?hkF_o ?hpF_o ?turnF_o ?hEF_o
                case hEF_o => passes_own
                case hkF_o => refine all_cons ?_ all_nil; exact rfl
                case hpF_o => exact ⟨hlow, fail_len hy0, (fail_snoc hy0).symm⟩
                case turnF_o =>
                  intro d u3 h21 tk21 _ hd F21 N21
                  refine while_gen fun QD QM hQD hQM => ?_
                  have hzN : d.z ∈ pl.T.N := hd.at_.elim (fun e => e ▸ hroot) fun h => hx.hits.sub _ (List.mem_append_left _ h)
                  refine meetB (!decide (d.z = []) && !decide (d.z ++ [cc] ∈ pl.T.N)) F21 N21 ?testF_o ?restF_o
                  case testF_o =>
                    walk_at "steps"
                    refine ⟨?_⟩
                    refine use_iseof (by walk_at "fn_here") (by k_asm) (by k_asm) ?_
                    intro h22 tk22 F22 N22
                    rw [hg'.ok.eof hzN]
                    by_cases hz : d.z = []
                    · rw [decide_eq_true hz]
                      walk_at "steps"
                      exact OneB.intro (by k_asm) (by k_asm) rfl
                    · rw [decide_eq_false hz]
                      walk_at "steps"
                      refine item_S hg' (.tail _ (sv_R hx.ok.ds)) hzN (by k_asm) ?_
                      walk_at "steps"
                      refine notin_B hg' (.tail _ (sv_R (hx.ok.fam _ hzN))) hzN (by k_asm) ?_
                      walk_at "steps"
                      · exact OneB.intro (by k_asm) (by k_asm) (by rw [decide_eq_true (by assumption)]; rfl)
                      · exact OneB.intro (by k_asm) (by k_asm) (by rw [decide_eq_false (by assumption)]; rfl)
                  case restF_o =>
                    intro h23 tk23 F23 N23
                    by_cases hb3 : (!decide (d.z = []) && !decide (d.z ++ [cc] ∈ pl.T.N)) = true
                    · rw [if_pos hb3]
                      rw [Bool.and_eq_true, Bool.not_eq_true', Bool.not_eq_true', decide_eq_false_iff_not, decide_eq_false_iff_not] at hb3
                      walk_at "steps"
                      refine item_L hx.ok (.tail _ sv_L) hx.links (hd.at_.imp_right fun h => List.mem_append_left _ (List.mem_append_left _ h)) (by k_asm) ?_
                      intro tv5
                      walk_at "steps"
                      subst hQD
                      refine' ksw_end ⟨fail wl d.z, tv5⟩ (by k_asm) (by k_asm) (fun p hp => hp) trivial ?hkA_o2 ?hrA_o2 (hd.on hwl0 hBf.short hb3.1 fun q => hb3.2 (hg'.all _ q)) (fail_len hb3.1)
                      case hkA_o2 => refine all_cons ?_ all_nil; exact rfl
                      case hrA_o2 => intro z h1 h2; have n1 := h1 _ (.head _); dsimp only at n1 ⊢; simp only [if_neg n1, kstB, h2, Bool.false_eq_true, if_false]
                    · rw [if_neg hb3]
                      have hst : d.z = [] ∨ isP wl (d.z ++ [cc]) = true := by
                        by_cases hz : d.z = []
                        · exact .inl hz
                        · refine .inr (hg'.ok.inP _ ?_)
                          by_cases hz2 : d.z ++ [cc] ∈ pl.T.N
                          · exact hz2
                          · exact absurd (by rw [decide_eq_false hz, decide_eq_false hz2]; rfl) hb3
                      subst hQM

                      have hfr := (hd.stop hst)
                      walk_at "steps"
                      refine item_S hg' (.tail _ (sv_R hx.ok.ds)) hzN (by k_asm) ?_
                      walk_at "steps"
                      refine meth_get hg' (.tail _ (sv_R (hx.ok.fam _ hzN))) hzN (by k_asm) ?_
                      walk_at "steps"
                      refine call_get hg' (.tail _ (sv_R (hx.ok.fam _ hzN))) hzN (by k_asm) ?_
                      intro tv6
                      rw [hfr]
                      walk_at "steps"
                      refine item_S hg' (.tail _ (sv_R hx.ok.ds)) hyN (by k_asm) ?_
                      walk_at "steps"
                      refine item_B hg' (.tail _ (sv_R (hx.ok.fam y hyN))) hyN hcN (by k_asm) ?_
                      intro tv7
                      walk_at "steps"
                      have hS100 : ((c.D ++ y :: rr) ++ (pl.T.brs y).take i).length ≤ 100 ∧ (rr ++ (pl.T.brs y).take i).length ≤ 100 := by
                        rw [List.length_append, List.length_append (as := rr), List.length_take]; omega
                      refine setL_sv hg' hx.ok hX (by k_asm) (by k_asm) (hx.kl_le hS100.1) ?_
                      intro h24 oL2 F24 N24 ok24
                      walk_at "steps"
                      refine item_S hg' (.tail _ (sv_R ok24.ds)) hyN (by k_asm) ?_
                      walk_at "steps"
                      refine item_B hg' (.tail _ (sv_R (ok24.fam y hyN))) hyN hcN (by k_asm) ?_
                      intro tv8
                      walk_at "steps"
                      refine ⟨?_⟩
                      refine use_word (hg'.ok.code hg'.big hcN).1 (by walk_at "fn_here") (by k_asm) (by k_asm) ?_
                      intro tw h25 tk25 F25 N25
                      walk_at "steps"
                      refine ⟨?_⟩
                      refine push_sv hg' ok24 (hx.vs_le hS100.2) hX (by walk_at "fn_here") (by k_asm) (by k_asm) ?_
                      intro h26 tk26 n26 F26 N26 ok26
                      walk_at "steps"
                      subst hQC
                      dsimp only [ForPost]
                      refine' LedEnd.intro _ (by k_asm) (by k_asm) (fun p hp => hp) (fun _ h => nomatch h) ?hrA_r ⟨?hIA_r, ?hqA_r⟩
                      case hqA_r => rw [take_snoc hb, ← List.append_assoc, ← List.append_assoc]; exact hx.more hg' hcN rfl ok26
                      case hrA_r =>
                        intro z h1 h2
                        have na : z ≠ "far" := fun e => by subst e; exact absurd h2 (by decide)
                        have nb : z ≠ "sign" := fun e => by subst e; exact absurd h2 (by decide)
                        show (if z = Str.ofString "far" then some (Value.int (pl.T.ν d.z) d.tn) else _) = _
                        rw [if_neg na, hm6]
                        simp only [if_neg na, if_neg nb, kstB, h2, Bool.false_eq_true, if_false, List.contains_nil]
                      case hIA_r => exact led_apart hI
              case done2_n =>
                intro x4 u2 h19 tk19 hx4 F19 N19
                rw [kids_len, ← brs_len, List.take_length] at hx4
                have hB2 := hg'.ok.turn hg'.all hBf
                have hxS : (c.D ++ y :: rr) ++ pl.T.brs y = (c.D ++ [y]) ++ (rr ++ pl.T.brs y) := by simp only [List.append_assoc, List.cons_append, List.nil_append]
                rw [hxS] at hx4
                have hqN : ∀ z ∈ rr ++ pl.T.brs y, z ∈ pl.T.N := fun z hz => hg'.all _ (hB2.inP z (List.mem_append_right _ hz)).1
                have hql : (rr ++ pl.T.brs y).length ≤ 100 := by rw [List.length_append]; omega
                clear S2 lt18 F18 N18
                walk_at "steps"
                refine ⟨?_⟩
                refine get_sq (X := []) hg' hx4 hqN hql sep_nil (by walk_at "fn_here") (by k_asm) (by k_asm) ?_
                intro h20 tk20 x5 z5 tz5 F20 N20 hx5 hz0 hz1 hz2
                walk_at "steps"
                refine ⟨?_⟩
                refine use_number hz0 hz1 (by walk_at "fn_here") (by k_asm) (by k_asm) ?_
                intro tn5 h21 tk21 F21 N21
                rw [hz2]
                walk_at "steps"
                subst hQB
                refine' ksw_end ⟨c.D ++ [y], rr ++ pl.T.brs y, x5, tn5⟩ (by k_asm) (by k_asm) (fun p hp => hp) trivial ?hkA_p ?hrA_p ⟨hB2, hx5⟩ ?hmA_p
                case hkA_p => refine all_cons ?_ all_nil; exact rfl
                case hrA_p =>
                  intro z h1 h2
                  have n1 := h1 _ (.head _)
                  have na : z ≠ "sign" := fun e => by subst e; exact absurd h2 (by decide)
                  have nb : z ≠ "far" := fun e => by subst e; exact absurd h2 (by decide)
                  dsimp only at n1
                  show (if z = Str.ofString "node" then _ else if (["sign", "far"] : List Str).contains z = true then u2 z else kstB m5 _ z) = _
                  rw [if_neg n1, h2, hm5]
                  simp only [if_neg n1, kstB, h2, Bool.false_eq_true, if_false]
                case hmA_p => show 30 - (c.D ++ [y]).length < 30 - c.D.length; rw [List.length_append, List.length_singleton]; rw [hq] at hle; omega
end
section
example : True := by
  k_with_none
  k_with "x fn_open" =>
    with_unfolding_all refine' Fn.plain ?ho ?hcd ?hbind ?hloc ?_ ?hD ?hco ?hgen ?hk ?hcell
    case ho => k_is
    case hcd => k_is
    case hbind => exact fun s => BindsTo.of_eq rfl
    case hloc => exact locs rfl
    case hD => decide
    case hco => exact rfl
    case hgen => exact rfl
    case hk => exact rfl
    case hcell => decide
    intro gd outer A₀ base g L s B X T F N lt
  k_with "x fn_cells" =>
    with_unfolding_all refine' Fn.cells ?ho ?hcd ?hbind ?hkind ?hnd ?_ ?hD ?hco ?hgen ?hk
    case ho => k_is
    case hcd => k_is
    case hbind => exact fun s => BindsTo.of_eq rfl
    case hkind => exact rfl
    case hnd => decide +kernel
    case hD => decide
    case hco => exact rfl
    case hgen => exact rfl
    case hk => exact rfl
    intro gd outer A₀ base g L s cells B X T F N Y lt
  k_with "x Ends" => refine stop ?_
  k_with "x steps" => repeat' (first | (k_unfold; (try dsimp only)) | walk1 | (dsimp only; walk1))
  k_with "x fn_pick" => first | exact Pick.here | (refine' Pick.there ?p1; (case p1 => k_extra "x fn_pick"))
  k_with "x fn_split" => first | exact Split.nil | (refine' Split.cons ?a1 ?b1; (case a1 => k_extra "x fn_pick"); (case b1 => k_extra "x fn_split"))
  k_with "x fn_nes" => first | exact all_nil | ((with_reducible refine ne_consL ?_ ?_); (focus (k_extra "x fn_nes")); k_extra "x ne") | ((fail_if_success with_reducible refine ne_consL ?_ ?_); refine' all_cons ?a2 ?b2; (case a2 => k_ne); (case b2 => k_extra "x fn_nes")) | k_extra "x k_tl"
  k_with "x fn_apart" => first | exact apart_nil | ((with_reducible refine' apart_consP ?a3 ?b3); (case a3 => k_extra "x fn_nes"); (case b3 => k_extra "x fn_apart")) | ((fail_if_success with_reducible refine apart_consP ?_ ?_); refine' apart_cons ?a3 ?b3; (case a3 => k_extra "x fn_nes"); (case b3 => k_extra "x fn_apart"))
  k_with "x fn_here" => exact ⟨by k_asm, by k_asm, by k_asm, rfl, rfl, rfl, rfl, Nat.le_of_ble_eq_true rfl, Nat.le_of_ble_eq_true rfl⟩
  k_with "x fn_sub" => first | exact all_nil | (refine' all_cons ?a4 ?b4; (case a4 => k_mem); (case b4 => k_extra "x fn_sub"))
  k_with "x k_mt" => first | assumption | (refine mem_t ?_; k_extra "x k_mt")
  k_with "x k_tl" => first | exact fun q hq => ne_lt (ltA (o := q.2) (by with_reducible assumption) (by k_extra "x k_mt")) | with_reducible assumption
  k_with "x k_all" => first | exact all_nil | ((with_reducible refine ne_consR ?_ ?_); (focus (k_extra "x k_all")); k_extra "x ne") | ((fail_if_success with_reducible refine ne_consR ?_ ?_); refine' all_cons ?a5 ?b5; (case a5 => k_ne); (case b5 => k_extra "x k_all")) | k_extra "x k_tl"
  k_with "x fn_ords" => first | exact all_nil | (refine' all_cons ?a6 ?b6; (case a6 => ((try dsimp only); first | k_extra "x k_lo" | exact Nat.le_refl _ | (refine Nat.le_of_lt ?_; k_extra "x k_lo") | (simp only [AllLt, and_true] at *; omega))); (case b6 => k_extra "x fn_ords"))
  k_with "x k_mm" => with_reducible (first | exact mem_0 | exact mem_1 | exact mem_2 | exact mem_3 | exact mem_4 | exact mem_5 | exact mem_6 | exact mem_7 | exact mem_8 | exact mem_9 | (refine mem_s ?_; k_extra "x k_mm"))
  k_with "x k_q1" => exact ltA (by with_reducible assumption) (by k_extra "x k_mm")
  k_with "x k_up" => first | exact ltP (by with_reducible assumption) | exact ltP2 (by with_reducible assumption) | exact ltP3 (by with_reducible assumption) | exact ltP4 (by with_reducible assumption) | exact ltP5 (by with_reducible assumption) | exact ltP6 (by with_reducible assumption) | exact ltP7 (by with_reducible assumption) | exact ltP8 (by with_reducible assumption) 
  k_with "x k_hi" => first | with_reducible assumption | k_extra "x k_q1" | exact ltR (by with_reducible assumption) (by k_extra "x k_mm") | k_extra "x k_up" | (refine Nat.lt_trans ?_ (by with_reducible assumption); k_extra "x k_hi")
  k_with "x k_l1" => first | k_extra "x k_q1" | exact ltZ | k_extra "x k_hi" | (refine ltS ?_; k_extra "x k_l1")
  k_with "x k_l2" => first | k_extra "x k_l1" | (refine Nat.lt_trans (by with_reducible assumption) ?_; k_extra "x k_l2")
  k_with "x k_lo" => ((fail_if_success (with_reducible show @LT.lt Nat _ _ 79)); k_extra "x k_l2")
  k_with "x k_mem" => k_extra "x k_mm"
  k_with "x ne" => first
    | exact neA (by with_reducible assumption) (by k_extra "x k_mm")
    | exact neB (by with_reducible assumption) (by k_extra "x k_mm")
    | with_reducible assumption
    | exact Ne.symm (by with_reducible assumption)
    | ((repeat refine ne_s ?_); first | exact ne_z1 | exact ne_z2 | exact ne_z3 | exact ne_z4 | exact ne_z5 | exact ne_z6 | exact ne_z7 | exact ne_z8 | exact ne_z1.symm | exact ne_z2.symm | exact ne_z3.symm | exact ne_z4.symm | exact ne_z5.symm | exact ne_z6.symm | exact ne_z7.symm | exact ne_z8.symm)
    | (refine ne_lt ?_; k_extra "x k_lo")
    | (refine ne_gt ?_; k_extra "x k_lo")
  k_with "x k_ne" => (refine neN ?_; (try dsimp only); k_extra "x ne")
  k_with "x eval ListComp" => refine stop ?_
  k_with "x call ref" => refine stop ?_
  k_with "x pyIter" => refine stop ?_
  k_with "x fn_comp" => (refine ⟨?_⟩; (with_unfolding_all refine comp_openU (by with_unfolding_all rfl) (by rfl) (by decide) ?_ (fun _ => rfl)))
  k_with "x exec For Name Name cons nil" => refine wpAny_For ?_ (by intro _; with_unfolding_all rfl)
  k_with "x exec For Name Call cons nil" => refine wpAny_For ?_ (by intro _; with_unfolding_all rfl)
  k_with "x exec For Tuple Call cons nil" => refine wpAny_For ?_ (by intro _; with_unfolding_all rfl)
  k_with "x exec For Name Name" => refine wpAny_For ?_ (by intro _; with_unfolding_all rfl)
  k_with "x exec For Name Call" => refine wpAny_For ?_ (by intro _; with_unfolding_all rfl)
  k_with "x last exec For Name Name" => refine wpAny_For ?_ (by intro _; with_unfolding_all rfl)
  k_with "x fn_top" =>
    with_unfolding_all refine' FnTop.cells ?ho ?hcd ?hbind ?hkind ?hnd ?_ ?hD ?hco ?hgen ?hk
    case ho => k_is
    case hcd => k_is
    case hbind => exact fun s => BindsTo.of_eq rfl
    case hkind => exact rfl
    case hnd => decide +kernel
    case hD => decide
    case hco => exact rfl
    case hgen => exact rfl
    case hk => exact rfl
    intro gd outer A₀ base g L s cells B X T HL F N Y lt
  k_with "x exec For Name Subscript" => refine wpAny_For ?_ (by intro _; with_unfolding_all rfl)
  k_with "x eval IfExp" => refine stop ?_
  k_with "x exec Assign cons ListComp" => refine stop ?_
  k_with "x compareOp Eq ref ref" => refine stop ?_
  k_with "x subscriptTail Name Slice ref ref" => refine stop ?_
  k_with "x sadd" => (refine add_str (fun _ _ => ?_) (by show (txt _).length + (txt _).length ≤ sizeLine; rw [txt_len, txt_len, sizeLine_eq]; (try simp only [List.length_append, List.length_cons, List.length_nil]); omega))
  k_with "x binaryOp Add str str" => refine stop ?_
  k_with "x exec" => ((with_reducible show wpAny _ _ (exec (Stmt.While _ _ _ _) _) _ _ _); refine stop ?_)
  trivial
theorem Drawn.word {vs us : List Value} {wl : List (List Nat)} {t : List Nat} {ul : List Int} (h : Drawn vs us wl t ul) {i : Nat} (hi : i < 5) : ∃ x tw, (wl ++ [t]).getD i [] = x ∧ vs[i]? = some (.str (txt x) tw) ∧ Ltr x ∧ x.head? ≠ some 65 ∧ x.length ≤ 14 := by
  have hl : (wl ++ [t]).length = 5 := by rw [List.length_append, h.len]; rfl
  have hx : (wl ++ [t])[i]? = some ((wl ++ [t]).getD i []) := by rw [List.getD_eq_getElem?_getD, List.getElem?_eq_getElem (hl ▸ hi)]; rfl
  generalize (wl ++ [t]).getD i [] = x at hx ⊢
  have e := strs_get h.wstrs (i := i) (y := txt x) (by rw [List.getElem?_map, hx]; rfl)
  obtain ⟨tw, e⟩ := e
  refine ⟨x, tw, rfl, e, ?_⟩
  rcases List.mem_append.mp (List.mem_of_getElem? hx) with q | q
  · have g := h.good _ q
    exact ⟨g.2.2.1.ltr, g.2.2.2, Nat.le_trans g.2.1 (by decide)⟩
  · rw [List.mem_singleton.mp q]
    exact ⟨h.tabc.ltr, h.thead, Nat.le_of_eq h.tlen⟩
theorem Drawn.way {vs us : List Value} {wl : List (List Nat)} {t : List Nat} {ul : List Int} (h : Drawn vs us wl t ul) {i : Nat} (hi : i < 5) : ∃ (n : Nat) (ty : Tok), (ul.getD i 0).toNat = n ∧ us[i]? = some (.int (n : Int) ty) ∧ n ≤ 1000000 := by
  have hx : ul[i]? = some (ul.getD i 0) := by rw [List.getD_eq_getElem?_getD, List.getElem?_eq_getElem (h.ulen.symm ▸ hi)]; rfl
  have hb := h.ubnd _ (List.mem_of_getElem? hx)
  generalize ul.getD i 0 = x at hx hb ⊢
  obtain ⟨n, rfl⟩ := Int.eq_ofNat_of_zero_le hb.1
  obtain ⟨ty, e⟩ := ints_get h.wints hx
  exact ⟨n, ty, rfl, e, by omega⟩
noncomputable def fileOf (W : List (List Nat)) (ul : List Int) : List Nat := ((List.range 4).map (pc W ul)).flatten ++ [34, 34, 32, 34, 34, 10] ++ pc W ul 4
theorem Drawn.pc_len {vs us : List Value} {wl : List (List Nat)} {t : List Nat} {ul : List Int} (h : Drawn vs us wl t ul) {i : Nat} (hi : i < 5) : (pc (wl ++ [t]) ul i).length ≤ 31 := by
  obtain ⟨x, tw, hx, -, -, -, hl⟩ := h.word hi
  unfold pc
  rw [hx]
  exact Nat.le_trans wrt_len (by omega)
theorem Drawn.file {vs us : List Value} {wl : List (List Nat)} {t : List Nat} {ul : List Int} (h : Drawn vs us wl t ul) : (fileOf (wl ++ [t]) ul).length ≤ 400 ∧ ∃ r, Reads1 (fileOf (wl ++ [t]) ul) (wl ++ [[], [], t]) r ∧ r.all ws = true := by
  have hl := h.len
  obtain ⟨w0, w1, w2, w3, rfl⟩ : ∃ w0 w1 w2 w3, wl = [w0, w1, w2, w3] := by
    match wl, hl with
    | [a, b, c, d], _ => exact ⟨a, b, c, d, rfl⟩
  have p0 := h.pc_len (i := 0) (by decide)
  have p1 := h.pc_len (i := 1) (by decide)
  have p2 := h.pc_len (i := 2) (by decide)
  have p3 := h.pc_len (i := 3) (by decide)
  have p4 := h.pc_len (i := 4) (by decide)
  have e : fileOf ([w0, w1, w2, w3] ++ [t]) ul = pc ([w0, w1, w2, w3] ++ [t]) ul 0 ++ (pc ([w0, w1, w2, w3] ++ [t]) ul 1 ++ (pc ([w0, w1, w2, w3] ++ [t]) ul 2 ++ (pc ([w0, w1, w2, w3] ++ [t]) ul 3 ++ ([34, 34] ++ (32 :: ([34, 34] ++ (10 :: pc ([w0, w1, w2, w3] ++ [t]) ul 4))))))) := by
    have e0 : List.range 4 = [0, 1, 2, 3] := rfl
    unfold fileOf
    rw [e0]
    simp only [List.map_cons, List.map_nil, List.flatten_cons, List.flatten_nil, List.append_assoc, List.cons_append, List.nil_append]
  refine ⟨?_, ?_⟩
  · rw [e]; simp only [List.length_append, List.length_cons, List.length_nil]; omega
  · rw [e]
    have g : ∀ x ∈ [w0, w1, w2, w3], Ltr x := fun x hx => (h.good x hx).2.2.1.ltr
    exact text_reads (g _ (.head _)) (g _ (.tail _ (.head _))) (g _ (.tail _ (.tail _ (.head _)))) (g _ (.tail _ (.tail _ (.tail _ (.head _))))) h.tabc.ltr
theorem lat {prog : Program} {A : Around} {E : Value → Shared → Prop} {Q : Value → Shared → Prop} {s : Shared} {h₀ : Heap} {L : Addr} {news : List (Addr × Obj)} {value slice : Expr} {l : Addr} {vs : List Value} {n i : Nat} {k : Int} {u : Tok} {v : Value} (N : News h₀ L s.heap news) (hm : (l, listOf vs.toArray n) ∈ news) (hx : vs[i]? = some v) (hk : k = (i : Int)) (hi : i ≤ 1000) (h : Q v s)
    (hs : subscripted slice false (.ref l) (.int k u) = operate [.ref l, .int k u] (getItem (.ref l) (.int k u)) := by with_unfolding_all rfl) : wpAny (model prog w) A (subscriptTail value slice (.ref l) (.int k u)) Q E s :=
  item_listR (N.isList hm) (by omega) (by omega) (by rw [hk]; simpa using hx) h hs
theorem use_drawn {lst : Addr} {items : List Value} {xs : List Int} (hx : IntsAre items xs) (hl : xs.length ≤ 63) {A A₀ : Around} {env : Env} {outer : List Env} {base h₀ : Heap} {L : Addr} {m : Str → Option Value} {s : Shared} {rest : List (Addr × Obj)} {Q E : Value → Shared → Prop}
    (H : Here PySem.Challenge.pw_ta0007_02 w (hd.heap_39 w.params) topProg lse mean mg mb 400 400 A env outer A₀ base h₀ L) (hp : h₀.IsList lst items.toArray) (F : Fr h₀ L s.heap m) (N : News h₀ L s.heap rest)
    (k : ∀ TP D1 D2 vs us n1 n2 wl t ul h' tk', Drawn vs us wl t ul → Fr h₀ L h' m → News h₀ L h' ((TP, { cls := .type "tuple", data := .seq #[.ref D1, .ref D2] }) :: (D2, listOf us.toArray n2) :: (D1, listOf vs.toArray n1) :: rest) →
      (∀ q ∈ rest, TP ≠ q.1) → (∀ q ∈ rest, D2 ≠ q.1) → (∀ q ∈ rest, D1 ≠ q.1) → Q (.ref TP) { s with heap := h', toks := tk' }) :
    wpAny (model PySem.Challenge.pw_ta0007_02 w) A (call (.ref 108) [.ref lst]) Q E s := by
  refine wpAny_call (c_drawn lst items xs hx hl A env outer A₀ base h₀ L m rest s _ H hp F (fun _ h => nomatch h) N (fun _ h => nomatch h) ?_)
  rintro v P' h' tk' ⟨TP, D1, D2, vs, us, n1, n2, wl, t, ul, rfl, hd, rfl⟩ F' N1 N2 ap
  exact k TP D1 D2 vs us n1 n2 wl t ul h' tk' hd F' (all_cons (N1 _ (.head _)) (all_cons (N1 _ (.tail _ (.head _))) (all_cons (N1 _ (.tail _ (.tail _ (.head _)))) N2))) (ap _ (.head _)) (ap _ (.tail _ (.head _))) (ap _ (.tail _ (.tail _ (.head _))))
theorem Lx.Ok.low {k : Lx} (ok : k.Ok) : ∀ a ∈ k.adr, @LE.le Nat _ k.ct a := by
  obtain ⟨a1, a2, a3, a4, a5, a6, a7, a8, a9⟩ := ok
  have e2 := Nat.lt_trans a1 a2
  have e3 := Nat.lt_trans e2 a3
  have e4 := Nat.lt_trans e3 a4
  have e5 := Nat.lt_trans e4 a5
  have e6 := Nat.lt_trans e5 a6
  have e7 := Nat.lt_trans e6 a7
  have e8 := Nat.lt_trans e7 a8
  have e9 := Nat.lt_trans e8 a9
  exact all_cons (Nat.le_of_lt e8) (all_cons (Nat.le_of_lt e7) (all_cons (Nat.le_of_lt e9) (all_cons (Nat.le_of_lt e2) (all_cons (Nat.le_of_lt e5) (all_cons (Nat.le_of_lt e6) (all_cons (Nat.le_of_lt e4) (all_cons (Nat.le_of_lt e3) (all_cons (Nat.le_of_lt a1) (all_cons (Nat.le_refl _) all_nil)))))))))
theorem off_low {k : Lx} (ok : k.Ok) {Y : List (Addr × Obj)} (h : ∀ q ∈ Y, @LT.lt Nat _ q.1 k.ct) : OffK k Y := fun a ha q hq e => by
  have h1 := ok.low a ha
  have h2 := h q hq
  rw [← e] at h2
  exact Nat.lt_irrefl _ (Nat.lt_of_lt_of_le h2 h1)
theorem At_adr {k : Lx} {l : List Nat} {p : Nat} {tp : Tok} {m : Nat} {tl : Tok} {o : Obj} : ∀ x ∈ k.At l p tp m tl ++ [(k.pb, o)], x.1 ∈ k.adr := fun x hx =>
  (List.mem_append.mp hx).elim (fun hx => (List.mem_cons.mp hx).elim (fun e => e ▸ .head _) fun hx => (List.mem_cons.mp hx).elim (fun e => e ▸ .tail _ (.head _)) (S7_adr _)) fun hx => List.mem_singleton.mp hx ▸ .tail _ (.tail _ (.head _))
noncomputable def Told (k : Lx) (l : List Nat) (wl : List (List Nat)) (t rr : List Nat) (TL : Addr) (P' : List (Addr × Obj)) : Prop :=
  ∃ (tv : List Value) (n : Nat) (cc : Ls) (Y : List (Addr × Obj)), DatAll Y tv ((List.range 14).map (toldAt wl t)) ∧ cc.vs = [] ∧ l.drop cc.p = rr ∧ OffK k ((TL, listOf tv.toArray n) :: Y) ∧ P' = (TL, listOf tv.toArray n) :: lex k l cc Y
theorem use_search {A A₀ : Around} {env : Env} {outer : List Env} {base h₀ : Heap} {L : Addr} {m : Str → Option Value} {s : Shared} {Q E : Value → Shared → Prop} {rest : List (Addr × Obj)} {k : Lx} {l : List Nat} {p : Nat} {tp : Tok} {n : Nat} {tl : Tok} {nb : Nat} {wl : List (List Nat)} {t r : List Nat} {vs us : List Value} {ul : List Int} (hD : Drawn vs us wl t ul)
    (ok : k.Ok) (hl : l.length ≤ 1000000) (hR : k.Reads w mean mg mb l) (hrd : Reads1 (l.drop p) (wl ++ [[], [], t]) r) (H : HereD 380 w mean mg mb A env outer A₀ base h₀ L) (F : Fr h₀ L s.heap m)
    (NP : News h₀ L s.heap (k.At l p tp n tl ++ [(k.pb, listOf #[] nb)])) (NR : News h₀ L s.heap rest) (off : OffK k rest)
    (K : ∀ TL P' h' tk', Told k l wl t r TL P' → Fr h₀ L h' m → News h₀ L h' (rest ++ P') → (∀ q ∈ rest, ∀ p ∈ P', p.1 ≠ q.1) → Q (.ref TL) { s with heap := h', toks := tk' }) :
    wpAny (MX w) A (call (.ref 122) [.ref k.x]) Q E s :=
  wpAny_call (c_search k ok l hl hR p tp n tl nb wl t r hD.len hD.good hD.tlen hD.tabc hD.thead hrd A env outer A₀ base h₀ L m rest s _ H F NP NR (off_apart At_adr off) fun v P' h' tk' hp F' N1 N2 ap => by
    obtain ⟨TL, tv, n, cc, Y, rfl, h⟩ := hp
    exact K TL P' h' tk' ⟨tv, n, cc, Y, h⟩ F' (List.forall_mem_append.mpr ⟨N2, N1⟩) fun q hq p hp => ap p hp q hq)
theorem lexer_made {l : List Nat} {g h : Heap} {L : Addr} {x dx st sd rd pl cp ct c1 pb : Addr} {sfd : FuncData} {ssl : Array (Option Value)} {hsh : Int} {tn : Tok} {rfd : FuncData} {oc1 ocp oct : Obj} {h1 h2 h3 h4 : Int} {t1 t2 t3 t4 t5 t6 tp : Tok} {nn : Nat} {Y : List (Addr × Obj)}
    (b1 : @LT.lt Nat _ ct cp) (b2 : @LT.lt Nat _ cp pl) (b3 : @LT.lt Nat _ pl c1) (b4 : @LT.lt Nat _ c1 rd) (b5 : @LT.lt Nat _ rd st) (b6 : @LT.lt Nat _ st sd) (b7 : @LT.lt Nat _ sd dx) (b8 : @LT.lt Nat _ dx x) (b9 : @LT.lt Nat _ x pb)
    (hread : ∀ (pos : Nat) (tp : Tok) (n : Nat) (t : Tok), F1 w mean mg mb rd [.int 1 t] (streamP st sd rd pl cp ct c1 sfd ssl hsh tn rfd oc1 ocp oct pos tp n) fun v P' => ∃ tv tp' n', v = .str (txt (sgn l pos)) tv ∧ P' = streamP st sd rd pl cp ct c1 sfd ssl hsh tn rfd oc1 ocp oct ((pos + 1 : Nat) : Int) tp' n')
    (N : News g L h ((pb, listOf #[] 0) :: (x, instObj 52 dx) :: (dx, dictOf [⟨h1, .str "lineno" t1, .int 1 t2⟩, ⟨h2, .str "instream" t3, .ref st⟩, ⟨h3, .str "whitespace" t4, .str "\n\t\r " t5⟩, ⟨h4, .str "pushback" t6, .ref pb⟩] 4) :: (streamP st sd rd pl cp ct c1 sfd ssl hsh tn rfd oc1 ocp oct 0 tp nn ++ Y))) :
    ∃ k : Lx, x = k.x ∧ ct = k.ct ∧ k.Ok ∧ k.Reads w mean mg mb l ∧ ∃ tl, News g L h (k.At l 0 tp nn tl ++ [(k.pb, listOf #[] 0)]) := by
  refine ⟨⟨x, dx, st, sd, rd, pl, cp, ct, c1, pb, sfd, ssl, hsh, tn, rfd, oc1, ocp, oct, h1, h2, h3, h4, t1, t3, t4, t6, t5⟩, rfl, rfl, ⟨b1, b2, b3, b4, b5, b6, b7, b8, b9⟩, hread, t2, ?_⟩
  have e0 : lnAt l 0 = 1 := by unfold lnAt; rw [List.take_zero]; rfl
  unfold Lx.At Lx.P Lx.dict
  rw [e0]
  exact all_cons (N _ (.tail _ (.head _))) (all_cons (N _ (.tail _ (.tail _ (.head _)))) fun p hp => (List.mem_append.mp hp).elim (fun hp => N _ (.tail _ (.tail _ (.tail _ (List.mem_append_left _ hp))))) fun hp => List.mem_singleton.mp hp ▸ N _ (.head _))
structure Dw where
  dv : List Value
  n : Nat
  oP : Obj
  Z : List (Addr × Obj)
structure Dw.Ok (wl : List (List Nat)) (t : List Nat) (DU PL : Addr) (i : Nat) (c : Dw) : Prop where
  dat : DatAll c.Z c.dv ((List.range i).map (toldAt wl t))
  cell : ∃ v, c.oP.data = .cell v
  offD : ∀ p ∈ c.Z, p.1 ≠ DU
  offP : ∀ p ∈ c.Z, p.1 ≠ PL
theorem Dw.Ok.next {wl : List (List Nat)} {t : List Nat} {DU PL TU FL : Addr} {i n m : Nat} {c : Dw} {oP o : Obj} {f2 : List Value} {v : Option Value} {tw : Tok} (h : c.Ok wl t DU PL i) (ho : o = { cls := .type "tuple", data := .seq #[.str (txt (lsuf wl (t.take (i + 1)))) tw, .ref FL] })
    (hf : StrsAre f2 ((sfx wl (t.take (i + 1))).map fun l => txt l)) (dP : oP.data = .cell v) (h1 : TU ≠ DU) (h2 : FL ≠ DU) (h3 : TU ≠ PL) (h4 : FL ≠ PL) : Dw.Ok wl t DU PL (i + 1) ⟨c.dv ++ [.ref TU], m, oP, (TU, o) :: (FL, listOf f2.toArray n) :: c.Z⟩ := by
  refine ⟨?_, ⟨v, dP⟩, all_cons h1 (all_cons h2 h.offD), all_cons h3 (all_cons h4 h.offP)⟩
  rw [List.range_succ, List.map_append]
  subst ho
  exact (h.dat.mono fun p hp => .tail _ (.tail _ hp)).append (.one (.tuple (vs := [_, _]) (.head _) (.cons (.str _ _) (.cons (.list (.tail _ (.head _)) (strs_dat hf)) .nil))))
theorem abc_ok {x : List Nat} (h : Abc x) : PyData.strOk (txt x) = true := by
  show ((x.toArray).all (· < 0x110000)) = true
  rw [List.all_toArray, List.all_eq_true]
  exact fun c hc => by rcases h c hc with rfl | rfl | rfl <;> decide
theorem told_ok {wl : List (List Nat)} {t : List Nat} {n : Nat} (h0 : wl ≠ []) (hg : ∀ x ∈ wl, Abc x) : ∀ d ∈ (List.range n).map (toldAt wl t), kqdOk 8 d = true := by
  intro d hd
  obtain ⟨i, -, rfl⟩ := List.mem_map.mp hd
  have h1 : Abc (lsuf wl (t.take (i + 1))) := by
    obtain ⟨y, hy, p⟩ := isP_iff.mp (lsuf_p h0 (t.take (i + 1)))
    exact fun c hc => hg y hy c (p.subset hc)
  simp only [toldAt, kqdOk, List.all_cons, List.all_nil, Bool.and_true, Bool.and_eq_true, List.all_map, List.all_eq_true, Function.comp]
  exact ⟨abc_ok h1, fun x hx => abc_ok (hg x (sfx_mem hx).1)⟩
theorem kqd_same {prog : Program} {A : Around} {E : Value → Shared → Prop} {s : Shared} {h₀ : Heap} {L a b : Addr} {news n₁ n₂ : List (Addr × Obj)} {xs ys : List Value} {ka kb : Nat} {ds : List Dat} {Q : Value → Shared → Prop} (N : News h₀ L s.heap news) (ma : (a, listOf xs.toArray ka) ∈ news) (Da : DatAll n₁ xs ds) (sa : ∀ p ∈ n₁, p ∈ news)
    (mb : (b, listOf ys.toArray kb) ∈ news) (Db : DatAll n₂ ys ds) (sb : ∀ p ∈ n₂, p ∈ news) (ha : ∀ d ∈ ds, kqdOk 8 d = true) (hu : A.units + 64 < cLine) (h : Q (.bool true) s) : wpAny (model prog w) A (compareOp .Eq (.ref a) (.ref b)) Q E s := by
  refine kqd_eq N ma rfl rfl Da sa mb rfl rfl Db sb ha ha hu ?_
  simpa using h
theorem ln_end {l : List Nat} {p : Nat} (h : l.length ≤ p) : lnAt l p = 1 + Txt.count (txt l) (Str.ofString "\n") := by
  rw [count_txt]
  unfold lnAt
  rw [List.take_of_length_le h]
theorem c_law (lst : Addr) (items : List Value) (xs : List Int) (hx : IntsAre items xs) (hl : xs.length ≤ 63) :
    FnTop PySem.Challenge.pw_ta0007_02 w (hd.heap_39 w.params) topProg lse mean mg mb 301 301 127 [.ref lst] [(79, tabObj #[])] (fun g => g.IsList lst items.toArray) (fun v P' => ∃ ps, v = .bool true ∧ P' = [(79, tabObj ps)]) := by
  walk_at "fn_top"
  refine opq fun XX hXX => ?_
  obtain ⟨o1, o2, o3, o4, o5, rfl, d1, d2, d3, d4, d5⟩ := kc_five Y
  refine hXX ?_
  clear hXX XX Y
  with_reducible refine body_open F [("script", .ref lst)] ?hps ?_
  case hps => exact (all_cons rfl all_nil)
  clear F
  intro m0 F AA ee QQ
  simp only [List.cons_append, List.nil_append] at N
  k_lt lt
  replace d1 : o1.data = .cell none := d1
  replace d2 : o2.data = .cell none := d2
  replace d3 : o3.data = .cell none := d3
  replace d4 : o4.data = .cell none := d4
  replace d5 : o5.data = .cell none := d5
  walk_at "steps"
  refine ⟨?_⟩
  refine use_drawn hx hl (by walk_at "fn_here") HL (by k_asm) (by k_asm) ?_
  intro TP D1 D2 vs us n1 n2 wl t ul h1 tk1 hD F1 N1 eP e2 e1
  have a1 := e1 _ (.head _)
  have a2 := e1 _ (.tail _ (.head _))
  have a3 := e1 _ (.tail _ (.tail _ (.head _)))
  have a4 := e1 _ (.tail _ (.tail _ (.tail _ (.head _))))
  have a5 := e1 _ (.tail _ (.tail _ (.tail _ (.tail _ (.head _)))))
  have a6 := e1 _ (.tail _ (.tail _ (.tail _ (.tail _ (.tail _ (.head _))))))
  have b1 := e2 _ (.head _)
  have b2 := e2 _ (.tail _ (.head _))
  have b3 := e2 _ (.tail _ (.tail _ (.head _)))
  have b4 := e2 _ (.tail _ (.tail _ (.tail _ (.head _))))
  have b5 := e2 _ (.tail _ (.tail _ (.tail _ (.tail _ (.head _)))))
  have b6 := e2 _ (.tail _ (.tail _ (.tail _ (.tail _ (.tail _ (.head _))))))
  have p1 := eP _ (.tail _ (.tail _ (.tail _ (.head _))))
  have p2 := eP _ (.tail _ (.tail _ (.tail _ (.tail _ (.head _)))))
  clear e1 e2 eP
  dsimp only at a1 a2 a3 a4 a5 a6 b1 b2 b3 b4 b5 b6 p1 p2
  walk_at "steps"
  (with_reducible rename News _ _ _ _ => NN)
  replace NN := News.drop1 NN
  clear p1 p2
  refine ⟨?_⟩
  with_unfolding_all refine comp_openA (by with_unfolding_all rfl) (by with_unfolding_all rfl) (by rfl) (by decide) ?_ (fun _ => rfl)
  walk_at "steps"
  rename_i oW dW h7 oY F7 dY N7 h8 tk8 q1 q2 q3 hrg F8 N8 hkeep
  clear N7 F7
  refine ⟨iter_range_N (n := 5) F8 N8 hrg (by decide) (by rfl) ?_⟩
  intro I oI St h9 S F9 N9 lt9
  refine' comp_pureA S rfl (fun i ys => StrsAre ys ((List.range i).map fun k => txt (pc (wl ++ [t]) ul k)) ∧ i ≤ 5) F9 N9 lt9 (fun _ h => nomatch h) ⟨.nil, Nat.zero_le _⟩ ?turnC_a ?hszC_a ?doneC_a ?bC1_a ?bC2_a ?bC3_a ?bC4_a
  case bC1_a => decide
  case bC2_a => rfl
  case bC3_a => rfl
  case bC4_a => exact ⟨rfl, rfl, rfl⟩
  case hszC_a =>
    rintro i ys ⟨hs, hin⟩
    rw [hs.len_eq, List.length_map, List.length_range, sizeLine_eq]; omega
  case turnC_a =>
    rintro i ys v C D oI' oC mC kD h tk3 hi ⟨t1, rfl⟩ ⟨hst, hin⟩ F4 N4 hns hxv
    obtain ⟨lw, tw, hlw, hvw, hlt, hh, hlen⟩ := hD.word hi
    obtain ⟨ny, ty, hny, hvy, hyb⟩ := hD.way hi
    refine comp_gen fun PY PN hPY hPN => ?_
    walk_at "steps"
    refine lat (i := i) (by k_asm) (by k_mem) hvw (by omega) (by omega) ?_
    walk_at "steps"
    refine ⟨?_⟩
    refine Fn.use (c_number lw tw hh (by omega)) (by walk_at "fn_here") (by k_asm) (by k_asm) (by walk_at "fn_split") (by walk_at "fn_apart") ?_
    intro v P' h13 tk13 hp13 F13 N13 ap13
    clear ap13
    refine opq fun XX hXX => ?_
    obtain ⟨t13, rfl, rfl⟩ := hp13
    refine hXX ?_
    clear hXX XX
    simp only [List.nil_append] at N13
    walk_at "steps"
    refine ⟨?_⟩
    refine Fn.use (c_word (-numOf lw) _ (num_bound hlt hh hlen)) (by walk_at "fn_here") (by k_asm) (by k_asm) (by walk_at "fn_split") (by walk_at "fn_apart") ?_
    intro v P' h14 tk14 hp14 F14 N14 ap14
    clear ap14
    refine opq fun XX hXX => ?_
    obtain ⟨t14, rfl, rfl⟩ := hp14
    refine hXX ?_
    clear hXX XX
    simp only [List.nil_append] at N14
    have hwc : (apL (-numOf lw).natAbs).map (·.toNat) = lw := wcode_num hlt hh
    rw [hwc]
    walk_at "steps"
    refine lat (i := i) (by k_asm) (by k_mem) hvy (by omega) (by omega) ?_
    walk_at "steps"
    refine ⟨?_⟩
    refine Fn.use (c_written lw _ _ ny hyb (by omega)) (by walk_at "fn_here") (by k_asm) (by k_asm) (by walk_at "fn_split") (by walk_at "fn_apart") ?_
    intro v P' h15 tk15 hp15 F15 N15 ap15
    clear ap15
    refine opq fun XX hXX => ?_
    obtain ⟨t15, rfl, rfl⟩ := hp15
    refine hXX ?_
    clear hXX XX
    simp only [List.nil_append] at N15
    subst hPY
    refine PureEnd.intro (by k_asm) (by k_asm) ⟨?_, hi⟩
    rw [range_snoc, show pc (wl ++ [t]) ul i = wrt lw ny by rw [pc, hlw, hny]]
    exact StrsAre.snoc hst _ _
  case doneC_a =>
    rintro ys D3 kD h4 tk3 ⟨hst, -⟩ F4 N4 hD3
    k_lt hD3
    clear F8 N8 F9 N9 S lt9 hkeep hrg
    walk_at "steps"
    have h5 : ys.length = 5 := by rw [hst.len_eq, List.length_map, List.length_range]
    obtain ⟨hfl, rr, hrd, hrw⟩ := hD.file
    have hfl2 : fileOf (wl ++ [t]) ul = ((List.range 4).map (pc (wl ++ [t]) ul)).flatten ++ [34, 34, 32, 34, 34, 10] ++ pc (wl ++ [t]) ul 4 := rfl
    have hf4 := hfl
    rw [hfl2, List.length_append, List.length_append] at hf4
    have hp4 : ∀ i ∈ List.range 4, (pc (wl ++ [t]) ul i).length ≤ 31 := fun i hi => hD.pc_len (Nat.lt_succ_of_lt (List.mem_range.mp hi))
    refine ⟨?_⟩
    refine kmk_slice_lit (zs := ys.take 4) (by k_asm) (by k_asm) (News.isList (by k_asm) (by k_mem)) (by kmk_part) (by kmk_part) (pick_to ys (n := 4) rfl (by omega)) ?_ (by with_unfolding_all rfl) (by kmk_pure) (by rw [List.size_toArray, h5, sizeLine_eq]; decide)
    intro D4 h5 F5 N5 l4
    walk_at "steps"
    refine join_listW (News.isList (by k_asm) (.head _)) (show StrsAre (ys.take 4) ((List.range 4).map fun k => txt (pc (wl ++ [t]) ul k)) from hst.take' 4) (by decide) (Nat.le_trans (weigh_map (pc (wl ++ [t]) ul) 31 (List.range 4) hp4) (by decide)) ?_
    intro t6 tk6
    rw [join_map (pc (wl ++ [t]) ul) (List.range 4)]
    replace N5 := News.drop1 N5
    clear N4 F4 l4
    walk_at "steps"
    refine ⟨?_⟩
    rw [show Str.ofString "\"\" \"\"\n" = txt [34, 34, 32, 34, 34, 10] from rfl]
    walk_at "sadd"
    rw [txt_app]
    walk_at "steps"
    rw [show ((List.range 5).map fun k => txt (pc (wl ++ [t]) ul k)).getD (Int.toNat 4) Str.empty = txt (pc (wl ++ [t]) ul 4) from rfl]
    refine ⟨?_⟩
    walk_at "sadd"
    rw [txt_app, ← hfl2]
    clear hfl2 hf4 hp4
    generalize fileOf (wl ++ [t]) ul = l at *
    walk_at "steps"
    (with_reducible rename News _ _ _ _ => NA)
    (with_reducible rename Fr _ _ _ _ => FA)
    obtain ⟨m1, FA, -⟩ := fr_names FA [("text", .str (txt l) _)] (all_cons rfl all_nil)
    replace NA := News.sub (P := [(D1, W.listOf vs.toArray n1), (L + 1 + 1 + 1 + 1 + 1, o1), (L + 1 + 1 + 1 + 1, o2), (L + 1 + 1 + 1, o3), (L + 1, oW), (79, tabObj #[])]) NA (by walk_at "fn_sub")
    clear hst hD3 b1 b2 b3 b4 b5 b6 dY
    refine ⟨?_⟩
    refine FnB.use (c_stream l _ (by rw [sizeLine_eq]; omega)) (by walk_at "fn_here") (by k_asm) (by k_asm) (by walk_at "fn_split") (by walk_at "fn_apart") ?_
    intro B16 v P' h16 tk16 hp16 F16 N16 ap16 lt16
    clear ap16
    refine opq fun XX hXX => ?_
    obtain ⟨st, sd, rd, pl, cp, ct, c1, sfd, ssl, hsh, tn, rfd, oc1, ocp, oct, tp, nn, ps, rfl, rfl, ⟨b0, b1, b2, b3, b4, b5, b6⟩, hread⟩ := hp16
    refine hXX ?_
    clear hXX XX
    k_lt lt16
    simp only [streamP, List.cons_append, List.nil_append] at N16
    walk_at "steps"
    refine ⟨?_⟩
    refine call_cls (C := 52) (fI := 28) (by k_asm) (by k_asm) (by k_asm) (by k_is) (by k_is) (by k_is) ?_
    intro x dx hA7 FA NA lA lB
    k_lt lA
    refine Fn.useC (c_init x dx st lB) (by walk_at "fn_here") (by k_asm) (by k_asm) (by walk_at "fn_split") (apart_lt dx (by walk_at "fn_ords") (by walk_at "fn_ords")) ?_
    intro v P' hA1 tkA hp17 F17a N17a ap17
    clear ap17
    refine opq fun XX hXX => ?_
    obtain ⟨pb, ta1, ta2, ta3, ta4, ta5, ta6, rfl, lC, rfl⟩ := hp17
    refine hXX ?_
    clear hXX XX FA NA
    simp only [List.cons_append, List.nil_append] at N17a
    obtain ⟨k, hk, hct, ok, hR, tl, NP⟩ := lexer_made (l := l) b1 b2 b3 b4 b5 b6 lA.2.2.1 lB lC hread N17a
    rw [hct] at b0
    subst hk
    have NC : News g L hA1 ((k.At l 0 tp nn tl ++ [(k.pb, listOf #[] 0)]) ++ [(D1, W.listOf vs.toArray n1), (L + 1 + 1 + 1 + 1 + 1, o1), (L + 1 + 1 + 1 + 1, o2), (L + 1 + 1 + 1, o3), (L + 1, oW), (79, tabObj ps)]) := List.forall_mem_append.mpr ⟨NP, News.sub N17a (by walk_at "fn_sub")⟩
    have hlo : OffK k [(D1, W.listOf vs.toArray n1), (L + 1 + 1 + 1 + 1 + 1, o1), (L + 1 + 1 + 1 + 1, o2), (L + 1 + 1 + 1, o3), (L + 1, oW), (79, tabObj ps)] := off_low ok (all_cons (Nat.lt_trans lt16.1 b0) (all_cons (Nat.lt_trans lt16.2.1 b0) (all_cons (Nat.lt_trans lt16.2.2.1 b0) (all_cons (Nat.lt_trans lt16.2.2.2.1 b0) (all_cons (Nat.lt_trans lt16.2.2.2.2.1 b0) (all_cons (Nat.lt_trans lt.1 (Nat.lt_trans (Nat.lt_succ_self _) (Nat.lt_trans lt16.2.2.2.2.1 b0))) all_nil))))))
    clear lA lB lC hread b0 b1 b2 b3 b4 b5 b6 hct lt16 N17a NP
    dsimp only [InitBack]
    (try refine ⟨rfl, ?_⟩)
    walk_at "steps"
    (with_reducible rename News _ _ _ _ => NC)
    refine ⟨?_⟩
    refine use_search (p := 0) hD ok (by omega) hR hrd (by walk_at "fn_here") (by k_asm) (fun p hp => NC p (List.mem_append_left _ hp)) (fun p hp => NC p (List.mem_append_right _ hp)) hlo ?_
    intro TL P' h17 tk17 hT F17 N17 ap
    have ap0 := ap _ (.head _)
    have ap5 := ap _ (.tail _ (.head _))
    have ap4 := ap _ (.tail _ (.tail _ (.head _)))
    have ap3 := ap _ (.tail _ (.tail _ (.tail _ (.head _))))
    have ap1 := ap _ (.tail _ (.tail _ (.tail _ (.tail _ (.head _)))))
    dsimp only at ap0 ap1 ap3 ap4 ap5
    clear ap NC hrd
    simp only [List.cons_append, List.nil_append] at N17
    walk_at "steps"
    have hv5 : vs.length = 5 := by rw [hD.wstrs.len_eq, List.length_map, List.length_append, hD.len]; rfl
    refine ⟨?_⟩
    refine kmk_slice_lit (zs := vs.take 4) (by k_asm) (by k_asm) (News.isList (by k_asm) (.head _)) (by kmk_part) (by kmk_part) (pick_to vs (n := 4) rfl (by omega)) ?_ (by with_unfolding_all rfl) (by kmk_pure) (by rw [List.size_toArray, hv5, sizeLine_eq]; decide)
    (with_reducible rename Fr _ _ _ _ => FO)
    (with_reducible rename News _ _ _ _ => NO)
    intro SO h18 F18 N18 lSO
    k_lt lSO
    have hso : StrsAre (vs.take 4) (wl.map fun l => txt l) := by
      have q : ((wl ++ [t]).map fun l => txt l).take 4 = wl.map fun l => txt l := by
        rw [List.map_append, List.take_append_of_le_length (Nat.le_of_eq (by rw [List.length_map, hD.len])), List.take_of_length_le (Nat.le_of_eq (by rw [List.length_map, hD.len]))]
      exact q ▸ hD.wstrs.take' 4
    clear NO FO
    generalize vs.take 4 = ss at *
    walk_at "steps"
    refine ⟨?_⟩
    refine wpAny_Assign_Name ?_ (by with_unfolding_all rfl)
    walk_at "steps"
    refine ⟨?_⟩
    with_unfolding_all refine comp_openU (by with_unfolding_all rfl) (by rfl) (by decide) ?_ (fun _ => rfl)
    walk_at "steps"
    rename_i h19 o3 F19 N19 d3'
    have d30 : o3.data = .cell (some (.ref SO)) := d3'
    clear d3'
    generalize hW : ((D1, W.listOf vs.toArray n1) :: (L + 1 + 1 + 1 + 1 + 1, o1) :: (L + 1 + 1 + 1 + 1, o2) :: (L + 1 + 1 + 1, o3) :: (L + 1, oW) :: (79, tabObj ps) :: P') = W at N19
    obtain ⟨m2, hm2, F19⟩ := fr_gen F19
    refine ⟨iter_list_N F19 N19 (.head _) ?_⟩
    intro I oI St h21 S F21 N21 lt21
    refine' comp_two S rfl (fun i ys => StrsAre ys ((begins (wl.take i)).map fun l => txt l) ∧ i ≤ 4) F21 N21 lt21 (all_cons (.head _) all_nil) ⟨show StrsAre [] ((begins []).map fun l => txt l) from .nil, Nat.zero_le _⟩ ?turnB_h ?doneB_h ?bB1_h ?bB2_h ?bB3_h ?bB4_h UseOk.none
    case bB1_h => decide
    case bB2_h => rfl
    case bB3_h => rfl
    case bB4_h => exact fun _ _ => rfl
    case turnB_h =>
      rintro i ys v C D oI' oC mC kD h tk3 hi hP ⟨hst, hin⟩ F4 N4 off hns hxv X hX
      obtain ⟨y0, tw, rfl, hy0⟩ := hso.item i v (by have q := hP; unfold ItemAt at q; simpa using q)
      rw [List.getElem?_map] at hy0
      obtain ⟨y, hy, rfl⟩ := Option.map_eq_some_iff.mp hy0
      clear hy0
      have hy4 := (hD.good _ (List.mem_of_getElem? hy)).2.1
      walk_at "steps"
      refine PySem.P.len_str (by rw [txt_len]; omega) ?_
      rw [txt_len]
      walk_at "steps"
      rename_i h23 tk23 q1 q2 q3 hrg F23 N23 hk23
      clear hk23
      refine ⟨iter_range_N (n := y.length + 1) F23 N23 hrg (small_one (by omega) (by omega) (by omega) (by omega)) (by rw [rangeSize_one]; split <;> omega) ?_⟩
      intro I2 oI2 St2 h24 S2 F24 N24 lt24
      refine' inner_loop S2 rfl (fun j ys => StrsAre ys ((begins (wl.take i) ++ (List.range j).map fun k => y.take k).map fun l => txt l) ∧ j ≤ 5) F24 N24 (fun _ h => nomatch h) ⟨off.cd, Nat.ne_of_lt (lt24 _ (.head _)), Nat.ne_of_lt (lt24 _ (.tail _ (.head _))), all_cons off.ci.symm off.c, all_cons off.di.symm off.d, fun p hp => Nat.ne_of_lt (lt24 p (.tail _ (.tail _ hp)))⟩ hns hxv (by decide) ⟨by rw [List.range_zero, List.map_nil, List.append_nil]; exact hst, Nat.zero_le _⟩ rfl rfl ?turnC_j ?hszC_j ?doneC_j
      case hszC_j =>
        rintro j ys2 ⟨hs2, hj⟩
        rw [hs2.len_eq, List.length_map, List.length_append, List.length_map, List.length_range, sizeLine_eq]
        have := begins_len (ws := wl.take i) fun z hz => (hD.good z (List.mem_of_mem_take hz)).2.1
        rw [List.length_take] at this
        have := hD.len
        omega
      case doneC_j =>
        rintro s' ⟨h5, tk5, ys5, oC5, mC5, kD5, B⟩
        refine hX s' ⟨h5, tk5, ys5, oC5, mC5, kD5, ⟨B.st, B.fr, B.nw, B.ns, ?_, ?_⟩⟩
        · rw [begins_take hy]; exact B.j.1
        · have := hD.len
          have := (List.getElem?_eq_some_iff.mp hy).1
          omega
      case turnC_j =>
        clear F23 N23 F24 N24 hX lt24 S2 hns hxv hrg
        rintro j ys2 v2 oI3 oC2 mC2 kD2 h25 tk25 hj ⟨t2, rfl⟩ ⟨hst2, hj5⟩ F25 N25 hns2 hx1 hx2
        refine post_gen fun PY hPY => ?_
        walk_at "steps"
        subst hPY
        rw [slice_to y (show (0 : Int) + (j : Int) * 1 = ((j : Nat) : Int) by omega) (by omega)]
        refine PureEnd.intro (by k_asm) (by k_asm) ⟨?_, by omega⟩
        rw [range_snoc, ← List.append_assoc, List.map_append (l₂ := [_]), List.map_singleton]
        exact StrsAre.snoc hst2 _ _
    case doneB_h =>
      rintro bs BG kB h4 tk3 ⟨hst, -⟩ F4 N4 hBG
      k_lt hBG
      subst hW hm2
      rw [List.size_toArray, hso.len_eq, List.length_map, hD.len, List.take_of_length_le (Nat.le_of_eq hD.len)] at hst
      clear N19 N21 lt21 F19 F21 S
      dsimp only [mUse, vUse] at F4 ⊢
      walk_at "steps"
      rename_i hx1 o4 d4' tkx DU hx2 lDU hx3 FX NX h26 tk26 q1 q2 q3 hrg F26 N26 hk26
      have d40 : o4.data = .cell (some (.ref BG)) := d4'
      clear d4' hk26 NX FX
      have ap5 : ∀ p ∈ (79, tabObj ps) :: P', p.1 ≠ L + 1 + 1 + 1 + 1 + 1 := all_cons (ne_lt (by have := lt.1; dsimp only at this ⊢; omega)) ap5
      clear ap0 ap1 ap3 ap4
      generalize hRd : (79, tabObj ps) :: P' = R at N26 lDU hBG lSO ap5
      obtain ⟨m3, F26, -⟩ := fr_names F26 [("due", .ref DU), ("told", .ref TL), ("lexer", .ref k.x), ("text", .str (txt l) _)] (all_cons rfl (all_cons rfl (all_cons rfl (all_cons rfl all_nil))))
      refine ⟨iter_range_N (n := 14) F26 N26 hrg (by decide) (by rfl) ?_⟩
      intro I oI St h27 S F27 N27 lt27
      refine' for_src (σ := Dw) S rfl (fun c => (DU, W.listOf c.dv.toArray c.n) :: (BG, W.listOf bs.toArray kB) :: (SO, W.listOf ss.toArray 0) :: (D1, W.listOf vs.toArray n1) :: (L + 1 + 1 + 1 + 1 + 1, c.oP) :: (L + 1 + 1 + 1 + 1, o4) :: (L + 1 + 1 + 1, o3) :: (L + 1, oW) :: (c.Z ++ R)) (fun _ => []) ["ends"] (fun i c => Dw.Ok wl t DU (L + 1 + 1 + 1 + 1 + 1) i c) ⟨[], 0, o1, []⟩ F27 N27 (fun q hq => ne_lt (lt27 q hq)) (fun _ h => nomatch h) (fun _ _ _ _ h => nomatch h) ⟨.nil, ⟨_, d1⟩, (fun _ h => nomatch h), (fun _ h => nomatch h)⟩ ?turnP_l ?doneP_l
      case turnP_l =>
        intro i c u h28 tk28 v oI' hi hv hc F28 N28 hI
        obtain ⟨t28, rfl⟩ := hv
        obtain ⟨vP, dP⟩ := hc.cell
        obtain ⟨m4, F28, hm4⟩ := fr_names F28 [("due", .ref DU)] (all_cons rfl all_nil)
        have hz5 : ∀ p ∈ c.Z ++ R, p.1 ≠ L + 1 + 1 + 1 + 1 + 1 := List.forall_mem_append.mpr ⟨hc.offP, ap5⟩
        have i0 := hI _ (.head _)
        have i1 := hI _ (.tail _ (.tail _ (.tail _ (.tail _ (.head _)))))
        dsimp only at i0 i1
        clear F26 N26 F27 N27 lt27 S hrg
        refine turn_gen fun QB hQB => ?_
        walk_at "steps"
        refine ⟨?_⟩
        with_unfolding_all refine comp_openA (by with_unfolding_all rfl) (by with_unfolding_all rfl) (by rfl) (by decide) ?_ (fun _ => rfl)
        walk_at "steps"
        rename_i hy1 oP FY1 dP' hy2 tky FY2 NY2 h29 tk29 q1 q2 q3 hrg F29 N29 hk29
        clear hk29 NY2 FY2 FY1
        rw [show (if 1 + (i : Int) * 1 - 4 > 0 then 1 + (i : Int) * 1 - 4 else 0) = ((i + 1 - 4 : Nat) : Int) by split <;> omega, show 1 + (i : Int) * 1 + 1 = ((i + 2 : Nat) : Int) by omega] at hrg
        have hzl : (t.take (i + 1)).length = i + 1 := by rw [List.length_take, hD.tlen]; omega
        refine ⟨iter_range_N (n := min (i + 1) 4 + 1) F29 N29 hrg (small_one (by omega) (by omega) (by omega) (by omega)) (by rw [rangeSize_one]; split <;> omega) ?_⟩
        intro I2 oI2 St2 h30 S2 F30 N30 lt30
        refine' comp_pureA S2 rfl (fun j ys => StrsAre ys ((List.range j).map fun j => txt ((t.take (i + 1)).drop (i + 1 - 4 + j))) ∧ j ≤ 5) F30 N30 lt30 (fun _ h => nomatch h) ⟨.nil, Nat.zero_le _⟩ ?turnE_n ?hszE_n ?doneE_n ?bE1_n ?bE2_n ?bE3_n ?bE4_n
        case bE1_n => decide
        case bE2_n => rfl
        case bE3_n => rfl
        case bE4_n => exact ⟨rfl, rfl, rfl⟩
        case hszE_n =>
          rintro j ys ⟨hs, hj⟩
          rw [hs.len_eq, List.length_map, List.length_range, sizeLine_eq]; omega
        case turnE_n =>
          clear F29 N29 F30 N30 lt30 S2 hrg hQB hz5 hI
          rintro j ys v2 C D oI3 oC mC kD h31 tk31 hj ⟨t2, rfl⟩ ⟨hst2, hj5⟩ F31 N31 hns hxv
          obtain ⟨tq, hv4⟩ := strs_get hD.wstrs (i := 4) (y := txt t) (by rw [List.getElem?_map, List.getElem?_append_right (Nat.le_of_eq hD.len), hD.len]; rfl)
          refine comp_gen fun PY PN hPY hPN => ?_
          walk_at "steps"
          refine lat (i := 4) (by k_asm) (by k_mem) hv4 rfl (by decide) ?_
          walk_at "steps"
          refine slice_strN_ss (hsz := ?hsz_o) (s := ⟨_, _, _, _, _⟩) F31 N31 ?_
          case hsz_o => rw [txt_len, hD.tlen, sizeLine_eq]; decide
          intro h32 t32 tk32 F32 N32
          subst hPY
          rw [slice_txt t (x := i + 1 - 4 + j) (y := i + 1) (by omega) (by omega) (by omega) (by rw [hD.tlen]; omega)]
          refine PureEnd.intro F32 N32 ⟨?_, by omega⟩
          rw [range_snoc]
          exact StrsAre.snoc hst2 _ _
        case doneE_n =>
          rintro es ES kE h31 tk31 ⟨hes, -⟩ F31 N31 hES
          k_lt hES
          rw [show (fun j => txt ((t.take (i + 1)).drop (i + 1 - 4 + j))) = (fun l => txt l) ∘ (fun j => (t.take (i + 1)).drop (i + 1 - 4 + j)) from rfl, ← List.map_map, ← ends_at hzl] at hes
          clear F29 N29 F30 N30 lt30 S2 hrg
          refine tok_gen s F31 fun tk32 => ?_
          walk_at "steps"
          have wl4 : ∀ y ∈ wl, y.length ≤ 4 := fun y hy => (hD.good y hy).2.1
          have wl0 : wl ≠ [] := fun e => by have := hD.len; rw [e] at this; cases this
          have wln : [] ∉ wl := fun h => (hD.good _ h).1 rfl
          refine ⟨?_⟩
          with_unfolding_all refine comp_openU (by with_unfolding_all rfl) (by rfl) (by decide) ?_ (fun _ => rfl)
          walk_at "steps"
          refine ⟨iter_list_N F31 N31 (.head _) ?_⟩
          intro I2 oI2 St2 h33 S2 F33 N33 lt33
          refine' comp_pureU S2 rfl (fun j ys => StrsAre ys ((((ends (t.take (i + 1))).take j).filter (isP wl)).map fun l => txt l)) F33 N33 lt33 (all_cons (.head _) all_nil) .nil ?turnF_p ?hszF_p ?doneF_p ?bF1_p ?bF2_p ?bF3_p UseOk.none
          case bF1_p => decide
          case bF2_p => rfl
          case bF3_p => rfl
          case hszF_p => exact fun j ys hs => Nat.le_trans (filt_len hs) (by rw [sizeLine_eq]; decide)
          case turnF_p =>
            clear F31 N31 F33 N33 lt33 S2 hQB hz5 hI
            rintro j ys v2 C D oI3 oC mC kD h34 tk34 hj hP hst2 F34 N34 hns hxv
            obtain ⟨y0, tw, rfl, hy0⟩ := hes.item j v2 (by have q := hP; unfold ItemAt at q; simpa using q)
            rw [List.getElem?_map] at hy0
            obtain ⟨y, hy, rfl⟩ := Option.map_eq_some_iff.mp hy0
            clear hy0 hP
            refine comp_gen fun PY PN hPY hPN => ?_
            walk_at "steps"
            · subst hPY
              exact PureEnd.intro F34 N34 (filt_yes _ (isP_begins wl) hst2 hy (by assumption))
            · subst hPN
              exact PureEnd.intro F34 N34 (filt_no (isP_begins wl) hst2 hy (by assumption))
          case doneF_p =>
            rintro f1 FL1 kF1 h34 tk34 hf1 F34 N34 hFL1
            k_lt hFL1
            obtain ⟨rest1, hr1⟩ := due_first wl4 wl0 (t.take (i + 1))
            rw [List.size_toArray, hes.len_eq, List.length_map, List.take_length, hr1, List.map_cons] at hf1
            clear F31 N31 F33 N33 lt33 S2 hr1
            dsimp only [mUse, vUse] at F34 ⊢
            refine tok_gen s F34 fun tk35 => ?_
            walk_at "steps"
            refine ⟨?_⟩
            with_unfolding_all refine comp_openU (by with_unfolding_all rfl) (by rfl) (by decide) ?_ (fun _ => rfl)
            walk_at "steps"
            refine ⟨iter_list_N F34 N34 (.tail _ (.head _)) ?_⟩
            intro I2 oI2 St2 h36 S2 F36 N36 lt36
            refine' comp_pureU S2 rfl (fun j ys => StrsAre ys ((((ends (t.take (i + 1))).take j).filter (fun x => decide (x ∈ wl))).map fun l => txt l)) F36 N36 lt36 (all_cons (.tail _ (.head _)) all_nil) .nil ?turnG_r ?hszG_r ?doneG_r ?bG1_r ?bG2_r ?bG3_r UseOk.none
            case bG1_r => decide
            case bG2_r => rfl
            case bG3_r => rfl
            case hszG_r => exact fun j ys hs => Nat.le_trans (filt_len hs) (by rw [sizeLine_eq]; decide)
            case turnG_r =>
              clear F34 N34 F36 N36 lt36 S2 hQB hz5 hI
              rintro j ys v2 C D oI3 oC mC kD h37 tk37 hj hP hst2 F37 N37 hns hxv
              obtain ⟨y0, tw, rfl, hy0⟩ := hes.item j v2 (by have q := hP; unfold ItemAt at q; simpa using q)
              rw [List.getElem?_map] at hy0
              obtain ⟨y, hy, rfl⟩ := Option.map_eq_some_iff.mp hy0
              clear hy0 hP
              refine comp_gen fun PY PN hPY hPN => ?_
              walk_at "steps"
              · subst hPY
                exact PureEnd.intro F37 N37 (filt_yes _ (fun _ => rfl) hst2 hy (by assumption))
              · subst hPN
                exact PureEnd.intro F37 N37 (filt_no (fun _ => rfl) hst2 hy (by assumption))
            case doneG_r =>
              rintro f2 FL2 kF2 h37 tk37 hf2 F37 N37 hFL2
              k_lt hFL2
              rw [List.size_toArray, hes.len_eq, List.length_map, List.take_length, due_all wl4 wln] at hf2
              clear F34 N34 F36 N36 lt36 S2
              dsimp only [mUse, vUse] at F37 ⊢
              refine tok_gen s F37 fun tk38 => ?_
              have hzD : ∀ p ∈ c.Z ++ R, p.1 ≠ DU := List.forall_mem_append.mpr ⟨hc.offD, fun p hp => ne_lt (ltA (o := p.2) lDU (.tail _ (.tail _ (.tail _ (.tail _ (.tail _ (.tail _ (.tail _ hp))))))))⟩
              have hlv : c.dv.length ≤ 14 := by have := hc.dat.length; rw [List.length_map, List.length_range] at this; omega
              walk_at "steps"
              rename_i tw TU h39 lTU h40 F40 N40
              rw [List.push_toArray] at N40
              have hnx := hc.next (n := kF2) (m := c.n + 1) (TU := TU) (tw := tw) rfl hf2 dP' (ne_gt (ltA lTU (by walk_at "k_mm"))) (ne_gt (ltA hFL2 (by walk_at "k_mm"))) (ne_gt (ltA lTU (by walk_at "k_mm"))) (ne_gt (ltA hFL2 (by walk_at "k_mm")))
              have e1 : TU ≠ I := ne_gt (ltA lTU (by walk_at "k_mm"))
              have e2 : FL2 ≠ I := ne_gt (ltA hFL2 (by walk_at "k_mm"))
              subst hQB
              dsimp only [ForPost]
              refine' LedEnd.intro _ F40 N40 ?sub_s (fun _ h => nomatch h) ?hrG_s ⟨?hIG_s, hnx⟩
              case sub_s => exact all_cons (by walk_at "k_mm") (all_cons (by walk_at "k_mm") (all_cons (by walk_at "k_mm") (all_cons (by walk_at "k_mm") (all_cons (by walk_at "k_mm") (all_cons (by walk_at "k_mm") (all_cons (by walk_at "k_mm") (all_cons (by walk_at "k_mm") (all_cons (by walk_at "k_mm") (all_cons (.head _) (all_cons (.tail _ (.head _)) (fun p hp => .tail _ (.tail _ (.tail _ (.tail _ (.tail _ (.tail _ (.tail _ (.tail _ (.tail _ (.tail _ (.tail _ (.tail _ (.tail _ hp)))))))))))))))))))))))
              case hrG_s =>
                intro z h1 h2
                have na : z ≠ "ends" := fun e => by subst e; exact absurd h2 (by decide)
                show (if z = Str.ofString "ends" then _ else kstB m4 _ z) = _
                rw [if_neg na, hm4]
                simp only [kstB, h2, Bool.false_eq_true, if_false]
              case hIG_s => exact all_cons i0 (all_cons (hI _ (.tail _ (.head _))) (all_cons (hI _ (.tail _ (.tail _ (.head _)))) (all_cons (hI _ (.tail _ (.tail _ (.tail _ (.head _))))) (all_cons i1 (all_cons (hI _ (.tail _ (.tail _ (.tail _ (.tail _ (.tail _ (.head _))))))) (all_cons (hI _ (.tail _ (.tail _ (.tail _ (.tail _ (.tail _ (.tail _ (.head _)))))))) (all_cons (hI _ (.tail _ (.tail _ (.tail _ (.tail _ (.tail _ (.tail _ (.tail _ (.head _))))))))) (all_cons e1 (all_cons e2 (fun p hp => hI p (.tail _ (.tail _ (.tail _ (.tail _ (.tail _ (.tail _ (.tail _ (.tail _ hp))))))))))))))))))
      case doneP_l =>
        intro c u h28 tk28 hc F28 N28
        obtain ⟨m5, F28, -⟩ := fr_names F28 [("due", .ref DU), ("told", .ref TL), ("lexer", .ref k.x), ("text", .str (txt l) _)] (all_cons rfl (all_cons rfl (all_cons rfl (all_cons rfl all_nil))))
        have h79 : ∀ a ∈ k.adr, a ≠ 79 := fun a ha => hlo a ha _ (.tail _ (.tail _ (.tail _ (.tail _ (.tail _ (.head _))))))
        have hok := told_ok (wl := wl) (t := t) (n := 14) (fun e => by have := hD.len; rw [e] at this; cases this) fun x hx => (hD.good x hx).2.2.1
        clear hlo lDU hBG lSO ap5 hso hst d40 d30 d1 S F27 N27 lt27 F26 N26 hrg lt hD hv5
        refine opq fun XX hXX => ?_
        obtain ⟨tv, nT, ⟨cv, cn, cp, ctp, cm, ctl⟩, Y, hdt, hcv, hcp, hoff, rfl⟩ := hT
        refine hXX ?_
        clear hXX XX
        dsimp only at hcv hcp
        subst hcv hRd
        have hall : (l.drop cp).all ws = true := hcp ▸ hrw
        have NF : News g L h28 ((DU, W.listOf c.dv.toArray c.n) :: (TL, W.listOf tv.toArray nT) :: (79, tabObj ps) :: (c.Z ++ lex k l ⟨[], cn, cp, ctp, cm, ctl⟩ Y)) := by
          refine all_cons (N28 _ (.head _)) (all_cons (N28 _ ?_) (all_cons (N28 _ ?_) (List.forall_mem_append.mpr ⟨fun p hp => N28 p ?_, fun p hp => N28 p ?_⟩)))
          · exact .tail _ (.tail _ (.tail _ (.tail _ (.tail _ (.tail _ (.tail _ (.tail _ (List.mem_append_right _ (.tail _ (.head _))))))))))
          · exact .tail _ (.tail _ (.tail _ (.tail _ (.tail _ (.tail _ (.tail _ (.tail _ (List.mem_append_right _ (.head _)))))))))
          · exact .tail _ (.tail _ (.tail _ (.tail _ (.tail _ (.tail _ (.tail _ (.tail _ (List.mem_append_left _ hp))))))))
          · exact .tail _ (.tail _ (.tail _ (.tail _ (.tail _ (.tail _ (.tail _ (.tail _ (List.mem_append_right _ (.tail _ (.tail _ hp))))))))))
        clear N28 hcp
        walk_at "steps"
        refine ⟨?_⟩
        refine kqd_same NF (.tail _ (.head _)) hdt (fun p hp => .tail _ (.tail _ (.tail _ (List.mem_append_right _ (lex_Y p hp))))) (.head _) hc.dat (fun p hp => .tail _ (.tail _ (.tail _ (List.mem_append_left _ hp)))) hok (by ke_room) ?_
        clear hdt hc hok ap5
        replace NF : News g L h28 ((79, tabObj ps) :: lex k l ⟨[], cn, cp, ctp, cm, ctl⟩ []) := all_cons (NF _ (.tail _ (.tail _ (.head _)))) fun p hp => NF p (.tail _ (.tail _ (.tail _ (List.mem_append_right _ ((List.mem_append.mp hp).elim (List.mem_append_left _) fun hp => List.mem_append_right _ ((List.mem_append.mp hp).elim (List.mem_append_left _) (fun h => nomatch h)))))))
        walk_at "steps"
        refine ⟨?_⟩
        refine Fn.useM (c_get_end k ok l (by omega) hR cp ctp cm ctl cn hall) (by walk_at "fn_here") (by k_asm) NF (rest := [(79, tabObj ps)]) (fun p hp => .tail _ ((List.mem_append.mp (perm_At p hp)).elim (fun h => List.mem_append_left _ h) fun h => List.mem_append_right _ (List.mem_append_left _ h))) (all_cons (.head _) all_nil) (fun p hp q hq => by rw [List.mem_singleton.mp hq]; exact h79 _ (At_adr p hp)) ?_
        intro v P2 h29 tk29 hp29 F29 N29 NT
        refine opq fun XX hXX => ?_
        obtain ⟨tv2, p2, tp2, n2, tl2, rfl, hp2, rfl⟩ := hp29
        refine hXX ?_
        clear hXX XX
        have hln := ln_end hp2
        have NG : News g L h29 [(k.x, instObj 52 k.dx), (k.dx, k.dict (1 + Txt.count (txt l) (Str.ofString "\n")) tl2), (79, tabObj ps)] := by
          rw [← hln]
          exact all_cons (N29 _ (.head _)) (all_cons (N29 _ (.tail _ (.head _))) NT)
        clear NF N29 NT hln
        walk_at "steps"
        exact ⟨Ends.sub (P' := [(79, tabObj ps)]) (by k_asm) NG (all_cons (.tail _ (.tail _ (.head _))) all_nil) ⟨ps, congrArg Value.bool (beq_self_eq_true _), rfl⟩⟩
end
end Mine
end
section
open PySem PySem.W PyProof.Rows PySem.Calls
namespace Mine
example : True := by
  k_with_none
  trivial
theorem law_holds : PySem.Challenge.rw_ta0007_02.Holds := hd (by
  k_fill
  intro w s₀ s₁ mg mb G Y fa o pm cd doc dV kV ho hdd hcd hD hmg hg args vals as hpre hlay hrd hwl hlo
  have KX := km_in_of Y
  km_tabs Y
  have X := (Ground.X G).1
  have V := (Ground.X G).2
  refine Ground.open G ?_
  intro T B D TE TW
  try (refine guard_noD D (by decide +kernel) ?_; clear D)
  have hfa : some (Value.ref 127) = some (Value.ref fa) := (mg_of (n := Str.ofString "law") KX (Top.g T) (by kernel_rfl)).symm.trans hmg
  km_lay T hmg ho hdd cd
  clear hmg
  wrow_args hpre hlay hrd hwl hlo
  all_goals (first | refine callC_kw (enter_call ?_) | refine enter_call ?_)
  w_top on
  kn_posts
  cases hfa
  rename_i xs _ _ _ _ _ _ _ lst items _ hL2 _ _ _ hI _ hc1 _
  have hlen : xs.length ≤ 63 := by
    have h1 : ¬ ((63 : Nat) : Int) < (xs.length : Int) := hc1
    omega
  refine c_law (w := w) (mean := ExcName.means s₀.heap) (mg := mg) (mb := mb) lst items xs hI hlen callerA (ghostOf s₁.heap [(83, 79)]) s₁ _ rfl rfl (by decide) (by decide) (ghost_K hT9 KX (by kernel_rfl)) (ghost_top hT9 T) (ghost_list hT9 hL2) (fun b o e => of_hideAll _ e) (Nat.le_of_eq (hideAll_size _ _)) ?_ ?_
  · intro p hp
    rw [List.mem_singleton.mp hp]
    exact ⟨(hT9 (83, 79) (.head _)).2, hideAll_none _ (.head _)⟩
  · rintro v P' L m h' tk' ⟨ps, rfl, rfl⟩ F N
    refine ⟨goodW_bool F hg (raisesW_false ?_) ?_, ⟨ps, (N _ (.head _)).1⟩, trivial⟩
    · wrow_none_raised
    · wrow_post)
end Mine
end
theorem PySem.Challenge.cw_ta0007_02_holds : PySem.Challenge.rw_ta0007_02.Holds := by
  exact Mine.law_holds
