import PyProof.Rows.All
import Wide.All
import OpenK.AllK
import Wide.FinOn
import PySem.Challenge.RW_pe0245_01
open PySem PySem.W PyProof.Rows
set_option Elab.async false
set_option maxRecDepth 100000
set_option linter.unusedVariables false
set_option linter.unusedSimpArgs false
namespace Mine
section
/-! texts as lists of signs -/
abbrev sg (x : Str) : List Nat := x.cps.toList
theorem sg_append (x y : Str) : sg (x ++ y) = sg x ++ sg y := by simp [sg, Str.cps_append]
theorem sg_ext {x y : Str} (h : sg x = sg y) : x = y := Str.ext' (by
  apply Array.ext'
  exact h)
theorem sg_length (x : Str) : (sg x).length = x.length := by simp [sg, Str.length]

def rep (c : Nat) (z : List Nat) (l : List Nat) : List Nat := l.flatMap fun k => if k = c then z else [k]
theorem rep_append (c : Nat) (z a b : List Nat) : rep c z (a ++ b) = rep c z a ++ rep c z b := by simp [rep]
theorem rep_free (c : Nat) (z : List Nat) : ∀ l : List Nat, c ∉ l → rep c z l = l
  | [], _ => rfl
  | k :: r, h => by
    have h1 : ¬ k = c := fun e => h (e ▸ List.mem_cons_self ..)
    have h2 : c ∉ r := fun m => h (List.mem_cons_of_mem _ m)
    have ih := rep_free c z r h2
    unfold rep at ih ⊢
    rw [List.flatMap_cons, if_neg h1, ih]
    rfl
theorem rep_join (c : Nat) (z : Str) : ∀ parts : List Str, (∀ p ∈ parts, c ∉ sg p) → rep c (sg z) (sg (Str.join ⟨#[c]⟩ parts)) = sg (Str.join z parts)
  | [], _ => rfl
  | [p], h => rep_free c _ _ (h p (List.mem_singleton.mpr rfl))
  | p :: q :: r, h => by
    have ih := rep_join c z (q :: r) fun a ha => h a (List.mem_cons_of_mem _ ha)
    show rep c (sg z) (sg (p ++ ⟨#[c]⟩ ++ Str.join ⟨#[c]⟩ (q :: r))) = sg (p ++ z ++ Str.join z (q :: r))
    rw [sg_append, sg_append, sg_append, sg_append, rep_append, rep_append, ih, rep_free c _ _ (h p (List.mem_cons_self ..))]
    have e : rep c (sg z) (sg ⟨#[c]⟩) = sg z := by simp [rep, sg]
    rw [e]
theorem sg_replace (x z : Str) (c : Nat) : sg (Txt.replace x ⟨#[c]⟩ z) = rep c (sg z) (sg x) := by
  rw [StrLaws.replace_one, ← rep_join c z _ (StrLaws.split_free x c), StrLaws.join_split]
theorem rep_length (c : Nat) (z : List Nat) (b : Nat) (hb : 1 ≤ b) (hz : z.length ≤ b) : ∀ l : List Nat, (rep c z l).length ≤ b * l.length
  | [] => by simp [rep]
  | k :: r => by
    have ih := rep_length c z b hb hz r
    unfold rep at ih ⊢
    rw [List.flatMap_cons, List.length_append, List.length_cons]
    have h1 : (if k = c then z else [k]).length ≤ b := by
      split
      · exact hz
      · exact hb
    have e : b * (r.length + 1) = b * r.length + b := Nat.mul_succ ..
    omega
theorem replace_length (x z : Str) (c b : Nat) (hb : 1 ≤ b) (hz : z.length ≤ b) : (Txt.replace x ⟨#[c]⟩ z).length ≤ b * x.length := by
  rw [← sg_length, ← sg_length, sg_replace]
  exact rep_length c _ b hb (by rw [sg_length]; exact hz) _
/-- no sign there, nothing turned -/
theorem replace_none (x z : Str) (c : Nat) (h : c ∉ sg x) : Txt.replace x ⟨#[c]⟩ z = x := sg_ext (by rw [sg_replace, rep_free c _ _ h])
/-! the five escapes, as the program makes them -/
def esc (way : Nat) (x : Str) : Str := match way with
  | 0 => Txt.replace (Txt.replace (Txt.replace x (Str.ofString "&") (Str.ofString "&amp;")) (Str.ofString "<") (Str.ofString "&lt;")) (Str.ofString ">") (Str.ofString "&gt;")
  | 1 => Txt.replace (Txt.replace (Txt.replace (Txt.replace (Txt.replace (Txt.replace (Txt.replace x (Str.ofString "&") (Str.ofString "&amp;")) (Str.ofString "<") (Str.ofString "&lt;")) (Str.ofString ">") (Str.ofString "&gt;")) (Str.ofString "\"") (Str.ofString "&quot;")) (Str.ofString "\r") (Str.ofString "&#13;")) (Str.ofString "\n") (Str.ofString "&#10;")) (Str.ofString "\t") (Str.ofString "&#09;")
  | 2 => Txt.replace (Txt.replace (Txt.replace x (Str.ofString "&") (Str.ofString "&amp;")) (Str.ofString ">") (Str.ofString "&gt;")) (Str.ofString "\"") (Str.ofString "&quot;")
  | 3 => Txt.replace (Txt.replace (Txt.replace (Txt.replace x (Str.ofString "&") (Str.ofString "&amp;")) (Str.ofString "<") (Str.ofString "&lt;")) (Str.ofString ">") (Str.ofString "&gt;")) (Str.ofString "\r") (Str.ofString "&#xD;")
  | _ => Txt.replace (Txt.replace (Txt.replace (Txt.replace (Txt.replace (Txt.replace x (Str.ofString "&") (Str.ofString "&amp;")) (Str.ofString "<") (Str.ofString "&lt;")) (Str.ofString "\"") (Str.ofString "&quot;")) (Str.ofString "\t") (Str.ofString "&#x9;")) (Str.ofString "\n") (Str.ofString "&#xA;")) (Str.ofString "\r") (Str.ofString "&#xD;")
/-! the law's own table of spellings -/
def spell (way c : Nat) : Str :=
  if c = 38 then [Str.ofString "&amp;", Str.ofString "&amp;", Str.ofString "&amp;", Str.ofString "&amp;", Str.ofString "&amp;"].getD way Str.empty else
  if c = 60 then [Str.ofString "&lt;", Str.ofString "&lt;", Str.ofString "<", Str.ofString "&lt;", Str.ofString "&lt;"].getD way Str.empty else
  if c = 62 then [Str.ofString "&gt;", Str.ofString "&gt;", Str.ofString "&gt;", Str.ofString "&gt;", Str.ofString ">"].getD way Str.empty else
  if c = 34 then [Str.ofString "\"", Str.ofString "&quot;", Str.ofString "&quot;", Str.ofString "\"", Str.ofString "&quot;"].getD way Str.empty else
  if c = 9 then [Str.ofString "\t", Str.ofString "&#09;", Str.ofString "\t", Str.ofString "\t", Str.ofString "&#x9;"].getD way Str.empty else
  if c = 10 then [Str.ofString "\n", Str.ofString "&#10;", Str.ofString "\n", Str.ofString "\n", Str.ofString "&#xA;"].getD way Str.empty else
  if c = 13 then [Str.ofString "\r", Str.ofString "&#13;", Str.ofString "\r", Str.ofString "&#xD;", Str.ofString "&#xD;"].getD way Str.empty else
  ⟨#[c]⟩
def row (way : Nat) (x : Str) : List Str := (sg x).map (spell way)
abbrev quoted (v : Str) : Str := Txt.replace (Txt.replace v (Str.ofString "\\") (Str.ofString "\\\\")) (Str.ofString "\"") (Str.ofString "\\\"")
end
section
open LCg LCp PyProof.Rows.LCt

/-- a goal that the walk leaves alone -/
def Stop (P : Prop) : Prop := P
theorem Stop.out {P : Prop} (h : Stop P) : P := h
theorem Stop.mk {P : Prop} (h : P) : Stop P := h

abbrev tupObj (vs : List Value) (k : Nat) : Obj := { cls := .type "tuple", data := .seq vs.toArray k }

/-- a list's items are pairs of values, laid as tuples in the ledger -/
inductive PairsAt (news : List (Addr × Obj)) : List Value → List (Value × Value) → Prop
  | nil : PairsAt news [] []
  | cons {t k v ps vs} (h : (t, tupObj [v.1, v.2] k) ∈ news) (r : PairsAt news vs ps) : PairsAt news (.ref t :: vs) (v :: ps)
theorem PairsAt.length {news : List (Addr × Obj)} {vs : List Value} {ps : List (Value × Value)} (h : PairsAt news vs ps) : vs.length = ps.length := by
  induction h with
  | nil => rfl
  | cons _ _ ih => simp [ih]
theorem PairsAt.get {news : List (Addr × Obj)} {vs : List Value} {ps : List (Value × Value)} (h : PairsAt news vs ps) : ∀ (i : Nat) (v : Value), vs[i]? = some v → ∃ t k p, v = .ref t ∧ ps[i]? = some p ∧ (t, tupObj [p.1, p.2] k) ∈ news := by
  induction h with
  | nil => intro i v h; simp at h
  | cons hm _ ih =>
    intro i v h
    cases i with
    | zero => simp at h; subst h; exact ⟨_, _, _, rfl, rfl, hm⟩
    | succ i => simp at h; simpa using ih i v h
theorem PairsAt.mono {news news' : List (Addr × Obj)} (hs : ∀ t k (u : List Value), (t, tupObj u k) ∈ news → (t, tupObj u k) ∈ news') {vs : List Value} {ps : List (Value × Value)} (h : PairsAt news vs ps) : PairsAt news' vs ps := by
  induction h with
  | nil => exact .nil
  | cons hm _ ih => exact .cons (hs _ _ _ hm) ih
theorem PairsAt.append {news : List (Addr × Obj)} {vs ws : List Value} {ps qs : List (Value × Value)} (h : PairsAt news vs ps) (g : PairsAt news ws qs) : PairsAt news (vs ++ ws) (ps ++ qs) := by
  induction h with
  | nil => exact g
  | cons hm _ ih => exact .cons hm ih

/-- the state of a call's heap behind a quiet step -/
def Quiet (h₀ : Heap) (L : Addr) (m : Str → Option Value) (news : List (Addr × Obj)) (s s' : Shared) : Prop :=
  ∃ h' tk, s' = { s with heap := h', toks := tk } ∧ Fr h₀ L h' m ∧ News h₀ L h' news
theorem Quiet.mk {h₀ h' : Heap} {L : Addr} {m : Str → Option Value} {news news' : List (Addr × Obj)} {s : Shared} {tk : Nat} (F : Fr h₀ L h' m) (N : News h₀ L h' news') (sub : ∀ p ∈ news, p ∈ news') : Quiet h₀ L m news s { s with heap := h', toks := tk } :=
  ⟨h', tk, rfl, F, fun p hp => N p (sub p hp)⟩

/-- the items whose flag is set -/
def pick {α : Type} (vs : List α) (bs : List Bool) : List α := ((vs.zip bs).filter (·.2)).map (·.1)
theorem pick_snoc {α : Type} (vs : List α) (bs : List Bool) (v : α) (b : Bool) (h : vs.length = bs.length) : pick (vs ++ [v]) (bs ++ [b]) = pick vs bs ++ (if b = true then [v] else []) := by
  unfold pick
  rw [List.zip_append h, List.filter_append, List.map_append]
  cases b <;> simp
theorem pick_length {α : Type} (vs : List α) (bs : List Bool) : (pick vs bs).length ≤ vs.length := by
  unfold pick
  rw [List.length_map]
  refine Nat.le_trans (List.length_filter_le _ _) ?_
  rw [List.length_zip]
  exact Nat.min_le_left _ _
theorem off1_mem {D : Addr} : ∀ {l : List (Addr × Obj)}, Off1 D l → ∀ p ∈ l, p.1 ≠ D
  | [], _, _, h => nomatch h
  | _ :: _, x, p, h => by
    rcases List.mem_cons.mp h with rfl | h
    · exact x.1
    · exact off1_mem x.2 p h
theorem off1_of {D : Addr} : ∀ {l : List (Addr × Obj)}, (∀ p ∈ l, p.1 ≠ D) → Off1 D l
  | [], _ => trivial
  | q :: _, x => ⟨x q List.mem_cons_self, off1_of fun p h => x p (List.mem_cons_of_mem _ h)⟩
theorem newsSub {h₀ h : Heap} {L : Addr} {big small : List (Addr × Obj)} (N : News h₀ L h big) (hs : ∀ p ∈ small, p ∈ big) : News h₀ L h small := fun p hp => N p (hs p hp)
theorem pairedStrs {f : Nat → Str} {l : List Nat} {ys : List Value} (h : Paired (fun c y => ∃ t, y = Value.str (f c) t) l ys) : StrsAre ys (l.map f) := by
  induction h with
  | nil => exact .nil
  | cons h r ih => obtain ⟨t, rfl⟩ := h; exact .cons _ _ ih
theorem pick_map {α : Type} (q : α → Bool) : ∀ vs : List α, pick vs (vs.map q) = vs.filter q
  | [] => rfl
  | v :: vs => by
    have ih := pick_map q vs
    unfold pick at ih ⊢
    simp only [List.map_cons, List.zip_cons_cons, List.filter_cons]
    cases q v <;> simp [ih]
theorem pick_cons {α : Type} (v : α) (b : Bool) (vs : List α) (bs : List Bool) : pick (v :: vs) (b :: bs) = if b = true then v :: pick vs bs else pick vs bs := by
  unfold pick
  cases b <;> simp
theorem PairsAt.pick {news : List (Addr × Obj)} {vs : List Value} {ps : List (Value × Value)} (h : PairsAt news vs ps) : ∀ bs : List Bool, PairsAt news (pick vs bs) (pick ps bs) := by
  induction h with
  | nil => intro bs; exact .nil
  | cons hm hr ih =>
    intro bs
    cases bs with
    | nil => exact .nil
    | cons b bs =>
      rw [pick_cons, pick_cons]
      cases b
      · exact ih bs
      · exact .cons hm (ih bs)

section
variable {prog : Program} {w : World} {A : Around} {E : Value → Shared → Prop} {s : Shared} {h₀ : Heap} {L : Addr} {m : Str → Option Value} {env : Env} {elt ct : Expr} {x x₂ : Str} {scope : Scope} {cl : List (Str × Addr)} {news : List (Addr × Obj)} {S : List (Addr × Obj) → Prop} {Fin : List Value → List (Addr × Obj) → Prop}

theorem restP {vs : List Value} {ps : List (Value × Value)} (f : Value × Value → Value) (hS : S news) (hp : PairsAt news vs ps)
    (step : ∀ p (ys : List Value) I oI C oC D m₂ h tk (E' : Value → Shared → Prop), p ∈ ps → NsObj oC m₂ → m₂ x = some p.1 → m₂ x₂ = some p.2 → Fr h₀ L h m → News h₀ L h ((I, oI) :: (C, oC) :: (D, lst ys) :: news) →
      wpAny (model prog w) A (eval elt (compEnvC scope cl C env)) (fun y s' => y = f p ∧ Quiet h₀ L m ((I, oI) :: (C, oC) :: (D, lst ys) :: news) { s with heap := h, toks := tk } s') E' { s with heap := h, toks := tk })
    (fin : Fin (ps.map f) news) : CompRestP prog w A h₀ L m env elt x x₂ scope cl s S (fun i v => vs.toArray[i]? = some v) Fin vs.toArray.size 0 [] news := by
  have key : ∀ k i (ys : List Value), i + k = vs.length → ys = (ps.take i).map f → CompRestP prog w A h₀ L m env elt x x₂ scope cl s S (fun i v => vs.toArray[i]? = some v) Fin k i ys news := by
    intro k
    induction k with
    | zero =>
      intro i ys hi hy
      refine CompRestP.zero ?_
      rw [hy, List.take_of_length_le (by rw [← hp.length]; omega)]
      exact fin
    | succ k ih =>
      intro i ys hi hy
      refine CompRestP.succ fun v hv => ?_
      have hv' : vs[i]? = some v := by simpa using hv
      obtain ⟨t, k', p, rfl, hp', hm⟩ := hp.get i v hv'
      refine ⟨t, _, p.1, p.2, k', rfl, hm, rfl, rfl, fun I oI C oC D m₂ h tk E' ho h1 h2 F N off ne => ?_⟩
      refine wpAny_mono (step p ys I oI C oC D m₂ h tk E' (List.mem_of_getElem? hp') ho h1 h2 F N) (fun y s' q => ?_) fun _ _ q => q
      obtain ⟨rfl, h', tk', rfl, F', N'⟩ := q
      refine ⟨h', tk', news, rfl, F', N', off, hS, ih (i + 1) _ (by omega) ?_⟩
      rw [hy, List.take_add_one, hp']
      simp
  exact key vs.toArray.size 0 [] (by simp) (by simp)

theorem restU {vs : List Value} (R : Value → Value → Prop) (hS : S news)
    (step : ∀ v (ys : List Value) I oI C oC D m₂ h tk (E' : Value → Shared → Prop), v ∈ vs → NsObj oC m₂ → m₂ x = some v → Fr h₀ L h m → News h₀ L h ((I, oI) :: (C, oC) :: (D, lst ys) :: news) →
      wpAny (model prog w) A (eval elt (compEnvC scope cl C env)) (fun y s' => R v y ∧ Quiet h₀ L m ((I, oI) :: (C, oC) :: (D, lst ys) :: news) { s with heap := h, toks := tk } s') E' { s with heap := h, toks := tk })
    (fin : ∀ ys, Paired R vs ys → Fin ys news) : CompRest prog w A h₀ L m env elt x scope cl s S (fun i v => vs.toArray[i]? = some v) Fin vs.toArray.size 0 [] news := by
  have key : ∀ k i (ys : List Value), i + k = vs.length → Paired R (vs.take i) ys → CompRest prog w A h₀ L m env elt x scope cl s S (fun i v => vs.toArray[i]? = some v) Fin k i ys news := by
    intro k
    induction k with
    | zero =>
      intro i ys hi hy
      refine CompRest.zero ?_
      rw [List.take_of_length_le (by omega)] at hy
      exact fin ys hy
    | succ k ih =>
      intro i ys hi hy
      refine CompRest.succ fun v I oI C oC D m₂ h tk E' hv ho h1 F N off ne => ?_
      have hv' : vs[i]? = some v := by simpa using hv
      refine wpAny_mono (step v ys I oI C oC D m₂ h tk E' (List.mem_of_getElem? hv') ho h1 F N) (fun y s' q => ?_) fun _ _ q => q
      obtain ⟨hr, h', tk', rfl, F', N'⟩ := q
      refine ⟨h', tk', news, rfl, F', N', off, hS, ih (i + 1) _ (by omega) ?_⟩
      rw [List.take_add_one, hv']
      exact Paired.snoc hy hr
  exact key vs.toArray.size 0 [] (by simp) (by simpa using Paired.nil)

theorem restT {vs : List Value} {bs : List Bool} (hb : bs.length = vs.length) (hS : S news)
    (step : ∀ (i : Nat) (v : Value) (b : Bool) (ys : List Value) I oI C oC D m₂ h tk (E' : Value → Shared → Prop), vs[i]? = some v → bs[i]? = some b → NsObj oC m₂ → m₂ x = some v → Fr h₀ L h m → News h₀ L h ((I, oI) :: (C, oC) :: (D, lst ys) :: news) →
      wpAny (model prog w) A (isTrue ct (compEnvC scope cl C env) (eval ct (compEnvC scope cl C env))) (fun ok s' => ok = b ∧ Quiet h₀ L m ((I, oI) :: (C, oC) :: (D, lst ys) :: news) { s with heap := h, toks := tk } s') E' { s with heap := h, toks := tk })
    (stepE : ∀ v (ys : List Value) I oI C oC D m₂ h tk (E' : Value → Shared → Prop), v ∈ vs → NsObj oC m₂ → m₂ x = some v → Fr h₀ L h m → News h₀ L h ((I, oI) :: (C, oC) :: (D, lst ys) :: news) →
      wpAny (model prog w) A (eval elt (compEnvC scope cl C env)) (fun y s' => y = v ∧ Quiet h₀ L m ((I, oI) :: (C, oC) :: (D, lst ys) :: news) { s with heap := h, toks := tk } s') E' { s with heap := h, toks := tk })
    (fin : Fin (pick vs bs) news) : CompRestT prog w A h₀ L m env ct elt x scope cl s S (fun i v => vs.toArray[i]? = some v) Fin vs.toArray.size 0 [] news := by
  have key : ∀ k i (ys : List Value), i + k = vs.length → ys = pick (vs.take i) (bs.take i) → CompRestT prog w A h₀ L m env ct elt x scope cl s S (fun i v => vs.toArray[i]? = some v) Fin k i ys news := by
    intro k
    induction k with
    | zero =>
      intro i ys hi hy
      refine CompRestT.zero ?_
      rw [hy, List.take_of_length_le (by omega), List.take_of_length_le (by omega)]
      exact fin
    | succ k ih =>
      intro i ys hi hy
      refine CompRestT.succ fun v I oI C oC D m₂ h tk E' hv ho h1 F N off ne => ?_
      have hv' : vs[i]? = some v := by simpa using hv
      have hlt : i < bs.length := by omega
      have hb' : bs[i]? = some bs[i] := List.getElem?_eq_getElem hlt
      have hmem := List.mem_of_getElem? hv'
      refine wpAny_mono (step i v bs[i] ys I oI C oC D m₂ h tk E' hv' hb' ho h1 F N) (fun ok s' q => ?_) fun _ _ q => q
      obtain ⟨rfl, h', tk', rfl, F', N'⟩ := q
      have e : pick (vs.take (i + 1)) (bs.take (i + 1)) = ys ++ (if bs[i] = true then [v] else []) := by
        rw [List.take_add_one, List.take_add_one, hv', hb', hy]
        exact pick_snoc _ _ v bs[i] (by rw [List.length_take, List.length_take]; omega)
      cases hp : bs[i] with
      | true =>
        rw [if_pos rfl]
        refine wpAny_mono (stepE v ys I oI C oC D m₂ h' tk' E' hmem ho h1 F' N') (fun y s' q => ?_) fun _ _ q => q
        obtain ⟨rfl, h'', tk'', rfl, F'', N''⟩ := q
        exact ⟨h'', tk'', news, rfl, F'', N'', off, hS, ih (i + 1) _ (by omega) (by rw [e, hp]; rfl)⟩
      | false =>
        rw [if_neg Bool.false_ne_true]
        exact ⟨h', tk', news, rfl, F', N', off, hS, ih (i + 1) _ (by omega) (by rw [e, hp]; simp)⟩
  exact key vs.toArray.size 0 [] (by simp) (by simp [pick])
end

/-! a comprehension over a text's signs -/
section
variable {prog : Program} {w : World} {A : Around} {E : Value → Shared → Prop} {s : Shared} {h₀ : Heap} {L : Addr} {m : Str → Option Value} {env : Env} {elt : Expr} {sx : Str} {scope : Scope} {cl : List (Str × Addr)} {news : List (Addr × Obj)}

theorem restS {Fin : List Value → List (Addr × Obj) → Prop} {x : Str} (R : Nat → Value → Prop)
    (step : ∀ c t (ys : List Value) I oI C oC D m₂ h tk (E' : Value → Shared → Prop), c ∈ sg x → NsObj oC m₂ → m₂ sx = some (.str ⟨#[c]⟩ t) → Fr h₀ L h m → News h₀ L h ((I, oI) :: (C, oC) :: (D, lst ys) :: news) →
      wpAny (model prog w) A (eval elt (compEnvC scope cl C env)) (fun y s' => R c y ∧ Quiet h₀ L m ((I, oI) :: (C, oC) :: (D, lst ys) :: news) { s with heap := h, toks := tk } s') E' { s with heap := h, toks := tk })
    (fin : ∀ ys, Paired R (sg x) ys → Fin ys news) : CompRest prog w A h₀ L m env elt sx scope cl s (fun _ => True) (SignAt x) Fin x.cps.size 0 [] news := by
  have key : ∀ k i (ys : List Value), i + k = (sg x).length → Paired R ((sg x).take i) ys → CompRest prog w A h₀ L m env elt sx scope cl s (fun _ => True) (SignAt x) Fin k i ys news := by
    intro k
    induction k with
    | zero =>
      intro i ys hi hy
      refine CompRest.zero ?_
      rw [List.take_of_length_le (by omega)] at hy
      exact fin ys hy
    | succ k ih =>
      intro i ys hi hy
      refine CompRest.succ fun v I oI C oC D m₂ h tk E' hv ho h1 F N off ne => ?_
      obtain ⟨c, t, hc, rfl⟩ := hv
      have hc' : (sg x)[i]? = some c := by simpa [sg] using hc
      refine wpAny_mono (step c t ys I oI C oC D m₂ h tk E' (List.mem_of_getElem? hc') ho h1 F N) (fun y s' q => ?_) fun _ _ q => q
      obtain ⟨hr, h', tk', rfl, F', N'⟩ := q
      refine ⟨h', tk', news, rfl, F', N', off, trivial, ih (i + 1) _ (by omega) ?_⟩
      rw [List.take_add_one, hc']
      exact Paired.snoc hy hr
  exact key x.cps.size 0 [] (by simp [sg]) (by simpa using Paired.nil)

def SrcS (prog : Program) (w : World) (A : Around) (h₀ : Heap) (L : Addr) (m : Str → Option Value) (env : Env) (elt : Expr) (sx : Str) (scope : Scope) (cl : List (Str × Addr)) (Q : Value → Shared → Prop) (xv : Value) (s₁ : Shared) : Prop :=
  ∃ x t news, xv = .str x t ∧ A.handled = none ∧ Fr h₀ L s₁.heap m ∧ News h₀ L s₁.heap news ∧ x.cps.size ≤ sizeLine ∧
      ∀ h : Heap, CompRest prog w A h₀ L m env elt sx scope cl { s₁ with heap := h } (fun _ => True) (SignAt x) (FinE h₀ L m { s₁ with heap := h } Q) x.cps.size 0 [] news
theorem SrcS.mk {Q : Value → Shared → Prop} {x : Str} {t : Tok} {s₁ : Shared} (hh : A.handled = none) (F : Fr h₀ L s₁.heap m) (N : News h₀ L s₁.heap news) (hz : x.cps.size ≤ sizeLine)
    (R : ∀ h : Heap, CompRest prog w A h₀ L m env elt sx scope cl { s₁ with heap := h } (fun _ => True) (SignAt x) (FinE h₀ L m { s₁ with heap := h } Q) x.cps.size 0 [] news) : SrcS prog w A h₀ L m env elt sx scope cl Q (.str x t) s₁ :=
  ⟨x, t, news, rfl, hh, F, N, hz, R⟩
theorem ListComp_S {iter : Expr} {px pos : Pos} {Q : Value → Shared → Prop} (_ : Fr h₀ L s.heap m)
    (hclos : closureFor scope env = pure cl) (hcell : ∀ y ∈ scope.names, y.2 ≠ .cell) (hkind : scope.kind = .function)
    (hnames : ∀ y ∈ scope.names, y.2 = .local → scope.names.lookup y.1 = some .local) (hx : scope.names.lookup sx = some .local)
    (h : wpAny (model prog w) A (eval iter env) (SrcS prog w A h₀ L m env elt sx scope cl Q) E s)
    (hs : ∀ x, foldedSetIterable iter env x = pure x := by intro _; rfl) :
    wpAny (model prog w) A (eval (.ListComp elt [⟨.Name sx px, iter, [], 0⟩] scope pos) env) Q E s := by
  rw [eval_ListComp]
  refine wpAny_comprehension_free (use := none) rfl hs hclos hkind hnames (wpAny_mono h (fun xv s₁ h₁ => ?_) fun _ _ e => e)
  obtain ⟨x, t, news, rfl, hh, F, N, hsz, R⟩ := h₁
  have go : ∀ (T : String) (o : Obj), o.isFreed = false → (∀ A' : Around, A'.handled = none → Walks prog w A' s₁.heap.objs.size [s₁.heap.objs.size] [s₁.heap.objs.size] x.cps.size (SignAt x) (fun i h => h.IsStrIter s₁.heap.objs.size T x t i)) → (s₁.heap.push o).IsStrIter s₁.heap.objs.size T x t 0 →
      wpAny (model prog w) A (newList []) (fun acc s₃ => wpAny (model prog w) A (newFunctionEnv scope env.globals cl [] env.qual none .none (some env)) (fun cenv s₄ =>
        codeAny (model prog w) A (.compStart (.ListComp elt [⟨.Name sx px, iter, [], 0⟩] scope pos) 0 (.ref s₁.heap.objs.size) acc { cenv with scope := relabel scope env }) (compPost (model prog w) A E none Q acc cenv.locals) s₄) E s₃) E { s₁ with heap := s₁.heap.push o } := by
    intro T o hof W hst
    have up : ∀ b ob, s₁.heap.get? b = some ob → (s₁.heap.push o).get? b = some ob := fun b ob e => Heap.get?_push_of_some _ e
    refine block_U (S := fun _ => True) (W A hh) hsz (fun i h st => by obtain ⟨o, e, _⟩ := st; exact ⟨o, e⟩) (fun i h h' o nw st e1 e2 _ _ _ => by
        obtain ⟨o2, e3, r⟩ := st
        rw [e1] at e3
        cases e3
        exact ⟨o, e2, r⟩) hcell hkind hx hst (fun b hb => ?_) (F.keeps up) (N.grown up) (Nat.ne_of_lt F.ns.lt) (next_is_new F) (fun p hp => Nat.ne_of_lt (Heap.lt_size (N p hp).1)) trivial (R _) ?_
    · rw [List.mem_singleton.mp hb]
      show s₁.heap.objs.size < (s₁.heap.push _).objs.size
      rw [Heap.size_push]; exact Nat.lt_succ_self _
    · intro D C h tk m' ys news' F' N' o1 hn hC₀ hD₀ hCL hDL hCD offC fin
      refine ⟨m', hn, fun h'' hs'' => fin D h'' tk (F'.change hs'' hCL hC₀) (fun p hp => ?_) o1⟩
      refine ⟨hs''.extBut _ _ ?_ (N' p hp).1, (N' p hp).2⟩
      rcases List.mem_cons.mp hp with rfl | hp
      · exact Ne.symm hCD
      · exact offC p hp
  cases ha : x.cps.all (· < 128)
  · exact wpAny_pyIter_wide ha (go _ _ rfl (fun A' hA => Walks.strWide hA _ x t) ⟨_, Heap.get?_push_size _ rfl, rfl, rfl⟩)
  · exact wpAny_pyIter_ascii ha (go _ _ rfl (fun A' hA => Walks.strAscii hA _ x t) ⟨_, Heap.get?_push_size _ rfl, rfl, rfl⟩)
end

/-! a for over a list of pairs, that stores two names and may return -/
section
variable {prog : Program} {w : World} {A : Around} {E : Value → Shared → Prop} {s : Shared} {h₀ : Heap} {env : Env} {target : Expr} {body : List Stmt} {Q : Flow → Shared → Prop} {news : List (Addr × Obj)} {m₀ : Str → Option Value} {keep : List (Addr × Obj)} {I : Addr}

def two (kx vx : Str) (a b : Option Value) (m₀ : Str → Option Value) : Str → Option Value := fun y => if y = vx then a else if y = kx then b else m₀ y

def PairPost (h₀ : Heap) (L : Addr) (kx vx : Str) (m₀ : Str → Option Value) (its news : List (Addr × Obj)) (s : Shared) (hit : Bool) (p : Value × Value) (f : Flow) (s₃ : Shared) : Prop :=
  (hit = true ∧ f = .ret p.2 ∧ ∃ h' tk' m', s₃ = { s with heap := h', toks := tk' } ∧ Fr h₀ L h' m' ∧ News h₀ L h' news) ∨
  (hit = false ∧ f = .next ∧ ∃ h' tk' a b, s₃ = { s with heap := h', toks := tk' } ∧ Fr h₀ L h' (two kx vx a b m₀) ∧ News h₀ L h' (its ++ news))

theorem pairPost_ret {L : Addr} {kx vx : Str} {its : List (Addr × Obj)} {hit : Bool} {p : Value × Value} {h' : Heap} {tk : Nat} {m' : Str → Option Value} (h : hit = true) (F : Fr h₀ L h' m') (N : News h₀ L h' (its ++ news)) :
    PairPost h₀ L kx vx m₀ its news s hit p (.ret p.2) { s with heap := h', toks := tk } := .inl ⟨h, rfl, h', tk, m', rfl, F, fun q hq => N q (List.mem_append_right _ hq)⟩
theorem pairPost_next {L : Addr} {kx vx : Str} {its : List (Addr × Obj)} {hit : Bool} {p : Value × Value} {h' : Heap} {tk : Nat} {a b a' b' : Option Value} (h : hit = false) (F : Fr h₀ L h' (fun y => if y = vx then a else if y = kx then b else if y = vx then a' else if y = kx then b' else m₀ y)) (N : News h₀ L h' (its ++ news)) :
    PairPost h₀ L kx vx m₀ its news s hit p .next { s with heap := h', toks := tk } := by
  refine .inr ⟨h, rfl, h', tk, a, b, rfl, ?_, N⟩
  have e : (fun y => if y = vx then a else if y = kx then b else if y = vx then a' else if y = kx then b' else m₀ y) = two kx vx a b m₀ := by
    funext y
    unfold two
    by_cases h1 : y = vx
    · simp [h1]
    · by_cases h2 : y = kx
      · simp [h1, h2]
      · simp [h1, h2]
  rw [← e]
  exact F

theorem turns_pairs (kx vx : Str) (hit : Value × Value → Bool) {vs : List Value} {ps : List (Value × Value)} (hp : PairsAt news vs ps) (hkeep : SubL keep news) (off : ∀ p ∈ news, p.1 < I)
    (turn : ∀ p t k a b h tk o, p ∈ ps → (t, tupObj [p.1, p.2] k) ∈ news → o.cls = .type "list_iterator" → Fr h₀ env.locals h (two kx vx a b m₀) → News h₀ env.locals h ((I, o) :: news) →
      wpAny (model prog w) A (assign target env (.ref t)) (fun _ s₂ => wpAny (model prog w) A (execs body env) (PairPost h₀ env.locals kx vx m₀ [(I, o)] news { s with heap := h, toks := tk } (hit p) p) E s₂) E { s with heap := h, toks := tk })
    (hret : ∀ p h tk m', ps.find? hit = some p → Fr h₀ env.locals h m' → News h₀ env.locals h news → Q (.ret p.2) { s with heap := h, toks := tk })
    (hnone : ps.find? hit = none → ∀ a b h tk, Fr h₀ env.locals h (two kx vx a b m₀) → News h₀ env.locals h news → Q .next { s with heap := h, toks := tk }) :
    ∀ a b, ItemsRest prog w A E h₀ env target body Q s [(I, "list_iterator")] keep (vs.map .val) (two kx vx a b m₀) news := by
  induction hp with
  | nil =>
    intro a b
    exact ItemsRest.zero fun h tk F N => hnone rfl a b h tk F N
  | @cons t k v ps vs hm hr ih =>
    intro a b
    refine ItemsRest.val fun h tk F => AllObj.cons fun o ho => AllObj.nil fun N => ?_
    refine wpAny_mono (turn v t k a b h tk o List.mem_cons_self hm ho F N) (fun _ s₂ q => wpAny_mono q (fun f s₃ r => ?_) fun _ _ e => e) fun _ _ e => e
    rcases r with ⟨h1, rfl, h', tk', m', rfl, F', N'⟩ | ⟨h1, rfl, h', tk', a', b', rfl, F', N'⟩
    · exact hret v h' tk' m' (by simp [List.find?, h1]) F' N'
    · refine ⟨h', tk', _, news, rfl, F', N', fun p hp q hq => ?_, hkeep, ih (fun p t k a b h tk o hpm => turn p t k a b h tk o (List.mem_cons_of_mem _ hpm)) (fun p h tk m' hf => hret p h tk m' (by simp [List.find?, h1, hf])) (fun hf => hnone (by simp [List.find?, h1, hf])) a' b'⟩
      rw [List.mem_singleton.mp hq]
      exact Nat.ne_of_lt (off p hp)
theorem two_self {kx vx : Str} {m₀ : Str → Option Value} (hk : m₀ kx = none) (hv : m₀ vx = none) : two kx vx none none m₀ = m₀ := by
  funext y
  unfold two
  by_cases h1 : y = vx
  · rw [if_pos h1, h1, hv]
  · rw [if_neg h1]
    by_cases h2 : y = kx
    · rw [if_pos h2, h2, hk]
    · rw [if_neg h2]
theorem turns_pairs0 (kx vx : Str) (hit : Value × Value → Bool) {vs : List Value} {ps : List (Value × Value)} (hk : m₀ kx = none) (hv : m₀ vx = none) (hp : PairsAt news vs ps) (hkeep : SubL keep news) (off : ∀ p ∈ news, p.1 < I)
    (turn : ∀ p t k a b h tk o, p ∈ ps → (t, tupObj [p.1, p.2] k) ∈ news → o.cls = .type "list_iterator" → Fr h₀ env.locals h (two kx vx a b m₀) → News h₀ env.locals h ((I, o) :: news) →
      wpAny (model prog w) A (assign target env (.ref t)) (fun _ s₂ => wpAny (model prog w) A (execs body env) (PairPost h₀ env.locals kx vx m₀ [(I, o)] news { s with heap := h, toks := tk } (hit p) p) E s₂) E { s with heap := h, toks := tk })
    (hret : ∀ p h tk m', ps.find? hit = some p → Fr h₀ env.locals h m' → News h₀ env.locals h news → Q (.ret p.2) { s with heap := h, toks := tk })
    (hnone : ps.find? hit = none → ∀ a b h tk, Fr h₀ env.locals h (two kx vx a b m₀) → News h₀ env.locals h news → Q .next { s with heap := h, toks := tk }) :
    ItemsRest prog w A E h₀ env target body Q s [(I, "list_iterator")] keep (vs.map .val) m₀ news := by
  have h := turns_pairs (s := s) (target := target) (body := body) (Q := Q) kx vx hit hp hkeep off turn hret hnone none none
  rw [two_self hk hv] at h
  exact h
theorem two_two {kx vx : Str} {a b a' b' : Option Value} {m₀ : Str → Option Value} : two kx vx a' b' (two kx vx a b m₀) = two kx vx a' b' m₀ := by
  funext y
  unfold two
  by_cases h1 : y = vx
  · simp [h1]
  · by_cases h2 : y = kx
    · simp [h1, h2]
    · simp [h1, h2]
end

theorem ne_of_all_lt {news : List (Addr × Obj)} {d L : Nat} (h : ∀ p ∈ news, @LT.lt Nat _ p.1 L) (hd : L ≤ d) : ∀ p ∈ news, p.1 ≠ d := fun p hp => Nat.ne_of_lt (Nat.lt_of_lt_of_le (h p hp) hd)

/-- an exception leaves a frame of any kind (with cells too) -/
theorem leave_onX {M : Model} {A : Around} {E : Value → Shared → Prop} {s' : Shared} {base g g₂ : Heap} {outer : List Env} {env : Env} {L e t : Addr} {m : Str → Option Value} {Q : Unit → Shared → Prop} {news : List (Addr × Obj)} {cls : Value} {vs : List Value}
    (hA : A.frames = some outer) (hf : env.frame = some L) (F : Fr g L g₂ m) (R : RaisedS base g₂ (env :: outer) e cls t vs news s'.heap) (hsm : g₂.UpToSlots s'.heap)
    (hQ : ∀ h', RaisedS base g outer e cls t vs news h' → g.UpToSlots h' → Q () { s' with heap := h' }) :
    wpAny M (A.deeper env) (leaving env (.ref e)) Q E s' := by
  obtain ⟨⟨B, hB, hBG, hl, hfl, hnew⟩, htup⟩ := R
  refine wpAny_leaves_onW (Around.frames_deeper hA) hf hfl fun h' x1 x2 => hQ h' ⟨⟨B, hB, fun b o q nm => hBG b o (F.keep b o q) fun hm => ?_, fun q hq => ⟨(hl q hq).1, kts_none F.keep (hl q hq).2.1, (hl q hq).2.2⟩, x1, hnew⟩, htup.of_slots x2⟩ ((Heap.UpToSlots.of_keeps F.keep).trans (hsm.trans x2))
  rw [List.filterMap_cons, hf] at hm
  rcases List.mem_cons.mp hm with z | z
  · rw [z, kts_self F] at q
    cases q
  · exact nm z

theorem RaisedS.sub {base G : Heap} {l : List Env} {e t : Addr} {cls : Value} {vs : List Value} {news news' : List (Addr × Obj)} {h : Heap} (R : RaisedS base G l e cls t vs news' h) (hs : ∀ p ∈ news, p ∈ news') : RaisedS base G l e cls t vs news h := by
  obtain ⟨⟨B, hB, hBG, hl, hfl, hnew⟩, htup⟩ := R
  exact ⟨⟨B, hB, hBG, fun q hq => hl q (hs q hq), hfl, hnew⟩, htup⟩

/-! the ledger with one object turned -/
def updL (news : List (Addr × Obj)) (l : Addr) (o : Obj) : List (Addr × Obj) := news.map fun p => if p.1 = l then (l, o) else p
theorem updL_self {news : List (Addr × Obj)} {l : Addr} {o o' : Obj} (h : (l, o) ∈ news) : (l, o') ∈ updL news l o' := List.mem_map.mpr ⟨_, h, by simp⟩
theorem updL_other {news : List (Addr × Obj)} {l a : Addr} {o o' : Obj} (h : (a, o) ∈ news) (ne : a ≠ l) : (a, o) ∈ updL news l o' := List.mem_map.mpr ⟨_, h, by simp [ne]⟩
theorem News.obj_eq {h₀ h : Heap} {L a : Addr} {o o' : Obj} {news : List (Addr × Obj)} (N : News h₀ L h news) (h1 : (a, o) ∈ news) (h2 : (a, o') ∈ news) : o = o' := by
  have e1 := (N _ h1).1
  have e2 := (N _ h2).1
  dsimp only at e1 e2
  rw [e1] at e2
  exact Option.some.inj e2
theorem News.upd {h₀ h : Heap} {L l : Addr} {m : Str → Option Value} {o : Obj} {f : Obj → Obj} {news : List (Addr × Obj)} (F : Fr h₀ L h m) (N : News h₀ L h news) (hl : (l, o) ∈ news) (hf : (f o).isFreed = false) :
    Fr h₀ L (h.update l f) m ∧ News h₀ L (h.update l f) (updL news l (f o)) := by
  have D := N _ hl
  obtain ⟨oL, es, ep, hL, r⟩ := F.ns
  refine ⟨⟨⟨oL, es, ep, (Heap.get?_update_ne _ _ _ _ (Ne.symm D.2.1)).trans hL, r⟩, fun b x q => (Heap.get?_update_ne _ _ _ _ fun z => ?_).trans (F.keep b x q), F.above⟩, fun p hp => ?_⟩
  · have := D.2.2; rw [← z, q] at this; cases this
  · obtain ⟨q, hq, rfl⟩ := List.mem_map.mp hp
    by_cases e : q.1 = l
    · rw [if_pos e]
      exact ⟨Heap.get?_update_self _ D.1 hf, D.2⟩
    · rw [if_neg e]
      have P := N q hq
      exact ⟨(Heap.get?_update_ne _ _ _ _ e).trans P.1, P.2⟩

theorem mapSeq_congr {o : Obj} {xs : Array Value} {n : Nat} {f g : Array Value → Array Value} (hd : o.data = .seq xs n) (h : f xs = g xs) : Obj.mapSeq f o = Obj.mapSeq g o := by
  obtain ⟨c, d, dt, sl⟩ := o
  simp only at hd
  subst hd
  simp only [Obj.mapSeq, h]
/-! «l[:] = D» for two lists of the ledger -/
theorem setItem_slice_all {prog : Program} {w : World} {A : Around} {E : Value → Shared → Prop} {s : Shared} {l sl D : Addr} {o : Obj} {xs ys : Array Value} {n : Nat} {Q : Unit → Shared → Prop}
    (ho : s.heap.get? l = some o) (hc : o.cls = .type "list") (hd : o.data = .seq xs n) (hs : s.heap.IsSliceOf sl .none .none .none) (hD : s.heap.IsList D ys) (hne : l ≠ D)
    (hz : xs.size + ys.size ≤ sizeLine) (h : ∀ f : Obj → Obj, f o = Obj.mapSeq (fun _ => ys) o → Q () { s with heap := s.heap.update l f }) :
    wpAny (model prog w) A (setItem (.ref l) (.ref sl) (.ref D)) Q E s := by
  have hl : s.heap.IsList l xs := ⟨o, ho, hc, n, hd⟩
  obtain ⟨os, hos, hcs, hds⟩ := id hs
  obtain ⟨oD, hoD, hcD, nD, hdD⟩ := id hD
  have hTs : s.TypeIs (.ref sl) "slice" := ⟨os, hos, hcs⟩
  unfold setItem
  refine wpAny_holding ?_
  refine wpAny_bind (wpAny_sequenceKey hl.typeIs (by decide) ?_)
  refine wpAny_bind (wpAny_callSpecial?_slot (name := Str.ofString "__setitem__") hl.typeIs slot_list_setitem
    (wpAny_call_entry slot_list_setitem hl.typeIs entry_list_setitem ?_ (args_list_setitem _ _ _)))
  show wpAny _ _ (Builtin.List.listSubscript? (.ref sl) >>= _) _ _ s
  refine wpAny_bind ?_
  unfold Builtin.List.listSubscript?
  refine wpAny_bind (wpAny_specialOf hTs slice_no_index ?_)
  simp only [Option.isNone_none, if_true]
  refine wpAny_pure ?_
  show wpAny _ _ (typeOf (.ref sl) >>= _) _ _ s
  refine wpAny_bind (wpAny_typeOf hTs ?_)
  rw [if_neg (by decide)]
  rw [listSliceParts_eq]
  refine wpAny_bind (wpAny_bind (wpAny_field hos hds (x := .none) rfl (wpAny_bind (wpAny_listPart .none ?_))))
  rw [if_neg (by exact Bool.false_ne_true)]
  refine wpAny_bind (wpAny_field hos hds (x := .none) rfl (wpAny_bind (wpAny_listPart .none ?_)))
  refine wpAny_bind (wpAny_field hos hds (x := .none) rfl (wpAny_bind (wpAny_listPart .none (wpAny_pure ?_))))
  have hsame : Builtin.List.listSameRef (.ref l) (.ref D) = false := by
    show (l == D) = false
    exact beq_eq_false_iff_ne.mpr hne
  rw [if_neg (by rw [hsame]; exact Bool.false_ne_true)]
  refine wpAny_bind ?_
  unfold Builtin.List.listAllItems
  refine wpAny_bind (wpAny_typeOf (T := "list") ⟨oD, hoD, hcD⟩ ?_)
  rw [if_pos (by decide)]
  unfold Builtin.List.listItems
  refine wpAny_bind (wpAny_seqItems hoD hdD (wpAny_pure ?_))
  refine wpAny_bind (wpAny_bind (wpAny_seqItems ho hd (wpAny_pure ?_)))
  refine wpAny_bind (wpAny_of_eq (sliceIndices_raw none none none xs.size (by simp)) ?_)
  have e : sliceBounds none none none xs.size = (0, (xs.size : Int), 1) := by simp [sliceBounds]
  rw [e]
  dsimp only
  rw [if_pos (by decide)]
  refine wpAny_bind (wpAny_rule ?_)
  have hlong : Builtin.List.listTooLong (xs.size + ys.size) = false := by
    unfold Builtin.List.listTooLong
    exact decide_eq_false (by omega)
  rw [hlong, if_neg Bool.false_ne_true]
  have ef : (fun xs' : Array Value => xs'.extract 0 (Int.toNat 0) ++ ys ++ xs'.extract (max 0 (xs.size : Int)).toNat xs'.size) xs = ys := by
    have e1 : (max 0 (xs.size : Int)).toNat = xs.size := by omega
    dsimp only
    rw [e1]
    simp
  have eo : Obj.mapSeq (fun xs' : Array Value => xs'.extract 0 (Int.toNat 0) ++ ys ++ xs'.extract (max 0 (xs.size : Int)).toNat xs'.size) o = Obj.mapSeq (fun _ => ys) o := by
    exact mapSeq_congr hd ef
  refine wpAny_bind ?_
  unfold Builtin.List.listUpdate
  refine wpAny_updateSeq ho hd ?_ (by omega) (by have ef2 := congrArg Array.size ef; dsimp only at ef2; rw [ef2]; omega)
  refine wpAny_bind (wpAny_letGo ?_)
  exact wpAny_pure ⟨.none, rfl, wpAny_pure (h _ eo)⟩

theorem setItem_slice_K {prog : Program} {w : World} {A : Around} {E : Value → Shared → Prop} {s : Shared} {h₀ : Heap} {L l D : Addr} {m : Str → Option Value} {news : List (Addr × Obj)} {xs ys : List Value} {n : Nat} {Q : Unit → Shared → Prop}
    (F : Fr h₀ L s.heap m) (N : News h₀ L s.heap news) (hl : (l, listOf xs.toArray n) ∈ news) (hD : (D, lst ys) ∈ news) (hne : l ≠ D) (hz : xs.length + ys.length ≤ sizeLine)
    (h : ∀ h' n', Fr h₀ L h' m → News h₀ L h' (updL news l (listOf ys.toArray n')) → Q () { s with heap := h' }) :
    wpAny (model prog w) A (setItem (.ref l) (.ref s.heap.objs.size) (.ref D)) Q E { s with heap := s.heap.push { cls := .type "slice", data := .fields #[.none, .none, .none] } } := by
  have F1 : Fr h₀ L (s.heap.push { cls := .type "slice", data := .fields #[.none, .none, .none] }) m := F.push _
  have N1 : News h₀ L (s.heap.push { cls := .type "slice", data := .fields #[.none, .none, .none] }) news := N.grown fun _ _ e => Heap.get?_push_of_some _ e
  refine setItem_slice_all (xs := xs.toArray) (ys := ys.toArray) (N1 _ hl).1 rfl rfl (Heap.IsSliceOf.new ..) (News.isList N1 hD) hne (by simpa using hz) fun f ef => ?_
  have e2 : f (listOf xs.toArray n) = listOf ys.toArray (if (ys.toArray.size == xs.toArray.size) = true then n else n + 1) := ef
  obtain ⟨F2, N2⟩ := News.upd (f := f) F1 N1 hl (by rw [e2]; rfl)
  rw [e2] at N2
  exact h _ _ F2 N2

/-! «del x[i]» by an own class's __delitem__ -/
theorem delItem_own {M : Model} {A : Around} {E : Value → Shared → Prop} {s : Shared} {K : Frag} {x C L f : Addr} {h₀ : Heap} {m : Str → Option Value} {ox : Obj} {od : Option Obj} {i : Value} {Q : Unit → Shared → Prop}
    (F : Fr h₀ L s.heap m) (X₀ : K.In h₀) (I : InstAt s.heap x ox C od) (hq : noSeq K C = true) (hs : findIn K (.ref C) "__delitem__" = some (some (.ref f))) (hf : isFn K (.ref f) = true)
    (h : wpAny M A (call (.ref f) [.ref x, i]) (fun _ s' => Q () s') E s) : wpAny M A (delItem (.ref x) i) Q E s := by
  have X := X₀.keeps F.keep
  unfold delItem sequenceKey
  refine wpAny_holding (wpAny_bind (wpAny_bind (I.type.here ?_)))
  refine wpAny_bind ((anyM_none X hq).here ?_)
  rw [if_pos (show (!false) = true from rfl)]
  exact wpAny_pure (wpAny_bind (special_fn X I hs (beq_iff_eq.mp hf) (wpAny_mono h (fun _ _ z => wpAny_pure z) fun _ _ z => z)))

/-! append to a list of the ledger -/
theorem append_L {prog : Program} {w : World} {A : Around} {E : Value → Shared → Prop} {s : Shared} {h₀ : Heap} {L l : Addr} {m : Str → Option Value} {news : List (Addr × Obj)} {xs : List Value} {n : Nat} {v : Value} {Q : Value → Shared → Prop}
    (F : Fr h₀ L s.heap m) (N : News h₀ L s.heap news) (hl : (l, listOf xs.toArray n) ∈ news) (hz : xs.length ≤ sizeLine)
    (h : ∀ h', Fr h₀ L h' m → News h₀ L h' (updL news l (listOf (xs ++ [v]).toArray (n + 1))) → Q .none { s with heap := h' }) :
    wpAny (model prog w) A (call (.builtin "list.append") [.ref l, v]) Q E s := by
  have hz' : xs.toArray.size ≤ sizeLine := by simpa using hz
  refine append_at (hsz := hz') (N _ hl).1 fun h' hs ho' => ?_
  have z := N _ hl
  refine h h' (F.change hs z.2.1 z.2.2) fun p hp => ?_
  obtain ⟨q, hq, rfl⟩ := List.mem_map.mp hp
  by_cases e : q.1 = l
  · rw [if_pos e]
    have e2 : xs.toArray.push v = (xs ++ [v]).toArray := by simp
    rw [← e2]
    exact ⟨ho', z.2⟩
  · rw [if_neg e]
    exact ⟨(hs.2 _ e).trans (N q hq).1, (N q hq).2⟩

/-! the tokens stay above nought -/
theorem gentoks {M : Model} {A : Around} {E : Value → Shared → Prop} {α : Type} {t : Sem α} {Q : α → Shared → Prop} {h : Heap} {g : Array GenState} {d : Drawn} {n : Nat} {o : OsState} (k : ∀ tk, 1 ≤ tk → wpAny M A t Q E ⟨h, g, d, tk, o⟩) (hn : 1 ≤ n) : wpAny M A t Q E ⟨h, g, d, n, o⟩ := k n hn
theorem replace_pos {prog : Program} {w : World} {A : Around} {E : Value → Shared → Prop} {s : Shared} {x y z : Str} {t u v : Tok} {Q : Value → Shared → Prop} (b c : Nat) (hy : y = ⟨#[c]⟩) (hp : 1 ≤ s.toks) (hu : u ≠ 0) (hv : v ≠ 0) (huv : u ≠ v) (hyz : (y == z) = false) (hx : x.length ≤ 1048576) (hz : z.length ≤ b) (hb : 1 ≤ b ∧ b ≤ 14)
    (hq : ∀ t' k, 1 ≤ k → (Txt.replace x y z).length ≤ b * x.length → Q (.str (Txt.replace x y z) t') { s with toks := k }) : wpAny (model prog w) A (call (.builtin "str.replace") [.str x t, .str y u, .str z v]) Q E s :=
  wpAny_with_toks (n := 1) hp (SC.replaceW hu hv huv hyz hx (Nat.le_trans hz hb.2) fun t' k hk => hq t' k hk (by subst hy; exact replace_length x z c b hb.1 hz))
end
section
open PySem.Sre

/-! The two compiled classes, as the machine reads them. -/
def badN (c : Nat) : Bool := decide (c ≤ 31) || c == 127
def badV (c : Nat) : Bool := decide (c ≤ 8) || (decide (10 ≤ c) && decide (c ≤ 31)) || c == 127

def codeN : Array Nat := #[14, 10, 4, 1, 1, 22, 0, 31, 16, 127, 0, 13, 7, 22, 0, 31, 16, 127, 0, 1]
def codeV : Array Nat := #[14, 14, 4, 1, 1, 9, 4294966783, 0, 0, 2147483648, 0, 0, 0, 0, 0, 13, 11, 9, 4294966783, 0, 0, 2147483648, 0, 0, 0, 0, 0, 1]

/-- one class: its code, its set of signs, where the set stands in the head and in the body -/
structure OneSet (code : Array Nat) (bad : Nat → Bool) : Prop where
  inHead : ∀ c seen, ∃ seen', inSet code c code.size 5 true seen = .ok (bad c, seen')
  acc : ∀ c seen, ∃ seen', accepts code (header code).2 c seen = .ok (bad c, seen')
  op0 : ops[code.getD (header code).2 0]? = some .IN
  first : code.getD 0 0 = 14 ∧ code.getD 2 0 = 4
  least : (header code).1 = 1
  body0 : (header code).2 ≠ 0
  fits : (header code).2 < code.size
  last : ops[code.getD ((header code).2 + itemWidth code (header code).2) 0]? = some .SUCCESS
  fits2 : (header code).2 + itemWidth code (header code).2 < code.size

theorem inN5 (c : Nat) (seen : Sre.Seen) : inSet codeN c 20 5 true seen =
    (if (decide (0 ≤ c) && decide (c ≤ 31)) = true then .ok (true, seen.add 22) else if (c == 127) = true then .ok (true, (seen.add 22).add 16) else .ok (false, ((seen.add 22).add 16).add 0)) := rfl
theorem inN13 (c : Nat) (seen : Sre.Seen) : inSet codeN c 20 13 true seen =
    (if (decide (0 ≤ c) && decide (c ≤ 31)) = true then .ok (true, seen.add 22) else if (c == 127) = true then .ok (true, (seen.add 22).add 16) else .ok (false, ((seen.add 22).add 16).add 0)) := rfl
theorem threeN (c : Nat) (seen : Sre.Seen) : ∃ seen', (if (decide (0 ≤ c) && decide (c ≤ 31)) = true then .ok (true, seen.add 22) else if (c == 127) = true then .ok (true, (seen.add 22).add 16) else .ok (false, ((seen.add 22).add 16).add 0) : Except String (Bool × Sre.Seen)) = .ok (badN c, seen') := by
  unfold badN
  by_cases h1 : c ≤ 31
  · exact ⟨_, by simp [h1]; rfl⟩
  · by_cases h2 : c = 127
    · exact ⟨_, by simp [h2]; rfl⟩
    · exact ⟨_, by simp [h1, h2]; rfl⟩

theorem setN : OneSet codeN badN where
  inHead := fun c seen => by
    show ∃ seen', inSet codeN c 20 5 true seen = .ok (badN c, seen')
    rw [inN5]; exact threeN c seen
  acc := fun c seen => by
    show ∃ seen', inSet codeN c 20 13 true seen = .ok (badN c, seen')
    rw [inN13]; exact threeN c seen
  op0 := by rfl
  first := ⟨rfl, rfl⟩
  least := by rfl
  body0 := by decide
  fits := by decide
  last := by rfl
  fits2 := by decide

theorem bitsV : ∀ c : Fin 256, (codeV.getD (5 + (1 + c.val / 32)) 0).testBit (c.val % 32) = badV c.val := by decide +kernel
theorem bitsV2 : ∀ c : Fin 256, (codeV.getD (17 + (1 + c.val / 32)) 0).testBit (c.val % 32) = badV c.val := by decide +kernel
theorem badV_big {c : Nat} (h : ¬ c < 256) : badV c = false := by
  unfold badV
  have h1 : ¬ c ≤ 8 := by omega
  have h2 : ¬ c ≤ 31 := by omega
  have h3 : ¬ c = 127 := by omega
  simp [h1, h2, h3]

theorem inV5 (c : Nat) (seen : Sre.Seen) : inSet codeV c 28 5 true seen =
    (if (decide (c < 256) && (codeV.getD (5 + (1 + c / 32)) 0).testBit (c % 32)) = true then .ok (true, seen.add 9) else .ok (false, (seen.add 9).add 0)) := rfl
theorem inV17 (c : Nat) (seen : Sre.Seen) : inSet codeV c 28 17 true seen =
    (if (decide (c < 256) && (codeV.getD (17 + (1 + c / 32)) 0).testBit (c % 32)) = true then .ok (true, seen.add 9) else .ok (false, (seen.add 9).add 0)) := rfl
theorem testV5 (c : Nat) : (decide (c < 256) && (codeV.getD (5 + (1 + c / 32)) 0).testBit (c % 32)) = badV c := by
  by_cases h : c < 256
  · rw [decide_eq_true h, Bool.true_and]; exact bitsV ⟨c, h⟩
  · rw [decide_eq_false h, Bool.false_and, badV_big h]
theorem testV17 (c : Nat) : (decide (c < 256) && (codeV.getD (17 + (1 + c / 32)) 0).testBit (c % 32)) = badV c := by
  by_cases h : c < 256
  · rw [decide_eq_true h, Bool.true_and]; exact bitsV2 ⟨c, h⟩
  · rw [decide_eq_false h, Bool.false_and, badV_big h]
theorem setV : OneSet codeV badV where
  inHead := fun c seen => by
    show ∃ seen', inSet codeV c 28 5 true seen = .ok (badV c, seen')
    rw [inV5, testV5]; cases badV c <;> exact ⟨_, rfl⟩
  acc := fun c seen => by
    show ∃ seen', inSet codeV c 28 17 true seen = .ok (badV c, seen')
    rw [inV17, testV17]; cases badV c <;> exact ⟨_, rfl⟩
  op0 := by rfl
  first := ⟨rfl, rfl⟩
  least := by rfl
  body0 := by decide
  fits := by decide
  last := by rfl
  fits2 := by decide

/-! The search. -/
section
variable {code : Array Nat} {bad : Nat → Bool}

theorem admitted_spec (O : OneSet code bad) (m : M) (hc : m.code = code) : ∀ (fuel s : Nat) (seen : Sre.Seen), m.lim + 1 - s ≤ fuel →
    (∃ i seen', s ≤ i ∧ i < m.lim ∧ bad (m.text.getD i 0) = true ∧ M.admitted m fuel s seen = .ok (some i, seen')) ∨
    ((∀ i, s ≤ i → i < m.lim → bad (m.text.getD i 0) = false) ∧ ∃ seen', M.admitted m fuel s seen = .ok (none, seen')) := by
  intro fuel
  induction fuel with
  | zero => intro s seen h; exact .inr ⟨fun i h1 h2 => by omega, _, rfl⟩
  | succ fuel ih =>
    intro s seen h
    unfold M.admitted
    by_cases hs : s ≥ m.lim
    · rw [if_pos hs]; exact .inr ⟨fun i h1 h2 => by omega, _, rfl⟩
    · rw [if_neg hs]
      obtain ⟨seen', e⟩ := O.inHead (m.text.getD s 0) seen
      rw [hc, e]
      cases hb : bad (m.text.getD s 0)
      · dsimp only
        rcases ih (s + 1) seen' (by omega) with ⟨i, s2, h1, h2, h3, h4⟩ | ⟨h1, s2, h2⟩
        · exact .inl ⟨i, s2, by omega, h2, h3, h4⟩
        · refine .inr ⟨fun i a b => ?_, s2, h2⟩
          by_cases e : i = s
          · rw [e]; exact hb
          · exact h1 i (by omega) b
      · exact .inl ⟨s, seen', Nat.le_refl _, by omega, hb, rfl⟩

def m0 (code text : Array Nat) (lim : Nat) : M :=
  { code, text, lim, start := 0, pc := (header code).2, pos := 0, handed := 0, marks := Array.replicate (2 * 0) none, mustAdvance := false,
    seen := if (header code).2 == 0 then {} else ({} : Sre.Seen).add 14 }
theorem forSearch_eq (code text : Array Nat) (lim : Nat) : forSearch code text 0 0 lim false =
    (if (decide (0 > lim) || decide (lim - 0 < (header code).1)) = true then (m0 code text lim).say false
     else { m0 code text lim with lastStart := if (decide ((header code).1 > 1) && !((header code).2 != 0 && code.getD 2 0 &&& 5 != 0)) = true then max 0 (lim - ((header code).1 - 1)) else lim }.attemptFrom 0 true) := by
  unfold forSearch
  rfl

theorem step_in {m : M} {seen' : Sre.Seen} (h1 : m.outcome = none) (h2 : m.answer = none) (h3 : m.pc < m.code.size) (h4 : ops[m.code.getD m.pc 0]? = some .IN) (h5 : m.pos < m.lim)
    (h6 : accepts m.code m.pc (m.text.getD m.pos 0) (m.seen.add (m.code.getD m.pc 0)) = .ok (true, seen')) :
    m.step = { m with seen := seen', pc := m.pc + itemWidth m.code m.pc, pos := m.pos + 1 } := by
  cases m
  dsimp only at h1 h2 h3 h4 h5 h6
  subst h1 h2
  unfold M.step
  simp only [Option.isSome_none, Bool.false_eq_true, if_false]
  rw [if_pos h3]
  unfold M.exec
  simp only [M.word, Nat.add_zero, h4]
  rw [if_neg (by omega), h6]
theorem step_success {m : M} (h1 : m.outcome = none) (h2 : m.answer = none) (h3 : m.pc < m.code.size) (h4 : ops[m.code.getD m.pc 0]? = some .SUCCESS) (h5 : m.wholeText = false) (h6 : m.mustAdvance = false) :
    m.step = { m with seen := m.seen.add (m.code.getD m.pc 0), handed := m.pos, answer := some true } := by
  cases m
  dsimp only at h1 h2 h3 h4 h5 h6
  subst h1 h2 h5 h6
  unfold M.step
  simp only [Option.isSome_none, Bool.false_eq_true, if_false]
  rw [if_pos h3]
  unfold M.exec
  simp only [M.word, Nat.add_zero, h4, Bool.false_and, Bool.or_false, Bool.and_false, Bool.false_eq_true, if_false]
  rfl
theorem runFor_out {n : Nat} {m : M} (h : m.outcome.isSome = true) : M.runFor n m = m := by
  cases n with
  | zero => rfl
  | succ n => unfold M.runFor; rw [if_pos h]
theorem runFor_step {n : Nat} {m : M} (h : m.outcome = none) : M.runFor (n + 1) m = M.runFor n m.step := by
  rw [M.runFor, h]; rfl
theorem says_false {m : M} (h1 : m.outcome = none) (h2 : m.frames = []) : (M.runFor 4 (m.say false)).outcome = some .failed := by
  rw [runFor_step (show (m.say false).outcome = none from h1)]
  have e : (m.say false).step = { m.say false with outcome := some .failed } := by
    cases m
    dsimp only at h1 h2
    subst h1 h2
    rfl
  rw [e, runFor_out rfl]

theorem found_run {m2 : M} {i : Nat} {pc0 : Nat} (O : OneSet code bad) (d1 : m2.code = code) (d4 : m2.outcome = none) (d5 : m2.frames = [{ wait := .nextStart, pc := pc0, pos := i, outermost := true }])
    (d6 : m2.answer = none) (d8 : m2.pc = (header code).2) (d9 : m2.wholeText = false) (d11 : m2.mustAdvance = false) (h2 : m2.pos < m2.lim) (h3 : bad (m2.text.getD m2.pos 0) = true) :
    (M.runFor 4 m2).outcome = some .matched := by
  obtain ⟨s3, ha⟩ := O.acc (m2.text.getD m2.pos 0) (m2.seen.add (code.getD (header code).2 0))
  rw [h3] at ha
  rw [runFor_step d4, step_in (seen' := s3) d4 d6 (by rw [d8, d1]; exact O.fits) (by rw [d1, d8]; exact O.op0) h2 (by rw [d1, d8]; exact ha)]
  rw [runFor_step (by exact d4), step_success (by exact d4) (by exact d6) (by show m2.pc + itemWidth m2.code m2.pc < m2.code.size; rw [d8, d1]; exact O.fits2) (by show ops[m2.code.getD (m2.pc + itemWidth m2.code m2.pc) 0]? = _; rw [d1, d8]; exact O.last) (by exact d9) (by exact d11)]
  cases m2
  dsimp only at d1 d4 d5 d6 d8 d9 d11 h2 h3
  subst d4 d5 d6 d9 d11
  rfl

theorem attempt_spec (O : OneSet code bad) (m1 : M) (c1 : m1.code = code) (c4 : m1.outcome = none) (c5 : m1.frames = []) (c6 : m1.answer = none) (c7 : m1.weight = 0) (c8 : m1.pc = (header code).2) (c9 : m1.wholeText = false) :
    ((∃ i, i < m1.lim ∧ bad (m1.text.getD i 0) = true) ∧ (M.runFor 4 (m1.attemptFrom 0 true)).outcome = some .matched) ∨
    ((∀ i, i < m1.lim → bad (m1.text.getD i 0) = false) ∧ (M.runFor 4 (m1.attemptFrom 0 true)).outcome = some .failed) := by
  unfold M.attemptFrom
  rw [show m1.hasFirstSet = true from by unfold M.hasFirstSet; rw [c1, O.first.1, O.first.2]; rfl]
  simp only [Bool.not_true, Bool.false_eq_true, if_false]
  rcases admitted_spec O m1 c1 (m1.lim + 1 - 0) 0 m1.seen (Nat.le_refl _) with ⟨i, seen', _, h2, h3, h4⟩ | ⟨h1, seen', h2⟩
  · left
    refine ⟨⟨i, h2, h3⟩, ?_⟩
    rw [h4]
    dsimp only
    unfold M.attemptAt M.attempt
    dsimp only
    rw [c7, if_neg (by decide)]
    exact found_run (i := i) O c1 c4 (by show _ :: m1.frames = _; rw [c5]) c6 c8 c9 rfl h2 h3
  · right
    refine ⟨fun i hi => h1 i (Nat.zero_le _) hi, ?_⟩
    rw [h2]
    dsimp only
    exact says_false (m := { m1 with seen := seen' }) c4 c5

theorem search_spec (O : OneSet code bad) (text : Array Nat) :
    ((∃ i, i < text.size ∧ bad (text.getD i 0) = true) ∧ (M.runFor 4 (forSearch code text 0 0 text.size false)).outcome = some .matched) ∨
    ((∀ i, i < text.size → bad (text.getD i 0) = false) ∧ (M.runFor 4 (forSearch code text 0 0 text.size false)).outcome = some .failed) := by
  rw [forSearch_eq, O.least]
  by_cases hz : text.size = 0
  · right
    refine ⟨fun i h => by omega, ?_⟩
    rw [if_pos (by rw [hz]; rfl)]
    exact says_false rfl rfl
  · rw [if_neg (by
      intro h
      rcases Bool.or_eq_true_iff.mp h with q | q
      · exact absurd (of_decide_eq_true q) (Nat.not_lt_zero _)
      · have := of_decide_eq_true q; omega)]
    exact attempt_spec O { m0 code text text.size with lastStart := _ } rfl rfl rfl rfl rfl rfl rfl
end
end
section
open PySem.Builtin PySem.Builtin.Re

theorem reNamed_one (id f : String) (x : Value) : reNamed id f ["string", "pos", "endpos"] 1 [x] [] = pure [some x, none, none] := by
  unfold reNamed
  rfl
theorem getD_any {text : Array Nat} {bad : Nat → Bool} : text.toList.any bad = true ↔ ∃ i, i < text.size ∧ bad (text.getD i 0) = true := by
  rw [List.any_eq_true]
  constructor
  · rintro ⟨c, hc, hb⟩
    obtain ⟨i, hi, rfl⟩ := List.getElem_of_mem hc
    have hi' : i < text.size := by simpa using hi
    exact ⟨i, hi', by simpa [Array.getD, hi'] using hb⟩
  · rintro ⟨i, hi, hb⟩
    exact ⟨text.getD i 0, by simp [Array.getD, hi], hb⟩

/-- the state of a pattern's object -/
structure PatAt (h : Heap) (a : Addr) (code : Array Nat) : Prop where
  obj : ∃ o p f c oc n, h.get? a = some o ∧ o.cls = .type "re.Pattern" ∧ o.dict = none ∧ o.data = .fields #[p, f, .int 0 0, .none, .none, .ref c, .int 0 0] ∧
    h.get? c = some oc ∧ oc.data = .seq (code.toList.map fun (k : Nat) => rawInt k).toArray n

theorem slot_search : Slot "re.Pattern" "search" "re.Pattern.search" :=
  .of (owner := "re.Pattern") (n := "search") (by rw [typeLookup_type, builtinLookup_eq_fast]; kernel_rfl) (by decide +kernel) (by decide +kernel) (by decide +kernel)
    (by first | exact .inl (by decide +kernel) | exact .inr (by decide +kernel)) (by rw [isSubtype_type]; kernel_rfl)
theorem type_search : typeOf (.builtin "re.Pattern.search") = pure (.type "method_descriptor") := by show builtinType _ = _; rw [builtinType_eq_fast]; kernel_rfl
theorem entry_search : entryFor table "re.Pattern.search" = some Builtin.«re.Pattern.search» := entryFor_of_tree (by kernel_rfl)
theorem plainAttrs_pattern : PlainAttrs "re.Pattern" where
  ga := ⟨"object.__getattribute__", by rw [typeLookup_type, builtinLookup_eq_fast]; kernel_rfl, by decide +kernel⟩
  noGetattr := by rw [typeLookup_type, builtinLookup_eq_fast]; kernel_rfl

theorem owner_pattern : Manifest.owners.lookup (String.ofList ['n', 'r', 'e', 't', 't', 'a', 'P', '.', 'e', 'r'].reverse) = some Manifest.sig_re_Pattern := by kernel_rfl
theorem args_search (a b : Value) : argsOk "re.Pattern.search" ⟨[a, b], []⟩ := by
  unfold argsOk; rw [signature?_of (id := "re.Pattern.search") (n := ['h', 'c', 'r', 'a', 'e', 's']) (o := ['n', 'r', 'e', 't', 't', 'a', 'P', '.', 'e', 'r']) (by kernel_rfl) owner_pattern]; kernel_rfl

section
variable {prog : Program} {w : World} {A : Around} {E : Value → Shared → Prop} {s : Shared} {x : Str} {t : Tok} {a : Addr} {code : Array Nat} {bad : Nat → Bool}

theorem codes_back (code : Array Nat) : ((code.toList.map fun (k : Nat) => rawInt k).toArray.map reRawOf).map (·.toNat) = code := by
  apply Array.ext'
  simp [rawInt, reRawOf, Function.comp_def]

theorem wp_target {Q : ReTarget → Shared → Prop} (P : PatAt s.heap a code) (hx : x.length ≤ 16777216)
    (h : Q { pattern := .ref a, string := .str x t, code := code, text := x.cps, kind := 0, groups := 0, pos := 0, lim := x.cps.size } s) :
    wpAny (model prog w) A (reTarget "re.Pattern.search" "search" ⟨[.ref a, .str x t], []⟩) Q E s := by
  obtain ⟨o, p, f, c, oc, n, ho, hcls, hdict, hdata, hoc, hocd⟩ := P.obj
  unfold reTarget
  dsimp only
  rw [reNamed_one]
  refine wpAny_bind (wpAny_pure ?_)
  dsimp only
  refine wpAny_bind (wpAny_pure (wpAny_bind (wpAny_pure ?_)))
  refine wpAny_bind (wpAny_fieldsOf ho hdata ?_)
  refine wpAny_bind (wpAny_bind (wpAny_pure (wpAny_pure ?_)))
  dsimp only
  rw [if_neg (by exact Bool.false_ne_true), if_neg (by exact Bool.false_ne_true)]
  refine wpAny_bind (wpAny_pure (wpAny_bind (wpAny_bind (wpAny_seqItems hoc hocd (wpAny_pure (wpAny_pure ?_))))))
  rw [show (Option.getD (some (List.map (fun (k : Nat) => rawInt k) code.toList).toArray) #[]) = (List.map (fun (k : Nat) => rawInt k) code.toList).toArray from rfl, codes_back]
  have e1 : Min.min (Int.toNat 0) x.cps.size = 0 := by simp
  have e2 : Min.min (Int.toNat (2 ^ 63 - 1)) x.cps.size = x.cps.size := by
    have hx' : x.cps.size ≤ 16777216 := hx
    have e : (Int.toNat (2 ^ 63 - 1)) = 9223372036854775807 := by decide
    rw [e]; omega
  rw [e1, e2]
  exact h

theorem wp_newMatch {Q : Value → Shared → Prop} {m : Sre.M} {y : Value} {pos lim : Nat}
    (h : ∀ h' mt o2, (∀ b ob, s.heap.get? b = some ob → h'.get? b = some ob) → s.heap.objs.size < mt → h'.get? mt = some o2 → o2.cls = .type "re.Match" → o2.dict = none → (∃ vs, o2.data = .fields vs) → Q (.ref mt) { s with heap := h' }) :
    wpAny (model prog w) A (reNewMatch (.ref a) y 0 pos lim m) Q E s := by
  unfold reNewMatch
  simp only [List.range_zero, List.flatMap_nil, List.any_nil, Bool.false_eq_true, if_false]
  refine wpAny_bind (wpAny_newTuple ?_)
  unfold newFields
  refine wpAny_newObj_type ?_ (by show 6 ≤ _; decide)
  refine h _ _ _ (fun b ob e => Heap.get?_push_of_some _ (Heap.get?_push_of_some _ e)) ?_ (Heap.get?_push_size _ rfl) rfl rfl ⟨_, rfl⟩
  rw [Heap.size_push]
  exact Nat.lt_succ_self _

theorem reDrive_done {m : Sre.M} {Q : Sre.M → Shared → Prop} (ho : (m.runFor 4).outcome.isSome = true) (h : Q (m.runFor 4) s) : wpAny (model prog w) A (reDrive (2 ^ 64) m) Q E s := by
  rw [show (2 : Nat) ^ 64 = 18446744073709551615 + 1 from by decide]
  unfold reDrive
  rw [show reTurnSteps = 4 from rfl]
  dsimp only
  rw [if_pos ho]
  exact wpAny_pure h

theorem rules_skip {m : Sre.M} {Q : PUnit → Shared → Prop} (l : List Nat) (h : Q () s) :
    wpAny (model prog w) A (forIn l PUnit.unit fun i (_ : PUnit) => if m.seen.has i = true then do rule (Sre.names.getD i ""); pure (ForInStep.yield PUnit.unit) else pure (ForInStep.yield PUnit.unit)) Q E s := by
  induction l with
  | nil => exact wpAny_pure h
  | cons i l ih =>
    rw [List.forIn_cons]
    refine wpAny_bind (wpAny_ite ?_)
    split
    · exact wpAny_bind (wpAny_rule (wpAny_pure ih))
    · exact wpAny_pure ih

theorem wp_runToEnd {m : Sre.M} {Q : Option Sre.M → Shared → Prop}
    (h : ((m.runFor 4).outcome = some .matched ∧ Q (some (m.runFor 4)) s) ∨ ((m.runFor 4).outcome = some .failed ∧ Q none s)) : wpAny (model prog w) A (reRunToEnd m) Q E s := by
  unfold reRunToEnd
  have ho : (m.runFor 4).outcome.isSome = true := by rcases h with ⟨h, _⟩ | ⟨h, _⟩ <;> rw [h] <;> rfl
  refine wpAny_bind (reDrive_done ho ?_)
  refine wpAny_bind (rules_skip _ ?_)
  rcases h with ⟨h, q⟩ | ⟨h, q⟩
  · rw [h]; exact wpAny_pure q
  · rw [h]; exact wpAny_pure q

theorem call_search {Q : Value → Shared → Prop} (P : PatAt s.heap a code) (O : OneSet code bad) (hT : s.TypeIs (.ref a) "re.Pattern") (hx : x.length ≤ 16777216)
    (hno : x.cps.toList.any bad = false → Q .none s)
    (hyes : x.cps.toList.any bad = true → ∀ h' mt o2, (∀ b ob, s.heap.get? b = some ob → h'.get? b = some ob) → s.heap.objs.size < mt → h'.get? mt = some o2 → o2.cls = .type "re.Match" → o2.dict = none → (∃ vs, o2.data = .fields vs) → Q (.ref mt) { s with heap := h' }) :
    wpAny (model prog w) A (call (.builtin "re.Pattern.search") [.ref a, .str x t]) Q E s := by
  refine wpAny_call (codeAny_call_builtin slot_search.plain entry_search (slot_search.check _ _ _ _ _ _ _ _ hT ?_ ?_))
  · exact args_search _ _
  · unfold «re.Pattern.search»
    refine wpAny_bind (wp_target P hx ?_)
    unfold reAnswer
    dsimp only
    refine wpAny_bind (wp_runToEnd ?_)
    rcases search_spec O x.cps with ⟨h1, h2⟩ | ⟨h1, h2⟩
    · refine .inl ⟨h2, ?_⟩
      dsimp only
      refine wpAny_bind (wp_newMatch fun h' mt o2 a1 a2 a3 a4 a5 a6 => ?_)
      exact wpAny_pure (hyes (getD_any.mpr h1) h' mt o2 a1 a2 a3 a4 a5 a6)
    · refine .inr ⟨h2, ?_⟩
      dsimp only
      refine wpAny_pure (hno ?_)
      cases hb : x.cps.toList.any bad
      · rfl
      · obtain ⟨i, hi, hb'⟩ := getD_any.mp hb
        rw [h1 i hi] at hb'
        cases hb'

theorem getM_search {M : Model} {Q : Value × List Value → Shared → Prop} {pl : Sem Bool} (P : PatAt s.heap a code) (h : Q (.builtin "re.Pattern.search", [.ref a]) s) :
    wpAny M A (getMethod (.ref a) "search" pl) Q E s := by
  obtain ⟨o, p, f, c, oc, n, ho, hcls, hdict, hdata, hoc, hocd⟩ := P.obj
  exact getMethod_builtin (T := "re.Pattern") ⟨o, ho, hcls⟩ plainAttrs_pattern slot_search type_search (fun a' e => by cases e; exact ⟨o, ho, hdict⟩) h

theorem truthy_match {M : Model} {mt : Addr} {o : Obj} {Q : Bool → Shared → Prop} (ho : s.heap.get? mt = some o) (hc : o.cls = .type "re.Match") (h : Q true s) : wpAny M A (truthy (.ref mt)) Q E s := by
  unfold truthy
  refine wpAny_bind (wpAny_callSpecial?_none (T := "re.Match") ⟨o, ho, hc⟩ (by rw [typeLookup_type, builtinLookup_eq_fast]; kernel_rfl) ?_)
  refine wpAny_bind (wpAny_specialOf (T := "re.Match") (r := none) ⟨o, ho, hc⟩ (by rw [typeLookup_type, builtinLookup_eq_fast]; kernel_rfl) ?_)
  exact wpAny_pure h

def matchObj (vs : Array Value) : Obj := { cls := .type "re.Match", data := .fields vs }

theorem search_K {h₀ : Heap} {L : Addr} {m : Str → Option Value} {news : List (Addr × Obj)} {Q : Value → Shared → Prop} (F : Fr h₀ L s.heap m) (N : News h₀ L s.heap news) (P : PatAt s.heap a code) (O : OneSet code bad) (hx : x.length ≤ 16777216)
    (hno : x.cps.toList.any bad = false → Q .none s)
    (hyes : x.cps.toList.any bad = true → ∀ h' mt, Fr h₀ L h' m → News h₀ L h' news → wpAny (model prog w) A (truthy (.ref mt)) (fun b s' => b = true ∧ s' = { s with heap := h' }) (fun _ _ => False) { s with heap := h' } → Q (.ref mt) { s with heap := h' }) :
    wpAny (model prog w) A (call (.builtin "re.Pattern.search") [.ref a, .str x t]) Q E s := by
  have hT : s.TypeIs (.ref a) "re.Pattern" := by
    obtain ⟨o, p, f, c, oc, n, ho, hcls, _⟩ := P.obj
    exact ⟨o, ho, hcls⟩
  refine call_search P O hT hx hno fun hy h' mt o2 k1 k2 k3 k4 k5 k6 => ?_
  refine hyes hy h' mt ⟨F.ns.keeps k1, fun b o e => k1 b o (F.keep b o e), F.above⟩ (fun p hp => ⟨k1 _ _ (N p hp).1, (N p hp).2⟩) ?_
  exact truthy_match k3 k4 ⟨rfl, rfl⟩
end
end
section
set_option maxHeartbeats 8000000
open_top hd for PySem.Challenge.rw_pe0245_01
end
section
theorem offC1 : True := by
  w_top off
  trivial
set_option maxHeartbeats 800000

theorem patN {w : World} {h : Heap} (X : (hd.heap_39 w.params).In h) : PatAt h 48 codeN := ⟨_, _, _, _, _, _, X 48 _ rfl, rfl, rfl, rfl, X 47 _ rfl, rfl⟩
theorem patV {w : World} {h : Heap} (X : (hd.heap_39 w.params).In h) : PatAt h 53 codeV := ⟨_, _, _, _, _, _, X 53 _ rfl, rfl, rfl, rfl, X 52 _ rfl, rfl⟩

theorem truthy_go {M : Model} {A : Around} {s : Shared} {E : Value → Shared → Prop} {v : Value} {Q : Bool → Shared → Prop} (T : wpAny M A (truthy v) (fun b s' => b = true ∧ s' = s) (fun _ _ => False) s) (h : Q true s) : wpAny M A (truthy v) Q E s :=
  wpAny_mono T (fun b s' e => by obtain ⟨rfl, rfl⟩ := e; exact h) fun _ _ e => e.elim

local macro_rules | `(tactic| walk_at "getMethod ref") => `(tactic| ((with_reducible show wpAny _ _ (getMethod (Value.ref _) (Str.ofString "search") _) _ _ _); k_dflt (first | refine getM_search (patN (by k_in)) ?_ | refine getM_search (patV (by k_in)) ?_)))
local macro_rules | `(tactic| walk_at "call builtin:re.Pattern.search") => `(tactic| (k_dflt (first
  | refine search_K (by k_asm) (by k_asm) (patN (by k_in)) setN (by first | assumption | omega) ?_ ?_
  | refine search_K (by k_asm) (by k_asm) (patV (by k_in)) setV (by first | assumption | omega) ?_ ?_); (intro hy9); rotate_left; (intro hy9 h' mt' F' N' T9); rotate_left))
local macro_rules | `(tactic| walk_at "truthy ref") => `(tactic| (k_dflt (refine truthy_go (by assumption) ?_)))

abbrev badOf (nm : Bool) : Nat → Bool := if nm = true then badN else badV
abbrev faultMsg : Str := Str.ofString "Control characters not allowed in headers"

theorem conv {w : World} {mean : ExcName → Option Value} {mg mb : Str → Option Value} {dp un : Nat} {gd : Option (List Code)} {cn : Str} {cs : Scope} {a : Addr} {ccd : Value} {cl : List (Str × Addr)} {outer : List Env} {A₀ : Around} {base h₀ : Heap} {L : Addr} {m : Str → Option Value} {s : Shared} {Q E : Value → Shared → Prop} {news : List (Addr × Obj)} {x : Str} {t : Tok} {tb : Addr} {nm : Bool} (B : Below A₀ base outer h₀) (F : Fr h₀ L s.heap m) (X : (hd.heap_39 w.params).In h₀) (N : News h₀ L s.heap news) (T : Top hd.view_39 (looseW hd.view_39 [Str.ofString "tspecials", Str.ofString "_name_disallowed_re", Str.ofString "_value_disallowed_re", Str.ofString "_formatparam"]) mean mg mb h₀) (hk : cs.kind = .function) (hd : dp + 1 < recursionLimit)
    (hx : x.length ≤ 16777216)
    (ret : x.cps.toList.any (badOf nm) = false → ∀ h' tk', Fr h₀ L h' m → News h₀ L h' news → Q (.str x t) { s with heap := h', toks := tk' })
    (err : x.cps.toList.any (badOf nm) = true → ∀ g h' e t' tk' tk'', Fr h₀ L g m → RaisedS base g (envX cn cs L a ccd cl :: outer) e (.type "ValueError") t' [.str faultMsg tk'] news h' → g.UpToSlots h' → E (.ref e) { s with heap := h', toks := tk'' }) :
    wpAny (model PySem.Challenge.rw_pe0245_01.row.prog w) (ktrTop dp un gd cn cs L a ccd cl outer) (call (.ref 83) [.ref tb, .str x t] [(Str.ofString "name", .bool nm)]) Q E s := by
  revert X
  k_fill
  intro X
  refine wpAny_call ?_
  k_dflt (refine' code_def ?k1 ?k2 ?k3 ?k4 ?k5 ?kA ?kF ?kK ?k6 ?k7 ?k8 ?k9 ?kB ?_ ?c2 ?c3 ?c4 ?c5; (case kA => exact rfl); (case kF => exact rfl); (case kK => first | assumption | exact rfl); (case k1 => k_asm); (case k2 => k_asm); (case k3 => k_asm); (case k4 => k_asm); (case k5 => k_asm); (case k6 => k_is); (case k7 => k_is); (case k8 => ktr_room); (case k9 => first | exact BindsTo.of_eq rfl | exact binds_K (by k_in) rfl (by k_is) rfl rfl rfl); (case c5 => decide); (case kB => exact locs rfl); (case c2 => exact rfl); (case c3 => exact rfl); (case c4 => exact rfl); k_whole; intro g1 L1 h1 FG1 F1 N1 B1 X1 T1; (try dsimp only); (try k_lift B1); (try k_fold))
  have hD9 : KtsDicts [] h₀ := ktsDicts_nil
  k_steps
  · subst_vars
    exact ret (by assumption) _ _ (by k_asm) (by k_asm)
  · subst_vars
    exact err (by assumption) _ _ _ _ _ _ (by assumption) (by assumption) (by assumption)
  · subst_vars
    exact ret (by assumption) _ _ (by k_asm) (by k_asm)
  · subst_vars
    exact err (by assumption) _ _ _ _ _ _ (by assumption) (by assumption) (by assumption)
end
local macro_rules | `(tactic| walk_at "call ref") => `(tactic| ((with_reducible show wpAny _ _ (call (Value.ref 83) _ _) _ _ _); k_dflt (refine' conv ?k1 ?k2 ?k3 ?k4 ?k5 ?kK ?kd ?kx ?_ ?_; (case k1 => k_asm); (case k2 => k_asm); (case k3 => k_asm); (case k4 => k_asm); (case k5 => k_asm); (case kK => first | exact rfl | assumption); (case kd => ktr_room); (case kx => first | assumption | omega | decide)); (intro hy9 h9 tk9 F9 N9; (try dsimp only); (try k_fold)); rotate_left; (intro hy9 g9 h9 e9 t9 tk9 tk9' FG9 S9 U9; (try dsimp only)); rotate_left))
section
theorem offC2 : True := by
  w_top off
  trivial
set_option maxHeartbeats 400000
open LCg LCp PyProof.Rows.LCt

theorem slice_all (vs : List Value) : (slicePick vs.toArray none none none).toList = vs := by
  have e : sliceBounds none none none vs.toArray.size = (((0 : Nat) : Int), ((vs.toArray.size : Nat) : Int), 1) := by
    simp [sliceBounds]
  rw [kmk_pick_nat _ e]
  simp

theorem items {w : World} {mean : ExcName → Option Value} {mg mb : Str → Option Value} {dp un : Nat} {gd : Option (List Code)} {cn : Str} {cs : Scope} {a : Addr} {ccd : Value} {cl : List (Str × Addr)} {outer : List Env} {A₀ : Around} {base h₀ : Heap} {L : Addr} {m : Str → Option Value} {s : Shared} {Q E : Value → Shared → Prop} {news : List (Addr × Obj)} {tb d l : Addr} {kh : Int} {kt : Tok} {nd nl : Nat} {vs : List Value} (B : Below A₀ base outer h₀) (F : Fr h₀ L s.heap m) (X : (hd.heap_39 w.params).In h₀) (N : News h₀ L s.heap news) (T : Top hd.view_39 (looseW hd.view_39 [Str.ofString "tspecials", Str.ofString "_name_disallowed_re", Str.ofString "_value_disallowed_re", Str.ofString "_formatparam"]) mean mg mb h₀) (hk : cs.kind = .function) (hd : dp + 1 < recursionLimit) (hu : un + 8 < cLine)
    (htb : (tb, instObj 184 d) ∈ news) (hdd : (d, dictOf [⟨kh, .str (Str.ofString "_headers") kt, .ref l⟩] nd) ∈ news) (hl : (l, listOf vs.toArray nl) ∈ news) (hlen : vs.length ≤ 1000)
    (ret : ∀ D h' tk', Fr h₀ L h' m → News h₀ L h' ((D, listOf vs.toArray 0) :: news) → (∀ p ∈ news, p.1 < D) → Q (.ref D) { s with heap := h', toks := tk' }) :
    wpAny (model PySem.Challenge.rw_pe0245_01.row.prog w) (ktrTop dp un gd cn cs L a ccd cl outer) (call (.ref 148) [.ref tb]) Q E s := by
  revert X
  k_fill
  intro X
  refine wpAny_call ?_
  k_dflt cell_enter
  k_steps
  refine' kmk_slice_lit (lo := none) (hi := none) ?k1 ?k2 (News.isList ?k3 ?k4) .none .none (slice_all vs) ?_ ?hs ?ht ?hz
  case k1 => k_asm
  case k2 => k_asm
  case k3 => k_asm
  case k4 => k_mem
  case hs => with_unfolding_all rfl
  case ht => intro _; with_unfolding_all rfl
  case hz => rw [sizeLine_eq]; simp; omega
  intro D h9 F9 N9 l9
  k_steps
  exact ret D _ _ (by k_asm) (by k_asm) l9

local macro_rules | `(tactic| walk_at "eval ListComp") => `(tactic| refine Stop.out ?_)

theorem values {w : World} {mean : ExcName → Option Value} {mg mb : Str → Option Value} {dp un : Nat} {gd : Option (List Code)} {cn : Str} {cs : Scope} {a : Addr} {ccd : Value} {cl : List (Str × Addr)} {outer : List Env} {A₀ : Around} {base h₀ : Heap} {L : Addr} {m : Str → Option Value} {s : Shared} {Q E : Value → Shared → Prop} {news : List (Addr × Obj)} {tb d l : Addr} {kh : Int} {kt : Tok} {nd nl : Nat} {vs : List Value} {ps : List (Value × Value)} (B : Below A₀ base outer h₀) (F : Fr h₀ L s.heap m) (X : (hd.heap_39 w.params).In h₀) (N : News h₀ L s.heap news) (T : Top hd.view_39 (looseW hd.view_39 [Str.ofString "tspecials", Str.ofString "_name_disallowed_re", Str.ofString "_value_disallowed_re", Str.ofString "_formatparam"]) mean mg mb h₀) (hk : cs.kind = .function) (hd : dp + 1 < recursionLimit) (hu : un + 8 < cLine)
    (htb : (tb, instObj 184 d) ∈ news) (hdd : (d, dictOf [⟨kh, .str (Str.ofString "_headers") kt, .ref l⟩] nd) ∈ news) (hl : (l, listOf vs.toArray nl) ∈ news) (hlen : vs.length ≤ 1000) (hp : PairsAt news vs ps)
    (ret : ∀ D h' tk', Fr h₀ L h' m → News h₀ L h' ((D, lst (ps.map (·.2))) :: news) → Off1 D news → Q (.ref D) { s with heap := h', toks := tk' }) :
    wpAny (model PySem.Challenge.rw_pe0245_01.row.prog w) (ktrTop dp un gd cn cs L a ccd cl outer) (call (.ref 141) [.ref tb]) Q E s := by
  revert X
  k_fill
  intro X
  refine wpAny_call ?_
  k_dflt cell_enter
  k_steps
  unfold Stop
  refine ListComp_P (cl := []) (by k_asm) rfl (by decide) rfl (by decide) rfl rfl (by decide) ?_
  k_steps
  refine SrcLP.ledger rfl (by k_asm) (by k_asm) hl (by rw [sizeLine_eq]; simp; omega) ?_
  intro g9
  refine restP (fun p => p.2) (.inr ⟨_, hl, rfl, _, rfl⟩) hp ?_ ?_
  · intro p ys I oI C oC D m₂ h tk E' hpm ho h1 h2 F9 N9
    k_steps
    exact Quiet.mk (by k_asm) (by k_asm) (fun _ h => h)
  · intro D h tk F9 N9 off
    k_steps
    exact ret D _ _ (by k_asm) (by k_asm) off
end
section
theorem offD3 : True := by
  w_top off
  trivial
set_option maxHeartbeats 800000
open LCg LCp PyProof.Rows.LCt

local macro_rules | `(tactic| walk_at "execs cons") => `(tactic| ((with_reducible show wpAny _ _ _ _ _ (Shared.mk _ _ _ (HAdd.hAdd _ _) _)); refine gentoks ?_ (by omega); intro tk9 htk9))
local macro_rules | `(tactic| walk_at "execs nil") => `(tactic| ((with_reducible show wpAny _ _ _ _ _ (Shared.mk _ _ _ (HAdd.hAdd _ _) _)); refine gentoks ?_ (by omega); intro tk9 htk9))
local macro_rules | `(tactic| walk_at "call builtin:str.replace") => `(tactic| ((with_reducible show wpAny _ _ (call (Value.builtin "str.replace") [Value.str _ _, Value.str _ _, Value.str _ _]) _ _ _); (refine replace_pos 6 _ (by rfl) (by (try dsimp only); omega) (by (try dsimp only); (show @Ne Nat _ _); omega) (by (try dsimp only); (show @Ne Nat _ _); omega) (by (try dsimp only); (show @Ne Nat _ _); omega) (by decide) (by first | assumption | omega) (by decide) (by decide) ?_); intro t9 k9 hk9 hl9; (try dsimp only)))

theorem fparam {w : World} {mean : ExcName → Option Value} {mg mb : Str → Option Value} {dp un : Nat} {gd : Option (List Code)} {cn : Str} {cs : Scope} {a : Addr} {ccd : Value} {cl : List (Str × Addr)} {outer : List Env} {A₀ : Around} {base h₀ : Heap} {L : Addr} {m : Str → Option Value} {s : Shared} {Q E : Value → Shared → Prop} {news : List (Addr × Obj)} {x v : Str} {t u : Tok} (B : Below A₀ base outer h₀) (F : Fr h₀ L s.heap m) (X : (hd.heap_39 w.params).In h₀) (N : News h₀ L s.heap news) (T : Top hd.view_39 (looseW hd.view_39 [Str.ofString "tspecials", Str.ofString "_name_disallowed_re", Str.ofString "_value_disallowed_re", Str.ofString "_formatparam"]) mean mg mb h₀) (hk : cs.kind = .function) (hd : dp + 1 < recursionLimit) (hp : 1 ≤ s.toks) (hx : x.length ≤ 100) (hv : v.length ≤ 10000)
    (ret0 : v.length = 0 → ∀ h' tk', Fr h₀ L h' m → News h₀ L h' news → Q (.str x t) { s with heap := h', toks := tk' })
    (ret1 : v.length ≠ 0 → ∀ t' h' tk', Fr h₀ L h' m → News h₀ L h' news → Q (.str (x ++ Str.ofString "=\"" ++ quoted v ++ Str.ofString "\"") t') { s with heap := h', toks := tk' }) :
    wpAny (model PySem.Challenge.rw_pe0245_01.row.prog w) (ktrTop dp un gd cn cs L a ccd cl outer) (call (.ref 61) [.str x t, .str v u]) Q E s := by
  revert X
  k_fill
  intro X
  refine wpAny_call ?_
  k_dflt (refine' code_def ?k1 ?k2 ?k3 ?k4 ?k5 ?kA ?kF ?kK ?k6 ?k7 ?k8 ?k9 ?kB ?_ ?c2 ?c3 ?c4 ?c5; (case kA => exact rfl); (case kF => exact rfl); (case kK => first | assumption | exact rfl); (case k1 => k_asm); (case k2 => k_asm); (case k3 => k_asm); (case k4 => k_asm); (case k5 => k_asm); (case k6 => k_is); (case k7 => k_is); (case k8 => ktr_room); (case k9 => first | exact BindsTo.of_eq rfl | exact binds_K (by k_in) rfl (by k_is) rfl rfl rfl); (case c5 => decide); (case kB => exact locs rfl); (case c2 => exact rfl); (case c3 => exact rfl); (case c4 => exact rfl); k_whole; intro g1 L1 h1 FG1 F1 N1 B1 X1 T1; (try dsimp only); (try k_lift B1); (try k_fold))
  k_steps
  · rw [Str.empty_append]
    exact ret1 (by omega) _ _ _ (by k_asm) (by k_asm)
  · exact ret0 (by omega) _ _ (by k_asm) (by k_asm)
end
section
/-- «if c in text: text = text.replace(c, r)» as one step -/
theorem esc_if {prog : Program} {w : World} {A : Around} {E : Value → Shared → Prop} {s : Shared} {h₀ : Heap} {L a : Addr} {m : Str → Option Value} {news : List (Addr × Obj)} {name : Str} {scope : Scope} {cd : Value} {c : Nat} {cs rs x : Str} {t : Tok} {Q : Flow → Shared → Prop}
    {k1 k2 k3 : Nat} {p1 p2 p3 p4 p5 p6 p7 p8 p9 p10 p11 : Pos}
    (F : Fr h₀ L s.heap m) (N : News h₀ L s.heap news) (hc : cs = ⟨#[c]⟩) (hm : m (Str.ofString "text") = some (.str x t)) (hp : 1 ≤ s.toks) (hx : x.length ≤ 1048576) (hr : rs.length ≤ 6) (hne : (cs == rs) = false)
    (hk : scope.kind = .function) (hl : (envOf name scope L a cd).kindOf (Str.ofString "text") = some .local)
    {pl : Sem Bool}
    (he : eval (.Call (.Attribute (.Name (Str.ofString "text") p5) (Str.ofString "replace") p6) [.Constant (.str cs) k2 p7, .Constant (.str rs) k3 p8] [] p9) (envOf name scope L a cd) = (do
      let ov ← eval (.Name (Str.ofString "text") p5) (envOf name scope L a cd)
      standAt p6.atName
      let (f, first) ← holding [ov] (getMethod ov (Str.ofString "replace") pl)
      callWith p9 f first (backTo p9 (starEach [.Constant (.str cs) k2 p7, .Constant (.str rs) k3 p8] (envOf name scope L a cd))) []))
    (h : ∀ h' tk t', 1 ≤ tk → (Txt.replace x cs rs).length ≤ 6 * x.length → Fr h₀ L h' (fun y => if y = Str.ofString "text" then some (.str (Txt.replace x cs rs) t') else m y) → News h₀ L h' news → Q .next { s with heap := h', toks := tk }) :
    wpAny (model prog w) A (exec (.If (.Compare (.Constant (.str cs) k1 p1) [.In] [.Name (Str.ofString "text") p2] p3)
      [.Assign [.Name (Str.ofString "text") p4] (.Call (.Attribute (.Name (Str.ofString "text") p5) (Str.ofString "replace") p6) [.Constant (.str cs) k2 p7, .Constant (.str rs) k3 p8] [] p9) p10] [] p11) (envOf name scope L a cd)) Q E s := by
  refine wpAny_If (wpAny_isTrue_Compare1 (wpAny_Constant_str (ld F hm (P.in_str ?_) hk hl)))
  show wpAny _ _ (truthy (.bool _)) _ _ _
  refine wpAny_pure ?_
  subst hc
  rw [StrLaws.found_one]
  by_cases hin : c ∈ x.cps.toList
  · rw [decide_eq_true hin, if_pos rfl]
    refine wpAny_execs_cons (wpAny_Assign_Name ?_)
    refine MethodCall_ (pl := pl) ?_ he
    refine ld F hm ?_ hk hl
    refine getMethod_builtin (typeIs_str _ _ _) PySem.F.plainAttrs_str PySem.F.slot_str_replace PySem.F.type_str_replace (fun _ e => nomatch e) ?_
    refine callWith_method1 ?_
    show wpAny _ _ (spliced [(false, eval (.Constant (.str ⟨#[c]⟩) k2 p7) (envOf name scope L a cd)), (false, eval (.Constant (.str rs) k3 p8) (envOf name scope L a cd))]) _ _ _
    refine Calls.spliced_cons (wpAny_Constant_str (Calls.spliced_cons (wpAny_Constant_str (Calls.spliced_nil ?_))))
    refine replace_pos 6 c rfl ?_ ?_ ?_ ?_ hne hx hr (by decide) fun t' k hk1 hl1 => ?_
    · show 1 ≤ s.toks + 1 + 1 + 1
      omega
    · show s.toks + 1 ≠ 0
      omega
    · show s.toks + 1 + 1 ≠ 0
      omega
    · show s.toks + 1 ≠ s.toks + 1 + 1
      omega
    · refine stN (s := { s with toks := k }) F N (fun h' F' N' => ?_) hk hl
      refine wpAny_execs_nil ?_
      exact h h' (k + 1) t' (by omega) hl1 F' N'
  · rw [decide_eq_false hin, if_neg (by exact Bool.false_ne_true)]
    refine wpAny_execs_nil ?_
    refine h s.heap (s.toks + 1) t (by omega) (by rw [replace_none x rs c hin]; omega) ?_ N
    rw [replace_none x rs c hin]
    have e : (fun y => if y = Str.ofString "text" then some (Value.str x t) else m y) = m := by
      funext y
      by_cases hy : y = Str.ofString "text"
      · rw [if_pos hy, hy, hm]
      · rw [if_neg hy]
    rw [e]
    exact F
end
section
theorem offE1 : True := by
  w_top off
  trivial
set_option maxHeartbeats 800000

local macro_rules | `(tactic| walk_at "execs cons") => `(tactic| ((with_reducible show wpAny _ _ _ _ _ (Shared.mk _ _ _ (HAdd.hAdd _ _) _)); refine gentoks ?_ (by omega); intro tk9 htk9))
local macro_rules | `(tactic| walk_at "execs nil") => `(tactic| ((with_reducible show wpAny _ _ _ _ _ (Shared.mk _ _ _ (HAdd.hAdd _ _) _)); refine gentoks ?_ (by omega); intro tk9 htk9))
local macro_rules | `(tactic| walk_at "call builtin:str.replace") => `(tactic| ((with_reducible show wpAny _ _ (call (Value.builtin "str.replace") [Value.str _ _, Value.str _ _, Value.str _ _]) _ _ _); (refine replace_pos 6 _ (by rfl) (by (try dsimp only); omega) (by (try dsimp only); (show @Ne Nat _ _); omega) (by (try dsimp only); (show @Ne Nat _ _); omega) (by (try dsimp only); (show @Ne Nat _ _); omega) (by decide) (by first | assumption | omega) (by decide) (by decide) ?_); intro t9 k9 hk9 hl9; (try dsimp only)))
local macro_rules | `(tactic| walk_at "exec If") => `(tactic| (k_dflt (refine' esc_if ?k1 ?k2 ?kc ?km ?kp ?kx ?kr ?kn ?kk ?kl ?ke ?_; (case k1 => k_asm); (case k2 => k_asm); (case kc => exact rfl); (case km => exact rfl); (case kp => (try dsimp only); omega); (case kx => omega); (case kr => decide); (case kn => decide); (case kk => exact rfl); (case kl => exact rfl); (case ke => exact rfl)); intro h9 tk9 t9 htk9 hl9 F9 N9; (try dsimp only)))

theorem esc0 {w : World} {mean : ExcName → Option Value} {mg mb : Str → Option Value} {dp un : Nat} {gd : Option (List Code)} {cn : Str} {cs : Scope} {a : Addr} {ccd : Value} {cl : List (Str × Addr)} {outer : List Env} {A₀ : Around} {base h₀ : Heap} {L : Addr} {m : Str → Option Value} {s : Shared} {Q E : Value → Shared → Prop} {news : List (Addr × Obj)} {x : Str} {t : Tok} (B : Below A₀ base outer h₀) (F : Fr h₀ L s.heap m) (X : (hd.heap_39 w.params).In h₀) (N : News h₀ L s.heap news) (T : Top hd.view_39 (looseW hd.view_39 [Str.ofString "tspecials", Str.ofString "_name_disallowed_re", Str.ofString "_value_disallowed_re", Str.ofString "_formatparam"]) mean mg mb h₀) (hk : cs.kind = .function) (hd : dp + 1 < recursionLimit) (hp : 1 ≤ s.toks) (hx : x.length ≤ 18)
    (ret : ∀ t' h' tk', 1 ≤ tk' → Fr h₀ L h' m → News h₀ L h' news → Q (.str (esc 0 x) t') { s with heap := h', toks := tk' }) :
    wpAny (model PySem.Challenge.rw_pe0245_01.row.prog w) (ktrTop dp un gd cn cs L a ccd cl outer) (call (.ref 202) [.str x t]) Q E s := by
  revert X
  k_fill
  intro X
  refine wpAny_call ?_
  k_dflt (refine' code_def ?k1 ?k2 ?k3 ?k4 ?k5 ?kA ?kF ?kK ?k6 ?k7 ?k8 ?k9 ?kB ?_ ?c2 ?c3 ?c4 ?c5; (case kA => exact rfl); (case kF => exact rfl); (case kK => first | assumption | exact rfl); (case k1 => k_asm); (case k2 => k_asm); (case k3 => k_asm); (case k4 => k_asm); (case k5 => k_asm); (case k6 => k_is); (case k7 => k_is); (case k8 => ktr_room); (case k9 => first | exact BindsTo.of_eq rfl | exact binds_K (by k_in) rfl (by k_is) rfl rfl rfl); (case c5 => decide); (case kB => exact locs rfl); (case c2 => exact rfl); (case c3 => exact rfl); (case c4 => exact rfl); k_whole; intro g1 L1 h1 FG1 F1 N1 B1 X1 T1; (try dsimp only); (try k_lift B1); (try k_fold))
  k_steps
  exact ret _ _ _ (by first | assumption | omega) (by k_asm) (by k_asm)

theorem esc1 {w : World} {mean : ExcName → Option Value} {mg mb : Str → Option Value} {dp un : Nat} {gd : Option (List Code)} {cn : Str} {cs : Scope} {a : Addr} {ccd : Value} {cl : List (Str × Addr)} {outer : List Env} {A₀ : Around} {base h₀ : Heap} {L : Addr} {m : Str → Option Value} {s : Shared} {Q E : Value → Shared → Prop} {news : List (Addr × Obj)} {x : Str} {t : Tok} (B : Below A₀ base outer h₀) (F : Fr h₀ L s.heap m) (X : (hd.heap_39 w.params).In h₀) (N : News h₀ L s.heap news) (T : Top hd.view_39 (looseW hd.view_39 [Str.ofString "tspecials", Str.ofString "_name_disallowed_re", Str.ofString "_value_disallowed_re", Str.ofString "_formatparam"]) mean mg mb h₀) (hk : cs.kind = .function) (hd : dp + 1 < recursionLimit) (hp : 1 ≤ s.toks) (hx : x.length ≤ 18)
    (ret : ∀ t' h' tk', 1 ≤ tk' → Fr h₀ L h' m → News h₀ L h' news → Q (.str (esc 1 x) t') { s with heap := h', toks := tk' }) :
    wpAny (model PySem.Challenge.rw_pe0245_01.row.prog w) (ktrTop dp un gd cn cs L a ccd cl outer) (call (.ref 209) [.str x t]) Q E s := by
  revert X
  k_fill
  intro X
  refine wpAny_call ?_
  k_dflt (refine' code_def ?k1 ?k2 ?k3 ?k4 ?k5 ?kA ?kF ?kK ?k6 ?k7 ?k8 ?k9 ?kB ?_ ?c2 ?c3 ?c4 ?c5; (case kA => exact rfl); (case kF => exact rfl); (case kK => first | assumption | exact rfl); (case k1 => k_asm); (case k2 => k_asm); (case k3 => k_asm); (case k4 => k_asm); (case k5 => k_asm); (case k6 => k_is); (case k7 => k_is); (case k8 => ktr_room); (case k9 => first | exact BindsTo.of_eq rfl | exact binds_K (by k_in) rfl (by k_is) rfl rfl rfl); (case c5 => decide); (case kB => exact locs rfl); (case c2 => exact rfl); (case c3 => exact rfl); (case c4 => exact rfl); k_whole; intro g1 L1 h1 FG1 F1 N1 B1 X1 T1; (try dsimp only); (try k_lift B1); (try k_fold))
  k_steps
  exact ret _ _ _ (by first | assumption | omega) (by k_asm) (by k_asm)

theorem esc2 {w : World} {mean : ExcName → Option Value} {mg mb : Str → Option Value} {dp un : Nat} {gd : Option (List Code)} {cn : Str} {cs : Scope} {a : Addr} {ccd : Value} {cl : List (Str × Addr)} {outer : List Env} {A₀ : Around} {base h₀ : Heap} {L : Addr} {m : Str → Option Value} {s : Shared} {Q E : Value → Shared → Prop} {news : List (Addr × Obj)} {x : Str} {t : Tok} (B : Below A₀ base outer h₀) (F : Fr h₀ L s.heap m) (X : (hd.heap_39 w.params).In h₀) (N : News h₀ L s.heap news) (T : Top hd.view_39 (looseW hd.view_39 [Str.ofString "tspecials", Str.ofString "_name_disallowed_re", Str.ofString "_value_disallowed_re", Str.ofString "_formatparam"]) mean mg mb h₀) (hk : cs.kind = .function) (hd : dp + 1 < recursionLimit) (hp : 1 ≤ s.toks) (hx : x.length ≤ 18)
    (ret : ∀ t' h' tk', 1 ≤ tk' → Fr h₀ L h' m → News h₀ L h' news → Q (.str (esc 2 x) t') { s with heap := h', toks := tk' }) :
    wpAny (model PySem.Challenge.rw_pe0245_01.row.prog w) (ktrTop dp un gd cn cs L a ccd cl outer) (call (.ref 216) [.str x t]) Q E s := by
  revert X
  k_fill
  intro X
  refine wpAny_call ?_
  k_dflt (refine' code_def ?k1 ?k2 ?k3 ?k4 ?k5 ?kA ?kF ?kK ?k6 ?k7 ?k8 ?k9 ?kB ?_ ?c2 ?c3 ?c4 ?c5; (case kA => exact rfl); (case kF => exact rfl); (case kK => first | assumption | exact rfl); (case k1 => k_asm); (case k2 => k_asm); (case k3 => k_asm); (case k4 => k_asm); (case k5 => k_asm); (case k6 => k_is); (case k7 => k_is); (case k8 => ktr_room); (case k9 => first | exact BindsTo.of_eq rfl | exact binds_K (by k_in) rfl (by k_is) rfl rfl rfl); (case c5 => decide); (case kB => exact locs rfl); (case c2 => exact rfl); (case c3 => exact rfl); (case c4 => exact rfl); k_whole; intro g1 L1 h1 FG1 F1 N1 B1 X1 T1; (try dsimp only); (try k_lift B1); (try k_fold))
  k_steps
  exact ret _ _ _ (by first | assumption | omega) (by k_asm) (by k_asm)

theorem esc3 {w : World} {mean : ExcName → Option Value} {mg mb : Str → Option Value} {dp un : Nat} {gd : Option (List Code)} {cn : Str} {cs : Scope} {a : Addr} {ccd : Value} {cl : List (Str × Addr)} {outer : List Env} {A₀ : Around} {base h₀ : Heap} {L : Addr} {m : Str → Option Value} {s : Shared} {Q E : Value → Shared → Prop} {news : List (Addr × Obj)} {x : Str} {t : Tok} (B : Below A₀ base outer h₀) (F : Fr h₀ L s.heap m) (X : (hd.heap_39 w.params).In h₀) (N : News h₀ L s.heap news) (T : Top hd.view_39 (looseW hd.view_39 [Str.ofString "tspecials", Str.ofString "_name_disallowed_re", Str.ofString "_value_disallowed_re", Str.ofString "_formatparam"]) mean mg mb h₀) (hk : cs.kind = .function) (hd : dp + 1 < recursionLimit) (hp : 1 ≤ s.toks) (hx : x.length ≤ 18)
    (ret : ∀ t' h' tk', 1 ≤ tk' → Fr h₀ L h' m → News h₀ L h' news → Q (.str (esc 3 x) t') { s with heap := h', toks := tk' }) :
    wpAny (model PySem.Challenge.rw_pe0245_01.row.prog w) (ktrTop dp un gd cn cs L a ccd cl outer) (call (.ref 223) [.str x t]) Q E s := by
  revert X
  k_fill
  intro X
  refine wpAny_call ?_
  k_dflt (refine' code_def ?k1 ?k2 ?k3 ?k4 ?k5 ?kA ?kF ?kK ?k6 ?k7 ?k8 ?k9 ?kB ?_ ?c2 ?c3 ?c4 ?c5; (case kA => exact rfl); (case kF => exact rfl); (case kK => first | assumption | exact rfl); (case k1 => k_asm); (case k2 => k_asm); (case k3 => k_asm); (case k4 => k_asm); (case k5 => k_asm); (case k6 => k_is); (case k7 => k_is); (case k8 => ktr_room); (case k9 => first | exact BindsTo.of_eq rfl | exact binds_K (by k_in) rfl (by k_is) rfl rfl rfl); (case c5 => decide); (case kB => exact locs rfl); (case c2 => exact rfl); (case c3 => exact rfl); (case c4 => exact rfl); k_whole; intro g1 L1 h1 FG1 F1 N1 B1 X1 T1; (try dsimp only); (try k_lift B1); (try k_fold))
  k_steps
  exact ret _ _ _ (by first | assumption | omega) (by k_asm) (by k_asm)

theorem esc4 {w : World} {mean : ExcName → Option Value} {mg mb : Str → Option Value} {dp un : Nat} {gd : Option (List Code)} {cn : Str} {cs : Scope} {a : Addr} {ccd : Value} {cl : List (Str × Addr)} {outer : List Env} {A₀ : Around} {base h₀ : Heap} {L : Addr} {m : Str → Option Value} {s : Shared} {Q E : Value → Shared → Prop} {news : List (Addr × Obj)} {x : Str} {t : Tok} (B : Below A₀ base outer h₀) (F : Fr h₀ L s.heap m) (X : (hd.heap_39 w.params).In h₀) (N : News h₀ L s.heap news) (T : Top hd.view_39 (looseW hd.view_39 [Str.ofString "tspecials", Str.ofString "_name_disallowed_re", Str.ofString "_value_disallowed_re", Str.ofString "_formatparam"]) mean mg mb h₀) (hk : cs.kind = .function) (hd : dp + 1 < recursionLimit) (hp : 1 ≤ s.toks) (hx : x.length ≤ 18)
    (ret : ∀ t' h' tk', 1 ≤ tk' → Fr h₀ L h' m → News h₀ L h' news → Q (.str (esc 4 x) t') { s with heap := h', toks := tk' }) :
    wpAny (model PySem.Challenge.rw_pe0245_01.row.prog w) (ktrTop dp un gd cn cs L a ccd cl outer) (call (.ref 230) [.str x t]) Q E s := by
  revert X
  k_fill
  intro X
  refine wpAny_call ?_
  k_dflt (refine' code_def ?k1 ?k2 ?k3 ?k4 ?k5 ?kA ?kF ?kK ?k6 ?k7 ?k8 ?k9 ?kB ?_ ?c2 ?c3 ?c4 ?c5; (case kA => exact rfl); (case kF => exact rfl); (case kK => first | assumption | exact rfl); (case k1 => k_asm); (case k2 => k_asm); (case k3 => k_asm); (case k4 => k_asm); (case k5 => k_asm); (case k6 => k_is); (case k7 => k_is); (case k8 => ktr_room); (case k9 => first | exact BindsTo.of_eq rfl | exact binds_K (by k_in) rfl (by k_is) rfl rfl rfl); (case c5 => decide); (case kB => exact locs rfl); (case c2 => exact rfl); (case c3 => exact rfl); (case c4 => exact rfl); k_whole; intro g1 L1 h1 FG1 F1 N1 B1 X1 T1; (try dsimp only); (try k_lift B1); (try k_fold))
  k_steps
  exact ret _ _ _ (by first | assumption | omega) (by k_asm) (by k_asm)
end
local macro_rules | `(tactic| k_mem) => `(tactic| first | exact List.mem_cons_self | assumption | (refine List.mem_cons_of_mem _ ?_; k_mem))
section
theorem offC3 : True := by
  w_top off
  trivial
set_option maxHeartbeats 800000
open LCg LCp PyProof.Rows.LCt

/-- pairs of texts, with whatever tokens -/
inductive StrPairs : List (Value × Value) → List (Str × Str) → Prop
  | nil : StrPairs [] []
  | cons {k v t u ps hs} (r : StrPairs ps hs) : StrPairs ((.str k t, .str v u) :: ps) ((k, v) :: hs)

theorem StrPairs.length {ps : List (Value × Value)} {hs : List (Str × Str)} (h : StrPairs ps hs) : ps.length = hs.length := by
  induction h with
  | nil => rfl
  | cons r ih => simp [ih]
theorem StrPairs.pick {ps : List (Value × Value)} {hs : List (Str × Str)} (h : StrPairs ps hs) : ∀ bs : List Bool, StrPairs (pick ps bs) (Mine.pick hs bs) := by
  induction h with
  | nil => intro bs; exact .nil
  | cons r ih =>
    intro bs
    cases bs with
    | nil => exact .nil
    | cons b bs =>
      rw [pick_cons, pick_cons]
      cases b
      · exact ih bs
      · exact .cons (ih bs)
theorem StrPairs.get {ps : List (Value × Value)} {hs : List (Str × Str)} (h : StrPairs ps hs) : ∀ (i : Nat) (p : Value × Value), ps[i]? = some p → ∃ k v t u, p = (.str k t, .str v u) ∧ hs[i]? = some (k, v) := by
  induction h with
  | nil => intro i p h; simp at h
  | cons r ih =>
    intro i p h
    cases i with
    | zero => simp at h; subst h; exact ⟨_, _, _, _, rfl, rfl⟩
    | succ i => simp at h; simpa using ih i p h
theorem StrPairs.mem {ps : List (Value × Value)} {hs : List (Str × Str)} (h : StrPairs ps hs) {p : Value × Value} (hp : p ∈ ps) : ∃ k v t u, p = (.str k t, .str v u) ∧ (k, v) ∈ hs := by
  induction h with
  | nil => cases hp
  | cons r ih =>
    rcases List.mem_cons.mp hp with rfl | hp
    · exact ⟨_, _, _, _, rfl, List.mem_cons_self⟩
    · obtain ⟨k, v, t, u, e, hm⟩ := ih hp
      exact ⟨k, v, t, u, e, List.mem_cons_of_mem _ hm⟩
theorem StrPairs.find {ps : List (Value × Value)} {hs : List (Str × Str)} (h : StrPairs ps hs) (q : Value × Value → Bool) (q' : Str × Str → Bool) (e : ∀ k v t u, q (.str k t, .str v u) = q' (k, v)) :
    (ps.find? q = none ∧ hs.find? q' = none) ∨ ∃ k v t u, ps.find? q = some (.str k t, .str v u) ∧ hs.find? q' = some (k, v) := by
  induction h with
  | nil => exact .inl ⟨rfl, rfl⟩
  | @cons k v t u ps hs r ih =>
    have e1 := e k v t u
    cases hq : q' (k, v) with
    | true => exact .inr ⟨k, v, t, u, by simp [List.find?, e1, hq], by simp [List.find?, hq]⟩
    | false =>
      rcases ih with ⟨h1, h2⟩ | ⟨k', v', t', u', h1, h2⟩
      · exact .inl ⟨by simp [List.find?, e1, hq, h1], by simp [List.find?, hq, h2]⟩
      · exact .inr ⟨k', v', t', u', by simp [List.find?, e1, hq, h1], by simp [List.find?, hq, h2]⟩

def hitBy (x : Str) (p : Value × Value) : Bool := match p.1 with | .str k _ => decide (Txt.lower k = Txt.lower x) | _ => false

local macro_rules | `(tactic| walk_at "exec For Tuple Attribute cons nil") => `(tactic| (refine Stop.out ?_))
local macro_rules | `(tactic| walk_at "pyIter ref") => `(tactic| (refine Stop.out ?_))

theorem get {w : World} {mean : ExcName → Option Value} {mg mb : Str → Option Value} {dp un : Nat} {gd : Option (List Code)} {cn : Str} {cs : Scope} {a : Addr} {ccd : Value} {cl : List (Str × Addr)} {outer : List Env} {A₀ : Around} {base h₀ : Heap} {L : Addr} {m : Str → Option Value} {s : Shared} {Q E : Value → Shared → Prop} {news : List (Addr × Obj)} {tb d l : Addr} {kh : Int} {kt : Tok} {nd nl : Nat} {vs : List Value} {ps : List (Value × Value)} {hs : List (Str × Str)} {x : Str} {t : Tok} (B : Below A₀ base outer h₀) (F : Fr h₀ L s.heap m) (X : (hd.heap_39 w.params).In h₀) (N : News h₀ L s.heap news) (T : Top hd.view_39 (looseW hd.view_39 [Str.ofString "tspecials", Str.ofString "_name_disallowed_re", Str.ofString "_value_disallowed_re", Str.ofString "_formatparam"]) mean mg mb h₀) (hk : cs.kind = .function) (hd : dp + 2 < recursionLimit)
    (htb : (tb, instObj 184 d) ∈ news) (hdd : (d, dictOf [⟨kh, .str (Str.ofString "_headers") kt, .ref l⟩] nd) ∈ news) (hl : (l, listOf vs.toArray nl) ∈ news) (hp : PairsAt news vs ps) (hs' : StrPairs ps hs)
    (hx : x.length ≤ 1000) (hnm : ∀ h ∈ hs, h.1.length ≤ 1000)
    (ret : (Txt.lower x).cps.toList.any badN = false → ∀ v h' tk', Fr h₀ L h' m → News h₀ L h' news →
      (match hs.find? (fun p => decide (Txt.lower p.1 = Txt.lower x)) with | some p => ∃ u, v = .str p.2 u | none => v = .none) → Q v { s with heap := h', toks := tk' })
    (err : (Txt.lower x).cps.toList.any badN = true → ∀ g h' e t' tk' tk'', Fr h₀ L g m → RaisedS base g (envX cn cs L a ccd cl :: outer) e (.type "ValueError") t' [.str faultMsg tk'] news h' → g.UpToSlots h' → E (.ref e) { s with heap := h', toks := tk'' }) :
    wpAny (model PySem.Challenge.rw_pe0245_01.row.prog w) (ktrTop dp un gd cn cs L a ccd cl outer) (call (.ref 131) [.ref tb, .str x t]) Q E s := by
  revert X
  k_fill
  intro X
  refine wpAny_call ?_
  k_dflt (refine' code_def ?k1 ?k2 ?k3 ?k4 ?k5 ?kA ?kF ?kK ?k6 ?k7 ?k8 ?k9 ?kB ?_ ?c2 ?c3 ?c4 ?c5; (case kA => exact rfl); (case kF => exact rfl); (case kK => first | assumption | exact rfl); (case k1 => k_asm); (case k2 => k_asm); (case k3 => k_asm); (case k4 => k_asm); (case k5 => k_asm); (case k6 => k_is); (case k7 => k_is); (case k8 => ktr_room); (case k9 => first | exact BindsTo.of_eq rfl | exact binds_K (by k_in) rfl (by k_is) rfl rfl rfl); (case c5 => decide); (case kB => exact locs rfl); (case c2 => exact rfl); (case c3 => exact rfl); (case c4 => exact rfl); k_whole; intro g1 L1 h1 FG1 F1 N1 B1 X1 T1; (try dsimp only); (try k_lift B1); (try k_fold))
  have hD9 : KtsDicts [] h₀ := ktsDicts_nil
  k_steps
  · unfold Stop
    refine For_turns (by k_asm) ?_
    k_steps
    unfold Stop
    refine iter_listTurns rfl (by k_asm) (by k_asm) hl rfl rfl ?_
    intro I hI
    refine turns_pairs0 (Str.ofString "k") (Str.ofString "v") (hitBy x) rfl rfl hp ⟨hl, trivial⟩ hI ?_ ?_ ?_
    · intro p t k a b h tk o hpm hm ho F9 N9
      obtain ⟨k', v', t', u', rfl, hmem⟩ := hs'.mem hpm
      have hk' := hnm _ hmem
      have F8 := F9
      unfold two at F8
      have F7 : Fr g1 L1 h _ := F8
      have N7 : News g1 L1 h _ := N9
      clear F8 F9 N9
      dsimp only at hm
      k_steps
      · refine' pairPost_ret (p := (Value.str k' t', Value.str v' u')) ?h ?F ?N
        case h => exact decide_eq_true (eq_of_beq (by assumption))
        case F => k_asm
        case N => k_asm
      · refine' pairPost_next ?h ?F ?N
        case h => exact decide_eq_false (fun e => by have h1 : (Txt.lower k' == Txt.lower x) = false := by assumption
                                                     rw [e] at h1; simp at h1)
        case F => k_asm
        case N => k_asm
    · intro p h tk m' hf F9 N9
      have F8 : Fr g1 L1 h _ := F9
      have N8 : News g1 L1 h _ := N9
      clear F9 N9
      k_steps
      refine ret (by assumption) _ _ _ (by k_asm) (by k_asm) ?_
      rcases hs'.find (hitBy x) (fun p => decide (Txt.lower p.1 = Txt.lower x)) (fun _ _ _ _ => rfl) with ⟨h1, h2⟩ | ⟨k, v, t, u, h1, h2⟩
      · rw [h1] at hf; cases hf
      · rw [h1] at hf; cases hf
        rw [h2]; exact ⟨u, rfl⟩
    · intro hf a b h tk F9 N9
      have F8 := F9
      unfold two at F8
      have F7 : Fr g1 L1 h _ := F8
      have N7 : News g1 L1 h _ := N9
      clear F8 F9 N9
      k_steps
      refine ret (by assumption) _ _ _ (by k_asm) (by k_asm) ?_
      rcases hs'.find (hitBy x) (fun p => decide (Txt.lower p.1 = Txt.lower x)) (fun _ _ _ _ => rfl) with ⟨h1, h2⟩ | ⟨k, v, t, u, h1, h2⟩
      · rw [h2]
      · rw [h1] at hf; cases hf
  · exact err (by assumption) _ _ _ _ _ _ (by assumption) (by assumption) (by assumption)
end
local macro_rules | `(tactic| k_all) => `(tactic| exact ne_of_all_lt (by assumption) (by omega))
section
theorem offC4 : True := by
  w_top off
  trivial
local macro_rules | `(tactic| walk_at "none") => `(tactic| fail "none")
set_option maxHeartbeats 800000
open LCg LCp PyProof.Rows.LCt

local macro_rules | `(tactic| walk_at "leaving ref") => `(tactic| k_dflt (refine' leave_onX ?k1 ?k2 ?k3 ?k4 ?k5 ?_; (case k4 => assumption); (case k3 => assumption); (case k5 => assumption); (case k1 => exact rfl); (case k2 => exact rfl); intro h9 S9 U9; (try dsimp only at S9 U9 ⊢)))
local macro_rules | `(tactic| walk_at "eval ListComp") => `(tactic| (refine Stop.out ?_))

theorem delitem {w : World} {mean : ExcName → Option Value} {mg mb : Str → Option Value} {dp un : Nat} {gd : Option (List Code)} {cn : Str} {cs : Scope} {a : Addr} {ccd : Value} {cl : List (Str × Addr)} {outer : List Env} {A₀ : Around} {base h₀ : Heap} {L : Addr} {m : Str → Option Value} {s : Shared} {Q E : Value → Shared → Prop} {news : List (Addr × Obj)} {tb d l : Addr} {kh : Int} {kt : Tok} {nd nl : Nat} {vs : List Value} {ps : List (Value × Value)} {hs : List (Str × Str)} {x : Str} {t : Tok} (B : Below A₀ base outer h₀) (F : Fr h₀ L s.heap m) (X : (hd.heap_39 w.params).In h₀) (N : News h₀ L s.heap news) (T : Top hd.view_39 (looseW hd.view_39 [Str.ofString "tspecials", Str.ofString "_name_disallowed_re", Str.ofString "_value_disallowed_re", Str.ofString "_formatparam"]) mean mg mb h₀) (hk : cs.kind = .function) (hd : dp + 2 < recursionLimit)
    (htb : (tb, instObj 184 d) ∈ news) (hdd : (d, dictOf [⟨kh, .str (Str.ofString "_headers") kt, .ref l⟩] nd) ∈ news) (hl : (l, listOf vs.toArray nl) ∈ news) (hp : PairsAt news vs ps) (hs' : StrPairs ps hs)
    (hx : x.length ≤ 1000) (hnm : ∀ h ∈ hs, h.1.length ≤ 1000) (hvs : vs.length ≤ 1000)
    (ret : (Txt.lower x).cps.toList.any badN = false → ∀ h' tk' n', Fr h₀ L h' m → News h₀ L h' (updL news l (listOf (pick vs (hs.map fun h => decide (Txt.lower h.1 ≠ Txt.lower x))).toArray n')) → Q .none { s with heap := h', toks := tk' })
    (err : (Txt.lower x).cps.toList.any badN = true → ∀ g h' e t' tk' tk'', Fr h₀ L g m → RaisedS base g (envX cn cs L a ccd cl :: outer) e (.type "ValueError") t' [.str faultMsg tk'] news h' → g.UpToSlots h' → E (.ref e) { s with heap := h', toks := tk'' }) :
    wpAny (model PySem.Challenge.rw_pe0245_01.row.prog w) (ktrTop dp un gd cn cs L a ccd cl outer) (call (.ref 102) [.ref tb, .str x t]) Q E s := by
  revert X
  k_fill
  intro X
  refine wpAny_call ?_
  k_dflt (refine' code_defC ?k1 ?k2 ?k3 ?k4 ?k5 ?kA ?kF ?kK ?k6 ?k7 ?k8 ?k9 ?kB ?kD ?_ ?c2 ?c3 ?c4; (case kA => exact rfl); (case kF => exact rfl); (case kK => first | assumption | exact rfl); (case k1 => k_asm); (case k2 => k_asm); (case k3 => k_asm); (case k4 => k_asm); (case k5 => k_asm); (case k6 => k_is); (case k7 => k_is); (case k8 => ktr_room); (case k9 => first | exact BindsTo.of_eq rfl | exact binds_K (by k_in) rfl (by k_is) rfl rfl rfl); (case kB => exact rfl); (case kD => decide +kernel); (case c2 => exact rfl); (case c3 => exact rfl); (case c4 => exact rfl); k_whole; intro g1 L1 h1 tk1 cells1 FG1 F1 N1 Y1 B1 X1 T1 l1; (try k_lt l1); k_cells Y1; (try simp only [List.cons_append, List.nil_append] at N1); (try dsimp only); (try k_lift B1); (try k_fold))
  have hD9 : KtsDicts [] h₀ := ktsDicts_nil
  k_steps
  · unfold Stop
    refine ListComp_T (by k_asm) (by rfl) (by decide) (by rfl) (by decide) (by rfl) ?_
    k_steps
    refine CompSrcT.ledger rfl (by k_asm) (by k_asm) (List.mem_cons_of_mem _ hl) (by rw [sizeLine_eq]; simp; omega) ?_
    intro g9
    refine restT (bs := hs.map fun h => decide (Txt.lower h.1 ≠ Txt.lower x)) (by rw [List.length_map, hp.length, hs'.length]) (.inr ⟨_, List.mem_cons_of_mem _ hl, rfl, _, rfl⟩) ?_ ?_ ?_
    · intro i v b ys I oI C oC D m₂ h tk E' hv hb ho h1 F9 N9
      obtain ⟨t3, k3, p3, rfl, hp3, hm3⟩ := hp.get i v hv
      obtain ⟨k4, v4, t4, u4, rfl, hh4⟩ := hs'.get i p3 hp3
      have hk4 := hnm _ (List.mem_of_getElem? hh4)
      rw [List.getElem?_map, hh4] at hb
      dsimp only at hk4 hm3
      cases hb
      k_steps
      · by_cases e : Txt.lower k4 = Txt.lower x <;> simp [e]
      · exact Quiet.mk (by k_asm) (by k_asm) (fun _ h => h)
    · intro v ys I oI C oC D m₂ h tk E' hv ho h1 F9 N9
      k_steps
      exact Quiet.mk (by k_asm) (by k_asm) (fun _ h => h)
    · intro D h tk F9 N9 off
      k_steps
      have hlD : l ≠ D := off1_mem off _ (List.mem_cons_of_mem _ hl)
      refine' setItem_slice_K ?k1 ?k2 ?k3 ?k4 ?k5 ?k6 ?_
      case k1 => k_asm
      case k2 => k_asm
      case k3 => k_mem
      case k4 => k_mem
      case k5 => exact hlD
      case k6 =>
        have := pick_length vs (hs.map fun h => decide (Txt.lower h.1 ≠ Txt.lower x))
        rw [sizeLine_eq]; omega
      intro h8 n8 F8 N8
      k_steps
      exact ret (by assumption) _ _ _ (by k_asm) (fun p hp => (by k_asm : News h₀ L h8 _) p (List.mem_cons_of_mem _ (List.mem_cons_of_mem _ hp)))
  · exact err (by assumption) _ _ _ _ _ _ (by assumption) (RaisedS.sub (by assumption) (fun p hp => List.mem_cons_of_mem _ hp)) (by assumption)
end
section
set_option maxHeartbeats 800000
open LCg LCp PyProof.Rows.LCt

/-- the table's state, as the ledger has it -/
def Tbl (news : List (Addr × Obj)) (tb l : Addr) (hs : List (Str × Str)) : Prop :=
  ∃ d kh kt nd nl vs ps, (tb, instObj 184 d) ∈ news ∧ (d, dictOf [⟨kh, .str (Str.ofString "_headers") kt, .ref l⟩] nd) ∈ news ∧ (l, listOf (List.toArray vs) nl) ∈ news ∧ PairsAt news vs ps ∧ StrPairs ps hs
theorem Tbl.mono {news news' : List (Addr × Obj)} {tb l : Addr} {hs : List (Str × Str)} (T : Tbl news tb l hs) (h : ∀ p ∈ news, p ∈ news') : Tbl news' tb l hs := by
  obtain ⟨d, kh, kt, nd, nl, vs, ps, h1, h2, h3, h4, h5⟩ := T
  exact ⟨d, kh, kt, nd, nl, vs, ps, h _ h1, h _ h2, h _ h3, h4.mono fun _ _ _ q => h _ q, h5⟩
/-- all but the entry at l is kept -/
def KeptBut (l : Addr) (news news' : List (Addr × Obj)) : Prop := ∀ p ∈ news, p.1 ≠ l → p ∈ news'
theorem KeptBut.refl {l : Addr} {news : List (Addr × Obj)} : KeptBut l news news := fun _ h _ => h
theorem KeptBut.trans {l : Addr} {n1 n2 n3 : List (Addr × Obj)} (a : KeptBut l n1 n2) (b : KeptBut l n2 n3) : KeptBut l n1 n3 := fun p h ne => b p (a p h ne) ne
theorem KeptBut.upd {l : Addr} {news : List (Addr × Obj)} {o : Obj} : KeptBut l news (updL news l o) := fun p h ne => by
  obtain ⟨a, q⟩ := p
  exact updL_other h ne
theorem KeptBut.of_sub {l : Addr} {n1 n2 : List (Addr × Obj)} (h : ∀ p ∈ n1, p ∈ n2) : KeptBut l n1 n2 := fun p hp _ => h p hp

theorem ne_of_obj {h₀ h : Heap} {L a b : Addr} {o o' : Obj} {news : List (Addr × Obj)} (N : News h₀ L h news) (h1 : (a, o) ∈ news) (h2 : (b, o') ∈ news) (hc : o.cls ≠ o'.cls) : a ≠ b := fun e => by
  subst e
  exact hc (congrArg Obj.cls (Mine.News.obj_eq N h1 h2))

theorem Tbl.upd {h₀ h : Heap} {L : Addr} {news : List (Addr × Obj)} {tb l d : Addr} {kh : Int} {kt : Tok} {nd nl n' : Nat} {vs vs' : List Value} {ps' : List (Value × Value)} {hs' : List (Str × Str)} (N : News h₀ L h news)
    (h1 : (tb, instObj 184 d) ∈ news) (h2 : (d, dictOf [⟨kh, .str (Str.ofString "_headers") kt, .ref l⟩] nd) ∈ news) (h3 : (l, listOf (List.toArray vs) nl) ∈ news) (h4 : PairsAt news vs' ps') (h5 : StrPairs ps' hs') :
    Tbl (updL news l (listOf (List.toArray vs') n')) tb l hs' :=
  ⟨d, kh, kt, nd, n', vs', ps', updL_other h1 (ne_of_obj N h1 h3 (by intro e; cases e)), updL_other h2 (ne_of_obj N h2 h3 (by intro e; simp [W.dictOf, W.listOf] at e)), updL_self h3,
    h4.mono fun t k u q => updL_other q (ne_of_obj N q h3 (by intro e; simp [W.listOf] at e)), h5⟩

theorem StrPairs.append {ps qs : List (Value × Value)} {hs gs : List (Str × Str)} (h : StrPairs ps hs) (g : StrPairs qs gs) : StrPairs (ps ++ qs) (hs ++ gs) := by
  induction h with
  | nil => exact g
  | cons r ih => exact .cons ih
theorem Tbl.append {h₀ h : Heap} {L : Addr} {news : List (Addr × Obj)} {tb l d D : Addr} {kh : Int} {kt : Tok} {nd nl n' : Nat} {vs : List Value} {ps : List (Value × Value)} {hs : List (Str × Str)} {x v : Str} {t u : Tok}
    (N : News h₀ L h ((D, { cls := .type "tuple", data := .seq #[.str x t, .str v u] }) :: news))
    (h1 : (tb, instObj 184 d) ∈ news) (h2 : (d, dictOf [⟨kh, .str (Str.ofString "_headers") kt, .ref l⟩] nd) ∈ news) (h3 : (l, listOf (List.toArray vs) nl) ∈ news) (h4 : PairsAt news vs ps) (h5 : StrPairs ps hs) :
    Tbl (updL ((D, { cls := .type "tuple", data := .seq #[.str x t, .str v u] }) :: news) l (listOf (List.toArray (vs ++ [.ref D])) n')) tb l (hs ++ [(x, v)]) :=
  Tbl.upd N (List.mem_cons_of_mem _ h1) (List.mem_cons_of_mem _ h2) (List.mem_cons_of_mem _ h3) ((h4.mono fun _ _ _ q => List.mem_cons_of_mem _ q).append (.cons (k := 0) (v := (.str x t, .str v u)) List.mem_cons_self .nil)) (h5.append (.cons .nil))
theorem KeptBut.upd_cons {l : Addr} {news : List (Addr × Obj)} {q : Addr × Obj} {o : Obj} : KeptBut l news (updL (q :: news) l o) := fun p h ne => by
  obtain ⟨a, q⟩ := p
  exact updL_other (List.mem_cons_of_mem _ h) ne

/-- the raise that the calls of the table end with -/
abbrev Refused (base : Heap) (l : List Env) (h₀ : Heap) (L : Addr) (m : Str → Option Value) (E : Value → Shared → Prop) (s : Shared) (P : List (Addr × Obj) → Prop) : Prop :=
  ∀ news' g h' e t' tk' tk'', P news' → Fr h₀ L g m → RaisedS base g l e (.type "ValueError") t' [.str faultMsg tk'] news' h' → g.UpToSlots h' → E (.ref e) { s with heap := h', toks := tk'' }

theorem StrPairs.strs {ps : List (Value × Value)} {hs : List (Str × Str)} (h : StrPairs ps hs) : StrsAre (ps.map (·.2)) (hs.map (·.2)) := by
  induction h with
  | nil => exact .nil
  | cons r ih => exact .cons _ _ ih

theorem values_T {w : World} {mean : ExcName → Option Value} {mg mb : Str → Option Value} {dp un : Nat} {gd : Option (List Code)} {cn : Str} {cs : Scope} {a : Addr} {ccd : Value} {cl : List (Str × Addr)} {outer : List Env} {A₀ : Around} {base h₀ : Heap} {L : Addr} {m : Str → Option Value} {s : Shared} {Q E : Value → Shared → Prop} {news : List (Addr × Obj)} {tb l : Addr} {hs : List (Str × Str)} (B : Below A₀ base outer h₀) (F : Fr h₀ L s.heap m) (X : (hd.heap_39 w.params).In h₀) (N : News h₀ L s.heap news) (T : Top hd.view_39 (looseW hd.view_39 [Str.ofString "tspecials", Str.ofString "_name_disallowed_re", Str.ofString "_value_disallowed_re", Str.ofString "_formatparam"]) mean mg mb h₀) (hk : cs.kind = .function) (hd : dp + 1 < recursionLimit) (hu : un + 8 < cLine) (Tb : Tbl news tb l hs) (hlen : hs.length ≤ 1000)
    (ret : ∀ D ys h' tk', Fr h₀ L h' m → News h₀ L h' ((D, lst ys) :: news) → Off1 D news → StrsAre ys (hs.map (·.2)) → Q (.ref D) { s with heap := h', toks := tk' }) :
    wpAny (model PySem.Challenge.rw_pe0245_01.row.prog w) (ktrTop dp un gd cn cs L a ccd cl outer) (call (.ref 141) [.ref tb]) Q E s := by
  obtain ⟨d, kh, kt, nd, nl, vs, ps, h1, h2, h3, h4, h5⟩ := Tb
  refine values B F X N T hk hd hu h1 h2 h3 (by rw [h4.length, h5.length]; exact hlen) h4 fun D h' tk' F' N' off => ret D _ h' tk' F' N' off ?_
  exact h5.strs
end
section
theorem offD1 : True := by
  w_top off
  trivial
local macro_rules | `(tactic| walk_at "none") => `(tactic| fail "none")
set_option maxHeartbeats 800000
open LCg LCp PyProof.Rows.LCt

theorem delitem_T {w : World} {mean : ExcName → Option Value} {mg mb : Str → Option Value} {dp un : Nat} {gd : Option (List Code)} {cn : Str} {cs : Scope} {a : Addr} {ccd : Value} {cl : List (Str × Addr)} {outer : List Env} {A₀ : Around} {base h₀ : Heap} {L : Addr} {m : Str → Option Value} {s : Shared} {Q E : Value → Shared → Prop} {news : List (Addr × Obj)} {tb l : Addr} {hs : List (Str × Str)} {x : Str} {t : Tok} (B : Below A₀ base outer h₀) (F : Fr h₀ L s.heap m) (X : (hd.heap_39 w.params).In h₀) (N : News h₀ L s.heap news) (T : Top hd.view_39 (looseW hd.view_39 [Str.ofString "tspecials", Str.ofString "_name_disallowed_re", Str.ofString "_value_disallowed_re", Str.ofString "_formatparam"]) mean mg mb h₀) (hk : cs.kind = .function) (hd : dp + 2 < recursionLimit)
    (Tb : Tbl news tb l hs) (hlen : hs.length ≤ 1000) (hx : x.length ≤ 1000) (hnm : ∀ h ∈ hs, h.1.length ≤ 1000)
    (ret : (Txt.lower x).cps.toList.any badN = false → ∀ news' h' tk', Tbl news' tb l (hs.filter fun h => decide (Txt.lower h.1 ≠ Txt.lower x)) → KeptBut l news news' → Fr h₀ L h' m → News h₀ L h' news' → Q .none { s with heap := h', toks := tk' })
    (err : (Txt.lower x).cps.toList.any badN = true → Refused base (envX cn cs L a ccd cl :: outer) h₀ L m E s fun news' => news' = news) :
    wpAny (model PySem.Challenge.rw_pe0245_01.row.prog w) (ktrTop dp un gd cn cs L a ccd cl outer) (call (.ref 102) [.ref tb, .str x t]) Q E s := by
  obtain ⟨d, kh, kt, nd, nl, vs, ps, h1, h2, h3, h4, h5⟩ := Tb
  refine delitem B F X N T hk hd h1 h2 h3 h4 h5 hx hnm (by rw [h4.length, h5.length]; exact hlen) (fun hb h' tk' n' F' N' => ?_) (fun hb g h' e t' tk' tk'' FG S U => err hb news g h' e t' tk' tk'' rfl FG S U)
  refine ret hb _ h' tk' ?_ KeptBut.upd F' N'
  have e := pick_map (fun h : Str × Str => decide (Txt.lower h.1 ≠ Txt.lower x)) hs
  refine Tbl.upd N h1 h2 h3 (h4.pick _) ?_
  rw [← e]
  exact h5.pick _

local macro_rules | `(tactic| walk_at "delItem ref str") => `(tactic| (k_dflt (refine' delItem_own ?F ?X ?I ?hQ ?hS ?hF ?_; (case F => k_asm); (case X => k_asm); (case I => k_inst); (case hS => k_is); (case hF => k_is); (case hQ => k_is); k_whole)))
local macro_rules | `(tactic| walk_at "call builtin:list.append") => `(tactic| (k_dflt (refine' append_L ?k1 ?k2 ?k3 ?kz ?_; (case k1 => k_asm); (case k2 => k_asm); (case k3 => k_mem); (case kz => first | assumption | (rw [sizeLine_eq]; omega) | (rw [sizeLine_eq]; simp; omega))); intro h9 F9 N9; (try dsimp only)))
local macro_rules | `(tactic| walk_at "call ref") => `(tactic| ((with_reducible show wpAny _ _ (call (Value.ref 102) _ _) _ _ _); k_dflt (refine' delitem_T ?k1 ?k2 ?k3 ?k4 ?k5 ?kK ?kd ?kT ?kl ?kx ?kn ?_ ?_; (case k1 => k_asm); (case k2 => k_asm); (case k3 => k_asm); (case k4 => k_asm); (case k5 => k_asm); (case kK => first | exact rfl | assumption); (case kd => ktr_room); (case kT => assumption); (case kl => assumption); (case kx => assumption); (case kn => assumption)); (intro hy9 n9 h9 tk9 T9 K9 F9 N9; (try dsimp only); (refine Stop.out ?_)); rotate_left; (intro hy9 n9 g9 h9 e9 t9 tk9 tk9' P9 FG9 S9 U9; subst P9; (try dsimp only)); rotate_left))

theorem setitem_T {w : World} {mean : ExcName → Option Value} {mg mb : Str → Option Value} {dp un : Nat} {gd : Option (List Code)} {cn : Str} {cs : Scope} {a : Addr} {ccd : Value} {cl : List (Str × Addr)} {outer : List Env} {A₀ : Around} {base h₀ : Heap} {L : Addr} {m : Str → Option Value} {s : Shared} {Q E : Value → Shared → Prop} {news : List (Addr × Obj)} {tb l : Addr} {hs : List (Str × Str)} {x v : Str} {t u : Tok} (B : Below A₀ base outer h₀) (F : Fr h₀ L s.heap m) (X : (hd.heap_39 w.params).In h₀) (N : News h₀ L s.heap news) (T : Top hd.view_39 (looseW hd.view_39 [Str.ofString "tspecials", Str.ofString "_name_disallowed_re", Str.ofString "_value_disallowed_re", Str.ofString "_formatparam"]) mean mg mb h₀) (hk : cs.kind = .function) (hd : dp + 3 < recursionLimit)
    (Tb : Tbl news tb l hs) (hlen : hs.length ≤ 1000) (hx : x.length ≤ 1000) (hv : v.length ≤ 100000) (hnm : ∀ h ∈ hs, h.1.length ≤ 1000)
    (ret : (Txt.lower x).cps.toList.any badN = false → x.cps.toList.any badN = false → v.cps.toList.any badV = false → ∀ news' h' tk', Tbl news' tb l ((hs.filter fun h => decide (Txt.lower h.1 ≠ Txt.lower x)) ++ [(x, v)]) → KeptBut l news news' → Fr h₀ L h' m → News h₀ L h' news' → Q .none { s with heap := h', toks := tk' })
    (err1 : (Txt.lower x).cps.toList.any badN = true → Refused base (envX cn cs L a ccd cl :: outer) h₀ L m E s fun news' => news' = news)
    (err2 : (Txt.lower x).cps.toList.any badN = false → x.cps.toList.any badN = true ∨ v.cps.toList.any badV = true → Refused base (envX cn cs L a ccd cl :: outer) h₀ L m E s fun news' => Tbl news' tb l (hs.filter fun h => decide (Txt.lower h.1 ≠ Txt.lower x)) ∧ KeptBut l news news') :
    wpAny (model PySem.Challenge.rw_pe0245_01.row.prog w) (ktrTop dp un gd cn cs L a ccd cl outer) (call (.ref 97) [.ref tb, .str x t, .str v u]) Q E s := by
  have Tb0 := Tb
  obtain ⟨d, kh, kt, nd, nl, vs, ps, htb, hdd, hl, hp, hs'⟩ := Tb0
  revert X
  k_fill
  intro X
  refine wpAny_call ?_
  k_dflt (refine' code_def ?k1 ?k2 ?k3 ?k4 ?k5 ?kA ?kF ?kK ?k6 ?k7 ?k8 ?k9 ?kB ?_ ?c2 ?c3 ?c4 ?c5; (case kA => exact rfl); (case kF => exact rfl); (case kK => first | assumption | exact rfl); (case k1 => k_asm); (case k2 => k_asm); (case k3 => k_asm); (case k4 => k_asm); (case k5 => k_asm); (case k6 => k_is); (case k7 => k_is); (case k8 => ktr_room); (case k9 => first | exact BindsTo.of_eq rfl | exact binds_K (by k_in) rfl (by k_is) rfl rfl rfl); (case c5 => decide); (case kB => exact locs rfl); (case c2 => exact rfl); (case c3 => exact rfl); (case c4 => exact rfl); k_whole; intro g1 L1 h1 FG1 F1 N1 B1 X1 T1; (try dsimp only); (try k_lift B1); (try k_fold))
  have hD9 : KtsDicts [] h₀ := ktsDicts_nil
  k_steps
  · rename_i n9 h9 tk9 T9 K9 F9 N9
    unfold Stop
    clear htb hdd hl hp hs' N1 F1
    have T8 := T9
    obtain ⟨d, kh, kt, nd, nl, vs, ps, htb, hdd, hl, hp, hs'⟩ := T8
    have hvs : vs.length ≤ 1000 := by
      rw [hp.length, hs'.length]
      exact Nat.le_trans (List.length_filter_le _ _) hlen
    k_steps
    · exact ret (by assumption) (by assumption) (by assumption) _ _ _ (Tbl.append (by assumption) htb hdd hl hp hs') (K9.trans KeptBut.upd_cons) (by k_asm) (by k_asm)
    · exact err2 (by assumption) (.inr (by assumption)) _ _ _ _ _ _ _ ⟨T9, K9⟩ (by assumption) (by assumption) (by assumption)
    · exact err2 (by assumption) (.inl (by assumption)) _ _ _ _ _ _ _ ⟨T9, K9⟩ (by assumption) (by assumption) (by assumption)
  · exact err1 (by assumption) _ _ _ _ _ _ _ rfl (by assumption) (by assumption) (by assumption)
end
section
theorem offD2 : True := by
  w_top off
  trivial
set_option maxHeartbeats 800000
open LCg LCp PyProof.Rows.LCt

theorem get_T {w : World} {mean : ExcName → Option Value} {mg mb : Str → Option Value} {dp un : Nat} {gd : Option (List Code)} {cn : Str} {cs : Scope} {a : Addr} {ccd : Value} {cl : List (Str × Addr)} {outer : List Env} {A₀ : Around} {base h₀ : Heap} {L : Addr} {m : Str → Option Value} {s : Shared} {Q E : Value → Shared → Prop} {news : List (Addr × Obj)} {tb l : Addr} {hs : List (Str × Str)} {x : Str} {t : Tok} (B : Below A₀ base outer h₀) (F : Fr h₀ L s.heap m) (X : (hd.heap_39 w.params).In h₀) (N : News h₀ L s.heap news) (T : Top hd.view_39 (looseW hd.view_39 [Str.ofString "tspecials", Str.ofString "_name_disallowed_re", Str.ofString "_value_disallowed_re", Str.ofString "_formatparam"]) mean mg mb h₀) (hk : cs.kind = .function) (hd : dp + 2 < recursionLimit)
    (Tb : Tbl news tb l hs) (hx : x.length ≤ 1000) (hnm : ∀ h ∈ hs, h.1.length ≤ 1000)
    (ret : (Txt.lower x).cps.toList.any badN = false → ∀ v h' tk', Fr h₀ L h' m → News h₀ L h' news →
      (match hs.find? (fun p => decide (Txt.lower p.1 = Txt.lower x)) with | some p => ∃ u, v = .str p.2 u | none => v = .none) → Q v { s with heap := h', toks := tk' })
    (err : (Txt.lower x).cps.toList.any badN = true → Refused base (envX cn cs L a ccd cl :: outer) h₀ L m E s fun news' => news' = news) :
    wpAny (model PySem.Challenge.rw_pe0245_01.row.prog w) (ktrTop dp un gd cn cs L a ccd cl outer) (call (.ref 131) [.ref tb, .str x t]) Q E s := by
  obtain ⟨d, kh, kt, nd, nl, vs, ps, h1, h2, h3, h4, h5⟩ := Tb
  exact get B F X N T hk hd h1 h2 h3 h4 h5 hx hnm ret (fun hb g h' e t' tk' tk'' FG S U => err hb news g h' e t' tk' tk'' rfl FG S U)

local macro_rules | `(tactic| walk_at "call builtin:list.append") => `(tactic| (k_dflt (refine' append_L ?k1 ?k2 ?k3 ?kz ?_; (case k1 => k_asm); (case k2 => k_asm); (case k3 => k_mem); (case kz => first | assumption | (rw [sizeLine_eq]; omega) | (rw [sizeLine_eq]; simp; omega))); intro h9 F9 N9; (try dsimp only)))
local macro_rules | `(tactic| walk_at "call ref") => `(tactic| ((with_reducible show wpAny _ _ (call (Value.ref 131) _ _) _ _ _); k_dflt (refine' get_T ?k1 ?k2 ?k3 ?k4 ?k5 ?kK ?kd ?kT ?kx ?kn ?_ ?_; (case k1 => k_asm); (case k2 => k_asm); (case k3 => k_asm); (case k4 => k_asm); (case k5 => k_asm); (case kK => first | exact rfl | assumption); (case kd => ktr_room); (case kT => assumption); (case kx => assumption); (case kn => assumption)); (intro hy9 v9 h9 tk9 F9 N9 M9; (try dsimp only); (refine Stop.out ?_)); rotate_left; (intro hy9 n9 g9 h9 e9 t9 tk9 tk9' P9 FG9 S9 U9; subst P9; (try dsimp only)); rotate_left))

theorem setdefault_T {w : World} {mean : ExcName → Option Value} {mg mb : Str → Option Value} {dp un : Nat} {gd : Option (List Code)} {cn : Str} {cs : Scope} {a : Addr} {ccd : Value} {cl : List (Str × Addr)} {outer : List Env} {A₀ : Around} {base h₀ : Heap} {L : Addr} {m : Str → Option Value} {s : Shared} {Q E : Value → Shared → Prop} {news : List (Addr × Obj)} {tb l : Addr} {hs : List (Str × Str)} {x v : Str} {t u : Tok} (B : Below A₀ base outer h₀) (F : Fr h₀ L s.heap m) (X : (hd.heap_39 w.params).In h₀) (N : News h₀ L s.heap news) (T : Top hd.view_39 (looseW hd.view_39 [Str.ofString "tspecials", Str.ofString "_name_disallowed_re", Str.ofString "_value_disallowed_re", Str.ofString "_formatparam"]) mean mg mb h₀) (hk : cs.kind = .function) (hd : dp + 3 < recursionLimit)
    (Tb : Tbl news tb l hs) (hlen : hs.length ≤ 1000) (hx : x.length ≤ 1000) (hv : v.length ≤ 100000) (hnm : ∀ h ∈ hs, h.1.length ≤ 1000)
    (ret1 : (Txt.lower x).cps.toList.any badN = false → ∀ p u' h' tk', hs.find? (fun p => decide (Txt.lower p.1 = Txt.lower x)) = some p → Fr h₀ L h' m → News h₀ L h' news → Q (.str p.2 u') { s with heap := h', toks := tk' })
    (ret2 : (Txt.lower x).cps.toList.any badN = false → hs.find? (fun p => decide (Txt.lower p.1 = Txt.lower x)) = none → x.cps.toList.any badN = false → v.cps.toList.any badV = false → ∀ news' h' tk', Tbl news' tb l (hs ++ [(x, v)]) → KeptBut l news news' → Fr h₀ L h' m → News h₀ L h' news' → Q (.str v u) { s with heap := h', toks := tk' })
    (err : (Txt.lower x).cps.toList.any badN = true ∨ (hs.find? (fun p => decide (Txt.lower p.1 = Txt.lower x)) = none ∧ (x.cps.toList.any badN = true ∨ v.cps.toList.any badV = true)) → Refused base (envX cn cs L a ccd cl :: outer) h₀ L m E s fun news' => news' = news) :
    wpAny (model PySem.Challenge.rw_pe0245_01.row.prog w) (ktrTop dp un gd cn cs L a ccd cl outer) (call (.ref 174) [.ref tb, .str x t, .str v u]) Q E s := by
  have Tb0 := Tb
  obtain ⟨d, kh, kt, nd, nl, vs, ps, htb, hdd, hl, hp, hs'⟩ := Tb0
  have hvs : vs.length ≤ 1000 := by
    rw [hp.length, hs'.length]
    exact hlen
  revert X
  k_fill
  intro X
  refine wpAny_call ?_
  k_dflt (refine' code_def ?k1 ?k2 ?k3 ?k4 ?k5 ?kA ?kF ?kK ?k6 ?k7 ?k8 ?k9 ?kB ?_ ?c2 ?c3 ?c4 ?c5; (case kA => exact rfl); (case kF => exact rfl); (case kK => first | assumption | exact rfl); (case k1 => k_asm); (case k2 => k_asm); (case k3 => k_asm); (case k4 => k_asm); (case k5 => k_asm); (case k6 => k_is); (case k7 => k_is); (case k8 => ktr_room); (case k9 => first | exact BindsTo.of_eq rfl | exact binds_K (by k_in) rfl (by k_is) rfl rfl rfl); (case c5 => decide); (case kB => exact locs rfl); (case c2 => exact rfl); (case c3 => exact rfl); (case c4 => exact rfl); k_whole; intro g1 L1 h1 FG1 F1 N1 B1 X1 T1; (try dsimp only); (try k_lift B1); (try k_fold))
  have hD9 : KtsDicts [] h₀ := ktsDicts_nil
  k_steps
  · rename_i v9 h9 tk9 F9 N9 M9
    unfold Stop
    cases hf : hs.find? (fun p => decide (Txt.lower p.1 = Txt.lower x)) with
    | some p =>
      rw [hf] at M9
      obtain ⟨u9, rfl⟩ := M9
      k_steps
      exact ret1 (by assumption) _ _ _ _ hf (by k_asm) (by k_asm)
    | none =>
      rw [hf] at M9
      subst M9
      k_steps
      · exact ret2 (by assumption) hf (by assumption) (by assumption) _ _ _ (Tbl.append (by assumption) htb hdd hl hp hs') KeptBut.upd_cons (by k_asm) (by k_asm)
      · exact err (.inr ⟨hf, .inr (by assumption)⟩) _ _ _ _ _ _ _ rfl (by assumption) (by assumption) (by assumption)
      · exact err (.inr ⟨hf, .inl (by assumption)⟩) _ _ _ _ _ _ _ rfl (by assumption) (by assumption) (by assumption)
  · exact err (.inl (by assumption)) _ _ _ _ _ _ _ rfl (by assumption) (by assumption) (by assumption)
end
section
open PySem.SeqAt

section
variable {prog : Program} {w : World} {A : Around} {E : Value → Shared → Prop} {s : Shared} {a b : Addr} {xs ys : List Value} {ss ts : List Str} {Q : Value → Shared → Prop}

theorem ne_nilK (ha : s.heap.IsList a xs.toArray) (hb : s.heap.IsList b #[]) (hu : A.units < cLine) (h : Q (.bool (!xs.isEmpty)) s) :
    wpAny (model prog w) A (compareOp .NotEq (.ref a) (.ref b)) Q E s := by
  cases xs with
  | nil => exact RcNeAt.lists (e := fun _ => true) ha hb rfl hu (fun j h1 _ => absurd h1 (Nat.not_lt_zero _)) prog w E Q h
  | cons x r => exact RcNeAt.lists_lengths ha hb (by simp) hu prog w E Q h

theorem ne_nil0 {n : Nat} {h₀ : Heap} {L : Addr} {news : List (Addr × Obj)} (N : News h₀ L s.heap news) (ha : (a, listOf ([] : List Value).toArray n) ∈ news) (hb : (b, listOf #[] 0) ∈ news) (hu : A.units < cLine) (h : Q (.bool false) s) :
    wpAny (model prog w) A (compareOp .NotEq (.ref a) (.ref b)) Q E s := ne_nilK (xs := []) (News.isList N ha) (News.isList N hb) hu h
theorem ne_nil1 {n : Nat} {h₀ : Heap} {L : Addr} {news : List (Addr × Obj)} {x : Value} (N : News h₀ L s.heap news) (ha : (a, listOf (x :: xs).toArray n) ∈ news) (hb : (b, listOf #[] 0) ∈ news) (hu : A.units < cLine) (h : Q (.bool true) s) :
    wpAny (model prog w) A (compareOp .NotEq (.ref a) (.ref b)) Q E s := ne_nilK (xs := x :: xs) (News.isList N ha) (News.isList N hb) hu h

theorem strsAll : ∀ {xs ys : List Value} {ss ts : List Str}, StrsAre xs ss → StrsAre ys ts → xs.length = ys.length → ∃ e : Nat → Bool, (∀ (A : Around) (s : Shared) j (h1 : j < xs.toArray.size) (h2 : j < ys.toArray.size), EqAt A s xs.toArray[j] ys.toArray[j] (e j)) ∧ (List.range xs.toArray.size).all e = decide (ss = ts)
  | _, _, _, _, .nil, .nil, _ => ⟨fun _ => true, fun _ _ j h1 _ => absurd h1 (Nat.not_lt_zero _), by simp⟩
  | _, _, _, _, .nil, .cons _ _ _, h => nomatch h
  | _, _, _, _, .cons _ _ _, .nil, h => nomatch h
  | _, _, _, _, @StrsAre.cons y t vs ss hs, @StrsAre.cons z u us ts hz, h => by
    obtain ⟨e, he, hall⟩ := strsAll hs hz (by simpa using h)
    refine ⟨fun j => match j with | 0 => y == z | j + 1 => e j, fun A s j h1 h2 => ?_, ?_⟩
    · cases j with
      | zero => exact EqAt.str_str y t z u
      | succ j =>
        have := he A s j (by simpa using h1) (by simpa using h2)
        simpa using this
    · have e1 : (List.range (Value.str y t :: vs).toArray.size) = 0 :: (List.range vs.toArray.size).map (· + 1) := by
        simp [List.range_succ_eq_map]
      rw [e1, List.all_cons, List.all_map]
      have e2 : ((fun j => match j with | 0 => y == z | j + 1 => e j) ∘ (· + 1) : Nat → Bool) = e := rfl
      rw [e2, hall]
      by_cases q : y = z <;> by_cases q' : ss = ts <;> simp [q, q']
theorem eq_strsK (ha : s.heap.IsList a xs.toArray) (hb : s.heap.IsList b ys.toArray) (hi : StrsAre xs ss) (hj : StrsAre ys ts) (hu : A.units < cLine) (h : Q (.bool (decide (ss = ts))) s) :
    wpAny (model prog w) A (compareOp .Eq (.ref a) (.ref b)) Q E s := by
  by_cases hl : xs.length = ys.length
  · obtain ⟨e, he, hall⟩ := strsAll hi hj hl
    refine RcAt.lists ha hb (by simpa using hl) hu (he _ _) prog w E Q ?_
    rw [hall]; exact h
  · refine RcAt.lists_lengths ha hb (by simpa using hl) hu prog w E Q ?_
    have : decide (ss = ts) = false := decide_eq_false fun e => hl (by rw [hi.len_eq, hj.len_eq, e])
    rw [this] at h; exact h
theorem ne_strsK (ha : s.heap.IsList a xs.toArray) (hb : s.heap.IsList b ys.toArray) (hi : StrsAre xs ss) (hj : StrsAre ys ts) (hu : A.units < cLine) (h : Q (.bool (decide (ss ≠ ts))) s) :
    wpAny (model prog w) A (compareOp .NotEq (.ref a) (.ref b)) Q E s := by
  have e0 : decide (ss ≠ ts) = !decide (ss = ts) := by simp
  rw [e0] at h
  by_cases hl : xs.length = ys.length
  · obtain ⟨e, he, hall⟩ := strsAll hi hj hl
    refine RcNeAt.lists ha hb (by simpa using hl) hu (he _ _) prog w E Q ?_
    rw [hall]; exact h
  · refine RcNeAt.lists_lengths ha hb (by simpa using hl) hu prog w E Q ?_
    have : decide (ss = ts) = false := decide_eq_false fun e => hl (by rw [hi.len_eq, hj.len_eq, e])
    rw [this] at h; exact h
end
end
section
set_option maxHeartbeats 1600000
open LCg LCp PyProof.Rows.LCt

/-- one sign's spelling, as the comprehension's block works it out -/
theorem row_elt {prog : Program} {w : World} {A : Around} {E : Value → Shared → Prop} {s : Shared} {h₀ : Heap} {L C d cw cs : Addr} {m m₂ : Str → Option Value} {news : List (Addr × Obj)} {scope : Scope} {cl : List (Str × Addr)} {env : Env} {oC od ow os : Obj} {c : Nat} {t u : Tok} {k : Int} {kvs : List (Str × Value)}
    {p1 p2 p3 p4 p5 p6 p7 p8 p9 : Pos}
    (F : Fr h₀ L s.heap m) (N : News h₀ L s.heap news) (hC : (C, oC) ∈ news) (ho : NsObj oC m₂) (h1 : m₂ (Str.ofString "sign") = some (.str ⟨#[c]⟩ t))
    (hw : (cw, ow) ∈ news) (dw : ow.data = .cell (some (.int k u))) (hs : (cs, os) ∈ news) (ds : os.data = .cell (some (.ref d))) (hd : (d, od) ∈ news) (hI : od.IsDictOf (PySem.strKind prog w) kvs) (lo : (d == sysModules) = false)
    (hk0 : 0 ≤ k) (hk5 : k < 5)
    (q1 : ∀ v, valueAt kvs ⟨#[c]⟩ = some v → ∃ l its t' n, v = .ref l ∧ (l, listOf its n) ∈ news ∧ its[k.toNat]? = some (.str (spell k.toNat c) t'))
    (q2 : valueAt kvs ⟨#[c]⟩ = none → spell k.toNat c = ⟨#[c]⟩)
    (e1 : scope.kind = .function) (e2 : (compEnvC scope cl C env).kindOf (Str.ofString "sign") = some .local) (e3 : (compEnvC scope cl C env).kindOf (Str.ofString "way") = some .cell) (e4 : (compEnvC scope cl C env).kindOf (Str.ofString "ways") = some .cell)
    (e5 : cl.lookup (Str.ofString "way") = some cw) (e6 : cl.lookup (Str.ofString "ways") = some cs) :
    wpAny (model prog w) A (eval (.IfExp (.Compare (.Name (Str.ofString "sign") p1) [.In] [.Name (Str.ofString "ways") p2] p3) (.Subscript (.Subscript (.Name (Str.ofString "ways") p4) (.Name (Str.ofString "sign") p5) p6) (.Name (Str.ofString "way") p7) p8) (.Name (Str.ofString "sign") p9) p3) (compEnvC scope cl C env))
      (fun y s' => (∃ t, y = .str (spell k.toNat c) t) ∧ Quiet h₀ L m news s s') E s := by
  refine wpAny_IfExp (wpAny_isTrue_Compare1 (LCgL.ld_own N hC ho h1 (lcf_cell N e6 hs ds (kda_in N hd hI lo (strKind_is _ _ _ _) _ rfl ?_) e1 e4) e1 e2))
  show wpAny _ _ (truthy (.bool _)) _ _ _
  refine wpAny_pure ?_
  cases hv : valueAt kvs ⟨#[c]⟩ with
  | none =>
    rw [if_neg (by exact Bool.false_ne_true)]
    refine LCgL.ld_own (s := { s with toks := s.toks + 1 }) N hC ho h1 ⟨⟨t, ?_⟩, Quiet.mk F N fun _ h => h⟩ e1 e2
    rw [q2 hv]
  | some v =>
    rw [if_pos (by rfl)]
    obtain ⟨l, its, t', n, rfl, hl, hi⟩ := q1 v hv
    refine Subscript_ (Subscript_ ?_)
    refine lcf_cell (s := { s with toks := s.toks + 1 }) N e6 hs ds (LCgL.ld_own (s := { s with toks := s.toks + 1 }) N hC ho h1 ?_ e1 e2) e1 e4
    refine kda_item (s := { s with toks := s.toks + 1 }) N hd hI (strKind_is _ _ _ _) hv ?_
    refine lcf_cell (s := { s with toks := s.toks + 1 + 1 }) N e5 hw dw ?_ e1 e3
    refine tail_any (s := { s with toks := s.toks + 1 + 1 }) (News.isList N hl).typeIs slot_list_getitem.lookup (wpAny_getItem_list (News.isList N hl) hk0 (by omega) hi ?_) (by with_unfolding_all rfl)
    exact ⟨⟨t', rfl⟩, Quiet.mk F N fun _ h => h⟩
end
section
theorem offF1 : True := by
  w_top off
  trivial
set_option maxHeartbeats 1600000
open LCg LCp PyProof.Rows.LCt

theorem ofs1 (c : Nat) (k : String) (e : Str.ofString k = ⟨#[c]⟩) (x : Nat) : (decide (Str.ofString k = (⟨#[x]⟩ : Str))) = decide (c = x) := by
  rw [e]
  by_cases h : c = x
  · subst h; simp
  · rw [decide_eq_false h]; exact decide_eq_false fun q => h (by injection q with q; simpa using q)
theorem ways_at (c : Nat) (v0 v1 v2 v3 v4 v5 v6 : Value) (t0 t1 t2 t3 t4 t5 t6 : Tok) : valueAt (strPairs [(.str (Str.ofString "&") t0, v0), (.str (Str.ofString "<") t1, v1), (.str (Str.ofString ">") t2, v2), (.str (Str.ofString "\"") t3, v3), (.str (Str.ofString "\t") t4, v4), (.str (Str.ofString "\n") t5, v5), (.str (Str.ofString "\r") t6, v6)]) (⟨#[c]⟩ : Str) =
    if c = 38 then some v0 else if c = 60 then some v1 else if c = 62 then some v2 else if c = 34 then some v3 else if c = 9 then some v4 else if c = 10 then some v5 else if c = 13 then some v6 else none := by
  show valueAt [(Str.ofString "&", v0), (Str.ofString "<", v1), (Str.ofString ">", v2), (Str.ofString "\"", v3), (Str.ofString "\t", v4), (Str.ofString "\n", v5), (Str.ofString "\r", v6)] (⟨#[c]⟩ : Str) = _
  unfold valueAt
  by_cases h0 : c = 38
  · subst h0; rfl
  by_cases h1 : c = 60
  · subst h1; rfl
  by_cases h2 : c = 62
  · subst h2; rfl
  by_cases h3 : c = 34
  · subst h3; rfl
  by_cases h4 : c = 9
  · subst h4; rfl
  by_cases h5 : c = 10
  · subst h5; rfl
  by_cases h6 : c = 13
  · subst h6; rfl
  have n1 : ∀ (b : Nat) (k : String), Str.ofString k = ⟨#[b]⟩ → c ≠ b → decide (Str.ofString k = (⟨#[c]⟩ : Str)) = false := fun b k e h => by
    rw [ofs1 b k e c]; exact decide_eq_false fun q => h q.symm
  simp only [List.find?, n1 38 "&" rfl h0, n1 60 "<" rfl h1, n1 62 ">" rfl h2, n1 34 "\"" rfl h3, n1 9 "\t" rfl h4, n1 10 "\n" rfl h5, n1 13 "\r" rfl h6, if_neg h0, if_neg h1, if_neg h2, if_neg h3, if_neg h4, if_neg h5, if_neg h6]
  rfl
theorem ways_none {c way : Nat} {v0 v1 v2 v3 v4 v5 v6 : Value} {t0 t1 t2 t3 t4 t5 t6 : Tok} (h : valueAt (strPairs [(.str (Str.ofString "&") t0, v0), (.str (Str.ofString "<") t1, v1), (.str (Str.ofString ">") t2, v2), (.str (Str.ofString "\"") t3, v3), (.str (Str.ofString "\t") t4, v4), (.str (Str.ofString "\n") t5, v5), (.str (Str.ofString "\r") t6, v6)]) (⟨#[c]⟩ : Str) = none) : spell way c = ⟨#[c]⟩ := by
  rw [ways_at] at h
  unfold spell
  by_cases h0 : c = 38
  · subst h0; cases h
  by_cases h1 : c = 60
  · subst h1; cases h
  by_cases h2 : c = 62
  · subst h2; cases h
  by_cases h3 : c = 34
  · subst h3; cases h
  by_cases h4 : c = 9
  · subst h4; cases h
  by_cases h5 : c = 10
  · subst h5; cases h
  by_cases h6 : c = 13
  · subst h6; cases h
  rw [if_neg h0, if_neg h1, if_neg h2, if_neg h3, if_neg h4, if_neg h5, if_neg h6]
theorem five {a0 a1 a2 a3 a4 : Str} {t0 t1 t2 t3 t4 : Tok} (k : Int) (h0 : 0 ≤ k) (h5 : k < 5) : ∃ t', (#[Value.str a0 t0, .str a1 t1, .str a2 t2, .str a3 t3, .str a4 t4] : Array Value)[k.toNat]? = some (.str ([a0, a1, a2, a3, a4].getD k.toNat Str.empty) t') := by
  have h : k = 0 ∨ k = 1 ∨ k = 2 ∨ k = 3 ∨ k = 4 := by omega
  rcases h with rfl | rfl | rfl | rfl | rfl <;> exact ⟨_, rfl⟩

local macro_rules | `(tactic| walk_at "eval ListComp") => `(tactic| (refine Stop.out ?_))

theorem lawrow {w : World} {mean : ExcName → Option Value} {mg mb : Str → Option Value} {dp un : Nat} {gd : Option (List Code)} {cn : Str} {cs : Scope} {a : Addr} {ccd : Value} {cl : List (Str × Addr)} {outer : List Env} {A₀ : Around} {base h₀ : Heap} {L : Addr} {m : Str → Option Value} {s : Shared} {Q E : Value → Shared → Prop} {news : List (Addr × Obj)} {x : Str} {t u : Tok} {k : Int} (B : Below A₀ base outer h₀) (F : Fr h₀ L s.heap m) (X : (hd.heap_39 w.params).In h₀) (N : News h₀ L s.heap news) (T : Top hd.view_39 (looseW hd.view_39 [Str.ofString "tspecials", Str.ofString "_name_disallowed_re", Str.ofString "_value_disallowed_re", Str.ofString "_formatparam"]) mean mg mb h₀) (hk : cs.kind = .function) (hd : dp + 1 < recursionLimit) (hx : x.length ≤ 18) (h0 : 0 ≤ k) (h5 : k < 5)
    (ret : ∀ D ys h' tk', Fr h₀ L h' m → News h₀ L h' ((D, lst ys) :: news) → Off1 D news → StrsAre ys (row k.toNat x) → Q (.ref D) { s with heap := h', toks := tk' }) :
    wpAny (model PySem.Challenge.rw_pe0245_01.row.prog w) (ktrTop dp un gd cn cs L a ccd cl outer) (call (.ref 235) [.str x t, .int k u]) Q E s := by
  revert X
  k_fill
  intro X
  refine wpAny_call ?_
  k_dflt (refine' code_defC ?k1 ?k2 ?k3 ?k4 ?k5 ?kA ?kF ?kK ?k6 ?k7 ?k8 ?k9 ?kB ?kD ?_ ?c2 ?c3 ?c4; (case kA => exact rfl); (case kF => exact rfl); (case kK => first | assumption | exact rfl); (case k1 => k_asm); (case k2 => k_asm); (case k3 => k_asm); (case k4 => k_asm); (case k5 => k_asm); (case k6 => k_is); (case k7 => k_is); (case k8 => ktr_room); (case k9 => first | exact BindsTo.of_eq rfl | exact binds_K (by k_in) rfl (by k_is) rfl rfl rfl); (case kB => exact rfl); (case kD => decide +kernel); (case c2 => exact rfl); (case c3 => exact rfl); (case c4 => exact rfl); k_whole; intro g1 L1 h1 tk1 cells1 FG1 F1 N1 Y1 B1 X1 T1 l1; (try k_lt l1); k_cells Y1; (try simp only [List.cons_append, List.nil_append] at N1); (try dsimp only); (try k_lift B1); (try k_fold))
  k_steps
  unfold Stop
  refine ListComp_S (by k_asm) (by rfl) (by decide) rfl (by decide) rfl ?_
  k_steps
  refine SrcS.mk rfl (by k_asm) (by k_asm) (by rw [sizeLine_eq]; have : x.cps.size = x.length := rfl; omega) ?_
  intro h2
  refine restS (fun c y => ∃ t, y = .str (spell k.toNat c) t) ?_ ?_
  · intro c t ys I oI C oC D m₂ h tk E' hc ho h1 F9 N9
    refine row_elt F9 N9 (by k_mem) ho h1 (hw := by k_mem) (dw := by assumption) (hs := by k_mem) (ds := by assumption) (hd := by k_mem) (hI := by assumption) (lo := by assumption) h0 h5 (q1 := ?q1) (q2 := ?q2) rfl rfl rfl rfl rfl rfl
    case q1 =>
      intro v hv
      rw [ways_at] at hv
      unfold spell
      repeat' split at hv
      all_goals first
        | (cases hv; done)
        | (cases hv; subst_vars; obtain ⟨t', ht'⟩ := five k h0 h5; refine ⟨_, _, t', _, rfl, by k_mem, ?_⟩; simp only [if_pos, if_neg, *]; exact ht')
    case q2 =>
      intro hv
      exact ways_none hv
  · intro ys hy D h tk F9 N9 off
    k_steps
    exact ret D ys _ _ (by k_asm) (newsSub (by assumption) (List.forall_mem_cons.mpr ⟨List.mem_cons_self, fun p hp => by (repeat (first | exact hp | refine List.mem_cons_of_mem _ ?_))⟩)) (off1_of fun p hp => off1_mem off p (by (repeat (first | exact hp | refine List.mem_cons_of_mem _ ?_)))) (pairedStrs hy)
end
section
theorem offF2 : True := by
  w_top off
  trivial
local macro_rules | `(tactic| walk_at "none") => `(tactic| fail "none")
set_option maxHeartbeats 1600000
open LCg LCp PyProof.Rows.LCt
theorem pick_any {α : Type} : ∀ (vs : List α) (bs : List Bool), bs.length = vs.length → (!(pick vs bs).isEmpty) = bs.any id
  | [], [], _ => rfl
  | v :: vs, b :: bs, h => by
    rw [pick_cons, List.any_cons]
    cases b
    · exact pick_any vs bs (by simpa using h)
    · rfl
  | [], _ :: _, h => nomatch h
  | _ :: _, [], h => nomatch h
local macro_rules | `(tactic| walk_at "eval ListComp") => `(tactic| (refine Stop.out ?_))

theorem lawhas {w : World} {mean : ExcName → Option Value} {mg mb : Str → Option Value} {dp un : Nat} {gd : Option (List Code)} {cn : Str} {cs : Scope} {a : Addr} {ccd : Value} {cl : List (Str × Addr)} {outer : List Env} {A₀ : Around} {base h₀ : Heap} {L : Addr} {m : Str → Option Value} {s : Shared} {Q E : Value → Shared → Prop} {news : List (Addr × Obj)} {r sn : Addr} {n1 n2 : Nat} {ys zs : List Value} {rs ss : List Str} (B : Below A₀ base outer h₀) (F : Fr h₀ L s.heap m) (X : (hd.heap_39 w.params).In h₀) (N : News h₀ L s.heap news) (T : Top hd.view_39 (looseW hd.view_39 [Str.ofString "tspecials", Str.ofString "_name_disallowed_re", Str.ofString "_value_disallowed_re", Str.ofString "_formatparam"]) mean mg mb h₀) (hk : cs.kind = .function) (hd : dp + 1 < recursionLimit) (hu : un + 80 < cLine)
    (hr : (r, listOf ys.toArray n1) ∈ news) (hys : StrsAre ys rs) (hs : (sn, listOf zs.toArray n2) ∈ news) (hzs : StrsAre zs ss) (hlen : ys.length ≤ 1000)
    (ret : ∀ h' tk', Fr h₀ L h' m → News h₀ L h' news → Q (.bool (rs.any fun y => ss.any (· == y))) { s with heap := h', toks := tk' }) :
    wpAny (model PySem.Challenge.rw_pe0245_01.row.prog w) (ktrTop dp un gd cn cs L a ccd cl outer) (call (.ref 240) [.ref r, .ref sn]) Q E s := by
  revert X
  k_fill
  intro X
  refine wpAny_call ?_
  k_dflt (refine' code_defC ?k1 ?k2 ?k3 ?k4 ?k5 ?kA ?kF ?kK ?k6 ?k7 ?k8 ?k9 ?kB ?kD ?_ ?c2 ?c3 ?c4; (case kA => exact rfl); (case kF => exact rfl); (case kK => first | assumption | exact rfl); (case k1 => k_asm); (case k2 => k_asm); (case k3 => k_asm); (case k4 => k_asm); (case k5 => k_asm); (case k6 => k_is); (case k7 => k_is); (case k8 => ktr_room); (case k9 => first | exact BindsTo.of_eq rfl | exact binds_K (by k_in) rfl (by k_is) rfl rfl rfl); (case kB => exact rfl); (case kD => decide +kernel); (case c2 => exact rfl); (case c3 => exact rfl); (case c4 => exact rfl); k_whole; intro g1 L1 h1 tk1 cells1 FG1 F1 N1 Y1 B1 X1 T1 l1; (try k_lt l1); k_cells Y1; (try simp only [List.cons_append, List.nil_append] at N1); (try dsimp only); (try k_lift B1); (try k_fold))
  k_steps
  unfold Stop
  refine ListComp_T (by k_asm) (by rfl) (by decide) (by rfl) (by decide) (by rfl) ?_
  k_steps
  refine CompSrcT.ledger rfl (by k_asm) (by k_asm) (List.mem_cons_of_mem _ hr) (by rw [sizeLine_eq]; simp; omega) ?_
  intro g9
  refine restT (bs := rs.map fun y => ss.any (· == y)) (by rw [List.length_map, hys.length]) (.inr ⟨_, List.mem_cons_of_mem _ hr, rfl, _, rfl⟩) ?_ ?_ ?_
  · intro i v b ys I oI C oC D m₂ h tk E' hv hb ho h1 F9 N9
    obtain ⟨y9, t9, rfl, hy9⟩ := hys.item i v hv
    rw [List.getElem?_map, hy9] at hb
    cases hb
    k_steps
    refine in_list_strs (News.isList (by k_asm) (by k_mem)) hzs ?_
    k_steps
    exact Quiet.mk (by k_asm) (by k_asm) (fun _ h => h)
  · intro v ys I oI C oC D m₂ h tk E' hv ho h1 F9 N9
    k_steps
    exact Quiet.mk (by k_asm) (by k_asm) (fun _ h => h)
  · intro D h tk F9 N9 off
    k_steps
    refine ne_nilK (News.isList (by k_asm) (List.mem_cons_of_mem _ List.mem_cons_self)) (News.isList (by k_asm) List.mem_cons_self) (by units_room) ?_
    k_steps
    rw [pick_any _ _ (by rw [List.length_map, hys.length]), List.any_map]
    exact ret _ _ (by k_asm) (newsSub (by assumption) fun p hp => by (repeat (first | exact hp | refine List.mem_cons_of_mem _ ?_)))
end
section
set_option maxHeartbeats 1600000
open LCg LCp PyProof.Rows PyProof.Rows.LCt

abbrev Pg := List Str × Str × Str
/-- the law's own pages, as the ledger has them; no list of theirs lies at `bad` -/
inductive PagesAt (bad : Addr) (news : List (Addr × Obj)) : List Value → List Pg → Prop
  | nil : PagesAt bad news [] []
  | cons {t k lw n nm tx t1 t2 low ys vs ps} (h : (t, tupObj [.ref lw, .str nm t1, .str tx t2] k) ∈ news) (hl : (lw, listOf (List.toArray ys) n) ∈ news) (hne : lw ≠ bad) (hs : StrsAre ys low) (r : PagesAt bad news vs ps) : PagesAt bad news (.ref t :: vs) ((low, nm, tx) :: ps)
theorem PagesAt.length {bad : Addr} {news : List (Addr × Obj)} {vs : List Value} {ps : List Pg} (h : PagesAt bad news vs ps) : vs.length = ps.length := by
  induction h with
  | nil => rfl
  | cons _ _ _ _ _ ih => simp [ih]
theorem PagesAt.get {bad : Addr} {news : List (Addr × Obj)} {vs : List Value} {ps : List Pg} (h : PagesAt bad news vs ps) : ∀ (i : Nat) (v : Value), vs[i]? = some v → ∃ t k lw n t1 t2 ys p, v = .ref t ∧ ps[i]? = some p ∧ (t, tupObj [.ref lw, .str p.2.1 t1, .str p.2.2 t2] k) ∈ news ∧ (lw, listOf (List.toArray ys) n) ∈ news ∧ StrsAre ys p.1 := by
  induction h with
  | nil => intro i v h; simp at h
  | cons hm hl _ hs _ ih =>
    intro i v h
    cases i with
    | zero => simp at h; subst h; exact ⟨_, _, _, _, _, _, _, _, rfl, rfl, hm, hl, hs⟩
    | succ i => simp at h; simpa using ih i v h
theorem PagesAt.mono {bad : Addr} {news news' : List (Addr × Obj)} (sub : ∀ p ∈ news, p.1 ≠ bad → p ∈ news') (hb : ∀ t k u, (t, tupObj u k) ∈ news → t ≠ bad) {vs : List Value} {ps : List Pg} (h : PagesAt bad news vs ps) : PagesAt bad news' vs ps := by
  induction h with
  | nil => exact .nil
  | cons hm hl hne hs _ ih => exact .cons (sub _ hm (hb _ _ _ hm)) (sub _ hl hne) hne hs ih
theorem PagesAt.mono' {bad : Addr} {news news' : List (Addr × Obj)} (sub : ∀ p ∈ news, p ∈ news') {vs : List Value} {ps : List Pg} (h : PagesAt bad news vs ps) : PagesAt bad news' vs ps := by
  induction h with
  | nil => exact .nil
  | cons hm hl hne hs _ ih => exact .cons (sub _ hm) (sub _ hl) hne hs ih
theorem PagesAt.append {bad : Addr} {news : List (Addr × Obj)} {vs ws : List Value} {ps qs : List Pg} (h : PagesAt bad news vs ps) (g : PagesAt bad news ws qs) : PagesAt bad news (vs ++ ws) (ps ++ qs) := by
  induction h with
  | nil => exact g
  | cons hm hl hne hs _ ih => exact .cons hm hl hne hs ih
theorem PagesAt.pick {bad : Addr} {news : List (Addr × Obj)} {vs : List Value} {ps : List Pg} (h : PagesAt bad news vs ps) : ∀ bs : List Bool, PagesAt bad news (pick vs bs) (Mine.pick ps bs) := by
  induction h with
  | nil => intro bs; exact .nil
  | cons hm hl hne hs hr ih =>
    intro bs
    cases bs with
    | nil => exact .nil
    | cons b bs =>
      rw [pick_cons, pick_cons]
      cases b
      · exact ih bs
      · exact .cons hm hl hne hs (ih bs)

theorem PagesAt.rest {bad : Addr} {news : List (Addr × Obj)} {vs : List Value} {ps : List Pg} (h : PagesAt bad news vs ps) (q : Pg → Bool) : PagesAt bad news (Mine.pick vs (ps.map q)) (ps.filter q) := by
  rw [← pick_map]
  exact h.pick _
abbrev hasP (r ss : List Str) : Bool := r.any fun y => ss.any (· == y)
abbrev faultP : Str := Str.ofString "ValueError: Control characters not allowed in headers"
def backed (y : Str) : Str := if y = Str.ofString "\\" ∨ y = Str.ofString "\"" then Str.ofString "\\" ++ y else y
def markP (extra : List Str) : Str := if extra = [] then Str.ofString "p" else Str.ofString "p=\"" ++ Txt.join Str.empty (extra.map backed) ++ Str.ofString "\""
def textP (kind : Int) (value extra : List Str) : Str :=
  if kind = 1 then Txt.join Str.empty value ++ Str.ofString "; " ++ markP extra else if kind = 4 then markP extra else Txt.join Str.empty value
/-- what the law expects of one turn -/
def turnP (pgs : List Pg) (kind : Int) (name value extra : List Str) : List Pg × Option Str :=
  if hasP name [Str.ofString "\t", Str.ofString "\n", Str.ofString "\r"] = true then (pgs, some faultP) else
  if kind = 3 then (pgs.filter fun p => decide (p.1 ≠ name.map Txt.lower), none) else
  match (if kind = 2 then pgs.find? (fun p => decide (p.1 = name.map Txt.lower)) else none) with
  | some p => (pgs, some p.2.2)
  | none =>
    if ((kind ≠ 4 ∧ hasP value [Str.ofString "\n", Str.ofString "\r"] = true) ∨ ((kind = 1 ∨ kind = 4) ∧ hasP extra [Str.ofString "\n", Str.ofString "\r"] = true)) then (if kind = 0 then pgs.filter fun p => decide (p.1 ≠ name.map Txt.lower) else pgs, some faultP) else
    ((if kind = 0 then pgs.filter fun p => decide (p.1 ≠ name.map Txt.lower) else pgs) ++ [(name.map Txt.lower, Txt.join Str.empty name, textP kind value extra)], if kind = 2 then some (textP kind value extra) else none)

section
variable {pgs : List Pg} {name value extra : List Str}
abbrev badName (name : List Str) : Bool := hasP name [Str.ofString "\t", Str.ofString "\n", Str.ofString "\r"]
abbrev badText (value : List Str) : Bool := hasP value [Str.ofString "\n", Str.ofString "\r"]
abbrev restP' (pgs : List Pg) (name : List Str) : List Pg := pgs.filter fun p => decide (p.1 ≠ name.map Txt.lower)
theorem turn_bad {kind : Int} (h : badName name = true) : turnP pgs kind name value extra = (pgs, some faultP) := by unfold turnP; rw [if_pos h]
theorem turn_3 (h : badName name = false) : turnP pgs 3 name value extra = (restP' pgs name, none) := by unfold turnP; rw [if_neg (fun q => Bool.false_ne_true (h.symm.trans q)), if_pos rfl]
theorem turn_hit {p : Pg} (h : badName name = false) (hf : pgs.find? (fun p => decide (p.1 = name.map Txt.lower)) = some p) : turnP pgs 2 name value extra = (pgs, some p.2.2) := by
  unfold turnP
  rw [if_neg (fun q => Bool.false_ne_true (h.symm.trans q)), if_neg (by decide), if_pos rfl, hf]
theorem turn_text {kind : Int} (h : badName name = false) (h3 : kind ≠ 3) (h2 : kind = 2 → pgs.find? (fun p => decide (p.1 = name.map Txt.lower)) = none)
    (hb : (kind ≠ 4 ∧ badText value = true) ∨ ((kind = 1 ∨ kind = 4) ∧ badText extra = true)) : turnP pgs kind name value extra = (if kind = 0 then restP' pgs name else pgs, some faultP) := by
  unfold turnP
  have e : (if kind = 2 then pgs.find? (fun p => decide (p.1 = name.map Txt.lower)) else none) = none := by
    by_cases q : kind = 2
    · rw [if_pos q, h2 q]
    · rw [if_neg q]
  rw [if_neg (fun q => Bool.false_ne_true (h.symm.trans q)), if_neg h3, e]
  exact if_pos hb
theorem turn_ok {kind : Int} (h : badName name = false) (h3 : kind ≠ 3) (h2 : kind = 2 → pgs.find? (fun p => decide (p.1 = name.map Txt.lower)) = none)
    (hb : ¬ ((kind ≠ 4 ∧ badText value = true) ∨ ((kind = 1 ∨ kind = 4) ∧ badText extra = true))) :
    turnP pgs kind name value extra = ((if kind = 0 then restP' pgs name else pgs) ++ [(name.map Txt.lower, Txt.join Str.empty name, textP kind value extra)], if kind = 2 then some (textP kind value extra) else none) := by
  unfold turnP
  have e : (if kind = 2 then pgs.find? (fun p => decide (p.1 = name.map Txt.lower)) else none) = none := by
    by_cases q : kind = 2
    · rw [if_pos q, h2 q]
    · rw [if_neg q]
  rw [if_neg (fun q => Bool.false_ne_true (h.symm.trans q)), if_neg h3, e]
  exact if_neg hb
theorem turn_0_bad (h : badName name = false) (hv : badText value = true) : turnP pgs 0 name value extra = (restP' pgs name, some faultP) := turn_text h (by decide) (fun q => nomatch q) (.inl ⟨by decide, hv⟩)
theorem turn_0_ok (h : badName name = false) (hv : badText value = false) : turnP pgs 0 name value extra = (restP' pgs name ++ [(name.map Txt.lower, Txt.join Str.empty name, Txt.join Str.empty value)], none) := turn_ok h (by decide) (fun q => nomatch q) (fun q => q.elim (fun z => Bool.false_ne_true (hv.symm.trans z.2)) (fun z => z.1.elim (fun y => nomatch y) (fun y => nomatch y)))
theorem turn_1_bad (h : badName name = false) (hv : badText value = true) : turnP pgs 1 name value extra = (pgs, some faultP) := turn_text h (by decide) (fun q => nomatch q) (.inl ⟨by decide, hv⟩)
theorem turn_1_bad' (h : badName name = false) (hx : badText extra = true) : turnP pgs 1 name value extra = (pgs, some faultP) := turn_text h (by decide) (fun q => nomatch q) (.inr ⟨.inl rfl, hx⟩)
theorem turn_1_ok (h : badName name = false) (hv : badText value = false) (hx : badText extra = false) : turnP pgs 1 name value extra = (pgs ++ [(name.map Txt.lower, Txt.join Str.empty name, Txt.join Str.empty value ++ Str.ofString "; " ++ markP extra)], none) := turn_ok h (by decide) (fun q => nomatch q) (fun q => q.elim (fun z => Bool.false_ne_true (hv.symm.trans z.2)) (fun z => Bool.false_ne_true (hx.symm.trans z.2)))
theorem turn_2_bad (h : badName name = false) (hf : pgs.find? (fun p => decide (p.1 = name.map Txt.lower)) = none) (hv : badText value = true) : turnP pgs 2 name value extra = (pgs, some faultP) := turn_text h (by decide) (fun _ => hf) (.inl ⟨by decide, hv⟩)
theorem turn_2_ok (h : badName name = false) (hf : pgs.find? (fun p => decide (p.1 = name.map Txt.lower)) = none) (hv : badText value = false) : turnP pgs 2 name value extra = (pgs ++ [(name.map Txt.lower, Txt.join Str.empty name, Txt.join Str.empty value)], some (Txt.join Str.empty value)) := turn_ok h (by decide) (fun _ => hf) (fun q => q.elim (fun z => Bool.false_ne_true (hv.symm.trans z.2)) (fun z => z.1.elim (fun y => nomatch y) (fun y => nomatch y)))
theorem turn_4_bad (h : badName name = false) (hx : badText extra = true) : turnP pgs 4 name value extra = (pgs, some faultP) := turn_text h (by decide) (fun q => nomatch q) (.inr ⟨.inr rfl, hx⟩)
theorem turn_4_ok (h : badName name = false) (hx : badText extra = false) : turnP pgs 4 name value extra = (pgs ++ [(name.map Txt.lower, Txt.join Str.empty name, markP extra)], none) := turn_ok h (by decide) (fun q => nomatch q) (fun q => q.elim (fun z => z.1 rfl) (fun z => Bool.false_ne_true (hx.symm.trans z.2)))
end
end
section
set_option maxHeartbeats 1600000

/-! the plain law: no program in sight -/
theorem join_eq (l : List Str) : Txt.join Str.empty l = Str.join Str.empty l := eq_of_beq (join_plain_closes _ _)
theorem sg_join : ∀ l : List Str, sg (Txt.join Str.empty l) = l.flatMap sg
  | [] => rfl
  | x :: r => by
    have ih := sg_join r
    rw [join_eq] at ih ⊢
    have e : Str.join Str.empty (x :: r) = x ++ Str.join Str.empty r := join_nil_cons x r
    rw [e, sg_append, ih, List.flatMap_cons]
theorem rep_flat (c : Nat) (z : List Nat) (f : Nat → List Nat) (l : List Nat) : rep c z (l.flatMap f) = l.flatMap fun k => rep c z (f k) := by
  simp [rep, List.flatMap_assoc]
theorem rep_one (c : Nat) (z : List Nat) (l : List Nat) : rep c z l = l.flatMap fun k => rep c z [k] := by
  simp [rep]
theorem sg_rep (x z : Str) (k : String) (c : Nat) (h : Str.ofString k = ⟨#[c]⟩) : sg (Txt.replace x (Str.ofString k) z) = rep c (sg z) (sg x) := by
  rw [h]; exact sg_replace x z c
/-- a sign that no escape turns -/
abbrev Dull (c : Nat) : Prop := c ≠ 38 ∧ c ≠ 60 ∧ c ≠ 62 ∧ c ≠ 34 ∧ c ≠ 9 ∧ c ≠ 10 ∧ c ≠ 13
theorem sign_cases (c : Nat) : c = 38 ∨ c = 60 ∨ c = 62 ∨ c = 34 ∨ c = 9 ∨ c = 10 ∨ c = 13 ∨ Dull c := by
  unfold Dull; omega
theorem spell_dull (w : Nat) {c : Nat} (h : Dull c) : spell w c = ⟨#[c]⟩ := by
  obtain ⟨h0, h1, h2, h3, h4, h5, h6⟩ := h
  unfold spell
  rw [if_neg h0, if_neg h1, if_neg h2, if_neg h3, if_neg h4, if_neg h5, if_neg h6]
theorem flatMap_congr' {α β : Type} {f g : α → List β} : ∀ {l : List α}, (∀ a ∈ l, f a = g a) → l.flatMap f = l.flatMap g
  | [], _ => rfl
  | a :: r, h => by rw [List.flatMap_cons, List.flatMap_cons, h a List.mem_cons_self, flatMap_congr' fun b hb => h b (List.mem_cons_of_mem _ hb)]
theorem sg_rowjoin (w : Nat) (x : Str) : sg (Txt.join Str.empty (row w x)) = (sg x).flatMap fun c => sg (spell w c) := by
  rw [sg_join, row, List.flatMap_map]
theorem rep_ne {c k : Nat} (z : List Nat) (h : k ≠ c) : rep c z [k] = [k] := rep_free c z [k] (by simpa using fun e => h e.symm)

theorem esc_row {w : Nat} (hw : w < 5) (x : Str) : esc w x = Txt.join Str.empty (row w x) := by
  apply sg_ext
  rw [sg_rowjoin]
  have h : w = 0 ∨ w = 1 ∨ w = 2 ∨ w = 3 ∨ w = 4 := by omega
  rcases h with rfl | rfl | rfl | rfl | rfl <;> unfold esc
  all_goals
    simp only [sg_rep _ _ "&" 38 rfl, sg_rep _ _ "<" 60 rfl, sg_rep _ _ ">" 62 rfl, sg_rep _ _ "\"" 34 rfl, sg_rep _ _ "\t" 9 rfl, sg_rep _ _ "\n" 10 rfl, sg_rep _ _ "\r" 13 rfl]
    rw [rep_one 38 _ (sg x)]
    simp only [rep_flat]
    refine flatMap_congr' fun c _ => ?_
    rcases sign_cases c with rfl | rfl | rfl | rfl | rfl | rfl | rfl | h
    · decide
    · decide
    · decide
    · decide
    · decide
    · decide
    · decide
    · rw [spell_dull _ h]
      obtain ⟨h0, h1, h2, h3, h4, h5, h6⟩ := h
      simp only [rep_ne _ h0, rep_ne _ h1, rep_ne _ h2, rep_ne _ h3, rep_ne _ h4, rep_ne _ h5, rep_ne _ h6]
      try rfl
theorem sg_esc {w : Nat} (hw : w < 5) (x : Str) : sg (esc w x) = (sg x).flatMap fun c => sg (spell w c) := by rw [esc_row hw, sg_rowjoin]

/-! small letters -/
abbrev Asc (l : List Nat) : Prop := ∀ c ∈ l, c < 128
theorem sg_lower {x : Str} (h : Asc (sg x)) : sg (Txt.lower x) = (sg x).map lo1 := by
  rw [lower_ascii h]; simp [sg]
theorem spell_asc {w c : Nat} (hw : w < 5) (h : c < 128) : Asc (sg (spell w c)) := by
  have hh : w = 0 ∨ w = 1 ∨ w = 2 ∨ w = 3 ∨ w = 4 := by omega
  rcases sign_cases c with rfl | rfl | rfl | rfl | rfl | rfl | rfl | hd
  all_goals first
    | (rw [spell_dull _ hd]; intro k hk; simp [sg] at hk; omega)
    | (rcases hh with rfl | rfl | rfl | rfl | rfl <;> decide)
theorem esc_asc {w : Nat} {x : Str} (hw : w < 5) (h : Asc (sg x)) : Asc (sg (esc w x)) := by
  rw [sg_esc hw]
  intro c hc
  obtain ⟨k, hk, hc⟩ := List.mem_flatMap.mp hc
  exact spell_asc hw (h k hk) c hc
/-- a written part: one sign that opens no reference, or a whole reference -/
def Part (p : List Nat) : Prop := (∃ c, p = [c] ∧ c ≠ 38) ∨ (∃ q, p = 38 :: (q ++ [59]) ∧ 59 ∉ q)
theorem cut59 : ∀ {a b : List Nat} {X Y : List Nat}, 59 ∉ a → 59 ∉ b → a ++ 59 :: X = b ++ 59 :: Y → a = b ∧ X = Y
  | [], [], X, Y, _, _, h => ⟨rfl, by simpa using h⟩
  | [], b :: r, X, Y, _, hb, h => by
    simp at h; exact absurd List.mem_cons_self (h.1 ▸ hb)
  | a :: r, [], X, Y, ha, _, h => by
    simp at h; exact absurd List.mem_cons_self (h.1 ▸ ha)
  | a :: r, b :: r', X, Y, ha, hb, h => by
    simp only [List.cons_append, List.cons.injEq] at h
    obtain ⟨e1, e2⟩ := cut59 (fun m => ha (List.mem_cons_of_mem _ m)) (fun m => hb (List.mem_cons_of_mem _ m)) h.2
    exact ⟨by rw [h.1, e1], e2⟩
theorem parts_uniq : ∀ {ps qs : List (List Nat)}, (∀ p ∈ ps, Part p) → (∀ q ∈ qs, Part q) → ps.flatten = qs.flatten → ps = qs
  | [], [], _, _, _ => rfl
  | [], q :: qs, _, hq, h => by
    rcases hq q List.mem_cons_self with ⟨c, rfl, _⟩ | ⟨r, rfl, _⟩ <;> simp at h
  | p :: ps, [], hp, _, h => by
    rcases hp p List.mem_cons_self with ⟨c, rfl, _⟩ | ⟨r, rfl, _⟩ <;> simp at h
  | p :: ps, q :: qs, hp, hq, h => by
    have ih := @parts_uniq ps qs (fun a ha => hp a (List.mem_cons_of_mem _ ha)) (fun a ha => hq a (List.mem_cons_of_mem _ ha))
    rw [List.flatten_cons, List.flatten_cons] at h
    rcases hp p List.mem_cons_self with ⟨c, rfl, hc⟩ | ⟨r, rfl, hr⟩ <;> rcases hq q List.mem_cons_self with ⟨d, rfl, hd⟩ | ⟨r', rfl, hr'⟩
    · simp only [List.cons_append, List.nil_append, List.cons.injEq] at h
      rw [h.1, ih h.2]
    · simp only [List.cons_append, List.nil_append, List.cons.injEq] at h
      exact absurd h.1 hc
    · simp only [List.cons_append, List.nil_append, List.cons.injEq] at h
      exact absurd h.1.symm hd
    · simp only [List.cons_append, List.append_assoc, List.nil_append, List.cons.injEq, true_and] at h
      obtain ⟨e1, e2⟩ := cut59 hr hr' h
      rw [e1, ih e2]
theorem spell_part {w c : Nat} (hw : w < 5) (h : c < 128) : Part (sg (Txt.lower (spell w c))) := by
  rw [sg_lower (spell_asc hw h)]
  have hh : w = 0 ∨ w = 1 ∨ w = 2 ∨ w = 3 ∨ w = 4 := by omega
  rcases sign_cases c with rfl | rfl | rfl | rfl | rfl | rfl | rfl | hd
  all_goals first
    | (rw [spell_dull _ hd]
       refine .inl ⟨lo1 c, rfl, ?_⟩
       obtain ⟨h0, _⟩ := hd
       unfold lo1
       split <;> omega)
    | (rcases hh with rfl | rfl | rfl | rfl | rfl
       all_goals first
        | exact .inl ⟨_, rfl, by decide⟩
        | exact .inr ⟨[97, 109, 112], rfl, by decide⟩
        | exact .inr ⟨[108, 116], rfl, by decide⟩
        | exact .inr ⟨[103, 116], rfl, by decide⟩
        | exact .inr ⟨[113, 117, 111, 116], rfl, by decide⟩
        | exact .inr ⟨[35, 48, 57], rfl, by decide⟩
        | exact .inr ⟨[35, 49, 48], rfl, by decide⟩
        | exact .inr ⟨[35, 49, 51], rfl, by decide⟩
        | exact .inr ⟨[35, 120, 57], rfl, by decide⟩
        | exact .inr ⟨[35, 120, 97], rfl, by decide⟩
        | exact .inr ⟨[35, 120, 100], rfl, by decide⟩)
abbrev lowRow (w : Nat) (x : Str) : List Str := (row w x).map Txt.lower
theorem sg_lower_esc {w : Nat} {x : Str} (hw : w < 5) (h : Asc (sg x)) : sg (Txt.lower (esc w x)) = ((lowRow w x).map sg).flatten := by
  rw [sg_lower (esc_asc hw h), sg_esc hw, List.map_flatMap, lowRow, row, List.map_map, List.map_map, ← List.flatMap_def]
  refine flatMap_congr' fun c hc => ?_
  exact (sg_lower (spell_asc hw (h c hc))).symm
theorem map_sg_inj : ∀ {a b : List Str}, a.map sg = b.map sg → a = b
  | [], [], _ => rfl
  | [], _ :: _, h => nomatch h
  | _ :: _, [], h => nomatch h
  | x :: a, y :: b, h => by
    simp only [List.map_cons, List.cons.injEq] at h
    rw [sg_ext h.1, map_sg_inj h.2]
theorem row_parts {w : Nat} {x : Str} (hw : w < 5) (h : Asc (sg x)) : ∀ p ∈ (lowRow w x).map sg, Part p := by
  intro p hp
  obtain ⟨y, hy, rfl⟩ := List.mem_map.mp hp
  obtain ⟨z, hz, rfl⟩ := List.mem_map.mp hy
  obtain ⟨c, hc, rfl⟩ := List.mem_map.mp hz
  exact spell_part hw (h c hc)
/-- two written names are one just if they are spelled alike, sign for sign -/
theorem lower_same {w w' : Nat} {x y : Str} (hw : w < 5) (hw' : w' < 5) (hx : Asc (sg x)) (hy : Asc (sg y)) : Txt.lower (esc w x) = Txt.lower (esc w' y) ↔ lowRow w x = lowRow w' y := by
  constructor
  · intro h
    have e := congrArg sg h
    rw [sg_lower_esc hw hx, sg_lower_esc hw' hy] at e
    exact map_sg_inj (parts_uniq (row_parts hw hx) (row_parts hw' hy) e)
  · intro h
    apply sg_ext
    rw [sg_lower_esc hw hx, sg_lower_esc hw' hy, h]

/-! the signs that may stand -/
abbrev fine (c : Nat) : Prop := c = 9 ∨ c = 10 ∨ c = 13 ∨ (32 ≤ c ∧ c < 127)
abbrev Fine (x : Str) : Prop := ∀ c ∈ sg x, fine c
theorem Fine.asc {x : Str} (h : Fine x) : Asc (sg x) := fun c hc => by have := h c hc; unfold fine at this; omega
theorem spell_fine {w c : Nat} (hw : w < 5) (h : fine c) : Fine (spell w c) := by
  have hh : w = 0 ∨ w = 1 ∨ w = 2 ∨ w = 3 ∨ w = 4 := by omega
  rcases sign_cases c with rfl | rfl | rfl | rfl | rfl | rfl | rfl | hd
  all_goals first
    | (rw [spell_dull _ hd]; intro k hk; simp [sg] at hk; subst hk; exact h)
    | (rcases hh with rfl | rfl | rfl | rfl | rfl <;> decide)
theorem esc_fine {w : Nat} {x : Str} (hw : w < 5) (h : Fine x) : Fine (esc w x) := by
  unfold Fine
  rw [sg_esc hw]
  intro c hc
  obtain ⟨k, hk, hc⟩ := List.mem_flatMap.mp hc
  exact spell_fine hw (h k hk) c hc
theorem any_flat {α β : Type} (f : α → List β) (q : β → Bool) : ∀ l : List α, (l.flatMap f).any q = l.any fun a => (f a).any q
  | [] => rfl
  | a :: r => by rw [List.flatMap_cons, List.any_append, List.any_cons, any_flat f q r]
theorem any_congr' {α : Type} {f g : α → Bool} : ∀ {l : List α}, (∀ a ∈ l, f a = g a) → l.any f = l.any g
  | [], _ => rfl
  | a :: r, h => by rw [List.any_cons, List.any_cons, h a List.mem_cons_self, any_congr' fun b hb => h b (List.mem_cons_of_mem _ hb)]
theorem ne1 {c b : Nat} {k : String} (e : Str.ofString k = ⟨#[b]⟩) (h : c ≠ b) : (Str.ofString k == (⟨#[c]⟩ : Str)) = false := by
  rw [e]
  exact beq_eq_false_iff_ne.mpr fun q => h (by injection q with q; simpa using q.symm)
theorem bad_name {w : Nat} {x : Str} (hw : w < 5) (h : Fine x) : (sg (esc w x)).any badN = badName (row w x) := by
  rw [sg_esc hw, any_flat]
  unfold badName hasP
  rw [row, List.any_map]
  refine any_congr' fun c hc => ?_
  have hf := h c hc
  have hh : w = 0 ∨ w = 1 ∨ w = 2 ∨ w = 3 ∨ w = 4 := by omega
  rcases sign_cases c with rfl | rfl | rfl | rfl | rfl | rfl | rfl | hd
  all_goals first
    | (rcases hh with rfl | rfl | rfl | rfl | rfl <;> decide)
    | (show (sg (spell w c)).any badN = List.any _ (fun z => z == spell w c)
       rw [spell_dull _ hd]
       obtain ⟨h0, h1, h2, h3, h4, h5, h6⟩ := hd
       have hb : badN c = false := by unfold badN; unfold fine at hf; simp; omega
       simp [sg, hb, ne1 (k := "\t") rfl h4, ne1 (k := "\n") rfl h5, ne1 (k := "\r") rfl h6])
theorem bad_text {w : Nat} {x : Str} (hw : w < 5) (h : Fine x) : (sg (esc w x)).any badV = badText (row w x) := by
  rw [sg_esc hw, any_flat]
  unfold badText hasP
  rw [row, List.any_map]
  refine any_congr' fun c hc => ?_
  have hf := h c hc
  have hh : w = 0 ∨ w = 1 ∨ w = 2 ∨ w = 3 ∨ w = 4 := by omega
  rcases sign_cases c with rfl | rfl | rfl | rfl | rfl | rfl | rfl | hd
  all_goals first
    | (rcases hh with rfl | rfl | rfl | rfl | rfl <;> decide)
    | (show (sg (spell w c)).any badV = List.any _ (fun z => z == spell w c)
       rw [spell_dull _ hd]
       obtain ⟨h0, h1, h2, h3, h4, h5, h6⟩ := hd
       have hb : badV c = false := by unfold badV; unfold fine at hf; simp; omega
       simp [sg, hb, ne1 (k := "\n") rfl h5, ne1 (k := "\r") rfl h6])
theorem badN_lo (c : Nat) : badN (lo1 c) = badN c := by
  unfold lo1
  split
  · rename_i h
    have e1 : badN c = false := by unfold badN; simp; omega
    have e2 : badN (c + 32) = false := by unfold badN; simp; omega
    rw [e1, e2]
  · rfl
theorem bad_lower {x : Str} (h : Asc (sg x)) : (sg (Txt.lower x)).any badN = (sg x).any badN := by
  rw [sg_lower h, List.any_map]
  exact any_congr' fun c _ => badN_lo c

/-! quotation marks and backslashes -/
theorem backed_dull {c : Nat} (h1 : c ≠ 92) (h2 : c ≠ 34) : backed ⟨#[c]⟩ = ⟨#[c]⟩ := by
  unfold backed
  refine if_neg fun q => ?_
  rcases q with q | q
  · have e : Str.ofString "\\" = ⟨#[92]⟩ := rfl
    rw [e] at q; injection q with q; exact h1 (by simpa using q)
  · have e : Str.ofString "\"" = ⟨#[34]⟩ := rfl
    rw [e] at q; injection q with q; exact h2 (by simpa using q)
theorem backed_part {w c : Nat} (hw : w < 5) : rep 34 [92, 34] (rep 92 [92, 92] (sg (spell w c))) = sg (backed (spell w c)) := by
  have hh : w = 0 ∨ w = 1 ∨ w = 2 ∨ w = 3 ∨ w = 4 := by omega
  rcases sign_cases c with rfl | rfl | rfl | rfl | rfl | rfl | rfl | hd
  all_goals first
    | (rcases hh with rfl | rfl | rfl | rfl | rfl <;> decide)
    | (rw [spell_dull _ hd]
       by_cases h : c = 92
       · subst h; decide
       · rw [backed_dull h hd.2.2.2.1]
         show rep 34 [92, 34] (rep 92 [92, 92] [c]) = [c]
         rw [rep_ne _ h, rep_ne _ hd.2.2.2.1])
theorem quoted_row {w : Nat} (hw : w < 5) (x : Str) : quoted (esc w x) = Txt.join Str.empty ((row w x).map backed) := by
  apply sg_ext
  unfold quoted
  rw [sg_rep _ _ "\"" 34 rfl, sg_rep _ _ "\\" 92 rfl, sg_esc hw, rep_flat, rep_flat, sg_join, row, List.map_map, List.flatMap_map]
  exact flatMap_congr' fun c _ => backed_part hw
def qmark (v : Str) : Str := if v.length = 0 then Str.ofString "p" else Str.ofString "p" ++ Str.ofString "=\"" ++ quoted v ++ Str.ofString "\""
theorem spell_len {w : Nat} (c : Nat) (hw : w < 5) : 1 ≤ (spell w c).length ∧ (spell w c).length ≤ 6 := by
  have hh : w = 0 ∨ w = 1 ∨ w = 2 ∨ w = 3 ∨ w = 4 := by omega
  rcases sign_cases c with rfl | rfl | rfl | rfl | rfl | rfl | rfl | hd
  all_goals first
    | (rcases hh with rfl | rfl | rfl | rfl | rfl <;> decide)
    | (rw [spell_dull _ hd]; exact ⟨Nat.le_refl 1, show (1 : Nat) ≤ 6 by decide⟩)
theorem row_length (w : Nat) (x : Str) : (row w x).length = x.length := by rw [row, List.length_map, sg_length]
theorem row_sum {w : Nat} (hw : w < 5) (x : Str) : ((row w x).map (·.length)).sum ≤ 6 * x.length ∧ x.length ≤ ((row w x).map (·.length)).sum := by
  rw [← sg_length, row]
  generalize sg x = l
  induction l with
  | nil => exact ⟨Nat.le_refl _, Nat.le_refl _⟩
  | cons c r ih =>
    have := spell_len c hw
    simp only [List.map_cons, List.sum_cons, List.length_cons]
    omega
theorem flat_len : ∀ l : List Str, (l.flatMap sg).length = (l.map (·.length)).sum
  | [] => rfl
  | x :: r => by rw [List.flatMap_cons, List.length_append, flat_len r, List.map_cons, List.sum_cons, sg_length]
theorem join_length (l : List Str) : (Txt.join Str.empty l).length = (l.map (·.length)).sum := by rw [← sg_length, sg_join, flat_len]
theorem esc_len {w : Nat} (hw : w < 5) (x : Str) : (esc w x).length ≤ 6 * x.length ∧ x.length ≤ (esc w x).length := by
  rw [esc_row hw, join_length]; exact row_sum hw x
theorem qmark_row {w : Nat} (hw : w < 5) (x : Str) : qmark (esc w x) = markP (row w x) := by
  have hl := esc_len hw x
  unfold qmark markP
  by_cases h : x.length = 0
  · have e1 : (esc w x).length = 0 := by omega
    have e2 : row w x = [] := List.eq_nil_of_length_eq_zero (by rw [row_length]; exact h)
    rw [if_pos e1, if_pos e2]
  · have e1 : ¬ (esc w x).length = 0 := by omega
    have e2 : ¬ row w x = [] := fun e => h (by rw [← row_length w x, e]; rfl)
    rw [if_neg e1, if_neg e2, quoted_row hw]
    rfl
theorem backed_len (y : Str) : (backed y).length ≤ y.length + 1 := by
  unfold backed
  split
  · rw [← sg_length, sg_append, List.length_append, sg_length, sg_length]
    have : (Str.ofString "\\").length = 1 := rfl
    omega
  · omega
theorem backed_sum : ∀ l : List Str, ((l.map backed).map (·.length)).sum ≤ (l.map (·.length)).sum + l.length
  | [] => Nat.le_refl _
  | y :: r => by
    have := backed_sum r
    have := backed_len y
    simp only [List.map_cons, List.sum_cons, List.length_cons]
    omega
theorem str_len_append (a b : Str) : (a ++ b).length = a.length + b.length := by rw [← sg_length, sg_append, List.length_append, sg_length, sg_length]
theorem mark_len (l : List Str) : (markP l).length ≤ (l.map (·.length)).sum + l.length + 4 := by
  unfold markP
  split
  · have : (Str.ofString "p").length = 1 := rfl
    omega
  · rw [str_len_append, str_len_append, join_length]
    have := backed_sum l
    have : (Str.ofString "p=\"").length = 3 := rfl
    have : (Str.ofString "\"").length = 1 := rfl
    omega
theorem fine_append {a b : Str} (ha : Fine a) (hb : Fine b) : Fine (a ++ b) := by
  unfold Fine
  rw [sg_append]
  intro c hc
  rcases List.mem_append.mp hc with h | h
  · exact ha c h
  · exact hb c h
theorem fine_join {l : List Str} (h : ∀ y ∈ l, Fine y) : Fine (Txt.join Str.empty l) := by
  unfold Fine
  rw [sg_join]
  intro c hc
  obtain ⟨y, hy, hc⟩ := List.mem_flatMap.mp hc
  exact h y hy c hc
theorem fine_backed {y : Str} (h : Fine y) : Fine (backed y) := by
  unfold backed
  split
  · exact fine_append (by decide) h
  · exact h
theorem fine_row {w : Nat} {x : Str} (hw : w < 5) (h : Fine x) : ∀ y ∈ row w x, Fine y := by
  intro y hy
  obtain ⟨c, hc, rfl⟩ := List.mem_map.mp hy
  exact spell_fine hw (h c hc)
theorem fine_mark {l : List Str} (h : ∀ y ∈ l, Fine y) : Fine (markP l) := by
  unfold markP
  split
  · decide
  · refine fine_append (fine_append (by decide) (fine_join fun y hy => ?_)) (by decide)
    obtain ⟨z, hz, rfl⟩ := List.mem_map.mp hy
    exact fine_backed (h z hz)

/-! what the table's calls make of plain pairs -/
def realP (hs : List (Str × Str)) (kind : Int) (N V X : Str) : List (Str × Str) × Option Str :=
  if (sg N).any badN = true then (hs, some faultP) else
  if kind = 0 then (if (sg V).any badV = true then (hs.filter fun h => decide (Txt.lower h.1 ≠ Txt.lower N), some faultP) else ((hs.filter fun h => decide (Txt.lower h.1 ≠ Txt.lower N)) ++ [(N, V)], none)) else
  if kind = 1 then (if (sg V).any badV = true ∨ (sg X).any badV = true then (hs, some faultP) else (hs ++ [(N, V ++ Str.ofString "; " ++ qmark X)], none)) else
  if kind = 2 then (match hs.find? (fun h => decide (Txt.lower h.1 = Txt.lower N)) with
    | some p => (hs, some p.2)
    | none => if (sg V).any badV = true then (hs, some faultP) else (hs ++ [(N, V)], some V)) else
  if kind = 3 then (hs.filter fun h => decide (Txt.lower h.1 ≠ Txt.lower N), none) else
  if (sg X).any badV = true then (hs, some faultP) else (hs ++ [(N, qmark X)], none)

/-- a page and the pair that it stands for -/
structure PageOk (p : Pg) : Prop where
  nm : ∃ w x, w < 5 ∧ Asc (sg x) ∧ p.1 = lowRow w x ∧ p.2.1 = esc w x
  ln : p.2.1.length ≤ 1000
  fv : Fine p.2.2
  lv : p.2.2.length ≤ 1000
abbrev pairs (pgs : List Pg) : List (Str × Str) := pgs.map (·.2)
theorem page_same {p : Pg} {w : Nat} {x : Str} (h : PageOk p) (hw : w < 5) (hx : Asc (sg x)) : Txt.lower p.2.1 = Txt.lower (esc w x) ↔ p.1 = (row w x).map Txt.lower := by
  obtain ⟨w', y, hw', hy, e1, e2⟩ := h.nm
  rw [e1, e2]
  exact lower_same hw' hw hy hx
theorem filter_pairs {pgs : List Pg} {w : Nat} {x : Str} (h : ∀ p ∈ pgs, PageOk p) (hw : w < 5) (hx : Asc (sg x)) : (pairs pgs).filter (fun h => decide (Txt.lower h.1 ≠ Txt.lower (esc w x))) = pairs (restP' pgs (row w x)) := by
  induction pgs with
  | nil => rfl
  | cons p r ih =>
    have ih := ih fun q hq => h q (List.mem_cons_of_mem _ hq)
    have hp := page_same (h p List.mem_cons_self) hw hx
    have e : decide (Txt.lower p.2.1 ≠ Txt.lower (esc w x)) = decide (p.1 ≠ (row w x).map Txt.lower) := by
      by_cases q : p.1 = (row w x).map Txt.lower
      · simp [q, hp.mpr q]
      · have q' : ¬ Txt.lower p.2.1 = Txt.lower (esc w x) := fun z => q (hp.mp z)
        simp [q, q']
    show ((p.2 :: pairs r).filter _) = pairs ((p :: r).filter _)
    rw [List.filter_cons, List.filter_cons, e, ih]
    split <;> rfl
theorem find_pairs {pgs : List Pg} {w : Nat} {x : Str} (h : ∀ p ∈ pgs, PageOk p) (hw : w < 5) (hx : Asc (sg x)) : (pairs pgs).find? (fun h => decide (Txt.lower h.1 = Txt.lower (esc w x))) = (pgs.find? (fun p => decide (p.1 = (row w x).map Txt.lower))).map (·.2) := by
  induction pgs with
  | nil => rfl
  | cons p r ih =>
    have ih := ih fun q hq => h q (List.mem_cons_of_mem _ hq)
    have hp := page_same (h p List.mem_cons_self) hw hx
    show ((p.2 :: pairs r).find? _) = _
    rw [List.find?_cons, List.find?_cons]
    by_cases q : p.1 = (row w x).map Txt.lower
    · rw [decide_eq_true (hp.mpr q), decide_eq_true q]; rfl
    · rw [decide_eq_false (fun z => q (hp.mp z)), decide_eq_false q]; exact ih
theorem pairs_append (a : List Pg) (p : Pg) : pairs (a ++ [p]) = pairs a ++ [p.2] := by simp [pairs]
theorem ok_append {a : List Pg} {p : Pg} (ha : ∀ q ∈ a, PageOk q) (hp : PageOk p) : ∀ q ∈ a ++ [p], PageOk q := by
  intro q hq
  rcases List.mem_append.mp hq with h | h
  · exact ha q h
  · rw [List.mem_singleton.mp h]; exact hp
theorem ok_rest {a : List Pg} {nm : List Str} (ha : ∀ q ∈ a, PageOk q) : ∀ q ∈ restP' a nm, PageOk q := fun q hq => ha q (List.mem_filter.mp hq).1

/-- the turn: the table's call answers as the plain list's -/
theorem turn_law {pgs : List Pg} {kind : Int} {w l : Nat} {n v x : Str} (hk0 : 0 ≤ kind) (hk5 : kind < 5) (hp : ∀ p ∈ pgs, PageOk p) (hw : w < 5) (hl : l < 5) (hn : Fine n) (hv : Fine v) (hx : Fine x) (ln : n.length ≤ 18) (lv : v.length ≤ 18) (lx : x.length ≤ 18) :
    realP (pairs pgs) kind (esc w n) (esc l v) (esc l x) = (pairs (turnP pgs kind (row w n) (row l v) (row l x)).1, (turnP pgs kind (row w n) (row l v) (row l x)).2) ∧ (∀ p ∈ (turnP pgs kind (row w n) (row l v) (row l x)).1, PageOk p) ∧ (turnP pgs kind (row w n) (row l v) (row l x)).1.length ≤ pgs.length + 1 := by
  have bn := bad_name hw hn
  have bv := bad_text hl hv
  have bx := bad_text hl hx
  have fe : ∀ nm, (restP' pgs nm).length ≤ pgs.length := fun nm => List.length_filter_le _ _
  have page : ∀ tx, Fine tx → tx.length ≤ 1000 → PageOk ((row w n).map Txt.lower, Txt.join Str.empty (row w n), tx) := fun tx h1 h2 =>
    ⟨⟨w, n, hw, hn.asc, rfl, (esc_row hw n).symm⟩, by rw [← esc_row hw]; have := esc_len hw n; show (esc w n).length ≤ 1000; omega, h1, h2⟩
  have fv : Fine (Txt.join Str.empty (row l v)) := by rw [← esc_row hl]; exact esc_fine hl hv
  have lv' : (Txt.join Str.empty (row l v)).length ≤ 108 := by rw [← esc_row hl]; have := esc_len hl v; omega
  have fm : Fine (markP (row l x)) := fine_mark (fine_row hl hx)
  have lm : (markP (row l x)).length ≤ 130 := by
    have h1 := mark_len (row l x)
    have h2 := row_sum hl x
    rw [row_length] at h1
    omega
  cases hb : badName (row w n) with
  | true =>
    rw [turn_bad hb]
    unfold realP
    rw [if_pos (bn.trans hb)]
    exact ⟨rfl, hp, by simp⟩
  | false =>
    have nb : ¬ (sg (esc w n)).any badN = true := by rw [bn, hb]; exact Bool.false_ne_true
    unfold realP
    rw [if_neg nb, filter_pairs hp hw hn.asc, find_pairs hp hw hn.asc, qmark_row hl]
    rw [bv, bx, esc_row hw n, esc_row hl v]
    have hh : kind = 0 ∨ kind = 1 ∨ kind = 2 ∨ kind = 3 ∨ kind = 4 := by omega
    rcases hh with rfl | rfl | rfl | rfl | rfl
    · rw [if_pos rfl]
      cases hv2 : badText (row l v) with
      | true =>
        rw [turn_0_bad hb hv2, if_pos rfl]
        exact ⟨rfl, ok_rest hp, Nat.le_succ_of_le (fe _)⟩
      | false =>
        rw [turn_0_ok hb hv2, if_neg Bool.false_ne_true]
        refine ⟨by rw [pairs_append], ok_append (ok_rest hp) (page _ fv (by omega)), ?_⟩
        have := fe (row w n)
        show (restP' pgs (row w n) ++ [_]).length ≤ _
        rw [List.length_append, List.length_singleton]; omega
    · rw [if_neg (by decide), if_pos rfl]
      cases hv2 : badText (row l v) with
      | true =>
        rw [turn_1_bad hb hv2, if_pos (.inl rfl)]
        exact ⟨rfl, hp, by simp⟩
      | false =>
        cases hx2 : badText (row l x) with
        | true =>
          rw [turn_1_bad' hb hx2, if_pos (.inr rfl)]
          exact ⟨rfl, hp, by simp⟩
        | false =>
          rw [turn_1_ok hb hv2 hx2, if_neg (by simp)]
          refine ⟨by rw [pairs_append], ok_append hp (page _ (fine_append (fine_append fv (by decide)) fm) ?_), by simp⟩
          rw [str_len_append, str_len_append]
          have : (Str.ofString "; ").length = 2 := rfl
          omega
    · rw [if_neg (by decide), if_neg (by decide), if_pos rfl]
      cases hf : pgs.find? (fun p => decide (p.1 = (row w n).map Txt.lower)) with
      | some p =>
        rw [turn_hit hb hf]
        exact ⟨rfl, hp, by simp⟩
      | none =>
        show (if _ then _ else _) = _ ∧ _
        cases hv2 : badText (row l v) with
        | true =>
          rw [turn_2_bad hb hf hv2, if_pos rfl]
          exact ⟨rfl, hp, by simp⟩
        | false =>
          rw [turn_2_ok hb hf hv2, if_neg Bool.false_ne_true]
          exact ⟨by rw [pairs_append], ok_append hp (page _ fv (by omega)), by simp⟩
    · rw [if_neg (by decide), if_neg (by decide), if_neg (by decide), if_pos rfl, turn_3 hb]
      exact ⟨rfl, ok_rest hp, Nat.le_succ_of_le (fe _)⟩
    · rw [if_neg (by decide), if_neg (by decide), if_neg (by decide), if_neg (by decide)]
      cases hx2 : badText (row l x) with
      | true =>
        rw [turn_4_bad hb hx2, if_pos rfl]
        exact ⟨rfl, hp, by simp⟩
      | false =>
        rw [turn_4_ok hb hx2, if_neg Bool.false_ne_true]
        exact ⟨by rw [pairs_append], ok_append hp (page _ fm (by omega)), by simp⟩
end
section
theorem offF3 : True := by
  w_top off
  trivial
set_option maxHeartbeats 8000000
open LCg LCp PyProof.Rows PyProof.Rows.LCt

theorem backed_hit {x : Str} (h : ([Str.ofString "\\", Str.ofString "\""].any fun y => y == x) = true) : backed x = Str.ofString "\\" ++ x := by
  unfold backed
  refine if_pos ?_
  simp only [List.any_cons, List.any_nil, Bool.or_false, Bool.or_eq_true, beq_iff_eq] at h
  exact h.imp Eq.symm Eq.symm
theorem backed_miss {x : Str} (h : ([Str.ofString "\\", Str.ofString "\""].any fun y => y == x) = false) : backed x = x := by
  unfold backed
  refine if_neg fun q => ?_
  simp only [List.any_cons, List.any_nil, Bool.or_false, Bool.or_eq_false_iff, beq_eq_false_iff_ne] at h
  exact q.elim (fun e => h.1 e.symm) (fun e => h.2 e.symm)
def MapS (f : Str → Str) (v y : Value) : Prop := ∀ x t, v = Value.str x t → ∃ t', y = .str (f x) t'
theorem MapS.mk {f : Str → Str} {x : Str} {t t' : Tok} : MapS f (.str x t) (.str (f x) t') := fun _ _ e => by cases e; exact ⟨_, rfl⟩
theorem MapS.mk' {f : Str → Str} {x y : Str} {t t' : Tok} (e : f x = y) : MapS f (.str x t) (.str y t') := by subst e; exact MapS.mk
theorem pairedMap {f : Str → Str} : ∀ {vs ys : List Value} {ss : List Str}, StrsAre vs ss → Paired (MapS f) vs ys → StrsAre ys (ss.map f)
  | _, _, _, .nil, .nil => .nil
  | _, _, _, .cons x t r, .cons h q => by
    obtain ⟨t', rfl⟩ := h x t rfl
    exact .cons _ _ (pairedMap r q)
theorem strMem : ∀ {vs : List Value} {ss : List Str}, StrsAre vs ss → ∀ v, v ∈ vs → ∃ x t, v = .str x t ∧ x ∈ ss
  | _, _, .nil, _, h => nomatch h
  | _, _, .cons x t r, v, h => by
    rcases List.mem_cons.mp h with rfl | h
    · exact ⟨x, t, rfl, List.mem_cons_self⟩
    · obtain ⟨x', t', e, m⟩ := strMem r v h
      exact ⟨x', t', e, List.mem_cons_of_mem _ m⟩
theorem ne_nilT {prog : Program} {w : World} {A : Around} {E : Value → Shared → Prop} {s : Shared} {a b : Addr} {xs : List Value} {ss : List Str} {n : Nat} {h₀ : Heap} {L : Addr} {news : List (Addr × Obj)} {Q : Value → Shared → Prop} (N : News h₀ L s.heap news) (ha : (a, listOf xs.toArray n) ∈ news) (hb : (b, listOf #[] 0) ∈ news) (hs : StrsAre xs ss) (hne : ss ≠ []) (hu : A.units < cLine) (h : Q (.bool true) s) :
    wpAny (model prog w) A (compareOp .NotEq (.ref a) (.ref b)) Q E s := by
  cases hs with
  | nil => exact absurd rfl hne
  | cons => exact ne_nil1 N ha hb hu h
theorem ne_nilF {prog : Program} {w : World} {A : Around} {E : Value → Shared → Prop} {s : Shared} {a b : Addr} {xs : List Value} {ss : List Str} {n : Nat} {h₀ : Heap} {L : Addr} {news : List (Addr × Obj)} {Q : Value → Shared → Prop} (N : News h₀ L s.heap news) (ha : (a, listOf xs.toArray n) ∈ news) (hb : (b, listOf #[] 0) ∈ news) (hs : StrsAre xs ss) (hne : ss = []) (hu : A.units < cLine) (h : Q (.bool false) s) :
    wpAny (model prog w) A (compareOp .NotEq (.ref a) (.ref b)) Q E s := by
  cases hs with
  | nil => exact ne_nil0 N ha hb hu h
  | cons => cases hne
theorem add_K {prog : Program} {w : World} {A : Around} {E : Value → Shared → Prop} {s : Shared} {h₀ : Heap} {L a b : Addr} {m : Str → Option Value} {news : List (Addr × Obj)} {vs ws : List Value} {n1 n2 : Nat} {Q : Value → Shared → Prop} (F : Fr h₀ L s.heap m) (N : News h₀ L s.heap news) (ha : (a, listOf vs.toArray n1) ∈ news) (hb : (b, listOf ws.toArray n2) ∈ news) (hz : vs.length + ws.length ≤ sizeLine)
    (h : ∀ D h', Fr h₀ L h' m → News h₀ L h' ((D, listOf (vs ++ ws).toArray 0) :: news) → (∀ p ∈ news, p.1 < D) → Q (.ref D) { s with heap := h' }) : wpAny (model prog w) A (binaryOp .Add (.ref a) (.ref b)) Q E s :=
  add_lists (hsz := hz) F N (News.isList N ha) (News.isList N hb) fun h' F' N' => h _ h' F' N' fun p hp => Heap.lt_size (N p hp).1
theorem szOk {a b : Nat} (ha : a ≤ 1000) (hb : b ≤ 1) : a + b ≤ sizeLine := by rw [sizeLine_eq]; omega
theorem add_S {prog : Program} {w : World} {A : Around} {E : Value → Shared → Prop} {s : Shared} {x y : Str} {t u : Tok} {Q : Value → Shared → Prop} (hx : x.length ≤ 1000000) (hy : y.length ≤ 1000000) (h : ∀ t' k, (x ++ y).length = x.length + y.length → Q (.str (x ++ y) t') { s with toks := k }) : wpAny (model prog w) A (binaryOp .Add (.str x t) (.str y u)) Q E s :=
  KOpn.add (by omega) fun t' k _ => h t' k (str_len_append x y)
local macro_rules | `(tactic| walk_at "binaryOp Add str str") => `(tactic| ((with_reducible show wpAny _ _ (binaryOp Operator.Add (Value.str _ _) (Value.str _ _)) _ _ _); (refine' add_S ?kx ?ky ?_; (case kx => first | decide | omega); (case ky => first | decide | omega)); intro _ _ _))
def OptStr (v : Value) : Option Str → Prop
  | none => v = .none
  | some x => ∃ t, v = .str x t
theorem join_K {prog : Program} {w : World} {A : Around} {E : Value → Shared → Prop} {s : Shared} {h₀ : Heap} {L D : Addr} {news : List (Addr × Obj)} {vs : List Value} {ys : List Str} {n : Nat} {t : Tok} {Q : Value → Shared → Prop} (N : News h₀ L s.heap news) (hD : (D, listOf vs.toArray n) ∈ news) (hi : StrsAre vs ys) (hok : (ys.map (·.length)).sum ≤ 100000) (hlen : ys.length ≤ 100000)
    (h : ∀ t' k, Q (.str (Txt.join Str.empty ys) t') { s with toks := k }) : wpAny (model prog w) A (call (.builtin "str.join") [.str Str.empty t, .ref D]) Q E s :=
  join_list (News.isList N hD) hi (by show _ + ys.length * 0 ≤ _; omega) h
local macro_rules | `(tactic| walk_at "call builtin:str.join") => `(tactic| (k_dflt (refine' join_K ?k1 ?k2 ?k3 ?k4 ?k5 ?_; (case k1 => k_asm); (case k2 => k_mem); (case k3 => assumption); (case k4 => assumption); (case k5 => assumption)); intro t9 k9))
local macro_rules | `(tactic| walk_at "compareOp NotEq ref ref") => `(tactic| (refine Stop.out ?_))
local macro_rules | `(tactic| walk_at "compareOp Eq ref ref") => `(tactic| (refine Stop.out ?_))
local macro_rules | `(tactic| walk_at "binaryOp Add ref ref") => `(tactic| (refine Stop.out ?_))
local macro_rules | `(tactic| walk_at "eval ListComp") => `(tactic| (refine Stop.out ?_))
local macro_rules | `(tactic| walk_at "exec Assign cons ListComp") => `(tactic| (refine Stop.out ?_))
local macro_rules | `(tactic| walk_at "call ref") => `(tactic| ((with_reducible show wpAny _ _ (call (Value.ref 240) _ _) _ _ _); refine Stop.out ?_))

theorem lawturn {w : World} {mean : ExcName → Option Value} {mg mb : Str → Option Value} {dp un : Nat} {gd : Option (List Code)} {cn : Str} {cs : Scope} {a : Addr} {ccd : Value} {cl : List (Str × Addr)} {outer : List Env} {A₀ : Around} {base h₀ : Heap} {L : Addr} {m : Str → Option Value} {s : Shared} {Q E : Value → Shared → Prop} {news : List (Addr × Obj)} {P nA vA xA bad : Addr} {nP n1 n2 n3 : Nat} {kind : Int} {kt : Tok} {vs y1 y2 y3 : List Value} {pgs : List Pg} {name value extra : List Str} (B : Below A₀ base outer h₀) (F : Fr h₀ L s.heap m) (X : (hd.heap_39 w.params).In h₀) (N : News h₀ L s.heap news) (T : Top hd.view_39 (looseW hd.view_39 [Str.ofString "tspecials", Str.ofString "_name_disallowed_re", Str.ofString "_value_disallowed_re", Str.ofString "_formatparam"]) mean mg mb h₀) (hk : cs.kind = .function) (hd : dp + 2 < recursionLimit) (hu : un + 90 < cLine)
    (hP : (P, listOf vs.toArray nP) ∈ news) (hpg : PagesAt bad news vs pgs) (hn : (nA, listOf y1.toArray n1) ∈ news) (hns : StrsAre y1 name) (hv : (vA, listOf y2.toArray n2) ∈ news) (hvs : StrsAre y2 value) (hx : (xA, listOf y3.toArray n3) ∈ news) (hxs : StrsAre y3 extra)
    (hlen : vs.length ≤ 1000) (hnl : ∀ y ∈ name, y.length ≤ 1000) (hxl : ∀ y ∈ extra, y.length ≤ 1000) (hl1 : name.length ≤ 1000) (hl2 : value.length ≤ 1000) (hl3 : extra.length ≤ 1000) (hm1 : (name.map (·.length)).sum ≤ 100000) (hm2 : (value.map (·.length)).sum ≤ 100000) (hm3 : (extra.map (·.length)).sum ≤ 90000) (hk0 : 0 ≤ kind) (hk5 : kind < 5) (hPb : P ≠ bad) {ob : Obj} (hbad : (bad, ob) ∈ news)
    (ret : ∀ news' R P' k n' vs' v h' tk', (∀ p ∈ news, p ∈ news') → (R, tupObj [.ref P', v] k) ∈ news' → (P', listOf (List.toArray vs') n') ∈ news' → P' ≠ bad → PagesAt bad news' vs' (turnP pgs kind name value extra).1 → OptStr v (turnP pgs kind name value extra).2 → Fr h₀ L h' m → News h₀ L h' news' → Q (.ref R) { s with heap := h', toks := tk' }) :
    wpAny (model PySem.Challenge.rw_pe0245_01.row.prog w) (ktrTop dp un gd cn cs L a ccd cl outer) (call (.ref 245) [.ref P, .int kind kt, .ref nA, .ref vA, .ref xA]) Q E s := by
  have hl1' : name.length ≤ 100000 := by omega
  have hl2' : value.length ≤ 100000 := by omega
  have hl3' : extra.length ≤ 100000 := by omega
  have hjv : (Txt.join Str.empty value).length ≤ 100000 := by rw [join_length]; exact hm2
  revert X
  k_fill
  intro X
  refine wpAny_call ?_
  k_dflt (refine' code_defC ?k1 ?k2 ?k3 ?k4 ?k5 ?kA ?kF ?kK ?k6 ?k7 ?k8 ?k9 ?kB ?kD ?_ ?c2 ?c3 ?c4; (case kA => exact rfl); (case kF => exact rfl); (case kK => first | assumption | exact rfl); (case k1 => k_asm); (case k2 => k_asm); (case k3 => k_asm); (case k4 => k_asm); (case k5 => k_asm); (case k6 => k_is); (case k7 => k_is); (case k8 => ktr_room); (case k9 => first | exact BindsTo.of_eq rfl | exact binds_K (by k_in) rfl (by k_is) rfl rfl rfl); (case kB => exact rfl); (case kD => decide +kernel); (case c2 => exact rfl); (case c3 => exact rfl); (case c4 => exact rfl); k_whole; intro g1 L1 h1 tk1 cells1 FG1 F1 N1 Y1 B1 X1 T1 l1; (try k_lt l1); k_cells Y1; (try simp only [List.cons_append, List.nil_append] at N1); (try dsimp only); (try k_lift B1); (try k_fold))
  k_steps
  unfold Stop
  refine lawhas (by k_asm) (by k_asm) (by k_asm) (by k_asm) (by k_asm) rfl (by ktr_room) (by units_room) (by k_mem) hns (by k_mem) (by exact .cons _ _ (.cons _ _ (.cons _ _ .nil))) (by rw [hns.length]; exact hl1) ?_
  intro h9 tk9 F9 N9
  cases hb : (name.any fun y => [Str.ofString "\t", Str.ofString "\n", Str.ofString "\r"].any (· == y))
  · k_steps
    unfold Stop
    refine wpAny_Assign_Name ?_
    refine ListComp_U (F₀ := by k_asm) (by rfl) (by decide) (by rfl) (by decide) (by rfl) ?_
    k_steps
    refine CompSrc.ledger rfl (by k_asm) (by k_asm) (by k_mem) (by rw [sizeLine_eq]; simp; rw [hns.length]; omega) ?_
    intro g9
    refine restU (MapS Txt.lower) (.inr ⟨_, by k_mem, rfl, _, rfl⟩) ?_ ?_
    · intro v ys I oI C oC D m₂ h tk E' hv ho h1 F9 N9
      obtain ⟨x5, t5, rfl, hx5⟩ := strMem hns v hv
      have hx6 := hnl _ hx5
      k_steps
      · exact MapS.mk
      · exact Quiet.mk (by k_asm) (by k_asm) (fun _ h => h)
    · intro lows hlows D h tk F9 N9 off
      have hls := pairedMap hns hlows
      obtain ⟨o1, o2, o3⟩ := off
      have o2' : @Ne Nat D (L1 + 1) := fun e => o2 e.symm
      k_steps
      unfold Stop
      refine LCt.Assign_ListComp_T (F₀ := by k_asm) (by rfl) (by with_unfolding_all rfl) (by with_unfolding_all rfl) (by decide) (by rfl) (by decide) (by rfl) (by rfl) (by rfl) ?_
      k_steps
      refine CompSrcT.ledger rfl (by k_asm) (by k_asm) (by k_mem) (by rw [sizeLine_eq]; simp; omega) ?_
      intro g9
      refine restT (bs := pgs.map fun p => decide (p.1 ≠ name.map Txt.lower)) (by rw [List.length_map, hpg.length]) (.inr ⟨_, by k_mem, rfl, _, rfl⟩) ?_ ?_ ?_
      · intro i v b ys I oI C oC D5 m₂ h tk E' hv hb ho h1 F9 N9
        obtain ⟨t6, k6, lw, n6, t7, t8, ys6, p6, rfl, hp6, hm6, hl6, hs6⟩ := hpg.get i v hv
        rw [List.getElem?_map, hp6] at hb
        cases hb
        k_steps
        unfold Stop
        refine ne_strsK (News.isList (by k_asm) (by k_mem)) (News.isList (by k_asm) (by k_mem)) hs6 hls (by units_room) ?_
        k_steps
        exact Quiet.mk (by k_asm) (by k_asm) (fun _ h => h)
      · intro v ys I oI C oC D5 m₂ h tk E' hv ho h1 F9 N9
        k_steps
        exact Quiet.mk (by k_asm) (by k_asm) (fun _ h => h)
      intro DR h tk F9 N9 offDR
      k_steps
      unfold Stop
      refine LCt.Assign_ListComp_T (F₀ := by k_asm) (by rfl) (by with_unfolding_all rfl) (by with_unfolding_all rfl) (by decide) (by rfl) (by decide) (by rfl) (by rfl) (by rfl) ?_
      k_steps
      refine CompSrcT.ledger rfl (by k_asm) (by k_asm) (by k_mem) (by rw [sizeLine_eq]; simp; omega) ?_
      intro g9
      refine restT (bs := pgs.map fun p => decide (p.1 = name.map Txt.lower)) (by rw [List.length_map, hpg.length]) (.inr ⟨_, by k_mem, rfl, _, rfl⟩) ?_ ?_ ?_
      · intro i v b ys I oI C oC D5 m₂ h tk E' hv hb ho h1 F9 N9
        obtain ⟨t6, k6, lw, n6, t7, t8, ys6, p6, rfl, hp6, hm6, hl6, hs6⟩ := hpg.get i v hv
        rw [List.getElem?_map, hp6] at hb
        cases hb
        k_steps
        unfold Stop
        refine eq_strsK (News.isList (by k_asm) (by k_mem)) (News.isList (by k_asm) (by k_mem)) hs6 hls (by units_room) ?_
        k_steps
        exact Quiet.mk (by k_asm) (by k_asm) (fun _ h => h)
      · intro v ys I oI C oC D5 m₂ h tk E' hv ho h1 F9 N9
        k_steps
        exact Quiet.mk (by k_asm) (by k_asm) (fun _ h => h)
      intro DS h tk F9 N9 offDS
      have hkk : kind = 0 ∨ kind = 1 ∨ kind = 2 ∨ kind = 3 ∨ kind = 4 := by omega
      rcases hkk with rfl | rfl | rfl | rfl | rfl
      · k_steps
        unfold Stop
        refine lawhas (by k_asm) (by k_asm) (by k_asm) (by k_asm) (by k_asm) rfl (by ktr_room) (by units_room) (by k_mem) hvs (by k_mem) (by exact .cons _ _ (.cons _ _ .nil)) (by rw [hvs.length]; exact hl2) ?_
        intro h9 tk9 F9 N9
        cases hb2 : (value.any fun y => [Str.ofString "\n", Str.ofString "\r"].any (· == y))
        · k_steps
          unfold Stop
          refine add_K (by k_asm) (by k_asm) (vs := pick vs (pgs.map fun p => decide (p.1 ≠ name.map Txt.lower))) (ws := [_]) (by k_mem) (by k_mem) (szOk (Nat.le_trans (pick_length _ _) hlen) (Nat.le_refl _)) ?_
          intro D7 h7 F7 N7 l7
          k_steps
          have e9 := turn_0_ok (pgs := pgs) (value := value) (extra := extra) hb hb2
          refine' ret _ _ _ _ _ _ _ _ _ ?sub ?hR ?hP ?ne ?pg ?opt ?F ?N
          case N => assumption
          case F => k_asm
          case hR => k_mem
          case hP => k_mem
          case sub => exact (fun p hp => by (repeat (first | exact hp | refine List.mem_cons_of_mem _ ?_)))
          case ne => exact Ne.symm (Nat.ne_of_lt (l7 (bad, ob) (by k_mem)))
          case opt => rw [e9]; exact rfl
          case pg => rw [e9]; exact PagesAt.append ((hpg.rest _).mono' (fun p hp => by (repeat (first | exact hp | refine List.mem_cons_of_mem _ ?_)))) (.cons (by k_mem) (by k_mem) (fun q => off1_mem o3 _ hbad q.symm) hls .nil)
        · k_steps
          have e9 := turn_0_bad (pgs := pgs) (value := value) (extra := extra) hb hb2
          refine' ret _ _ _ _ _ _ _ _ _ ?sub ?hR ?hP ?ne ?pg ?opt ?F ?N
          case N => assumption
          case F => k_asm
          case hR => k_mem
          case hP => k_mem
          case sub => exact (fun p hp => by (repeat (first | exact hp | refine List.mem_cons_of_mem _ ?_)))
          case ne => exact (fun q => off1_mem offDR (bad, ob) (by k_mem) q.symm)
          case opt => rw [e9]; exact ⟨_, rfl⟩
          case pg => rw [e9]; exact (hpg.rest _).mono' (fun p hp => by (repeat (first | exact hp | refine List.mem_cons_of_mem _ ?_)))
      · k_steps
        unfold Stop
        refine lawhas (by k_asm) (by k_asm) (by k_asm) (by k_asm) (by k_asm) rfl (by ktr_room) (by units_room) (by k_mem) hvs (by k_mem) (by exact .cons _ _ (.cons _ _ .nil)) (by rw [hvs.length]; exact hl2) ?_
        intro h9 tk9 F9 N9
        cases hb2 : (value.any fun y => [Str.ofString "\n", Str.ofString "\r"].any (· == y))
        · k_steps
          unfold Stop
          refine lawhas (by k_asm) (by k_asm) (by k_asm) (by k_asm) (by k_asm) rfl (by ktr_room) (by units_room) (by k_mem) hxs (by k_mem) (by exact .cons _ _ (.cons _ _ .nil)) (by rw [hxs.length]; exact hl3) ?_
          intro h9 tk9 F9 N9
          cases hb3 : (extra.any fun y => [Str.ofString "\n", Str.ofString "\r"].any (· == y))
          · k_steps
            unfold Stop
            by_cases he : extra = []
            · refine ne_nilF (by k_asm) (by k_mem) (by k_mem) hxs he (by units_room) ?_
              k_steps
              unfold Stop
              refine add_K (by k_asm) (by k_asm) (vs := vs) (ws := [_]) (by k_mem) (by k_mem) (szOk hlen (Nat.le_refl _)) ?_
              intro D7 h7 F7 N7 l7
              k_steps
              have e8 : markP extra = Str.ofString "p" := if_pos he
              have e9 := turn_1_ok (pgs := pgs) (value := value) (extra := extra) hb hb2 hb3
              rw [e8] at e9
              refine' ret _ _ _ _ _ _ _ _ _ ?sub ?hR ?hP ?ne ?pg ?opt ?F ?N
              case N => assumption
              case F => k_asm
              case hR => k_mem
              case hP => k_mem
              case sub => exact (fun p hp => by (repeat (first | exact hp | refine List.mem_cons_of_mem _ ?_)))
              case ne => exact Ne.symm (Nat.ne_of_lt (l7 (bad, ob) (by k_mem)))
              case opt => rw [e9]; exact rfl
              case pg => rw [e9]; exact PagesAt.append (hpg.mono' (fun p hp => by (repeat (first | exact hp | refine List.mem_cons_of_mem _ ?_)))) (.cons (by k_mem) (by k_mem) (fun q => off1_mem o3 _ hbad q.symm) hls .nil)
            · refine ne_nilT (by k_asm) (by k_mem) (by k_mem) hxs he (by units_room) ?_
              k_steps
              unfold Stop
              refine ListComp_U (F₀ := by k_asm) (by rfl) (by decide) (by rfl) (by decide) (by rfl) ?_
              k_steps
              refine CompSrc.ledger rfl (by k_asm) (by k_asm) (by k_mem) (by rw [sizeLine_eq]; simp; rw [hxs.length]; omega) ?_
              intro g9
              refine restU (MapS backed) (.inr ⟨_, by k_mem, rfl, _, rfl⟩) ?_ ?_
              · intro v ys I oI C oC D5 m₂ h tk E' hv ho h1 F9 N9
                obtain ⟨x5, t5, rfl, hx5⟩ := strMem hxs v hv
                have hx6 := hxl _ hx5
                k_steps
                · exact MapS.mk' (backed_hit (by assumption))
                · exact Quiet.mk (by k_asm) (by k_asm) (fun _ h => List.mem_cons_of_mem _ h)
                · exact MapS.mk' (backed_miss (by assumption))
                · exact Quiet.mk (by k_asm) (by k_asm) (fun _ h => List.mem_cons_of_mem _ h)
              · intro bks hbks D5 h tk F9 N9 off5
                have hbs := pairedMap hxs hbks
                have hbm : ((extra.map backed).map (·.length)).sum ≤ 100000 := Nat.le_trans (backed_sum extra) (by omega)
                have hjb : (Txt.join Str.empty (extra.map backed)).length ≤ 100000 := by rw [join_length]; exact hbm
                have hbl : (extra.map backed).length ≤ 100000 := by rw [List.length_map]; omega
                k_steps
                unfold Stop
                refine add_K (by k_asm) (by k_asm) (vs := vs) (ws := [_]) (by k_mem) (by k_mem) (szOk hlen (Nat.le_refl _)) ?_
                intro D7 h7 F7 N7 l7
                k_steps
                have e8 : markP extra = _ := if_neg he
                have e9 := turn_1_ok (pgs := pgs) (value := value) (extra := extra) hb hb2 hb3
                rw [e8] at e9
                refine' ret _ _ _ _ _ _ _ _ _ ?sub ?hR ?hP ?ne ?pg ?opt ?F ?N
                case N => assumption
                case F => k_asm
                case hR => k_mem
                case hP => k_mem
                case sub => exact (fun p hp => by (repeat (first | exact hp | refine List.mem_cons_of_mem _ ?_)))
                case ne => exact Ne.symm (Nat.ne_of_lt (l7 (bad, ob) (by k_mem)))
                case opt => rw [e9]; exact rfl
                case pg => rw [e9]; exact PagesAt.append (hpg.mono' (fun p hp => by (repeat (first | exact hp | refine List.mem_cons_of_mem _ ?_)))) (.cons (by k_mem) (by k_mem) (fun q => off1_mem o3 _ hbad q.symm) hls .nil)
          · k_steps
            have e9 := turn_1_bad' (pgs := pgs) (value := value) (extra := extra) hb hb3
            refine' ret _ _ _ _ _ _ _ _ _ ?sub ?hR ?hP ?ne ?pg ?opt ?F ?N
            case N => assumption
            case F => k_asm
            case hR => k_mem
            case hP => k_mem
            case sub => exact (fun p hp => by (repeat (first | exact hp | refine List.mem_cons_of_mem _ ?_)))
            case ne => exact hPb
            case opt => rw [e9]; exact ⟨_, rfl⟩
            case pg => rw [e9]; exact hpg.mono' (fun p hp => by (repeat (first | exact hp | refine List.mem_cons_of_mem _ ?_)))
        · k_steps
          have e9 := turn_1_bad (pgs := pgs) (value := value) (extra := extra) hb hb2
          refine' ret _ _ _ _ _ _ _ _ _ ?sub ?hR ?hP ?ne ?pg ?opt ?F ?N
          case N => assumption
          case F => k_asm
          case hR => k_mem
          case hP => k_mem
          case sub => exact (fun p hp => by (repeat (first | exact hp | refine List.mem_cons_of_mem _ ?_)))
          case ne => exact hPb
          case opt => rw [e9]; exact ⟨_, rfl⟩
          case pg => rw [e9]; exact hpg.mono' (fun p hp => by (repeat (first | exact hp | refine List.mem_cons_of_mem _ ?_)))
      · have hsm := hpg.rest (fun p => decide (p.1 = name.map Txt.lower))
        have hfd : pgs.find? (fun p => decide (p.1 = name.map Txt.lower)) = (pgs.filter (fun p => decide (p.1 = name.map Txt.lower))).head? := (List.head?_filter ..).symm
        generalize pick vs (List.map (fun p : Pg => decide (p.1 = name.map Txt.lower)) pgs) = ws at hsm N9 offDS
        generalize pgs.filter (fun p => decide (p.1 = name.map Txt.lower)) = fl at hsm hfd
        cases hsm with
        | nil =>
          k_steps
          unfold Stop
          refine ne_nil0 (n := 0) (by k_asm) (by k_mem) (by k_mem) (by units_room) ?_
          k_steps
          unfold Stop
          refine lawhas (by k_asm) (by k_asm) (by k_asm) (by k_asm) (by k_asm) rfl (by ktr_room) (by units_room) (by k_mem) hvs (by k_mem) (by exact .cons _ _ (.cons _ _ .nil)) (by rw [hvs.length]; exact hl2) ?_
          intro h9 tk9 F9 N9
          cases hb2 : (value.any fun y => [Str.ofString "\n", Str.ofString "\r"].any (· == y))
          · k_steps
            unfold Stop
            refine add_K (by k_asm) (by k_asm) (vs := vs) (ws := [_]) (by k_mem) (by k_mem) (szOk hlen (Nat.le_refl _)) ?_
            intro D7 h7 F7 N7 l7
            k_steps
            have e9 := turn_2_ok (pgs := pgs) (value := value) (extra := extra) hb hfd hb2
            refine' ret _ _ _ _ _ _ _ _ _ ?sub ?hR ?hP ?ne ?pg ?opt ?F ?N
            case N => assumption
            case F => k_asm
            case hR => k_mem
            case hP => k_mem
            case sub => exact (fun p hp => by (repeat (first | exact hp | refine List.mem_cons_of_mem _ ?_)))
            case ne => exact Ne.symm (Nat.ne_of_lt (l7 (bad, ob) (by k_mem)))
            case opt => rw [e9]; exact ⟨_, rfl⟩
            case pg => rw [e9]; exact PagesAt.append (hpg.mono' (fun p hp => by (repeat (first | exact hp | refine List.mem_cons_of_mem _ ?_)))) (.cons (by k_mem) (by k_mem) (fun q => off1_mem o3 _ hbad q.symm) hls .nil)
          · k_steps
            have e9 := turn_2_bad (pgs := pgs) (value := value) (extra := extra) hb hfd hb2
            refine' ret _ _ _ _ _ _ _ _ _ ?sub ?hR ?hP ?ne ?pg ?opt ?F ?N
            case N => assumption
            case F => k_asm
            case hR => k_mem
            case hP => k_mem
            case sub => exact (fun p hp => by (repeat (first | exact hp | refine List.mem_cons_of_mem _ ?_)))
            case ne => exact hPb
            case opt => rw [e9]; exact ⟨_, rfl⟩
            case pg => rw [e9]; exact hpg.mono' (fun p hp => by (repeat (first | exact hp | refine List.mem_cons_of_mem _ ?_)))
        | @cons t5 k5 lw5 n5 nm5 tx5 u5 w5 low5 ys5 vs5 ps5 hm hl hne hs r =>
          k_steps
          unfold Stop
          refine ne_nil1 (x := .ref t5) (xs := vs5) (by k_asm) (by k_mem) (by k_mem) (by units_room) ?_
          k_steps
          have e9 := turn_hit (pgs := pgs) (value := value) (extra := extra) hb hfd
          refine' ret _ _ _ _ _ _ _ _ _ ?sub ?hR ?hP ?ne ?pg ?opt ?F ?N
          case N => assumption
          case F => k_asm
          case hR => k_mem
          case hP => k_mem
          case sub => exact (fun p hp => by (repeat (first | exact hp | refine List.mem_cons_of_mem _ ?_)))
          case ne => exact hPb
          case opt => rw [e9]; exact ⟨_, rfl⟩
          case pg => rw [e9]; exact hpg.mono' (fun p hp => by (repeat (first | exact hp | refine List.mem_cons_of_mem _ ?_)))
      · k_steps
        have e9 := turn_3 (pgs := pgs) (value := value) (extra := extra) hb
        refine' ret _ _ _ _ _ _ _ _ _ ?sub ?hR ?hP ?ne ?pg ?opt ?F ?N
        case N => assumption
        case F => k_asm
        case hR => k_mem
        case hP => k_mem
        case sub => exact (fun p hp => by (repeat (first | exact hp | refine List.mem_cons_of_mem _ ?_)))
        case ne => exact (fun q => off1_mem offDR (bad, ob) (by k_mem) q.symm)
        case opt => rw [e9]; exact rfl
        case pg => rw [e9]; exact (hpg.rest _).mono' (fun p hp => by (repeat (first | exact hp | refine List.mem_cons_of_mem _ ?_)))
      · k_steps
        unfold Stop
        refine lawhas (by k_asm) (by k_asm) (by k_asm) (by k_asm) (by k_asm) rfl (by ktr_room) (by units_room) (by k_mem) hxs (by k_mem) (by exact .cons _ _ (.cons _ _ .nil)) (by rw [hxs.length]; exact hl3) ?_
        intro h9 tk9 F9 N9
        cases hb3 : (extra.any fun y => [Str.ofString "\n", Str.ofString "\r"].any (· == y))
        · k_steps
          unfold Stop
          by_cases he : extra = []
          · refine ne_nilF (by k_asm) (by k_mem) (by k_mem) hxs he (by units_room) ?_
            k_steps
            unfold Stop
            refine add_K (by k_asm) (by k_asm) (vs := vs) (ws := [_]) (by k_mem) (by k_mem) (szOk hlen (Nat.le_refl _)) ?_
            intro D7 h7 F7 N7 l7
            k_steps
            have e8 : markP extra = Str.ofString "p" := if_pos he
            have e9 := turn_4_ok (pgs := pgs) (value := value) (extra := extra) hb hb3
            rw [e8] at e9
            refine' ret _ _ _ _ _ _ _ _ _ ?sub ?hR ?hP ?ne ?pg ?opt ?F ?N
            case N => assumption
            case F => k_asm
            case hR => k_mem
            case hP => k_mem
            case sub => exact (fun p hp => by (repeat (first | exact hp | refine List.mem_cons_of_mem _ ?_)))
            case ne => exact Ne.symm (Nat.ne_of_lt (l7 (bad, ob) (by k_mem)))
            case opt => rw [e9]; exact rfl
            case pg => rw [e9]; exact PagesAt.append (hpg.mono' (fun p hp => by (repeat (first | exact hp | refine List.mem_cons_of_mem _ ?_)))) (.cons (by k_mem) (by k_mem) (fun q => off1_mem o3 _ hbad q.symm) hls .nil)
          · refine ne_nilT (by k_asm) (by k_mem) (by k_mem) hxs he (by units_room) ?_
            k_steps
            unfold Stop
            refine ListComp_U (F₀ := by k_asm) (by rfl) (by decide) (by rfl) (by decide) (by rfl) ?_
            k_steps
            refine CompSrc.ledger rfl (by k_asm) (by k_asm) (by k_mem) (by rw [sizeLine_eq]; simp; rw [hxs.length]; omega) ?_
            intro g9
            refine restU (MapS backed) (.inr ⟨_, by k_mem, rfl, _, rfl⟩) ?_ ?_
            · intro v ys I oI C oC D5 m₂ h tk E' hv ho h1 F9 N9
              obtain ⟨x5, t5, rfl, hx5⟩ := strMem hxs v hv
              have hx6 := hxl _ hx5
              k_steps
              · exact MapS.mk' (backed_hit (by assumption))
              · exact Quiet.mk (by k_asm) (by k_asm) (fun _ h => List.mem_cons_of_mem _ h)
              · exact MapS.mk' (backed_miss (by assumption))
              · exact Quiet.mk (by k_asm) (by k_asm) (fun _ h => List.mem_cons_of_mem _ h)
            · intro bks hbks D5 h tk F9 N9 off5
              have hbs := pairedMap hxs hbks
              have hbm : ((extra.map backed).map (·.length)).sum ≤ 100000 := Nat.le_trans (backed_sum extra) (by omega)
              have hjb : (Txt.join Str.empty (extra.map backed)).length ≤ 100000 := by rw [join_length]; exact hbm
              have hbl : (extra.map backed).length ≤ 100000 := by rw [List.length_map]; omega
              k_steps
              unfold Stop
              refine add_K (by k_asm) (by k_asm) (vs := vs) (ws := [_]) (by k_mem) (by k_mem) (szOk hlen (Nat.le_refl _)) ?_
              intro D7 h7 F7 N7 l7
              k_steps
              have e8 : markP extra = _ := if_neg he
              have e9 := turn_4_ok (pgs := pgs) (value := value) (extra := extra) hb hb3
              rw [e8] at e9
              refine' ret _ _ _ _ _ _ _ _ _ ?sub ?hR ?hP ?ne ?pg ?opt ?F ?N
              case N => assumption
              case F => k_asm
              case hR => k_mem
              case hP => k_mem
              case sub => exact (fun p hp => by (repeat (first | exact hp | refine List.mem_cons_of_mem _ ?_)))
              case ne => exact Ne.symm (Nat.ne_of_lt (l7 (bad, ob) (by k_mem)))
              case opt => rw [e9]; exact rfl
              case pg => rw [e9]; exact PagesAt.append (hpg.mono' (fun p hp => by (repeat (first | exact hp | refine List.mem_cons_of_mem _ ?_)))) (.cons (by k_mem) (by k_mem) (fun q => off1_mem o3 _ hbad q.symm) hls .nil)
        · k_steps
          have e9 := turn_4_bad (pgs := pgs) (value := value) (extra := extra) hb hb3
          refine' ret _ _ _ _ _ _ _ _ _ ?sub ?hR ?hP ?ne ?pg ?opt ?F ?N
          case N => assumption
          case F => k_asm
          case hR => k_mem
          case hP => k_mem
          case sub => exact (fun p hp => by (repeat (first | exact hp | refine List.mem_cons_of_mem _ ?_)))
          case ne => exact hPb
          case opt => rw [e9]; exact ⟨_, rfl⟩
          case pg => rw [e9]; exact hpg.mono' (fun p hp => by (repeat (first | exact hp | refine List.mem_cons_of_mem _ ?_)))
  · k_steps
    have e9 := turn_bad (pgs := pgs) (value := value) (extra := extra) (kind := kind) hb
    refine' ret _ _ _ _ _ _ _ _ _ ?sub ?hR ?hP ?ne ?pg ?opt ?F ?N
    case N => assumption
    case F => k_asm
    case hR => k_mem
    case hP => k_mem
    case sub => exact (fun p hp => by (repeat (first | exact hp | refine List.mem_cons_of_mem _ ?_)))
    case ne => exact hPb
    case opt => rw [e9]; exact ⟨_, rfl⟩
    case pg => rw [e9]; exact hpg.mono' (fun p hp => by (repeat (first | exact hp | refine List.mem_cons_of_mem _ ?_)))
end
section
theorem offG1 : True := by
  w_top off
  trivial
set_option maxHeartbeats 1600000
local macro_rules | `(tactic| walk_at "call ref") => `(tactic| ((with_reducible show wpAny _ _ (call (Value.ref 61) _ _) _ _ _); k_dflt (refine' fparam ?k1 ?k2 ?k3 ?k4 ?k5 ?kK ?kd ?kp ?kx ?kv ?_ ?_; (case k1 => k_asm); (case k2 => k_asm); (case k3 => k_asm); (case k4 => k_asm); (case k5 => k_asm); (case kK => first | exact rfl | assumption); (case kd => ktr_room); (case kp => (try dsimp only); omega); (case kx => first | decide | assumption | omega); (case kv => first | assumption | omega)); (intro hy9 h9 tk9 F9 N9; (try dsimp only); (try k_fold)); rotate_left; (intro hy9 t9 h9 tk9 F9 N9; (try dsimp only); (try k_fold)); rotate_left))

theorem replace_p {prog : Program} {w : World} {A : Around} {E : Value → Shared → Prop} {s : Shared} {t u v : Tok} {Q : Value → Shared → Prop} (hq : Q (.str (Str.ofString "p") t) s) : wpAny (model prog w) A (call (.builtin "str.replace") [.str (Str.ofString "p") t, .str (Str.ofString "_") u, .str (Str.ofString "-") v]) Q E s := by
  have e : ((Builtin.Str.occurrences (Str.ofString "p") (Str.ofString "_") 0 (Str.ofString "p").length ((Str.ofString "p").length + 1)).isEmpty || ((Str.ofString "_").length == 0 && (Str.ofString "-").length == 0)) = true := by decide +kernel
  refine call_gives PySem.F.slot_str_replace (typeIs_str _ _ _) PySem.F.entry_str_replace (PySem.F.args_str_replace_3 _ _ _) (gives_str_replace _ _ _ t u v fun h => absurd (e.symm.trans h) (by decide)) ?_
  rw [if_pos e]
  exact hq
theorem allLt_mem {d : Addr} : ∀ {l : List (Addr × Obj)}, AllLt d l → ∀ p ∈ l, @LT.lt Nat _ p.1 d
  | [], _, _, h => nomatch h
  | _ :: _, x, p, h => by
    rcases List.mem_cons.mp h with rfl | h
    · exact x.1
    · exact allLt_mem x.2 p h
theorem join_two {prog : Program} {w : World} {A : Around} {E : Value → Shared → Prop} {s : Shared} {h₀ : Heap} {L D : Addr} {news : List (Addr × Obj)} {a b : Str} {ta tb t : Tok} {n : Nat} {Q : Value → Shared → Prop} (N : News h₀ L s.heap news) (hD : (D, listOf (Array.push (Array.push #[] (.str a ta)) (.str b tb)) n) ∈ news) (ha : a.length ≤ 100000) (hb : b.length ≤ 100000)
    (h : ∀ t' k, Q (.str (a ++ Str.ofString "; " ++ b) t') { s with toks := k }) : wpAny (model prog w) A (call (.builtin "str.join") [.str (Str.ofString "; ") t, .ref D]) Q E s := by
  refine join_list (ys := [a, b]) (News.isList N hD) (.cons _ _ (.cons _ _ .nil)) ?_ fun t' k => ?_
  · show a.length + (b.length + 0) + 2 * 2 ≤ _
    omega
  · have e : Txt.join (Str.ofString "; ") [a, b] = a ++ Str.ofString "; " ++ b := eq_of_beq (join_plain_closes _ _)
    rw [e]; exact h t' k
theorem join_single {prog : Program} {w : World} {A : Around} {E : Value → Shared → Prop} {s : Shared} {h₀ : Heap} {L D : Addr} {news : List (Addr × Obj)} {a : Str} {ta t : Tok} {n : Nat} {Q : Value → Shared → Prop} (N : News h₀ L s.heap news) (hD : (D, listOf (Array.push #[] (.str a ta)) n) ∈ news) (ha : a.length ≤ 100000)
    (h : ∀ t' k, Q (.str a t') { s with toks := k }) : wpAny (model prog w) A (call (.builtin "str.join") [.str (Str.ofString "; ") t, .ref D]) Q E s := by
  refine join_list (ys := [a]) (News.isList N hD) (.cons _ _ .nil) ?_ fun t' k => ?_
  · show a.length + 0 + 1 * 2 ≤ _
    omega
  · have e : Txt.join (Str.ofString "; ") [a] = a := eq_of_beq (join_plain_closes _ _)
    rw [e]; exact h t' k
local macro_rules | `(tactic| walk_at "call builtin:str.join") => `(tactic| (k_dflt (refine' join_two ?k1 ?k2 ?k3 ?k4 ?_; (case k1 => k_asm); (case k2 => k_mem); (case k3 => first | decide | omega); (case k4 => first | decide | omega | assumption)); intro t9 k9))
local macro_rules | `(tactic| walk_at "call builtin:str.join") => `(tactic| (k_dflt (refine' join_single ?k1 ?k2 ?k3 ?_; (case k1 => k_asm); (case k2 => k_mem); (case k3 => first | decide | omega | assumption)); intro t9 k9))
theorem quoted_len (v : Str) : (quoted v).length ≤ 4 * v.length := by
  have h1 := replace_length v (Str.ofString "\\\\") 92 2 (by decide) (by decide)
  have h2 := replace_length (Txt.replace v (Str.ofString "\\") (Str.ofString "\\\\")) (Str.ofString "\\\"") 34 2 (by decide) (by decide)
  have h3 : (quoted v).length ≤ 2 * (Txt.replace v (Str.ofString "\\") (Str.ofString "\\\\")).length := h2
  have h4 : (Txt.replace v (Str.ofString "\\") (Str.ofString "\\\\")).length ≤ 2 * v.length := h1
  omega
theorem qm_len {v : Str} (h : v.length ≤ 10000) : (Str.ofString "p" ++ Str.ofString "=\"" ++ quoted v ++ Str.ofString "\"").length ≤ 100000 := by
  rw [str_len_append, str_len_append, str_len_append]
  have := quoted_len v
  have : (Str.ofString "p").length = 1 := rfl
  have : (Str.ofString "=\"").length = 2 := rfl
  have : (Str.ofString "\"").length = 1 := rfl
  omega
theorem unrEnd1 {h₀ h' : Heap} {L i' a1 a2 : Addr} {oi o1 o2 : Obj} {news : List (Addr × Obj)} {m' : Str → Option Value} {rest : (Str → Option Value) → List (Addr × Obj) → Prop} {s₁ : Shared} {tk : Nat} (F : Fr h₀ L h' m') (N : News h₀ L h' ((i', oi) :: (a1, o1) :: (a2, o2) :: news)) (l : a1 < i' ∧ a2 < i' ∧ AllLt i' news) (r : rest m' ((a1, o1) :: (a2, o2) :: news)) :
    UnrEndW h₀ L s₁ [(i', oi)] rest { s₁ with heap := h', toks := tk } :=
  ⟨h', tk, m', (a1, o1) :: (a2, o2) :: news, rfl, F, N, fun p hp q hq e => by
    rw [List.mem_singleton.mp hq] at e
    rcases List.mem_cons.mp hp with rfl | hp
    · exact Nat.ne_of_lt l.1 e
    rcases List.mem_cons.mp hp with rfl | hp
    · exact Nat.ne_of_lt l.2.1 e
    · exact Nat.ne_of_lt (allLt_mem l.2.2 p hp) e, r⟩
local macro_rules | `(tactic| walk_at "call builtin:str.replace") => `(tactic| ((with_reducible show wpAny _ _ (call (Value.builtin "str.replace") [Value.str (Str.ofString "p") _, _, _]) _ _ _); refine replace_p ?_))
local macro_rules | `(tactic| walk_at "exec For Tuple Call cons nil") => `(tactic| (refine Stop.out ?_))

theorem addh1 {w : World} {mean : ExcName → Option Value} {mg mb : Str → Option Value} {dp un : Nat} {gd : Option (List Code)} {cn : Str} {cs : Scope} {a : Addr} {ccd : Value} {cl : List (Str × Addr)} {outer : List Env} {A₀ : Around} {base h₀ : Heap} {L : Addr} {m : Str → Option Value} {s : Shared} {Q E : Value → Shared → Prop} {news : List (Addr × Obj)} {tb l : Addr} {hs : List (Str × Str)} {x v e : Str} {t u tv : Tok} (B : Below A₀ base outer h₀) (F : Fr h₀ L s.heap m) (X : (hd.heap_39 w.params).In h₀) (N : News h₀ L s.heap news) (T : Top hd.view_39 (looseW hd.view_39 [Str.ofString "tspecials", Str.ofString "_name_disallowed_re", Str.ofString "_value_disallowed_re", Str.ofString "_formatparam"]) mean mg mb h₀) (hk : cs.kind = .function) (hd : dp + 2 < recursionLimit)
    (Tb : Tbl news tb l hs) (hlen : hs.length ≤ 1000) (hx : x.length ≤ 1000) (hv : v.length ≤ 10000) (hee : e.length ≤ 10000)
    (ret : x.cps.toList.any badN = false → v.cps.toList.any badV = false → e.cps.toList.any badV = false → ∀ news' h' tk', Tbl news' tb l (hs ++ [(x, v ++ Str.ofString "; " ++ qmark e)]) → KeptBut l news news' → Fr h₀ L h' m → News h₀ L h' news' → Q .none { s with heap := h', toks := tk' })
    (err : (x.cps.toList.any badN = true ∨ v.cps.toList.any badV = true ∨ e.cps.toList.any badV = true) → Refused base (envX cn cs L a ccd cl :: outer) h₀ L m E s fun news' => news' = news) :
    wpAny (model PySem.Challenge.rw_pe0245_01.row.prog w) (ktrTop dp un gd cn cs L a ccd cl outer) (call (.ref 181) [.ref tb, .str x t, .str v tv] [(Str.ofString "p", .str e u)]) Q E s := by
  have Tb0 := Tb
  obtain ⟨d, kh, kt, nd, nl, vs, ps, htb, hdd, hl, hp, hs'⟩ := Tb0
  have hvs : vs.length ≤ 1000 := by
    rw [hp.length, hs'.length]
    exact hlen
  revert X
  k_fill
  intro X
  refine wpAny_call ?_
  k_dflt (refine' kp_more ?k1 ?k2 ?k3 ?k4 ?k5 ?kA ?kF ?kK ?k6 ?k7 ?k8 ?kX ?kM ?kN ?kD ?kR ?kP ?kT ?kB ?_ ?c2 ?c3 ?c4 ?c5; (case kA => exact rfl); (case kF => exact rfl); (case kK => first | assumption | exact rfl); (case k1 => k_asm); (case k2 => k_asm); (case k3 => k_asm); (case k4 => k_asm); (case k5 => k_asm); (case k6 => k_is); (case k7 => k_is); (case k8 => ktr_room); (case kX => kp_lit); (case kM => exact rfl); (case kN => exact rfl); (case kD => kp_flats); (case kR => exact rfl); (case kP => exact rfl); (case kT => exact fun _ => rfl); (case kB => exact fun _ => locs rfl); (case c5 => decide); (case c2 => exact rfl); (case c3 => exact rfl); (case c4 => exact rfl); k_whole; intro D1 o1 g1 L1 h1 tk1 l1 lo1 hs1 fs1 FG1 F1 N1 B1 X1 T1; (try k_lt l1); (try dsimp only); (try k_lift B1); (try k_fold))
  have hD9 : KtsDicts [] h₀ := ktsDicts_nil
  have hqm := qm_len hee
  k_steps
  · rename_i h2 F2 N2
    unfold Stop
    refine For_turns F2 ?_
    refine MethodCall_ ?_
    refine ld F2 (by rfl) ?_
    refine getMethod_tab (knd := PySem.strKind _ _) (enc := PyData.str) PySem.F.slot_dict_items PySem.F.type_dict_items (by k_tabat) ?_
    refine callWith_method0 ?_
    refine call_items_tab (knd := PySem.strKind _ _) (enc := PyData.str) (by k_tabat) F2 N2 ?_
    intro h' o' hv' F' N'
    replace N' := kti_tail N'
    refine kti_items (knd := PySem.strKind _ _) (enc := PyData.str) (xs := [Itm.pairF (fun t => Value.str (Str.ofString "p") t) (PyData.str e)]) (by rfl) F' N' hv' (by k_tabat) (by k_mem) (fun _ _ h => Value.isStrOf_shape h) (by rfl) ?_
    clear F2 N2
    intro i' l1
    (try k_lt l1)
    k_steps
    · refine unrEnd1 (by k_asm) (by k_asm) (by assumption) ⟨⟨by k_mem, trivial⟩, ?_⟩
      dsimp only
      k_steps
      · refine append_L (by k_asm) (by k_asm) (by k_mem) (by rw [sizeLine_eq]; omega) ?_
        intro h8 F8 N8
        dsimp only
        k_steps
        have e8 : qmark e = _ := if_pos (by assumption)
        refine ret (by assumption) (by assumption) (by assumption) _ _ _ ?_ ?_ (by k_asm) (by k_asm)
        · rw [e8]
          exact Tbl.append (by assumption) (by k_mem) (by k_mem) (by k_mem) (hp.mono fun _ _ _ q => by (repeat (first | exact q | refine List.mem_cons_of_mem _ ?_))) hs'
        · exact fun p h ne => updL_other (by (repeat (first | exact h | refine List.mem_cons_of_mem _ ?_))) ne
      · exact err (.inl (by assumption)) _ _ _ _ _ _ _ rfl (by assumption) (RaisedS.sub (by assumption) (fun p hp => by (repeat (first | exact hp | refine List.mem_cons_of_mem _ ?_)))) (by assumption)
    · refine unrEnd1 (by k_asm) (by k_asm) (by assumption) ⟨⟨by k_mem, trivial⟩, ?_⟩
      dsimp only
      k_steps
      · refine append_L (by k_asm) (by k_asm) (by k_mem) (by rw [sizeLine_eq]; omega) ?_
        intro h8 F8 N8
        dsimp only
        k_steps
        have e8 : qmark e = _ := if_neg (by assumption)
        refine ret (by assumption) (by assumption) (by assumption) _ _ _ ?_ ?_ (by k_asm) (by k_asm)
        · rw [e8]
          exact Tbl.append (by assumption) (by k_mem) (by k_mem) (by k_mem) (hp.mono fun _ _ _ q => by (repeat (first | exact q | refine List.mem_cons_of_mem _ ?_))) hs'
        · exact fun p h ne => updL_other (by (repeat (first | exact h | refine List.mem_cons_of_mem _ ?_))) ne
      · exact err (.inl (by assumption)) _ _ _ _ _ _ _ rfl (by assumption) (RaisedS.sub (by assumption) (fun p hp => by (repeat (first | exact hp | refine List.mem_cons_of_mem _ ?_)))) (by assumption)
    · exact err (.inr (.inr (by assumption))) _ _ _ _ _ _ _ rfl (by assumption) (RaisedS.sub (by assumption) (fun p hp => by (repeat (first | exact hp | refine List.mem_cons_of_mem _ ?_)))) (by assumption)
    · exact absurd (by assumption : (List.any (Array.toList (Str.cps (Str.ofString "p"))) (badOf true)) = true) (by decide)
  · exact err (.inr (.inl (by assumption))) _ _ _ _ _ _ _ rfl (by assumption) (RaisedS.sub (by assumption) (fun p hp => by (repeat (first | exact hp | refine List.mem_cons_of_mem _ ?_)))) (by assumption)

theorem addh4 {w : World} {mean : ExcName → Option Value} {mg mb : Str → Option Value} {dp un : Nat} {gd : Option (List Code)} {cn : Str} {cs : Scope} {a : Addr} {ccd : Value} {cl : List (Str × Addr)} {outer : List Env} {A₀ : Around} {base h₀ : Heap} {L : Addr} {m : Str → Option Value} {s : Shared} {Q E : Value → Shared → Prop} {news : List (Addr × Obj)} {tb l : Addr} {hs : List (Str × Str)} {x e : Str} {t u : Tok} (B : Below A₀ base outer h₀) (F : Fr h₀ L s.heap m) (X : (hd.heap_39 w.params).In h₀) (N : News h₀ L s.heap news) (T : Top hd.view_39 (looseW hd.view_39 [Str.ofString "tspecials", Str.ofString "_name_disallowed_re", Str.ofString "_value_disallowed_re", Str.ofString "_formatparam"]) mean mg mb h₀) (hk : cs.kind = .function) (hd : dp + 2 < recursionLimit)
    (Tb : Tbl news tb l hs) (hlen : hs.length ≤ 1000) (hx : x.length ≤ 1000) (hee : e.length ≤ 10000)
    (ret : x.cps.toList.any badN = false → e.cps.toList.any badV = false → ∀ news' h' tk', Tbl news' tb l (hs ++ [(x, qmark e)]) → KeptBut l news news' → Fr h₀ L h' m → News h₀ L h' news' → Q .none { s with heap := h', toks := tk' })
    (err : (x.cps.toList.any badN = true ∨ e.cps.toList.any badV = true) → Refused base (envX cn cs L a ccd cl :: outer) h₀ L m E s fun news' => news' = news) :
    wpAny (model PySem.Challenge.rw_pe0245_01.row.prog w) (ktrTop dp un gd cn cs L a ccd cl outer) (call (.ref 181) [.ref tb, .str x t, .none] [(Str.ofString "p", .str e u)]) Q E s := by
  have Tb0 := Tb
  obtain ⟨d, kh, kt, nd, nl, vs, ps, htb, hdd, hl, hp, hs'⟩ := Tb0
  have hvs : vs.length ≤ 1000 := by
    rw [hp.length, hs'.length]
    exact hlen
  revert X
  k_fill
  intro X
  refine wpAny_call ?_
  k_dflt (refine' kp_more ?k1 ?k2 ?k3 ?k4 ?k5 ?kA ?kF ?kK ?k6 ?k7 ?k8 ?kX ?kM ?kN ?kD ?kR ?kP ?kT ?kB ?_ ?c2 ?c3 ?c4 ?c5; (case kA => exact rfl); (case kF => exact rfl); (case kK => first | assumption | exact rfl); (case k1 => k_asm); (case k2 => k_asm); (case k3 => k_asm); (case k4 => k_asm); (case k5 => k_asm); (case k6 => k_is); (case k7 => k_is); (case k8 => ktr_room); (case kX => kp_lit); (case kM => exact rfl); (case kN => exact rfl); (case kD => kp_flats); (case kR => exact rfl); (case kP => exact rfl); (case kT => exact fun _ => rfl); (case kB => exact fun _ => locs rfl); (case c5 => decide); (case c2 => exact rfl); (case c3 => exact rfl); (case c4 => exact rfl); k_whole; intro D1 o1 g1 L1 h1 tk1 l1 lo1 hs1 fs1 FG1 F1 N1 B1 X1 T1; (try k_lt l1); (try dsimp only); (try k_lift B1); (try k_fold))
  have hD9 : KtsDicts [] h₀ := ktsDicts_nil
  have hqm := qm_len hee
  k_steps
  · rename_i h2 F2 N2
    unfold Stop
    refine For_turns F2 ?_
    refine MethodCall_ ?_
    refine ld F2 (by rfl) ?_
    refine getMethod_tab (knd := PySem.strKind _ _) (enc := PyData.str) PySem.F.slot_dict_items PySem.F.type_dict_items (by k_tabat) ?_
    refine callWith_method0 ?_
    refine call_items_tab (knd := PySem.strKind _ _) (enc := PyData.str) (by k_tabat) F2 N2 ?_
    intro h' o' hv' F' N'
    replace N' := kti_tail N'
    refine kti_items (knd := PySem.strKind _ _) (enc := PyData.str) (xs := [Itm.pairF (fun t => Value.str (Str.ofString "p") t) (PyData.str e)]) (by rfl) F' N' hv' (by k_tabat) (by k_mem) (fun _ _ h => Value.isStrOf_shape h) (by rfl) ?_
    clear F2 N2
    intro i' l1
    (try k_lt l1)
    k_steps
    · refine unrEnd1 (by k_asm) (by k_asm) (by assumption) ⟨⟨by k_mem, trivial⟩, ?_⟩
      dsimp only
      k_steps
      · refine append_L (by k_asm) (by k_asm) (by k_mem) (by rw [sizeLine_eq]; omega) ?_
        intro h8 F8 N8
        dsimp only
        k_steps
        have e8 : qmark e = _ := if_pos (by assumption)
        refine ret (by assumption) (by assumption) _ _ _ ?_ ?_ (by k_asm) (by k_asm)
        · rw [e8]
          exact Tbl.append (by assumption) (by k_mem) (by k_mem) (by k_mem) (hp.mono fun _ _ _ q => by (repeat (first | exact q | refine List.mem_cons_of_mem _ ?_))) hs'
        · exact fun p h ne => updL_other (by (repeat (first | exact h | refine List.mem_cons_of_mem _ ?_))) ne
      · exact err (.inl (by assumption)) _ _ _ _ _ _ _ rfl (by assumption) (RaisedS.sub (by assumption) (fun p hp => by (repeat (first | exact hp | refine List.mem_cons_of_mem _ ?_)))) (by assumption)
    · refine unrEnd1 (by k_asm) (by k_asm) (by assumption) ⟨⟨by k_mem, trivial⟩, ?_⟩
      dsimp only
      k_steps
      · refine append_L (by k_asm) (by k_asm) (by k_mem) (by rw [sizeLine_eq]; omega) ?_
        intro h8 F8 N8
        dsimp only
        k_steps
        have e8 : qmark e = _ := if_neg (by assumption)
        refine ret (by assumption) (by assumption) _ _ _ ?_ ?_ (by k_asm) (by k_asm)
        · rw [e8]
          exact Tbl.append (by assumption) (by k_mem) (by k_mem) (by k_mem) (hp.mono fun _ _ _ q => by (repeat (first | exact q | refine List.mem_cons_of_mem _ ?_))) hs'
        · exact fun p h ne => updL_other (by (repeat (first | exact h | refine List.mem_cons_of_mem _ ?_))) ne
      · exact err (.inl (by assumption)) _ _ _ _ _ _ _ rfl (by assumption) (RaisedS.sub (by assumption) (fun p hp => by (repeat (first | exact hp | refine List.mem_cons_of_mem _ ?_)))) (by assumption)
    · exact err (.inr (by assumption)) _ _ _ _ _ _ _ rfl (by assumption) (RaisedS.sub (by assumption) (fun p hp => by (repeat (first | exact hp | refine List.mem_cons_of_mem _ ?_)))) (by assumption)
    · exact absurd (by assumption : (List.any (Array.toList (Str.cps (Str.ofString "p"))) (badOf true)) = true) (by decide)
end
section
theorem offG2 : True := by
  w_top off
  trivial
local macro_rules | `(tactic| walk_at "none") => `(tactic| fail "none")
set_option maxHeartbeats 1600000
local macro_rules | `(tactic| walk_at "delItem ref str") => `(tactic| (k_dflt (refine' delItem_own ?F ?X ?I ?hQ ?hS ?hF ?_; (case F => k_asm); (case X => k_asm); (case I => k_inst); (case hS => k_is); (case hF => k_is); (case hQ => k_is); k_whole)))
local macro_rules | `(tactic| walk_at "call ref") => `(tactic| ((with_reducible show wpAny _ _ (call (Value.ref 97) _ _) _ _ _); refine Stop.out ?_))
local macro_rules | `(tactic| walk_at "call ref") => `(tactic| ((with_reducible show wpAny _ _ (call (Value.ref 102) _ _) _ _ _); refine Stop.out ?_))
local macro_rules | `(tactic| walk_at "call ref") => `(tactic| ((with_reducible show wpAny _ _ (call (Value.ref 174) _ _) _ _ _); refine Stop.out ?_))
local macro_rules | `(tactic| walk_at "call ref") => `(tactic| ((with_reducible show wpAny _ _ (call (Value.ref 181) _ _) _ _ _); refine Stop.out ?_))

theorem any_true {l : List Nat} {q : Nat → Bool} (h : l.any q = true) : l.any q = true := h
section
variable {hs : List (Str × Str)} {x v e : Str}
abbrev outP (hs : List (Str × Str)) (x : Str) : List (Str × Str) := hs.filter fun h => decide (Txt.lower h.1 ≠ Txt.lower x)
theorem real_bad {kind : Int} (h : (sg x).any badN = true) : realP hs kind x v e = (hs, some faultP) := by unfold realP; rw [if_pos h]
theorem nt {b : Bool} (h : b = false) : ¬ b = true := fun q => Bool.false_ne_true (h.symm.trans q)
theorem real_0_bad (h : (sg x).any badN = false) (hv : (sg v).any badV = true) : realP hs 0 x v e = (outP hs x, some faultP) := by
  unfold realP; rw [if_neg (nt h), if_pos rfl, if_pos hv]
theorem real_0_ok (h : (sg x).any badN = false) (hv : (sg v).any badV = false) : realP hs 0 x v e = (outP hs x ++ [(x, v)], none) := by
  unfold realP; rw [if_neg (nt h), if_pos rfl, if_neg (nt hv)]
theorem real_1_bad (h : (sg x).any badN = false) (hv : (sg v).any badV = true ∨ (sg e).any badV = true) : realP hs 1 x v e = (hs, some faultP) := by
  unfold realP; rw [if_neg (nt h), if_neg (by decide), if_pos rfl, if_pos hv]
theorem real_1_ok (h : (sg x).any badN = false) (hv : (sg v).any badV = false) (he : (sg e).any badV = false) : realP hs 1 x v e = (hs ++ [(x, v ++ Str.ofString "; " ++ qmark e)], none) := by
  unfold realP; rw [if_neg (nt h), if_neg (by decide), if_pos rfl, if_neg (fun q => q.elim (nt hv) (nt he))]
theorem real_2_hit {p : Str × Str} (h : (sg x).any badN = false) (hf : hs.find? (fun h => decide (Txt.lower h.1 = Txt.lower x)) = some p) : realP hs 2 x v e = (hs, some p.2) := by
  unfold realP; rw [if_neg (nt h), if_neg (by decide), if_neg (by decide), if_pos rfl, hf]
theorem real_2_bad (h : (sg x).any badN = false) (hf : hs.find? (fun h => decide (Txt.lower h.1 = Txt.lower x)) = none) (hv : (sg v).any badV = true) : realP hs 2 x v e = (hs, some faultP) := by
  unfold realP; rw [if_neg (nt h), if_neg (by decide), if_neg (by decide), if_pos rfl, hf]; exact if_pos hv
theorem real_2_ok (h : (sg x).any badN = false) (hf : hs.find? (fun h => decide (Txt.lower h.1 = Txt.lower x)) = none) (hv : (sg v).any badV = false) : realP hs 2 x v e = (hs ++ [(x, v)], some v) := by
  unfold realP; rw [if_neg (nt h), if_neg (by decide), if_neg (by decide), if_pos rfl, hf]; exact if_neg (nt hv)
theorem real_3 (h : (sg x).any badN = false) : realP hs 3 x v e = (outP hs x, none) := by
  unfold realP; rw [if_neg (nt h), if_neg (by decide), if_neg (by decide), if_neg (by decide), if_pos rfl]
theorem real_4_bad (h : (sg x).any badN = false) (he : (sg e).any badV = true) : realP hs 4 x v e = (hs, some faultP) := by
  unfold realP; rw [if_neg (nt h), if_neg (by decide), if_neg (by decide), if_neg (by decide), if_neg (by decide), if_pos he]
theorem real_4_ok (h : (sg x).any badN = false) (he : (sg e).any badV = false) : realP hs 4 x v e = (hs ++ [(x, qmark e)], none) := by
  unfold realP; rw [if_neg (nt h), if_neg (by decide), if_neg (by decide), if_neg (by decide), if_neg (by decide), if_neg (nt he)]
end
theorem opt_fault {t : Tok} : OptStr (.str (Str.ofString "ValueError: " ++ faultMsg) t) (some faultP) := ⟨t, rfl⟩

theorem lawcall {w : World} {mean : ExcName → Option Value} {mg mb : Str → Option Value} {dp un : Nat} {gd : Option (List Code)} {cn : Str} {cs : Scope} {a : Addr} {ccd : Value} {A₀ : Around} {base h₀ : Heap} {L : Addr} {m : Str → Option Value} {s : Shared} {Q E : Value → Shared → Prop} {news : List (Addr × Obj)} {tb l : Addr} {hs : List (Str × Str)} {x v e : Str} {t u tv tkd : Tok} {kind : Int} (B : Below A₀ base [] h₀) (F : Fr h₀ L s.heap m) (X : (hd.heap_39 w.params).In h₀) (N : News h₀ L s.heap news) (T : Top hd.view_39 (looseW hd.view_39 [Str.ofString "tspecials", Str.ofString "_name_disallowed_re", Str.ofString "_value_disallowed_re", Str.ofString "_formatparam"]) mean mg mb h₀) (hk : cs.kind = .function) (XB : (hd.heap_39 w.params).In base) (TB : Top hd.view_39 (looseW hd.view_39 [Str.ofString "tspecials", Str.ofString "_name_disallowed_re", Str.ofString "_value_disallowed_re", Str.ofString "_formatparam"]) mean mg mb base) (hd : dp + 4 < recursionLimit) (hu : un + 80 < cLine)
    (Tb : Tbl news tb l hs) (hlen : hs.length ≤ 1000) (hx : x.length ≤ 1000) (hv : v.length ≤ 10000) (hee : e.length ≤ 10000) (hnm : ∀ h ∈ hs, h.1.length ≤ 1000) (hlow : (Txt.lower x).cps.toList.any badN = x.cps.toList.any badN) (hk0 : 0 ≤ kind) (hk5 : kind < 5)
    (ret : ∀ news' r h' tk', Tbl news' tb l (realP hs kind x v e).1 → KeptBut l news news' → OptStr r (realP hs kind x v e).2 → Fr h₀ L h' m → News h₀ L h' news' → Q r { s with heap := h', toks := tk' }) :
    wpAny (model PySem.Challenge.rw_pe0245_01.row.prog w) (ktrTop dp un gd cn cs L a ccd [] []) (call (.ref 252) [.ref tb, .int kind tkd, .str x t, .str v tv, .str e u]) Q E s := by
  have Tb0 := Tb
  obtain ⟨d, kh, kt, nd, nl, vs, ps, htb, hdd, hl, hp, hs'⟩ := Tb0
  revert X XB
  k_fill
  intro X XB
  refine wpAny_call ?_
  k_dflt (refine' code_defS0 ?k1 ?k2 ?k3 ?k4 ?k5 ?kA ?k6 ?k7 ?k8 ?k9 ?kB ?_ ?cK ?c2 ?c3 ?c4 ?c5; (case kA => exact rfl); (case k2 => k_asm); (case k1 => k_asm); (case k3 => k_asm); (case k4 => k_asm); (case k5 => k_asm); (case k6 => k_is); (case k7 => k_is); (case k8 => ktr_room); (case k9 => first | exact BindsTo.of_eq rfl | exact binds_K (by k_in) rfl (by k_is) rfl rfl rfl); (case kB => exact locs rfl); (case cK => first | assumption | exact rfl); (case c2 => exact rfl); (case c3 => exact rfl); (case c4 => exact rfl); (case c5 => decide); k_whole; intro g1 L1 h1 FG1 F1 N1 B1 X1 T1 D1; (try dsimp only); (try k_lift B1); (try k_fold))
  have hkk : kind = 0 ∨ kind = 1 ∨ kind = 2 ∨ kind = 3 ∨ kind = 4 := by omega
  rcases hkk with rfl | rfl | rfl | rfl | rfl
  · k_steps
    unfold Stop
    refine setitem_T (by k_asm) (by k_asm) (by k_asm) (by k_asm) (by k_asm) rfl (by ktr_room) Tb hlen hx (by omega) hnm ?_ ?_ ?_
    · intro hb1 hb2 hb3 n9 h9 tk9 T9 K9 F9 N9
      dsimp only
      k_steps
      have e9 := real_0_ok (hs := hs) (e := e) hb2 hb3
      refine ret _ _ _ _ ?_ K9 ?_ (by k_asm) (by k_asm)
      · rw [e9]; exact T9
      · rw [e9]; exact rfl
    · intro hb n9 g9 h9 e9 t9 tk9 tk9' P9 FG9 S9 U9
      subst P9
      dsimp only
      k_steps
      have e9 := real_bad (hs := hs) (v := v) (e := e) (kind := 0) (hlow.symm.trans hb)
      refine ret _ _ _ _ ?_ KeptBut.refl ?_ (by k_asm) (by k_asm)
      · rw [e9]; exact Tb
      · rw [e9]; exact opt_fault
    · intro hb1 hb n9 g9 h9 e9 t9 tk9 tk9' P9 FG9 S9 U9
      obtain ⟨T9, K9⟩ := P9
      have hb2 := hlow.symm.trans hb1
      have hb3 := hb.resolve_left (nt hb2)
      dsimp only
      k_steps
      have e9 := real_0_bad (hs := hs) (e := e) hb2 hb3
      refine ret _ _ _ _ ?_ K9 ?_ (by k_asm) (by k_asm)
      · rw [e9]; exact T9
      · rw [e9]; exact opt_fault
  · k_steps
    unfold Stop
    refine addh1 (by k_asm) (by k_asm) (by k_asm) (by k_asm) (by k_asm) rfl (by ktr_room) Tb hlen hx hv hee ?_ ?_
    · intro hb1 hb2 hb3 n9 h9 tk9 T9 K9 F9 N9
      dsimp only
      k_steps
      have e9 := real_1_ok (hs := hs) hb1 hb2 hb3
      refine ret _ _ _ _ ?_ K9 ?_ (by k_asm) (by k_asm)
      · rw [e9]; exact T9
      · rw [e9]; exact rfl
    · intro hb n9 g9 h9 e9 t9 tk9 tk9' P9 FG9 S9 U9
      subst P9
      have e8 : realP hs 1 x v e = (hs, some faultP) := by
        cases hb1 : (sg x).any badN with
        | true => exact real_bad hb1
        | false => exact real_1_bad hb1 (hb.resolve_left (nt hb1))
      dsimp only
      k_steps
      have e9 := e8
      refine ret _ _ _ _ ?_ KeptBut.refl ?_ (by k_asm) (by k_asm)
      · rw [e9]; exact Tb
      · rw [e9]; exact opt_fault
  · k_steps
    unfold Stop
    refine setdefault_T (by k_asm) (by k_asm) (by k_asm) (by k_asm) (by k_asm) rfl (by ktr_room) Tb hlen hx (by omega) hnm ?_ ?_ ?_
    · intro hb p u9 h9 tk9 hf F9 N9
      dsimp only
      k_steps
      have e9 := real_2_hit (hs := hs) (v := v) (e := e) (hlow.symm.trans hb) hf
      refine ret _ _ _ _ ?_ KeptBut.refl ?_ (by k_asm) (by k_asm)
      · rw [e9]; exact Tb
      · rw [e9]; exact ⟨_, rfl⟩
    · intro hb hf hb2 hb3 n9 h9 tk9 T9 K9 F9 N9
      dsimp only
      k_steps
      have e9 := real_2_ok (hs := hs) (e := e) hb2 hf hb3
      refine ret _ _ _ _ ?_ K9 ?_ (by k_asm) (by k_asm)
      · rw [e9]; exact T9
      · rw [e9]; exact ⟨_, rfl⟩
    · intro hb n9 g9 h9 e9 t9 tk9 tk9' P9 FG9 S9 U9
      subst P9
      have e8 : realP hs 2 x v e = (hs, some faultP) := by
        cases hb1 : (sg x).any badN with
        | true => exact real_bad hb1
        | false =>
          rcases hb with q | ⟨hf, q⟩
          · exact absurd (hlow.symm.trans q) (nt hb1)
          · exact real_2_bad hb1 hf (q.resolve_left (nt hb1))
      dsimp only
      k_steps
      have e9 := e8
      refine ret _ _ _ _ ?_ KeptBut.refl ?_ (by k_asm) (by k_asm)
      · rw [e9]; exact Tb
      · rw [e9]; exact opt_fault
  · k_steps
    unfold Stop
    refine delitem_T (by k_asm) (by k_asm) (by k_asm) (by k_asm) (by k_asm) rfl (by ktr_room) Tb hlen hx hnm ?_ ?_
    · intro hb n9 h9 tk9 T9 K9 F9 N9
      dsimp only
      k_steps
      have e9 := real_3 (hs := hs) (v := v) (e := e) (hlow.symm.trans hb)
      refine ret _ _ _ _ ?_ K9 ?_ (by k_asm) (by k_asm)
      · rw [e9]; exact T9
      · rw [e9]; exact rfl
    · intro hb n9 g9 h9 e9 t9 tk9 tk9' P9 FG9 S9 U9
      subst P9
      dsimp only
      k_steps
      have e9 := real_bad (hs := hs) (v := v) (e := e) (kind := 3) (hlow.symm.trans hb)
      refine ret _ _ _ _ ?_ KeptBut.refl ?_ (by k_asm) (by k_asm)
      · rw [e9]; exact Tb
      · rw [e9]; exact opt_fault
  · k_steps
    unfold Stop
    refine addh4 (by k_asm) (by k_asm) (by k_asm) (by k_asm) (by k_asm) rfl (by ktr_room) Tb hlen hx hee ?_ ?_
    · intro hb1 hb3 n9 h9 tk9 T9 K9 F9 N9
      dsimp only
      k_steps
      have e9 := real_4_ok (hs := hs) (v := v) hb1 hb3
      refine ret _ _ _ _ ?_ K9 ?_ (by k_asm) (by k_asm)
      · rw [e9]; exact T9
      · rw [e9]; exact rfl
    · intro hb n9 g9 h9 e9 t9 tk9 tk9' P9 FG9 S9 U9
      subst P9
      have e8 : realP hs 4 x v e = (hs, some faultP) := by
        cases hb1 : (sg x).any badN with
        | true => exact real_bad hb1
        | false => exact real_4_bad hb1 (hb.resolve_left (nt hb1))
      dsimp only
      k_steps
      have e9 := e8
      refine ret _ _ _ _ ?_ KeptBut.refl ?_ (by k_asm) (by k_asm)
      · rw [e9]; exact Tb
      · rw [e9]; exact opt_fault
end
section
theorem offS1 : True := by
  w_top off
  trivial
set_option maxHeartbeats 800000
open LCg LCp PyProof.Rows.LCt
local macro_rules | `(tactic| walk_at "eval ListComp") => `(tactic| (refine Stop.out ?_))
local macro_rules | `(tactic| walk_at "binaryOp Add ref ref") => `(tactic| (refine Stop.out ?_))
local macro_rules | `(tactic| walk_at "call builtin:str.join") => `(tactic| (refine Stop.out ?_))

/-- one header as the whole text has it -/
def lineP (h : Str × Str) : Str := h.1 ++ Str.ofString ": " ++ h.2
def LineAt (news : List (Addr × Obj)) (v y : Value) : Prop := ∃ tt kk k u w z t', v = .ref tt ∧ (tt, tupObj [.str k u, .str w z] kk) ∈ news ∧ y = .str (lineP (k, w)) t'
theorem LineAt.mk {news : List (Addr × Obj)} {tt : Addr} {kk : Nat} {k w x : Str} {u z t' : Tok} (h : (tt, tupObj [.str k u, .str w z] kk) ∈ news) (e : x = lineP (k, w)) : LineAt news (.ref tt) (.str x t') := ⟨tt, kk, k, u, w, z, t', rfl, h, by rw [e]⟩
theorem lines_of {h₀ h : Heap} {L : Addr} {news : List (Addr × Obj)} (N : News h₀ L h news) {vs : List Value} {ps : List (Value × Value)} (hp : PairsAt news vs ps) : ∀ {hs : List (Str × Str)} {ys : List Value}, StrPairs ps hs → Paired (LineAt news) vs ys → StrsAre ys (hs.map lineP) := by
  induction hp with
  | nil => intro hs ys hs' hy; cases hs'; cases hy; exact .nil
  | @cons t k v ps vs hm _ ih =>
    intro hs ys hs' hy
    cases hs' with
    | @cons k' v' t' u' _ hs r =>
      cases hy with
      | cons hl q =>
        obtain ⟨tt, kk, k2, u2, w2, z2, t2, e, hm2, rfl⟩ := hl
        cases e
        have eo := Mine.News.obj_eq N hm hm2
        simp only [tupObj] at eo
        injection eo with e1 e2 e3 e4
        injection e3 with e5 e6
        simp at e5
        obtain ⟨⟨rfl, _⟩, rfl, _⟩ := e5
        exact .cons _ _ (ih r q)
theorem sum_le (b : Nat) : ∀ l : List Str, (∀ y ∈ l, y.length ≤ b) → (l.map (·.length)).sum ≤ b * l.length
  | [], _ => Nat.zero_le _
  | y :: r, h => by
    have ih := sum_le b r fun z hz => h z (List.mem_cons_of_mem _ hz)
    have h1 := h y List.mem_cons_self
    rw [List.map_cons, List.sum_cons, List.length_cons, Nat.mul_add]
    omega
theorem line_len {h : Str × Str} (h1 : h.1.length ≤ 1000 ∧ h.2.length ≤ 1000) : (lineP h).length ≤ 2002 := by
  unfold lineP
  rw [str_len_append, str_len_append]
  have : (Str.ofString ": ").length = 2 := rfl
  omega
theorem strsAre_append {xs ys : List Value} {ss ts : List Str} (h : StrsAre xs ss) (g : StrsAre ys ts) : StrsAre (xs ++ ys) (ss ++ ts) := by
  induction h with
  | nil => exact g
  | cons x t r ih => exact .cons x t ih
theorem str_T {w : World} {mean : ExcName → Option Value} {mg mb : Str → Option Value} {dp un : Nat} {gd : Option (List Code)} {cn : Str} {cs : Scope} {a : Addr} {ccd : Value} {cl : List (Str × Addr)} {outer : List Env} {A₀ : Around} {base h₀ : Heap} {L : Addr} {m : Str → Option Value} {s : Shared} {Q E : Value → Shared → Prop} {news : List (Addr × Obj)} {tb l : Addr} {hs : List (Str × Str)} (B : Below A₀ base outer h₀) (F : Fr h₀ L s.heap m) (X : (hd.heap_39 w.params).In h₀) (N : News h₀ L s.heap news) (T : Top hd.view_39 (looseW hd.view_39 [Str.ofString "tspecials", Str.ofString "_name_disallowed_re", Str.ofString "_value_disallowed_re", Str.ofString "_formatparam"]) mean mg mb h₀) (hk : cs.kind = .function) (hd : dp + 1 < recursionLimit) (hu : un + 20 < cLine)
    (Tb : Tbl news tb l hs) (hlen : hs.length ≤ 1000) (hnm : ∀ h ∈ hs, h.1.length ≤ 1000 ∧ h.2.length ≤ 1000)
    (ret : ∀ t' h' tk', Fr h₀ L h' m → News h₀ L h' news → Q (.str (Txt.join (Str.ofString "\r\n") (hs.map lineP ++ [Str.empty, Str.empty])) t') { s with heap := h', toks := tk' }) :
    wpAny (model PySem.Challenge.rw_pe0245_01.row.prog w) (ktrTop dp un gd cn cs L a ccd cl outer) (call (.ref 160) [.ref tb]) Q E s := by
  have Tb0 := Tb
  obtain ⟨d, kh, kt, nd, nl, vs, ps, htb, hdd, hl, hp, hs'⟩ := Tb0
  have hvs : vs.length ≤ 1000 := by
    rw [hp.length, hs'.length]
    exact hlen
  revert X
  k_fill
  intro X
  refine wpAny_call ?_
  k_dflt (refine' code_def ?k1 ?k2 ?k3 ?k4 ?k5 ?kA ?kF ?kK ?k6 ?k7 ?k8 ?k9 ?kB ?_ ?c2 ?c3 ?c4 ?c5; (case kA => exact rfl); (case kF => exact rfl); (case kK => first | assumption | exact rfl); (case k1 => k_asm); (case k2 => k_asm); (case k3 => k_asm); (case k4 => k_asm); (case k5 => k_asm); (case k6 => k_is); (case k7 => k_is); (case k8 => ktr_room); (case k9 => first | exact BindsTo.of_eq rfl | exact binds_K (by k_in) rfl (by k_is) rfl rfl rfl); (case c5 => decide); (case kB => exact locs rfl); (case c2 => exact rfl); (case c3 => exact rfl); (case c4 => exact rfl); k_whole; intro g1 L1 h1 FG1 F1 N1 B1 X1 T1; (try dsimp only); (try k_lift B1); (try k_fold))
  k_steps
  unfold Stop
  refine ListComp_U (F₀ := by k_asm) (by rfl) (by decide) (by rfl) (by decide) (by rfl) ?_
  k_steps
  refine CompSrc.ledger rfl (by k_asm) (by k_asm) hl (by rw [sizeLine_eq]; simp; omega) ?_
  intro g9
  refine restU (LineAt news) (.inr ⟨_, hl, rfl, _, rfl⟩) ?_ ?_
  · intro v ys I oI C oC D m₂ h tk E' hv ho h1 F9 N9
    obtain ⟨i, hi⟩ := List.getElem?_of_mem hv
    obtain ⟨t3, k3, p3, rfl, hp3, hm3⟩ := hp.get i v hi
    obtain ⟨k4, v4, t4, u4, rfl, hh4⟩ := hs'.get i p3 hp3
    have hk4 := hnm _ (List.mem_of_getElem? hh4)
    dsimp only at hk4 hm3
    k_steps
    · refine LineAt.mk hm3 ?_
      rfl
    · exact Quiet.mk (by k_asm) (by k_asm) (fun _ h => h)
  · intro ys hys D h tk F9 N9 off
    have hls := lines_of N hp hs' hys
    k_steps
    unfold Stop
    refine add_K (vs := ys) (ws := [_, _]) (by k_asm) (by k_asm) (by k_mem) (by k_mem) (by rw [sizeLine_eq, hls.len_eq, List.length_map]; simp; omega) ?_
    intro D7 h7 F7 N7 l7
    k_steps
    unfold Stop
    refine join_list (ys := hs.map lineP ++ [Str.empty, Str.empty]) (News.isList (by k_asm) (by k_mem)) (strsAre_append hls (.cons _ _ (.cons _ _ .nil))) ?_ ?_
    · have h1 := sum_le 2002 (hs.map lineP ++ [Str.empty, Str.empty]) fun y hy => by
        rcases List.mem_append.mp hy with q | q
        · obtain ⟨z, hz, rfl⟩ := List.mem_map.mp q
          exact line_len (hnm z hz)
        · rcases List.mem_cons.mp q with rfl | q
          · exact Nat.zero_le _
          · rw [List.mem_singleton.mp q]; exact Nat.zero_le _
      have h2 : (hs.map lineP ++ [Str.empty, Str.empty]).length = hs.length + 2 := by simp
      rw [h2] at h1 ⊢
      have h3 : (Str.ofString "\r\n").length = 2 := rfl
      rw [h3]
      omega
    · intro t9 k9
      k_steps
      exact ret _ _ _ (by k_asm) (newsSub (by assumption) fun p hp => by (repeat (first | exact hp | refine List.mem_cons_of_mem _ ?_)))
end
section
theorem offM0 : True := by
  w_top off
  trivial
local macro_rules | `(tactic| walk_at "none") => `(tactic| fail "none")
set_option maxHeartbeats 1600000
open LCg LCp PyProof.Rows.LCt
/-! the law's own body, out of the given program -/
def lawDef : List Stmt × Scope := match PySem.Challenge.pw_pe0245_01.main.body.reverse with
  | .FunctionDef _ _ b _ _ _ s _ _ _ :: _ => (b, s)
  | _ => ([], PySem.Challenge.pw_pe0245_01.main.scope)
def lawScope : Scope := lawDef.2
def lawBody : List Stmt := lawDef.1
def turnBody : List Stmt := match lawBody with
  | [_, _, _, _, _, .For _ _ b _ _, _] => b
  | _ => []
def turn6 : List Stmt := match turnBody with | _ :: _ :: _ :: _ :: _ :: _ :: r => r | _ => []
def turn8 : List Stmt := match turn6 with | _ :: _ :: r => r | _ => []
def turn10 : List Stmt := match turn8 with | _ :: _ :: r => r | _ => []
def turn11 : List Stmt := match turn10 with | _ :: r => r | _ => []
def turn12 : List Stmt := match turn11 with | _ :: r => r | _ => []
theorem turn_kind : lawScope.kind = .function := rfl

theorem fr_front {x : Str} {v : Value} {m : Str → Option Value} (h : m x = some v) : m = fun y => if y = x then some v else m y := by
  funext y
  by_cases e : y = x
  · rw [if_pos e, e, h]
  · rw [if_neg e]

/-- a place of a list of texts -/
theorem text_at {prog : Program} {w : World} {A : Around} {E : Value → Shared → Prop} {s : Shared} {value slice : PySem.Expr} {l : Addr} {vs : List Value} {ss : List Str} {k : Int} {u : Tok} {n : Nat} {h₀ : Heap} {L : Addr} {news : List (Addr × Obj)} {Q : Value → Shared → Prop}
    (N : News h₀ L s.heap news) (hl : (l, listOf vs.toArray n) ∈ news) (hs : StrsAre vs ss) (h0 : 0 ≤ k) (hk : k < (ss.length : Int)) (hb : k < 2 ^ 62) (h : ∀ x t, x ∈ ss → Q (.str x t) s)
    (hsub : subscripted slice false (.ref l) (.int k u) = operate [.ref l, .int k u] (getItem (.ref l) (.int k u)) := by with_unfolding_all rfl) :
    wpAny (model prog w) A (subscriptTail value slice (.ref l) (.int k u)) Q E s := by
  have hlt : k.toNat < vs.length := by rw [hs.len_eq]; omega
  have hv : vs[k.toNat]? = some vs[k.toNat] := List.getElem?_eq_getElem hlt
  obtain ⟨x, t, e, hx⟩ := hs.item _ _ hv
  refine tail_any (News.isList N hl).typeIs slot_list_getitem.lookup (wpAny_getItem_list (News.isList N hl) h0 (by omega) ((List.getElem?_toArray ..).trans hv) ?_) hsub
  rw [e]
  exact h x t (List.mem_of_getElem? hx)

abbrev headsT : List Str := [Str.ofString "a", Str.ofString "A", Str.ofString "&", Str.ofString "<", Str.ofString ">", Str.ofString "\"", Str.ofString "\t", Str.ofString "\n", Str.ofString "\r", Str.ofString "lt;", Str.ofString "AMP;"]
abbrev bitsT : List Str := [Str.ofString "b", Str.ofString "\\", Str.ofString "\"", Str.ofString "&", Str.ofString "<", Str.ofString ">", Str.ofString "\t", Str.ofString "\n", Str.ofString "\r", Str.ofString "lt;", Str.ofString ""]
theorem heads_ok : ∀ x ∈ headsT, Fine x ∧ x.length ≤ 4 := by decide
theorem bits_ok : ∀ x ∈ bitsT, Fine x ∧ x.length ≤ 3 := by decide
local macro_rules | `(tactic| walk_at "call ref") => `(tactic| ((with_reducible show wpAny _ _ (call (Value.ref 141) _ _) _ _ _); refine Stop.out ?_))
theorem fm_lo (a : Int) (b : Int) (h : 0 < b) : 0 ≤ Int.fmod a b := Int.fmod_nonneg_of_pos a h
theorem fm_hi (a : Int) (b : Int) (h : 0 < b) : Int.fmod a b < b := Int.fmod_lt_of_pos a h
local macro_rules | `(tactic| walk_at "subscriptTail") => `(tactic| ((with_reducible show wpAny _ _ (subscriptTail _ _ (Value.ref _) (Value.int (Int.fmod _ _) _)) _ _ _); k_dflt (refine' text_at ?k1 ?k2 ?k3 ?k0 ?kl ?kb ?_ ?ks; (case k1 => k_asm); (case k2 => k_mem); (case k3 => assumption); (case k0 => exact fm_lo _ _ (by decide)); (case kl => exact fm_hi _ 11 (by decide)); (case kb => exact Int.lt_trans (fm_hi _ 11 (by decide)) (by decide)); (case ks => with_unfolding_all rfl)); intro x9 t9 hx9; (first | have hf9 := heads_ok _ hx9 | have hf9 := bits_ok _ hx9); (obtain ⟨hf9, hl9⟩ := hf9)))
local macro_rules | `(tactic| walk_at "execs cons") => `(tactic| ((with_reducible show wpAny _ _ (execs (Stmt.If _ _ _ _ :: _) _) _ _ _); refine Stop.out ?_))

theorem turn_a {w : World} {mean : ExcName → Option Value} {mg mb : Str → Option Value} {dp un : Nat} {gd : Option (List Code)} {cn : Str} {a : Addr} {ccd : Value} {A₀ : Around} {base h₀ : Heap} {L : Addr} {m : Str → Option Value} {s : Shared} {E : Value → Shared → Prop} {news : List (Addr × Obj)} {tb l hA bA : Addr} {n2 n3 : Nat} {hv bv : List Value} {hs : List (Str × Str)} {x : Int} {xt : Tok} {Q : Flow → Shared → Prop}
    (B : Below A₀ base [] h₀) (F : Fr h₀ L s.heap m) (X : (hd.heap_39 w.params).In h₀) (N : News h₀ L s.heap news) (T : Top hd.view_39 (looseW hd.view_39 [Str.ofString "tspecials", Str.ofString "_name_disallowed_re", Str.ofString "_value_disallowed_re", Str.ofString "_formatparam"]) mean mg mb h₀) (hd : dp + 6 < recursionLimit) (hu : un + 100 < cLine)
    (m1 : m (Str.ofString "x") = some (.int x xt)) (m2 : m (Str.ofString "heads") = some (.ref hA)) (m3 : m (Str.ofString "bits") = some (.ref bA)) (m4 : m (Str.ofString "table") = some (.ref tb))
    (hh : (hA, listOf hv.toArray n2) ∈ news) (hhs : StrsAre hv headsT) (hb : (bA, listOf bv.toArray n3) ∈ news) (hbs : StrsAre bv bitsT) (Tb : Tbl news tb l hs) (hlen : hs.length ≤ 100)
    (ret : ∀ (kind pick : Int) kt pt D ys nm vl ex t1 t2 t3 h' tk', 0 ≤ kind → kind < 5 → 0 ≤ pick → pick < 1000000 → StrsAre ys (hs.map (·.2)) → Off1 D news → Fine nm → nm.length ≤ 8 → Fine vl → vl.length ≤ 6 → Fine ex → ex.length ≤ 6 →
      Fr h₀ L h' (fun y => if y = Str.ofString "extra" then some (.str ex t3) else if y = Str.ofString "value" then some (.str vl t2) else if y = Str.ofString "name" then some (.str nm t1) else if y = Str.ofString "stored" then some (.ref D) else if y = Str.ofString "pick" then some (.int pick pt) else if y = Str.ofString "kind" then some (.int kind kt) else m y) →
      News h₀ L h' ((D, lst ys) :: news) → wpAny (model PySem.Challenge.rw_pe0245_01.row.prog w) (ktrTop dp un gd cn lawScope L a ccd [] []) (execs turn6 (envX cn lawScope L a ccd [])) Q E { s with heap := h', toks := tk' }) :
    wpAny (model PySem.Challenge.rw_pe0245_01.row.prog w) (ktrTop dp un gd cn lawScope L a ccd [] []) (execs turnBody (envX cn lawScope L a ccd [])) Q E s := by
  have em := fr_front m1
  have em2 := fr_front m2
  have em3 := fr_front m3
  have em4 := fr_front m4
  have emm : m = fun y => if y = Str.ofString "x" then some (.int x xt) else if y = Str.ofString "heads" then some (.ref hA) else if y = Str.ofString "bits" then some (.ref bA) else if y = Str.ofString "table" then some (.ref tb) else m y :=
    em.trans (congrArg (fun g : Str → Option Value => fun y => if y = Str.ofString "x" then some (.int x xt) else g y) (em2.trans (congrArg (fun g : Str → Option Value => fun y => if y = Str.ofString "heads" then some (.ref hA) else g y) (em3.trans (congrArg (fun g : Str → Option Value => fun y => if y = Str.ofString "bits" then some (.ref bA) else g y) em4)))))
  rw [emm] at F
  clear em em2 em3 em4
  have Tb0 := Tb
  obtain ⟨d, kh, kt, nd, nl, vs, ps, htb, hdd, hl, hp, hs'⟩ := Tb0
  revert X
  k_fill
  intro X
  conv =>
    pattern turnBody
    whnf
  conv =>
    pattern envX _ lawScope _ _ _ _
    pattern lawScope
    whnf
  k_steps
  unfold Stop
  refine values_T (by k_asm) (by k_asm) (by k_asm) (by k_asm) (by k_asm) rfl (by ktr_room) (by units_room) Tb (by omega) ?_
  intro D ys h9 tk9 F9 N9 off9 hys
  dsimp only
  k_steps
  unfold Stop
  refine' ret _ _ _ _ D ys _ _ _ _ _ _ _ _ ?k0 ?k5 ?p0 ?pm hys off9 ?fn ?ln ?fv ?lv ?fx ?lx ?F ?N
  case F => rw [emm]; k_asm
  case N => k_asm
  case k0 => exact fm_lo _ _ (by decide)
  case k5 => exact fm_hi _ _ (by decide)
  case p0 => exact fm_lo _ _ (by decide)
  case pm => exact fm_hi _ _ (by decide)
  case fn => exact fine_append (by assumption) (by assumption)
  case fv => exact fine_append (by assumption) (by assumption)
  case fx => exact fine_append (by assumption) (by assumption)
  case ln => rw [str_len_append]; omega
  case lv => rw [str_len_append]; omega
  case lx => rw [str_len_append]; omega
end
section
theorem offM1 : True := by
  w_top off
  trivial
set_option maxHeartbeats 1600000
open LCg LCp PyProof.Rows.LCt
def stmt7 : Stmt := match turn6 with | a :: _ => a | _ => .Pass ⟨0, 0, 0, 0⟩
def stmt8 : Stmt := match turn6 with | _ :: a :: _ => a | _ => .Pass ⟨0, 0, 0, 0⟩
local macro_rules | `(tactic| walk_at "compareOp NotEq ref ref") => `(tactic| (refine Stop.out ?_))
local macro_rules | `(tactic| walk_at "subscriptTail") => `(tactic| ((with_reducible show wpAny _ _ (subscriptTail _ _ (Value.ref _) (Value.int _ _)) _ _ _); refine Stop.out ?_))

theorem idx12 (n : Nat) : (Builtin.Str.strSliceIndices none (some 12) 1 n).length ≤ 12 := by
  unfold Builtin.Str.strSliceIndices sliceRange
  simp only [show (1 : Int) > 0 by decide, if_true, List.length_map, List.length_range]
  (split <;> (try split) <;> (try split) <;> (try simp only [Int.ediv_one]) <;> omega)
theorem slice12_mem (x : Str) : ∀ c ∈ sg (Txt.slice x none (some 12)), c ∈ sg x := by
  intro c hc
  unfold Txt.slice at hc
  split at hc
  · exact hc
  · simp only [sg] at hc ⊢
    obtain ⟨i, _, hi⟩ := List.mem_filterMap.mp hc
    rw [← Array.getElem?_toList] at hi
    exact List.mem_of_getElem? hi
theorem slice12_len (x : Str) : (Txt.slice x none (some 12)).length ≤ 12 := by
  have h := idx12 x.length
  unfold Txt.slice
  split
  · rename_i e
    simp at e
    omega
  · rw [← sg_length]
    refine Nat.le_trans (List.length_filterMap_le _ _) h
theorem slice12_fine {x : Str} (h : Fine x) : Fine (Txt.slice x none (some 12)) := fun c hc => h c (slice12_mem x c hc)
theorem text_neg {prog : Program} {w : World} {A : Around} {E : Value → Shared → Prop} {s : Shared} {value slice : PySem.Expr} {l : Addr} {vs : List Value} {ss : List Str} {u : Tok} {n : Nat} {h₀ : Heap} {L : Addr} {news : List (Addr × Obj)} {Q : Value → Shared → Prop}
    (N : News h₀ L s.heap news) (hl : (l, listOf vs.toArray n) ∈ news) (hs : StrsAre vs ss) (hne : 0 < vs.length) (h : ∀ x t, x ∈ ss → Q (.str x t) s)
    (hsub : subscripted slice false (.ref l) (.int (-1) u) = operate [.ref l, .int (-1) u] (getItem (.ref l) (.int (-1) u)) := by with_unfolding_all rfl) :
    wpAny (model prog w) A (subscriptTail value slice (.ref l) (.int (-1) u)) Q E s := by
  have hlt : vs.length - 1 < vs.length := by omega
  have hv : vs[vs.length - 1]? = some vs[vs.length - 1] := List.getElem?_eq_getElem hlt
  obtain ⟨x, t, e, hx⟩ := hs.item _ _ hv
  have hsz : vs.toArray.size = vs.length := by simp
  refine tail_any (News.isList N hl).typeIs slot_list_getitem.lookup (wpAny_getItem_list_neg (News.isList N hl) (by decide) (by rw [hsz]; omega) (by decide) (x := vs[vs.length - 1]) ?_ ?_) hsub
  · have e2 : ((-1 : Int) + (vs.toArray.size : Int)).toNat = vs.length - 1 := by rw [hsz]; omega
    rw [e2]
    exact (List.getElem?_toArray ..).trans hv
  · rw [e]
    exact h x t (List.mem_of_getElem? hx)
theorem grow_v {w : World} {mean : ExcName → Option Value} {mg mb : Str → Option Value} {dp un : Nat} {gd : Option (List Code)} {cn : Str} {a : Addr} {ccd : Value} {A₀ : Around} {base h₀ : Heap} {L : Addr} {m : Str → Option Value} {s : Shared} {E : Value → Shared → Prop} {news : List (Addr × Obj)} {D : Addr} {ys : List Value} {ss : List Str} {pick : Int} {pt t : Tok} {vl : Str} {Q : Flow → Shared → Prop}
    (B : Below A₀ base [] h₀) (F : Fr h₀ L s.heap m) (X : (hd.heap_39 w.params).In h₀) (N : News h₀ L s.heap news) (T : Top hd.view_39 (looseW hd.view_39 [Str.ofString "tspecials", Str.ofString "_name_disallowed_re", Str.ofString "_value_disallowed_re", Str.ofString "_formatparam"]) mean mg mb h₀) (hd : dp + 6 < recursionLimit) (hu : un + 100 < cLine)
    (m1 : m (Str.ofString "pick") = some (.int pick pt)) (m2 : m (Str.ofString "stored") = some (.ref D)) (m3 : m (Str.ofString "value") = some (.str vl t))
    (hD : (D, lst ys) ∈ news) (hys : StrsAre ys ss) (hss : ∀ y ∈ ss, Fine y ∧ y.length ≤ 1000) (hf : Fine vl) (hl : vl.length ≤ 6) (hp0 : 0 ≤ pick) (hp : pick < 1000000)
    (ret : ∀ v' t' h' tk', Fine v' → v'.length ≤ 18 → Fr h₀ L h' (fun y => if y = Str.ofString "value" then some (.str v' t') else m y) → News h₀ L h' news → Q .next { s with heap := h', toks := tk' }) :
    wpAny (model PySem.Challenge.rw_pe0245_01.row.prog w) (ktrTop dp un gd cn lawScope L a ccd [] []) (exec stmt7 (envX cn lawScope L a ccd [])) Q E s := by
  have em := fr_front m1
  have em2 := fr_front m2
  have em3 := fr_front m3
  have emm : m = fun y => if y = Str.ofString "pick" then some (.int pick pt) else if y = Str.ofString "stored" then some (.ref D) else if y = Str.ofString "value" then some (.str vl t) else m y :=
    em.trans (congrArg (fun g : Str → Option Value => fun y => if y = Str.ofString "pick" then some (.int pick pt) else g y) (em2.trans (congrArg (fun g : Str → Option Value => fun y => if y = Str.ofString "stored" then some (.ref D) else g y) em3)))
  rw [emm] at F
  clear em em2
  revert X
  k_fill
  intro X
  conv =>
    pattern stmt7
    whnf
  conv =>
    pattern envX _ lawScope _ _ _ _
    pattern lawScope
    whnf
  k_steps
  · unfold Stop
    cases hys with
    | nil =>
      refine ne_nil0 (by k_asm) (by k_mem) (by k_mem) (by units_room) ?_
      k_steps
      refine ret vl t _ _ hf (by omega) ?_ (newsSub (by assumption) fun p hp => by (repeat (first | exact hp | refine List.mem_cons_of_mem _ ?_)))
      rw [← em3, emm]
      k_asm
    | @cons y0 t0 vs0 ss0 r =>
      have hys : StrsAre (.str y0 t0 :: vs0) (y0 :: ss0) := .cons _ _ r
      refine ne_nil1 (x := .str y0 t0) (xs := vs0) (by k_asm) (by k_mem) (by k_mem) (by units_room) ?_
      k_steps
      unfold Stop
      refine text_neg (N := by k_asm) (hl := by k_mem) hys (by simp) ?_
      intro x9 t9 hx9
      obtain ⟨hf9, hl9⟩ := hss _ hx9
      k_steps
      refine' ret _ _ _ _ ?f ?l ?F ?N
      case N => exact (newsSub (by assumption) fun p hp => by (repeat (first | exact hp | refine List.mem_cons_of_mem _ ?_)))
      case F => rw [emm]; k_asm
      case f => exact fine_append hf (slice12_fine hf9)
      case l => rw [str_len_append]; have := slice12_len x9; omega
  · refine ret vl t _ _ hf (by omega) ?_ (by k_asm)
    rw [← em3, emm]
    k_asm
theorem grow_x {w : World} {mean : ExcName → Option Value} {mg mb : Str → Option Value} {dp un : Nat} {gd : Option (List Code)} {cn : Str} {a : Addr} {ccd : Value} {A₀ : Around} {base h₀ : Heap} {L : Addr} {m : Str → Option Value} {s : Shared} {E : Value → Shared → Prop} {news : List (Addr × Obj)} {D : Addr} {ys : List Value} {ss : List Str} {pick : Int} {pt t : Tok} {vl : Str} {Q : Flow → Shared → Prop}
    (B : Below A₀ base [] h₀) (F : Fr h₀ L s.heap m) (X : (hd.heap_39 w.params).In h₀) (N : News h₀ L s.heap news) (T : Top hd.view_39 (looseW hd.view_39 [Str.ofString "tspecials", Str.ofString "_name_disallowed_re", Str.ofString "_value_disallowed_re", Str.ofString "_formatparam"]) mean mg mb h₀) (hd : dp + 6 < recursionLimit) (hu : un + 100 < cLine)
    (m1 : m (Str.ofString "pick") = some (.int pick pt)) (m2 : m (Str.ofString "stored") = some (.ref D)) (m3 : m (Str.ofString "extra") = some (.str vl t))
    (hD : (D, lst ys) ∈ news) (hys : StrsAre ys ss) (hss : ∀ y ∈ ss, Fine y ∧ y.length ≤ 1000) (hf : Fine vl) (hl : vl.length ≤ 6) (hp0 : 0 ≤ pick) (hp : pick < 1000000)
    (ret : ∀ v' t' h' tk', Fine v' → v'.length ≤ 18 → Fr h₀ L h' (fun y => if y = Str.ofString "extra" then some (.str v' t') else m y) → News h₀ L h' news → Q .next { s with heap := h', toks := tk' }) :
    wpAny (model PySem.Challenge.rw_pe0245_01.row.prog w) (ktrTop dp un gd cn lawScope L a ccd [] []) (exec stmt8 (envX cn lawScope L a ccd [])) Q E s := by
  have em := fr_front m1
  have em2 := fr_front m2
  have em3 := fr_front m3
  have emm : m = fun y => if y = Str.ofString "pick" then some (.int pick pt) else if y = Str.ofString "stored" then some (.ref D) else if y = Str.ofString "extra" then some (.str vl t) else m y :=
    em.trans (congrArg (fun g : Str → Option Value => fun y => if y = Str.ofString "pick" then some (.int pick pt) else g y) (em2.trans (congrArg (fun g : Str → Option Value => fun y => if y = Str.ofString "stored" then some (.ref D) else g y) em3)))
  rw [emm] at F
  clear em em2
  revert X
  k_fill
  intro X
  conv =>
    pattern stmt8
    whnf
  conv =>
    pattern envX _ lawScope _ _ _ _
    pattern lawScope
    whnf
  k_steps
  · unfold Stop
    cases hys with
    | nil =>
      refine ne_nil0 (by k_asm) (by k_mem) (by k_mem) (by units_room) ?_
      k_steps
      refine ret vl t _ _ hf (by omega) ?_ (newsSub (by assumption) fun p hp => by (repeat (first | exact hp | refine List.mem_cons_of_mem _ ?_)))
      rw [← em3, emm]
      k_asm
    | @cons y0 t0 vs0 ss0 r =>
      have hys : StrsAre (.str y0 t0 :: vs0) (y0 :: ss0) := .cons _ _ r
      refine ne_nil1 (x := .str y0 t0) (xs := vs0) (by k_asm) (by k_mem) (by k_mem) (by units_room) ?_
      k_steps
      unfold Stop
      refine text_at (N := by k_asm) (hl := by k_mem) hys (by decide) (by simp) (by decide) ?_ (by with_unfolding_all rfl)
      intro x9 t9 hx9
      obtain ⟨hf9, hl9⟩ := hss _ hx9
      k_steps
      refine' ret _ _ _ _ ?f ?l ?F ?N
      case N => exact (newsSub (by assumption) fun p hp => by (repeat (first | exact hp | refine List.mem_cons_of_mem _ ?_)))
      case F => rw [emm]; k_asm
      case f => exact fine_append hf (slice12_fine hf9)
      case l => rw [str_len_append]; have := slice12_len x9; omega
  · refine ret vl t _ _ hf (by omega) ?_ (by k_asm)
    rw [← em3, emm]
    k_asm
end
section
theorem offM2 : True := by
  w_top off
  trivial
set_option maxHeartbeats 1600000
open LCg LCp PyProof.Rows.LCt
def escA (k : Nat) : Addr := match k with | 0 => 202 | 1 => 209 | 2 => 216 | 3 => 223 | _ => 230
theorem esc_any {w : World} {mean : ExcName → Option Value} {mg mb : Str → Option Value} {dp un : Nat} {gd : Option (List Code)} {cn : Str} {cs : Scope} {a : Addr} {ccd : Value} {cl : List (Str × Addr)} {outer : List Env} {A₀ : Around} {base h₀ : Heap} {L : Addr} {m : Str → Option Value} {s : Shared} {Q E : Value → Shared → Prop} {news : List (Addr × Obj)} {x : Str} {t : Tok} {k : Nat} (B : Below A₀ base outer h₀) (F : Fr h₀ L s.heap m) (X : (hd.heap_39 w.params).In h₀) (N : News h₀ L s.heap news) (T : Top hd.view_39 (looseW hd.view_39 [Str.ofString "tspecials", Str.ofString "_name_disallowed_re", Str.ofString "_value_disallowed_re", Str.ofString "_formatparam"]) mean mg mb h₀) (hk : cs.kind = .function) (hk5 : k < 5) (hd : dp + 1 < recursionLimit) (hp : 1 ≤ s.toks) (hx : x.length ≤ 18)
    (ret : ∀ t' h' tk', 1 ≤ tk' → Fr h₀ L h' m → News h₀ L h' news → Q (.str (esc k x) t') { s with heap := h', toks := tk' }) :
    wpAny (model PySem.Challenge.rw_pe0245_01.row.prog w) (ktrTop dp un gd cn cs L a ccd cl outer) (call (.ref (escA k)) [.str x t]) Q E s := by
  have h : k = 0 ∨ k = 1 ∨ k = 2 ∨ k = 3 ∨ k = 4 := by omega
  rcases h with rfl | rfl | rfl | rfl | rfl
  · exact esc0 B F X N T hk hd hp hx ret
  · exact esc1 B F X N T hk hd hp hx ret
  · exact esc2 B F X N T hk hd hp hx ret
  · exact esc3 B F X N T hk hd hp hx ret
  · exact esc4 B F X N T hk hd hp hx ret
theorem esc_with {w : World} {A : Around} {E : Value → Shared → Prop} {s : Shared} {h₀ : Heap} {env : Env} {pos : Pos} {e : PySem.Expr} {rest : List PySem.Expr} {k : Nat} {Q : Value → Shared → Prop} (X : (hd.heap_39 w.params).In h₀) (hk5 : k < 5)
    (h : wpAny (model PySem.Challenge.rw_pe0245_01.row.prog w) A (spliced (backTo pos (starEach (e :: rest) env))) (fun vs s₁ => (hd.heap_39 w.params).In s₁.heap ∧ wpAny (model PySem.Challenge.rw_pe0245_01.row.prog w) A (call (.ref (escA k)) ([] ++ vs)) Q E s₁) E s)
    (he : starEach (e :: rest) env = (false, eval e env) :: starEach rest env) (hplain : (backTo pos (starEach rest env)).any (·.1) = false) :
    wpAny (model PySem.Challenge.rw_pe0245_01.row.prog w) A (callWith pos (.ref (escA k)) [] (backTo pos (starEach (e :: rest) env)) []) Q E s := by
  revert X
  k_fill
  intro X
  have hh : k = 0 ∨ k = 1 ∨ k = 2 ∨ k = 3 ∨ k = 4 := by omega
  rcases hh with rfl | rfl | rfl | rfl | rfl
  · exact callWith_K (f := .ref 202) X (by k_is) h he hplain
  · exact callWith_K (f := .ref 209) X (by k_is) h he hplain
  · exact callWith_K (f := .ref 216) X (by k_is) h he hplain
  · exact callWith_K (f := .ref 223) X (by k_is) h he hplain
  · exact callWith_K (f := .ref 230) X (by k_is) h he hplain
local macro_rules | `(tactic| walk_at "callWith ref") => `(tactic| ((with_reducible show wpAny _ _ (callWith _ (Value.ref (escA _)) _ _ _) _ _ _); k_dflt (refine' esc_with ?k1 ?k2 ?_ ?k3 ?k4; (case k1 => k_asm); (case k3 => rfl); (case k4 => rfl); (case k2 => exact (Int.toNat_lt (fm_lo _ _ (by decide))).mpr (fm_hi _ _ (by decide))))))
abbrev escL : List Value := [.ref 202, .ref 209, .ref 216, .ref 223, .ref 230]
theorem esc_at {prog : Program} {w : World} {A : Around} {E : Value → Shared → Prop} {s : Shared} {value slice : PySem.Expr} {l : Addr} {k : Int} {u : Tok} {n : Nat} {h₀ : Heap} {L : Addr} {news : List (Addr × Obj)} {Q : Value → Shared → Prop}
    (N : News h₀ L s.heap news) (hl : (l, listOf escL.toArray n) ∈ news) (h0 : 0 ≤ k) (hk : k < 5) (h : Q (.ref (escA k.toNat)) s)
    (hsub : subscripted slice false (.ref l) (.int k u) = operate [.ref l, .int k u] (getItem (.ref l) (.int k u)) := by with_unfolding_all rfl) :
    wpAny (model prog w) A (subscriptTail value slice (.ref l) (.int k u)) Q E s := by
  have e : escL.toArray[k.toNat]? = some (.ref (escA k.toNat)) := by
    have h : k = 0 ∨ k = 1 ∨ k = 2 ∨ k = 3 ∨ k = 4 := by omega
    rcases h with rfl | rfl | rfl | rfl | rfl <;> rfl
  exact tail_any (News.isList N hl).typeIs slot_list_getitem.lookup (wpAny_getItem_list (News.isList N hl) h0 (by omega) e h) hsub
local macro_rules | `(tactic| walk_at "call ref") => `(tactic| ((with_reducible show wpAny _ _ (call (Value.ref (escA _)) _ _) _ _ _); k_dflt (refine' esc_any ?k1 ?k2 ?k3 ?k4 ?k5 ?kK ?k6 ?kd ?kp ?kx ?_; (case k1 => k_asm); (case k2 => k_asm); (case k3 => k_asm); (case k4 => k_asm); (case k5 => k_asm); (case kK => first | exact rfl | assumption); (case k6 => first | exact (Int.toNat_lt (fm_lo _ _ (by decide))).mpr (fm_hi _ _ (by decide)) | omega); (case kd => ktr_room); (case kp => (try dsimp only); omega); (case kx => first | assumption | omega)); (intro t9 h9 tk9 htk9 F9 N9; (try dsimp only); (try k_fold))))
local macro_rules | `(tactic| walk_at "call ref") => `(tactic| ((with_reducible show wpAny _ _ (call (Value.ref 252) _ _) _ _ _); refine Stop.out ?_))
local macro_rules | `(tactic| walk_at "subscriptTail") => `(tactic| ((with_reducible show wpAny _ _ (subscriptTail _ _ (Value.ref _) (Value.int (Int.fmod _ _) _)) _ _ _); k_dflt (refine' esc_at ?k1 ?k2 ?k0 ?kl ?_ ?ks; (case k1 => k_asm); (case k2 => k_mem); (case k0 => exact fm_lo _ _ (by decide)); (case kl => exact fm_hi _ 5 (by decide)); (case ks => with_unfolding_all rfl))))
local macro_rules | `(tactic| walk_at "execs cons") => `(tactic| ((with_reducible show wpAny _ _ (execs (Stmt.Assign [Expr.Tuple _ _ _] _ _ :: _) _) _ _ _); refine Stop.out ?_))

theorem turn_c {w : World} {mean : ExcName → Option Value} {mg mb : Str → Option Value} {dp un : Nat} {gd : Option (List Code)} {cn : Str} {a : Addr} {ccd : Value} {A₀ : Around} {base h₀ : Heap} {L : Addr} {m : Str → Option Value} {s : Shared} {E : Value → Shared → Prop} {news : List (Addr × Obj)} {tb l eA : Addr} {n1 : Nat} {hs : List (Str × Str)} {pick kind : Int} {pt kt t1 t2 t3 : Tok} {nm vl ex : Str} {Q : Flow → Shared → Prop}
    (B : Below A₀ base [] h₀) (F : Fr h₀ L s.heap m) (X : (hd.heap_39 w.params).In h₀) (N : News h₀ L s.heap news) (T : Top hd.view_39 (looseW hd.view_39 [Str.ofString "tspecials", Str.ofString "_name_disallowed_re", Str.ofString "_value_disallowed_re", Str.ofString "_formatparam"]) mean mg mb h₀) (XB : (hd.heap_39 w.params).In base) (TB : Top hd.view_39 (looseW hd.view_39 [Str.ofString "tspecials", Str.ofString "_name_disallowed_re", Str.ofString "_value_disallowed_re", Str.ofString "_formatparam"]) mean mg mb base) (hd : dp + 6 < recursionLimit) (hu : un + 100 < cLine)
    (m1 : m (Str.ofString "pick") = some (.int pick pt)) (m2 : m (Str.ofString "escapes") = some (.ref eA)) (m3 : m (Str.ofString "kind") = some (.int kind kt)) (m4 : m (Str.ofString "table") = some (.ref tb))
    (m5 : m (Str.ofString "name") = some (.str nm t1)) (m6 : m (Str.ofString "value") = some (.str vl t2)) (m7 : m (Str.ofString "extra") = some (.str ex t3))
    (he : (eA, listOf escL.toArray n1) ∈ news) (Tb : Tbl news tb l hs) (hlen : hs.length ≤ 100) (hnm : ∀ h ∈ hs, h.1.length ≤ 1000) (hk0 : 0 ≤ kind) (hk5 : kind < 5)
    (fn : Fine nm) (ln : nm.length ≤ 18) (fv : Fine vl) (lv : vl.length ≤ 18) (fx : Fine ex) (lx : ex.length ≤ 18)
    (ret : ∀ (way last : Int) wt lt r news' h' tk', 0 ≤ way → way < 5 → 0 ≤ last → last < 5 → Tbl news' tb l (realP hs kind (esc way.toNat nm) (esc last.toNat vl) (esc last.toNat ex)).1 → KeptBut l news news' → OptStr r (realP hs kind (esc way.toNat nm) (esc last.toNat vl) (esc last.toNat ex)).2 →
      Fr h₀ L h' (fun y => if y = Str.ofString "told" then some r else if y = Str.ofString "last" then some (.int last lt) else if y = Str.ofString "way" then some (.int way wt) else m y) →
      News h₀ L h' news' → wpAny (model PySem.Challenge.rw_pe0245_01.row.prog w) (ktrTop dp un gd cn lawScope L a ccd [] []) (execs turn11 (envX cn lawScope L a ccd [])) Q E { s with heap := h', toks := tk' }) :
    wpAny (model PySem.Challenge.rw_pe0245_01.row.prog w) (ktrTop dp un gd cn lawScope L a ccd [] []) (execs turn8 (envX cn lawScope L a ccd [])) Q E s := by
  have emm : m = fun y => if y = Str.ofString "pick" then some (.int pick pt) else if y = Str.ofString "escapes" then some (.ref eA) else if y = Str.ofString "kind" then some (.int kind kt) else if y = Str.ofString "table" then some (.ref tb) else if y = Str.ofString "name" then some (.str nm t1) else if y = Str.ofString "value" then some (.str vl t2) else if y = Str.ofString "extra" then some (.str ex t3) else m y := by
    funext y
    repeat' split
    all_goals first | (subst_vars; assumption) | rfl
  rw [emm] at F
  have Tb0 := Tb
  obtain ⟨d, kh, kt', nd, nl, vs, ps, htb, hdd, hl, hp, hs'⟩ := Tb0
  revert X
  k_fill
  intro X
  conv =>
    pattern turn8
    whnf
  conv =>
    pattern envX _ lawScope _ _ _ _
    pattern lawScope
    whnf
  k_steps
  unfold Stop
  have hw5 : (Int.fmod (Int.fdiv pick 3) 5).toNat < 5 := (Int.toNat_lt (fm_lo _ _ (by decide))).mpr (fm_hi _ _ (by decide))
  have hl5 : (Int.fmod (Int.fdiv pick 2) 5).toNat < 5 := (Int.toNat_lt (fm_lo _ _ (by decide))).mpr (fm_hi _ _ (by decide))
  have z1 := (esc_len hw5 nm).1
  have z2 := (esc_len hl5 vl).1
  have z3 := (esc_len hl5 ex).1
  refine lawcall (by k_asm) (by k_asm) (by k_asm) (by k_asm) (by k_asm) rfl XB TB (by ktr_room) (by units_room) Tb (by omega) (by omega) (by omega) (by omega) hnm (bad_lower (esc_asc hw5 fn.asc)) hk0 hk5 ?_
  intro n9 r9 h9 tk9 T9 K9 O9 F9 N9
  dsimp only
  k_steps
  unfold Stop
  refine' ret _ _ _ _ _ _ _ _ ?w0 ?w5 ?l0 ?l5 ?T ?K ?O ?F ?N
  case F => rw [emm]; k_asm
  case N => k_asm
  case w0 => exact fm_lo _ _ (by decide)
  case w5 => exact fm_hi _ _ (by decide)
  case l0 => exact fm_lo _ _ (by decide)
  case l5 => exact fm_hi _ _ (by decide)
  case T => exact T9
  case K => exact K9
  case O => exact O9
end
section
theorem offM3 : True := by
  w_top off
  trivial
set_option maxHeartbeats 1600000
open LCg LCp PyProof.Rows.LCt
local macro_rules | `(tactic| walk_at "call ref") => `(tactic| ((with_reducible show wpAny _ _ (call (Value.ref 235) _ _) _ _ _); k_dflt (refine' lawrow ?k1 ?k2 ?k3 ?k4 ?k5 ?kK ?kd ?kx ?k0 ?k6 ?_; (case k1 => k_asm); (case k2 => k_asm); (case k3 => k_asm); (case k4 => k_asm); (case k5 => k_asm); (case kK => first | exact rfl | assumption); (case kd => ktr_room); (case kx => assumption); (case k0 => assumption); (case k6 => assumption)); (intro D9 y9 h9 tk9 F9 N9 o9 s9; (try dsimp only); (try k_fold))))
local macro_rules | `(tactic| walk_at "call ref") => `(tactic| ((with_reducible show wpAny _ _ (call (Value.ref 245) _ _) _ _ _); refine Stop.out ?_))
local macro_rules | `(tactic| walk_at "execs cons") => `(tactic| ((with_reducible show wpAny _ _ (execs (Stmt.If _ _ _ _ :: _) _) _ _ _); refine Stop.out ?_))

theorem row_len6 {w : Nat} {x : Str} (hw : w < 5) : ∀ y ∈ row w x, y.length ≤ 1000 := by
  intro y hy
  obtain ⟨c, _, rfl⟩ := List.mem_map.mp hy
  have := (spell_len c hw).2
  omega
theorem turn_d {w : World} {mean : ExcName → Option Value} {mg mb : Str → Option Value} {dp un : Nat} {gd : Option (List Code)} {cn : Str} {a : Addr} {ccd : Value} {A₀ : Around} {base h₀ : Heap} {L : Addr} {m : Str → Option Value} {s : Shared} {E : Value → Shared → Prop} {news : List (Addr × Obj)} {P bad : Addr} {nP : Nat} {ob : Obj} {vs : List Value} {pgs : List Pg} {kind way last : Int} {kt wt lt t1 t2 t3 : Tok} {nm vl ex : Str} {Q : Flow → Shared → Prop}
    (B : Below A₀ base [] h₀) (F : Fr h₀ L s.heap m) (X : (hd.heap_39 w.params).In h₀) (N : News h₀ L s.heap news) (T : Top hd.view_39 (looseW hd.view_39 [Str.ofString "tspecials", Str.ofString "_name_disallowed_re", Str.ofString "_value_disallowed_re", Str.ofString "_formatparam"]) mean mg mb h₀) (hd : dp + 6 < recursionLimit) (hu : un + 100 < cLine)
    (m1 : m (Str.ofString "pages") = some (.ref P)) (m2 : m (Str.ofString "kind") = some (.int kind kt)) (m3 : m (Str.ofString "name") = some (.str nm t1)) (m4 : m (Str.ofString "value") = some (.str vl t2)) (m5 : m (Str.ofString "extra") = some (.str ex t3))
    (m6 : m (Str.ofString "way") = some (.int way wt)) (m7 : m (Str.ofString "last") = some (.int last lt))
    (hP : (P, listOf vs.toArray nP) ∈ news) (hpg : PagesAt bad news vs pgs) (hlen : pgs.length ≤ 100) (hPb : P ≠ bad) (hbad : (bad, ob) ∈ news) (hk0 : 0 ≤ kind) (hk5 : kind < 5)
    (ln : nm.length ≤ 18) (lv : vl.length ≤ 18) (lx : ex.length ≤ 18) (w0 : 0 ≤ way) (w5 : way < 5) (l0 : 0 ≤ last) (l5 : last < 5)
    (ret : ∀ news' P' n' vs' v h' tk', (∀ p ∈ news, p ∈ news') → (P', listOf (List.toArray vs') n') ∈ news' → P' ≠ bad → PagesAt bad news' vs' (turnP pgs kind (row way.toNat nm) (row last.toNat vl) (row last.toNat ex)).1 → OptStr v (turnP pgs kind (row way.toNat nm) (row last.toNat vl) (row last.toNat ex)).2 →
      Fr h₀ L h' (fun y => if y = Str.ofString "due" then some v else if y = Str.ofString "pages" then some (.ref P') else m y) →
      News h₀ L h' news' → wpAny (model PySem.Challenge.rw_pe0245_01.row.prog w) (ktrTop dp un gd cn lawScope L a ccd [] []) (execs turn12 (envX cn lawScope L a ccd [])) Q E { s with heap := h', toks := tk' }) :
    wpAny (model PySem.Challenge.rw_pe0245_01.row.prog w) (ktrTop dp un gd cn lawScope L a ccd [] []) (execs turn11 (envX cn lawScope L a ccd [])) Q E s := by
  have emm : m = fun y => if y = Str.ofString "pages" then some (.ref P) else if y = Str.ofString "kind" then some (.int kind kt) else if y = Str.ofString "name" then some (.str nm t1) else if y = Str.ofString "value" then some (.str vl t2) else if y = Str.ofString "extra" then some (.str ex t3) else if y = Str.ofString "way" then some (.int way wt) else if y = Str.ofString "last" then some (.int last lt) else m y := by
    funext y
    repeat' split
    all_goals first | (subst_vars; assumption) | rfl
  rw [emm] at F
  revert X
  k_fill
  intro X
  conv =>
    pattern turn11
    whnf
  conv =>
    pattern envX _ lawScope _ _ _ _
    pattern lawScope
    whnf
  k_steps
  unfold Stop
  have hw5 : way.toNat < 5 := by omega
  have hl5 : last.toNat < 5 := by omega
  have z1 := (row_sum hw5 nm).1
  have z2 := (row_sum hl5 vl).1
  have z3 := (row_sum hl5 ex).1
  have y1 := row_length way.toNat nm
  have y2 := row_length last.toNat vl
  have y3 := row_length last.toNat ex
  have hvl := hpg.length
  refine' lawturn (bad := bad) (ob := ob) (name := row way.toNat nm) (value := row last.toNat vl) (extra := row last.toNat ex) ?k1 ?k2 ?k3 ?k4 ?k5 rfl ?kd ?ku ?kP ?kpg ?kn ?kns ?kv ?kvs ?kx ?kxs ?a1 (row_len6 hw5) (row_len6 hl5) ?a2 ?a3 ?a4 ?a5 ?a6 ?a7 hk0 hk5 hPb ?kb ?_
  case k1 => k_asm
  case k2 => k_asm
  case k3 => k_asm
  case k4 => k_asm
  case k5 => k_asm
  case kd => ktr_room
  case ku => units_room
  case kns => assumption
  case kvs => assumption
  case kxs => assumption
  case kP => k_mem
  case kpg => exact hpg.mono' (fun p hp => by (repeat (first | exact hp | refine List.mem_cons_of_mem _ ?_)))
  case kn => k_mem
  case kv => k_mem
  case kx => k_mem
  case kb => k_mem
  case a1 => omega
  case a2 => omega
  case a3 => omega
  case a4 => omega
  case a5 => omega
  case a6 => omega
  case a7 => omega
  intro n9 R9 P9 k9 m9 vs9 v9 h9 tk9 sub9 hR9 hP9 ne9 pg9 op9 F9 N9
  dsimp only
  k_steps
  unfold Stop
  refine' ret _ _ _ _ _ _ _ ?sub hP9 ne9 pg9 op9 ?F ?N
  case F => rw [emm]; k_asm
  case N => k_asm
  case sub => exact fun p hp => sub9 p (by (repeat (first | exact hp | refine List.mem_cons_of_mem _ ?_)))
end
section
theorem offM4 : True := by
  w_top off
  trivial
local macro_rules | `(tactic| walk_at "none") => `(tactic| fail "none")
set_option maxHeartbeats 1600000
open LCg LCp PyProof.Rows PyProof.Rows.LCt
open PySem.SeqAt
/-! two lists of pairs of texts -/
section
variable {prog : Program} {w : World} {A : Around} {E : Value → Shared → Prop} {s : Shared} {h₀ : Heap} {L : Addr} {news : List (Addr × Obj)}
theorem pair_eq (N : News h₀ L s.heap news) {t t' : Addr} {k k' : Nat} {x y : Str} {u v u' v' : Tok} (h : (t, tupObj [.str x u, .str y v] k) ∈ news) (h' : (t', tupObj [.str x u', .str y v'] k') ∈ news) (hu : A.units < cLine) : EqAt A s (.ref t) (.ref t') true := by
  by_cases e : t = t'
  · subst e; exact EqAt.same _
  · refine EqAt.of_refs e ?_
    have h1 : s.heap.IsTuple t #[.str x u, .str y v] := ⟨_, (N _ h).1, rfl, _, rfl⟩
    have h2 : s.heap.IsTuple t' #[.str x u', .str y v'] := ⟨_, (N _ h').1, rfl, _, rfl⟩
    have r := RcAt.tuples (A := A) (e := fun _ => true) h1 h2 hu (fun j h1 h2 => by
      have hj : j < 2 := h1
      have hh : j = 0 ∨ j = 1 := by omega
      rcases hh with rfl | rfl
      · have := EqAt.str_str (A := A.in1) (s := s) x u x u'
        rw [beq_self_eq_true] at this
        exact this
      · have := EqAt.str_str (A := A.in1) (s := s) y v y v'
        rw [beq_self_eq_true] at this
        exact this)
    exact r
theorem ne_pairs {a b : Addr} {vs ws : List Value} {n n' : Nat} {ps qs : List (Value × Value)} {hs : List (Str × Str)} {Q : Value → Shared → Prop} (N : News h₀ L s.heap news) (ha : (a, listOf vs.toArray n) ∈ news) (hb : (b, listOf ws.toArray n') ∈ news)
    (hp : PairsAt news vs ps) (hps : StrPairs ps hs) (hq : PairsAt news ws qs) (hqs : StrPairs qs hs) (hu : A.units < cLine) (hu1 : A.in1.units < cLine) (h : Q (.bool false) s) :
    wpAny (model prog w) A (compareOp .NotEq (.ref a) (.ref b)) Q E s := by
  have e1 : vs.length = ws.length := by rw [hp.length, hps.length, hq.length, hqs.length]
  refine RcNeAt.lists (e := fun _ => true) (News.isList N ha) (News.isList N hb) (by simpa using e1) hu (fun j h1 h2 => ?_) prog w E Q ?_
  · have h1' : j < vs.length := by simpa using h1
    have h2' : j < ws.length := by simpa using h2
    obtain ⟨t, k, p, et, hp1, hm⟩ := hp.get j vs[j] (List.getElem?_eq_getElem h1')
    obtain ⟨x, y, u, v, rfl, hh⟩ := hps.get j p hp1
    obtain ⟨t', k', p', et', hp1', hm'⟩ := hq.get j ws[j] (List.getElem?_eq_getElem h2')
    obtain ⟨x', y', u', v', rfl, hh'⟩ := hqs.get j p' hp1'
    rw [hh] at hh'
    cases hh'
    have q1 : vs.toArray[j] = .ref t := by simpa using et
    have q2 : ws.toArray[j] = .ref t' := by simpa using et'
    rw [q1, q2]
    exact pair_eq N hm hm' hu1
  · have e2 : (!(List.range vs.toArray.size).all fun _ => true) = false := by
      rw [List.all_eq_true.mpr (fun _ _ => rfl)]; rfl
    rw [e2]; exact h
end
/-! a comprehension that makes an object for each item -/
section
variable {prog : Program} {w : World} {A : Around} {E : Value → Shared → Prop} {s : Shared} {h₀ : Heap} {L : Addr} {m : Str → Option Value} {env : Env} {elt : PySem.Expr} {x : Str} {scope : Scope} {cl : List (Str × Addr)} {news : List (Addr × Obj)} {S : List (Addr × Obj) → Prop} {Fin : List Value → List (Addr × Obj) → Prop}
abbrev Made (R : Value → Obj → Prop) (nw : List (Addr × Obj)) (v y : Value) : Prop := ∃ t o, y = .ref t ∧ R v o ∧ (t, o) ∈ nw
theorem paired_mono {α β : Type} {F G : α → β → Prop} (h : ∀ a b, F a b → G a b) {l : List α} {l' : List β} (p : Paired F l l') : Paired G l l' := by
  induction p with
  | nil => exact .nil
  | cons a _ ih => exact .cons (h _ _ a) ih
def MadeEnd (h₀ : Heap) (L : Addr) (m : Str → Option Value) (big : List (Addr × Obj)) (R : Value → Obj → Prop) (v : Value) (s : Shared) (y : Value) (s' : Shared) : Prop :=
  ∃ t o h' tk, y = .ref t ∧ R v o ∧ s' = { s with heap := h', toks := tk } ∧ Fr h₀ L h' m ∧ News h₀ L h' ((t, o) :: big) ∧ ∀ p ∈ big, p.1 < t
theorem restG {vs : List Value} (R : Value → Obj → Prop) (hS : ∀ nw, (∀ p ∈ news, p ∈ nw) → S nw)
    (step : ∀ (i : Nat) (v : Value) (ys : List Value) I oI C oC D m₂ h tk nw (E' : Value → Shared → Prop), (∀ p ∈ news, p ∈ nw) → vs[i]? = some v → NsObj oC m₂ → m₂ x = some v → Fr h₀ L h m → News h₀ L h ((I, oI) :: (C, oC) :: (D, lst ys) :: nw) →
      wpAny (model prog w) A (eval elt (compEnvC scope cl C env)) (MadeEnd h₀ L m ((I, oI) :: (C, oC) :: (D, lst ys) :: nw) R v { s with heap := h, toks := tk }) E' { s with heap := h, toks := tk })
    (fin : ∀ ys nw, (∀ p ∈ news, p ∈ nw) → Paired (Made R nw) vs ys → Fin ys nw) : CompRest prog w A h₀ L m env elt x scope cl s S (fun i v => vs.toArray[i]? = some v) Fin vs.toArray.size 0 [] news := by
  have key : ∀ k i (ys : List Value) nw, i + k = vs.length → (∀ p ∈ news, p ∈ nw) → Paired (Made R nw) (vs.take i) ys → CompRest prog w A h₀ L m env elt x scope cl s S (fun i v => vs.toArray[i]? = some v) Fin k i ys nw := by
    intro k
    induction k with
    | zero =>
      intro i ys nw hi hn hy
      refine CompRest.zero ?_
      rw [List.take_of_length_le (by omega)] at hy
      exact fin ys nw hn hy
    | succ k ih =>
      intro i ys nw hi hn hy
      refine CompRest.succ fun v I oI C oC D m₂ h tk E' hv ho h1 F N off ne => ?_
      have hv' : vs[i]? = some v := by simpa using hv
      refine wpAny_mono (step i v ys I oI C oC D m₂ h tk nw E' hn hv' ho h1 F N) (fun y s' q => ?_) fun _ _ q => q
      obtain ⟨t, o, h', tk', rfl, hr, rfl, F', N', lt⟩ := q
      have sub : ∀ p ∈ nw, p ∈ (t, o) :: nw := fun p hp => List.mem_cons_of_mem _ hp
      refine ⟨h', tk', (t, o) :: nw, rfl, F', fun p hp => N' p ?_, Off3.of fun p hp => ?_, hS _ fun p hp => sub p (hn p hp), ih (i + 1) _ _ (by omega) (fun p hp => sub p (hn p hp)) ?_⟩
      · rcases List.mem_cons.mp hp with rfl | hp
        · exact List.mem_cons_of_mem _ List.mem_cons_self
        rcases List.mem_cons.mp hp with rfl | hp
        · exact List.mem_cons_of_mem _ (List.mem_cons_of_mem _ List.mem_cons_self)
        rcases List.mem_cons.mp hp with rfl | hp
        · exact List.mem_cons_of_mem _ (List.mem_cons_of_mem _ (List.mem_cons_of_mem _ List.mem_cons_self))
        rcases List.mem_cons.mp hp with rfl | hp
        · exact List.mem_cons_self
        · exact List.mem_cons_of_mem _ (List.mem_cons_of_mem _ (List.mem_cons_of_mem _ (List.mem_cons_of_mem _ hp)))
      · rcases List.mem_cons.mp hp with rfl | hp
        · exact ⟨Nat.ne_of_gt (lt (I, oI) List.mem_cons_self), Nat.ne_of_gt (lt (C, oC) (List.mem_cons_of_mem _ List.mem_cons_self)), Nat.ne_of_gt (lt (D, lst ys) (List.mem_cons_of_mem _ (List.mem_cons_of_mem _ List.mem_cons_self)))⟩
        · exact off.mem p hp
      · rw [List.take_add_one, hv']
        exact Paired.snoc (paired_mono (fun a b q => by
          obtain ⟨t, o, e, r, hm⟩ := q
          exact ⟨t, o, e, r, sub _ hm⟩) hy) ⟨t, o, rfl, hr, List.mem_cons_self⟩
  exact key vs.toArray.size 0 [] news (by simp) (fun _ h => h) (by simpa using Paired.nil)
end
def PageTup (news : List (Addr × Obj)) (v : Value) (o : Obj) : Prop := ∃ (t : Addr) (k : Nat) (lw : Addr) (p : Pg) (t1 t2 u1 u2 : Tok) (k' : Nat), v = .ref t ∧ (t, tupObj [.ref lw, .str p.2.1 t1, .str p.2.2 t2] k) ∈ news ∧ o = tupObj [.str p.2.1 u1, .str p.2.2 u2] k'
theorem madeEnd_mk {h₀ h' : Heap} {L t : Addr} {m : Str → Option Value} {big : List (Addr × Obj)} {R : Value → Obj → Prop} {v : Value} {s : Shared} {o : Obj} {tk : Nat} (F : Fr h₀ L h' m) (N : News h₀ L h' ((t, o) :: big)) (r : R v o) (lt : ∀ p ∈ big, p.1 < t) : MadeEnd h₀ L m big R v s (.ref t) { s with heap := h', toks := tk } :=
  ⟨t, o, h', tk, rfl, r, rfl, F, N, lt⟩
theorem allLt_in {d : Addr} : ∀ {l : List (Addr × Obj)}, AllLt d l → ∀ p ∈ l, @LT.lt Nat _ p.1 d
  | [], _, _, h => nomatch h
  | _ :: _, x, p, h => by
    rcases List.mem_cons.mp h with rfl | h
    · exact x.1
    · exact allLt_in x.2 p h
theorem lt4 {d I C D : Addr} {oI oC oD : Obj} {nw : List (Addr × Obj)} (l : I < d ∧ C < d ∧ D < d ∧ AllLt d nw) : ∀ p ∈ (I, oI) :: (C, oC) :: (D, oD) :: nw, p.1 < d := by
  intro p hp
  rcases List.mem_cons.mp hp with rfl | hp
  · exact l.1
  rcases List.mem_cons.mp hp with rfl | hp
  · exact l.2.1
  rcases List.mem_cons.mp hp with rfl | hp
  · exact l.2.2.1
  · exact allLt_in l.2.2.2 p hp
theorem pages_made {h₀ h : Heap} {L bad : Addr} {big nw : List (Addr × Obj)} (N : News h₀ L h big) {vs : List Value} {pgs : List Pg} (hp : PagesAt bad big vs pgs) : ∀ {ys : List Value}, Paired (Made (PageTup big) nw) vs ys → ∃ qs, PairsAt nw ys qs ∧ StrPairs qs (pairs pgs) := by
  induction hp with
  | nil => intro ys h; cases h; exact ⟨[], .nil, .nil⟩
  | @cons t k lw n nm tx t1 t2 low ys' vs ps hm hl hne hs _ ih =>
    intro ys h
    cases h with
    | cons a r =>
      obtain ⟨qs, h1, h2⟩ := ih r
      obtain ⟨t', o, rfl, ⟨t3, k3, lw3, p, u1, u2, w1, w2, k4, e, hm3, rfl⟩, hm'⟩ := a
      cases e
      have eo := Mine.News.obj_eq N hm hm3
      simp only [tupObj] at eo
      injection eo with e1 e2 e3 e4
      injection e3 with e5 e6
      simp at e5
      obtain ⟨_, ⟨e7, _⟩, e8, _⟩ := e5
      refine ⟨(.str p.2.1 w1, .str p.2.2 w2) :: qs, .cons (v := (.str p.2.1 w1, .str p.2.2 w2)) hm' h1, ?_⟩
      show StrPairs _ ((nm, tx) :: pairs ps)
      rw [e7, e8]
      exact .cons h2
def stmt13 : Stmt := match turn12 with | a :: _ => a | _ => .Pass ⟨0, 0, 0, 0⟩
local macro_rules | `(tactic| walk_at "compareOp NotEq ref ref") => `(tactic| (refine Stop.out ?_))
local macro_rules | `(tactic| walk_at "eval ListComp") => `(tactic| (refine Stop.out ?_))
local macro_rules | `(tactic| walk_at "call ref") => `(tactic| ((with_reducible show wpAny _ _ (call (Value.ref 148) _ _) _ _ _); refine Stop.out ?_))

theorem turn_e {w : World} {mean : ExcName → Option Value} {mg mb : Str → Option Value} {dp un : Nat} {gd : Option (List Code)} {cn : Str} {a : Addr} {ccd : Value} {A₀ : Around} {base h₀ : Heap} {L : Addr} {m : Str → Option Value} {s : Shared} {E : Value → Shared → Prop} {news : List (Addr × Obj)} {tb l P : Addr} {nP : Nat} {vs : List Value} {pgs : List Pg} {r v : Value} {o : Option Str} {Q : Flow → Shared → Prop}
    (B : Below A₀ base [] h₀) (F : Fr h₀ L s.heap m) (X : (hd.heap_39 w.params).In h₀) (N : News h₀ L s.heap news) (T : Top hd.view_39 (looseW hd.view_39 [Str.ofString "tspecials", Str.ofString "_name_disallowed_re", Str.ofString "_value_disallowed_re", Str.ofString "_formatparam"]) mean mg mb h₀) (hd : dp + 6 < recursionLimit) (hu : un + 100 < cLine)
    (m1 : m (Str.ofString "told") = some r) (m2 : m (Str.ofString "due") = some v) (m3 : m (Str.ofString "table") = some (.ref tb)) (m4 : m (Str.ofString "pages") = some (.ref P))
    (hr : OptStr r o) (hv : OptStr v o) (hP : (P, listOf vs.toArray nP) ∈ news) (hpg : PagesAt l news vs pgs) (hlen : pgs.length ≤ 100) (Tb : Tbl news tb l (pairs pgs))
    (ret : ∀ h' tk', Fr h₀ L h' m → News h₀ L h' news → Q .next { s with heap := h', toks := tk' }) :
    wpAny (model PySem.Challenge.rw_pe0245_01.row.prog w) (ktrTop dp un gd cn lawScope L a ccd [] []) (exec stmt13 (envX cn lawScope L a ccd [])) Q E s := by
  have emm : m = fun y => if y = Str.ofString "told" then some r else if y = Str.ofString "due" then some v else if y = Str.ofString "table" then some (.ref tb) else if y = Str.ofString "pages" then some (.ref P) else m y := by
    funext y
    repeat' split
    all_goals first | (subst_vars; assumption) | rfl
  rw [emm] at F
  have Tb0 := Tb
  obtain ⟨d, kh, kt', nd, nl, vs2, ps, htb, hdd, hl, hp, hs'⟩ := Tb0
  revert X
  k_fill
  intro X
  conv =>
    pattern stmt13
    whnf
  conv =>
    pattern envX _ lawScope _ _ _ _
    pattern lawScope
    whnf
  have hvl := hpg.length
  have hvl2 := hp.length
  have hvl3 := hs'.length
  have hvl4 : (pairs pgs).length = pgs.length := by simp [pairs]
  cases o with
  | none =>
    cases hr
    cases hv
    k_steps
    unfold Stop
    refine items (by k_asm) (by k_asm) (by k_asm) (by k_asm) (by k_asm) rfl (by ktr_room) (by units_room) htb hdd hl (by omega) ?_
    intro D8 h8 tk8 F8 N8 l8
    (try dsimp only)
    k_steps
    unfold Stop
    refine ListComp_U (F₀ := by k_asm) (by rfl) (by decide) (by rfl) (by decide) (by rfl) ?_
    k_steps
    refine CompSrc.ledger rfl (by k_asm) (by k_asm) (by k_mem) (by rw [sizeLine_eq]; simp; omega) ?_
    intro g9
    refine restG (PageTup ((D8, listOf vs2.toArray 0) :: news)) (fun nw hn => .inr ⟨_, hn _ (List.mem_cons_of_mem _ hP), rfl, _, rfl⟩) ?_ ?_
    · intro i v ys I oI C oC D m₂ h tk nw E' hn hv ho h1 F9 N9
      obtain ⟨t6, k6, lw, n6, t7, t8, ys6, p6, rfl, hp6, hm6, hl6, hs6⟩ := hpg.get i v hv
      have hm7 := hn _ (List.mem_cons_of_mem _ hm6)
      k_steps
      exact madeEnd_mk (by k_asm) (by k_asm) ⟨_, _, _, p6, _, _, _, _, 0, rfl, List.mem_cons_of_mem _ hm6, rfl⟩ (lt4 (by assumption))
    · intro ys nw hn hys D h tk F9 N9 off
      obtain ⟨qs, hq1, hq2⟩ := pages_made N8 (hpg.mono' fun p hp => List.mem_cons_of_mem _ hp) hys
      k_steps
      unfold Stop
      refine ne_pairs (ps := ps) (hs := pairs pgs) (by k_asm) (List.mem_cons_of_mem _ (hn _ List.mem_cons_self)) List.mem_cons_self (hp.mono fun _ _ _ q => List.mem_cons_of_mem _ (hn _ (List.mem_cons_of_mem _ q))) hs' (hq1.mono fun _ _ _ q => List.mem_cons_of_mem _ q) hq2 (by units_room) (by units_room) ?_
      k_steps
      refine ret _ _ ?_ (newsSub N9 fun p hp => List.mem_cons_of_mem _ (hn _ (List.mem_cons_of_mem _ hp)))
      rw [emm]
      k_asm
  | some x =>
    obtain ⟨t5, rfl⟩ := hr
    obtain ⟨t6, rfl⟩ := hv
    k_steps
    · have hx : (x != x) = true := by assumption
      simp at hx
    unfold Stop
    refine items (by k_asm) (by k_asm) (by k_asm) (by k_asm) (by k_asm) rfl (by ktr_room) (by units_room) htb hdd hl (by omega) ?_
    intro D8 h8 tk8 F8 N8 l8
    (try dsimp only)
    k_steps
    unfold Stop
    refine ListComp_U (F₀ := by k_asm) (by rfl) (by decide) (by rfl) (by decide) (by rfl) ?_
    k_steps
    refine CompSrc.ledger rfl (by k_asm) (by k_asm) (by k_mem) (by rw [sizeLine_eq]; simp; omega) ?_
    intro g9
    refine restG (PageTup ((D8, listOf vs2.toArray 0) :: news)) (fun nw hn => .inr ⟨_, hn _ (List.mem_cons_of_mem _ hP), rfl, _, rfl⟩) ?_ ?_
    · intro i v ys I oI C oC D m₂ h tk nw E' hn hv ho h1 F9 N9
      obtain ⟨t6, k6, lw, n6, t7, t8, ys6, p6, rfl, hp6, hm6, hl6, hs6⟩ := hpg.get i v hv
      have hm7 := hn _ (List.mem_cons_of_mem _ hm6)
      k_steps
      exact madeEnd_mk (by k_asm) (by k_asm) ⟨_, _, _, p6, _, _, _, _, 0, rfl, List.mem_cons_of_mem _ hm6, rfl⟩ (lt4 (by assumption))
    · intro ys nw hn hys D h tk F9 N9 off
      obtain ⟨qs, hq1, hq2⟩ := pages_made N8 (hpg.mono' fun p hp => List.mem_cons_of_mem _ hp) hys
      k_steps
      unfold Stop
      refine ne_pairs (ps := ps) (hs := pairs pgs) (by k_asm) (List.mem_cons_of_mem _ (hn _ List.mem_cons_self)) List.mem_cons_self (hp.mono fun _ _ _ q => List.mem_cons_of_mem _ (hn _ (List.mem_cons_of_mem _ q))) hs' (hq1.mono fun _ _ _ q => List.mem_cons_of_mem _ q) hq2 (by units_room) (by units_room) ?_
      k_steps
      refine ret _ _ ?_ (newsSub N9 fun p hp => List.mem_cons_of_mem _ (hn _ (List.mem_cons_of_mem _ hp)))
      rw [emm]
      k_asm
end
section
set_option maxHeartbeats 1600000
open LCg LCp PyProof.Rows PyProof.Rows.LCt
theorem turn6_eq : turn6 = stmt7 :: stmt8 :: turn8 := rfl
theorem turn12_eq : turn12 = [stmt13] := rfl
/-- what holds between the turns -/
structure Inv (l tb : Addr) (news : List (Addr × Obj)) (m : Str → Option Value) (pgs : List Pg) (eA hA bA P : Addr) (n1 n2 n3 nP : Nat) (hv bv vs : List Value) : Prop where
  me : m (Str.ofString "escapes") = some (.ref eA)
  mh : m (Str.ofString "heads") = some (.ref hA)
  mb : m (Str.ofString "bits") = some (.ref bA)
  mt : m (Str.ofString "table") = some (.ref tb)
  mp : m (Str.ofString "pages") = some (.ref P)
  le : (eA, listOf escL.toArray n1) ∈ news
  lh : (hA, listOf hv.toArray n2) ∈ news
  sh : StrsAre hv headsT
  lb : (bA, listOf bv.toArray n3) ∈ news
  sb : StrsAre bv bitsT
  T : Tbl news tb l (pairs pgs)
  lp : (P, listOf vs.toArray nP) ∈ news
  pg : PagesAt l news vs pgs
  ne : eA ≠ l
  nh : hA ≠ l
  nb : bA ≠ l
  np : P ≠ l
  ok : ∀ p ∈ pgs, PageOk p
def InvE (l tb : Addr) (news : List (Addr × Obj)) (m : Str → Option Value) (pgs : List Pg) : Prop := ∃ eA hA bA P n1 n2 n3 nP hv bv vs, Inv l tb news m pgs eA hA bA P n1 n2 n3 nP hv bv vs
theorem Tbl.at {news : List (Addr × Obj)} {tb l : Addr} {hs : List (Str × Str)} (T : Tbl news tb l hs) : ∃ vs n, (l, listOf (List.toArray vs) n) ∈ news := by
  obtain ⟨d, kh, kt, nd, nl, vs, ps, h1, h2, h3, h4, h5⟩ := T
  exact ⟨vs, nl, h3⟩
theorem tup_ne {h₀ h : Heap} {L : Addr} {news : List (Addr × Obj)} {l : Addr} {vs : List Value} {n : Nat} (N : News h₀ L h news) (hl : (l, listOf (List.toArray vs) n) ∈ news) : ∀ t k u, (t, tupObj u k) ∈ news → t ≠ l := fun t k u h => ne_of_obj N h hl (by intro e; simp at e)

theorem turn_all {w : World} {mean : ExcName → Option Value} {mg mb : Str → Option Value} {dp un : Nat} {gd : Option (List Code)} {cn : Str} {a : Addr} {ccd : Value} {A₀ : Around} {base h₀ : Heap} {L : Addr} {m : Str → Option Value} {s : Shared} {E : Value → Shared → Prop} {news : List (Addr × Obj)} {tb l : Addr} {pgs : List Pg} {x : Int} {xt : Tok} {Q : Flow → Shared → Prop}
    (B : Below A₀ base [] h₀) (F : Fr h₀ L s.heap m) (X : (hd.heap_39 w.params).In h₀) (N : News h₀ L s.heap news) (T : Top hd.view_39 (looseW hd.view_39 [Str.ofString "tspecials", Str.ofString "_name_disallowed_re", Str.ofString "_value_disallowed_re", Str.ofString "_formatparam"]) mean mg mb h₀) (XB : (hd.heap_39 w.params).In base) (TB : Top hd.view_39 (looseW hd.view_39 [Str.ofString "tspecials", Str.ofString "_name_disallowed_re", Str.ofString "_value_disallowed_re", Str.ofString "_formatparam"]) mean mg mb base) (hd : dp + 6 < recursionLimit) (hu : un + 100 < cLine)
    (mx : m (Str.ofString "x") = some (.int x xt)) (I : InvE l tb news m pgs) (hlen : pgs.length ≤ 90)
    (ret : ∀ m' news' pgs' h' tk', InvE l tb news' m' pgs' → pgs'.length ≤ pgs.length + 1 → KeptBut l news news' → Fr h₀ L h' m' → News h₀ L h' news' → Q .next { s with heap := h', toks := tk' }) :
    wpAny (model PySem.Challenge.rw_pe0245_01.row.prog w) (ktrTop dp un gd cn lawScope L a ccd [] []) (execs turnBody (envX cn lawScope L a ccd [])) Q E s := by
  obtain ⟨eA, hA, bA, P, n1, n2, n3, nP, hv, bv, vs, I⟩ := I
  have hpl : (pairs pgs).length = pgs.length := by simp [pairs]
  refine turn_a B F X N T hd hu mx I.mh I.mb I.mt I.lh I.sh I.lb I.sb I.T (by omega) ?_
  intro kind pick kt pt D ys nm vl ex t1 t2 t3 h1 tk1 hk0 hk5 hp0 hp5 hys off1 fn ln fv lv fx lx F1 N1
  have hss : ∀ y ∈ (pairs pgs).map (·.2), Fine y ∧ y.length ≤ 1000 := by
    intro y hy
    obtain ⟨q, hq, rfl⟩ := List.mem_map.mp hy
    obtain ⟨p, hp, rfl⟩ := List.mem_map.mp hq
    exact ⟨(I.ok p hp).fv, (I.ok p hp).lv⟩
  rw [turn6_eq]
  refine wpAny_execs_cons ?_
  refine grow_v B F1 X N1 T hd hu rfl rfl rfl List.mem_cons_self hys hss fv lv hp0 hp5 ?_
  intro vl2 t2' h2 tk2 fv2 lv2 F2 N2
  dsimp only
  refine wpAny_execs_cons ?_
  refine grow_x B F2 X N2 T hd hu rfl rfl rfl List.mem_cons_self hys hss fx lx hp0 hp5 ?_
  intro ex2 t3' h3 tk3 fx2 lx2 F3 N3
  dsimp only
  have sub1 : ∀ p ∈ news, p ∈ (D, lst ys) :: news := fun p hp => List.mem_cons_of_mem _ hp
  refine turn_c B F3 X N3 T XB TB hd hu rfl I.me rfl I.mt rfl rfl rfl (sub1 _ I.le) (I.T.mono sub1) (by omega) (fun h hh => ?_) hk0 hk5 fn (by omega) fv2 lv2 fx2 lx2 ?_
  · obtain ⟨p, hp, rfl⟩ := List.mem_map.mp hh
    exact (I.ok p hp).ln
  intro way last wt lt r news4 h4 tk4 w0 w5 l0 l5 T4 K4 O4 F4 N4
  dsimp only
  have hw5 : way.toNat < 5 := by omega
  have hl5 : last.toNat < 5 := by omega
  obtain ⟨law1, law2, law3⟩ := turn_law hk0 hk5 I.ok hw5 hl5 fn fv2 fx2 (by omega) lv2 lx2
  obtain ⟨wv, wn, hlw⟩ := T4.at
  obtain ⟨wv0, wn0, hlw0⟩ := I.T.at
  have kept : KeptBut l news news4 := fun p hp ne => K4 p (sub1 p hp) ne
  have pg4 : PagesAt l news4 vs pgs := I.pg.mono (fun p hp ne => kept p hp ne) (tup_ne N hlw0)
  refine turn_d B F4 X N4 T hd hu I.mp rfl rfl rfl rfl rfl rfl (kept _ I.lp I.np) pg4 (by omega) I.np hlw hk0 hk5 (by omega) lv2 lx2 w0 w5 l0 l5 ?_
  intro news5 P5 n5 vs5 v5 h5 tk5 sub5 hP5 ne5 pg5 op5 F5 N5
  dsimp only
  rw [law1] at T4 O4
  rw [turn12_eq]
  refine wpAny_execs_cons ?_
  refine turn_e (o := (turnP pgs kind (row way.toNat nm) (row last.toNat vl2) (row last.toNat ex2)).2) B F5 X N5 T hd hu rfl rfl I.mt rfl O4 op5 hP5 pg5 (by omega) (T4.mono sub5) ?_
  intro h6 tk6 F6 N6
  dsimp only
  refine wpAny_execs_nil ?_
  refine ret _ news5 _ h6 tk6 ⟨eA, hA, bA, P5, n1, n2, n3, n5, hv, bv, vs5, ?_⟩ law3 (fun p hp ne => sub5 p (kept p hp ne)) F6 N6
  exact ⟨I.me, I.mh, I.mb, I.mt, rfl, sub5 _ (kept _ I.le I.ne), sub5 _ (kept _ I.lh I.nh), I.sh, sub5 _ (kept _ I.lb I.nb), I.sb, T4.mono sub5, hP5, pg5, I.ne, I.nh, I.nb, ne5, law2⟩
end
section
set_option maxHeartbeats 1600000
open LCg LCp PyProof.Rows PyProof.Rows.LCt
/-! all that is no iterator stays -/
abbrev itC : Value := .type "list_iterator"
theorem PairsAt.ofC {news news' : List (Addr × Obj)} (h : ∀ p ∈ news, p.2.cls ≠ itC → p ∈ news') {vs : List Value} {ps : List (Value × Value)} (p : PairsAt news vs ps) : PairsAt news' vs ps := p.mono fun t k u q => h _ q (by intro e; simp [itC] at e)
theorem Tbl.ofC {news news' : List (Addr × Obj)} {tb l : Addr} {hs : List (Str × Str)} (T : Tbl news tb l hs) (h : ∀ p ∈ news, p.2.cls ≠ itC → p ∈ news') : Tbl news' tb l hs := by
  obtain ⟨d, kh, kt, nd, nl, vs, ps, h1, h2, h3, h4, h5⟩ := T
  exact ⟨d, kh, kt, nd, nl, vs, ps, h _ h1 (by intro e; cases e), h _ h2 (by intro e; simp [itC] at e), h _ h3 (by intro e; simp [itC] at e), PairsAt.ofC h h4, h5⟩
theorem PagesAt.ofC {bad : Addr} {news news' : List (Addr × Obj)} (h : ∀ p ∈ news, p.2.cls ≠ itC → p ∈ news') {vs : List Value} {ps : List Pg} (p : PagesAt bad news vs ps) : PagesAt bad news' vs ps := by
  induction p with
  | nil => exact .nil
  | cons hm hl hne hs _ ih => exact .cons (h _ hm (by intro e; simp [itC] at e)) (h _ hl (by intro e; simp [itC] at e)) hne hs ih
theorem InvE.ofC {l tb : Addr} {news news' : List (Addr × Obj)} {m : Str → Option Value} {pgs : List Pg} (I : InvE l tb news m pgs) (h : ∀ p ∈ news, p.2.cls ≠ itC → p ∈ news') : InvE l tb news' m pgs := by
  obtain ⟨eA, hA, bA, P, n1, n2, n3, nP, hv, bv, vs, I⟩ := I
  have hl : ∀ (a : Addr) (xs : Array Value) (n : Nat), (a, listOf xs n) ∈ news → (a, listOf xs n) ∈ news' := fun a xs n q => h _ q (by intro e; simp [itC] at e)
  exact ⟨eA, hA, bA, P, n1, n2, n3, nP, hv, bv, vs, I.me, I.mh, I.mb, I.mt, I.mp, hl _ _ _ I.le, hl _ _ _ I.lh, I.sh, hl _ _ _ I.lb, I.sb, I.T.ofC h, hl _ _ _ I.lp, PagesAt.ofC h I.pg, I.ne, I.nh, I.nb, I.np, I.ok⟩
theorem InvE.withX {l tb : Addr} {news news' : List (Addr × Obj)} {m : Str → Option Value} {pgs : List Pg} {v : Value} (I : InvE l tb news m pgs) (h : ∀ p ∈ news, p ∈ news') : InvE l tb news' (fun y => if y = Str.ofString "x" then some v else m y) pgs := by
  obtain ⟨eA, hA, bA, P, n1, n2, n3, nP, hv, bv, vs, I⟩ := I
  exact ⟨eA, hA, bA, P, n1, n2, n3, nP, hv, bv, vs, I.me, I.mh, I.mb, I.mt, I.mp, h _ I.le, h _ I.lh, I.sh, h _ I.lb, I.sb, I.T.mono h, h _ I.lp, I.pg.mono' h, I.ne, I.nh, I.nb, I.np, I.ok⟩
theorem InvE.list {l tb : Addr} {news : List (Addr × Obj)} {m : Str → Option Value} {pgs : List Pg} (I : InvE l tb news m pgs) : ∃ vs n, (l, listOf (List.toArray vs) n) ∈ news := by
  obtain ⟨eA, hA, bA, P, n1, n2, n3, nP, hv, bv, vs, I⟩ := I
  exact I.T.at

theorem turns {w : World} {mean : ExcName → Option Value} {mg mb : Str → Option Value} {dp un : Nat} {gd : Option (List Code)} {cn : Str} {a : Addr} {ccd : Value} {A₀ : Around} {base h₀ : Heap} {L : Addr} {m : Str → Option Value} {s : Shared} {E : Value → Shared → Prop} {news : List (Addr × Obj)} {tb l I ax : Addr} {lo : Obj} {pos : Pos} {Q : Flow → Shared → Prop}
    (B : Below A₀ base [] h₀) (X : (hd.heap_39 w.params).In h₀) (T : Top hd.view_39 (looseW hd.view_39 [Str.ofString "tspecials", Str.ofString "_name_disallowed_re", Str.ofString "_value_disallowed_re", Str.ofString "_formatparam"]) mean mg mb h₀) (XB : (hd.heap_39 w.params).In base) (TB : Top hd.view_39 (looseW hd.view_39 [Str.ofString "tspecials", Str.ofString "_name_disallowed_re", Str.ofString "_value_disallowed_re", Str.ofString "_formatparam"]) mean mg mb base) (hd : dp + 6 < recursionLimit) (hu : un + 100 < cLine)
    (hlo : lo.cls = .type "list") (axl : ax ≠ l)
    (fin : ∀ m news pgs h tk, InvE l tb news m pgs → pgs.length ≤ 80 → Fr h₀ L h m → News h₀ L h news → Q .next { s with heap := h, toks := tk }) :
    ∀ (ns : List Int) (vs : List Value), IntsAre vs ns → ∀ (news : List (Addr × Obj)) (m : Str → Option Value) (pgs : List Pg), InvE l tb news m pgs → pgs.length + ns.length ≤ 80 → (ax, lo) ∈ news →
      ItemsRest PySem.Challenge.rw_pe0245_01.row.prog w (ktrTop dp un gd cn lawScope L a ccd [] []) E h₀ (envX cn lawScope L a ccd []) (.Name (Str.ofString "x") pos) turnBody Q s [(I, "list_iterator")] [(ax, lo)] (vs.map .val) m news := by
  intro ns
  induction ns with
  | nil =>
    intro vs hi news m pgs inv hlen hax
    cases hi
    exact ItemsRest.zero fun h tk F N => fin m news pgs h tk inv (by simpa using hlen) F N
  | cons n ns ih =>
    intro vs hi news m pgs inv hlen hax
    cases hi with
    | cons _ t hi =>
      rw [List.length_cons] at hlen
      refine ItemsRest.val fun h tk F => AllObj.cons fun o ho => AllObj.nil fun N => ?_
      refine assign_Name ?_
      refine stN (name := cn) (scope := lawScope) F N (fun h' F' N' => ?_) rfl rfl
      refine turn_all B F' X N' T XB TB hd hu rfl (inv.withX (fun p hp => List.mem_cons_of_mem _ hp)) (by omega) ?_
      intro m' news' pgs' h'' tk' inv' hl' kept F'' N''
      obtain ⟨vl, nl, hll⟩ := inv.list
      have hIl : I ≠ l := ne_of_obj N' List.mem_cons_self (List.mem_cons_of_mem _ hll) (by rw [ho]; intro e; simp at e)
      have hI' : (I, o) ∈ news' := kept _ List.mem_cons_self hIl
      have hIax : ax ≠ I := fun e => ne_of_obj N' (List.mem_cons_of_mem _ hax) List.mem_cons_self (by rw [ho, hlo]; intro e; simp at e) e
      have hax' : (ax, lo) ∈ news' := kept _ (List.mem_cons_of_mem _ hax) axl
      have keepC : ∀ p ∈ news', p.2.cls ≠ itC → p ∈ news'.filter (fun p => decide (p.1 ≠ I)) := by
        rintro ⟨b, ob⟩ hp hc
        refine List.mem_filter.mpr ⟨hp, decide_eq_true fun e => ?_⟩
        have e' : b = I := e
        subst e'
        have := Mine.News.obj_eq N'' hp hI'
        exact hc (by rw [this, ho])
      refine ⟨h'', tk', m', news'.filter (fun p => decide (p.1 ≠ I)), rfl, F'', fun p hp => ?_, fun p hp q hq => ?_, ⟨?_, trivial⟩, ih _ hi _ m' pgs' (inv'.ofC keepC) (by omega) ?_⟩
      · rcases List.mem_append.mp hp with hp | hp
        · rw [List.mem_singleton.mp hp]; exact N'' _ hI'
        · exact N'' _ (List.mem_filter.mp hp).1
      · rw [List.mem_singleton.mp hq]
        have := (List.mem_filter.mp hp).2
        exact of_decide_eq_true this
      · exact List.mem_filter.mpr ⟨hax', decide_eq_true hIax⟩
      · exact List.mem_filter.mpr ⟨hax', decide_eq_true hIax⟩
end
section
theorem offZ1 : True := by
  w_top off
  trivial
set_option maxHeartbeats 1600000
open LCg LCp PyProof.Rows PyProof.Rows.LCt
/-! the whole text -/
def wholeP (h : Str × Str) : Str := h.1 ++ Str.ofString ": " ++ h.2 ++ Str.ofString "\r\n"
theorem whole_eq (hs : List (Str × Str)) : Txt.join (Str.ofString "\r\n") (hs.map lineP ++ [Str.empty, Str.empty]) = Txt.join Str.empty (hs.map wholeP) ++ Str.ofString "\r\n" := by
  have e1 : Txt.join (Str.ofString "\r\n") (hs.map lineP ++ [Str.empty, Str.empty]) = Str.join (Str.ofString "\r\n") (hs.map lineP ++ [Str.empty, Str.empty]) := eq_of_beq (join_plain_closes _ _)
  rw [e1]
  apply sg_ext
  rw [sg_append, sg_join]
  induction hs with
  | nil => rfl
  | cons h r ih =>
    have ih := ih (eq_of_beq (join_plain_closes _ _))
    obtain ⟨y, z, e⟩ : ∃ y z, r.map lineP ++ [Str.empty, Str.empty] = y :: z := by
      cases r with
      | nil => exact ⟨_, _, rfl⟩
      | cons a b => exact ⟨_, _, rfl⟩
    have e2 : Str.join (Str.ofString "\r\n") ((h :: r).map lineP ++ [Str.empty, Str.empty]) = lineP h ++ Str.ofString "\r\n" ++ Str.join (Str.ofString "\r\n") (r.map lineP ++ [Str.empty, Str.empty]) := by
      rw [List.map_cons, List.cons_append, e]
      rfl
    rw [e2, sg_append, ih, List.map_cons, List.flatMap_cons, List.append_assoc]
    congr 1
def WholeAt (news : List (Addr × Obj)) (v y : Value) : Prop := ∃ (t : Addr) (k : Nat) (lw : Addr) (p : Pg) (t1 t2 t' : Tok), v = .ref t ∧ (t, tupObj [.ref lw, .str p.2.1 t1, .str p.2.2 t2] k) ∈ news ∧ y = .str (wholeP p.2) t'
theorem wholeAt_mk {news : List (Addr × Obj)} {t lw : Addr} {k : Nat} {p : Pg} {t1 t2 t' : Tok} {x : Str} (h : (t, tupObj [.ref lw, .str p.2.1 t1, .str p.2.2 t2] k) ∈ news) (e : x = wholeP p.2) : WholeAt news (.ref t) (.str x t') := ⟨t, k, lw, p, t1, t2, t', rfl, h, by rw [e]⟩
theorem whole_of {h₀ h : Heap} {L bad : Addr} {news : List (Addr × Obj)} (N : News h₀ L h news) {vs : List Value} {pgs : List Pg} (hp : PagesAt bad news vs pgs) : ∀ {ys : List Value}, Paired (WholeAt news) vs ys → StrsAre ys ((pairs pgs).map wholeP) := by
  induction hp with
  | nil => intro ys h; cases h; exact .nil
  | @cons t k lw n nm tx t1 t2 low ys' vs ps hm hl hne hs _ ih =>
    intro ys h
    cases h with
    | cons a r =>
      obtain ⟨t3, k3, lw3, p, u1, u2, u3, e, hm3, rfl⟩ := a
      cases e
      have eo := Mine.News.obj_eq N hm hm3
      simp only [tupObj] at eo
      injection eo with e1 e2 e3 e4
      injection e3 with e5 e6
      simp at e5
      obtain ⟨_, ⟨e7, _⟩, e8, _⟩ := e5
      have e9 : p.2 = (nm, tx) := by rw [e7, e8]
      rw [e9]
      exact .cons _ _ (ih r)
theorem whole_len {h : Str × Str} (h1 : h.1.length ≤ 1000 ∧ h.2.length ≤ 1000) : (wholeP h).length ≤ 2004 := by
  unfold wholeP
  rw [str_len_append, str_len_append, str_len_append]
  have : (Str.ofString ": ").length = 2 := rfl
  have : (Str.ofString "\r\n").length = 2 := rfl
  omega
def retStmt : List Stmt := match lawBody with
  | [_, _, _, _, _, _, r] => [r]
  | _ => []
local macro_rules | `(tactic| walk_at "eval ListComp") => `(tactic| (refine Stop.out ?_))
local macro_rules | `(tactic| walk_at "call builtin:str.join") => `(tactic| (refine Stop.out ?_))
local macro_rules | `(tactic| walk_at "call ref") => `(tactic| ((with_reducible show wpAny _ _ (call (Value.ref 160) _ _) _ _ _); refine Stop.out ?_))
local macro_rules | `(tactic| walk_at "call type:str") => `(tactic| ((with_reducible show wpAny _ _ (call (Value.type "str") [Value.ref _]) _ _ _); k_dflt (refine' kso_call (f := 160) ?k1 ?k2 ?k3 ?k4 ?k5 ?_; (case k1 => units_room); (case k2 => k_in); (case k3 => k_inst); (case k4 => k_is); (case k5 => k_is)); (refine Stop.out ?_)))
local macro_rules | `(tactic| walk_at "binaryOp Add str str") => `(tactic| ((with_reducible show wpAny _ _ (binaryOp Operator.Add (Value.str _ _) (Value.str _ _)) _ _ _); (refine' add_S ?kx ?ky ?_; (case kx => first | decide | omega | (simp only [str_len_append]; omega)); (case ky => first | decide | omega)); intro _ _ _))

theorem turn_z {w : World} {mean : ExcName → Option Value} {mg mb : Str → Option Value} {dp un : Nat} {gd : Option (List Code)} {cn : Str} {a : Addr} {ccd : Value} {A₀ : Around} {base h₀ : Heap} {L : Addr} {m : Str → Option Value} {s : Shared} {E : Value → Shared → Prop} {news : List (Addr × Obj)} {tb l : Addr} {pgs : List Pg} {Q : Flow → Shared → Prop}
    (B : Below A₀ base [] h₀) (F : Fr h₀ L s.heap m) (X : (hd.heap_39 w.params).In h₀) (N : News h₀ L s.heap news) (T : Top hd.view_39 (looseW hd.view_39 [Str.ofString "tspecials", Str.ofString "_name_disallowed_re", Str.ofString "_value_disallowed_re", Str.ofString "_formatparam"]) mean mg mb h₀) (hd : dp + 6 < recursionLimit) (hu : un + 100 < cLine)
    (I : InvE l tb news m pgs) (hlen : pgs.length ≤ 80)
    (ret : ∀ h' tk' m', Fr h₀ L h' m' → Q (.ret (.bool true)) { s with heap := h', toks := tk' }) :
    wpAny (model PySem.Challenge.rw_pe0245_01.row.prog w) (ktrTop dp un gd cn lawScope L a ccd [] []) (execs retStmt (envX cn lawScope L a ccd [])) Q E s := by
  obtain ⟨eA, hA, bA, P, n1, n2, n3, nP, hv, bv, vs, I⟩ := I
  have m1 := I.mt
  have m2 := I.mp
  have emm : m = fun y => if y = Str.ofString "table" then some (.ref tb) else if y = Str.ofString "pages" then some (.ref P) else m y := by
    funext y
    repeat' split
    all_goals first | (subst_vars; assumption) | rfl
  rw [emm] at F
  have Tb := I.T
  have hP := I.lp
  have hpg := I.pg
  have Tb0 := Tb
  obtain ⟨d, kh, kt', nd, nl, vs2, ps, htb, hdd, hl, hp, hs'⟩ := Tb0
  have hvl := hpg.length
  have hpl : (pairs pgs).length = pgs.length := by simp [pairs]
  have hnm : ∀ h ∈ pairs pgs, h.1.length ≤ 1000 ∧ h.2.length ≤ 1000 := by
    intro h hh
    obtain ⟨p, hp, rfl⟩ := List.mem_map.mp hh
    exact ⟨(I.ok p hp).ln, (I.ok p hp).lv⟩
  revert X
  k_fill
  intro X
  conv =>
    pattern retStmt
    whnf
  conv =>
    pattern envX _ lawScope _ _ _ _
    pattern lawScope
    whnf
  k_steps
  unfold Stop
  refine str_T (by k_asm) (by k_asm) (by k_asm) (by k_asm) (by k_asm) rfl (by ktr_room) (by units_room) Tb (by omega) hnm ?_
  intro t9 h9 tk9 F9 N9
  dsimp only [StrBack]
  k_steps
  unfold Stop
  refine ListComp_U (F₀ := by k_asm) (by rfl) (by decide) (by rfl) (by decide) (by rfl) ?_
  k_steps
  refine CompSrc.ledger rfl (by k_asm) (by k_asm) hP (by rw [sizeLine_eq]; simp; omega) ?_
  intro g9
  refine restU (WholeAt news) (.inr ⟨_, hP, rfl, _, rfl⟩) ?_ ?_
  · intro v ys I5 oI C oC D m₂ h tk E' hv ho h1 F8 N8
    obtain ⟨i, hi⟩ := List.getElem?_of_mem hv
    obtain ⟨t6, k6, lw, n6, t7, t8, ys6, p6, rfl, hp6, hm6, hl6, hs6⟩ := hpg.get i v hi
    have hk6 := I.ok p6 (List.mem_of_getElem? hp6)
    have hk7 := hk6.ln
    have hk8 := hk6.lv
    k_steps
    · exact wholeAt_mk hm6 rfl
    · exact Quiet.mk (by k_asm) (by k_asm) (fun _ h => h)
  · intro ys hys D h tk F8 N8 off
    have hls := whole_of N hpg hys
    have hsum := sum_le 2004 ((pairs pgs).map wholeP) fun y hy => by
      obtain ⟨z, hz, rfl⟩ := List.mem_map.mp hy
      exact whole_len (hnm z hz)
    rw [List.length_map, hpl] at hsum
    have hjl := join_length ((pairs pgs).map wholeP)
    k_steps
    unfold Stop
    refine join_list (ys := (pairs pgs).map wholeP) (News.isList (by k_asm) List.mem_cons_self) hls ?_ ?_
    · show _ + _ * 0 ≤ _
      omega
    intro t8 k8
    have hjl2 : (Txt.join (Str.ofString "") ((pairs pgs).map wholeP)).length ≤ 1000000 := by
      show (Txt.join Str.empty _).length ≤ _
      omega
    k_steps
    have e9 : (Txt.join (Str.ofString "\r\n") ((pairs pgs).map lineP ++ [Str.empty, Str.empty]) == Txt.join (Str.ofString "") ((pairs pgs).map wholeP) ++ Str.ofString "\r\n") = true := beq_iff_eq.mpr (whole_eq _)
    rw [e9]
    exact ret _ _ _ (by k_asm)
end
section
theorem offL3 : True := by
  w_top off
  trivial
set_option maxHeartbeats 1600000
open LCg LCp PyProof.Rows PyProof.Rows.LCt
theorem esc_a {w : World} {mean : ExcName → Option Value} {mg mb : Str → Option Value} {dp un : Nat} {gd : Option (List Code)} {cn : Str} {cs : Scope} {a : Addr} {ccd : Value} {cl : List (Str × Addr)} {outer : List Env} {A₀ : Around} {base h₀ : Heap} {L : Addr} {m : Str → Option Value} {s : Shared} {Q E : Value → Shared → Prop} {news : List (Addr × Obj)} {t : Tok} (B : Below A₀ base outer h₀) (F : Fr h₀ L s.heap m) (X : (hd.heap_39 w.params).In h₀) (N : News h₀ L s.heap news) (T : Top hd.view_39 (looseW hd.view_39 [Str.ofString "tspecials", Str.ofString "_name_disallowed_re", Str.ofString "_value_disallowed_re", Str.ofString "_formatparam"]) mean mg mb h₀) (hk : cs.kind = .function) (hd : dp + 1 < recursionLimit) (hp : 1 ≤ s.toks)
    (ret : ∀ t' h' tk', 1 ≤ tk' → Fr h₀ L h' m → News h₀ L h' news → Q (.str (Str.ofString "a&lt;") t') { s with heap := h', toks := tk' }) :
    wpAny (model PySem.Challenge.rw_pe0245_01.row.prog w) (ktrTop dp un gd cn cs L a ccd cl outer) (call (.ref 202) [.str (Str.ofString "a<") t]) Q E s := by
  refine esc0 B F X N T hk hd hp (by decide) ?_
  have e : esc 0 (Str.ofString "a<") = Str.ofString "a&lt;" := by decide +kernel
  rw [e]
  exact ret
theorem esc_b {w : World} {mean : ExcName → Option Value} {mg mb : Str → Option Value} {dp un : Nat} {gd : Option (List Code)} {cn : Str} {cs : Scope} {a : Addr} {ccd : Value} {cl : List (Str × Addr)} {outer : List Env} {A₀ : Around} {base h₀ : Heap} {L : Addr} {m : Str → Option Value} {s : Shared} {Q E : Value → Shared → Prop} {news : List (Addr × Obj)} {t : Tok} (B : Below A₀ base outer h₀) (F : Fr h₀ L s.heap m) (X : (hd.heap_39 w.params).In h₀) (N : News h₀ L s.heap news) (T : Top hd.view_39 (looseW hd.view_39 [Str.ofString "tspecials", Str.ofString "_name_disallowed_re", Str.ofString "_value_disallowed_re", Str.ofString "_formatparam"]) mean mg mb h₀) (hk : cs.kind = .function) (hd : dp + 1 < recursionLimit) (hp : 1 ≤ s.toks)
    (ret : ∀ t' h' tk', 1 ≤ tk' → Fr h₀ L h' m → News h₀ L h' news → Q (.str (Str.ofString "b&#10;") t') { s with heap := h', toks := tk' }) :
    wpAny (model PySem.Challenge.rw_pe0245_01.row.prog w) (ktrTop dp un gd cn cs L a ccd cl outer) (call (.ref 209) [.str (Str.ofString "b\n") t]) Q E s := by
  refine esc1 B F X N T hk hd hp (by decide) ?_
  have e : esc 1 (Str.ofString "b\n") = Str.ofString "b&#10;" := by decide +kernel
  rw [e]
  exact ret
local macro_rules | `(tactic| walk_at "call ref") => `(tactic| ((with_reducible show wpAny _ _ (call (Value.ref 202) _ _) _ _ _); k_dflt (refine' esc_a ?k1 ?k2 ?k3 ?k4 ?k5 ?kK ?kd ?kp ?_; (case k1 => k_asm); (case k2 => k_asm); (case k3 => k_asm); (case k4 => k_asm); (case k5 => k_asm); (case kK => first | exact rfl | assumption); (case kd => ktr_room); (case kp => (try dsimp only); omega)); (intro t9 h9 tk9 htk9 F9 N9; (try dsimp only); (try k_fold))))
local macro_rules | `(tactic| walk_at "call ref") => `(tactic| ((with_reducible show wpAny _ _ (call (Value.ref 209) _ _) _ _ _); k_dflt (refine' esc_b ?k1 ?k2 ?k3 ?k4 ?k5 ?kK ?kd ?kp ?_; (case k1 => k_asm); (case k2 => k_asm); (case k3 => k_asm); (case k4 => k_asm); (case k5 => k_asm); (case kK => first | exact rfl | assumption); (case kd => ktr_room); (case kp => (try dsimp only); omega)); (intro t9 h9 tk9 htk9 F9 N9; (try dsimp only); (try k_fold))))
theorem invE_mk {l tb : Addr} {news : List (Addr × Obj)} {m : Str → Option Value} {pgs : List Pg} {eA hA bA P : Addr} {n1 n2 n3 nP : Nat} {hv bv vs : List Value} (I : Inv l tb news m pgs eA hA bA P n1 n2 n3 nP hv bv vs) : InvE l tb news m pgs := ⟨_, _, _, _, _, _, _, _, _, _, _, I⟩
theorem tbl_mk {news : List (Addr × Obj)} {tb l d t : Addr} {kh : Int} {kt u1 u2 : Tok} {nd nl k : Nat} {x y : Str} (h1 : (tb, instObj 184 d) ∈ news) (h2 : (d, dictOf [⟨kh, .str (Str.ofString "_headers") kt, .ref l⟩] nd) ∈ news) (h3 : (l, listOf (List.toArray [.ref t]) nl) ∈ news) (h4 : (t, tupObj [.str x u1, .str y u2] k) ∈ news) : Tbl news tb l [(x, y)] :=
  ⟨d, kh, kt, nd, nl, [.ref t], [(.str x u1, .str y u2)], h1, h2, h3, .cons h4 .nil, .cons .nil⟩
theorem page0 : PageOk ([Str.ofString "a", Str.ofString "&lt;"], Str.ofString "a&lt;", Str.ofString "b&#10;") :=
  ⟨⟨0, Str.ofString "a<", by decide, by decide, by decide +kernel, by decide +kernel⟩, by decide, by decide, by decide⟩
local macro_rules | `(tactic| walk_at "exec For Name Subscript cons nil") => `(tactic| (refine Stop.out ?_))

local macro_rules | `(tactic| walk_at "pyIter ref") => `(tactic| ((with_reducible show wpAny _ (Around.deeper callerA _) (pyIter _) _ _ _); refine Stop.out ?_))
theorem law_all {w : World} {mean : ExcName → Option Value} {mg mb : Str → Option Value} {cn : Str} {a : Addr} {ccd : Value} {base h₀ : Heap} {L : Addr} {m : Str → Option Value} {s : Shared} {E : Value → Shared → Prop} {scr : Addr} {vs : List Value} {ns : List Int} {Q : Flow → Shared → Prop}
    (B : Below callerA base [] h₀) (F : Fr h₀ L s.heap m) (X : (hd.heap_39 w.params).In h₀) (N : News h₀ L s.heap []) (T : Top hd.view_39 (looseW hd.view_39 [Str.ofString "tspecials", Str.ofString "_name_disallowed_re", Str.ofString "_value_disallowed_re", Str.ofString "_formatparam"]) mean mg mb h₀) (XB : (hd.heap_39 w.params).In base) (TB : Top hd.view_39 (looseW hd.view_39 [Str.ofString "tspecials", Str.ofString "_name_disallowed_re", Str.ofString "_value_disallowed_re", Str.ofString "_formatparam"]) mean mg mb base) 
    (m1 : m (Str.ofString "script") = some (.ref scr)) (hl : h₀.IsList scr vs.toArray) (hi : IntsAre vs ns) (hlen : ns.length ≤ 63) (hE : PassesOwn (model PySem.Challenge.rw_pe0245_01.row.prog w) (Around.deeper callerA (envX cn lawScope L a ccd [])) (envX cn lawScope L a ccd []) E)
    (ret : ∀ h' tk' m', Fr h₀ L h' m' → Q (.ret (.bool true)) { s with heap := h', toks := tk' }) :
    wpAny (model PySem.Challenge.rw_pe0245_01.row.prog w) (Around.deeper callerA (envX cn lawScope L a ccd [])) (execs lawBody (envX cn lawScope L a ccd [])) Q E s := by
  have emm := fr_front m1
  rw [emm] at F
  revert X XB
  k_fill
  intro X9 XB
  have X := X9
  clear X9
  conv =>
    pattern lawBody
    whnf
  conv =>
    pattern envX _ lawScope _ _ _ _
    pattern lawScope
    whnf
  have hD9 : KtsDicts [] h₀ := ktsDicts_nil
  k_steps
  · unfold Stop
    refine For_turns (by k_asm) ?_ (by intro _; rfl) hE
    k_steps
    rename_i D ws h5 F5 N5 hI hC hL l9
    unfold Stop
    refine iter_listTurns rfl F5 N5 List.mem_cons_self rfl rfl ?_
    intro I hoff
    refine' turns (m := fun _ => none) (news := []) B X T XB TB ?hd ?hu rfl ?axl ?fin _ _ hI _ _ [([Str.ofString "a", Str.ofString "&lt;"], Str.ofString "a&lt;", Str.ofString "b&#10;")] ?inv ?len List.mem_cons_self
    case inv =>
      refine' invE_mk ⟨rfl, rfl, rfl, rfl, rfl, ?le, ?lh, ?sh, ?lb, ?sb, ?T, ?lp, ?pg, ?ne, ?nh, ?nb, ?np, ?ok⟩
      case le => k_mem
      case lh => k_mem
      case lb => k_mem
      case sh => exact .cons _ _ (.cons _ _ (.cons _ _ (.cons _ _ (.cons _ _ (.cons _ _ (.cons _ _ (.cons _ _ (.cons _ _ (.cons _ _ (.cons _ _ .nil))))))))))
      case sb => exact .cons _ _ (.cons _ _ (.cons _ _ (.cons _ _ (.cons _ _ (.cons _ _ (.cons _ _ (.cons _ _ (.cons _ _ (.cons _ _ (.cons _ _ .nil))))))))))
      case T =>
        refine' tbl_mk ?h1 ?h2 ?h3 ?h4
        case h1 => k_mem
        case h2 => k_mem
        case h3 => k_mem
        case h4 => k_mem
      case lp => k_mem
      case pg => exact .cons (by k_mem) (by k_mem) (by (show @Ne Nat _ _); omega) (.cons _ _ (.cons _ _ .nil)) .nil
      case ne => (show @Ne Nat _ _); omega
      case nh => (show @Ne Nat _ _); omega
      case nb => (show @Ne Nat _ _); omega
      case np => (show @Ne Nat _ _); omega
      case ok => intro p hp; rw [List.mem_singleton.mp hp]; exact page0
    case axl => (show @Ne Nat _ _); omega
    case hd => decide
    case hu => decide
    case len => show 1 + _ ≤ 80; omega
    case fin =>
      intro m9 news9 pgs9 h9 tk9 I9 len9 F9 N9
      exact turn_z B F9 X N9 T (by decide) (by decide) I9 len9 (fun h' tk' m' F' => ret h' tk' m' F')
  · exact absurd (by assumption : (List.any (Array.toList (Str.cps (Str.ofString "b&#10;"))) (badOf false)) = true) (by decide)
  · exact absurd (by assumption : (List.any (Array.toList (Str.cps (Str.ofString "a&lt;"))) (badOf true)) = true) (by decide)
end
end Mine
set_option maxHeartbeats 8000000 in
theorem PySem.Challenge.cw_pe0245_01_holds : PySem.Challenge.rw_pe0245_01.Holds := by
  exact Mine.hd (by
    k_go0
    refine' Mine.law_all ?B ?F ?X ?N ?T ?XB ?TB ?m1 ?hl ?hi ?hlen ?hE ?ret
    case F => assumption
    case N => assumption
    case B => assumption
    case X => assumption
    case T => assumption
    case XB => assumption
    case TB => assumption
    case m1 => rfl
    case hl => assumption
    case hi => assumption
    case hlen => omega
    case hE => passes_own
    case ret =>
      intro h' tk' m' F'
      k_steps)
